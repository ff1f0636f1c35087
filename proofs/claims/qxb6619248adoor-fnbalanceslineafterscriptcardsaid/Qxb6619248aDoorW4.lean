import Derived.Test.Qxb6619248aDoorW3
namespace Go.Proofs.Qxb6619248aDoor
open Go.RowKit
open Pl
open Go.Maps

theorem Acc.mono {w : World} {B A n n' : Nat} {H : List Nm} {V : Nm → Int} (h : Acc w B A n H V) (hn : n ≤ n') : Acc w B A n' H V := by
  obtain ⟨hA, ⟨m, base, cap, hrow, hheld, hbA, hbal⟩, hs, hm⟩ := h
  exact ⟨hA, ⟨m, base, cap, hrow, hheld, hbA, hbal.mono hn⟩, hs, hm⟩

theorem Acc.drew {w : World} {B A n : Nat} {H : List Nm} {V : Nm → Int} (h : Acc w B A n H V) : Acc w.drew B A n H V := by
  obtain ⟨hA, ⟨m, base, cap, hrow, hheld, hbA, hbal⟩, hs, hm⟩ := h
  exact ⟨hA, ⟨m, base, cap, hrow.drew, hheld.grown (grown_drew w none) (fun b hb => by cases hb), hbA, hbal.grown (grown_drew w none) (fun b hb => by cases hb)⟩, hs, hm⟩

theorem set_any (w : World) (B A n : Nat) (H : List Nm) (V : Nm → Int) (name : Nm) (v : Int) (h : Acc w B A n H V) (hBw : B ≤ w.heap.size) (hname : name.size ≤ maxLen) (hlen : H.length ≤ 5000) (hn : n ≤ 5000) (wv : (Lit.int .i64 v).wf = true) :
    Calls Tryd.prog 21 #[.pointer (some ⟨A, 0, none⟩), .string name, .int .i64 v] w fun e w' => e = .returned (.tuple #[]) ∧ Below B w w' ∧ ∃ H', Acc w' B A (n + 1) H' (upd V name v) ∧ H'.length ≤ H.length + 1 := by
  by_cases hv : v = 0
  · subst hv
    refine (set_zero w B A n H V name h hBw hname hlen).mono ?_
    rintro e w' ⟨rfl, hB, H', hacc, hl⟩
    exact ⟨rfl, hB, H', hacc.mono (by omega), by omega⟩
  · by_cases hx : name ∈ H
    · exact set_found w B A n H V name v h hBw hname hlen hn hv wv hx
    · exact set_new w B A n H V name v h hBw hname hlen hn hv wv hx

theorem zzset_any (w : World) (B A n : Nat) (H : List Nm) (V : Nm → Int) (name : Nm) (v : Int) (h : Acc w B A n H V) (hBw : B ≤ w.heap.size) (hname : name.size ≤ maxLen) (hlen : H.length ≤ 5000) (hn : n ≤ 5000) (wv : (Lit.int .i64 v).wf = true) :
    Calls Tryd.prog 19 #[.pointer (some ⟨A, 0, none⟩), .string name, .int .i64 v] w fun e w' => e = .returned (.tuple #[]) ∧ Below B w w' ∧ ∃ H', Acc w' B A (n + 1) H' (upd V name v) ∧ H'.length ≤ H.length + 1 := by
  go_enter Tryd.func19, Tryd.ntmps19
  go_wp2_with fail
  refine (set_any w B A n H V name v h hBw hname hlen hn wv).mono ?_
  rintro e w' ⟨rfl, hB, hex⟩
  have HF : Hid (Below B w w' ∧ ∃ H', Acc w' B A (n + 1) H' (upd V name v) ∧ H'.length ≤ H.length + 1) := ⟨hB, hex⟩
  clear hB hex h
  go_wp2
  go_end0
  exact ⟨rfl, HF.out⟩

theorem acc_new (w : World) : Acc (w.alloc (.cells #[.map none, .slice none 0 0] 46)) w.heap.size w.heap.size 0 [] (fun _ => 0) := by
  refine ⟨Nat.le_refl _, ⟨.map none, none, 0, (rowIs_new w #[.map none, .slice none 0 0] 46).congr (fun i hi => ?_), .inl ⟨rfl, rfl, rfl⟩, by simp [blockOf], .inl ⟨rfl, fun _ => rfl⟩⟩, List.Pairwise.nil, fun x => by simp⟩
  have : i < 2 := hi
  match i, this with
  | 0, _ => rfl
  | 1, _ => rfl

/-- the names and the values that came in, below n -/
structure Came (w : World) (a1 a2 : Option Addr) (l1 l2 n : Nat) (names : Nat → Nm) (vals : Nat → Int) : Prop where
  h1 : n ≤ l1
  h2 : n ≤ l2
  hn : n ≤ 4096
  s1 : 0 < n → ∃ b o, a1 = some ⟨b, o, none⟩ ∧ b < w.heap.size ∧ ∀ k, k < n → w.cell? ⟨b, o + k, none⟩ = some (.string (names k))
  s2 : 0 < n → ∃ b o, a2 = some ⟨b, o, none⟩ ∧ b < w.heap.size ∧ ∀ k, k < n → w.cell? ⟨b, o + k, none⟩ = some (.int .i64 (vals k))
  sz : ∀ k, k < n → (names k).size ≤ maxLen
  wf : ∀ k, k < n → (Lit.int .i64 (vals k)).wf = true

set_option maxRecDepth 100000 in
set_option maxHeartbeats 1000000 in
theorem run_zero (w : World) (a1 a2 : Option Addr) (l1 l2 c1 c2 : Nat) :
    Calls Tryd.prog 16 #[.slice a1 l1 c1, .slice a2 l2 c2, .int .i64 0] w fun e w' => e = .returned (.pointer (some ⟨w.heap.size, 0, none⟩)) ∧ w' = w.alloc (.cells #[.map none, .slice none 0 0] 46) := by
  go_enter Tryd.func16, Tryd.ntmps16
  go_wp2
  refine wp_loop_rounds 1 ?_
  rw [rounds_succ]
  go_wp2
  go_ret
  exact ⟨rfl, rfl⟩

set_option maxRecDepth 100000 in
set_option maxHeartbeats 1000000 in
theorem run_pos (w : World) (nb no vb vo l1 l2 c1 c2 n : Nat) (names : Nat → Nm) (vals : Nat → Int) (hn : n ≤ 4096) (h1 : n ≤ l1) (h2 : n ≤ l2) (hnb : nb < w.heap.size) (hvb : vb < w.heap.size)
    (s1 : ∀ k, k < n → w.cell? ⟨nb, no + k, none⟩ = some (.string (names k))) (s2 : ∀ k, k < n → w.cell? ⟨vb, vo + k, none⟩ = some (.int .i64 (vals k)))
    (sz : ∀ k, k < n → (names k).size ≤ maxLen) (wf : ∀ k, k < n → (Lit.int .i64 (vals k)).wf = true) :
    Calls Tryd.prog 16 #[.slice (some ⟨nb, no, none⟩) l1 c1, .slice (some ⟨vb, vo, none⟩) l2 c2, .int .i64 n] w fun e w' => e = .returned (.pointer (some ⟨w.heap.size, 0, none⟩)) ∧ Below w.heap.size w w' ∧ ∃ H, Acc w' w.heap.size w.heap.size n H (lastV names vals n) ∧ H.length ≤ n := by
  have S1 : Hid (∀ k, k < n → w.cell? ⟨nb, no + k, none⟩ = some (.string (names k))) := s1
  have S2 : Hid (∀ k, k < n → w.cell? ⟨vb, vo + k, none⟩ = some (.int .i64 (vals k))) := s2
  have SZ : Hid (∀ k, k < n → (names k).size ≤ maxLen) := sz
  have WF : Hid (∀ k, k < n → (Lit.int .i64 (vals k)).wf = true) := wf
  clear s1 s2 sz wf
  go_enter Tryd.func16, Tryd.ntmps16
  go_wp2
  go_loopw [8] (fun k wr => ∃ (c : Nat) (H : List Nm), c ≤ n ∧ k = .int .i64 c ∧ Hid (Below w.heap.size w wr ∧ Acc wr w.heap.size w.heap.size c H (lastV names vals c) ∧ H.length ≤ c)) (fun k _ => n - (intOf k).toNat)
  case atStart => exact ⟨0, [], Nat.zero_le _, rfl, (Below.refl _ _).alloc (Nat.le_refl _) _, acc_new w, Nat.le_refl _⟩
  case round =>
    obtain ⟨c, H, hc, rfl, hR⟩ := hrel
    by_cases hlt : c < n
    · have b0 : (c : Int) < n := by omega
      have b1 : (c : Int) < l1 := by omega
      have b2 : (c : Int) < l2 := by omega
      have g1 : wr.cell? ⟨nb, no + c, none⟩ = some (.string (names c)) := by rw [hR.out.1.cell (p := ⟨nb, no + c, none⟩) hnb]; exact S1.out c hlt
      have g2 : wr.cell? ⟨vb, vo + c, none⟩ = some (.int .i64 (vals c)) := by rw [hR.out.1.cell (p := ⟨vb, vo + c, none⟩) hvb]; exact S2.out c hlt
      go_wp2
      have HA : Hid (Acc wr w.heap.size w.heap.size c H (lastV names vals c)) := hR.out.2.1
      have hbw : w.heap.size ≤ wr.heap.size := hR.out.1.size
      have hHl : H.length ≤ 5000 := by have := hR.out.2.2; omega
      have hsz := SZ.out c hlt
      have hwf := WF.out c hlt
      have hc5 : c ≤ 5000 := by omega
      go_region_held3 (fun w' => w'.cell? ⟨nb, no + c, none⟩ = some (.string (names c)) ∧ w'.cell? ⟨vb, vo + c, none⟩ = some (.int .i64 (vals c))) (first | go_keep | (exact ⟨(hB2.cell (p := ⟨nb, no + c, none⟩) hnb).trans g1, (hB2.cell (p := ⟨vb, vo + c, none⟩) hvb).trans g2⟩))
        ((go_at_call 19; refine (zzset_any _ w.heap.size w.heap.size c H (lastV names vals c) (names c) (vals c) (by exact HA.out.drew) (by exact hbw) hsz hHl hc5 hwf).mono ?_; rintro e w2 ⟨rfl, hB2, H2, hacc2, hl2⟩))
      have HF : Hid (Below w.heap.size w w2 ∧ Acc w2 w.heap.size w.heap.size (c + 1) H2 (lastV names vals (c + 1)) ∧ H2.length ≤ c + 1) :=
        ⟨(hR.out.1.drew).trans hB2, hacc2, by have := hR.out.2.2; omega⟩
      clear hB2 hacc2 g1 g2 HA hR hbw hHl hsz hwf
      go_wp2
      go_roundw
      case rel => exact ⟨c + 1, H2, by omega, by go_num, HF⟩
      case measure => simp [intOf]; omega
    · have ec : c = n := by omega
      subst ec
      go_wp2
      go_ret
      exact ⟨rfl, hR.out.1, H, hR.out.2⟩

/-- zzRunScript, whatever the two slices -/
theorem run_any (w : World) (a1 a2 : Option Addr) (l1 l2 c1 c2 n : Nat) (names : Nat → Nm) (vals : Nat → Int) (h : Came w a1 a2 l1 l2 n names vals) :
    Calls Tryd.prog 16 #[.slice a1 l1 c1, .slice a2 l2 c2, .int .i64 n] w fun e w' => e = .returned (.pointer (some ⟨w.heap.size, 0, none⟩)) ∧ Below w.heap.size w w' ∧ ∃ H, Acc w' w.heap.size w.heap.size n H (lastV names vals n) ∧ H.length ≤ n := by
  by_cases hn : n = 0
  · subst hn
    refine (run_zero w a1 a2 l1 l2 c1 c2).mono ?_
    rintro e w' ⟨rfl, rfl⟩
    exact ⟨rfl, (Below.refl _ _).alloc (Nat.le_refl _) _, [], acc_new w, Nat.le_refl _⟩
  · obtain ⟨b, o, rfl, hb, s1⟩ := h.s1 (by omega)
    obtain ⟨b', o', rfl, hb', s2⟩ := h.s2 (by omega)
    exact run_pos w b o b' o' l1 l2 c1 c2 n names vals h.hn h.h1 h.h2 hb hb' s1 s2 h.sz h.wf
end Go.Proofs.Qxb6619248aDoor
