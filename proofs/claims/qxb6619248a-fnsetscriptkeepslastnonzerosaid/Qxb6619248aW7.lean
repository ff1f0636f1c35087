import Derived.Test.Qxb6619248aW6
namespace Go.Proofs.Qxb6619248a
open Go.RowKit
open Pl
open Go.Maps

def IsInts (w : World) (a : Option Addr) (len : Nat) (vals : Nat → Int) : Prop :=
  len ≤ maxLen ∧ (0 < len → ∃ b o, a = some ⟨b, o, none⟩ ∧ b < w.heap.size ∧ ∀ k, k < len → w.cell? ⟨b, o + k, none⟩ = some (.int .i64 (vals k)) ∧ (Lit.int .i64 (vals k)).wf = true)

theorem came_of {w : World} {a1 a2 : Option Addr} {l1 l2 n : Nat} {names : Nat → Nm} {vals : Nat → Int} (h1 : IsStrs w a1 l1 names) (h2 : IsInts w a2 l2 vals) (hn : n ≤ 4096) (hn1 : n ≤ l1) (hn2 : n ≤ l2) : Came w a1 a2 l1 l2 n names vals := by
  refine ⟨hn1, hn2, hn, fun h => ?_, fun h => ?_, fun k hk => ?_, fun k hk => ?_⟩
  · obtain ⟨b, o, e, hb, hc⟩ := h1.2 (by omega)
    exact ⟨b, o, e, hb, fun k hk => (hc k (by omega)).1⟩
  · obtain ⟨b, o, e, hb, hc⟩ := h2.2 (by omega)
    exact ⟨b, o, e, hb, fun k hk => (hc k (by omega)).1⟩
  · obtain ⟨b, o, e, hb, hc⟩ := h1.2 (by omega)
    exact (hc k (by omega)).2
  · obtain ⟨b, o, e, hb, hc⟩ := h2.2 (by omega)
    exact (hc k (by omega)).2
theorem Came.below {w w' : World} {a1 a2 : Option Addr} {l1 l2 n : Nat} {names : Nat → Nm} {vals : Nat → Int} (h : Came w a1 a2 l1 l2 n names vals) (hb : Below w.heap.size w w') : Came w' a1 a2 l1 l2 n names vals := by
  refine ⟨h.h1, h.h2, h.hn, fun hn => ?_, fun hn => ?_, h.sz, h.wf⟩
  · obtain ⟨b, o, e, hlt, hc⟩ := h.s1 hn
    exact ⟨b, o, e, Nat.lt_of_lt_of_le hlt hb.size, fun k hk => by rw [hb.cell (p := ⟨b, o + k, none⟩) hlt]; exact hc k hk⟩
  · obtain ⟨b, o, e, hlt, hc⟩ := h.s2 hn
    exact ⟨b, o, e, Nat.lt_of_lt_of_le hlt hb.size, fun k hk => by rw [hb.cell (p := ⟨b, o + k, none⟩) hlt]; exact hc k hk⟩

theorem min_any (a b : Nat) (w : World) : Calls Try.prog 5 #[.int .i64 a, .int .i64 b] w fun e w' => e = .returned (.int .i64 (min a b : Nat)) ∧ w' = w := by
  by_cases h : a < b
  · have h' : (a : Int) < b := by omega
    have e : min a b = a := by omega
    rw [e]
    go_enter Try.func5, Try.ntmps5
    go_wp2
    go_ret
    exact ⟨rfl, rfl⟩
  · have h' : ¬ (a : Int) < b := by omega
    have e : min a b = b := by omega
    rw [e]
    go_enter Try.func5, Try.ntmps5
    go_wp2
    go_ret
    exact ⟨rfl, rfl⟩

/-- all that the law compares, once both roads have run -/
structure Fin2 (w : World) (held : Option Addr) (hcap : Nat) (bal : Value) (want : Option Addr) (m : Nat) (x : Nat → Nm) (v : Nat → Int) : Prop where
  hs : 0 < m → ∃ hb wb, held = some ⟨hb, 0, none⟩ ∧ want = some ⟨wb, 0, none⟩ ∧ ∀ k, k < m → w.cell? ⟨hb, k, none⟩ = some (.string (x k)) ∧ w.cell? ⟨wb, k * 2, none⟩ = some (.string (x k)) ∧ w.cell? ⟨wb, k * 2 + 1, none⟩ = some (.int .i64 (v k))
  look : ∀ k, k < m → ∀ q, (Instr.lookup 31 bal (.string (x k)) true).run Try.prog (w.drewN q) = .ok (.tuple #[.int .i64 (v k), .bool true]) (w.drewN q)
  len : ∀ ty, (Builtin.len_ #[31] ty #[bal]).run Try.prog w = .ok (.int .i64 m) w

theorem fin2_of {w : World} {B A n : Nat} {H : List Nm} {names : Nat → Nm} {vals : Nat → Int} {W : List En} {base : Option Addr} {cap : Nat} {m : Value} {want : Option Addr} {B' : Nat}
    (hacc : Acc w B A n H (lastV names vals n)) (hheld : HeldAt w B base cap H) (hbal : BalAt w B n m (lastV names vals n) H.length) (hp : W.Perm (cand names vals n n)) (hw : W.Pairwise le) (hwant : WantAt w B' want W)
    (hsz : ∀ k, k < n → (names k).size ≤ maxLen) :
    H.length = W.length ∧ Fin2 w base cap m want W.length (fun k => (W.getD k (ByteArray.empty, 0)).1) (fun k => (W.getD k (ByteArray.empty, 0)).2) := by
  obtain ⟨hH, hall⟩ := held_is_want names vals hacc.sorted hacc.mem hp hw
  have hlen : H.length = W.length := by rw [hH]; simp
  have hg : ∀ k, (h : k < W.length) → W.getD k (ByteArray.empty, 0) = W[k] := fun k h => by simp [h]
  have hsize : ∀ p ∈ W, p.1.size ≤ maxLen := fun p hpW => by
    obtain ⟨i, hi, _, _, e⟩ := (cand_mem names vals n n p).1 (hp.mem_iff.1 hpW)
    rw [e]; exact hsz i hi
  refine ⟨hlen, ⟨fun h0 => ?_, fun k hk q => ?_, fun ty => ?_⟩⟩
  · obtain ⟨g, hgw, _, _, hcell⟩ := hwant h0
    rcases hheld with ⟨_, hnil, _⟩ | ⟨hb, f, rfl, h1, h2, h3, h4, h5, h6⟩
    · rw [hnil] at hlen; simp at hlen; omega
    · refine ⟨hb, g, rfl, hgw, fun k hk => ?_⟩
      rw [hg k hk]
      obtain ⟨w1, w2⟩ := hcell k W[k] (List.getElem?_eq_getElem hk)
      refine ⟨?_, w1, w2⟩
      have : H[k]? = some W[k].1 := by rw [hH]; simp [hk]
      rw [h5.cell (by omega), h6 k _ this]
  · rw [hg k hk]
    obtain ⟨e1, e2⟩ := hall _ (List.getElem_mem hk)
    have hV : lastV names vals n W[k].1 ≠ 0 := by rw [← e1]; exact e2
    have := look_any (w := w.drewN q) (hbal.grown (grown_drewN w q none) (fun b hb => by cases hb)) W[k].1 (hsize _ (List.getElem_mem hk)) hV
    rw [← e1] at this; exact this
  · rw [← hlen]
    refine len_any hbal (fun hz => ?_) ty
    rw [List.length_eq_zero_iff]
    apply List.eq_nil_iff_forall_not_mem.2
    intro y hy; exact (hacc.mem y).1 hy (hz y)

set_option maxRecDepth 100000 in
set_option maxHeartbeats 1000000 in
theorem law_any (w : World) (a1 a2 : Option Addr) (l1 c1 l2 c2 : Nat) (names : Nat → Nm) (vals : Nat → Int) (h1 : IsStrs w a1 l1 names) (h2 : IsInts w a2 l2 vals) :
    Calls Try.prog 3 #[.slice a1 l1 c1, .slice a2 l2 c2] w fun e w' => e = .returned (.bool true) ∧ Below w.heap.size w w' := by
  have HB := bytes_any w a1 a2 l1 c1 l2 c2 names h1 h2.1
  have hl1 := h1.1
  have hl2 := h2.1
  unfold maxLen at hl1 hl2
  have H1 : Hid (IsStrs w a1 l1 names) := h1
  have H2 : Hid (IsInts w a2 l2 vals) := h2
  have H3 : Hid (∀ (k : Nat), k < l1 → ∃ b o, a1 = some ⟨b, o, none⟩ ∧ w.cell? ⟨b, o + k, none⟩ = some (.string (names k)) ∧ (names k).size ≤ maxLen) := fun k hk => by
    obtain ⟨b, o, e, _, hc⟩ := h1.2 (by omega)
    exact ⟨b, o, e, (hc k hk).1, (hc k hk).2⟩
  clear h1 h2
  go_enter Try.func3, Try.ntmps3
  go_wp2_with fail
  refine HB.mono ?_
  rintro e w' ⟨rfl, rfl | ⟨rfl, HS⟩⟩
  · clear HB
    go_wp2
    go_ret
    exact ⟨rfl, Below.refl _ _⟩
  clear HB
  by_cases t1 : 4096 < l1
  · have t1' : (4096 : Int) < l1 := by omega
    go_wp2
    go_ret
    exact ⟨rfl, Below.refl _ _⟩
  have t1' : ¬ (4096 : Int) < l1 := by omega
  by_cases t2 : 4096 < l2
  · have t2' : (4096 : Int) < l2 := by omega
    go_wp2
    go_ret
    exact ⟨rfl, Below.refl _ _⟩
  have t2' : ¬ (4096 : Int) < l2 := by omega
  go_wp2
  go_loop [5, 6] (fun z i => ∃ (c s : Nat), c ≤ l1 ∧ s ≤ 1048576 ∧ i = .int .i64 c ∧ z = .int .i64 s) (fun _ i => l1 - (intOf i).toNat)
  case atStart => exact ⟨0, 8 * l2, Nat.zero_le _, by omega, rfl, by go_num⟩
  case round =>
    obtain ⟨c, s, hcl, hs, rfl, rfl⟩ := hrel
    by_cases hlt : c < l1
    · obtain ⟨b, o, rfl, g1, g2⟩ := H3.out c hlt
      have g3 := HS.out c hlt
      clear g2
      have b2 : (c : Int) < l1 := by omega
      by_cases t3 : (1048576 : Int) < (s : Int) + (names c).size
      · go_wp2
        go_ret
        exact ⟨rfl, Below.refl _ _⟩
      · go_wp2
        go_round
        case rel => exact ⟨c + 1, s + (names c).size, by omega, by omega, by go_num, by go_num⟩
        case measure => simp [intOf]; omega
    · have b2 : ¬ (c : Int) < l1 := by omega
      go_wp2_with fail
      refine (min_any l1 l2 _).mono ?_
      rintro e w' ⟨rfl, rfl⟩
      have hcame : Hid (Came w' a1 a2 l1 l2 (min l1 l2) names vals) := came_of H1.out H2.out (by omega) (by omega) (by omega)
      clear H1 H2 H3 HS b2 hcl hs
      generalize min l1 l2 = n at *
      go_wp2_with fail
      refine (run_any w' a1 a2 l1 l2 c1 c2 n names vals hcame.out).mono ?_
      rintro e w2 ⟨rfl, hB2, H, hacc, hHl⟩
      go_wp2_with fail
      refine (last_any w2 a1 a2 l1 l2 c1 c2 n names vals (hcame.out.below hB2)).mono ?_
      rintro e w3 ⟨want, cap, W, rfl, hB3, hp, hw, hwant⟩
      have hacc3 := hacc.grown (grown_of_below hB3)
      have HB3 : Hid (Below w'.heap.size w' w3) := hB2.trans (hB3.mono hB2.size)
      clear hacc
      go_wp2_with fail
      refine (held_any w3 _ _ _ _ _ hacc3).mono ?_
      rintro e w3 ⟨rfl, base, hcap, rfl, hheld⟩
      go_wp2_with fail
      refine (bal_any w3 _ _ _ _ _ hacc3).mono ?_
      rintro e w3 ⟨rfl, m, rfl, hbal⟩
      obtain ⟨hlen, hfin⟩ := fin2_of hacc3 hheld hbal hp hw hwant hcame.out.sz
      have HF : Hid (Fin2 w3 base hcap m want W.length (fun k => (W.getD k (ByteArray.empty, 0)).1) (fun k => (W.getD k (ByteArray.empty, 0)).2)) := hfin
      have hWl : W.length ≤ 4096 := by have := hcame.out.hn; omega
      have hlenm := HF.out.len
      rw [hlen]
      clear hlen hfin hacc3 hheld hbal hp hw hwant hB2 hB3 hcame hHl
      generalize W.length = M at *
      generalize (fun k => (W.getD k (ByteArray.empty, 0)).1) = X at *
      generalize (fun k => (W.getD k (ByteArray.empty, 0)).2) = Y at *
      clear H W
      go_wp2
      go_loopw [12] (fun i wr => ∃ (c q : Nat), c ≤ M ∧ i = .int .i64 c ∧ wr = w3.drewN q) (fun i _ => M - (intOf i).toNat)
      case atStart => exact ⟨0, 0, Nat.zero_le _, rfl, rfl⟩
      case round =>
        obtain ⟨c, q, hcM, rfl, rfl⟩ := hrel
        by_cases hlt2 : c < M
        · obtain ⟨hb, wb, rfl, rfl, hcell⟩ := HF.out.hs (by omega)
          obtain ⟨k1, k2, k3⟩ := hcell c hlt2
          have hlk := HF.out.look c hlt2
          have bM : (c : Int) < M := by omega
          clear hcell hlenm
          go_wp2
          go_quiet (fail)
          go_wp2
          exact ⟨⟨c + 1, _, by omega, by go_num, rfl⟩, by simp [intOf]; omega⟩
        · have bM : ¬ (c : Int) < M := by omega
          go_wp2
          go_ret
          exact ⟨rfl, below_drewN HB3.out _⟩
end Go.Proofs.Qxb6619248a
