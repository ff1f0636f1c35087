import Derived.Test.Qxb6619248aDoorW5
import Derived.Test.Qxb6619248aDoorD6
namespace Go.Proofs.Qxb6619248aDoor
open Go.RowKit
open Pl
open Go.Maps

/-- what a slice of strings that came in is -/
def IsStrs (w : World) (a : Option Addr) (len : Nat) (names : Nat → Nm) : Prop :=
  len ≤ maxLen ∧ (0 < len → ∃ b o, a = some ⟨b, o, none⟩ ∧ b < w.heap.size ∧ ∀ k, k < len → w.cell? ⟨b, o + k, none⟩ = some (.string (names k)) ∧ (names k).size ≤ maxLen)

theorem Acc.grown {w w' : World} {B A n : Nat} {H : List Nm} {V : Nm → Int} (h : Acc w B A n H V) (hg : w.grownBy w' none) : Acc w' B A n H V := by
  obtain ⟨hA, ⟨m, base, cap, hrow, hheld, hbA, hbal⟩, hs, hm⟩ := h
  exact ⟨hA, ⟨m, base, cap, rowIs_grown hrow hg (by simp), hheld.grown hg (fun b hb => by cases hb), hbA, hbal.grown hg (fun b hb => by cases hb)⟩, hs, hm⟩
theorem grown_of_below {w w' : World} (h : Below w.heap.size w w') : w.grownBy w' none := ⟨h.os, h.tape, h.output, h.size, fun k hk _ => h.block k hk⟩

def IsInts (w : World) (a : Option Addr) (len : Nat) (vals : Nat → Int) : Prop :=
  len ≤ maxLen ∧ (0 < len → ∃ b o, a = some ⟨b, o, none⟩ ∧ b < w.heap.size ∧ ∀ k, k < len → w.cell? ⟨b, o + k, none⟩ = some (.int .i64 (vals k)) ∧ (Lit.int .i64 (vals k)).wf = true)

theorem came_of {w : World} {a1 a2 : Option Addr} {l1 l2 n : Nat} {names : Nat → Nm} {vals : Nat → Int} (h1 : IsStrs w a1 l1 names) (h2 : IsInts w a2 l2 vals) (hn : n ≤ 4096) (hn1 : n ≤ l1) (hn2 : n ≤ l2) : Came w a1 a2 l1 l2 n names vals := by
  refine ⟨hn1, hn2, hn, fun h => ?_, fun h => ?_, fun k hk => ?_, fun k hk => ?_⟩
  · obtain ⟨b, o, e, hb, hc⟩ := h1.2 (by omega)
    exact ⟨b, o, e, hb, fun k hk => (hc k (by omega)).1⟩
  · obtain ⟨b, o, e, hb, hc⟩ := h2.2 (by omega)
    exact ⟨b, o, e, hb, fun k hk => (hc k (by omega)).1⟩
  · obtain ⟨b, o, e, hb, hc⟩ := h1.2 (by omega)
    exact (hc k (by omega)).2
  · obtain ⟨b, o, e, hb, hc⟩ := h2.2 (by omega)
    exact (hc k (by omega)).2
theorem Came.below {w w' : World} {a1 a2 : Option Addr} {l1 l2 n : Nat} {names : Nat → Nm} {vals : Nat → Int} (h : Came w a1 a2 l1 l2 n names vals) (hb : Below w.heap.size w w') : Came w' a1 a2 l1 l2 n names vals := by
  refine ⟨h.h1, h.h2, h.hn, fun hn => ?_, fun hn => ?_, h.sz, h.wf⟩
  · obtain ⟨b, o, e, hlt, hc⟩ := h.s1 hn
    exact ⟨b, o, e, Nat.lt_of_lt_of_le hlt hb.size, fun k hk => by rw [hb.cell (p := ⟨b, o + k, none⟩) hlt]; exact hc k hk⟩
  · obtain ⟨b, o, e, hlt, hc⟩ := h.s2 hn
    exact ⟨b, o, e, Nat.lt_of_lt_of_le hlt hb.size, fun k hk => by rw [hb.cell (p := ⟨b, o + k, none⟩) hlt]; exact hc k hk⟩

theorem min_any (a b : Nat) (w : World) : Calls Tryd.prog 15 #[.int .i64 a, .int .i64 b] w fun e w' => e = .returned (.int .i64 (min a b : Nat)) ∧ w' = w := by
  by_cases h : a < b
  · have h' : (a : Int) < b := by omega
    have e : min a b = a := by omega
    rw [e]
    go_enter Tryd.func15, Tryd.ntmps15
    go_wp2
    go_ret
    exact ⟨rfl, rfl⟩
  · have h' : ¬ (a : Int) < b := by omega
    have e : min a b = b := by omega
    rw [e]
    go_enter Tryd.func15, Tryd.ntmps15
    go_wp2
    go_ret
    exact ⟨rfl, rfl⟩


/-! ### zzBytes: it answers -/
set_option maxRecDepth 100000 in
set_option maxHeartbeats 1000000 in
theorem bytes_any (w : World) (a1 a2 a3 : Option Addr) (l1 c1 l2 c2 l3 c3 : Nat) (names : Nat → Nm) (h1 : IsStrs w a1 l1 names) (h2 : l2 ≤ maxLen) (h3 : l3 ≤ maxLen) :
    Calls Tryd.prog 14 #[.slice a1 l1 c1, .slice a2 l2 c2, .slice a3 l3 c3] w fun e w' => w' = w ∧ (e = .returned (.bool false) ∨ e = .returned (.bool true) ∧ Hid (∀ k, k < l1 → (names k).size ≤ 1048576)) := by
  obtain ⟨hl, hc⟩ := h1
  unfold maxLen at hl h2 h3
  by_cases hbig : 1048576 < l1
  · have b1 : (1048576 : Int) < l1 := by omega
    go_enter Tryd.func14, Tryd.ntmps14
    go_wp2
    go_ret
    exact ⟨rfl, .inl rfl⟩
  have b1 : ¬ (1048576 : Int) < l1 := by omega
  go_enter Tryd.func14, Tryd.ntmps14
  go_wp2
  go_loop [7, 8] (fun z i => ∃ (c s : Nat), c ≤ l1 ∧ s ≤ 1048576 ∧ i = .int .i64 c ∧ z = .int .i64 s ∧ Hid (∀ k, k < c → (names k).size ≤ 1048576)) (fun _ i => l1 - (intOf i).toNat)
  case atStart => exact ⟨0, l1, Nat.zero_le _, by omega, rfl, rfl, fun k hk => absurd hk (by omega)⟩
  case round =>
    obtain ⟨c, s, hcl, hs, rfl, rfl, hK⟩ := hrel
    by_cases hlt : c < l1
    · obtain ⟨b, o, rfl, _, hcell⟩ := hc (by omega)
      obtain ⟨g1, g2⟩ := hcell c hlt
      unfold maxLen at g2
      have b2 : (c : Int) < l1 := by omega
      clear hc hcell
      by_cases t1 : (1048576 : Int) < (names c).size
      · go_wp2
        go_ret
        exact ⟨rfl, .inl rfl⟩
      · by_cases t2 : (1048576 : Int) < (s : Int) + (names c).size
        · go_wp2
          go_ret
          exact ⟨rfl, .inl rfl⟩
        · have hK' : Hid (∀ k, k < c + 1 → (names k).size ≤ 1048576) := fun k hk => by
            by_cases e : k = c
            · subst e; omega
            · exact hK.out k (by omega)
          go_wp2
          go_round
          case rel => exact ⟨c + 1, s + (names c).size, by omega, by omega, by go_num, by go_num, hK'⟩
          case measure => simp [intOf]; omega
    · clear hc
      have b2 : ¬ (c : Int) < l1 := by omega
      by_cases t1 : (1048576 : Int) < l2
      · go_wp2
        go_ret
        exact ⟨rfl, .inl rfl⟩
      by_cases t2 : (1048576 : Int) < (s : Int) + l2
      · go_wp2
        go_ret
        exact ⟨rfl, .inl rfl⟩
      by_cases t3 : (1048576 : Int) < l3
      · go_wp2
        go_ret
        exact ⟨rfl, .inl rfl⟩
      by_cases t4 : (1048576 : Int) < (s : Int) + l2 + l3
      · go_wp2
        go_ret
        exact ⟨rfl, .inl rfl⟩
      · go_wp2
        go_ret
        exact ⟨rfl, .inr ⟨rfl, fun k hk => hK.out k (by omega)⟩⟩
end Go.Proofs.Qxb6619248aDoor
