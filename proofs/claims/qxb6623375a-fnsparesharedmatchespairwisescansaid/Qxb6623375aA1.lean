import Derived.Test.Qxb6623375aRows
import Derived.WalkKit
import Derived.WalkSpells
import Derived.WalkLawsBesides
import Derived.Deep.QuietTactic
import Derived.BigQuiet
import Derived.BigRegion
import Derived.LoopTactic
import Derived.Deep.OwnRows
import Derived.Lib.LazyBuf
import Derived.Deep.Upon
import Derived.Deep.RegionHeld3
import Derived.Deep.AppendLies
import Derived.OwnWalk
import Derived.Below
import Derived.Lib.Hide
namespace Go.Proofs.Qxb6623375a
open Go.RowKit

/-- a slice of strings that came in: nil, or readable -/
def StrsIn (w : World) (v : Value) (n : Nat) (f : Nat → ByteArray) : Prop :=
  (v = .slice none 0 0 ∧ n = 0) ∨ ∃ ad cp, v = .slice (some ad) n cp ∧ (0 < n → ∃ b o, ad = ⟨b, o, none⟩ ∧ b < w.heap.size ∧ ∀ k, k < n → w.cell? ⟨b, o + k, none⟩ = some (.string (f k)))
/-- a slice of strings that can be read -/
def Strs (w : World) (v : Value) (n : Nat) (f : Nat → ByteArray) : Prop :=
  ∃ a cap, v = .slice a n cap ∧ (0 < n → ∃ b o, a = some ⟨b, o, none⟩ ∧ b < w.heap.size ∧ ∀ k, k < n → w.cell? ⟨b, o + k, none⟩ = some (.string (f k)))
theorem StrsIn.strs {w : World} {v : Value} {n : Nat} {f : Nat → ByteArray} (h : StrsIn w v n f) : Strs w v n f := by
  rcases h with ⟨rfl, rfl⟩ | ⟨ad, cp, rfl, hc⟩
  · exact ⟨none, 0, rfl, fun h => absurd h (by omega)⟩
  · refine ⟨some ad, cp, rfl, fun h0 => ?_⟩
    obtain ⟨b, o, rfl, h1, h2⟩ := hc h0
    exact ⟨b, o, rfl, h1, h2⟩
theorem Strs.after {w w' : World} {v : Value} {n : Nat} {f : Nat → ByteArray} (h : Strs w v n f) (hb : Below w.heap.size w w') : Strs w' v n f := by
  obtain ⟨a, cap, e, hc⟩ := h
  refine ⟨a, cap, e, fun h0 => ?_⟩
  obtain ⟨b, o, e1, hlt, hcell⟩ := hc h0
  exact ⟨b, o, e1, Nat.lt_of_lt_of_le hlt hb.size, fun k hk => by rw [hb.cell (p := ⟨b, o + k, none⟩) hlt]; exact hcell k hk⟩
theorem StrsIn.after {w w' : World} {v : Value} {n : Nat} {f : Nat → ByteArray} (h : StrsIn w v n f) (hb : Below w.heap.size w w') : StrsIn w' v n f := by
  rcases h with h | ⟨ad, cp, e, hc⟩
  · exact .inl h
  · refine .inr ⟨ad, cp, e, fun h0 => ?_⟩
    obtain ⟨b, o, e1, hlt, hcell⟩ := hc h0
    exact ⟨b, o, e1, Nat.lt_of_lt_of_le hlt hb.size, fun k hk => by rw [hb.cell (p := ⟨b, o + k, none⟩) hlt]; exact hcell k hk⟩

theorem toList_inj {a b : ByteArray} (h : a.toList = b.toList) : a = b := by
  rw [ByteArray.toList_eq, ByteArray.toList_eq] at h; exact WideShapes.bytes_inj h
theorem beq_iff (a b : ByteArray) : (a.toList == b.toList) = true ↔ a = b := by
  rw [beq_iff_eq]; exact ⟨toList_inj, fun h => by rw [h]⟩
theorem beq_false {a b : ByteArray} (h : a ≠ b) : (a.toList == b.toList) = false := by
  rw [Bool.eq_false_iff]; intro hc; exact h ((beq_iff a b).1 hc)

/-- does a tag need the image: it names it, or its index reaches it -/
def needs (dg : ByteArray) (ml : Nat) (mf : Nat → ByteArray) (x : ByteArray) : Bool := dg.toList == x.toList || (List.range ml).any (fun k => (mf k).toList == x.toList)
theorem needs_self (dg : ByteArray) (ml : Nat) (mf : Nat → ByteArray) : needs dg ml mf dg = true := by simp [needs]
theorem needs_at {dg : ByteArray} {ml : Nat} {mf : Nat → ByteArray} {x : ByteArray} {k : Nat} (hk : k < ml) (h : mf k = x) : needs dg ml mf x = true := by
  simp only [needs, Bool.or_eq_true, List.any_eq_true]
  exact .inr ⟨k, by simp [hk], by simp [h]⟩
theorem needs_not {dg : ByteArray} {ml : Nat} {mf : Nat → ByteArray} {x : ByteArray} (h0 : dg ≠ x) (h : ∀ k, k < ml → mf k ≠ x) : needs dg ml mf x = false := by
  rw [Bool.eq_false_iff]
  intro hc
  simp only [needs, Bool.or_eq_true, List.any_eq_true] at hc
  rcases hc with hc | ⟨k, hk, hc⟩
  · exact h0 ((beq_iff _ _).1 hc)
  · exact h k (by simpa using hk) ((beq_iff _ _).1 hc)

set_option maxRecDepth 100000 in
set_option maxHeartbeats 1000000 in
theorem needs_any (w : World) (nm dg : ByteArray) (mv : Value) (ml : Nat) (mf : Nat → ByteArray) (x : ByteArray) (h : Strs w mv ml mf) (hl : (ml : Int) ≤ 1048576) :
    Calls Try.prog 7 #[.agg #[.string nm, .string dg, mv], .string x] w fun e w' => e = .returned (.bool (needs dg ml mf x)) ∧ Below w.heap.size w w' := by
  obtain ⟨a, cap, rfl, hc⟩ := h
  have HC := Lib.hid hc
  clear hc
  by_cases t1 : dg = x
  · subst t1
    go_enter Try.func7, Try.ntmps7
    go_wp2
    go_ret
    exact ⟨by rw [needs_self]; rfl, (Below.refl _ _).alloc (Nat.le_refl _) _⟩
  · have t1' := beq_false t1
    obtain ⟨w1, hw1⟩ : ∃ w1, w1 = w.alloc (.cells #[.string nm, .string dg, .slice a ml cap] 28) := ⟨_, rfl⟩
    have g1 : w1.cell? ⟨w.heap.size, 2, none⟩ = some (.slice a ml cap) := by
      rw [hw1]; unfold World.cell?
      rw [show (w.alloc (.cells #[.string nm, .string dg, .slice a ml cap] 28)).heap[(⟨w.heap.size, 2, none⟩ : Addr).block]? = some _ from heap_alloc_new w _]
      rfl
    have HB1 : Hid (Below w.heap.size w w1) := by rw [hw1]; exact (Below.refl _ _).alloc (Nat.le_refl _) _
    go_enter Try.func7, Try.ntmps7
    go_wp2
    rw [← hw1]
    clear hw1
    go_loopw [5] (fun zi wr => ∃ i : Nat, zi = .int .i64 i ∧ (i : Int) ≤ ml ∧ w1 = wr ∧ Hid (∀ k, k < i → mf k ≠ x)) (fun zi _ => ml - (intOf zi).toNat)
    case atStart => exact ⟨0, rfl, by omega, rfl, fun k hk => absurd hk (by omega)⟩
    case round =>
      obtain ⟨i, rfl, hi, hw, HI⟩ := hrel
      subst hw
      by_cases hlt : i < ml
      · have b0 : (i : Int) < ml := by omega
        obtain ⟨b, o, rfl, hb, hcell⟩ := HC.out (by omega)
        have g2 : w1.cell? ⟨b, o + i, none⟩ = some (.string (mf i)) := by rw [HB1.out.cell (p := ⟨b, o + i, none⟩) hb]; exact hcell i hlt
        clear hcell
        by_cases t2 : mf i = x
        · have HN : Hid (needs dg ml mf x = true) := needs_at hlt t2
          rw [t2] at g2
          clear t2
          go_wp2
          go_ret
          exact ⟨by rw [HN.out]; rfl, HB1.out⟩
        · have t2' := beq_false t2
          have HF2 : Hid (∀ k, k < i + 1 → mf k ≠ x) := fun k hk => by
            by_cases e : k = i
            · subst e; exact t2
            · exact HI.out k (by omega)
          clear t2
          go_wp2
          go_roundw
          case rel => exact ⟨i + 1, by go_num, by omega, trivial, HF2⟩
          case measure => simp [intOf]; omega
      · have e0 : i = ml := by omega
        subst e0
        have HN : Hid (needs dg i mf x = false) := needs_not t1 HI.out
        go_wp2
        go_ret
        exact ⟨by rw [HN.out]; rfl, HB1.out⟩
end Go.Proofs.Qxb6623375a
