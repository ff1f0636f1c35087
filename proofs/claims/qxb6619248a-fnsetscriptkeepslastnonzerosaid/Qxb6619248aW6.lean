import Derived.Test.Qxb6619248aW5
namespace Go.Proofs.Qxb6619248a
open Go.RowKit
open Pl
open Go.Maps

/-- what a slice of strings that came in is -/
def IsStrs (w : World) (a : Option Addr) (len : Nat) (names : Nat → Nm) : Prop :=
  len ≤ maxLen ∧ (0 < len → ∃ b o, a = some ⟨b, o, none⟩ ∧ b < w.heap.size ∧ ∀ k, k < len → w.cell? ⟨b, o + k, none⟩ = some (.string (names k)) ∧ (names k).size ≤ maxLen)

/-! ### zzBytes: it answers -/
set_option maxRecDepth 100000 in
set_option maxHeartbeats 1000000 in
theorem bytes_any (w : World) (a1 a2 : Option Addr) (l1 c1 l2 c2 : Nat) (names : Nat → Nm) (h1 : IsStrs w a1 l1 names) (h2 : l2 ≤ maxLen) :
    Calls Try.prog 4 #[.slice a1 l1 c1, .slice a2 l2 c2] w fun e w' => w' = w ∧ (e = .returned (.bool false) ∨ e = .returned (.bool true) ∧ Hid (∀ k, k < l1 → (names k).size ≤ 1048576)) := by
  obtain ⟨hl, hc⟩ := h1
  unfold maxLen at hl h2
  by_cases hbig : 1048576 < l1
  · have b1 : (1048576 : Int) < l1 := by omega
    go_enter Try.func4, Try.ntmps4
    go_wp2
    go_ret
    exact ⟨rfl, .inl rfl⟩
  have b1 : ¬ (1048576 : Int) < l1 := by omega
  go_enter Try.func4, Try.ntmps4
  go_wp2
  go_loop [5, 6] (fun z i => ∃ (c s : Nat), c ≤ l1 ∧ s ≤ 1048576 ∧ i = .int .i64 c ∧ z = .int .i64 s ∧ Hid (∀ k, k < c → (names k).size ≤ 1048576)) (fun _ i => l1 - (intOf i).toNat)
  case atStart => exact ⟨0, l1, Nat.zero_le _, by omega, rfl, rfl, fun k hk => absurd hk (by omega)⟩
  case round =>
    obtain ⟨c, s, hcl, hs, rfl, rfl, hK⟩ := hrel
    by_cases hlt : c < l1
    · obtain ⟨b, o, rfl, _, hcell⟩ := hc (by omega)
      obtain ⟨g1, g2⟩ := hcell c hlt
      unfold maxLen at g2
      have b2 : (c : Int) < l1 := by omega
      clear hc hcell
      by_cases t1 : (1048576 : Int) < (names c).size
      · go_wp2
        go_ret
        exact ⟨rfl, .inl rfl⟩
      · by_cases t2 : (1048576 : Int) < (s : Int) + (names c).size
        · go_wp2
          go_ret
          exact ⟨rfl, .inl rfl⟩
        · have hK' : Hid (∀ k, k < c + 1 → (names k).size ≤ 1048576) := fun k hk => by
            by_cases e : k = c
            · subst e; omega
            · exact hK.out k (by omega)
          go_wp2
          go_round
          case rel => exact ⟨c + 1, s + (names c).size, by omega, by omega, by go_num, by go_num, hK'⟩
          case measure => simp [intOf]; omega
    · clear hc
      have b2 : ¬ (c : Int) < l1 := by omega
      by_cases t1 : (1048576 : Int) < l2
      · go_wp2
        go_ret
        exact ⟨rfl, .inl rfl⟩
      · by_cases t2 : (1048576 : Int) < (s : Int) + l2
        · go_wp2
          go_ret
          exact ⟨rfl, .inl rfl⟩
        · go_wp2
          go_ret
          exact ⟨rfl, .inr ⟨rfl, fun k hk => hK.out k (by omega)⟩⟩

theorem held_any (w : World) (B A n : Nat) (H : List Nm) (V : Nm → Int) (h : Acc w B A n H V) : Calls Try.prog 8 #[.pointer (some ⟨A, 0, none⟩)] w fun e w' => w' = w ∧ ∃ base cap, e = .returned (.slice base H.length cap) ∧ HeldAt w B base cap H := by
  obtain ⟨hA, ⟨m, base, cap, hrow, hheld, hbA, hbal⟩, hs, hm⟩ := h
  have c1 := hrow.cell (i := 1) (by omega)
  simp only [Nat.one_ne_zero, if_false] at c1
  have HH : Hid (HeldAt w B base cap H) := hheld
  clear hrow hheld hbA hbal hs hm hA
  go_enter Try.func8, Try.ntmps8
  go_wp2
  go_ret
  exact ⟨rfl, base, cap, rfl, HH.out⟩
theorem bal_any (w : World) (B A n : Nat) (H : List Nm) (V : Nm → Int) (h : Acc w B A n H V) : Calls Try.prog 9 #[.pointer (some ⟨A, 0, none⟩)] w fun e w' => w' = w ∧ ∃ m, e = .returned m ∧ BalAt w B n m V H.length := by
  obtain ⟨hA, ⟨m, base, cap, hrow, hheld, hbA, hbal⟩, hs, hm⟩ := h
  have c0 := hrow.cell (i := 0) (by omega)
  simp only [if_true] at c0
  have HH : Hid (BalAt w B n m V H.length) := hbal
  clear hrow hheld hbA hbal hs hm hA
  go_enter Try.func9, Try.ntmps9
  go_wp2
  go_ret
  exact ⟨rfl, m, rfl, HH.out⟩

theorem Acc.grown {w w' : World} {B A n : Nat} {H : List Nm} {V : Nm → Int} (h : Acc w B A n H V) (hg : w.grownBy w' none) : Acc w' B A n H V := by
  obtain ⟨hA, ⟨m, base, cap, hrow, hheld, hbA, hbal⟩, hs, hm⟩ := h
  exact ⟨hA, ⟨m, base, cap, rowIs_grown hrow hg (by simp), hheld.grown hg (fun b hb => by cases hb), hbA, hbal.grown hg (fun b hb => by cases hb)⟩, hs, hm⟩
theorem grown_of_below {w w' : World} (h : Below w.heap.size w w') : w.grownBy w' none := ⟨h.os, h.tape, h.output, h.size, fun k hk _ => h.block k hk⟩

/-- a name that is held, looked up -/
theorem look_any {w : World} {B n : Nat} {m : Value} {V : Nm → Int} {len : Nat} (h : BalAt w B n m V len) (x : Nm) (hx : x.size ≤ maxLen) (hV : V x ≠ 0) :
    (Instr.lookup 31 m (.string x) true).run Try.prog w = .ok (.tuple #[.int .i64 (V x), .bool true]) w := by
  rcases h with ⟨rfl, hz⟩ | ⟨bm, D, rfl, hB, hown, hrel⟩
  · exact absurd (hz x) hV
  · obtain ⟨v, ps, hrun, hR⟩ := hown.look_ok law Try.underlying31 (zero2 w) (plainElem_int Try.underlying2 (show (Lit.int .i64 0).wf = true by decide)) (keyOf_nm hx)
    rw [hrel.at' x hV] at hR
    rw [(hrel.has x).2 hV] at hrun
    obtain ⟨a, rfl, hz, _⟩ := plainElem_int_inv Try.underlying2 hR
    have : a = V x := by
      simp only [Prod.mk.injEq] at hz
      have h1 := hz.1
      injection h1 with h1
      injection h1 with _ h1
      exact h1.symm
    rw [this] at hrun; exact hrun
theorem len_any {w : World} {B n : Nat} {m : Value} {V : Nm → Int} {len : Nat} (h : BalAt w B n m V len) (h0 : (∀ x, V x = 0) → len = 0) (ty : TypeId) :
    (Builtin.len_ #[31] ty #[m]).run Try.prog w = .ok (.int .i64 len) w := by
  rcases h with ⟨rfl, hz⟩ | ⟨bm, D, rfl, hB, hown, hrel⟩
  · rw [h0 hz]; exact Maps.len_nil Try.underlying31 ty
  · rw [← hrel.size]; exact hown.len Try.underlying31 ty
end Go.Proofs.Qxb6619248a
