import Derived.Test.Qxb6623286aZ1
namespace Go.Proofs.Qxb6623286a
open Go.RowKit

/-- a slice of int32 that can be read -/
def I32 (w : World) (v : Value) (n : Nat) (f : Nat → Int) : Prop :=
  ∃ a cap, v = .slice a n cap ∧ (0 < n → ∃ b o, a = some ⟨b, o, none⟩ ∧ b < w.heap.size ∧ ∀ k, k < n → w.cell? ⟨b, o + k, none⟩ = some (.int .i32 (f k)))
theorem I32.after {w w' : World} {v : Value} {n : Nat} {f : Nat → Int} (h : I32 w v n f) (hb : Below w.heap.size w w') : I32 w' v n f := by
  obtain ⟨a, cap, e, hc⟩ := h
  refine ⟨a, cap, e, fun h0 => ?_⟩
  obtain ⟨b, o, e1, hlt, hcell⟩ := hc h0
  exact ⟨b, o, e1, Nat.lt_of_lt_of_le hlt hb.size, fun k hk => by rw [hb.cell (p := ⟨b, o + k, none⟩) hlt]; exact hcell k hk⟩

set_option maxRecDepth 100000 in
set_option maxHeartbeats 1000000 in
/-- cutEq of two slices that are alike -/
theorem eq_any (w : World) (u v : Value) (n : Nat) (f : Nat → Int) (hu : I32 w u n f) (hv : I32 w v n f) (hn : (n : Int) ≤ 2097152) :
    Calls Try.prog 8 #[u, v] w fun e w' => e = .returned (.bool true) ∧ ∃ q, w' = w.drewN q := by
  obtain ⟨a, ca, rfl, ha⟩ := hu
  obtain ⟨b, cb, rfl, hb⟩ := hv
  go_enter Try.func8, Try.ntmps8
  go_wp2
  go_loopw [5] (fun zi wr => ∃ (i Q : Nat), zi = .int .i64 i ∧ (i : Int) ≤ n ∧ wr = w.drewN Q) (fun zi _ => n - (intOf zi).toNat)
  case atStart => exact ⟨0, 0, rfl, by omega, rfl⟩
  case round =>
    obtain ⟨i, Q, rfl, hi, rfl⟩ := hrel
    by_cases hlt : i < n
    · have b0 : (i : Int) < n := by omega
      obtain ⟨ba, oa, rfl, -, hca⟩ := ha (by omega)
      obtain ⟨bb, ob, rfl, -, hcb⟩ := hb (by omega)
      have g1 := hca i hlt
      have g2 := hcb i hlt
      clear hca hcb ha hb
      go_wp2
      go_quiet (fail)
      go_wp2
      go_roundw
      case rel => exact ⟨i + 1, _, by go_num, by omega, rfl⟩
      case measure => simp [intOf]; omega
    · have b0 : ¬ (i : Int) < n := by omega
      clear ha hb
      go_wp2
      go_ret
      exact ⟨rfl, Q, rfl⟩

/-- a slice of slices that can be read -/
def RwS (w : World) (v : Value) (nc : Nat) (r : Nat → Value) : Prop :=
  ∃ a cap, v = .slice a nc cap ∧ (0 < nc → ∃ b o, a = some ⟨b, o, none⟩ ∧ b < w.heap.size ∧ ∀ k, k < nc → w.cell? ⟨b, o + k, none⟩ = some (r k))
theorem RwS.after {w w' : World} {v : Value} {n : Nat} {r : Nat → Value} (h : RwS w v n r) (hb : Below w.heap.size w w') : RwS w' v n r := by
  obtain ⟨a, cap, e, hc⟩ := h
  refine ⟨a, cap, e, fun h0 => ?_⟩
  obtain ⟨b, o, e1, hlt, hcell⟩ := hc h0
  exact ⟨b, o, e1, Nat.lt_of_lt_of_le hlt hb.size, fun k hk => by rw [hb.cell (p := ⟨b, o + k, none⟩) hlt]; exact hcell k hk⟩

set_option maxRecDepth 100000 in
set_option maxHeartbeats 1000000 in
/-- cutEqNodes of two that are alike -/
theorem eqNodes_any (w : World) (u v : Value) (nc : Nat) (ra rb : Nat → Value) (ln : Nat → Nat) (nd : Nat → Nat → Int) (hu : RwS w u nc ra) (hv : RwS w v nc rb) (hn : (nc : Int) ≤ 2097152)
    (ha : ∀ k, k < nc → I32 w (ra k) (ln k) (nd k) ∧ I32 w (rb k) (ln k) (nd k) ∧ ln k ≤ 2097152) :
    Calls Try.prog 9 #[u, v] w fun e w' => e = .returned (.bool true) ∧ ∃ q, w' = w.drewN q := by
  obtain ⟨a, ca, rfl, hca⟩ := hu
  obtain ⟨b, cb, rfl, hcb⟩ := hv
  have HA := Lib.hid ha
  clear ha
  go_enter Try.func9, Try.ntmps9
  go_wp2
  go_loopw [5] (fun zi wr => ∃ (i Q : Nat), zi = .int .i64 i ∧ (i : Int) ≤ nc ∧ wr = w.drewN Q) (fun zi _ => nc - (intOf zi).toNat)
  case atStart => exact ⟨0, 0, rfl, by omega, rfl⟩
  case round =>
    obtain ⟨i, Q, rfl, hi, rfl⟩ := hrel
    by_cases hlt : i < nc
    · have b0 : (i : Int) < nc := by omega
      obtain ⟨ba, oa, rfl, -, hca⟩ := hca (by omega)
      obtain ⟨bb, ob, rfl, -, hcb⟩ := hcb (by omega)
      have g1 := hca i hlt
      have g2 := hcb i hlt
      obtain ⟨k1, k2, k3⟩ := HA.out i hlt
      have hC' : ∀ q, Calls Try.prog 8 #[ra i, rb i] ((w.drewN Q).drewN q) fun e w' => e = .returned (.bool true) ∧ ∃ q', w' = ((w.drewN Q).drewN q).drewN q' := fun q => eq_any ((w.drewN Q).drewN q) (ra i) (rb i) (ln i) (nd i) k1 k2 (by omega)
      have hC3 : ∀ n, Calls Try.prog 8 #[ra i, rb i] (w.drewN (Q + n)) fun e w' => e = .returned (.bool true) ∧ ∃ m, w' = w.drewN (Q + m) := fun n => by
        have := Calls.quiet_of (hC' n)
        simp only [World.drewN_drewN] at this; exact this
      clear hca hcb k1 k2 k3
      go_wp2
      go_quiet (first | (go_at_call 8; exact hC3 _))
      go_wp2
      go_roundw
      case rel => exact ⟨i + 1, _, by go_num, by omega, rfl⟩
      case measure => simp [intOf]; omega
    · have b0 : ¬ (i : Int) < nc := by omega
      clear hca hcb
      go_wp2
      go_ret
      exact ⟨rfl, Q, rfl⟩
end Go.Proofs.Qxb6623286a
