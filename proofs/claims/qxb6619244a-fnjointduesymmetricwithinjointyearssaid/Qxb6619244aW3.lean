import Derived.Test.Qxb6619244aW2
namespace Go.Proofs.Qxb6619244a
open Go.RowKit
open Fl

set_option maxRecDepth 100000 in
set_option maxHeartbeats 400000 in
theorem zzjoint_any (L : Nat → Nat) (v n i j cap : Nat) (x y mA : Int) (lb lo : Nat) (w : World) (D : Dom L v n i j)
    (hi : IntKind.i64.wrap (x - mA) = (i : Int)) (hj : IntKind.i64.wrap (y - mA) = (j : Int))
    (hb : lb < w.heap.size) (hl : ∀ k, k < n → w.cell? ⟨lb, lo + k, none⟩ = some (.float .f64 (L k))) :
    Calls Try.prog 8 #[.int .i64 mA, .float .f64 v, .slice (some ⟨lb, lo, none⟩) n cap, .int .i64 x, .int .i64 y] w fun e w' => e = .returned (.float .f64 (smW L v i j (n - max i j))) ∧ Below w.heap.size w w' := by
  go_enter Try.func8, Try.ntmps8
  go_wp2_with fail
  refine (jointDue_any L v n i j cap x y mA (w.heap.size + 1) w.heap.size lb lo _ D hi hj (by simp [go_sem]) (by simp [go_sem]) (by simp [go_sem]) (by simp [go_sem]) (fun k hk => ?_)).mono ?_
  · have := hl k hk
    rw [World.cell?_alloc_past _ _ _ (by rw [World.size_alloc]; omega), World.cell?_alloc_past _ _ _ hb]; exact this
  · rintro e w' ⟨rfl, q, rfl⟩
    clear D hi hj hl
    go_wp2
    go_ret
    exact ⟨rfl, below_drewN (((Below.refl _ _).alloc (Nat.le_refl _) _).alloc (by simp) _) _⟩
end Go.Proofs.Qxb6619244a
