import Derived.Test.Qxb6623286aY4
namespace Go.Proofs.Qxb6623286a
open Go.RowKit

def trunc (i : Nat) (f : Nat → Int) : Nat → Int := fun k => if k < i then f k else 0
def truncV (i : Nat) (f : Nat → Value) : Nat → Value := fun k => if k < i then f k else .slice none 0 0
theorem upd_trunc (i : Nat) (f : Nat → Int) : upd (trunc i f) i (f i) = trunc (i + 1) f := by
  funext k
  unfold upd trunc
  by_cases e : k = i
  · subst e; simp
  · rw [if_neg e]
    by_cases h : k < i
    · rw [if_pos h, if_pos (by omega)]
    · rw [if_neg h, if_neg (by omega)]
theorem upd_truncV (i : Nat) (f : Nat → Value) : upd (truncV i f) i (f i) = truncV (i + 1) f := by
  funext k
  unfold upd truncV
  by_cases e : k = i
  · subst e; simp
  · rw [if_neg e]
    by_cases h : k < i
    · rw [if_pos h, if_pos (by omega)]
    · rw [if_neg h, if_neg (by omega)]
theorem made2 (w : World) (n : Nat) : MRow (w.alloc (.cells (madeCells #[.int .i32 0, .int .i32 0] (n * 2)) 42)) w.heap.size n (trunc 0 (fun _ => 0)) (trunc 0 (fun _ => 0)) := by
  refine ⟨_, Go.Deep.blk_alloc_new _ _, size_madeCells _ _, fun i hi => ?_⟩
  have h2 : i % 2 = 0 ∨ i % 2 = 1 := by omega
  rcases h2 with h | h <;> simp [madeCells, hi, h, trunc]
theorem made3 (w : World) (n : Nat) : CRow (w.alloc (.cells (madeCells #[.int .i32 0, .int .i32 0, .slice none 0 0] (n * 3)) 44)) w.heap.size n n (trunc 0 (fun _ => 0)) (trunc 0 (fun _ => 0)) (truncV 0 (fun _ => .slice none 0 0)) := by
  refine ⟨Nat.le_refl _, fun i => (madeCells #[.int .i32 0, .int .i32 0, .slice none 0 0] (n * 3))[i]?.getD undef, ⟨_, Go.Deep.blk_alloc_new _ _, size_madeCells _ _, fun i hi => ?_⟩, fun k hk => ?_⟩
  · have h2 : i % 3 = 0 ∨ i % 3 = 1 ∨ i % 3 = 2 := by omega
    rcases h2 with h | h | h <;> simp [madeCells, hi, h]
  · have e0 : k * 3 % 3 = 0 := by omega
    have e1 : (k * 3 + 1) % 3 = 1 := by omega
    have e2 : (k * 3 + 2) % 3 = 2 := by omega
    have l0 : k * 3 < n * 3 := by omega
    have l1 : k * 3 + 1 < n * 3 := by omega
    have l2 : k * 3 + 2 < n * 3 := by omega
    simp [madeCells, e0, e1, e2, l0, l1, l2, trunc, truncV]
theorem trunc_zero (f : Nat → Int) : trunc 0 f = trunc 0 (fun _ => 0) := by funext k; simp [trunc]
theorem truncV_zero (f : Nat → Value) : truncV 0 f = truncV 0 (fun _ => .slice none 0 0) := by funext k; simp [truncV]
theorem sx_start (w : World) (tv rv sv x : Value) (cl : Int) (o : Obj) :
    Sx ((w.alloc (.cells #[.int .i32 0, .slice none 0 0, .slice none 0 0, .slice none 0 0, .slice none 0 0, .slice none 0 0, .slice none 0 0, .slice none 0 0, tv, rv, .slice none 0 0, x, .slice none 0 0, sv, .int .i64 cl, .slice none 0 0, .slice none 0 0, .slice none 0 0, .slice none 0 0, .slice none 0 0, .int .i64 0, .int .i64 0] 40)).alloc o) w.heap.size tv rv x (.slice none 0 0) sv cl := by
  have h := ((World.rowIs_alloc w #[.int .i32 0, .slice none 0 0, .slice none 0 0, .slice none 0 0, .slice none 0 0, .slice none 0 0, .slice none 0 0, .slice none 0 0, tv, rv, .slice none 0 0, x, .slice none 0 0, sv, .int .i64 cl, .slice none 0 0, .slice none 0 0, .slice none 0 0, .slice none 0 0, .slice none 0 0, .int .i64 0, .int .i64 0] 40 (fun i => #[Value.int .i32 0, .slice none 0 0, .slice none 0 0, .slice none 0 0, .slice none 0 0, .slice none 0 0, .slice none 0 0, .slice none 0 0, tv, rv, .slice none 0 0, x, .slice none 0 0, sv, .int .i64 cl, .slice none 0 0, .slice none 0 0, .slice none 0 0, .slice none 0 0, .slice none 0 0, .int .i64 0, .int .i64 0][i]?.getD undef) (fun i hi => by simp at hi; simp [hi])).alloc o)
  exact ⟨_, h, rfl, rfl, rfl, rfl, rfl, rfl⟩
theorem made2' (w : World) (o : Obj) (n : Nat) : MRow ((w.alloc o).alloc (.cells (madeCells #[.int .i32 0, .int .i32 0] (n * 2)) 42)) (w.heap.size + 1) n (trunc 0 (fun _ => 0)) (trunc 0 (fun _ => 0)) := by
  have := made2 (w.alloc o) n
  have e : (w.alloc o).heap.size = w.heap.size + 1 := by simp
  rw [e] at this; exact this
end Go.Proofs.Qxb6623286a
