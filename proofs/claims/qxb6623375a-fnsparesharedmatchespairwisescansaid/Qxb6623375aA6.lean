import Derived.Test.Qxb6623375aA5
namespace Go.Proofs.Qxb6623375a
open Go.RowKit

/-- the policy's tags: six cells each -/
def ptF (nm dg : Nat → ByteArray) (pv : Nat → Value) (j : Nat) : Value :=
  if j % 6 = 0 then .string (nm (j / 6)) else if j % 6 = 1 then .int .u64 0 else if j % 6 = 2 then .int .i64 0 else if j % 6 = 3 then .pointer none else if j % 6 = 4 then .string (dg (j / 6)) else pv (j / 6)
/-- the policy's decisions: four cells each -/
def pdF (ac im : Nat → ByteArray) (ru : Nat → Int) (un : Nat → Bool) (j : Nat) : Value :=
  if j % 4 = 0 then .string (ac (j / 4)) else if j % 4 = 1 then .int .i64 (ru (j / 4)) else if j % 4 = 2 then .string (im (j / 4)) else .bool (un (j / 4))
def updB (f : Nat → ByteArray) (i : Nat) (x : ByteArray) : Nat → ByteArray := fun k => if k = i then x else f k

theorem pt_cells {w : World} {PT n : Nat} {nm dg : Nat → ByteArray} {pv : Nat → Value} (h : w.rowIs PT 34 (n * 6) (ptF nm dg pv)) {k : Nat} (hk : k < n) :
    w.cell? ⟨PT, k * 6, none⟩ = some (.string (nm k)) ∧ w.cell? ⟨PT, k * 6 + 1, none⟩ = some (.int .u64 0) ∧ w.cell? ⟨PT, k * 6 + 2, none⟩ = some (.int .i64 0) ∧ w.cell? ⟨PT, k * 6 + 3, none⟩ = some (.pointer none) ∧ w.cell? ⟨PT, k * 6 + 4, none⟩ = some (.string (dg k)) ∧ w.cell? ⟨PT, k * 6 + 5, none⟩ = some (pv k) := by
  have e0 : k * 6 / 6 = k := by omega
  have e1 : k * 6 % 6 = 0 := by omega
  have e4 : (k * 6 + 4) / 6 = k := by omega
  have e5 : (k * 6 + 5) / 6 = k := by omega
  refine ⟨?_, ?_, ?_, ?_, ?_, ?_⟩
  · rw [h.cell (i := k * 6) (by omega)]; simp [ptF]
  · rw [h.cell (i := k * 6 + 1) (by omega)]; simp [ptF, show (k * 6 + 1) % 6 = 1 by omega]
  · rw [h.cell (i := k * 6 + 2) (by omega)]; simp [ptF, show (k * 6 + 2) % 6 = 2 by omega]
  · rw [h.cell (i := k * 6 + 3) (by omega)]; simp [ptF, show (k * 6 + 3) % 6 = 3 by omega]
  · rw [h.cell (i := k * 6 + 4) (by omega)]; simp [ptF, show (k * 6 + 4) % 6 = 4 by omega, e4]
  · rw [h.cell (i := k * 6 + 5) (by omega)]; simp [ptF, show (k * 6 + 5) % 6 = 5 by omega, e5]
theorem pd_cells {w : World} {PD n : Nat} {ac im : Nat → ByteArray} {ru : Nat → Int} {un : Nat → Bool} (h : w.rowIs PD 40 (n * 4) (pdF ac im ru un)) {k : Nat} (hk : k < n) :
    w.cell? ⟨PD, k * 4, none⟩ = some (.string (ac k)) ∧ w.cell? ⟨PD, k * 4 + 1, none⟩ = some (.int .i64 (ru k)) ∧ w.cell? ⟨PD, k * 4 + 2, none⟩ = some (.string (im k)) ∧ w.cell? ⟨PD, k * 4 + 3, none⟩ = some (.bool (un k)) := by
  have e1 : (k * 4 + 1) / 4 = k := by omega
  have e2 : (k * 4 + 2) / 4 = k := by omega
  have e3 : (k * 4 + 3) / 4 = k := by omega
  refine ⟨?_, ?_, ?_, ?_⟩
  · rw [h.cell (i := k * 4) (by omega)]; simp [pdF]
  · rw [h.cell (i := k * 4 + 1) (by omega)]; simp [pdF, show (k * 4 + 1) % 4 = 1 by omega, e1]
  · rw [h.cell (i := k * 4 + 2) (by omega)]; simp [pdF, show (k * 4 + 2) % 4 = 2 by omega, e2]
  · rw [h.cell (i := k * 4 + 3) (by omega)]; simp [pdF, show (k * 4 + 3) % 4 = 3 by omega, e3]
theorem pd_setA {w : World} {PD n : Nat} {ac im : Nat → ByteArray} {ru : Nat → Int} {un : Nat → Bool} (h : w.rowIs PD 40 (n * 4) (pdF ac im ru un)) (k : Nat) (x : ByteArray) :
    (w.setCell ⟨PD, k * 4, none⟩ (.string x)).rowIs PD 40 (n * 4) (pdF (updB ac k x) im ru un) := by
  refine (h.set (k * 4) _).congr (fun j _ => ?_)
  by_cases e : j = k * 4
  · subst e; simp [pdF, updB]
  · rw [if_neg e]
    by_cases h0 : j % 4 = 0
    · have : j / 4 ≠ k := by omega
      simp [pdF, h0, updB, this]
    · simp [pdF, h0]
theorem pd_setI {w : World} {PD n : Nat} {ac im : Nat → ByteArray} {ru : Nat → Int} {un : Nat → Bool} (h : w.rowIs PD 40 (n * 4) (pdF ac im ru un)) (k : Nat) (x : ByteArray) :
    (w.setCell ⟨PD, k * 4 + 2, none⟩ (.string x)).rowIs PD 40 (n * 4) (pdF ac (updB im k x) ru un) := by
  refine (h.set (k * 4 + 2) _).congr (fun j _ => ?_)
  by_cases e : j = k * 4 + 2
  · subst e; simp [pdF, updB, show (k * 4 + 2) % 4 = 2 by omega, show (k * 4 + 2) / 4 = k by omega]
  · rw [if_neg e]
    by_cases h0 : j % 4 = 2
    · have : j / 4 ≠ k := by omega
      simp [pdF, h0, updB, this]
    · simp [pdF, h0]

theorem Try.info9 : (Try.prog.info? 9).map (fun i => (i.zero, i.size, i.bytes)) = some (some (.string ByteArray.empty), 1, 16) := by kernel_rfl
/-- append of nothing -/
theorem append_zero (w : World) (a : Addr) (b : Option Addr) (n c c' : Nat) (hn : n ≤ c) (ty : TypeId) :
    (Builtin.append_ #[26, 26] ty #[.slice (some a) n c, .slice b 0 c']).run Try.prog w = .ok (.slice (some a) n c) w := by
  obtain ⟨i, hi, -⟩ := Option.map_eq_some_iff.1 Try.info9
  cases b <;> simp [Builtin.append_, run_underlying Try.underlying26, Builtin.lenOf, Builtin.firstCells, sizeOf, typeInfo, hi, hn, loadCells, loadCellsFrom, storeCells]
end Go.Proofs.Qxb6623375a
