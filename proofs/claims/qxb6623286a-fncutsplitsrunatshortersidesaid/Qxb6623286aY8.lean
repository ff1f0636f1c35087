import Derived.Test.Qxb6623286aY1
import Derived.Test.Qxb6623286aP2
namespace Go.Proofs.Qxb6623286a
open Go.RowKit

/-- the bodies of all loops, in the text's order -/
def loopsOf : Code → List Code
  | .loop c => c :: loopsOf c
  | .seq a b => loopsOf a ++ loopsOf b
  | .block _ c => loopsOf c
  | .scope c => loopsOf c
  | .cond _ a b => loopsOf a ++ loopsOf b
  | _ => []
noncomputable def body5 (k : Nat) : Code := ((Try.f5.body.map loopsOf).getD []).getD k .skip

/-- along the thread -/
def runOf (thr : Nat → Int) (f : Nat) : Nat → Nat
  | 0 => f
  | j + 1 => (thr (runOf thr f j)).toNat
/-- is c among the first k spare numbers -/
def isS (sp : Nat → Int) (k c : Nat) : Bool := (List.range k).any (fun j => sp j == (c : Int))
theorem isS_succ (sp : Nat → Int) (k c : Nat) : isS sp (k + 1) c = (isS sp k c || sp k == (c : Int)) := by simp [isS, List.range_succ]
theorem isS_iff (sp : Nat → Int) (k c : Nat) : isS sp k c = true ↔ ∃ j, j < k ∧ sp j = c := by
  simp [isS]
end Go.Proofs.Qxb6623286a
