/-
  No cell of these rows narrows 'for every input' (looked for: loops, veiled, ifaces, maps, wideKeys, modest, calm, conditions, laid).
  DERIVED. THE GIVEN ROWS OF THIS SEAT. 1 by the template 'for every input the law returns true; each argument reads behind the call as it read before'; 0 by the template 'total and deterministic' (their statements: Qxb6619248aTotals.lean).
  GIVEN WITH THE SEED: the statements are not yours to turn. If you find one false, say at which input.
  Laid BY PROGRAM, IN A SANDBOX (cutbox-rows.mjs): the forced cells as the released guide's own fill.sh prints them over the translation 98079ba058e4b645… (all of the seat's roots in one cut). By AI agents, Wed Nov 11 2026. No macro, syntax, notation, axiom, sorry.
-/
import Derived.Test.Qxb6619248aChecked
import GoSem.Claim
import GoSem.ClaimJoined
import GoSem.ClaimMapViews
import Derived.JoinedTies
import Derived.KernelRfl
namespace Go.Proofs.Qxb6619248a
/- THE CELL 'sum', in the pinned program and in every row, IS THE sha256 OF THE DUMP (.gsa) THAT Qxb6619248aProg.lean LOADS. Nothing in Lean hashes anything: it is a label: what it is worth is what the hold of that sum in a sandbox is worth. -/
noncomputable def Try.pinned : Pinned := { name := "qxb6619248a", sum := "98079ba058e4b645eea84d5da49146a526657b3ea17eb86a09843ab372183fcf", checked := Try.checked }
namespace Rows
def none {H : Type} : Left H := { results := [], args := [] }

/-- 'zzlaws_ledger_b1.FnSetScriptKeepsLastNonzero': WHATEVER THE INPUT: true; the input reads as it did. -/
def fnSetScriptKeepsLastNonzeroSpec : ChangeSpec := { name := "fnSetScriptKeepsLastNonzero", fn := fun _ => fun
  | [d1, d2] => { results := [.lit (.bool true)], args := [d1, d2] }
  | _ => none }
def fnSetScriptKeepsLastNonzeroRow : OpenClaim := { program := "qxb6619248a", sum := "98079ba058e4b645eea84d5da49146a526657b3ea17eb86a09843ab372183fcf", func := "example.com/ledgerchord/ledgerchord/zzlaws_ledger_b1.FnSetScriptKeepsLastNonzero", spec := "fnSetScriptKeepsLastNonzero", inPlace := ["slices.overlaps[string]"], apart := false }
def FnSetScriptKeepsLastNonzeroSaid : Prop := fnSetScriptKeepsLastNonzeroRow.holds Try.pinned (OpenSpec.ofChange fnSetScriptKeepsLastNonzeroSpec)

/-- ITS FALSE NEIGHBOUR: 'it returns false'. Refute it at one input. -/
def fnSetScriptKeepsLastNonzeroWrong : ChangeSpec := { name := "fnSetScriptKeepsLastNonzero", fn := fun _ => fun
  | [d1, d2] => { results := [.lit (.bool false)], args := [d1, d2] }
  | _ => none }
def FnSetScriptKeepsLastNonzeroWrongFalsely : Prop := fnSetScriptKeepsLastNonzeroRow.holds Try.pinned (OpenSpec.ofChange fnSetScriptKeepsLastNonzeroWrong)

end Rows
end Go.Proofs.Qxb6619248a
