/-
  No cell of these rows narrows 'for every input' (looked for: loops, veiled, ifaces, maps, wideKeys, modest, calm, conditions, laid).
  DERIVED. THE GIVEN ROWS OF THIS SEAT. 1 by the template 'for every input the law returns true; each argument reads behind the call as it read before'; 0 by the template 'total and deterministic' (their statements: Qxb6623375aTotals.lean).
  GIVEN WITH THE SEED: the statements are not yours to turn. If you find one false, say at which input.
  Laid BY PROGRAM, IN A SANDBOX (cutbox-rows.mjs): the forced cells as the released guide's own fill.sh prints them over the translation 467f020825bc8575… (all of the seat's roots in one cut). By AI agents, Wed Nov 11 2026. No macro, syntax, notation, axiom, sorry.
-/
import Derived.Test.Qxb6623375aChecked
import GoSem.Claim
import GoSem.ClaimJoined
import GoSem.ClaimMapViews
import Derived.JoinedTies
import Derived.KernelRfl
namespace Go.Proofs.Qxb6623375a
/- THE CELL 'sum', in the pinned program and in every row, IS THE sha256 OF THE DUMP (.gsa) THAT Qxb6623375aProg.lean LOADS. Nothing in Lean hashes anything: it is a label: what it is worth is what the hold of that sum in a sandbox is worth. -/
noncomputable def Try.pinned : Pinned := { name := "qxb6623375a", sum := "467f020825bc8575df233fb08b88dd47a38a2019c182a070285812b6c52c5adc", checked := Try.checked }
namespace Rows
def none {H : Type} : Left H := { results := [], args := [] }

/-- 'zzlaws_policy_b1.FnSpareSharedMatchesPairwiseScan': WHATEVER THE INPUT: true; the input reads as it did. -/
def fnSpareSharedMatchesPairwiseScanSpec : ChangeSpec := { name := "fnSpareSharedMatchesPairwiseScan", fn := fun _ => fun
  | [d1, d2] => { results := [.lit (.bool true)], args := [d1, d2] }
  | _ => none }
def fnSpareSharedMatchesPairwiseScanRow : OpenClaim := { program := "qxb6623375a", sum := "467f020825bc8575df233fb08b88dd47a38a2019c182a070285812b6c52c5adc", func := "example.com/pruneline/pruneline/zzlaws_policy_b1.FnSpareSharedMatchesPairwiseScan", spec := "fnSpareSharedMatchesPairwiseScan", apart := false }
def FnSpareSharedMatchesPairwiseScanSaid : Prop := fnSpareSharedMatchesPairwiseScanRow.holds Try.pinned (OpenSpec.ofChange fnSpareSharedMatchesPairwiseScanSpec)

/-- ITS FALSE NEIGHBOUR: 'it returns false'. Refute it at one input. -/
def fnSpareSharedMatchesPairwiseScanWrong : ChangeSpec := { name := "fnSpareSharedMatchesPairwiseScan", fn := fun _ => fun
  | [d1, d2] => { results := [.lit (.bool false)], args := [d1, d2] }
  | _ => none }
def FnSpareSharedMatchesPairwiseScanWrongFalsely : Prop := fnSpareSharedMatchesPairwiseScanRow.holds Try.pinned (OpenSpec.ofChange fnSpareSharedMatchesPairwiseScanWrong)

end Rows
end Go.Proofs.Qxb6623375a
