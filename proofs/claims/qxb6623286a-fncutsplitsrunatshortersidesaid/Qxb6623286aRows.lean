/-
  No cell of these rows narrows 'for every input' (looked for: loops, veiled, ifaces, maps, wideKeys, modest, calm, conditions, laid).
  DERIVED. THE GIVEN ROWS OF THIS SEAT. 1 by the template 'for every input the law returns true; each argument reads behind the call as it read before'; 0 by the template 'total and deterministic' (their statements: Qxb6623286aTotals.lean).
  GIVEN WITH THE SEED: the statements are not yours to turn. If you find one false, say at which input.
  Laid BY PROGRAM, IN A SANDBOX (cutbox-rows.mjs): the forced cells as the released guide's own fill.sh prints them over the translation cbcf56a501e0726a… (all of the seat's roots in one cut). By AI agents, Wed Nov 11 2026. No macro, syntax, notation, axiom, sorry.
-/
import Derived.Test.Qxb6623286aChecked
import GoSem.Claim
import GoSem.ClaimJoined
import GoSem.ClaimMapViews
import Derived.JoinedTies
import Derived.KernelRfl
namespace Go.Proofs.Qxb6623286a
/- THE CELL 'sum', in the pinned program and in every row, IS THE sha256 OF THE DUMP (.gsa) THAT Qxb6623286aProg.lean LOADS. Nothing in Lean hashes anything: it is a label: what it is worth is what the hold of that sum in a sandbox is worth. -/
noncomputable def Try.pinned : Pinned := { name := "qxb6623286a", sum := "cbcf56a501e0726ae4330e58a151312a8553699fc5febd22e8e37a336a1c860d", checked := Try.checked }
namespace Rows
def none {H : Type} : Left H := { results := [], args := [] }

/-- 'zzlaws_flow_b1.FnCutSplitsRunAtShorterSide': WHATEVER THE INPUT: true; the input reads as it did. -/
def fnCutSplitsRunAtShorterSideSpec : ChangeSpec := { name := "fnCutSplitsRunAtShorterSide", fn := fun _ => fun
  | [d1, d2, d3, d4, d5, d6, d7, d8, d9, d10] => { results := [.lit (.bool true)], args := [d1, d2, d3, d4, d5, d6, d7, d8, d9, d10] }
  | _ => none }
def fnCutSplitsRunAtShorterSideRow : OpenClaim := { program := "qxb6623286a", sum := "cbcf56a501e0726ae4330e58a151312a8553699fc5febd22e8e37a336a1c860d", func := "example.com/rackweave/rackweave/zzlaws_flow_b1.FnCutSplitsRunAtShorterSide", spec := "fnCutSplitsRunAtShorterSide", apart := false }
def FnCutSplitsRunAtShorterSideSaid : Prop := fnCutSplitsRunAtShorterSideRow.holds Try.pinned (OpenSpec.ofChange fnCutSplitsRunAtShorterSideSpec)

/-- ITS FALSE NEIGHBOUR: 'it returns false'. Refute it at one input. -/
def fnCutSplitsRunAtShorterSideWrong : ChangeSpec := { name := "fnCutSplitsRunAtShorterSide", fn := fun _ => fun
  | [d1, d2, d3, d4, d5, d6, d7, d8, d9, d10] => { results := [.lit (.bool false)], args := [d1, d2, d3, d4, d5, d6, d7, d8, d9, d10] }
  | _ => none }
def FnCutSplitsRunAtShorterSideWrongFalsely : Prop := fnCutSplitsRunAtShorterSideRow.holds Try.pinned (OpenSpec.ofChange fnCutSplitsRunAtShorterSideWrong)

end Rows
end Go.Proofs.Qxb6623286a
