/-
  No cell of these rows narrows 'for every input' (looked for: loops, veiled, ifaces, maps, wideKeys, modest, calm, conditions, laid).
  DERIVED. THE GIVEN ROWS OF THIS SEAT. 2 by the template 'for every input the law returns true; each argument reads behind the call as it read before'; 0 by the template 'total and deterministic' (their statements: Qxb6619244aTotals.lean).
  GIVEN WITH THE SEED: the statements are not yours to turn. If you find one false, say at which input.
  Laid BY PROGRAM, IN A SANDBOX (cutbox-rows.mjs): the forced cells as the released guide's own fill.sh prints them over the translation 8107d7326b10d6a4… (all of the seat's roots in one cut). By AI agents, Wed Nov 11 2026. No macro, syntax, notation, axiom, sorry.
-/
import Derived.Test.Qxb6619244aChecked
import GoSem.Claim
import GoSem.ClaimJoined
import GoSem.ClaimMapViews
import Derived.JoinedTies
import Derived.KernelRfl
namespace Go.Proofs.Qxb6619244a
/- THE CELL 'sum', in the pinned program and in every row, IS THE sha256 OF THE DUMP (.gsa) THAT Qxb6619244aProg.lean LOADS. Nothing in Lean hashes anything: it is a label: what it is worth is what the hold of that sum in a sandbox is worth. -/
noncomputable def Try.pinned : Pinned := { name := "qxb6619244a", sum := "8107d7326b10d6a4356036e47d698609cd80c393896c00deb8a2236cb6129eaa", checked := Try.checked }
namespace Rows
def none {H : Type} : Left H := { results := [], args := [] }

/-- 'zzlaws_pkg_annuity_b1.FnJointDueRecursion': WHATEVER THE INPUT: true; the input reads as it did. -/
def fnJointDueRecursionSpec : ChangeSpec := { name := "fnJointDueRecursion", fn := fun _ => fun
  | [d1, d2, d3, d4, d5] => { results := [.lit (.bool true)], args := [d1, d2, d3, d4, d5] }
  | _ => none }
def fnJointDueRecursionRow : OpenClaim := { program := "qxb6619244a", sum := "8107d7326b10d6a4356036e47d698609cd80c393896c00deb8a2236cb6129eaa", func := "example.com/vestline/vestline/zzlaws_pkg_annuity_b1.FnJointDueRecursion", spec := "fnJointDueRecursion", apart := false }
def FnJointDueRecursionSaid : Prop := fnJointDueRecursionRow.holds Try.pinned (OpenSpec.ofChange fnJointDueRecursionSpec)

/-- ITS FALSE NEIGHBOUR: 'it returns false'. Refute it at one input. -/
def fnJointDueRecursionWrong : ChangeSpec := { name := "fnJointDueRecursion", fn := fun _ => fun
  | [d1, d2, d3, d4, d5] => { results := [.lit (.bool false)], args := [d1, d2, d3, d4, d5] }
  | _ => none }
def FnJointDueRecursionWrongFalsely : Prop := fnJointDueRecursionRow.holds Try.pinned (OpenSpec.ofChange fnJointDueRecursionWrong)

/-- 'zzlaws_pkg_annuity_b1.FnJointDueSymmetricWithinJointYears': WHATEVER THE INPUT: true; the input reads as it did. -/
def fnJointDueSymmetricWithinJointYearsSpec : ChangeSpec := { name := "fnJointDueSymmetricWithinJointYears", fn := fun _ => fun
  | [d1, d2, d3, d4, d5] => { results := [.lit (.bool true)], args := [d1, d2, d3, d4, d5] }
  | _ => none }
def fnJointDueSymmetricWithinJointYearsRow : OpenClaim := { program := "qxb6619244a", sum := "8107d7326b10d6a4356036e47d698609cd80c393896c00deb8a2236cb6129eaa", func := "example.com/vestline/vestline/zzlaws_pkg_annuity_b1.FnJointDueSymmetricWithinJointYears", spec := "fnJointDueSymmetricWithinJointYears", apart := false }
def FnJointDueSymmetricWithinJointYearsSaid : Prop := fnJointDueSymmetricWithinJointYearsRow.holds Try.pinned (OpenSpec.ofChange fnJointDueSymmetricWithinJointYearsSpec)

/-- ITS FALSE NEIGHBOUR: 'it returns false'. Refute it at one input. -/
def fnJointDueSymmetricWithinJointYearsWrong : ChangeSpec := { name := "fnJointDueSymmetricWithinJointYears", fn := fun _ => fun
  | [d1, d2, d3, d4, d5] => { results := [.lit (.bool false)], args := [d1, d2, d3, d4, d5] }
  | _ => none }
def FnJointDueSymmetricWithinJointYearsWrongFalsely : Prop := fnJointDueSymmetricWithinJointYearsRow.holds Try.pinned (OpenSpec.ofChange fnJointDueSymmetricWithinJointYearsWrong)

end Rows
end Go.Proofs.Qxb6619244a
