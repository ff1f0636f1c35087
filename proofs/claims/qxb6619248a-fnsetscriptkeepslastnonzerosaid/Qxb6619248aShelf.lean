/-
  DERIVED: THE SHELF's CONTRACTS AT THIS DUMP, IN PLAIN WORDS (tools/lay-plain.mjs out of 'Qxb6619248aShelf.lean', which tools/lay-shelf.mjs wrote): THE SAME DECLARATIONS UNDER THE SAME NAMES: 'import', 'namespace', 'open', 'def', 'theorem' AND NOTHING ELSE: no command of the shelf's: FOR A HAND-IN. Each laying: the table of numbers ('.._ren') and one theorem, a field a fact of the dump's own or the kernel's comparison; each contract: ONE APPLICATION.
-/
import Derived.Ground.Names2Prog
import Derived.Shelf.Slices.Delete
import Derived.Shelf.Slices.Cells
import Derived.Shelf.Spec.SearchS
import Derived.Shelf.Spec.SlicesInsert
import Derived.Shelf.Spec.SlicesInsertGrow
import Derived.Test.Qxb6619248aProg
namespace Go.Proofs
open Go.Shelf
def Try.lays24_ren : Go.Shelf.Ren := ⟨fun | 24 => 13 | n => n, fun | 24 => 22 | 9 => 9 | 3 => 3 | 4 => 4 | 0 => 0 | n => n, fun | n => n⟩
theorem Try.lays24 : Go.Proofs.Lays2.n24 Try.prog Try.lays24_ren := {
  mixed := by kernel_rfl
  f24 := Try.func13.trans (congrArg some (by kernel_rfl))
  t0 := Try.underlying0
  a0 := Try.isAgg0
  z0 := Try.sizeOf0
  v0 := Try.zeroValue0
  t3 := Try.underlying3
  a3 := Try.isAgg3
  z3 := Try.sizeOf3
  v3 := Try.zeroValue3
  t4 := Try.underlying4
  a4 := Try.isAgg4
  z4 := Try.sizeOf4
  v4 := Try.zeroValue4
  t9 := Try.underlying9
  a9 := Try.isAgg9
  z9 := Try.sizeOf9
  v9 := Try.zeroValue9
  t24 := Try.underlying22
  a24 := Try.isAgg22
  z24 := Try.sizeOf22
  v24 := Try.zeroValue22
  i9 := by kernel_rfl }
def Try.lays22_ren : Go.Shelf.Ren := ⟨fun | 22 => 14 | 29 => 17 | 30 => 18 | 36 => 20 | 17 => 21 | n => n, fun | 24 => 22 | 9 => 9 | 3 => 3 | 4 => 4 | 0 => 0 | n => n, fun | n => n⟩
theorem Try.lays22 : Go.Proofs.Lays2.n22 Try.prog Try.lays22_ren := {
  mixed := by kernel_rfl
  f17 := Try.func21.trans (congrArg some (by kernel_rfl))
  f22 := Try.func14.trans (congrArg some (by kernel_rfl))
  f29 := Try.func17.trans (congrArg some (by kernel_rfl))
  f30 := Try.func18.trans (congrArg some (by kernel_rfl))
  f36 := Try.func20.trans (congrArg some (by kernel_rfl))
  t0 := Try.underlying0
  a0 := Try.isAgg0
  z0 := Try.sizeOf0
  v0 := Try.zeroValue0
  t3 := Try.underlying3
  a3 := Try.isAgg3
  z3 := Try.sizeOf3
  v3 := Try.zeroValue3
  t4 := Try.underlying4
  a4 := Try.isAgg4
  z4 := Try.sizeOf4
  v4 := Try.zeroValue4
  t9 := Try.underlying9
  a9 := Try.isAgg9
  z9 := Try.sizeOf9
  v9 := Try.zeroValue9
  t24 := Try.underlying22
  a24 := Try.isAgg22
  z24 := Try.sizeOf22
  v24 := Try.zeroValue22
  i9 := by kernel_rfl }
def Try.lays26_ren : Go.Shelf.Ren := ⟨fun | 26 => 12 | 33 => 15 | 34 => 16 | 38 => 19 | n => n, fun | 24 => 22 | 9 => 9 | 3 => 3 | 4 => 4 | 40 => 44 | 0 => 0 | n => n, fun | n => n⟩
theorem Try.lays26 : Go.Proofs.Lays2.n26 Try.prog Try.lays26_ren := {
  mixed := by kernel_rfl
  f26 := Try.func12.trans (congrArg some (by kernel_rfl))
  f33 := Try.func15.trans (congrArg some (by kernel_rfl))
  f34 := Try.func16.trans (congrArg some (by kernel_rfl))
  f38 := Try.func19.trans (congrArg some (by kernel_rfl))
  t0 := Try.underlying0
  a0 := Try.isAgg0
  z0 := Try.sizeOf0
  v0 := Try.zeroValue0
  t3 := Try.underlying3
  a3 := Try.isAgg3
  z3 := Try.sizeOf3
  v3 := Try.zeroValue3
  t4 := Try.underlying4
  a4 := Try.isAgg4
  z4 := Try.sizeOf4
  v4 := Try.zeroValue4
  t9 := Try.underlying9
  a9 := Try.isAgg9
  z9 := Try.sizeOf9
  v9 := Try.zeroValue9
  t24 := Try.underlying22
  a24 := Try.isAgg22
  z24 := Try.sizeOf22
  v24 := Try.zeroValue22
  t40 := Try.underlying44
  a40 := Try.isAgg44
  z40 := Try.sizeOf44
  v40 := Try.zeroValue44 }
end Go.Proofs
