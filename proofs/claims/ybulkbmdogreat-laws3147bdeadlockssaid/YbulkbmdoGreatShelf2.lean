/-
  DERIVED: THE SHELF's CONTRACTS AT THIS DUMP, IN PLAIN WORDS (tools/lay-plain.mjs out of 'YbulkbmdoGreatShelf2.lean', which tools/lay-shelf.mjs wrote): THE SAME DECLARATIONS UNDER THE SAME NAMES: 'import', 'namespace', 'open', 'def', 'theorem' AND NOTHING ELSE: no command of the shelf's: FOR A HAND-IN. Each laying: the table of numbers ('.._ren') and one theorem, a field a fact of the dump's own or the kernel's comparison; each contract: ONE APPLICATION.
-/
import Derived.Ground.Names2Prog
import Derived.Shelf.Spec.SlicesInsert
import Derived.Test.YbulkbmdoGreatProg
namespace Go.Proofs
open Go.Shelf
def Ybaz.laysNm221_ren : Go.Shelf.Ren := ⟨fun | 21 => 119 | 27 => 135 | 28 => 136 | 35 => 142 | 39 => 145 | n => n, fun | 22 => 24 | 3 => 3 | 4 => 4 | 0 => 0 | n => n, fun | n => n⟩
theorem Ybaz.laysNm221 : Go.Proofs.Lays2.n21 Ybaz.prog Ybaz.laysNm221_ren := {
  mixed := by kernel_rfl
  f21 := Ybaz.func119.trans (congrArg some (by kernel_rfl))
  f27 := Ybaz.func135.trans (congrArg some (by kernel_rfl))
  f28 := Ybaz.func136.trans (congrArg some (by kernel_rfl))
  f35 := Ybaz.func142.trans (congrArg some (by kernel_rfl))
  f39 := Ybaz.func145.trans (congrArg some (by kernel_rfl))
  t0 := Ybaz.underlying0
  a0 := Ybaz.isAgg0
  z0 := Ybaz.sizeOf0
  v0 := Ybaz.zeroValue0
  t3 := Ybaz.underlying3
  a3 := Ybaz.isAgg3
  z3 := Ybaz.sizeOf3
  v3 := Ybaz.zeroValue3
  t4 := Ybaz.underlying4
  a4 := Ybaz.isAgg4
  z4 := Ybaz.sizeOf4
  v4 := Ybaz.zeroValue4
  t22 := Ybaz.underlying24
  a22 := Ybaz.isAgg24
  z22 := Ybaz.sizeOf24
  v22 := Ybaz.zeroValue24
  i3 := by kernel_rfl }
end Go.Proofs
