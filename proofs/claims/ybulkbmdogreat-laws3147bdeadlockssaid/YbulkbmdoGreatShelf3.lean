/-
  DERIVED: THE SHELF's CONTRACTS AT THIS DUMP, IN PLAIN WORDS (tools/lay-plain.mjs out of 'YbulkbmdoGreatShelf3.lean', which tools/lay-shelf.mjs wrote): THE SAME DECLARATIONS UNDER THE SAME NAMES: 'import', 'namespace', 'open', 'def', 'theorem' AND NOTHING ELSE: no command of the shelf's: FOR A HAND-IN. Each laying: the table of numbers ('.._ren') and one theorem, a field a fact of the dump's own or the kernel's comparison; each contract: ONE APPLICATION.
-/
import Derived.Shelf.SlSortCmp.WholeK
import Derived.Shelf.SlGeneric
import Derived.Ground.SlsfProg
import Derived.Test.YbulkbmdoGreatProg
namespace Go.Proofs
open Go.Shelf
set_option maxRecDepth 1000000
def Ybaz.sortK_ren : Go.Shelf.Ren := ⟨fun | 6 => 27 | 15 => 32 | 14 => 43 | 28 => 54 | 29 => 55 | 20 => 66 | 21 => 67 | 22 => 68 | 23 => 69 | 24 => 70 | 25 => 71 | 26 => 72 | 27 => 73 | 46 => 106 | 47 => 75 | 48 => 76 | 49 => 107 | 50 => 108 | 57 => 120 | n => n, fun | 22 => 64 | 24 => 68 | 25 => 83 | 3 => 3 | 39 => 81 | 0 => 0 | 53 => 113 | 55 => 65 | 4 => 4 | 46 => 107 | 45 => 106 | 50 => 55 | 5 => 5 | 9 => 9 | 66 => 126 | 70 => 130 | 76 => 150 | 77 => 151 | n => n, fun | n => n⟩
theorem Ybaz.sortK : Go.Proofs.SlLaysF0.n6 Ybaz.prog Ybaz.sortK_ren := {
  mixed := by kernel_rfl
  f6 := ⟨Ybaz.f27.name, by decide, Ybaz.func27.trans (congrArg some (by kernel_rfl))⟩
  f14 := ⟨Ybaz.f43.name, by decide, Ybaz.func43.trans (congrArg some (by kernel_rfl))⟩
  f15 := Ybaz.func32.trans (congrArg some (by kernel_rfl))
  f20 := ⟨Ybaz.f66.name, by decide, Ybaz.func66.trans (congrArg some (by kernel_rfl))⟩
  f21 := ⟨Ybaz.f67.name, by decide, Ybaz.func67.trans (congrArg some (by kernel_rfl))⟩
  f22 := ⟨Ybaz.f68.name, by decide, Ybaz.func68.trans (congrArg some (by kernel_rfl))⟩
  f23 := ⟨Ybaz.f69.name, by decide, Ybaz.func69.trans (congrArg some (by kernel_rfl))⟩
  f24 := ⟨Ybaz.f70.name, by decide, Ybaz.func70.trans (congrArg some (by kernel_rfl))⟩
  f25 := ⟨Ybaz.f71.name, by decide, Ybaz.func71.trans (congrArg some (by kernel_rfl))⟩
  f26 := ⟨Ybaz.f72.name, by decide, Ybaz.func72.trans (congrArg some (by kernel_rfl))⟩
  f27 := ⟨Ybaz.f73.name, by decide, Ybaz.func73.trans (congrArg some (by kernel_rfl))⟩
  f28 := Ybaz.func54.trans (congrArg some (by kernel_rfl))
  f29 := Ybaz.func55.trans (congrArg some (by kernel_rfl))
  f46 := ⟨Ybaz.f106.name, by decide, Ybaz.func106.trans (congrArg some (by kernel_rfl))⟩
  f47 := Ybaz.func75.trans (congrArg some (by kernel_rfl))
  f48 := Ybaz.func76.trans (congrArg some (by kernel_rfl))
  f49 := ⟨Ybaz.f107.name, by decide, Ybaz.func107.trans (congrArg some (by kernel_rfl))⟩
  f50 := ⟨Ybaz.f108.name, by decide, Ybaz.func108.trans (congrArg some (by kernel_rfl))⟩
  f57 := ⟨Ybaz.f120.name, by decide, Ybaz.func120.trans (congrArg some (by kernel_rfl))⟩
  t0 := Ybaz.underlying0
  a0 := Ybaz.isAgg0
  z0 := Ybaz.sizeOf0
  v0 := Ybaz.zeroValue0
  t3 := Ybaz.underlying3
  a3 := Ybaz.isAgg3
  z3 := Ybaz.sizeOf3
  v3 := Ybaz.zeroValue3
  t4 := Ybaz.underlying4
  a4 := Ybaz.isAgg4
  z4 := Ybaz.sizeOf4
  v4 := Ybaz.zeroValue4
  t5 := Ybaz.underlying5
  a5 := Ybaz.isAgg5
  z5 := Ybaz.sizeOf5
  v5 := Ybaz.zeroValue5
  t9 := Ybaz.underlying9
  a9 := Ybaz.isAgg9
  z9 := Ybaz.sizeOf9
  v9 := Ybaz.zeroValue9
  t22 := Ybaz.underlying64
  a22 := Ybaz.isAgg64
  z22 := Ybaz.sizeOf64
  v22 := Ybaz.zeroValue64
  t25 := Ybaz.underlying83
  a25 := Ybaz.isAgg83
  z25 := Ybaz.sizeOf83
  v25 := Ybaz.zeroValue83
  t39 := Ybaz.underlying81
  a39 := Ybaz.isAgg81
  z39 := Ybaz.sizeOf81
  v39 := Ybaz.zeroValue81
  t45 := Ybaz.underlying106
  a45 := Ybaz.isAgg106
  z45 := Ybaz.sizeOf106
  v45 := Ybaz.zeroValue106
  t46 := Ybaz.underlying107
  a46 := Ybaz.isAgg107
  z46 := Ybaz.sizeOf107
  v46 := Ybaz.zeroValue107
  t50 := Ybaz.underlying55
  a50 := Ybaz.isAgg55
  z50 := Ybaz.sizeOf55
  v50 := Ybaz.zeroValue55
  t53 := Ybaz.underlying113
  a53 := Ybaz.isAgg113
  z53 := Ybaz.sizeOf113
  v53 := Ybaz.zeroValue113
  t55 := Ybaz.underlying65
  a55 := Ybaz.isAgg65
  z55 := Ybaz.sizeOf65
  v55 := Ybaz.zeroValue65
  t66 := Ybaz.underlying126
  a66 := Ybaz.isAgg126
  z66 := Ybaz.sizeOf126
  v66 := Ybaz.zeroValue126
  t70 := Ybaz.underlying130
  a70 := Ybaz.isAgg130
  z70 := Ybaz.sizeOf130
  v70 := Ybaz.zeroValue130
  t76 := Ybaz.underlying150
  a76 := Ybaz.isAgg150
  z76 := Ybaz.sizeOf150
  v76 := Ybaz.zeroValue150
  t77 := Ybaz.underlying151
  a77 := Ybaz.isAgg151
  z77 := Ybaz.sizeOf151
  v77 := Ybaz.zeroValue151 }
end Go.Proofs
