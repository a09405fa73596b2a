/-
  DERIVED: THE SHELF's CONTRACTS AT THIS DUMP, IN PLAIN WORDS (tools/lay-plain.mjs out of 'YbulkbmdoGreatShelf.lean', which tools/lay-shelf.mjs wrote): THE SAME DECLARATIONS UNDER THE SAME NAMES: 'import', 'namespace', 'open', 'def', 'theorem' AND NOTHING ELSE: no command of the shelf's: FOR A HAND-IN. Each laying: the table of numbers ('.._ren') and one theorem, a field a fact of the dump's own or the kernel's comparison; each contract: ONE APPLICATION.
-/
import Derived.Shelf.Small.Bits
import Derived.Shelf.Small.Strs
import Derived.Shelf.Small.Wraps
import Derived.Shelf.Strconv.Itoa0
import Derived.Shelf.Sort.Plain
import Derived.Shelf.Slices.Reverse
import Derived.Ground.Names2Prog
import Derived.Shelf.Slices.Clone
import Derived.Shelf.Slices.CompactI
import Derived.Shelf.Slices.SearchI
import Derived.Shelf.Slices.Cells
import Derived.Shelf.Slices.In.SortNone
import Derived.Ground.SlgnProg
import Derived.Shelf.SlicesE.Clone
import Derived.Test.YbulkbmdoGreatProg
namespace Go.Proofs
open Go.Shelf
def Ybaz.lays128_ren : Go.Shelf.Ren := ⟨fun | 128 => 54 | n => n, fun | 51 => 113 | 3 => 3 | 4 => 4 | 46 => 81 | 5 => 5 | 9 => 9 | n => n, fun | n => n⟩
theorem Ybaz.lays128 : Go.Proofs.Lays.n128 Ybaz.prog Ybaz.lays128_ren := {
  mixed := by kernel_rfl
  f128 := Ybaz.func54.trans (congrArg some (by kernel_rfl))
  t3 := Ybaz.underlying3
  a3 := Ybaz.isAgg3
  z3 := Ybaz.sizeOf3
  v3 := Ybaz.zeroValue3
  t4 := Ybaz.underlying4
  a4 := Ybaz.isAgg4
  z4 := Ybaz.sizeOf4
  v4 := Ybaz.zeroValue4
  t5 := Ybaz.underlying5
  a5 := Ybaz.isAgg5
  z5 := Ybaz.sizeOf5
  v5 := Ybaz.zeroValue5
  t9 := Ybaz.underlying9
  a9 := Ybaz.isAgg9
  z9 := Ybaz.sizeOf9
  v9 := Ybaz.zeroValue9
  t46 := Ybaz.underlying81
  a46 := Ybaz.isAgg81
  z46 := Ybaz.sizeOf81
  v46 := Ybaz.zeroValue81
  t51 := Ybaz.underlying113
  a51 := Ybaz.isAgg113
  z51 := Ybaz.sizeOf113
  v51 := Ybaz.zeroValue113 }
/-- bits.Len32: "Len32 returns the minimum number of bits required to represent x; the result is 0 for x == 0.": IT RETURNS 'Lib.bitLen x'; the world is as it was. ('h0', 'h1': x is a uint32.) (LAID: no walk: one application.) -/
theorem Ybaz.bits_Len32 (x : Int) (w : World) (h0 : 0 ≤ x) (h1 : x ≤ 4294967295) :
    Calls Ybaz.prog 54 #[.int .u32 x] w fun e w' => e = .returned (.int .i64 (Lib.bitLen x.toNat)) ∧ w' = w := Any.bits_Len32 Ybaz.lays128 x w h0 h1
def Ybaz.lays125_ren : Go.Shelf.Ren := ⟨fun | 125 => 32 | 128 => 54 | 129 => 55 | n => n, fun | 46 => 81 | 3 => 3 | 51 => 113 | 53 => 65 | 4 => 4 | 5 => 5 | 9 => 9 | n => n, fun | n => n⟩
theorem Ybaz.lays125 : Go.Proofs.Lays.n125 Ybaz.prog Ybaz.lays125_ren := {
  mixed := by kernel_rfl
  f125 := Ybaz.func32.trans (congrArg some (by kernel_rfl))
  f128 := Ybaz.func54.trans (congrArg some (by kernel_rfl))
  f129 := Ybaz.func55.trans (congrArg some (by kernel_rfl))
  t3 := Ybaz.underlying3
  a3 := Ybaz.isAgg3
  z3 := Ybaz.sizeOf3
  v3 := Ybaz.zeroValue3
  t4 := Ybaz.underlying4
  a4 := Ybaz.isAgg4
  z4 := Ybaz.sizeOf4
  v4 := Ybaz.zeroValue4
  t5 := Ybaz.underlying5
  a5 := Ybaz.isAgg5
  z5 := Ybaz.sizeOf5
  v5 := Ybaz.zeroValue5
  t9 := Ybaz.underlying9
  a9 := Ybaz.isAgg9
  z9 := Ybaz.sizeOf9
  v9 := Ybaz.zeroValue9
  t46 := Ybaz.underlying81
  a46 := Ybaz.isAgg81
  z46 := Ybaz.sizeOf81
  v46 := Ybaz.zeroValue81
  t51 := Ybaz.underlying113
  a51 := Ybaz.isAgg113
  z51 := Ybaz.sizeOf113
  v51 := Ybaz.zeroValue113
  t53 := Ybaz.underlying65
  a53 := Ybaz.isAgg65
  z53 := Ybaz.sizeOf65
  v53 := Ybaz.zeroValue65 }
/-- bits.Len: "Len returns the minimum number of bits required to represent x; the result is 0 for x == 0.": IT RETURNS 'Lib.bitLen x'; the world is as it was. (A uint has 64 bits in the model.) ITS CALLEE bits.Len64 IS MET BY ITS OWN CONTRACT OFF THE SHELF (lay that first). (LAID: no walk: one application.) -/
theorem Ybaz.bits_Len (x : Int) (w : World) (h0 : 0 ≤ x) (h1 : x ≤ 18446744073709551615) :
    Calls Ybaz.prog 32 #[.int .u64 x] w fun e w' => e = .returned (.int .i64 (Lib.bitLen x.toNat)) ∧ w' = w := Any.bits_Len Ybaz.lays125 x w h0 h1
def Ybaz.lays213_ren : Go.Shelf.Ren := ⟨fun | 213 => 42 | 265 => 65 | n => n, fun | 9 => 9 | 3 => 3 | n => n, fun | n => n⟩
theorem Ybaz.lays213 : Go.Proofs.Lays.n213 Ybaz.prog Ybaz.lays213_ren := {
  mixed := by kernel_rfl
  f213 := Ybaz.func42.trans (congrArg some (by kernel_rfl))
  f265 := Ybaz.func65.trans (congrArg some (by kernel_rfl))
  t3 := Ybaz.underlying3
  a3 := Ybaz.isAgg3
  z3 := Ybaz.sizeOf3
  v3 := Ybaz.zeroValue3
  t9 := Ybaz.underlying9
  a9 := Ybaz.isAgg9
  z9 := Ybaz.sizeOf9
  v9 := Ybaz.zeroValue9 }
open Go.RowKit in
/-- internal/bytealg.CompareString (what strings.Compare calls): IT RETURNS 'Lib.compareBytes a b'; the world is as it was. (LAID: no walk: one application.) -/
theorem Ybaz.bytealg_CompareString (a b : ByteArray) (w : World) :
    Calls Ybaz.prog 42 #[.string a, .string b] w fun e w' => e = .returned (.int .i64 (Lib.compareBytes a.data.toList b.data.toList)) ∧ w' = w := Any.bytealg_CompareString Ybaz.lays213 a b w
def Ybaz.lays106_ren : Go.Shelf.Ren := ⟨fun | 106 => 26 | 213 => 42 | 265 => 65 | n => n, fun | 9 => 9 | 3 => 3 | n => n, fun | n => n⟩
theorem Ybaz.lays106 : Go.Proofs.Lays.n106 Ybaz.prog Ybaz.lays106_ren := {
  mixed := by kernel_rfl
  f106 := Ybaz.func26.trans (congrArg some (by kernel_rfl))
  f213 := Ybaz.func42.trans (congrArg some (by kernel_rfl))
  f265 := Ybaz.func65.trans (congrArg some (by kernel_rfl))
  t3 := Ybaz.underlying3
  a3 := Ybaz.isAgg3
  z3 := Ybaz.sizeOf3
  v3 := Ybaz.zeroValue3
  t9 := Ybaz.underlying9
  a9 := Ybaz.isAgg9
  z9 := Ybaz.sizeOf9
  v9 := Ybaz.zeroValue9 }
open Go.RowKit in
/-- strings.Compare: "Compare returns an integer comparing two strings lexicographically. The result will be 0 if a == b, -1 if a < b, and +1 if a > b.": IT RETURNS 'Lib.compareBytes a b'; the world is as it was. (LAID: no walk: one application.) -/
theorem Ybaz.strings_Compare (a b : ByteArray) (w : World) :
    Calls Ybaz.prog 26 #[.string a, .string b] w fun e w' => e = .returned (.int .i64 (Lib.compareBytes a.data.toList b.data.toList)) ∧ w' = w := Any.strings_Compare Ybaz.lays106 a b w
def Ybaz.lays215_ren : Go.Shelf.Ren := ⟨fun | 215 => 79 | n => n, fun | 3 => 3 | 4 => 4 | n => n, fun | n => n⟩
theorem Ybaz.lays215 : Go.Proofs.Lays.n215 Ybaz.prog Ybaz.lays215_ren := {
  mixed := by kernel_rfl
  f215 := Ybaz.func79.trans (congrArg some (by kernel_rfl))
  t3 := Ybaz.underlying3
  a3 := Ybaz.isAgg3
  z3 := Ybaz.sizeOf3
  v3 := Ybaz.zeroValue3
  t4 := Ybaz.underlying4
  a4 := Ybaz.isAgg4
  z4 := Ybaz.sizeOf4
  v4 := Ybaz.zeroValue4 }
open Go.RowKit in
/-- cmp.isNaN at int: 'x != x': false. (LAID: no walk: one application.) -/
theorem Ybaz.cmp_isNaN_int (x : Int) (w : World) :
    Calls Ybaz.prog 79 #[.int .i64 x] w fun e w' => e = .returned (.bool false) ∧ w' = w := Any.cmp_isNaN_int Ybaz.lays215 x w
def Ybaz.lays122_ren : Go.Shelf.Ren := ⟨fun | 122 => 87 | 215 => 79 | n => n, fun | 3 => 3 | 4 => 4 | n => n, fun | n => n⟩
theorem Ybaz.lays122 : Go.Proofs.Lays.n122 Ybaz.prog Ybaz.lays122_ren := {
  mixed := by kernel_rfl
  f122 := Ybaz.func87.trans (congrArg some (by kernel_rfl))
  f215 := Ybaz.func79.trans (congrArg some (by kernel_rfl))
  t3 := Ybaz.underlying3
  a3 := Ybaz.isAgg3
  z3 := Ybaz.sizeOf3
  v3 := Ybaz.zeroValue3
  t4 := Ybaz.underlying4
  a4 := Ybaz.isAgg4
  z4 := Ybaz.sizeOf4
  v4 := Ybaz.zeroValue4 }
open Go.RowKit in
/-- cmp.Compare at int: "Compare returns -1 if x is less than y, 0 if x equals y, +1 if x is greater than y.": IT RETURNS 'Lib.compareInt x y'; the world is as it was. (LAID: no walk: one application.) -/
theorem Ybaz.cmp_Compare_int (x y : Int) (w : World) :
    Calls Ybaz.prog 87 #[.int .i64 x, .int .i64 y] w fun e w' => e = .returned (.int .i64 (Lib.compareInt x y)) ∧ w' = w := Any.cmp_Compare_int Ybaz.lays122 x y w
def Ybaz.lays129_ren : Go.Shelf.Ren := ⟨fun | 129 => 55 | n => n, fun | 53 => 65 | 3 => 3 | 4 => 4 | 46 => 81 | 5 => 5 | 9 => 9 | n => n, fun | n => n⟩
theorem Ybaz.lays129 : Go.Proofs.Lays.n129 Ybaz.prog Ybaz.lays129_ren := {
  mixed := by kernel_rfl
  f129 := Ybaz.func55.trans (congrArg some (by kernel_rfl))
  t3 := Ybaz.underlying3
  a3 := Ybaz.isAgg3
  z3 := Ybaz.sizeOf3
  v3 := Ybaz.zeroValue3
  t4 := Ybaz.underlying4
  a4 := Ybaz.isAgg4
  z4 := Ybaz.sizeOf4
  v4 := Ybaz.zeroValue4
  t5 := Ybaz.underlying5
  a5 := Ybaz.isAgg5
  z5 := Ybaz.sizeOf5
  v5 := Ybaz.zeroValue5
  t9 := Ybaz.underlying9
  a9 := Ybaz.isAgg9
  z9 := Ybaz.sizeOf9
  v9 := Ybaz.zeroValue9
  t46 := Ybaz.underlying81
  a46 := Ybaz.isAgg81
  z46 := Ybaz.sizeOf81
  v46 := Ybaz.zeroValue81
  t53 := Ybaz.underlying65
  a53 := Ybaz.isAgg65
  z53 := Ybaz.sizeOf65
  v53 := Ybaz.zeroValue65 }
/-- bits.Len64: "Len64 returns the minimum number of bits required to represent x; the result is 0 for x == 0.": IT RETURNS 'Lib.bitLen x'; the world is as it was. ('h0', 'h1': x is a uint64.) (LAID: no walk: one application.) -/
theorem Ybaz.bits_Len64 (x : Int) (w : World) (h0 : 0 ≤ x) (h1 : x ≤ 18446744073709551615) :
    Calls Ybaz.prog 55 #[.int .u64 x] w fun e w' => e = .returned (.int .i64 (Lib.bitLen x.toNat)) ∧ w' = w := Any.bits_Len64 Ybaz.lays129 x w h0 h1
def Ybaz.lays189_ren : Go.Shelf.Ren := ⟨fun | 189 => 14 | 125 => 32 | 257 => 31 | 128 => 54 | 129 => 55 | 294 => 45 | 295 => 46 | 296 => 47 | 297 => 48 | 298 => 49 | 299 => 50 | 216 => 51 | 300 => 52 | 301 => 53 | 328 => 74 | 329 => 75 | 330 => 76 | 331 => 77 | 332 => 78 | 215 => 79 | 343 => 109 | n => n, fun | 28 => 24 | 3 => 3 | 46 => 81 | 0 => 0 | 51 => 113 | 53 => 65 | 4 => 4 | 183 => 107 | 182 => 106 | 131 => 55 | 5 => 5 | 9 => 9 | 218 => 126 | 222 => 130 | 228 => 150 | 229 => 151 | n => n, fun | n => n⟩
theorem Ybaz.lays189 : Go.Proofs.Lays.n189 Ybaz.prog Ybaz.lays189_ren := {
  mixed := by kernel_rfl
  f125 := Ybaz.func32.trans (congrArg some (by kernel_rfl))
  f128 := Ybaz.func54.trans (congrArg some (by kernel_rfl))
  f129 := Ybaz.func55.trans (congrArg some (by kernel_rfl))
  f189 := Ybaz.func14.trans (congrArg some (by kernel_rfl))
  f215 := Ybaz.func79.trans (congrArg some (by kernel_rfl))
  f216 := Ybaz.func51.trans (congrArg some (by kernel_rfl))
  f257 := Ybaz.func31.trans (congrArg some (by kernel_rfl))
  f294 := Ybaz.func45.trans (congrArg some (by kernel_rfl))
  f295 := Ybaz.func46.trans (congrArg some (by kernel_rfl))
  f296 := Ybaz.func47.trans (congrArg some (by kernel_rfl))
  f297 := Ybaz.func48.trans (congrArg some (by kernel_rfl))
  f298 := Ybaz.func49.trans (congrArg some (by kernel_rfl))
  f299 := Ybaz.func50.trans (congrArg some (by kernel_rfl))
  f300 := Ybaz.func52.trans (congrArg some (by kernel_rfl))
  f301 := Ybaz.func53.trans (congrArg some (by kernel_rfl))
  f328 := Ybaz.func74.trans (congrArg some (by kernel_rfl))
  f329 := Ybaz.func75.trans (congrArg some (by kernel_rfl))
  f330 := Ybaz.func76.trans (congrArg some (by kernel_rfl))
  f331 := Ybaz.func77.trans (congrArg some (by kernel_rfl))
  f332 := Ybaz.func78.trans (congrArg some (by kernel_rfl))
  f343 := Ybaz.func109.trans (congrArg some (by kernel_rfl))
  t0 := Ybaz.underlying0
  a0 := Ybaz.isAgg0
  z0 := Ybaz.sizeOf0
  v0 := Ybaz.zeroValue0
  t3 := Ybaz.underlying3
  a3 := Ybaz.isAgg3
  z3 := Ybaz.sizeOf3
  v3 := Ybaz.zeroValue3
  t4 := Ybaz.underlying4
  a4 := Ybaz.isAgg4
  z4 := Ybaz.sizeOf4
  v4 := Ybaz.zeroValue4
  t5 := Ybaz.underlying5
  a5 := Ybaz.isAgg5
  z5 := Ybaz.sizeOf5
  v5 := Ybaz.zeroValue5
  t9 := Ybaz.underlying9
  a9 := Ybaz.isAgg9
  z9 := Ybaz.sizeOf9
  v9 := Ybaz.zeroValue9
  t28 := Ybaz.underlying24
  a28 := Ybaz.isAgg24
  z28 := Ybaz.sizeOf24
  v28 := Ybaz.zeroValue24
  t46 := Ybaz.underlying81
  a46 := Ybaz.isAgg81
  z46 := Ybaz.sizeOf81
  v46 := Ybaz.zeroValue81
  t51 := Ybaz.underlying113
  a51 := Ybaz.isAgg113
  z51 := Ybaz.sizeOf113
  v51 := Ybaz.zeroValue113
  t53 := Ybaz.underlying65
  a53 := Ybaz.isAgg65
  z53 := Ybaz.sizeOf65
  v53 := Ybaz.zeroValue65
  t131 := Ybaz.underlying55
  a131 := Ybaz.isAgg55
  z131 := Ybaz.sizeOf55
  v131 := Ybaz.zeroValue55
  t182 := Ybaz.underlying106
  a182 := Ybaz.isAgg106
  z182 := Ybaz.sizeOf106
  v182 := Ybaz.zeroValue106
  t183 := Ybaz.underlying107
  a183 := Ybaz.isAgg107
  z183 := Ybaz.sizeOf107
  v183 := Ybaz.zeroValue107
  t218 := Ybaz.underlying126
  a218 := Ybaz.isAgg126
  z218 := Ybaz.sizeOf126
  v218 := Ybaz.zeroValue126
  t222 := Ybaz.underlying130
  a222 := Ybaz.isAgg130
  z222 := Ybaz.sizeOf130
  v222 := Ybaz.zeroValue130
  t228 := Ybaz.underlying150
  a228 := Ybaz.isAgg150
  z228 := Ybaz.sizeOf150
  v228 := Ybaz.zeroValue150
  t229 := Ybaz.underlying151
  a229 := Ybaz.isAgg151
  z229 := Ybaz.sizeOf151
  v229 := Ybaz.zeroValue151 }
open Go.Sort Go.RowKit in
theorem Ybaz.slices_Sort_int (blk off cap : Nat) (zs : List Int) (w : World) (hH : Holds (Value.int .i64) w blk off zs.toArray) (hblk : blk < w.heap.size) (hsz : zs.length < 4611686018427387904) :
    Calls Ybaz.prog 14 #[.slice (some ⟨blk, off, none⟩) zs.length cap] w fun e w' =>
      e = .returned (.tuple #[]) ∧ ∃ n os, w' = grow (putRow (Value.int .i64) (Sort.ahead w n) blk off (zs.mergeSort fun x y => decide (x ≤ y)).toArray) os := Any.slices_Sort_int Ybaz.lays189 blk off cap zs w hH hblk hsz
def Ybaz.lays112_ren : Go.Shelf.Ren := ⟨fun | 112 => 145 | n => n, fun | 28 => 24 | 3 => 3 | 4 => 4 | 0 => 0 | n => n, fun | n => n⟩
theorem Ybaz.lays112 : Go.Proofs.Lays.n112 Ybaz.prog Ybaz.lays112_ren := {
  mixed := by kernel_rfl
  f112 := Ybaz.func145.trans (congrArg some (by kernel_rfl))
  t0 := Ybaz.underlying0
  a0 := Ybaz.isAgg0
  z0 := Ybaz.sizeOf0
  v0 := Ybaz.zeroValue0
  t3 := Ybaz.underlying3
  a3 := Ybaz.isAgg3
  z3 := Ybaz.sizeOf3
  v3 := Ybaz.zeroValue3
  t4 := Ybaz.underlying4
  a4 := Ybaz.isAgg4
  z4 := Ybaz.sizeOf4
  v4 := Ybaz.zeroValue4
  t28 := Ybaz.underlying24
  a28 := Ybaz.isAgg24
  z28 := Ybaz.sizeOf24
  v28 := Ybaz.zeroValue24 }
open Go.RowKit Go.Lib Go.Sort in
/-- slices.Reverse at []int, over an array: Go's loop from the two ends inward is walked; it makes 'Sort.reverseLoop 0 (len - 1)', which is 'Array.reverse' (Derived/Lib/SlicesMore.lean). (LAID: no walk: one application.) -/
theorem Ybaz.slices_Reverse_int_arr (blk off cap : Nat) (d : Array Int) (w : World) (hH : Holds encI w blk off d) (hsz : d.size ≤ 9223372036854775807) :
    Calls Ybaz.prog 145 #[.slice (some ⟨blk, off, none⟩) d.size cap] w fun e w' => e = .returned (.tuple #[]) ∧ ∃ n, w' = putRow encI (Sort.ahead w n) blk off d.reverse := Any.slices_Reverse_int_arr Ybaz.lays112 blk off cap d w hH hsz
open Go.RowKit Go.Lib Go.Sort in
/-- slices.Reverse at []int: "Reverse reverses the elements of the slice in place.": THE SLICE's CELLS HOLD 'zs.reverse' BEHIND THE CALL; all else is as it was, but for the count of draws (the exchange 's[i], s[j] = s[j], s[i]' draws its order, once a round). IN THE WORDS OF slices.Sort's CONTRACT: 'Holds': the cells hold zs and none is frozen; 'putRow': the world with those cells holding another array. A slice of length 0 that is not nil is among them ('zs = []'); nil: '.._nil'. (LAID: no walk: one application.) -/
theorem Ybaz.slices_Reverse_int (blk off cap : Nat) (zs : List Int) (w : World) (hH : Holds (Value.int .i64) w blk off zs.toArray) (hsz : zs.length ≤ 9223372036854775807) :
    Calls Ybaz.prog 145 #[.slice (some ⟨blk, off, none⟩) zs.length cap] w fun e w' => e = .returned (.tuple #[]) ∧ ∃ n, w' = putRow (Value.int .i64) (Sort.ahead w n) blk off zs.reverse.toArray := Any.slices_Reverse_int Ybaz.lays112 blk off cap zs w hH hsz
open Go.RowKit Go.Lib Go.Sort in
/-- The same at a slice of length 0, a nil one too: nothing is read, nothing written, nothing drawn. (LAID: no walk: one application.) -/
theorem Ybaz.slices_Reverse_int_empty (a : Option Addr) (cap : Nat) (w : World) :
    Calls Ybaz.prog 145 #[.slice a 0 cap] w fun e w' => e = .returned (.tuple #[]) ∧ w' = w := Any.slices_Reverse_int_empty Ybaz.lays112 a cap w
def Ybaz.laysNm215_ren : Go.Shelf.Ren := ⟨fun | 15 => 84 | n => n, fun | 22 => 24 | 3 => 3 | 4 => 4 | n => n, fun | n => n⟩
theorem Ybaz.laysNm215 : Go.Proofs.Lays2.n15 Ybaz.prog Ybaz.laysNm215_ren := {
  mixed := by kernel_rfl
  f15 := Ybaz.func84.trans (congrArg some (by kernel_rfl))
  t3 := Ybaz.underlying3
  a3 := Ybaz.isAgg3
  z3 := Ybaz.sizeOf3
  v3 := Ybaz.zeroValue3
  t4 := Ybaz.underlying4
  a4 := Ybaz.isAgg4
  z4 := Ybaz.sizeOf4
  v4 := Ybaz.zeroValue4
  t22 := Ybaz.underlying24
  a22 := Ybaz.isAgg24
  z22 := Ybaz.sizeOf24
  v22 := Ybaz.zeroValue24
  i3 := by kernel_rfl }
open Go.RowKit Go.Lib in
/-- slices.Clone at []int: "Clone returns a copy of the slice. The elements are copied using assignment, so this is a shallow clone. The result may have additional unused capacity. The result preserves the nilness of s.": OF A SLICE THAT IS NOT nil IT RETURNS A SLICE THAT IS NOT nil, OF THE SAME ELEMENTS, IN MEMORY OF THE CALL's OWN: in the how-to's words (6f): 'w'.ownsRow B e 1 v' n cells': v' begins at the head of a row among the blocks from B on (B: the heap's size at the call), not frozen, whose first cells are the elements · 'Below B w w'': below B all is as it was. The capacity is whatever the run-time gives. 'zs': what the cells behind the slice's address hold; 'zs.take n': its elements. (LAID: no walk: one application.) -/
theorem Ybaz.slices_Clone_int (b off n c : Nat) (zs : List Int) (w : World) (hz : n ≤ zs.length) (hbig : n * 8 ≤ 140737488355328) (hc : ∀ j, j < zs.length → w.cell? ⟨b, off + j, none⟩ = some (.int .i64 (zs.getD j 0))) :
    Calls Ybaz.prog 84 #[.slice (some ⟨b, off, none⟩) n c] w fun e w' => ∃ v', e = .returned v' ∧ w'.ownsRow w.heap.size 3 1 v' n ((zs.take n).map (Value.int .i64)) ∧ v' ≠ .slice none 0 0 ∧ Below w.heap.size w w' := Any.slices_Clone_int Ybaz.laysNm215 b off n c zs w hz hbig hc
open Go.RowKit Go.Lib in
/-- The same at nil: nil comes back; the world is as it was. (LAID: no walk: one application.) -/
theorem Ybaz.slices_Clone_int_nil (n c : Nat) (w : World) :
    Calls Ybaz.prog 84 #[.slice none n c] w fun e w' => e = .returned (.slice none 0 0) ∧ w' = w := Any.slices_Clone_int_nil Ybaz.laysNm215 n c w
open Go.RowKit Go.Lib in
/-- The same at a slice of length 0 that is not nil, WHATEVER ITS ADDRESS (no cell is asked for): a slice that is not nil and owns nothing comes back. (LAID: no walk: one application.) -/
theorem Ybaz.slices_Clone_int_zero (a : Addr) (c : Nat) (w : World) :
    Calls Ybaz.prog 84 #[.slice (some a) 0 c] w fun e w' => ∃ v', e = .returned v' ∧ w'.ownsRow w.heap.size 3 1 v' 0 [] ∧ v' ≠ .slice none 0 0 ∧ Below w.heap.size w w' := Any.slices_Clone_int_zero Ybaz.laysNm215 a c w
def Ybaz.laysNm220_ren : Go.Shelf.Ren := ⟨fun | 20 => 15 | n => n, fun | 22 => 24 | 3 => 3 | 4 => 4 | 0 => 0 | n => n, fun | n => n⟩
theorem Ybaz.laysNm220 : Go.Proofs.Lays2.n20 Ybaz.prog Ybaz.laysNm220_ren := {
  mixed := by kernel_rfl
  f20 := Ybaz.func15.trans (congrArg some (by kernel_rfl))
  t0 := Ybaz.underlying0
  a0 := Ybaz.isAgg0
  z0 := Ybaz.sizeOf0
  v0 := Ybaz.zeroValue0
  t3 := Ybaz.underlying3
  a3 := Ybaz.isAgg3
  z3 := Ybaz.sizeOf3
  v3 := Ybaz.zeroValue3
  t4 := Ybaz.underlying4
  a4 := Ybaz.isAgg4
  z4 := Ybaz.sizeOf4
  v4 := Ybaz.zeroValue4
  t22 := Ybaz.underlying24
  a22 := Ybaz.isAgg24
  z22 := Ybaz.sizeOf24
  v22 := Ybaz.zeroValue24
  i3 := by kernel_rfl }
open Go.RowKit Go.Lib Go.Sort in
/-- slices.Compact at []int, over an array: the library's two loops are walked. (LAID: no walk: one application.) -/
theorem Ybaz.slices_Compact_int_arr (blk off cap : Nat) (d : Array Int) (w : World) (hH : Holds encI w blk off d) (hsz : d.size ≤ 9223372036854775807) (hcap : d.size ≤ cap) :
    Calls Ybaz.prog 15 #[.slice (some ⟨blk, off, none⟩) d.size cap] w fun e w' => e = .returned (.slice (some ⟨blk, off, none⟩) (compactUpTo d d.size).length cap) ∧ ∃ q, w' = putRow encI (Sort.ahead w q) blk off (compactUpTo d d.size ++ List.replicate (d.size - (compactUpTo d d.size).length) 0).toArray := Any.slices_Compact_int_arr Ybaz.laysNm220 blk off cap d w hH hsz hcap
open Go.RowKit Go.Lib Go.Sort in
/-- slices.Compact at []int: "Compact replaces consecutive runs of equal elements with a single copy. This is like the uniq command found on Unix. Compact modifies the contents of the slice s and returns the modified slice, which may have a smaller length. Compact zeroes the elements between the new length and the original length. The result preserves the nilness of s.": IT RETURNS THE SLICE CUT TO 'Lib.compact zs'; ITS CELLS HOLD 'Lib.compact zs', THEN ZERO VALUES up to the old length; all else is as it was, but for the count of draws. IN THE WORDS OF slices.Sort's CONTRACT ('Holds', 'putRow'): so the everyday 'slices.Sort(xs); xs = slices.Compact(xs)' goes from the one contract to the other. It asks 'zs.length ≤ cap' (every slice's: the reslicing 's[:k]' looks at it). Length 0, nil: '.._empty'. (LAID: no walk: one application.) -/
theorem Ybaz.slices_Compact_int (blk off cap : Nat) (zs : List Int) (w : World) (hH : Holds (Value.int .i64) w blk off zs.toArray) (hsz : zs.length ≤ 9223372036854775807) (hcap : zs.length ≤ cap) :
    Calls Ybaz.prog 15 #[.slice (some ⟨blk, off, none⟩) zs.length cap] w fun e w' => e = .returned (.slice (some ⟨blk, off, none⟩) (Lib.compact zs).length cap) ∧ ∃ q, w' = putRow (Value.int .i64) (Sort.ahead w q) blk off (Lib.compact zs ++ List.replicate (zs.length - (Lib.compact zs).length) 0).toArray := Any.slices_Compact_int Ybaz.laysNm220 blk off cap zs w hH hsz hcap
open Go.RowKit Go.Lib Go.Sort in
/-- The same at a slice of length 0, a nil one too: it comes back as it is. (LAID: no walk: one application.) -/
theorem Ybaz.slices_Compact_int_empty (a : Option Addr) (cap : Nat) (w : World) :
    Calls Ybaz.prog 15 #[.slice a 0 cap] w fun e w' => e = .returned (.slice a 0 cap) ∧ w' = w := Any.slices_Compact_int_empty Ybaz.laysNm220 a cap w
def Ybaz.laysNm237_ren : Go.Shelf.Ren := ⟨fun | 37 => 79 | n => n, fun | 3 => 3 | 4 => 4 | n => n, fun | n => n⟩
theorem Ybaz.laysNm237 : Go.Proofs.Lays2.n37 Ybaz.prog Ybaz.laysNm237_ren := {
  mixed := by kernel_rfl
  f37 := Ybaz.func79.trans (congrArg some (by kernel_rfl))
  t3 := Ybaz.underlying3
  a3 := Ybaz.isAgg3
  z3 := Ybaz.sizeOf3
  v3 := Ybaz.zeroValue3
  t4 := Ybaz.underlying4
  a4 := Ybaz.isAgg4
  z4 := Ybaz.sizeOf4
  v4 := Ybaz.zeroValue4 }
open Go.RowKit Go.Lib in
/-- cmp.isNaN[int]: 'x != x': false. (LAID: no walk: one application.) -/
theorem Ybaz.cmp_isNaN_int2 (x : Int) (w : World) :
    Calls Ybaz.prog 79 #[.int .i64 x] w fun e w' => e = .returned (.bool false) ∧ w' = w := Any.cmp_isNaN_int2 Ybaz.laysNm237 x w
def Ybaz.laysNm231_ren : Go.Shelf.Ren := ⟨fun | 31 => 51 | 37 => 79 | n => n, fun | 3 => 3 | 4 => 4 | n => n, fun | n => n⟩
theorem Ybaz.laysNm231 : Go.Proofs.Lays2.n31 Ybaz.prog Ybaz.laysNm231_ren := {
  mixed := by kernel_rfl
  f31 := Ybaz.func51.trans (congrArg some (by kernel_rfl))
  f37 := Ybaz.func79.trans (congrArg some (by kernel_rfl))
  t3 := Ybaz.underlying3
  a3 := Ybaz.isAgg3
  z3 := Ybaz.sizeOf3
  v3 := Ybaz.zeroValue3
  t4 := Ybaz.underlying4
  a4 := Ybaz.isAgg4
  z4 := Ybaz.sizeOf4
  v4 := Ybaz.zeroValue4 }
open Go.RowKit Go.Lib in
/-- cmp.Less[int]: "Less reports whether x is less than y.": 'x < y'; the world is as it was. (LAID: no walk: one application.) -/
theorem Ybaz.cmp_Less_int2 (x y : Int) (w : World) :
    Calls Ybaz.prog 51 #[.int .i64 x, .int .i64 y] w fun e w' => e = .returned (.bool (decide (x < y))) ∧ w' = w := Any.cmp_Less_int2 Ybaz.laysNm231 x y w
open Go.RowKit Go.Lib Go.Sort in
/-- slices.Reverse at []int, of an argument: the n cells hold the elements in reverse. (LAID: no walk: one application.) -/
theorem Ybaz.slices_Reverse_int_cells (b off n c : Nat) (zs : List Int) (w : World) (hz : n ≤ zs.length) (hbig : n ≤ 9223372036854775807) (hc : ∀ j, j < zs.length → w.cell? ⟨b, off + j, none⟩ = some (.int .i64 (zs.getD j 0))) (hf : ∀ j, j < n → w.frozen? ⟨b, off + j, none⟩ = false) :
    Calls Ybaz.prog 145 #[.slice (some ⟨b, off, none⟩) n c] w fun e w' => e = .returned (.tuple #[]) ∧ ∃ q, w' = (w.drewN q).setCells b off ((zs.take n).reverse.map (Value.int .i64)) := Any.slices_Reverse_int_cells Ybaz.lays112 b off n c zs w hz hbig hc hf
open Go.RowKit Go.Lib Go.Sort in
/-- slices.Compact at []int, of an argument: the slice cut to 'Lib.compact (elements)'; the n cells hold that, then zeros. (LAID: no walk: one application.) -/
theorem Ybaz.slices_Compact_int_cells (b off n c : Nat) (zs : List Int) (w : World) (hz : n ≤ zs.length) (hbig : n ≤ 9223372036854775807) (hcap : n ≤ c) (hc : ∀ j, j < zs.length → w.cell? ⟨b, off + j, none⟩ = some (.int .i64 (zs.getD j 0))) (hf : ∀ j, j < n → w.frozen? ⟨b, off + j, none⟩ = false) :
    Calls Ybaz.prog 15 #[.slice (some ⟨b, off, none⟩) n c] w fun e w' => e = .returned (.slice (some ⟨b, off, none⟩) (Lib.compact (zs.take n)).length c) ∧ ∃ q, w' = (w.drewN q).setCells b off ((Lib.compact (zs.take n) ++ List.replicate (n - (Lib.compact (zs.take n)).length) 0).map (Value.int .i64)) := Any.slices_Compact_int_cells Ybaz.laysNm220 b off n c zs w hz hbig hcap hc hf
open Go.RowKit Go.Sort in
/-- .. and plain. (LAID: no walk: one application.) -/
theorem Ybaz.slices_Sort_int_none (p : Option Addr) (cap : Nat) (w : World) :
    Calls Ybaz.prog 14 #[.slice p 0 cap] w fun e w' => e = .returned (.tuple #[]) ∧ w' = w := Any.slices_Sort_int_none Ybaz.lays189 p cap w
def Ybaz.laysSlE041_f84_ren : Go.Shelf.Ren := ⟨fun | 41 => 84 | n => n, fun | 22 => 24 | 23 => 3 | 4 => 4 | n => n, fun | n => n⟩
theorem Ybaz.laysSlE041_f84 : Go.Proofs.SlLaysE0.n41 Ybaz.prog Ybaz.laysSlE041_f84_ren := {
  mixed := by kernel_rfl
  f41 := ⟨Ybaz.f84.name, by decide, Ybaz.func84.trans (congrArg some (by kernel_rfl))⟩
  t4 := Ybaz.underlying4
  a4 := Ybaz.isAgg4
  z4 := Ybaz.sizeOf4
  v4 := Ybaz.zeroValue4
  t22 := Ybaz.underlying24
  a22 := Ybaz.isAgg24
  z22 := Ybaz.sizeOf24
  v22 := Ybaz.zeroValue24 }
open Go.RowKit Go.Lib in
/-- slices.Clone: "Clone returns a copy of the slice. The elements are copied using assignment, so this is a shallow clone. The result may have additional unused capacity. The result preserves the nilness of s.": OF A SLICE THAT IS NOT nil IT RETURNS A SLICE THAT IS NOT nil, OF THE SAME CELLS, IN MEMORY OF THE CALL's OWN ('ownsRow': the how-to's 6f); below the heap's size at the call all is as it was. (LAID AT THE INSTANCE 'slices.Clone[[]int,int]': no walk: one application.) -/
theorem Ybaz.slices_Clone (i0 : TypeInfo) (z : Value) (size bytes : Nat) (hi : Ybaz.prog.info? 3 = some i0) (hz0 : i0.zero = some z) (hz1 : i0.size = size) (hz2 : i0.bytes = bytes) (hzs : z.cells.size = size) (hsz : 0 < size) (z23 : ∀ w, (Go.sizeOf 3).run Ybaz.prog w = .ok size w) (b off n c : Nat) (news : List Value) (w : World) (hl : news.length = n * size) (hn : n ≤ maxLen) (hbig : n * bytes ≤ 140737488355328) (hc : ∀ j u, news[j]? = some u → w.cell? ⟨b, off + j, none⟩ = some u) (h1 : ∀ u ∈ news, u.oneCell' = true) :
    Calls Ybaz.prog 84 #[.slice (some ⟨b, off, none⟩) n c] w fun e w' => ∃ v', e = .returned v' ∧ w'.ownsRow w.heap.size 3 size v' n news ∧ v' ≠ .slice none 0 0 ∧ Below w.heap.size w w' := AnyE.slices_Clone Ybaz.laysSlE041_f84 i0 z size bytes hi hz0 hz1 hz2 hzs hsz z23 b off n c news w hl hn hbig hc h1
open Go.RowKit Go.Lib in
/-- The same at nil: nil comes back; the world is as it was; nothing is asked of the element's type. (LAID AT THE INSTANCE 'slices.Clone[[]int,int]': no walk: one application.) -/
theorem Ybaz.slices_Clone_nil (n c : Nat) (w : World) :
    Calls Ybaz.prog 84 #[.slice none n c] w fun e w' => e = .returned (.slice none 0 0) ∧ w' = w := AnyE.slices_Clone_nil Ybaz.laysSlE041_f84 n c w
end Go.Proofs
