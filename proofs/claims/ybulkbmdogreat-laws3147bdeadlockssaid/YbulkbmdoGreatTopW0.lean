import Derived.Test.YbulkbmdoGreatIds
namespace Go.Proofs.YbulkbmdoGreat
open Go.RowKit Go.Shelf
set_option linter.unusedVariables false

set_option maxHeartbeats 1000000 in
theorem cmp118 (W : World) : Calls Ybaz.prog 118 #[.int .i64 1, .int .i64 1] W fun e w' => e = .returned (.int .i64 0) ∧ w' = W := by
  have HL := hid2 (Ybaz.cmp_Compare_int 1 1 W)
  go_enter Ybaz.func118, Ybaz.ntmps118
  go_wp2
  go_ret
  exact ⟨rfl, rfl⟩

set_option maxRecDepth 100000 in
set_option maxHeartbeats 1000000 in
/-- slices.BinarySearchFunc(top, 1, ..), top empty. -/
theorem bs_zero (a : Option Addr) (cap : Nat) (W : World) : Calls Ybaz.prog 117 #[.slice a 0 cap, .int .i64 1, .func (.func 118) #[] #[]] W fun e w' => e = .returned (.tuple #[.int .i64 0, .bool false]) ∧ w' = W := by
  go_enter Ybaz.func117, Ybaz.ntmps117
  go_wp2
  refine wp_loop_rounds 1 ?_
  rw [rounds_succ]
  go_wp2
  refine bodyPost_ret (results_tmp2 rfl _ _ _) rfl ?_
  exact ⟨rfl, rfl⟩

set_option maxRecDepth 100000 in
set_option maxHeartbeats 1000000 in
/-- slices.BinarySearchFunc(top, 1, ..), top = [1]. -/
theorem bs_one (b cap : Nat) (W : World) (c0 : W.cell? ⟨b, 0, none⟩ = some (.int .i64 1)) : Calls Ybaz.prog 117 #[.slice (some ⟨b, 0, none⟩) 1 cap, .int .i64 1, .func (.func 118) #[] #[]] W fun e w' => e = .returned (.tuple #[.int .i64 0, .bool true]) ∧ w' = W := by
  have HC := hid2 (cmp118 W)
  go_enter Ybaz.func117, Ybaz.ntmps117
  go_wp2
  refine wp_loop_rounds 2 ?_
  rw [rounds_succ]
  go_wp2_with (go_at_call 118; refine HC.out.mono ?_; rintro e w' ⟨rfl, hw⟩; obtain rfl : W = w' := hw.symm)
  rw [rounds_succ]
  go_wp2_with (go_at_call 118; refine HC.out.mono ?_; rintro e w' ⟨rfl, hw⟩; obtain rfl : W = w' := hw.symm)
  refine bodyPost_ret (results_tmp2 rfl _ _ _) rfl ?_
  exact ⟨rfl, rfl⟩
end Go.Proofs.YbulkbmdoGreat
