import Derived.Test.YbulkbmdoGreatShelf
import Derived.Test.YbulkbmdoGreatRw
namespace Go.Proofs.YbulkbmdoGreat
open Go.RowKit Go.Shelf
set_option linter.unusedVariables false
theorem hid2 {p : Prop} (h : p) : Hid p := h

set_option maxHeartbeats 1000000 in
/-- slices.Compact of one id. -/
theorem compact_ids (a : Option Addr) (cap : Nat) (W : World) : Calls Ybaz.prog 81 #[.slice a 1 cap] W fun e w' => e = .returned (.slice a 1 cap) ∧ w' = W := by
  go_enter Ybaz.func81, Ybaz.ntmps81
  go_wp2
  go_ret
  exact ⟨rfl, rfl⟩

set_option maxRecDepth 100000 in
set_option maxHeartbeats 1000000 in
theorem isort_ids (a : Option Addr) (cap : Nat) (W : World) : Calls Ybaz.prog 121 #[.slice a 1 cap, .int .i64 0, .int .i64 1] W fun e w' => (∃ r, e = .returned r) ∧ w' = W := by
  go_enter Ybaz.func121, Ybaz.ntmps121
  go_wp2
  refine wp_loop_rounds 1 ?_
  rw [rounds_succ]
  go_wp2
  go_end0
  exact ⟨⟨_, rfl⟩, rfl⟩
set_option maxRecDepth 100000 in
set_option maxHeartbeats 1000000 in
theorem pdq_ids (a : Option Addr) (cap : Nat) (L : Int) (W : World) : Calls Ybaz.prog 110 #[.slice a 1 cap, .int .i64 0, .int .i64 1, .int .i64 L] W fun e w' => (∃ r, e = .returned r) ∧ w' = W := by
  have HL := hid2 (isort_ids a cap W)
  go_enter Ybaz.func110, Ybaz.ntmps110
  go_wp2
  refine wp_loop_rounds 1 ?_
  rw [rounds_succ]
  go_wp2_with (go_at_call 121; refine HL.out.mono ?_; rintro e w' ⟨⟨r, rfl⟩, hw⟩; obtain rfl : W = w' := hw.symm)
  refine bodyPost_ret (results_none rfl _ _ _) rfl ?_
  exact ⟨⟨_, rfl⟩, rfl⟩
set_option maxRecDepth 100000 in
set_option maxHeartbeats 1000000 in
/-- slices.Sort of one id. -/
theorem sort_ids (a : Option Addr) (cap : Nat) (W : World) : Calls Ybaz.prog 80 #[.slice a 1 cap] W fun e w' => (∃ r, e = .returned r) ∧ w' = W := by
  have HL := hid2 (Ybaz.bits_Len 1 W (by decide) (by decide))
  have HP := hid2 (pdq_ids a cap (Lib.bitLen (Int.toNat 1) : Int) W)
  go_enter Ybaz.func80, Ybaz.ntmps80
  go_wp2_with (first | (go_at_call 32; refine HL.out.mono ?_; rintro e w' ⟨rfl, hw⟩; obtain rfl : W = w' := hw.symm) | (go_at_call 110; refine HP.out.mono ?_; rintro e w' ⟨⟨r, rfl⟩, hw⟩; obtain rfl : W = w' := hw.symm))
  go_end0
  exact ⟨⟨_, rfl⟩, rfl⟩
end Go.Proofs.YbulkbmdoGreat
