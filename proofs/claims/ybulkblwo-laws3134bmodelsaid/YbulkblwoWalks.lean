import Derived.Test.YbulkblwoRows
import Derived.WalkKit
import Derived.ProofKit
import Derived.WalkLawsBesides
import Derived.Outline
namespace Go.Proofs.Ybulkblwo
open Go.RowKit

/-- The back length of n, as withBackLength's switch has it. -/
def bl (n : Int) : Int := if n < 128 then 1 else if n < 16383 then 2 else if n < 2097151 then 3 else if n < 268435455 then 4 else 5

theorem bl_1 {n : Int} (h : n < 128) : bl n = 1 := by unfold bl; rw [if_pos h]
theorem bl_2 {n : Int} (h : ¬ n < 128) (h2 : n < 16383) : bl n = 2 := by unfold bl; rw [if_neg h, if_pos h2]
theorem bl_3 {n : Int} (h : ¬ n < 16383) (h2 : n < 2097151) : bl n = 3 := by unfold bl; rw [if_neg (by omega), if_neg h, if_pos h2]
theorem bl_4 {n : Int} (h : ¬ n < 2097151) (h2 : n < 268435455) : bl n = 4 := by unfold bl; rw [if_neg (by omega), if_neg (by omega), if_neg h, if_pos h2]
theorem bl_5 {n : Int} (h : ¬ n < 268435455) : bl n = 5 := by unfold bl; rw [if_neg (by omega), if_neg (by omega), if_neg (by omega), if_neg h]

theorem ret_int {k : IntKind} {a b : Int} (h : a = b) : Ending.returned (.int k a) = .returned (.int k b) := by rw [h]

theorem w64 (n : Int) (h : -9223372036854775808 ≤ n ∧ n ≤ 9223372036854775807) : wrap64 n = n := by unfold wrap64; omega

theorem wbl_any (n : Int) (w : World) : Calls Yba.prog 6 #[.int .i64 n] w fun e w' => e = .returned (.int .i64 (wrap64 (n + bl n))) ∧ w' = w := by
  by_cases h1 : n < 128
  · rw [bl_1 h1]
    go_enter Yba.func6, Yba.ntmps6
    go_wp2
    go_ret
    exact ⟨rfl, rfl⟩
  by_cases h2 : n < 16383
  · rw [bl_2 h1 h2]
    go_enter Yba.func6, Yba.ntmps6
    go_wp2
    go_ret
    exact ⟨ret_int (w64 _ (by omega)).symm, rfl⟩
  by_cases h3 : n < 2097151
  · rw [bl_3 h2 h3]
    go_enter Yba.func6, Yba.ntmps6
    go_wp2
    go_ret
    exact ⟨ret_int (w64 _ (by omega)).symm, rfl⟩
  by_cases h4 : n < 268435455
  · rw [bl_4 h3 h4]
    go_enter Yba.func6, Yba.ntmps6
    go_wp2
    go_ret
    exact ⟨ret_int (w64 _ (by omega)).symm, rfl⟩
  · rw [bl_5 h4]
    go_enter Yba.func6, Yba.ntmps6
    go_wp2
    go_ret
    exact ⟨rfl, rfl⟩

theorem model_any (n : Int) (w : World) : Calls Yba.prog 7 #[.int .i64 n] w fun e w' => e = .returned (.int .i64 (wrap64 (n + bl n))) ∧ w' = w := by
  go_enter Yba.func7, Yba.ntmps7
  go_wp2
  go_loop [3] (fun i => (i = .int .i64 1) ∨ (i = .int .i64 2 ∧ ¬ n < 128) ∨ (i = .int .i64 3 ∧ ¬ n < 16383) ∨ (i = .int .i64 4 ∧ ¬ n < 2097151) ∨ (i = .int .i64 5 ∧ ¬ n < 268435455)) (fun i => 5 - (intOf i).toNat)
  case atStart => exact .inl rfl
  case round =>
    rcases hrel with rfl | ⟨rfl, h⟩ | ⟨rfl, h⟩ | ⟨rfl, h⟩ | ⟨rfl, h⟩
    · by_cases h1 : n < 128
      · go_wp2
        go_ret
        exact ⟨ret_int (by rw [bl_1 (n := n) (by omega)]), rfl⟩
      · go_wp2
        go_round
        case rel => exact .inr (.inl ⟨rfl, by omega⟩)
        case measure => simp [intOf]
    · by_cases h1 : n < 16383
      · go_wp2
        go_ret
        exact ⟨ret_int (by rw [bl_2 (n := n) (by omega) (by omega)]; exact (w64 _ (by omega)).symm), rfl⟩
      · go_wp2
        go_round
        case rel => exact .inr (.inr (.inl ⟨rfl, by omega⟩))
        case measure => simp [intOf]
    · by_cases h1 : n < 2097151
      · go_wp2
        go_ret
        exact ⟨ret_int (by rw [bl_3 (n := n) (by omega) (by omega)]; exact (w64 _ (by omega)).symm), rfl⟩
      · go_wp2
        go_round
        case rel => exact .inr (.inr (.inr (.inl ⟨rfl, by omega⟩)))
        case measure => simp [intOf]
    · by_cases h1 : n < 268435455
      · go_wp2
        go_ret
        exact ⟨ret_int (by rw [bl_4 (n := n) (by omega) (by omega)]; exact (w64 _ (by omega)).symm), rfl⟩
      · go_wp2
        go_round
        case rel => exact .inr (.inr (.inr (.inr ⟨rfl, by omega⟩)))
        case measure => simp [intOf]
    · go_wp2
      go_ret
      exact ⟨ret_int (by rw [bl_5 (n := n) (by omega)]), rfl⟩

/-- Where nothing wraps. -/
theorem wbl_in (n : Int) (h1 : -9223372036854775808 ≤ n) (h2 : n ≤ 9223372036854775802) (w : World) : Calls Yba.prog 6 #[.int .i64 n] w fun e w' => e = .returned (.int .i64 (n + bl n)) ∧ w' = w := by
  have hb : 1 ≤ bl n ∧ bl n ≤ 5 := by unfold bl; omega
  have := wbl_any n w
  rw [w64 (n + bl n) (by omega)] at this
  exact this
theorem wbl_at (n r : Int) (h : wrap64 (n + bl n) = r) (w : World) : Calls Yba.prog 6 #[.int .i64 n] w fun e w' => e = .returned (.int .i64 r) ∧ w' = w := by
  have := wbl_any n w
  rw [h] at this
  exact this
theorem ret_true {b : Bool} (h : b = true) : Ending.returned (.bool b) = .returned (.bool true) := by rw [h]
end Go.Proofs.Ybulkblwo
