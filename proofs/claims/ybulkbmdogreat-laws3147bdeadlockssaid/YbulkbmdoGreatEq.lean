import Derived.Test.YbulkbmdoGreatBase
import Derived.Test.YbulkbmdoGreatL1
namespace Go.Proofs.YbulkbmdoGreat
open Go.RowKit
set_option linter.unusedVariables false
set_option linter.unusedSimpArgs false
attribute [local go_sem ↓] Go.wp_at_zero Go.wp_at_succ

set_option maxRecDepth 1000000 in
set_option maxHeartbeats 4000000 in
theorem equal_any (W : World) (g h m c1 c2 : Nat) (s : Nat → ByteArray) (hm : m ≤ 1000) (hg : ∀ i, i < m → W.cell? ⟨g, i, none⟩ = some (.string (s i))) (hh : ∀ i, i < m → W.cell? ⟨h, i, none⟩ = some (.string (s i))) :
    Calls Ybaz.prog 8 #[.slice (some ⟨g, 0, none⟩) m c1, .slice (some ⟨h, 0, none⟩) m c2] W fun e w' => e = .returned (.bool true) ∧ ∃ q, w' = W.drewN q := by
  have HH := hid (And.intro hg hh)
  clear hg hh
  go_enter Ybaz.func8, Ybaz.ntmps8
  go_wp2
  go_loopw [13] (fun c wr => ∃ (k q : Nat), wr = W.drewN q ∧ k ≤ m ∧ c = .int .i64 (k : Int)) (fun c _ => m - (intOf c).toNat)
  case atStart => exact ⟨0, 0, by simp [World.drewN], Nat.zero_le _, rfl⟩
  case round =>
    obtain ⟨k, q, hw, hk, rfl⟩ := hrel
    by_cases hk2 : k < m
    · have b1 : (k : Int) < (m : Int) := by omega
      have x1 : wr.cell? ⟨g, k, none⟩ = some (.string (s k)) := by rw [hw]; exact HH.out.1 k hk2
      have x2 : wr.cell? ⟨h, k, none⟩ = some (.string (s k)) := by rw [hw]; exact HH.out.2 k hk2
      have wk : IntKind.i64.wrap ((k : Int) + 1) = (k : Int) + 1 := by rw [IntKind.wrap_i64]; omega
      have HW := hid hw
      clear hw
      go_wp2
      go_quiet (fail)
      go_wp2
      go_roundw
      case rel => exact ⟨k + 1, q + nq, by rw [HW.out]; simp [World.drewN, Nat.add_assoc], by omega, by go_num⟩
      case measure => simp [intOf]; omega
    · obtain rfl : k = m := by omega
      have b1 : ¬ (k : Int) < (k : Int) := by omega
      go_wp2
      go_ret
      exact ⟨rfl, q, rfl⟩
end Go.Proofs.YbulkbmdoGreat
