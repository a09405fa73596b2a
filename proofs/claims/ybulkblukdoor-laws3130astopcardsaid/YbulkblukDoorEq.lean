import Derived.Test.YbulkblukDoorRows
import Derived.WalkKit
import Derived.ProofKit
import Derived.WalkLawsBesides
import Derived.Outline
import Derived.Deep.QuietTactic
import Derived.BigQuiet
namespace Go.Proofs.YbulkblukDoor
open Go.RowKit

/-- The slice value v holds the integers zs, all in memory. -/
def Row (k : IntKind) (w : World) (v : Value) (zs : List Int) : Prop :=
  ∃ a cap, v = .slice a zs.length cap ∧ (zs = [] ∨ ∃ b off, a = some ⟨b, off, none⟩ ∧ ∀ j, j < zs.length → w.cell? ⟨b, off + j, none⟩ = some (.int k (zs[j]?.getD 0)))

set_option maxHeartbeats 400000 in
theorem eq_nil (a c : Option Addr) (cap cap' : Nat) (w : World) :
    Calls Ybad.prog 7 #[.slice a 0 cap, .slice c 0 cap'] w fun e w' => e = .returned (.bool true) ∧ ∃ n, w' = w.drewN n := by
  go_enter Ybad.func7, Ybad.ntmps7
  go_wp2
  go_loopw [5] (fun i wr => i = .int .i64 0 ∧ wr = w) (fun _ _ => 0)
  case atStart => exact ⟨rfl, rfl⟩
  case round =>
    obtain ⟨rfl, rfl⟩ := hrel
    go_wp2
    go_ret
    exact ⟨rfl, 0, rfl⟩

set_option maxHeartbeats 400000 in
theorem eq_some (b off cap b' off' cap' : Nat) (zs : List Int) (hl : zs.length ≤ 1000000) (w : World)
    (h1 : ∀ j, j < zs.length → w.cell? ⟨b, off + j, none⟩ = some (.int .i32 (zs[j]?.getD 0)))
    (h2 : ∀ j, j < zs.length → w.cell? ⟨b', off' + j, none⟩ = some (.int .i32 (zs[j]?.getD 0))) :
    Calls Ybad.prog 7 #[.slice (some ⟨b, off, none⟩) zs.length cap, .slice (some ⟨b', off', none⟩) zs.length cap'] w fun e w' => e = .returned (.bool true) ∧ ∃ n, w' = w.drewN n := by
  go_enter Ybad.func7, Ybad.ntmps7
  go_wp2
  go_loopw [5] (fun i wr => ∃ k n : Nat, k ≤ zs.length ∧ i = .int .i64 k ∧ wr = w.drewN n) (fun i _ => zs.length - (intOf i).toNat)
  case atStart => exact ⟨0, 0, Nat.zero_le _, rfl, rfl⟩
  case round =>
    obtain ⟨k, n, hk, rfl, rfl⟩ := hrel
    by_cases hlt : k < zs.length
    · have c1 := h1 k hlt
      have c2 := h2 k hlt
      have : (0 : Int) ≤ (k : Int) := by omega
      have : (k : Int) < (zs.length : Int) := by omega
      go_wp2
      go_quiet (fail)
      go_wp2
      go_roundw
      case rel => exact ⟨k + 1, _, by omega, by go_num, rfl⟩
      case measure => simp [intOf]; omega
    · go_wp2
      go_ret
      exact ⟨rfl, n, rfl⟩

set_option maxHeartbeats 400000 in
theorem equal_nil (a c : Option Addr) (cap cap' : Nat) (w : World) :
    Calls Ybad.prog 9 #[.slice a 0 cap, .slice c 0 cap'] w fun e w' => e = .returned (.bool true) ∧ ∃ n, w' = w.drewN n := by
  go_enter Ybad.func9, Ybad.ntmps9
  go_wp2
  go_loopw [13] (fun i wr => i = .int .i64 0 ∧ wr = w) (fun _ _ => 0)
  case atStart => exact ⟨rfl, rfl⟩
  case round =>
    obtain ⟨rfl, rfl⟩ := hrel
    go_wp2
    go_ret
    exact ⟨rfl, 0, rfl⟩

set_option maxHeartbeats 400000 in
theorem equal_some (b off cap b' off' cap' : Nat) (zs : List Int) (hl : zs.length ≤ 1000000) (w : World)
    (h1 : ∀ j, j < zs.length → w.cell? ⟨b, off + j, none⟩ = some (.int .u64 (zs[j]?.getD 0)))
    (h2 : ∀ j, j < zs.length → w.cell? ⟨b', off' + j, none⟩ = some (.int .u64 (zs[j]?.getD 0))) :
    Calls Ybad.prog 9 #[.slice (some ⟨b, off, none⟩) zs.length cap, .slice (some ⟨b', off', none⟩) zs.length cap'] w fun e w' => e = .returned (.bool true) ∧ ∃ n, w' = w.drewN n := by
  go_enter Ybad.func9, Ybad.ntmps9
  go_wp2
  go_loopw [13] (fun i wr => ∃ k n : Nat, k ≤ zs.length ∧ i = .int .i64 k ∧ wr = w.drewN n) (fun i _ => zs.length - (intOf i).toNat)
  case atStart => exact ⟨0, 0, Nat.zero_le _, rfl, rfl⟩
  case round =>
    obtain ⟨k, n, hk, rfl, rfl⟩ := hrel
    by_cases hlt : k < zs.length
    · have c1 := h1 k hlt
      have c2 := h2 k hlt
      have : (0 : Int) ≤ (k : Int) := by omega
      have : (k : Int) < (zs.length : Int) := by omega
      go_wp2
      go_quiet (fail)
      go_wp2
      go_roundw
      case rel => exact ⟨k + 1, _, by omega, by go_num, rfl⟩
      case measure => simp [intOf]; omega
    · go_wp2
      go_ret
      exact ⟨rfl, n, rfl⟩

/-- Two rows of equal numbers. -/
theorem eq_rows {zs : List Int} (hl : zs.length ≤ 1000000) (w : World) (v v' : Value) (h1 : Row .i32 w v zs) (h2 : Row .i32 w v' zs) :
    Calls Ybad.prog 7 #[v, v'] w fun e w' => e = .returned (.bool true) ∧ ∃ n, w' = w.drewN n := by
  obtain ⟨a, cap, rfl, h1⟩ := h1
  obtain ⟨a', cap', rfl, h2⟩ := h2
  by_cases h0 : zs = []
  · subst h0; exact eq_nil _ _ _ _ _
  · obtain ⟨b, off, rfl, g1⟩ := h1.resolve_left h0
    obtain ⟨b', off', rfl, g2⟩ := h2.resolve_left h0
    exact eq_some b off cap b' off' cap' zs hl w g1 g2

theorem equal_rows {zs : List Int} (hl : zs.length ≤ 1000000) (w : World) (v v' : Value) (h1 : Row .u64 w v zs) (h2 : Row .u64 w v' zs) :
    Calls Ybad.prog 9 #[v, v'] w fun e w' => e = .returned (.bool true) ∧ ∃ n, w' = w.drewN n := by
  obtain ⟨a, cap, rfl, h1⟩ := h1
  obtain ⟨a', cap', rfl, h2⟩ := h2
  by_cases h0 : zs = []
  · subst h0; exact equal_nil _ _ _ _ _
  · obtain ⟨b, off, rfl, g1⟩ := h1.resolve_left h0
    obtain ⟨b', off', rfl, g2⟩ := h2.resolve_left h0
    exact equal_some b off cap b' off' cap' zs hl w g1 g2
end Go.Proofs.YbulkblukDoor
