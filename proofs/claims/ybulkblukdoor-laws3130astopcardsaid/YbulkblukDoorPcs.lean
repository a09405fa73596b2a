import Derived.Test.YbulkblukDoorRows
import Derived.WalkKit
import Derived.ProofKit
import Derived.WalkLawsBesides
import Derived.Outline
import Derived.Deep.OwnRows
namespace Go.Proofs.YbulkblukDoor
open Go.RowKit Go.Deep

theorem info21 : (Ybad.prog.info? 21).map (fun i => (i.zero, i.size, i.bytes)) = some (some (.int .i32 0), 1, 4) := by kernel_rfl
theorem info49 : (Ybad.prog.info? 49).map (fun i => (i.zero, i.size, i.bytes)) = some (some (.int .u64 0), 1, 8) := by kernel_rfl

/-- Every cell an int32. -/
def AllI (c : Array Value) : Prop := ∀ j, j < c.size → ∃ z, c[j]? = some (.int .i32 z)
theorem AllI.made (n : Nat) : AllI (madeCells #[.int .i32 0] n) := by
  intro j hj
  refine ⟨0, ?_⟩
  rw [← Array.getElem?_toList, toList_madeCells_one]
  rw [size_madeCells] at hj
  simp [hj]
theorem AllI.set {c : Array Value} (h : AllI c) (i : Nat) (z : Int) : AllI (c.setIfInBounds i (.int .i32 z)) := by
  intro j hj
  rw [Array.size_setIfInBounds] at hj
  by_cases e : i = j
  · subst e
    exact ⟨z, by simp [hj]⟩
  · obtain ⟨z', hz⟩ := h j hj
    exact ⟨z', by rw [Array.getElem?_setIfInBounds_ne e]; exact hz⟩

set_option maxHeartbeats 1000000 in
theorem pcs_nil (a : Option Addr) (cap n : Nat) (hn : n ≤ 1000000) (w : World) :
    Calls Ybad.prog 5 #[.int .i64 n, .slice a 0 cap] w fun e w' => e = .returned (.slice (some ⟨w.heap.size, 0, none⟩) n n) ∧ ∃ cur : Array Value, cur.size = n ∧ AllI cur ∧ w' = w.alloc (.cells cur 21) := by
  have hmk := run_make_row' (P := Ybad.prog) 23 21 (.int .i32 0) 4 Ybad.underlying23 info21 rfl .i64 .i64 n (by omega) (by omega)
  go_enter Ybad.func5, Ybad.ntmps5
  go_wp2
  go_loopw [6] (fun i wr => ∃ (k : Nat) (cur : Array Value), k ≤ n ∧ i = .int .i64 k ∧ cur.size = n ∧ AllI cur ∧ wr = w.alloc (.cells cur 21)) (fun i _ => n - (intOf i).toNat)
  case atStart => exact ⟨0, _, Nat.zero_le _, rfl, size_madeCells _ _, AllI.made n, rfl⟩
  case round =>
    obtain ⟨k, cur, hk, rfl, hsz, hall, rfl⟩ := hrel
    by_cases hlt : k < n
    · obtain ⟨z, hz⟩ := hall k (by omega)
      go_wp2
      go_roundw
      case rel => exact ⟨k + 1, _, by omega, by go_num, by simpa using hsz, hall.set _ _, rfl⟩
      case measure => simp [intOf]; omega
    · go_wp2
      go_ret
      exact ⟨rfl, cur, hsz, hall, rfl⟩

set_option maxHeartbeats 1000000 in
theorem pcs_some (b off m cap n : Nat) (hn : n ≤ 1000000) (hm0 : 0 < m) (hm : m ≤ 1024) (vs : Nat → Int) (w : World) (hc : ∀ j, j < m → w.cell? ⟨b, off + j, none⟩ = some (.int .i32 (vs j))) :
    Calls Ybad.prog 5 #[.int .i64 n, .slice (some ⟨b, off, none⟩) m cap] w fun e w' => e = .returned (.slice (some ⟨w.heap.size, 0, none⟩) n n) ∧ ∃ cur : Array Value, cur.size = n ∧ AllI cur ∧ w' = w.alloc (.cells cur 21) := by
  have hmk := run_make_row' (P := Ybad.prog) 23 21 (.int .i32 0) 4 Ybad.underlying23 info21 rfl .i64 .i64 n (by omega) (by omega)
  have hb : b < w.heap.size := World.block_lt_of_cell? _ _ (hc 0 hm0)
  have hm1 : ((m : Int) == 0) = false := by simp; omega
  go_enter Ybad.func5, Ybad.ntmps5
  go_wp2
  go_loopw [6] (fun i wr => ∃ (k : Nat) (cur : Array Value), k ≤ n ∧ i = .int .i64 k ∧ cur.size = n ∧ AllI cur ∧ wr = w.alloc (.cells cur 21)) (fun i _ => n - (intOf i).toNat)
  case atStart => exact ⟨0, _, Nat.zero_le _, rfl, size_madeCells _ _, AllI.made n, rfl⟩
  case round =>
    obtain ⟨k, cur, hk, rfl, hsz, hall, rfl⟩ := hrel
    by_cases hlt : k < n
    · obtain ⟨z, hz⟩ := hall k (by omega)
      have hml : k % m < m := Nat.mod_lt _ hm0
      have hck := hc (k % m) hml
      go_wp2
      go_roundw
      case rel => exact ⟨k + 1, _, by omega, by go_num, by simpa using hsz, hall.set _ _, rfl⟩
      case measure => simp [intOf]; omega
    · go_wp2
      go_ret
      exact ⟨rfl, cur, hsz, hall, rfl⟩
end Go.Proofs.YbulkblukDoor
