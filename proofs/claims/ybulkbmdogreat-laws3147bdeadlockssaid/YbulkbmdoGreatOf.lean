import Derived.Test.YbulkbmdoGreatHolds
namespace Go.Proofs.YbulkbmdoGreat
open Go.RowKit
set_option linter.unusedVariables false

set_option maxHeartbeats 1000000 in
/-- l.of(i): the part of items from first[i] to first[i+1]. -/
theorem of_some (B off fb ib K L cap i x y : Nat) (W : World) (h0 : W.cell? ⟨B, off, none⟩ = some (.slice (some ⟨fb, 0, none⟩) K K)) (h1 : W.cell? ⟨B, off + 1, none⟩ = some (.slice (some ⟨ib, 0, none⟩) L cap))
    (hx : W.cell? ⟨fb, i, none⟩ = some (.int .i64 (x : Int))) (hy : W.cell? ⟨fb, i + 1, none⟩ = some (.int .i64 (y : Int))) (hi : i + 1 < K) (hK : K ≤ 1000) (hxy : x ≤ y) (hyc : y ≤ cap) (hxc : x < cap) :
    Calls Ybaz.prog 17 #[.pointer (some ⟨B, off, none⟩), .int .i64 (i : Int)] W fun e w' => e = .returned (.slice (some ⟨ib, x, none⟩) (y - x) (cap - x)) ∧ ∃ n, w' = W.drewN n := by
  have b1 : (0 : Int) ≤ (i : Int) := by omega
  have b2 : (i : Int) < (K : Int) := by omega
  have b3 : (i : Int) + 1 < (K : Int) := by omega
  have b4 : (x : Int) ≤ (y : Int) := by omega
  have b5 : (y : Int) ≤ (cap : Int) := by omega
  go_enter Ybaz.func17, Ybaz.ntmps17
  go_wp2
  go_quiet (fail)
  go_wp2
  go_ret
  exact ⟨rfl, nq, rfl⟩

set_option maxHeartbeats 1000000 in
theorem of_none (B off fb ib K L cap i : Nat) (W : World) (h0 : W.cell? ⟨B, off, none⟩ = some (.slice (some ⟨fb, 0, none⟩) K K)) (h1 : W.cell? ⟨B, off + 1, none⟩ = some (.slice (some ⟨ib, 0, none⟩) L cap))
    (hx : W.cell? ⟨fb, i, none⟩ = some (.int .i64 (cap : Int))) (hy : W.cell? ⟨fb, i + 1, none⟩ = some (.int .i64 (cap : Int))) (hi : i + 1 < K) (hK : K ≤ 1000) :
    Calls Ybaz.prog 17 #[.pointer (some ⟨B, off, none⟩), .int .i64 (i : Int)] W fun e w' => (∃ a c, e = .returned (.slice a 0 c)) ∧ ∃ n, w' = W.drewN n := by
  have b1 : (0 : Int) ≤ (i : Int) := by omega
  have b2 : (i : Int) < (K : Int) := by omega
  have b3 : (i : Int) + 1 < (K : Int) := by omega
  go_enter Ybaz.func17, Ybaz.ntmps17
  go_wp2
  go_quiet (fail)
  go_wp2
  go_ret
  exact ⟨⟨_, _, rfl⟩, nq, rfl⟩

/-- l.of(i): the part of items from first[i] to first[i+1]. -/
theorem of_any (B off fb ib K L cap i x y : Nat) (W : World) (h0 : W.cell? ⟨B, off, none⟩ = some (.slice (some ⟨fb, 0, none⟩) K K)) (h1 : W.cell? ⟨B, off + 1, none⟩ = some (.slice (some ⟨ib, 0, none⟩) L cap))
    (hx : W.cell? ⟨fb, i, none⟩ = some (.int .i64 (x : Int))) (hy : W.cell? ⟨fb, i + 1, none⟩ = some (.int .i64 (y : Int))) (hi : i + 1 < K) (hK : K ≤ 1000) (hxy : x ≤ y) (hyc : y ≤ cap) :
    Calls Ybaz.prog 17 #[.pointer (some ⟨B, off, none⟩), .int .i64 (i : Int)] W fun e w' => (∃ a c, e = .returned (.slice a (y - x) c) ∧ (x < y → a = some ⟨ib, x, none⟩)) ∧ ∃ n, w' = W.drewN n := by
  by_cases hxc : x < cap
  · refine (of_some B off fb ib K L cap i x y W h0 h1 hx hy hi hK hxy hyc hxc).mono ?_
    rintro e w' ⟨rfl, hw⟩
    exact ⟨⟨_, _, rfl, fun _ => rfl⟩, hw⟩
  · obtain rfl : x = cap := by omega
    obtain rfl : y = x := by omega
    refine (of_none B off fb ib K L _ i W h0 h1 hx hy hi hK).mono ?_
    rintro e w' ⟨⟨a, c, rfl⟩, hw⟩
    exact ⟨⟨a, c, by rw [Nat.sub_self], fun h => by omega⟩, hw⟩
end Go.Proofs.YbulkbmdoGreat
