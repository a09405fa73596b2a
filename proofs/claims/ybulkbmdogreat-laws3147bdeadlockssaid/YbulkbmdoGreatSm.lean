import Derived.Test.YbulkbmdoGreatBase
namespace Go.Proofs.YbulkbmdoGreat
open Go.RowKit
/-- Two rows of deadlocks that hold the same. -/
structure Same3 (w : World) (wb rb K : Nat) : Prop where
  each : ∀ i, i < K → ∃ (a b c d m l ca cb cc cd : Nat) (s t : Nat → ByteArray), m ≤ 1000 ∧ l ≤ 1000 ∧
    w.cell? ⟨wb, i * 3, none⟩ = some (.slice (some ⟨a, 0, none⟩) m ca) ∧ w.cell? ⟨wb, i * 3 + 1, none⟩ = some (.slice (some ⟨c, 0, none⟩) l cc) ∧ w.cell? ⟨wb, i * 3 + 2, none⟩ = some (.int .u8 2) ∧
    w.cell? ⟨rb, i * 3, none⟩ = some (.slice (some ⟨b, 0, none⟩) m cb) ∧ w.cell? ⟨rb, i * 3 + 1, none⟩ = some (.slice (some ⟨d, 0, none⟩) l cd) ∧ w.cell? ⟨rb, i * 3 + 2, none⟩ = some (.int .u8 2) ∧
    (∀ q, q < m → w.cell? ⟨a, q, none⟩ = some (.string (s q))) ∧ (∀ q, q < m → w.cell? ⟨b, q, none⟩ = some (.string (s q))) ∧ (∀ q, q < l → w.cell? ⟨c, q, none⟩ = some (.string (t q))) ∧ (∀ q, q < l → w.cell? ⟨d, q, none⟩ = some (.string (t q)))
end Go.Proofs.YbulkbmdoGreat
