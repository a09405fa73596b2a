/-
  The statements of deadlocks, of the law and of newReduction, by number; small facts.
-/
import Derived.Test.YbulkbmdoGreatEmit
namespace Go.Proofs.YbulkbmdoGreat
open Go.RowKit

noncomputable def bd7 : Code := Ybaz.f7.body.getD .skip
noncomputable def st7 (k : Nat) : Code := nthC k bd7
noncomputable def tl7 (k : Nat) : Code := tlC k bd7
noncomputable def bd3 : Code := Ybaz.f3.body.getD .skip
noncomputable def st3 (k : Nat) : Code := nthC k bd3
noncomputable def tl3 (k : Nat) : Code := tlC k bd3
noncomputable def bd6 : Code := Ybaz.f6.body.getD .skip
noncomputable def st6 (k : Nat) : Code := nthC k bd6
noncomputable def tl6 (k : Nat) : Code := tlC k bd6

/-- The search as deadlocks lays it. -/
def v0 (G R : Nat) : VSt := ⟨G, R, .slice none 0 0, .slice none 0 0, .slice none 0 0, .slice none 0 0, .slice none 0 0, .slice none 0 0, .slice none 0 0, .slice none 0 0, .slice none 0 0, .slice none 0 0, .slice none 0 0, .slice none 0 0, .slice none 0 0, .slice none 0 0, .slice none 0 0, .slice none 0 0, .int .i64 0, .slice none 0 0, .slice none 0 0, .slice none 0 0⟩

/-- Deadlocked, by the file's number. -/
def dq (g : GS) (gr : Nat → Bool) (p : Nat) : Bool := decide (0 ≤ g.root p) && !gr p
/-- The deadlocked among the first k, in the order of the file. -/
def fl (g : GS) (gr : Nat → Bool) (k : Nat) : List Nat := (List.range k).filter (dq g gr)
theorem fl_succ (g : GS) (gr : Nat → Bool) (k : Nat) : fl g gr (k + 1) = fl g gr k ++ if dq g gr k then [k] else [] := by
  unfold fl
  rw [List.range_succ, List.filter_append]
  by_cases h : dq g gr k = true <;> simp [h]
theorem fl_le (g : GS) (gr : Nat → Bool) (k : Nat) : (fl g gr k).length ≤ k := by
  have := List.length_filter_le (dq g gr) (List.range k)
  unfold fl; simpa using this
theorem fl_mem (g : GS) (gr : Nat → Bool) {k p : Nat} : p ∈ fl g gr k ↔ p < k ∧ dq g gr p = true := by unfold fl; simp

/-- What deadlocks asks of the graph and the reduction. -/
structure DC (o : Nat → Nat) (W : World) (R : Nat) (g : GS) (s : RS) (pv uv : Value) : Prop where
  r : RAt o W R s pv uv
  ga : GAt o W g
  hG : s.G = g.G
  hN : s.N = g.n
  hM : s.M = g.M
theorem DC.step {o o' : Nat → Nat} {W W' : World} {R : Nat} {g : GS} {s : RS} {pv uv : Value} {T : List Nat} (h : DC o W R g s pv uv) (hs : Step T o W o' W') (hn : ∀ t ∈ [1, 2, 3, 4, 10, 11, 12], t ∉ T) : DC o' W' R g s pv uv :=
  ⟨h.r.step hs (hn _ (by simp)) (hn _ (by simp)) (hn _ (by simp)) (hn _ (by simp)), h.ga.step hs (hn _ (by simp)) (hn _ (by simp)) (hn _ (by simp)), h.hG, h.hN, h.hM⟩
/-- The numbers of the graph are small, a dead one has one leaf. -/
structure DB (g : GS) (s : RS) : Prop where
  n : g.n ≤ 300
  M : g.M ≤ 300
  n0 : 0 < g.n
  lo : ∀ p, p < g.n → -1 ≤ g.root p ∧ g.root p ≤ 300
  one : ∀ p, p < g.n → 0 ≤ g.root p → g.fin p = g.root p + 1
end Go.Proofs.YbulkbmdoGreat
