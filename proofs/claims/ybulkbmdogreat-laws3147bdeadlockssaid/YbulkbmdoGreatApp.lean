import Derived.Test.YbulkbmdoGreatRw
namespace Go.Proofs.YbulkbmdoGreat
open Go.RowKit
set_option linter.unusedVariables false

/-- append(v, x), whatever room there is, at a type of one cell: what it comes to. -/
theorem Sl.app_gen {o : Nat → Nat} {W : World} {t : Nat} {v : Value} {xs : List Value} {e T : TypeId} {z : Value} {by8 : Nat} (hT : Ybaz.prog.underlying T = some (.slice e)) (hinf : (Ybaz.prog.info? e).map (fun i => (i.zero, i.size, i.bytes)) = some (some z, 1, by8)) (hzc : z.cells.size = 1) (hby : by8 ≤ 100) (h : Sl o W t e v xs) (hl : xs.length ≤ 100000) (x : Value) (hx : x.oneCell' = true) (tmp : TypeId) :
    ∃ (g cap : Nat) (w' : World), (Builtin.append_ #[T, T] T #[v, .slice (some ⟨W.heap.size, 0, none⟩) 1 1]).run Ybaz.prog (W.alloc (.cells #[x] tmp)) = .ok (.slice (some ⟨g, 0, none⟩) (xs.length + 1) cap) w' ∧ cap ≤ 9223372036854775807 ∧ ∃ o', Sl o' w' t e (.slice (some ⟨g, 0, none⟩) (xs.length + 1) cap) (xs ++ [x]) ∧ Step [t] o W o' w' := by
  obtain ⟨i0, hi0, hz0, hz1, hz2⟩ := info_parts hinf
  obtain ⟨v', w', hr, hown, hg, _, hat⟩ := run_append_own_at (P := Ybaz.prog) (W.alloc (.cells #[x] tmp)) 0 T T e i0 z 1 by8 hT hi0 hz0 hz1 hz2 hzc (by decide) v xs.length xs (h.row.alloc _) ⟨W.heap.size, 0, none⟩ 1 1 [x] rfl (cell_one_new W x tmp) (by simpa using hx) (by unfold maxLen; omega) (by have : (xs.length + 1) * by8 ≤ 100001 * 100 := Nat.mul_le_mul (by omega) hby; omega) (Nat.zero_le _)
  obtain ⟨g, cap, rfl⟩ := ownsRow_succ hown
  obtain ⟨o', sl, st⟩ := h.app hown (by simp) hg hat
  refine ⟨g, cap, w', hr, ?_, o', sl, st⟩
  rcases sl.form with ⟨h0, _⟩ | ⟨g2, cap2, h0, _, hm, _⟩
  · simp at h0
  · simp at h0
    rw [h0.2]; unfold maxLen at hm; omega

/-- append(v, x), whatever room there is: what it comes to. -/
theorem Sl.app_run {o : Nat → Nat} {W : World} {t : Nat} {v : Value} {xs : List Value} (h : Sl o W t 3 v xs) (hl : xs.length ≤ 100000) (x : Value) (hx : x.oneCell' = true) :
    ∃ (g cap : Nat) (w' : World), (Builtin.append_ #[24, 24] 24 #[v, .slice (some ⟨W.heap.size, 0, none⟩) 1 1]).run Ybaz.prog (W.alloc (.cells #[x] 3)) = .ok (.slice (some ⟨g, 0, none⟩) (xs.length + 1) cap) w' ∧ cap ≤ 9223372036854775807 ∧ ∃ o', Sl o' w' t 3 (.slice (some ⟨g, 0, none⟩) (xs.length + 1) cap) (xs ++ [x]) ∧ Step [t] o W o' w' := by
  obtain ⟨i0, hi0, hz0, hz1, hz2⟩ := info_parts info3
  obtain ⟨v', w', hr, hown, hg, _, hat⟩ := run_append_own_at (P := Ybaz.prog) (W.alloc (.cells #[x] 3)) 0 24 24 3 i0 (.int .i64 0) 1 8 Ybaz.underlying24 hi0 hz0 hz1 hz2 rfl (by decide) v xs.length xs (h.row.alloc _) ⟨W.heap.size, 0, none⟩ 1 1 [x] rfl (cell_one_new W x 3) (by simpa using hx) (by unfold maxLen; omega) (by omega) (Nat.zero_le _)
  obtain ⟨g, cap, rfl⟩ := ownsRow_succ hown
  obtain ⟨o', sl, st⟩ := h.app hown (by simp) hg hat
  refine ⟨g, cap, w', hr, ?_, o', sl, st⟩
  rcases sl.form with ⟨h0, _⟩ | ⟨g2, cap2, h0, _, hm, _⟩
  · simp at h0
  · simp at h0
    rw [h0.2]; unfold maxLen at hm; omega
end Go.Proofs.YbulkbmdoGreat
