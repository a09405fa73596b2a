import Derived.Test.YbulkbmdoGreatS3
namespace Go.Proofs.YbulkbmdoGreat
open Go.RowKit
set_option linter.unusedVariables false

structure SK (o : Nat → Nat) (W : World) (t : Nat) (e : TypeId) (v : Value) (n : Nat) (xs : List Value) : Prop where
  row : W.ownsRow 0 e 3 v n xs
  tag : ∀ b, v.ownBlock = some b → o b = t
namespace SK
variable {o o' : Nat → Nat} {W W' : World} {t : Nat} {e : TypeId} {v : Value} {n : Nat} {xs : List Value}
theorem lt (h : SK o W t e v n xs) {b : Nat} (hb : v.ownBlock = some b) : b < W.heap.size := by
  rcases h.row.2 with ⟨rfl, _⟩ | ⟨g, cap, cur, rfl, _, hg, _⟩
  · simp [Value.ownBlock] at hb
  · simp [Value.ownBlock] at hb; subst hb; exact (Array.getElem?_eq_some_iff.1 hg).1
theorem step {T : List Nat} (h : SK o W t e v n xs) (hs : Step T o W o' W') (hn : t ∉ T) : SK o' W' t e v n xs := by
  refine ⟨?_, fun b hb => (hs.own b (h.lt hb)).trans (h.tag b hb)⟩
  refine ⟨h.row.1, ?_⟩
  rcases h.row.2 with h0 | ⟨g, cap, cur, rfl, hb, hg, r⟩
  · exact .inl h0
  · have ht : o g = t := h.tag g rfl
    exact .inr ⟨g, cap, cur, rfl, hb, (hs.block g (Array.getElem?_eq_some_iff.1 hg).1 (by rw [ht]; exact hn)).trans hg, r⟩
theorem nil (o : Nat → Nat) (W : World) (t : Nat) (e : TypeId) : SK o W t e (.slice none 0 0) 0 [] := ⟨World.ownsRow_nil _ _ _ _, fun _ hb => by simp [Value.ownBlock] at hb⟩
theorem some_of (h : SK o W t e v n xs) (hn : 0 < n) : ∃ g cap, v = .slice (some ⟨g, 0, none⟩) n cap ∧ n ≤ cap ∧ cap ≤ maxLen ∧ o g = t ∧ g < W.heap.size := by
  rcases h.row.2 with ⟨_, h0⟩ | ⟨g, cap, cur, rfl, _, hg, h1, h2, _⟩
  · omega
  · exact ⟨g, cap, rfl, h1, h2, h.tag g rfl, (Array.getElem?_eq_some_iff.1 hg).1⟩
theorem cell {g cap : Nat} (h : SK o W t e (.slice (some ⟨g, 0, none⟩) n cap) n xs) (j : Nat) (hj : j < n * 3) : W.cell? ⟨g, j, none⟩ = xs[j]? := by
  rcases h.row.2 with ⟨h0, _⟩ | ⟨g', cap', cur, h0, _, hg, _, _, h3, h4⟩
  · simp at h0
  · simp at h0
    obtain ⟨rfl, rfl⟩ := h0
    rw [← h4, List.getElem?_take_of_lt hj]
    simp [World.cell?, hg]
theorem frozen {g cap : Nat} (h : SK o W t e (.slice (some ⟨g, 0, none⟩) n cap) n xs) (j : Nat) : W.frozen? ⟨g, j, none⟩ = false := by
  rcases h.row.2 with ⟨h0, _⟩ | ⟨g', cap', cur, h0, _, hg, _⟩
  · simp at h0
  · simp at h0; obtain ⟨rfl, _⟩ := h0; simp [World.frozen?, hg]
theorem set {g cap : Nat} (h : SK o W t e (.slice (some ⟨g, 0, none⟩) n cap) n xs) (i : Nat) (u : Value) : SK o (W.setCell ⟨g, i, none⟩ u) t e (.slice (some ⟨g, 0, none⟩) n cap) n (xs.set i u) := by
  refine ⟨?_, h.tag⟩
  rcases h.row.2 with ⟨h0, _⟩ | ⟨g', cap', cur, h0, hb, hg, h1, h2, h3, h4⟩
  · simp at h0
  · simp at h0
    obtain ⟨rfl, rfl⟩ := h0
    refine ⟨by simpa using h.row.1, .inr ⟨g, cap, cur.setIfInBounds i u, rfl, hb, (Ob.set (o := o) (t := o g) ⟨hg, rfl⟩ i u).blk, h1, h2, by simpa using h3, ?_⟩⟩
    rw [Array.toList_setIfInBounds, List.take_set, h4]
theorem sset {g cap : Nat} (h : SK o W t e (.slice (some ⟨g, 0, none⟩) n cap) n xs) (i : Nat) (u : Value) {T : List Nat} (hT : t ∈ T) : Step T o W o (W.setCell ⟨g, i, none⟩ u) := Step.setCell W (by rw [h.tag g rfl]; exact hT) u
end SK
theorem SK.app_run {o : Nat → Nat} {W : World} {t : Nat} {e T : TypeId} {z : Value} {by8 : Nat} {v : Value} {n : Nat} {xs : List Value} (hT : Ybaz.prog.underlying T = some (.slice e)) (hinf : (Ybaz.prog.info? e).map (fun i => (i.zero, i.size, i.bytes)) = some (some z, 3, by8)) (hzc : z.cells.size = 3) (hby : by8 ≤ 100) (h : SK o W t e v n xs) (hl : n ≤ 100000) (a b c : Value) (h1 : a.oneCell' = true) (h2 : b.oneCell' = true) (h3 : c.oneCell' = true) :
    ∃ (g cap : Nat) (w' : World), (Builtin.append_ #[T, T] T #[v, .slice (some ⟨W.heap.size, 0, none⟩) 1 1]).run Ybaz.prog (W.alloc (.cells #[a, b, c] e)) = .ok (.slice (some ⟨g, 0, none⟩) (n + 1) cap) w' ∧ ∃ o', SK o' w' t e (.slice (some ⟨g, 0, none⟩) (n + 1) cap) (n + 1) (xs ++ [a, b, c]) ∧ Step [t] o W o' w' := by
  obtain ⟨i0, hi0, hz0, hz1, hz2⟩ := info_parts hinf
  obtain ⟨v', w', hr, hown, hg, _, hat⟩ := run_append_own_at (P := Ybaz.prog) (W.alloc (.cells #[a, b, c] e)) 0 T T e i0 z 3 by8 hT hi0 hz0 hz1 hz2 hzc (by decide) v n xs (h.row.alloc _) ⟨W.heap.size, 0, none⟩ 1 1 [a, b, c] rfl (cell_three_new W a b c e) (by intro u hu; simp at hu; rcases hu with rfl | rfl | rfl <;> assumption) (by unfold maxLen; omega) (by have : (n + 1) * by8 ≤ 100001 * 100 := Nat.mul_le_mul (by omega) hby; omega) (Nat.zero_le _)
  rcases hown.2 with ⟨_, h0⟩ | ⟨g, cap, cur, rfl, hb, hgb, r⟩
  · omega
  rw [World.size_alloc] at hat
  refine ⟨g, cap, w', hr, fun k => if k < W.heap.size then o k else t, ⟨hown, fun b hb => ?_⟩, ⟨hg.os, hg.tape, hg.output, ?_, fun k hk => by simp [hk], fun k hk hn => ?_⟩⟩
  · rcases hat with ha | ha
    · rw [ha] at hb
      have := h.lt hb
      simp only [this, if_true]
      exact h.tag b hb
    · rw [ha] at hb
      cases hb
      exact if_neg (by omega)
  · have := hg.size; simp at this; omega
  · rw [hg.block k (by simp; omega) (fun e1 => hn (by rw [h.tag k e1.symm]; simp)), Below.heap_alloc _ _ _ hk]


theorem info36 : (Ybaz.prog.info? 36).map (fun i => (i.zero, i.size, i.bytes)) = some (some (.agg #[.string ⟨#[]⟩, .int .i64 0, .int .i64 0]), 3, 32) := by kernel_rfl
theorem info39 : (Ybaz.prog.info? 39).map (fun i => (i.zero, i.size, i.bytes)) = some (some (.agg #[.string ⟨#[]⟩, .int .i64 0, .int .i64 0]), 3, 32) := by kernel_rfl
end Go.Proofs.YbulkbmdoGreat
