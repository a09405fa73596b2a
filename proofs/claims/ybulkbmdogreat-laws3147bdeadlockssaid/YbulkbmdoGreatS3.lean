/-
  A slice of deadlocks that its owner appends to: elements of three cells.
-/
import Derived.Test.YbulkbmdoGreatD0
import Derived.Test.YbulkbmdoGreatApp
namespace Go.Proofs.YbulkbmdoGreat
open Go.RowKit
set_option linter.unusedVariables false

structure S3 (o : Nat → Nat) (W : World) (t : Nat) (v : Value) (n : Nat) (xs : List Value) : Prop where
  row : W.ownsRow 0 43 3 v n xs
  tag : ∀ b, v.ownBlock = some b → o b = t
namespace S3
variable {o o' : Nat → Nat} {W W' : World} {t : Nat} {v : Value} {n : Nat} {xs : List Value}
theorem lt (h : S3 o W t v n xs) {b : Nat} (hb : v.ownBlock = some b) : b < W.heap.size := by
  rcases h.row.2 with ⟨rfl, _⟩ | ⟨g, cap, cur, rfl, _, hg, _⟩
  · simp [Value.ownBlock] at hb
  · simp [Value.ownBlock] at hb; subst hb; exact (Array.getElem?_eq_some_iff.1 hg).1
theorem step {T : List Nat} (h : S3 o W t v n xs) (hs : Step T o W o' W') (hn : t ∉ T) : S3 o' W' t v n xs := by
  refine ⟨?_, fun b hb => (hs.own b (h.lt hb)).trans (h.tag b hb)⟩
  refine ⟨h.row.1, ?_⟩
  rcases h.row.2 with h0 | ⟨g, cap, cur, rfl, hb, hg, r⟩
  · exact .inl h0
  · have ht : o g = t := h.tag g rfl
    exact .inr ⟨g, cap, cur, rfl, hb, (hs.block g (Array.getElem?_eq_some_iff.1 hg).1 (by rw [ht]; exact hn)).trans hg, r⟩
theorem nil (o : Nat → Nat) (W : World) (t : Nat) : S3 o W t (.slice none 0 0) 0 [] := ⟨World.ownsRow_nil _ _ _ _, fun _ hb => by simp [Value.ownBlock] at hb⟩
theorem some_of (h : S3 o W t v n xs) (hn : 0 < n) : ∃ g cap, v = .slice (some ⟨g, 0, none⟩) n cap ∧ n ≤ cap ∧ cap ≤ maxLen ∧ o g = t ∧ g < W.heap.size := by
  rcases h.row.2 with ⟨_, h0⟩ | ⟨g, cap, cur, rfl, _, hg, h1, h2, _⟩
  · omega
  · exact ⟨g, cap, rfl, h1, h2, h.tag g rfl, (Array.getElem?_eq_some_iff.1 hg).1⟩
theorem cell {g cap : Nat} (h : S3 o W t (.slice (some ⟨g, 0, none⟩) n cap) n xs) (j : Nat) (hj : j < n * 3) : W.cell? ⟨g, j, none⟩ = xs[j]? := by
  rcases h.row.2 with ⟨h0, _⟩ | ⟨g', cap', cur, h0, _, hg, _, _, h3, h4⟩
  · simp at h0
  · simp at h0
    obtain ⟨rfl, rfl⟩ := h0
    rw [← h4, List.getElem?_take_of_lt hj]
    simp [World.cell?, hg]
theorem frozen {g cap : Nat} (h : S3 o W t (.slice (some ⟨g, 0, none⟩) n cap) n xs) (j : Nat) : W.frozen? ⟨g, j, none⟩ = false := by
  rcases h.row.2 with ⟨h0, _⟩ | ⟨g', cap', cur, h0, _, hg, _⟩
  · simp at h0
  · simp at h0; obtain ⟨rfl, _⟩ := h0; simp [World.frozen?, hg]
theorem set {g cap : Nat} (h : S3 o W t (.slice (some ⟨g, 0, none⟩) n cap) n xs) (i : Nat) (u : Value) : S3 o (W.setCell ⟨g, i, none⟩ u) t (.slice (some ⟨g, 0, none⟩) n cap) n (xs.set i u) := by
  refine ⟨?_, h.tag⟩
  rcases h.row.2 with ⟨h0, _⟩ | ⟨g', cap', cur, h0, hb, hg, h1, h2, h3, h4⟩
  · simp at h0
  · simp at h0
    obtain ⟨rfl, rfl⟩ := h0
    refine ⟨by simpa using h.row.1, .inr ⟨g, cap, cur.setIfInBounds i u, rfl, hb, (Ob.set (o := o) (t := o g) ⟨hg, rfl⟩ i u).blk, h1, h2, by simpa using h3, ?_⟩⟩
    rw [Array.toList_setIfInBounds, List.take_set, h4]
theorem sset {g cap : Nat} (h : S3 o W t (.slice (some ⟨g, 0, none⟩) n cap) n xs) (i : Nat) (u : Value) {T : List Nat} (hT : t ∈ T) : Step T o W o (W.setCell ⟨g, i, none⟩ u) := Step.setCell W (by rw [h.tag g rfl]; exact hT) u
end S3
theorem info43 : (Ybaz.prog.info? 43).map (fun i => (i.zero, i.size, i.bytes)) = some (some (.agg #[.slice none 0 0, .slice none 0 0, .int .u8 0]), 3, 56) := by kernel_rfl
theorem cell_three_new (W : World) (a b c : Value) (t : TypeId) : ∀ j u, [a, b, c][j]? = some u → (W.alloc (.cells #[a, b, c] t)).cell? ((⟨W.heap.size, 0, none⟩ : Addr).add j) = some u := by
  intro j u hu
  have e2 : ((⟨W.heap.size, 0, none⟩ : Addr).add j) = ⟨W.heap.size, j, none⟩ := by cases j <;> simp [Addr.add]
  rw [e2]
  have := (Ob.new (fun _ => 0) W 0 t #[a, b, c]).cell j
  rw [this]
  simpa using hu
theorem S3.app_run {o : Nat → Nat} {W : World} {t : Nat} {v : Value} {n : Nat} {xs : List Value} (h : S3 o W t v n xs) (hl : n ≤ 100000) (a b c : Value) (h1 : a.oneCell' = true) (h2 : b.oneCell' = true) (h3 : c.oneCell' = true) :
    ∃ (g cap : Nat) (w' : World), (Builtin.append_ #[40, 40] 40 #[v, .slice (some ⟨W.heap.size, 0, none⟩) 1 1]).run Ybaz.prog (W.alloc (.cells #[a, b, c] 43)) = .ok (.slice (some ⟨g, 0, none⟩) (n + 1) cap) w' ∧ ∃ o', S3 o' w' t (.slice (some ⟨g, 0, none⟩) (n + 1) cap) (n + 1) (xs ++ [a, b, c]) ∧ Step [t] o W o' w' := by
  obtain ⟨i0, hi0, hz0, hz1, hz2⟩ := info_parts info43
  obtain ⟨v', w', hr, hown, hg, _, hat⟩ := run_append_own_at (P := Ybaz.prog) (W.alloc (.cells #[a, b, c] 43)) 0 40 40 43 i0 (.agg #[.slice none 0 0, .slice none 0 0, .int .u8 0]) 3 56 Ybaz.underlying40 hi0 hz0 hz1 hz2 rfl (by decide) v n xs (h.row.alloc _) ⟨W.heap.size, 0, none⟩ 1 1 [a, b, c] rfl (cell_three_new W a b c 43) (by intro u hu; simp at hu; rcases hu with rfl | rfl | rfl <;> assumption) (by unfold maxLen; omega) (by omega) (Nat.zero_le _)
  rcases hown.2 with ⟨_, h0⟩ | ⟨g, cap, cur, rfl, hb, hgb, r⟩
  · omega
  rw [World.size_alloc] at hat
  refine ⟨g, cap, w', hr, fun k => if k < W.heap.size then o k else t, ⟨hown, fun b hb => ?_⟩, ⟨hg.os, hg.tape, hg.output, ?_, fun k hk => by simp [hk], fun k hk hn => ?_⟩⟩
  · rcases hat with ha | ha
    · rw [ha] at hb
      have := h.lt hb
      simp only [this, if_true]
      exact h.tag b hb
    · rw [ha] at hb
      cases hb
      exact if_neg (by omega)
  · have := hg.size; simp at this; omega
  · rw [hg.block k (by simp; omega) (fun e1 => hn (by rw [h.tag k e1.symm]; simp)), Below.heap_alloc _ _ _ hk]

/-- The cells of the deadlocks: members, victims, proof. -/
def D3 (mv vv : Nat → Value) (K : Nat) : List Value := (List.range K).flatMap fun i => [mv i, vv i, .int .u8 2]
theorem D3_succ (mv vv : Nat → Value) (K : Nat) : D3 mv vv (K + 1) = D3 mv vv K ++ [mv K, vv K, .int .u8 2] := by simp [D3, List.range_succ]
theorem D3_length (mv vv : Nat → Value) : ∀ K, (D3 mv vv K).length = K * 3
  | 0 => rfl
  | K + 1 => by rw [D3_succ, List.length_append, D3_length mv vv K]; simp; omega
theorem D3_at (mv vv : Nat → Value) : ∀ K i, i < K → (D3 mv vv K)[i * 3]? = some (mv i) ∧ (D3 mv vv K)[i * 3 + 1]? = some (vv i) ∧ (D3 mv vv K)[i * 3 + 2]? = some (.int .u8 2)
  | K + 1, i, h => by
    have hl := D3_length mv vv K
    rw [D3_succ]
    by_cases e : i < K
    · obtain ⟨a, b, c⟩ := D3_at mv vv K i e
      refine ⟨?_, ?_, ?_⟩ <;> rw [List.getElem?_append_left (by omega)] <;> assumption
    · obtain rfl : i = K := by omega
      refine ⟨?_, ?_, ?_⟩ <;> rw [List.getElem?_append_right (by omega), hl]
      · simp
      · rw [(by omega : i * 3 + 1 - i * 3 = 1)]; rfl
      · rw [(by omega : i * 3 + 2 - i * 3 = 2)]; rfl
theorem D3_ext {mv vv mv' vv' : Nat → Value} {K : Nat} (h1 : ∀ i, i < K → mv i = mv' i) (h2 : ∀ i, i < K → vv i = vv' i) : D3 mv vv K = D3 mv' vv' K := by
  induction K with
  | zero => rfl
  | succ K ih => rw [D3_succ, D3_succ, ih (fun i hi => h1 i (by omega)) (fun i hi => h2 i (by omega)), h1 K (by omega), h2 K (by omega)]
theorem D3_set0 (mv vv : Nat → Value) (u : Value) : ∀ K i, i < K → (D3 mv vv K).set (i * 3) u = D3 (fun j => if j = i then u else mv j) vv K
  | K + 1, i, h => by
    have hl := D3_length mv vv K
    rw [D3_succ, D3_succ]
    by_cases e : i < K
    · rw [List.set_append_left _ _ (by omega), D3_set0 mv vv u K i e, if_neg (by omega)]
    · obtain rfl : i = K := by omega
      rw [List.set_append_right _ _ (by omega), hl, Nat.sub_self, if_pos rfl, D3_ext (mv' := fun j => if j = i then u else mv j) (vv' := vv) (fun j hj => by rw [if_neg (by omega)]) (fun _ _ => rfl)]
      rfl
theorem D3_set1 (mv vv : Nat → Value) (u : Value) : ∀ K i, i < K → (D3 mv vv K).set (i * 3 + 1) u = D3 mv (fun j => if j = i then u else vv j) K
  | K + 1, i, h => by
    have hl := D3_length mv vv K
    rw [D3_succ, D3_succ]
    by_cases e : i < K
    · rw [List.set_append_left _ _ (by omega), D3_set1 mv vv u K i e, if_neg (by omega)]
    · obtain rfl : i = K := by omega
      rw [List.set_append_right _ _ (by omega), hl, (by omega : i * 3 + 1 - i * 3 = 1), if_pos rfl, D3_ext (mv' := mv) (vv' := fun j => if j = i then u else vv j) (fun _ _ => rfl) (fun j hj => by rw [if_neg (by omega)])]
      rfl
end Go.Proofs.YbulkbmdoGreat
