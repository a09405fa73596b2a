/-
  Plain: a list of pairs (i, item) dealt out into lists by i.
-/
namespace Go.Proofs.YbulkbmdoGreat.Pl

/-- The items of list i. -/
def sel (L : List (Nat × Nat)) (i : Nat) : List Nat := (L.filter fun x => x.1 == i).map (·.2)
/-- Where list i begins. -/
def pos (L : List (Nat × Nat)) : Nat → Nat
  | 0 => 0
  | i + 1 => pos L i + (sel L i).length

theorem sel_nil (i : Nat) : sel [] i = [] := rfl
theorem sel_snoc (L : List (Nat × Nat)) (x : Nat × Nat) (i : Nat) : sel (L ++ [x]) i = if x.1 = i then sel L i ++ [x.2] else sel L i := by
  unfold sel
  rw [List.filter_append, List.map_append]
  by_cases h : x.1 = i <;> simp [h]
theorem sel_pref {L M : List (Nat × Nat)} (h : L <+: M) (i : Nat) : sel L i <+: sel M i := by
  obtain ⟨r, rfl⟩ := h
  unfold sel
  rw [List.filter_append, List.map_append]
  exact List.prefix_append _ _
theorem pos_mono (L : List (Nat × Nat)) {i j : Nat} (h : i ≤ j) : pos L i ≤ pos L j := by
  induction h with
  | refl => exact Nat.le_refl _
  | step _ ih => exact Nat.le_trans ih (Nat.le_add_right _ _)
theorem pos_zero (L : List (Nat × Nat)) : pos L 0 = 0 := rfl
theorem pos_succ (L : List (Nat × Nat)) (i : Nat) : pos L (i + 1) = pos L i + (sel L i).length := rfl

theorem pos_nil : ∀ i, pos [] i = 0
  | 0 => rfl
  | i + 1 => by rw [pos_succ, pos_nil i, sel_nil]; rfl
theorem pos_snoc (L : List (Nat × Nat)) (x : Nat × Nat) : ∀ i, pos (L ++ [x]) i = pos L i + if x.1 < i then 1 else 0
  | 0 => by simp [pos_zero]
  | i + 1 => by
    rw [pos_succ, pos_succ, pos_snoc L x i, sel_snoc]
    by_cases h : x.1 = i
    · have h1 : ¬ x.1 < i := by omega
      have h2 : x.1 < i + 1 := by omega
      simp [h]; omega
    · by_cases h1 : x.1 < i
      · have h2 : x.1 < i + 1 := by omega
        simp [h, h1, h2]; omega
      · have h2 : ¬ x.1 < i + 1 := by omega
        simp [h, h1, h2]
/-- All of them, where every i is below n. -/
theorem pos_all (L : List (Nat × Nat)) (n : Nat) (h : ∀ x ∈ L, x.1 < n) : pos L n = L.length := by
  have key : ∀ (k : Nat) (P : List (Nat × Nat)), P.length = k → (∀ x ∈ P, x.1 < n) → pos P n = P.length := by
    intro k
    induction k with
    | zero =>
      intro P hP _
      obtain rfl : P = [] := List.eq_nil_of_length_eq_zero hP
      exact pos_nil n
    | succ k ih =>
      intro P hP hx
      have hne : P ≠ [] := fun e => by subst e; simp at hP
      have e := List.dropLast_concat_getLast hne
      rw [← e, pos_snoc, ih P.dropLast (by simp [hP]) (fun x hx' => hx x (List.dropLast_subset P hx'))]
      have := hx (P.getLast hne) (List.getLast_mem hne)
      simp [this]
  exact key L.length L rfl h
/-- Two lists' places do not meet. -/
theorem pos_apart (L : List (Nat × Nat)) {i j r q : Nat} (hr : r < (sel L i).length) (hq : q < (sel L j).length) (h : pos L i + r = pos L j + q) : i = j ∧ r = q := by
  rcases Nat.lt_trichotomy i j with h1 | h1 | h1
  · have := pos_mono L (show i + 1 ≤ j from h1)
    rw [pos_succ] at this
    omega
  · subst h1; exact ⟨rfl, by omega⟩
  · have := pos_mono L (show j + 1 ≤ i from h1)
    rw [pos_succ] at this
    omega
theorem pos_le_all (L : List (Nat × Nat)) (n : Nat) (h : ∀ x ∈ L, x.1 < n) {i : Nat} (hi : i ≤ n) : pos L i ≤ L.length := by
  rw [← pos_all L n h]; exact pos_mono L hi
theorem sel_in (L : List (Nat × Nat)) (n : Nat) (h : ∀ x ∈ L, x.1 < n) {i r : Nat} (hi : i < n) (hr : r < (sel L i).length) : pos L i + r < L.length := by
  have := pos_le_all L n h (show i + 1 ≤ n from hi)
  rw [pos_succ] at this
  omega
/-- While the prefix P of L is dealt out: the next pair's place. -/
theorem sel_lt {P L : List (Nat × Nat)} {x : Nat × Nat} (h : P ++ [x] <+: L) : (sel P x.1).length < (sel L x.1).length := by
  have := (sel_pref h x.1).length_le
  rw [sel_snoc] at this
  simp at this
  omega
end Go.Proofs.YbulkbmdoGreat.Pl
