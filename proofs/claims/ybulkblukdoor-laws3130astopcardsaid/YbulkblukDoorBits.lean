namespace Go.Proofs.YbulkblukDoor.Bt

/-- The set bits of x below 64, low bit first. -/
def bitsOf (x : Nat) : List Nat := (List.range 64).filter fun b => x.testBit b

/-- A number that is not 0, parted at its lowest set bit. -/
theorem low_bit : ∀ x : Nat, x ≠ 0 → ∃ t m, x = 2 ^ (t + 1) * m + 2 ^ t := by
  intro x
  induction x using Nat.strongRecOn with
  | ind x ih =>
    intro hx
    by_cases ho : x % 2 = 1
    · exact ⟨0, x / 2, by simp; omega⟩
    · obtain ⟨t, m, h⟩ := ih (x / 2) (by omega) (by omega)
      refine ⟨t + 1, m, ?_⟩
      have : x = 2 * (x / 2) := by omega
      rw [this, h, Nat.mul_add, ← Nat.mul_assoc, ← Nat.pow_succ', ← Nat.pow_succ']

theorem two_pos (t : Nat) : 0 < 2 ^ t := Nat.two_pow_pos t

theorem tb_x (t m j : Nat) : (2 ^ (t + 1) * m + 2 ^ t).testBit j = if j < t + 1 then decide (t = j) else m.testBit (j - (t + 1)) := by
  rw [Nat.testBit_two_pow_mul_add _ (by rw [Nat.pow_succ]; have := two_pos t; omega), Nat.testBit_two_pow]

theorem tb_p (t m j : Nat) : (2 ^ (t + 1) * m + 2 ^ t - 1).testBit j = if j < t + 1 then decide (j < t) else m.testBit (j - (t + 1)) := by
  have h := two_pos t
  have e : 2 ^ (t + 1) * m + 2 ^ t - 1 = 2 ^ (t + 1) * m + (2 ^ t - 1) := by omega
  rw [e, Nat.testBit_two_pow_mul_add _ (by rw [Nat.pow_succ]; omega), Nat.testBit_two_pow_sub_one]

theorem and_pred_bit (t m j : Nat) : ((2 ^ (t + 1) * m + 2 ^ t) &&& (2 ^ (t + 1) * m + 2 ^ t - 1)).testBit j = (decide (t < j) && (2 ^ (t + 1) * m + 2 ^ t).testBit j) := by
  rw [Nat.testBit_and, tb_x, tb_p]
  by_cases h : j < t + 1
  · simp [h]
    by_cases h2 : t = j
    · subst h2; simp
    · simp [h2]
  · have : t < j := by omega
    simp [h, this]

theorem and_neg (t m : Nat) (hx : 2 ^ (t + 1) * m + 2 ^ t < 2 ^ 64) : (2 ^ (t + 1) * m + 2 ^ t) &&& (2 ^ 64 - (2 ^ (t + 1) * m + 2 ^ t)) = 2 ^ t := by
  apply Nat.eq_of_testBit_eq
  intro j
  have h := two_pos t
  have e : 2 ^ 64 - (2 ^ (t + 1) * m + 2 ^ t) = 2 ^ 64 - ((2 ^ (t + 1) * m + 2 ^ t - 1) + 1) := by omega
  rw [e, Nat.testBit_and, Nat.testBit_two_pow_sub_succ (by omega), tb_p, tb_x, Nat.testBit_two_pow]
  by_cases h1 : j < t + 1
  · simp [h1]
    by_cases h2 : t = j
    · subst h2
      have : t < 64 := by
        have h3 : 2 ^ t < 2 ^ 64 := by omega
        exact (Nat.pow_lt_pow_iff_right (by decide)).1 h3
      simp [this]
    · simp [h2]
  · have : t ≠ j := by omega
    simp [h1, this]
    intro h3 _
    simp [h3]

/-- The lowest set bit's place; 64 where there is none. -/
def tz (x : Nat) : Nat := (bitsOf x).head?.getD 64

theorem range_split (t : Nat) (h : t < 64) : List.range 64 = List.range t ++ t :: (List.range (63 - t)).map (fun i => t + 1 + i) := by
  have e : 64 = t + (63 - t + 1) := by omega
  conv => lhs; rw [e, List.range_add]
  congr 1
  rw [List.range_succ_eq_map]
  simp
  intro a ha; omega

theorem bitsOf_low (t m : Nat) (ht : t < 64) : bitsOf (2 ^ (t + 1) * m + 2 ^ t) = t :: bitsOf ((2 ^ (t + 1) * m + 2 ^ t) &&& (2 ^ (t + 1) * m + 2 ^ t - 1)) := by
  unfold bitsOf
  rw [range_split t ht]
  simp only [List.filter_append, List.filter_cons]
  have h1 : (List.range t).filter (fun b => (2 ^ (t + 1) * m + 2 ^ t).testBit b) = [] := by
    rw [List.filter_eq_nil_iff]
    intro a ha
    rw [List.mem_range] at ha
    rw [tb_x]
    have h5 : a < t + 1 := by omega
    have h6 : ¬ t = a := by omega
    simp [h5, h6]
  have h2 : (List.range t).filter (fun b => ((2 ^ (t + 1) * m + 2 ^ t) &&& (2 ^ (t + 1) * m + 2 ^ t - 1)).testBit b) = [] := by
    rw [List.filter_eq_nil_iff]
    intro a ha
    rw [List.mem_range] at ha
    rw [and_pred_bit]; simp; omega
  have h3 : (2 ^ (t + 1) * m + 2 ^ t).testBit t = true := by rw [tb_x]; simp
  have h4 : ((2 ^ (t + 1) * m + 2 ^ t) &&& (2 ^ (t + 1) * m + 2 ^ t - 1)).testBit t = false := by rw [and_pred_bit]; simp
  rw [h1, h2, h3, h4]
  simp only [List.nil_append, if_true, Bool.false_eq_true, if_false]
  congr 1
  apply List.filter_congr
  intro a ha
  obtain ⟨i, _, rfl⟩ := List.mem_map.1 ha
  rw [and_pred_bit]
  have : t < t + 1 + i := by omega
  simp [this]

theorem low_lt (t m : Nat) (hx : 2 ^ (t + 1) * m + 2 ^ t < 2 ^ 64) : t < 64 :=
  (Nat.pow_lt_pow_iff_right (a := 2) (by decide)).1 (by omega)

/-- THE LOOP's STEP: the lowest bit first, then the bits of x & (x - 1). -/
theorem bitsOf_step (x : Nat) (h0 : x ≠ 0) (hx : x < 2 ^ 64) : bitsOf x = tz x :: bitsOf (x &&& (x - 1)) := by
  obtain ⟨t, m, rfl⟩ := low_bit x h0
  have := bitsOf_low t m (low_lt t m hx)
  unfold tz
  rw [this]
  rfl
theorem bitsOf_zero : bitsOf 0 = [] := by decide
theorem tz_lt (x : Nat) (h0 : x ≠ 0) (hx : x < 2 ^ 64) : tz x < 64 := by
  have : tz x ∈ bitsOf x := by rw [bitsOf_step x h0 hx]; simp
  unfold bitsOf at this
  exact List.mem_range.1 (List.mem_filter.1 this).1
theorem and_neg_tz (x : Nat) (h0 : x ≠ 0) (hx : x < 2 ^ 64) : x &&& (2 ^ 64 - x) = 2 ^ tz x := by
  obtain ⟨t, m, rfl⟩ := low_bit x h0
  rw [and_neg t m hx]
  have := bitsOf_low t m (low_lt t m hx)
  unfold tz
  rw [this]
  rfl
theorem and_pred_lt (x : Nat) (h0 : x ≠ 0) : x &&& (x - 1) < x := by
  have : x &&& (x - 1) ≤ x - 1 := Nat.and_le_right
  omega

/-- Go's table: math/bits.deBruijn64tab. -/
def tab : List Int := [0, 1, 56, 2, 57, 49, 28, 3, 61, 58, 42, 50, 38, 29, 17, 4, 62, 47, 59, 36, 45, 43, 51, 22, 53, 39, 33, 30, 24, 18, 12, 5, 63, 55, 48, 27, 60, 41, 37, 16, 46, 35, 44, 21, 52, 32, 23, 11, 54, 26, 40, 15, 34, 20, 31, 10, 25, 14, 19, 9, 13, 8, 7, 6]
theorem tab_at : ∀ t : Nat, t < 64 → tab.getD (2 ^ t * 285870213051353865 % 18446744073709551616 / 288230376151711744) 0 = (t : Int) := by decide

/-- The set bits of x below b. -/
def part (x b : Nat) : List Nat := (List.range b).filter fun i => x.testBit i
theorem part_zero (x : Nat) : part x 0 = [] := rfl
theorem part_all (x : Nat) : part x 64 = bitsOf x := rfl
theorem part_hit (x b : Nat) (h : x.testBit b = true) : part x (b + 1) = part x b ++ [b] := by
  unfold part; rw [List.range_succ, List.filter_append]; simp [h]
theorem part_miss (x b : Nat) (h : x.testBit b = false) : part x (b + 1) = part x b := by
  unfold part; rw [List.range_succ, List.filter_append]; simp [h]
theorem part_le (x b : Nat) : (part x b).length ≤ b := by
  unfold part; exact Nat.le_trans (List.length_filter_le _ _) (by simp)

/-- The places of the set bits of the first k words, in order. -/
def idxs (xs : Nat → Nat) (k : Nat) : List Nat := (List.range k).flatMap fun w => (bitsOf (xs w)).map fun b => w * 64 + b
theorem idxs_zero (xs : Nat → Nat) : idxs xs 0 = [] := rfl
theorem idxs_succ (xs : Nat → Nat) (k : Nat) : idxs xs (k + 1) = idxs xs k ++ (bitsOf (xs k)).map fun b => k * 64 + b := by
  unfold idxs; rw [List.range_succ, List.flatMap_append]; simp
theorem idxs_le (xs : Nat → Nat) : ∀ k, (idxs xs k).length ≤ k * 64
  | 0 => by simp [idxs_zero]
  | k + 1 => by
    rw [idxs_succ, List.length_append, List.length_map]
    have := idxs_le xs k
    have := part_le (xs k) 64
    rw [part_all] at this
    omega
/-- .. and of word k the bits below b. -/
def its (xs : Nat → Nat) (k b : Nat) : List Nat := idxs xs k ++ (part (xs k) b).map fun b => k * 64 + b
theorem its_zero (xs : Nat → Nat) (k : Nat) : its xs k 0 = idxs xs k := by simp [its, part_zero]
theorem its_all (xs : Nat → Nat) (k : Nat) : its xs k 64 = idxs xs (k + 1) := by rw [idxs_succ]; rfl
theorem its_hit (xs : Nat → Nat) (k b : Nat) (h : (xs k).testBit b = true) : its xs k (b + 1) = its xs k b ++ [k * 64 + b] := by simp [its, part_hit _ _ h]
theorem its_miss (xs : Nat → Nat) (k b : Nat) (h : (xs k).testBit b = false) : its xs k (b + 1) = its xs k b := by simp [its, part_miss _ _ h]
theorem its_le (xs : Nat → Nat) (k b : Nat) : (its xs k b).length ≤ k * 64 + b := by
  have := idxs_le xs k
  have := part_le (xs k) b
  simp [its]; omega

theorem idxs_pref (xs : Nat → Nat) (k : Nat) : ∀ d, idxs xs k <+: idxs xs (k + d)
  | 0 => List.prefix_rfl
  | d + 1 => (idxs_pref xs k d).trans (by rw [show k + (d + 1) = k + d + 1 from rfl, idxs_succ]; exact List.prefix_append _ _)
theorem step_pref {xs : Nat → Nat} {k m x : Nat} {dn : List Nat} (hk : k < m) (h0 : x ≠ 0) (hx : x < 2 ^ 64) (h : dn ++ bitsOf x = bitsOf (xs k)) :
    idxs xs k ++ (dn.map fun b => k * 64 + b) ++ [k * 64 + tz x] <+: idxs xs m := by
  have h1 := idxs_pref xs (k + 1) (m - (k + 1))
  rw [show k + 1 + (m - (k + 1)) = m by omega] at h1
  refine List.IsPrefix.trans ?_ h1
  rw [idxs_succ, ← h, bitsOf_step x h0 hx]
  exact ⟨(bitsOf (x &&& (x - 1))).map fun b => k * 64 + b, by simp⟩
theorem step_len {xs : Nat → Nat} {k m x : Nat} {dn : List Nat} (hk : k < m) (h0 : x ≠ 0) (hx : x < 2 ^ 64) (h : dn ++ bitsOf x = bitsOf (xs k)) :
    (idxs xs k ++ (dn.map fun b => k * 64 + b)).length < (idxs xs m).length := by
  have := (step_pref hk h0 hx h).length_le
  simp at this ⊢
  omega
theorem step_next {xs : Nat → Nat} {k x : Nat} {dn : List Nat} (h0 : x ≠ 0) (hx : x < 2 ^ 64) (h : dn ++ bitsOf x = bitsOf (xs k)) : (dn ++ [tz x]) ++ bitsOf (x &&& (x - 1)) = bitsOf (xs k) := by
  rw [← h, bitsOf_step x h0 hx]; simp

end Go.Proofs.YbulkblukDoor.Bt
