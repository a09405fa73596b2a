/-
  Plain: chains of waits. nx leads from each dead process to a dead one; behind n steps a chain runs in a cycle; its victim is the member of that cycle whose number j is least.
-/
namespace Go.Proofs.YbulkbmdoGreat

theorem rep_succ (f : Nat → Nat) : ∀ (k q : Nat), Nat.repeat f (k + 1) q = Nat.repeat f k (f q)
  | 0, _ => rfl
  | k + 1, q => by show f (Nat.repeat f (k + 1) q) = f (Nat.repeat f k (f q)); rw [rep_succ f k q]
theorem rep_out (f : Nat → Nat) (k q : Nat) : Nat.repeat f (k + 1) q = f (Nat.repeat f k q) := rfl
theorem rep_add (f : Nat → Nat) (a : Nat) : ∀ b p, Nat.repeat f (a + b) p = Nat.repeat f a (Nat.repeat f b p)
  | 0, _ => rfl
  | b + 1, p => by rw [← Nat.add_assoc, rep_succ, rep_add f a b, ← rep_succ]
theorem rep_comm (f : Nat → Nat) (a b p : Nat) : Nat.repeat f a (Nat.repeat f b p) = Nat.repeat f b (Nat.repeat f a p) := by
  rw [← rep_add, Nat.add_comm, rep_add]

theorem erase_lt {N : Nat} : ∀ {l : List Nat}, l.Nodup → (∀ q ∈ l, q < N + 1) → (l.erase N).length + 1 ≥ l.length ∧ ∀ q ∈ l.erase N, q < N := by
  intro l hn hl
  refine ⟨?_, fun q hq => ?_⟩
  · by_cases h : N ∈ l
    · rw [List.length_erase_of_mem h]; omega
    · rw [List.erase_of_not_mem h]; omega
  · have h1 := hl q (List.mem_of_mem_erase hq)
    have h2 : q ≠ N := fun e => by rw [e] at hq; exact (List.Nodup.not_mem_erase hn) hq
    omega
theorem pig : ∀ {N : Nat} {l : List Nat}, l.Nodup → (∀ q ∈ l, q < N) → l.length ≤ N
  | 0, l, _, hl => by
    cases l with
    | nil => simp
    | cons a t => have := hl a (by simp); omega
  | N + 1, l, hn, hl => by
    obtain ⟨h1, h2⟩ := erase_lt hn hl
    have := pig (hn.erase N) h2
    omega

/-- Among n + 1 members of a row of numbers under n two are the same. -/
theorem rep_meets (n : Nat) (g : Nat → Nat) (h : ∀ k, k ≤ n → g k < n) : ∃ i j, i < j ∧ j ≤ n ∧ g i = g j := by
  apply Classical.byContradiction
  intro hne
  have hnd : ((List.range (n + 1)).map g).Nodup := by
    exact List.pairwise_map.2 ((List.pairwise_lt_range (n := n + 1)).imp_of_mem fun {a b} ha hb hab e => hne ⟨a, b, hab, by have := List.mem_range.1 hb; omega, e⟩)
  have := pig hnd (fun q hq => by
    obtain ⟨k, hk, rfl⟩ := List.mem_map.1 hq
    exact h k (by have := List.mem_range.1 hk; omega))
  simp at this
  omega

/-- The dead ones: each waits on one, which is dead. -/
structure Dw (n : Nat) (dead : Nat → Prop) (nx : Nat → Nat) (j : Nat → Nat) : Prop where
  lt : ∀ p, dead p → p < n
  nx : ∀ p, dead p → dead (nx p)
  inj : ∀ p q, dead p → dead q → j p = j q → p = q
namespace Dw
variable {n : Nat} {dead : Nat → Prop} {nx j : Nat → Nat}
theorem rep (h : Dw n dead nx j) {p : Nat} (hp : dead p) : ∀ k, dead (Nat.repeat nx k p)
  | 0 => hp
  | k + 1 => h.nx _ (h.rep hp k)
theorem back (h : Dw n dead nx j) {p : Nat} (hp : dead p) : ∃ k, 0 < k ∧ Nat.repeat nx k (Nat.repeat nx n p) = Nat.repeat nx n p := by
  obtain ⟨a, b, h1, h2, h3⟩ := rep_meets n (fun k => Nat.repeat nx k p) (fun k _ => h.lt _ (h.rep hp k))
  refine ⟨b - a, by omega, ?_⟩
  have h3 : Nat.repeat nx a p = Nat.repeat nx b p := h3
  have e1 : n = (n - a) + a := by omega
  have e2 : Nat.repeat nx n p = Nat.repeat nx (n - a) (Nat.repeat nx a p) := by rw [← rep_add, ← e1]
  have e3 : Nat.repeat nx (b - a) (Nat.repeat nx a p) = Nat.repeat nx a p := by rw [← rep_add, Nat.sub_add_cancel (Nat.le_of_lt h1), ← h3]
  rw [e2, rep_comm, e3]
end Dw

/-- m is the member of q's circle with the least number. -/
def IsV (nx j : Nat → Nat) (q m : Nat) : Prop := (∃ a, Nat.repeat nx a q = m) ∧ ∀ b, j m ≤ j (Nat.repeat nx b q)

theorem least (P : Nat → Prop) (h : ∃ x, P x) : ∃ x, P x ∧ ∀ y, P y → x ≤ y := by
  obtain ⟨x, hx⟩ := h
  induction x using Nat.strongRecOn with
  | _ x ih =>
    by_cases h : ∃ y, P y ∧ y < x
    · obtain ⟨y, hy, hl⟩ := h; exact ih y hl hy
    · exact ⟨x, hx, fun y hy => Nat.le_of_not_lt fun hl => h ⟨y, hy, hl⟩⟩
theorem isv_exists (nx j : Nat → Nat) (q : Nat) : ∃ m, IsV nx j q m := by
  obtain ⟨x, ⟨a, ha⟩, hx⟩ := least (fun x => ∃ a, j (Nat.repeat nx a q) = x) ⟨_, 0, rfl⟩
  exact ⟨_, ⟨a, rfl⟩, fun b => by rw [ha]; exact hx _ ⟨b, rfl⟩⟩

/-- The victim of p's group. -/
noncomputable def vic (n : Nat) (nx j : Nat → Nat) (p : Nat) : Nat := Classical.choose (isv_exists nx j (Nat.repeat nx n p))
theorem vic_isv (n : Nat) (nx j : Nat → Nat) (p : Nat) : IsV nx j (Nat.repeat nx n p) (vic n nx j p) := Classical.choose_spec (isv_exists nx j (Nat.repeat nx n p))

namespace Dw
variable {n : Nat} {dead : Nat → Prop} {nx j : Nat → Nat}
theorem isv_unique (h : Dw n dead nx j) {q m m' : Nat} (hq : dead q) (h1 : IsV nx j q m) (h2 : IsV nx j q m') : m = m' := by
  obtain ⟨⟨a, rfl⟩, h1⟩ := h1
  obtain ⟨⟨b, rfl⟩, h2⟩ := h2
  exact h.inj _ _ (h.rep hq a) (h.rep hq b) (Nat.le_antisymm (h1 b) (h2 a))
/-- On a circle each member leads to each. -/
theorem isv_turn {q m a k : Nat} (hk : 0 < k) (hq : Nat.repeat nx k q = q) (h1 : IsV nx j q m) : IsV nx j (Nat.repeat nx a q) m := by
  have hmul : ∀ c, Nat.repeat nx (c * k) q = q := by
    intro c
    induction c with
    | zero => rw [Nat.zero_mul]; rfl
    | succ c ih => rw [Nat.succ_mul, rep_add, hq, ih]
  obtain ⟨⟨b, rfl⟩, h1⟩ := h1
  refine ⟨⟨b + (a * k - a), ?_⟩, fun c => ?_⟩
  · rw [← rep_add]
    have : b + (a * k - a) + a = b + a * k := by have := Nat.le_mul_of_pos_right a hk; omega
    rw [this, rep_add, hmul]
  · rw [← rep_add]; exact h1 _
theorem vic_dead (h : Dw n dead nx j) {p : Nat} (hp : dead p) : dead (vic n nx j p) := by
  obtain ⟨⟨a, ha⟩, _⟩ := vic_isv n nx j p
  rw [← ha]; exact h.rep (h.rep hp n) a
theorem vic_rep (n : Nat) (nx j : Nat → Nat) (p : Nat) : ∃ a, Nat.repeat nx a p = vic n nx j p := by
  obtain ⟨⟨a, ha⟩, _⟩ := vic_isv n nx j p
  exact ⟨a + n, by rw [rep_add]; exact ha⟩
theorem vic_nx (h : Dw n dead nx j) {p : Nat} (hp : dead p) : vic n nx j (nx p) = vic n nx j p := by
  obtain ⟨k, hk, hb⟩ := h.back hp
  have h1 := isv_turn (a := 1) hk hb (vic_isv n nx j p)
  have e : Nat.repeat nx 1 (Nat.repeat nx n p) = Nat.repeat nx n (nx p) := by rw [← rep_succ]; rfl
  rw [e] at h1
  exact h.isv_unique (h.rep (h.nx _ hp) n) (vic_isv n nx j (nx p)) h1
theorem vic_reps (h : Dw n dead nx j) {p : Nat} (hp : dead p) : ∀ k, vic n nx j (Nat.repeat nx k p) = vic n nx j p
  | 0 => rfl
  | k + 1 => by rw [rep_out, h.vic_nx (h.rep hp k), h.vic_reps hp k]
theorem vic_vic (h : Dw n dead nx j) {p : Nat} (hp : dead p) : vic n nx j (vic n nx j p) = vic n nx j p := by
  obtain ⟨a, ha⟩ := vic_rep n nx j p
  rw [← ha, h.vic_reps hp, ha]
/-- The victim of one that lies on a circle: the least of the circle. -/
theorem vic_of (h : Dw n dead nx j) {p m : Nat} (hp : dead p) {k : Nat} (hk : 0 < k) (hb : Nat.repeat nx k p = p) (hm : IsV nx j p m) : vic n nx j p = m :=
  h.isv_unique (h.rep hp n) (vic_isv n nx j p) (isv_turn hk hb hm)
/-- What n steps come to is least there: the law's own words. -/
theorem vic_at (h : Dw n dead nx j) {p m : Nat} (hp : dead p) (hm : IsV nx j (Nat.repeat nx n p) m) : vic n nx j p = m :=
  h.isv_unique (h.rep hp n) (vic_isv n nx j p) hm
end Dw

/-! ### Chains that end -/
/-- What a process waits on. -/
def chain (f : Nat → Option Nat) : Nat → Nat → Option Nat
  | 0, p => some p
  | k + 1, p => (chain f k p).bind f
theorem chain_succ (f : Nat → Option Nat) : ∀ k p, chain f (k + 1) p = (f p).bind (chain f k)
  | 0, p => by simp [chain]
  | k + 1, p => by
    have := chain_succ f k p
    rw [show chain f (k + 1 + 1) p = (chain f (k + 1) p).bind f from rfl, this]
    cases f p <;> simp [chain]
theorem chain_none {f : Nat → Option Nat} {k p : Nat} (h : chain f k p = none) : ∀ m, chain f (k + m) p = none
  | 0 => h
  | m + 1 => by rw [← Nat.add_assoc]; show (chain f (k + m) p).bind f = none; rw [chain_none h m]; rfl
/-- A chain that ends, ends within n steps. -/
theorem chain_end (n : Nat) (f : Nat → Option Nat) (hf : ∀ p q, f p = some q → q < n) {p : Nat} (hp : p < n) (h : ∃ k, chain f k p = none) : chain f n p = none := by
  obtain ⟨k, hk, hmin⟩ := least (fun k => chain f k p = none) h
  by_cases hkn : k ≤ n
  · have := chain_none hk (n - k); rwa [Nat.add_sub_cancel' hkn] at this
  · exfalso
    have hs : ∀ i, i ≤ n → ∃ q, chain f i p = some q := fun i hi => by
      cases e : chain f i p with
      | none => have := hmin i e; omega
      | some q => exact ⟨q, rfl⟩
    have hlt : ∀ i, i ≤ n → (chain f i p).getD 0 < n := fun i hi => by
      cases i with
      | zero => exact hp
      | succ i =>
        obtain ⟨q, hq⟩ := hs (i + 1) hi
        rw [hq]
        have : (chain f i p).bind f = some q := hq
        obtain ⟨q0, hq0⟩ := hs i (by omega)
        rw [hq0] at this
        exact hf q0 q this
    obtain ⟨a, b, h1, h2, h3⟩ := rep_meets n (fun i => (chain f i p).getD 0) hlt
    obtain ⟨qa, ha⟩ := hs a (by omega)
    obtain ⟨qb, hb⟩ := hs b h2
    have he : qa = qb := by simpa [ha, hb] using h3
    have hab : chain f a p = chain f b p := by rw [ha, hb, he]
    have hshift : ∀ m, chain f (a + m) p = chain f (b + m) p := by
      intro m
      induction m with
      | zero => exact hab
      | succ m ih => show (chain f (a + m) p).bind f = (chain f (b + m) p).bind f; rw [ih]
    have h4 := hshift (k - b)
    have e5 : b + (k - b) = k := by omega
    rw [e5, hk] at h4
    have := hmin _ h4
    omega
end Go.Proofs.YbulkbmdoGreat
