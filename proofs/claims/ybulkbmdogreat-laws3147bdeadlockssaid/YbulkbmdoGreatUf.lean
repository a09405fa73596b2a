/-
  Plain: a forest of groups (find with halving, union), and lists of keys in the order of their first coming.
-/
namespace Go.Proofs.YbulkbmdoGreat

/-- gp leads each number to its group's root rt; d falls on the way. -/
structure Uf (n : Nat) (gp rt d : Nat → Nat) : Prop where
  lt : ∀ p, p < n → gp p < n
  fix : ∀ p, p < n → gp p = p → rt p = p
  step : ∀ p, p < n → rt (gp p) = rt p
  root : ∀ p, p < n → rt p < n ∧ gp (rt p) = rt p
  dec : ∀ p, p < n → gp p ≠ p → d (gp p) < d p
namespace Uf
variable {n : Nat} {gp rt d : Nat → Nat}
theorem rr (h : Uf n gp rt d) {p : Nat} (hp : p < n) : rt (rt p) = rt p := h.fix _ (h.root p hp).1 (h.root p hp).2
theorem self (n : Nat) : Uf n (fun p => p) (fun p => p) (fun _ => 0) := ⟨fun _ h => h, fun _ _ h => h, fun _ _ => rfl, fun _ h => ⟨h, rfl⟩, fun _ _ h => absurd rfl h⟩
theorem congr {gp' : Nat → Nat} (h : Uf n gp rt d) (e : ∀ p, p < n → gp' p = gp p) : Uf n gp' rt d :=
  ⟨fun p hp => by rw [e p hp]; exact h.lt p hp, fun p hp e1 => h.fix p hp (by rw [← e p hp]; exact e1), fun p hp => by rw [e p hp]; exact h.step p hp,
   fun p hp => ⟨(h.root p hp).1, by rw [e _ (h.root p hp).1]; exact (h.root p hp).2⟩, fun p hp => by rw [e p hp]; exact h.dec p hp⟩
theorem halve (h : Uf n gp rt d) {p : Nat} (hp : p < n) (hne : gp p ≠ p) : Uf n (fun x => if x = p then gp (gp p) else gp x) rt d := by
  have hg := h.lt p hp
  have hd : d (gp (gp p)) < d p := by
    by_cases e : gp (gp p) = gp p
    · rw [e]; exact h.dec p hp hne
    · have := h.dec _ hg e; have := h.dec p hp hne; omega
  refine ⟨fun x hx => ?_, fun x hx e => ?_, fun x hx => ?_, fun x hx => ⟨(h.root x hx).1, ?_⟩, fun x hx hn => ?_⟩
  · show (if x = p then _ else _) < n
    split
    · exact h.lt _ hg
    · exact h.lt x hx
  · have e : (if x = p then gp (gp p) else gp x) = x := e
    by_cases ex : x = p
    · rw [if_pos ex, ex] at e; rw [e] at hd; omega
    · rw [if_neg ex] at e; exact h.fix x hx e
  · show rt (if x = p then _ else _) = _
    split
    · rename_i ex; rw [h.step _ hg, h.step p hp, ex]
    · exact h.step x hx
  · show (if rt x = p then _ else _) = _
    split
    · rename_i ex
      have := (h.root x hx).2
      rw [ex] at this; exact absurd this hne
    · exact (h.root x hx).2
  · have hn : (if x = p then gp (gp p) else gp x) ≠ x := hn
    show d (if x = p then _ else _) < d x
    by_cases ex : x = p
    · rw [if_pos ex, ex]; exact hd
    · rw [if_neg ex] at hn ⊢; exact h.dec x hx hn
/-- One root is hung below another (or itself). -/
theorem join (h : Uf n gp rt d) {a b : Nat} (hb : b < n) (ea : rt a = a) (eb : rt b = b) (gb : gp b = b) :
    Uf n (fun x => if x = a then b else gp x) (fun x => if rt x = a then b else rt x) (fun x => if rt x = a ∧ a ≠ b then d x + d b + 1 else d x) := by
  refine ⟨fun x hx => ?_, fun x hx e => ?_, fun x hx => ?_, fun x hx => ?_, fun x hx hn => ?_⟩
  · show (if x = a then _ else _) < n
    split
    · exact hb
    · exact h.lt x hx
  · have e : (if x = a then b else gp x) = x := e
    show (if rt x = a then b else rt x) = x
    by_cases ex : x = a
    · rw [if_pos ex] at e; rw [ex, ea, if_pos rfl, e, ex]
    · rw [if_neg ex] at e
      have := h.fix x hx e
      rw [this, if_neg ex]
  · show (if rt (if x = a then b else gp x) = a then b else rt (if x = a then b else gp x)) = if rt x = a then b else rt x
    by_cases ex : x = a
    · rw [if_pos ex, eb, ex, ea, if_pos rfl]
      split <;> rfl
    · rw [if_neg ex, h.step x hx]
  · show (if rt x = a then b else rt x) < n ∧ (if (if rt x = a then b else rt x) = a then b else gp (if rt x = a then b else rt x)) = if rt x = a then b else rt x
    by_cases ex : rt x = a
    · rw [if_pos ex]
      refine ⟨hb, ?_⟩
      split
      · rfl
      · exact gb
    · rw [if_neg ex, if_neg ex]; exact h.root x hx
  · have hn : (if x = a then b else gp x) ≠ x := hn
    show (if rt (if x = a then b else gp x) = a ∧ a ≠ b then d (if x = a then b else gp x) + d b + 1 else d (if x = a then b else gp x)) < if rt x = a ∧ a ≠ b then d x + d b + 1 else d x
    by_cases ex : x = a
    · rw [if_pos ex] at hn ⊢
      have hab : a ≠ b := fun e => hn (by rw [ex, e])
      rw [eb, if_neg (fun e => hab e.1.symm), ex, ea, if_pos ⟨rfl, hab⟩]
      omega
    · rw [if_neg ex] at hn ⊢
      rw [h.step x hx]
      have := h.dec x hx hn
      split <;> omega
end Uf

/-- The keys of l in the order of their first coming. -/
def ks (K : Nat → Nat) (l : List Nat) : List Nat := l.foldl (fun acc p => if K p ∈ acc then acc else acc ++ [K p]) []
theorem ks_snoc (K : Nat → Nat) (l : List Nat) (p : Nat) : ks K (l ++ [p]) = if K p ∈ ks K l then ks K l else ks K l ++ [K p] := by
  unfold ks
  rw [List.foldl_append]; rfl
theorem ks_ind (K : Nat → Nat) (P : List Nat → List Nat → Prop) (h0 : P [] []) (h1 : ∀ l p, P l (ks K l) → P (l ++ [p]) (ks K (l ++ [p]))) (l : List Nat) : P l (ks K l) := by
  have key : ∀ m, m ≤ l.length → P (l.take m) (ks K (l.take m)) := by
    intro m
    induction m with
    | zero => intro _; exact h0
    | succ m ih =>
      intro hm
      have e : l.take (m + 1) = l.take m ++ [l[m]] := by rw [List.take_add_one]; simp [List.getElem?_eq_getElem (show m < l.length by omega)]
      rw [e]; exact h1 _ _ (ih (by omega))
  have := key l.length (Nat.le_refl _)
  rwa [List.take_length] at this
theorem ks_mem (K : Nat → Nat) (l : List Nat) (x : Nat) : x ∈ ks K l ↔ ∃ p ∈ l, K p = x := by
  refine ks_ind K (fun l k => x ∈ k ↔ ∃ p ∈ l, K p = x) (by simp) (fun l p ih => ?_) l
  rw [ks_snoc]
  split
  · rename_i hm
    rw [ih]
    constructor
    · rintro ⟨q, hq, e⟩; exact ⟨q, by simp [hq], e⟩
    · rintro ⟨q, hq, e⟩
      rcases List.mem_append.1 hq with h | h
      · exact ⟨q, h, e⟩
      · have : q = p := by simpa using h
        exact ih.1 (by rw [← e, this]; exact hm)
  · rw [List.mem_append, ih]
    constructor
    · rintro (⟨q, hq, e⟩ | h)
      · exact ⟨q, by simp [hq], e⟩
      · exact ⟨p, by simp, by simpa using Eq.symm (List.mem_singleton.1 h)⟩
    · rintro ⟨q, hq, e⟩
      rcases List.mem_append.1 hq with h | h
      · exact .inl ⟨q, h, e⟩
      · have : q = p := by simpa using h
        exact .inr (by rw [← e, this]; simp)
theorem ks_nodup (K : Nat → Nat) (l : List Nat) : (ks K l).Nodup := by
  refine ks_ind K (fun _ k => k.Nodup) List.nodup_nil (fun l p ih => ?_) l
  rw [ks_snoc]
  split
  · exact ih
  · rename_i hm
    rw [List.nodup_append]
    exact ⟨ih, by simp, fun a ha b hb => by rw [List.mem_singleton.1 hb]; exact fun e => hm (e ▸ ha)⟩
theorem ks_len (K : Nat → Nat) (l : List Nat) : (ks K l).length ≤ l.length := by
  refine ks_ind K (fun l k => k.length ≤ l.length) (by simp) (fun l p ih => ?_) l
  rw [ks_snoc]
  split <;> simp <;> omega
/-- Where a key stands: 1 and more, or 0. -/
def kat (k : List Nat) (x : Nat) : Nat := if x ∈ k then k.idxOf x + 1 else 0
theorem kat_pos {k : List Nat} {x : Nat} (h : x ∈ k) : kat k x = k.idxOf x + 1 := if_pos h
theorem kat_zero {k : List Nat} {x : Nat} (h : x ∉ k) : kat k x = 0 := if_neg h
theorem kat_snoc_self {k : List Nat} {x : Nat} (h : x ∉ k) : kat (k ++ [x]) x = k.length + 1 := by
  rw [kat_pos (by simp), List.idxOf_append, if_neg h]; simp
theorem kat_snoc_other {k : List Nat} {x y : Nat} (h : y ≠ x) : kat (k ++ [x]) y = kat k y := by
  by_cases hm : y ∈ k
  · rw [kat_pos hm, kat_pos (by simp [hm]), List.idxOf_append, if_pos hm]
  · rw [kat_zero hm, kat_zero (by simp [hm, h])]
end Go.Proofs.YbulkbmdoGreat
