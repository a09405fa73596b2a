/-
  Plain: the deadlocks wanted are the deadlocks found.
-/
import Derived.Test.YbulkbmdoGreatLP
namespace Go.Proofs.YbulkbmdoGreat
open Go.RowKit
set_option linter.unusedVariables false

/-! ### Sorted lists of the same members are one list -/
theorem sorted_eq (j : Nat → Nat) : ∀ (a b : List Nat), a.Pairwise (fun x y => j x < j y) → b.Pairwise (fun x y => j x < j y) → (∀ x, x ∈ a ↔ x ∈ b) → a = b
  | [], [], _, _, _ => rfl
  | [], y :: b, _, _, h => absurd ((h y).2 (by simp)) (by simp)
  | x :: a, [], _, _, h => absurd ((h x).1 (by simp)) (by simp)
  | x :: a, y :: b, ha, hb, h => by
    have ha' := List.pairwise_cons.1 ha
    have hb' := List.pairwise_cons.1 hb
    have e : x = y := by
      rcases List.mem_cons.1 ((h x).1 (by simp)) with h1 | h1
      · exact h1
      · rcases List.mem_cons.1 ((h y).2 (by simp)) with h2 | h2
        · exact h2.symm
        · have := hb'.1 x h1
          have := ha'.1 y h2
          omega
    subst e
    rw [sorted_eq j a b ha'.2 hb'.2 fun z => ?_]
    constructor
    · intro hz
      rcases List.mem_cons.1 ((h z).1 (by simp [hz])) with h1 | h1
      · subst h1; have := ha'.1 z hz; omega
      · exact h1
    · intro hz
      rcases List.mem_cons.1 ((h z).2 (by simp [hz])) with h1 | h1
      · subst h1; have := hb'.1 z hz; omega
      · exact h1

/-! ### The walk over the pair numbers -/
theorem wl_mem {sd n : Nat} {vf : Nat → Int} (hn : n ≤ 300) : ∀ k p, p ∈ wl (posF sd n) vf k ↔ p < n ∧ 0 ≤ vf p ∧ jof sd p < k
  | 0, p => by simp [wl]
  | k + 1, p => by
    have ih := wl_mem (sd := sd) (vf := vf) hn k p
    simp only [wl]
    rcases posF_or (sd := sd) (j := k) n with h | ⟨q, h1, h2, h3⟩
    · rw [if_pos (.inl h), ih]
      constructor
      · rintro ⟨a, b, c⟩; exact ⟨a, b, by omega⟩
      · rintro ⟨a, b, c⟩
        refine ⟨a, b, ?_⟩
        by_cases e : jof sd p = k
        · have := posF_at hn a (sd := sd); rw [e] at this; omega
        · omega
    · have h2' : (posF sd n k).toNat = q := by rw [h2]; simp
      by_cases hv : vf q < 0
      · rw [if_pos (.inr (by rw [h2']; exact hv)), ih]
        constructor
        · rintro ⟨a, b, c⟩; exact ⟨a, b, by omega⟩
        · rintro ⟨a, b, c⟩
          refine ⟨a, b, ?_⟩
          by_cases e : jof sd p = k
          · have : p = q := jof_inj (sd := sd) (by omega) (by omega) (e.trans h3.symm)
            subst this; omega
          · omega
      · rw [if_neg (by rw [h2', h2]; omega), h2', List.mem_append, List.mem_singleton, ih]
        constructor
        · rintro (⟨a, b, c⟩ | rfl)
          · exact ⟨a, b, by omega⟩
          · exact ⟨h1, by omega, by omega⟩
        · rintro ⟨a, b, c⟩
          by_cases e : jof sd p = k
          · exact .inr (jof_inj (sd := sd) (by omega) (by omega) (e.trans h3.symm))
          · exact .inl ⟨a, b, by omega⟩
theorem wl_sorted {sd n : Nat} {vf : Nat → Int} (hn : n ≤ 300) : ∀ k, (wl (posF sd n) vf k).Pairwise (fun x y => jof sd x < jof sd y)
  | 0 => by simp [wl]
  | k + 1 => by
    have ih := wl_sorted (sd := sd) (vf := vf) hn k
    simp only [wl]
    split
    · exact ih
    · rename_i hc
      rcases posF_or (sd := sd) (j := k) n with h | ⟨q, h1, h2, h3⟩
      · exact absurd (.inl h) hc
      · have h2' : (posF sd n k).toNat = q := by rw [h2]; simp
        rw [h2', List.pairwise_append]
        refine ⟨ih, by simp, fun x hx y hy => ?_⟩
        rw [List.mem_singleton.1 hy, h3]
        exact ((wl_mem hn k x).1 hx).2.2

/-! ### Keys that part the same way -/
theorem ks_same {f g : Nat → Nat} {dl : List Nat} (h : ∀ p ∈ dl, ∀ q ∈ dl, f p = f q ↔ g p = g q) : ∀ m, m ≤ dl.length → (ks f (dl.take m)).length = (ks g (dl.take m)).length ∧ ∀ p ∈ dl.take m, (ks f (dl.take m)).idxOf (f p) = (ks g (dl.take m)).idxOf (g p)
  | 0, _ => by simp [ks]
  | m + 1, hm => by
    obtain ⟨i1, i2⟩ := ks_same h m (by omega)
    have hx : dl[m] ∈ dl := List.getElem_mem _
    have e : dl.take (m + 1) = dl.take m ++ [dl[m]] := by rw [List.take_add_one]; simp [List.getElem?_eq_getElem (show m < dl.length by omega)]
    obtain ⟨x, hxe⟩ : ∃ x, dl[m] = x := ⟨_, rfl⟩
    rw [hxe] at hx e
    have hsub : ∀ q ∈ dl.take m, q ∈ dl := fun q hq => List.mem_of_mem_take hq
    have hm2 : f x ∈ ks f (dl.take m) ↔ g x ∈ ks g (dl.take m) := by
      rw [ks_mem, ks_mem]
      constructor
      · rintro ⟨p, hp, he⟩; exact ⟨p, hp, (h p (hsub p hp) x hx).1 he⟩
      · rintro ⟨p, hp, he⟩; exact ⟨p, hp, (h p (hsub p hp) x hx).2 he⟩
    rw [e, ks_snoc, ks_snoc]
    by_cases hin : f x ∈ ks f (dl.take m)
    · rw [if_pos hin, if_pos (hm2.1 hin)]
      refine ⟨i1, fun p hp => ?_⟩
      rcases List.mem_append.1 hp with h1 | h1
      · exact i2 p h1
      · rw [List.mem_singleton.1 h1]
        obtain ⟨q, hq, he⟩ := (ks_mem _ _ _).1 hin
        rw [← he, i2 q hq, (h q (hsub q hq) x hx).1 he]
    · have hin2 : g x ∉ ks g (dl.take m) := fun hh => hin (hm2.2 hh)
      rw [if_neg hin, if_neg hin2]
      refine ⟨by simp [i1], fun p hp => ?_⟩
      rcases List.mem_append.1 hp with h1 | h1
      · rw [List.idxOf_append, List.idxOf_append, if_pos ((ks_mem _ _ _).2 ⟨p, h1, rfl⟩), if_pos ((ks_mem _ _ _).2 ⟨p, h1, rfl⟩)]
        exact i2 p h1
      · rw [List.mem_singleton.1 h1, List.idxOf_append, List.idxOf_append, if_neg hin, if_neg hin2, i1]
        simp
theorem mem_same {f g : Nat → Nat} {dl L : List Nat} (h : ∀ p ∈ dl, ∀ q ∈ dl, f p = f q ↔ g p = g q) (hL : ∀ p ∈ L, p ∈ dl) (i : Nat) : mem f (ks f dl) i L = mem g (ks g dl) i L := by
  have := ks_same h dl.length (Nat.le_refl _)
  rw [List.take_length] at this
  unfold mem
  refine List.filter_congr fun p hp => ?_
  rw [this.2 p (hL p hp)]
theorem ks_same_len {f g : Nat → Nat} {dl : List Nat} (h : ∀ p ∈ dl, ∀ q ∈ dl, f p = f q ↔ g p = g q) : (ks f dl).length = (ks g dl).length := by
  have := ks_same h dl.length (Nat.le_refl _)
  rw [List.take_length] at this
  exact this.1
theorem single {v : Nat} : ∀ {l : List Nat}, l.Nodup → (∀ x, x ∈ l ↔ x = v) → l = [v]
  | [], _, h => absurd ((h v).2 rfl) (by simp)
  | [a], _, h => by rw [(h a).1 (by simp)]
  | a :: b :: l, hn, h => by
    have h1 := (h a).1 (by simp)
    have h2 := (h b).1 (by simp)
    rw [h1, h2] at hn
    simp at hn
/-- The victims of the group i: one, the key. -/
theorem vics_one {vn : Nat → Nat} {dl : List Nat} {vq : Nat → Bool} (hnd : dl.Nodup) (h1 : ∀ p ∈ dl, vq p = true ↔ vn p = p) (h2 : ∀ p ∈ dl, vn p ∈ dl ∧ vn (vn p) = vn p) {i : Nat} (hi : i < (ks vn dl).length) : mem vn (ks vn dl) i (dl.filter vq) = [(ks vn dl).getD i 0] := by
  have hg : (ks vn dl).getD i 0 = (ks vn dl)[i] := by rw [List.getD_eq_getElem?_getD, List.getElem?_eq_getElem hi]; rfl
  rw [hg]
  obtain ⟨p, hp, he⟩ := (ks_mem vn dl (ks vn dl)[i]).1 (List.getElem_mem hi)
  obtain ⟨g1, g2⟩ := h2 p hp
  rw [he] at g1 g2
  have hix : (ks vn dl).idxOf (ks vn dl)[i] = i := (ks_nodup vn dl).idxOf_getElem i hi
  refine single ((hnd.filter _).filter _) fun x => ?_
  unfold mem
  rw [List.mem_filter, List.mem_filter]
  constructor
  · rintro ⟨⟨a, b⟩, c⟩
    have hv := (h1 x a).1 b
    have c' : (ks vn dl).idxOf (vn x) = i := by simpa using c
    rw [hv] at c'
    have hm : x ∈ ks vn dl := (ks_mem _ _ _).2 ⟨x, a, hv⟩
    have hl := List.idxOf_lt_length_of_mem hm
    have : (ks vn dl)[(ks vn dl).idxOf x] = x := by simp
    rw [← this]
    simp only [c']
  · rintro rfl
    refine ⟨⟨g1, (h1 _ g1).2 g2⟩, ?_⟩
    rw [g2]; simp [hix]
end Go.Proofs.YbulkbmdoGreat
