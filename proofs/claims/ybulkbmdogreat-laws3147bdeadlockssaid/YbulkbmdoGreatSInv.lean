import Derived.Test.YbulkbmdoGreatNamers
import Derived.Deep.LoopGhost
namespace Go.Proofs.YbulkbmdoGreat
open Go.RowKit Go.Shelf
set_option linter.unusedVariables false

/-- The grants gr and those of new. -/
def grown (gr : Nat → Bool) (new : List Nat) : Nat → Bool := fun j => gr j || decide (j ∈ new)
theorem grown_nil (gr : Nat → Bool) : grown gr [] = gr := by funext j; simp [grown]
theorem grown_snoc (gr : Nat → Bool) (new : List Nat) (p : Nat) : grown gr (new ++ [p]) = fun j => if j = p then true else grown gr new j := by
  funext j
  by_cases h : j = p <;> simp [grown, h]
theorem grown_mono (gr : Nat → Bool) (new : List Nat) (p j : Nat) (h : grown gr new j = true) : grown gr (new ++ [p]) j = true := by
  rw [grown_snoc]; by_cases e : j = p <;> simp [e, h]

/-- The reduction s with new granted since, pend pending, its naming lists nf, ni. -/
def RS.ext (s : RS) (nf ni : Value) (pend new : List Nat) : RS :=
  { s with nf := nf, ni := ni, gr := grown s.gr new, pend := pend, und := if 0 < s.marks then s.und ++ new.map (fun p : Nat => -1 - (p : Int)) else s.und }
theorem RS.ext_grant_no (s : RS) (nf ni : Value) (pend new : List Nat) (p : Nat) (h : grown s.gr new p = true) : (s.ext nf ni pend new).grant p = s.ext nf ni pend new := by
  simp only [RS.grant, RS.ext, h, if_true]
theorem RS.ext_grant_yes (s : RS) (nf ni : Value) (pend new : List Nat) (p : Nat) (h : grown s.gr new p = false) : (s.ext nf ni pend new).grant p = s.ext nf ni (pend ++ [p]) (new ++ [p]) := by
  simp only [RS.grant, RS.ext, h, grown_snoc]
  by_cases hm : 0 < s.marks <;> simp [hm]
theorem RS.ext_und (s : RS) (nf ni : Value) (pend new : List Nat) : (s.ext nf ni pend new).und.length ≤ s.und.length + new.length := by
  unfold RS.ext; by_cases hm : 0 < s.marks <;> simp [hm]

/-- What a settling keeps: gr0 and pend0 as it began, Lv the leaves told, wp the process of a leaf; pend still to be told, new granted since. -/
structure SInv (gr0 : Nat → Bool) (N : Nat) (pend0 : List Nat) (Lv : Nat → List Nat) (wp : Nat → Nat) (pend new : List Nat) : Prop where
  nd : new.Nodup
  fresh : ∀ q ∈ new, gr0 q = false ∧ q < N
  sub : ∀ q ∈ pend, q ∈ pend0 ++ new
  len : pend.length ≤ pend0.length + new.length
  closed : ∀ q ∈ pend0 ++ new, q ∉ pend → ∀ lf ∈ Lv q, grown gr0 new (wp lf) = true
  sound : ∀ P : Nat → Prop, (∀ q ∈ pend0, P q) → (∀ q lf, P q → lf ∈ Lv q → P (wp lf)) → ∀ q ∈ new, P q

theorem nodup_le : ∀ {N : Nat} {l : List Nat}, l.Nodup → (∀ q ∈ l, q < N) → l.length ≤ N
  | 0, l, _, hl => by
    cases l with
    | nil => simp
    | cons a l => exact absurd (hl a (by simp)) (by omega)
  | N + 1, l, h, hl => by
    have h1 := nodup_le (N := N) (l := l.erase N) (h.erase N) (fun q hq => by
      have h2 := (h.mem_erase_iff).1 hq
      have h3 := hl q h2.2
      have := h2.1
      omega)
    have h4 := List.length_erase (a := N) (l := l)
    by_cases hm : N ∈ l
    · rw [if_pos hm] at h4
      have := List.length_pos_of_mem hm
      omega
    · rw [List.erase_of_not_mem hm] at h1; omega
theorem SInv.le {gr0 : Nat → Bool} {N : Nat} {pend0 : List Nat} {Lv : Nat → List Nat} {wp : Nat → Nat} {pend new : List Nat} (h : SInv gr0 N pend0 Lv wp pend new) : new.length ≤ N := nodup_le h.nd (fun q hq => (h.fresh q hq).2)

/-- While the leaves of p are told: the first i are. -/
structure SIn (gr0 : Nat → Bool) (N : Nat) (pend0 : List Nat) (Lv : Nat → List Nat) (wp : Nat → Nat) (p i : Nat) (pend new : List Nat) : Prop where
  nd : new.Nodup
  fresh : ∀ q ∈ new, gr0 q = false ∧ q < N
  sub : ∀ q ∈ pend, q ∈ pend0 ++ new
  len : pend.length + 1 ≤ pend0.length + new.length
  pin : p ∈ pend0 ++ new
  closed : ∀ q ∈ pend0 ++ new, q ∉ pend → q ≠ p → ∀ lf ∈ Lv q, grown gr0 new (wp lf) = true
  told : ∀ j (hj : j < (Lv p).length), j < i → grown gr0 new (wp (Lv p)[j]) = true
  sound : ∀ P : Nat → Prop, (∀ q ∈ pend0, P q) → (∀ q lf, P q → lf ∈ Lv q → P (wp lf)) → ∀ q ∈ new, P q
theorem SIn.le {gr0 : Nat → Bool} {N : Nat} {pend0 : List Nat} {Lv : Nat → List Nat} {wp : Nat → Nat} {p i : Nat} {pend new : List Nat} (h : SIn gr0 N pend0 Lv wp p i pend new) : new.length ≤ N := nodup_le h.nd (fun q hq => (h.fresh q hq).2)

theorem SInv.start (gr0 : Nat → Bool) (N : Nat) (pend0 : List Nat) (Lv : Nat → List Nat) (wp : Nat → Nat) : SInv gr0 N pend0 Lv wp pend0 [] :=
  ⟨by simp, by simp, by simp, by simp, fun q hq hn => absurd (by simpa using hq) hn, fun _ _ _ => by simp⟩
theorem SInv.pop {gr0 : Nat → Bool} {N : Nat} {pend0 : List Nat} {Lv : Nat → List Nat} {wp : Nat → Nat} {pend new : List Nat} {p : Nat} (h : SInv gr0 N pend0 Lv wp (pend ++ [p]) new) : SIn gr0 N pend0 Lv wp p 0 pend new := by
  refine ⟨h.nd, h.fresh, fun q hq => h.sub q (by simp [hq]), by have := h.len; simp at this; omega, h.sub p (by simp), fun q hq hn hp => h.closed q hq (by simp [hn, hp]), by simp, h.sound⟩
theorem SIn.no {gr0 : Nat → Bool} {N : Nat} {pend0 : List Nat} {Lv : Nat → List Nat} {wp : Nat → Nat} {p i : Nat} {pend new : List Nat} (h : SIn gr0 N pend0 Lv wp p i pend new) (hi : i < (Lv p).length) (hg : grown gr0 new (wp (Lv p)[i]) = true) : SIn gr0 N pend0 Lv wp p (i + 1) pend new :=
  ⟨h.nd, h.fresh, h.sub, h.len, h.pin, h.closed, fun j hj hlt => by
    by_cases e : j = i
    · subst e; exact hg
    · exact h.told j hj (by omega), h.sound⟩
theorem SIn.yes {gr0 : Nat → Bool} {N : Nat} {pend0 : List Nat} {Lv : Nat → List Nat} {wp : Nat → Nat} {p i : Nat} {pend new : List Nat} (h : SIn gr0 N pend0 Lv wp p i pend new) (hi : i < (Lv p).length) (hN : wp (Lv p)[i] < N) (hg : grown gr0 new (wp (Lv p)[i]) = false) :
    SIn gr0 N pend0 Lv wp p (i + 1) (pend ++ [wp (Lv p)[i]]) (new ++ [wp (Lv p)[i]]) := by
  have hg2 : gr0 (wp (Lv p)[i]) = false ∧ wp (Lv p)[i] ∉ new := by simpa [grown] using hg
  refine ⟨?_, ?_, ?_, ?_, ?_, ?_, ?_, ?_⟩
  · rw [List.nodup_append]; refine ⟨h.nd, by simp, ?_⟩
    intro a ha b hb e
    simp at hb; subst hb; subst e; exact hg2.2 ha
  · intro q hq
    rcases List.mem_append.1 hq with h1 | h1
    · exact h.fresh q h1
    · simp at h1; subst h1; exact ⟨hg2.1, hN⟩
  · intro q hq
    rcases List.mem_append.1 hq with h1 | h1
    · have := h.sub q h1; rw [← List.append_assoc]; exact List.mem_append.2 (.inl this)
    · rw [← List.append_assoc]; exact List.mem_append.2 (.inr h1)
  · have := h.len; simp; omega
  · rw [← List.append_assoc]; exact List.mem_append.2 (.inl h.pin)
  · intro q hq hn hp lf hlf
    apply grown_mono
    rw [← List.append_assoc] at hq
    rcases List.mem_append.1 hq with h1 | h1
    · exact h.closed q h1 (fun h2 => hn (List.mem_append.2 (.inl h2))) hp lf hlf
    · exact absurd (List.mem_append.2 (.inr h1)) hn
  · intro j hj hlt
    by_cases e : j = i
    · subst e; rw [grown_snoc]; simp
    · exact grown_mono _ _ _ _ (h.told j hj (by omega))
  · intro P h1 h2 q hq
    rcases List.mem_append.1 hq with h3 | h3
    · exact h.sound P h1 h2 q h3
    · simp at h3; subst h3
      refine h2 p _ ?_ (List.getElem_mem hi)
      rcases List.mem_append.1 h.pin with h4 | h4
      · exact h1 p h4
      · exact h.sound P h1 h2 p h4
theorem SIn.done {gr0 : Nat → Bool} {N : Nat} {pend0 : List Nat} {Lv : Nat → List Nat} {wp : Nat → Nat} {p i : Nat} {pend new : List Nat} (h : SIn gr0 N pend0 Lv wp p i pend new) (hi : (Lv p).length ≤ i) : SInv gr0 N pend0 Lv wp pend new :=
  ⟨h.nd, h.fresh, h.sub, by have := h.len; omega, fun q hq hn lf hlf => by
    by_cases e : q = p
    · subst e
      obtain ⟨j, hj, rfl⟩ := List.mem_iff_getElem.1 hlf
      exact h.told j hj (by omega)
    · exact h.closed q hq hn e lf hlf, h.sound⟩
end Go.Proofs.YbulkbmdoGreat
