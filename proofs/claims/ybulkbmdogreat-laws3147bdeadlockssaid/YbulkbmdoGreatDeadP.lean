/-
  Plain facts between deadlocks' statements.
-/
import Derived.Test.YbulkbmdoGreatD7
namespace Go.Proofs.YbulkbmdoGreat
open Go.RowKit
set_option linter.unusedVariables false

theorem fl_at (g : GS) (gr : Nat → Bool) {n v : Nat} (hv : v < n) (hd : dq g gr v = true) : ∃ h : (fl g gr v).length < (fl g gr n).length, (fl g gr n)[(fl g gr v).length] = v := by
  have e : fl g gr (v + 1) = fl g gr v ++ [v] := by rw [fl_succ, hd]; simp
  have hp := fl_pref g gr (show v + 1 ≤ n by omega)
  have hl : (fl g gr v).length < (fl g gr (v + 1)).length := by rw [e]; simp
  refine ⟨Nat.lt_of_lt_of_le hl hp.length_le, ?_⟩
  have := hp.getElem (i := (fl g gr v).length) hl
  rw [← this]
  simp [e]
theorem fl_nodup (g : GS) (gr : Nat → Bool) (n : Nat) : (fl g gr n).Nodup := List.nodup_range.filter _

theorem dl_idx {dl : List Nat} {p : Nat} (h : p ∈ dl) : dl.idxOf p < dl.length ∧ dl.getD (dl.idxOf p) 0 = p := by
  have hl := List.idxOf_lt_length_of_mem h
  refine ⟨hl, ?_⟩
  rw [List.getD_eq_getElem?_getD, List.getElem?_eq_getElem hl]
  simp
theorem dl_ord {dl : List Nat} {j : Nat → Nat} (hs : dl.Pairwise fun a b => j a ≤ j b) {p q : Nat} (h1 : p ∈ dl) (h2 : q ∈ dl) (h : dl.idxOf p ≤ dl.idxOf q) : j p ≤ j q := by
  have hl1 := List.idxOf_lt_length_of_mem h1
  have hl2 := List.idxOf_lt_length_of_mem h2
  have e1 : dl[dl.idxOf p] = p := by simp
  have e2 : dl[dl.idxOf q] = q := by simp
  by_cases e : dl.idxOf p = dl.idxOf q
  · have : p = q := by rw [← e1, ← e2]; simp [e]
    rw [this]; exact Nat.le_refl _
  · have := List.pairwise_iff_getElem.1 hs _ _ hl1 hl2 (by omega)
    rw [e1, e2] at this
    exact this

/-- J bears what the walk over the components writes of its own. -/
theorem JJ.step {R S : Nat} {g : GS} {tgt : Nat → Option Nat} {ds : List Nat} {dp : Nat → Nat} {sb : Nat} {dead : Nat → Prop} {nx j : Nat → Nat} {Bf Bg gb Bp pb Bv vb : Nat} {rt d : Nat → Nat} (hD0 : 0 < ds.length) (L : List Nat) (o1 : Nat → Nat) (W1 : World) (o2 : Nat → Nat) (W2 : World)
    (h : JJ R S g tgt ds dp sb dead nx j Bf Bg gb Bp pb Bv vb rt d L o1 W1) (hs : Step CT o1 W1 o2 W2) : JJ R S g tgt ds dp sb dead nx j Bf Bg gb Bp pb Bv vb rt d L o2 W2 := by
  obtain ⟨v, s, pv, uv, gp, vq, h1, h2, h3, h4, h5, h6, h7, h8, h9⟩ := h
  exact ⟨v, s, pv, uv, gp, vq, h1.step hD0 hs (by decide) (fun i => by simp [CT]; omega), h2.step hs (by decide) (by decide) (by decide) (by decide), h3.step hs (by decide) rfl rfl rfl rfl rfl rfl, h4, h5, h6, h7, h8.step hs (by decide), h9⟩

def T9 : List Nat := List.range 900
theorem up {T : List Nat} {o o' : Nat → Nat} {W W' : World} (s : Step T o W o' W') (h : ∀ t ∈ T, t < 900) : Step T9 o W o' W' := s.mono fun t ht => List.mem_range.2 (h t ht)

theorem same_grp {n : Nat} {dead : Nat → Prop} {nx rt j : Nat → Nat} (hd : Dw n dead nx j) (hq : Gq n dead nx (vic n nx j) n rt) {p q : Nat} (hp : dead p) (hq2 : dead q) : rt p = rt q ↔ vic n nx j p = vic n nx j q := by
  have hr : ∀ p, dead p → ∀ k, rt (Nat.repeat nx k p) = rt p := by
    intro p hp k
    induction k with
    | zero => rfl
    | succ k ih => rw [rep_out, ← hq.one _ (hd.lt _ (hd.rep hp k)) (hd.rep hp k)]; exact ih
  have hv : ∀ p, dead p → rt (vic n nx j p) = rt p := fun p hp => by
    obtain ⟨a, ha⟩ := Dw.vic_rep n nx j p
    rw [← ha]; exact hr p hp a
  constructor
  · intro e
    rcases hq.two p q (hd.lt _ hp) (hd.lt _ hq2) e with h | ⟨_, _, h⟩
    · rw [h]
    · exact h
  · intro e
    rw [← hv p hp, ← hv q hq2, e]
end Go.Proofs.YbulkbmdoGreat
