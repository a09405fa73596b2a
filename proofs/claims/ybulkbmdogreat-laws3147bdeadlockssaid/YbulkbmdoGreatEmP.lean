/-
  What is granted between two components (plain), and the caller's invariant J.
-/
import Derived.Test.YbulkbmdoGreatRes
import Derived.Test.YbulkbmdoGreatFind
import Derived.Test.YbulkbmdoGreatComp0
namespace Go.Proofs.YbulkbmdoGreat
open Go.RowKit
set_option linter.unusedVariables false
set_option linter.unusedSectionVars false

/-- The graph, plain: the dead ones, each with its leaf and the one it waits on. -/
structure GP (g : GS) (tgt : Nat → Option Nat) (dead : Nat → Prop) (nx lf j : Nat → Nat) : Prop where
  dw : Dw g.n dead nx j
  root : ∀ p, dead p → (g.root p = (lf p : Int) ∧ g.fin p = (lf p : Int) + 1 ∧ lf p < g.M ∧ tgt (lf p) = some (nx p) ∧ g.wp (lf p) = p) ∧ (g.tid (lf p)).toList ≠ []
  leaf : ∀ i q, i < g.M → tgt i = some q → dead q → dead (g.wp i) ∧ nx (g.wp i) = q

/-- What is granted when S has been handed out. -/
structure GrI (dead : Nat → Prop) (vc : Nat → Nat) (S : List Nat) (gr : Nat → Bool) (pend : List Nat) : Prop where
  a : ∀ p, dead p → vc p ∈ S → vc p ∉ pend → gr p = true
  b : ∀ p, dead p → vc p ∈ pend → (gr p = true ↔ p = vc p)
  c : ∀ p, dead p → gr p = true → vc p ∈ S
  e : ∀ q ∈ pend, dead q ∧ vc q = q ∧ q ∈ S

theorem selM {tgt : Nat → Option Nat} {M q i : Nat} : i ∈ Pl.sel (prs tgt M) q ↔ i < M ∧ tgt i = some q := by
  unfold Pl.sel prs
  simp only [List.mem_map, List.mem_filter, List.mem_filterMap, List.mem_range, Option.map_eq_some_iff, beq_iff_eq, Prod.exists]
  constructor
  · rintro ⟨a, b, ⟨⟨k, hk, p, hp, e⟩, rfl⟩, rfl⟩
    simp only [Prod.mk.injEq] at e
    obtain ⟨rfl, rfl⟩ := e
    exact ⟨hk, hp⟩
  · rintro ⟨h1, h2⟩
    exact ⟨q, i, ⟨⟨i, h1, q, h2, rfl⟩, rfl⟩, rfl⟩

section
variable {g : GS} {tgt : Nat → Option Nat} {dead : Nat → Prop} {nx lf j : Nat → Nat} (hP : GP g tgt dead nx lf j)
include hP
/-- Behind the settling nothing is pending, and all whose victim was handed out are granted. -/
theorem settled {S : List Nat} {gr : Nat → Bool} {pend new : List Nat} (h : GrI dead (vic g.n nx j) S gr pend) (hI : SInv gr g.n pend (fun p => Pl.sel (prs tgt g.M) p) g.wp [] new) :
    GrI dead (vic g.n nx j) S (grown gr new) [] := by
  have hs : ∀ q ∈ new, dead q ∧ vic g.n nx j q ∈ pend := by
    refine hI.sound (fun q => dead q ∧ vic g.n nx j q ∈ pend) (fun q hq => ?_) (fun q i hq hi => ?_)
    · obtain ⟨h1, h2, _⟩ := h.e q hq
      exact ⟨h1, by rw [h2]; exact hq⟩
    · obtain ⟨h1, h2⟩ := selM.1 hi
      obtain ⟨h3, h4⟩ := hP.leaf i q h1 h2 hq.1
      refine ⟨h3, ?_⟩
      rw [← hP.dw.vic_nx h3, h4]
      exact hq.2
  refine ⟨fun p hp hv _ => ?_, fun p _ hv => absurd hv (by simp), fun p hp hg => ?_, fun q hq => absurd hq (by simp)⟩
  · by_cases hv2 : vic g.n nx j p ∈ pend
    · -- along the chain to the victim
      obtain ⟨k, hk⟩ := Dw.vic_rep g.n nx j p
      have key : ∀ k p, dead p → vic g.n nx j p ∈ pend → Nat.repeat nx k p = vic g.n nx j p → p ∈ pend ++ new := by
        intro k
        induction k with
        | zero => intro p _ hv e; exact List.mem_append.2 (.inl (by have : p = _ := e; rw [this]; exact hv))
        | succ k ih =>
          intro p hp hv e
          have hn := hP.dw.nx p hp
          have h1 := ih (nx p) hn (by rw [hP.dw.vic_nx hp]; exact hv) (by rw [hP.dw.vic_nx hp, ← rep_succ]; exact e)
          obtain ⟨⟨r1, r2, r3, r4, r5⟩, _⟩ := hP.root p hp
          have h2 := hI.closed (nx p) h1 (by simp) (lf p) (selM.2 ⟨r3, r4⟩)
          rw [r5] at h2
          unfold grown at h2
          simp only [Bool.or_eq_true, decide_eq_true_eq] at h2
          rcases h2 with h2 | h2
          · have := (h.b p hp hv).1 h2
            exact List.mem_append.2 (.inl (by rw [this]; exact hv))
          · exact List.mem_append.2 (.inr h2)
      unfold grown
      rcases List.mem_append.1 (key k p hp hv2 hk) with h3 | h3
      · obtain ⟨_, h4, _⟩ := h.e p h3
        rw [(h.b p hp hv2).2 h4.symm]; rfl
      · simp [h3]
    · unfold grown
      rw [h.a p hp hv hv2]; rfl
  · unfold grown at hg
    simp only [Bool.or_eq_true, decide_eq_true_eq] at hg
    rcases hg with hg | hg
    · exact h.c p hp hg
    · exact (h.e _ (hs p hg).2).2.2

/-- The members of a circle that is handed out: none granted; the first of them is the victim of each. -/
theorem cyc_none {S comp : List Nat} {gr : Nat → Bool} (h : GrI dead (vic g.n nx j) S gr []) (hV : VC nx dead S comp) (hl : ∃ h : 0 < comp.length, nx comp[comp.length - 1] = comp[0]) :
    (∀ p ∈ comp, nx p ∈ comp) ∧ (∀ p ∈ comp, ∀ q ∈ comp, ∃ k, Nat.repeat nx k p = q) ∧ (∀ p ∈ comp, vic g.n nx j p ∈ comp ∧ ∀ q ∈ comp, j (vic g.n nx j p) ≤ j q) ∧ ∀ p ∈ comp, gr p = false := by
  obtain ⟨h0, hlast⟩ := hl
  have hat : ∀ k i (hi : i < comp.length), Nat.repeat nx k comp[i] = comp[(i + k) % comp.length]'(Nat.mod_lt _ h0) := by
    intro k
    induction k with
    | zero => intro i hi; simp [Nat.repeat, Nat.mod_eq_of_lt hi]
    | succ k ih =>
      intro i hi
      rw [rep_out, ih i hi]
      have hm := Nat.mod_lt (i + k) h0
      by_cases e : (i + k) % comp.length + 1 < comp.length
      · rw [← hV.nxt _ e]
        have : (i + (k + 1)) % comp.length = (i + k) % comp.length + 1 := by rw [← Nat.add_assoc, Nat.add_mod, Nat.mod_eq_of_lt (a := 1) (by omega), Nat.mod_eq_of_lt e]
        simp only [this]
      · have e2 : (i + k) % comp.length = comp.length - 1 := by omega
        have e3 : (i + (k + 1)) % comp.length = 0 := by
          rw [← Nat.add_assoc, ← Nat.mod_add_mod, e2]
          rw [(by omega : comp.length - 1 + 1 = comp.length), Nat.mod_self]
        simp only [e2, e3]
        exact hlast
  have hnx : ∀ p ∈ comp, nx p ∈ comp := fun p hp => by
    obtain ⟨i, hi, rfl⟩ := List.mem_iff_getElem.1 hp
    have := hat 1 i hi
    rw [show Nat.repeat nx 1 comp[i] = nx comp[i] from rfl] at this
    rw [this]; exact List.getElem_mem _
  have hrep : ∀ p ∈ comp, ∀ k, Nat.repeat nx k p ∈ comp := fun p hp k => by
    obtain ⟨i, hi, rfl⟩ := List.mem_iff_getElem.1 hp
    rw [hat k i hi]; exact List.getElem_mem _
  have hcon : ∀ p ∈ comp, ∀ q ∈ comp, ∃ k, Nat.repeat nx k p = q := fun p hp q hq => by
    obtain ⟨i, hi, rfl⟩ := List.mem_iff_getElem.1 hp
    obtain ⟨m, hm, rfl⟩ := List.mem_iff_getElem.1 hq
    refine ⟨comp.length - i + m, ?_⟩
    rw [hat _ i hi]
    have : (i + (comp.length - i + m)) % comp.length = m := by rw [(by omega : i + (comp.length - i + m) = comp.length + m), Nat.add_mod_left, Nat.mod_eq_of_lt hm]
    simp only [this]
  have hvc : ∀ p ∈ comp, vic g.n nx j p ∈ comp ∧ ∀ q ∈ comp, j (vic g.n nx j p) ≤ j q := fun p hp => by
    obtain ⟨⟨a, ha⟩, hb⟩ := vic_isv g.n nx j p
    have hp2 := hrep p hp g.n
    refine ⟨by rw [← ha]; exact hrep _ hp2 a, fun q hq => ?_⟩
    obtain ⟨k, hk⟩ := hcon _ hp2 q hq
    rw [← hk]; exact hb k
  refine ⟨hnx, hcon, hvc, fun p hp => ?_⟩
  have hpd := hV.dd p (List.mem_append.2 (.inr hp))
  cases hg : gr p with
  | false => rfl
  | true =>
    have h1 := h.c p hpd hg
    have h2 := (hvc p hp).1
    exact absurd rfl ((List.nodup_append.1 hV.nd).2.2 _ h1 _ h2)

theorem one_all {S comp : List Nat} {gr : Nat → Bool} (h : GrI dead (vic g.n nx j) S gr []) (hV : VC nx dead S comp) (hl : ∃ h : 0 < comp.length, comp.length = 1 ∧ nx comp[0] ∈ S) :
    (∀ p ∈ comp, vic g.n nx j p ∈ S) ∧ ∀ p ∈ comp, gr p = true := by
  obtain ⟨h0, h1, h2⟩ := hl
  have hrep : ∀ k p, p ∈ S → Nat.repeat nx k p ∈ S := by
    intro k
    induction k with
    | zero => intro p hp; exact hp
    | succ k ih => intro p hp; exact hV.cl _ (ih p hp)
  have key : ∀ p ∈ comp, vic g.n nx j p ∈ S := fun p hp => by
    obtain ⟨i, hi, rfl⟩ := List.mem_iff_getElem.1 hp
    obtain rfl : i = 0 := by omega
    have hpd := hV.dd _ (List.mem_append.2 (.inr hp))
    rw [← hP.dw.vic_nx hpd]
    obtain ⟨a, ha⟩ := Dw.vic_rep g.n nx j (nx comp[0])
    rw [← ha]; exact hrep a _ h2
  exact ⟨key, fun p hp => h.a p (hV.dd _ (List.mem_append.2 (.inr hp))) (key p hp) (by simp)⟩

theorem grI_none {S comp : List Nat} {gr : Nat → Bool} (h : GrI dead (vic g.n nx j) S gr []) (hV : VC nx dead S comp) (hk : ∀ p ∈ comp, vic g.n nx j p ∈ S) : GrI dead (vic g.n nx j) (S ++ comp) gr [] := by
  refine ⟨fun p hp hv _ => ?_, fun p _ hv => absurd hv (by simp), fun p hp hg => List.mem_append.2 (.inl (h.c p hp hg)), fun q hq => absurd hq (by simp)⟩
  rcases List.mem_append.1 hv with h1 | h1
  · exact h.a p hp h1 (by simp)
  · have h2 := hk _ h1
    rw [hP.dw.vic_vic hp] at h2
    exact absurd rfl ((List.nodup_append.1 hV.nd).2.2 _ h2 _ h1)

theorem grI_one {S comp : List Nat} {gr : Nat → Bool} {hd : Nat} (h : GrI dead (vic g.n nx j) S gr []) (hV : VC nx dead S comp) (hm : hd ∈ comp) (hk : ∀ p ∈ comp, vic g.n nx j p = hd) :
    GrI dead (vic g.n nx j) (S ++ comp) (fun i => if i = hd then true else gr i) [hd] := by
  have hnd := (List.nodup_append.1 hV.nd).2.2
  refine ⟨fun p hp hv hn => ?_, fun p hp hv => ?_, fun p hp hg => ?_, fun q hq => ?_⟩
  · rcases List.mem_append.1 hv with h1 | h1
    · show (if p = hd then true else gr p) = true
      rw [h.a p hp h1 (by simp)]; simp
    · have h2 := hk _ h1
      rw [hP.dw.vic_vic hp] at h2
      exact absurd (List.mem_singleton.2 h2) hn
  · have e := List.mem_singleton.1 hv
    rw [e]
    show (if p = hd then true else gr p) = true ↔ p = hd
    constructor
    · intro h1
      by_cases e2 : p = hd
      · exact e2
      · rw [if_neg e2] at h1
        have h3 := h.c p hp h1
        rw [e] at h3
        exact absurd rfl (hnd _ h3 _ hm)
    · intro e2; rw [if_pos e2]
  · by_cases e2 : p = hd
    · subst e2
      rw [hk p hm]; exact List.mem_append.2 (.inr hm)
    · have hg : (if p = hd then true else gr p) = true := hg
      rw [if_neg e2] at hg
      exact List.mem_append.2 (.inl (h.c p hp hg))
  · have e := List.mem_singleton.1 hq
    subst e
    exact ⟨hV.dd _ (List.mem_append.2 (.inr hm)), hk _ hm, List.mem_append.2 (.inr hm)⟩
end
end Go.Proofs.YbulkbmdoGreat
