/-
  A region that draws its order, walked by a plan: the operations T yield the same value in every world that meets S and are taken first; what is left (R) comes up in one order alone; the operation z (a store into one of S's cells) waits for all of T, so S need not hold behind it.
-/
import Derived.Test.YbulkbmdoGreatBase
import Derived.Deep.RegionHeld3
namespace Go.Proofs.YbulkbmdoGreat
open Go.RowKit

section
variable {P : Program} {ops : Array Oper} {Q : Exit → Act → World → Prop} {S : World → Prop} {z : Nat}

/-- Whatever order is picked from here on, and S holds behind every operation but z. -/
def anyZ (P : Program) (ops : Array Oper) (Q : Exit → Act → World → Prop) (S : World → Prop) (z : Nat) : Nat → Array Bool → Act → World → Prop
  | 0, ls, a, w => Region.ready .any ops ls = [] ∧ Q .normal a w
  | fuel + 1, ls, a, w => (Region.ready .any ops ls = [] → Q .normal a w) ∧
    ∀ i ∈ Region.ready .any ops ls, wpOp P ops Q i (fun a' w' => (i ≠ z → S w') ∧ anyZ P ops Q S z fuel (ls.setIfInBounds i true) a' w') a w

theorem anyZ_any : ∀ (fuel : Nat) (ls : Array Bool) (a : Act) (w : World), anyZ P ops Q S z fuel ls a w → wpAny P .any ops Q fuel ls a w
  | 0, _, _, _, h => h
  | fuel + 1, _, _, _, h => ⟨h.1, fun i hi => wpOp_mono (fun _ _ k => anyZ_any fuel _ _ _ k.2) (h.2 i hi)⟩

theorem anyZ_first {i : Nat} {oi : Oper} {v : Value} (hi : ops[i]? = some oi) (hsel : Region.noSelect ops = true) (hQ : ∀ c a w, ¬ Q (.panic c) a w) (hz : ∀ oz, ops[z]? = some oz → ∃ e ∈ oz.after, Region.binds .any e = true ∧ e.on = i) :
    ∀ (fuel : Nat) (ls : Array Bool) (a : Act) (w : World), Region.free .any ops ls i = true → i ∈ Region.ready .any ops ls → YieldsIf P ops S oi v a → S w →
      anyZ P ops Q S z fuel (ls.setIfInBounds i true) (a.put oi.dst v) w → anyZ P ops Q S z (fuel + 1) ls a w := by
  have key : ∀ (fuel : Nat) (ls : Array Bool) (a : Act) (w : World),
      (∀ j oj, ops[j]? = some oj → j ≠ i → ls.getD j true = false → (∀ e ∈ oj.after, Region.binds .any e = true → e.on ≠ i) → oi.apart ops oj = true) →
      i ∈ Region.ready .any ops ls → YieldsIf P ops S oi v a → S w → anyZ P ops Q S z fuel (ls.setIfInBounds i true) (a.put oi.dst v) w → anyZ P ops Q S z (fuel + 1) ls a w := by
    intro fuel
    induction fuel with
    | zero =>
      intro ls a w _ hr hy hS H
      refine ⟨fun h => by rw [h] at hr; (cases hr), fun j hj => ?_⟩
      by_cases e : j = i
      · subst e; exact hy.wpOp hi hS ⟨fun _ => hS, H⟩
      · have h1 := ready_mono hj e
        rw [H.1] at h1; cases h1
    | succ fuel ih =>
      intro ls a w hfree hr hy hS H
      refine ⟨fun h => by rw [h] at hr; (cases hr), fun j hj => ?_⟩
      by_cases e : j = i
      · subst e; exact hy.wpOp hi hS ⟨fun _ => hS, H⟩
      · obtain ⟨hjun, oj, hoj, hall⟩ := mem_ready.1 hj
        have hnot : ∀ e ∈ oj.after, Region.binds .any e = true → e.on ≠ i := fun e he hb heq => by
          have h1 := hall e he hb
          have h0 := (mem_ready.1 hr).1
          rw [heq] at h1
          simp only [Array.getD_eq_getD_getElem?] at h0 h1
          cases hg : ls[i]? with
          | none => rw [hg] at h1; simp at h1
          | some b => rw [hg] at h0 h1; simp only [Option.getD_some] at h0 h1; rw [h0] at h1; cases h1
        have hjz : j ≠ z := by
          rintro rfl
          obtain ⟨e, he, hb, h2⟩ := hz oj hoj
          exact hnot e he hb h2
        refine wpOp_mono (fun a' w' k => ⟨fun _ => k.2.1 hjz, ?_⟩) (wpOp_putIf hoj (hfree j oj hoj e hjun hnot) (fun cs b => Region.noSelect_spec hsel i oi cs b hi) (fun cs b => Region.noSelect_spec hsel j oj cs b hoj) (fun c a w h => absurd h (hQ c _ w)) hy (H.2 j (ready_mono hj e)))
        refine ih (ls.setIfInBounds j true) a' w' (fun k ok hk hki hun hno => ?_) (ready_mono hr (Ne.symm e)) k.1 (k.2.1 hjz) ?_
        · refine hfree k ok hk hki ?_ hno
          by_cases hjk : j = k
          · subst hjk; exact hjun
          · rw [getD_set_ne true hjk] at hun; exact hun
        · rw [Array.setIfInBounds_comm _ _ e]; exact k.2.2
  intro fuel ls a w hf
  exact key fuel ls a w (Region.free_spec hi hf)

/-- The operations T, each yielding its value in every world that meets S. -/
def Takes (P : Program) (ops : Array Oper) (S : World → Prop) (K : Act → Prop) : List Nat → Act → Prop
  | [], a => K a
  | i :: T, a => ∃ oi v, ops[i]? = some oi ∧ YieldsIf P ops S oi v a ∧ Takes P ops S K T (a.put oi.dst v)
theorem takes_nil {K : Act → Prop} {a : Act} (h : K a) : Takes P ops S K [] a := h
theorem takes_cons {K : Act → Prop} {a : Act} {i : Nat} {T : List Nat} {oi : Oper} {v : Value} (hi : ops[i]? = some oi) (hw : Region.wanted oi (yielded ops a.tmps) = true)
    (hy : ∀ w, S w → (execOp a.eval oi).run P w = .ok (.value v) w) (h : Takes P ops S K T (a.put oi.dst v)) : Takes P ops S K (i :: T) a := ⟨oi, v, hi, .inl ⟨hw, hy⟩, h⟩

/-- What comes up in one order alone. -/
def RunZ (P : Program) (ops : Array Oper) (Q : Exit → Act → World → Prop) (S : World → Prop) (z : Nat) : List Nat → Act → World → Prop
  | [], a, w => Q .normal a w
  | i :: R, a, w => wpOp P ops Q i (fun a' w' => (i ≠ z → S w') ∧ RunZ P ops Q S z R a' w') a w
theorem runZ_nil {a : Act} {w : World} (h : Q .normal a w) : RunZ P ops Q S z [] a w := h
theorem runZ_step {a : Act} {w : World} {i : Nat} {R : List Nat} {oi : Oper} (hi : ops[i]? = some oi)
    (h : ∀ K : Act → World → Prop, Shut (∀ a w, S w → (S w → RunZ P ops Q S z R a w) → K a w) → if Region.wanted oi (yielded ops a.tmps) = true then Oper.wp P oi a w K Q else K (a.put oi.dst undef) w) : RunZ P ops Q S z (i :: R) a w :=
  wpOp_step hi fun K hK => h K fun a w hS hr => hK a w ⟨fun _ => hS, hr hS⟩
theorem runZ_last {a : Act} {w : World} {R : List Nat} {oi : Oper} (hi : ops[z]? = some oi)
    (h : ∀ K : Act → World → Prop, Shut (∀ a w, RunZ P ops Q S z R a w → K a w) → if Region.wanted oi (yielded ops a.tmps) = true then Oper.wp P oi a w K Q else K (a.put oi.dst undef) w) : RunZ P ops Q S z (z :: R) a w :=
  wpOp_step hi fun K hK => h K fun a w hr => hK a w ⟨fun e => absurd rfl e, hr⟩

def planR (ops : Array Oper) : Array Bool → List Nat → Bool
  | ls, [] => Region.ready .any ops ls == []
  | ls, i :: R => Region.ready .any ops ls == [i] && planR ops (ls.setIfInBounds i true) R
def planT (ops : Array Oper) (z : Nat) (R : List Nat) : Array Bool → List Nat → Bool
  | ls, [] => planR ops ls R
  | ls, i :: T => (Region.ready .any ops ls).contains i && Region.free .any ops ls i && ((ops[z]?).map (fun oz => oz.after.any fun e => Region.binds .any e && e.on == i)).getD true && planT ops z R (ls.setIfInBounds i true) T

theorem anyZ_run : ∀ (R : List Nat) (ls : Array Bool) (a : Act) (w : World), planR ops ls R = true → RunZ P ops Q S z R a w → anyZ P ops Q S z R.length ls a w
  | [], _, _, _, hB, h => ⟨by simpa [planR] using hB, h⟩
  | i :: R, ls, a, w, hB, h => by
    simp only [planR, Bool.and_eq_true, beq_iff_eq] at hB
    refine ⟨fun h0 => by rw [h0] at hB; simp at hB, fun j hj => ?_⟩
    rw [hB.1] at hj
    obtain rfl := List.mem_singleton.1 hj
    exact wpOp_mono (fun a' w' k => ⟨k.1, anyZ_run R _ a' w' hB.2 k.2⟩) h

theorem anyZ_takes (hsel : Region.noSelect ops = true) (hQ : ∀ c a w, ¬ Q (.panic c) a w) (R : List Nat) {w : World} (hS : S w) : ∀ (T : List Nat) (ls : Array Bool) (a : Act), planT ops z R ls T = true →
    Takes P ops S (fun a' => RunZ P ops Q S z R a' w) T a → anyZ P ops Q S z (T.length + R.length) ls a w
  | [], ls, a, hB, h => by simpa using anyZ_run R ls a w hB h
  | i :: T, ls, a, hB, h => by
    simp only [planT, Bool.and_eq_true] at hB
    obtain ⟨⟨⟨h1, h2⟩, h3⟩, h4⟩ := hB
    obtain ⟨oi, v, hi, hy, ht⟩ := h
    have := anyZ_first (Q := Q) hi hsel hQ (fun oz hoz => by
      rw [hoz] at h3
      simp only [Option.map_some, Option.getD_some, Array.any_eq_true] at h3
      obtain ⟨k, hk, h5⟩ := h3
      simp only [Bool.and_eq_true] at h5
      exact ⟨_, Array.getElem_mem hk, h5.1, beq_iff_eq.1 h5.2⟩) (T.length + R.length) ls a w h2 (by simpa using h1) hy hS (anyZ_takes hsel hQ R hS T _ _ h4 ht)
    simpa [Nat.add_right_comm] using this

/-- THE LAW. -/
theorem wp_region_plan {id : Nat} {a : Act} {w : World} (T R : List Nat) (z : Nat) (S : World → Prop) (hm : P.follows .mixedOrders = true) (hn : Region.noSelect ops = true) (hl : (T.length + R.length == ops.size) = true) (hB : planT ops z R (Array.replicate ops.size false) T = true)
    (hS : S w.drew) (h : Takes P ops S (fun a' => RunZ P ops (NoPanic Q) S z R a' w.drew) T a) : (Code.region id ops true).wp P Q a w := by
  refine wp_region_noPanic (wp_region_any hm (anyZ_any (S := S) (z := z) _ _ _ _ ?_))
  have := anyZ_takes (Q := NoPanic Q) hn (fun c a w h => h) R hS T (Array.replicate ops.size false) a hB h
  rw [beq_iff_eq.1 hl] at this
  exact this
end
end Go.Proofs.YbulkbmdoGreat
