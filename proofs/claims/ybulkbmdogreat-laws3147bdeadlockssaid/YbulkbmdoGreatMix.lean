import Derived.Test.YbulkbmdoGreatPlan
namespace Go.Proofs.YbulkbmdoGreat
open Go.RowKit

section
variable {P : Program} {ops : Array Oper} {Q : Exit → Act → World → Prop} {S : World → Prop} {z : Nat}

/-- The walk by a plan in which what yields in every world that meets S is taken as it comes: (true, i): taken; (false, i): the only one that may come up. -/
def Mix (P : Program) (ops : Array Oper) (Q : Exit → Act → World → Prop) (S : World → Prop) (z : Nat) : List (Bool × Nat) → Act → World → Prop
  | [], a, w => Q .normal a w
  | (true, i) :: r, a, w => ∃ oi v, ops[i]? = some oi ∧ YieldsIf P ops S oi v a ∧ Mix P ops Q S z r (a.put oi.dst v) w
  | (false, i) :: r, a, w => wpOp P ops Q i (fun a' w' => (i ≠ z → S w') ∧ Mix P ops Q S z r a' w') a w
theorem mix_nil {a : Act} {w : World} (h : Q .normal a w) : Mix P ops Q S z [] a w := h
theorem mix_take {a : Act} {w : World} {i : Nat} {r : List (Bool × Nat)} {oi : Oper} {v : Value} (hi : ops[i]? = some oi) (hw : Region.wanted oi (yielded ops a.tmps) = true)
    (hy : ∀ w, S w → (execOp a.eval oi).run P w = .ok (.value v) w) (h : Mix P ops Q S z r (a.put oi.dst v) w) : Mix P ops Q S z ((true, i) :: r) a w := ⟨oi, v, hi, .inl ⟨hw, hy⟩, h⟩
/-- An operation whose guard does not hold. -/
theorem mix_skip {a : Act} {w : World} {i : Nat} {r : List (Bool × Nat)} {oi : Oper} (hi : ops[i]? = some oi) (hw : Region.wanted oi (yielded ops a.tmps) = false)
    (h : Mix P ops Q S z r (a.put oi.dst undef) w) : Mix P ops Q S z ((true, i) :: r) a w := ⟨oi, undef, hi, .inr ⟨hw, rfl⟩, h⟩
theorem mix_step {a : Act} {w : World} {i : Nat} {r : List (Bool × Nat)} {oi : Oper} (hi : ops[i]? = some oi)
    (h : ∀ K : Act → World → Prop, Shut (∀ a w, S w → (S w → Mix P ops Q S z r a w) → K a w) → if Region.wanted oi (yielded ops a.tmps) = true then Oper.wp P oi a w K Q else K (a.put oi.dst undef) w) : Mix P ops Q S z ((false, i) :: r) a w :=
  wpOp_step hi fun K hK => h K fun a w hS hr => hK a w ⟨fun _ => hS, hr hS⟩
theorem mix_last {a : Act} {w : World} {r : List (Bool × Nat)} {oi : Oper} (hi : ops[z]? = some oi)
    (h : ∀ K : Act → World → Prop, Shut (∀ a w, Mix P ops Q S z r a w → K a w) → if Region.wanted oi (yielded ops a.tmps) = true then Oper.wp P oi a w K Q else K (a.put oi.dst undef) w) : Mix P ops Q S z ((false, z) :: r) a w :=
  wpOp_step hi fun K hK => h K fun a w hr => hK a w ⟨fun e => absurd rfl e, hr⟩

def mixB (ops : Array Oper) (z : Nat) : Array Bool → List (Bool × Nat) → Bool
  | ls, [] => Region.ready .any ops ls == []
  | ls, (true, i) :: r => (Region.ready .any ops ls).contains i && Region.free .any ops ls i && ((ops[z]?).map (fun oz => oz.after.any fun e => Region.binds .any e && e.on == i)).getD true && mixB ops z (ls.setIfInBounds i true) r
  | ls, (false, i) :: r => Region.ready .any ops ls == [i] && (if i = z then r.isEmpty else true) && mixB ops z (ls.setIfInBounds i true) r

theorem anyZ_mix (hsel : Region.noSelect ops = true) (hQ : ∀ c a w, ¬ Q (.panic c) a w) : ∀ (r : List (Bool × Nat)) (ls : Array Bool) (a : Act) (w : World), (r ≠ [] → S w) → mixB ops z ls r = true → Mix P ops Q S z r a w → anyZ P ops Q S z r.length ls a w
  | [], ls, a, w, _, hB, h => ⟨by simpa [mixB] using hB, h⟩
  | (true, i) :: r, ls, a, w, hS, hB, h => by
    simp only [mixB, Bool.and_eq_true] at hB
    obtain ⟨⟨⟨h1, h2⟩, h3⟩, h4⟩ := hB
    obtain ⟨oi, v, hi, hy, ht⟩ := h
    exact anyZ_first (Q := Q) hi hsel hQ (fun oz hoz => by
      rw [hoz] at h3
      simp only [Option.map_some, Option.getD_some, Array.any_eq_true] at h3
      obtain ⟨k, hk, h5⟩ := h3
      simp only [Bool.and_eq_true] at h5
      exact ⟨_, Array.getElem_mem hk, h5.1, beq_iff_eq.1 h5.2⟩) r.length ls a w h2 (by simpa using h1) hy (hS (by simp)) (anyZ_mix hsel hQ r _ _ w (fun _ => hS (by simp)) h4 ht)
  | (false, i) :: r, ls, a, w, hS, hB, h => by
    simp only [mixB, Bool.and_eq_true, beq_iff_eq] at hB
    obtain ⟨⟨h1, h2⟩, h3⟩ := hB
    refine ⟨fun h0 => by rw [h0] at h1; simp at h1, fun j hj => ?_⟩
    rw [h1] at hj
    obtain rfl := List.mem_singleton.1 hj
    refine wpOp_mono (fun a' w' k => ⟨k.1, anyZ_mix hsel hQ r _ a' w' (fun hr => k.1 fun e => ?_) h3 k.2⟩) h
    rw [if_pos e] at h2
    exact hr (List.isEmpty_iff.1 h2)

/-- THE LAW OF THE MIXED PLAN. -/
theorem wp_region_mix {id : Nat} {a : Act} {w : World} (r : List (Bool × Nat)) (z : Nat) (S : World → Prop) (hm : P.follows .mixedOrders = true) (hn : Region.noSelect ops = true) (hl : (r.length == ops.size) = true) (hB : mixB ops z (Array.replicate ops.size false) r = true)
    (hS : S w.drew) (h : Mix P ops (NoPanic Q) S z r a w.drew) : (Code.region id ops true).wp P Q a w := by
  refine wp_region_noPanic (wp_region_any hm (anyZ_any (S := S) (z := z) _ _ _ _ ?_))
  have := anyZ_mix (Q := NoPanic Q) hn (fun c a w h => h) r (Array.replicate ops.size false) a w.drew (fun _ => hS) hB h
  rw [beq_iff_eq.1 hl] at this
  exact this
end
end Go.Proofs.YbulkbmdoGreat
