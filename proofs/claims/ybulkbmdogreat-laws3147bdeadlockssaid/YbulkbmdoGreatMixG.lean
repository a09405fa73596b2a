import Derived.Test.YbulkbmdoGreatMix
namespace Go.Proofs.YbulkbmdoGreat
open Go.RowKit
variable {P : Program} {ops : Array Oper} {Q : Exit → Act → World → Prop} {S : World → Prop} {z : Nat}

/-- A guarded operation is wanted where its guard's register holds what it asks. -/
theorem wanted_eval {a : Act} {oi oj : Oper} {j d : Nat} {b : Bool} (hg : oi.guard = some (j, b)) (hj : ops[j]? = some oj) (hd : oj.dst = some d) (ht : a.eval (.tmp d) = .bool b) : Region.wanted oi (yielded ops a.tmps) = true := by
  have h2 : a.tmps.getD d undef = .bool b := ht
  have h3 : a.tmps[d]? = some (.bool b) := by
    rw [Array.getD_eq_getD_getElem?] at h2
    cases h : a.tmps[d]? with
    | none => rw [h] at h2; cases h2
    | some v => rw [h] at h2; exact congrArg some h2
  simp [Region.wanted, hg, yielded, hj, hd, h3]
theorem mix_takeU {a : Act} {w : World} {i : Nat} {r : List (Bool × Nat)} {oi : Oper} {v : Value} (hi : ops[i]? = some oi) (hg : oi.guard = none)
    (hy : ∀ w, S w → (execOp a.eval oi).run P w = .ok (.value v) w) (h : Mix P ops Q S z r (a.put oi.dst v) w) : Mix P ops Q S z ((true, i) :: r) a w :=
  mix_take hi (by simp [Region.wanted, hg]) hy h
theorem mix_takeG {a : Act} {w : World} {i : Nat} {r : List (Bool × Nat)} {oi oj : Oper} {v : Value} {j d : Nat} {b : Bool} (hi : ops[i]? = some oi) (hg : oi.guard = some (j, b)) (hj : ops[j]? = some oj) (hd : oj.dst = some d) (ht : a.eval (.tmp d) = .bool b)
    (hy : ∀ w, S w → (execOp a.eval oi).run P w = .ok (.value v) w) (h : Mix P ops Q S z r (a.put oi.dst v) w) : Mix P ops Q S z ((true, i) :: r) a w :=
  mix_take hi (wanted_eval hg hj hd ht) hy h
theorem mix_stepG {a : Act} {w : World} {i : Nat} {r : List (Bool × Nat)} {oi oj : Oper} {j d : Nat} {b : Bool} (hi : ops[i]? = some oi) (hg : oi.guard = some (j, b)) (hj : ops[j]? = some oj) (hd : oj.dst = some d) (ht : a.eval (.tmp d) = .bool b)
    (h : ∀ K : Act → World → Prop, Shut (∀ a w, S w → (S w → Mix P ops Q S z r a w) → K a w) → Oper.wp P oi a w K Q) : Mix P ops Q S z ((false, i) :: r) a w :=
  mix_step hi fun K hK => by rw [if_pos (wanted_eval hg hj hd ht)]; exact h K hK
end Go.Proofs.YbulkbmdoGreat
