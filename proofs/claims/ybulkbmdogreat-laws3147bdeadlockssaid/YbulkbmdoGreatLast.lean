/-
  A region that draws its order, whose operations but the last only read, and whose last operation (a store) waits for all the others: one walk in the order of the text, then the store.
-/
import Derived.Test.YbulkbmdoGreatBase
import Derived.Deep.RegionHeld3
namespace Go.Proofs.YbulkbmdoGreat
open Go.RowKit

/-- The last operation waits for all the others, and each of those only for earlier ones. -/
def lastB (l : List Oper) (o : Oper) : Bool :=
  o.dst.isNone && ((List.range l.length).all fun i => o.after.any fun e => Region.binds .any e && e.on == i) && o.after.all (fun e => decide (e.on < l.length)) &&
    (List.range l.length).all fun j => match l[j]? with | some x => x.after.all (fun e => decide (e.on < j)) | none => true

theorem yielded_last {l : List Oper} {o : Oper} (hd : o.dst = none) (t : Array Value) : yielded (l ++ [o]).toArray t = yielded l.toArray t := by
  funext j
  unfold yielded
  have : (((l ++ [o]).toArray[j]?).bind (·.dst)) = ((l.toArray[j]?).bind (·.dst)) := by
    simp only [List.getElem?_toArray]
    by_cases h : j < l.length
    · rw [List.getElem?_append_left h]
    · rw [List.getElem?_append_right (by omega), List.getElem?_eq_none (by omega : l.length ≤ j)]
      by_cases h2 : j = l.length
      · subst h2; simp [hd]
      · rw [List.getElem?_eq_none (by simp; omega)]
  rw [this]

theorem ready_last {l : List Oper} {o : Oper} {ls : Array Bool} (hls : ls.size = l.length) {j : Nat} (hj : j < l.length) :
    j ∈ Region.ready .any (l ++ [o]).toArray (ls.push false) ↔ j ∈ Region.ready .any l.toArray ls := by
  have e1 : ∀ i, (ls.push false).getD i false = ls.getD i false := fun i => by
    simp only [Array.getD_eq_getD_getElem?, Array.getElem?_push]
    split
    · rename_i h; subst h; simp
    · rfl
  have e2 : (ls.push false).getD j true = ls.getD j true := by
    simp only [Array.getD_eq_getD_getElem?, Array.getElem?_push, if_neg (by omega : ¬ j = ls.size)]
  have e3 : (l ++ [o]).toArray[j]? = l.toArray[j]? := by simp only [List.getElem?_toArray]; rw [List.getElem?_append_left hj]
  rw [mem_ready, mem_ready, e2, e3]
  simp only [e1]

variable {P : Program} {Q : Exit → Act → World → Prop} {C : World → Prop} {l : List Oper} {o : Oper}

theorem any_last (hB : lastB l o = true) : ∀ (fuel : Nat) (ls : Array Bool) (a : Act) (w : World), ls.size = l.length → C w →
    wpAnyQ P .any l.toArray C (fun a' => ∀ w', C w' → wpOp P (l ++ [o]).toArray Q l.length (Q .normal) a' w') fuel ls a →
    wpAny P .any (l ++ [o]).toArray Q (fuel + 1) (ls.push false) a w := by
  simp only [lastB, Bool.and_eq_true, List.all_eq_true, List.mem_range, Array.any_eq_true, Array.all_eq_true, Option.isNone_iff_eq_none] at hB
  obtain ⟨⟨⟨hd, h1⟩, h2⟩, h3⟩ := hB
  have none_all : ∀ ls : Array Bool, ls.size = l.length → Region.ready .any l.toArray ls = [] → ∀ k j, j < k → j < l.length → ls.getD j true = true := by
    intro ls hls hr k
    induction k with
    | zero => intro j hj; omega
    | succ k ih =>
      intro j hj hjl
      by_cases hjk : j < k
      · exact ih j hjk hjl
      obtain rfl : j = k := by omega
      cases hg : ls.getD j true with
      | true => rfl
      | false =>
        exfalso
        have hx : j ∈ Region.ready .any l.toArray ls := by
          refine mem_ready.2 ⟨hg, l[j], by simp [hjl], fun e he hb => ?_⟩
          have h4 := h3 j hjl
          rw [List.getElem?_eq_getElem hjl] at h4
          obtain ⟨i, hi, rfl⟩ := Array.mem_iff_getElem.1 he
          simp only [Array.all_eq_true] at h4
          have h5 := h4 i hi
          simp only [decide_eq_true_eq] at h5
          have h6 := ih (l[j].after[i].on) h5 (by omega)
          simp only [Array.getD_eq_getD_getElem?] at h6 ⊢
          rw [Array.getElem?_eq_getElem (by omega)] at h6 ⊢
          exact h6
        rw [hr] at hx; cases hx
  have last_ready : ∀ ls : Array Bool, ls.size = l.length → Region.ready .any l.toArray ls = [] → l.length ∈ Region.ready .any (l ++ [o]).toArray (ls.push false) := by
    intro ls hls hr
    refine mem_ready.2 ⟨?_, o, by simp, fun e he hb => ?_⟩
    · rw [← hls]; simp [Array.getD_eq_getD_getElem?]
    · obtain ⟨i, hi, rfl⟩ := Array.mem_iff_getElem.1 he
      have h5 := h2 i hi
      simp only [decide_eq_true_eq] at h5
      have h6 := none_all ls hls hr _ _ (Nat.lt_succ_self _) h5
      simp only [Array.getD_eq_getD_getElem?, Array.getElem?_push, if_neg (by omega : ¬ o.after[i].on = ls.size)] at h6 ⊢
      rw [Array.getElem?_eq_getElem (by omega)] at h6 ⊢
      exact h6
  have last_only : ∀ ls : Array Bool, ls.size = l.length → l.length ∈ Region.ready .any (l ++ [o]).toArray (ls.push false) → Region.ready .any l.toArray ls = [] := by
    intro ls hls hr
    obtain ⟨_, x, hx, hall⟩ := mem_ready.1 hr
    obtain rfl : o = x := by simpa using hx
    refine List.eq_nil_iff_forall_not_mem.2 fun j hj => ?_
    obtain ⟨hj1, y, hy, _⟩ := mem_ready.1 hj
    have hjl : j < l.length := by
      simp only [List.getElem?_toArray] at hy
      exact (List.getElem?_eq_some_iff.1 hy).1
    obtain ⟨i, hi, he⟩ := h1 j hjl
    have h5 := hall o.after[i] (Array.getElem_mem hi) he.1
    rw [(beq_iff_eq.1 he.2)] at h5
    simp only [Array.getD_eq_getD_getElem?, Array.getElem?_push, if_neg (by omega : ¬ j = ls.size)] at h5 hj1
    rw [Array.getElem?_eq_getElem (by omega)] at h5 hj1
    simp only [Option.getD_some] at h5 hj1
    rw [h5] at hj1; cases hj1
  have fin : ∀ (fuel : Nat) (ls : Array Bool) (a : Act) (w : World), ls.size = l.length → Region.ready .any l.toArray ls = [] →
      wpOp P (l ++ [o]).toArray Q l.length (Q .normal) a w →
      wpOp P (l ++ [o]).toArray Q l.length (wpAny P .any (l ++ [o]).toArray Q fuel ((ls.push false).setIfInBounds l.length true)) a w := by
    intro fuel ls a w hls hr h
    refine wpOp_mono (fun a' w' h' => ?_) h
    refine wpAny_done (List.eq_nil_iff_forall_not_mem.2 fun j hj => ?_) h' fuel
    obtain ⟨hj1, y, hy, _⟩ := mem_ready.1 hj
    simp only [List.getElem?_toArray] at hy
    have hjl := (List.getElem?_eq_some_iff.1 hy).1
    simp only [List.length_append, List.length_singleton] at hjl
    by_cases e : j = l.length
    · subst e
      simp [Array.getD_eq_getD_getElem?, hls] at hj1
    · have h6 := none_all ls hls hr _ _ (Nat.lt_succ_self _) (by omega : j < l.length)
      rw [getD_set_ne true (by omega)] at hj1
      simp only [Array.getD_eq_getD_getElem?, Array.getElem?_push, if_neg (by omega : ¬ j = ls.size)] at hj1 h6
      rw [h6] at hj1; cases hj1
  have turn : ∀ (ls : Array Bool) (i : Nat), ls.size = l.length → i < l.length → (ls.push false).setIfInBounds i true = (ls.setIfInBounds i true).push false := by
    intro ls i hls hi
    refine Array.ext_getElem? fun k => ?_
    simp only [Array.getElem?_setIfInBounds, Array.getElem?_push, Array.size_setIfInBounds, Array.size_push]
    by_cases e : i = k
    · subst e; simp [(by omega : i < ls.size), (by omega : i < ls.size + 1)]; omega
    · simp [e]
  have same : ∀ (i : Nat) (K : Act → World → Prop) (a : Act) (w : World), i < l.length → wpOp P l.toArray Q i K a w → wpOp P (l ++ [o]).toArray Q i K a w := by
    intro i K a w hi h
    have e3 : (l ++ [o]).toArray[i]? = l.toArray[i]? := by simp only [List.getElem?_toArray]; rw [List.getElem?_append_left hi]
    unfold wpOp at *
    rw [e3, yielded_last hd]
    exact h
  intro fuel
  induction fuel with
  | zero =>
    intro ls a w hls hw h
    obtain ⟨hr, hq⟩ := h
    refine ⟨fun h0 => ?_, fun i hi => ?_⟩
    · have := last_ready ls hls hr; rw [h0] at this; cases this
    · by_cases hil : i < l.length
      · have := (ready_last hls hil).1 hi; rw [hr] at this; cases this
      · obtain ⟨_, y, hy, _⟩ := mem_ready.1 hi
        simp only [List.getElem?_toArray] at hy
        have hjl := (List.getElem?_eq_some_iff.1 hy).1
        simp only [List.length_append, List.length_singleton] at hjl
        obtain rfl : i = l.length := by omega
        exact fin 0 ls a w hls hr (hq w hw)
  | succ fuel ih =>
    intro ls a w hls hw h
    obtain ⟨hq, hs⟩ := h
    refine ⟨fun h0 => ?_, fun i hi => ?_⟩
    · by_cases hr : Region.ready .any l.toArray ls = []
      · have := last_ready ls hls hr; rw [h0] at this; cases this
      · obtain ⟨j, hj⟩ := List.exists_mem_of_ne_nil _ hr
        obtain ⟨_, y, hy, _⟩ := mem_ready.1 hj
        simp only [List.getElem?_toArray] at hy
        have := (ready_last (o := o) hls (List.getElem?_eq_some_iff.1 hy).1).2 hj
        rw [h0] at this; cases this
    · by_cases hil : i < l.length
      · refine same i _ a w hil ?_
        refine wpOp_of_qOp hw (fun a' w' hw' hk => ?_) (hs i ((ready_last hls hil).1 hi))
        rw [turn ls i hls hil]
        exact ih _ a' w' (by simpa using hls) hw' hk
      · obtain ⟨_, y, hy, _⟩ := mem_ready.1 hi
        simp only [List.getElem?_toArray] at hy
        have hjl := (List.getElem?_eq_some_iff.1 hy).1
        simp only [List.length_append, List.length_singleton] at hjl
        obtain rfl : i = l.length := by omega
        have hr := last_only ls hls hi
        exact fin _ ls a w hls hr (hq hr w hw)

/-- The region of reads with one store behind them all. -/
theorem wp_region_last {id : Nat} {a : Act} {w : World} {L : List Oper} (hm : P.follows .mixedOrders = true) (hL : L = l ++ [o]) (hB : Region.lexB .any l.toArray = true) (hB2 : lastB l o = true) (hg : o.guard = none)
    (h : wpQuiet P l.toArray (fun w' => ∃ n, w' = w.drewN n) (fun a' => ∀ w', (∃ n, w' = w.drewN n) → ∀ K : Act → World → Prop, (∀ a w, Q .normal a w → K a w) → Oper.wp P o a' w' K Q) l a) :
    (Code.region id L.toArray true).wp P Q a w := by
  subst hL
  simp only [Region.lexB, Bool.and_eq_true] at hB
  refine wp_region_any hm ?_
  have h2 : wpAnyQ P .any l.toArray (fun w' => ∃ n, w' = w.drewN n) (fun a' => ∀ w', (∃ n, w' = w.drewN n) → wpOp P (l ++ [o]).toArray Q l.length (Q .normal) a' w') l.toArray.toList.length (Array.replicate l.toArray.size false) a := by
    refine wpAnyQ_lex (md := .any) hB.1 l.toArray.toList 0 _ a (by simp) (by simpa using hB.2) ?_
    have mono : ∀ (k : List Oper) (a : Act), wpQuiet P l.toArray (fun w' => ∃ n, w' = w.drewN n) (fun a' => ∀ w', (∃ n, w' = w.drewN n) → ∀ K : Act → World → Prop, (∀ a w, Q .normal a w → K a w) → Oper.wp P o a' w' K Q) k a → wpQuiet P l.toArray (fun w' => ∃ n, w' = w.drewN n) (fun a' => ∀ w', (∃ n, w' = w.drewN n) → wpOp P (l ++ [o]).toArray Q l.length (Q .normal) a' w') k a := by
      intro k
      induction k with
      | nil =>
        intro a h w' hw'
        refine wpOp_step (o := o) (by simp) fun K hK => ?_
        rw [if_pos (by simp [Region.wanted, hg])]
        exact h w' hw' K hK
      | cons x k ih =>
        intro a h
        unfold wpQuiet at h ⊢
        split
        · rename_i hx; rw [if_pos hx] at h; exact Oper.quiet_mono ih h
        · rename_i hx; rw [if_neg hx] at h; exact ih _ h
    exact mono _ a (by simpa using h)
  have h3 := any_last (Q := Q) hB2 _ _ a { w with drawn := w.drawn + 1 } (by simp) ⟨1, rfl⟩ h2
  have e5 : (Array.replicate l.toArray.size false).push false = Array.replicate (l ++ [o]).toArray.size false := by
    simp [Array.replicate_succ]
  rw [e5] at h3
  simpa using h3

/-- The same for a region whose operations are written out. -/
theorem wp_region_last_lit {id : Nat} {a : Act} {w : World} {L : List Oper} (hm : P.follows .mixedOrders = true) (ho : L.getLast? = some o) (hB : Region.lexB .any L.dropLast.toArray = true) (hB2 : lastB L.dropLast o = true) (hg : o.guard = none)
    (h : wpQuiet P L.dropLast.toArray (fun w' => ∃ n, w' = w.drewN n) (fun a' => ∀ w', (∃ n, w' = w.drewN n) → ∀ K : Act → World → Prop, (∀ a w, Q .normal a w → K a w) → Oper.wp P o a' w' K Q) L.dropLast a) :
    (Code.region id L.toArray true).wp P Q a w := by
  have hne : L ≠ [] := by rintro rfl; simp at ho
  have e : L.getLast hne = o := by rw [List.getLast?_eq_some_getLast hne] at ho; exact Option.some.inj ho
  exact wp_region_last hm (by rw [← e, List.dropLast_concat_getLast]) hB hB2 hg h
end Go.Proofs.YbulkbmdoGreat
