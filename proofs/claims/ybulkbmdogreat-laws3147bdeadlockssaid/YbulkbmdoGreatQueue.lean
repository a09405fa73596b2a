import Derived.Test.YbulkbmdoGreatAbort5
import Derived.BigRegion
namespace Go.Proofs.YbulkbmdoGreat
open Go.RowKit Go.Shelf
set_option linter.unusedVariables false

theorem info24 : (Ybaz.prog.info? 24).map (fun i => (i.zero, i.size, i.bytes)) = some (some (.slice none 0 0), 1, 24) := by kernel_rfl

/-- The buckets: n of them in use, bl j the slots in bucket j; what room there is beyond holds slices too. -/
def QAt (o : Nat → Nat) (W : World) (qbv : Value) (n : Nat) (bl : Nat → List Nat) : Prop :=
  (qbv = .slice none 0 0 ∧ n = 0) ∨ ∃ (qb cap : Nat) (cur : Array Value) (bv : Nat → Value), qbv = .slice (some ⟨qb, 0, none⟩) n cap ∧ n ≤ cap ∧ cap ≤ maxLen ∧ o qb = 36 ∧ W.heap[qb]? = some (.cells cur 24 (0, 0)) ∧ cur.size = cap ∧
    ∀ j, j < cap → cur[j]? = some (bv j) ∧ Sl o W (100 + j) 3 (bv j) (ints (bl j))
theorem QAt.step {o o' : Nat → Nat} {W W' : World} {T : List Nat} {qbv : Value} {n : Nat} {bl : Nat → List Nat} (h : QAt o W qbv n bl) (hs : Step T o W o' W') (h1 : 36 ∉ T) (h2 : ∀ j, 100 + j ∉ T) : QAt o' W' qbv n bl := by
  rcases h with h | ⟨qb, cap, cur, bv, e, h3, h4, h5, h6, h7, h8⟩
  · exact .inl h
  · have hlt := (Array.getElem?_eq_some_iff.1 h6).1
    exact .inr ⟨qb, cap, cur, bv, e, h3, h4, (hs.own _ hlt).trans h5, (hs.block _ hlt (by rw [h5]; exact h1)).trans h6, h7, fun j hj => ⟨(h8 j hj).1, (h8 j hj).2.step hs (h2 j)⟩⟩

theorem zeroCells_one (z : Value) (hz : z.cells = #[z]) (k j : Nat) (hj : j < k) : (Builtin.zeroCells z.cells k)[j]? = some z := by
  rw [hz]
  have hs : (Builtin.zeroCells #[z] k).size = k := by rw [size_zeroCells]; simp
  have : ∀ x ∈ Builtin.zeroCells #[z] k, x = z := by
    intro x hx
    unfold Builtin.zeroCells at hx
    simp at hx
    obtain ⟨a, _, h2⟩ := hx
    rw [← h2, Nat.mod_one]; rfl
  rw [Array.getElem?_eq_getElem (by omega)]
  rw [this _ (Array.getElem_mem _)]

/-- append(buckets, nil) where there is no room: all anew. -/
theorem buckets_grow (o : Nat → Nat) (W : World) (qbv : Value) (n : Nat) (bl : Nat → List Nat) (h : QAt o W qbv n bl) (hn : n ≤ 1000) (hfull : ∀ a cap, qbv = .slice a n cap → cap = n) :
    ∃ v' w', (Builtin.append_ #[59, 59] 59 #[qbv, .slice (some ⟨W.heap.size, 0, none⟩) 1 1]).run Ybaz.prog (W.alloc (.cells #[.slice none 0 0] 24)) = .ok v' w' ∧ (∃ a c, v' = .slice a (n + 1) c) ∧
      ∃ o', QAt o' w' v' (n + 1) (fun j => if j < n then bl j else []) ∧ Step [] o W o' w' := by
  obtain ⟨i0, hi, hz0, hz1, hz2⟩ := info_parts info24
  have hcell : ∀ j u, [Value.slice none 0 0][j]? = some u → (W.alloc (.cells #[.slice none 0 0] 24)).cell? ((⟨W.heap.size, 0, none⟩ : Addr).add j) = some u := cell_one_new W _ _
  have hS : ∀ {cur : Array Value}, Step [] o W (tg (fun k => if k < W.heap.size then o k else 99) (W.heap.size + 1) 36) (((W.alloc (.cells #[.slice none 0 0] 24)).drew).alloc (.cells cur 24)) := by
    intro cur
    refine ⟨rfl, rfl, rfl, by simp; omega, fun k hk => ?_, fun k hk _ => ?_⟩
    · rw [tg_old _ _ (by omega)]; simp [hk]
    · rw [Below.heap_alloc _ _ _ (by simp; omega)]
      exact Below.heap_alloc _ _ _ hk
  rcases h with ⟨rfl, rfl⟩ | ⟨qb, cap, cur, bv, rfl, h3, h4, h5, h6, h7, h8⟩
  · have hr := run_append_nil (P := Ybaz.prog) (W.alloc (.cells #[.slice none 0 0] 24)) 59 59 24 i0 (.slice none 0 0) Ybaz.underlying59 hi hz0 ⟨W.heap.size, 0, none⟩ 1 1 [.slice none 0 0] (by simp [hz1]) hcell (by omega) (by omega) (by rw [hz2]; omega)
    refine ⟨_, _, hr, ⟨_, _, rfl⟩, _, ?_, hS⟩
    have hge := grownCap_ge (W.alloc (.cells #[.slice none 0 0] 24)) 1 0 24
    have hle := grownCap_le_maxLen (W.alloc (.cells #[.slice none 0 0] 24)) 1 0 24 (by unfold maxLen; omega)
    refine .inr ⟨W.heap.size + 1, _, [Value.slice none 0 0].toArray ++ Builtin.zeroCells (Value.slice none 0 0).cells (grownCap (W.alloc (.cells #[.slice none 0 0] 24)) 1 0 24 - 1), fun _ => .slice none 0 0, by simp, hge, hle, tg_self _ _ _, ?_, ?_, fun j hj => ⟨?_, ?_⟩⟩
    · have := World.alloc_heap_new (W.alloc (.cells #[.slice none 0 0] 24)).drew (.cells (#[.slice none 0 0] ++ Builtin.zeroCells (Value.slice none 0 0).cells (grownCap (W.alloc (.cells #[.slice none 0 0] 24)) 1 0 24 - 1)) 24)
      simpa using this
    · simp [size_zeroCells, Value.cells]; omega
    · rw [Array.getElem?_append]
      by_cases e : j < 1
      · have : j = 0 := by omega
        subst this; simp
      · have e2 : ¬ j < (#[Value.slice none 0 0] : Array Value).size := by simpa using e
        rw [if_neg e2]
        exact zeroCells_one _ rfl _ _ (by simp; omega)
    · have : (if j < 0 then bl j else []) = [] := by simp
      show Sl _ _ _ _ _ (ints (if j < 0 then bl j else []))
      rw [this]; exact Sl.nil _ _ _ _
  · obtain rfl : cap = n := hfull _ _ rfl
    have hold : ∀ j v, (cur.toList)[j]? = some v → (W.alloc (.cells #[.slice none 0 0] 24)).cell? ((⟨qb, 0, none⟩ : Addr).add j) = some v := by
      intro j v hv
      have hlt := (Array.getElem?_eq_some_iff.1 h6).1
      have e2 : ((⟨qb, 0, none⟩ : Addr).add j) = ⟨qb, j, none⟩ := by cases j <;> simp [Addr.add]
      rw [e2]
      have h9 : (W.alloc (.cells #[.slice none 0 0] 24)).heap[qb]? = some (.cells cur 24 (0, 0)) := by rw [Below.heap_alloc _ _ _ hlt]; exact h6
      simp [World.cell?, h9]
      simpa using hv
    have hr := run_append_grow (P := Ybaz.prog) (W.alloc (.cells #[.slice none 0 0] 24)) 59 59 24 i0 (.slice none 0 0) Ybaz.underlying59 hi hz0 ⟨qb, 0, none⟩ cap cap cur.toList (by simp [hz1, h7]) hold ⟨W.heap.size, 0, none⟩ 1 1 [.slice none 0 0] (by simp [hz1]) hcell (by omega) (by omega) (growslice_fits (by omega) (by rw [hz2]; omega))
    refine ⟨_, _, hr, ⟨_, _, rfl⟩, _, ?_, hS⟩
    have hge := grownCap_ge (W.alloc (.cells #[.slice none 0 0] 24)) (cap + 1) cap 24
    have hle := grownCap_le_maxLen (W.alloc (.cells #[.slice none 0 0] 24)) (cap + 1) cap 24 (by unfold maxLen; omega)
    refine .inr ⟨W.heap.size + 1, _, cur.toList.toArray ++ [Value.slice none 0 0].toArray ++ Builtin.zeroCells (Value.slice none 0 0).cells (grownCap (W.alloc (.cells #[.slice none 0 0] 24)) (cap + 1) cap 24 - (cap + 1)), fun j => if j < cap then bv j else .slice none 0 0, by simp, hge, hle, tg_self _ _ _, ?_, ?_, fun j hj => ⟨?_, ?_⟩⟩
    · have := World.alloc_heap_new (W.alloc (.cells #[.slice none 0 0] 24)).drew (.cells (cur.toList.toArray ++ [Value.slice none 0 0].toArray ++ Builtin.zeroCells (Value.slice none 0 0).cells (grownCap (W.alloc (.cells #[.slice none 0 0] 24)) (cap + 1) cap 24 - (cap + 1))) 24)
      simpa using this
    · simp [size_zeroCells, Value.cells, h7]; omega
    · by_cases e : j < cap
      · rw [Array.append_assoc, Array.getElem?_append, if_pos (by simpa [h7] using e)]
        simp only [e, if_true]
        simpa using (h8 j e).1
      · simp only [e, if_false]
        rw [Array.getElem?_append]
        by_cases e1 : j = cap
        · subst e1
          rw [if_pos (by simp [h7]), Array.getElem?_append, if_neg (by simp [h7])]
          simp [h7]
        · rw [if_neg (by simp [h7]; omega)]
          exact zeroCells_one _ rfl _ _ (by simp [h7]; omega)
    · by_cases e : j < cap
      · simp only [e, if_true]
        exact (h8 j e).2.step hS (by simp)
      · simp only [e, if_false]
        exact Sl.nil _ _ _ _
end Go.Proofs.YbulkbmdoGreat
