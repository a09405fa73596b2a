import Derived.Test.YbulkbmdoGreatTake6
namespace Go.Proofs.YbulkbmdoGreat
open Go.RowKit Go.Shelf
set_option linter.unusedVariables false

theorem alloc_step' (o : Nat → Nat) (W : World) (t : Nat) (x : Obj) : ∃ X o' b, W.alloc x = X ∧ W.heap.size = b ∧ X.heap[b]? = some x ∧ o' b = t ∧ Step [] o W o' X :=
  ⟨_, _, _, rfl, rfl, World.alloc_heap_new W x, tg_self _ _ _, Step.alloc [] o W x t⟩

theorem nodup_sub' : ∀ {l ds : List Nat}, l.Nodup → (∀ x ∈ l, x ∈ ds) → l.length ≤ ds.length
  | [], _, _, _ => Nat.zero_le _
  | a :: t, ds, hn, hs => by
    rw [List.nodup_cons] at hn
    have h1 := nodup_sub' (l := t) (ds := ds.erase a) hn.2 (fun x hx => (List.mem_erase_of_ne (fun e : x = a => hn.1 (by rw [← e]; exact hx))).2 (hs x (by simp [hx])))
    have h2 := List.length_erase_of_mem (hs a (by simp))
    have h3 : 0 < ds.length := List.length_pos_of_mem (hs a (by simp))
    simp; omega
theorem slice_one (b n cap i : Nat) (h : i < n) (hn : n ≤ cap) (hc : cap ≤ 9223372036854775807) (w : World) : (Instr.sliceAt 24 (.slice (some ⟨b, 0, none⟩) n cap) (some (.int .i64 (i : Int))) (some (.int .i64 ((i : Int) + 1))) none).run Ybaz.prog w = .ok (.slice (some ⟨b, i, none⟩) 1 (cap - i)) w := by
  have b2 : ((i : Int) + 1) ≤ (cap : Int) := by omega
  have e : ¬ cap = i := by omega
  have e1 : ((i : Int) + 1).toNat = i + 1 := by omega
  simp [go_sem, Ybaz.underlying24, b2, e, e1]
  intro hh
  omega
/-- append(nil, x): a new row of the tag t. -/
theorem app_nil (o : Nat → Nat) (W : World) (t : Nat) (x : Value) : ∃ (g cap : Nat) (w' : World), (Builtin.append_ #[24, 24] 24 #[.slice none 0 0, .slice (some ⟨W.heap.size, 0, none⟩) 1 1]).run Ybaz.prog (W.alloc (.cells #[x] 3)) = .ok (.slice (some ⟨g, 0, none⟩) 1 cap) w' ∧ cap ≤ 9223372036854775807 ∧ ∃ o', Sl o' w' t 3 (.slice (some ⟨g, 0, none⟩) 1 cap) [x] ∧ Step [] o W o' w' := by
  obtain ⟨i0, hi0, hz0, hz1, hz2⟩ := info_parts info3
  have hr := run_append_nil (P := Ybaz.prog) (W.alloc (.cells #[x] 3)) 24 24 3 i0 (.int .i64 0) Ybaz.underlying24 hi0 hz0 ⟨W.heap.size, 0, none⟩ 1 1 [x] (by simp [hz1]) (cell_one_new W x 3) (by omega) (by omega) (by rw [hz2]; omega)
  have hge := grownCap_ge (W.alloc (.cells #[x] 3)) 1 0 3
  have hle := grownCap_le_maxLen (W.alloc (.cells #[x] 3)) 1 0 3 (by unfold maxLen; omega)
  obtain ⟨C, hC⟩ : ∃ C, grownCap (W.alloc (.cells #[x] 3)) 1 0 3 = C := ⟨_, rfl⟩
  rw [hC] at hr hge hle
  refine ⟨_, C, _, hr, by unfold maxLen at hle; omega, ?_⟩
  have s1 := Step.alloc [] o W (.cells #[x] 3) 99
  have s2 := Step.alloc [] (tg o W.heap.size 99) (W.alloc (.cells #[x] 3)).drew (.cells ([x].toArray ++ Builtin.zeroCells (Value.int .i64 0).cells (C - 1)) 3) t
  refine ⟨_, ⟨⟨by simp, .inr ⟨_, C, [x].toArray ++ Builtin.zeroCells (Value.int .i64 0).cells (C - 1), rfl, Nat.zero_le _, World.alloc_heap_new _ _, by simpa using hge, hle, ?_, ?_⟩⟩, fun b hb => ?_⟩, s1.trans ((Step.drew [] _ _).trans s2)⟩
  · simp [size_zeroCells, Value.cells]; omega
  · simp
  · have e : b = (W.alloc (.cells #[x] 3)).drew.heap.size := by simpa [Value.ownBlock] using hb.symm
    rw [e]; exact tg_self _ _ _

/-- The first call of q.next: nobody is done. -/
theorem next_first (o : Nat → Nat) (W : World) (R S B4 B1 : Nat) (s : RS) (pv uv : Value) (g : GS) (tgt : Nat → Option Nat) (v : VSt) (cs : List Nat) (idx lf nx : Nat → Nat) (sl : Nat → Int) (sb : Nat) (hX : Cx g tgt cs idx lf nx sl) (hV : VH o W R S s pv uv g tgt v cs idx lf nx sl sb) (gr : Bool) (hgr : ∀ q ∈ cs, s.gr q = gr)
    (q4 : Ob o W 99 B4 44 #[.pointer (some ⟨R, 0, none⟩)]) (q1 : Ob o W 99 B1 95 #[.pointer (some ⟨S, 0, none⟩)]) (ctb ccap : Nat) (f : Nat → Int) (n0 : Nat) (bl : Nat → List Nat) (top : Int) (h : TQ o W S v ctb cs.length ccap f n0 bl top) (ht0 : -1 ≤ top) (ht1 : top < (n0 : Int)) (hn0 : n0 ≤ 10) (hv : ∀ j, j < n0 → ∀ i ∈ bl j, i < cs.length) (hl : ∀ j, j < n0 → (bl j).length ≤ 2000)
    (hsome : gr = false → ∃ j : Nat, (j : Int) ≤ top ∧ ∃ i ∈ bl j, f i = (j : Int)) :
    Calls Ybaz.prog 97 #[.pointer (some ⟨S, 16, none⟩), .func (.func 98) #[] #[.pointer (some ⟨B4, 0, none⟩), .pointer (some ⟨B1, 0, none⟩)]] W fun e w' => ∃ (i : Nat) (o' : Nat → Nat) (qbv : Value) (bl' : Nat → List Nat) (top' : Int), e = .returned (.tuple #[.int .i64 (i : Int), .bool (!gr)]) ∧ (gr = false → i < cs.length ∧ 0 ≤ top') ∧ TQ o' w' S { v with qb := qbv, qt := .int .i64 top' } ctb cs.length ccap f n0 bl' top' ∧ -1 ≤ top' ∧ top' ≤ top ∧ (∀ j, j < n0 → bl' j <+: bl j) ∧ Step [20, 36] o W o' w' := by
  have hcl := hX.cyc.le
  have hn3 := hX.n
  have hc := next_any o W S v ctb cs.length ccap f n0 bl top h ht0 ht1 hn0 (by omega) hv hl 98 #[.pointer (some ⟨B4, 0, none⟩), .pointer (some ⟨B1, 0, none⟩)] (enters_of Ybaz.func98 (by kernel_rfl) rfl) (fun _ => gr) (fun o' W' qbv qt ob st i hi => by
    have := done_any o' W' R S B4 B1 s pv uv (hV.r.step st (by simp) (by simp) (by simp) (by simp)) { v with qb := qbv, qt := qt } cs ob (hV.sa.cands.step st (by simp)) ((q4.step st (by simp)).cell 0) ((q1.step st (by simp)).cell 0) (fun q hq => by rw [hV.ng.hN]; exact hX.cyc.lt q hq) (by rw [hV.ng.hN]; exact hn3) (by omega) i hi
    rw [hgr _ (List.getElem_mem hi)] at this
    exact this)
  refine hc.mono ?_
  rintro e w' ⟨o', qbv, bl', top', T', h1, h2, h3, h4, ⟨i, rfl, hi, hd, ht⟩ | ⟨rfl, hno⟩⟩
  · have hg : gr = false := hd
    subst hg
    exact ⟨i, o', qbv, bl', top', rfl, fun _ => ⟨hi, ht⟩, T', h1, h2, h3, h4⟩
  · have hg : gr = true := by
      cases gr with
      | true => rfl
      | false =>
        obtain ⟨j, hj, i, hi, hf⟩ := hsome rfl
        exact absurd (hno j hj i hi hf) (by simp)
    subst hg
    exact ⟨0, o', qbv, bl', top', rfl, fun h => by simp at h, T', h1, h2, h3, h4⟩
end Go.Proofs.YbulkbmdoGreat
