import Derived.Test.YbulkbmdoGreatHolds
import Derived.BigRegion
namespace Go.Proofs.YbulkbmdoGreat
open Go.RowKit
set_option linter.unusedVariables false

/-- append, where what it comes to is known. -/
theorem wpList_append_is {P : Program} {w : World} {ops : Array Oper} {rest : List Oper} {o : Oper} {a : Act} {Q : Exit → Act → World → Prop} (hgd : o.guard = none) (s x : Operand) (t : TypeId)
    (ho : o.op = .call { callee := .builtin .append, args := #[s, x], argTypes := #[t, t] }) (v x' v' : Value) (w' : World) (hs : a.eval s = v) (hx : a.eval x = x') (hr : (Builtin.append_ #[t, t] o.type #[v, x']).run P w = .ok v' w') (h : wpList P ops Q rest (a.put o.dst v') w') :
    wpList P ops Q (o :: rest) a w := by
  refine wpList_plain hgd fun K hK => ?_
  unfold Oper.wp execOp
  simp only [ho, resolve, invoke, builtin, Sem.run_bind, Sem.run_pure, Result.andThen_ok, List.map_toArray, List.map_cons, List.map_nil, hs, hx, hr]
  exact hK _ _ h

/-- The same as one step of a region that draws. -/
theorem step_append_is {P : Program} {ops : Array Oper} {o : Oper} {a : Act} {w : World} {K : Act → World → Prop} {Q : Exit → Act → World → Prop} {E : Prop}
    (hg : o.guard = none) (s x : Operand) (t : TypeId) (hop : o.op = Op.call { callee := Callee.builtin Builtin.append, args := #[s, x], argTypes := #[t, t] })
    (v x' v' : Value) (w' : World) (hs : a.eval s = v) (hx : a.eval x = x') (hr : (Builtin.append_ #[t, t] o.type #[v, x']).run P w = .ok v' w') (hK : K (a.put o.dst v') w') :
    if Region.wanted o (yielded ops a.tmps) = true then Oper.wp P o a w K Q else E := by
  have hw : Region.wanted o (yielded ops a.tmps) = true := by simp [Region.wanted, hg]
  rw [if_pos hw]
  unfold Oper.wp execOp
  simp only [hop, resolve, invoke, builtin, Sem.run_bind, Sem.run_pure, Result.andThen_ok, List.map_toArray, List.map_cons, List.map_nil, hs, hx, hr]
  exact hK

/-- A row of N cells whose beginning xs is known. -/
structure Rw (o : Nat → Nat) (W : World) (t b : Nat) (e : TypeId) (N : Nat) (xs : List Value) : Prop where
  blk : ∃ cur : Array Value, W.heap[b]? = some (.cells cur e (0, 0)) ∧ cur.size = N ∧ ∀ j (h : j < xs.length), cur[j]? = some xs[j]
  le : xs.length ≤ N
  tag : o b = t
namespace Rw
variable {o o' : Nat → Nat} {W W' : World} {t b : Nat} {e : TypeId} {N : Nat} {xs : List Value}
theorem lt (h : Rw o W t b e N xs) : b < W.heap.size := by obtain ⟨c, hc, _⟩ := h.blk; exact (Array.getElem?_eq_some_iff.1 hc).1
theorem cell (h : Rw o W t b e N xs) (j : Nat) (hj : j < xs.length) : W.cell? ⟨b, j, none⟩ = some xs[j] := by
  obtain ⟨c, hc, _, hf⟩ := h.blk; simp [World.cell?, hc, hf j hj]
theorem has (h : Rw o W t b e N xs) (j : Nat) (hj : j < N) : ∃ u, W.cell? ⟨b, j, none⟩ = some u := by
  obtain ⟨c, hc, hN, _⟩ := h.blk
  exact ⟨c[j]'(by omega), by simp [World.cell?, hc, hN, hj]⟩
theorem frozen (h : Rw o W t b e N xs) (j : Nat) : W.frozen? ⟨b, j, none⟩ = false := by obtain ⟨c, hc, _⟩ := h.blk; simp [World.frozen?, hc]
theorem step {T : List Nat} (h : Rw o W t b e N xs) (hs : Step T o W o' W') (hn : t ∉ T) : Rw o' W' t b e N xs := by
  obtain ⟨c, hc, r⟩ := h.blk
  exact ⟨⟨c, (hs.block b h.lt (by rw [h.tag]; exact hn)).trans hc, r⟩, h.le, (hs.own b h.lt).trans h.tag⟩
theorem cut (h : Rw o W t b e N xs) (m : Nat) : Rw o W t b e N (xs.take m) := by
  obtain ⟨c, hc, hN, hf⟩ := h.blk
  refine ⟨⟨c, hc, hN, fun j hj => ?_⟩, by have := h.le; simp; omega, h.tag⟩
  have : j < xs.length := by simp at hj; omega
  rw [hf j this]; simp
theorem set (h : Rw o W t b e N xs) (i : Nat) (v : Value) : Rw o (W.setCell ⟨b, i, none⟩ v) t b e N (xs.set i v) := by
  obtain ⟨c, hc, hN, hf⟩ := h.blk
  refine ⟨⟨c.setIfInBounds i v, (Ob.set (o := o) (t := o b) ⟨hc, rfl⟩ i v).blk, by simpa using hN, fun j hj => ?_⟩, by simpa using h.le, h.tag⟩
  have hj' : j < xs.length := by simpa using hj
  have := h.le
  by_cases e1 : j = i
  · subst e1
    simp [hN, show j < N by omega]
  · rw [Array.getElem?_setIfInBounds_ne (fun e2 => e1 e2.symm), hf j hj', List.getElem_set_ne (fun e2 => e1 e2.symm)]
theorem sset (h : Rw o W t b e N xs) (i : Nat) (v : Value) {T : List Nat} (hT : t ∈ T) : Step T o W o (W.setCell ⟨b, i, none⟩ v) := Step.setCell W (by rw [h.tag]; exact hT) v
theorem push1 (h : Rw o W t b e N xs) (v : Value) (hl : xs.length < N) : Rw o (W.setCell ⟨b, xs.length, none⟩ v) t b e N (xs ++ [v]) := by
  obtain ⟨c, hc, hN, hf⟩ := h.blk
  refine ⟨⟨c.setIfInBounds xs.length v, (Ob.set (o := o) (t := o b) ⟨hc, rfl⟩ xs.length v).blk, by simpa using hN, fun j hj => ?_⟩, by simp; omega, h.tag⟩
  by_cases e1 : j = xs.length
  · subst e1
    simp [hN, hl]
  · have hj' : j < xs.length := by simp at hj; omega
    rw [Array.getElem?_setIfInBounds_ne (fun e2 => e1 e2.symm), hf j hj', List.getElem_append_left hj']
theorem made (o : Nat → Nat) (W : World) (t : Nat) (e : TypeId) (N : Nat) (z : Array Value) : Rw (tg o W.heap.size t) (W.alloc (.cells (madeCells z N) e)) t W.heap.size e N [] :=
  ⟨⟨_, World.alloc_heap_new W _, size_madeCells _ _, fun j hj => by simp at hj⟩, by simp, tg_self _ _ _⟩
end Rw
theorem setCells_one (W : World) (b i : Nat) (v : Value) : W.setCells b i [v] = W.setCell ⟨b, i, none⟩ v := rfl
theorem setCells_two (W : World) (b i : Nat) (v u : Value) : W.setCells b i [v, u] = (W.setCell ⟨b, i, none⟩ v).setCell ⟨b, i + 1, none⟩ u := rfl

/-- append of one one-cell element, where there is room. -/
theorem Rw.app1 {o : Nat → Nat} {W : World} {t b : Nat} {e : TypeId} {N cap : Nat} {xs : List Value} (h : Rw o W t b e N xs) (hl : xs.length < cap) (hc : cap ≤ N) (v z : Value) (h1 : v.oneCell' = true) (T ty : TypeId) (by8 : Nat) (hT : Ybaz.prog.underlying T = some (.slice e)) (hi : (Ybaz.prog.info? e).map (fun i => (i.zero, i.size, i.bytes)) = some (some z, 1, by8)) (tmp : TypeId) :
    (Builtin.append_ #[T, T] ty #[.slice (some ⟨b, 0, none⟩) xs.length cap, .slice (some ⟨W.heap.size, 0, none⟩) 1 1]).run Ybaz.prog (W.alloc (.cells #[v] tmp)) = .ok (.slice (some ⟨b, 0, none⟩) (xs.length + 1) cap) ((W.alloc (.cells #[v] tmp)).setCell ⟨b, xs.length, none⟩ v) := by
  obtain ⟨i0, hi0, hz0, hz1, hz2⟩ := info_parts hi
  have st := Step.alloc [] o W (.cells #[v] tmp) 99
  have h2 := h.step st (by simp)
  obtain ⟨u, hu⟩ := h2.has xs.length (by omega)
  have hr := run_append_room_cells (P := Ybaz.prog) (w := W.alloc (.cells #[v] tmp)) T ty e i0 hT hi0 b 0 xs.length cap ⟨W.heap.size, 0, none⟩ 1 1 [v] (by simp [hz1]) (cell_one_new W v tmp) (by simpa using h1) (by omega)
    (fun j hj => by have : j = 0 := by simpa using hj
                    subst this; simp [hz1, hu]) (fun j hj => by have : j = 0 := by simpa using hj
                                                                subst this; simp [hz1, h2.frozen])
  rw [hr]
  simp [hz1, setCells_one]

/-- append of one two-cell element, where there is room. -/
theorem Rw.app2 {o : Nat → Nat} {W : World} {t b : Nat} {e : TypeId} {N m cap : Nat} {xs : List Value} (h : Rw o W t b e N xs) (hm : xs.length = m * 2) (hl : m < cap) (hc : cap * 2 ≤ N) (v u z : Value) (h1 : v.oneCell' = true) (h1' : u.oneCell' = true) (T ty : TypeId) (by8 : Nat) (hT : Ybaz.prog.underlying T = some (.slice e)) (hi : (Ybaz.prog.info? e).map (fun i => (i.zero, i.size, i.bytes)) = some (some z, 2, by8)) (tmp : TypeId) :
    (Builtin.append_ #[T, T] ty #[.slice (some ⟨b, 0, none⟩) m cap, .slice (some ⟨W.heap.size, 0, none⟩) 1 1]).run Ybaz.prog (W.alloc (.cells #[v, u] tmp)) = .ok (.slice (some ⟨b, 0, none⟩) (m + 1) cap) (((W.alloc (.cells #[v, u] tmp)).setCell ⟨b, m * 2, none⟩ v).setCell ⟨b, m * 2 + 1, none⟩ u) := by
  obtain ⟨i0, hi0, hz0, hz1, hz2⟩ := info_parts hi
  have st := Step.alloc [] o W (.cells #[v, u] tmp) 99
  have h2 := h.step st (by simp)
  obtain ⟨u1, hu1⟩ := h2.has (m * 2) (by omega)
  obtain ⟨u2, hu2⟩ := h2.has (m * 2 + 1) (by omega)
  have hnew : ∀ j x, [v, u][j]? = some x → (W.alloc (.cells #[v, u] tmp)).cell? ((⟨W.heap.size, 0, none⟩ : Addr).add j) = some x := by
    intro j x hx
    match j, hx with
    | 0, hx => simp [Addr.add]; simpa using hx
    | 1, hx => simp [Addr.add]; simpa using hx
    | j + 2, hx => simp at hx
  have hr := run_append_room_cells (P := Ybaz.prog) (w := W.alloc (.cells #[v, u] tmp)) T ty e i0 hT hi0 b 0 m cap ⟨W.heap.size, 0, none⟩ 1 1 [v, u] (by simp [hz1]) hnew (by simp [h1, h1']) (by omega)
    (fun j hj => by have : j = 0 ∨ j = 1 := by simp at hj; omega
                    rcases this with rfl | rfl <;> simp [hz1, hu1, hu2]) (fun j hj => by simp [hz1, h2.frozen])
  rw [hr]
  simp [hz1, setCells_two]
end Go.Proofs.YbulkbmdoGreat
