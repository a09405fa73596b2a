import Derived.Test.YbulkbmdoGreatShelf
import Derived.Test.YbulkbmdoGreatRw
namespace Go.Proofs.YbulkbmdoGreat
open Go.RowKit Go.Shelf Go.Sort
set_option linter.unusedVariables false

/-- A row's cells from off on turned, new blocks behind: what is known then. -/
theorem put_row {o : Nat → Nat} {W : World} {t b N : Nat} {e : TypeId} {pre xs : List Value} (h : Rw o W t b e N (pre ++ xs)) (zs : List Int) (hz : zs.length = xs.length) (n : Nat) (os : Array Obj) :
    Rw o (grow (putRow (Value.int .i64) (Sort.ahead W n) b pre.length zs.toArray) os) t b e N (pre ++ zs.map (Value.int .i64)) ∧ Step [t] o W o (grow (putRow (Value.int .i64) (Sort.ahead W n) b pre.length zs.toArray) os) ∧ ∀ k, k < W.heap.size → k ≠ b → (grow (putRow (Value.int .i64) (Sort.ahead W n) b pre.length zs.toArray) os).heap[k]? = W.heap[k]? := by
  obtain ⟨cur, hb, hs, hf⟩ := h.blk
  have hle := h.le
  have hlt := h.lt
  have hmod : (putRow (Value.int .i64) (Sort.ahead W n) b pre.length zs.toArray).heap[b]? = some (.cells (putCells (Value.int .i64) pre.length zs.toArray cur) e (0, 0)) := by
    show ((Sort.ahead W n).heap.modify b (onCells (putCells (Value.int .i64) pre.length zs.toArray)))[b]? = _
    rw [Array.getElem?_modify]
    simp only [if_true]
    show Option.map _ (W.heap[b]?) = _
    rw [hb]; rfl
  have hsz : (putRow (Value.int .i64) (Sort.ahead W n) b pre.length zs.toArray).heap.size = W.heap.size := by
    show ((Sort.ahead W n).heap.modify b _).size = _
    simp [Sort.ahead]
  have hlen : (pre ++ xs).length = pre.length + zs.length := by simp [hz]
  refine ⟨⟨⟨_, (heap_grow_old _ _ (by rw [hsz]; exact hlt)).trans hmod, by simp [putCells, hs], fun j hj => ?_⟩, by simp [hz] at hle ⊢; omega, h.tag⟩, ?_, fun k hk hne => ?_⟩
  · have hj2 : j < pre.length + zs.length := by simpa using hj
    have hjN : j < cur.size := by omega
    unfold putCells
    rw [Array.getElem?_mapIdx, Array.getElem?_eq_getElem hjN]
    simp only [Option.map_some]
    by_cases hp : j < pre.length
    · rw [if_neg (by omega), List.getElem_append_left hp]
      have := hf j (by simp; omega)
      rw [Array.getElem?_eq_getElem hjN] at this
      rw [List.getElem_append_left hp] at this
      exact this
    · rw [if_pos (by simp; omega), List.getElem_append_right (by omega)]
      have h3 : j - pre.length < zs.length := by omega
      simp [h3]
  · refine ⟨rfl, rfl, rfl, by simp [hsz], fun _ _ => rfl, fun k hk hn => ?_⟩
    rw [heap_grow_old _ _ (by rw [hsz]; exact hk)]
    show ((Sort.ahead W n).heap.modify b _)[k]? = _
    rw [Array.getElem?_modify, if_neg (fun e => hn (by rw [← e, h.tag]; simp))]
    rfl
  · rw [heap_grow_old _ _ (by rw [hsz]; exact hk)]
    show ((Sort.ahead W n).heap.modify b _)[k]? = _
    rw [Array.getElem?_modify, if_neg (fun e => hne e.symm)]
    rfl
theorem holds_row {o : Nat → Nat} {W : World} {t b N : Nat} {e : TypeId} {pre : List Value} {xs : List Nat} (h : Rw o W t b e N (pre ++ ints xs)) : Holds (Value.int .i64) W b pre.length (xs.map (fun x : Nat => (x : Int))).toArray := by
  intro j hj
  have hj2 : j < xs.length := by simpa using hj
  refine ⟨?_, h.frozen _⟩
  rw [h.cell (pre.length + j) (by simp [ints]; exact hj2)]
  rw [List.getElem_append_right (by omega)]
  simp [ints, hj2]

/-- slices.Sort of numbers: the tail xs of a row comes to be sorted. -/
theorem sort_row (o : Nat → Nat) (W : World) (t b N cap : Nat) (pre : List Value) (xs : List Nat) (h : Rw o W t b 3 N (pre ++ ints xs)) (hx : xs.length ≤ 100000) :
    Calls Ybaz.prog 14 #[.slice (some ⟨b, pre.length, none⟩) xs.length cap] W fun e w' => (∃ r, e = .returned r) ∧ Rw o w' t b 3 N (pre ++ ints (xs.mergeSort fun x y => decide (x ≤ y))) ∧ Step [t] o W o w' ∧ ∀ k, k < W.heap.size → k ≠ b → w'.heap[k]? = W.heap[k]? := by
  have hc := Ybaz.slices_Sort_int b pre.length cap (xs.map (fun x : Nat => (x : Int))) W (holds_row h) h.lt (by simp; omega)
  rw [List.length_map] at hc
  refine hc.mono ?_
  rintro e w' ⟨rfl, n, os, rfl⟩
  have em : (xs.map (fun x : Nat => (x : Int))).mergeSort (fun x y => decide (x ≤ y)) = (xs.mergeSort fun x y => decide (x ≤ y)).map (fun x : Nat => (x : Int)) := by
    rw [List.map_mergeSort]
    intro a _ b _
    simp
  have := put_row h ((xs.map (fun x : Nat => (x : Int))).mergeSort (fun x y => decide (x ≤ y))) (by simp [ints]) n os
  refine ⟨⟨_, rfl⟩, ?_, this.2⟩
  have h2 := this.1
  rw [em] at h2 ⊢
  rw [List.map_map] at h2
  exact h2
end Go.Proofs.YbulkbmdoGreat
