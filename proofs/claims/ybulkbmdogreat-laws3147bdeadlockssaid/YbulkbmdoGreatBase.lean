/-
  Memory by tags: each block of the call's own bears a tag (a ghost function o from block numbers); a step says which tags it may write.
-/
import Derived.WalkKit
import Derived.ProofKit
import Derived.Below
import Derived.Maps.AppendAt
import Derived.Deep.OwnRows
import Derived.Deep.Quiet
import Derived.RangeFuncBox
namespace Go.Proofs.YbulkbmdoGreat
open Go.RowKit

/-- From W to W' (tags o, then o') only blocks whose tag is on T, and new blocks, have been written. -/
structure Step (T : List Nat) (o : Nat → Nat) (W : World) (o' : Nat → Nat) (W' : World) : Prop where
  os : W'.os = W.os
  tape : W'.tape = W.tape
  output : W'.output = W.output
  size : W.heap.size ≤ W'.heap.size
  own : ∀ k, k < W.heap.size → o' k = o k
  block : ∀ k, k < W.heap.size → o k ∉ T → W'.heap[k]? = W.heap[k]?

/-- The tag t laid on block k. -/
def tg (o : Nat → Nat) (k t : Nat) : Nat → Nat := fun j => if j = k then t else o j
theorem tg_self (o : Nat → Nat) (k t : Nat) : tg o k t k = t := by simp [tg]
theorem tg_old (o : Nat → Nat) {k j : Nat} (t : Nat) (h : j ≠ k) : tg o k t j = o j := by simp [tg, h]

namespace Step
theorem refl (T : List Nat) (o : Nat → Nat) (W : World) : Step T o W o W := ⟨rfl, rfl, rfl, Nat.le_refl _, fun _ _ => rfl, fun _ _ _ => rfl⟩
theorem trans {T : List Nat} {o o1 o2 : Nat → Nat} {A B C : World} (h : Step T o A o1 B) (k : Step T o1 B o2 C) : Step T o A o2 C :=
  ⟨k.os.trans h.os, k.tape.trans h.tape, k.output.trans h.output, Nat.le_trans h.size k.size,
   fun i hi => (k.own i (Nat.lt_of_lt_of_le hi h.size)).trans (h.own i hi),
   fun i hi hn => (k.block i (Nat.lt_of_lt_of_le hi h.size) (by rw [h.own i hi]; exact hn)).trans (h.block i hi hn)⟩
theorem mono {T T' : List Nat} {o o1 : Nat → Nat} {A B : World} (h : Step T o A o1 B) (hT : ∀ t ∈ T, t ∈ T') : Step T' o A o1 B :=
  ⟨h.os, h.tape, h.output, h.size, h.own, fun i hi hn => h.block i hi (fun hm => hn (hT _ hm))⟩
theorem drewN (T : List Nat) (o : Nat → Nat) (W : World) (n : Nat) : Step T o W o (W.drewN n) := ⟨rfl, rfl, rfl, Nat.le_refl _, fun _ _ => rfl, fun _ _ _ => rfl⟩
theorem drew (T : List Nat) (o : Nat → Nat) (W : World) : Step T o W o W.drew := ⟨rfl, rfl, rfl, Nat.le_refl _, fun _ _ => rfl, fun _ _ _ => rfl⟩
theorem alloc (T : List Nat) (o : Nat → Nat) (W : World) (x : Obj) (t : Nat) : Step T o W (tg o W.heap.size t) (W.alloc x) :=
  ⟨rfl, rfl, rfl, by simp, fun k hk => tg_old o t (by omega), fun k hk _ => Below.heap_alloc _ _ _ hk⟩
/-- Tags at new places are free. -/
theorem retag {T : List Nat} {o o1 o2 : Nat → Nat} {A B : World} (h : Step T o A o1 B) (h2 : ∀ k, k < A.heap.size → o2 k = o k) : Step T o A o2 B :=
  ⟨h.os, h.tape, h.output, h.size, h2, h.block⟩
theorem setCell {T : List Nat} {o : Nat → Nat} (W : World) {p : Addr} (hp : o p.block ∈ T) (u : Value) : Step T o W o (W.setCell p u) :=
  ⟨rfl, rfl, rfl, by simp [World.setCell], fun _ _ => rfl, fun k _ hn => Below.heap_setCell _ _ _ _ (fun e => hn (by rw [e]; exact hp))⟩
theorem below {T : List Nat} {o o1 : Nat → Nat} {A B : World} {n : Nat} (h : Step T o A o1 B) (hn : n ≤ A.heap.size) (h0 : ∀ k, k < n → o k ∉ T) : Below n A B :=
  ⟨h.os, h.tape, h.output, h.size, fun k hk => h.block k (by omega) (h0 k hk)⟩
theorem cell {T : List Nat} {o o1 : Nat → Nat} {A B : World} (h : Step T o A o1 B) {p : Addr} (hp : p.block < A.heap.size) (hn : o p.block ∉ T) : B.cell? p = A.cell? p := World.cell?_of_block (w := A) (h.block p.block hp hn)
theorem of_below {o : Nat → Nat} {A B : World} (h : Below A.heap.size A B) (T : List Nat) : Step T o A o B :=
  ⟨h.os, h.tape, h.output, h.size, fun _ _ => rfl, fun k hk _ => h.block k hk⟩
end Step

/-! ### A struct (or a box): the cells C in block b -/
structure Ob (o : Nat → Nat) (W : World) (t b : Nat) (ty : TypeId) (C : Array Value) : Prop where
  blk : W.heap[b]? = some (.cells C ty (0, 0))
  tag : o b = t
namespace Ob
variable {o o' : Nat → Nat} {W W' : World} {t b : Nat} {ty : TypeId} {C : Array Value}
theorem lt (h : Ob o W t b ty C) : b < W.heap.size := (Array.getElem?_eq_some_iff.1 h.blk).1
theorem cell (h : Ob o W t b ty C) (i : Nat) : W.cell? ⟨b, i, none⟩ = C[i]? := by simp [World.cell?, h.blk]
theorem frozen (h : Ob o W t b ty C) (i : Nat) : W.frozen? ⟨b, i, none⟩ = false := by simp [World.frozen?, h.blk]
theorem step {T : List Nat} (h : Ob o W t b ty C) (hs : Step T o W o' W') (hn : t ∉ T) : Ob o' W' t b ty C :=
  ⟨(hs.block b h.lt (by rw [h.tag]; exact hn)).trans h.blk, (hs.own b h.lt).trans h.tag⟩
theorem new (o : Nat → Nat) (W : World) (t : Nat) (ty : TypeId) (C : Array Value) : Ob (tg o W.heap.size t) (W.alloc (.cells C ty)) t W.heap.size ty C :=
  ⟨World.alloc_heap_new W _, tg_self _ _ _⟩
theorem set (h : Ob o W t b ty C) (i : Nat) (v : Value) : Ob o (W.setCell ⟨b, i, none⟩ v) t b ty (C.setIfInBounds i v) := by
  refine ⟨?_, h.tag⟩
  obtain ⟨hlt, hk⟩ := Array.getElem?_eq_some_iff.1 h.blk
  show (W.heap.modify b _)[b]? = _
  rw [Array.getElem?_eq_getElem (by rw [Array.size_modify]; exact hlt), Array.getElem_modify_self, hk]
  rfl
theorem sset (h : Ob o W t b ty C) (i : Nat) (v : Value) {T : List Nat} (hT : t ∈ T) : Step T o W o (W.setCell ⟨b, i, none⟩ v) := Step.setCell W (by rw [h.tag]; exact hT) v
end Ob

/-! ### An array of fixed length N that 'make' made: cell j holds f j -/
structure Ar (o : Nat → Nat) (W : World) (t b : Nat) (e : TypeId) (N : Nat) (f : Nat → Value) : Prop where
  blk : ∃ cur : Array Value, W.heap[b]? = some (.cells cur e (0, 0)) ∧ cur.size = N ∧ ∀ j, j < N → cur[j]? = some (f j)
  tag : o b = t
namespace Ar
variable {o o' : Nat → Nat} {W W' : World} {t b : Nat} {e : TypeId} {N : Nat} {f : Nat → Value}
theorem lt (h : Ar o W t b e N f) : b < W.heap.size := by obtain ⟨c, hc, _⟩ := h.blk; exact (Array.getElem?_eq_some_iff.1 hc).1
theorem cell (h : Ar o W t b e N f) (j : Nat) (hj : j < N) : W.cell? ⟨b, j, none⟩ = some (f j) := by
  obtain ⟨c, hc, _, hf⟩ := h.blk; simp [World.cell?, hc, hf j hj]
theorem frozen (h : Ar o W t b e N f) (j : Nat) : W.frozen? ⟨b, j, none⟩ = false := by obtain ⟨c, hc, _⟩ := h.blk; simp [World.frozen?, hc]
theorem step {T : List Nat} (h : Ar o W t b e N f) (hs : Step T o W o' W') (hn : t ∉ T) : Ar o' W' t b e N f := by
  obtain ⟨c, hc, r⟩ := h.blk
  exact ⟨⟨c, (hs.block b h.lt (by rw [h.tag]; exact hn)).trans hc, r⟩, (hs.own b h.lt).trans h.tag⟩
theorem set (h : Ar o W t b e N f) (i : Nat) (v : Value) : Ar o (W.setCell ⟨b, i, none⟩ v) t b e N (fun j => if j = i then v else f j) := by
  obtain ⟨c, hc, hN, hf⟩ := h.blk
  refine ⟨⟨c.setIfInBounds i v, (Ob.set (o := o) (t := o b) ⟨hc, rfl⟩ i v).blk, by simpa using hN, fun j hj => ?_⟩, h.tag⟩
  by_cases e1 : j = i
  · subst e1
    simp [hN, hj]
  · rw [Array.getElem?_setIfInBounds_ne (fun e2 => e1 e2.symm), if_neg e1]
    exact hf j hj
theorem sset (h : Ar o W t b e N f) (i : Nat) (v : Value) {T : List Nat} (hT : t ∈ T) : Step T o W o (W.setCell ⟨b, i, none⟩ v) := Step.setCell W (by rw [h.tag]; exact hT) v
theorem congr {g : Nat → Value} (h : Ar o W t b e N f) (hg : ∀ j, j < N → f j = g j) : Ar o W t b e N g := by
  obtain ⟨c, hc, hN, hf⟩ := h.blk
  exact ⟨⟨c, hc, hN, fun j hj => (hf j hj).trans (by rw [hg j hj])⟩, h.tag⟩
theorem made (o : Nat → Nat) (W : World) (t : Nat) (e : TypeId) (N : Nat) (z : Value) : Ar (tg o W.heap.size t) (W.alloc (.cells (madeCells #[z] N) e)) t W.heap.size e N (fun _ => z) := by
  refine ⟨⟨_, World.alloc_heap_new W _, size_madeCells _ _, fun j hj => ?_⟩, tg_self _ _ _⟩
  rw [← Array.getElem?_toList, toList_madeCells_one]
  simp [hj]
/-- The row as a slice that owns it: for an append, a range. -/
theorem owns (h : Ar o W t b e N f) (hN : N ≤ maxLen) : W.ownsRow 0 e 1 (.slice (some ⟨b, 0, none⟩) N N) N ((List.range N).map f) := by
  obtain ⟨c, hc, hs, hf⟩ := h.blk
  refine ⟨by simp, .inr ⟨b, N, c, rfl, Nat.zero_le _, hc, Nat.le_refl _, hN, by simpa using hs, ?_⟩⟩
  apply List.ext_getElem?
  intro i
  by_cases hi : i < N
  · rw [List.getElem?_take_of_lt (by omega), Array.getElem?_toList, hf i hi]
    simp [hi]
  · rw [List.getElem?_eq_none (by simp; omega), List.getElem?_eq_none (by simp; omega)]
end Ar

/-! ### A slice that is appended to: the value v owns the cells xs (one cell an element) -/
structure Sl (o : Nat → Nat) (W : World) (t : Nat) (e : TypeId) (v : Value) (xs : List Value) : Prop where
  row : W.ownsRow 0 e 1 v xs.length xs
  tag : ∀ b, v.ownBlock = some b → o b = t
namespace Sl
variable {o o' : Nat → Nat} {W W' : World} {t : Nat} {e : TypeId} {v : Value} {xs : List Value}
theorem lt (h : Sl o W t e v xs) {b : Nat} (hb : v.ownBlock = some b) : b < W.heap.size := by
  rcases h.row.2 with ⟨rfl, _⟩ | ⟨g, cap, cur, rfl, _, hg, _⟩
  · simp [Value.ownBlock] at hb
  · simp [Value.ownBlock] at hb; subst hb; exact (Array.getElem?_eq_some_iff.1 hg).1
theorem step {T : List Nat} (h : Sl o W t e v xs) (hs : Step T o W o' W') (hn : t ∉ T) : Sl o' W' t e v xs := by
  refine ⟨?_, fun b hb => (hs.own b (h.lt hb)).trans (h.tag b hb)⟩
  refine ⟨h.row.1, ?_⟩
  rcases h.row.2 with h0 | ⟨g, cap, cur, rfl, hb, hg, r⟩
  · exact .inl h0
  · have ht : o g = t := h.tag g rfl
    exact .inr ⟨g, cap, cur, rfl, hb, (hs.block g (Array.getElem?_eq_some_iff.1 hg).1 (by rw [ht]; exact hn)).trans hg, r⟩
theorem nil (o : Nat → Nat) (W : World) (t : Nat) (e : TypeId) : Sl o W t e (.slice none 0 0) [] := ⟨World.ownsRow_nil _ _ _ _, fun _ hb => by simp [Value.ownBlock] at hb⟩
theorem form (h : Sl o W t e v xs) : (v = .slice none 0 0 ∧ xs = []) ∨ ∃ g cap, v = .slice (some ⟨g, 0, none⟩) xs.length cap ∧ xs.length ≤ cap ∧ cap ≤ maxLen ∧ o g = t ∧ g < W.heap.size := by
  rcases h.row.2 with ⟨rfl, h0⟩ | ⟨g, cap, cur, rfl, _, hg, h1, h2, _⟩
  · exact .inl ⟨rfl, List.eq_nil_of_length_eq_zero h0⟩
  · exact .inr ⟨g, cap, rfl, h1, h2, h.tag g rfl, (Array.getElem?_eq_some_iff.1 hg).1⟩
theorem val (h : Sl o W t e v xs) : ∃ a cap, v = .slice a xs.length cap ∧ xs.length ≤ cap := by
  rcases h.form with ⟨rfl, rfl⟩ | ⟨g, cap, rfl, h1, _⟩
  · exact ⟨none, 0, rfl, Nat.le_refl _⟩
  · exact ⟨_, cap, rfl, h1⟩
theorem some_of (h : Sl o W t e v xs) (hx : 0 < xs.length) : ∃ g cap, v = .slice (some ⟨g, 0, none⟩) xs.length cap ∧ xs.length ≤ cap ∧ cap ≤ maxLen ∧ o g = t ∧ g < W.heap.size := by
  rcases h.form with ⟨_, rfl⟩ | h1
  · simp at hx
  · exact h1
theorem cell {g cap : Nat} (h : Sl o W t e (.slice (some ⟨g, 0, none⟩) xs.length cap) xs) (j : Nat) (hj : j < xs.length) : W.cell? ⟨g, j, none⟩ = some xs[j] := by
  rw [h.row.cellAt j (by omega), List.getElem?_eq_getElem hj]
theorem frozen {g cap n : Nat} (h : Sl o W t e (.slice (some ⟨g, 0, none⟩) n cap) xs) (j : Nat) : W.frozen? ⟨g, j, none⟩ = false := by
  rcases h.row.2 with ⟨h0, _⟩ | ⟨g', cap', cur, h0, _, hg, _⟩
  · simp at h0
  · simp at h0; obtain ⟨rfl, _⟩ := h0; simp [World.frozen?, hg]
/-- Cut shorter. -/
theorem cut {a : Option Addr} {n cap : Nat} (h : Sl o W t e (.slice a n cap) xs) (m : Nat) (hm : m ≤ xs.length) : Sl o W t e (.slice a m cap) (xs.take m) := by
  refine ⟨⟨by simp, ?_⟩, fun b hb => h.tag b (by cases a with | none => simp [Value.ownBlock] at hb | some a => simpa [Value.ownBlock] using hb)⟩
  rcases h.row.2 with ⟨h0, h1⟩ | ⟨g, cap', cur, h0, hb, hg, h1, h2, h3, h4⟩
  · simp at h0
    obtain ⟨rfl, rfl, rfl⟩ := h0
    have : m = 0 := by omega
    subst this
    exact .inl ⟨rfl, by simp⟩
  · simp at h0
    obtain ⟨rfl, rfl, rfl⟩ := h0
    have hl : (xs.take m).length = m := by simp [hm]
    refine .inr ⟨g, cap, cur, by rw [hl], hb, hg, by rw [hl]; omega, h2, h3, ?_⟩
    rw [hl, Nat.mul_one, ← h4, List.take_take, Nat.mul_one, Nat.min_eq_left hm]
theorem set {g cap : Nat} (h : Sl o W t e (.slice (some ⟨g, 0, none⟩) xs.length cap) xs) (i : Nat) (u : Value) : Sl o (W.setCell ⟨g, i, none⟩ u) t e (.slice (some ⟨g, 0, none⟩) xs.length cap) (xs.set i u) := by
  refine ⟨?_, h.tag⟩
  rcases h.row.2 with ⟨h0, _⟩ | ⟨g', cap', cur, h0, hb, hg, h1, h2, h3, h4⟩
  · simp at h0
  · simp at h0
    obtain ⟨rfl, rfl⟩ := h0
    refine ⟨by simp, .inr ⟨g, cap, cur.setIfInBounds i u, by simp, hb, (Ob.set (o := o) (t := o g) ⟨hg, rfl⟩ i u).blk, by simpa using h1, h2, by simpa using h3, ?_⟩⟩
    rw [Nat.mul_one] at h4 h3 ⊢
    rw [List.length_set, Array.toList_setIfInBounds, List.take_set, h4]
theorem sset {g n cap : Nat} (h : Sl o W t e (.slice (some ⟨g, 0, none⟩) n cap) xs) (i : Nat) (u : Value) {T : List Nat} (hT : t ∈ T) : Step T o W o (W.setCell ⟨g, i, none⟩ u) := Step.setCell W (by rw [h.tag g rfl]; exact hT) u
/-- Behind append's law (the new values lay in one block, tmp): the tags anew. -/
theorem app {w1 : World} {v' : Value} {ys : List Value} {n : Nat} {tmp : Obj} (h : Sl o W t e v xs) (hown : w1.ownsRow 0 e 1 v' n ys) (hn : n = ys.length) (hg : (W.alloc tmp).grownBy w1 v.ownBlock) (hat : v'.ownBlock = v.ownBlock ∨ v'.ownBlock = some (W.alloc tmp).heap.size) :
    ∃ o', Sl o' w1 t e v' ys ∧ Step [t] o W o' w1 := by
  subst hn
  rw [World.size_alloc] at hat
  refine ⟨fun k => if k < W.heap.size then o k else t, ⟨hown, fun b hb => ?_⟩, ⟨hg.os, hg.tape, hg.output, ?_, fun k hk => by simp [hk], fun k hk hn => ?_⟩⟩
  · rcases hat with ha | ha
    · rw [ha] at hb
      have := h.lt hb
      simp only [this, if_true]
      exact h.tag b hb
    · rw [ha] at hb
      cases hb
      exact if_neg (by omega)
  · have := hg.size; simp at this; omega
  · rw [hg.block k (by simp; omega) (fun e1 => hn (by rw [h.tag k e1.symm]; simp)), Below.heap_alloc _ _ _ hk]
end Sl

theorem cell_one_at (w : World) (x : Value) (t : TypeId) (n : Nat) (hn : n = w.heap.size) : ∀ j u, [x][j]? = some u → (w.alloc (.cells #[x] t)).cell? ((⟨n, 0, none⟩ : Addr).add j) = some u := by
  subst hn
  exact cell_one_new w x t
end Go.Proofs.YbulkbmdoGreat
