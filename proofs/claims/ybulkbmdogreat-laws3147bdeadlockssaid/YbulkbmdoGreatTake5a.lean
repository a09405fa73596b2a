import Derived.Test.YbulkbmdoGreatTake4
import Derived.Laws.NewBlocks
namespace Go.Proofs.YbulkbmdoGreat
open Go.RowKit Go.Shelf
set_option linter.unusedVariables false

theorem cell_up {W : World} {a : Addr} {u : Value} (h : W.cell? a = some u) (x : Obj) : (W.alloc x).cell? a = some u :=
  (World.cell?_of_block (w := W) (Below.heap_alloc _ _ _ (World.block_lt_of_cell? _ _ h))).trans h

/-- A box for a slice, still nil. -/
def Zb : Obj := .cells #[.slice none 0 0] 24

/-- Inside the statement 'count, shares := ..': the boxes bs are made; the rows r are at hand (none, the counts', both). -/
structure St (o1 : Nat → Nat) (w1 : World) (c1 c2 : Value) (bs : List Nat) (w : World) : Prop where
  ex : ∃ o', Step [] o1 w1 o' w ∧ (∀ b ∈ bs, Ob o' w 99 b 24 #[.slice none 0 0]) ∧ bs.Nodup ∧ (∃ a cap, c1 = .slice a 0 cap ∧ Sl o' w 33 3 c1 []) ∧ (∃ a cap, c2 = .slice a 0 cap ∧ Sl o' w 34 3 c2 [])
section
variable {o1 : Nat → Nat} {w1 w w' : World} {c1 c2 : Value} {bs : List Nat}
theorem St.drew (h : St o1 w1 c1 c2 bs w) : St o1 w1 c1 c2 bs w.drew := by
  obtain ⟨o', s, hb, hn, ⟨a, k, e, h1⟩, ⟨a2, k2, e2, h2⟩⟩ := h.ex
  have sd := Step.drew [] o' w
  exact ⟨o', s.trans sd, fun b hb1 => (hb b hb1).step sd (by simp), hn, ⟨a, k, e, h1.step sd (by simp)⟩, ⟨a2, k2, e2, h2.step sd (by simp)⟩⟩
theorem St.alloc (h : St o1 w1 c1 c2 bs w) : St o1 w1 c1 c2 (w.heap.size :: bs) (w.alloc (.cells #[.slice none 0 0] 24)) := by
  obtain ⟨o', s, hb, hn, ⟨a, k, e, h1⟩, ⟨a2, k2, e2, h2⟩⟩ := h.ex
  have sd := Step.alloc [] o' w (.cells #[.slice none 0 0] 24) 99
  refine ⟨_, s.trans sd, fun b hb1 => ?_, ?_, ⟨a, k, e, h1.step sd (by simp)⟩, ⟨a2, k2, e2, h2.step sd (by simp)⟩⟩
  · rcases List.mem_cons.1 hb1 with rfl | hb1
    · exact Ob.new o' w 99 24 _
    · exact (hb b hb1).step sd (by simp)
  · refine List.nodup_cons.2 ⟨fun hm => ?_, hn⟩
    have := (hb _ hm).lt
    omega
theorem St.cell (h : St o1 w1 c1 c2 bs w) {a : Addr} {u : Value} (ha : w1.cell? a = some u) : w.cell? a = some u := by
  obtain ⟨o', s, _⟩ := h.ex
  exact (s.cell (World.block_lt_of_cell? _ _ ha) (by simp)).trans ha
theorem St.boxes (h : St o1 w1 c1 c2 bs w) : ∀ b ∈ bs, w.cell? ⟨b, 0, none⟩ = some (.slice none 0 0) ∧ w.frozen? ⟨b, 0, none⟩ = false ∧ b < w.heap.size := by
  obtain ⟨o', s, hb, _⟩ := h.ex
  exact fun b hm => ⟨(hb b hm).cell 0, (hb b hm).frozen 0, (hb b hm).lt⟩
theorem St.size (h : St o1 w1 c1 c2 bs w) : w1.heap.size ≤ w.heap.size := by
  obtain ⟨o', s, _⟩ := h.ex
  exact s.size
theorem St.grow1 {a : Option Addr} {cap n : Nat} (h : St o1 w1 (.slice a 0 cap) c2 bs w) (hn : n ≤ 100000) :
    Calls Ybaz.prog 34 #[.slice a 0 cap, .int .i64 (n : Int)] w fun e w' => ∃ a' cap', e = .returned (.slice a' 0 cap') ∧ n ≤ cap' ∧ cap' ≤ 9223372036854775807 ∧ St o1 w1 (.slice a' 0 cap') c2 bs w' := by
  obtain ⟨o', s, hb, hnd, ⟨a1, k1, e1, h1⟩, ⟨a2, k2, e2, h2⟩⟩ := h.ex
  refine (grow_any o' w 33 a cap n h1 hn).mono ?_
  rintro e w' ⟨o2, a', cap', rfl, hl, hs, st⟩
  refine ⟨a', cap', rfl, hl, ?_, ⟨o2, s.trans st, fun b hb1 => (hb b hb1).step st (by simp), hnd, ⟨a', cap', rfl, hs⟩, ⟨a2, k2, e2, h2.step st (by simp)⟩⟩⟩
  rcases hs.room with ⟨_, rfl⟩ | ⟨_, _, _, _, _, _, hm⟩
  · omega
  · unfold maxLen at hm; omega
theorem St.grow2 {a : Option Addr} {cap n : Nat} (h : St o1 w1 c1 (.slice a 0 cap) bs w) (hn : n ≤ 100000) :
    Calls Ybaz.prog 34 #[.slice a 0 cap, .int .i64 (n : Int)] w fun e w' => ∃ a' cap', e = .returned (.slice a' 0 cap') ∧ n ≤ cap' ∧ cap' ≤ 9223372036854775807 ∧ St o1 w1 c1 (.slice a' 0 cap') bs w' := by
  obtain ⟨o', s, hb, hnd, ⟨a1, k1, e1, h1⟩, ⟨a2, k2, e2, h2⟩⟩ := h.ex
  refine (grow_any o' w 34 a cap n h2 hn).mono ?_
  rintro e w' ⟨o2, a', cap', rfl, hl, hs, st⟩
  refine ⟨a', cap', rfl, hl, ?_, ⟨o2, s.trans st, fun b hb1 => (hb b hb1).step st (by simp), hnd, ⟨a1, k1, e1, h1.step st (by simp)⟩, ⟨a', cap', rfl, hs⟩⟩⟩
  rcases hs.room with ⟨_, rfl⟩ | ⟨_, _, _, _, _, _, hm⟩
  · omega
  · unfold maxLen at hm; omega
end

/-- What the statement comes to. -/
def T7 (n : Nat) (o1 : Nat → Nat) (w1 : World) (x9 x10 : Value) (wx : World) : Prop :=
  ∃ o2 B9 B10 ac cc ash sc, x9 = .pointer (some ⟨B9, 0, none⟩) ∧ x10 = .pointer (some ⟨B10, 0, none⟩) ∧ Ob o2 wx 99 B9 24 #[.slice ac n cc] ∧ Ob o2 wx 99 B10 24 #[.slice ash n sc] ∧ Sl o2 wx 33 3 (.slice ac 0 cc) [] ∧ Sl o2 wx 34 3 (.slice ash 0 sc) [] ∧ n ≤ cc ∧ n ≤ sc ∧ Step [] o1 w1 o2 wx
theorem Step.retouch {o o' : Nat → Nat} {A B C : World} (h : Step [] o A o' B) (hs : C.heap.size = B.heap.size) (h1 : C.os = B.os) (h2 : C.tape = B.tape) (h3 : C.output = B.output) (hb : ∀ k, k < A.heap.size → C.heap[k]? = B.heap[k]?) : Step [] o A o' C :=
  ⟨h1.trans h.os, h2.trans h.tape, h3.trans h.output, by rw [hs]; exact h.size, h.own, fun k hk hn => (hb k hk).trans (h.block k hk hn)⟩
theorem St.fin {o1 : Nat → Nat} {w1 w : World} {bs : List Nat} {a a2 : Option Addr} {cc sc n B9 B10 : Nat} (h : St o1 w1 (.slice a 0 cc) (.slice a2 0 sc) bs w) (h9 : B9 ∈ bs) (h10 : B10 ∈ bs) (hne : B9 ≠ B10) (hnew9 : w1.heap.size ≤ B9) (hnew10 : w1.heap.size ≤ B10) (hc : n ≤ cc) (hs : n ≤ sc) :
    T7 n o1 w1 (.pointer (some ⟨B9, 0, none⟩)) (.pointer (some ⟨B10, 0, none⟩)) ((w.setCell ⟨B9, 0, none⟩ (.slice a n cc)).setCell ⟨B10, 0, none⟩ (.slice a2 n sc)) := by
  obtain ⟨o', s, hb, hnd, ⟨a1, k1, e1, h1⟩, ⟨a2', k2, e2, h2⟩⟩ := h.ex
  have b9 := hb _ h9
  have b10 := hb _ h10
  have s9 := b9.sset 0 (.slice a n cc) (T := [99]) (by simp)
  have b9' := b9.set 0 (.slice a n cc)
  have b10' : Ob o' (w.setCell ⟨B9, 0, none⟩ (.slice a n cc)) 99 B10 24 #[.slice none 0 0] := ⟨(Below.heap_setCell _ _ _ _ (fun e => hne e.symm)).trans b10.blk, b10.tag⟩
  have s10 := b10'.sset 0 (.slice a2 n sc) (T := [99]) (by simp)
  have b10'' := b10'.set 0 (.slice a2 n sc)
  refine ⟨o', B9, B10, a, cc, a2, sc, rfl, rfl, ⟨(Below.heap_setCell _ _ _ _ hne).trans b9'.blk, b9'.tag⟩, b10'', (h1.step s9 (by simp)).step s10 (by simp), (h2.step s9 (by simp)).step s10 (by simp), hc, hs, ?_⟩
  refine s.retouch (by simp [World.setCell]) rfl rfl rfl fun k hk => ?_
  rw [Below.heap_setCell _ _ _ _ (show k ≠ B10 by omega), Below.heap_setCell _ _ _ _ (show k ≠ B9 by omega)]

theorem cell_far {W : World} {x k : Nat} {u v : Value} {b i : Nat} (h : W.cell? ⟨x, k, none⟩ = some u) (hb : x < b) : (W.setCell ⟨b, i, none⟩ v).cell? ⟨x, k, none⟩ = some u :=
  (World.cell?_of_block (w := W) (a := ⟨x, k, none⟩) (Below.heap_setCell _ _ _ _ (show x ≠ b by omega))).trans h
theorem Ob.new2 (o : Nat → Nat) (W : World) (x : Obj) (t : Nat) (ty : TypeId) (C : Array Value) : Ob (tg (tg o W.heap.size 99) (W.alloc x).heap.size t) ((W.alloc x).alloc (.cells C ty)).drew t (W.heap.size + 1) ty C := by
  have h := (Ob.new (tg o W.heap.size 99) (W.alloc x) t ty C).step (Step.drew [] _ _) (by simp)
  have e : (W.alloc x).heap.size = W.heap.size + 1 := World.size_alloc W x
  rw [e] at h ⊢
  exact h
section
variable {o1 : Nat → Nat} {w1 w : World} {bs : List Nat} {a a2 : Option Addr} {cc sc n B : Nat}
theorem St.fin1 (h : St o1 w1 (.slice a 0 cc) (.slice a2 0 sc) bs w) (hB : B ∈ bs) (hnew : w1.heap.size ≤ B) (hc : n ≤ cc) (hs : n ≤ sc) :
    T7 n o1 w1 (.pointer (some ⟨B, 0, none⟩)) (.pointer (some ⟨w.heap.size, 0, none⟩)) ((w.setCell ⟨B, 0, none⟩ (.slice a n cc)).alloc (.cells #[.slice a2 n sc] 24)) := by
  have hlt := (h.boxes B hB).2.2
  have hk := h.alloc.fin (n := n) (B9 := B) (B10 := w.heap.size) (by simp [hB]) (by simp) (by omega) hnew h.size hc hs
  rw [World.setCell_alloc_past _ _ _ _ hlt, World.setCell_alloc_at _ _ _ _ _ (by simp [World.setCell])] at hk
  exact hk
theorem St.fin1' (h : St o1 w1 (.slice a 0 cc) (.slice a2 0 sc) bs w) (hB : B ∈ bs) (hnew : w1.heap.size ≤ B) (hc : n ≤ cc) (hs : n ≤ sc) :
    T7 n o1 w1 (.pointer (some ⟨w.heap.size, 0, none⟩)) (.pointer (some ⟨B, 0, none⟩)) ((w.setCell ⟨B, 0, none⟩ (.slice a2 n sc)).alloc (.cells #[.slice a n cc] 24)) := by
  have hlt := (h.boxes B hB).2.2
  have hk := h.alloc.fin (n := n) (B9 := w.heap.size) (B10 := B) (by simp) (by simp [hB]) (by omega) h.size hnew hc hs
  rw [World.setCell_alloc_at _ _ _ _ _ rfl, World.setCell_alloc_past _ _ _ _ hlt] at hk
  exact hk
theorem St.fin2 (h : St o1 w1 (.slice a 0 cc) (.slice a2 0 sc) bs w) (hc : n ≤ cc) (hs : n ≤ sc) :
    T7 n o1 w1 (.pointer (some ⟨w.heap.size, 0, none⟩)) (.pointer (some ⟨w.heap.size + 1, 0, none⟩)) ((w.alloc (.cells #[.slice a n cc] 24)).alloc (.cells #[.slice a2 n sc] 24)) := by
  have hk := h.alloc.fin1 (n := n) (B := w.heap.size) (by simp) h.size hc hs
  rw [World.setCell_alloc_at _ _ _ _ _ rfl] at hk
  simpa using hk
theorem St.fin2' (h : St o1 w1 (.slice a 0 cc) (.slice a2 0 sc) bs w) (hc : n ≤ cc) (hs : n ≤ sc) :
    T7 n o1 w1 (.pointer (some ⟨w.heap.size + 1, 0, none⟩)) (.pointer (some ⟨w.heap.size, 0, none⟩)) ((w.alloc (.cells #[.slice a2 n sc] 24)).alloc (.cells #[.slice a n cc] 24)) := by
  have hk := h.alloc.fin1' (n := n) (B := w.heap.size) (by simp) h.size hc hs
  rw [World.setCell_alloc_at _ _ _ _ _ rfl] at hk
  simpa using hk
end
end Go.Proofs.YbulkbmdoGreat
