import Derived.Test.YbulkbmdoGreatOf
import Derived.Test.YbulkbmdoGreatSel
import Derived.Test.YbulkbmdoGreatRange
import Derived.RangeFuncBox
import Derived.RangeFuncLeaves
import Derived.Shelf.Abstract
import Derived.OwnWalkIn
import Derived.TacticsInMore
import Derived.LoopNIn
import Derived.LoopIn
import Derived.RegionIn
import Derived.Maps.OwnIn
import Derived.BigRegionIn
import Derived.Stop.RegionWithIn
namespace Go.Proofs.YbulkbmdoGreat
open Go.RowKit Go.Shelf
set_option linter.unusedVariables false

attribute [local go_sem] Oper.semAt_some

theorem hid {p : Prop} (h : p) : Hid p := h
/-- Block b holds N ints, cell j the number f j. -/
def Arr (X : World) (b N : Nat) (f : Nat → Int) : Prop := ∃ cur : Array Value, X.heap[b]? = some (.cells cur 3 (0, 0)) ∧ N ≤ cur.size ∧ ∀ j, j < N → cur[j]? = some (.int .i64 (f j))
theorem Arr.cell {X : World} {b N : Nat} {f : Nat → Int} (h : Arr X b N f) (j : Nat) (hj : j < N) : X.cell? ⟨b, j, none⟩ = some (.int .i64 (f j)) := by
  obtain ⟨c, hc, _, hf⟩ := h; simp [World.cell?, hc, hf j hj]
theorem Arr.frozen {X : World} {b N : Nat} {f : Nat → Int} (h : Arr X b N f) (j : Nat) : X.frozen? ⟨b, j, none⟩ = false := by
  obtain ⟨c, hc, _⟩ := h; simp [World.frozen?, hc]
theorem Arr.kept {X Y : World} {b N : Nat} {f : Nat → Int} (h : Arr X b N f) (hk : Y.heap[b]? = X.heap[b]?) : Arr Y b N f := by
  obtain ⟨c, hc, r⟩ := h; exact ⟨c, hk.trans hc, r⟩
theorem Arr.set {X : World} {b N : Nat} {f : Nat → Int} (h : Arr X b N f) (i : Nat) (z : Int) : Arr (X.setCell ⟨b, i, none⟩ (.int .i64 z)) b N (fun j => if j = i then z else f j) := by
  obtain ⟨c, hc, hN, hf⟩ := h
  refine ⟨c.setIfInBounds i (.int .i64 z), (Ob.set (o := fun _ => 0) (t := 0) ⟨hc, rfl⟩ i (.int .i64 z)).blk, by simpa using hN, fun j hj => ?_⟩
  by_cases e1 : j = i
  · subst e1
    simp [Nat.lt_of_lt_of_le hj hN]
  · rw [Array.getElem?_setIfInBounds_ne (fun e2 => e1 e2.symm)]
    simp only [e1, if_false]
    exact hf j hj
theorem Arr.congr {X : World} {b N : Nat} {f g : Nat → Int} (h : Arr X b N f) (hg : ∀ j, j < N → f j = g j) : Arr X b N g := by
  obtain ⟨c, hc, hN, hf⟩ := h
  exact ⟨c, hc, hN, fun j hj => by rw [hf j hj, hg j hj]⟩
theorem Arr.lt {X : World} {b N : Nat} {f : Nat → Int} (h : Arr X b N f) : b < X.heap.size := by obtain ⟨c, hc, _⟩ := h; exact (Array.getElem?_eq_some_iff.1 hc).1
theorem Arr.made (W : World) (N : Nat) : Arr (W.alloc (.cells (madeCells #[.int .i64 0] N) 3)) W.heap.size N (fun _ => 0) := by
  obtain ⟨c, hc, hN, hf⟩ := (Ar.made (fun _ => 0) W 0 3 N (.int .i64 0)).blk
  exact ⟨c, hc, Nat.le_of_eq hN.symm, hf⟩

/-- All but block b is as it was, below M; the streams too. -/
structure Kq (b M : Nat) (A B : World) : Prop where
  os : B.os = A.os
  tape : B.tape = A.tape
  output : B.output = A.output
  size : M ≤ B.heap.size
  block : ∀ k, k < M → k ≠ b → B.heap[k]? = A.heap[k]?
theorem Kq.cell {b M : Nat} {A B : World} (h : Kq b M A B) {p : Addr} (h1 : p.block < M) (h2 : p.block ≠ b) : B.cell? p = A.cell? p := World.cell?_of_block (w := A) (h.block p.block h1 h2)
theorem Kq.own {β : Type} (b M : Nat) (W0 : World) {B : Nat} (hB : M ≤ B) : OwnFrom B (fun (_ : β) X => Kq b M W0 X) := by
  rintro s A B' row ⟨h1, h2, h3, h4, h5⟩ hg hr
  refine ⟨hg.os.trans h1, hg.tape.trans h2, hg.output.trans h3, Nat.le_trans h4 hg.size, fun k hk hne => ?_⟩
  rw [hg.block k (by omega) (fun e => by have := (hr k e.symm).1; omega)]
  exact h5 k hk hne
theorem Arr.own {β : Type} (b N : Nat) (f : β → Nat → Int) : Own (fun (s : β) X => Arr X b N (f s)) := by
  rintro s A B row ⟨c, hc, r⟩ hg hr
  refine ⟨c, ?_, r⟩
  rw [hg.block b (Array.getElem?_eq_some_iff.1 hc).1 (fun e => ?_)]
  · exact hc
  · obtain ⟨o, ho, hn⟩ := hr b e.symm
    rw [hc] at ho; cases ho; cases hn
theorem Kq.set {b M i : Nat} {A B : World} {v : Value} (h : Kq b M A B) : Kq b M A (B.setCell ⟨b, i, none⟩ v) :=
  ⟨h.os, h.tape, h.output, by have := h.size; simpa [World.setCell] using this, fun k hk hne => (Below.heap_setCell _ _ _ _ hne).trans (h.block k hk hne)⟩

theorem row_pos {w : World} {e : TypeId} {v : Value} {n : Nat} {xs : List Value} (h : w.ownsRow 0 e 1 v n xs) (hn : 0 < n) : ∃ g cap, v = .slice (some ⟨g, 0, none⟩) n cap := by
  rcases h.2 with ⟨rfl, h0⟩ | ⟨g, cap, cur, rfl, _⟩
  · omega
  · exact ⟨g, cap, rfl⟩
theorem Arr.of_row {X : World} {b cap : Nat} {xs : List Value} {f : Nat → Int} {n m : Nat} (h : X.ownsRow 0 3 1 (.slice (some ⟨b, 0, none⟩) n cap) m xs) (hx : xs = (List.range n).map fun j => .int .i64 (f j)) : Arr X b n f := by
  rcases h.2 with ⟨h0, _⟩ | ⟨g, cap', cur, h0, hb, hg, h1, h2, h3, h4⟩
  · simp at h0
  · simp at h0
    obtain ⟨rfl, rfl, rfl⟩ := h0
    rw [Nat.mul_one] at h3 h4
    refine ⟨cur, hg, by omega, fun j hj => ?_⟩
    have := congrArg (fun l => l[j]?) h4
    simp only [List.getElem?_take_of_lt hj, Array.getElem?_toList] at this
    rw [this, hx]
    simp [hj]

/-- All but the blocks b and c is as it was, below M; the streams too. -/
structure Kq2 (b c M : Nat) (A B : World) : Prop where
  os : B.os = A.os
  tape : B.tape = A.tape
  output : B.output = A.output
  size : M ≤ B.heap.size
  block : ∀ k, k < M → k ≠ b → k ≠ c → B.heap[k]? = A.heap[k]?
theorem Kq2.cell {b c M : Nat} {A B : World} (h : Kq2 b c M A B) {p : Addr} (h1 : p.block < M) (h2 : p.block ≠ b) (h3 : p.block ≠ c) : B.cell? p = A.cell? p := World.cell?_of_block (w := A) (h.block p.block h1 h2 h3)
theorem Kq2.own {β : Type} (b c M : Nat) (W0 : World) {B : Nat} (hB : M ≤ B) : OwnFrom B (fun (_ : β) X => Kq2 b c M W0 X) := by
  rintro s A B' row ⟨h1, h2, h3, h4, h5⟩ hg hr
  refine ⟨hg.os.trans h1, hg.tape.trans h2, hg.output.trans h3, Nat.le_trans h4 hg.size, fun k hk hne hn2 => ?_⟩
  rw [hg.block k (by omega) (fun e => by have := (hr k e.symm).1; omega)]
  exact h5 k hk hne hn2
theorem Kq2.setb {b c M i : Nat} {A B : World} {v : Value} (h : Kq2 b c M A B) : Kq2 b c M A (B.setCell ⟨b, i, none⟩ v) :=
  ⟨h.os, h.tape, h.output, by have := h.size; simpa [World.setCell] using this, fun k hk hne hn2 => (Below.heap_setCell _ _ _ _ hne).trans (h.block k hk hne hn2)⟩
theorem Kq2.setc {b c M i : Nat} {A B : World} {v : Value} (h : Kq2 b c M A B) : Kq2 b c M A (B.setCell ⟨c, i, none⟩ v) :=
  ⟨h.os, h.tape, h.output, by have := h.size; simpa [World.setCell] using this, fun k hk hne hn2 => (Below.heap_setCell _ _ _ _ hn2).trans (h.block k hk hne hn2)⟩
theorem Kq2.drew {b c M : Nat} {A B : World} (h : Kq2 b c M A B) : Kq2 b c M A B.drew := ⟨h.os, h.tape, h.output, h.size, h.block⟩

/-- The items of the beginning P, each at its place of L's lists. -/
def Dealt (L : List (Nat × Nat)) (n : Nat) (P : List (Nat × Nat)) (it : Nat → Int) : Prop := ∀ i r, i < n → (hr : r < (Pl.sel P i).length) → it (Pl.pos L i + r) = ((Pl.sel P i)[r] : Int)

theorem Dealt.snoc {L P : List (Nat × Nat)} {n : Nat} {x : Nat × Nat} {it : Nat → Int} (hL : ∀ x ∈ L, x.1 < n) (hp : P ++ [x] <+: L) (h : Dealt L n P it) :
    Dealt L n (P ++ [x]) (fun j => if j = Pl.pos L x.1 + (Pl.sel P x.1).length then (x.2 : Int) else it j) := by
  have hx : x.1 < n := hL x (by obtain ⟨r, hr⟩ := hp; rw [← hr]; simp)
  have hpre := (List.prefix_append P [x]).trans hp
  intro i r hi hr
  by_cases e : x.1 = i
  · subst e
    have e1 : Pl.sel (P ++ [x]) x.1 = Pl.sel P x.1 ++ [x.2] := by rw [Pl.sel_snoc, if_pos rfl]
    have hr' : r < (Pl.sel P x.1).length + 1 := by rw [e1] at hr; simpa using hr
    by_cases e2 : r = (Pl.sel P x.1).length
    · subst e2
      simp only [if_true]
      congr 1
      rw [List.getElem_of_eq e1]
      simp
    · have hr2 : r < (Pl.sel P x.1).length := by omega
      simp only [show ¬ (Pl.pos L x.1 + r = Pl.pos L x.1 + (Pl.sel P x.1).length) by omega, if_false]
      rw [h x.1 r hi hr2]
      congr 1
      rw [List.getElem_of_eq e1, List.getElem_append_left hr2]
  · have e1 : Pl.sel (P ++ [x]) i = Pl.sel P i := by rw [Pl.sel_snoc, if_neg e]
    have hr2 : r < (Pl.sel P i).length := by rw [e1] at hr; exact hr
    have hne : ¬ (Pl.pos L i + r = Pl.pos L x.1 + (Pl.sel P x.1).length) := fun e3 => by
      have := (Pl.pos_apart L (Nat.lt_of_lt_of_le hr2 (Pl.sel_pref hpre i).length_le) (Pl.sel_lt hp) e3).1
      exact e this.symm
    simp only [hne, if_false]
    rw [h i r hi hr2]
    congr 1
    rw [List.getElem_of_eq e1]

/-- The counts of the first loop: cell j+1 counts the pairs of list j. -/
def cntF (P : List (Nat × Nat)) (j : Nat) : Int := match j with
  | 0 => 0
  | j + 1 => ((Pl.sel P j).length : Int)

set_option maxRecDepth 100000 in
set_option maxHeartbeats 4000000 in
theorem lists_walk (n : Nat) (hn0 : 0 < n) (hn : n ≤ 300) (gf : Nat) (lb : Array Value) (eg : ∀ args w, (callFunc gf args).run Ybaz.prog w = .ok (.enter gf args) w) (L : List (Nat × Nat)) (hL : ∀ x ∈ L, x.1 < n) (hLl : L.length ≤ 1000) (w : World)
    (hseq : ∀ W, Below w.heap.size w W → SeqL 9 Ybaz.prog gf lb (fun x : Nat × Nat => #[Value.int .i64 (x.1 : Int), Value.int .i64 (x.2 : Int)]) (Below w.heap.size) L W) :
    CallsIn Fence.wide 10 Ybaz.prog 23 #[.int .i64 (n : Int), .func (.func gf) #[] lb] w fun e W' => ∃ fb ib, e = .returned (.agg #[.slice (some ⟨fb, 0, none⟩) (n + 1) (n + 1), .slice (some ⟨ib, 0, none⟩) L.length L.length]) ∧
      w.heap.size ≤ fb ∧ w.heap.size ≤ ib ∧ fb ≠ ib ∧ Arr W' fb (n + 1) (fun j => (Pl.pos L j : Int)) ∧ (∃ it : Nat → Int, Arr W' ib L.length it ∧ ∀ i r, i < n → (hr : r < (Pl.sel L i).length) → it (Pl.pos L i + r) = ((Pl.sel L i)[r] : Int)) ∧ Below w.heap.size w W' := by
  have hmk := run_make_row' (P := Ybaz.prog) 24 3 (.int .i64 0) 8 Ybaz.underlying24 info3 rfl .i64 .i64 (n + 1) (by omega) (by omega)
  have ec : ((n + 1 : Nat) : Int) = (n : Int) + 1 := by omega
  rw [ec] at hmk
  obtain ⟨i0, hi, hz0, hz1, hz2⟩ := info_parts info3
  refine callsIn_of_wp_marks Ybaz.func23 rfl trivial ?_ rfl
  simp only [Ybaz.ntmps23, List.size_toArray, List.length_cons, List.length_nil, Nat.reduceAdd, Nat.reduceSub, Array.replicate_succ, Array.replicate_zero, List.push_toArray, List.append_toArray, List.nil_append, List.cons_append]
  gi_wp2_with fail
  obtain ⟨W0, hW0⟩ : ∃ W0, (((w.alloc (.cells #[.slice none 0 0, .slice none 0 0] 52)).alloc (.cells (madeCells #[.int .i64 0] (n + 1)) 3)).alloc (.cells #[.slice (some ⟨w.heap.size + 1, 0, none⟩) (n + 1) (n + 1)] 24)) = W0 := ⟨_, rfl⟩
  have hsz : W0.heap.size = w.heap.size + 3 := by rw [← hW0]; simp
  have hB0 : Below w.heap.size w W0 := by rw [← hW0]; exact (((Below.refl _ w).alloc (Nat.le_refl _) _).alloc (by simp) _).alloc (by simp; omega) _
  have hr0 : W0.heap[w.heap.size]? = some (.cells #[.slice none 0 0, .slice none 0 0] 52 (0, 0)) := by
    rw [← hW0, Below.heap_alloc _ _ _ (by simp <;> omega), Below.heap_alloc _ _ _ (by simp)]; exact World.alloc_heap_new _ _
  have hA0 : Arr W0 (w.heap.size + 1) (n + 1) (fun _ => 0) := by
    have := Arr.made (w.alloc (.cells #[.slice none 0 0, .slice none 0 0] 52)) (n + 1)
    rw [World.size_alloc] at this
    exact this.kept (by rw [← hW0, Below.heap_alloc _ _ _ (by simp)])
  have hbx : Boxed W0 (w.heap.size + 2) 24 (.slice (some ⟨w.heap.size + 1, 0, none⟩) (n + 1) (n + 1)) := by
    have := World.alloc_heap_new ((w.alloc (.cells #[.slice none 0 0, .slice none 0 0] 52)).alloc (.cells (madeCells #[.int .i64 0] (n + 1)) 3)) (.cells #[.slice (some ⟨w.heap.size + 1, 0, none⟩) (n + 1) (n + 1)] 24)
    rw [World.size_alloc, World.size_alloc, hW0] at this
    exact this
  rw [hW0]
  clear hW0 hmk
  refine range_all (gf := gf) (lb := lb) rfl eg (hseq W0 hB0) belowK_t (belowK_b (by omega)) (Below.refl _ _) (fun _ => rfl)
    (fun pre X => (Arr X (w.heap.size + 1) (n + 1) (cntF pre)) ∧ (Kq (w.heap.size + 1) (w.heap.size + 3) W0 X))
    (OwnFrom.and (Own.from (Arr.own _ _ _) _) (Kq.own _ _ _ (by omega)))
    ⟨hA0.congr (fun j _ => by cases j <;> rfl), ⟨rfl, rfl, rfl, by omega, fun _ _ _ => rfl⟩⟩
    (fun x => { tmps := #[.int .i64 n, .func (.func gf) #[] lb, undef, undef, .pointer (some ⟨w.heap.size, 0, none⟩), .pointer (some ⟨w.heap.size + 1 + 1, 0, none⟩), .int .i64 (x.1 : Int), undef, undef, undef, undef, undef, .int .i64 n, .int .i64 (n + 1), .slice (some ⟨w.heap.size + 1, 0, none⟩) (n + 1) (n + 1), .func (.func gf) #[] lb, .int .i64 (x.1 : Int), .int .i64 (x.2 : Int), undef, undef, undef, undef, undef, undef, undef, undef, undef, undef, undef, undef, undef, undef, undef, undef, undef, undef, undef, undef, undef, undef, undef, undef, undef, undef, undef, undef, undef, undef, undef, undef, undef, undef, undef, undef, undef, undef, undef, undef, undef, undef, undef, undef, undef, undef, undef, undef, undef, undef, undef], defers := [] }) ?assign ?body ?done
  case assign =>
    intro l x W K hK
    gi_wp2
    exact hK
  case body =>
    rintro l pre x W ⟨hA, hk⟩ hpre
    have hx : x.1 < n := hL x (by obtain ⟨r, hr⟩ := hpre; rw [← hr]; simp)
    have hpl : (Pl.sel pre x.1).length ≤ 1000 := by
      have h1 := (Pl.sel_pref ((List.prefix_append pre [x]).trans hpre) x.1).length_le
      have h2 := Pl.pos_le_all L n hL (show x.1 + 1 ≤ n from hx)
      rw [Pl.pos_succ] at h2
      omega
    have hcb : W.cell? ⟨w.heap.size + 1 + 1, 0, none⟩ = some (.slice (some ⟨w.heap.size + 1, 0, none⟩) (n + 1) (n + 1)) := (hk.cell (p := ⟨w.heap.size + 1 + 1, 0, none⟩) (by simp) (by simp)).trans hbx.cell
    have hcx := hA.cell (x.1 + 1) (by omega)
    have hfx := hA.frozen (x.1 + 1)
    have hb1 : (x.1 : Int) < (n : Int) := by omega
    rw [show cntF pre (x.1 + 1) = ((Pl.sel pre x.1).length : Int) from rfl] at hcx
    gi_wp2
    refine ⟨(KeepsOthers.setCell _ _ _).from _, (Below.refl _ W).setCell (p := ⟨w.heap.size + 1, x.1 + 1, none⟩) (Nat.le_succ _) _, ?_, hk.set⟩
    refine (hA.set (x.1 + 1) _).congr fun j _ => ?_
    cases j with
    | zero => rfl
    | succ j =>
      by_cases e : j = x.1
      · subst e; simp [cntF, Pl.sel_snoc]
      · have e2 : ¬ x.1 = j := fun h => e h.symm
        simp [cntF, Pl.sel_snoc, e, e2]
  case done =>
    rintro D1 X1 hD1 ⟨hA1, hk1⟩ hK1
    have hcb : X1.cell? ⟨w.heap.size + 1 + 1, 0, none⟩ = some (.slice (some ⟨w.heap.size + 1, 0, none⟩) (n + 1) (n + 1)) := (hk1.cell (p := ⟨w.heap.size + 1 + 1, 0, none⟩) (by simp) (by simp)).trans hbx.cell
    have HB : Hid (Below w.heap.size w X1) := hB0.trans ⟨hk1.os, hk1.tape, hk1.output, by rw [hsz]; have := hk1.size; omega, fun k hk => hk1.block k (by omega) (by omega)⟩
    have HR : Hid (X1.heap[w.heap.size]? = some (.cells #[.slice none 0 0, .slice none 0 0] 52 (0, 0))) := (hk1.block _ (by omega) (by omega)).trans hr0
    have HBX : Hid (X1.heap[w.heap.size + 2]? = W0.heap[w.heap.size + 2]?) := hk1.block _ (by omega) (by omega)
    have HK1 : Hid (X1.heap[D1]? = some (.deferred (some []))) := hK1
    have hsz1 := hk1.size
    have hD1' : w.heap.size + 3 ≤ D1 := by omega
    clear hk1 hK1 hr0 hA0 hB0 hsz
    gi_wp2
    gi_loopw [26] (fun i wr => ∃ k : Nat, k ≤ n ∧ i = .int .i64 k ∧ Arr wr (w.heap.size + 1) (n + 1) (fun j => if j ≤ k then (Pl.pos L j : Int) else cntF L j) ∧ Kq (w.heap.size + 1) X1.heap.size X1 wr) (fun i _ => n - (intOf i).toNat)
    case atStart =>
      refine ⟨0, Nat.zero_le _, rfl, hA1.congr fun j _ => ?_, ⟨rfl, rfl, rfl, Nat.le_refl _, fun _ _ _ => rfl⟩⟩
      cases j with
      | zero => simp [cntF, Pl.pos_zero]
      | succ j => simp
    case round =>
      obtain ⟨k, hk, rfl, hA, hkq⟩ := hrel
      have hcw : wr.cell? ⟨w.heap.size + 1 + 1, 0, none⟩ = some (.slice (some ⟨w.heap.size + 1, 0, none⟩) (n + 1) (n + 1)) := (hkq.cell (p := ⟨w.heap.size + 1 + 1, 0, none⟩) (show w.heap.size + 1 + 1 < X1.heap.size by omega) (by simp)).trans hcb
      by_cases hlt : k < n
      · have hb1 : (k : Int) < (n : Int) := by omega
        have hc0 := hA.cell k (by omega)
        have hc1 := hA.cell (k + 1) (by omega)
        have hf1 := hA.frozen (k + 1)
        rw [if_pos (Nat.le_refl k)] at hc0
        rw [if_neg (by omega : ¬ k + 1 ≤ k), show cntF L (k + 1) = ((Pl.sel L k).length : Int) from rfl] at hc1
        have hp0 := Pl.pos_le_all L n hL (show k + 1 ≤ n from hlt)
        have hp1 := Pl.pos_succ L k
        have HA : Hid (Arr wr (w.heap.size + 1) (n + 1) (fun j => if j ≤ k then (Pl.pos L j : Int) else cntF L j)) := hA
        have HQ : Hid (Kq (w.heap.size + 1) X1.heap.size X1 wr) := hkq
        clear hA hkq hA1
        have hw3 : IntKind.i64.wrap (((Pl.sel L k).length : Int) + (Pl.pos L k : Int)) = (Pl.pos L (k + 1) : Int) := by rw [IntKind.wrap_i64]; omega
        gi_wp2
        gi_region
        all_goals
          gi_wp2
          go_roundw
          case rel =>
            refine ⟨k + 1, by omega, by go_num, ?_, ?_⟩
            · refine (HA.out.set (k + 1) _).congr fun j _ => ?_
              by_cases e : j = k + 1
              · subst e; simp only [Nat.le_refl, if_true]; omega
              · have e1 : j ≤ k + 1 ↔ j ≤ k := by omega
                simp only [e, e1, if_false]
            · have q := HQ.out.set (i := k + 1) (v := .int .i64 ((Pl.pos L k : Int) + ((Pl.sel L k).length : Int)))
              exact ⟨q.os, q.tape, q.output, q.size, q.block⟩
          case measure => simp [intOf]; omega
      · obtain rfl : k = n := by omega
        have hA2 : Arr wr (w.heap.size + 1) (k + 1) (fun j => (Pl.pos L j : Int)) := hA.congr fun j hj => if_pos (by omega)
        have hcn := hA2.cell k (by omega)
        rw [Pl.pos_all L k hL] at hcn
        have hmk := run_make_row' (P := Ybaz.prog) 24 3 (.int .i64 0) 8 Ybaz.underlying24 info3 rfl .i64 .i64 L.length (by omega) (by omega)
        have hwsz := hkq.size
        have HA2 : Hid (Arr wr (w.heap.size + 1) (k + 1) (fun j => (Pl.pos L j : Int))) := hA2
        have HQ : Hid (Kq (w.heap.size + 1) X1.heap.size X1 wr) := hkq
        have hcj : ∀ j u, ((List.range k).map fun j => Value.int .i64 (Pl.pos L j : Int))[j]? = some u → ((wr.alloc (.cells (madeCells #[.int .i64 0] L.length) 3)).alloc (.cells #[.slice (some ⟨wr.heap.size, 0, none⟩) L.length L.length] 24)).cell? ((⟨w.heap.size + 1, 0, none⟩ : Addr).add j) = some u := by
          intro j u hu
          have hj : j < k := by
            have := (List.getElem?_eq_some_iff.1 hu).1; simpa using this
          simp [hj] at hu
          subst hu
          have h1 := hA2.kept (Y := (wr.alloc (.cells (madeCells #[.int .i64 0] L.length) 3)).alloc (.cells #[.slice (some ⟨wr.heap.size, 0, none⟩) L.length L.length] 24)) (by rw [Below.heap_alloc _ _ _ (by simp; have := hA2.lt; omega), Below.heap_alloc _ _ _ hA2.lt])
          have h2 := h1.cell j (by omega)
          have e2 : ((⟨w.heap.size + 1, 0, none⟩ : Addr).add j) = ⟨w.heap.size + 1, j, none⟩ := by cases j <;> simp [Addr.add]
          rw [e2]; exact h2
        have hcw2 : ((wr.alloc (.cells (madeCells #[.int .i64 0] L.length) 3)).alloc (.cells #[.slice (some ⟨wr.heap.size, 0, none⟩) L.length L.length] 24)).cell? ⟨w.heap.size + 1 + 1, 0, none⟩ = some (.slice (some ⟨w.heap.size + 1, 0, none⟩) (k + 1) (k + 1)) :=
          (World.cell?_of_block (w := wr) (a := ⟨w.heap.size + 1 + 1, 0, none⟩) (by rw [Below.heap_alloc _ _ _ (by simp; omega), Below.heap_alloc _ _ _ (by simp; omega)])).trans hcw
        clear hA hA1 hA2 hkq
        gi_wp2_with (gi_at_builtin; refine wpListIn_append_own_at _ rfl _ _ 24 rfl 0 3 i0 (.int .i64 0) 1 8 Ybaz.underlying24 hi hz0 hz1 hz2 rfl (by decide) (.slice none 0 0) 0 [] rfl (World.ownsRow_nil _ _ _ _) ⟨w.heap.size + 1, 0, none⟩ k (k + 1) ((List.range k).map fun j => Value.int .i64 (Pl.pos L j : Int)) rfl (by simp) hcj (by simp [Value.oneCell']) (by unfold maxLen; omega) (by omega) (Nat.zero_le _) ?_; intro v' w1 hown' hgrow hnil hat; obtain ⟨nb, ncap, rfl⟩ := row_pos hown' (by omega); clear hnil)
        have hnb : nb = wr.heap.size + 1 + 1 := by rcases hat with h | h <;> simp [Value.ownBlock] at h; exact h
        rw [Nat.zero_add] at hown'
        have vn0 : Arr w1 nb k (fun j => (Pl.pos L j : Int)) := Arr.of_row hown' rfl
        have hlt1 : nb < w1.heap.size := vn0.lt
        have hAi := Arr.made wr L.length
        have keep1 : ∀ i, i < wr.heap.size + 2 → w1.heap[i]? = ((wr.alloc (.cells (madeCells #[.int .i64 0] L.length) 3)).alloc (.cells #[.slice (some ⟨wr.heap.size, 0, none⟩) L.length L.length] 24)).heap[i]? := fun i hi => hgrow.block i (by simp; omega) (by simp [Value.ownBlock])
        obtain ⟨V, hV⟩ : ∃ V, w1.alloc (.cells #[.slice (some ⟨nb, 0, none⟩) k ncap] 24) = V := ⟨_, rfl⟩
        have hVs : V.heap.size = w1.heap.size + 1 := by rw [← hV]; simp
        have keep2 : ∀ i, i < wr.heap.size + 2 → V.heap[i]? = ((wr.alloc (.cells (madeCells #[.int .i64 0] L.length) 3)).alloc (.cells #[.slice (some ⟨wr.heap.size, 0, none⟩) L.length L.length] 24)).heap[i]? := fun i hi => by
          rw [← hV, Below.heap_alloc _ _ _ (by omega)]; exact keep1 i hi
        have keep3 : ∀ i, i < wr.heap.size → V.heap[i]? = wr.heap[i]? := fun i hi => by
          rw [keep2 i (by omega), Below.heap_alloc _ _ _ (by simp; omega), Below.heap_alloc _ _ _ hi]
        have vf : Arr V (w.heap.size + 1) (k + 1) (fun j => (Pl.pos L j : Int)) := HA2.out.kept (keep3 _ HA2.out.lt)
        have vi : Arr V wr.heap.size L.length (fun _ => 0) := hAi.kept (by rw [keep2 _ (by omega), Below.heap_alloc _ _ _ (by simp)])
        have vn : Arr V nb k (fun j => (Pl.pos L j : Int)) := vn0.kept (by rw [← hV, Below.heap_alloc _ _ _ hlt1])
        have cF : V.cell? ⟨w.heap.size + 1 + 1, 0, none⟩ = some (.slice (some ⟨w.heap.size + 1, 0, none⟩) (k + 1) (k + 1)) := (World.cell?_of_block (w := wr) (a := ⟨w.heap.size + 1 + 1, 0, none⟩) (keep3 _ (show w.heap.size + 1 + 1 < _ by omega))).trans hcw
        have cI : V.cell? ⟨wr.heap.size + 1, 0, none⟩ = some (.slice (some ⟨wr.heap.size, 0, none⟩) L.length L.length) := by
          have h1 := World.alloc_heap_new (wr.alloc (.cells (madeCells #[.int .i64 0] L.length) 3)) (.cells #[.slice (some ⟨wr.heap.size, 0, none⟩) L.length L.length] 24)
          rw [World.size_alloc, ← keep2 _ (by omega)] at h1
          simp [World.cell?, h1]
        have cN : V.cell? ⟨w1.heap.size, 0, none⟩ = some (.slice (some ⟨nb, 0, none⟩) k ncap) := by
          have h1 := World.alloc_heap_new w1 (.cells #[.slice (some ⟨nb, 0, none⟩) k ncap] 24)
          rw [hV] at h1
          simp [World.cell?, h1]
        have hD1lt : D1 < X1.heap.size := (Array.getElem?_eq_some_iff.1 HK1.out).1
        have vK : V.heap[D1]? = some (.deferred (some [])) := by
          rw [keep3 _ (by omega), HQ.out.block _ hD1lt (by omega)]; exact HK1.out
        have vR : V.heap[w.heap.size]? = some (.cells #[.slice none 0 0, .slice none 0 0] 52 (0, 0)) := by
          rw [keep3 _ (by omega), HQ.out.block _ (by omega) (by omega)]; exact HR.out
        have vB : Below w.heap.size w V := HB.out.trans ⟨by rw [← hV]; exact hgrow.os.trans HQ.out.os, by rw [← hV]; exact hgrow.tape.trans HQ.out.tape, by rw [← hV]; exact hgrow.output.trans HQ.out.output, by omega, fun i hi => by
          rw [keep3 _ (by omega), HQ.out.block _ (by omega) (by omega)]⟩
        rw [hV]
        have hM : Hid (w1.heap.size < V.heap.size ∧ wr.heap.size + 1 < V.heap.size ∧ w.heap.size + 2 < wr.heap.size ∧ D1 < V.heap.size ∧ nb = wr.heap.size + 2 ∧ nb < w1.heap.size) := ⟨by omega, by omega, by omega, by omega, by omega, by omega⟩
        clear keep1 keep2 keep3 hown' hgrow hat hAi vn0 hV hcj hcw2 hcn hmk HQ HA2 HR HB HBX HK1 hcb hcw hbx hnb hVs hlt1
        refine range_all (gf := gf) (lb := lb) rfl eg (hseq V vB) belowK_t (belowK_b (by have := vB.size; omega)) (Below.refl _ _) (fun _ => rfl)
          (fun pre X => ((∃ it, Arr X wr.heap.size L.length it ∧ Dealt L k pre it) ∧ Arr X nb k (fun j => (Pl.pos L j : Int) + ((Pl.sel pre j).length : Int))) ∧ Kq2 wr.heap.size nb V.heap.size V X)
          (OwnFrom.and (OwnFrom.and (fun s A B row ⟨it, h1, h2⟩ hg hr => ⟨it, (Arr.own wr.heap.size L.length (fun _ : Unit => it)).from V.heap.size () A B row h1 hg hr, h2⟩) ((Arr.own _ _ _).from _)) (Kq2.own _ _ _ _ (Nat.le_refl _)))
          ⟨⟨⟨_, vi, fun i r _ hr => by simp [Pl.sel_nil] at hr⟩, vn.congr fun j _ => by simp [Pl.sel_nil]⟩, ⟨rfl, rfl, rfl, Nat.le_refl _, fun _ _ _ _ => rfl⟩⟩
          (fun x => { tmps := #[.int .i64 k, .func (.func gf) #[] lb, undef, undef, .pointer (some ⟨w.heap.size, 0, none⟩), .pointer (some ⟨w.heap.size + 1 + 1, 0, none⟩), undef, u7, .pointer (some ⟨wr.heap.size + 1, 0, none⟩), .pointer (some ⟨w1.heap.size, 0, none⟩), .int .i64 (x.1 : Int), .int .i64 (x.2 : Int), .int .i64 k, .int .i64 (k + 1), .slice (some ⟨w.heap.size + 1, 0, none⟩) (k + 1) (k + 1), .func (.func gf) #[] lb, undef, undef, undef, undef, undef, undef, undef, undef, undef, .int .i64 k, .int .i64 k, .bool false, u28, u29, u30, u31, u32, u33, u34, u35, u36, u37, u38, u39, u40, .slice (some ⟨w.heap.size + 1, 0, none⟩) (k + 1) (k + 1), .int .i64 k, .pointer (some ⟨w.heap.size + 1, k, none⟩), .int .i64 L.length, .slice (some ⟨wr.heap.size, 0, none⟩) L.length L.length, .slice (some ⟨w.heap.size + 1, 0, none⟩) (k + 1) (k + 1), .int .i64 k, .slice (some ⟨w.heap.size + 1, 0, none⟩) k (k + 1), .slice (some ⟨nb, 0, none⟩) k ncap, .func (.func gf) #[] lb, .int .i64 (x.1 : Int), .int .i64 (x.2 : Int), undef, undef, undef, undef, undef, undef, undef, undef, undef, undef, undef, undef, undef, undef, undef, undef], defers := [] }) ?assign2 ?body2 ?done2
        case assign2 =>
          intro l x W K hK
          gi_wp2
          exact hK
        case body2 =>
          rintro l pre x W ⟨⟨⟨it, hit, hdl⟩, hnx⟩, hk⟩ hpre
          obtain ⟨m1, m2, m3, m4, m5, m6⟩ := hM.out
          have hx : x.1 < k := hL x (by obtain ⟨r, hr⟩ := hpre; rw [← hr]; simp)
          have hq : Pl.pos L x.1 + (Pl.sel pre x.1).length < L.length := Pl.sel_in L k hL hx (Pl.sel_lt hpre)
          have dI : W.cell? ⟨wr.heap.size + 1, 0, none⟩ = some (.slice (some ⟨wr.heap.size, 0, none⟩) L.length L.length) := (hk.cell (p := ⟨wr.heap.size + 1, 0, none⟩) m2 (by simp) (by simp; omega)).trans cI
          have dN : W.cell? ⟨w1.heap.size, 0, none⟩ = some (.slice (some ⟨nb, 0, none⟩) k ncap) := (hk.cell (p := ⟨w1.heap.size, 0, none⟩) m1 (by simp; omega) (by simp; omega)).trans cN
          have dx : W.cell? ⟨nb, x.1, none⟩ = some (.int .i64 ((Pl.pos L x.1 : Int) + ((Pl.sel pre x.1).length : Int))) := hnx.cell x.1 hx
          have fi := hit.frozen (Pl.pos L x.1 + (Pl.sel pre x.1).length)
          have ci := hit.cell _ hq
          have b1 : (x.1 : Int) < (k : Int) := by omega
          have b2 : (0 : Int) ≤ (Pl.pos L x.1 : Int) + ((Pl.sel pre x.1).length : Int) := by omega
          have b3 : (Pl.pos L x.1 : Int) + ((Pl.sel pre x.1).length : Int) < (L.length : Int) := by omega
          have b4 : ((Pl.pos L x.1 : Int) + ((Pl.sel pre x.1).length : Int)).toNat = Pl.pos L x.1 + (Pl.sel pre x.1).length := by omega
          have b5 : IntKind.i64.wrap ((Pl.pos L x.1 : Int) + ((Pl.sel pre x.1).length : Int) + 1) = (Pl.pos L x.1 : Int) + ((Pl.sel pre x.1).length : Int) + 1 := by rw [IntKind.wrap_i64]; omega
          obtain ⟨W2, hW2⟩ : ∃ W2, W.setCell ⟨wr.heap.size, Pl.pos L x.1 + (Pl.sel pre x.1).length, none⟩ (.int .i64 (x.2 : Int)) = W2 := ⟨_, rfl⟩
          have hit2 := hit.set (Pl.pos L x.1 + (Pl.sel pre x.1).length) (x.2 : Int)
          have hnx2 : Arr W2 nb k (fun j => (Pl.pos L j : Int) + ((Pl.sel pre j).length : Int)) := hnx.kept (by rw [← hW2]; exact Below.heap_setCell _ _ _ _ (by simp; omega))
          have hk2 := hk.setb (i := Pl.pos L x.1 + (Pl.sel pre x.1).length) (v := .int .i64 (x.2 : Int))
          have hkeep2 : KeepsFrom V.heap.size W W2 := by rw [← hW2]; exact (KeepsOthers.setCell _ _ _).from _
          have hbel2 : Below w.heap.size W W2 := by rw [← hW2]; exact (Below.refl _ W).setCell (p := ⟨wr.heap.size, Pl.pos L x.1 + (Pl.sel pre x.1).length, none⟩) (show w.heap.size ≤ wr.heap.size by omega) _
          rw [hW2] at hit2 hk2
          have eN : W2.cell? ⟨w1.heap.size, 0, none⟩ = some (.slice (some ⟨nb, 0, none⟩) k ncap) := (hk2.cell (p := ⟨w1.heap.size, 0, none⟩) m1 (by simp; omega) (by simp; omega)).trans cN
          have ex : W2.cell? ⟨nb, x.1, none⟩ = some (.int .i64 ((Pl.pos L x.1 : Int) + ((Pl.sel pre x.1).length : Int))) := hnx2.cell x.1 hx
          have fx := hnx2.frozen x.1
          have hfin : KeepsFrom V.heap.size W (W2.setCell ⟨nb, x.1, none⟩ (.int .i64 ((Pl.pos L x.1 : Int) + ((Pl.sel pre x.1).length : Int) + 1))).drew ∧ Below w.heap.size W (W2.setCell ⟨nb, x.1, none⟩ (.int .i64 ((Pl.pos L x.1 : Int) + ((Pl.sel pre x.1).length : Int) + 1))).drew ∧
              ((∃ it, Arr (W2.setCell ⟨nb, x.1, none⟩ (.int .i64 ((Pl.pos L x.1 : Int) + ((Pl.sel pre x.1).length : Int) + 1))).drew wr.heap.size L.length it ∧ Dealt L k (pre ++ [x]) it) ∧ Arr (W2.setCell ⟨nb, x.1, none⟩ (.int .i64 ((Pl.pos L x.1 : Int) + ((Pl.sel pre x.1).length : Int) + 1))).drew nb k (fun j => (Pl.pos L j : Int) + ((Pl.sel (pre ++ [x]) j).length : Int))) ∧ Kq2 wr.heap.size nb V.heap.size V (W2.setCell ⟨nb, x.1, none⟩ (.int .i64 ((Pl.pos L x.1 : Int) + ((Pl.sel pre x.1).length : Int) + 1))).drew := by
            refine ⟨?_, ?_, ⟨⟨_, (hit2.kept (Below.heap_setCell _ _ _ _ (show wr.heap.size ≠ nb by omega))).kept rfl, Dealt.snoc hL hpre hdl⟩, Arr.kept (X := W2.setCell ⟨nb, x.1, none⟩ (.int .i64 ((Pl.pos L x.1 : Int) + ((Pl.sel pre x.1).length : Int) + 1))) ?_ rfl⟩, hk2.setc.drew⟩
            · have q := hkeep2.trans ((KeepsOthers.setCell W2 ⟨nb, x.1, none⟩ (.int .i64 ((Pl.pos L x.1 : Int) + ((Pl.sel pre x.1).length : Int) + 1))).from V.heap.size)
              exact ⟨q.size, q.same⟩
            · exact (hbel2.trans ((Below.refl _ W2).setCell (p := ⟨nb, x.1, none⟩) (show w.heap.size ≤ nb by omega) _)).drew
            · refine (hnx2.set x.1 _).congr fun j _ => ?_
              by_cases e : j = x.1
              · subst e; simp [Pl.sel_snoc]; omega
              · have e2 : ¬ x.1 = j := fun h => e h.symm
                simp [Pl.sel_snoc, e, e2]
          have HF := hid hfin
          clear hnx hit hk hpre m5 hfin hit2 hnx2 hk2 hkeep2 hbel2 hdl
          gi_wp2
          gi_region
          all_goals
            gi_wp2
            exact HF.out
        case done2 =>
          rintro D2 X2 hD2 ⟨⟨⟨it, hit, hdl⟩, hnx⟩, hk⟩ hK2
          obtain ⟨m1, m2, m3, m4, m5, m6⟩ := hM.out
          have dI : X2.cell? ⟨wr.heap.size + 1, 0, none⟩ = some (.slice (some ⟨wr.heap.size, 0, none⟩) L.length L.length) := (hk.cell (p := ⟨wr.heap.size + 1, 0, none⟩) m2 (by simp) (by simp; omega)).trans cI
          have dF : X2.cell? ⟨w.heap.size + 1 + 1, 0, none⟩ = some (.slice (some ⟨w.heap.size + 1, 0, none⟩) (k + 1) (k + 1)) := (hk.cell (p := ⟨w.heap.size + 1 + 1, 0, none⟩) (show w.heap.size + 1 + 1 < V.heap.size by omega) (show w.heap.size + 1 + 1 ≠ wr.heap.size by omega) (show w.heap.size + 1 + 1 ≠ nb by omega)).trans cF
          have hbl : ∀ w0, (Instr.build 52 #[(0, .slice (some ⟨w.heap.size + 1, 0, none⟩) (k + 1) (k + 1)), (1, .slice (some ⟨wr.heap.size, 0, none⟩) L.length L.length)]).run Ybaz.prog w0 = .ok (.agg #[.slice (some ⟨w.heap.size + 1, 0, none⟩) (k + 1) (k + 1), .slice (some ⟨wr.heap.size, 0, none⟩) L.length L.length]) w0 := fun _ => by kernel_rfl
          have hR2 : X2.heap[w.heap.size]? = some (.cells #[.slice none 0 0, .slice none 0 0] 52 (0, 0)) := (hk.block _ (by omega) (by omega) (by omega)).trans vR
          have HM := hid m5
          have HK2 := hid hK2
          have c0 : X2.cell? ⟨w.heap.size, 0, none⟩ = some (.slice none 0 0) := by simp [World.cell?, hR2]
          have c1 : X2.cell? ⟨w.heap.size, 1, none⟩ = some (.slice none 0 0) := by simp [World.cell?, hR2]
          have f0 : X2.frozen? ⟨w.heap.size, 0, none⟩ = false := by simp [World.frozen?, hR2]
          have f1 : X2.frozen? ⟨w.heap.size, 1, none⟩ = false := by simp [World.frozen?, hR2]
          have ob0 : Ob (fun _ => 0) X2 0 w.heap.size 52 #[.slice none 0 0, .slice none 0 0] := ⟨hR2, rfl⟩
          have ob2 := (ob0.set 0 (.slice (some ⟨w.heap.size + 1, 0, none⟩) (k + 1) (k + 1))).set 1 (.slice (some ⟨wr.heap.size, 0, none⟩) L.length L.length)
          have hkeep : ∀ i, i ≠ w.heap.size → ((X2.setCell ⟨w.heap.size, 0, none⟩ (.slice (some ⟨w.heap.size + 1, 0, none⟩) (k + 1) (k + 1))).setCell ⟨w.heap.size, 1, none⟩ (.slice (some ⟨wr.heap.size, 0, none⟩) L.length L.length)).heap[i]? = X2.heap[i]? := fun i hi => by
            rw [Below.heap_setCell _ _ _ _ hi, Below.heap_setCell _ _ _ _ hi]
          have hYB : Below w.heap.size w ((X2.setCell ⟨w.heap.size, 0, none⟩ (.slice (some ⟨w.heap.size + 1, 0, none⟩) (k + 1) (k + 1))).setCell ⟨w.heap.size, 1, none⟩ (.slice (some ⟨wr.heap.size, 0, none⟩) L.length L.length)) := by
            refine vB.trans ⟨hk.os, hk.tape, hk.output, ?_, fun i hi => ?_⟩
            · have := hk.size; simpa [World.setCell] using this
            · rw [hkeep i (by omega)]; exact hk.block i (by omega) (by omega) (by omega)
          have HO := hid ob2
          have HKP := hid hkeep
          clear m5 hK2 ob0 ob2 hkeep
          gi_wp2
          obtain ⟨Y, hY⟩ : ∃ Y, ((X2.setCell ⟨w.heap.size, 0, none⟩ (.slice (some ⟨w.heap.size + 1, 0, none⟩) (k + 1) (k + 1))).setCell ⟨w.heap.size, 1, none⟩ (.slice (some ⟨wr.heap.size, 0, none⟩) L.length L.length)) = Y := ⟨_, rfl⟩
          have hkp := HKP.out
          have ob := HO.out
          rw [hY] at hYB hkp ob ⊢
          have hD12 : D1 ≠ D2 := by omega
          have hV2 := vB.size
          have y2 : Y.heap[D2]? = some (.deferred (some [])) := (hkp D2 (by omega)).trans HK2.out
          have y1 : Y.heap[D1]? = some (.deferred (some [])) := (hkp D1 (by omega)).trans ((hk.block D1 (by omega) (fun e => by
            subst e
            obtain ⟨c, hc, _⟩ := vi
            rw [hc] at vK; cases vK) (fun e => by
            subst e
            obtain ⟨c, hc, _⟩ := vn
            rw [hc] at vK; cases vK)).trans vK)
          refine ⟨by simp, .inl ⟨_, _, rfl, run_takeDeferred y2, ?_⟩⟩
          refine ⟨by simp, .inl ⟨_, _, rfl, run_takeDeferred ((World.putObj_heap_other hD12).trans y1), ?_⟩⟩
          have hz : ∀ i, i ≠ D1 → i ≠ D2 → ((Y.putObj D2 (.deferred none)).putObj D1 (.deferred none)).heap[i]? = Y.heap[i]? := fun i h1 h2 => by
            rw [World.putObj_heap_other h1, World.putObj_heap_other h2]
          have hzz : Below w.heap.size Y ((Y.putObj D2 (.deferred none)).putObj D1 (.deferred none)) :=
            (belowK_b (w := w) (Nat.le_refl _) _ D2 _ _ (by omega) y2 rfl rfl).trans (belowK_b (w := w) (Nat.le_refl _) _ D1 _ _ (by omega) ((World.putObj_heap_other hD12).trans y1) rfl rfl)
          have nv : ∀ {b N : Nat} {f : Nat → Int}, Arr Y b N f → b ≠ D1 ∧ b ≠ D2 := fun ⟨c, hc, _⟩ => ⟨fun e => (by subst e; rw [hc] at y1; cases y1), fun e => (by subst e; rw [hc] at y2; cases y2)⟩
          have yf : Arr Y (w.heap.size + 1) (k + 1) (fun j => (Pl.pos L j : Int)) := vf.kept ((hkp _ (by omega)).trans (hk.block _ (by omega) (by omega) (by have := HM.out; omega)))
          have yi : Arr Y wr.heap.size L.length it := hit.kept (hkp _ (by omega))
          refine ⟨_, results_cell_row rfl _ _ w.heap.size 52 #[.slice (some ⟨w.heap.size + 1, 0, none⟩) (k + 1) (k + 1), .slice (some ⟨wr.heap.size, 0, none⟩) L.length L.length] (0, 0) _ rfl ((hz _ (by omega) (by omega)).trans ob.blk) Ybaz.underlying52 rfl (by kernel_rfl), ?_⟩
          exact ⟨_, _, rfl, by omega, by omega, by omega, yf.kept (hz _ (nv yf).1 (nv yf).2), ⟨it, yi.kept (hz _ (nv yi).1 (nv yi).2), hdl⟩, hYB.trans hzz⟩
end Go.Proofs.YbulkbmdoGreat
