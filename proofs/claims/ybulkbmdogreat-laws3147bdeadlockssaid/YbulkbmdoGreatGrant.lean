import Derived.Test.YbulkbmdoGreatRows
import Derived.Test.YbulkbmdoGreatBase
import Derived.WalkLawsBesides
import Derived.Outline
import Derived.Deep.QuietTactic
import Derived.BigQuiet
import Derived.Deep.RegionHeld3
import Derived.Deep.RegionLaw
import Derived.Deep.AppendLies
import Derived.Deep.DrawnRows
namespace Go.Proofs.YbulkbmdoGreat
open Go.RowKit
set_option linter.unusedVariables false

theorem info3 : (Ybaz.prog.info? 3).map (fun i => (i.zero, i.size, i.bytes)) = some (some (.int .i64 0), 1, 8) := by kernel_rfl

def ints (l : List Nat) : List Value := l.map fun j : Nat => Value.int .i64 (j : Int)
def zints (l : List Int) : List Value := l.map fun j => Value.int .i64 j
theorem ints_snoc (l : List Nat) (p : Nat) : ints (l ++ [p]) = ints l ++ [.int .i64 (p : Int)] := by simp [ints]
theorem zints_snoc (l : List Int) (p : Int) : zints (l ++ [p]) = zints l ++ [.int .i64 p] := by simp [zints]
theorem ints_length (l : List Nat) : (ints l).length = l.length := by simp [ints]
theorem zints_length (l : List Int) : (zints l).length = l.length := by simp [zints]

/-- The working state of a reduction. -/
structure RS where
  N : Nat
  M : Nat
  G : Nat
  nb : Nat
  tb : Nat
  gb : Nat
  nf : Value
  ni : Value
  gr : Nat → Bool
  pend : List Nat
  und : List Int
  marks : Nat

def rcells (s : RS) (pv uv : Value) : Array Value :=
  #[.pointer (some ⟨s.G, 0, none⟩), .slice (some ⟨s.nb, 0, none⟩) s.M s.M, .slice (some ⟨s.tb, 0, none⟩) s.M s.M, s.nf, s.ni, .slice (some ⟨s.gb, 0, none⟩) s.N s.N, pv, uv, .int .i64 (s.marks : Int)]

structure RAt (o : Nat → Nat) (W : World) (R : Nat) (s : RS) (pv uv : Value) : Prop where
  ob : Ob o W 1 R 54 (rcells s pv uv)
  gr : Ar o W 2 s.gb 4 s.N (fun j => .bool (s.gr j))
  pend : Sl o W 3 3 pv (ints s.pend)
  und : Sl o W 4 3 uv (zints s.und)

theorem RAt.step {o o' : Nat → Nat} {W W' : World} {R : Nat} {s : RS} {pv uv : Value} {T : List Nat} (h : RAt o W R s pv uv) (hs : Step T o W o' W') (h1 : 1 ∉ T) (h2 : 2 ∉ T) (h3 : 3 ∉ T) (h4 : 4 ∉ T) : RAt o' W' R s pv uv :=
  ⟨h.ob.step hs h1, h.gr.step hs h2, h.pend.step hs h3, h.und.step hs h4⟩

theorem root_any (p : Int) (h1 : -9223372036854775807 ≤ p) (h2 : p ≤ 9223372036854775806) (w : World) : Calls Ybaz.prog 5 #[.int .i64 p] w fun e w' => e = .returned (.int .i64 (-1 - p)) ∧ w' = w := by
  go_enter Ybaz.func5, Ybaz.ntmps5
  go_wp2
  go_ret
  exact ⟨rfl, rfl⟩

set_option maxHeartbeats 400000 in
theorem grant_no (o : Nat → Nat) (W : World) (R : Nat) (s : RS) (pv uv : Value) (h : RAt o W R s pv uv) (p : Nat) (hp : p < s.N) (hg : s.gr p = true) :
    Calls Ybaz.prog 21 #[.pointer (some ⟨R, 0, none⟩), .int .i64 (p : Int)] W fun e w' => (∃ v, e = .returned v) ∧ w' = W := by
  have c5 : W.cell? ⟨R, 5, none⟩ = some (.slice (some ⟨s.gb, 0, none⟩) s.N s.N) := h.ob.cell 5
  have cp := h.gr.cell p hp
  rw [hg] at cp
  go_enter Ybaz.func21, Ybaz.ntmps21
  go_wp2
  refine bodyPost_ret (results_none rfl _ _ _) rfl ?_
  exact ⟨⟨_, rfl⟩, rfl⟩

set_option maxHeartbeats 1000000 in
theorem grant_yes0 (o : Nat → Nat) (W : World) (R : Nat) (s : RS) (pv uv : Value) (h : RAt o W R s pv uv) (p : Nat) (hp : p < s.N) (hN : s.N ≤ 300) (hg : s.gr p = false) (hl : s.pend.length ≤ 1000) (hm : s.marks = 0) :
    Calls Ybaz.prog 21 #[.pointer (some ⟨R, 0, none⟩), .int .i64 (p : Int)] W fun e w' => (∃ v, e = .returned v) ∧
      ∃ o' pv', RAt o' w' R { s with gr := fun j => if j = p then true else s.gr j, pend := s.pend ++ [p] } pv' uv ∧ Step [1, 2, 3] o W o' w' := by
  obtain ⟨i0, hi, hz0, hz1, hz2⟩ := info_parts info3
  have c5 : W.cell? ⟨R, 5, none⟩ = some (.slice (some ⟨s.gb, 0, none⟩) s.N s.N) := h.ob.cell 5
  have c6 : W.cell? ⟨R, 6, none⟩ = some pv := h.ob.cell 6
  have c8 : W.cell? ⟨R, 8, none⟩ = some (.int .i64 0) := by have := h.ob.cell 8; rw [this]; simp [rcells, hm]
  have cp := h.gr.cell p hp
  have fp := h.gr.frozen p
  rw [hg] at cp
  -- behind the store into granted
  have s1 := h.gr.sset p (.bool true) (T := [1, 2, 3]) (by decide)
  have ob1 := h.ob.step (h.gr.sset p (.bool true) (T := [2]) (by decide)) (by decide)
  have pe1 := h.pend.step (h.gr.sset p (.bool true) (T := [2]) (by decide)) (by decide)
  have un1 := h.und.step (h.gr.sset p (.bool true) (T := [2]) (by decide)) (by decide)
  have gr1 := h.gr.set p (.bool true)
  have d6 : (W.setCell ⟨s.gb, p, none⟩ (.bool true)).cell? ⟨R, 6, none⟩ = some pv := ob1.cell 6
  go_enter Ybaz.func21, Ybaz.ntmps21
  go_wp2_with (at_builtin; refine wpList_append_own_at _ rfl _ _ 24 rfl 0 3 i0 (.int .i64 0) 1 8 Ybaz.underlying24 hi hz0 hz1 hz2 rfl (by decide) _ _ _ rfl (pe1.row.alloc _) ⟨W.heap.size, 0, none⟩ 1 1 [.int .i64 (p : Int)] rfl rfl (cell_one_at _ _ _ _ (by simp)) (by simp [Value.oneCell']) (by rw [ints_length]; unfold maxLen; omega) (by rw [ints_length]; omega) (Nat.zero_le _) ?_; intro v' w1 hown' hgrow _ hat; obtain ⟨g', cap', rfl⟩ := ownsRow_succ hown'; obtain ⟨o1, sl1, st1⟩ := pe1.app hown' (by simp) hgrow hat; have ob2 := ob1.step st1 (by decide); have e6 : w1.cell? ⟨R, 6, none⟩ = some pv := ob2.cell 6; have e8 : w1.cell? ⟨R, 8, none⟩ = some (.int .i64 0) := by { rw [ob2.cell 8]; simp [rcells, hm] }; have f6 := ob2.frozen 6)
  go_end0
  have sf := ob2.sset 6 (.slice (some ⟨g', 0, none⟩) ((ints s.pend).length + 1) cap') (T := [1]) (by decide)
  refine ⟨⟨_, rfl⟩, o1, _, ⟨ob2.set 6 _, ?_, ?_, ((un1.step st1 (by decide)).step sf (by decide))⟩, (s1.trans (st1.mono (by decide))).trans (sf.mono (by decide))⟩
  · exact ((gr1.step st1 (by decide)).step sf (by decide)).congr (fun j _ => by by_cases e : j = p <;> simp [e])
  · rw [ints_snoc]; exact sl1.step sf (by decide)

/-- append's law at a step of a drawn region: the tags anew. -/
theorem Sl.lies {o : Nat → Nat} {W w1 : World} {t : Nat} {e : TypeId} {v : Value} {xs ys : List Value} {n g cap H : Nat} {tmp : Obj} (h : Sl o W t e v xs) (hown : w1.ownsRow 0 e 1 (.slice (some ⟨g, 0, none⟩) n cap) n ys) (hn : n = ys.length) (hg : ((W.alloc tmp).drew).grownBy w1 v.ownBlock) (hat : v.ownBlock = some g ∨ g = H) (hH : H = W.heap.size + 1) :
    ∃ o', Sl o' w1 t e (.slice (some ⟨g, 0, none⟩) n cap) ys ∧ Step [t] o W o' w1 := by
  refine h.app (tmp := tmp) hown hn ⟨hg.os, hg.tape, hg.output, hg.size, hg.block⟩ ?_
  rcases hat with h1 | h1
  · exact .inl (by rw [h1]; rfl)
  · exact .inr (by rw [h1, hH]; simp [Value.ownBlock])

attribute [local go_sem ↓] Go.wp_at_zero Go.wp_at_succ
set_option maxRecDepth 100000 in
set_option maxHeartbeats 2000000 in
theorem grant_yes1 (o : Nat → Nat) (W : World) (R : Nat) (s : RS) (pv uv : Value) (h : RAt o W R s pv uv) (p : Nat) (hp : p < s.N) (hN : s.N ≤ 300) (hg : s.gr p = false) (hl : s.pend.length ≤ 1000) (hlu : s.und.length ≤ 1000) (hm : 0 < s.marks) (hm2 : s.marks ≤ 1000) :
    Calls Ybaz.prog 21 #[.pointer (some ⟨R, 0, none⟩), .int .i64 (p : Int)] W fun e w' => (∃ v, e = .returned v) ∧
      ∃ o' pv' uv', RAt o' w' R { s with gr := fun j => if j = p then true else s.gr j, pend := s.pend ++ [p], und := s.und ++ [-1 - (p : Int)] } pv' uv' ∧ Step [1, 2, 3, 4] o W o' w' := by
  obtain ⟨i0, hi, hz0, hz1, hz2⟩ := info_parts info3
  have c5 : W.cell? ⟨R, 5, none⟩ = some (.slice (some ⟨s.gb, 0, none⟩) s.N s.N) := h.ob.cell 5
  have c6 : W.cell? ⟨R, 6, none⟩ = some pv := h.ob.cell 6
  have cp := h.gr.cell p hp
  have fp := h.gr.frozen p
  rw [hg] at cp
  have s1 := h.gr.sset p (.bool true) (T := [1, 2, 3, 4]) (by decide)
  have ob1 := h.ob.step (h.gr.sset p (.bool true) (T := [2]) (by decide)) (by decide)
  have pe1 := h.pend.step (h.gr.sset p (.bool true) (T := [2]) (by decide)) (by decide)
  have un1 := h.und.step (h.gr.sset p (.bool true) (T := [2]) (by decide)) (by decide)
  have gr1 := h.gr.set p (.bool true)
  have d6 : (W.setCell ⟨s.gb, p, none⟩ (.bool true)).cell? ⟨R, 6, none⟩ = some pv := ob1.cell 6
  go_enter Ybaz.func21, Ybaz.ntmps21
  go_wp2_with (at_builtin; refine wpList_append_own_at _ rfl _ _ 24 rfl 0 3 i0 (.int .i64 0) 1 8 Ybaz.underlying24 hi hz0 hz1 hz2 rfl (by decide) _ _ _ rfl (pe1.row.alloc _) ⟨W.heap.size, 0, none⟩ 1 1 [.int .i64 (p : Int)] rfl rfl (cell_one_at _ _ _ _ (by simp)) (by simp [Value.oneCell']) (by rw [ints_length]; unfold maxLen; omega) (by rw [ints_length]; omega) (Nat.zero_le _) ?_; intro v' w1 hown' hgrow _ hat; obtain ⟨g', cap', rfl⟩ := ownsRow_succ hown'; obtain ⟨o1, sl1, st1⟩ := pe1.app hown' (by simp) hgrow hat; have ob2 := ob1.step st1 (by decide); have e6 : w1.cell? ⟨R, 6, none⟩ = some pv := ob2.cell 6; have e8 : w1.cell? ⟨R, 8, none⟩ = some (.int .i64 (s.marks : Int)) := ob2.cell 8; have f6 := ob2.frozen 6)
  have sf := ob2.sset 6 (.slice (some ⟨g', 0, none⟩) ((ints s.pend).length + 1) cap') (T := [1]) (by decide)
  have ob3 := ob2.set 6 (.slice (some ⟨g', 0, none⟩) ((ints s.pend).length + 1) cap')
  have gr3 := (gr1.step st1 (by decide)).step sf (by decide)
  have sl3 := sl1.step sf (by decide)
  have un3 := (un1.step st1 (by decide)).step sf (by decide)
  have S3 : Step [1, 2, 3, 4] o W o1 _ := (s1.trans (st1.mono (by decide))).trans (sf.mono (by decide))
  obtain ⟨W2, hW2⟩ : ∃ W2, w1.setCell ⟨R, 6, none⟩ (.slice (some ⟨g', 0, none⟩) ((ints s.pend).length + 1) cap') = W2 := ⟨_, rfl⟩
  rw [hW2] at ob3 gr3 sl3 un3 S3 ⊢
  clear hW2 sf ob2 e6 e8 f6 hown' hgrow hat sl1 st1 gr1 un1 pe1 ob1 s1 d6 c5 c6 cp fp
  have g7 : W2.cell? ⟨R, 7, none⟩ = some uv := ob3.cell 7
  have k7 := ob3.frozen 7
  have hrl := ob3.lt
  go_region_law
    (first
      | (go_simp; go_at_call 5; refine (root_any _ (by omega) (by omega) _).mono ?_; rintro e w' ⟨rfl, rfl⟩)
      | ((refine step_append_lies _ (by rfl) _ _ _ (by rfl) 0 3 i0 (.int .i64 0) 1 8 Ybaz.underlying24 hi hz0 hz1 hz2 rfl (by decide) uv _ _ (by rfl) ((un3.row.alloc _).drew) ⟨W2.heap.size, 0, none⟩ 1 1 [.int .i64 (-1 - (p : Int))] (by rfl) (by rfl) (cell_one_at _ _ _ _ (by simp)) (by simp [Value.oneCell']) (by decide) (by rw [zints_length]; unfold maxLen; omega) (by rw [zints_length]; omega) (Nat.zero_le _) (W2.heap.size + 1) (by simp) ?_; intro gg cap w4 hown4 hgrow4 hat4 hlt4; obtain ⟨o4, sl4, st4⟩ := un3.lies hown4 (by simp) hgrow4 hat4 rfl; have ob4 := ob3.step st4 (by decide); have g74 : w4.cell? ⟨R, 7, none⟩ = some uv := ob4.cell 7; have k74 := ob4.frozen 7)))
  all_goals
    go_end0
    have sf4 := ob4.sset 7 (.slice (some ⟨gg, 0, none⟩) ((zints s.und).length + 1) cap) (T := [1]) (by decide)
    refine ⟨⟨_, rfl⟩, o4, _, _, ⟨ob4.set 7 _, ?_, ?_, ?_⟩, (S3.trans (st4.mono (by decide))).trans (sf4.mono (by decide))⟩
    · exact ((gr3.step st4 (by decide)).step sf4 (by decide)).congr (fun j _ => by by_cases e : j = p <;> simp [e])
    · rw [ints_snoc]; exact (sl3.step st4 (by decide)).step sf4 (by decide)
    · rw [zints_snoc]; exact sl4.step sf4 (by decide)
end Go.Proofs.YbulkbmdoGreat
