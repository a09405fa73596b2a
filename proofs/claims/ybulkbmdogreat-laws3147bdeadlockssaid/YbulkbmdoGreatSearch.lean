import Derived.Test.YbulkbmdoGreatWalk
import Derived.Test.YbulkbmdoGreatComp
import Derived.Laws.EntriesVeiled
namespace Go.Proofs.YbulkbmdoGreat
open Go.RowKit Go.Shelf
set_option linter.unusedVariables false

def TS : List Nat := [1, 2, 3, 4, 20, 33, 34, 36, 40, 41, 42, 90, 91, 92, 93, 100, 101, 102]

/-- What search(1, false) leaves. -/
def SearchR (o : Nat → Nat) (W : World) (R S : Nat) (s : RS) (g : GS) (tgt : Nat → Option Nat) (v : VSt) (cs : List Nat) (idx lf nx : Nat → Nat) (sl : Nat → Int) (sb cb ccap : Nat) (w' : World) : Prop :=
  ∃ (o' : Nat → Nat) (nf ni pv' uv' lfv liv tv : Value), VG o' w' R S { s with nf := nf, ni := ni } pv' uv' g tgt { v with lf := lfv, li := liv, topW := tv } cs idx lf nx sl sb ∧ Sl o' w' 98 3 (.slice (some ⟨cb, 0, none⟩) 1 ccap) [.int .i64 0] ∧ Step TS o W o' w'

theorem alloc_set_same (W : World) (v : Value) (t : TypeId) : (W.alloc (.cells #[v] t)).setCell ⟨W.heap.size, 0, none⟩ v = W.alloc (.cells #[v] t) := by
  unfold World.setCell World.alloc
  simp only
  congr 1
  apply Array.ext
  · simp
  · intro i h1 h2
    rw [Array.getElem_modify]
    split
    · rename_i e
      subst e
      simp
    · rfl
/-- The boxes that search makes. -/
theorem search_new (o : Nat → Nat) (w : World) (Bk Bs Ba Bn : Nat) : ∃ (X6 X7 X8 X9 X10 X11 X12 X13 : World) (hb Bh Bm sab Bset Bb Bw Bf : Nat) (o' : Nat → Nat) (F : Value), F = .func (.func 104) #[] #[.pointer (some ⟨Bk, 0, none⟩), .pointer (some ⟨Bset, 0, none⟩), .pointer (some ⟨Bm, 0, none⟩), .pointer (some ⟨Bw, 0, none⟩), .pointer (some ⟨Bs, 0, none⟩), .pointer (some ⟨Bb, 0, none⟩), .pointer (some ⟨Ba, 0, none⟩), .pointer (some ⟨Bn, 0, none⟩), .pointer (some ⟨Bh, 0, none⟩), .pointer (some ⟨Bf, 0, none⟩)] ∧
    w.alloc (.cells (madeCells #[.int .i64 0] 0) 3) = X6 ∧ w.heap.size = hb ∧ X6.alloc (.cells #[.slice (some ⟨hb, 0, none⟩) 0 0] 24) = X7 ∧ X6.heap.size = Bh ∧ X7.alloc (.cells #[.int .i64 0] 3) = X8 ∧ X7.heap.size = Bm ∧ X8.alloc (.cells (madeCells #[.int .i64 0] 1) 3) = X9 ∧ X8.heap.size = sab ∧ X9.alloc (.cells #[.slice (some ⟨sab, 0, none⟩) 0 1] 24) = X10 ∧ X9.heap.size = Bset ∧ X10.alloc (.cells #[.slice none 0 0] 24) = X11 ∧ X10.heap.size = Bb ∧ X11.alloc (.cells #[.int .i64 (-1)] 3) = X12 ∧ X11.heap.size = Bw ∧ X12.alloc (.cells #[F] 79) = X13 ∧ X12.heap.size = Bf ∧
    Ob o' X13 99 Bh 24 #[.slice (some ⟨hb, 0, none⟩) 0 0] ∧ Ob o' X13 99 Bm 3 #[.int .i64 0] ∧ Ob o' X13 90 Bset 24 #[.slice (some ⟨sab, 0, none⟩) 0 1] ∧ Ob o' X13 91 Bb 24 #[.slice none 0 0] ∧ Ob o' X13 92 Bw 3 #[.int .i64 (-1)] ∧ Ob o' X13 99 Bf 79 #[F] ∧ Sl o' X13 93 3 (.slice (some ⟨sab, 0, none⟩) 0 1) [] ∧ (X8.setCell ⟨Bm, 0, none⟩ (.int .i64 0) = X8 ∧ X8.cell? ⟨Bm, 0, none⟩ = some (.int .i64 0) ∧ X8.frozen? ⟨Bm, 0, none⟩ = false) ∧ (∃ o7, Step [] o w o7 X7) ∧ (∃ o8, Step [] o w o8 X8) ∧ Step [] o w o' X13 := by
  obtain ⟨X6, o6, hb, e6, z6, k6, t6, s6⟩ := alloc_step' o w 99 (.cells (madeCells #[.int .i64 0] 0) 3)
  obtain ⟨X7, o7, Bh, e7, z7, k7, t7, s7⟩ := alloc_step' o6 X6 99 (.cells #[.slice (some ⟨hb, 0, none⟩) 0 0] 24)
  obtain ⟨X8, o8, Bm, e8, z8, k8, t8, s8⟩ := alloc_step' o7 X7 99 (.cells #[.int .i64 0] 3)
  obtain ⟨X9, o9, sab, e9, z9, k9, t9, s9⟩ := alloc_step' o8 X8 93 (.cells (madeCells #[.int .i64 0] 1) 3)
  obtain ⟨X10, o10, Bset, e10, z10, k10, t10, s10⟩ := alloc_step' o9 X9 90 (.cells #[.slice (some ⟨sab, 0, none⟩) 0 1] 24)
  obtain ⟨X11, o11, Bb, e11, z11, k11, t11, s11⟩ := alloc_step' o10 X10 91 (.cells #[.slice none 0 0] 24)
  obtain ⟨X12, o12, Bw, e12, z12, k12, t12, s12⟩ := alloc_step' o11 X11 92 (.cells #[.int .i64 (-1)] 3)
  obtain ⟨Bf, zf⟩ : ∃ b, X12.heap.size = b := ⟨_, rfl⟩
  obtain ⟨F, hF⟩ : ∃ F : Value, F = .func (.func 104) #[] #[.pointer (some ⟨Bk, 0, none⟩), .pointer (some ⟨Bset, 0, none⟩), .pointer (some ⟨Bm, 0, none⟩), .pointer (some ⟨Bw, 0, none⟩), .pointer (some ⟨Bs, 0, none⟩), .pointer (some ⟨Bb, 0, none⟩), .pointer (some ⟨Ba, 0, none⟩), .pointer (some ⟨Bn, 0, none⟩), .pointer (some ⟨Bh, 0, none⟩), .pointer (some ⟨Bf, 0, none⟩)] := ⟨_, rfl⟩
  obtain ⟨X13, o13, B13, e13, z13, k13, t13, s13⟩ := alloc_step' o12 X12 99 (.cells #[F] 79)
  obtain rfl : Bf = B13 := zf.symm.trans z13
  have q12 := s12.trans s13
  have q11 := s11.trans q12
  have q10 := s10.trans q11
  have q9 := s9.trans q10
  have q8 := s8.trans q9
  have q7 := s7.trans q8
  refine ⟨X6, X7, X8, X9, X10, X11, X12, X13, hb, Bh, Bm, sab, Bset, Bb, Bw, Bf, o13, F, hF, e6, z6, e7, z7, e8, z8, e9, z9, e10, z10, e11, z11, e12, z12, e13, z13, Ob.step ⟨k7, t7⟩ q8 (by simp), Ob.step ⟨k8, t8⟩ q9 (by simp), Ob.step ⟨k10, t10⟩ q11 (by simp), Ob.step ⟨k11, t11⟩ q12 (by simp), Ob.step ⟨k12, t12⟩ s13 (by simp), ⟨k13, t13⟩, ?_, ⟨by rw [← e8, ← z8]; exact alloc_set_same _ _ _, Ob.cell (o := o8) ⟨k8, t8⟩ 0, Ob.frozen (o := o8) ⟨k8, t8⟩ 0⟩, ⟨o7, s6.trans s7⟩, ⟨o8, s6.trans (s7.trans s8)⟩, s6.trans q7⟩
  exact (Rw.sl (xs := []) ⟨⟨_, k9, size_madeCells _ _, fun j hj => by simp at hj⟩, by simp, t9⟩ (by unfold maxLen; omega)).step q10 (by simp)

set_option maxRecDepth 100000 in
set_option maxHeartbeats 4000000 in
/-- s.search(1, false): [0]. -/
theorem search_any (o : Nat → Nat) (W : World) (R S : Nat) (s : RS) (pv uv : Value) (g : GS) (tgt : Nat → Option Nat) (v : VSt) (cs : List Nat) (idx lf nx : Nat → Nat) (sl : Nat → Int) (sb : Nat) (hX : Cx g tgt cs idx lf nx sl) (h : VG o W R S s pv uv g tgt v cs idx lf nx sl sb)
    (hm : s.marks ≤ 100) (hu : s.und.length ≤ 100) (hp0 : s.pend = []) (hgr : ∀ q ∈ cs, s.gr q = false) (hco : Sl o W 40 3 v.coreOf (zints (List.replicate cs.length (-1)))) (a2 : Option Addr) (cap2 : Nat) (hcl : v.coreLast = .slice a2 0 cap2) :
    Calls Ybaz.prog 64 #[.pointer (some ⟨S, 0, none⟩), .int .i64 1, .bool false] W fun e w' => ∃ cb ccap, e = .returned (.slice (some ⟨cb, 0, none⟩) 1 ccap) ∧ SearchR o W R S s g tgt v cs idx lf nx sl sb cb ccap w' := by
  have hne := hX.cyc.ne
  obtain ⟨X1, o1, Bs, e1, z1, k1, t1, s1⟩ := alloc_step' o W 99 (.cells #[.pointer (some ⟨S, 0, none⟩)] 95)
  obtain ⟨X2, o2, Bk, e2, z2, k2, t2, s2⟩ := alloc_step' o1 X1 99 (.cells #[.int .i64 1] 3)
  obtain ⟨X3, o3, Ba, e3, z3, k3, t3, s3⟩ := alloc_step' o2 X2 99 (.cells #[.bool false] 4)
  obtain ⟨X4, o4, Bn, e4, z4, k4, t4, s4⟩ := alloc_step' o3 X3 99 (.cells #[.int .i64 (cs.length : Int)] 3)
  obtain ⟨cb, cap, hcv, hc1, hc2, htc, hltc⟩ := h.sa.cands.some_of (by rw [ints_length]; exact hne)
  rw [ints_length] at hcv hc1
  have q3 := s3.trans s4
  have q2 := s2.trans q3
  have q1 := s1.trans q2
  have bS : Ob o4 X4 99 Bs 95 #[.pointer (some ⟨S, 0, none⟩)] := Ob.step ⟨k1, t1⟩ q2 (by simp)
  have bK : Ob o4 X4 99 Bk 3 #[.int .i64 1] := Ob.step ⟨k2, t2⟩ q3 (by simp)
  have bA : Ob o4 X4 99 Ba 4 #[.bool false] := Ob.step ⟨k3, t3⟩ s4 (by simp)
  have bN : Ob o4 X4 99 Bn 3 #[.int .i64 (cs.length : Int)] := ⟨k4, t4⟩
  have c3 : X3.cell? ⟨Bs, 0, none⟩ = some (.pointer (some ⟨S, 0, none⟩)) := (Ob.step (o' := o3) ⟨k1, t1⟩ (s2.trans s3) (by simp)).cell 0
  have c7 : X3.cell? ⟨S, 7, none⟩ = some (.slice (some ⟨cb, 0, none⟩) cs.length cap) := by rw [← hcv]; exact (h.sa.ob.step (s1.trans (s2.trans s3)) (by simp)).cell 7
  have d3 : X4.cell? ⟨Bs, 0, none⟩ = some (.pointer (some ⟨S, 0, none⟩)) := bS.cell 0
  have d4 : X4.cell? ⟨Bk, 0, none⟩ = some (.int .i64 1) := bK.cell 0
  have d5 : X4.cell? ⟨Ba, 0, none⟩ = some (.bool false) := bA.cell 0
  have V4 := h.step hne q1 (by simp) (by simp)
  have HT := hid (topWeights_any o4 X4 R S s pv uv g tgt v cs idx lf nx sl sb hX V4)
  have H4 := hid (And.intro bS (And.intro bK (And.intro bA (And.intro bN (And.intro q1 (hco.step q1 (by simp)))))))
  have m0 : ∀ w : World, (Instr.makeSlice 24 (.int .i64 0) (.int .i64 0)).run Ybaz.prog w = .ok (.slice (some ⟨w.heap.size, 0, none⟩) 0 0) (w.alloc (.cells (madeCells #[.int .i64 0] 0) 3)) := run_make_row' (P := Ybaz.prog) 24 3 (.int .i64 0) 8 Ybaz.underlying24 info3 rfl .i64 .i64 0 (by omega) (by omega)
  have m1 : ∀ w : World, (Instr.makeSlice 24 (.int .i64 0) (.int .i64 1)).run Ybaz.prog w = .ok (.slice (some ⟨w.heap.size, 0, none⟩) 0 1) (w.alloc (.cells (madeCells #[.int .i64 0] 1) 3)) := run_make_cap 24 3 (.int .i64 0) 1 8 Ybaz.underlying24 info3 1 (by omega) (by omega)
  have Hcl := hid hcl
  have Hgr := hid hgr
  have Hp0 := hid hp0
  clear h hco hcl hgr hp0 hcv hc1 hc2 htc hltc V4 bS bK bA bN q1 q2 q3 s1 s2 s3 s4 k1 k2 k3 k4 t1 t2 t3 t4
  go_enter Ybaz.func64, Ybaz.ntmps64
  go_wp2_with (go_at_call 103; refine HT.out.mono ?_; rintro e w5 ⟨⟨r, rfl⟩, o5, twb, tcap, V5, htw, ttw, s5⟩; have e3' : w5.cell? ⟨Bs, 0, none⟩ = some (.pointer (some ⟨S, 0, none⟩)) := (H4.out.1.step s5 (by decide)).cell 0; have e20 : w5.cell? ⟨S, 20, none⟩ = some (.slice a2 0 cap2) := by { rw [← Hcl.out]; exact V5.sa.ob.cell 20 }; obtain ⟨X6, X7, X8, X9, X10, X11, X12, X13, hb, Bh, Bm, sab, Bset, Bb, Bw, Bf, o13, F, hF, e6, z6, e7, z7, e8, z8, e9, z9, e10, z10, e11, z11, e12, z12, e13, z13, bh, bm, bset, bb, bw, bf, slS, ⟨g8, g8c, g8f⟩, st7, st8, st13⟩ := search_new o5 w5 Bk Bs Ba Bn; subst hF; have g3 : X7.cell? ⟨Bs, 0, none⟩ = some (.pointer (some ⟨S, 0, none⟩)) := by { obtain ⟨o7, s7⟩ := st7; exact ((H4.out.1.step s5 (by decide)).step s7 (by simp)).cell 0 }; have g20 : X7.cell? ⟨S, 20, none⟩ = some (.slice a2 0 cap2) := by { obtain ⟨o7, s7⟩ := st7; rw [← Hcl.out]; exact (V5.sa.ob.step s7 (by simp)).cell 20 }; have g4 : X8.cell? ⟨Bk, 0, none⟩ = some (.int .i64 1) := by { obtain ⟨o8, s8⟩ := st8; exact ((H4.out.2.1.step s5 (by decide)).step s8 (by simp)).cell 0 }; have g13 := bf.cell 0; have HK := hid (And.intro V5 (And.intro htw (And.intro ttw (And.intro s5 (And.intro bh (And.intro bm (And.intro bset (And.intro bb (And.intro bw (And.intro bf (And.intro slS st13))))))))))); clear V5 htw ttw s5 bh bm bset bb bw bf slS st7 st8 st13)
  obtain ⟨V5, htw, ttw, s5, bh, bm, bset, bb, bw, bf, slS, st13⟩ := HK.out
  obtain ⟨bS, bK, bA, bN, q1, hco4⟩ := H4.out
  have V13 := V5.step hne st13 (by simp) (by simp)
  have hco13 := (hco4.step s5 (by decide)).step st13 (by simp)
  have wbx : WB o13 X13 Bk Bm Bs Ba Bn Bh Bf S cs.length (some ⟨hb, 0, none⟩) (.func (.func 104) #[] #[.pointer (some ⟨Bk, 0, none⟩), .pointer (some ⟨Bset, 0, none⟩), .pointer (some ⟨Bm, 0, none⟩), .pointer (some ⟨Bw, 0, none⟩), .pointer (some ⟨Bs, 0, none⟩), .pointer (some ⟨Bb, 0, none⟩), .pointer (some ⟨Ba, 0, none⟩), .pointer (some ⟨Bn, 0, none⟩), .pointer (some ⟨Bh, 0, none⟩), .pointer (some ⟨Bf, 0, none⟩)]) :=
    ⟨(bK.step s5 (by decide)).step st13 (by simp), bm, (bS.step s5 (by decide)).step st13 (by simp), (bA.step s5 (by decide)).step st13 (by simp), (bN.step s5 (by decide)).step st13 (by simp), bh, bf⟩
  have hltt : twb < w5.heap.size := World.block_lt_of_cell? _ _ (htw 0 (by omega))
  have htw13 : ∀ m, m ≤ cs.length → X13.cell? ⟨twb, m * 2, none⟩ = some (.int .i64 0) := fun m hm => (st13.cell (p := ⟨twb, m * 2, none⟩) hltt (by simp)).trans (htw m hm)
  have ttw13 : o13 twb = 42 := (st13.own _ hltt).trans ttw
  refine (walk_top o13 X13 R S s pv uv g tgt { v with topW := .slice (some ⟨twb, 0, none⟩) ((cs.length + 1) * 2) tcap } cs idx lf nx sl sb hX V13 hm hu Hp0.out Hgr.out hco13 twb tcap ((cs.length + 1) * 2) rfl rfl htw13 ttw13 Bk Bset Bm Bw Bs Bb Ba Bn Bh Bf (some ⟨hb, 0, none⟩) (some ⟨sab, 0, none⟩) 1 _ rfl wbx bset slS bw bb).mono ?_
  rintro e w' ⟨rfl, o', cb', ccap, nf, ni, pv', uv', lfv, liv, V', bb', slc, st'⟩
  have y11 : w'.cell? ⟨Bb, 0, none⟩ = some (.slice (some ⟨cb', 0, none⟩) 1 ccap) := bb'.cell 0
  have HF := hid (And.intro V' (And.intro slc ((q1.mono (T' := TS) (by simp)).trans (((s5.mono (T' := TS) (by decide)).trans (st13.mono (by simp))).trans (st'.mono (by decide))))))
  clear V5 htw ttw s5 bh bm bset bb bw bf slS st13 bS bK bA bN q1 hco4 V13 hco13 wbx htw13 ttw13 V' bb' slc st' HK H4 HT
  go_wp2_with fail
  refine bodyPost_ret (results_tmp rfl _ _ _) rfl ?_
  exact ⟨cb', ccap, rfl, o', nf, ni, pv', uv', lfv, liv, _, HF.out.1, HF.out.2.1, HF.out.2.2⟩
end Go.Proofs.YbulkbmdoGreat
