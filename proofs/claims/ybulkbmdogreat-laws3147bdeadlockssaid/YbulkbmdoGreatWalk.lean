import Derived.Test.YbulkbmdoGreatWalk0
namespace Go.Proofs.YbulkbmdoGreat
open Go.RowKit Go.Shelf
set_option linter.unusedVariables false

/-- The boxes of search that walk leaves alone. -/
structure WB (o : Nat → Nat) (W : World) (Bk Bm Bs Ba Bn Bh Bf S n : Nat) (hv : Option Addr) (F : Value) : Prop where
  k : Ob o W 99 Bk 3 #[.int .i64 1]
  m : Ob o W 99 Bm 3 #[.int .i64 0]
  s : Ob o W 99 Bs 95 #[.pointer (some ⟨S, 0, none⟩)]
  a : Ob o W 99 Ba 4 #[.bool false]
  n : Ob o W 99 Bn 3 #[.int .i64 (n : Int)]
  h : Ob o W 99 Bh 24 #[.slice hv 0 0]
  f : Ob o W 99 Bf 79 #[F]
theorem WB.step {o o' : Nat → Nat} {W W' : World} {Bk Bm Bs Ba Bn Bh Bf S n : Nat} {hv : Option Addr} {F : Value} {T : List Nat} (h : WB o W Bk Bm Bs Ba Bn Bh Bf S n hv F) (hs : Step T o W o' W') (hn : 99 ∉ T) : WB o' W' Bk Bm Bs Ba Bn Bh Bf S n hv F :=
  ⟨h.k.step hs hn, h.m.step hs hn, h.s.step hs hn, h.a.step hs hn, h.n.step hs hn, h.h.step hs hn, h.f.step hs hn⟩

/-- What walk(0, 0) leaves. -/
def WalkR (o : Nat → Nat) (W : World) (R S : Nat) (s : RS) (g : GS) (tgt : Nat → Option Nat) (v : VSt) (cs : List Nat) (idx lf nx : Nat → Nat) (sl : Nat → Int) (sb Bb : Nat) (T : List Nat) (w' : World) : Prop :=
  ∃ (o' : Nat → Nat) (cb ccap : Nat) (nf ni pv' uv' lfv liv : Value), VG o' w' R S { s with nf := nf, ni := ni } pv' uv' g tgt { v with lf := lfv, li := liv } cs idx lf nx sl sb ∧ Ob o' w' 91 Bb 24 #[.slice (some ⟨cb, 0, none⟩) 1 ccap] ∧ Sl o' w' 98 3 (.slice (some ⟨cb, 0, none⟩) 1 ccap) [.int .i64 0] ∧ Step T o W o' w'

def WT : List Nat := [1, 2, 3, 4, 20, 90, 91, 92, 93]

set_option maxRecDepth 100000 in
set_option maxHeartbeats 4000000 in
/-- walk(0, 0): the first slot is the best set. -/
theorem walk_top (o : Nat → Nat) (W : World) (R S : Nat) (s : RS) (pv uv : Value) (g : GS) (tgt : Nat → Option Nat) (v : VSt) (cs : List Nat) (idx lf nx : Nat → Nat) (sl : Nat → Int) (sb : Nat) (hX : Cx g tgt cs idx lf nx sl) (h : VG o W R S s pv uv g tgt v cs idx lf nx sl sb)
    (hm : s.marks ≤ 100) (hu : s.und.length ≤ 100) (hp0 : s.pend = []) (hgr : ∀ q ∈ cs, s.gr q = false) (hco : Sl o W 40 3 v.coreOf (zints (List.replicate cs.length (-1)))) (twb tcap L : Nat) (hL : L = (cs.length + 1) * 2) (htv : v.topW = .slice (some ⟨twb, 0, none⟩) L tcap) (htw : ∀ m, m ≤ cs.length → W.cell? ⟨twb, m * 2, none⟩ = some (.int .i64 0)) (ttw : o twb = 42)
    (Bk Bset Bm Bw Bs Bb Ba Bn Bh Bf : Nat) (hv sa : Option Addr) (sc : Nat) (F : Value) (hF : F = .func (.func 104) #[] #[.pointer (some ⟨Bk, 0, none⟩), .pointer (some ⟨Bset, 0, none⟩), .pointer (some ⟨Bm, 0, none⟩), .pointer (some ⟨Bw, 0, none⟩), .pointer (some ⟨Bs, 0, none⟩), .pointer (some ⟨Bb, 0, none⟩), .pointer (some ⟨Ba, 0, none⟩), .pointer (some ⟨Bn, 0, none⟩), .pointer (some ⟨Bh, 0, none⟩), .pointer (some ⟨Bf, 0, none⟩)])
    (wb : WB o W Bk Bm Bs Ba Bn Bh Bf S cs.length hv F) (bs : Ob o W 90 Bset 24 #[.slice sa 0 sc]) (sl0 : Sl o W 93 3 (.slice sa 0 sc) []) (bw : Ob o W 92 Bw 3 #[.int .i64 (-1)]) (bb : Ob o W 91 Bb 24 #[.slice none 0 0]) :
    Calls Ybaz.prog 104 #[.int .i64 0, .int .i64 0, .pointer (some ⟨Bk, 0, none⟩), .pointer (some ⟨Bset, 0, none⟩), .pointer (some ⟨Bm, 0, none⟩), .pointer (some ⟨Bw, 0, none⟩), .pointer (some ⟨Bs, 0, none⟩), .pointer (some ⟨Bb, 0, none⟩), .pointer (some ⟨Ba, 0, none⟩), .pointer (some ⟨Bn, 0, none⟩), .pointer (some ⟨Bh, 0, none⟩), .pointer (some ⟨Bf, 0, none⟩)] W fun e w' => e = .returned (.bool false) ∧ WalkR o W R S s g tgt v cs idx lf nx sl sb Bb WT w' := by
  subst hF
  have hne := hX.cyc.ne
  have hcl := hX.cyc.le
  have hn3 := hX.n
  have hN3 : cs.length ≤ 300 := by omega
  obtain ⟨wtb, wcap, hwv, hwt, hwc⟩ := h.wts
  have c2 : W.cell? ⟨Bk, 0, none⟩ = some (.int .i64 1) := wb.k.cell 0
  have c3 : W.cell? ⟨Bset, 0, none⟩ = some (.slice sa 0 sc) := bs.cell 0
  have c4 : W.cell? ⟨Bm, 0, none⟩ = some (.int .i64 0) := wb.m.cell 0
  have c9 : W.cell? ⟨Bn, 0, none⟩ = some (.int .i64 (cs.length : Int)) := wb.n.cell 0
  have c10 : W.cell? ⟨Bh, 0, none⟩ = some (.slice hv 0 0) := wb.h.cell 0
  have hw1 : IntKind.i64.wrap ((cs.length : Int) - 1) = (cs.length : Int) - 1 := by rw [IntKind.wrap_i64]; omega
  have H0 := hid (And.intro h (And.intro hco (And.intro wb (And.intro bs (And.intro sl0 (And.intro bw bb))))))
  have Htw := hid htw
  have Hwc := hid hwc
  have Hgr := hid hgr
  have Hp0 := hid hp0
  have Hwv := hid hwv
  have Htv := hid htv
  clear hp0 hwv htv
  clear h hco wb bs sl0 bw bb htw hwc hgr
  go_enter Ybaz.func104, Ybaz.ntmps104
  go_wp2_with fail
  obtain ⟨i, hi⟩ : ∃ i : Nat, i = 0 := ⟨0, rfl⟩
  have Hi := hid hi
  refine wp_loop_rounds 1 ?_
  rw [rounds_succ]
  go_wp2_with fail
  clear c2 c3 c4 c9 c10 hi
  go_loopw [19] (fun q wr => (q = .int .i64 (i : Int) ∧ wr = W) ∨ (∃ (j : Nat) (o' : Nat → Nat) (cb ccap : Nat) (nf ni pv' uv' lfv liv : Value), q = .int .i64 (j : Int) ∧ 1 ≤ j ∧ j ≤ cs.length ∧ VG o' wr R S { s with nf := nf, ni := ni } pv' uv' g tgt { v with lf := lfv, li := liv } cs idx lf nx sl sb ∧ WB o' wr Bk Bm Bs Ba Bn Bh Bf S cs.length hv (.func (.func 104) #[] #[.pointer (some ⟨Bk, 0, none⟩), .pointer (some ⟨Bset, 0, none⟩), .pointer (some ⟨Bm, 0, none⟩), .pointer (some ⟨Bw, 0, none⟩), .pointer (some ⟨Bs, 0, none⟩), .pointer (some ⟨Bb, 0, none⟩), .pointer (some ⟨Ba, 0, none⟩), .pointer (some ⟨Bn, 0, none⟩), .pointer (some ⟨Bh, 0, none⟩), .pointer (some ⟨Bf, 0, none⟩)]) ∧ Ob o' wr 92 Bw 3 #[.int .i64 1] ∧ Ob o' wr 91 Bb 24 #[.slice (some ⟨cb, 0, none⟩) 1 ccap] ∧ Sl o' wr 98 3 (.slice (some ⟨cb, 0, none⟩) 1 ccap) [.int .i64 0] ∧ Step WT o W o' wr)) (fun q _ => cs.length - (intOf q).toNat)
  case atStart => exact .inl ⟨by rw [Hi.out]; rfl, rfl⟩
  case round =>
    rcases hrel with ⟨rfl, hwr⟩ | ⟨j, o', cb, ccap, nf, ni, pv', uv', lfv, liv, rfl, hj1, hj2, V, wb, bw, bb, slc, st⟩
    · subst hwr
      obtain ⟨V, hco, wb, bs, sl0, bw, bb⟩ := H0.out
      have c6 : wr.cell? ⟨Bs, 0, none⟩ = some (.pointer (some ⟨S, 0, none⟩)) := wb.s.cell 0
      have c8 : wr.cell? ⟨Ba, 0, none⟩ = some (.bool false) := wb.a.cell 0
      have c2 : wr.cell? ⟨Bk, 0, none⟩ = some (.int .i64 1) := wb.k.cell 0
      have c5 : wr.cell? ⟨Bw, 0, none⟩ = some (.int .i64 (-1)) := bw.cell 0
      have x9 : wr.cell? ⟨S, 9, none⟩ = some (.slice (some ⟨wtb, 0, none⟩) cs.length wcap) := by rw [← Hwv.out]; exact V.sa.ob.cell 9
      have x21 : wr.cell? ⟨S, 21, none⟩ = some (.slice (some ⟨twb, 0, none⟩) L tcap) := by rw [← Htv.out]; exact V.sa.ob.cell 21
      have hi0 := Hi.out
      have hiN : i < cs.length := by omega
      have y9 : wr.cell? ⟨wtb, i, none⟩ = some (.int .i64 1) := Hwc.out i hiN
      have y21 : wr.cell? ⟨twb, (i + 1) * 2, none⟩ = some (.int .i64 0) := Htw.out (i + 1) (by omega)
      have b1 : (i : Int) ≤ (cs.length : Int) - 1 := by omega
      have b2 : (i : Int) < (cs.length : Int) := by omega
      have b3 : (i : Int) ≤ 300 := by omega
      have b4 : ((i : Int) + 1) * 2 < (L : Int) := by omega
      have b5 : (((i : Int) + 1) * 2).toNat = (i + 1) * 2 := by omega
      have b6 : (0 : Int) ≤ ((i : Int) + 1) * 2 := by omega
      have b7 : decide ((0 : Int) < (i : Int)) = false := by simp; omega
      have b8 : decide (0 < i) = false := by simp; omega
      have e1 : IntKind.i64.wrap ((i : Int) + 1) = (i : Int) + 1 := by rw [IntKind.wrap_i64]; omega
      have e2 : IntKind.i64.wrap (((i : Int) + 1) * 2) = ((i : Int) + 1) * 2 := by rw [IntKind.wrap_i64]; omega
      have e3 : IntKind.i64.wrap (((i : Int) + 1) * 2 + 1) = ((i : Int) + 1) * 2 + 1 := by rw [IntKind.wrap_i64]; omega
      have bi4 : (0 : Int) ≤ (i : Int) + 1 := by omega
      have bi6 : ((i : Int) + 1).toNat = i + 1 := by omega
      have bi2 : (i : Int) + 1 ≤ (cs.length : Int) := by omega
      have x1 : wr.cell? ⟨S, 1, none⟩ = some (.pointer (some ⟨R, 0, none⟩)) := by rw [← V.sa.hR]; exact V.sa.ob.cell 1
      have HM := hid (fun q => mark_any o (wr.drewN q) R s pv uv (V.r.step (Step.drewN [] o wr q) (by simp) (by simp) (by simp) (by simp)) (by omega))
      obtain ⟨slb, scap, hslv, hsl1, hsl2, hsl3, hsl4⟩ := V.sls
      have hscm : scap ≤ 9223372036854775807 := by unfold maxLen at hsl2; omega
      have Hslv := hid (And.intro hslv (And.intro hsl3 (hsl4 i hiN)))
      have bi3 : (i : Int) + 1 ≤ (scap : Int) := by omega
      have bi5 : ¬ scap = i := by omega
      clear hslv hsl3 hsl4 hsl1 hsl2 hi0
      have HK := hid (And.intro V (And.intro hco (And.intro wb (And.intro bs (And.intro sl0 (And.intro bw bb))))))
      clear V hco wb bs sl0 bw bb H0
      go_wp2_with fail
      go_quiet (fail)
      go_wp2_with fail
      go_quiet (fail)
      go_wp2_with (go_at_call 90; refine (HM.out _).mono ?_; rintro e w1 ⟨rfl, R1, s1⟩)
      have s01 : Step [1] o wr o w1 := (Step.drewN [1] o wr _).trans s1
      obtain ⟨V, hco, wb, bs, sl0, bw, bb⟩ := HK.out
      have V1 : VG o w1 R S { s with marks := s.marks + 1 } pv uv g tgt v cs idx lf nx sl sb := by
        obtain ⟨qn, qbl, Q0⟩ := V.q
        exact V.turn hne s01 (by decide) R1 (V.ng.step s01 (by decide) rfl rfl rfl rfl rfl rfl) (V.sa.ob.step s01 (by decide)) (VEq.refl _) rfl rfl (V.cnt.step s01 (by decide)) (V.shr.step s01 (by decide)) ⟨qn, qbl, Q0.step s01 (by decide) (by simp; omega)⟩ (V.co.step s01 (by decide)) (V.cl.step s01 (by decide)) (V.tw.step s01 (by decide))
      have hsl4 : w1.cell? ⟨slb, i, none⟩ = some (.int .i64 (i : Int)) := (s01.cell (p := ⟨slb, i, none⟩) (World.block_lt_of_cell? _ _ Hslv.out.2.2) (by show o slb ∉ [1]; rw [Hslv.out.2.1]; decide)).trans Hslv.out.2.2
      have d6 : w1.cell? ⟨Bs, 0, none⟩ = some (.pointer (some ⟨S, 0, none⟩)) := (wb.s.step s01 (by simp)).cell 0
      have d12 : w1.cell? ⟨S, 12, none⟩ = some (.slice (some ⟨slb, 0, none⟩) cs.length scap) := by rw [← Hslv.out.1]; exact V1.sa.ob.cell 12
      have HA := hid (fun q => abort_any o (w1.drewN q) R S { s with marks := s.marks + 1 } pv uv (V1.r.step (Step.drewN [] o w1 q) (by simp) (by simp) (by simp) (by simp)) g tgt v cs idx lf nx sl sb hX.cyc hX.sl hX.n hX.M (V1.ng.step (Step.drewN [] o w1 q) (by simp) rfl rfl rfl rfl rfl rfl) (V1.sa.step (Step.drewN [] o w1 q) (by simp) (by simp) (by simp)) (V1.lc.step (Step.drewN [] o w1 q) (by simp) (by simp)) hX.wp (by show 0 < s.marks + 1; omega) (by show s.marks + 1 ≤ 900; omega) (by show s.und.length ≤ 500; omega) Hp0.out Hgr.out slb (scap - i) i hiN hsl4)
      have HK1 := hid (And.intro V1 (And.intro (hco.step s01 (by simp)) (And.intro (wb.step s01 (by simp)) (And.intro (bs.step s01 (by simp)) (And.intro (sl0.step s01 (by simp)) (And.intro (bw.step s01 (by simp)) (And.intro (bb.step s01 (by simp)) (s01.mono (T' := WT) (by decide)))))))))
      clear V hco wb bs sl0 bw bb V1 s01 s1 R1 HK HM hsl4 c6 c8 c2 c5 x9 x21 y9 y21 x1
      go_cut [] from 124 to 133 (fun wx => ∃ o8 pv8 uv8 nf ni new lfv liv, RAt o8 wx R { s with marks := s.marks + 1, nf := nf, ni := ni, gr := grown s.gr new, pend := [], und := s.und ++ new.map fun p : Nat => -1 - (p : Int) } pv8 uv8 ∧ new.Nodup ∧ (∀ q, q ∈ new ↔ q ∈ cs) ∧ NG g tgt o8 wx { s with marks := s.marks + 1, nf := nf, ni := ni, gr := grown s.gr new, pend := [], und := s.und ++ new.map fun p : Nat => -1 - (p : Int) } ∧ SAt o8 wx S { v with lf := lfv, li := liv } g R cs sl sb ∧ LcAt o8 wx { v with lf := lfv, li := liv } cs idx lf nx ∧ Step [1, 2, 3, 4, 20] o w1 o8 wx)
      case first =>
        go_region_held3 (fun w' => w'.cell? ⟨Bs, 0, none⟩ = some (.pointer (some ⟨S, 0, none⟩)) ∧ w'.cell? ⟨S, 12, none⟩ = some (.slice (some ⟨slb, 0, none⟩) cs.length scap)) (first | go_keep | exact ⟨k1, k2⟩ | fail)
          (first | (go_at_call 99; refine (HA.out 1).mono ?_; rintro e w8 ⟨⟨r, rfl⟩, o8, pv8, uv8, nf, ni, new, lfv, liv, R8, hnd, hmem, N8, S8, L8, s8⟩; have s8' := (Step.drewN [1, 2, 3, 4, 20] o w1 1).trans s8; have k1 : w8.cell? ⟨Bs, 0, none⟩ = some (.pointer (some ⟨S, 0, none⟩)) := (HK1.out.2.2.1.s.step s8' (by decide)).cell 0; have k2 : w8.cell? ⟨S, 12, none⟩ = some (.slice (some ⟨slb, 0, none⟩) cs.length scap) := by { have h9 := S8.ob.cell 12; have h10 := HK1.out.1.sa.ob.cell 12; exact h9.trans (h10.symm.trans d12) }))
        all_goals
          go_wp2_with fail
          go_meet
          exact ⟨o8, pv8, uv8, nf, ni, new, lfv, liv, R8, hnd, hmem, N8, S8, L8, s8'⟩
      case rest =>
        obtain ⟨o8, pv8, uv8, nf, ni, new, lfv, liv, R8, hnd, hmem, N8, S8, L8, s8⟩ := hcut
        obtain ⟨V1, hco, wb, bs, sl0, bw, bb, S1⟩ := HK1.out
        have hX2 := hX
        -- the set, with i appended
        obtain ⟨ga, capa, wa, hra, hca, oa, sla, sta⟩ := (sl0.step s8 (by decide)).app_run (by simp) (.int .i64 (i : Int)) rfl
        simp only [List.length_nil, Nat.zero_add, List.nil_append] at hra sla
        have bs8 := bs.step s8 (by decide)
        have c3 : wc.cell? ⟨Bset, 0, none⟩ = some (.slice sa 0 sc) := bs8.cell 0
        have bsa := bs8.step sta (by decide)
        have d3 : wa.cell? ⟨Bset, 0, none⟩ = some (.slice sa 0 sc) := bsa.cell 0
        have f3 := bsa.frozen 0
        have bsb := bsa.set 0 (.slice (some ⟨ga, 0, none⟩) 1 capa)
        have ssb := bsa.sset 0 (.slice (some ⟨ga, 0, none⟩) 1 capa) (T := [90]) (by simp)
        obtain ⟨wb9, hwb9⟩ : ∃ X, wa.setCell ⟨Bset, 0, none⟩ (.slice (some ⟨ga, 0, none⟩) 1 capa) = X := ⟨_, rfl⟩
        rw [hwb9] at bsb ssb
        have sab : Step [90, 93] o8 wc oa wb9 := (sta.mono (by simp)).trans (ssb.mono (by simp))
        have S8b := S8.step sab (by decide) (by decide) (by decide)
        have s18 : Step [1, 2, 3, 4, 20, 90, 93] o w1 oa wb9 := (s8.mono (by simp)).trans (sab.mono (by simp))
        have wb8 := wb.step s18 (by decide)
        have hco8 := hco.step s18 (by decide)
        have bw8 := bw.step s18 (by decide)
        have bb8 := bb.step s18 (by decide)
        have slb8 := sla.step ssb (by decide)
        obtain ⟨cob, cocap, hcov, hco1, hco2, _, _⟩ := hco8.some_of (by simp [zints]; exact hne)
        have hcol : (zints (List.replicate cs.length (-1))).length = cs.length := by simp [zints]
        rw [hcol] at hcov hco1
        have y6 : wb9.cell? ⟨Bs, 0, none⟩ = some (.pointer (some ⟨S, 0, none⟩)) := wb8.s.cell 0
        have y19 : wb9.cell? ⟨S, 19, none⟩ = some (.slice (some ⟨cob, 0, none⟩) cs.length cocap) := by rw [← hcov]; exact S8b.ob.cell 19
        have yco : wb9.cell? ⟨cob, i, none⟩ = some (.int .i64 (-1)) := by
          have hr := Sl.toRw (n := cs.length) (cap := cocap) (g := cob) (by rw [← hcov]; exact hco8)
          rw [hr.cell i (by rw [hcol]; exact hiN)]
          simp [zints]
        have y11 := wb8.f.cell 0
        have y9 : wb9.cell? ⟨S, 9, none⟩ = some (.slice (some ⟨wtb, 0, none⟩) cs.length wcap) := by rw [← Hwv.out]; exact S8b.ob.cell 9
        have yw : wb9.cell? ⟨wtb, i, none⟩ = some (.int .i64 1) := by
          have hltw : wtb < wr.heap.size := World.block_lt_of_cell? _ _ (Hwc.out i hiN)
          have sW : Step WT o wr oa wb9 := S1.trans (s18.mono (by decide))
          exact (sW.cell (p := ⟨wtb, i, none⟩) hltw (by show o wtb ∉ WT; rw [hwt]; decide)).trans (Hwc.out i hiN)
        have hltw1 : wtb < w1.heap.size := by
          have h1 : wtb < wr.heap.size := World.block_lt_of_cell? _ _ (Hwc.out i hiN)
          have h2 := S1.size
          omega
        have Htwt : Hid (o wtb = 28) := hid hwt
        have yga : wb9.cell? ⟨ga, 0, none⟩ = some (.int .i64 0) := by
          have := slb8.cell (xs := [.int .i64 (i : Int)]) 0 Nat.zero_lt_one
          rw [this, Hi.out]; rfl
        have y3 : wb9.cell? ⟨Bset, 0, none⟩ = some (.slice (some ⟨ga, 0, none⟩) 1 capa) := bsb.cell 0
        obtain ⟨s9, hs9⟩ : ∃ s9 : RS, s9 = { s with marks := s.marks + 1, nf := nf, ni := ni, gr := grown s.gr new, pend := [], und := s.und ++ new.map fun p : Nat => -1 - (p : Int) } := ⟨_, rfl⟩
        rw [← hs9] at R8 N8
        have R9 := R8.step sab (by decide) (by decide) (by decide) (by decide)
        have N9 : NG g tgt oa wb9 s9 := N8.step sab (by decide) rfl rfl rfl rfl rfl rfl
        have L9 := L8.step sab (by decide) (by decide)
        have hgr9 : ∀ q ∈ cs, s9.gr q = true := fun q hq => by rw [hs9]; simp [grown, (hmem q).2 hq]
        have HW := hid (fun q nv => walk_leaf oa (wb9.drewN q) R S s9 pv8 uv8 (R9.step (Step.drewN [] oa wb9 q) (by simp) (by simp) (by simp) (by simp)) g { v with lf := lfv, li := liv } cs sl sb (S8b.step (Step.drewN [] oa wb9 q) (by simp) (by simp) (by simp)) N9.hN hX.n (fun q hq => hX.cyc.lt q hq) hne hN3 hgr9 nv Bk Bset Bm Bw Bs Bb Ba Bn Bh Bf ga capa (wb8.k.cell 0) y3 (wb8.m.cell 0) y6 (wb8.a.cell 0) wb8.a.tag yga (bw8.step (Step.drewN [] oa wb9 q) (by simp)) (bb8.step (Step.drewN [] oa wb9 q) (by simp)))
        have HK2 := hid (And.intro V1 (And.intro R9 (And.intro N9 (And.intro L9 (And.intro S8b (And.intro wb8 (And.intro bsb (And.intro slb8 (And.intro S1 (And.intro s18 (And.intro hmem hs9)))))))))))
        have Hnd := hid hnd
        clear V1 hco wb bs sl0 bw bb S1 bs8 bsa bsb ssb S8b s18 wb8 hco8 bw8 bb8 slb8 sta sla sab S8 R8 N8 L8 s8 R9 N9 L9 hgr9 hmem hs9 hcov HK1 HA yga y3 hnd d6 d12
        go_wp2_with (at_builtin; refine wpList_append_is rfl _ _ 24 rfl _ _ _ _ rfl rfl hra ?_)
        clear c3 d3 f3 hwb9 hra y19 yco
        go_cut [22] from 160 to 172 (fun x22 wx => x22 = .bool false ∧ ∃ (o' : Nat → Nat) (cb ccap : Nat), Ob o' wx 92 Bw 3 #[.int .i64 1] ∧ Ob o' wx 91 Bb 24 #[.slice (some ⟨cb, 0, none⟩) 1 ccap] ∧ Sl o' wx 98 3 (.slice (some ⟨cb, 0, none⟩) 1 ccap) [.int .i64 0] ∧ Step [91, 92] oa wb9 o' wx)
        case first =>
          go_region_held3 (fun w' => w'.cell? ⟨Bf, 0, none⟩ = some (.func (.func 104) #[] #[.pointer (some ⟨Bk, 0, none⟩), .pointer (some ⟨Bset, 0, none⟩), .pointer (some ⟨Bm, 0, none⟩), .pointer (some ⟨Bw, 0, none⟩), .pointer (some ⟨Bs, 0, none⟩), .pointer (some ⟨Bb, 0, none⟩), .pointer (some ⟨Ba, 0, none⟩), .pointer (some ⟨Bn, 0, none⟩), .pointer (some ⟨Bh, 0, none⟩), .pointer (some ⟨Bf, 0, none⟩)]) ∧ w'.cell? ⟨Bs, 0, none⟩ = some (.pointer (some ⟨S, 0, none⟩)) ∧ w'.cell? ⟨S, 9, none⟩ = some (.slice (some ⟨wtb, 0, none⟩) cs.length wcap) ∧ w'.cell? ⟨wtb, i, none⟩ = some (.int .i64 1)) (first | go_keep | exact ⟨k1, k2, k3, k4⟩ | fail)
            (first | (go_at_call 104; refine (HW.out 1 _).mono ?_; rintro e w9 ⟨rfl, o9, cb, ccap, bw9, bb9, slc9, st9⟩; have st9' := (Step.drewN [91, 92] oa wb9 1).trans st9; have k1 := (HK2.out.2.2.2.2.2.1.f.step st9' (by decide)).cell 0; have k2 : w9.cell? ⟨Bs, 0, none⟩ = some (.pointer (some ⟨S, 0, none⟩)) := (HK2.out.2.2.2.2.2.1.s.step st9' (by decide)).cell 0; have k3 : w9.cell? ⟨S, 9, none⟩ = some (.slice (some ⟨wtb, 0, none⟩) cs.length wcap) := by { rw [← Hwv.out]; exact (HK2.out.2.2.2.2.1.ob.step st9' (by decide)).cell 9 }; have k4 : w9.cell? ⟨wtb, i, none⟩ = some (.int .i64 1) := (st9'.cell (p := ⟨wtb, i, none⟩) (World.block_lt_of_cell? _ _ yw) (by show oa wtb ∉ [91, 92]; rw [HK2.out.2.2.2.2.2.2.2.2.2.1.own _ hltw1, Htwt.out]; decide)).trans yw))
          all_goals
            go_wp2_with fail
            go_meet
            exact ⟨rfl, o9, cb, ccap, bw9, bb9, slc9, st9'⟩
        case rest =>
          obtain ⟨rfl, o9, cb, ccap, bw9, bb9, slc9, st9⟩ := hcut
          obtain ⟨V1, R9, N9, L9, S8b, wb8, bsb, slb8, S1, s18, hmem, hs9⟩ := HK2.out
          have bs9 := bsb.step st9 (by decide)
          have c3 : wc.cell? ⟨Bset, 0, none⟩ = some (.slice (some ⟨ga, 0, none⟩) 1 capa) := bs9.cell 0
          have f3 := bs9.frozen 0
          have ss3 := bs9.sset 0 (.slice (some ⟨ga, 0, none⟩) 0 capa) (T := [90]) (by simp)
          obtain ⟨w10, hw10⟩ : ∃ X, wc.setCell ⟨Bset, 0, none⟩ (.slice (some ⟨ga, 0, none⟩) 0 capa) = X := ⟨_, rfl⟩
          rw [hw10] at ss3
          have sA : Step [90, 91, 92] oa wb9 o9 w10 := (st9.mono (by simp)).trans (ss3.mono (by simp))
          have R10 := R9.step sA (by decide) (by decide) (by decide) (by decide)
          have ob10 := S8b.ob.step sA (by decide)
          have wb10 := wb8.step sA (by decide)
          have z6 : w10.cell? ⟨Bs, 0, none⟩ = some (.pointer (some ⟨S, 0, none⟩)) := wb10.s.cell 0
          have z1 : w10.cell? ⟨S, 1, none⟩ = some (.pointer (some ⟨R, 0, none⟩)) := by rw [← S8b.hR]; exact ob10.cell 1
          have hz : ∀ z ∈ new.map (fun p : Nat => -1 - (p : Int)), ∃ p : Nat, p < s9.N ∧ z = -1 - (p : Int) := by
            intro z hz
            obtain ⟨p, hp, rfl⟩ := List.mem_map.1 hz
            exact ⟨p, by rw [N9.hN]; exact hX.cyc.lt _ ((hmem p).1 hp), rfl⟩
          have hnl : new.length ≤ cs.length := nodup_sub' Hnd.out (fun q hq => (hmem q).1 hq)
          have HR := hid (rollback_any o9 w10 R s9 pv8 uv8 R10 s.und (new.map fun p : Nat => -1 - (p : Int)) (by rw [hs9]) hz (by rw [hs9]; simp; omega) (by rw [hs9]; show 0 < s.marks + 1; omega) (by rw [hs9]; show s.marks + 1 ≤ 1000; omega) (by rw [N9.hN]; exact hX.n))
          have HK3 := hid (And.intro V1 (And.intro N9 (And.intro L9 (And.intro ob10 (And.intro wb10 (And.intro (bw9.step ss3 (by simp)) (And.intro (bb9.step ss3 (by simp)) (And.intro (slc9.step ss3 (by simp)) (And.intro S1 (And.intro s18 (And.intro sA (And.intro hmem hs9))))))))))))
          clear V1 R9 N9 L9 S8b wb8 bsb slb8 S1 s18 hmem hs9 bs9 ss3 sA R10 ob10 wb10 hz hnl bw9 bb9 slc9 st9 HK2 HW yw y9 y6 y11
          go_wp2_with (go_at_call 92; refine HR.out.mono ?_; rintro e w11 ⟨⟨r, rfl⟩, o11, uv11, R11, s11⟩)
          obtain ⟨V1, N9, L9, ob10, wb10, bw10, bb10, slc10, S1, s18, sA, hmem, hs9⟩ := HK3.out
          have hgf : (fun j : Nat => if -1 - (j : Int) ∈ new.map (fun p : Nat => -1 - (p : Int)) then false else s9.gr j) = s.gr := by
            funext j
            have hm : (-1 - (j : Int) ∈ new.map fun p : Nat => -1 - (p : Int)) ↔ j ∈ new := by
              simp only [List.mem_map]
              constructor
              · rintro ⟨p, hp, e⟩
                have : p = j := by omega
                subst this; exact hp
              · intro h; exact ⟨j, h, rfl⟩
            by_cases hj : j ∈ new
            · rw [if_pos (hm.2 hj)]; exact (Hgr.out j ((hmem j).1 hj)).symm
            · rw [if_neg (fun h => hj (hm.1 h)), hs9]; simp [grown, hj]
          rw [hgf] at R11
          have e2 : ({ s9 with gr := s.gr, und := s.und, marks := s9.marks - 1 } : RS) = { s with nf := nf, ni := ni } := by rw [hs9]; simp [Hp0.out]
          rw [e2] at R11
          have sX : Step [1, 2, 3, 4, 20, 90, 91, 92, 93] o w1 o11 w11 := ((s18.mono (by simp)).trans (sA.mono (by simp))).trans (s11.mono (by simp))
          have sB : Step [1, 2, 90, 91, 92] oa wb9 o11 w11 := (sA.mono (by simp)).trans (s11.mono (by simp))
          have N11 : NG g tgt o11 w11 { s with nf := nf, ni := ni } := N9.step sB (by decide) (by rw [hs9]) (by rw [hs9]) (by rw [hs9]) (by rw [hs9]) (by rw [hs9]) (by rw [hs9])
          have ob11 := ob10.step s11 (by decide)
          have L11 := L9.step sB (by decide) (by decide)
          obtain ⟨qn, qbl, Q0⟩ := V1.q
          have V11 : VG o11 w11 R S { s with nf := nf, ni := ni } pv8 uv11 g tgt { v with lf := lfv, li := liv } cs idx lf nx sl sb := by
            have h1 := V1.vh.turn (v' := { v with lf := lfv, li := liv }) hne sX (by decide) R11 N11 ob11 L11 ⟨rfl, rfl, rfl, rfl, rfl, rfl, rfl, rfl, rfl, rfl, rfl, rfl⟩ rfl rfl rfl
            exact h1.vg (V1.cnt.step sX (by decide)) (V1.shr.step sX (by decide)) ⟨qn, qbl, Q0.step sX (by decide) (by simp; omega)⟩
          refine ⟨.inr ⟨1, o11, cb, ccap, nf, ni, pv8, uv11, lfv, liv, by rw [Hi.out]; go_num, by omega, by omega, V11, wb10.step s11 (by decide), bw10.step s11 (by decide), bb10.step s11 (by decide), slc10.step s11 (by decide), S1.trans (sX.mono (by decide))⟩, ?_⟩
          rw [Hi.out]; simp [intOf]; omega
    · have c6 : wr.cell? ⟨Bs, 0, none⟩ = some (.pointer (some ⟨S, 0, none⟩)) := wb.s.cell 0
      have c8 : wr.cell? ⟨Ba, 0, none⟩ = some (.bool false) := wb.a.cell 0
      have c2 : wr.cell? ⟨Bk, 0, none⟩ = some (.int .i64 1) := wb.k.cell 0
      have c5 : wr.cell? ⟨Bw, 0, none⟩ = some (.int .i64 1) := bw.cell 0
      have x9 : wr.cell? ⟨S, 9, none⟩ = some (.slice (some ⟨wtb, 0, none⟩) cs.length wcap) := by rw [← Hwv.out]; exact V.sa.ob.cell 9
      have x21 : wr.cell? ⟨S, 21, none⟩ = some (.slice (some ⟨twb, 0, none⟩) L tcap) := by rw [← Htv.out]; exact V.sa.ob.cell 21
      by_cases hlt : j < cs.length
      · have hj0 := Hwc.out j hlt
        have hltw : wtb < W.heap.size := World.block_lt_of_cell? _ _ hj0
        have y9 : wr.cell? ⟨wtb, j, none⟩ = some (.int .i64 1) := (st.cell (p := ⟨wtb, j, none⟩) hltw (by show o wtb ∉ WT; rw [hwt]; decide)).trans hj0
        have ht0 := Htw.out (j + 1) (by omega)
        have hltt : twb < W.heap.size := World.block_lt_of_cell? _ _ ht0
        have y21 : wr.cell? ⟨twb, (j + 1) * 2, none⟩ = some (.int .i64 0) := (st.cell (p := ⟨twb, (j + 1) * 2, none⟩) hltt (by show o twb ∉ WT; rw [ttw]; decide)).trans ht0
        have b1 : (j : Int) ≤ (cs.length : Int) - 1 := by omega
        have b2 : (j : Int) < (cs.length : Int) := by omega
        have b3 : (j : Int) ≤ 300 := by omega
        have b4 : ((j : Int) + 1) * 2 < (L : Int) := by omega
        have b5 : (((j : Int) + 1) * 2).toNat = (j + 1) * 2 := by omega
        have b6 : (0 : Int) ≤ ((j : Int) + 1) * 2 := by omega
        have e1 : IntKind.i64.wrap ((j : Int) + 1) = (j : Int) + 1 := by rw [IntKind.wrap_i64]; omega
        have e2 : IntKind.i64.wrap (((j : Int) + 1) * 2) = ((j : Int) + 1) * 2 := by rw [IntKind.wrap_i64]; omega
        have e3 : IntKind.i64.wrap (((j : Int) + 1) * 2 + 1) = ((j : Int) + 1) * 2 + 1 := by rw [IntKind.wrap_i64]; omega
        have HK := hid (And.intro V (And.intro wb (And.intro bw (And.intro bb (And.intro slc st)))))
        clear V wb bw bb slc st
        go_wp2_with fail
        go_quiet (fail)
        go_wp2_with fail
        obtain ⟨V, wb, bw, bb, slc, st⟩ := HK.out
        have sq := Step.drewN [] o' wr nq
        refine ⟨.inr ⟨j + 1, o', cb, ccap, nf, ni, pv', uv', lfv, liv, by go_num, by omega, by omega, V.step hne sq (by simp) (by simp), wb.step sq (by simp), bw.step sq (by simp), bb.step sq (by simp), slc.step sq (by simp), st.trans (sq.mono (by simp))⟩, by simp [intOf]; omega⟩
      · have b1 : ¬ (j : Int) ≤ (cs.length : Int) - 1 := by omega
        have HK := hid (And.intro V (And.intro wb (And.intro bw (And.intro bb (And.intro slc st)))))
        clear V wb bw bb slc st
        go_wp2_with fail
        refine bodyPost_ret (results_tmp rfl _ _ _) rfl ?_
        obtain ⟨V, wb, bw, bb, slc, st⟩ := HK.out
        exact ⟨rfl, o', cb, ccap, nf, ni, pv', uv', lfv, liv, V, bb, slc, st⟩
end Go.Proofs.YbulkbmdoGreat
