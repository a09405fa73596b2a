import Derived.Test.YbulkbmdoGreatTake7
import Derived.Test.YbulkbmdoGreatLast
import Derived.Deep.DeepCutAuto
namespace Go.Proofs.YbulkbmdoGreat
open Go.RowKit Go.Shelf
set_option linter.unusedVariables false

attribute [local go_sem ↓] Go.wp_at_zero Go.wp_at_succ
set_option maxRecDepth 100000 in
set_option maxHeartbeats 4000000 in
theorem take_any (o : Nat → Nat) (W : World) (R S : Nat) (s : RS) (pv uv : Value) (g : GS) (tgt : Nat → Option Nat) (v : VSt) (cs : List Nat) (idx lf nx : Nat → Nat) (sl : Nat → Int) (sb : Nat) (hX : Cx g tgt cs idx lf nx sl) (h : VG o W R S s pv uv g tgt v cs idx lf nx sl sb)
    (hm : s.marks ≤ 100) (hu : s.und.length ≤ 100) (hp0 : s.pend = []) (hgr : ∀ q ∈ cs, s.gr q = false) :
    Calls Ybaz.prog 62 #[.pointer (some ⟨S, 0, none⟩)] W fun e w' => ∃ (i tb cap : Nat) (o' : Nat → Nat) (v' : VSt) (nf ni pv' uv' : Value), e = .returned (.slice (some ⟨tb, 0, none⟩) 1 cap) ∧ i < cs.length ∧ w'.cell? ⟨tb, 0, none⟩ = some (.int .i64 (i : Int)) ∧ o' tb = 98 ∧ VG o' w' R S { s with nf := nf, ni := ni } pv' uv' g tgt v' cs idx lf nx sl sb ∧ VEq v v' ∧ Step TT o W o' w' := by
  have hne := hX.cyc.ne
  obtain ⟨X0, o0, B1, e0, z0, k0, t0, s0⟩ := alloc_step' o W 99 (.cells #[.pointer (some ⟨S, 0, none⟩)] 95)
  have h0 := h.step hne s0 (by simp) (by simp)
  have c1 : X0.cell? ⟨B1, 0, none⟩ = some (.pointer (some ⟨S, 0, none⟩)) := Ob.cell (o := o0) ⟨k0, t0⟩ 0
  have c2 : X0.cell? ⟨S, 0, none⟩ = some (.pointer (some ⟨g.G, 0, none⟩)) := by rw [← h0.sa.hG]; exact h0.sa.ob.cell 0
  have c3 : X0.cell? ⟨S, 1, none⟩ = some (.pointer (some ⟨R, 0, none⟩)) := by rw [← h0.sa.hR]; exact h0.sa.ob.cell 1
  have H0 := hid h0
  have HB1 : Hid (Ob o0 X0 99 B1 95 #[.pointer (some ⟨S, 0, none⟩)]) := ⟨k0, t0⟩
  have HS0 := hid s0
  have c11 := cell_up c1
  have c12 := cell_up c2
  have c13 := cell_up c3
  have c21 := fun x => cell_up (c11 x)
  have c22 := fun x => cell_up (c12 x)
  have c23 := fun x => cell_up (c13 x)
  clear h h0 k0 t0 s0
  go_enter_defers Ybaz.func62, Ybaz.ntmps62
  go_wp2
  go_cut [3, 4] from 22 to 29 (fun x3 x4 wx => ∃ o1 B3 B4, x3 = .pointer (some ⟨B3, 0, none⟩) ∧ x4 = .pointer (some ⟨B4, 0, none⟩) ∧ Ob o1 wx 99 B3 26 #[.pointer (some ⟨g.G, 0, none⟩)] ∧ Ob o1 wx 99 B4 44 #[.pointer (some ⟨R, 0, none⟩)] ∧ Step [] o0 X0 o1 wx)
  case first =>
    go_region
    all_goals
      go_wp2_with fail
      go_meet
    · have s1 := Step.alloc [] o0 X0 (.cells #[.pointer (some ⟨g.G, 0, none⟩)] 26) 99
      have s2 := Step.alloc [] (tg o0 X0.heap.size 99) (X0.alloc (.cells #[.pointer (some ⟨g.G, 0, none⟩)] 26)) (.cells #[.pointer (some ⟨R, 0, none⟩)] 44) 99
      have s3 := s1.trans (s2.trans (Step.drew [] _ _))
      exact ⟨_, _, _, rfl, rfl, ((Ob.new o0 X0 99 26 _).step s2 (by simp)).step (Step.drew [] _ _) (by simp), Ob.new2 o0 X0 (.cells #[.pointer (some ⟨g.G, 0, none⟩)] 26) 99 44 #[.pointer (some ⟨R, 0, none⟩)], s3⟩
    · have s1 := Step.alloc [] o0 X0 (.cells #[.pointer (some ⟨R, 0, none⟩)] 44) 99
      have s2 := Step.alloc [] (tg o0 X0.heap.size 99) (X0.alloc (.cells #[.pointer (some ⟨R, 0, none⟩)] 44)) (.cells #[.pointer (some ⟨g.G, 0, none⟩)] 26) 99
      have s3 := s1.trans (s2.trans (Step.drew [] _ _))
      exact ⟨_, _, _, rfl, rfl, Ob.new2 o0 X0 (.cells #[.pointer (some ⟨R, 0, none⟩)] 44) 99 26 #[.pointer (some ⟨g.G, 0, none⟩)], ((Ob.new o0 X0 99 44 _).step s2 (by simp)).step (Step.drew [] _ _) (by simp), s3⟩
  case rest =>
    obtain ⟨o1, B3, B4, rfl, rfl, b3, b4, s1⟩ := hcut
    clear c11 c12 c13 c21 c22 c23 c1 c2 c3
    have V1 := H0.out.step hne s1 (by simp) (by simp)
    have b1 := HB1.out.step s1 (by simp)
    have d4 : wc.cell? ⟨B4, 0, none⟩ = some (.pointer (some ⟨R, 0, none⟩)) := b4.cell 0
    have HC := hid (mark_any o1 wc R s pv uv V1.r (by omega))
    have HV := hid V1
    have Hb := hid (And.intro b1 (And.intro b3 (And.intro b4 (HS0.out.trans s1))))
    clear V1 b1 b3 b4 s1 HS0 HB1 H0
    obtain ⟨cb, cap, hcv, hc1, hc2, htc, hltc⟩ := HV.out.sa.cands.some_of (by rw [ints_length]; exact hne)
    rw [ints_length] at hcv hc1
    obtain ⟨ac, nc, cc, hcnt, hcc, hslc⟩ := HV.out.cnt
    obtain ⟨ash, nsh, csh, hshr, hcs, hsls⟩ := HV.out.shr
    have hccm : cc ≤ 9223372036854775807 := by
      rcases hslc.room with ⟨_, rfl⟩ | ⟨_, _, _, _, _, _, hm⟩
      · omega
      · unfold maxLen at hm; omega
    have hcsm : csh ≤ 9223372036854775807 := by
      rcases hsls.room with ⟨_, rfl⟩ | ⟨_, _, _, _, _, _, hm⟩
      · omega
      · unfold maxLen at hm; omega
    have Hslc := hid hslc
    have Hsls := hid hsls
    clear hslc hsls
    have hN3 : cs.length ≤ 300 := by have := hX.cyc.le; have := hX.n; omega
    go_wp2_with (go_at_call 90; refine HC.out.mono ?_; rintro e w1 ⟨rfl, R1, s1⟩; have ob1 := HV.out.sa.ob.step s1 (by simp); have d1 : w1.cell? ⟨B1, 0, none⟩ = some (.pointer (some ⟨S, 0, none⟩)) := (Hb.out.1.step s1 (by simp)).cell 0; have d4' : w1.cell? ⟨B4, 0, none⟩ = some (.pointer (some ⟨R, 0, none⟩)) := (Hb.out.2.2.1.step s1 (by simp)).cell 0; have d7 : w1.cell? ⟨S, 7, none⟩ = some (.slice (some ⟨cb, 0, none⟩) cs.length cap) := by { rw [← hcv]; exact ob1.cell 7 })
    have d14 : w1.cell? ⟨S, 14, none⟩ = some (.slice ac nc cc) := by rw [← hcnt]; exact ob1.cell 14
    have d15 : w1.cell? ⟨S, 15, none⟩ = some (.slice ash nsh csh) := by rw [← hshr]; exact ob1.cell 15
    have HR1 := hid R1
    have Hs1 := hid s1
    have Hob1 := hid ob1
    have st0 : St o1 w1 (.slice ac 0 cc) (.slice ash 0 csh) [] w1.drew := St.drew ⟨o1, Step.refl _ _ _, by simp, by simp, ⟨_, _, rfl, Hslc.out.step s1 (by simp)⟩, ⟨_, _, rfl, Hsls.out.step s1 (by simp)⟩⟩
    clear R1 s1 ob1 d4 d4' d7 HC hcnt hshr
    have b1 : (cs.length : Int) ≤ 300 := by omega
    have b2 : (0 : Int) ≤ (cs.length : Int) := by omega
    have lB1 : B1 < w1.heap.size := World.block_lt_of_cell? _ _ d1
    have lS1 : S < w1.heap.size := World.block_lt_of_cell? _ _ d14
    go_cut [9, 10] from 41 to 58 (fun x9 x10 wx => T7 cs.length o1 w1 x9 x10 wx)
    case first =>
      go_region_held3 (fun w' => w'.cell? ⟨B1, 0, none⟩ = some (.pointer (some ⟨S, 0, none⟩)) ∧ w'.cell? ⟨S, 14, none⟩ = some (.slice ac nc cc) ∧ w'.cell? ⟨S, 15, none⟩ = some (.slice ash nsh csh))
        (first | go_keep | exact ⟨k1, k2, k3⟩ | exact ⟨cell_far k1 (by omega), cell_far k2 (by omega), cell_far k3 (by omega)⟩ | exact ⟨cell_up (cell_far k1 (by omega)) _, cell_up (cell_far k2 (by omega)) _, cell_up (cell_far k3 (by omega)) _⟩ | exact ⟨cell_far (cell_far k1 (by omega)) (by omega), cell_far (cell_far k2 (by omega)) (by omega), cell_far (cell_far k3 (by omega)) (by omega)⟩ | fail)
        (first
          | (go_at_call 34; refine (st0.grow1 (n := cs.length) (by omega)).mono ?_; rintro e w2 ⟨a2, cap2, rfl, hl2, hm2, hS1⟩; have hbx := hS1.boxes; simp at hbx; have k1 := hS1.cell d1; have k2 := hS1.cell d14; have k3 := hS1.cell d15; have z2 := hS1.size; clear st0)
          | (go_at_call 34; refine (st0.alloc.grow1 (n := cs.length) (by omega)).mono ?_; rintro e w2 ⟨a2, cap2, rfl, hl2, hm2, hS1⟩; have hbx := hS1.boxes; simp at hbx; have k1 := hS1.cell d1; have k2 := hS1.cell d14; have k3 := hS1.cell d15; have z2 := hS1.size; clear st0)
          | (go_at_call 34; refine (st0.alloc.alloc.grow1 (n := cs.length) (by omega)).mono ?_; rintro e w2 ⟨a2, cap2, rfl, hl2, hm2, hS1⟩; have hbx := hS1.boxes; simp at hbx; have k1 := hS1.cell d1; have k2 := hS1.cell d14; have k3 := hS1.cell d15; have z2 := hS1.size; clear st0)
          | (go_at_call 34; refine (hS1.grow2 (n := cs.length) (by omega)).mono ?_; rintro e w3 ⟨a3, cap3, rfl, hl3, hm3, hS2⟩; have hbx := hS2.boxes; simp at hbx; have k1 := hS2.cell d1; have k2 := hS2.cell d14; have k3 := hS2.cell d15; have z3 := hS2.size; clear hS1)
          | (go_at_call 34; refine (hS1.alloc.grow2 (n := cs.length) (by omega)).mono ?_; rintro e w3 ⟨a3, cap3, rfl, hl3, hm3, hS2⟩; have hbx := hS2.boxes; simp at hbx; have k1 := hS2.cell d1; have k2 := hS2.cell d14; have k3 := hS2.cell d15; have z3 := hS2.size; clear hS1)
          | (go_at_call 34; refine (hS1.alloc.alloc.grow2 (n := cs.length) (by omega)).mono ?_; rintro e w3 ⟨a3, cap3, rfl, hl3, hm3, hS2⟩; have hbx := hS2.boxes; simp at hbx; have k1 := hS2.cell d1; have k2 := hS2.cell d14; have k3 := hS2.cell d15; have z3 := hS2.size; clear hS1))
      all_goals
        go_wp2_with fail
        go_meet
        first
          | exact hS2.fin2 hl2 hl3
          | exact hS2.fin2' hl2 hl3
          | exact hS2.fin1 (by simp) (by omega) hl2 hl3
          | exact hS2.fin1' (by simp) (by omega) hl2 hl3
          | exact hS2.fin (by simp) (by simp) (by omega) (by omega) (by omega) hl2 hl3
    case rest =>
      obtain ⟨o2, B9, B10, ac', cc', ash', sc', rfl, rfl, b9, b10, slc, sls, hlc, hls, s2⟩ := hcut
      obtain ⟨ctb, rfl, rwc, hmc⟩ := slc.rw hlc hne
      obtain ⟨shb, rfl, rws, hms⟩ := sls.rw hls hne
      have s12 := Hs1.out.trans (s2.mono (T' := [1]) (by simp))
      have q1 := (Hb.out.1.step s12 (by simp))
      have q3 := (Hb.out.2.1.step s12 (by simp))
      have q4 := (Hb.out.2.2.1.step s12 (by simp))
      have V1 := HV.out
      have R2 := HR1.out.step s2 (by simp) (by simp) (by simp) (by simp)
      have N2 : NG g tgt o2 wc { s with marks := s.marks + 1 } := V1.ng.step s12 (by simp) rfl rfl rfl rfl rfl rfl
      have ob2 := Hob1.out.step s2 (by simp)
      have VH2 : VH o2 wc R S { s with marks := s.marks + 1 } pv uv g tgt v cs idx lf nx sl sb := V1.vh.turn hne s12 (by simp) R2 N2 ob2 (V1.lc.step s12 (by simp) (by simp)) (VEq.refl v) rfl rfl rfl
      obtain ⟨qn, qbl, Q1⟩ := V1.q
      have Q2 := Q1.step s12 (by simp) (by simp; omega)
      -- s.count, s.shares = count, shares
      have x1 : wc.cell? ⟨B1, 0, none⟩ = some (.pointer (some ⟨S, 0, none⟩)) := q1.cell 0
      have x9 : wc.cell? ⟨B9, 0, none⟩ = some (.slice (some ⟨ctb, 0, none⟩) cs.length cc') := b9.cell 0
      have x10 : wc.cell? ⟨B10, 0, none⟩ = some (.slice (some ⟨shb, 0, none⟩) cs.length sc') := b10.cell 0
      have x14 : wc.cell? ⟨S, 14, none⟩ = some v.count := ob2.cell 14
      have x15 : wc.cell? ⟨S, 15, none⟩ = some v.shares := ob2.cell 15
      have f14 := ob2.frozen 14
      have f15 := ob2.frozen 15
      have ob3 := ob2.set 14 (.slice (some ⟨ctb, 0, none⟩) cs.length cc')
      have s3 := ob2.sset 14 (.slice (some ⟨ctb, 0, none⟩) cs.length cc') (T := [20]) (by simp)
      have y1 : (wc.setCell ⟨S, 14, none⟩ (.slice (some ⟨ctb, 0, none⟩) cs.length cc')).cell? ⟨B1, 0, none⟩ = some (.pointer (some ⟨S, 0, none⟩)) := (q1.step s3 (by simp)).cell 0
      have y10 : (wc.setCell ⟨S, 14, none⟩ (.slice (some ⟨ctb, 0, none⟩) cs.length cc')).cell? ⟨B10, 0, none⟩ = some (.slice (some ⟨shb, 0, none⟩) cs.length sc') := (b10.step s3 (by simp)).cell 0
      have y15 : (wc.setCell ⟨S, 14, none⟩ (.slice (some ⟨ctb, 0, none⟩) cs.length cc')).cell? ⟨S, 15, none⟩ = some v.shares := ob3.cell 15
      have g15 := ob3.frozen 15
      have ob4 := ob3.set 15 (.slice (some ⟨shb, 0, none⟩) cs.length sc')
      have s4 := s3.trans ((ob3.sset 15 (.slice (some ⟨shb, 0, none⟩) cs.length sc') (T := [20]) (by simp)).trans (Step.drew [20] o2 _))
      have ob5 := ob4.step (Step.drew [] o2 _) (by simp)
      obtain ⟨W8, hW8⟩ : ∃ W8, ((wc.setCell ⟨S, 14, none⟩ (.slice (some ⟨ctb, 0, none⟩) cs.length cc')).setCell ⟨S, 15, none⟩ (.slice (some ⟨shb, 0, none⟩) cs.length sc')).drew = W8 := ⟨_, rfl⟩
      rw [hW8] at s4 ob5
      obtain ⟨v1, hv1⟩ : ∃ v1 : VSt, v1 = { v with count := .slice (some ⟨ctb, 0, none⟩) cs.length cc', shares := .slice (some ⟨shb, 0, none⟩) cs.length sc' } := ⟨_, rfl⟩
      have ob8 : Ob o2 W8 20 S 63 (vcells v1) := by rw [hv1]; exact ob5
      have VE1 : VEq v v1 := by rw [hv1]; exact ⟨rfl, rfl, rfl, rfl, rfl, rfl, rfl, rfl, rfl, rfl, rfl, rfl⟩
      have VH8 : VH o2 W8 R S { s with marks := s.marks + 1 } pv uv g tgt v1 cs idx lf nx sl sb := VH2.turn hne s4 (by simp) (VH2.r.step s4 (by simp) (by simp) (by simp) (by simp)) (VH2.ng.step s4 (by simp) rfl rfl rfl rfl rfl rfl) ob8 (by have := VH2.lc.step s4 (by simp) (by simp); rw [hv1]; exact this) VE1 (by rw [hv1]) (by rw [hv1]) (by rw [hv1])
      have rwc8 := rwc.step s4 (by simp)
      have rws8 := rws.step s4 (by simp)
      obtain ⟨W9, hr9, ar9, blk9, s9⟩ := clear_row rwc8 hlc hne 0 cc'
      have VH9 := VH8.step hne s9 (by decide)
      have rws9 := rws8.step s9 (by simp)
      have s49 := (s4.mono (T' := [20, 33]) (by simp)).trans (s9.mono (by simp))
      have q1' := q1.step s49 (by simp)
      have q3' := q3.step s49 (by simp)
      have q4' := q4.step s49 (by simp)
      have b9' := b9.step s49 (by simp)
      have b10' := b10.step s49 (by simp)
      have Q9 := Q2.step s49 (by simp) (by simp; omega)
      have z9 : W8.cell? ⟨B9, 0, none⟩ = some (.slice (some ⟨ctb, 0, none⟩) cs.length cc') := (b9.step s4 (by simp)).cell 0
      have SS9 : Step TT o W o2 W9 := ((Hb.out.2.2.2.mono (by simp)).trans (Hs1.out.mono (by decide))).trans ((s2.mono (by simp)).trans (s49.mono (by decide)))
      have tct : o2 ctb = 33 := rwc.tag
      have cnd9 := VH9.sa.ob.cell 7
      have VEc : v1.cands = .slice (some ⟨cb, 0, none⟩) cs.length cap := by rw [VE1.cands]; exact hcv
      have z7 : W9.cell? ⟨S, 7, none⟩ = some (.slice (some ⟨cb, 0, none⟩) cs.length cap) := by rw [← VEc]; exact cnd9
      have z1 : W9.cell? ⟨B1, 0, none⟩ = some (.pointer (some ⟨S, 0, none⟩)) := q1'.cell 0
      have Hv1 := hid hv1
      have HG := hid (And.intro VH9 (And.intro ar9 (And.intro blk9 (And.intro rws9 (And.intro Q9 (And.intro q1' (And.intro q3' (And.intro q4' (And.intro b9' (And.intro b10' SS9))))))))))
      clear ob5 ob4 s4 g15 y15 s3 ob3 Q2 Q1 VH2 ob2 N2 R2 V1 q4 q3 q1 s12 rws rwc s2 b9 b10 sls slc ob8 VH8 rwc8 rws8 ar9 blk9 s9 VH9 rws9 s49 q1' q3' q4' b9' b10' Q9 SS9 hv1 cnd9
      clear HV HR1 Hs1 Hob1 Hslc Hsls Hb st0 d1 d14 d15 lB1 lS1
      go_wp2
      go_region
      all_goals
        clear x1 x9 x10 x14 x15 f14 f15 y1 y10 hW8
        go_wp2
        clear hr9 z9 z7 z1
        have hcc : ∀ (o' : Nat → Nat) (wr : World), Sl o' wr 26 3 v1.cands (ints cs) → ∀ i (hi : i < cs.length), wr.cell? ⟨cb, i, none⟩ = some (.int .i64 (cs[i] : Int)) := by
          intro o' wr hh i hi
          rw [VEc, ← ints_length cs] at hh
          rw [hh.cell i (by rw [ints_length]; exact hi)]
          simp [ints]
        have HCC := hid hcc
        have Hgr := hid hgr
        clear hcc hgr
        have hcl := hX.cyc.le
        go_loopw [73] (fun q wr => ∃ (i : Nat) (o3 : Nat → Nat), q = .int .i64 (i : Int) ∧ i ≤ cs.length ∧ VH o3 wr R S { s with marks := s.marks + 1 } pv uv g tgt v1 cs idx lf nx sl sb ∧ Arr wr ctb cs.length (fun j => if j ∈ (cs.take i).map (fun p => idx (nx p)) then 2 else 0) ∧ SZ wr ctb cc' ∧ o3 ctb = 33 ∧ Rw o3 wr 34 shb 3 sc' (zints (List.replicate i 2)) ∧ QAt o3 wr v.qb qn qbl ∧ Ob o3 wr 99 B1 95 #[.pointer (some ⟨S, 0, none⟩)] ∧ Ob o3 wr 99 B3 26 #[.pointer (some ⟨g.G, 0, none⟩)] ∧ Ob o3 wr 99 B4 44 #[.pointer (some ⟨R, 0, none⟩)] ∧ Ob o3 wr 99 B9 24 #[.slice (some ⟨ctb, 0, none⟩) cs.length cc'] ∧ Ob o3 wr 99 B10 24 #[.slice (some ⟨shb, 0, none⟩) cs.length sc'] ∧ Step TT o W o3 wr) (fun q _ => cs.length - (intOf q).toNat)
        case atStart =>
          obtain ⟨h1, h2, h3, h4, h5, h6, h7, h8, h9, h10, h11⟩ := HG.out
          exact ⟨0, o2, rfl, by omega, h1, by simpa using h2, h3, tct, by simpa [zints] using h4, h5, h6, h7, h8, h9, h10, h11⟩
        case round =>
          clear HG
          obtain ⟨i, o3, rfl, hi, V3, A3, Z3, T3, W3, Q3, q1, q3, q4, q9, q10, S3⟩ := hrel
          by_cases hlt : i < cs.length
          · have hpm : cs[i] ∈ cs := List.getElem_mem hlt
            obtain ⟨hr1, hr2, hr3, hr4, hr5⟩ := hX.cyc.root _ hpm
            have hpn := hX.cyc.lt _ hpm
            have x1 := HCC.out _ _ V3.sa.cands i hlt
            obtain ⟨X, o4, B11, e11, z11, k11, t11, s11⟩ := alloc_step' o3 wr 99 (.cells #[.int .i64 (i : Int)] 3)
            have V4 := V3.step hne s11 (by simp)
            have b11 : Ob o4 X 99 B11 3 #[.int .i64 (i : Int)] := ⟨k11, t11⟩
            have c3 : X.cell? ⟨B3, 0, none⟩ = some (.pointer (some ⟨g.G, 0, none⟩)) := (q3.step s11 (by simp)).cell 0
            have c4 : X.cell? ⟨B4, 0, none⟩ = some (.pointer (some ⟨R, 0, none⟩)) := (q4.step s11 (by simp)).cell 0
            have c10 : X.cell? ⟨B10, 0, none⟩ = some (.slice (some ⟨shb, 0, none⟩) cs.length sc') := (q10.step s11 (by simp)).cell 0
            have c11 : X.cell? ⟨B11, 0, none⟩ = some (.int .i64 (i : Int)) := b11.cell 0
            have hW4 := W3.step s11 (by simp)
            have hzl : (zints (List.replicate i 2)).length = i := by simp [zints]
            obtain ⟨u, hu⟩ := hW4.has i (by omega)
            have hf := hW4.frozen i
            have HS := hid (fun q => share_any o4 (X.drewN q) R B3 B4 { s with marks := s.marks + 1 } pv uv (V4.r.step (Step.drewN [] o4 X q) (by simp) (by simp) (by simp) (by simp)) g (V4.ng.gat.step (Step.drewN [] o4 X q) (by simp) (by simp) (by simp)) c3 c4 V4.ng.hN hX.n hX.M cs[i] (lf cs[i]) hpn hr1 hr3 (hX.ne _ hpm))
            simp only [Hgr.out _ hpm] at HS
            have HPf : Hid (∀ q, Rw o4 ((X.drewN q).setCell ⟨shb, i, none⟩ (.int .i64 2)) 34 shb 3 sc' (zints (List.replicate (i + 1) 2)) ∧ Step [34] o4 X o4 ((X.drewN q).setCell ⟨shb, i, none⟩ (.int .i64 2))) := fun q => by
              have hq := hW4.step (Step.drewN [] o4 X q) (by simp)
              have h6 := hq.push1 (.int .i64 2) (by rw [hzl]; omega)
              rw [hzl] at h6
              refine ⟨?_, (Step.drewN [34] o4 X q).trans (hq.sset i _ (by simp))⟩
              rw [List.replicate_succ', zints_snoc]; exact h6
            have n10 : B10 ≠ shb := fun e => by have h1 := q10.tag; have h2 := W3.tag; rw [e] at h1; omega
            have n11 : B11 ≠ shb := fun e => by have h1 := b11.tag; have h2 := hW4.tag; rw [e] at h1; omega
            have b5 : (i : Int) < (cs.length : Int) := by omega
            have HK := hid (And.intro V4 (And.intro (A3.kept (s11.block _ A3.lt (by simp))) (And.intro (Z3.kept (s11.block _ A3.lt (by simp))) (And.intro ((s11.own _ A3.lt).trans T3) (And.intro (Q3.step s11 (by simp) (by simp)) (And.intro (q1.step s11 (by simp)) (And.intro (q3.step s11 (by simp)) (And.intro (q4.step s11 (by simp)) (And.intro (q9.step s11 (by simp)) (And.intro (q10.step s11 (by simp)) (And.intro b11 (And.intro hW4 (S3.trans (s11.mono (by simp)))))))))))))))
            clear V3 A3 Z3 T3 W3 Q3 q1 q3 q4 q9 q10 S3 V4 b11 hW4 k11 t11 s11 hr1 hr2 hr4 hr5 hzl
            go_upto_region 13 with fail
            clear e11 z11
            go_cut [] from 78 to 83 (fun wx => Rw o4 wx 34 shb 3 sc' (zints (List.replicate (i + 1) 2)) ∧ Step [34] o4 X o4 wx)
            case first =>
              go_region_held3 (fun w' => w'.cell? ⟨B10, 0, none⟩ = some (.slice (some ⟨shb, 0, none⟩) cs.length sc') ∧ w'.cell? ⟨B11, 0, none⟩ = some (.int .i64 (i : Int)) ) (first | go_keep | exact ⟨cell_ne c10 n10, cell_ne c11 n11⟩ | fail)
                (first | (go_at_call 94; refine (HS.out 1).mono ?_; rintro e w2 ⟨rfl, m, rfl⟩))
              all_goals
                go_wp2_with fail
                go_meet
                exact HPf.out _
            case rest =>
              obtain ⟨W5, s5⟩ := hcut
              obtain ⟨V4, A4, Z4, T4, Q4, q1, q3, q4, q9, q10, b11, hW4, S4⟩ := HK.out
              have V5 := V4.step hne s5 (by decide)
              have A5 := A4.kept (s5.block _ A4.lt (by rw [T4]; simp))
              have Z5 := Z4.kept (s5.block _ A4.lt (by rw [T4]; simp))
              have j1 := (q1.step s5 (by simp)).cell 0
              have j3 := (q3.step s5 (by simp)).cell 0
              have j4 := (q4.step s5 (by simp)).cell 0
              have hqm := hX.cyc.hnx _ hpm
              have hji := hX.cyc.idx_lt hqm
              have hnot : idx (nx cs[i]) ∉ (cs.take i).map (fun p => idx (nx p)) := by
                intro hm6
                obtain ⟨p, hp, e⟩ := List.mem_map.1 hm6
                have hpc : p ∈ cs := List.mem_of_mem_take hp
                have e1 : nx p = nx cs[i] := by
                  have h7 := hX.cyc.at_idx (hX.cyc.hnx p hpc)
                  have h8 := hX.cyc.at_idx hqm
                  rw [← h7, ← h8]; congr 1
                have e2 := hX.cyc.inj hpc hpm e1
                obtain ⟨k, hk, e3⟩ := List.mem_iff_getElem.1 hp
                rw [List.getElem_take] at e3
                have hk2 : k < i := by simp at hk; omega
                have := (List.getElem_inj hX.cyc.nd).1 (e3.trans e2)
                omega
              have hci : wc.cell? ⟨shb, i, none⟩ = some (.int .i64 2) := by
                have := W5.cell i (by simp [zints])
                rw [this]; simp [zints]
              have HN := hid (named_any o4 wc R S B3 B4 B1 { s with marks := s.marks + 1 } pv uv V5.r g tgt v1 cs idx lf nx sl sb hX.cyc hX.sl hX.n hX.M V5.ng V5.sa.ob V5.sa.hslot V5.sa.slot j3 j4 j1 cs[i] hpm (hX.ne _ hpm) 95 #[.pointer (some ⟨B9, 0, none⟩), .pointer (some ⟨B10, 0, none⟩), .pointer (some ⟨B11, 0, none⟩)] (enters_of Ybaz.func95 (by kernel_rfl) rfl)
                (fun o1 W1 w' => Arr w' ctb cs.length (fun j => if j ∈ (cs.take (i + 1)).map (fun p => idx (nx p)) then 2 else 0) ∧ (∀ c, SZ W1 ctb c → SZ w' ctb c) ∧ Step [33] o1 W1 o1 w')
                (fun o1 W1 st => by
                  have A6 := A5.kept (st.block _ A5.lt (by simp))
                  refine (count_at o1 W1 B9 B10 B11 ctb cs.length cc' shb sc' _ 2 (((q9.step s5 (by simp)).step st (by simp)).cell 0) (((q10.step s5 (by simp)).step st (by simp)).cell 0) i (((b11.step s5 (by simp)).step st (by simp)).cell 0) A6 ((st.own _ A5.lt).trans ((s5.own _ A4.lt).trans T4)) ((st.cell (p := ⟨shb, i, none⟩) W5.lt (by simp)).trans hci) hN3 hlt (idx (nx cs[i])) hji (by simp only [hnot]; simp) (by omega)).mono ?_
                  rintro e w' ⟨hr, ha, hz, hs⟩
                  refine ⟨hr, ⟨[33], o1, by decide, hs⟩, ha.congr fun j _ => ?_, hz, hs⟩
                  have et : cs.take (i + 1) = cs.take i ++ [cs[i]] := by rw [List.take_add_one]; simp [List.getElem?_eq_getElem hlt]
                  rw [et, List.map_append]
                  by_cases e : j = idx (nx cs[i])
                  · rw [if_pos e]
                    have e8 : j ∈ (cs.take i).map (fun p => idx (nx p)) ++ [cs[i]].map (fun p => idx (nx p)) := List.mem_append.2 (.inr (by rw [e]; simp))
                    rw [if_pos e8, if_neg hnot]; rfl
                  · rw [if_neg e]
                    have e9 : (j ∈ (cs.take i).map (fun p => idx (nx p)) ++ [cs[i]].map (fun p => idx (nx p))) ↔ j ∈ (cs.take i).map (fun p => idx (nx p)) := by
                      rw [List.mem_append]; simp [e]
                    simp only [e9]))
              have HF := hid (And.intro V5 (And.intro Z5 (And.intro ((s5.own _ A4.lt).trans T4) (And.intro W5 (And.intro (Q4.step s5 (by simp) (by simp; omega)) (And.intro (q1.step s5 (by simp)) (And.intro (q3.step s5 (by simp)) (And.intro (q4.step s5 (by simp)) (And.intro (q9.step s5 (by simp)) (And.intro (q10.step s5 (by simp)) (And.intro A5.lt (S4.trans (s5.mono (by decide))))))))))))))
              clear W5 s5 V4 A4 Z4 T4 Q4 q1 q3 q4 q9 q10 b11 hW4 S4 V5 A5 Z5 hci hnot HK HPf HS hu hf c3 c4 c10 c11 x1 n10 n11
              go_wp2_with (go_at_call 93; refine HN.out.mono ?_; rintro e w6 ⟨⟨r, rfl⟩, o5, W1, sA, hA6, hZ6, sB⟩)
              go_roundw
              case rel =>
                obtain ⟨V5, Z5, T5, W5, Q5, q1, q3, q4, q9, q10, hlt5, S5⟩ := HF.out
                have s6 := (sA.mono (T' := [33]) (by simp)).trans sB
                exact ⟨i + 1, o5, by go_num, by omega, V5.step hne s6 (by decide), hA6, hZ6 _ (Z5.kept (sA.block _ hlt5 (by simp))), (s6.own _ hlt5).trans T5, W5.step s6 (by simp), Q5.step s6 (by simp) (by simp; omega), q1.step s6 (by simp), q3.step s6 (by simp), q4.step s6 (by simp), q9.step s6 (by simp), q10.step s6 (by simp), S5.trans (s6.mono (by decide))⟩
              case measure => simp [intOf]; omega
          · obtain rfl : i = cs.length := by omega
            have A4 : Arr wr ctb cs.length (fun j => ((2 : Nat) : Int)) := A3.congr fun j hj => by
              have hm7 : j ∈ (cs.take cs.length).map (fun p => idx (nx p)) := by
                rw [List.take_length]
                obtain ⟨q, hq, e⟩ := hX.cyc.pred (List.getElem_mem hj)
                exact List.mem_map.2 ⟨q, hq, by rw [e]; exact hX.cyc.hidx j hj⟩
              show (if j ∈ (cs.take cs.length).map (fun p => idx (nx p)) then (2 : Int) else 0) = _
              rw [if_pos hm7]; rfl
            have x1 : wr.cell? ⟨B1, 0, none⟩ = some (.pointer (some ⟨S, 0, none⟩)) := q1.cell 0
            obtain ⟨X, o4, B13, e13, z13, k13, t13, s13⟩ := alloc_step' o3 wr 99 (.cells #[.pointer (some ⟨S, 16, none⟩)] 144)
            have b13 : Ob o4 X 99 B13 144 #[.pointer (some ⟨S, 16, none⟩)] := ⟨k13, t13⟩
            have x13 : X.cell? ⟨B13, 0, none⟩ = some (.pointer (some ⟨S, 16, none⟩)) := b13.cell 0
            have x9 : X.cell? ⟨B9, 0, none⟩ = some (.slice (some ⟨ctb, 0, none⟩) cs.length cc') := (q9.step s13 (by simp)).cell 0
            have V4 := V3.step hne s13 (by simp)
            have A5 := A4.kept (s13.block _ A4.lt (by simp))
            have Z5 := Z3.kept (s13.block _ A4.lt (by simp))
            have hvq : v1.qb = v.qb := by rw [Hv1.out]
            have HC := hid (reset_any o4 X S v1 V4.sa.ob ctb cs.length cc' (fun _ => 2) A5 ((s13.own _ A4.lt).trans T3) Z5 qn qbl (by rw [hvq]; exact Q3.step s13 (by simp) (by simp)) hN3 hne (fun _ _ => Nat.le_refl _))
            have HF := hid (And.intro V4 (And.intro (W3.step s13 (by simp)) (And.intro (q1.step s13 (by simp)) (And.intro (q3.step s13 (by simp)) (And.intro (q4.step s13 (by simp)) (And.intro (q9.step s13 (by simp)) (And.intro (q10.step s13 (by simp)) (And.intro b13 (S3.trans (s13.mono (by simp)))))))))))
            have b5 : ¬ (cs.length : Int) < (cs.length : Int) := by omega
            clear V3 A3 Z3 T3 W3 Q3 q1 q3 q4 q9 q10 S3 V4 A4 A5 Z5 b13 k13 t13 s13
            go_wp2_with (go_at_call 96; refine HC.out.mono ?_; rintro e w6 ⟨⟨r, rfl⟩, o5, qbv, n0, bl, top, TQ5, hn0, htop, htn, hbl1, hbl2, hbl3, s6⟩)
            obtain ⟨V4, W4, q1, q3, q4, q9, q10, b13, S4⟩ := HF.out
            obtain ⟨v2, hv2⟩ : ∃ v2 : VSt, v2 = { v1 with qc := .slice (some ⟨ctb, 0, none⟩) cs.length cc', qb := qbv, qt := .int .i64 top } := ⟨_, rfl⟩
            rw [← hv2] at TQ5
            have VE2 : VEq v v2 := by rw [hv2]; exact VE1.trans ⟨rfl, rfl, rfl, rfl, rfl, rfl, rfl, rfl, rfl, rfl, rfl, rfl⟩
            have VH6 : VH o5 w6 R S { s with marks := s.marks + 1 } pv uv g tgt v2 cs idx lf nx sl sb := V4.turn hne s6 (by decide) (V4.r.step s6 (by decide) (by decide) (by decide) (by decide)) (V4.ng.step s6 (by decide) rfl rfl rfl rfl rfl rfl) TQ5.ob (by have := V4.lc.step s6 (by decide) (by decide); rw [hv2]; exact this) (by rw [hv2]; exact ⟨rfl, rfl, rfl, rfl, rfl, rfl, rfl, rfl, rfl, rfl, rfl, rfl⟩) (by rw [hv2]) (by rw [hv2]) (by rw [hv2])
            have HN := hid (next_first o5 w6 R S B4 B1 _ pv uv g tgt v2 cs idx lf nx sl sb hX VH6 false Hgr.out (q4.step s6 (by decide)) (q1.step s6 (by decide)) ctb cc' _ n0 bl top TQ5 (by omega) htn (by omega) hbl1 (fun j hj => by have := hbl2 j hj; omega) (fun _ => ⟨2, (hbl3 0 hne).2.1, 0, (hbl3 0 hne).2.2, rfl⟩))
            have y13 : w6.cell? ⟨B13, 0, none⟩ = some (.pointer (some ⟨S, 16, none⟩)) := (b13.step s6 (by decide)).cell 0
            have hv2c : v2.count = .slice (some ⟨ctb, 0, none⟩) cs.length cc' ∧ v2.shares = .slice (some ⟨shb, 0, none⟩) cs.length sc' := by rw [hv2, Hv1.out]; exact ⟨rfl, rfl⟩
            have HG6 := hid (And.intro VH6 (And.intro (W4.step s6 (by decide)) (And.intro (q1.step s6 (by decide)) (And.intro (q3.step s6 (by decide)) (And.intro (q4.step s6 (by decide)) (And.intro (q9.step s6 (by decide)) (And.intro (q10.step s6 (by decide)) (And.intro (b13.step s6 (by decide)) (And.intro (S4.trans (s6.mono (T' := TT) (by decide))) (And.intro VE2 hv2c))))))))))
            have Hbl := hid (And.intro hbl1 (And.intro hbl2 hbl3))
            clear V4 W4 q1 q3 q4 q9 q10 b13 S4 s6 VH6 TQ5 hv2 HF HC x1 x13 x9 e13 z13 VE2 hv2c hbl1 hbl2 hbl3 Hv1
            refine wp_loop_rounds 2 ?_
            rw [rounds_succ]
            obtain ⟨ua, ucap, huv, hucap⟩ := HG6.out.1.r.und.val
            rw [zints_length] at huv hucap
            have hucm : ucap ≤ 9223372036854775807 := by
              rcases HG6.out.1.r.und.form with ⟨h8, h9⟩ | ⟨g8, cap8, h8, _, h10, _⟩
              · rw [huv] at h8; simp at h8; omega
              · rw [huv] at h8; simp at h8; rw [h8.2.2]; unfold maxLen at h10; omega
            have Huv := hid huv
            clear huv
            go_wp2_with (go_at_call 97; refine HN.out.mono ?_; rintro e w7 ⟨i, o7, qbv7, bl7, top7, rfl, hi7, TQ7, ht7, ht7', hpre7, s7⟩; have y4 : w7.cell? ⟨B4, 0, none⟩ = some (.pointer (some ⟨R, 0, none⟩)) := (HG6.out.2.2.2.2.1.step s7 (by decide)).cell 0; have y7 : w7.cell? ⟨R, 7, none⟩ = some (.slice ua s.und.length ucap) := by { rw [← Huv.out]; exact (HG6.out.1.r.ob.step s7 (by decide)).cell 7 })
            obtain ⟨hi7, htop7⟩ := hi7 (by simp)
            obtain ⟨VH6, W6, q1, q3, q4, q9, q10, b13, S6, VE2, hv2c⟩ := HG6.out
            obtain ⟨v3, hv3⟩ : ∃ v3 : VSt, v3 = { v2 with qb := qbv7, qt := .int .i64 top7 } := ⟨_, rfl⟩
            rw [← hv3] at TQ7
            have VE3 : VEq v v3 := by rw [hv3]; exact VE2.trans ⟨rfl, rfl, rfl, rfl, rfl, rfl, rfl, rfl, rfl, rfl, rfl, rfl⟩
            have VH7 : VH o7 w7 R S { s with marks := s.marks + 1 } pv uv g tgt v3 cs idx lf nx sl sb := VH6.turn hne s7 (by decide) (VH6.r.step s7 (by decide) (by decide) (by decide) (by decide)) (VH6.ng.step s7 (by decide) rfl rfl rfl rfl rfl rfl) TQ7.ob (by have := VH6.lc.step s7 (by decide) (by decide); rw [hv3]; exact this) (by rw [hv3]; exact ⟨rfl, rfl, rfl, rfl, rfl, rfl, rfl, rfl, rfl, rfl, rfl, rfl⟩) (by rw [hv3]) (by rw [hv3]) (by rw [hv3])
            obtain ⟨slb, scap, hslv, hsl1, hsl2, hsl3, hsl4⟩ := VH7.sls
            have hscm : scap ≤ 9223372036854775807 := by unfold maxLen at hsl2; omega
            have y1 : w7.cell? ⟨B1, 0, none⟩ = some (.pointer (some ⟨S, 0, none⟩)) := (q1.step s7 (by decide)).cell 0
            have y12 : w7.cell? ⟨S, 12, none⟩ = some (.slice (some ⟨slb, 0, none⟩) cs.length scap) := by rw [← hslv]; exact VH7.sa.ob.cell 12
            have HA := hid (fun q => abort_any o7 (w7.drewN q) R S { s with marks := s.marks + 1 } pv uv (VH7.r.step (Step.drewN [] o7 w7 q) (by simp) (by simp) (by simp) (by simp)) g tgt v3 cs idx lf nx sl sb hX.cyc hX.sl hX.n hX.M (VH7.ng.step (Step.drewN [] o7 w7 q) (by simp) rfl rfl rfl rfl rfl rfl) (VH7.sa.step (Step.drewN [] o7 w7 q) (by simp) (by simp) (by simp)) (VH7.lc.step (Step.drewN [] o7 w7 q) (by simp) (by simp)) hX.wp (by show 0 < s.marks + 1; omega) (by show s.marks + 1 ≤ 900; omega) (by show s.und.length ≤ 500; omega) hp0 Hgr.out slb (scap - i) i hi7 (hsl4 i hi7))
            have hv3c : v3.count = .slice (some ⟨ctb, 0, none⟩) cs.length cc' ∧ v3.shares = .slice (some ⟨shb, 0, none⟩) cs.length sc' := by rw [hv3]; exact hv2c
            have bi4 : (0 : Int) ≤ (i : Int) + 1 := by omega
            have bi5 : ¬ scap = i := by omega
            have bi7 : (i : Int) ≤ 300 := by omega
            have hwi : IntKind.i64.wrap ((i : Int) + 1) = (i : Int) + 1 := by rw [IntKind.wrap_i64]; omega
            have bi6 : ((i : Int) + 1).toNat = i + 1 := by omega
            have bi1 : (i : Int) < (cs.length : Int) := by omega
            have bi2 : (i : Int) + 1 ≤ (cs.length : Int) := by omega
            have bi3 : (i : Int) + 1 ≤ (scap : Int) := by omega
            have HG7 := hid (And.intro VH7 (And.intro TQ7 (And.intro (W6.step s7 (by decide)) (And.intro (q1.step s7 (by decide)) (And.intro (q3.step s7 (by decide)) (And.intro (q4.step s7 (by decide)) (And.intro (q9.step s7 (by decide)) (And.intro (q10.step s7 (by decide)) (And.intro (b13.step s7 (by decide)) (And.intro (S6.trans (s7.mono (T' := TT) (by decide))) (And.intro VE3 hv3c)))))))))))
            clear VH6 W6 q1 q3 q4 q9 q10 b13 S6 VE2 hv2c VH7 TQ7 VE3 hv3c s7 HG6 HN hsl1 hsl2 hsl3 hsl4 y7 y4 y13 hv3 hslv
            go_cut [] from 109 to 118 (fun wx => ∃ o8 pv8 uv8 nf ni new lfv liv, RAt o8 wx R { s with marks := s.marks + 1, nf := nf, ni := ni, gr := grown s.gr new, pend := [], und := s.und ++ new.map fun p : Nat => -1 - (p : Int) } pv8 uv8 ∧ new.Nodup ∧ (∀ q, q ∈ new ↔ q ∈ cs) ∧ NG g tgt o8 wx { s with marks := s.marks + 1, nf := nf, ni := ni, gr := grown s.gr new, pend := [], und := s.und ++ new.map fun p : Nat => -1 - (p : Int) } ∧ SAt o8 wx S { v3 with lf := lfv, li := liv } g R cs sl sb ∧ LcAt o8 wx { v3 with lf := lfv, li := liv } cs idx lf nx ∧ Step [1, 2, 3, 4, 20] o7 w7 o8 wx)
            case first =>
              go_region_held3 (fun w' => w'.cell? ⟨B1, 0, none⟩ = some (.pointer (some ⟨S, 0, none⟩)) ∧ w'.cell? ⟨S, 12, none⟩ = some (.slice (some ⟨slb, 0, none⟩) cs.length scap)) (first | go_keep | exact ⟨k1, k2⟩ | fail)
                (first | (go_at_call 99; refine (HA.out 1).mono ?_; rintro e w8 ⟨⟨r, rfl⟩, o8, pv8, uv8, nf, ni, new, lfv, liv, R8, hnd, hmem, N8, S8, L8, s8⟩; have s8' := (Step.drewN [1, 2, 3, 4, 20] o7 w7 1).trans s8; have k1 : w8.cell? ⟨B1, 0, none⟩ = some (.pointer (some ⟨S, 0, none⟩)) := (HG7.out.2.2.2.1.step s8' (by decide)).cell 0; have k2 : w8.cell? ⟨S, 12, none⟩ = some (.slice (some ⟨slb, 0, none⟩) cs.length scap) := by { have h9 := S8.ob.cell 12; have h10 := HG7.out.1.sa.ob.cell 12; exact h9.trans (h10.symm.trans y12) }))
              all_goals
                go_wp2_with fail
                go_meet
                exact ⟨o8, pv8, uv8, nf, ni, new, lfv, liv, R8, hnd, hmem, N8, S8, L8, s8'⟩
            case rest =>
              obtain ⟨o8, pv8, uv8, nf, ni, new, lfv, liv, R8, hnd, hmem, N8, S8, L8, s8⟩ := hcut
              obtain ⟨VH7, TQ7, W7, q1, q3, q4, q9, q10, b13, S7, VE3, hv3c⟩ := HG7.out
              obtain ⟨v4, hv4⟩ : ∃ v4 : VSt, v4 = { v3 with lf := lfv, li := liv } := ⟨_, rfl⟩
              rw [← hv4] at S8 L8
              obtain ⟨s9, hs9⟩ : ∃ s9 : RS, s9 = { s with marks := s.marks + 1, nf := nf, ni := ni, gr := grown s.gr new, pend := [], und := s.und ++ new.map fun p : Nat => -1 - (p : Int) } := ⟨_, rfl⟩
              rw [← hs9] at R8 N8
              have VE4 : VEq v v4 := by rw [hv4]; exact VE3.trans ⟨rfl, rfl, rfl, rfl, rfl, rfl, rfl, rfl, rfl, rfl, rfl, rfl⟩
              have VH8 : VH o8 wc R S s9 pv8 uv8 g tgt v4 cs idx lf nx sl sb := VH7.turn hne s8 (by decide) R8 N8 S8.ob L8 (by rw [hv4]; exact ⟨rfl, rfl, rfl, rfl, rfl, rfl, rfl, rfl, rfl, rfl, rfl, rfl⟩) (by rw [hv4]) (by rw [hv4]) (by rw [hv4])
              have TQ8 : TQ o8 wc S v4 ctb cs.length cc' (fun _ => ((2 : Nat) : Int)) n0 bl7 top7 :=
                ⟨S8.ob, by rw [hv4]; exact TQ7.qc, TQ7.ct.kept (s8.block _ TQ7.ct.lt (by rw [TQ7.tct]; decide)), (s8.own _ TQ7.ct.lt).trans TQ7.tct, by rw [hv4]; exact TQ7.qb.step s8 (by decide) (by simp; omega), by rw [hv4]; exact TQ7.qt, TQ7.sz.kept (s8.block _ TQ7.ct.lt (by rw [TQ7.tct]; decide))⟩
              have hv4c : v4.count = .slice (some ⟨ctb, 0, none⟩) cs.length cc' ∧ v4.shares = .slice (some ⟨shb, 0, none⟩) cs.length sc' := by rw [hv4]; exact hv3c
              have hnl : new.length = cs.length := by
                have h1 := nodup_sub' hnd (fun q hq => (hmem q).1 hq)
                have h2 := nodup_sub' hX.cyc.nd (fun q hq => (hmem q).2 hq)
                omega
              have hul : s9.und.length = s.und.length + cs.length := by rw [hs9]; simp [hnl]
              obtain ⟨ub, ucap8, huv8, hul1, hul2, _, _⟩ := R8.und.some_of (by rw [zints_length, hul]; omega)
              rw [zints_length, hul] at huv8 hul1
              have huc : ∀ k (hk : k < new.length), wc.cell? ⟨ub, s.und.length + k, none⟩ = some (.int .i64 (-1 - (new[k] : Int))) := by
                intro k hk
                have hh := R8.und
                rw [huv8, ← hul, ← zints_length s9.und] at hh
                rw [hh.cell (s.und.length + k) (by rw [zints_length, hul]; omega)]
                simp [zints, hs9]
              obtain ⟨tb, tcap, wt, hrt, htcm, ot, slt, st⟩ := app_nil o8 wc 98 (.int .i64 (i : Int))
              have VH9 := VH8.step hne st (by simp)
              have TQ9 := TQ8.step st (by simp) (by simp) (by simp) (by simp)
              have s89 := s8.trans (st.mono (T' := [1, 2, 3, 4, 20]) (by simp))
              have W9 := W7.step s89 (by decide)
              have hulm : ucap8 ≤ 9223372036854775807 := by unfold maxLen at hul2; omega
              obtain ⟨ad, ac2, hsl5, had⟩ := slice_from (some ⟨ub, 0, none⟩) (s.und.length + cs.length) ucap8 s.und.length (by omega) hul1
              have had := had ub (by omega) rfl
              subst had
              rw [show s.und.length + cs.length - s.und.length = cs.length by omega] at hsl5
              have z4 : wt.cell? ⟨B4, 0, none⟩ = some (.pointer (some ⟨R, 0, none⟩)) := (q4.step s89 (by decide)).cell 0
              have z7 : wt.cell? ⟨R, 7, none⟩ = some (.slice (some ⟨ub, 0, none⟩) (s.und.length + cs.length) ucap8) := by rw [← huv8]; exact VH9.r.ob.cell 7
              have huc9 : ∀ k (hk : k < new.length), wt.cell? ⟨ub, s.und.length + k, none⟩ = some (.int .i64 (-1 - (new[k] : Int))) := fun k hk => (st.cell (p := ⟨ub, s.und.length + k, none⟩) (World.block_lt_of_cell? _ _ (huc k hk)) (by simp)).trans (huc k hk)
              have A9 : Arr wt shb cs.length (fun _ => 2) := by
                obtain ⟨cur, hb, hs, hf⟩ := W9.blk
                refine ⟨cur, hb, by omega, fun j hj => ?_⟩
                have := hf j (by simp [zints]; exact hj)
                rw [this]; simp [zints]
              have Z9 : SZ wt shb sc' := by
                obtain ⟨cur, hb, hs, hf⟩ := W9.blk
                exact ⟨cur, hb, hs⟩
              have hub : ot ub = 4 := by rw [st.own _ (World.block_lt_of_cell? _ _ (huc 0 (by omega)))]; have := R8.und.tag ub (by rw [huv8]; rfl); exact this
              have HG9 := hid (And.intro VH9 (And.intro TQ9 (And.intro A9 (And.intro Z9 (And.intro W9.tag (And.intro (q1.step s89 (by decide)) (And.intro (q3.step s89 (by decide)) (And.intro (q4.step s89 (by decide)) (And.intro (q10.step s89 (by decide)) (And.intro (b13.step s89 (by decide)) (And.intro slt (And.intro (S7.trans (s89.mono (T' := TT) (by decide))) (And.intro VE4 (And.intro hv4c (And.intro huc9 hub)))))))))))))))
              have Hs9 := hid hs9
              have Hmem := hid hmem
              have Hnd := hid hnd
              have Hpre := hid hpre7
              have bl1 : (s.und.length : Int) ≤ 100 := by omega
              clear R8 N8 S8 L8 s8 VH7 TQ7 W7 q1 q3 q4 q9 q10 b13 S7 VE3 hv3c VE4 VH8 TQ8 hv4c VH9 TQ9 s89 W9 A9 Z9 huc huc9 slt st hs9 hv4 HG7 HA hul y1 y12 hub hmem hnd hpre7
              go_wp2_with (at_builtin; refine wpList_append_is rfl _ _ 24 rfl _ _ _ _ rfl rfl hrt ?_)
              clear hrt z4 z7 hsl5
              have hucW : ∀ (o' : Nat → Nat) (wr : World), RAt o' wr R s9 pv8 uv8 → ∀ k (hk : k < new.length), wr.cell? ⟨ub, s.und.length + k, none⟩ = some (.int .i64 (-1 - (new[k] : Int))) := by
                intro o' wr hR k hk
                have hh := hR.und
                have hul : s9.und.length = s.und.length + cs.length := by rw [Hs9.out]; simp [hnl]
                rw [huv8, ← hul, ← zints_length s9.und] at hh
                rw [hh.cell (s.und.length + k) (by rw [zints_length, hul]; omega)]
                simp [zints, Hs9.out]
              have HucW := hid hucW
              clear hucW
              go_loopw [130] (fun q wr => ∃ (k : Nat) (o9 : Nat → Nat) (v5 : VSt) (n1 : Nat) (bl : Nat → List Nat) (tp : Int), q = .int .i64 (k : Int) ∧ k ≤ cs.length ∧ VH o9 wr R S s9 pv8 uv8 g tgt v5 cs idx lf nx sl sb ∧ TQ o9 wr S v5 ctb cs.length cc' (fun j => if j ∈ (new.take k).map (fun p => idx (nx p)) then 0 else 2) n1 bl tp ∧ Arr wr shb cs.length (fun j => if j ∈ (new.take k).map idx then 0 else 2) ∧ SZ wr shb sc' ∧ o9 shb = 34 ∧ Ob o9 wr 99 B1 95 #[.pointer (some ⟨S, 0, none⟩)] ∧ Ob o9 wr 99 B3 26 #[.pointer (some ⟨g.G, 0, none⟩)] ∧ Ob o9 wr 99 B4 44 #[.pointer (some ⟨R, 0, none⟩)] ∧ Ob o9 wr 99 B10 24 #[.slice (some ⟨shb, 0, none⟩) cs.length sc'] ∧ Ob o9 wr 99 B13 144 #[.pointer (some ⟨S, 16, none⟩)] ∧ Sl o9 wr 98 3 (.slice (some ⟨tb, 0, none⟩) 1 tcap) [.int .i64 (i : Int)] ∧ Step TT o W o9 wr ∧ VEq v v5 ∧ (v5.count = .slice (some ⟨ctb, 0, none⟩) cs.length cc' ∧ v5.shares = .slice (some ⟨shb, 0, none⟩) cs.length sc') ∧ n1 ≤ 3 ∧ -1 ≤ tp ∧ tp < (n1 : Int) ∧ (∀ j, j < n1 → ∀ i ∈ bl j, i < cs.length) ∧ (∀ j, j < n1 → (bl j).length ≤ cs.length + k)) (fun q _ => cs.length - (intOf q).toNat)
              case atStart =>
                obtain ⟨VH9, TQ9, A9, Z9, T9, q1, q3, q4, q10, b13, slt, S9, VE4, hv4c, huc9, hub⟩ := HG9.out
                obtain ⟨hbl1, hbl2, hbl3⟩ := Hbl.out
                refine ⟨0, ot, v4, n0, bl7, top7, rfl, by omega, VH9, by simpa using TQ9, by simpa using A9, Z9, T9, q1, q3, q4, q10, b13, slt, S9, VE4, hv4c, hn0, by omega, by omega, fun j hj x hx => hbl1 j hj x ((Hpre.out j hj).subset hx), fun j hj => by have := (Hpre.out j hj).length_le; have := hbl2 j hj; omega⟩
              case round =>
                clear HG9
                obtain ⟨k, o9, v5, n1, bl9, tp, rfl, hk, V9, T9, A9, Z9, G9, q1, q3, q4, q10, b13, slt, S9, VE5, hv5c, hn1, htp0, htp1, hb1, hb2⟩ := hrel
                by_cases hlt : k < cs.length
                · have hkn : k < new.length := by omega
                  obtain ⟨p, hp⟩ : ∃ p, new[k] = p := ⟨_, rfl⟩
                  have hpm : p ∈ cs := by rw [← hp]; exact (Hmem.out _).1 (List.getElem_mem hkn)
                  obtain ⟨hr1, hr2, hr3, hr4, hr5⟩ := hX.cyc.root _ hpm
                  have hpn := hX.cyc.lt _ hpm
                  have hpi := hX.cyc.idx_lt hpm
                  have hqm := hX.cyc.hnx _ hpm
                  have hqi := hX.cyc.idx_lt hqm
                  have et : new.take (k + 1) = new.take k ++ [p] := by rw [List.take_add_one]; simp [List.getElem?_eq_getElem hkn, hp]
                  have hpt : p ∉ new.take k := by
                    intro h1
                    have h2 : (new.take (k + 1)).Nodup := (List.take_sublist _ _).nodup Hnd.out
                    rw [et, List.nodup_append] at h2
                    exact h2.2.2 _ h1 _ (by simp) rfl
                  have hidx : ∀ a ∈ cs, ∀ b ∈ cs, idx a = idx b → a = b := fun a ha b hb e => by
                    have h7 := hX.cyc.at_idx ha
                    have h8 := hX.cyc.at_idx hb
                    rw [← h7, ← h8]; congr 1
                  have htk : ∀ a ∈ new.take k, a ∈ cs := fun a ha => (Hmem.out a).1 (List.mem_of_mem_take ha)
                  have hn1' : idx p ∉ (new.take k).map idx := by
                    intro h1
                    obtain ⟨a, ha, e⟩ := List.mem_map.1 h1
                    exact hpt (by rw [← hidx a (htk a ha) p hpm e]; exact ha)
                  have hn2' : idx (nx p) ∉ (new.take k).map (fun p => idx (nx p)) := by
                    intro h1
                    obtain ⟨a, ha, e⟩ := List.mem_map.1 h1
                    exact hpt (by rw [← hX.cyc.inj (htk a ha) hpm (hidx _ (hX.cyc.hnx a (htk a ha)) _ hqm e)]; exact ha)
                  have x1 := HucW.out o9 wr V9.r k hkn
                  rw [hp] at x1
                  have c1 : wr.cell? ⟨B1, 0, none⟩ = some (.pointer (some ⟨S, 0, none⟩)) := q1.cell 0
                  have c3 : wr.cell? ⟨B3, 0, none⟩ = some (.pointer (some ⟨g.G, 0, none⟩)) := q3.cell 0
                  have c4 : wr.cell? ⟨B4, 0, none⟩ = some (.pointer (some ⟨R, 0, none⟩)) := q4.cell 0
                  have c10 : wr.cell? ⟨B10, 0, none⟩ = some (.slice (some ⟨shb, 0, none⟩) cs.length sc') := q10.cell 0
                  have c8 : wr.cell? ⟨S, 8, none⟩ = some (.slice (some ⟨sb, 0, none⟩) g.n g.n) := by rw [← V9.sa.hslot]; exact V9.sa.ob.cell 8
                  have cs8 : wr.cell? ⟨sb, p, none⟩ = some (.int .i64 (idx p : Int)) := by have := V9.sa.slot.cell p hpn; rw [hX.sl p hpm] at this; exact this
                  have csh8 : wr.cell? ⟨shb, idx p, none⟩ = some (.int .i64 2) := by have := A9.cell (idx p) hpi; simp only [hn1'] at this; exact this
                  have hg9 : s9.gr p = true := by rw [Hs9.out]; simp [grown, (Hmem.out p).2 hpm]
                  have HS : Hid (Calls Ybaz.prog 94 #[.int .i64 (p : Int), .pointer (some ⟨B3, 0, none⟩), .pointer (some ⟨B4, 0, none⟩)] (wr.drewN 1) fun e w' => e = .returned (.int .i64 0) ∧ Hid (∃ m, w' = wr.drewN m) ∧ w'.cell? ⟨B1, 0, none⟩ = some (.pointer (some ⟨S, 0, none⟩)) ∧ w'.cell? ⟨B10, 0, none⟩ = some (.slice (some ⟨shb, 0, none⟩) cs.length sc') ∧ w'.cell? ⟨S, 8, none⟩ = some (.slice (some ⟨sb, 0, none⟩) g.n g.n) ∧ w'.cell? ⟨sb, p, none⟩ = some (.int .i64 (idx p : Int)) ∧ w'.cell? ⟨shb, idx p, none⟩ = some (.int .i64 2)) := by
                    refine (share_any o9 (wr.drewN 1) R B3 B4 s9 pv8 uv8 (V9.r.step (Step.drewN [] o9 wr 1) (by simp) (by simp) (by simp) (by simp)) g (V9.ng.gat.step (Step.drewN [] o9 wr 1) (by simp) (by simp) (by simp)) c3 c4 V9.ng.hN hX.n hX.M p (lf p) hpn hr1 hr3 (hX.ne _ hpm)).mono ?_
                    rintro e w' ⟨rfl, m, rfl⟩
                    rw [hg9]
                    exact ⟨rfl, ⟨1 + m, World.drewN_drewN _ _ _⟩, c1, c10, c8, cs8, csh8⟩
                  have HS2 : Hid (Calls Ybaz.prog 94 #[.int .i64 (p : Int), .pointer (some ⟨B3, 0, none⟩), .pointer (some ⟨B4, 0, none⟩)] ((wr.alloc (.cells #[.int .i64 0] 3)).drewN 1) fun e w' => e = .returned (.int .i64 0) ∧ Hid (∃ m, w' = (wr.alloc (.cells #[.int .i64 0] 3)).drewN m) ∧ w'.cell? ⟨B1, 0, none⟩ = some (.pointer (some ⟨S, 0, none⟩)) ∧ w'.cell? ⟨B10, 0, none⟩ = some (.slice (some ⟨shb, 0, none⟩) cs.length sc') ∧ w'.cell? ⟨S, 8, none⟩ = some (.slice (some ⟨sb, 0, none⟩) g.n g.n) ∧ w'.cell? ⟨sb, p, none⟩ = some (.int .i64 (idx p : Int)) ∧ w'.cell? ⟨shb, idx p, none⟩ = some (.int .i64 2) ∧ w'.cell? ⟨wr.heap.size, 0, none⟩ = some (.int .i64 0) ∧ w'.frozen? ⟨wr.heap.size, 0, none⟩ = false) := by
                    have sx := (Step.alloc [] o9 wr (.cells #[.int .i64 0] 3) 99).trans (Step.drewN [] _ (wr.alloc (.cells #[.int .i64 0] 3)) 1)
                    have bx := Ob.new o9 wr 99 3 #[.int .i64 0]
                    refine (share_any (tg o9 wr.heap.size 99) ((wr.alloc (.cells #[.int .i64 0] 3)).drewN 1) R B3 B4 s9 pv8 uv8 (V9.r.step sx (by simp) (by simp) (by simp) (by simp)) g (V9.ng.gat.step sx (by simp) (by simp) (by simp)) (cell_up c3 _) (cell_up c4 _) V9.ng.hN hX.n hX.M p (lf p) hpn hr1 hr3 (hX.ne _ hpm)).mono ?_
                    rintro e w' ⟨rfl, m, rfl⟩
                    rw [hg9]
                    exact ⟨rfl, ⟨1 + m, World.drewN_drewN _ _ _⟩, cell_up c1 _, cell_up c10 _, cell_up c8 _, cell_up cs8 _, cell_up csh8 _, bx.cell 0, bx.frozen 0⟩
                  have lB1 : B1 < wr.heap.size := World.block_lt_of_cell? _ _ c1
                  have lB10 : B10 < wr.heap.size := World.block_lt_of_cell? _ _ c10
                  have lS : S < wr.heap.size := World.block_lt_of_cell? _ _ c8
                  have lsb : sb < wr.heap.size := World.block_lt_of_cell? _ _ cs8
                  have lshb : shb < wr.heap.size := World.block_lt_of_cell? _ _ csh8
                  have hroot := root_at (-1 - (p : Int)) (p : Int) (by have := hX.n; omega) (by omega) (by omega)
                  have HRT := hid hroot
                  have hn3 := hX.n
                  have b5 : (k : Int) < (cs.length : Int) := by omega
                  have b6 : ¬ (0 : Int) ≤ -1 - (p : Int) := by omega
                  have b7 : (p : Int) < (g.n : Int) := by omega
                  have b8 : (idx p : Int) < (cs.length : Int) := by omega
                  have HG := hid (And.intro V9 (And.intro T9 (And.intro A9 (And.intro Z9 (And.intro G9 (And.intro q1 (And.intro q3 (And.intro q4 (And.intro q10 (And.intro b13 (And.intro slt (And.intro S9 (And.intro VE5 hv5c)))))))))))))
                  have HB := hid (And.intro hb1 hb2)
                  have Hq := hid (And.intro et (And.intro hn1' hn2'))
                  clear hpt hidx htk hn1' hn2' et V9 T9 A9 Z9 G9 q1 q3 q4 q10 b13 slt S9 VE5 hv5c hb1 hb2 hroot hr1 hr2 hr4 hr5
                  go_wp2_with (go_at_call 5; refine (HRT.out _).mono ?_; rintro e w' ⟨rfl, rfl⟩)
                  go_cut [21] from 149 to 162 (fun x21 wx => ∃ o10 B21, x21 = .pointer (some ⟨B21, 0, none⟩) ∧ Ob o10 wx 99 B21 3 #[.int .i64 (-2)] ∧ Step [] o9 wr o10 wx)
                  case first =>
                    go_region_held3 (fun w' => w'.cell? ⟨B1, 0, none⟩ = some (.pointer (some ⟨S, 0, none⟩)) ∧ w'.cell? ⟨B10, 0, none⟩ = some (.slice (some ⟨shb, 0, none⟩) cs.length sc') ∧ w'.cell? ⟨S, 8, none⟩ = some (.slice (some ⟨sb, 0, none⟩) g.n g.n) ∧ w'.cell? ⟨sb, p, none⟩ = some (.int .i64 (idx p : Int)) ∧ w'.cell? ⟨shb, idx p, none⟩ = some (.int .i64 2)) (first | go_keep | exact ⟨cell_far k1 lB1, cell_far k2 lB10, cell_far k3 lS, cell_far k4 lsb, cell_far k5 lshb⟩ | fail)
                      (first | (go_at_call 94; refine HS.out.mono ?_; rintro e w2 ⟨rfl, hw2, k1, k2, k3, k4, k5⟩) | (go_at_call 94; refine HS2.out.mono ?_; rintro e w2 ⟨rfl, hw2, k1, k2, k3, k4, k5, k6, k7⟩))
                    all_goals
                      go_wp2_with fail
                      go_meet
                      obtain ⟨m, hm⟩ := hw2.out
                      first
                        | exact ⟨_, _, rfl, Ob.new o9 w2 99 3 #[.int .i64 (-2)], by rw [hm]; exact (Step.drewN [] o9 wr m).trans (Step.alloc [] o9 _ _ 99)⟩
                        | (have bx := (Ob.new o9 wr 99 3 #[.int .i64 0]).step (Step.drewN [] _ (wr.alloc (.cells #[.int .i64 0] 3)) m) (by simp)
                           rw [← hm] at bx
                           have sx := (Step.alloc [] o9 wr (.cells #[.int .i64 0] 3) 99).trans (Step.drewN [] _ (wr.alloc (.cells #[.int .i64 0] 3)) m)
                           rw [← hm] at sx
                           exact ⟨_, _, rfl, bx.set 0 (.int .i64 (-2)), sx.retouch (by simp [World.setCell]) rfl rfl rfl (fun q hq => Below.heap_setCell _ _ _ _ (by show q ≠ wr.heap.size; omega))⟩)
                  case rest =>
                    obtain ⟨o10, B21, rfl, b21, s10⟩ := hcut
                    obtain ⟨V9, T9, A9, Z9, G9, q1, q3, q4, q10, b13, slt, S9, VE5, hv5c⟩ := HG.out
                    obtain ⟨hb1, hb2⟩ := HB.out
                    obtain ⟨et, hn1', hn2'⟩ := Hq.out
                    clear x1 c1 c3 c4 c10 c8 cs8 csh8 lB1 lB10 lS lsb lshb HS HS2 HRT
                    have V10 := V9.step hne s10 (by simp)
                    have T10 := T9.step s10 (by simp) (by simp) (by simp) (by simp)
                    have A10 := A9.kept (s10.block _ A9.lt (by simp))
                    have Z10 := Z9.kept (s10.block _ A9.lt (by simp))
                    have G10 : o10 shb = 34 := (s10.own _ A9.lt).trans G9
                    have y1 : wc.cell? ⟨B1, 0, none⟩ = some (.pointer (some ⟨S, 0, none⟩)) := (q1.step s10 (by simp)).cell 0
                    have y10 : wc.cell? ⟨B10, 0, none⟩ = some (.slice (some ⟨shb, 0, none⟩) cs.length sc') := (q10.step s10 (by simp)).cell 0
                    have y8 : wc.cell? ⟨S, 8, none⟩ = some (.slice (some ⟨sb, 0, none⟩) g.n g.n) := by rw [← V10.sa.hslot]; exact V10.sa.ob.cell 8
                    have ys8 : wc.cell? ⟨sb, p, none⟩ = some (.int .i64 (idx p : Int)) := by have := V10.sa.slot.cell p hpn; rw [hX.sl p hpm] at this; exact this
                    have ysh : wc.cell? ⟨shb, idx p, none⟩ = some (.int .i64 2) := by have := A10.cell (idx p) hpi; simp only [hn1'] at this; exact this
                    have yfr := A10.frozen (idx p)
                    have y21 : wc.cell? ⟨B21, 0, none⟩ = some (.int .i64 (-2)) := b21.cell 0
                    have s11 : Step [34] o10 wc o10 (wc.setCell ⟨shb, idx p, none⟩ (.int .i64 0)).drew := (Step.setCell wc (by simp [G10]) _).trans (Step.drew [34] o10 _)
                    have A11 : Arr (wc.setCell ⟨shb, idx p, none⟩ (.int .i64 0)).drew shb cs.length (fun j => if j ∈ (new.take (k + 1)).map idx then 0 else 2) := by
                      have := A10.set (idx p) 0
                      refine Arr.congr (Arr.kept (X := wc.setCell ⟨shb, idx p, none⟩ (.int .i64 0)) this rfl) fun j _ => ?_
                      show (if j = idx p then (0 : Int) else if j ∈ (new.take k).map idx then 0 else 2) = if j ∈ (new.take (k + 1)).map idx then 0 else 2
                      rw [et, List.map_append]
                      by_cases e : j = idx p
                      · rw [if_pos e, if_pos (List.mem_append.2 (.inr (by rw [e]; simp)))]
                      · rw [if_neg e]
                        have e9 : (j ∈ (new.take k).map idx ++ [p].map idx) ↔ j ∈ (new.take k).map idx := by rw [List.mem_append]; simp [e]
                        simp only [e9]
                    have Z11 : SZ (wc.setCell ⟨shb, idx p, none⟩ (.int .i64 0)).drew shb sc' := SZ.kept (X := wc.setCell ⟨shb, idx p, none⟩ (.int .i64 0)) (Z10.set _ _) rfl
                    have HP := hid (And.intro s11 (And.intro A11 Z11))
                    have HP2 : Hid (∀ q, Step [34] o10 wc o10 ((wc.drewN q).setCell ⟨shb, idx p, none⟩ (.int .i64 0)) ∧ Arr ((wc.drewN q).setCell ⟨shb, idx p, none⟩ (.int .i64 0)) shb cs.length (fun j => if j ∈ (new.take (k + 1)).map idx then 0 else 2) ∧ SZ ((wc.drewN q).setCell ⟨shb, idx p, none⟩ (.int .i64 0)) shb sc') := fun q => ⟨(Step.drewN [34] o10 wc q).trans (Step.setCell _ (by simp [G10]) _), A11.kept rfl, Z11.kept rfl⟩
                    have HV10 := hid (And.intro V10 (And.intro T10 (And.intro s10 (And.intro V9 (And.intro T9 (And.intro A9 (And.intro Z9 (And.intro G9 (And.intro q1 (And.intro q3 (And.intro q4 (And.intro q10 (And.intro b13 (And.intro slt (And.intro S9 (And.intro VE5 (And.intro hv5c (And.intro hb1 (And.intro hb2 (And.intro et (And.intro hn2' (And.intro b21 G10))))))))))))))))))))))
                    clear s11 A11 Z11 V10 T10 s10 V9 T9 A9 Z9 G9 q1 q3 q4 q10 b13 slt S9 VE5 hv5c hb1 hb2 et hn1' hn2' b21 G10 A10 Z10 HG HB Hq
                    go_upto_region 34 with fail
                    go_cut [] from 165 to 177 (fun wx => Step [34] o10 wc o10 wx ∧ Arr wx shb cs.length (fun j => if j ∈ (new.take (k + 1)).map idx then 0 else 2) ∧ SZ wx shb sc')
                    case first =>
                      refine wp_region_last_lit (by kernel_rfl) rfl (by kernel_rfl) (by kernel_rfl) rfl ?_
                      simp only [List.dropLast]
                      repeat (quiet_step (fail))
                      refine wpQuiet_nil ?_
                      intro _ hw'
                      obtain ⟨nq, hw''⟩ := hw'
                      subst hw''
                      intro K hK
                      go_simp
                      refine hK _ _ ?_
                      clear hK K
                      go_wp2_with fail
                      go_meet
                      exact HP2.out _
                    case rest =>
                      obtain ⟨s11, A11, Z11⟩ := hcut
                      obtain ⟨V10, T10, s10, V9, T9, A9, Z9, G9, q1, q3, q4, q10, b13, slt, S9, VE5, hv5c, hb1, hb2, et, hn2', b21, G10⟩ := HV10.out
                      clear y1 y10 y8 ys8 ysh yfr y21 HP HV10
                      have sAB := (s10.mono (T' := [34]) (by simp)).trans s11
                      have V11 := V10.step hne s11 (by decide)
                      have T11 := T10.step s11 (by decide) (by decide) (by decide) (by simp; omega)
                      have HN := hid (named_any o10 wc R S B3 B4 B1 s9 pv8 uv8 V11.r g tgt v5 cs idx lf nx sl sb hX.cyc hX.sl hX.n hX.M V11.ng V11.sa.ob V11.sa.hslot V11.sa.slot ((q3.step sAB (by simp)).cell 0) ((q4.step sAB (by simp)).cell 0) ((q1.step sAB (by simp)).cell 0) p hpm (hX.ne _ hpm) 100 #[.pointer (some ⟨B13, 0, none⟩), .pointer (some ⟨B21, 0, none⟩)] (enters_of Ybaz.func100 (by kernel_rfl) rfl)
                        (fun o1 W1 w' => ∃ o' qbv bl', TQ o' w' S { v5 with qb := qbv, qt := .int .i64 (max tp ((0 : Nat) : Int)) } ctb cs.length cc' (fun j => if j = idx (nx p) then ((0 : Nat) : Int) else if j ∈ (new.take k).map (fun p => idx (nx p)) then 0 else 2) (max n1 (0 + 1)) bl' (max tp ((0 : Nat) : Int)) ∧ (∀ j, j < max n1 (0 + 1) → bl' j = (if j < n1 then bl9 j else []) ++ (if j = 0 then [idx (nx p)] else [])) ∧ Step [20, 33, 36, 100, 101, 102] o1 W1 o' w')
                        (fun o1 W1 st => by
                          have TW := T11.step st (by simp) (by simp) (by simp) (by simp)
                          refine (qadd_any W1 S B13 B21 (((b13.step sAB (by simp)).step st (by simp)).cell 0) (-2) (((b21.step s11 (by simp)).step st (by simp)).cell 0) (idx (nx p)) _ (add_any o1 W1 S v5 ctb cs.length cc' _ n1 bl9 tp TW (by omega) (by omega) hN3 (idx (nx p)) hqi 2 (-2) (by simp only [hn2']; rfl) (by omega) (by omega) 0 (by omega) (by omega) (by omega) (fun j hj => by have := hb2 j hj; omega))).mono ?_
                          rintro e w' ⟨hr, o', qbv, bl', h1, h2, h3⟩
                          exact ⟨hr, ⟨_, o', by decide, h3⟩, o', qbv, bl', h1, h2, h3⟩))
                      have HF := hid (And.intro V11 (And.intro A11 (And.intro Z11 (And.intro G10 (And.intro (q1.step sAB (by simp)) (And.intro (q3.step sAB (by simp)) (And.intro (q4.step sAB (by simp)) (And.intro (q10.step sAB (by simp)) (And.intro (b13.step sAB (by simp)) (And.intro (slt.step sAB (by simp)) (And.intro (S9.trans (sAB.mono (T' := TT) (by decide))) (And.intro VE5 (And.intro hv5c (And.intro hb1 (And.intro hb2 et)))))))))))))))
                      clear V9 T9 A9 Z9 G9 q1 q3 q4 q10 b13 slt S9 VE5 hv5c hb1 hb2 et hn2' V10 T10 s10 s11 A11 Z11 sAB V11 T11 b21
                      go_wp2_with (go_at_call 93; refine HN.out.mono ?_; rintro e w6 ⟨⟨r, rfl⟩, o11, W1, sA, o12, qbv, bl', T12, hbl', sB⟩)
                      go_roundw
                      case rel =>
                        obtain ⟨V11, A11, Z11, G10, q1, q3, q4, q10, b13, slt, S11, VE5, hv5c, hb1, hb2, et⟩ := HF.out
                        have s12 := (sA.mono (T' := [20, 33, 36, 100, 101, 102]) (by simp)).trans sB
                        have VE6 : VEq v { v5 with qb := qbv, qt := .int .i64 (max tp ((0 : Nat) : Int)) } := VE5.trans ⟨rfl, rfl, rfl, rfl, rfl, rfl, rfl, rfl, rfl, rfl, rfl, rfl⟩
                        have V12 : VH o12 w6 R S s9 pv8 uv8 g tgt { v5 with qb := qbv, qt := .int .i64 (max tp ((0 : Nat) : Int)) } cs idx lf nx sl sb := V11.turn hne s12 (by decide) (V11.r.step s12 (by decide) (by decide) (by decide) (by decide)) (V11.ng.step s12 (by decide) rfl rfl rfl rfl rfl rfl) T12.ob (V11.lc.step s12 (by decide) (by decide)) ⟨rfl, rfl, rfl, rfl, rfl, rfl, rfl, rfl, rfl, rfl, rfl, rfl⟩ rfl rfl rfl
                        have T13 : TQ o12 w6 S { v5 with qb := qbv, qt := .int .i64 (max tp ((0 : Nat) : Int)) } ctb cs.length cc' (fun j => if j ∈ (new.take (k + 1)).map (fun p => idx (nx p)) then 0 else 2) (max n1 (0 + 1)) bl' (max tp ((0 : Nat) : Int)) := by
                          refine ⟨T12.ob, T12.qc, T12.ct.congr fun j _ => ?_, T12.tct, T12.qb, T12.qt, T12.sz⟩
                          rw [et, List.map_append]
                          by_cases e : j = idx (nx p)
                          · rw [if_pos e, if_pos (List.mem_append.2 (.inr (by rw [e]; simp)))]; rfl
                          · rw [if_neg e]
                            have e9 : (j ∈ (new.take k).map (fun p => idx (nx p)) ++ [p].map (fun p => idx (nx p))) ↔ j ∈ (new.take k).map (fun p => idx (nx p)) := by rw [List.mem_append]; simp [e]
                            simp only [e9]
                        refine ⟨k + 1, o12, _, _, bl', _, by go_num, by omega, V12, T13, A11.kept (s12.block _ A11.lt (by rw [G10]; decide)), Z11.kept (s12.block _ A11.lt (by rw [G10]; decide)), (s12.own _ A11.lt).trans G10, q1.step s12 (by decide), q3.step s12 (by decide), q4.step s12 (by decide), q10.step s12 (by decide), b13.step s12 (by decide), slt.step s12 (by decide), S11.trans (s12.mono (by decide)), VE6, hv5c, by omega, by omega, by omega, fun j hj x hx => ?_, fun j hj => ?_⟩
                        · rw [hbl' j hj] at hx
                          rcases List.mem_append.1 hx with h8 | h8
                          · split at h8
                            · rename_i hjn; exact hb1 j hjn x h8
                            · simp at h8
                          · split at h8
                            · rw [List.mem_singleton.1 h8]; exact hqi
                            · simp at h8
                        · rw [hbl' j hj, List.length_append]
                          have hl1 : (if j < n1 then bl9 j else []).length ≤ cs.length + k := by
                            split
                            · exact hb2 j (by assumption)
                            · simp
                          have hl2 : (if j = 0 then [idx (nx p)] else []).length ≤ 1 := by split <;> simp
                          omega
                      case measure => simp [intOf]; omega
                · obtain rfl : k = cs.length := by omega
                  have b5 : ¬ (cs.length : Int) < (cs.length : Int) := by omega
                  have hgr9 : ∀ q ∈ cs, s9.gr q = true := fun q hq => by rw [Hs9.out]; simp [grown, (Hmem.out q).2 hq]
                  have HN2 := hid (next_first o9 wr R S B4 B1 s9 pv8 uv8 g tgt v5 cs idx lf nx sl sb hX V9 true hgr9 q4 q1 ctb cc' _ n1 bl9 tp T9 htp0 htp1 (by omega) hb1 (fun j hj => by have := hb2 j hj; omega) (fun h => by simp at h))
                  have y13 : wr.cell? ⟨B13, 0, none⟩ = some (.pointer (some ⟨S, 16, none⟩)) := b13.cell 0
                  have HG := hid (And.intro V9 (And.intro T9 (And.intro A9 (And.intro Z9 (And.intro G9 (And.intro slt (And.intro S9 (And.intro VE5 hv5c))))))))
                  clear V9 T9 A9 Z9 G9 q1 q3 q4 q10 b13 slt S9 VE5 hv5c hb1 hb2 hgr9
                  go_wp2
                  rw [rounds_succ]
                  go_wp2_with (go_at_call 97; refine HN2.out.mono ?_; rintro e w7 ⟨i2, o7', qbv8, bl8, top8, rfl, _, T7', _, _, _, s7'⟩)
                  obtain ⟨V9, T9, A9, Z9, G9, slt, S9, VE5, hv5c⟩ := HG.out
                  have hs9 := Hs9.out
                  have V7 : RAt o7' w7 R s9 pv8 uv8 := V9.r.step s7' (by decide) (by decide) (by decide) (by decide)
                  have hz : ∀ z ∈ new.map (fun p : Nat => -1 - (p : Int)), ∃ p : Nat, p < s9.N ∧ z = -1 - (p : Int) := by
                    intro z hz
                    obtain ⟨p, hp, rfl⟩ := List.mem_map.1 hz
                    exact ⟨p, by rw [V9.ng.hN]; exact hX.cyc.lt _ ((Hmem.out p).1 hp), rfl⟩
                  refine leaves_cons (f := 92) (args := #[.pointer (some ⟨R, 0, none⟩), .int .i64 (s.und.length : Int)]) (by simp) (by simp [go_sem]) ?_
                  refine (rollback_deferred o7' w7 R s9 pv8 uv8 V7 s.und (new.map fun p : Nat => -1 - (p : Int)) (by rw [hs9]) hz (by rw [hs9]; simp; omega) (by rw [hs9]; show 0 < s.marks + 1; omega) (by rw [hs9]; show s.marks + 1 ≤ 1000; omega) (by rw [V9.ng.hN]; exact hX.n) _).mono ?_
                  rintro e u' w2 ⟨rfl, ⟨r, rfl⟩, o2, uv2, R2, s2⟩
                  have hgf : (fun j : Nat => if -1 - (j : Int) ∈ new.map (fun p : Nat => -1 - (p : Int)) then false else s9.gr j) = s.gr := by
                    funext j
                    have hm : (-1 - (j : Int) ∈ new.map fun p : Nat => -1 - (p : Int)) ↔ j ∈ new := by
                      simp only [List.mem_map]
                      constructor
                      · rintro ⟨p, hp, e⟩
                        have : p = j := by omega
                        subst this; exact hp
                      · intro h; exact ⟨j, h, rfl⟩
                    by_cases hj : j ∈ new
                    · rw [if_pos (hm.2 hj)]; exact (Hgr.out j ((Hmem.out j).1 hj)).symm
                    · rw [if_neg (fun h => hj (hm.1 h)), hs9]; simp [grown, hj]
                  rw [hgf] at R2
                  have e2 : ({ s9 with gr := s.gr, und := s.und, marks := s9.marks - 1 } : RS) = { s with nf := nf, ni := ni } := by rw [hs9]; simp [hp0]
                  rw [e2] at R2
                  have sA := (s7'.mono (T' := [1, 2, 20, 36]) (by simp)).trans (s2.mono (T' := [1, 2, 20, 36]) (by simp))
                  have T2 := T7'.step s2 (by decide) (by decide) (by decide) (by simp; omega)
                  have N2 : NG g tgt o2 w2 { s with nf := nf, ni := ni } := V9.ng.step sA (by decide) (by rw [hs9]) (by rw [hs9]) (by rw [hs9]) (by rw [hs9]) (by rw [hs9]) (by rw [hs9])
                  have VE6 : VEq v5 { v5 with qb := qbv8, qt := .int .i64 top8 } := ⟨rfl, rfl, rfl, rfl, rfl, rfl, rfl, rfl, rfl, rfl, rfl, rfl⟩
                  have V2 : VH o2 w2 R S { s with nf := nf, ni := ni } pv8 uv2 g tgt { v5 with qb := qbv8, qt := .int .i64 top8 } cs idx lf nx sl sb := V9.turn hne sA (by decide) R2 N2 T2.ob (V9.lc.step sA (by decide) (by decide)) VE6 rfl rfl rfl
                  have slt2 := slt.step sA (by decide)
                  have G2 := (sA.own _ A9.lt).trans G9
                  have rmc : Rm o2 w2 33 ({ v5 with qb := qbv8, qt := .int .i64 top8 } : VSt).count := by
                    obtain ⟨cur, hb, hs⟩ := T2.sz
                    exact ⟨_, _, _, hv5c.1, by omega, Rw.sl (xs := []) ⟨⟨cur, hb, hs, fun j hj => by simp at hj⟩, by simp, T2.tct⟩ hmc⟩
                  have rms : Rm o2 w2 34 ({ v5 with qb := qbv8, qt := .int .i64 top8 } : VSt).shares := by
                    obtain ⟨cur, hb, hs⟩ := Z9.kept (sA.block _ A9.lt (by rw [G9]; decide))
                    exact ⟨_, _, _, hv5c.2, by omega, Rw.sl (xs := []) ⟨⟨cur, hb, hs, fun j hj => by simp at hj⟩, by simp, G2⟩ hms⟩
                  exact ⟨_, results_tmp rfl _ _ _, i, tb, tcap, o2, _, nf, ni, pv8, uv2, rfl, hi7, Sl.cell (xs := [.int .i64 (i : Int)]) slt2 0 Nat.zero_lt_one, slt2.tag tb rfl, V2.vg rmc rms ⟨_, _, T2.qb⟩, VE5.trans VE6, S9.trans (sA.mono (by decide))⟩

end Go.Proofs.YbulkbmdoGreat
