import Derived.Test.YbulkbmdoGreatAbort3
import Derived.Deep.DeepCutAuto
namespace Go.Proofs.YbulkbmdoGreat
open Go.RowKit Go.Shelf
set_option linter.unusedVariables false

attribute [local go_sem ↓] Go.wp_at_zero Go.wp_at_succ
set_option maxRecDepth 100000 in
set_option maxHeartbeats 4000000 in
theorem abortUntil_make (o : Nat → Nat) (W : World) (R S : Nat) (s : RS) (pv uv : Value) (h : RAt o W R s pv uv) (g : GS) (tgt : Nat → Option Nat) (v : VSt) (cs : List Nat) (idx lf nx : Nat → Nat) (sl : Nat → Int) (sb : Nat) (hC : Cyc g tgt cs idx lf nx) (hsl : ∀ p ∈ cs, sl p = (idx p : Int)) (hn : g.n ≤ 300) (hM : g.M ≤ 300)
    (hng : NG g tgt o W s) (hS : SAt o W S v g R cs sl sb) (hlf : v.lf = .slice none 0 0) (hwp : ∀ i, i < g.M → g.wp i < g.n) (hm : s.marks ≤ 900) (hu : s.und.length ≤ 500) (hp0 : s.pend = [])
    (slb cp i : Nat) (hi : i < cs.length) (hsc : W.cell? ⟨slb, i, none⟩ = some (.int .i64 (i : Int))) :
    Calls Ybaz.prog 113 #[.pointer (some ⟨S, 0, none⟩), .slice (some ⟨slb, i, none⟩) 1 cp, .nilFunc] W fun e w' => e = .returned (.bool false) ∧
      ∃ o' pv' uv' nf ni new lfv liv fb ib, RAt o' w' R ((s.grant cs[i]).ext nf ni [] new) pv' uv' ∧ SInv (s.grant cs[i]).gr g.n (s.grant cs[i]).pend (fun p => Pl.sel (cpr idx lf nx cs) (idx p)) g.wp [] new ∧ NG g tgt o' w' ((s.grant cs[i]).ext nf ni [] new) ∧ SAt o' w' S { v with lf := lfv, li := liv } g R cs sl sb ∧ LAt o' w' 29 30 cs.length (cpr idx lf nx cs) lfv liv fb ib ∧ Step [1, 2, 3, 4, 20] o W o' w' := by
  have hpm : cs[i] ∈ cs := List.getElem_mem hi
  have hpn := hC.lt _ hpm
  have hcl := hC.le
  obtain ⟨cb, cap, hcv, hc1, hc2, htc, hltc⟩ := hS.cands.some_of (by rw [ints_length]; exact hC.ne)
  rw [ints_length] at hcv hc1
  have hcc : W.cell? ⟨cb, i, none⟩ = some (.int .i64 (cs[i] : Int)) := by
    have hh := hS.cands
    rw [hcv] at hh
    have e := ints_length cs
    rw [← e] at hh
    rw [hh.cell i (by rw [ints_length]; exact hi)]
    simp [ints]
  have st0 := Step.alloc [] o W (.cells #[.pointer (some ⟨S, 0, none⟩)] 95) 99
  have bx0 := Ob.new o W 99 95 #[.pointer (some ⟨S, 0, none⟩)]
  obtain ⟨W0, hW0⟩ : ∃ W0, W.alloc (.cells #[.pointer (some ⟨S, 0, none⟩)] 95) = W0 := ⟨_, rfl⟩
  obtain ⟨o0, ho0⟩ : ∃ o0, tg o W.heap.size 99 = o0 := ⟨_, rfl⟩
  rw [hW0, ho0] at st0 bx0
  have R0 := h.step st0 (by simp) (by simp) (by simp) (by simp)
  have S0 := hS.step st0 (by simp) (by simp) (by simp)
  have N0 := hng.step (s' := s) st0 (by simp) rfl rfl rfl rfl rfl rfl
  have x0 : W0.cell? ⟨slb, i, none⟩ = some (.int .i64 (i : Int)) := (st0.cell (p := ⟨slb, i, none⟩) (World.block_lt_of_cell? _ _ hsc) (by simp)).trans hsc
  have x1 : W0.cell? ⟨W.heap.size, 0, none⟩ = some (.pointer (some ⟨S, 0, none⟩)) := bx0.cell 0
  have x2 : W0.cell? ⟨S, 1, none⟩ = some (.pointer (some ⟨R, 0, none⟩)) := by rw [← hS.hR]; exact S0.ob.cell 1
  have x3 : W0.cell? ⟨S, 7, none⟩ = some (.slice (some ⟨cb, 0, none⟩) cs.length cap) := by rw [← hcv]; exact S0.ob.cell 7
  have x4 : W0.cell? ⟨cb, i, none⟩ = some (.int .i64 (cs[i] : Int)) := (st0.cell (p := ⟨cb, i, none⟩) hltc (by simp)).trans hcc
  have HG := hid (fun m => grant_any o0 (W0.drewN m) R s pv uv (R0.step (Step.drewN [] o0 W0 m) (by simp) (by simp) (by simp) (by simp)) cs[i] (by rw [hng.hN]; exact hpn) (by rw [hng.hN]; exact hn) (by rw [hp0]; simp) (by omega) (by omega))
  have HS0 := hid S0
  have HN0 := hid N0
  have HB0 := hid bx0
  have HSt0 := hid st0
  clear R0 S0 N0 bx0 st0 h hS hng
  have b1 : (i : Int) < (cs.length : Int) := by omega
  go_enter Ybaz.func113, Ybaz.ntmps113
  go_wp2
  go_loopw [11] (fun j wr => (j = .int .i64 0 ∧ wr = W0) ∨ (j = .int .i64 1 ∧ ∃ o1 pv1 uv1, RAt o1 wr R (s.grant cs[i]) pv1 uv1 ∧ Step [1, 2, 3, 4] o0 W0 o1 wr)) (fun j _ => 1 - (intOf j).toNat)
  case atStart => exact .inl ⟨rfl, rfl⟩
  case round =>
    rcases hrel with ⟨rfl, rfl⟩ | ⟨rfl, o1, pv1, uv1, R1, s1⟩
    · go_wp2
      go_region_law (go_simp; go_at_call 21; refine (HG.out 1).mono ?_; rintro e w1 ⟨⟨v1, rfl⟩, o1, pv1, uv1, R1, s1⟩)
      all_goals
        go_wp2
        go_roundw
        case rel => exact .inr ⟨rfl, o1, pv1, uv1, R1, ((Step.drewN [] o0 wr 1).mono (by simp)).trans s1⟩
        case measure => simp [intOf]
    · have S1 := HS0.out.step s1 (by decide) (by decide) (by decide)
      have B1 := HB0.out.step s1 (by decide)
      obtain ⟨q1, q2, q3, q4, q5, q6, q7⟩ := s.grant_nf cs[i]
      have N1 := HN0.out.step (s' := s.grant cs[i]) s1 (by decide) q1 q2 q3 q4 q5 q6
      have y1 : wr.cell? ⟨W.heap.size, 0, none⟩ = some (.pointer (some ⟨S, 0, none⟩)) := B1.cell 0
      have y3 : wr.cell? ⟨S, 10, none⟩ = some (.slice none 0 0) := by rw [← hlf]; exact S1.ob.cell 10
      have y7 : wr.cell? ⟨S, 7, none⟩ = some (.slice (some ⟨cb, 0, none⟩) cs.length cap) := by rw [← hcv]; exact S1.ob.cell 7
      have heq := eql_none
      obtain ⟨cb2, cap2, _, hCG⟩ := cg_of hC R1 N1 S1
      have sd := Step.drew [] o1 wr
      have HL := hid (lists_local o1 wr.drew S W.heap.size cb2 cap2 sb (s.grant cs[i]).tb g tgt v cs idx lf nx sl hC hsl hn hM ⟨hCG.c0, hCG.c1, hCG.c7, hCG.c8, hCG.cc, hCG.g0, hCG.pc, hCG.r2, hCG.tc, hCG.sc⟩ y1)
      have HR1 := hid R1
      have HN1 := hid N1
      have HS1 := hid S1
      have HB1 := hid B1
      have HT1 := hid s1
      clear R1 s1 S1 B1 N1 q1 q2 q3 q4 q5 q6 q7 hCG
      go_upto_region 7 with fail
      go_cut [] (fun wx => ∃ o2 lfv liv fb ib, LAt o2 wx 29 30 cs.length (cpr idx lf nx cs) lfv liv fb ib ∧ Ob o2 wx 20 S 63 (vcells { v with lf := lfv, li := liv }) ∧ Step [20] o1 wr o2 wx)
      case first =>
        go_region_law
          (go_simp; go_at_call 23; refine HL.out.mono ?_; rintro e w1 ⟨o2, fb, ib, fv, iv, rfl, hl1, st1⟩; obtain rfl := hl1.hf; obtain rfl := hl1.hi; have ob1 := HS1.out.ob.step (sd.trans st1) (by simp); have k3 := ob1.frozen 10; have k4 := ob1.frozen 11; have c31 : w1.cell? ⟨S, 10, none⟩ = some v.lf := ob1.cell 10; have c41 : w1.cell? ⟨S, 11, none⟩ = some v.li := ob1.cell 11; have cB1 : w1.cell? ⟨W.heap.size, 0, none⟩ = some (.pointer (some ⟨S, 0, none⟩)) := (HB1.out.step (sd.trans st1) (by simp)).cell 0)
        all_goals
          go_wp2_with fail
          go_meet
          have w2 := ob1.set 10 (.slice (some ⟨fb, 0, none⟩) (cs.length + 1) (cs.length + 1))
          have t2 := (ob1.sset 10 (.slice (some ⟨fb, 0, none⟩) (cs.length + 1) (cs.length + 1)) (T := [20]) (by simp)).trans (w2.sset 11 (.slice (some ⟨ib, 0, none⟩) (cpr idx lf nx cs).length (cpr idx lf nx cs).length) (T := [20]) (by simp))
          exact ⟨o2, _, _, fb, ib, hl1.step t2 (by simp) (by simp), w2.set 11 _, ((sd.trans st1).mono (by simp)).trans t2⟩
      case rest =>
        obtain ⟨o2, lfv, liv, fb, ib, L2, ob2, t2⟩ := hcut
        have R2 := HR1.out.step t2 (by simp) (by simp) (by simp) (by simp)
        have N2 := HN1.out.step (s' := s.grant cs[i]) t2 (by simp) rfl rfl rfl rfl rfl rfl
        have S2 : SAt o2 wc S { v with lf := lfv, li := liv } g R cs sl sb := ⟨ob2, HS1.out.hG, HS1.out.hR, HS1.out.cands.step t2 (by simp), HS1.out.hslot, HS1.out.slot.step t2 (by simp)⟩
        have B2 := HB1.out.step t2 (by simp)
        have z1 : wc.cell? ⟨W.heap.size, 0, none⟩ = some (.pointer (some ⟨S, 0, none⟩)) := B2.cell 0
        have z2 : wc.cell? ⟨S, 1, none⟩ = some (.pointer (some ⟨R, 0, none⟩)) := by rw [← HS1.out.hR]; exact ob2.cell 1
        have HC := hid (abort_settle o2 wc R S s pv1 uv1 g tgt { v with lf := lfv, li := liv } cs idx lf nx sl sb fb ib W.heap.size hC hsl hn hM hwp hm hu hp0 i hi R2 N2 S2 L2 B2)
        have HT := hid (((HSt0.out.mono (T' := [1, 2, 3, 4, 20]) (by simp)).trans (HT1.out.mono (by simp))).trans (t2.mono (by simp)))
        clear R2 N2 S2 B2 L2 ob2 t2 HL
        go_wp2_with (go_at_call 22; refine HC.out.mono ?_; rintro e w2 ⟨rfl, o3, pv3, uv3, nf, ni, new, hR3, hS3, hE3, hst3⟩)
        go_ret
        exact ⟨rfl, o3, pv3, uv3, nf, ni, new, lfv, liv, fb, ib, hR3, hS3, hE3.ng, hE3.sat, hE3.loc, HT.out.trans (hst3.mono (by simp))⟩
end Go.Proofs.YbulkbmdoGreat
