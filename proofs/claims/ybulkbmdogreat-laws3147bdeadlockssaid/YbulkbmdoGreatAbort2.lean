import Derived.Test.YbulkbmdoGreatAbort
namespace Go.Proofs.YbulkbmdoGreat
open Go.RowKit Go.Shelf
set_option linter.unusedVariables false

theorem RS.grant_nf (s : RS) (p : Nat) : (s.grant p).nf = s.nf ∧ (s.grant p).ni = s.ni ∧ (s.grant p).N = s.N ∧ (s.grant p).M = s.M ∧ (s.grant p).G = s.G ∧ (s.grant p).tb = s.tb ∧ (s.grant p).marks = s.marks := by
  unfold RS.grant; split <;> simp

attribute [local go_sem ↓] Go.wp_at_zero Go.wp_at_succ
set_option maxRecDepth 100000 in
set_option maxHeartbeats 4000000 in
theorem abortUntil_made (o : Nat → Nat) (W : World) (R S : Nat) (s : RS) (pv uv : Value) (h : RAt o W R s pv uv) (g : GS) (tgt : Nat → Option Nat) (v : VSt) (cs : List Nat) (idx lf nx : Nat → Nat) (sl : Nat → Int) (sb fb ib : Nat) (hC : Cyc g tgt cs idx lf nx) (hsl : ∀ p ∈ cs, sl p = (idx p : Int)) (hn : g.n ≤ 300) (hM : g.M ≤ 300)
    (hng : NG g tgt o W s) (hS : SAt o W S v g R cs sl sb) (hloc : LAt o W 29 30 cs.length (cpr idx lf nx cs) v.lf v.li fb ib) (hwp : ∀ i, i < g.M → g.wp i < g.n) (hm : s.marks ≤ 900) (hu : s.und.length ≤ 500) (hp0 : s.pend = [])
    (slb cp i : Nat) (hi : i < cs.length) (hsc : W.cell? ⟨slb, i, none⟩ = some (.int .i64 (i : Int))) :
    Calls Ybaz.prog 113 #[.pointer (some ⟨S, 0, none⟩), .slice (some ⟨slb, i, none⟩) 1 cp, .nilFunc] W fun e w' => e = .returned (.bool false) ∧
      ∃ o' pv' uv' nf ni new, RAt o' w' R ((s.grant cs[i]).ext nf ni [] new) pv' uv' ∧ SInv (s.grant cs[i]).gr g.n (s.grant cs[i]).pend (fun p => Pl.sel (cpr idx lf nx cs) (idx p)) g.wp [] new ∧ NG g tgt o' w' ((s.grant cs[i]).ext nf ni [] new) ∧ SAt o' w' S v g R cs sl sb ∧ LAt o' w' 29 30 cs.length (cpr idx lf nx cs) v.lf v.li fb ib ∧ Step [1, 2, 3, 4] o W o' w' := by
  have hpm : cs[i] ∈ cs := List.getElem_mem hi
  have hpn := hC.lt _ hpm
  have hcl := hC.le
  obtain ⟨cb, cap, hcv, hc1, hc2, htc, hltc⟩ := hS.cands.some_of (by rw [ints_length]; exact hC.ne)
  rw [ints_length] at hcv hc1
  have hcc : W.cell? ⟨cb, i, none⟩ = some (.int .i64 (cs[i] : Int)) := by
    have hh := hS.cands
    rw [hcv] at hh
    have e := ints_length cs
    rw [← e] at hh
    rw [hh.cell i (by rw [ints_length]; exact hi)]
    simp [ints]
  have st0 := Step.alloc [] o W (.cells #[.pointer (some ⟨S, 0, none⟩)] 95) 99
  have bx0 := Ob.new o W 99 95 #[.pointer (some ⟨S, 0, none⟩)]
  obtain ⟨W0, hW0⟩ : ∃ W0, W.alloc (.cells #[.pointer (some ⟨S, 0, none⟩)] 95) = W0 := ⟨_, rfl⟩
  obtain ⟨o0, ho0⟩ : ∃ o0, tg o W.heap.size 99 = o0 := ⟨_, rfl⟩
  rw [hW0, ho0] at st0 bx0
  have R0 := h.step st0 (by simp) (by simp) (by simp) (by simp)
  have S0 := hS.step st0 (by simp) (by simp) (by simp)
  have N0 := hng.step (s' := s) st0 (by simp) rfl rfl rfl rfl rfl rfl
  have L0 := hloc.step st0 (by simp) (by simp)
  have x0 : W0.cell? ⟨slb, i, none⟩ = some (.int .i64 (i : Int)) := (st0.cell (p := ⟨slb, i, none⟩) (World.block_lt_of_cell? _ _ hsc) (by simp)).trans hsc
  have x1 : W0.cell? ⟨W.heap.size, 0, none⟩ = some (.pointer (some ⟨S, 0, none⟩)) := bx0.cell 0
  have x2 : W0.cell? ⟨S, 1, none⟩ = some (.pointer (some ⟨R, 0, none⟩)) := by rw [← hS.hR]; exact S0.ob.cell 1
  have x3 : W0.cell? ⟨S, 7, none⟩ = some (.slice (some ⟨cb, 0, none⟩) cs.length cap) := by rw [← hcv]; exact S0.ob.cell 7
  have x4 : W0.cell? ⟨cb, i, none⟩ = some (.int .i64 (cs[i] : Int)) := (st0.cell (p := ⟨cb, i, none⟩) hltc (by simp)).trans hcc
  have HG := hid (fun m => grant_any o0 (W0.drewN m) R s pv uv (R0.step (Step.drewN [] o0 W0 m) (by simp) (by simp) (by simp) (by simp)) cs[i] (by rw [hng.hN]; exact hpn) (by rw [hng.hN]; exact hn) (by rw [hp0]; simp) (by omega) (by omega))
  have HS0 := hid S0
  have HN0 := hid N0
  have HL0 := hid L0
  have HB0 := hid bx0
  have HSt0 := hid st0
  clear R0 S0 N0 L0 bx0 st0 h hS hng hloc
  have b1 : (i : Int) < (cs.length : Int) := by omega
  go_enter Ybaz.func113, Ybaz.ntmps113
  go_wp2
  go_loopw [11] (fun j wr => (j = .int .i64 0 ∧ wr = W0) ∨ (j = .int .i64 1 ∧ ∃ o1 pv1 uv1, RAt o1 wr R (s.grant cs[i]) pv1 uv1 ∧ Step [1, 2, 3, 4] o0 W0 o1 wr)) (fun j _ => 1 - (intOf j).toNat)
  case atStart => exact .inl ⟨rfl, rfl⟩
  case round =>
    rcases hrel with ⟨rfl, rfl⟩ | ⟨rfl, o1, pv1, uv1, R1, s1⟩
    · go_wp2
      go_region_law (go_simp; go_at_call 21; refine (HG.out 1).mono ?_; rintro e w1 ⟨⟨v1, rfl⟩, o1, pv1, uv1, R1, s1⟩)
      all_goals
        go_wp2
        go_roundw
        case rel => exact .inr ⟨rfl, o1, pv1, uv1, R1, ((Step.drewN [] o0 wr 1).mono (by simp)).trans s1⟩
        case measure => simp [intOf]
    · have s1' := s1.mono (T' := [1, 2, 3, 4]) (by simp)
      have S1 := HS0.out.step s1 (by decide) (by decide) (by decide)
      have L1 := HL0.out.step s1 (by decide) (by decide)
      have B1 := HB0.out.step s1 (by decide)
      obtain ⟨q1, q2, q3, q4, q5, q6, q7⟩ := s.grant_nf cs[i]
      have N1 := HN0.out.step (s' := s.grant cs[i]) s1 (by decide) q1 q2 q3 q4 q5 q6
      have y1 : wr.cell? ⟨W.heap.size, 0, none⟩ = some (.pointer (some ⟨S, 0, none⟩)) := B1.cell 0
      have y2 : wr.cell? ⟨S, 1, none⟩ = some (.pointer (some ⟨R, 0, none⟩)) := by rw [← HS0.out.hR]; exact S1.ob.cell 1
      have y3 : wr.cell? ⟨S, 10, none⟩ = some (.slice (some ⟨fb, 0, none⟩) (cs.length + 1) (cs.length + 1)) := by rw [← L1.hf]; exact S1.ob.cell 10
      have heq := eql_some ⟨fb, 0, none⟩ (cs.length + 1) (cs.length + 1)
      have hpl : (s.grant cs[i]).pend.length ≤ 600 := by unfold RS.grant; split <;> simp [hp0]
      have hul : (s.grant cs[i]).und.length ≤ 600 := by
        unfold RS.grant; split
        · omega
        · show (if 0 < s.marks then _ else _ : List Int).length ≤ 600
          split <;> (try simp) <;> omega
      have hpp : ∀ q ∈ (s.grant cs[i]).pend, q ∈ cs := by
        intro q hq
        unfold RS.grant at hq; split at hq
        · rw [hp0] at hq; simp at hq
        · simp [hp0] at hq; rw [hq]; exact hpm
      have hN1 : (s.grant cs[i]).N = g.n := N1.hN
      have HC := hid (settleUntil_any o1 wr R (s.grant cs[i]) pv1 uv1 R1 g N1.gat N1.hG N1.hN hM (by omega) (by omega) hul hpl (by rw [hN1]; exact hwp) 133 #[] #[.pointer (some ⟨W.heap.size, 0, none⟩)] 30 (fun p => Pl.sel (cpr idx lf nx cs) (idx p)) (fun p => p ∈ cs) (LE g tgt R S v cs sl sb (cpr idx lf nx cs) fb ib W.heap.size) (by rw [hN1]; exact local_leaves g tgt R S v cs idx lf nx sl sb fb ib W.heap.size hC hsl hn) ⟨N1, S1, L1, B1⟩
        (fun q _ lfq hlf => by
          rw [sel_mem] at hlf
          obtain ⟨q2, hq2, e⟩ := List.mem_map.1 hlf
          have e2 : lf q2 = lfq := by simpa using congrArg Prod.snd e
          obtain ⟨_, _, h3, _, h5⟩ := hC.root q2 hq2
          rw [← e2, h5]; exact ⟨h3, hq2⟩)
        (fun q _ => by
          have h1 : (Pl.sel (cpr idx lf nx cs) (idx q)).length ≤ (cpr idx lf nx cs).length := by unfold Pl.sel; rw [List.length_map]; exact List.length_filter_le _ _
          have h2 : (cpr idx lf nx cs).length = cs.length := by simp [cpr]
          show (Pl.sel (cpr idx lf nx cs) (idx q)).length ≤ 1000
          omega)
        (fun q hq => ⟨hpp q hq, by rw [hN1]; exact hC.lt _ (hpp q hq)⟩))
      have HS1 := hid s1'
      clear R1 s1 S1 L1 B1 N1 q1 q2 q3 q4 q5 q6 q7 s1' hpp hpl hul
      go_wp2_with (go_at_call 22; refine HC.out.mono ?_; rintro e w2 ⟨rfl, o2, pv2, uv2, nf, ni, new, hR2, hS2, hE2, hst2⟩)
      go_ret
      rw [hN1] at hS2
      exact ⟨rfl, o2, pv2, uv2, nf, ni, new, hR2, hS2, hE2.ng, hE2.sat, hE2.loc, ((HSt0.out.mono (by simp)).trans HS1.out).trans hst2⟩
end Go.Proofs.YbulkbmdoGreat
