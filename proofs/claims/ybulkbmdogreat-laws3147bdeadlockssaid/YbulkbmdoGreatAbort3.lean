import Derived.Test.YbulkbmdoGreatAbort2
namespace Go.Proofs.YbulkbmdoGreat
open Go.RowKit Go.Shelf
set_option linter.unusedVariables false

/-- The settling behind the grant of a candidate. -/
theorem abort_settle (o1 : Nat → Nat) (wr : World) (R S : Nat) (s : RS) (pv1 uv1 : Value) (g : GS) (tgt : Nat → Option Nat) (v : VSt) (cs : List Nat) (idx lf nx : Nat → Nat) (sl : Nat → Int) (sb fb ib Bx : Nat) (hC : Cyc g tgt cs idx lf nx) (hsl : ∀ p ∈ cs, sl p = (idx p : Int)) (hn : g.n ≤ 300) (hM : g.M ≤ 300)
    (hwp : ∀ i, i < g.M → g.wp i < g.n) (hm : s.marks ≤ 900) (hu : s.und.length ≤ 500) (hp0 : s.pend = []) (i : Nat) (hi : i < cs.length) (R1 : RAt o1 wr R (s.grant cs[i]) pv1 uv1) (N1 : NG g tgt o1 wr (s.grant cs[i])) (S1 : SAt o1 wr S v g R cs sl sb) (L1 : LAt o1 wr 29 30 cs.length (cpr idx lf nx cs) v.lf v.li fb ib) (B1 : Ob o1 wr 99 Bx 95 #[.pointer (some ⟨S, 0, none⟩)]) :
    Calls Ybaz.prog 22 #[.pointer (some ⟨R, 0, none⟩), .func (.func 133) #[] #[.pointer (some ⟨Bx, 0, none⟩)], .nilFunc] wr fun e w' => e = .returned (.bool false) ∧
      ∃ o' pv' uv' nf ni new, RAt o' w' R ((s.grant cs[i]).ext nf ni [] new) pv' uv' ∧ SInv (s.grant cs[i]).gr g.n (s.grant cs[i]).pend (fun p => Pl.sel (cpr idx lf nx cs) (idx p)) g.wp [] new ∧ LE g tgt R S v cs sl sb (cpr idx lf nx cs) fb ib Bx o' w' ((s.grant cs[i]).ext nf ni [] new) ∧ Step [1, 2, 3, 4] o1 wr o' w' := by
  have hpm : cs[i] ∈ cs := List.getElem_mem hi
  have hcl := hC.le
  obtain ⟨q1, q2, q3, q4, q5, q6, q7⟩ := s.grant_nf cs[i]
  have hpl : (s.grant cs[i]).pend.length ≤ 600 := by unfold RS.grant; split <;> simp [hp0]
  have hul : (s.grant cs[i]).und.length ≤ 600 := by
    unfold RS.grant; split
    · omega
    · show (if 0 < s.marks then _ else _ : List Int).length ≤ 600
      split <;> (try simp) <;> omega
  have hpp : ∀ q ∈ (s.grant cs[i]).pend, q ∈ cs := by
    intro q hq
    unfold RS.grant at hq; split at hq
    · rw [hp0] at hq; simp at hq
    · simp [hp0] at hq; rw [hq]; exact hpm
  have hN1 : (s.grant cs[i]).N = g.n := N1.hN
  have HC := settleUntil_any o1 wr R (s.grant cs[i]) pv1 uv1 R1 g N1.gat N1.hG N1.hN hM (by omega) (by omega) hul hpl (by rw [hN1]; exact hwp) 133 #[] #[.pointer (some ⟨Bx, 0, none⟩)] 30 (fun p => Pl.sel (cpr idx lf nx cs) (idx p)) (fun p => p ∈ cs) (LE g tgt R S v cs sl sb (cpr idx lf nx cs) fb ib Bx) (by rw [hN1]; exact local_leaves g tgt R S v cs idx lf nx sl sb fb ib Bx hC hsl hn) ⟨N1, S1, L1, B1⟩
    (fun q _ lfq hlf => by
      rw [sel_mem] at hlf
      obtain ⟨q2, hq2, e⟩ := List.mem_map.1 hlf
      have e2 : lf q2 = lfq := by simpa using congrArg Prod.snd e
      obtain ⟨_, _, h3, _, h5⟩ := hC.root q2 hq2
      rw [← e2, h5]; exact ⟨h3, hq2⟩)
    (fun q _ => by
      have h1 : (Pl.sel (cpr idx lf nx cs) (idx q)).length ≤ (cpr idx lf nx cs).length := by unfold Pl.sel; rw [List.length_map]; exact List.length_filter_le _ _
      have h2 : (cpr idx lf nx cs).length = cs.length := by simp [cpr]
      show (Pl.sel (cpr idx lf nx cs) (idx q)).length ≤ 1000
      omega)
    (fun q hq => ⟨hpp q hq, by rw [hN1]; exact hC.lt _ (hpp q hq)⟩)
  refine HC.mono ?_
  rintro e w2 ⟨rfl, o2, pv2, uv2, nf, ni, new, hR2, hS2, hE2, hst2⟩
  rw [hN1] at hS2
  exact ⟨rfl, o2, pv2, uv2, nf, ni, new, hR2, hS2, hE2, hst2⟩

/-- What the candidates' iterator reads. -/
theorem cg_of {o : Nat → Nat} {W : World} {R S : Nat} {s : RS} {pv uv : Value} {g : GS} {tgt : Nat → Option Nat} {v : VSt} {cs : List Nat} {idx lf nx : Nat → Nat} {sl : Nat → Int} {sb : Nat} (hC : Cyc g tgt cs idx lf nx) (h : RAt o W R s pv uv) (hng : NG g tgt o W s) (hS : SAt o W S v g R cs sl sb) :
    ∃ cb cap, v.cands = .slice (some ⟨cb, 0, none⟩) cs.length cap ∧ CG g tgt cs idx sl S cb cap sb s.tb v W := by
  obtain ⟨cb, cap, hcv, hc1, hc2, htc, hltc⟩ := hS.cands.some_of (by rw [ints_length]; exact hC.ne)
  rw [ints_length] at hcv hc1
  have hn0 : 0 < g.n := Nat.lt_of_lt_of_le hC.ne hC.le
  refine ⟨cb, cap, hcv, ?_⟩
  have eM : s.M = g.M := hng.hM
  refine ⟨?_, ?_, ?_, ?_, ?_, ?_, ?_, ?_, ?_, ?_⟩
  · rw [← hS.hG]; exact hS.ob.cell 0
  · exact hS.ob.cell 1
  · rw [← hcv]; exact hS.ob.cell 7
  · rw [← hS.hslot]; exact hS.ob.cell 8
  · intro i hi
    have hh := hS.cands
    rw [hcv] at hh
    have e := ints_length cs
    rw [← e] at hh
    rw [hh.cell i (by rw [ints_length]; exact hi)]
    simp [ints]
  · rw [← (hng.gat.hpa hn0).1]; exact hng.gat.ob.cell 0
  · intro i hi; exact (hng.gat.pc i hi).2
  · rw [hS.hR, ← eM]; exact h.ob.cell 2
  · intro i hi; exact hng.tg.cell i (by omega)
  · intro i hi; exact hS.slot.cell i hi

/-- newLists over the candidates. -/
theorem lists_local (o : Nat → Nat) (W : World) (S Bx cb cap sb tb : Nat) (g : GS) (tgt : Nat → Option Nat) (v : VSt) (cs : List Nat) (idx lf nx : Nat → Nat) (sl : Nat → Int) (hC : Cyc g tgt cs idx lf nx) (hsl : ∀ p ∈ cs, sl p = (idx p : Int)) (hn : g.n ≤ 300) (hM : g.M ≤ 300) (hG : CG g tgt cs idx sl S cb cap sb tb v W) (cB : W.cell? ⟨Bx, 0, none⟩ = some (.pointer (some ⟨S, 0, none⟩))) :
    Calls Ybaz.prog 23 #[.int .i64 (cs.length : Int), .func (.func 132) #[] #[.pointer (some ⟨Bx, 0, none⟩)]] W fun e w' => ∃ o' fb ib fv iv, e = .returned (.agg #[fv, iv]) ∧ LAt o' w' 29 30 cs.length (cpr idx lf nx cs) fv iv fb ib ∧ Step [] o W o' w' := by
  have hcl := hC.le
  have hlen : (cpr idx lf nx cs).length = cs.length := by simp [cpr]
  refine (callsIn_wide.1 (lists_walk cs.length hC.ne (by omega) 132 #[.pointer (some ⟨Bx, 0, none⟩)] (enters_of Ybaz.func132 (by kernel_rfl) rfl) (cpr idx lf nx cs) (cpr_lt hC) (by omega) W ?_)).mono ?_
  · intro W0 hW0 l J W1 hW1 hJ hY h0
    exact local1_in 9 l Bx S cb cap sb tb W.heap.size g tgt cs idx lf nx sl v hC hsl hn hM J W rfl hG cB hY W1 (hW0.trans (hW1.mono hW0.size)) h0
  · rintro e w' ⟨fb, ib, rfl, h1, h2, h3, hf, hit, hb⟩
    refine ⟨_, fb, ib, _, _, rfl, ⟨rfl, rfl, ?_, ?_, hf, hit⟩, Step.fresh hb [] (fun k => if k = fb then 29 else 30)⟩
    · simp only [show ¬ fb < W.heap.size by omega, if_false, if_true]
    · simp only [show ¬ ib < W.heap.size by omega, if_false, show ¬ ib = fb by omega]
end Go.Proofs.YbulkbmdoGreat
