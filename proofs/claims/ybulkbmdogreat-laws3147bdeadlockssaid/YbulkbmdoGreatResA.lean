import Derived.Test.YbulkbmdoGreatResP
import Derived.Test.YbulkbmdoGreatRsA
import Derived.Test.YbulkbmdoGreatRsB
import Derived.Test.YbulkbmdoGreatRsC
import Derived.Test.YbulkbmdoGreatGrow
namespace Go.Proofs.YbulkbmdoGreat
open Go.RowKit
set_option linter.unusedVariables false
set_option linter.unusedSimpArgs false

theorem grow_ok : GrowOk := fun o W t a cap n h hn => grow_any o W t a cap n h hn

set_option maxRecDepth 1000000 in
set_option maxHeartbeats 4000000 in
/-- resolve at a component whose members are all granted: no victims. -/
theorem resolve_none (o : Nat → Nat) (W : World) (R S : Nat) (g : GS) (tgt : Nat → Option Nat) (ds : List Nat) (dp : Nat → Nat) (v : VSt) (sb : Nat) (s : RS) (pv uv : Value) (stb cap : Nat) (pre comp : List Nat)
    (hV : VI o W R S g ds dp v sb) (hr : RAt o W R s pv uv) (hN : s.N = g.n) (hn : g.n ≤ 300) (hD : ds.length ≤ 300) (hds : ∀ p ∈ ds, p < g.n) (hdp : ∀ p ∈ ds, dp p < ds.length ∧ ds.getD (dp p) 0 = p)
    (hc : ∀ p ∈ comp, p ∈ ds) (hc0 : 0 < comp.length) (hRw : Rw o W 63 stb 3 cap (ints (pre ++ comp))) (hcap : cap ≤ 300) (hgr : ∀ p ∈ comp, s.gr p = true) :
    Calls Ybaz.prog 20 #[.pointer (some ⟨S, 0, none⟩), .slice (some ⟨stb, pre.length, none⟩) comp.length (cap - pre.length)] W fun e w' =>
      e = .returned (.tuple #[.slice none 0 0, .int .u8 2]) ∧ ∃ o' v', VI o' w' R S g ds dp v' sb ∧ Rw o' w' 63 stb 3 cap (ints pre) ∧ Step [20, 26, 63] o W o' w' := by
  have hD0 : 0 < ds.length := by
    obtain ⟨p, hp⟩ := List.exists_mem_of_length_pos hc0
    exact List.length_pos_of_mem (hc p hp)
  have hcl : comp.length ≤ 300 := by have := hRw.le; rw [ints_length, List.length_append] at this; omega
  obtain ⟨db, dc, hvd, tdb, hdd⟩ := hV.dead
  obtain ⟨da, ac, hva, tda, hdda⟩ := hV.deadAt
  have hdbl : db < W.heap.size := World.block_lt_of_cell? _ _ (hdd 0 hD0)
  have hdal : da < W.heap.size := World.block_lt_of_cell? _ _ (hdda _ (List.getElem_mem hD0))
  refine calls_of_wp_defers Ybaz.func20 (c := b20) rfl ?_
  simp only [Ybaz.ntmps20, List.size_toArray, List.length_cons, List.length_nil, Nat.reduceAdd, Nat.reduceSub, Array.replicate_succ, Array.replicate_zero, List.push_toArray, List.append_toArray, List.nil_append, List.cons_append]
  change Code.wp Ybaz.prog (t20 0) _ _ _
  rw [show t20 0 = .seq (s20 0) (t20 (0 + 1)) from rfl]
  refine wp_seq ?_
  refine r20_0 o S ?_
  intro w1 o1 B hB s1
  have t1 : Step [20, 26, 63] o W o1 w1 := s1.mono (by simp)
  change Code.wp Ybaz.prog (t20 1) _ _ _
  rw [show t20 1 = .seq (s20 1) (t20 (1 + 1)) from rfl]
  refine wp_seq ?_
  refine r20_1 o1 B S da g.n ac v dp stb cap pre.length pre comp hB (hV.ob.step s1 (by simp)) hva ((s1.own _ hdal).trans tda) (fun p hp => (s1.cell (p := ⟨da, p, none⟩) hdal (by simp)).trans (hdda p (hc p hp))) (fun p hp => hds p (hc p hp)) hn (hRw.step s1 (by simp)) hc0 hcap rfl ?_
  intro u6 u7 u22 u23 u24 u25 u26 u27 u28 u29 u30 u31 u32 u33 u34 u35 u36 u37 w2 R2 s2
  have t2 := t1.trans (s2.mono (by simp))
  change Code.wp Ybaz.prog (t20 2) _ _ _
  rw [show t20 2 = .seq (s20 2) (t20 (2 + 1)) from rfl]
  refine wp_seq ?_
  refine r20_2 o1 stb cap pre.length comp.length (cap - pre.length) pre (comp.map dp) R2 rfl (by simp) (by simpa using hcl) ?_
  intro u38 u39 w3 R3 s3
  have t3 := t2.trans (s3.mono (by simp))
  have s13 := (s1.mono (T' := [63]) (by simp)).trans (s2.trans s3)
  change Code.wp Ybaz.prog (t20 3) _ _ _
  rw [show t20 3 = .seq (s20 3) (t20 (3 + 1)) from rfl]
  refine wp_seq ?_
  obtain ⟨ca, cn, cc, hvc, hcc, hcs⟩ := hV.cands
  refine r20_3 grow_ok o1 B S comp.length v stb pre.length (cap - pre.length) ca cn cc ((hB.step s2 (by simp)).step s3 (by simp)) (hV.ob.step s13 (by simp)) hvc (hcs.step s13 (by simp)) hcl ?_
  intro u40 u41 u42 u43 u44 u45 u46 u47 u48 u49 u50 w4 o4 a4 c4 hc4 sl4 ob4 s4
  have t4 := t3.trans (s4.mono (by simp))
  change Code.wp Ybaz.prog (t20 4) _ _ _
  rw [show t20 4 = .seq (s20 4) (t20 (4 + 1)) from rfl]
  refine wp_seq ?_
  have hm2 : ∀ x ∈ srt (comp.map dp), ∃ p ∈ comp, dp p = x := fun x hx => by
    rw [srt_mem] at hx
    obtain ⟨p, hp, e⟩ := List.mem_map.1 hx
    exact ⟨p, hp, e⟩
  have hl2 : (srt (comp.map dp)).length = comp.length := by rw [srt_length]; simp
  rw [← hl2]
  refine r20_4 o4 B S R db ds.length dc { v with cands := .slice a4 0 c4 } s pv uv (fun x => ds.getD x 0) stb cap pre.length pre (srt (comp.map dp)) (((hB.step s2 (by simp)).step s3 (by simp)).step s4 (by simp)) ob4 hvd hV.hR ((t4.own _ hdbl).trans tdb) (Nat.lt_of_lt_of_le hdbl t4.size) (fun x hx => ?_) (fun x hx => ?_) hD (fun x hx => ?_) (by omega) (hr.step t4 (by simp) (by simp) (by simp) (by simp)) (R3.step s4 (by simp)) hcap rfl sl4 ?_
  · obtain ⟨p, hp, rfl⟩ := hm2 x hx
    exact (t4.cell (p := ⟨db, dp p, none⟩) hdbl (by simp [tdb])).trans (hdd _ (hdp p (hc p hp)).1)
  · obtain ⟨p, hp, rfl⟩ := hm2 x hx
    exact (hdp p (hc p hp)).1
  · obtain ⟨p, hp, rfl⟩ := hm2 x hx
    show ds.getD (dp p) 0 < s.N
    rw [(hdp p (hc p hp)).2, hN]; exact hds p (hc p hp)
  intro u9 u10 u53 u54 u55 u56 u57 u58 u59 u60 u61 u62 u63 u64 u65 u66 u67 u68 u69 u70 u71 u72 u73 u74 u75 u76 u77 u78 u79 u80 u81 u82 u83 u84 u85 w5 o5 cv sl5 ob5 s5
  have t5 := t4.trans (s5.mono (by simp))
  have e0 : ((srt (comp.map dp)).map (fun x => ds.getD x 0)).filter (fun p => !s.gr p) = [] := by
    rw [List.filter_eq_nil_iff]
    intro p hp
    have : p ∈ comp := (ord_mem hdp hc).1 hp
    simp [hgr p this]
  rw [e0] at sl5
  change Code.wp Ybaz.prog (t20 5) _ _ _
  rw [show t20 5 = .seq (s20 5) (t20 (5 + 1)) from rfl]
  refine wp_seq ?_
  obtain ⟨ca5, cc5, ecv, hl5⟩ := sl5.val
  refine r20_5A o5 B S { v with cands := cv } ca5 cc5 ((((hB.step s2 (by simp)).step s3 (by simp)).step s4 (by simp)).step s5 (by simp)) ob5 ecv ?_
  intro u86 u87 u88 u89 u90 u91
  have V5 : VI o5 w5 R S g ds dp { v with cands := cv } sb := by
    obtain ⟨n, bl, hq⟩ := hV.q
    obtain ⟨ia, iN, ic, e1, e2, e3⟩ := hV.ids
    obtain ⟨a, m, c, e4, e5⟩ := hV.wat
    exact ⟨ob5, hV.hG, hV.hR, dead_step (v := v) hD0 t5 (by simp) hV.dead, deadAt_step (v := v) hD0 t5 (by simp) hV.deadAt, hV.hslot, hV.slot.step t5 (by simp), sl5.rm, hV.slots.step t5 (by simp), hV.weight.step t5 (by simp), hV.cnt.step t5 (by simp), hV.shr.step t5 (by simp), ⟨n, bl, hq.step t5 (by simp) (fun j => by simp; omega)⟩, hV.co.step t5 (by simp), hV.cl.step t5 (by simp), hV.tw.step t5 (by simp), ⟨ia, iN, ic, e1, e2, e3.step t5 (by simp)⟩, ⟨a, m, c, e4, e5.step t5 (by simp)⟩⟩
  have R5 := ((R3.step s4 (by simp)).step s5 (by simp)).cut pre.length
  have e6 : (ints (pre ++ srt (comp.map dp))).take pre.length = ints pre := by simp [ints]
  rw [e6] at R5
  exact ⟨_, results_tmp2 rfl _ _ _, rfl, o5, _, V5, R5, t5⟩
end Go.Proofs.YbulkbmdoGreat
