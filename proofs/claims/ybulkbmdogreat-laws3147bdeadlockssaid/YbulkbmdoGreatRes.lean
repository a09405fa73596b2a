import Derived.Test.YbulkbmdoGreatResA
import Derived.Test.YbulkbmdoGreatRsE
import Derived.Test.YbulkbmdoGreatRsF
import Derived.Test.YbulkbmdoGreatSlotOff
namespace Go.Proofs.YbulkbmdoGreat
open Go.RowKit
set_option linter.unusedVariables false
set_option linter.unusedSimpArgs false

/-- What resolve may write. -/
def TR : List Nat := [1, 2, 3, 4, 20, 26, 27, 28, 31, 33, 34, 35, 36, 40, 41, 42, 63, 90, 91, 92, 93, 97, 100, 101, 102]
/-- What it leaves: the search idle, the reduction as it was but for its lists, and the victim. -/
def ResR (o : Nat → Nat) (W : World) (R S : Nat) (g : GS) (tgt : Nat → Option Nat) (ds : List Nat) (dp : Nat → Nat) (sb : Nat) (s : RS) (stb cap : Nat) (pre comp : List Nat) (vb vcap : Nat) (w' : World) : Prop :=
  ∃ (o' : Nat → Nat) (v' : VSt) (nf ni pv' uv' : Value) (hd : Nat), VI o' w' R S g ds dp v' sb ∧ RAt o' w' R { s with nf := nf, ni := ni } pv' uv' ∧ NG g tgt o' w' { s with nf := nf, ni := ni } ∧ Rw o' w' 63 stb 3 cap (ints pre) ∧ hd ∈ comp ∧ (∀ q ∈ comp, dp hd ≤ dp q) ∧ Sl o' w' 97 3 (.slice (some ⟨vb, 0, none⟩) 1 vcap) [.int .i64 (hd : Int)] ∧ Step TR o W o' w'

set_option maxRecDepth 1000000 in
set_option maxHeartbeats 4000000 in
/-- resolve at a cycle: its first member in byte order. -/
theorem resolve_one (htake : TakeOk) (o : Nat → Nat) (W : World) (R S : Nat) (g : GS) (tgt : Nat → Option Nat) (ds : List Nat) (dp : Nat → Nat) (v : VSt) (sb : Nat) (s : RS) (pv uv : Value) (stb cap : Nat) (pre comp : List Nat)
    (lf nx : Nat → Nat) (hB0 : CompB g tgt comp lf nx) (hV : VI o W R S g ds dp v sb) (hr : RAt o W R s pv uv) (hng : NG g tgt o W s) (hn : g.n ≤ 300) (hM : g.M ≤ 300) (hwp : ∀ i, i < g.M → g.wp i < g.n) (hnc : g.M ≤ g.ncap) (hncm : g.ncap ≤ 9223372036854775807) (hD : ds.length ≤ 300) (hds : ∀ p ∈ ds, p < g.n) (hdp : ∀ p ∈ ds, dp p < ds.length ∧ ds.getD (dp p) 0 = p)
    (hc : ∀ p ∈ comp, p ∈ ds) (hRw : Rw o W 63 stb 3 cap (ints (pre ++ comp))) (hcap : cap ≤ 300) (hgr : ∀ p ∈ comp, s.gr p = false) (hm : s.marks ≤ 100) (hu : s.und.length ≤ 100) (hp0 : s.pend = []) :
    Calls Ybaz.prog 20 #[.pointer (some ⟨S, 0, none⟩), .slice (some ⟨stb, pre.length, none⟩) comp.length (cap - pre.length)] W fun e w' =>
      ∃ vb vcap, e = .returned (.tuple #[.slice (some ⟨vb, 0, none⟩) 1 vcap, .int .u8 2]) ∧ ResR o W R S g tgt ds dp sb s stb cap pre comp vb vcap w' := by
  have hc0 := hB0.ne
  have hN := hng.hN
  have hD0 : 0 < ds.length := by
    obtain ⟨p, hp⟩ := List.exists_mem_of_length_pos hc0
    exact List.length_pos_of_mem (hc p hp)
  have hcl : comp.length ≤ 300 := by have := hRw.le; rw [ints_length, List.length_append] at this; omega
  obtain ⟨db, dc, hvd, tdb, hdd⟩ := hV.dead
  obtain ⟨da, ac, hva, tda, hdda⟩ := hV.deadAt
  have hdbl : db < W.heap.size := World.block_lt_of_cell? _ _ (hdd 0 hD0)
  have hdal : da < W.heap.size := World.block_lt_of_cell? _ _ (hdda _ (List.getElem_mem hD0))
  refine calls_of_wp_defers Ybaz.func20 (c := b20) rfl ?_
  simp only [Ybaz.ntmps20, List.size_toArray, List.length_cons, List.length_nil, Nat.reduceAdd, Nat.reduceSub, Array.replicate_succ, Array.replicate_zero, List.push_toArray, List.append_toArray, List.nil_append, List.cons_append]
  change Code.wp Ybaz.prog (t20 0) _ _ _
  rw [show t20 0 = .seq (s20 0) (t20 (0 + 1)) from rfl]
  refine wp_seq ?_
  refine r20_0 o S ?_
  intro w1 o1 B hB s1
  have t1 : Step [20, 26, 63] o W o1 w1 := s1.mono (by simp)
  change Code.wp Ybaz.prog (t20 1) _ _ _
  rw [show t20 1 = .seq (s20 1) (t20 (1 + 1)) from rfl]
  refine wp_seq ?_
  refine r20_1 o1 B S da g.n ac v dp stb cap pre.length pre comp hB (hV.ob.step s1 (by simp)) hva ((s1.own _ hdal).trans tda) (fun p hp => (s1.cell (p := ⟨da, p, none⟩) hdal (by simp)).trans (hdda p (hc p hp))) (fun p hp => hds p (hc p hp)) hn (hRw.step s1 (by simp)) hc0 hcap rfl ?_
  intro u6 u7 u22 u23 u24 u25 u26 u27 u28 u29 u30 u31 u32 u33 u34 u35 u36 u37 w2 R2 s2
  have t2 := t1.trans (s2.mono (by simp))
  change Code.wp Ybaz.prog (t20 2) _ _ _
  rw [show t20 2 = .seq (s20 2) (t20 (2 + 1)) from rfl]
  refine wp_seq ?_
  refine r20_2 o1 stb cap pre.length comp.length (cap - pre.length) pre (comp.map dp) R2 rfl (by simp) (by simpa using hcl) ?_
  intro u38 u39 w3 R3 s3
  have t3 := t2.trans (s3.mono (by simp))
  have s13 := (s1.mono (T' := [63]) (by simp)).trans (s2.trans s3)
  change Code.wp Ybaz.prog (t20 3) _ _ _
  rw [show t20 3 = .seq (s20 3) (t20 (3 + 1)) from rfl]
  refine wp_seq ?_
  obtain ⟨ca, cn, cc, hvc, hcc, hcs⟩ := hV.cands
  refine r20_3 grow_ok o1 B S comp.length v stb pre.length (cap - pre.length) ca cn cc ((hB.step s2 (by simp)).step s3 (by simp)) (hV.ob.step s13 (by simp)) hvc (hcs.step s13 (by simp)) hcl ?_
  intro u40 u41 u42 u43 u44 u45 u46 u47 u48 u49 u50 w4 o4 a4 c4 hc4 sl4 ob4 s4
  have t4 := t3.trans (s4.mono (by simp))
  change Code.wp Ybaz.prog (t20 4) _ _ _
  rw [show t20 4 = .seq (s20 4) (t20 (4 + 1)) from rfl]
  refine wp_seq ?_
  have hm2 : ∀ x ∈ srt (comp.map dp), ∃ p ∈ comp, dp p = x := fun x hx => by
    rw [srt_mem] at hx
    obtain ⟨p, hp, e⟩ := List.mem_map.1 hx
    exact ⟨p, hp, e⟩
  have hl2 : (srt (comp.map dp)).length = comp.length := by rw [srt_length]; simp
  rw [← hl2]
  refine r20_4 o4 B S R db ds.length dc { v with cands := .slice a4 0 c4 } s pv uv (fun x => ds.getD x 0) stb cap pre.length pre (srt (comp.map dp)) (((hB.step s2 (by simp)).step s3 (by simp)).step s4 (by simp)) ob4 hvd hV.hR ((t4.own _ hdbl).trans tdb) (Nat.lt_of_lt_of_le hdbl t4.size) (fun x hx => ?_) (fun x hx => ?_) hD (fun x hx => ?_) (by omega) (hr.step t4 (by simp) (by simp) (by simp) (by simp)) (R3.step s4 (by simp)) hcap rfl sl4 ?_
  · obtain ⟨p, hp, rfl⟩ := hm2 x hx
    exact (t4.cell (p := ⟨db, dp p, none⟩) hdbl (by simp [tdb])).trans (hdd _ (hdp p (hc p hp)).1)
  · obtain ⟨p, hp, rfl⟩ := hm2 x hx
    exact (hdp p (hc p hp)).1
  · obtain ⟨p, hp, rfl⟩ := hm2 x hx
    show ds.getD (dp p) 0 < s.N
    rw [(hdp p (hc p hp)).2, hN]; exact hds p (hc p hp)
  intro u9 u10 u53 u54 u55 u56 u57 u58 u59 u60 u61 u62 u63 u64 u65 u66 u67 u68 u69 u70 u71 u72 u73 u74 u75 u76 u77 u78 u79 u80 u81 u82 u83 u84 u85 w5 o5 cv sl5 ob5 s5
  have t5 := t4.trans (s5.mono (by simp))
  have e0 : ((srt (comp.map dp)).map (fun x => ds.getD x 0)).filter (fun p => !s.gr p) = ord ds dp comp := by
    show (ord ds dp comp).filter _ = _
    rw [List.filter_eq_self]
    intro p hp
    simp [hgr p ((ord_mem hdp hc).1 hp)]
  rw [e0] at sl5
  have hC := hB0.cyc hdp hc
  have hmem : ∀ {p}, p ∈ ord ds dp comp ↔ p ∈ comp := ord_mem hdp hc
  have hol := ord_length ds dp comp
  have hhd : ∀ q ∈ comp, dp ((ord ds dp comp)[0]'hC.ne) ≤ dp q := fun q hq => ord_head hdp hc hC.ne q hq
  obtain ⟨cs, hcs⟩ : ∃ cs, ord ds dp comp = cs := ⟨_, rfl⟩
  rw [hcs] at sl5 hC
  simp only [hcs] at hmem hol hhd
  obtain ⟨idx, hidx⟩ : ∃ idx : Nat → Nat, (fun p => cs.idxOf p) = idx := ⟨_, rfl⟩
  rw [hidx] at hC
  clear e0 hidx
  have hB5 := (((hB.step s2 (by simp)).step s3 (by simp)).step s4 (by simp)).step s5 (by simp)
  change Code.wp Ybaz.prog (t20 5) _ _ _
  rw [show t20 5 = .seq (s20 5) (t20 (5 + 1)) from rfl]
  refine wp_seq ?_
  obtain ⟨ca5, cc5, ecv, hl5⟩ := sl5.val
  rw [ints_length] at ecv hl5
  have hc300 : cs.length ≤ 300 := by omega
  refine r20_5B o5 B S cs.length { v with cands := cv } ca5 cc5 hB5 ob5 ecv hC.ne ?_
  intro u86 u87 u88 u89 u90 u91
  change Code.wp Ybaz.prog (t20 6) _ _ _
  rw [show t20 6 = .seq (s20 6) (t20 (6 + 1)) from rfl]
  refine wp_seq ?_
  obtain ⟨xa, xn, xc, hvs, hxc, hxs⟩ := hV.slots
  refine r20_6 grow_ok o5 B S cs.length { v with cands := cv } ca5 cc5 ecv xa xn xc hB5 ob5 hvs (hxs.step t5 (by simp)) hc300 ?_
  intro u92 u93 u94 u95 u96 u97 u98 u99 u100 u101 u102 u103 u104 u105 w6 o6 a6 c6 hc6 sl6 ob6 s6
  have t6 := t5.trans (s6.mono (by simp))
  have hB6 := hB5.step s6 (by simp)
  change Code.wp Ybaz.prog (t20 7) _ _ _
  rw [show t20 7 = .seq (s20 7) (t20 (7 + 1)) from rfl]
  refine wp_seq ?_
  obtain ⟨ya, yn, yc, hvw, hyw⟩ := hV.wat
  refine r20_7 o6 B S cs.length { v with cands := cv, slots := .slice a6 0 c6 } ca5 cc5 ecv ya yn yc hB6 ob6 hvw (hyw.step t6 (by simp)) hc300 hC.ne ?_
  intro u106 u107 u108 u109 u110 u111 u112 u113 u114 u115 u116 u117 u118 u119 u120 u121 u122 u123 u124 u125 w7 o7 a7 c7 hc7 sl7 ob7 s7
  have t7 := t6.trans (s7.mono (by simp))
  have hB7 := hB6.step s7 (by simp)
  change Code.wp Ybaz.prog (t20 8) _ _ _
  rw [show t20 8 = .seq (s20 8) (t20 (8 + 1)) from rfl]
  refine wp_seq ?_
  refine r20_8 o7 B S g.n sb { v with cands := cv, slots := .slice a6 0 c6, watched := .slice a7 cs.length c7 } cs idx (fun _ => -1) hB7 ob7 ((sl5.step s6 (by simp)).step s7 (by simp)) hC.ne hc300 hC.lt hn hC.hidx hV.hslot (hV.slot.step t7 (by simp)) (sl6.step s7 (by simp)) ?_
  intro u11 u12 u129 u130 u131 u132 u133 u134 u135 u136 u137 u138 u139 u140 u141 u142 u143 u144 u145 u146 u147 u148 u149 u150 u151 u152 u153 w8 o8 sv A8 sl8 ob8 s8
  have t8 := (t7.mono (T' := [20, 26, 27, 31, 63]) (by simp)).trans (s8.mono (by simp))
  have hB8 := hB7.step s8 (by simp)
  change Code.wp Ybaz.prog (t20 9) _ _ _
  rw [show t20 9 = .seq (s20 9) (t20 (9 + 1)) from rfl]
  refine wp_seq ?_
  refine r20_9 B ?_
  intro u154
  dsimp only
  change Code.wp Ybaz.prog (t20 10) _ _ _
  rw [show t20 10 = .seq (s20 10) (t20 (10 + 1)) from rfl]
  refine wp_seq ?_
  refine r20_10 o8 B S cs.length { v with cands := cv, slots := sv, watched := .slice a7 cs.length c7 } ca5 cc5 ecv hB8 ob8 ?_
  intro u155 u156 u157 u158 u159
  change Code.wp Ybaz.prog (t20 11) _ _ _
  rw [show t20 11 = .seq (s20 11) (t20 (11 + 1)) from rfl]
  refine wp_seq ?_
  obtain ⟨za, zn, zc, hvz, hzc, hzs⟩ := hV.weight
  refine r20_11 grow_ok o8 B S cs.length { v with cands := cv, slots := sv, watched := .slice a7 cs.length c7 } ca5 cc5 ecv za zn zc hB8 ob8 hvz (hzs.step t8 (by simp)) hc300 ?_
  intro u160 u161 u162 u163 u164 u165 u166 u167 u168 u169 u170 u171 u172 u173 w11 o11 a11 c11 hc11 sl11 ob11 s11
  have t11 := t8.trans (s11.mono (by simp))
  have hB11 := hB8.step s11 (by simp)
  change Code.wp Ybaz.prog (t20 12) _ _ _
  rw [show t20 12 = .seq (s20 12) (t20 (12 + 1)) from rfl]
  refine wp_seq ?_
  obtain ⟨ia, iN, ic, hvi, hic, his⟩ := hV.ids
  refine r20_12 o11 B S cs.length { v with cands := cv, slots := sv, watched := .slice a7 cs.length c7, weight := .slice a11 0 c11 } g cs lf ia iN ic hB11 ob11 (hng.gat.step t11 (by simp) (by simp) (by simp)) hV.hG (((((sl5.step s6 (by simp)).step s7 (by simp)).step s8 (by simp))).step s11 (by simp)) rfl hC.ne hc300 hC.lt hn hM (fun p hp => ⟨(hC.root p hp).1, (hC.root p hp).2.1, (hC.root p hp).2.2.1, hB0.tid p (hmem.1 hp)⟩) hnc hncm hvi hic (his.step t11 (by simp)) sl11 ?_
  intro u15 u16 u177 u178 u179 u180 u181 u182 u183 u184 u185 u186 u187 u188 u189 u190 u191 u192 u193 u194 u195 u196 u197 u198 u199 u200 u201 u202 u203 u204 u205 u206 u207 u208 u209 u210 u211 u212 u213 u214 u215 u216 u217 u218 u219 u220 u221 u222 u223 u224 u225 u226 u227 u228 u229 u230 u231 u232 u233 u234 w12 o12 wv ja jn jc sl12 hjc ids12 ob12 s12
  have t12 := (t11.mono (T' := [20, 26, 27, 28, 31, 35, 63]) (by simp)).trans (s12.mono (by simp))
  have hB12 := hB11.step s12 (by simp)
  change Code.wp Ybaz.prog (t20 13) _ _ _
  rw [show t20 13 = .seq (s20 13) (t20 (13 + 1)) from rfl]
  refine wp_seq ?_
  refine r20_13 o12 B S { v with cands := cv, slots := sv, watched := .slice a7 cs.length c7, ids := .slice ja jn jc, weight := wv } hB12 ob12 ?_
  intro u235 u236 u237 u238 w13 ob13 s13'
  have t13 := t12.trans (s13'.mono (by simp))
  have hB13 := hB12.step s13' (by simp)
  obtain ⟨v13, hv13⟩ : ∃ v13 : VSt, { v with cands := cv, slots := sv, watched := .slice a7 cs.length c7, ids := .slice ja jn jc, weight := wv, lf := .slice none 0 0, li := .slice none 0 0 } = v13 := ⟨_, rfl⟩
  have q1 : v13.G = v.G := by rw [← hv13]
  have q2 : v13.R = v.R := by rw [← hv13]
  have q3 : v13.dead = v.dead := by rw [← hv13]
  have q4 : v13.deadAt = v.deadAt := by rw [← hv13]
  have q5 : v13.cands = cv := by rw [← hv13]
  have q6 : v13.slots = sv := by rw [← hv13]
  have q7 : v13.watched = .slice a7 cs.length c7 := by rw [← hv13]
  have q8 : v13.ids = .slice ja jn jc := by rw [← hv13]
  have q9 : v13.weight = wv := by rw [← hv13]
  have q10 : v13.lf = .slice none 0 0 := by rw [← hv13]
  have q11 : v13.slot = v.slot := by rw [← hv13]
  have q12 : v13.count = v.count ∧ v13.shares = v.shares ∧ v13.qb = v.qb ∧ v13.coreOf = v.coreOf ∧ v13.coreLast = v.coreLast ∧ v13.topW = v.topW := by rw [← hv13]; exact ⟨rfl, rfl, rfl, rfl, rfl, rfl⟩
  rw [hv13] at ob13
  clear hv13 ob12 ob11 ob8 ob7 ob6 ob5 ob4
  obtain ⟨sl, hsl⟩ : ∃ sl : Nat → Int, (fun p => if p ∈ cs then (idx p : Int) else -1) = sl := ⟨_, rfl⟩
  have slA : Ar o12 w13 27 sb 3 g.n (fun i => .int .i64 (sl i)) := by
    rw [← hsl]
    exact ((A8.step s11 (by simp)).step s12 (by simp)).step s13' (by simp)
  have hsl1 : ∀ p ∈ cs, sl p = (idx p : Int) := fun p hp => by rw [← hsl]; simp [hp]
  have hsl2 : ∀ p, (if p ∈ cs then -1 else sl p) = -1 := fun p => by rw [← hsl]; by_cases h : p ∈ cs <;> simp [h]
  clear hsl
  have hX : Cx g tgt cs idx lf nx sl := ⟨hC, hsl1, hn, hM, hwp, fun p hp => hB0.tid p (hmem.1 hp)⟩
  have c13 := (((((sl5.step s6 (by simp)).step s7 (by simp)).step s8 (by simp)).step s11 (by simp)).step s12 (by simp)).step s13' (by simp)
  have sl13 := ((sl8.step s11 (by simp)).step s12 (by simp)).step s13' (by simp)
  have wt13 := sl12.step s13' (by simp)
  have VG13 : VG o12 w13 R S s pv uv g tgt v13 cs idx lf nx sl sb := by
    refine ⟨hr.step t13 (by simp) (by simp) (by simp) (by simp), hng.step t13 (by decide) rfl rfl rfl rfl rfl rfl, ⟨ob13, q1.trans hV.hG, q2.trans hV.hR, by rw [q5]; exact c13, q11.trans hV.hslot, slA⟩, .inl q10, by rw [q12.1]; exact hV.cnt.step t13 (by simp), by rw [q12.2.1]; exact hV.shr.step t13 (by simp), ?_, by rw [q12.2.2.2.1]; exact hV.co.step t13 (by simp), by rw [q12.2.2.2.2.1]; exact hV.cl.step t13 (by simp), by rw [q12.2.2.2.2.2]; exact hV.tw.step t13 (by simp), ?_, ?_⟩
    · obtain ⟨n, bl, hq⟩ := hV.q
      rw [q12.2.2.1]
      exact ⟨n, bl, hq.step t13 (by simp) (fun j => by simp; omega)⟩
    · obtain ⟨gb, gc, e1, e2, e3, e4, e5⟩ := sl13.some_of (by rw [ints_length]; simpa using hC.ne)
      have hh := sl13
      rw [e1] at hh
      have el : (ints (List.range cs.length)).length = cs.length := by rw [ints_length]; simp
      rw [el] at e1 e2
      refine ⟨gb, gc, by rw [q6, e1], e2, e3, e4, fun j hj => ?_⟩
      rw [hh.cell j (by rw [el]; exact hj)]
      simp [ints]
    · obtain ⟨gb, gc, e1, e2, e3, e4, e5⟩ := wt13.some_of (by rw [ints_length]; simpa using hC.ne)
      have hh := wt13
      rw [e1] at hh
      have el : (ints (List.replicate cs.length 1)).length = cs.length := by rw [ints_length]; simp
      rw [el] at e1
      refine ⟨gb, gc, by rw [q9, e1], e4, fun j hj => ?_⟩
      rw [hh.cell j (by rw [el]; exact hj)]
      simp [ints]
  have hgr' : ∀ q ∈ cs, s.gr q = false := fun q hq => hgr q (hmem.1 hq)
  change Code.wp Ybaz.prog (t20 14) _ _ _
  rw [show t20 14 = .seq (s20 14) (t20 (14 + 1)) from rfl]
  refine wp_seq ?_
  refine r20_14 htake o12 B R S s pv uv g tgt v13 cs idx lf nx sl sb (2 * cs.length) hX VG13 hm hu hp0 hgr' rfl hB13 ?_
  intro u239 u240 u241 w14 ma mc o14 v14 nf ni pv' uv' VG14 VE14 s14
  have hB14 := hB13.step s14 (by decide)
  change Code.wp Ybaz.prog (t20 15) _ _ _
  rw [show t20 15 = .seq (s20 15) (t20 (15 + 1)) from rfl]
  refine wp_seq ?_
  refine r20_15 o14 B R S { s with nf := nf, ni := ni } pv' uv' g tgt v14 cs idx lf nx sl sb (2 * cs.length) hX VG14 hm hu hp0 hgr' rfl hB14 ma mc ?_
  intro u242 u243 u244 u245 u246 u247 u248 u249 u250 u251 u252 u253 u254 u255 u256 u257 u258 u259 u260 u261 u262 u263 u264 u265 u266 u267 u268 u269 u270 u271 u272 u273 u274 u275 u276 u277 w15 dn cb ccap hE
  obtain ⟨o15, v15, nf2, ni2, pv2, uv2, VG15, VE15, sl15, s15⟩ := hE
  have s15b := (Step.drewN TS o14 w14 dn).trans s15
  have hB15 := hB14.step s15b (by decide)
  have VE := VE14.trans VE15
  change Code.wp Ybaz.prog (t20 16) _ _ _
  rw [show t20 16 = .seq (s20 16) (t20 (16 + 1)) from rfl]
  refine wp_seq ?_
  refine r20_16 o15 B S cb ccap v15 cs hB15 VG15.sa.ob VG15.sa.cands hC.ne hc300 sl15 ?_
  intro u19 u278 u279 u280 u281 u282 u283 u284 u285 u286 u287 u288 u289 u290 u291 u292 u293 u294 w16 o16 vb vcap sl16 s16
  have hB16 := hB15.step s16 (by decide)
  change Code.wp Ybaz.prog (t20 17) _ _ _
  refine r20_17 ?_
  intro u295 u296
  have SA16 := VG15.sa.step s16 (by decide) (by decide) (by decide)
  refine leaves_cons (f := 36) (args := #[.pointer (some ⟨B, 0, none⟩)]) (by simp) (by simp [go_sem]) ?_
  refine (slots_off o16 w16 R S B g v15 cs sl sb SA16 (hB16.cell 0) hB16.tag hC.lt hC.ne hc300 hn _).mono ?_
  rintro e u' w17 ⟨rfl, ⟨r, rfl⟩, SA17, s17⟩
  have tA := (t13.mono (T' := TR) (by decide)).trans ((s14.mono (T' := TR) (by decide)).trans ((s15b.mono (T' := TR) (by decide)).trans ((s16.mono (T' := TR) (by decide)).trans (s17.mono (T' := TR) (by decide)))))
  have sL := (s14.mono (T' := TR) (by decide)).trans ((s15b.mono (T' := TR) (by decide)).trans ((s16.mono (T' := TR) (by decide)).trans (s17.mono (T' := TR) (by decide))))
  have sQ := (s16.mono (T' := [27, 97]) (by simp)).trans (s17.mono (T' := [27, 97]) (by simp))
  have VI17 : VI o16 w17 R S g ds dp v15 sb := by
    obtain ⟨n, bl, hq⟩ := VG15.q
    have hd := dead_step (v := v) hD0 tA (by decide) hV.dead
    have ha := deadAt_step (v := v) hD0 tA (by decide) hV.deadAt
    refine ⟨SA17.ob, SA17.hG, SA17.hR, ?_, ?_, SA17.hslot, ?_, SA17.cands.rm, ?_, ?_, VG15.cnt.step sQ (by simp), VG15.shr.step sQ (by simp), ⟨n, bl, hq.step sQ (by simp) (fun j => by simp; omega)⟩, VG15.co.step sQ (by simp), VG15.cl.step sQ (by simp), VG15.tw.step sQ (by simp), ?_, ?_⟩
    · rw [VE.dead, q3]; exact hd
    · rw [VE.deadAt, q4]; exact ha
    · have := SA17.slot
      simp only [hsl2] at this
      exact this
    · rw [VE.slots, q6]; exact (sl13.step s14 (by decide) |>.step s15b (by decide) |>.step sQ (by simp)).rm
    · rw [VE.weight, q9]; exact (wt13.step s14 (by decide) |>.step s15b (by decide) |>.step sQ (by simp)).rm
    · exact ⟨ja, jn, jc, by rw [VE.ids, q8], hjc, ((ids12.step s13' (by simp)).step s14 (by decide) |>.step s15b (by decide)).step sQ (by simp)⟩
    · exact ⟨a7, cs.length, c7, by rw [VE.watched, q7], (((((sl7.step s8 (by simp)).step s11 (by simp)).step s12 (by simp)).step s13' (by simp)).step s14 (by decide) |>.step s15b (by decide)).step sQ (by simp)⟩
  have R13 := (R3.step s4 (by simp)).step s5 (by simp)
  have R17 := (((((((R13.step s6 (by simp)).step s7 (by simp)).step s8 (by simp)).step s11 (by simp)).step s12 (by simp)).step s13' (by simp)).step s14 (by decide) |>.step s15b (by decide)).step sQ (by simp)
  have R18 := R17.cut pre.length
  have e6 : (ints (pre ++ srt (comp.map dp))).take pre.length = ints pre := by simp [ints]
  rw [e6] at R18
  refine ⟨_, results_tmp2 rfl _ _ _, vb, vcap, rfl, o16, v15, nf2, ni2, pv2, uv2, cs[0]'hC.ne, VI17, VG15.r.step sQ (by simp) (by simp) (by simp) (by simp), VG15.ng.step sQ (by decide) rfl rfl rfl rfl rfl rfl, R18, hmem.1 (List.getElem_mem _), hhd, sl16.step s17 (by simp), tA⟩
end Go.Proofs.YbulkbmdoGreat
