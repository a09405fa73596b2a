import Derived.Test.YbulkbmdoGreatD1
import Derived.Test.YbulkbmdoGreatD2
import Derived.Test.YbulkbmdoGreatD5
import Derived.Test.YbulkbmdoGreatD10
import Derived.Test.YbulkbmdoGreatD11
import Derived.Test.YbulkbmdoGreatDeadP
namespace Go.Proofs.YbulkbmdoGreat
open Go.RowKit
set_option linter.unusedVariables false
set_option linter.unusedSimpArgs false

/-- What deadlocks hands back where somebody is dead: by group the ids of its members, in byte order, its victim, proof 2. -/
def DeadR (g : GS) (s : RS) (nx j : Nat → Nat) (o : Nat → Nat) (W : World) (rb rc K : Nat) (w' : World) : Prop :=
  ∃ (o' : Nat → Nat) (dl : List Nat) (rt : Nat → Nat) (vq : Nat → Bool) (mv vv : Nat → Value), dl.Perm (fl g s.gr g.n) ∧ (dl.Pairwise fun a b => j a ≤ j b) ∧ (∀ p ∈ dl, ∀ q ∈ dl, rt p = rt q ↔ vic g.n nx j p = vic g.n nx j q) ∧ (∀ p ∈ dl, vq p = true ↔ vic g.n nx j p = p) ∧ K = (ks rt dl).length ∧
    S3 o' w' 55 (.slice (some ⟨rb, 0, none⟩) K rc) K (D3 mv vv K) ∧ (∀ i, i < K → Sl o' w' (200 + 2 * i) 32 (mv i) (strs g (mem rt (ks rt dl) i dl))) ∧ (∀ i, i < K → Sl o' w' (201 + 2 * i) 32 (vv i) (strs g (mem rt (ks rt dl) i (dl.filter vq)))) ∧ Step T9 o W o' w'

set_option maxRecDepth 1000000 in
set_option maxHeartbeats 2000000 in
theorem deadlocks_any (o : Nat → Nat) (W : World) (R : Nat) (g : GS) (s : RS) (pv uv : Value) (tgt : Nat → Option Nat) (nx lf j ky : Nat → Nat) (hC : DC o W R g s pv uv) (hng : NG g tgt o W s) (hB : DB g s) (hsort : SortOk g ky j) (hky : ∀ p, p < g.n → ∃ x y : UInt8, g.pid p = ⟨#[x, y]⟩ ∧ ky p = kv x.toNat y.toNat 8)
    (hP : GP g tgt (fun p => p < g.n ∧ dq g s.gr p = true) nx lf j) (hwp : ∀ i, i < g.M → g.wp i < g.n) (htg : ∀ i p, tgt i = some p → p < g.n) (hnc : g.M ≤ g.ncap) (hncm : g.ncap ≤ 9223372036854775807) (hmk : s.marks = 0) (hun : s.und = []) (hpe : s.pend = []) :
    Calls Ybaz.prog 7 #[.pointer (some ⟨R, 0, none⟩)] W fun e w' => (fl g s.gr g.n = [] ∧ e = .returned (.slice none 0 0) ∧ ∃ o', Step T9 o W o' w') ∨ (fl g s.gr g.n ≠ [] ∧ ∃ rb rc K, e = .returned (.slice (some ⟨rb, 0, none⟩) K rc) ∧ DeadR g s nx j o W rb rc K w') := by
  have hn := hB.n
  have hn0 := hB.n0
  have hM := hB.M
  obtain ⟨D, hD⟩ : ∃ D, (fl g s.gr g.n).length = D := ⟨_, rfl⟩
  have hDn : D ≤ g.n := by rw [← hD]; exact fl_le _ _ _
  have hD3 : D ≤ 300 := by omega
  have hdw := hP.dw
  have hnxd : ∀ p, p < g.n → dq g s.gr p = true → nx p < g.n ∧ dq g s.gr (nx p) = true ∧ vic g.n nx j (nx p) = vic g.n nx j p := fun p h1 h2 => ⟨(hdw.nx p ⟨h1, h2⟩).1, (hdw.nx p ⟨h1, h2⟩).2, hdw.vic_nx ⟨h1, h2⟩⟩
  refine calls_of_wp Ybaz.func7 (c := bd7) rfl ?_
  simp only [Ybaz.ntmps7, List.size_toArray, List.length_cons, List.length_nil, Nat.reduceAdd, Nat.reduceSub, Array.replicate_succ, Array.replicate_zero, List.push_toArray, List.append_toArray, List.nil_append, List.cons_append]

  change Code.wp Ybaz.prog (tl7 0) _ _ _
  rw [show tl7 0 = .seq (st7 0) (tl7 1) from rfl]
  refine wp_seq ?_
  refine d7_0 ?_
  change Code.wp Ybaz.prog (tl7 1) _ _ _
  rw [show tl7 1 = .seq (st7 1) (tl7 2) from rfl]
  refine wp_seq ?_
  refine d7_1 R g.G (by rw [← hC.hG]; exact hC.r.ob.cell 0) ?_
  intro u42 u43 u44 u45
  change Code.wp Ybaz.prog (tl7 2) _ _ _
  rw [show tl7 2 = .seq (st7 2) (tl7 3) from rfl]
  refine wp_seq ?_
  refine d7_2 o R g.G ?_
  intro u46 u47 u48 w2 o2 S S2 s2
  have C_1 := hC.step s2 (by decide)
  clear hC
  have N_2 : NG g tgt _ _ s := hng.step s2 (by decide) rfl rfl rfl rfl rfl rfl
  clear hng
  have t2 := up s2 (by decide)
  change Code.wp Ybaz.prog (tl7 3) _ _ _
  rw [show tl7 3 = .seq (st7 3) (tl7 4) from rfl]
  refine wp_seq ?_
  refine d7_3 ?_
  change Code.wp Ybaz.prog (tl7 4) _ _ _
  rw [show tl7 4 = .seq (st7 4) (tl7 5) from rfl]
  refine wp_seq ?_
  refine d7_4 o2 R g s pv uv C_1 hB ?_
  intro u7 u8 u54 u55 u56 u57 u58 u59 u60 u61 u62 u63 u64 u65 u66 u67 u68 u69 u70 u71 u72 u73 u74 u75 u76 u77 u78 u79 u80 u81 w4 o4 s4
  have C_3 := C_1.step s4 (by decide)
  clear C_1
  have N_4 : NG g tgt _ _ s := N_2.step s4 (by decide) rfl rfl rfl rfl rfl rfl
  clear N_2
  have S_5 := S2.step s4 (by decide)
  clear S2
  have t4 := t2.trans (up s4 (by decide))
  rw [hD]
  by_cases hz : D = 0
  · subst hz
    change Code.wp Ybaz.prog (tl7 5) _ _ _
    rw [show tl7 5 = .seq (st7 5) (tl7 6) from rfl]
    refine wp_seq ?_
    refine d7_5A ?_
    intro u82 u83
    simp only [Exit.then]
    refine bodyPost_ret (results_tmp rfl _ _ _) rfl (Or.inl ⟨List.eq_nil_of_length_eq_zero hD, rfl, o4, t4⟩)
  have hD0 : 0 < D := by omega
  have hne : fl g s.gr g.n ≠ [] := by intro e; rw [e] at hD; simp at hD; omega
  change Code.wp Ybaz.prog (tl7 5) _ _ _
  rw [show tl7 5 = .seq (st7 5) (tl7 6) from rfl]
  refine wp_seq ?_
  refine d7_5B D hD0 ?_
  intro u82 u83
  change Code.wp Ybaz.prog (tl7 6) _ _ _
  rw [show tl7 6 = .seq (st7 6) (tl7 7) from rfl]
  refine wp_seq ?_
  refine d7_6 o4 D hD3 ?_
  intro u84 u85 w6 o6 kb K6 s6
  have C_6 := C_3.step s6 (by decide)
  clear C_3
  have N_7 : NG g tgt _ _ s := N_4.step s6 (by decide) rfl rfl rfl rfl rfl rfl
  clear N_4
  have S_8 := S_5.step s6 (by decide)
  clear S_5
  have t6 := t4.trans (up s6 (by decide))
  change Code.wp Ybaz.prog (tl7 7) _ _ _
  rw [show tl7 7 = .seq (st7 7) (tl7 8) from rfl]
  refine wp_seq ?_
  refine d7_7 o6 R g s pv uv C_6 hB kb D ky hky hD.symm K6 ?_
  intro u10 u11 u91 u92 u93 u94 u95 u96 u97 u98 u99 u100 u101 u102 u103 u104 u105 u106 u107 u108 u109 u110 u111 u112 u113 u114 u115 u116 u117 w7 o7 K7 s7
  have C_9 := C_6.step s7 (by decide)
  clear C_6
  have N_10 : NG g tgt _ _ s := N_7.step s7 (by decide) rfl rfl rfl rfl rfl rfl
  clear N_7
  have S_11 := S_8.step s7 (by decide)
  clear S_8
  have t7 := t6.trans (up s7 (by decide))
  change Code.wp Ybaz.prog (tl7 8) _ _ _
  rw [show tl7 8 = .seq (st7 8) (tl7 9) from rfl]
  refine wp_seq ?_
  have hK8 := K7
  rw [← hD] at hK8
  refine d7_8 o7 g ky j hsort kb D (fl g s.gr g.n) C_9.ga (fun p hp => ((fl_mem g s.gr).1 hp).1) (by rw [hD]; exact hD0) (fl_nodup _ _ _) hD.symm hK8 ?_
  intro u118 u119 u120 w8 o8 dl hpm hpw K8 s8
  have C_12 := C_9.step s8 (by decide)
  clear C_9
  have N_13 : NG g tgt _ _ s := N_10.step s8 (by decide) rfl rfl rfl rfl rfl rfl
  clear N_10
  have S_14 := S_11.step s8 (by decide)
  clear S_11
  have t8 := t7.trans (up s8 (by decide))
  have hdl : dl.length = D := by rw [hpm.length_eq, hD]
  have hdm : ∀ p, (p < g.n ∧ dq g s.gr p = true) ↔ p ∈ dl := fun p => by rw [hpm.mem_iff, fl_mem]
  have hdnd : dl.Nodup := hpm.nodup_iff.2 (fl_nodup _ _ _)
  have hdlt : ∀ p ∈ dl, p < g.n := fun p hp => ((hdm p).2 hp).1
  change Code.wp Ybaz.prog (tl7 9) _ _ _
  rw [show tl7 9 = .seq (st7 9) (tl7 10) from rfl]
  refine wp_seq ?_
  refine d7_9 o8 S D (v0 g.G R) (some ⟨kb, 0, none⟩) S_14 hD3 ?_
  intro u121 u122 u123 u124 w9 o9 db D9 S9 s9
  have C_15 := C_12.step s9 (by decide)
  clear C_12
  have N_16 : NG g tgt _ _ s := N_13.step s9 (by decide) rfl rfl rfl rfl rfl rfl
  clear N_13
  have K_17 := K8.step s9 (by decide)
  clear K8
  have t9 := t8.trans (up s9 (by decide))
  change Code.wp Ybaz.prog (tl7 10) _ _ _
  rw [show tl7 10 = .seq (st7 10) (tl7 11) from rfl]
  refine wp_seq ?_
  refine d7_10 o9 S g { (v0 g.G R) with dead := .slice (some ⟨db, 0, none⟩) D D } S9 C_15.ga hn hn0 ?_
  intro u125 u126 u127 u128 u129 u130 u131 w10 o10 da A10 S10 s10
  have C_18 := C_15.step s10 (by decide)
  clear C_15
  have N_19 : NG g tgt _ _ s := N_16.step s10 (by decide) rfl rfl rfl rfl rfl rfl
  clear N_16
  have K_20 := K_17.step s10 (by decide)
  clear K_17
  have DD_21 := D9.step s10 (by decide)
  clear D9
  have t10 := t9.trans (up s10 (by decide))
  change Code.wp Ybaz.prog (tl7 11) _ _ _
  rw [show tl7 11 = .seq (st7 11) (tl7 12) from rfl]
  refine wp_seq ?_
  refine d7_11 o10 S da g.n { (v0 g.G R) with dead := .slice (some ⟨db, 0, none⟩) D D, deadAt := .slice (some ⟨da, 0, none⟩) g.n g.n } S10 rfl hn A10 ?_
  intro u12 u135 u136 u137 u138 u139 u140 u141 u142 w11 A11 s11
  have C_22 := C_18.step s11 (by decide)
  clear C_18
  have N_23 : NG g tgt _ _ s := N_19.step s11 (by decide) rfl rfl rfl rfl rfl rfl
  clear N_19
  have K_24 := K_20.step s11 (by decide)
  clear K_20
  have DD_25 := DD_21.step s11 (by decide)
  clear DD_21
  have S_26 := S10.step s11 (by decide)
  clear S10
  have t11 := t10.trans (up s11 (by decide))
  change Code.wp Ybaz.prog (tl7 12) _ _ _
  rw [show tl7 12 = .seq (st7 12) (tl7 13) from rfl]
  refine wp_seq ?_
  refine d7_12 o10 S kb db da g.n D { (v0 g.G R) with dead := .slice (some ⟨db, 0, none⟩) D D, deadAt := .slice (some ⟨da, 0, none⟩) g.n g.n } ky dl S_26 rfl rfl hn hdl.symm hD3 hdlt hdnd K_24 DD_25 A11 ?_
  intro u13 u14 u145 u146 u147 u148 u149 u150 u151 u152 u153 u154 u155 u156 u157 u158 u159 u160 u161 u162 w12 o12 D12 A12 s12
  have C_27 := C_22.step s12 (by decide)
  clear C_22
  have N_28 : NG g tgt _ _ s := N_23.step s12 (by decide) rfl rfl rfl rfl rfl rfl
  clear N_23
  have S_29 := S_26.step s12 (by decide)
  clear S_26
  have t12 := t11.trans (up s12 (by decide))
  change Code.wp Ybaz.prog (tl7 13) _ _ _
  rw [show tl7 13 = .seq (st7 13) (tl7 14) from rfl]
  refine wp_seq ?_
  refine d7_13 o12 S g { (v0 g.G R) with dead := .slice (some ⟨db, 0, none⟩) D D, deadAt := .slice (some ⟨da, 0, none⟩) g.n g.n } S_29 C_27.ga hn hn0 ?_
  intro u163 u164 u165 u166 u167 u168 u169 u170 u171 w13 o13 fb F13 S13 s13
  have C_30 := C_27.step s13 (by decide)
  clear C_27
  have N_31 : NG g tgt _ _ s := N_28.step s13 (by decide) rfl rfl rfl rfl rfl rfl
  clear N_28
  have DA_32 := A12.step s13 (by decide)
  clear A12
  have DD_33 := D12.step s13 (by decide)
  clear D12
  have t13 := t12.trans (up s13 (by decide))
  change Code.wp Ybaz.prog (tl7 14) _ _ _
  rw [show tl7 14 = .seq (st7 14) (tl7 15) from rfl]
  refine wp_seq ?_
  refine d7_14 o13 S D { (v0 g.G R) with dead := .slice (some ⟨db, 0, none⟩) D D, deadAt := .slice (some ⟨da, 0, none⟩) g.n g.n, wf := .slice (some ⟨fb, 0, none⟩) (g.n + 1) (g.n + 1) } S13 hD3 ?_
  intro u172 u173 u174 u175 w14 o14 ib I14 S14 s14
  have C_34 := C_30.step s14 (by decide)
  clear C_30
  have N_35 : NG g tgt _ _ s := N_31.step s14 (by decide) rfl rfl rfl rfl rfl rfl
  clear N_31
  have DA_36 := DA_32.step s14 (by decide)
  clear DA_32
  have DD_37 := DD_33.step s14 (by decide)
  clear DD_33
  have FF_38 := F13.step s14 (by decide)
  clear F13
  have t14 := t13.trans (up s14 (by decide))
  have hpos : ∀ p, p < g.n → (0 ≤ dAt dl D p ↔ dq g s.gr p = true) := fun p hp => by
    have : dl.take D = dl := by rw [← hdl]; exact List.take_length
    unfold dAt
    rw [this]
    by_cases h : p ∈ dl
    · rw [if_pos h]; exact ⟨fun _ => ((hdm p).2 h).2, fun _ => by omega⟩
    · rw [if_neg h]
      refine ⟨fun h1 => absurd h1 (by omega), fun h1 => absurd ((hdm p).1 ⟨hp, h1⟩) h⟩
  have hWQ : WQ g s tgt nx (dAt dl D) := ⟨hpos, fun p h1 h2 => by
    obtain ⟨⟨r1, r2, r3, r4, r5⟩, _⟩ := hP.root p ⟨h1, h2⟩
    exact ⟨lf p, r1, r2, r3, r4, (hnxd p h1 h2).1, (hnxd p h1 h2).2.1⟩⟩
  change Code.wp Ybaz.prog (tl7 15) _ _ _
  rw [show tl7 15 = .seq (st7 15) (tl7 16) from rfl]
  refine wp_seq ?_
  have htg15 := N_35.tg
  rw [N_35.hM] at htg15
  refine d7_15 (c3 := undef) (c4 := undef) o14 R S da fb ib D g s pv uv tgt nx (dAt dl D) { (v0 g.G R) with dead := .slice (some ⟨db, 0, none⟩) D D, deadAt := .slice (some ⟨da, 0, none⟩) g.n g.n, wf := .slice (some ⟨fb, 0, none⟩) (g.n + 1) (g.n + 1), wi := .slice (some ⟨ib, 0, none⟩) 0 D } C_34 hB hWQ htg15 S14 rfl rfl rfl hD.symm DA_36 FF_38 I14 ?_
  intro u15 u16 u17 u18 u19 u181 u182 u183 u184 u185 u186 u187 u188 u189 u190 u191 u192 u193 u194 u195 u196 u197 u198 u199 u200 u201 u202 u203 u204 u205 u206 u207 u208 u209 u210 u211 u212 u213 u214 u215 u216 u217 u218 u219 u220 u221 u222 u223 u224 u225 u226 u227 u228 u229 u230 u231 u232 u233 u234 u235 u236 u237 u238 u239 u240 u241 u242 u243 u244 u245 u246 u247 u248 u249 u250 u251 u252 u253 u254 u255 u256 u257 u258 u259 u260 w15 o15 F15 I15 S15 s15
  clear htg15
  have C_39 := C_34.step s15 (by decide)
  clear C_34
  have N_40 : NG g tgt _ _ s := N_35.step s15 (by decide) rfl rfl rfl rfl rfl rfl
  clear N_35
  have DA_41 := DA_36.step s15 (by decide)
  clear DA_36
  have DD_42 := DD_37.step s15 (by decide)
  clear DD_37
  have t15 := t14.trans (up s15 (by decide))
  change Code.wp Ybaz.prog (tl7 16) _ _ _
  rw [show tl7 16 = .seq (st7 16) (tl7 17) from rfl]
  refine wp_seq ?_
  refine d7_16 o15 g C_39.ga hn hn0 ?_
  intro u261 u262 u263 u264 u265 u266 w16 o16 gb Bg G16 BG16 s16
  have C_43 := C_39.step s16 (by decide)
  clear C_39
  have N_44 : NG g tgt _ _ s := N_40.step s16 (by decide) rfl rfl rfl rfl rfl rfl
  clear N_40
  have DA_45 := DA_41.step s16 (by decide)
  clear DA_41
  have DD_46 := DD_42.step s16 (by decide)
  clear DD_42
  have S_47 := S15.step s16 (by decide)
  clear S15
  have FF_48 := F15.step s16 (by decide)
  clear F15
  have II_49 := I15.step s16 (by decide)
  clear I15
  have t16 := t15.trans (up s16 (by decide))
  change Code.wp Ybaz.prog (tl7 17) _ _ _
  rw [show tl7 17 = .seq (st7 17) (tl7 18) from rfl]
  refine wp_seq ?_
  refine d7_17 o16 Bg gb g.n BG16 hn G16 ?_
  intro u21 u269 u270 u271 u272 u273 u274 u275 u276 w17 G17 s17
  have C_50 := C_43.step s17 (by decide)
  clear C_43
  have N_51 : NG g tgt _ _ s := N_44.step s17 (by decide) rfl rfl rfl rfl rfl rfl
  clear N_44
  have DA_52 := DA_45.step s17 (by decide)
  clear DA_45
  have DD_53 := DD_46.step s17 (by decide)
  clear DD_46
  have S_54 := S_47.step s17 (by decide)
  clear S_47
  have FF_55 := FF_48.step s17 (by decide)
  clear FF_48
  have II_56 := II_49.step s17 (by decide)
  clear II_49
  have BG_57 := BG16.step s17 (by decide)
  clear BG16
  have t17 := t16.trans (up s17 (by decide))
  change Code.wp Ybaz.prog (tl7 18) _ _ _
  rw [show tl7 18 = .seq (st7 18) (tl7 19) from rfl]
  refine wp_seq ?_
  refine d7_18 o16 Bg ?_
  intro u277 w18 o18 Bf BF18 s18
  have C_58 := C_50.step s18 (by decide)
  clear C_50
  have N_59 : NG g tgt _ _ s := N_51.step s18 (by decide) rfl rfl rfl rfl rfl rfl
  clear N_51
  have DA_60 := DA_52.step s18 (by decide)
  clear DA_52
  have DD_61 := DD_53.step s18 (by decide)
  clear DD_53
  have S_62 := S_54.step s18 (by decide)
  clear S_54
  have FF_63 := FF_55.step s18 (by decide)
  clear FF_55
  have II_64 := II_56.step s18 (by decide)
  clear II_56
  have BG_65 := BG_57.step s18 (by decide)
  clear BG_57
  have G_66 := G17.step s18 (by decide)
  clear G17
  have t18 := t17.trans (up s18 (by decide))
  change Code.wp Ybaz.prog (tl7 19) _ _ _
  rw [show tl7 19 = .seq (st7 19) (tl7 20) from rfl]
  refine wp_seq ?_
  refine d7_19 o18 S D db { (v0 g.G R) with dead := .slice (some ⟨db, 0, none⟩) D D, deadAt := .slice (some ⟨da, 0, none⟩) g.n g.n, wf := .slice (some ⟨fb, 0, none⟩) (g.n + 1) (g.n + 1), wi := .slice (some ⟨ib, 0, none⟩) D D } S_62 rfl hD3 ?_
  intro u278 u279 u280 u281 w19 o19 ra R19 s19
  have C_67 := C_58.step s19 (by decide)
  clear C_58
  have N_68 : NG g tgt _ _ s := N_59.step s19 (by decide) rfl rfl rfl rfl rfl rfl
  clear N_59
  have DA_69 := DA_60.step s19 (by decide)
  clear DA_60
  have DD_70 := DD_61.step s19 (by decide)
  clear DD_61
  have S_71 := S_62.step s19 (by decide)
  clear S_62
  have FF_72 := FF_63.step s19 (by decide)
  clear FF_63
  have II_73 := II_64.step s19 (by decide)
  clear II_64
  have BG_74 := BG_65.step s19 (by decide)
  clear BG_65
  have G_75 := G_66.step s19 (by decide)
  clear G_66
  have BF_76 := BF18.step s19 (by decide)
  clear BF18
  have t19 := t18.trans (up s19 (by decide))
  change Code.wp Ybaz.prog (tl7 20) _ _ _
  rw [show tl7 20 = .seq (st7 20) (tl7 21) from rfl]
  refine wp_seq ?_
  refine d7_20 (c3 := undef) o19 S da fb ib ra D Bg gb Bf g s nx (vic g.n nx j) (dAt dl D) { (v0 g.G R) with dead := .slice (some ⟨db, 0, none⟩) D D, deadAt := .slice (some ⟨da, 0, none⟩) g.n g.n, wf := .slice (some ⟨fb, 0, none⟩) (g.n + 1) (g.n + 1), wi := .slice (some ⟨ib, 0, none⟩) D D } C_67.ga hn hn0 hpos hnxd S_71 rfl rfl rfl hD.symm DA_69 FF_72 II_73 R19 G_75 BG_74 BF_76 ?_
  intro u24 u26 u287 u288 u289 u290 u291 u292 u293 u294 u295 u296 u297 u298 u299 u300 u301 u302 u303 u304 u305 u306 u307 u308 u309 u310 u311 u312 u313 u314 u315 u316 u317 w20 o20 gp rt d R20 U20 Q20 G20 s20
  have C_77 := C_67.step s20 (by decide)
  clear C_67
  have N_78 : NG g tgt _ _ s := N_68.step s20 (by decide) rfl rfl rfl rfl rfl rfl
  clear N_68
  have DA_79 := DA_69.step s20 (by decide)
  clear DA_69
  have DD_80 := DD_70.step s20 (by decide)
  clear DD_70
  have S_81 := S_71.step s20 (by decide)
  clear S_71
  have FF_82 := FF_72.step s20 (by decide)
  clear FF_72
  have II_83 := II_73.step s20 (by decide)
  clear II_73
  have BG_84 := BG_74.step s20 (by decide)
  clear BG_74
  have BF_85 := BF_76.step s20 (by decide)
  clear BF_76
  have t20 := t19.trans (up s20 (by decide))
  change Code.wp Ybaz.prog (tl7 21) _ _ _
  rw [show tl7 21 = .seq (st7 21) (tl7 22) from rfl]
  refine wp_seq ?_
  refine d7_21 o20 S g { (v0 g.G R) with dead := .slice (some ⟨db, 0, none⟩) D D, deadAt := .slice (some ⟨da, 0, none⟩) g.n g.n, wf := .slice (some ⟨fb, 0, none⟩) (g.n + 1) (g.n + 1), wi := .slice (some ⟨ib, 0, none⟩) D D } S_81 C_77.ga hn hn0 ?_
  intro u318 u319 u320 u321 u322 u323 u324 w21 o21 sb L21 S21 s21
  have C_86 := C_77.step s21 (by decide)
  clear C_77
  have N_87 : NG g tgt _ _ s := N_78.step s21 (by decide) rfl rfl rfl rfl rfl rfl
  clear N_78
  have DA_88 := DA_79.step s21 (by decide)
  clear DA_79
  have DD_89 := DD_80.step s21 (by decide)
  clear DD_80
  have FF_90 := FF_82.step s21 (by decide)
  clear FF_82
  have II_91 := II_83.step s21 (by decide)
  clear II_83
  have BG_92 := BG_84.step s21 (by decide)
  clear BG_84
  have BF_93 := BF_85.step s21 (by decide)
  clear BF_85
  have RR_94 := R20.step s21 (by decide)
  clear R20
  have G_95 := G20.step s21 (by decide)
  clear G20
  have t21 := t20.trans (up s21 (by decide))
  change Code.wp Ybaz.prog (tl7 22) _ _ _
  rw [show tl7 22 = .seq (st7 22) (tl7 23) from rfl]
  refine wp_seq ?_
  refine d7_22 o21 S sb g.n { (v0 g.G R) with dead := .slice (some ⟨db, 0, none⟩) D D, deadAt := .slice (some ⟨da, 0, none⟩) g.n g.n, wf := .slice (some ⟨fb, 0, none⟩) (g.n + 1) (g.n + 1), wi := .slice (some ⟨ib, 0, none⟩) D D, slot := .slice (some ⟨sb, 0, none⟩) g.n g.n } S21 rfl hn L21 ?_
  intro u27 u328 u329 u330 u331 u332 u333 u334 u335 w22 L22 s22
  have C_96 := C_86.step s22 (by decide)
  clear C_86
  have N_97 : NG g tgt _ _ s := N_87.step s22 (by decide) rfl rfl rfl rfl rfl rfl
  clear N_87
  have DA_98 := DA_88.step s22 (by decide)
  clear DA_88
  have DD_99 := DD_89.step s22 (by decide)
  clear DD_89
  have FF_100 := FF_90.step s22 (by decide)
  clear FF_90
  have II_101 := II_91.step s22 (by decide)
  clear II_91
  have BG_102 := BG_92.step s22 (by decide)
  clear BG_92
  have BF_103 := BF_93.step s22 (by decide)
  clear BF_93
  have RR_104 := RR_94.step s22 (by decide)
  clear RR_94
  have G_105 := G_95.step s22 (by decide)
  clear G_95
  have S_106 := S21.step s22 (by decide)
  clear S21
  have t22 := t21.trans (up s22 (by decide))
  change Code.wp Ybaz.prog (tl7 23) _ _ _
  rw [show tl7 23 = .seq (st7 23) (tl7 24) from rfl]
  refine wp_seq ?_
  refine d7_23 o21 g C_96.ga hn hn0 ?_
  intro u336 u337 u338 u339 u340 u341 w23 o23 vb Bv VA23 BV23 s23
  have C_107 := C_96.step s23 (by decide)
  clear C_96
  have N_108 : NG g tgt _ _ s := N_97.step s23 (by decide) rfl rfl rfl rfl rfl rfl
  clear N_97
  have DA_109 := DA_98.step s23 (by decide)
  clear DA_98
  have DD_110 := DD_99.step s23 (by decide)
  clear DD_99
  have FF_111 := FF_100.step s23 (by decide)
  clear FF_100
  have II_112 := II_101.step s23 (by decide)
  clear II_101
  have BG_113 := BG_102.step s23 (by decide)
  clear BG_102
  have BF_114 := BF_103.step s23 (by decide)
  clear BF_103
  have RR_115 := RR_104.step s23 (by decide)
  clear RR_104
  have G_116 := G_105.step s23 (by decide)
  clear G_105
  have S_117 := S_106.step s23 (by decide)
  clear S_106
  have SL_118 := L22.step s23 (by decide)
  clear L22
  have t23 := t22.trans (up s23 (by decide))
  change Code.wp Ybaz.prog (tl7 24) _ _ _
  rw [show tl7 24 = .seq (st7 24) (tl7 25) from rfl]
  refine wp_seq ?_
  refine d7_24 o23 g C_107.ga hn hn0 ?_
  intro u342 u343 u344 u345 u346 u347 w24 o24 pb Bp PA24 BP24 s24
  have C_119 := C_107.step s24 (by decide)
  clear C_107
  have N_120 : NG g tgt _ _ s := N_108.step s24 (by decide) rfl rfl rfl rfl rfl rfl
  clear N_108
  have DA_121 := DA_109.step s24 (by decide)
  clear DA_109
  have DD_122 := DD_110.step s24 (by decide)
  clear DD_110
  have FF_123 := FF_111.step s24 (by decide)
  clear FF_111
  have II_124 := II_112.step s24 (by decide)
  clear II_112
  have BG_125 := BG_113.step s24 (by decide)
  clear BG_113
  have BF_126 := BF_114.step s24 (by decide)
  clear BF_114
  have RR_127 := RR_115.step s24 (by decide)
  clear RR_115
  have G_128 := G_116.step s24 (by decide)
  clear G_116
  have S_129 := S_117.step s24 (by decide)
  clear S_117
  have SL_130 := SL_118.step s24 (by decide)
  clear SL_118
  have VA_131 := VA23.step s24 (by decide)
  clear VA23
  have BV_132 := BV23.step s24 (by decide)
  clear BV23
  have t24 := t23.trans (up s24 (by decide))
  change Code.wp Ybaz.prog (tl7 25) _ _ _
  rw [show tl7 25 = .seq (st7 25) (tl7 26) from rfl]
  refine wp_seq ?_
  refine d7_25 o24 Bp pb g.n BP24 hn PA24 ?_
  intro u30 u350 u351 u352 u353 u354 u355 u356 w25 PA25 s25
  have C_133 := C_119.step s25 (by decide)
  clear C_119
  have N_134 : NG g tgt _ _ s := N_120.step s25 (by decide) rfl rfl rfl rfl rfl rfl
  clear N_120
  have DA_135 := DA_121.step s25 (by decide)
  clear DA_121
  have DD_136 := DD_122.step s25 (by decide)
  clear DD_122
  have FF_137 := FF_123.step s25 (by decide)
  clear FF_123
  have II_138 := II_124.step s25 (by decide)
  clear II_124
  have BG_139 := BG_125.step s25 (by decide)
  clear BG_125
  have BF_140 := BF_126.step s25 (by decide)
  clear BF_126
  have RR_141 := RR_127.step s25 (by decide)
  clear RR_127
  have G_142 := G_128.step s25 (by decide)
  clear G_128
  have S_143 := S_129.step s25 (by decide)
  clear S_129
  have SL_144 := SL_130.step s25 (by decide)
  clear SL_130
  have VA_145 := VA_131.step s25 (by decide)
  clear VA_131
  have BV_146 := BV_132.step s25 (by decide)
  clear BV_132
  have BP_147 := BP24.step s25 (by decide)
  clear BP24
  have t25 := t24.trans (up s25 (by decide))
  have htake : dl.take D = dl := by rw [← hdl]; exact List.take_length
  have hdl0 : 0 < dl.length := by rw [hdl]; exact hD0
  have hVI : VI o24 w25 R S g dl (fun p => dl.idxOf p) { (v0 g.G R) with dead := .slice (some ⟨db, 0, none⟩) D D, deadAt := .slice (some ⟨da, 0, none⟩) g.n g.n, wf := .slice (some ⟨fb, 0, none⟩) (g.n + 1) (g.n + 1), wi := .slice (some ⟨ib, 0, none⟩) D D, slot := .slice (some ⟨sb, 0, none⟩) g.n g.n } sb := by
    refine ⟨S_143, rfl, rfl, ⟨db, D, by rw [hdl], DD_136.tag, fun d' hd' => ?_⟩, ⟨da, g.n, rfl, DA_135.tag, fun p hp => ?_⟩, rfl, SL_144, ⟨none, 0, 0, rfl, Nat.le_refl _, Sl.nil _ _ _ _⟩, ⟨none, 0, 0, rfl, Nat.le_refl _, Sl.nil _ _ _ _⟩, ⟨none, 0, 0, rfl, Nat.le_refl _, Sl.nil _ _ _ _⟩, ⟨none, 0, 0, rfl, Nat.le_refl _, Sl.nil _ _ _ _⟩, ⟨none, 0, 0, rfl, Nat.le_refl _, Sl.nil _ _ _ _⟩, ⟨0, fun _ => [], .inl ⟨rfl, rfl⟩⟩, ⟨none, 0, 0, rfl, Nat.le_refl _, Sl.nil _ _ _ _⟩, ⟨none, 0, 0, rfl, Nat.le_refl _, Sl.nil _ _ _ _⟩, ⟨none, 0, 0, rfl, Nat.le_refl _, Sl.nil _ _ _ _⟩, ⟨none, 0, 0, rfl, by omega, Sl.nil _ _ _ _⟩, ⟨none, 0, 0, rfl, Sl.nil _ _ _ _⟩⟩
    · exact DD_136.cell d' (by omega)
    · have := DA_135.cell p (hdlt p hp)
      unfold dAt at this
      rw [htake, if_pos hp] at this
      exact this
  have hJE : JE o24 w25 g.n Bf Bg gb Bp pb Bv vb gp rt d (fun _ => false) := ⟨BF_140, BG_139, U20, G_142, BP_147, PA25, BV_146, VA_145⟩
  have J0 : JJ R S g tgt dl (fun p => dl.idxOf p) sb (fun p => p < g.n ∧ dq g s.gr p = true) nx j Bf Bg gb Bp pb Bv vb rt d [] o24 w25 := by
    refine ⟨_, s, pv, uv, gp, fun _ => false, hVI, C_133.r, N_134, hmk, hun, by rw [hpe]; simp, ⟨fun p _ h => absurd h (by simp), fun p _ h => by rw [hpe] at h; simp at h, fun p h1 h2 => ?_, fun q hq => by rw [hpe] at hq; simp at hq⟩, hJE, fun p _ => by simp⟩
    have := h1.2
    simp [dq, h2] at this
  have hem := emit_ok R S g tgt dl (fun p => dl.idxOf p) sb (fun p => p < g.n ∧ dq g s.gr p = true) nx lf j Bf Bg gb Bp pb Bv vb rt d hP hn hM hwp htg hnc hncm (by omega) hdm (fun p hp => dl_idx hp) (fun p h1 q h2 h => dl_ord hpw h1 h2 h)
  have hfd : ∀ v, (v < g.n ∧ dq g s.gr v = true) ↔ v ∈ fl g s.gr g.n := fun v => (fl_mem g s.gr).symm
  have hcomp := comps_any o24 w25 g.n fb ib D ra D (fun i => (fl g s.gr i).length) nx (fun p => p < g.n ∧ dq g s.gr p = true) (fl g s.gr g.n) hfd hn (by omega) (by omega) (fun v h => h.1) hdw.nx (fun v h => by show (fl g s.gr (v + 1)).length = _; rw [fl_succ, h.2]; simp) (fun i hi => fl_mono g s.gr hi)
    FF_137.tag II_138.tag RR_141.tag FF_137.lt II_138.lt RR_141.lt (fun i hi => FF_137.cell i (by omega)) (fun v h => ?_) (fun i hi => ?_) (by omega) 19 #[.pointer (some ⟨S, 0, none⟩), .pointer (some ⟨Bf, 0, none⟩), .pointer (some ⟨Bp, 0, none⟩), .pointer (some ⟨Bv, 0, none⟩)] (enters_of Ybaz.func19 (by kernel_rfl) rfl) TEm (by decide) (JJ R S g tgt dl (fun p => dl.idxOf p) sb (fun p => p < g.n ∧ dq g s.gr p = true) nx j Bf Bg gb Bp pb Bv vb rt d) (JJ.step hdl0) hem J0
  rotate_left
  · obtain ⟨h1, h2⟩ := fl_at g s.gr h.1 h.2
    rw [II_138.cell _ (by rw [ints_length]; simp; omega), ints_get]
    simp [h2]
  · rw [RR_141.cell i (by rw [ints_length]; exact hi), ints_get]
  rw [hD] at hcomp
  change Code.wp Ybaz.prog (tl7 26) _ _ _
  rw [show tl7 26 = .seq (st7 26) (tl7 27) from rfl]
  refine wp_seq ?_
  refine d7_26 o24 S Bf Bp Bv fb ib ra g.n D { (v0 g.G R) with dead := .slice (some ⟨db, 0, none⟩) D D, deadAt := .slice (some ⟨da, 0, none⟩) g.n g.n, wf := .slice (some ⟨fb, 0, none⟩) (g.n + 1) (g.n + 1), wi := .slice (some ⟨ib, 0, none⟩) D D, slot := .slice (some ⟨sb, 0, none⟩) g.n g.n } S_143 rfl rfl _ hcomp ?_
  intro u357 u358 u359 u360 u361 w26 hR26
  obtain ⟨o26, L26, J26, hall, s26⟩ := hR26
  obtain ⟨v', s', pv', uv', gp', vq, V26, R26, N26, _, _, _, _, E26, hvq⟩ := J26
  have C26 := C_133.ga.step s26 (by decide) (by decide) (by decide)
  have t26 := t25.trans (up s26 (by decide))
  clear hcomp hem J0 hJE hVI
  obtain ⟨db', dc, hv'd, tdb, hdd⟩ := V26.dead
  rw [hdl] at hv'd hdd
  have LQ26 : LQ o26 w26 g.n D S db' dc Bf Bg gb Bp pb Bv vb v' dl vq := ⟨V26.ob, hv'd, fun _ => tdb, hdd, E26.bf, E26.bg, E26.bp, E26.pa, E26.bv, E26.va⟩
  change Code.wp Ybaz.prog (tl7 27) _ _ _
  rw [show tl7 27 = .seq (st7 27) (tl7 28) from rfl]
  refine wp_seq ?_
  refine d7_27 ?_
  change Code.wp Ybaz.prog (tl7 28) _ _ _
  rw [show tl7 28 = .seq (st7 28) (tl7 29) from rfl]
  refine wp_seq ?_
  refine d7_28 o26 g C26 hn hn0 ?_
  intro u362 u363 u364 u365 u366 u367 w28 o28 ab A28 s28
  have LQ28 := LQ26.step s28 (by simp)
  have C28 := C26.step s28 (by simp) (by simp) (by simp)
  have G28 := E26.ga.step s28 (by simp)
  have t28 := t26.trans (up s28 (by decide))
  change Code.wp Ybaz.prog (tl7 29) _ _ _
  rw [show tl7 29 = .seq (st7 29) (tl7 30) from rfl]
  refine wp_seq ?_
  refine d7_29 ?_
  change Code.wp Ybaz.prog (tl7 30) _ _ _
  rw [show tl7 30 = .seq (st7 30) (tl7 31) from rfl]
  refine wp_seq ?_
  have L12 : L12 o28 w28 g.n ab gb rt d [] (.slice none 0 0) (.slice none 0 0) (.slice none 0 0) := ⟨A28.congr fun r _ => by simp [ks, kat], S3.nil _ _ _, ⟨[], rfl, by simp, Sl.nil _ _ _ _⟩, ⟨[], rfl, by simp, Sl.nil _ _ _ _⟩, ⟨gp', E26.uf, G28⟩⟩
  refine d7_30 o28 g.n D S db' dc Bf Bg gb Bp pb Bv vb ab v' dl vq rt d hn hdl.symm hD3 hdlt LQ28 L12 ?_
  intro u36 u37 u371 u372 u373 u374 u375 u376 u377 u378 u379 u380 u381 u382 u383 u384 u385 u386 u387 u388 u389 u390 u391 u392 u393 u394 u395 u396 u397 u398 u399 u400 u401 u402 u403 u404 u405 u406 u407 u408 u409 u410 u411 u412 u413 u414 u415 u416 u417 u418 u419 u420 u421 u422 u423 u424 u425 u426 w30 o30 dv mv0 cv0 L30 s30
  have LQ30 := LQ28.step s30 (by simp)
  have C30 := C28.step s30 (by simp) (by simp) (by simp)
  have t30 := t28.trans (up s30 (by decide))
  obtain ⟨K, hK⟩ : ∃ K, (ks rt dl).length = K := ⟨_, rfl⟩
  have hK3 : K ≤ 300 := by have := ks_len rt dl; omega
  have hK0 : 0 < K := by
    rw [← hK]
    obtain ⟨p, hp⟩ := List.exists_mem_of_length_pos hdl0
    exact List.length_pos_of_mem ((ks_mem rt dl (rt p)).2 ⟨p, hp, rfl⟩)
  have D30 := L30.ds
  obtain ⟨ms, m1, m2, m3⟩ := L30.ms
  obtain ⟨cs, c1, c2, c3⟩ := L30.cs
  rw [hK] at D30 m1 c1
  obtain ⟨rb, rc, e1, _, _, _, _⟩ := D30.some_of hK0
  obtain ⟨mb, mc, e2, _, _, _, _⟩ := m3.some_of (by rw [ints_length]; omega)
  obtain ⟨cb, cc, e3, _, _, _, _⟩ := c3.some_of (by rw [ints_length]; omega)
  rw [ints_length, m1] at e2
  rw [ints_length, c1] at e3
  subst e1 e2 e3
  change Code.wp Ybaz.prog (tl7 31) _ _ _
  rw [show tl7 31 = .seq (st7 31) (tl7 32) from rfl]
  refine wp_seq ?_
  refine d7_31 o30 K rb rc mb mc cb cc ms cs hK3 m1 c1 (fun x hx => by have := m2 x hx; omega) (fun x hx => by have := c2 x hx; omega) m3 c3 D30 ?_
  intro u38 u429 u430 u431 u432 u433 u434 u435 u436 u437 u438 u439 u440 u441 u442 u443 u444 u445 u446 u447 u448 u449 u450 w31 o31 mv1 vv1 D31 R31 s31
  have LQ31 := LQ30.step s31 (by simp)
  have C31 := C30.step s31 (by simp) (by simp) (by simp)
  have A31 := L30.ar.step s31 (by simp)
  have t31 := t30.trans (up s31 (by decide))
  obtain ⟨gp3, U3, G3⟩ := L30.uf
  have L31 : L14 o31 w31 g g.n ab gb rb rc K rt d (ks rt dl) vq [] mv1 vv1 := ⟨D31, fun i hi => (R31 i hi).1, fun i hi => (R31 i hi).2, ⟨gp3, U3, G3.step s31 (by simp)⟩⟩
  change Code.wp Ybaz.prog (tl7 32) _ _ _
  rw [show tl7 32 = .seq (st7 32) (tl7 33) from rfl]
  refine wp_seq ?_
  refine d7_32 (c3 := undef) o31 g D S db' dc Bf Bg gb Bp pb Bv vb ab rb rc K v' dl vq rt d (ks rt dl) mv1 vv1 hn hn0 hK3 hdl.symm hD3 hdlt (fun p hp => (ks_mem rt dl (rt p)).2 ⟨p, hp, rfl⟩) hK C31 LQ31 A31 L31 ?_
  intro u40 u41 u454 u455 u456 u457 u458 u459 u460 u461 u462 u463 u464 u465 u466 u467 u468 u469 u470 u471 u472 u473 u474 u475 u476 u477 u478 u479 u480 u481 u482 u483 u484 u485 u486 u487 u488 u489 u490 u491 u492 u493 u494 u495 u496 u497 u498 u499 u500 u501 u502 u503 u504 u505 w32 o32 mv vv L32 s32
  change Code.wp Ybaz.prog (tl7 33) _ _ _
  refine d7_33 ?_
  intro u506
  have t32 := t31.trans (up s32 (fun t ht => by simp [Tids] at ht; omega))
  change bodyPost _ _ _ .ret _ _
  refine bodyPost_ret (results_tmp rfl _ _ _) rfl (Or.inr ⟨hne, rb, rc, K, rfl, o32, dl, rt, vq, mv, vv, hpm, hpw, fun p hp q hq => same_grp hdw Q20 ((hdm p).2 hp) ((hdm q).2 hq), fun p hp => ?_, hK.symm, L32.ds, L32.ms, L32.vs, t32⟩)
  rw [hvq p (hdlt p hp)]
  exact ⟨fun h => h.2, fun h => ⟨hall p ((hdm p).2 hp), h⟩⟩
end Go.Proofs.YbulkbmdoGreat
