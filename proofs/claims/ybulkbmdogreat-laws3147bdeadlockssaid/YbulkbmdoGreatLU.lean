/-
  The law's walk, statement by statement.
-/
import Derived.Test.YbulkbmdoGreatLT
import Derived.Test.YbulkbmdoGreatL6
namespace Go.Proofs.YbulkbmdoGreat
open Go.RowKit
set_option linter.unusedVariables false
set_option linter.unusedSimpArgs false

/-- Every tag that the law's walk writes at. -/
def TLaw : List Nat := List.range 2000
theorem tLaw_no : 5000 ∉ TLaw := by simp [TLaw]
theorem t9_tt : ∀ t ∈ T9, t ∈ TLaw := by
  intro t h
  simp only [T9, TLaw, List.mem_range] at h ⊢
  omega
theorem t15_tt : ∀ t ∈ T15, t ∈ TLaw := by
  intro t h
  simp only [T15, TLaw, List.mem_range, List.mem_append, List.mem_cons, List.not_mem_nil, or_false, List.mem_map] at h ⊢
  rcases h with (rfl | rfl) | ⟨j, h1, rfl⟩ <;> omega
theorem vF_or {n p : Nat} (cd : Nat → Nat) (sd : Nat) (hn : n ≤ 300) : vF n (nxoF cd n) (jof sd) p < 0 ∨ ∃ v, v < n ∧ vF n (nxoF cd n) (jof sd) p = (v : Int) := by
  by_cases h : dd n (nxoF cd n) p
  · have hdw := dd_dw (nxq cd n) (jof sd) (fun a b ha hb hj => jof_inj (by omega) (by omega) hj)
    exact .inr ⟨_, (hdw.vic_dead h).1, vF_dead h⟩
  · rw [vF_not h]; exact .inl (by omega)

set_option maxRecDepth 1000000 in
set_option maxHeartbeats 8000000 in
theorem law3 (a : Option Addr) (n cap sd : Nat) (wv : Nat → Nat) (w : World) (hs : sd < 65536) (hwv : ∀ i, i < n → wv i < 65536) (ha : 0 < n → ∃ x, a = some x ∧ ∀ i, i < n → w.cell? (x.add i) = some (.int .u16 (wv i : Int))) :
    Calls Ybaz.prog 3 #[.slice a n cap, .int .u16 (sd : Int)] w fun e w' => e = .returned (.bool true) ∧ Below w.heap.size w w' := by
  refine calls_of_wp Ybaz.func3 (c := bd3) rfl ?_
  simp only [Ybaz.ntmps3, List.size_toArray, List.length_cons, List.length_nil, Nat.reduceAdd, Nat.reduceSub, Array.replicate_succ, Array.replicate_zero, List.push_toArray, List.append_toArray, List.nil_append, List.cons_append]
  change Code.wp Ybaz.prog (tl3 0) _ _ _
  rw [show tl3 0 = .seq (st3 0) (tl3 1) from rfl]
  refine wp_seq ?_
  refine l3_0  ?_
  change Code.wp Ybaz.prog (tl3 1) _ _ _
  rw [show tl3 1 = .seq (st3 1) (tl3 2) from rfl]
  refine wp_seq ?_
  refine l3_1 a n cap ?_
  intro u34 u35
  by_cases hn : 300 < n
  · change Code.wp Ybaz.prog (tl3 2) _ _ _
    rw [show tl3 2 = .seq (st3 2) (tl3 3) from rfl]
    refine wp_seq ?_
    refine l3_2A n hn ?_
    intro u36 u37
    simp only [Exit.then]
    exact bodyPost_ret (results_tmp rfl _ _ _) rfl ⟨rfl, Below.refl _ _⟩
  replace hn : n ≤ 300 := by omega
  change Code.wp Ybaz.prog (tl3 2) _ _ _
  rw [show tl3 2 = .seq (st3 2) (tl3 3) from rfl]
  refine wp_seq ?_
  refine l3_2B n hn ?_
  intro u36 u37
  change Code.wp Ybaz.prog (tl3 3) _ _ _
  rw [show tl3 3 = .seq (st3 3) (tl3 4) from rfl]
  refine wp_seq ?_
  refine l3_3 (fun _ => 5000) n hn ?_
  intro u38 u39 w1 o1 jb J1 s1
  change Code.wp Ybaz.prog (tl3 4) _ _ _
  rw [show tl3 4 = .seq (st3 4) (tl3 5) from rfl]
  refine wp_seq ?_
  refine l3_4 o1 n hn ?_
  intro u40 u41 w2 o2 ib I2 s2
  change Code.wp Ybaz.prog (tl3 5) _ _ _
  rw [show tl3 5 = .seq (st3 5) (tl3 6) from rfl]
  refine wp_seq ?_
  refine l3_5 o2 ?_
  intro u42 w3 o3 pb P3 s3
  change Code.wp Ybaz.prog (tl3 6) _ _ _
  rw [show tl3 6 = .seq (st3 6) (tl3 7) from rfl]
  refine wp_seq ?_
  refine l3_6 o3 pb 676 (by omega) P3 ?_
  intro u9 u45 u46 u47 u48 u49 u50 u51 w4 P4 s4
  change Code.wp Ybaz.prog (tl3 7) _ _ _
  rw [show tl3 7 = .seq (st3 7) (tl3 8) from rfl]
  refine wp_seq ?_
  refine l3_7 o3 n hn ?_
  intro u52 u53 u54 u55 w5 o5 G mb G5 M5 tm5 s5
  have J5 := (((J1.step s2 (by simp)).step s3 (by simp)).step s4 (by simp)).step s5 (by simp)
  have I5 := ((I2.step s3 (by simp)).step s4 (by simp)).step s5 (by simp)
  have P5 := P4.step s5 (by simp)
  have t5 : Step TLaw (fun _ => 5000) w o5 w5 := ((((s1.mono (by simp)).trans (s2.mono (by simp))).trans (s3.mono (by simp))).trans (s4.mono (by simp [TLaw]))).trans (s5.mono (by simp))
  change Code.wp Ybaz.prog (tl3 8) _ _ _
  rw [show tl3 8 = .seq (st3 8) (tl3 9) from rfl]
  refine wp_seq ?_
  refine l3_8 o5 n sd jb ib pb G mb hn hs J5 I5 P5 G5 M5 tm5 ?_
  intro u11 u12 u13 u56 u57 u58 u59 u60 u61 u62 u63 u64 u65 u66 u67 u68 u69 u70 u71 u72 u73 u74 u75 u76 u77 u78 u79 u80 u81 u82 u83 u84 w6 o6 J6 I6 P6 M6 s6
  change Code.wp Ybaz.prog (tl3 9) _ _ _
  rw [show tl3 9 = .seq (st3 9) (tl3 10) from rfl]
  refine wp_seq ?_
  refine l3_9 o6 n hn ?_
  intro u85 u86 w7 o7 xb X7 s7
  have t7 : Step TLaw (fun _ => 5000) w o7 w7 := (t5.trans (s6.mono (by simp [TLaw]))).trans (s7.mono (by simp))
  have G7 := (G5.step s6 (by simp)).step s7 (by simp)
  have J7 := J6.step s7 (by simp)
  have I7 := I6.step s7 (by simp)
  have P7 := P6.step s7 (by simp)
  have M7 := M6.step s7 (by simp)
  have tm7 : o7 mb = 13 := (s7.own _ M6.lt).trans ((s6.own _ M5.lt).trans tm5)
  have hcd : ∀ i, (fun i => wv i % (n + 2)) i = wv i % (n + 2) := fun _ => rfl
  have hc : ∀ i, (fun i => wv i % (n + 2)) i ≤ n + 1 := fun i => by have := Nat.mod_lt (wv i) (show 0 < n + 2 by omega); show wv i % (n + 2) ≤ n + 1; omega
  obtain ⟨cd, ecd⟩ : ∃ cd, (fun i => wv i % (n + 2)) = cd := ⟨_, rfl⟩
  rw [ecd] at hcd hc
  have ha7 : 0 < n → ∃ x, a = some x ∧ o7 x.block = 5000 ∧ ∀ i, i < n → w7.cell? (x.add i) = some (.int .u16 (wv i : Int)) := fun h0 => by
    obtain ⟨x, e, hx⟩ := ha h0
    have hxl : x.block < w.heap.size := World.block_lt_of_cell? _ _ (by have := hx 0 h0; simpa [Addr.add] using this)
    refine ⟨x, e, t7.own _ hxl, fun i hi => (t7.cell (p := x.add i) (by cases i <;> exact hxl) tLaw_no).trans (hx i hi)⟩
  have LG7 : LG o7 w7 n G mb xb cd (fun i => idb (jof sd i)) 0 (.slice none 0 0) (.slice none 0 0) := ⟨G7, SK.nil _ _ _ _, SK.nil _ _ _ _, X7.congr fun i hi => by simp⟩
  change Code.wp Ybaz.prog (tl3 10) _ _ _
  rw [show tl3 10 = .seq (st3 10) (tl3 11) from rfl]
  refine wp_seq ?_
  refine l3_10 o7 n ib G mb xb cap a wv cd (fun i => idb (jof sd i)) hn hwv hcd ha7 I7 LG7 ?_
  intro u15 u16 u17 u18 u87 u88 u89 u90 u91 u92 u93 u94 u95 u96 u97 u98 u99 u100 u101 u102 u103 u104 u105 u106 u107 u108 u109 u110 u111 u112 u113 u114 u115 u116 u117 u118 u119 u120 u121 u122 u123 u124 u125 u126 u127 u128 u129 u130 u131 u132 u133 u134 u135 u136 u137 u138 u139 u140 u141 u142 u143 u144 u145 u146 u147 u148 u149 u150 u151 u152 u153 u154 u155 u156 u157 u158 u159 u160 u161 u162 u163 u164 u165 u166 u167 u168 w8 o8 pv nv LG8 s8
  change Code.wp Ybaz.prog (tl3 11) _ _ _
  rw [show tl3 11 = .seq (st3 11) (tl3 12) from rfl]
  refine wp_seq ?_
  refine l3_11 o8 n hn ?_
  intro u169 u170 w9 o9 vb V9 s9
  have J9 := (J7.step s8 (by simp)).step s9 (by simp)
  have X9 := (LG8.nx.step s9 (by simp)).congr (g := fun i => .int .i64 (nxf cd n i)) (fun i hi => by simp [hi])
  change Code.wp Ybaz.prog (tl3 12) _ _ _
  rw [show tl3 12 = .seq (st3 12) (tl3 13) from rfl]
  refine wp_seq ?_
  refine l3_12 o9 n jb xb vb (jof sd) (nxf cd n) (nxoF cd n) hn (nxq cd n) (fun a b ha hb hj => jof_inj (by omega) (by omega) hj) J9 X9 V9 ?_
  intro u20 u21 u22 u23 u24 u25 u171 u172 u173 u174 u175 u176 u177 u178 u179 u180 u181 u182 u183 u184 u185 u186 u187 u188 u189 u190 u191 u192 u193 u194 u195 u196 u197 u198 u199 u200 u201 u202 u203 u204 u205 u206 u207 u208 u209 u210 u211 u212 u213 u214 u215 u216 u217 u218 u219 u220 w10 V10 s10
  change Code.wp Ybaz.prog (tl3 13) _ _ _
  rw [show tl3 13 = .seq (st3 13) (tl3 14) from rfl]
  refine wp_seq ?_
  refine l3_13 o9 n hn ?_
  intro u221 u222 w11 o11 ab A11 s11
  change Code.wp Ybaz.prog (tl3 14) _ _ _
  rw [show tl3 14 = .seq (st3 14) (tl3 15) from rfl]
  refine wp_seq ?_
  refine l3_14  ?_
  have I11 := (((I7.step s8 (by simp)).step s9 (by simp)).step s10 (by simp)).step s11 (by simp)
  have P11 := (((P7.step s8 (by simp)).step s9 (by simp)).step s10 (by simp)).step s11 (by simp)
  have V11 := V10.step s11 (by simp)
  have t11 : Step TLaw (fun _ => 5000) w o11 w11 := (((t7.trans (s8.mono (by simp [TLaw]))).trans (s9.mono (by simp))).trans (s10.mono (by simp [TLaw]))).trans (s11.mono (by simp))
  have M8 := M7.step s8 (by rw [tm7]; simp)
  have tm8 : o8 mb = 13 := (s8.own _ M7.lt).trans tm7
  have M9 := M8.step s9 (by simp)
  have tm9 : o9 mb = 13 := (s9.own _ M8.lt).trans tm8
  have M10 := M9.step s10 (by rw [tm9]; simp)
  have M11 := M10.step s11 (by simp)
  have tm11 : o11 mb = 13 := (s11.own _ M10.lt).trans tm9
  obtain ⟨g, gn, gM, gG, gmb, gp, gr0, gf, gt, gw, hnc, hncm, ga8⟩ := gat_of LG8
  have ga11 := (((ga8.step s9 (by simp) (by simp) (by simp)).step s10 (by simp) (by simp) (by simp)).step s11 (by simp) (by simp) (by simp))
  change Code.wp Ybaz.prog (tl3 15) _ _ _
  rw [show tl3 15 = .seq (st3 15) (tl3 16) from rfl]
  refine wp_seq ?_
  refine l3_15 o11 n ib pb vb ab (fun i => idb (jof sd i)) (posF sd n) (vF n (nxoF cd n) (jof sd)) hn (fun k hk => (posF_or n).imp id (fun ⟨p, h1, h2, _⟩ => ⟨p, h1, h2⟩)) (fun p hp => vF_or cd sd hn) I11 P11 V11 A11 ?_
  intro u28 u29 u30 u31 u223 u224 u225 u226 u227 u228 u229 u230 u231 u232 u233 u234 u235 u236 u237 u238 u239 u240 u241 u242 u243 u244 u245 u246 u247 u248 u249 u250 u251 u252 u253 u254 u255 u256 u257 u258 u259 u260 u261 u262 u263 u264 u265 u266 u267 u268 u269 u270 u271 u272 u273 u274 u275 u276 u277 u278 u279 u280 u281 u282 w12 o12 wv12 mv vv L12 s12
  have t12 : Step TLaw (fun _ => 5000) w o12 w12 := t11.trans (s12.mono t15_tt)
  have M12 := M11.step s12 (by rw [tm11]; exact t15_no (by omega) (by omega) (by omega))
  have tm12 : o12 mb = 13 := (s12.own _ M11.lt).trans tm11
  have ga12 := ga11.step s12 (t15_no (by omega) (by omega) (by omega)) (t15_no (by omega) (by omega) (by omega)) (t15_no (by omega) (by omega) (by omega))
  have hB := both_calls hn hc gn gM gp gr0 gf gt gw hnc hncm ga12 (by rw [gmb]; exact M12) (by rw [gmb]; exact tm12) L12
  rw [gG] at hB
  change Code.wp Ybaz.prog (tl3 16) _ _ _
  rw [show tl3 16 = .seq (st3 16) (tl3 17) from rfl]
  refine wp_seq ?_
  refine l3_16 G _ hB ?_
  intro u283 u284 u285 gv w13 hpost
  obtain ⟨⟨o13, s13⟩, hpost⟩ := hpost
  have t13 : Step TLaw (fun _ => 5000) w o13 w13 := t12.trans (s13.mono t9_tt)
  have bel : Below w.heap.size w w13 := t13.below (Nat.le_refl _) (fun k hk => tLaw_no)
  rcases hpost with ⟨⟨a2, cap2, rfl⟩, rfl⟩ | ⟨wb, wc, rb, rc, K, rfl, rfl, hK0, hK1, hS⟩
  · change Code.wp Ybaz.prog (tl3 17) _ _ _
    rw [show tl3 17 = .seq (st3 17) (tl3 18) from rfl]
    refine wp_seq ?_
    refine l3_17A a2 cap2 ?_
    intro u286 u287 u288 u289 u290
    simp only [Exit.then]
    exact bodyPost_ret (results_tmp rfl _ _ _) rfl ⟨rfl, bel⟩
  change Code.wp Ybaz.prog (tl3 17) _ _ _
  rw [show tl3 17 = .seq (st3 17) (tl3 18) from rfl]
  refine wp_seq ?_
  refine l3_17B _ K wc hK0 ?_
  intro u286 u287 u288 u289 u290
  change Code.wp Ybaz.prog (tl3 18) _ _ _
  rw [show tl3 18 = .seq (st3 18) (tl3 19) from rfl]
  refine wp_seq ?_
  refine l3_18 _ _ K wc rc ?_
  intro u291 u292 u293 u294 u295
  change Code.wp Ybaz.prog (tl3 19) _ _ _
  rw [show tl3 19 = .seq (st3 19) (tl3 20) from rfl]
  refine wp_seq ?_
  refine l3_19 wb rb K wc rc hK1 hS ?_
  intro u4 u33 u296 u297 u298 u299 u300 u301 u302 u303 u304 u305 u306 u307 u308 u309 u310 u311 u312 u313 u314 u315 u316 u317 u318 u319 u320 u321 u322 u323 u324 u325 u326 u327 u328 u329 u330 u331 u332 u333 u334 u335 u336 u337 u338 u339 u340 q
  refine l3_20 ?_
  change bodyPost _ _ _ .ret _ _
  exact bodyPost_ret (results_tmp rfl _ _ _) rfl ⟨rfl, (t13.trans (Step.drewN TLaw o13 w13 q)).below (Nat.le_refl _) (fun k hk => tLaw_no)⟩
end Go.Proofs.YbulkbmdoGreat
