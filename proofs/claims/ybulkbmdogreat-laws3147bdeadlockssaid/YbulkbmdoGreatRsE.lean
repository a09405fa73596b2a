import Derived.Test.YbulkbmdoGreatR0
import Derived.Test.YbulkbmdoGreatMix
import Derived.Test.YbulkbmdoGreatAbort
import Derived.Test.YbulkbmdoGreatApp
import Derived.Test.YbulkbmdoGreatWaits
namespace Go.Proofs.YbulkbmdoGreat
open Go.RowKit
set_option linter.unusedVariables false
set_option linter.unusedSimpArgs false
attribute [local go_sem ↓] Go.wp_at_zero Go.wp_at_succ

set_option maxRecDepth 1000000 in
set_option maxHeartbeats 4000000 in
theorem r20_12 {Q : Exit → Act → World → Prop} {ds : List Deferred} {c0 c1 c3 c4 c5 c6 c7 c8 c9 c10 c11 c12 c14 c15 c16 c17 c18 c19 c20 c21 c22 c23 c24 c25 c26 c27 c28 c29 c30 c31 c32 c33 c34 c35 c36 c37 c38 c39 c40 c41 c42 c43 c44 c45 c46 c47 c48 c49 c50 c51 c52 c53 c54 c55 c56 c57 c58 c59 c60 c61 c62 c63 c64 c65 c66 c67 c68 c69 c70 c71 c72 c73 c74 c75 c76 c77 c78 c79 c80 c81 c82 c83 c84 c85 c86 c87 c88 c89 c90 c91 c92 c93 c94 c95 c96 c97 c98 c99 c100 c101 c102 c103 c104 c105 c106 c107 c108 c109 c110 c111 c112 c113 c114 c115 c116 c117 c118 c119 c120 c121 c122 c123 c124 c125 c126 c127 c128 c129 c130 c131 c132 c133 c134 c135 c136 c137 c138 c139 c140 c141 c142 c143 c144 c145 c146 c147 c148 c149 c150 c151 c152 c153 c154 c155 c156 c157 c158 c159 c160 c161 c162 c163 c164 c165 c166 c167 c168 c169 c170 c171 c172 c173 c174 c175 c176 c177 c178 c179 c180 c181 c182 c183 c184 c185 c186 c187 c188 c189 c190 c191 c192 c193 c194 c195 c196 c197 c198 c199 c200 c201 c202 c203 c204 c205 c206 c207 c208 c209 c210 c211 c212 c213 c214 c215 c216 c217 c218 c219 c220 c221 c222 c223 c224 c225 c226 c227 c228 c229 c230 c231 c232 c233 c234 c235 c236 c237 c238 c239 c240 c241 c242 c243 c244 c245 c246 c247 c248 c249 c250 c251 c252 c253 c254 c255 c256 c257 c258 c259 c260 c261 c262 c263 c264 c265 c266 c267 c268 c269 c270 c271 c272 c273 c274 c275 c276 c277 c278 c279 c280 c281 c282 c283 c284 c285 c286 c287 c288 c289 c290 c291 c292 c293 c294 c295 c296 : Value} {w : World} (o : Nat → Nat) (B S m : Nat) (v : VSt) (g : GS) (cs : List Nat) (lf : Nat → Nat) (ia : Option Addr) (iN ic : Nat)
    (hb : Ob o w 99 B 95 #[.pointer (some ⟨S, 0, none⟩)]) (hS : Ob o w 20 S 63 (vcells v)) (hg : GAt o w g) (hG : v.G = g.G) (hc : Sl o w 26 3 v.cands (ints cs)) (hm : m = cs.length) (hc0 : 0 < cs.length) (hcl : cs.length ≤ 300) (hlt : ∀ p ∈ cs, p < g.n) (hn : g.n ≤ 300) (hM : g.M ≤ 300) (hroot : ∀ p ∈ cs, g.root p = (lf p : Int) ∧ g.fin p = (lf p : Int) + 1 ∧ lf p < g.M ∧ (g.tid (lf p)).toList ≠ []) (hnc : g.M ≤ g.ncap) (hncm : g.ncap ≤ 9223372036854775807)
    (hids : v.ids = .slice ia iN ic) (hic : ic ≤ 9223372036854775807) (hsi : Sl o w 35 32 (.slice ia 0 ic) []) (hsw : Sl o w 28 3 v.weight [])
    (hQ : ∀ (u15 u16 u177 u178 u179 u180 u181 u182 u183 u184 u185 u186 u187 u188 u189 u190 u191 u192 u193 u194 u195 u196 u197 u198 u199 u200 u201 u202 u203 u204 u205 u206 u207 u208 u209 u210 u211 u212 u213 u214 u215 u216 u217 u218 u219 u220 u221 u222 u223 u224 u225 u226 u227 u228 u229 u230 u231 u232 u233 u234 : Value) (w' : World) (o' : Nat → Nat) (wv : Value) (ja : Option Addr) (jn jc : Nat), Sl o' w' 28 3 wv (ints (List.replicate cs.length 1)) → jc ≤ 9223372036854775807 → Sl o' w' 35 32 (.slice ja 0 jc) [] → Ob o' w' 20 S 63 (vcells { v with ids := .slice ja jn jc, weight := wv }) → Step [20, 28, 35] o w o' w' → Q .normal ⟨List.toArray (c0 :: c1 :: .pointer (some ⟨B, 0, none⟩) :: c3 :: c4 :: c5 :: c6 :: c7 :: c8 :: c9 :: c10 :: c11 :: c12 :: .int .i64 ((2 * m : Nat) : Int) :: c14 :: u15 :: u16 :: c17 :: c18 :: c19 :: c20 :: c21 :: c22 :: c23 :: c24 :: c25 :: c26 :: c27 :: c28 :: c29 :: c30 :: c31 :: c32 :: c33 :: c34 :: c35 :: c36 :: c37 :: c38 :: c39 :: c40 :: c41 :: c42 :: c43 :: c44 :: c45 :: c46 :: c47 :: c48 :: c49 :: c50 :: c51 :: c52 :: c53 :: c54 :: c55 :: c56 :: c57 :: c58 :: c59 :: c60 :: c61 :: c62 :: c63 :: c64 :: c65 :: c66 :: c67 :: c68 :: c69 :: c70 :: c71 :: c72 :: c73 :: c74 :: c75 :: c76 :: c77 :: c78 :: c79 :: c80 :: c81 :: c82 :: c83 :: c84 :: c85 :: c86 :: c87 :: c88 :: c89 :: c90 :: c91 :: c92 :: c93 :: c94 :: c95 :: c96 :: c97 :: c98 :: c99 :: c100 :: c101 :: c102 :: c103 :: c104 :: c105 :: c106 :: c107 :: c108 :: c109 :: c110 :: c111 :: c112 :: c113 :: c114 :: c115 :: c116 :: c117 :: c118 :: c119 :: c120 :: c121 :: c122 :: c123 :: c124 :: c125 :: c126 :: c127 :: c128 :: c129 :: c130 :: c131 :: c132 :: c133 :: c134 :: c135 :: c136 :: c137 :: c138 :: c139 :: c140 :: c141 :: c142 :: c143 :: c144 :: c145 :: c146 :: c147 :: c148 :: c149 :: c150 :: c151 :: c152 :: c153 :: c154 :: c155 :: c156 :: c157 :: c158 :: c159 :: c160 :: c161 :: c162 :: c163 :: c164 :: c165 :: c166 :: c167 :: c168 :: c169 :: c170 :: c171 :: c172 :: c173 :: .pointer (some ⟨S, 0, none⟩) :: .pointer (some ⟨S, 0, none⟩) :: .pointer (some ⟨S, 7, none⟩) :: u177 :: u178 :: u179 :: u180 :: u181 :: u182 :: u183 :: u184 :: u185 :: u186 :: u187 :: u188 :: u189 :: u190 :: u191 :: u192 :: u193 :: u194 :: u195 :: u196 :: u197 :: u198 :: u199 :: u200 :: u201 :: u202 :: u203 :: u204 :: u205 :: u206 :: u207 :: u208 :: u209 :: u210 :: u211 :: u212 :: u213 :: u214 :: u215 :: u216 :: u217 :: u218 :: u219 :: u220 :: u221 :: u222 :: u223 :: u224 :: u225 :: u226 :: u227 :: u228 :: u229 :: u230 :: u231 :: u232 :: u233 :: u234 :: c235 :: c236 :: c237 :: c238 :: c239 :: c240 :: c241 :: c242 :: c243 :: c244 :: c245 :: c246 :: c247 :: c248 :: c249 :: c250 :: c251 :: c252 :: c253 :: c254 :: c255 :: c256 :: c257 :: c258 :: c259 :: c260 :: c261 :: c262 :: c263 :: c264 :: c265 :: c266 :: c267 :: c268 :: c269 :: c270 :: c271 :: c272 :: c273 :: c274 :: c275 :: c276 :: c277 :: c278 :: c279 :: c280 :: c281 :: c282 :: c283 :: c284 :: c285 :: c286 :: c287 :: c288 :: c289 :: c290 :: c291 :: c292 :: c293 :: c294 :: c295 :: c296 :: []), ds⟩ w') :
    Code.wp Ybaz.prog (s20 12) Q ⟨List.toArray (c0 :: c1 :: .pointer (some ⟨B, 0, none⟩) :: c3 :: c4 :: c5 :: c6 :: c7 :: c8 :: c9 :: c10 :: c11 :: c12 :: .int .i64 (m : Int) :: c14 :: c15 :: c16 :: c17 :: c18 :: c19 :: c20 :: c21 :: c22 :: c23 :: c24 :: c25 :: c26 :: c27 :: c28 :: c29 :: c30 :: c31 :: c32 :: c33 :: c34 :: c35 :: c36 :: c37 :: c38 :: c39 :: c40 :: c41 :: c42 :: c43 :: c44 :: c45 :: c46 :: c47 :: c48 :: c49 :: c50 :: c51 :: c52 :: c53 :: c54 :: c55 :: c56 :: c57 :: c58 :: c59 :: c60 :: c61 :: c62 :: c63 :: c64 :: c65 :: c66 :: c67 :: c68 :: c69 :: c70 :: c71 :: c72 :: c73 :: c74 :: c75 :: c76 :: c77 :: c78 :: c79 :: c80 :: c81 :: c82 :: c83 :: c84 :: c85 :: c86 :: c87 :: c88 :: c89 :: c90 :: c91 :: c92 :: c93 :: c94 :: c95 :: c96 :: c97 :: c98 :: c99 :: c100 :: c101 :: c102 :: c103 :: c104 :: c105 :: c106 :: c107 :: c108 :: c109 :: c110 :: c111 :: c112 :: c113 :: c114 :: c115 :: c116 :: c117 :: c118 :: c119 :: c120 :: c121 :: c122 :: c123 :: c124 :: c125 :: c126 :: c127 :: c128 :: c129 :: c130 :: c131 :: c132 :: c133 :: c134 :: c135 :: c136 :: c137 :: c138 :: c139 :: c140 :: c141 :: c142 :: c143 :: c144 :: c145 :: c146 :: c147 :: c148 :: c149 :: c150 :: c151 :: c152 :: c153 :: c154 :: c155 :: c156 :: c157 :: c158 :: c159 :: c160 :: c161 :: c162 :: c163 :: c164 :: c165 :: c166 :: c167 :: c168 :: c169 :: c170 :: c171 :: c172 :: c173 :: c174 :: c175 :: c176 :: c177 :: c178 :: c179 :: c180 :: c181 :: c182 :: c183 :: c184 :: c185 :: c186 :: c187 :: c188 :: c189 :: c190 :: c191 :: c192 :: c193 :: c194 :: c195 :: c196 :: c197 :: c198 :: c199 :: c200 :: c201 :: c202 :: c203 :: c204 :: c205 :: c206 :: c207 :: c208 :: c209 :: c210 :: c211 :: c212 :: c213 :: c214 :: c215 :: c216 :: c217 :: c218 :: c219 :: c220 :: c221 :: c222 :: c223 :: c224 :: c225 :: c226 :: c227 :: c228 :: c229 :: c230 :: c231 :: c232 :: c233 :: c234 :: c235 :: c236 :: c237 :: c238 :: c239 :: c240 :: c241 :: c242 :: c243 :: c244 :: c245 :: c246 :: c247 :: c248 :: c249 :: c250 :: c251 :: c252 :: c253 :: c254 :: c255 :: c256 :: c257 :: c258 :: c259 :: c260 :: c261 :: c262 :: c263 :: c264 :: c265 :: c266 :: c267 :: c268 :: c269 :: c270 :: c271 :: c272 :: c273 :: c274 :: c275 :: c276 :: c277 :: c278 :: c279 :: c280 :: c281 :: c282 :: c283 :: c284 :: c285 :: c286 :: c287 :: c288 :: c289 :: c290 :: c291 :: c292 :: c293 :: c294 :: c295 :: c296 :: []), ds⟩ w := by
  have HQ := hid hQ
  obtain ⟨cb, cap, hcv, hc1, hc2, htc, hltc⟩ := hc.some_of (by rw [ints_length]; exact hc0)
  rw [ints_length] at hcv hc1
  have k1 : w.cell? ⟨B, 0, none⟩ = some (.pointer (some ⟨S, 0, none⟩)) := hb.cell 0
  have x7 : w.cell? ⟨S, 7, none⟩ = some (.slice (some ⟨cb, 0, none⟩) cs.length cap) := by rw [← hcv]; exact hS.cell 7
  have HH := hid (And.intro hb (And.intro hS (And.intro hg (And.intro hc (And.intro hlt (And.intro hroot (And.intro hsi hsw)))))))
  have HG := hid hG
  have Hids := hid hids
  have Hcv := hid hcv
  have Hm := hid hm
  clear hQ hb hS hg hc hlt hroot hsi hsw hG hids hcv hm
  conv => arg 2; whnf
  go_wp2
  go_loopw [13, 179] (fun t j wr => ∃ (k : Nat) (o1 : Nat → Nat) (wv : Value) (ja : Option Addr) (jn jc : Nat), k ≤ cs.length ∧ j = .int .i64 (k : Int) ∧ t = .int .i64 ((m : Int) + (k : Int)) ∧ Sl o1 wr 28 3 wv (ints (List.replicate k 1)) ∧ jc ≤ 9223372036854775807 ∧ Sl o1 wr 35 32 (.slice ja 0 jc) [] ∧ Ob o1 wr 20 S 63 (vcells { v with ids := .slice ja jn jc, weight := wv }) ∧ Step [20, 28, 35] o w o1 wr) (fun t j _ => cs.length - (intOf j).toNat)
  case atStart =>
    obtain ⟨hb, hS, hg, hc, hlt, hroot, hsi, hsw⟩ := HH.out
    refine ⟨0, o, v.weight, ia, iN, ic, Nat.zero_le _, rfl, by simp, by simpa [ints] using hsw, hic, hsi, ?_, Step.refl _ _ _⟩
    have := hS
    rw [← Hids.out]
    exact this
  case round =>
    obtain ⟨k, o1, wv, ja, jn, jc, hk, rfl, rfl, T1, hjc, TI, T2, st⟩ := hrel
    obtain ⟨hb, hS, hg, hc, hlt, hroot, hsi, hsw⟩ := HH.out
    by_cases hk2 : k < cs.length
    · have hpm := List.getElem_mem hk2
      have hpn := hlt _ hpm
      obtain ⟨r1, r2, r3, r4⟩ := hroot _ hpm
      have hc3 := hc.step st (by simp)
      rw [Hcv.out] at hc3
      have y4 : wr.cell? ⟨cb, k, none⟩ = some (.int .i64 (cs[k] : Int)) := by
        rw [← ints_length cs] at hc3
        rw [hc3.cell k (by rw [ints_length]; exact hk2)]
        simp [ints]
      have hg1 := hg.step st (by simp) (by simp) (by simp)
      have hb1 := hb.step st (by simp)
      have y1 : wr.cell? ⟨B, 0, none⟩ = some (.pointer (some ⟨S, 0, none⟩)) := hb1.cell 0
      have y2 : wr.cell? ⟨S, 0, none⟩ = some (.pointer (some ⟨g.G, 0, none⟩)) := by rw [← HG.out]; exact T2.cell 0
      have y3 : wr.cell? ⟨S, 6, none⟩ = some (.slice ja jn jc) := T2.cell 6
      have s0 := Step.drew [] o1 wr
      have HW := hid (waitsOn_any o1 wr.drew g (hg1.step s0 (by simp) (by simp) (by simp)) ja jn jc cs[k] (lf cs[k]) (TI.step s0 (by simp)) hjc hpn hn hM r1 r2 r3 hnc hncm r4)
      have HT := hid (And.intro T1 (And.intro T2 (And.intro st (And.intro hg1 (And.intro hb1 (And.intro r1 r2))))))
      have b1 : (k : Int) < (cs.length : Int) := by omega
      clear hb hS hg hc hlt hroot hsi hsw hpm hc3 hg1 hb1 T1 TI T2 st s0 r1 r2 r4
      go_wp2
      refine wp_region_mix [(true, 0), (true, 1), (true, 2), (true, 3), (true, 4), (true, 5), (true, 6), (true, 7), (true, 8), (true, 9), (false, 10), (true, 11), (true, 12), (true, 13), (true, 14), (false, 15), (false, 16), (false, 17)] 17 (fun w' => w'.cell? ⟨B, 0, none⟩ = some (.pointer (some ⟨S, 0, none⟩)) ∧ w'.cell? ⟨S, 0, none⟩ = some (.pointer (some ⟨g.G, 0, none⟩)) ∧ w'.cell? ⟨S, 6, none⟩ = some (.slice ja jn jc)) (by kernel_rfl) (by kernel_rfl) (by kernel_rfl) (by kernel_rfl) ?_ ?_
      exact ⟨y1, y2, y3⟩
      repeat
        refine mix_take (v := ?_) rfl (by rfl) ?_ ?_
        rotate_left
        · (intro w' hS; (try dsimp only at hS); go_simp; try with_reducible rfl)
        try simp only [Act.put, List.setIfInBounds_toArray, List.set_cons_zero, List.set_cons_succ]
      refine mix_step rfl (fun K hK => ?_)
      go_simp
      refine HW.out.mono ?_
      rintro e w1 ⟨gb, jc2, o2, rfl, hjc2, sl2, st2⟩
      obtain ⟨T1, T2, st, hg1, hb1, r1, r2⟩ := HT.out
      have sx := (Step.drew [35] o1 wr).trans st2
      have T2b := T2.step sx (by simp)
      have B1b := hb1.step sx (by simp)
      have T1b := T1.step sx (by simp)
      have hg2 := hg1.step sx (by simp) (by simp) (by simp)
      have l1 : w1.cell? ⟨B, 0, none⟩ = some (.pointer (some ⟨S, 0, none⟩)) := B1b.cell 0
      have l2 : w1.cell? ⟨S, 0, none⟩ = some (.pointer (some ⟨g.G, 0, none⟩)) := by rw [← HG.out]; exact T2b.cell 0
      have l3 : w1.cell? ⟨S, 6, none⟩ = some (.slice ja jn jc) := T2b.cell 6
      have l4 : w1.frozen? ⟨S, 6, none⟩ = false := T2b.frozen 6
      have s3 := T2b.sset 6 (.slice (some ⟨gb, 0, none⟩) 1 jc2) (T := [20]) (by simp)
      have T3 := T2b.set 6 (.slice (some ⟨gb, 0, none⟩) 1 jc2)
      obtain ⟨w3, hw3⟩ : ∃ w3, w1.setCell ⟨S, 6, none⟩ (.slice (some ⟨gb, 0, none⟩) 1 jc2) = w3 := ⟨_, rfl⟩
      rw [hw3] at s3 T3
      have sA := (st.trans (sx.mono (T' := [20, 28, 35]) (by simp))).trans (s3.mono (T' := [20, 28, 35]) (by simp))
      have T1c := T1b.step s3 (by simp)
      have B1c := B1b.step s3 (by simp)
      have hg3 := hg2.step s3 (by simp) (by simp) (by simp)
      have sl3 := (sl2.step s3 (by simp)).cut 0 (by simp)
      have s4 := Step.drew [] o2 w3
      obtain ⟨ga, gc, w4, hra, hca, o4, sl4, st4⟩ := (T1c.step s4 (by simp)).app_run (by rw [ints_length]; simp; omega) (.int .i64 ((1 : Nat) : Int)) rfl
      obtain ⟨q, hq⟩ : ∃ q, (ints (List.replicate k 1)).length + 1 = q := ⟨_, rfl⟩
      rw [hq] at hra sl4
      have m1 : w3.cell? ⟨B, 0, none⟩ = some (.pointer (some ⟨S, 0, none⟩)) := B1c.cell 0
      have m2 : w3.cell? ⟨S, 9, none⟩ = some wv := T3.cell 9
      have T3d := T3.step s4 (by simp)
      have B1d := B1c.step s4 (by simp)
      have T4 := T3d.step st4 (by simp)
      have B4 := B1d.step st4 (by simp)
      have n1 : w4.cell? ⟨B, 0, none⟩ = some (.pointer (some ⟨S, 0, none⟩)) := B4.cell 0
      have n2 : w4.cell? ⟨S, 9, none⟩ = some wv := T4.cell 9
      have n3 : w4.frozen? ⟨S, 9, none⟩ = false := T4.frozen 9
      have sB := (sA.trans (Step.drew _ o2 w3)).trans (st4.mono (T' := [20, 28, 35]) (by simp))
      have s5 := T4.sset 9 (.slice (some ⟨ga, 0, none⟩) q gc) (T := [20]) (by simp)
      have T5 := T4.set 9 (.slice (some ⟨ga, 0, none⟩) q gc)
      obtain ⟨w5, hw5⟩ : ∃ w5, w4.setCell ⟨S, 9, none⟩ (.slice (some ⟨ga, 0, none⟩) q gc) = w5 := ⟨_, rfl⟩
      rw [hw5] at s5 T5
      have hg5 := ((hg3.step s4 (by simp) (by simp) (by simp)).step st4 (by simp) (by simp) (by simp)).step s5 (by simp) (by simp) (by simp)
      have q1 : w5.cell? ⟨B, 0, none⟩ = some (.pointer (some ⟨S, 0, none⟩)) := (B4.step s5 (by simp)).cell 0
      have q2 : w5.cell? ⟨S, 0, none⟩ = some (.pointer (some ⟨g.G, 0, none⟩)) := by rw [← HG.out]; exact T5.cell 0
      have q3 : w5.cell? ⟨g.G, 0, none⟩ = some (.slice (some ⟨g.pb, 0, none⟩) g.n g.pcap) := by rw [← (hg5.hpa (by omega)).1]; exact hg5.ob.cell 0
      have q4 : w5.cell? ⟨g.pb, cs[k] * 3 + 1, none⟩ = some (.int .i64 (lf cs[k] : Int)) := by rw [← r1]; exact (hg5.pc _ hpn).2.1
      have q5 : w5.cell? ⟨g.pb, cs[k] * 3 + 2, none⟩ = some (.int .i64 ((lf cs[k] : Int) + 1)) := by rw [← r2]; exact (hg5.pc _ hpn).2.2
      have dd1 : (cs[k] : Int) < (g.n : Int) := by omega
      have dd2 : (lf cs[k] : Int) + 1 - (lf cs[k] : Int) = 1 := by omega
      have dd3 : IntKind.i64.wrap 1 = 1 := by decide
      have dd4 : IntKind.i64.wrap ((m : Int) + (k : Int) + 1) = (m : Int) + (k : Int) + 1 := by have := Hm.out; rw [IntKind.wrap_i64]; omega
      have HF := hid (And.intro sB (And.intro s5 (And.intro T5 (And.intro sl4 (And.intro sl3 st4)))))
      have HA := hid hra
      clear T1 T2 st hg1 hb1 sx T2b B1b T1b hg2 s3 T3 sA T1c B1c hg3 sl3 s4 hra hca sl4 T3d B1d T4 B4 sB s5 T5 hg5 sl2 st2 HW HT y1 y2 y3 st4 r1 r2 hq
      refine hK.out _ _ (⟨l1, l2, l3⟩) (fun hHeld => ?_)
      clear hK K hHeld
      try simp only [Act.put, List.setIfInBounds_toArray, List.set_cons_zero, List.set_cons_succ]
      repeat
        refine mix_take (v := ?_) rfl (by rfl) ?_ ?_
        rotate_left
        · (intro w' hS; (try dsimp only at hS); go_simp; try with_reducible rfl)
        try simp only [Act.put, List.setIfInBounds_toArray, List.set_cons_zero, List.set_cons_succ]
      refine mix_step rfl (fun K hK => ?_)
      go_simp
      refine hK.out _ _ (⟨l1, l2, l3⟩) (fun hHeld => ?_)
      clear hK K hHeld
      try simp only [Act.put, List.setIfInBounds_toArray, List.set_cons_zero, List.set_cons_succ]
      refine mix_step rfl (fun K hK => ?_)
      go_simp
      refine hK.out _ _ (⟨l1, l2, l3⟩) (fun hHeld => ?_)
      clear hK K hHeld
      try simp only [Act.put, List.setIfInBounds_toArray, List.set_cons_zero, List.set_cons_succ]
      refine mix_last rfl (fun K hK => ?_)
      go_simp
      refine hK.out _ _ ?_
      clear hK K
      refine mix_nil (NoPanic.normal ?_)
      try simp only [Act.put]
      go_wp2
      clear l1 l2 l3 l4 hw3
      refine wp_region_plan [0, 1, 2, 3, 4, 5] [6, 7, 8, 9, 10] 10 (fun w' => w'.cell? ⟨B, 0, none⟩ = some (.pointer (some ⟨S, 0, none⟩)) ∧ w'.cell? ⟨S, 9, none⟩ = some wv) (by kernel_rfl) (by kernel_rfl) (by kernel_rfl) (by kernel_rfl) ?_ ?_
      exact ⟨m1, m2⟩
      repeat
        refine takes_cons (v := ?_) rfl (by rfl) ?_ ?_
        rotate_left
        · (intro w' hS; (try dsimp only at hS); go_simp; try with_reducible rfl)
        try simp only [Act.put, List.setIfInBounds_toArray, List.set_cons_zero, List.set_cons_succ]
      refine takes_nil ?_
      refine runZ_step rfl (fun K hK => ?_)
      go_simp
      refine hK.out _ _ (⟨cellUp m1 _, cellUp m2 _⟩) (fun hHeld => ?_)
      clear hK K hHeld
      try simp only [Act.put, List.setIfInBounds_toArray, List.set_cons_zero, List.set_cons_succ]
      refine runZ_step rfl (fun K hK => ?_)
      refine step_append_is (by rfl) _ _ 24 (by rfl) _ _ _ _ (by rfl) (by rfl) (HA.out) ?_
      refine hK.out _ _ (⟨n1, n2⟩) (fun hHeld => ?_)
      clear hK K hHeld
      try simp only [Act.put, List.setIfInBounds_toArray, List.set_cons_zero, List.set_cons_succ]
      refine runZ_step rfl (fun K hK => ?_)
      go_simp
      refine hK.out _ _ (⟨n1, n2⟩) (fun hHeld => ?_)
      clear hK K hHeld
      try simp only [Act.put, List.setIfInBounds_toArray, List.set_cons_zero, List.set_cons_succ]
      refine runZ_step rfl (fun K hK => ?_)
      go_simp
      refine hK.out _ _ (⟨n1, n2⟩) (fun hHeld => ?_)
      clear hK K hHeld
      try simp only [Act.put, List.setIfInBounds_toArray, List.set_cons_zero, List.set_cons_succ]
      refine runZ_last rfl (fun K hK => ?_)
      go_simp
      refine hK.out _ _ ?_
      clear hK K
      refine runZ_nil (NoPanic.normal ?_)
      try simp only [Act.put]
      go_wp2
      clear m1 m2 n1 n2 n3 hw5 HA
      go_quiet (fail)
      go_wp2
      go_roundw
      case rel =>
        obtain ⟨sB, s5, T5, sl4, sl3, st4⟩ := HF.out
        have s6 := Step.drewN [] o4 w5 nq
        refine ⟨k + 1, o4, .slice (some ⟨ga, 0, none⟩) q gc, some ⟨gb, 0, none⟩, 1, jc2, by omega, by go_num, by congr 1, ?_, hjc2, ?_, T5.step s6 (by simp), (sB.trans (s5.mono (by simp))).trans (s6.mono (by simp))⟩
        · have e : List.replicate (k + 1) 1 = List.replicate k 1 ++ [1] := by rw [List.replicate_succ']
          rw [e, ints_snoc]
          exact (sl4.step s5 (by simp)).step s6 (by simp)
        · exact (((sl3.step (Step.drew [] o2 w3) (by simp)).step st4 (by simp)).step s5 (by simp)).step s6 (by simp)
      case measure => simp [intOf]; omega
    · obtain rfl : k = cs.length := by omega
      have HT := hid (And.intro T1 (And.intro T2 (And.intro st TI)))
      clear T1 T2 st TI hb hS hg hc hlt hroot hsi hsw
      have b1 : ¬ (cs.length : Int) < (cs.length : Int) := by omega
      go_wp2
      obtain ⟨T1, T2, st, TI⟩ := HT.out
      have e : (m : Int) + (cs.length : Int) = ((2 * m : Nat) : Int) := by have := Hm.out; omega
      rw [e]
      exact HQ.out _ _ _ _ _ _ _ _ _ _ _ _ _ _ _ _ _ _ _ _ _ _ _ _ _ _ _ _ _ _ _ _ _ _ _ _ _ _ _ _ _ _ _ _ _ _ _ _ _ _ _ _ _ _ _ _ _ _ _ _ _ o1 wv ja jn jc T1 hjc TI T2 st
end Go.Proofs.YbulkbmdoGreat
