import Derived.Test.YbulkbmdoGreatR0
import Derived.Test.YbulkbmdoGreatAbort
import Derived.Test.YbulkbmdoGreatRw
import Derived.Test.YbulkbmdoGreatApp
namespace Go.Proofs.YbulkbmdoGreat
open Go.RowKit
set_option linter.unusedVariables false
set_option linter.unusedSimpArgs false
attribute [local go_sem ↓] Go.wp_at_zero Go.wp_at_succ

set_option maxRecDepth 1000000 in
set_option maxHeartbeats 4000000 in
theorem r20_4 {Q : Exit → Act → World → Prop} {ds : List Deferred} {c0 c3 c4 c5 c6 c7 c8 c9 c10 c11 c12 c13 c14 c15 c16 c17 c18 c19 c20 c21 c22 c23 c24 c25 c26 c27 c28 c29 c30 c31 c32 c33 c34 c35 c36 c37 c38 c39 c40 c41 c42 c43 c44 c45 c46 c47 c48 c49 c50 c51 c52 c53 c54 c55 c56 c57 c58 c59 c60 c61 c62 c63 c64 c65 c66 c67 c68 c69 c70 c71 c72 c73 c74 c75 c76 c77 c78 c79 c80 c81 c82 c83 c84 c85 c86 c87 c88 c89 c90 c91 c92 c93 c94 c95 c96 c97 c98 c99 c100 c101 c102 c103 c104 c105 c106 c107 c108 c109 c110 c111 c112 c113 c114 c115 c116 c117 c118 c119 c120 c121 c122 c123 c124 c125 c126 c127 c128 c129 c130 c131 c132 c133 c134 c135 c136 c137 c138 c139 c140 c141 c142 c143 c144 c145 c146 c147 c148 c149 c150 c151 c152 c153 c154 c155 c156 c157 c158 c159 c160 c161 c162 c163 c164 c165 c166 c167 c168 c169 c170 c171 c172 c173 c174 c175 c176 c177 c178 c179 c180 c181 c182 c183 c184 c185 c186 c187 c188 c189 c190 c191 c192 c193 c194 c195 c196 c197 c198 c199 c200 c201 c202 c203 c204 c205 c206 c207 c208 c209 c210 c211 c212 c213 c214 c215 c216 c217 c218 c219 c220 c221 c222 c223 c224 c225 c226 c227 c228 c229 c230 c231 c232 c233 c234 c235 c236 c237 c238 c239 c240 c241 c242 c243 c244 c245 c246 c247 c248 c249 c250 c251 c252 c253 c254 c255 c256 c257 c258 c259 c260 c261 c262 c263 c264 c265 c266 c267 c268 c269 c270 c271 c272 c273 c274 c275 c276 c277 c278 c279 c280 c281 c282 c283 c284 c285 c286 c287 c288 c289 c290 c291 c292 c293 c294 c295 c296 : Value} {w : World} (o : Nat → Nat) (B S R db D Dcap : Nat) (v : VSt) (s : RS) (pv uv : Value) (dd : Nat → Nat) (stb cap pl : Nat) (pre xs : List Nat)
    (hb : Ob o w 99 B 95 #[.pointer (some ⟨S, 0, none⟩)]) (hS : Ob o w 20 S 63 (vcells v)) (hv : v.dead = .slice (some ⟨db, 0, none⟩) D Dcap) (hvR : v.R = R) (tdb : o db = 21) (hdl : db < w.heap.size) (hdd : ∀ x ∈ xs, w.cell? ⟨db, x, none⟩ = some (.int .i64 (dd x : Int))) (hlt : ∀ x ∈ xs, x < D) (hD : D ≤ 300) (hltN : ∀ x ∈ xs, dd x < s.N) (hN : s.N ≤ 300)
    (hr : RAt o w R s pv uv) (hR : Rw o w 63 stb 3 cap (ints (pre ++ xs))) (hcap : cap ≤ 300) (hpl : pl = pre.length) (hc : Sl o w 26 3 v.cands [])
    (hQ : ∀ (u9 u10 u53 u54 u55 u56 u57 u58 u59 u60 u61 u62 u63 u64 u65 u66 u67 u68 u69 u70 u71 u72 u73 u74 u75 u76 u77 u78 u79 u80 u81 u82 u83 u84 u85 : Value) (w' : World) (o' : Nat → Nat) (cv : Value), Sl o' w' 26 3 cv (ints ((xs.map dd).filter fun p => !s.gr p)) → Ob o' w' 20 S 63 (vcells { v with cands := cv }) → Step [20, 26] o w o' w' → Q .normal ⟨List.toArray (c0 :: .slice (some ⟨stb, pl, none⟩) xs.length (cap - pl) :: .pointer (some ⟨B, 0, none⟩) :: c3 :: c4 :: c5 :: c6 :: c7 :: c8 :: u9 :: u10 :: c11 :: c12 :: c13 :: c14 :: c15 :: c16 :: c17 :: c18 :: c19 :: c20 :: c21 :: c22 :: c23 :: c24 :: c25 :: c26 :: c27 :: c28 :: c29 :: c30 :: c31 :: c32 :: c33 :: c34 :: c35 :: c36 :: c37 :: c38 :: c39 :: c40 :: c41 :: c42 :: c43 :: c44 :: c45 :: c46 :: c47 :: c48 :: c49 :: c50 :: .slice (some ⟨stb, pl, none⟩) xs.length (cap - pl) :: .int .i64 (xs.length : Int) :: u53 :: u54 :: u55 :: u56 :: u57 :: u58 :: u59 :: u60 :: u61 :: u62 :: u63 :: u64 :: u65 :: u66 :: u67 :: u68 :: u69 :: u70 :: u71 :: u72 :: u73 :: u74 :: u75 :: u76 :: u77 :: u78 :: u79 :: u80 :: u81 :: u82 :: u83 :: u84 :: u85 :: c86 :: c87 :: c88 :: c89 :: c90 :: c91 :: c92 :: c93 :: c94 :: c95 :: c96 :: c97 :: c98 :: c99 :: c100 :: c101 :: c102 :: c103 :: c104 :: c105 :: c106 :: c107 :: c108 :: c109 :: c110 :: c111 :: c112 :: c113 :: c114 :: c115 :: c116 :: c117 :: c118 :: c119 :: c120 :: c121 :: c122 :: c123 :: c124 :: c125 :: c126 :: c127 :: c128 :: c129 :: c130 :: c131 :: c132 :: c133 :: c134 :: c135 :: c136 :: c137 :: c138 :: c139 :: c140 :: c141 :: c142 :: c143 :: c144 :: c145 :: c146 :: c147 :: c148 :: c149 :: c150 :: c151 :: c152 :: c153 :: c154 :: c155 :: c156 :: c157 :: c158 :: c159 :: c160 :: c161 :: c162 :: c163 :: c164 :: c165 :: c166 :: c167 :: c168 :: c169 :: c170 :: c171 :: c172 :: c173 :: c174 :: c175 :: c176 :: c177 :: c178 :: c179 :: c180 :: c181 :: c182 :: c183 :: c184 :: c185 :: c186 :: c187 :: c188 :: c189 :: c190 :: c191 :: c192 :: c193 :: c194 :: c195 :: c196 :: c197 :: c198 :: c199 :: c200 :: c201 :: c202 :: c203 :: c204 :: c205 :: c206 :: c207 :: c208 :: c209 :: c210 :: c211 :: c212 :: c213 :: c214 :: c215 :: c216 :: c217 :: c218 :: c219 :: c220 :: c221 :: c222 :: c223 :: c224 :: c225 :: c226 :: c227 :: c228 :: c229 :: c230 :: c231 :: c232 :: c233 :: c234 :: c235 :: c236 :: c237 :: c238 :: c239 :: c240 :: c241 :: c242 :: c243 :: c244 :: c245 :: c246 :: c247 :: c248 :: c249 :: c250 :: c251 :: c252 :: c253 :: c254 :: c255 :: c256 :: c257 :: c258 :: c259 :: c260 :: c261 :: c262 :: c263 :: c264 :: c265 :: c266 :: c267 :: c268 :: c269 :: c270 :: c271 :: c272 :: c273 :: c274 :: c275 :: c276 :: c277 :: c278 :: c279 :: c280 :: c281 :: c282 :: c283 :: c284 :: c285 :: c286 :: c287 :: c288 :: c289 :: c290 :: c291 :: c292 :: c293 :: c294 :: c295 :: c296 :: []), ds⟩ w') :
    Code.wp Ybaz.prog (s20 4) Q ⟨List.toArray (c0 :: .slice (some ⟨stb, pl, none⟩) xs.length (cap - pl) :: .pointer (some ⟨B, 0, none⟩) :: c3 :: c4 :: c5 :: c6 :: c7 :: c8 :: c9 :: c10 :: c11 :: c12 :: c13 :: c14 :: c15 :: c16 :: c17 :: c18 :: c19 :: c20 :: c21 :: c22 :: c23 :: c24 :: c25 :: c26 :: c27 :: c28 :: c29 :: c30 :: c31 :: c32 :: c33 :: c34 :: c35 :: c36 :: c37 :: c38 :: c39 :: c40 :: c41 :: c42 :: c43 :: c44 :: c45 :: c46 :: c47 :: c48 :: c49 :: c50 :: c51 :: c52 :: c53 :: c54 :: c55 :: c56 :: c57 :: c58 :: c59 :: c60 :: c61 :: c62 :: c63 :: c64 :: c65 :: c66 :: c67 :: c68 :: c69 :: c70 :: c71 :: c72 :: c73 :: c74 :: c75 :: c76 :: c77 :: c78 :: c79 :: c80 :: c81 :: c82 :: c83 :: c84 :: c85 :: c86 :: c87 :: c88 :: c89 :: c90 :: c91 :: c92 :: c93 :: c94 :: c95 :: c96 :: c97 :: c98 :: c99 :: c100 :: c101 :: c102 :: c103 :: c104 :: c105 :: c106 :: c107 :: c108 :: c109 :: c110 :: c111 :: c112 :: c113 :: c114 :: c115 :: c116 :: c117 :: c118 :: c119 :: c120 :: c121 :: c122 :: c123 :: c124 :: c125 :: c126 :: c127 :: c128 :: c129 :: c130 :: c131 :: c132 :: c133 :: c134 :: c135 :: c136 :: c137 :: c138 :: c139 :: c140 :: c141 :: c142 :: c143 :: c144 :: c145 :: c146 :: c147 :: c148 :: c149 :: c150 :: c151 :: c152 :: c153 :: c154 :: c155 :: c156 :: c157 :: c158 :: c159 :: c160 :: c161 :: c162 :: c163 :: c164 :: c165 :: c166 :: c167 :: c168 :: c169 :: c170 :: c171 :: c172 :: c173 :: c174 :: c175 :: c176 :: c177 :: c178 :: c179 :: c180 :: c181 :: c182 :: c183 :: c184 :: c185 :: c186 :: c187 :: c188 :: c189 :: c190 :: c191 :: c192 :: c193 :: c194 :: c195 :: c196 :: c197 :: c198 :: c199 :: c200 :: c201 :: c202 :: c203 :: c204 :: c205 :: c206 :: c207 :: c208 :: c209 :: c210 :: c211 :: c212 :: c213 :: c214 :: c215 :: c216 :: c217 :: c218 :: c219 :: c220 :: c221 :: c222 :: c223 :: c224 :: c225 :: c226 :: c227 :: c228 :: c229 :: c230 :: c231 :: c232 :: c233 :: c234 :: c235 :: c236 :: c237 :: c238 :: c239 :: c240 :: c241 :: c242 :: c243 :: c244 :: c245 :: c246 :: c247 :: c248 :: c249 :: c250 :: c251 :: c252 :: c253 :: c254 :: c255 :: c256 :: c257 :: c258 :: c259 :: c260 :: c261 :: c262 :: c263 :: c264 :: c265 :: c266 :: c267 :: c268 :: c269 :: c270 :: c271 :: c272 :: c273 :: c274 :: c275 :: c276 :: c277 :: c278 :: c279 :: c280 :: c281 :: c282 :: c283 :: c284 :: c285 :: c286 :: c287 :: c288 :: c289 :: c290 :: c291 :: c292 :: c293 :: c294 :: c295 :: c296 :: []), ds⟩ w := by
  have HQ := hid hQ
  have hle := hR.le
  rw [ints_length, List.length_append] at hle
  have Hpl := hid hpl
  have HH := hid (And.intro hb (And.intro hS (And.intro hdd (And.intro hlt (And.intro hltN (And.intro hr (And.intro hR hc)))))))
  have Hv := hid hv
  have HvR := hid hvR
  clear hQ hR hb hS hdd hlt hltN hr hc hpl hv hvR
  conv => arg 2; whnf
  go_wp2
  go_loopw [53] (fun j wr => ∃ (k : Nat) (o1 : Nat → Nat) (cv : Value), k ≤ xs.length ∧ j = .int .i64 (k : Int) ∧ Sl o1 wr 26 3 cv (ints (((xs.take k).map dd).filter fun p => !s.gr p)) ∧ Ob o1 wr 20 S 63 (vcells { v with cands := cv }) ∧ Step [20, 26] o w o1 wr) (fun j _ => xs.length - (intOf j).toNat)
  case atStart =>
    obtain ⟨hb, hS, hdd, hlt, hltN, hr, hR, hc⟩ := HH.out
    exact ⟨0, o, v.cands, Nat.zero_le _, rfl, by simpa [ints] using hc, hS, Step.refl _ _ _⟩
  case round =>
    obtain ⟨k, o1, cv, hk, rfl, T1, T2, st⟩ := hrel
    obtain ⟨hb, hS, hdd, hlt, hltN, hr, hR, hc⟩ := HH.out
    by_cases hk2 : k < xs.length
    · have hpm := List.getElem_mem hk2
      have hxD := hlt _ hpm
      have hxN := hltN _ hpm
      have hR1 := hR.step st (by simp)
      have hr1 := hr.step st (by simp) (by simp) (by simp) (by simp)
      have y1 : wr.cell? ⟨B, 0, none⟩ = some (.pointer (some ⟨S, 0, none⟩)) := (hb.step st (by simp)).cell 0
      have y2 : wr.cell? ⟨S, 2, none⟩ = some (.slice (some ⟨db, 0, none⟩) D Dcap) := by rw [← Hv.out]; exact T2.cell 2
      have y3 : wr.cell? ⟨db, xs[k], none⟩ = some (.int .i64 (dd xs[k] : Int)) := (st.cell (p := ⟨db, xs[k], none⟩) hdl (by simp [tdb])).trans (hdd _ hpm)
      have hli : pre.length + k < (ints (pre ++ xs)).length := by rw [ints_length]; simp; omega
      have y4 : wr.cell? ⟨stb, pl + k, none⟩ = some (.int .i64 (xs[k] : Int)) := by
        rw [Hpl.out, hR1.cell (pre.length + k) hli]
        simp [ints, List.getElem_append_right]
      have y5 : wr.cell? ⟨S, 1, none⟩ = some (.pointer (some ⟨R, 0, none⟩)) := by rw [← HvR.out]; exact T2.cell 1
      have y6 : wr.cell? ⟨R, 5, none⟩ = some (.slice (some ⟨s.gb, 0, none⟩) s.N s.N) := hr1.ob.cell 5
      have y7 : wr.cell? ⟨s.gb, dd xs[k], none⟩ = some (.bool (s.gr (dd xs[k]))) := hr1.gr.cell _ hxN
      have b1 : (k : Int) < (xs.length : Int) := by omega
      have b2 : (xs[k] : Int) < (D : Int) := by omega
      have b3 : (dd xs[k] : Int) < (s.N : Int) := by omega
      have e2 : xs.take (k + 1) = xs.take k ++ [xs[k]] := by rw [List.take_add_one]; simp [List.getElem?_eq_getElem hk2]
      have HT := hid (And.intro T1 (And.intro T2 (And.intro st e2)))
      have HB1 := hid (hb.step st (by simp))
      clear hb hS hdd hlt hltN hr hR hc hpm hR1 hr1 T1 T2 st e2 hli
      by_cases hg : s.gr (dd xs[k]) = true
      · rw [hg] at y7
        have Hg := hid hg
        clear hg
        go_wp2
        go_roundw
        case rel =>
          obtain ⟨T1, T2, st, e2⟩ := HT.out
          refine ⟨k + 1, o1, cv, by omega, by go_num, ?_, T2, st⟩
          rw [e2, List.map_append, List.filter_append]
          have e3 : ([xs[k]].map dd).filter (fun p => !s.gr p) = [] := by simp [Hg.out]
          rw [e3, List.append_nil]
          exact T1
        case measure => simp [intOf]; omega
      · have hg2 : s.gr (dd xs[k]) = false := by simpa using hg
        rw [hg2] at y7
        have Hg := hid hg2
        clear hg hg2
        go_wp2
        obtain ⟨T1, T2, st, e2⟩ := HT.out
        have s0 := Step.drew [] o1 wr
        have T1d := T1.step s0 (by simp)
        have T2d := T2.step s0 (by simp)
        have B1d := HB1.out.step s0 (by simp)
        obtain ⟨ga, gc, w2, hra, hca, o2, sl2, st2⟩ := T1d.app_run (by rw [ints_length]; have := List.length_filter_le (fun p => !s.gr p) ((xs.take k).map dd); simp at this ⊢; omega) (.int .i64 (dd xs[k] : Int)) rfl
        obtain ⟨m, hm⟩ : ∃ m, (ints (((xs.take k).map dd).filter fun p => !s.gr p)).length + 1 = m := ⟨_, rfl⟩
        rw [hm] at hra sl2
        have k2 : wr.cell? ⟨S, 7, none⟩ = some cv := T2.cell 7
        have T2e := T2d.step st2 (by simp)
        have B2e := B1d.step st2 (by simp)
        have l1 : w2.cell? ⟨B, 0, none⟩ = some (.pointer (some ⟨S, 0, none⟩)) := B2e.cell 0
        have l2 : w2.cell? ⟨S, 7, none⟩ = some cv := T2e.cell 7
        have l3 : w2.frozen? ⟨S, 7, none⟩ = false := T2e.frozen 7
        have HA := hid hra
        have HF := hid (And.intro T2e (And.intro sl2 (And.intro st2 (And.intro st e2))))
        clear T1 T2 st e2 s0 T1d T2d B1d hra hca sl2 st2 T2e B2e HT hm
        refine wp_region_plan [0, 1, 2, 3, 4, 5] [6, 7, 8, 9, 10] 10 (fun w' => w'.cell? ⟨B, 0, none⟩ = some (.pointer (some ⟨S, 0, none⟩)) ∧ w'.cell? ⟨S, 7, none⟩ = some cv) (by kernel_rfl) (by kernel_rfl) (by kernel_rfl) (by kernel_rfl) ?_ ?_
        exact ⟨y1, k2⟩
        repeat
          refine takes_cons (v := ?_) rfl (by rfl) ?_ ?_
          rotate_left
          · (intro w' hS; (try dsimp only at hS); go_simp; try with_reducible rfl)
          try simp only [Act.put, List.setIfInBounds_toArray, List.set_cons_zero, List.set_cons_succ]
        refine takes_nil ?_
        refine runZ_step rfl (fun K hK => ?_)
        go_simp
        refine hK.out _ _ (⟨cellUp y1 _, cellUp k2 _⟩) (fun hHeld => ?_)
        clear hK K hHeld
        try simp only [Act.put, List.setIfInBounds_toArray, List.set_cons_zero, List.set_cons_succ]
        refine runZ_step rfl (fun K hK => ?_)
        refine step_append_is (by rfl) _ _ 24 (by rfl) _ _ _ _ (by rfl) (by rfl) (HA.out) ?_
        refine hK.out _ _ (⟨l1, l2⟩) (fun hHeld => ?_)
        clear hK K hHeld
        try simp only [Act.put, List.setIfInBounds_toArray, List.set_cons_zero, List.set_cons_succ]
        refine runZ_step rfl (fun K hK => ?_)
        go_simp
        refine hK.out _ _ (⟨l1, l2⟩) (fun hHeld => ?_)
        clear hK K hHeld
        try simp only [Act.put, List.setIfInBounds_toArray, List.set_cons_zero, List.set_cons_succ]
        refine runZ_step rfl (fun K hK => ?_)
        go_simp
        refine hK.out _ _ (⟨l1, l2⟩) (fun hHeld => ?_)
        clear hK K hHeld
        try simp only [Act.put, List.setIfInBounds_toArray, List.set_cons_zero, List.set_cons_succ]
        refine runZ_last rfl (fun K hK => ?_)
        go_simp
        refine hK.out _ _ ?_
        clear hK K
        refine runZ_nil (NoPanic.normal ?_)
        try simp only [Act.put]
        go_wp2
        go_roundw
        case rel =>
          obtain ⟨T2e, sl2, st2, st, e2⟩ := HF.out
          have s3 := T2e.sset 7 (.slice (some ⟨ga, 0, none⟩) m gc) (T := [20, 26]) (by simp)
          refine ⟨k + 1, o2, .slice (some ⟨ga, 0, none⟩) m gc, by omega, by go_num, ?_, T2e.set 7 _, ((st.trans (Step.drew _ _ _)).trans (st2.mono (by simp))).trans s3⟩
          rw [e2, List.map_append, List.filter_append]
          have e3 : ([xs[k]].map dd).filter (fun p => !s.gr p) = [dd xs[k]] := by simp [Hg.out]
          rw [e3, ints_snoc]
          exact sl2.step (T2e.sset 7 _ (T := [20]) (by simp)) (by simp)
        case measure => simp [intOf]; omega
    · obtain rfl : k = xs.length := by omega
      have HT := hid (And.intro T1 (And.intro T2 st))
      clear T1 T2 st hb hS hdd hlt hltN hr hR hc
      have b1 : ¬ (xs.length : Int) < (xs.length : Int) := by omega
      go_wp2
      obtain ⟨T1, T2, st⟩ := HT.out
      exact HQ.out _ _ _ _ _ _ _ _ _ _ _ _ _ _ _ _ _ _ _ _ _ _ _ _ _ _ _ _ _ _ _ _ _ _ _ _ o1 cv (by simpa using T1) T2 st

set_option maxRecDepth 1000000 in
set_option maxHeartbeats 4000000 in
theorem r20_5A {Q : Exit → Act → World → Prop} {ds : List Deferred} {c0 c1 c3 c4 c5 c6 c7 c8 c9 c10 c11 c12 c13 c14 c15 c16 c17 c18 c19 c20 c21 c22 c23 c24 c25 c26 c27 c28 c29 c30 c31 c32 c33 c34 c35 c36 c37 c38 c39 c40 c41 c42 c43 c44 c45 c46 c47 c48 c49 c50 c51 c52 c53 c54 c55 c56 c57 c58 c59 c60 c61 c62 c63 c64 c65 c66 c67 c68 c69 c70 c71 c72 c73 c74 c75 c76 c77 c78 c79 c80 c81 c82 c83 c84 c85 c86 c87 c88 c89 c90 c91 c92 c93 c94 c95 c96 c97 c98 c99 c100 c101 c102 c103 c104 c105 c106 c107 c108 c109 c110 c111 c112 c113 c114 c115 c116 c117 c118 c119 c120 c121 c122 c123 c124 c125 c126 c127 c128 c129 c130 c131 c132 c133 c134 c135 c136 c137 c138 c139 c140 c141 c142 c143 c144 c145 c146 c147 c148 c149 c150 c151 c152 c153 c154 c155 c156 c157 c158 c159 c160 c161 c162 c163 c164 c165 c166 c167 c168 c169 c170 c171 c172 c173 c174 c175 c176 c177 c178 c179 c180 c181 c182 c183 c184 c185 c186 c187 c188 c189 c190 c191 c192 c193 c194 c195 c196 c197 c198 c199 c200 c201 c202 c203 c204 c205 c206 c207 c208 c209 c210 c211 c212 c213 c214 c215 c216 c217 c218 c219 c220 c221 c222 c223 c224 c225 c226 c227 c228 c229 c230 c231 c232 c233 c234 c235 c236 c237 c238 c239 c240 c241 c242 c243 c244 c245 c246 c247 c248 c249 c250 c251 c252 c253 c254 c255 c256 c257 c258 c259 c260 c261 c262 c263 c264 c265 c266 c267 c268 c269 c270 c271 c272 c273 c274 c275 c276 c277 c278 c279 c280 c281 c282 c283 c284 c285 c286 c287 c288 c289 c290 c291 c292 c293 c294 c295 c296 : Value} {w : World} (o : Nat → Nat) (B S : Nat) (v : VSt) (ca : Option Addr) (cc : Nat)
    (hb : Ob o w 99 B 95 #[.pointer (some ⟨S, 0, none⟩)]) (hS : Ob o w 20 S 63 (vcells v)) (hv : v.cands = .slice ca 0 cc)
    (hQ : ∀ (u86 u87 u88 u89 u90 u91 : Value), Q .ret ⟨List.toArray (c0 :: c1 :: .pointer (some ⟨B, 0, none⟩) :: c3 :: .slice none 0 0 :: .int .u8 2 :: c6 :: c7 :: c8 :: c9 :: c10 :: c11 :: c12 :: c13 :: c14 :: c15 :: c16 :: c17 :: c18 :: c19 :: c20 :: c21 :: c22 :: c23 :: c24 :: c25 :: c26 :: c27 :: c28 :: c29 :: c30 :: c31 :: c32 :: c33 :: c34 :: c35 :: c36 :: c37 :: c38 :: c39 :: c40 :: c41 :: c42 :: c43 :: c44 :: c45 :: c46 :: c47 :: c48 :: c49 :: c50 :: c51 :: c52 :: c53 :: c54 :: c55 :: c56 :: c57 :: c58 :: c59 :: c60 :: c61 :: c62 :: c63 :: c64 :: c65 :: c66 :: c67 :: c68 :: c69 :: c70 :: c71 :: c72 :: c73 :: c74 :: c75 :: c76 :: c77 :: c78 :: c79 :: c80 :: c81 :: c82 :: c83 :: c84 :: c85 :: u86 :: u87 :: u88 :: u89 :: u90 :: u91 :: c92 :: c93 :: c94 :: c95 :: c96 :: c97 :: c98 :: c99 :: c100 :: c101 :: c102 :: c103 :: c104 :: c105 :: c106 :: c107 :: c108 :: c109 :: c110 :: c111 :: c112 :: c113 :: c114 :: c115 :: c116 :: c117 :: c118 :: c119 :: c120 :: c121 :: c122 :: c123 :: c124 :: c125 :: c126 :: c127 :: c128 :: c129 :: c130 :: c131 :: c132 :: c133 :: c134 :: c135 :: c136 :: c137 :: c138 :: c139 :: c140 :: c141 :: c142 :: c143 :: c144 :: c145 :: c146 :: c147 :: c148 :: c149 :: c150 :: c151 :: c152 :: c153 :: c154 :: c155 :: c156 :: c157 :: c158 :: c159 :: c160 :: c161 :: c162 :: c163 :: c164 :: c165 :: c166 :: c167 :: c168 :: c169 :: c170 :: c171 :: c172 :: c173 :: c174 :: c175 :: c176 :: c177 :: c178 :: c179 :: c180 :: c181 :: c182 :: c183 :: c184 :: c185 :: c186 :: c187 :: c188 :: c189 :: c190 :: c191 :: c192 :: c193 :: c194 :: c195 :: c196 :: c197 :: c198 :: c199 :: c200 :: c201 :: c202 :: c203 :: c204 :: c205 :: c206 :: c207 :: c208 :: c209 :: c210 :: c211 :: c212 :: c213 :: c214 :: c215 :: c216 :: c217 :: c218 :: c219 :: c220 :: c221 :: c222 :: c223 :: c224 :: c225 :: c226 :: c227 :: c228 :: c229 :: c230 :: c231 :: c232 :: c233 :: c234 :: c235 :: c236 :: c237 :: c238 :: c239 :: c240 :: c241 :: c242 :: c243 :: c244 :: c245 :: c246 :: c247 :: c248 :: c249 :: c250 :: c251 :: c252 :: c253 :: c254 :: c255 :: c256 :: c257 :: c258 :: c259 :: c260 :: c261 :: c262 :: c263 :: c264 :: c265 :: c266 :: c267 :: c268 :: c269 :: c270 :: c271 :: c272 :: c273 :: c274 :: c275 :: c276 :: c277 :: c278 :: c279 :: c280 :: c281 :: c282 :: c283 :: c284 :: c285 :: c286 :: c287 :: c288 :: c289 :: c290 :: c291 :: c292 :: c293 :: c294 :: c295 :: c296 :: []), ds⟩ w) :
    Code.wp Ybaz.prog (s20 5) Q ⟨List.toArray (c0 :: c1 :: .pointer (some ⟨B, 0, none⟩) :: c3 :: c4 :: c5 :: c6 :: c7 :: c8 :: c9 :: c10 :: c11 :: c12 :: c13 :: c14 :: c15 :: c16 :: c17 :: c18 :: c19 :: c20 :: c21 :: c22 :: c23 :: c24 :: c25 :: c26 :: c27 :: c28 :: c29 :: c30 :: c31 :: c32 :: c33 :: c34 :: c35 :: c36 :: c37 :: c38 :: c39 :: c40 :: c41 :: c42 :: c43 :: c44 :: c45 :: c46 :: c47 :: c48 :: c49 :: c50 :: c51 :: c52 :: c53 :: c54 :: c55 :: c56 :: c57 :: c58 :: c59 :: c60 :: c61 :: c62 :: c63 :: c64 :: c65 :: c66 :: c67 :: c68 :: c69 :: c70 :: c71 :: c72 :: c73 :: c74 :: c75 :: c76 :: c77 :: c78 :: c79 :: c80 :: c81 :: c82 :: c83 :: c84 :: c85 :: c86 :: c87 :: c88 :: c89 :: c90 :: c91 :: c92 :: c93 :: c94 :: c95 :: c96 :: c97 :: c98 :: c99 :: c100 :: c101 :: c102 :: c103 :: c104 :: c105 :: c106 :: c107 :: c108 :: c109 :: c110 :: c111 :: c112 :: c113 :: c114 :: c115 :: c116 :: c117 :: c118 :: c119 :: c120 :: c121 :: c122 :: c123 :: c124 :: c125 :: c126 :: c127 :: c128 :: c129 :: c130 :: c131 :: c132 :: c133 :: c134 :: c135 :: c136 :: c137 :: c138 :: c139 :: c140 :: c141 :: c142 :: c143 :: c144 :: c145 :: c146 :: c147 :: c148 :: c149 :: c150 :: c151 :: c152 :: c153 :: c154 :: c155 :: c156 :: c157 :: c158 :: c159 :: c160 :: c161 :: c162 :: c163 :: c164 :: c165 :: c166 :: c167 :: c168 :: c169 :: c170 :: c171 :: c172 :: c173 :: c174 :: c175 :: c176 :: c177 :: c178 :: c179 :: c180 :: c181 :: c182 :: c183 :: c184 :: c185 :: c186 :: c187 :: c188 :: c189 :: c190 :: c191 :: c192 :: c193 :: c194 :: c195 :: c196 :: c197 :: c198 :: c199 :: c200 :: c201 :: c202 :: c203 :: c204 :: c205 :: c206 :: c207 :: c208 :: c209 :: c210 :: c211 :: c212 :: c213 :: c214 :: c215 :: c216 :: c217 :: c218 :: c219 :: c220 :: c221 :: c222 :: c223 :: c224 :: c225 :: c226 :: c227 :: c228 :: c229 :: c230 :: c231 :: c232 :: c233 :: c234 :: c235 :: c236 :: c237 :: c238 :: c239 :: c240 :: c241 :: c242 :: c243 :: c244 :: c245 :: c246 :: c247 :: c248 :: c249 :: c250 :: c251 :: c252 :: c253 :: c254 :: c255 :: c256 :: c257 :: c258 :: c259 :: c260 :: c261 :: c262 :: c263 :: c264 :: c265 :: c266 :: c267 :: c268 :: c269 :: c270 :: c271 :: c272 :: c273 :: c274 :: c275 :: c276 :: c277 :: c278 :: c279 :: c280 :: c281 :: c282 :: c283 :: c284 :: c285 :: c286 :: c287 :: c288 :: c289 :: c290 :: c291 :: c292 :: c293 :: c294 :: c295 :: c296 :: []), ds⟩ w := by
  have HQ := hid hQ
  have k1 : w.cell? ⟨B, 0, none⟩ = some (.pointer (some ⟨S, 0, none⟩)) := hb.cell 0
  have k2 : w.cell? ⟨S, 7, none⟩ = some (.slice ca 0 cc) := by rw [← hv]; exact hS.cell 7
  clear hQ hb hS hv
  conv => arg 2; whnf
  go_wp2
  exact HQ.out _ _ _ _ _ _

set_option maxRecDepth 1000000 in
set_option maxHeartbeats 4000000 in
theorem r20_5B {Q : Exit → Act → World → Prop} {ds : List Deferred} {c0 c1 c3 c4 c5 c6 c7 c8 c9 c10 c11 c12 c13 c14 c15 c16 c17 c18 c19 c20 c21 c22 c23 c24 c25 c26 c27 c28 c29 c30 c31 c32 c33 c34 c35 c36 c37 c38 c39 c40 c41 c42 c43 c44 c45 c46 c47 c48 c49 c50 c51 c52 c53 c54 c55 c56 c57 c58 c59 c60 c61 c62 c63 c64 c65 c66 c67 c68 c69 c70 c71 c72 c73 c74 c75 c76 c77 c78 c79 c80 c81 c82 c83 c84 c85 c86 c87 c88 c89 c90 c91 c92 c93 c94 c95 c96 c97 c98 c99 c100 c101 c102 c103 c104 c105 c106 c107 c108 c109 c110 c111 c112 c113 c114 c115 c116 c117 c118 c119 c120 c121 c122 c123 c124 c125 c126 c127 c128 c129 c130 c131 c132 c133 c134 c135 c136 c137 c138 c139 c140 c141 c142 c143 c144 c145 c146 c147 c148 c149 c150 c151 c152 c153 c154 c155 c156 c157 c158 c159 c160 c161 c162 c163 c164 c165 c166 c167 c168 c169 c170 c171 c172 c173 c174 c175 c176 c177 c178 c179 c180 c181 c182 c183 c184 c185 c186 c187 c188 c189 c190 c191 c192 c193 c194 c195 c196 c197 c198 c199 c200 c201 c202 c203 c204 c205 c206 c207 c208 c209 c210 c211 c212 c213 c214 c215 c216 c217 c218 c219 c220 c221 c222 c223 c224 c225 c226 c227 c228 c229 c230 c231 c232 c233 c234 c235 c236 c237 c238 c239 c240 c241 c242 c243 c244 c245 c246 c247 c248 c249 c250 c251 c252 c253 c254 c255 c256 c257 c258 c259 c260 c261 c262 c263 c264 c265 c266 c267 c268 c269 c270 c271 c272 c273 c274 c275 c276 c277 c278 c279 c280 c281 c282 c283 c284 c285 c286 c287 c288 c289 c290 c291 c292 c293 c294 c295 c296 : Value} {w : World} (o : Nat → Nat) (B S n : Nat) (v : VSt) (ca : Option Addr) (cc : Nat)
    (hb : Ob o w 99 B 95 #[.pointer (some ⟨S, 0, none⟩)]) (hS : Ob o w 20 S 63 (vcells v)) (hv : v.cands = .slice ca n cc) (hn : 0 < n)
    (hQ : ∀ (u86 u87 u88 u89 u90 u91 : Value), Q .normal ⟨List.toArray (c0 :: c1 :: .pointer (some ⟨B, 0, none⟩) :: c3 :: c4 :: c5 :: c6 :: c7 :: c8 :: c9 :: c10 :: c11 :: c12 :: c13 :: c14 :: c15 :: c16 :: c17 :: c18 :: c19 :: c20 :: c21 :: c22 :: c23 :: c24 :: c25 :: c26 :: c27 :: c28 :: c29 :: c30 :: c31 :: c32 :: c33 :: c34 :: c35 :: c36 :: c37 :: c38 :: c39 :: c40 :: c41 :: c42 :: c43 :: c44 :: c45 :: c46 :: c47 :: c48 :: c49 :: c50 :: c51 :: c52 :: c53 :: c54 :: c55 :: c56 :: c57 :: c58 :: c59 :: c60 :: c61 :: c62 :: c63 :: c64 :: c65 :: c66 :: c67 :: c68 :: c69 :: c70 :: c71 :: c72 :: c73 :: c74 :: c75 :: c76 :: c77 :: c78 :: c79 :: c80 :: c81 :: c82 :: c83 :: c84 :: c85 :: u86 :: u87 :: u88 :: u89 :: u90 :: u91 :: c92 :: c93 :: c94 :: c95 :: c96 :: c97 :: c98 :: c99 :: c100 :: c101 :: c102 :: c103 :: c104 :: c105 :: c106 :: c107 :: c108 :: c109 :: c110 :: c111 :: c112 :: c113 :: c114 :: c115 :: c116 :: c117 :: c118 :: c119 :: c120 :: c121 :: c122 :: c123 :: c124 :: c125 :: c126 :: c127 :: c128 :: c129 :: c130 :: c131 :: c132 :: c133 :: c134 :: c135 :: c136 :: c137 :: c138 :: c139 :: c140 :: c141 :: c142 :: c143 :: c144 :: c145 :: c146 :: c147 :: c148 :: c149 :: c150 :: c151 :: c152 :: c153 :: c154 :: c155 :: c156 :: c157 :: c158 :: c159 :: c160 :: c161 :: c162 :: c163 :: c164 :: c165 :: c166 :: c167 :: c168 :: c169 :: c170 :: c171 :: c172 :: c173 :: c174 :: c175 :: c176 :: c177 :: c178 :: c179 :: c180 :: c181 :: c182 :: c183 :: c184 :: c185 :: c186 :: c187 :: c188 :: c189 :: c190 :: c191 :: c192 :: c193 :: c194 :: c195 :: c196 :: c197 :: c198 :: c199 :: c200 :: c201 :: c202 :: c203 :: c204 :: c205 :: c206 :: c207 :: c208 :: c209 :: c210 :: c211 :: c212 :: c213 :: c214 :: c215 :: c216 :: c217 :: c218 :: c219 :: c220 :: c221 :: c222 :: c223 :: c224 :: c225 :: c226 :: c227 :: c228 :: c229 :: c230 :: c231 :: c232 :: c233 :: c234 :: c235 :: c236 :: c237 :: c238 :: c239 :: c240 :: c241 :: c242 :: c243 :: c244 :: c245 :: c246 :: c247 :: c248 :: c249 :: c250 :: c251 :: c252 :: c253 :: c254 :: c255 :: c256 :: c257 :: c258 :: c259 :: c260 :: c261 :: c262 :: c263 :: c264 :: c265 :: c266 :: c267 :: c268 :: c269 :: c270 :: c271 :: c272 :: c273 :: c274 :: c275 :: c276 :: c277 :: c278 :: c279 :: c280 :: c281 :: c282 :: c283 :: c284 :: c285 :: c286 :: c287 :: c288 :: c289 :: c290 :: c291 :: c292 :: c293 :: c294 :: c295 :: c296 :: []), ds⟩ w) :
    Code.wp Ybaz.prog (s20 5) Q ⟨List.toArray (c0 :: c1 :: .pointer (some ⟨B, 0, none⟩) :: c3 :: c4 :: c5 :: c6 :: c7 :: c8 :: c9 :: c10 :: c11 :: c12 :: c13 :: c14 :: c15 :: c16 :: c17 :: c18 :: c19 :: c20 :: c21 :: c22 :: c23 :: c24 :: c25 :: c26 :: c27 :: c28 :: c29 :: c30 :: c31 :: c32 :: c33 :: c34 :: c35 :: c36 :: c37 :: c38 :: c39 :: c40 :: c41 :: c42 :: c43 :: c44 :: c45 :: c46 :: c47 :: c48 :: c49 :: c50 :: c51 :: c52 :: c53 :: c54 :: c55 :: c56 :: c57 :: c58 :: c59 :: c60 :: c61 :: c62 :: c63 :: c64 :: c65 :: c66 :: c67 :: c68 :: c69 :: c70 :: c71 :: c72 :: c73 :: c74 :: c75 :: c76 :: c77 :: c78 :: c79 :: c80 :: c81 :: c82 :: c83 :: c84 :: c85 :: c86 :: c87 :: c88 :: c89 :: c90 :: c91 :: c92 :: c93 :: c94 :: c95 :: c96 :: c97 :: c98 :: c99 :: c100 :: c101 :: c102 :: c103 :: c104 :: c105 :: c106 :: c107 :: c108 :: c109 :: c110 :: c111 :: c112 :: c113 :: c114 :: c115 :: c116 :: c117 :: c118 :: c119 :: c120 :: c121 :: c122 :: c123 :: c124 :: c125 :: c126 :: c127 :: c128 :: c129 :: c130 :: c131 :: c132 :: c133 :: c134 :: c135 :: c136 :: c137 :: c138 :: c139 :: c140 :: c141 :: c142 :: c143 :: c144 :: c145 :: c146 :: c147 :: c148 :: c149 :: c150 :: c151 :: c152 :: c153 :: c154 :: c155 :: c156 :: c157 :: c158 :: c159 :: c160 :: c161 :: c162 :: c163 :: c164 :: c165 :: c166 :: c167 :: c168 :: c169 :: c170 :: c171 :: c172 :: c173 :: c174 :: c175 :: c176 :: c177 :: c178 :: c179 :: c180 :: c181 :: c182 :: c183 :: c184 :: c185 :: c186 :: c187 :: c188 :: c189 :: c190 :: c191 :: c192 :: c193 :: c194 :: c195 :: c196 :: c197 :: c198 :: c199 :: c200 :: c201 :: c202 :: c203 :: c204 :: c205 :: c206 :: c207 :: c208 :: c209 :: c210 :: c211 :: c212 :: c213 :: c214 :: c215 :: c216 :: c217 :: c218 :: c219 :: c220 :: c221 :: c222 :: c223 :: c224 :: c225 :: c226 :: c227 :: c228 :: c229 :: c230 :: c231 :: c232 :: c233 :: c234 :: c235 :: c236 :: c237 :: c238 :: c239 :: c240 :: c241 :: c242 :: c243 :: c244 :: c245 :: c246 :: c247 :: c248 :: c249 :: c250 :: c251 :: c252 :: c253 :: c254 :: c255 :: c256 :: c257 :: c258 :: c259 :: c260 :: c261 :: c262 :: c263 :: c264 :: c265 :: c266 :: c267 :: c268 :: c269 :: c270 :: c271 :: c272 :: c273 :: c274 :: c275 :: c276 :: c277 :: c278 :: c279 :: c280 :: c281 :: c282 :: c283 :: c284 :: c285 :: c286 :: c287 :: c288 :: c289 :: c290 :: c291 :: c292 :: c293 :: c294 :: c295 :: c296 :: []), ds⟩ w := by
  have HQ := hid hQ
  have k1 : w.cell? ⟨B, 0, none⟩ = some (.pointer (some ⟨S, 0, none⟩)) := hb.cell 0
  have k2 : w.cell? ⟨S, 7, none⟩ = some (.slice ca n cc) := by rw [← hv]; exact hS.cell 7
  have b1 : ¬ (n : Int) = 0 := by omega
  have b2 : ¬ n = 0 := by omega
  clear hQ hb hS hv
  conv => arg 2; whnf
  go_wp2
  exact HQ.out _ _ _ _ _ _
end Go.Proofs.YbulkbmdoGreat
