import Derived.Test.YbulkbmdoGreatR0
import Derived.Test.YbulkbmdoGreatAbort
import Derived.Test.YbulkbmdoGreatRw
namespace Go.Proofs.YbulkbmdoGreat
open Go.RowKit
set_option linter.unusedVariables false
set_option linter.unusedSimpArgs false
attribute [local go_sem ↓] Go.wp_at_zero Go.wp_at_succ

def GrowOk : Prop := ∀ (o : Nat → Nat) (W : World) (t : Nat) (a : Option Addr) (cap n : Nat), Sl o W t 3 (.slice a 0 cap) [] → n ≤ 100000 →
    Calls Ybaz.prog 34 #[.slice a 0 cap, .int .i64 (n : Int)] W fun e w' => ∃ o' a' cap', e = .returned (.slice a' 0 cap') ∧ n ≤ cap' ∧ Sl o' w' t 3 (.slice a' 0 cap') [] ∧ Step [] o W o' w'

set_option maxRecDepth 1000000 in
set_option maxHeartbeats 4000000 in
theorem r20_3 (hgrow : GrowOk) {Q : Exit → Act → World → Prop} {ds : List Deferred} {c0 c3 c4 c5 c6 c7 c8 c9 c10 c11 c12 c13 c14 c15 c16 c17 c18 c19 c20 c21 c22 c23 c24 c25 c26 c27 c28 c29 c30 c31 c32 c33 c34 c35 c36 c37 c38 c39 c40 c41 c42 c43 c44 c45 c46 c47 c48 c49 c50 c51 c52 c53 c54 c55 c56 c57 c58 c59 c60 c61 c62 c63 c64 c65 c66 c67 c68 c69 c70 c71 c72 c73 c74 c75 c76 c77 c78 c79 c80 c81 c82 c83 c84 c85 c86 c87 c88 c89 c90 c91 c92 c93 c94 c95 c96 c97 c98 c99 c100 c101 c102 c103 c104 c105 c106 c107 c108 c109 c110 c111 c112 c113 c114 c115 c116 c117 c118 c119 c120 c121 c122 c123 c124 c125 c126 c127 c128 c129 c130 c131 c132 c133 c134 c135 c136 c137 c138 c139 c140 c141 c142 c143 c144 c145 c146 c147 c148 c149 c150 c151 c152 c153 c154 c155 c156 c157 c158 c159 c160 c161 c162 c163 c164 c165 c166 c167 c168 c169 c170 c171 c172 c173 c174 c175 c176 c177 c178 c179 c180 c181 c182 c183 c184 c185 c186 c187 c188 c189 c190 c191 c192 c193 c194 c195 c196 c197 c198 c199 c200 c201 c202 c203 c204 c205 c206 c207 c208 c209 c210 c211 c212 c213 c214 c215 c216 c217 c218 c219 c220 c221 c222 c223 c224 c225 c226 c227 c228 c229 c230 c231 c232 c233 c234 c235 c236 c237 c238 c239 c240 c241 c242 c243 c244 c245 c246 c247 c248 c249 c250 c251 c252 c253 c254 c255 c256 c257 c258 c259 c260 c261 c262 c263 c264 c265 c266 c267 c268 c269 c270 c271 c272 c273 c274 c275 c276 c277 c278 c279 c280 c281 c282 c283 c284 c285 c286 c287 c288 c289 c290 c291 c292 c293 c294 c295 c296 : Value} {w : World} (o : Nat → Nat) (B S m : Nat) (v : VSt) (stb pl mcap : Nat) (ca : Option Addr) (cn cc : Nat)
    (hb : Ob o w 99 B 95 #[.pointer (some ⟨S, 0, none⟩)]) (hS : Ob o w 20 S 63 (vcells v)) (hv : v.cands = .slice ca cn cc) (hsl : Sl o w 26 3 (.slice ca 0 cc) []) (hm : m ≤ 300)
    (hQ : ∀ (u40 u41 u42 u43 u44 u45 u46 u47 u48 u49 u50 : Value) (w' : World) (o' : Nat → Nat) (a' : Option Addr) (cap' : Nat), m ≤ cap' → Sl o' w' 26 3 (.slice a' 0 cap') [] → Ob o' w' 20 S 63 (vcells { v with cands := .slice a' 0 cap' }) → Step [20] o w o' w' → Q .normal ⟨List.toArray (c0 :: .slice (some ⟨stb, pl, none⟩) m mcap :: .pointer (some ⟨B, 0, none⟩) :: c3 :: c4 :: c5 :: c6 :: c7 :: c8 :: c9 :: c10 :: c11 :: c12 :: c13 :: c14 :: c15 :: c16 :: c17 :: c18 :: c19 :: c20 :: c21 :: c22 :: c23 :: c24 :: c25 :: c26 :: c27 :: c28 :: c29 :: c30 :: c31 :: c32 :: c33 :: c34 :: c35 :: c36 :: c37 :: c38 :: c39 :: u40 :: u41 :: u42 :: u43 :: u44 :: u45 :: u46 :: u47 :: u48 :: u49 :: u50 :: c51 :: c52 :: c53 :: c54 :: c55 :: c56 :: c57 :: c58 :: c59 :: c60 :: c61 :: c62 :: c63 :: c64 :: c65 :: c66 :: c67 :: c68 :: c69 :: c70 :: c71 :: c72 :: c73 :: c74 :: c75 :: c76 :: c77 :: c78 :: c79 :: c80 :: c81 :: c82 :: c83 :: c84 :: c85 :: c86 :: c87 :: c88 :: c89 :: c90 :: c91 :: c92 :: c93 :: c94 :: c95 :: c96 :: c97 :: c98 :: c99 :: c100 :: c101 :: c102 :: c103 :: c104 :: c105 :: c106 :: c107 :: c108 :: c109 :: c110 :: c111 :: c112 :: c113 :: c114 :: c115 :: c116 :: c117 :: c118 :: c119 :: c120 :: c121 :: c122 :: c123 :: c124 :: c125 :: c126 :: c127 :: c128 :: c129 :: c130 :: c131 :: c132 :: c133 :: c134 :: c135 :: c136 :: c137 :: c138 :: c139 :: c140 :: c141 :: c142 :: c143 :: c144 :: c145 :: c146 :: c147 :: c148 :: c149 :: c150 :: c151 :: c152 :: c153 :: c154 :: c155 :: c156 :: c157 :: c158 :: c159 :: c160 :: c161 :: c162 :: c163 :: c164 :: c165 :: c166 :: c167 :: c168 :: c169 :: c170 :: c171 :: c172 :: c173 :: c174 :: c175 :: c176 :: c177 :: c178 :: c179 :: c180 :: c181 :: c182 :: c183 :: c184 :: c185 :: c186 :: c187 :: c188 :: c189 :: c190 :: c191 :: c192 :: c193 :: c194 :: c195 :: c196 :: c197 :: c198 :: c199 :: c200 :: c201 :: c202 :: c203 :: c204 :: c205 :: c206 :: c207 :: c208 :: c209 :: c210 :: c211 :: c212 :: c213 :: c214 :: c215 :: c216 :: c217 :: c218 :: c219 :: c220 :: c221 :: c222 :: c223 :: c224 :: c225 :: c226 :: c227 :: c228 :: c229 :: c230 :: c231 :: c232 :: c233 :: c234 :: c235 :: c236 :: c237 :: c238 :: c239 :: c240 :: c241 :: c242 :: c243 :: c244 :: c245 :: c246 :: c247 :: c248 :: c249 :: c250 :: c251 :: c252 :: c253 :: c254 :: c255 :: c256 :: c257 :: c258 :: c259 :: c260 :: c261 :: c262 :: c263 :: c264 :: c265 :: c266 :: c267 :: c268 :: c269 :: c270 :: c271 :: c272 :: c273 :: c274 :: c275 :: c276 :: c277 :: c278 :: c279 :: c280 :: c281 :: c282 :: c283 :: c284 :: c285 :: c286 :: c287 :: c288 :: c289 :: c290 :: c291 :: c292 :: c293 :: c294 :: c295 :: c296 :: []), ds⟩ w') :
    Code.wp Ybaz.prog (s20 3) Q ⟨List.toArray (c0 :: .slice (some ⟨stb, pl, none⟩) m mcap :: .pointer (some ⟨B, 0, none⟩) :: c3 :: c4 :: c5 :: c6 :: c7 :: c8 :: c9 :: c10 :: c11 :: c12 :: c13 :: c14 :: c15 :: c16 :: c17 :: c18 :: c19 :: c20 :: c21 :: c22 :: c23 :: c24 :: c25 :: c26 :: c27 :: c28 :: c29 :: c30 :: c31 :: c32 :: c33 :: c34 :: c35 :: c36 :: c37 :: c38 :: c39 :: c40 :: c41 :: c42 :: c43 :: c44 :: c45 :: c46 :: c47 :: c48 :: c49 :: c50 :: c51 :: c52 :: c53 :: c54 :: c55 :: c56 :: c57 :: c58 :: c59 :: c60 :: c61 :: c62 :: c63 :: c64 :: c65 :: c66 :: c67 :: c68 :: c69 :: c70 :: c71 :: c72 :: c73 :: c74 :: c75 :: c76 :: c77 :: c78 :: c79 :: c80 :: c81 :: c82 :: c83 :: c84 :: c85 :: c86 :: c87 :: c88 :: c89 :: c90 :: c91 :: c92 :: c93 :: c94 :: c95 :: c96 :: c97 :: c98 :: c99 :: c100 :: c101 :: c102 :: c103 :: c104 :: c105 :: c106 :: c107 :: c108 :: c109 :: c110 :: c111 :: c112 :: c113 :: c114 :: c115 :: c116 :: c117 :: c118 :: c119 :: c120 :: c121 :: c122 :: c123 :: c124 :: c125 :: c126 :: c127 :: c128 :: c129 :: c130 :: c131 :: c132 :: c133 :: c134 :: c135 :: c136 :: c137 :: c138 :: c139 :: c140 :: c141 :: c142 :: c143 :: c144 :: c145 :: c146 :: c147 :: c148 :: c149 :: c150 :: c151 :: c152 :: c153 :: c154 :: c155 :: c156 :: c157 :: c158 :: c159 :: c160 :: c161 :: c162 :: c163 :: c164 :: c165 :: c166 :: c167 :: c168 :: c169 :: c170 :: c171 :: c172 :: c173 :: c174 :: c175 :: c176 :: c177 :: c178 :: c179 :: c180 :: c181 :: c182 :: c183 :: c184 :: c185 :: c186 :: c187 :: c188 :: c189 :: c190 :: c191 :: c192 :: c193 :: c194 :: c195 :: c196 :: c197 :: c198 :: c199 :: c200 :: c201 :: c202 :: c203 :: c204 :: c205 :: c206 :: c207 :: c208 :: c209 :: c210 :: c211 :: c212 :: c213 :: c214 :: c215 :: c216 :: c217 :: c218 :: c219 :: c220 :: c221 :: c222 :: c223 :: c224 :: c225 :: c226 :: c227 :: c228 :: c229 :: c230 :: c231 :: c232 :: c233 :: c234 :: c235 :: c236 :: c237 :: c238 :: c239 :: c240 :: c241 :: c242 :: c243 :: c244 :: c245 :: c246 :: c247 :: c248 :: c249 :: c250 :: c251 :: c252 :: c253 :: c254 :: c255 :: c256 :: c257 :: c258 :: c259 :: c260 :: c261 :: c262 :: c263 :: c264 :: c265 :: c266 :: c267 :: c268 :: c269 :: c270 :: c271 :: c272 :: c273 :: c274 :: c275 :: c276 :: c277 :: c278 :: c279 :: c280 :: c281 :: c282 :: c283 :: c284 :: c285 :: c286 :: c287 :: c288 :: c289 :: c290 :: c291 :: c292 :: c293 :: c294 :: c295 :: c296 :: []), ds⟩ w := by
  have k1 : w.cell? ⟨B, 0, none⟩ = some (.pointer (some ⟨S, 0, none⟩)) := hb.cell 0
  have k2 : w.cell? ⟨S, 7, none⟩ = some (.slice ca cn cc) := by rw [← hv]; exact hS.cell 7
  have s0 := Step.drew [] o w
  have HG := hid (hgrow o w.drew 26 ca cc m (hsl.step s0 (by simp)) (by omega))
  have HQ := hid hQ
  have HB := hid (hb.step s0 (by simp))
  have HS := hid (hS.step s0 (by simp))
  have Hv := hid hv
  
  clear hQ hb hS hsl hv s0 
  conv => arg 2; whnf
  refine wp_region_plan [0, 1, 2, 3, 4, 5, 6, 7] [8, 9, 10, 11] 11 (fun w' => w'.cell? ⟨B, 0, none⟩ = some (.pointer (some ⟨S, 0, none⟩)) ∧ w'.cell? ⟨S, 7, none⟩ = some (.slice ca cn cc)) (by kernel_rfl) (by kernel_rfl) (by kernel_rfl) (by kernel_rfl) ?_ ?_
  exact ⟨k1, k2⟩
  repeat
    refine takes_cons (v := ?_) rfl (by rfl) ?_ ?_
    rotate_left
    · (intro w' hS; (try dsimp only at hS); go_simp; try with_reducible rfl)
    try simp only [Act.put, List.setIfInBounds_toArray, List.set_cons_zero, List.set_cons_succ]
  refine takes_nil ?_
  refine runZ_step rfl (fun K hK => ?_)
  go_simp
  refine HG.out.mono ?_
  rintro e w1 ⟨o', a', cap', rfl, h1, h2, st⟩
  have hS1 := HS.out.step st (by simp)
  have hB1 := HB.out.step st (by simp)
  have l1 : w1.cell? ⟨B, 0, none⟩ = some (.pointer (some ⟨S, 0, none⟩)) := hB1.cell 0
  have l2 : w1.cell? ⟨S, 7, none⟩ = some (.slice ca cn cc) := by rw [← Hv.out]; exact hS1.cell 7
  have l3 : w1.frozen? ⟨S, 7, none⟩ = false := hS1.frozen 7
  have HF := hid (And.intro hS1 (And.intro h1 (And.intro h2 st)))
  clear hS1 hB1 h1 h2 st k1 k2 
  refine hK.out _ _ (⟨l1, l2⟩) (fun hHeld => ?_)
  clear hK K hHeld
  try simp only [Act.put, List.setIfInBounds_toArray, List.set_cons_zero, List.set_cons_succ]
  refine runZ_step rfl (fun K hK => ?_)
  go_simp
  refine hK.out _ _ (⟨l1, l2⟩) (fun hHeld => ?_)
  clear hK K hHeld
  try simp only [Act.put, List.setIfInBounds_toArray, List.set_cons_zero, List.set_cons_succ]
  refine runZ_step rfl (fun K hK => ?_)
  go_simp
  refine hK.out _ _ (⟨l1, l2⟩) (fun hHeld => ?_)
  clear hK K hHeld
  try simp only [Act.put, List.setIfInBounds_toArray, List.set_cons_zero, List.set_cons_succ]
  refine runZ_last rfl (fun K hK => ?_)
  go_simp
  refine hK.out _ _ ?_
  clear hK K
  refine runZ_nil (NoPanic.normal ?_)
  try simp only [Act.put]
  obtain ⟨hS1, h1, h2, st⟩ := HF.out
  have s2 := hS1.sset 7 (.slice a' 0 cap') (T := [20]) (by simp)
  exact HQ.out _ _ _ _ _ _ _ _ _ _ _ _ o' a' cap' h1 (h2.step s2 (by simp)) (hS1.set 7 _) (((Step.drew [20] o w).trans (st.mono (by simp))).trans s2)

set_option maxRecDepth 1000000 in
set_option maxHeartbeats 4000000 in
theorem r20_6 (hgrow : GrowOk) {Q : Exit → Act → World → Prop} {ds : List Deferred} {c0 c1 c3 c4 c5 c6 c7 c8 c9 c10 c11 c12 c13 c14 c15 c16 c17 c18 c19 c20 c21 c22 c23 c24 c25 c26 c27 c28 c29 c30 c31 c32 c33 c34 c35 c36 c37 c38 c39 c40 c41 c42 c43 c44 c45 c46 c47 c48 c49 c50 c51 c52 c53 c54 c55 c56 c57 c58 c59 c60 c61 c62 c63 c64 c65 c66 c67 c68 c69 c70 c71 c72 c73 c74 c75 c76 c77 c78 c79 c80 c81 c82 c83 c84 c85 c86 c87 c88 c89 c90 c91 c92 c93 c94 c95 c96 c97 c98 c99 c100 c101 c102 c103 c104 c105 c106 c107 c108 c109 c110 c111 c112 c113 c114 c115 c116 c117 c118 c119 c120 c121 c122 c123 c124 c125 c126 c127 c128 c129 c130 c131 c132 c133 c134 c135 c136 c137 c138 c139 c140 c141 c142 c143 c144 c145 c146 c147 c148 c149 c150 c151 c152 c153 c154 c155 c156 c157 c158 c159 c160 c161 c162 c163 c164 c165 c166 c167 c168 c169 c170 c171 c172 c173 c174 c175 c176 c177 c178 c179 c180 c181 c182 c183 c184 c185 c186 c187 c188 c189 c190 c191 c192 c193 c194 c195 c196 c197 c198 c199 c200 c201 c202 c203 c204 c205 c206 c207 c208 c209 c210 c211 c212 c213 c214 c215 c216 c217 c218 c219 c220 c221 c222 c223 c224 c225 c226 c227 c228 c229 c230 c231 c232 c233 c234 c235 c236 c237 c238 c239 c240 c241 c242 c243 c244 c245 c246 c247 c248 c249 c250 c251 c252 c253 c254 c255 c256 c257 c258 c259 c260 c261 c262 c263 c264 c265 c266 c267 c268 c269 c270 c271 c272 c273 c274 c275 c276 c277 c278 c279 c280 c281 c282 c283 c284 c285 c286 c287 c288 c289 c290 c291 c292 c293 c294 c295 c296 : Value} {w : World} (o : Nat → Nat) (B S m : Nat) (v : VSt) (da : Option Addr) (dcap : Nat) (hvc : v.cands = .slice da m dcap) (ca : Option Addr) (cn cc : Nat)
    (hb : Ob o w 99 B 95 #[.pointer (some ⟨S, 0, none⟩)]) (hS : Ob o w 20 S 63 (vcells v)) (hv : v.slots = .slice ca cn cc) (hsl : Sl o w 31 3 (.slice ca 0 cc) []) (hm : m ≤ 300)
    (hQ : ∀ (u92 u93 u94 u95 u96 u97 u98 u99 u100 u101 u102 u103 u104 u105 : Value) (w' : World) (o' : Nat → Nat) (a' : Option Addr) (cap' : Nat), m ≤ cap' → Sl o' w' 31 3 (.slice a' 0 cap') [] → Ob o' w' 20 S 63 (vcells { v with slots := .slice a' 0 cap' }) → Step [20] o w o' w' → Q .normal ⟨List.toArray (c0 :: c1 :: .pointer (some ⟨B, 0, none⟩) :: c3 :: c4 :: c5 :: c6 :: c7 :: c8 :: c9 :: c10 :: c11 :: c12 :: c13 :: c14 :: c15 :: c16 :: c17 :: c18 :: c19 :: c20 :: c21 :: c22 :: c23 :: c24 :: c25 :: c26 :: c27 :: c28 :: c29 :: c30 :: c31 :: c32 :: c33 :: c34 :: c35 :: c36 :: c37 :: c38 :: c39 :: c40 :: c41 :: c42 :: c43 :: c44 :: c45 :: c46 :: c47 :: c48 :: c49 :: c50 :: c51 :: c52 :: c53 :: c54 :: c55 :: c56 :: c57 :: c58 :: c59 :: c60 :: c61 :: c62 :: c63 :: c64 :: c65 :: c66 :: c67 :: c68 :: c69 :: c70 :: c71 :: c72 :: c73 :: c74 :: c75 :: c76 :: c77 :: c78 :: c79 :: c80 :: c81 :: c82 :: c83 :: c84 :: c85 :: c86 :: c87 :: c88 :: c89 :: c90 :: c91 :: u92 :: u93 :: u94 :: u95 :: u96 :: u97 :: u98 :: u99 :: u100 :: u101 :: u102 :: u103 :: u104 :: u105 :: c106 :: c107 :: c108 :: c109 :: c110 :: c111 :: c112 :: c113 :: c114 :: c115 :: c116 :: c117 :: c118 :: c119 :: c120 :: c121 :: c122 :: c123 :: c124 :: c125 :: c126 :: c127 :: c128 :: c129 :: c130 :: c131 :: c132 :: c133 :: c134 :: c135 :: c136 :: c137 :: c138 :: c139 :: c140 :: c141 :: c142 :: c143 :: c144 :: c145 :: c146 :: c147 :: c148 :: c149 :: c150 :: c151 :: c152 :: c153 :: c154 :: c155 :: c156 :: c157 :: c158 :: c159 :: c160 :: c161 :: c162 :: c163 :: c164 :: c165 :: c166 :: c167 :: c168 :: c169 :: c170 :: c171 :: c172 :: c173 :: c174 :: c175 :: c176 :: c177 :: c178 :: c179 :: c180 :: c181 :: c182 :: c183 :: c184 :: c185 :: c186 :: c187 :: c188 :: c189 :: c190 :: c191 :: c192 :: c193 :: c194 :: c195 :: c196 :: c197 :: c198 :: c199 :: c200 :: c201 :: c202 :: c203 :: c204 :: c205 :: c206 :: c207 :: c208 :: c209 :: c210 :: c211 :: c212 :: c213 :: c214 :: c215 :: c216 :: c217 :: c218 :: c219 :: c220 :: c221 :: c222 :: c223 :: c224 :: c225 :: c226 :: c227 :: c228 :: c229 :: c230 :: c231 :: c232 :: c233 :: c234 :: c235 :: c236 :: c237 :: c238 :: c239 :: c240 :: c241 :: c242 :: c243 :: c244 :: c245 :: c246 :: c247 :: c248 :: c249 :: c250 :: c251 :: c252 :: c253 :: c254 :: c255 :: c256 :: c257 :: c258 :: c259 :: c260 :: c261 :: c262 :: c263 :: c264 :: c265 :: c266 :: c267 :: c268 :: c269 :: c270 :: c271 :: c272 :: c273 :: c274 :: c275 :: c276 :: c277 :: c278 :: c279 :: c280 :: c281 :: c282 :: c283 :: c284 :: c285 :: c286 :: c287 :: c288 :: c289 :: c290 :: c291 :: c292 :: c293 :: c294 :: c295 :: c296 :: []), ds⟩ w') :
    Code.wp Ybaz.prog (s20 6) Q ⟨List.toArray (c0 :: c1 :: .pointer (some ⟨B, 0, none⟩) :: c3 :: c4 :: c5 :: c6 :: c7 :: c8 :: c9 :: c10 :: c11 :: c12 :: c13 :: c14 :: c15 :: c16 :: c17 :: c18 :: c19 :: c20 :: c21 :: c22 :: c23 :: c24 :: c25 :: c26 :: c27 :: c28 :: c29 :: c30 :: c31 :: c32 :: c33 :: c34 :: c35 :: c36 :: c37 :: c38 :: c39 :: c40 :: c41 :: c42 :: c43 :: c44 :: c45 :: c46 :: c47 :: c48 :: c49 :: c50 :: c51 :: c52 :: c53 :: c54 :: c55 :: c56 :: c57 :: c58 :: c59 :: c60 :: c61 :: c62 :: c63 :: c64 :: c65 :: c66 :: c67 :: c68 :: c69 :: c70 :: c71 :: c72 :: c73 :: c74 :: c75 :: c76 :: c77 :: c78 :: c79 :: c80 :: c81 :: c82 :: c83 :: c84 :: c85 :: c86 :: c87 :: c88 :: c89 :: c90 :: c91 :: c92 :: c93 :: c94 :: c95 :: c96 :: c97 :: c98 :: c99 :: c100 :: c101 :: c102 :: c103 :: c104 :: c105 :: c106 :: c107 :: c108 :: c109 :: c110 :: c111 :: c112 :: c113 :: c114 :: c115 :: c116 :: c117 :: c118 :: c119 :: c120 :: c121 :: c122 :: c123 :: c124 :: c125 :: c126 :: c127 :: c128 :: c129 :: c130 :: c131 :: c132 :: c133 :: c134 :: c135 :: c136 :: c137 :: c138 :: c139 :: c140 :: c141 :: c142 :: c143 :: c144 :: c145 :: c146 :: c147 :: c148 :: c149 :: c150 :: c151 :: c152 :: c153 :: c154 :: c155 :: c156 :: c157 :: c158 :: c159 :: c160 :: c161 :: c162 :: c163 :: c164 :: c165 :: c166 :: c167 :: c168 :: c169 :: c170 :: c171 :: c172 :: c173 :: c174 :: c175 :: c176 :: c177 :: c178 :: c179 :: c180 :: c181 :: c182 :: c183 :: c184 :: c185 :: c186 :: c187 :: c188 :: c189 :: c190 :: c191 :: c192 :: c193 :: c194 :: c195 :: c196 :: c197 :: c198 :: c199 :: c200 :: c201 :: c202 :: c203 :: c204 :: c205 :: c206 :: c207 :: c208 :: c209 :: c210 :: c211 :: c212 :: c213 :: c214 :: c215 :: c216 :: c217 :: c218 :: c219 :: c220 :: c221 :: c222 :: c223 :: c224 :: c225 :: c226 :: c227 :: c228 :: c229 :: c230 :: c231 :: c232 :: c233 :: c234 :: c235 :: c236 :: c237 :: c238 :: c239 :: c240 :: c241 :: c242 :: c243 :: c244 :: c245 :: c246 :: c247 :: c248 :: c249 :: c250 :: c251 :: c252 :: c253 :: c254 :: c255 :: c256 :: c257 :: c258 :: c259 :: c260 :: c261 :: c262 :: c263 :: c264 :: c265 :: c266 :: c267 :: c268 :: c269 :: c270 :: c271 :: c272 :: c273 :: c274 :: c275 :: c276 :: c277 :: c278 :: c279 :: c280 :: c281 :: c282 :: c283 :: c284 :: c285 :: c286 :: c287 :: c288 :: c289 :: c290 :: c291 :: c292 :: c293 :: c294 :: c295 :: c296 :: []), ds⟩ w := by
  have k1 : w.cell? ⟨B, 0, none⟩ = some (.pointer (some ⟨S, 0, none⟩)) := hb.cell 0
  have k2 : w.cell? ⟨S, 12, none⟩ = some (.slice ca cn cc) := by rw [← hv]; exact hS.cell 12
  have k7 : w.cell? ⟨S, 7, none⟩ = some (.slice da m dcap) := by rw [← hvc]; exact hS.cell 7
  have s0 := Step.drew [] o w
  have HG := hid (hgrow o w.drew 31 ca cc m (hsl.step s0 (by simp)) (by omega))
  have HQ := hid hQ
  have HB := hid (hb.step s0 (by simp))
  have HS := hid (hS.step s0 (by simp))
  have Hv := hid hv
  have Hvc := hid hvc
  clear hQ hb hS hsl hv s0 hvc
  conv => arg 2; whnf
  refine wp_region_plan [0, 1, 2, 3, 4, 5, 6, 7, 8, 9, 10] [11, 12, 13, 14] 14 (fun w' => w'.cell? ⟨B, 0, none⟩ = some (.pointer (some ⟨S, 0, none⟩)) ∧ w'.cell? ⟨S, 12, none⟩ = some (.slice ca cn cc) ∧ w'.cell? ⟨S, 7, none⟩ = some (.slice da m dcap)) (by kernel_rfl) (by kernel_rfl) (by kernel_rfl) (by kernel_rfl) ?_ ?_
  exact ⟨k1, k2, k7⟩
  repeat
    refine takes_cons (v := ?_) rfl (by rfl) ?_ ?_
    rotate_left
    · (intro w' hS; (try dsimp only at hS); go_simp; try with_reducible rfl)
    try simp only [Act.put, List.setIfInBounds_toArray, List.set_cons_zero, List.set_cons_succ]
  refine takes_nil ?_
  refine runZ_step rfl (fun K hK => ?_)
  go_simp
  refine HG.out.mono ?_
  rintro e w1 ⟨o', a', cap', rfl, h1, h2, st⟩
  have hS1 := HS.out.step st (by simp)
  have hB1 := HB.out.step st (by simp)
  have l1 : w1.cell? ⟨B, 0, none⟩ = some (.pointer (some ⟨S, 0, none⟩)) := hB1.cell 0
  have l2 : w1.cell? ⟨S, 12, none⟩ = some (.slice ca cn cc) := by rw [← Hv.out]; exact hS1.cell 12
  have l7 : w1.cell? ⟨S, 7, none⟩ = some (.slice da m dcap) := by rw [← Hvc.out]; exact hS1.cell 7
  have l3 : w1.frozen? ⟨S, 12, none⟩ = false := hS1.frozen 12
  have HF := hid (And.intro hS1 (And.intro h1 (And.intro h2 st)))
  clear hS1 hB1 h1 h2 st k1 k2 k7
  refine hK.out _ _ (⟨l1, l2, l7⟩) (fun hHeld => ?_)
  clear hK K hHeld
  try simp only [Act.put, List.setIfInBounds_toArray, List.set_cons_zero, List.set_cons_succ]
  refine runZ_step rfl (fun K hK => ?_)
  go_simp
  refine hK.out _ _ (⟨l1, l2, l7⟩) (fun hHeld => ?_)
  clear hK K hHeld
  try simp only [Act.put, List.setIfInBounds_toArray, List.set_cons_zero, List.set_cons_succ]
  refine runZ_step rfl (fun K hK => ?_)
  go_simp
  refine hK.out _ _ (⟨l1, l2, l7⟩) (fun hHeld => ?_)
  clear hK K hHeld
  try simp only [Act.put, List.setIfInBounds_toArray, List.set_cons_zero, List.set_cons_succ]
  refine runZ_last rfl (fun K hK => ?_)
  go_simp
  refine hK.out _ _ ?_
  clear hK K
  refine runZ_nil (NoPanic.normal ?_)
  try simp only [Act.put]
  obtain ⟨hS1, h1, h2, st⟩ := HF.out
  have s2 := hS1.sset 12 (.slice a' 0 cap') (T := [20]) (by simp)
  exact HQ.out _ _ _ _ _ _ _ _ _ _ _ _ _ _ _ o' a' cap' h1 (h2.step s2 (by simp)) (hS1.set 12 _) (((Step.drew [20] o w).trans (st.mono (by simp))).trans s2)

set_option maxRecDepth 1000000 in
set_option maxHeartbeats 4000000 in
theorem r20_11 (hgrow : GrowOk) {Q : Exit → Act → World → Prop} {ds : List Deferred} {c0 c1 c3 c4 c5 c6 c7 c8 c9 c10 c11 c12 c13 c14 c15 c16 c17 c18 c19 c20 c21 c22 c23 c24 c25 c26 c27 c28 c29 c30 c31 c32 c33 c34 c35 c36 c37 c38 c39 c40 c41 c42 c43 c44 c45 c46 c47 c48 c49 c50 c51 c52 c53 c54 c55 c56 c57 c58 c59 c60 c61 c62 c63 c64 c65 c66 c67 c68 c69 c70 c71 c72 c73 c74 c75 c76 c77 c78 c79 c80 c81 c82 c83 c84 c85 c86 c87 c88 c89 c90 c91 c92 c93 c94 c95 c96 c97 c98 c99 c100 c101 c102 c103 c104 c105 c106 c107 c108 c109 c110 c111 c112 c113 c114 c115 c116 c117 c118 c119 c120 c121 c122 c123 c124 c125 c126 c127 c128 c129 c130 c131 c132 c133 c134 c135 c136 c137 c138 c139 c140 c141 c142 c143 c144 c145 c146 c147 c148 c149 c150 c151 c152 c153 c154 c155 c156 c157 c158 c159 c160 c161 c162 c163 c164 c165 c166 c167 c168 c169 c170 c171 c172 c173 c174 c175 c176 c177 c178 c179 c180 c181 c182 c183 c184 c185 c186 c187 c188 c189 c190 c191 c192 c193 c194 c195 c196 c197 c198 c199 c200 c201 c202 c203 c204 c205 c206 c207 c208 c209 c210 c211 c212 c213 c214 c215 c216 c217 c218 c219 c220 c221 c222 c223 c224 c225 c226 c227 c228 c229 c230 c231 c232 c233 c234 c235 c236 c237 c238 c239 c240 c241 c242 c243 c244 c245 c246 c247 c248 c249 c250 c251 c252 c253 c254 c255 c256 c257 c258 c259 c260 c261 c262 c263 c264 c265 c266 c267 c268 c269 c270 c271 c272 c273 c274 c275 c276 c277 c278 c279 c280 c281 c282 c283 c284 c285 c286 c287 c288 c289 c290 c291 c292 c293 c294 c295 c296 : Value} {w : World} (o : Nat → Nat) (B S m : Nat) (v : VSt) (da : Option Addr) (dcap : Nat) (hvc : v.cands = .slice da m dcap) (ca : Option Addr) (cn cc : Nat)
    (hb : Ob o w 99 B 95 #[.pointer (some ⟨S, 0, none⟩)]) (hS : Ob o w 20 S 63 (vcells v)) (hv : v.weight = .slice ca cn cc) (hsl : Sl o w 28 3 (.slice ca 0 cc) []) (hm : m ≤ 300)
    (hQ : ∀ (u160 u161 u162 u163 u164 u165 u166 u167 u168 u169 u170 u171 u172 u173 : Value) (w' : World) (o' : Nat → Nat) (a' : Option Addr) (cap' : Nat), m ≤ cap' → Sl o' w' 28 3 (.slice a' 0 cap') [] → Ob o' w' 20 S 63 (vcells { v with weight := .slice a' 0 cap' }) → Step [20] o w o' w' → Q .normal ⟨List.toArray (c0 :: c1 :: .pointer (some ⟨B, 0, none⟩) :: c3 :: c4 :: c5 :: c6 :: c7 :: c8 :: c9 :: c10 :: c11 :: c12 :: c13 :: c14 :: c15 :: c16 :: c17 :: c18 :: c19 :: c20 :: c21 :: c22 :: c23 :: c24 :: c25 :: c26 :: c27 :: c28 :: c29 :: c30 :: c31 :: c32 :: c33 :: c34 :: c35 :: c36 :: c37 :: c38 :: c39 :: c40 :: c41 :: c42 :: c43 :: c44 :: c45 :: c46 :: c47 :: c48 :: c49 :: c50 :: c51 :: c52 :: c53 :: c54 :: c55 :: c56 :: c57 :: c58 :: c59 :: c60 :: c61 :: c62 :: c63 :: c64 :: c65 :: c66 :: c67 :: c68 :: c69 :: c70 :: c71 :: c72 :: c73 :: c74 :: c75 :: c76 :: c77 :: c78 :: c79 :: c80 :: c81 :: c82 :: c83 :: c84 :: c85 :: c86 :: c87 :: c88 :: c89 :: c90 :: c91 :: c92 :: c93 :: c94 :: c95 :: c96 :: c97 :: c98 :: c99 :: c100 :: c101 :: c102 :: c103 :: c104 :: c105 :: c106 :: c107 :: c108 :: c109 :: c110 :: c111 :: c112 :: c113 :: c114 :: c115 :: c116 :: c117 :: c118 :: c119 :: c120 :: c121 :: c122 :: c123 :: c124 :: c125 :: c126 :: c127 :: c128 :: c129 :: c130 :: c131 :: c132 :: c133 :: c134 :: c135 :: c136 :: c137 :: c138 :: c139 :: c140 :: c141 :: c142 :: c143 :: c144 :: c145 :: c146 :: c147 :: c148 :: c149 :: c150 :: c151 :: c152 :: c153 :: c154 :: c155 :: c156 :: c157 :: c158 :: c159 :: u160 :: u161 :: u162 :: u163 :: u164 :: u165 :: u166 :: u167 :: u168 :: u169 :: u170 :: u171 :: u172 :: u173 :: c174 :: c175 :: c176 :: c177 :: c178 :: c179 :: c180 :: c181 :: c182 :: c183 :: c184 :: c185 :: c186 :: c187 :: c188 :: c189 :: c190 :: c191 :: c192 :: c193 :: c194 :: c195 :: c196 :: c197 :: c198 :: c199 :: c200 :: c201 :: c202 :: c203 :: c204 :: c205 :: c206 :: c207 :: c208 :: c209 :: c210 :: c211 :: c212 :: c213 :: c214 :: c215 :: c216 :: c217 :: c218 :: c219 :: c220 :: c221 :: c222 :: c223 :: c224 :: c225 :: c226 :: c227 :: c228 :: c229 :: c230 :: c231 :: c232 :: c233 :: c234 :: c235 :: c236 :: c237 :: c238 :: c239 :: c240 :: c241 :: c242 :: c243 :: c244 :: c245 :: c246 :: c247 :: c248 :: c249 :: c250 :: c251 :: c252 :: c253 :: c254 :: c255 :: c256 :: c257 :: c258 :: c259 :: c260 :: c261 :: c262 :: c263 :: c264 :: c265 :: c266 :: c267 :: c268 :: c269 :: c270 :: c271 :: c272 :: c273 :: c274 :: c275 :: c276 :: c277 :: c278 :: c279 :: c280 :: c281 :: c282 :: c283 :: c284 :: c285 :: c286 :: c287 :: c288 :: c289 :: c290 :: c291 :: c292 :: c293 :: c294 :: c295 :: c296 :: []), ds⟩ w') :
    Code.wp Ybaz.prog (s20 11) Q ⟨List.toArray (c0 :: c1 :: .pointer (some ⟨B, 0, none⟩) :: c3 :: c4 :: c5 :: c6 :: c7 :: c8 :: c9 :: c10 :: c11 :: c12 :: c13 :: c14 :: c15 :: c16 :: c17 :: c18 :: c19 :: c20 :: c21 :: c22 :: c23 :: c24 :: c25 :: c26 :: c27 :: c28 :: c29 :: c30 :: c31 :: c32 :: c33 :: c34 :: c35 :: c36 :: c37 :: c38 :: c39 :: c40 :: c41 :: c42 :: c43 :: c44 :: c45 :: c46 :: c47 :: c48 :: c49 :: c50 :: c51 :: c52 :: c53 :: c54 :: c55 :: c56 :: c57 :: c58 :: c59 :: c60 :: c61 :: c62 :: c63 :: c64 :: c65 :: c66 :: c67 :: c68 :: c69 :: c70 :: c71 :: c72 :: c73 :: c74 :: c75 :: c76 :: c77 :: c78 :: c79 :: c80 :: c81 :: c82 :: c83 :: c84 :: c85 :: c86 :: c87 :: c88 :: c89 :: c90 :: c91 :: c92 :: c93 :: c94 :: c95 :: c96 :: c97 :: c98 :: c99 :: c100 :: c101 :: c102 :: c103 :: c104 :: c105 :: c106 :: c107 :: c108 :: c109 :: c110 :: c111 :: c112 :: c113 :: c114 :: c115 :: c116 :: c117 :: c118 :: c119 :: c120 :: c121 :: c122 :: c123 :: c124 :: c125 :: c126 :: c127 :: c128 :: c129 :: c130 :: c131 :: c132 :: c133 :: c134 :: c135 :: c136 :: c137 :: c138 :: c139 :: c140 :: c141 :: c142 :: c143 :: c144 :: c145 :: c146 :: c147 :: c148 :: c149 :: c150 :: c151 :: c152 :: c153 :: c154 :: c155 :: c156 :: c157 :: c158 :: c159 :: c160 :: c161 :: c162 :: c163 :: c164 :: c165 :: c166 :: c167 :: c168 :: c169 :: c170 :: c171 :: c172 :: c173 :: c174 :: c175 :: c176 :: c177 :: c178 :: c179 :: c180 :: c181 :: c182 :: c183 :: c184 :: c185 :: c186 :: c187 :: c188 :: c189 :: c190 :: c191 :: c192 :: c193 :: c194 :: c195 :: c196 :: c197 :: c198 :: c199 :: c200 :: c201 :: c202 :: c203 :: c204 :: c205 :: c206 :: c207 :: c208 :: c209 :: c210 :: c211 :: c212 :: c213 :: c214 :: c215 :: c216 :: c217 :: c218 :: c219 :: c220 :: c221 :: c222 :: c223 :: c224 :: c225 :: c226 :: c227 :: c228 :: c229 :: c230 :: c231 :: c232 :: c233 :: c234 :: c235 :: c236 :: c237 :: c238 :: c239 :: c240 :: c241 :: c242 :: c243 :: c244 :: c245 :: c246 :: c247 :: c248 :: c249 :: c250 :: c251 :: c252 :: c253 :: c254 :: c255 :: c256 :: c257 :: c258 :: c259 :: c260 :: c261 :: c262 :: c263 :: c264 :: c265 :: c266 :: c267 :: c268 :: c269 :: c270 :: c271 :: c272 :: c273 :: c274 :: c275 :: c276 :: c277 :: c278 :: c279 :: c280 :: c281 :: c282 :: c283 :: c284 :: c285 :: c286 :: c287 :: c288 :: c289 :: c290 :: c291 :: c292 :: c293 :: c294 :: c295 :: c296 :: []), ds⟩ w := by
  have k1 : w.cell? ⟨B, 0, none⟩ = some (.pointer (some ⟨S, 0, none⟩)) := hb.cell 0
  have k2 : w.cell? ⟨S, 9, none⟩ = some (.slice ca cn cc) := by rw [← hv]; exact hS.cell 9
  have k7 : w.cell? ⟨S, 7, none⟩ = some (.slice da m dcap) := by rw [← hvc]; exact hS.cell 7
  have s0 := Step.drew [] o w
  have HG := hid (hgrow o w.drew 28 ca cc m (hsl.step s0 (by simp)) (by omega))
  have HQ := hid hQ
  have HB := hid (hb.step s0 (by simp))
  have HS := hid (hS.step s0 (by simp))
  have Hv := hid hv
  have Hvc := hid hvc
  clear hQ hb hS hsl hv s0 hvc
  conv => arg 2; whnf
  refine wp_region_plan [0, 1, 2, 3, 4, 5, 6, 7, 8, 9, 10] [11, 12, 13, 14] 14 (fun w' => w'.cell? ⟨B, 0, none⟩ = some (.pointer (some ⟨S, 0, none⟩)) ∧ w'.cell? ⟨S, 9, none⟩ = some (.slice ca cn cc) ∧ w'.cell? ⟨S, 7, none⟩ = some (.slice da m dcap)) (by kernel_rfl) (by kernel_rfl) (by kernel_rfl) (by kernel_rfl) ?_ ?_
  exact ⟨k1, k2, k7⟩
  repeat
    refine takes_cons (v := ?_) rfl (by rfl) ?_ ?_
    rotate_left
    · (intro w' hS; (try dsimp only at hS); go_simp; try with_reducible rfl)
    try simp only [Act.put, List.setIfInBounds_toArray, List.set_cons_zero, List.set_cons_succ]
  refine takes_nil ?_
  refine runZ_step rfl (fun K hK => ?_)
  go_simp
  refine HG.out.mono ?_
  rintro e w1 ⟨o', a', cap', rfl, h1, h2, st⟩
  have hS1 := HS.out.step st (by simp)
  have hB1 := HB.out.step st (by simp)
  have l1 : w1.cell? ⟨B, 0, none⟩ = some (.pointer (some ⟨S, 0, none⟩)) := hB1.cell 0
  have l2 : w1.cell? ⟨S, 9, none⟩ = some (.slice ca cn cc) := by rw [← Hv.out]; exact hS1.cell 9
  have l7 : w1.cell? ⟨S, 7, none⟩ = some (.slice da m dcap) := by rw [← Hvc.out]; exact hS1.cell 7
  have l3 : w1.frozen? ⟨S, 9, none⟩ = false := hS1.frozen 9
  have HF := hid (And.intro hS1 (And.intro h1 (And.intro h2 st)))
  clear hS1 hB1 h1 h2 st k1 k2 k7
  refine hK.out _ _ (⟨l1, l2, l7⟩) (fun hHeld => ?_)
  clear hK K hHeld
  try simp only [Act.put, List.setIfInBounds_toArray, List.set_cons_zero, List.set_cons_succ]
  refine runZ_step rfl (fun K hK => ?_)
  go_simp
  refine hK.out _ _ (⟨l1, l2, l7⟩) (fun hHeld => ?_)
  clear hK K hHeld
  try simp only [Act.put, List.setIfInBounds_toArray, List.set_cons_zero, List.set_cons_succ]
  refine runZ_step rfl (fun K hK => ?_)
  go_simp
  refine hK.out _ _ (⟨l1, l2, l7⟩) (fun hHeld => ?_)
  clear hK K hHeld
  try simp only [Act.put, List.setIfInBounds_toArray, List.set_cons_zero, List.set_cons_succ]
  refine runZ_last rfl (fun K hK => ?_)
  go_simp
  refine hK.out _ _ ?_
  clear hK K
  refine runZ_nil (NoPanic.normal ?_)
  try simp only [Act.put]
  obtain ⟨hS1, h1, h2, st⟩ := HF.out
  have s2 := hS1.sset 9 (.slice a' 0 cap') (T := [20]) (by simp)
  exact HQ.out _ _ _ _ _ _ _ _ _ _ _ _ _ _ _ o' a' cap' h1 (h2.step s2 (by simp)) (hS1.set 9 _) (((Step.drew [20] o w).trans (st.mono (by simp))).trans s2)
end Go.Proofs.YbulkbmdoGreat
