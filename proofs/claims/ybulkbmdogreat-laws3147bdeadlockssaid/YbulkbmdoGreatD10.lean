import Derived.Test.YbulkbmdoGreatD8
import Derived.Test.YbulkbmdoGreatD9
namespace Go.Proofs.YbulkbmdoGreat
open Go.RowKit
set_option linter.unusedVariables false
set_option linter.unusedSimpArgs false
attribute [local go_sem ↓] Go.wp_at_zero Go.wp_at_succ

def Tids : List Nat := [50, 55] ++ (List.range 600).map fun j => 200 + j
theorem tids_no {t : Nat} (h : t < 200) (h1 : t ≠ 50) (h2 : t ≠ 55) : t ∉ Tids := by
  simp [Tids, h1, h2]; omega
theorem tids_in {j : Nat} (h : j < 600) : 200 + j ∈ Tids := by
  simp [Tids]
  exact .inr (.inr h)
/-- The ids of processes. -/
def strs (g : GS) (L : List Nat) : List Value := L.map fun p => .string (g.pid p)
theorem strs_snoc (g : GS) (L : List Nat) (p : Nat) : strs g (L ++ [p]) = strs g L ++ [.string (g.pid p)] := by simp [strs]
/-- Of L those of the group number i (the groups' keys: kk). -/
def mem (rt : Nat → Nat) (kk : List Nat) (i : Nat) (L : List Nat) : List Nat := L.filter fun p => kk.idxOf (rt p) == i
theorem mem_snoc (rt : Nat → Nat) (kk : List Nat) (i : Nat) (L : List Nat) (p : Nat) : mem rt kk i (L ++ [p]) = if kk.idxOf (rt p) = i then mem rt kk i L ++ [p] else mem rt kk i L := by
  unfold mem
  rw [List.filter_append]
  by_cases h : kk.idxOf (rt p) = i <;> simp [h]
theorem mem_len (rt : Nat → Nat) (kk : List Nat) (i : Nat) (L : List Nat) : (mem rt kk i L).length ≤ L.length := List.length_filter_le _ _

/-- The lists of ids so far. -/
structure L14 (o : Nat → Nat) (W : World) (g : GS) (n ab gb rb rc K : Nat) (rt d : Nat → Nat) (kk : List Nat) (vq : Nat → Bool) (L : List Nat) (mv vv : Nat → Value) : Prop where
  ds : S3 o W 55 (.slice (some ⟨rb, 0, none⟩) K rc) K (D3 mv vv K)
  ms : ∀ i, i < K → Sl o W (200 + 2 * i) 32 (mv i) (strs g (mem rt kk i L))
  vs : ∀ i, i < K → Sl o W (201 + 2 * i) 32 (vv i) (strs g (mem rt kk i (L.filter vq)))
  uf : ∃ gp, Uf n gp rt d ∧ Ar o W 50 gb 3 n (fun i => .int .i64 (gp i : Int))

set_option maxRecDepth 1000000 in
set_option maxHeartbeats 4000000 in
theorem d7_32 {Q : Exit → Act → World → Prop} {dz : List Deferred} {c0 c1 c2 c3 c5 c6 c7 c8 c9 c10 c11 c12 c13 c14 c15 c16 c17 c18 c19 c20 c21 c23 c24 c25 c26 c27 c29 c30 c33 c34 c35 c36 c37 c38 c39 c40 c41 c42 c43 c44 c45 c46 c47 c48 c49 c50 c51 c52 c53 c54 c55 c56 c57 c58 c59 c60 c61 c62 c63 c64 c65 c66 c67 c68 c69 c70 c71 c72 c73 c74 c75 c76 c77 c78 c79 c80 c81 c82 c83 c84 c85 c86 c87 c88 c89 c90 c91 c92 c93 c94 c95 c96 c97 c98 c99 c100 c101 c102 c103 c104 c105 c106 c107 c108 c109 c110 c111 c112 c113 c114 c115 c116 c117 c118 c119 c120 c121 c122 c123 c124 c125 c126 c127 c128 c129 c130 c131 c132 c133 c134 c135 c136 c137 c138 c139 c140 c141 c142 c143 c144 c145 c146 c147 c148 c149 c150 c151 c152 c153 c154 c155 c156 c157 c158 c159 c160 c161 c162 c163 c164 c165 c166 c167 c168 c169 c170 c171 c172 c173 c174 c175 c176 c177 c178 c179 c180 c181 c182 c183 c184 c185 c186 c187 c188 c189 c190 c191 c192 c193 c194 c195 c196 c197 c198 c199 c200 c201 c202 c203 c204 c205 c206 c207 c208 c209 c210 c211 c212 c213 c214 c215 c216 c217 c218 c219 c220 c221 c222 c223 c224 c225 c226 c227 c228 c229 c230 c231 c232 c233 c234 c235 c236 c237 c238 c239 c240 c241 c242 c243 c244 c245 c246 c247 c248 c249 c250 c251 c252 c253 c254 c255 c256 c257 c258 c259 c260 c261 c262 c263 c264 c265 c266 c267 c268 c269 c270 c271 c272 c273 c274 c275 c276 c277 c278 c279 c280 c281 c282 c283 c284 c285 c286 c287 c288 c289 c290 c291 c292 c293 c294 c295 c296 c297 c298 c299 c300 c301 c302 c303 c304 c305 c306 c307 c308 c309 c310 c311 c312 c313 c314 c315 c316 c317 c318 c319 c320 c321 c322 c323 c324 c325 c326 c327 c328 c329 c330 c331 c332 c333 c334 c335 c336 c337 c338 c339 c340 c341 c342 c343 c344 c345 c346 c347 c348 c349 c350 c351 c352 c353 c354 c355 c356 c357 c358 c359 c360 c361 c362 c363 c364 c365 c366 c367 c368 c369 c370 c371 c372 c373 c374 c375 c376 c377 c378 c379 c380 c381 c382 c383 c384 c385 c386 c387 c388 c389 c390 c391 c392 c393 c394 c395 c396 c397 c398 c399 c400 c401 c402 c403 c404 c405 c406 c407 c408 c409 c410 c411 c412 c413 c414 c415 c416 c417 c418 c419 c420 c421 c422 c423 c424 c425 c426 c427 c428 c429 c430 c431 c432 c433 c434 c435 c436 c437 c438 c439 c440 c441 c442 c443 c444 c445 c446 c447 c448 c449 c450 c451 c452 c453 c454 c455 c456 c457 c458 c459 c460 c461 c462 c463 c464 c465 c466 c467 c468 c469 c470 c471 c472 c473 c474 c475 c476 c477 c478 c479 c480 c481 c482 c483 c484 c485 c486 c487 c488 c489 c490 c491 c492 c493 c494 c495 c496 c497 c498 c499 c500 c501 c502 c503 c504 c505 c506 : Value} {w : World} (o : Nat → Nat) (g : GS) (D S db dc Bf Bg gb Bp pb Bv vb ab rb rc K : Nat) (v : VSt) (dl : List Nat) (vq : Nat → Bool) (rt d : Nat → Nat) (kk : List Nat) (mv0 vv0 : Nat → Value) (hn : g.n ≤ 300) (hn0 : 0 < g.n) (hK3 : K ≤ 300) (hD : D = dl.length) (hD3 : D ≤ 300) (hlt : ∀ p ∈ dl, p < g.n) (hkk : ∀ p ∈ dl, rt p ∈ kk) (hK : kk.length = K) (hg : GAt o w g) (hL : LQ o w g.n D S db dc Bf Bg gb Bp pb Bv vb v dl vq) (hA : Ar o w 58 ab 3 g.n (fun r => .int .i64 ((kat kk r : Nat) : Int))) (h0 : L14 o w g g.n ab gb rb rc K rt d kk vq [] mv0 vv0)
    (hQ : ∀ (u40 u41 u454 u455 u456 u457 u458 u459 u460 u461 u462 u463 u464 u465 u466 u467 u468 u469 u470 u471 u472 u473 u474 u475 u476 u477 u478 u479 u480 u481 u482 u483 u484 u485 u486 u487 u488 u489 u490 u491 u492 u493 u494 u495 u496 u497 u498 u499 u500 u501 u502 u503 u504 u505 : Value) (w' : World) (o' : Nat → Nat) (mv vv : Nat → Value), L14 o' w' g g.n ab gb rb rc K rt d kk vq dl mv vv → Step Tids o w o' w' → Q .normal ⟨List.toArray (c0 :: c1 :: c2 :: .pointer (some ⟨g.G, 0, none⟩) :: .pointer (some ⟨S, 0, none⟩) :: c5 :: c6 :: c7 :: c8 :: c9 :: c10 :: c11 :: c12 :: c13 :: c14 :: c15 :: c16 :: c17 :: c18 :: c19 :: c20 :: c21 :: .pointer (some ⟨Bf, 0, none⟩) :: c23 :: c24 :: c25 :: c26 :: c27 :: .pointer (some ⟨Bv, 0, none⟩) :: c29 :: c30 :: .slice (some ⟨rb, 0, none⟩) K rc :: .slice (some ⟨ab, 0, none⟩) g.n g.n :: c33 :: c34 :: c35 :: c36 :: c37 :: c38 :: c39 :: u40 :: u41 :: c42 :: c43 :: c44 :: c45 :: c46 :: c47 :: c48 :: c49 :: c50 :: c51 :: c52 :: c53 :: c54 :: c55 :: c56 :: c57 :: c58 :: c59 :: c60 :: c61 :: c62 :: c63 :: c64 :: c65 :: c66 :: c67 :: c68 :: c69 :: c70 :: c71 :: c72 :: c73 :: c74 :: c75 :: c76 :: c77 :: c78 :: c79 :: c80 :: c81 :: c82 :: c83 :: c84 :: c85 :: c86 :: c87 :: c88 :: c89 :: c90 :: c91 :: c92 :: c93 :: c94 :: c95 :: c96 :: c97 :: c98 :: c99 :: c100 :: c101 :: c102 :: c103 :: c104 :: c105 :: c106 :: c107 :: c108 :: c109 :: c110 :: c111 :: c112 :: c113 :: c114 :: c115 :: c116 :: c117 :: c118 :: c119 :: c120 :: c121 :: c122 :: c123 :: c124 :: c125 :: c126 :: c127 :: c128 :: c129 :: c130 :: c131 :: c132 :: c133 :: c134 :: c135 :: c136 :: c137 :: c138 :: c139 :: c140 :: c141 :: c142 :: c143 :: c144 :: c145 :: c146 :: c147 :: c148 :: c149 :: c150 :: c151 :: c152 :: c153 :: c154 :: c155 :: c156 :: c157 :: c158 :: c159 :: c160 :: c161 :: c162 :: c163 :: c164 :: c165 :: c166 :: c167 :: c168 :: c169 :: c170 :: c171 :: c172 :: c173 :: c174 :: c175 :: c176 :: c177 :: c178 :: c179 :: c180 :: c181 :: c182 :: c183 :: c184 :: c185 :: c186 :: c187 :: c188 :: c189 :: c190 :: c191 :: c192 :: c193 :: c194 :: c195 :: c196 :: c197 :: c198 :: c199 :: c200 :: c201 :: c202 :: c203 :: c204 :: c205 :: c206 :: c207 :: c208 :: c209 :: c210 :: c211 :: c212 :: c213 :: c214 :: c215 :: c216 :: c217 :: c218 :: c219 :: c220 :: c221 :: c222 :: c223 :: c224 :: c225 :: c226 :: c227 :: c228 :: c229 :: c230 :: c231 :: c232 :: c233 :: c234 :: c235 :: c236 :: c237 :: c238 :: c239 :: c240 :: c241 :: c242 :: c243 :: c244 :: c245 :: c246 :: c247 :: c248 :: c249 :: c250 :: c251 :: c252 :: c253 :: c254 :: c255 :: c256 :: c257 :: c258 :: c259 :: c260 :: c261 :: c262 :: c263 :: c264 :: c265 :: c266 :: c267 :: c268 :: c269 :: c270 :: c271 :: c272 :: c273 :: c274 :: c275 :: c276 :: c277 :: c278 :: c279 :: c280 :: c281 :: c282 :: c283 :: c284 :: c285 :: c286 :: c287 :: c288 :: c289 :: c290 :: c291 :: c292 :: c293 :: c294 :: c295 :: c296 :: c297 :: c298 :: c299 :: c300 :: c301 :: c302 :: c303 :: c304 :: c305 :: c306 :: c307 :: c308 :: c309 :: c310 :: c311 :: c312 :: c313 :: c314 :: c315 :: c316 :: c317 :: c318 :: c319 :: c320 :: c321 :: c322 :: c323 :: c324 :: c325 :: c326 :: c327 :: c328 :: c329 :: c330 :: c331 :: c332 :: c333 :: c334 :: c335 :: c336 :: c337 :: c338 :: c339 :: c340 :: c341 :: c342 :: c343 :: c344 :: c345 :: c346 :: c347 :: c348 :: c349 :: c350 :: c351 :: c352 :: c353 :: c354 :: c355 :: c356 :: c357 :: c358 :: c359 :: c360 :: c361 :: c362 :: c363 :: c364 :: c365 :: c366 :: c367 :: c368 :: c369 :: c370 :: c371 :: c372 :: c373 :: c374 :: c375 :: c376 :: c377 :: c378 :: c379 :: c380 :: c381 :: c382 :: c383 :: c384 :: c385 :: c386 :: c387 :: c388 :: c389 :: c390 :: c391 :: c392 :: c393 :: c394 :: c395 :: c396 :: c397 :: c398 :: c399 :: c400 :: c401 :: c402 :: c403 :: c404 :: c405 :: c406 :: c407 :: c408 :: c409 :: c410 :: c411 :: c412 :: c413 :: c414 :: c415 :: c416 :: c417 :: c418 :: c419 :: c420 :: c421 :: c422 :: c423 :: c424 :: c425 :: c426 :: c427 :: c428 :: c429 :: c430 :: c431 :: c432 :: c433 :: c434 :: c435 :: c436 :: c437 :: c438 :: c439 :: c440 :: c441 :: c442 :: c443 :: c444 :: c445 :: c446 :: c447 :: c448 :: c449 :: c450 :: .pointer (some ⟨S, 2, none⟩) :: .slice (some ⟨db, 0, none⟩) D dc :: .int .i64 (D : Int) :: u454 :: u455 :: u456 :: u457 :: u458 :: u459 :: u460 :: u461 :: u462 :: u463 :: u464 :: u465 :: u466 :: u467 :: u468 :: u469 :: u470 :: u471 :: u472 :: u473 :: u474 :: u475 :: u476 :: u477 :: u478 :: u479 :: u480 :: u481 :: u482 :: u483 :: u484 :: u485 :: u486 :: u487 :: u488 :: u489 :: u490 :: u491 :: u492 :: u493 :: u494 :: u495 :: u496 :: u497 :: u498 :: u499 :: u500 :: u501 :: u502 :: u503 :: u504 :: u505 :: c506 :: []), dz⟩ w') :
    Code.wp Ybaz.prog (st7 32) Q ⟨List.toArray (c0 :: c1 :: c2 :: .pointer (some ⟨g.G, 0, none⟩) :: .pointer (some ⟨S, 0, none⟩) :: c5 :: c6 :: c7 :: c8 :: c9 :: c10 :: c11 :: c12 :: c13 :: c14 :: c15 :: c16 :: c17 :: c18 :: c19 :: c20 :: c21 :: .pointer (some ⟨Bf, 0, none⟩) :: c23 :: c24 :: c25 :: c26 :: c27 :: .pointer (some ⟨Bv, 0, none⟩) :: c29 :: c30 :: .slice (some ⟨rb, 0, none⟩) K rc :: .slice (some ⟨ab, 0, none⟩) g.n g.n :: c33 :: c34 :: c35 :: c36 :: c37 :: c38 :: c39 :: c40 :: c41 :: c42 :: c43 :: c44 :: c45 :: c46 :: c47 :: c48 :: c49 :: c50 :: c51 :: c52 :: c53 :: c54 :: c55 :: c56 :: c57 :: c58 :: c59 :: c60 :: c61 :: c62 :: c63 :: c64 :: c65 :: c66 :: c67 :: c68 :: c69 :: c70 :: c71 :: c72 :: c73 :: c74 :: c75 :: c76 :: c77 :: c78 :: c79 :: c80 :: c81 :: c82 :: c83 :: c84 :: c85 :: c86 :: c87 :: c88 :: c89 :: c90 :: c91 :: c92 :: c93 :: c94 :: c95 :: c96 :: c97 :: c98 :: c99 :: c100 :: c101 :: c102 :: c103 :: c104 :: c105 :: c106 :: c107 :: c108 :: c109 :: c110 :: c111 :: c112 :: c113 :: c114 :: c115 :: c116 :: c117 :: c118 :: c119 :: c120 :: c121 :: c122 :: c123 :: c124 :: c125 :: c126 :: c127 :: c128 :: c129 :: c130 :: c131 :: c132 :: c133 :: c134 :: c135 :: c136 :: c137 :: c138 :: c139 :: c140 :: c141 :: c142 :: c143 :: c144 :: c145 :: c146 :: c147 :: c148 :: c149 :: c150 :: c151 :: c152 :: c153 :: c154 :: c155 :: c156 :: c157 :: c158 :: c159 :: c160 :: c161 :: c162 :: c163 :: c164 :: c165 :: c166 :: c167 :: c168 :: c169 :: c170 :: c171 :: c172 :: c173 :: c174 :: c175 :: c176 :: c177 :: c178 :: c179 :: c180 :: c181 :: c182 :: c183 :: c184 :: c185 :: c186 :: c187 :: c188 :: c189 :: c190 :: c191 :: c192 :: c193 :: c194 :: c195 :: c196 :: c197 :: c198 :: c199 :: c200 :: c201 :: c202 :: c203 :: c204 :: c205 :: c206 :: c207 :: c208 :: c209 :: c210 :: c211 :: c212 :: c213 :: c214 :: c215 :: c216 :: c217 :: c218 :: c219 :: c220 :: c221 :: c222 :: c223 :: c224 :: c225 :: c226 :: c227 :: c228 :: c229 :: c230 :: c231 :: c232 :: c233 :: c234 :: c235 :: c236 :: c237 :: c238 :: c239 :: c240 :: c241 :: c242 :: c243 :: c244 :: c245 :: c246 :: c247 :: c248 :: c249 :: c250 :: c251 :: c252 :: c253 :: c254 :: c255 :: c256 :: c257 :: c258 :: c259 :: c260 :: c261 :: c262 :: c263 :: c264 :: c265 :: c266 :: c267 :: c268 :: c269 :: c270 :: c271 :: c272 :: c273 :: c274 :: c275 :: c276 :: c277 :: c278 :: c279 :: c280 :: c281 :: c282 :: c283 :: c284 :: c285 :: c286 :: c287 :: c288 :: c289 :: c290 :: c291 :: c292 :: c293 :: c294 :: c295 :: c296 :: c297 :: c298 :: c299 :: c300 :: c301 :: c302 :: c303 :: c304 :: c305 :: c306 :: c307 :: c308 :: c309 :: c310 :: c311 :: c312 :: c313 :: c314 :: c315 :: c316 :: c317 :: c318 :: c319 :: c320 :: c321 :: c322 :: c323 :: c324 :: c325 :: c326 :: c327 :: c328 :: c329 :: c330 :: c331 :: c332 :: c333 :: c334 :: c335 :: c336 :: c337 :: c338 :: c339 :: c340 :: c341 :: c342 :: c343 :: c344 :: c345 :: c346 :: c347 :: c348 :: c349 :: c350 :: c351 :: c352 :: c353 :: c354 :: c355 :: c356 :: c357 :: c358 :: c359 :: c360 :: c361 :: c362 :: c363 :: c364 :: c365 :: c366 :: c367 :: c368 :: c369 :: c370 :: c371 :: c372 :: c373 :: c374 :: c375 :: c376 :: c377 :: c378 :: c379 :: c380 :: c381 :: c382 :: c383 :: c384 :: c385 :: c386 :: c387 :: c388 :: c389 :: c390 :: c391 :: c392 :: c393 :: c394 :: c395 :: c396 :: c397 :: c398 :: c399 :: c400 :: c401 :: c402 :: c403 :: c404 :: c405 :: c406 :: c407 :: c408 :: c409 :: c410 :: c411 :: c412 :: c413 :: c414 :: c415 :: c416 :: c417 :: c418 :: c419 :: c420 :: c421 :: c422 :: c423 :: c424 :: c425 :: c426 :: c427 :: c428 :: c429 :: c430 :: c431 :: c432 :: c433 :: c434 :: c435 :: c436 :: c437 :: c438 :: c439 :: c440 :: c441 :: c442 :: c443 :: c444 :: c445 :: c446 :: c447 :: c448 :: c449 :: c450 :: c451 :: c452 :: c453 :: c454 :: c455 :: c456 :: c457 :: c458 :: c459 :: c460 :: c461 :: c462 :: c463 :: c464 :: c465 :: c466 :: c467 :: c468 :: c469 :: c470 :: c471 :: c472 :: c473 :: c474 :: c475 :: c476 :: c477 :: c478 :: c479 :: c480 :: c481 :: c482 :: c483 :: c484 :: c485 :: c486 :: c487 :: c488 :: c489 :: c490 :: c491 :: c492 :: c493 :: c494 :: c495 :: c496 :: c497 :: c498 :: c499 :: c500 :: c501 :: c502 :: c503 :: c504 :: c505 :: c506 :: []), dz⟩ w := by
  have HQ := hid hQ
  have k2 : w.cell? ⟨S, 2, none⟩ = some (.slice (some ⟨db, 0, none⟩) D dc) := by rw [← hL.hv]; exact hL.s.cell 2
  have HH := hid (And.intro hlt (And.intro hkk (And.intro hg (And.intro hL (And.intro hA (And.intro h0 (And.intro hD hK)))))))
  clear hQ hlt hkk hg hL hA h0 hD hK
  conv => arg 2; whnf
  go_wp2
  go_loopw [454] (fun c wr => ∃ (k : Nat) (o1 : Nat → Nat) (mv vv : Nat → Value), k ≤ D ∧ c = .int .i64 (k : Int) ∧ L14 o1 wr g g.n ab gb rb rc K rt d kk vq (dl.take k) mv vv ∧ Step Tids o w o1 wr) (fun c _ => D - (intOf c).toNat)
  case atStart => exact ⟨0, o, mv0, vv0, Nat.zero_le _, rfl, by simpa using HH.out.2.2.2.2.2.1, Step.refl _ _ _⟩
  case round =>
    obtain ⟨k, o1, mv, vv, hk, rfl, T1, st⟩ := hrel
    by_cases hk2 : k < D
    · obtain ⟨hlt, hkk, hg, hL, hA, h0, hD, hK⟩ := HH.out
      have hkl : k < dl.length := by omega
      obtain ⟨p, hp⟩ : ∃ p, dl[k] = p := ⟨_, rfl⟩
      have hpm : p ∈ dl := by rw [← hp]; exact List.getElem_mem _
      have hpn : p < g.n := hlt _ hpm
      have no : ∀ t ∈ [20, 21, 70, 71, 72, 53, 73, 54, 10, 11, 12, 58], t ∉ Tids := fun t ht => by simp at ht; exact tids_no (by omega) (by omega) (by omega)
      have L1 := hL.step st (fun t ht => no t (by simp at ht ⊢; omega))
      have A1 := hA.step st (no _ (by simp))
      have g1 := hg.step st (no _ (by simp)) (no _ (by simp)) (no _ (by simp))
      have y1 : wr.cell? ⟨db, k, none⟩ = some (.int .i64 (p : Int)) := by
        have := L1.dd k hk2
        rw [List.getD_eq_getElem?_getD, List.getElem?_eq_getElem hkl, hp] at this
        exact this
      have y2 : wr.cell? ⟨Bf, 0, none⟩ = some (.func (.func 16) #[] #[.pointer (some ⟨Bg, 0, none⟩)]) := L1.bf.cell 0
      obtain ⟨gp, U1, G1⟩ := T1.uf
      have HF := hid (find_any o1 wr Bg gb g.n gp rt d U1 (L1.bg.cell 0) (by rw [L1.bg.tag]; decide) G1 hn p hpn)
      have b1 : (k : Int) < (D : Int) := by omega
      have e2 : dl.take (k + 1) = dl.take k ++ [p] := by rw [List.take_add_one]; simp [List.getElem?_eq_getElem hkl, hp]
      have hrn := (U1.root p hpn).1
      obtain ⟨i, hi⟩ : ∃ i, kk.idxOf (rt p) = i := ⟨_, rfl⟩
      have hmem := hkk p hpm
      have hka := kat_pos hmem
      have hix := List.idxOf_lt_length_of_mem hmem
      rw [hi] at hka hix
      rw [hK] at hix
      obtain ⟨r, hr⟩ : ∃ r, rt p = r := ⟨_, rfl⟩
      rw [hr] at hrn HF hka
      have hll : (dl.take k).length = k := by simp; omega
      have HT := hid (And.intro T1 (And.intro st (And.intro L1 (And.intro e2 (And.intro hr (And.intro hll (And.intro hi (And.intro A1 (And.intro g1 hka)))))))))
      clear T1 st L1 U1 G1 e2 hp hr hll hkl A1 g1 hlt hkk hg hL hA h0 hD hK hpm hi hmem hka no
      go_upto_region 106 with fail
      have HF2 : Hid (Calls Ybaz.prog 16 (#[.int .i64 (p : Int)] ++ #[.pointer (some ⟨Bg, 0, none⟩)]) wr fun e w1 => e = .returned (.int .i64 (r : Int)) ∧ w1.cell? ⟨ab, r, none⟩ = some (.int .i64 ((i : Int) + 1)) ∧ ∃ gp', Uf g.n gp' rt d ∧ Ar o1 w1 50 gb 3 g.n (fun j => .int .i64 (gp' j : Int)) ∧ Step [50] o1 wr o1 w1) := by
        obtain ⟨T1, st, L1, e2, hr, hll, hi, A1, g1, hka⟩ := HT.out
        refine HF.out.mono ?_
        rintro e w1 ⟨rfl, gp', u, a, s1⟩
        refine ⟨rfl, ?_, gp', u, a, s1⟩
        have := (A1.step s1 (by simp)).cell r hrn
        rw [hka] at this
        exact this
      have b2 : (r : Int) < (g.n : Int) := by omega
      have b3 : (i : Int) < (K : Int) := by omega
      have wi : IntKind.i64.wrap ((i : Int) + 1 - 1) = (i : Int) := by rw [IntKind.wrap_i64]; omega
      clear HF
      go_wp2_with (go_at_call 16; refine HF2.out.mono ?_; rintro ee w1 ⟨rfl, hat, gp1, U1, G1, s1⟩)
      obtain ⟨T1, st, L1, e2, hr, hll, hi, A1, g1, hka⟩ := HT.out
      have L2 := L1.step s1 (by simp)
      have g2 := g1.step s1 (by simp) (by simp) (by simp)
      have D2 := T1.ds.step s1 (by simp)
      have Ms := fun q hq => (T1.ms q hq).step s1 (by simp; omega)
      have Vs := fun q hq => (T1.vs q hq).step s1 (by simp; omega)
      have sd := Step.drew [] o1 w1
      have M2 := (Ms i hix).step sd (by simp)
      have hml := mem_len rt kk i (dl.take k)
      obtain ⟨ga, gc, w3, ra, _, o3, M3, s3⟩ := M2.app_gen Ybaz.underlying25 info32' rfl (by omega) (by simp [strs]; omega) (.string (g.pid p)) rfl 32
      obtain ⟨q1, hq1⟩ : ∃ q1, (strs g (mem rt kk i (dl.take k))).length + 1 = q1 := ⟨_, rfl⟩
      rw [hq1] at ra M3
      rw [← strs_snoc] at M3
      obtain ⟨d1, d2, d3⟩ := D3_at mv vv K i hix
      have c1 : w1.cell? ⟨rb, i * 3, none⟩ = some (mv i) := by rw [D2.cell _ (by omega), d1]
      have c2 : w1.cell? ⟨g.G, 0, none⟩ = some (.slice (some ⟨g.pb, 0, none⟩) g.n g.pcap) := by rw [← (g2.hpa hn0).1]; exact g2.ob.cell 0
      have c3 : w1.cell? ⟨g.pb, p * 3, none⟩ = some (.string (g.pid p)) := (g2.pc p hpn).1
      have s13 := (Step.drew [200 + 2 * i] o1 w1).trans s3
      have D3' := D2.step s13 (by simp; omega)
      have g3 := g2.step s13 (by simp; omega) (by simp; omega) (by simp; omega)
      have l1 : w3.cell? ⟨rb, i * 3, none⟩ = some (mv i) := by rw [D3'.cell _ (by omega), d1]
      have l2 : w3.cell? ⟨g.G, 0, none⟩ = some (.slice (some ⟨g.pb, 0, none⟩) g.n g.pcap) := by rw [← (g3.hpa hn0).1]; exact g3.ob.cell 0
      have l3 : w3.cell? ⟨g.pb, p * 3, none⟩ = some (.string (g.pid p)) := (g3.pc p hpn).1
      have l4 : w3.frozen? ⟨rb, i * 3, none⟩ = false := D3'.frozen _
      have s4 := D3'.sset (i * 3) (.slice (some ⟨ga, 0, none⟩) q1 gc) (T := [55]) (by simp)
      have D4 := D3'.set (i * 3) (.slice (some ⟨ga, 0, none⟩) q1 gc)
      rw [D3_set0 _ _ _ K i hix] at D4
      obtain ⟨w4, hw4⟩ : ∃ w4, w3.setCell ⟨rb, i * 3, none⟩ (.slice (some ⟨ga, 0, none⟩) q1 gc) = w4 := ⟨_, rfl⟩
      rw [hw4] at s4 D4
      have L4 := (L2.step s13 (by simp; omega)).step s4 (by simp)
      have g4 := g3.step s4 (by simp) (by simp) (by simp)
      have x1 : w4.cell? ⟨Bv, 0, none⟩ = some (.slice (some ⟨vb, 0, none⟩) g.n g.n) := L4.bv.cell 0
      have x2 : w4.cell? ⟨vb, p, none⟩ = some (.bool (vq p)) := L4.va.cell p hpn
      have hpI : (p : Int) < (g.n : Int) := by omega
      have Vs4 := fun q hq => ((Vs q hq).step s13 (by simp; omega)).step s4 (by simp; omega)
      have Ms4 : ∀ q, q < K → Sl o3 w4 (200 + 2 * q) 32 (if q = i then .slice (some ⟨ga, 0, none⟩) q1 gc else mv q) (strs g (mem rt kk q (dl.take (k + 1)))) := fun q hq => by
        rw [e2, mem_snoc, hi]
        by_cases e : q = i
        · subst e
          rw [if_pos rfl, if_pos rfl]
          exact M3.step s4 (by simp; omega)
        · rw [if_neg e, if_neg (fun h => e h.symm)]
          exact ((Ms q hq).step s13 (by simp; omega)).step s4 (by simp; omega)
      have stA := (st.trans (s1.mono (T' := Tids) (by intro t ht; simp at ht; subst ht; decide))).trans ((s13.mono (T' := Tids) (by intro t ht; simp at ht; subst ht; exact tids_in (by omega))).trans (s4.mono (T' := Tids) (by intro t ht; simp at ht; subst ht; decide)))
      have G4 := (G1.step s13 (by simp; omega)).step s4 (by simp)
      have HRA := hid ra
      have HZ := hid (And.intro D4 (And.intro Ms4 (And.intro Vs4 (And.intro stA (And.intro G4 (And.intro U1 (And.intro g4 (And.intro e2 (And.intro hi L4)))))))))
      clear T1 st L1 e2 hr hll hi A1 g1 hka L2 g2 D2 Ms Vs sd M2 ra M3 s3 d1 d2 d3 s13 D3' g3 s4 D4 L4 g4 Vs4 Ms4 stA G4 U1 G1 s1 HT HF2 hat hml hq1
      refine wp_region_mix [(true, 0), (true, 1), (true, 2), (true, 3), (true, 4), (true, 5), (true, 6), (true, 7), (true, 8), (true, 9), (true, 10), (true, 11), (true, 12), (false, 13), (false, 14), (false, 15), (false, 16), (false, 17)] 17 (fun w' => w'.cell? ⟨rb, i * 3, none⟩ = some (mv i) ∧ w'.cell? ⟨g.G, 0, none⟩ = some (.slice (some ⟨g.pb, 0, none⟩) g.n g.pcap) ∧ w'.cell? ⟨g.pb, p * 3, none⟩ = some (.string (g.pid p))) (by kernel_rfl) (by kernel_rfl) (by kernel_rfl) (by kernel_rfl) ?_ ?_
      exact ⟨c1, c2, c3⟩
      repeat
        refine mix_take (v := ?_) rfl (by rfl) ?_ ?_
        rotate_left
        · (intro w' hS; (try dsimp only at hS); go_simp; try with_reducible rfl)
        try simp only [Act.put, List.setIfInBounds_toArray, List.set_cons_zero, List.set_cons_succ]
      refine mix_step rfl (fun K hK => ?_)
      go_simp
      refine hK.out _ _ (⟨cellUp c1 _, cellUp c2 _, cellUp c3 _⟩) (fun hHeld => ?_)
      clear hK K hHeld
      try simp only [Act.put, List.setIfInBounds_toArray, List.set_cons_zero, List.set_cons_succ]
      refine mix_step rfl (fun K hK => ?_)
      refine step_append_is (by rfl) _ _ 25 (by rfl) _ _ _ _ (by rfl) (by rfl) HRA.out ?_
      refine hK.out _ _ (⟨l1, l2, l3⟩) (fun hHeld => ?_)
      clear hK K hHeld
      try simp only [Act.put, List.setIfInBounds_toArray, List.set_cons_zero, List.set_cons_succ]
      refine mix_step rfl (fun K hK => ?_)
      go_simp
      refine hK.out _ _ (⟨l1, l2, l3⟩) (fun hHeld => ?_)
      clear hK K hHeld
      try simp only [Act.put, List.setIfInBounds_toArray, List.set_cons_zero, List.set_cons_succ]
      refine mix_step rfl (fun K hK => ?_)
      go_simp
      refine hK.out _ _ (⟨l1, l2, l3⟩) (fun hHeld => ?_)
      clear hK K hHeld
      try simp only [Act.put, List.setIfInBounds_toArray, List.set_cons_zero, List.set_cons_succ]
      refine mix_last rfl (fun K hK => ?_)
      go_simp
      refine hK.out _ _ ?_
      clear hK K
      refine mix_nil (NoPanic.normal ?_)
      try simp only [Act.put]
      clear c1 c2 c3 l1 l2 l3 l4 HRA
      cases hvp : vq p with
      | false =>
        rw [hvp] at x2
        go_wp2
        go_roundw
        case rel =>
          obtain ⟨D4, Ms4, Vs4, stA, G4, U1, g4, e2, hi, L4⟩ := HZ.out
          refine ⟨k + 1, o3, _, _, by omega, by go_num, ⟨D4, Ms4, fun q hq => ?_, ⟨gp1, U1, G4⟩⟩, stA⟩
          rw [e2, List.filter_append]
          simp only [List.filter_cons, hvp, List.filter_nil, List.append_nil, Bool.false_eq_true, if_false]
          exact Vs4 q hq
        case measure => simp [intOf]; omega
      | true =>
        rw [hvp] at x2
        obtain ⟨D4, Ms4, Vs4, stA, G4, U1, g4, e2, hi, L4⟩ := HZ.out
        have sd := Step.drew [] o3 w4
        have V5 := (Vs4 i hix).step sd (by simp)
        have hml := mem_len rt kk i ((dl.take k).filter vq)
        have hfl := List.length_filter_le vq (dl.take k)
        have htk : (dl.take k).length ≤ k := by simp; omega
        obtain ⟨ga2, gc2, w5, ra2, _, o5, V6, s5⟩ := V5.app_gen Ybaz.underlying25 info32' rfl (by omega) (by simp [strs]; omega) (.string (g.pid p)) rfl 32
        obtain ⟨q2, hq2⟩ : ∃ q2, (strs g (mem rt kk i ((dl.take k).filter vq))).length + 1 = q2 := ⟨_, rfl⟩
        rw [hq2] at ra2 V6
        rw [← strs_snoc] at V6
        obtain ⟨d1, d2, d3⟩ := D3_at (fun j => if j = i then .slice (some ⟨ga, 0, none⟩) q1 gc else mv j) vv K i hix
        have c1 : w4.cell? ⟨rb, i * 3 + 1, none⟩ = some (vv i) := by rw [D4.cell _ (by omega), d2]
        have c2 : w4.cell? ⟨g.G, 0, none⟩ = some (.slice (some ⟨g.pb, 0, none⟩) g.n g.pcap) := by rw [← (g4.hpa hn0).1]; exact g4.ob.cell 0
        have c3 : w4.cell? ⟨g.pb, p * 3, none⟩ = some (.string (g.pid p)) := (g4.pc p hpn).1
        have s15 := (Step.drew [201 + 2 * i] o3 w4).trans s5
        have D5 := D4.step s15 (by simp; omega)
        have g5 := g4.step s15 (by simp; omega) (by simp; omega) (by simp; omega)
        have l1 : w5.cell? ⟨rb, i * 3 + 1, none⟩ = some (vv i) := by rw [D5.cell _ (by omega), d2]
        have l2 : w5.cell? ⟨g.G, 0, none⟩ = some (.slice (some ⟨g.pb, 0, none⟩) g.n g.pcap) := by rw [← (g5.hpa hn0).1]; exact g5.ob.cell 0
        have l3 : w5.cell? ⟨g.pb, p * 3, none⟩ = some (.string (g.pid p)) := (g5.pc p hpn).1
        have l4 : w5.frozen? ⟨rb, i * 3 + 1, none⟩ = false := D5.frozen _
        have s6 := D5.sset (i * 3 + 1) (.slice (some ⟨ga2, 0, none⟩) q2 gc2) (T := [55]) (by simp)
        have D6 := D5.set (i * 3 + 1) (.slice (some ⟨ga2, 0, none⟩) q2 gc2)
        rw [D3_set1 _ _ _ K i hix] at D6
        have Ms6 := fun q hq => ((Ms4 q hq).step s15 (by simp; omega)).step s6 (by simp; omega)
        have stB := stA.trans ((s15.mono (T' := Tids) (by intro t ht; simp at ht; subst ht; exact (by have := tids_in (j := 1 + 2 * i) (by omega); rwa [show 200 + (1 + 2 * i) = 201 + 2 * i by omega] at this))).trans (s6.mono (T' := Tids) (by intro t ht; simp at ht; subst ht; decide)))
        have Vs6 : ∀ q, q < K → Sl o5 (w5.setCell ⟨rb, i * 3 + 1, none⟩ (.slice (some ⟨ga2, 0, none⟩) q2 gc2)) (201 + 2 * q) 32 (if q = i then .slice (some ⟨ga2, 0, none⟩) q2 gc2 else vv q) (strs g (mem rt kk q ((dl.take (k + 1)).filter vq))) := fun q hq => by
          rw [e2, List.filter_append]
          simp only [List.filter_cons, hvp, List.filter_nil, if_true]
          rw [mem_snoc, hi]
          by_cases e : q = i
          · subst e
            rw [if_pos rfl, if_pos rfl]
            exact V6.step s6 (by simp; omega)
          · rw [if_neg e, if_neg (fun h => e h.symm)]
            exact ((Vs4 q hq).step s15 (by simp; omega)).step s6 (by simp; omega)
        have G6 := (G4.step s15 (by simp; omega)).step s6 (by simp)
        have HRA := hid ra2
        have HY := hid (And.intro D6 (And.intro Ms6 (And.intro Vs6 (And.intro stB (And.intro G6 U1)))))
        clear D4 Ms4 Vs4 stA G4 U1 g4 e2 hi L4 sd V5 hml hfl htk ra2 V6 s5 d1 d2 d3 s15 D5 g5 s6 D6 Ms6 stB Vs6 G6 HZ hq2
        go_wp2
        refine wp_region_mix [(true, 0), (true, 1), (true, 2), (true, 3), (true, 4), (true, 5), (true, 6), (true, 7), (true, 8), (true, 9), (true, 10), (true, 11), (true, 12), (false, 13), (false, 14), (false, 15), (false, 16), (false, 17)] 17 (fun w' => w'.cell? ⟨rb, i * 3 + 1, none⟩ = some (vv i) ∧ w'.cell? ⟨g.G, 0, none⟩ = some (.slice (some ⟨g.pb, 0, none⟩) g.n g.pcap) ∧ w'.cell? ⟨g.pb, p * 3, none⟩ = some (.string (g.pid p))) (by kernel_rfl) (by kernel_rfl) (by kernel_rfl) (by kernel_rfl) ?_ ?_
        exact ⟨c1, c2, c3⟩
        repeat
          refine mix_take (v := ?_) rfl (by rfl) ?_ ?_
          rotate_left
          · (intro w' hS; (try dsimp only at hS); go_simp; try with_reducible rfl)
          try simp only [Act.put, List.setIfInBounds_toArray, List.set_cons_zero, List.set_cons_succ]
        refine mix_step rfl (fun K hK => ?_)
        go_simp
        refine hK.out _ _ (⟨cellUp c1 _, cellUp c2 _, cellUp c3 _⟩) (fun hHeld => ?_)
        clear hK K hHeld
        try simp only [Act.put, List.setIfInBounds_toArray, List.set_cons_zero, List.set_cons_succ]
        refine mix_step rfl (fun K hK => ?_)
        refine step_append_is (by rfl) _ _ 25 (by rfl) _ _ _ _ (by rfl) (by rfl) HRA.out ?_
        refine hK.out _ _ (⟨l1, l2, l3⟩) (fun hHeld => ?_)
        clear hK K hHeld
        try simp only [Act.put, List.setIfInBounds_toArray, List.set_cons_zero, List.set_cons_succ]
        refine mix_step rfl (fun K hK => ?_)
        go_simp
        refine hK.out _ _ (⟨l1, l2, l3⟩) (fun hHeld => ?_)
        clear hK K hHeld
        try simp only [Act.put, List.setIfInBounds_toArray, List.set_cons_zero, List.set_cons_succ]
        refine mix_step rfl (fun K hK => ?_)
        go_simp
        refine hK.out _ _ (⟨l1, l2, l3⟩) (fun hHeld => ?_)
        clear hK K hHeld
        try simp only [Act.put, List.setIfInBounds_toArray, List.set_cons_zero, List.set_cons_succ]
        refine mix_last rfl (fun K hK => ?_)
        go_simp
        refine hK.out _ _ ?_
        clear hK K
        refine mix_nil (NoPanic.normal ?_)
        try simp only [Act.put]
        go_wp2
        go_roundw
        case rel =>
          obtain ⟨D6, Ms6, Vs6, stB, G6, U1⟩ := HY.out
          exact ⟨k + 1, o5, _, _, by omega, by go_num, ⟨D6, Ms6, Vs6, ⟨gp1, U1, G6⟩⟩, stB⟩
        case measure => simp [intOf]; omega
    · obtain rfl : k = D := by omega
      have b1 : ¬ (k : Int) < (k : Int) := by omega
      have HT := hid (And.intro T1 st)
      clear T1 st
      go_wp2
      obtain ⟨T1, st⟩ := HT.out
      rw [HH.out.2.2.2.2.2.2.1, List.take_length] at T1
      exact HQ.out _ _ _ _ _ _ _ _ _ _ _ _ _ _ _ _ _ _ _ _ _ _ _ _ _ _ _ _ _ _ _ _ _ _ _ _ _ _ _ _ _ _ _ _ _ _ _ _ _ _ _ _ _ _ _ o1 mv vv T1 st

set_option maxRecDepth 1000000 in
set_option maxHeartbeats 2000000 in
theorem d7_33 {Q : Exit → Act → World → Prop} {dz : List Deferred} {c0 c1 c2 c3 c4 c5 c6 c7 c8 c9 c10 c11 c12 c13 c14 c15 c16 c17 c18 c19 c20 c21 c22 c23 c24 c25 c26 c27 c28 c29 c30 c31 c32 c33 c34 c35 c36 c37 c38 c39 c40 c41 c42 c43 c44 c45 c46 c47 c48 c49 c50 c51 c52 c53 c54 c55 c56 c57 c58 c59 c60 c61 c62 c63 c64 c65 c66 c67 c68 c69 c70 c71 c72 c73 c74 c75 c76 c77 c78 c79 c80 c81 c82 c83 c84 c85 c86 c87 c88 c89 c90 c91 c92 c93 c94 c95 c96 c97 c98 c99 c100 c101 c102 c103 c104 c105 c106 c107 c108 c109 c110 c111 c112 c113 c114 c115 c116 c117 c118 c119 c120 c121 c122 c123 c124 c125 c126 c127 c128 c129 c130 c131 c132 c133 c134 c135 c136 c137 c138 c139 c140 c141 c142 c143 c144 c145 c146 c147 c148 c149 c150 c151 c152 c153 c154 c155 c156 c157 c158 c159 c160 c161 c162 c163 c164 c165 c166 c167 c168 c169 c170 c171 c172 c173 c174 c175 c176 c177 c178 c179 c180 c181 c182 c183 c184 c185 c186 c187 c188 c189 c190 c191 c192 c193 c194 c195 c196 c197 c198 c199 c200 c201 c202 c203 c204 c205 c206 c207 c208 c209 c210 c211 c212 c213 c214 c215 c216 c217 c218 c219 c220 c221 c222 c223 c224 c225 c226 c227 c228 c229 c230 c231 c232 c233 c234 c235 c236 c237 c238 c239 c240 c241 c242 c243 c244 c245 c246 c247 c248 c249 c250 c251 c252 c253 c254 c255 c256 c257 c258 c259 c260 c261 c262 c263 c264 c265 c266 c267 c268 c269 c270 c271 c272 c273 c274 c275 c276 c277 c278 c279 c280 c281 c282 c283 c284 c285 c286 c287 c288 c289 c290 c291 c292 c293 c294 c295 c296 c297 c298 c299 c300 c301 c302 c303 c304 c305 c306 c307 c308 c309 c310 c311 c312 c313 c314 c315 c316 c317 c318 c319 c320 c321 c322 c323 c324 c325 c326 c327 c328 c329 c330 c331 c332 c333 c334 c335 c336 c337 c338 c339 c340 c341 c342 c343 c344 c345 c346 c347 c348 c349 c350 c351 c352 c353 c354 c355 c356 c357 c358 c359 c360 c361 c362 c363 c364 c365 c366 c367 c368 c369 c370 c371 c372 c373 c374 c375 c376 c377 c378 c379 c380 c381 c382 c383 c384 c385 c386 c387 c388 c389 c390 c391 c392 c393 c394 c395 c396 c397 c398 c399 c400 c401 c402 c403 c404 c405 c406 c407 c408 c409 c410 c411 c412 c413 c414 c415 c416 c417 c418 c419 c420 c421 c422 c423 c424 c425 c426 c427 c428 c429 c430 c431 c432 c433 c434 c435 c436 c437 c438 c439 c440 c441 c442 c443 c444 c445 c446 c447 c448 c449 c450 c451 c452 c453 c454 c455 c456 c457 c458 c459 c460 c461 c462 c463 c464 c465 c466 c467 c468 c469 c470 c471 c472 c473 c474 c475 c476 c477 c478 c479 c480 c481 c482 c483 c484 c485 c486 c487 c488 c489 c490 c491 c492 c493 c494 c495 c496 c497 c498 c499 c500 c501 c502 c503 c504 c505 c506 : Value} {w : World}
    (hQ : ∀ (u506 : Value), Q .ret ⟨List.toArray (c0 :: c1 :: c31 :: c3 :: c4 :: c5 :: c6 :: c7 :: c8 :: c9 :: c10 :: c11 :: c12 :: c13 :: c14 :: c15 :: c16 :: c17 :: c18 :: c19 :: c20 :: c21 :: c22 :: c23 :: c24 :: c25 :: c26 :: c27 :: c28 :: c29 :: c30 :: c31 :: c32 :: c33 :: c34 :: c35 :: c36 :: c37 :: c38 :: c39 :: c40 :: c41 :: c42 :: c43 :: c44 :: c45 :: c46 :: c47 :: c48 :: c49 :: c50 :: c51 :: c52 :: c53 :: c54 :: c55 :: c56 :: c57 :: c58 :: c59 :: c60 :: c61 :: c62 :: c63 :: c64 :: c65 :: c66 :: c67 :: c68 :: c69 :: c70 :: c71 :: c72 :: c73 :: c74 :: c75 :: c76 :: c77 :: c78 :: c79 :: c80 :: c81 :: c82 :: c83 :: c84 :: c85 :: c86 :: c87 :: c88 :: c89 :: c90 :: c91 :: c92 :: c93 :: c94 :: c95 :: c96 :: c97 :: c98 :: c99 :: c100 :: c101 :: c102 :: c103 :: c104 :: c105 :: c106 :: c107 :: c108 :: c109 :: c110 :: c111 :: c112 :: c113 :: c114 :: c115 :: c116 :: c117 :: c118 :: c119 :: c120 :: c121 :: c122 :: c123 :: c124 :: c125 :: c126 :: c127 :: c128 :: c129 :: c130 :: c131 :: c132 :: c133 :: c134 :: c135 :: c136 :: c137 :: c138 :: c139 :: c140 :: c141 :: c142 :: c143 :: c144 :: c145 :: c146 :: c147 :: c148 :: c149 :: c150 :: c151 :: c152 :: c153 :: c154 :: c155 :: c156 :: c157 :: c158 :: c159 :: c160 :: c161 :: c162 :: c163 :: c164 :: c165 :: c166 :: c167 :: c168 :: c169 :: c170 :: c171 :: c172 :: c173 :: c174 :: c175 :: c176 :: c177 :: c178 :: c179 :: c180 :: c181 :: c182 :: c183 :: c184 :: c185 :: c186 :: c187 :: c188 :: c189 :: c190 :: c191 :: c192 :: c193 :: c194 :: c195 :: c196 :: c197 :: c198 :: c199 :: c200 :: c201 :: c202 :: c203 :: c204 :: c205 :: c206 :: c207 :: c208 :: c209 :: c210 :: c211 :: c212 :: c213 :: c214 :: c215 :: c216 :: c217 :: c218 :: c219 :: c220 :: c221 :: c222 :: c223 :: c224 :: c225 :: c226 :: c227 :: c228 :: c229 :: c230 :: c231 :: c232 :: c233 :: c234 :: c235 :: c236 :: c237 :: c238 :: c239 :: c240 :: c241 :: c242 :: c243 :: c244 :: c245 :: c246 :: c247 :: c248 :: c249 :: c250 :: c251 :: c252 :: c253 :: c254 :: c255 :: c256 :: c257 :: c258 :: c259 :: c260 :: c261 :: c262 :: c263 :: c264 :: c265 :: c266 :: c267 :: c268 :: c269 :: c270 :: c271 :: c272 :: c273 :: c274 :: c275 :: c276 :: c277 :: c278 :: c279 :: c280 :: c281 :: c282 :: c283 :: c284 :: c285 :: c286 :: c287 :: c288 :: c289 :: c290 :: c291 :: c292 :: c293 :: c294 :: c295 :: c296 :: c297 :: c298 :: c299 :: c300 :: c301 :: c302 :: c303 :: c304 :: c305 :: c306 :: c307 :: c308 :: c309 :: c310 :: c311 :: c312 :: c313 :: c314 :: c315 :: c316 :: c317 :: c318 :: c319 :: c320 :: c321 :: c322 :: c323 :: c324 :: c325 :: c326 :: c327 :: c328 :: c329 :: c330 :: c331 :: c332 :: c333 :: c334 :: c335 :: c336 :: c337 :: c338 :: c339 :: c340 :: c341 :: c342 :: c343 :: c344 :: c345 :: c346 :: c347 :: c348 :: c349 :: c350 :: c351 :: c352 :: c353 :: c354 :: c355 :: c356 :: c357 :: c358 :: c359 :: c360 :: c361 :: c362 :: c363 :: c364 :: c365 :: c366 :: c367 :: c368 :: c369 :: c370 :: c371 :: c372 :: c373 :: c374 :: c375 :: c376 :: c377 :: c378 :: c379 :: c380 :: c381 :: c382 :: c383 :: c384 :: c385 :: c386 :: c387 :: c388 :: c389 :: c390 :: c391 :: c392 :: c393 :: c394 :: c395 :: c396 :: c397 :: c398 :: c399 :: c400 :: c401 :: c402 :: c403 :: c404 :: c405 :: c406 :: c407 :: c408 :: c409 :: c410 :: c411 :: c412 :: c413 :: c414 :: c415 :: c416 :: c417 :: c418 :: c419 :: c420 :: c421 :: c422 :: c423 :: c424 :: c425 :: c426 :: c427 :: c428 :: c429 :: c430 :: c431 :: c432 :: c433 :: c434 :: c435 :: c436 :: c437 :: c438 :: c439 :: c440 :: c441 :: c442 :: c443 :: c444 :: c445 :: c446 :: c447 :: c448 :: c449 :: c450 :: c451 :: c452 :: c453 :: c454 :: c455 :: c456 :: c457 :: c458 :: c459 :: c460 :: c461 :: c462 :: c463 :: c464 :: c465 :: c466 :: c467 :: c468 :: c469 :: c470 :: c471 :: c472 :: c473 :: c474 :: c475 :: c476 :: c477 :: c478 :: c479 :: c480 :: c481 :: c482 :: c483 :: c484 :: c485 :: c486 :: c487 :: c488 :: c489 :: c490 :: c491 :: c492 :: c493 :: c494 :: c495 :: c496 :: c497 :: c498 :: c499 :: c500 :: c501 :: c502 :: c503 :: c504 :: c505 :: u506 :: []), dz⟩ w) : Code.wp Ybaz.prog (tl7 33) Q ⟨List.toArray (c0 :: c1 :: c2 :: c3 :: c4 :: c5 :: c6 :: c7 :: c8 :: c9 :: c10 :: c11 :: c12 :: c13 :: c14 :: c15 :: c16 :: c17 :: c18 :: c19 :: c20 :: c21 :: c22 :: c23 :: c24 :: c25 :: c26 :: c27 :: c28 :: c29 :: c30 :: c31 :: c32 :: c33 :: c34 :: c35 :: c36 :: c37 :: c38 :: c39 :: c40 :: c41 :: c42 :: c43 :: c44 :: c45 :: c46 :: c47 :: c48 :: c49 :: c50 :: c51 :: c52 :: c53 :: c54 :: c55 :: c56 :: c57 :: c58 :: c59 :: c60 :: c61 :: c62 :: c63 :: c64 :: c65 :: c66 :: c67 :: c68 :: c69 :: c70 :: c71 :: c72 :: c73 :: c74 :: c75 :: c76 :: c77 :: c78 :: c79 :: c80 :: c81 :: c82 :: c83 :: c84 :: c85 :: c86 :: c87 :: c88 :: c89 :: c90 :: c91 :: c92 :: c93 :: c94 :: c95 :: c96 :: c97 :: c98 :: c99 :: c100 :: c101 :: c102 :: c103 :: c104 :: c105 :: c106 :: c107 :: c108 :: c109 :: c110 :: c111 :: c112 :: c113 :: c114 :: c115 :: c116 :: c117 :: c118 :: c119 :: c120 :: c121 :: c122 :: c123 :: c124 :: c125 :: c126 :: c127 :: c128 :: c129 :: c130 :: c131 :: c132 :: c133 :: c134 :: c135 :: c136 :: c137 :: c138 :: c139 :: c140 :: c141 :: c142 :: c143 :: c144 :: c145 :: c146 :: c147 :: c148 :: c149 :: c150 :: c151 :: c152 :: c153 :: c154 :: c155 :: c156 :: c157 :: c158 :: c159 :: c160 :: c161 :: c162 :: c163 :: c164 :: c165 :: c166 :: c167 :: c168 :: c169 :: c170 :: c171 :: c172 :: c173 :: c174 :: c175 :: c176 :: c177 :: c178 :: c179 :: c180 :: c181 :: c182 :: c183 :: c184 :: c185 :: c186 :: c187 :: c188 :: c189 :: c190 :: c191 :: c192 :: c193 :: c194 :: c195 :: c196 :: c197 :: c198 :: c199 :: c200 :: c201 :: c202 :: c203 :: c204 :: c205 :: c206 :: c207 :: c208 :: c209 :: c210 :: c211 :: c212 :: c213 :: c214 :: c215 :: c216 :: c217 :: c218 :: c219 :: c220 :: c221 :: c222 :: c223 :: c224 :: c225 :: c226 :: c227 :: c228 :: c229 :: c230 :: c231 :: c232 :: c233 :: c234 :: c235 :: c236 :: c237 :: c238 :: c239 :: c240 :: c241 :: c242 :: c243 :: c244 :: c245 :: c246 :: c247 :: c248 :: c249 :: c250 :: c251 :: c252 :: c253 :: c254 :: c255 :: c256 :: c257 :: c258 :: c259 :: c260 :: c261 :: c262 :: c263 :: c264 :: c265 :: c266 :: c267 :: c268 :: c269 :: c270 :: c271 :: c272 :: c273 :: c274 :: c275 :: c276 :: c277 :: c278 :: c279 :: c280 :: c281 :: c282 :: c283 :: c284 :: c285 :: c286 :: c287 :: c288 :: c289 :: c290 :: c291 :: c292 :: c293 :: c294 :: c295 :: c296 :: c297 :: c298 :: c299 :: c300 :: c301 :: c302 :: c303 :: c304 :: c305 :: c306 :: c307 :: c308 :: c309 :: c310 :: c311 :: c312 :: c313 :: c314 :: c315 :: c316 :: c317 :: c318 :: c319 :: c320 :: c321 :: c322 :: c323 :: c324 :: c325 :: c326 :: c327 :: c328 :: c329 :: c330 :: c331 :: c332 :: c333 :: c334 :: c335 :: c336 :: c337 :: c338 :: c339 :: c340 :: c341 :: c342 :: c343 :: c344 :: c345 :: c346 :: c347 :: c348 :: c349 :: c350 :: c351 :: c352 :: c353 :: c354 :: c355 :: c356 :: c357 :: c358 :: c359 :: c360 :: c361 :: c362 :: c363 :: c364 :: c365 :: c366 :: c367 :: c368 :: c369 :: c370 :: c371 :: c372 :: c373 :: c374 :: c375 :: c376 :: c377 :: c378 :: c379 :: c380 :: c381 :: c382 :: c383 :: c384 :: c385 :: c386 :: c387 :: c388 :: c389 :: c390 :: c391 :: c392 :: c393 :: c394 :: c395 :: c396 :: c397 :: c398 :: c399 :: c400 :: c401 :: c402 :: c403 :: c404 :: c405 :: c406 :: c407 :: c408 :: c409 :: c410 :: c411 :: c412 :: c413 :: c414 :: c415 :: c416 :: c417 :: c418 :: c419 :: c420 :: c421 :: c422 :: c423 :: c424 :: c425 :: c426 :: c427 :: c428 :: c429 :: c430 :: c431 :: c432 :: c433 :: c434 :: c435 :: c436 :: c437 :: c438 :: c439 :: c440 :: c441 :: c442 :: c443 :: c444 :: c445 :: c446 :: c447 :: c448 :: c449 :: c450 :: c451 :: c452 :: c453 :: c454 :: c455 :: c456 :: c457 :: c458 :: c459 :: c460 :: c461 :: c462 :: c463 :: c464 :: c465 :: c466 :: c467 :: c468 :: c469 :: c470 :: c471 :: c472 :: c473 :: c474 :: c475 :: c476 :: c477 :: c478 :: c479 :: c480 :: c481 :: c482 :: c483 :: c484 :: c485 :: c486 :: c487 :: c488 :: c489 :: c490 :: c491 :: c492 :: c493 :: c494 :: c495 :: c496 :: c497 :: c498 :: c499 :: c500 :: c501 :: c502 :: c503 :: c504 :: c505 :: c506 :: []), dz⟩ w := by
  have HQ := hid hQ
  clear hQ
  conv => arg 2; whnf
  go_wp2
  exact HQ.out _
end Go.Proofs.YbulkbmdoGreat
