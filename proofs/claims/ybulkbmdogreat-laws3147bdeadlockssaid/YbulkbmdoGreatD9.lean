import Derived.Test.YbulkbmdoGreatS3
import Derived.Test.YbulkbmdoGreatD7
namespace Go.Proofs.YbulkbmdoGreat
open Go.RowKit
set_option linter.unusedVariables false
set_option linter.unusedSimpArgs false
attribute [local go_sem ↓] Go.wp_at_zero Go.wp_at_succ

theorem info32' : (Ybaz.prog.info? 32).map (fun i => (i.zero, i.size, i.bytes)) = some (some (.string ⟨#[]⟩), 1, 16) := by kernel_rfl
theorem ints_get' (l : List Nat) (i : Nat) (h : i < (ints l).length) : (ints l)[i] = .int .i64 ((l[i]'(by simpa [ints] using h) : Nat) : Int) := by simp [ints]

/-- A made, empty slice of ids. -/
theorem made_ids {o : Nat → Nat} {W : World} {t b m : Nat} {z : Array Value} (h : W.heap[b]? = some (.cells (madeCells z m) 32 (0, 0))) (ht : o b = t) (hm : m ≤ 300) : Sl o W t 32 (.slice (some ⟨b, 0, none⟩) 0 m) [] := by
  refine ⟨⟨rfl, .inr ⟨b, m, _, rfl, Nat.zero_le _, h, Nat.zero_le _, by unfold maxLen; omega, by rw [size_madeCells]; simp, by simp⟩⟩, fun b' hb => ?_⟩
  simp [Value.ownBlock] at hb
  subst hb; exact ht

set_option maxRecDepth 1000000 in
set_option maxHeartbeats 4000000 in
theorem d7_31 {Q : Exit → Act → World → Prop} {dz : List Deferred} {c0 c1 c2 c3 c4 c5 c6 c7 c8 c9 c10 c11 c12 c13 c14 c15 c16 c17 c18 c19 c20 c21 c22 c23 c24 c25 c26 c27 c28 c29 c30 c32 c35 c36 c37 c38 c39 c40 c41 c42 c43 c44 c45 c46 c47 c48 c49 c50 c51 c52 c53 c54 c55 c56 c57 c58 c59 c60 c61 c62 c63 c64 c65 c66 c67 c68 c69 c70 c71 c72 c73 c74 c75 c76 c77 c78 c79 c80 c81 c82 c83 c84 c85 c86 c87 c88 c89 c90 c91 c92 c93 c94 c95 c96 c97 c98 c99 c100 c101 c102 c103 c104 c105 c106 c107 c108 c109 c110 c111 c112 c113 c114 c115 c116 c117 c118 c119 c120 c121 c122 c123 c124 c125 c126 c127 c128 c129 c130 c131 c132 c133 c134 c135 c136 c137 c138 c139 c140 c141 c142 c143 c144 c145 c146 c147 c148 c149 c150 c151 c152 c153 c154 c155 c156 c157 c158 c159 c160 c161 c162 c163 c164 c165 c166 c167 c168 c169 c170 c171 c172 c173 c174 c175 c176 c177 c178 c179 c180 c181 c182 c183 c184 c185 c186 c187 c188 c189 c190 c191 c192 c193 c194 c195 c196 c197 c198 c199 c200 c201 c202 c203 c204 c205 c206 c207 c208 c209 c210 c211 c212 c213 c214 c215 c216 c217 c218 c219 c220 c221 c222 c223 c224 c225 c226 c227 c228 c229 c230 c231 c232 c233 c234 c235 c236 c237 c238 c239 c240 c241 c242 c243 c244 c245 c246 c247 c248 c249 c250 c251 c252 c253 c254 c255 c256 c257 c258 c259 c260 c261 c262 c263 c264 c265 c266 c267 c268 c269 c270 c271 c272 c273 c274 c275 c276 c277 c278 c279 c280 c281 c282 c283 c284 c285 c286 c287 c288 c289 c290 c291 c292 c293 c294 c295 c296 c297 c298 c299 c300 c301 c302 c303 c304 c305 c306 c307 c308 c309 c310 c311 c312 c313 c314 c315 c316 c317 c318 c319 c320 c321 c322 c323 c324 c325 c326 c327 c328 c329 c330 c331 c332 c333 c334 c335 c336 c337 c338 c339 c340 c341 c342 c343 c344 c345 c346 c347 c348 c349 c350 c351 c352 c353 c354 c355 c356 c357 c358 c359 c360 c361 c362 c363 c364 c365 c366 c367 c368 c369 c370 c371 c372 c373 c374 c375 c376 c377 c378 c379 c380 c381 c382 c383 c384 c385 c386 c387 c388 c389 c390 c391 c392 c393 c394 c395 c396 c397 c398 c399 c400 c401 c402 c403 c404 c405 c406 c407 c408 c409 c410 c411 c412 c413 c414 c415 c416 c417 c418 c419 c420 c421 c422 c423 c424 c425 c426 c427 c428 c429 c430 c431 c432 c433 c434 c435 c436 c437 c438 c439 c440 c441 c442 c443 c444 c445 c446 c447 c448 c449 c450 c451 c452 c453 c454 c455 c456 c457 c458 c459 c460 c461 c462 c463 c464 c465 c466 c467 c468 c469 c470 c471 c472 c473 c474 c475 c476 c477 c478 c479 c480 c481 c482 c483 c484 c485 c486 c487 c488 c489 c490 c491 c492 c493 c494 c495 c496 c497 c498 c499 c500 c501 c502 c503 c504 c505 c506 : Value} {w : World} (o : Nat → Nat) (K rb rc mb mc cb cc : Nat) (ms cs : List Nat) (hK : K ≤ 300) (h1 : ms.length = K) (h2 : cs.length = K) (h3 : ∀ x ∈ ms, x ≤ 300) (h4 : ∀ x ∈ cs, x ≤ 300) (hM : Sl o w 56 3 (.slice (some ⟨mb, 0, none⟩) K mc) (ints ms)) (hC : Sl o w 57 3 (.slice (some ⟨cb, 0, none⟩) K cc) (ints cs)) (hD : S3 o w 55 (.slice (some ⟨rb, 0, none⟩) K rc) K (D3 (fun _ => .slice none 0 0) (fun _ => .slice none 0 0) K))
    (hQ : ∀ (u38 u429 u430 u431 u432 u433 u434 u435 u436 u437 u438 u439 u440 u441 u442 u443 u444 u445 u446 u447 u448 u449 u450 : Value) (w' : World) (o' : Nat → Nat) (mv vv : Nat → Value), S3 o' w' 55 (.slice (some ⟨rb, 0, none⟩) K rc) K (D3 mv vv K) → (∀ i, i < K → Sl o' w' (200 + 2 * i) 32 (mv i) [] ∧ Sl o' w' (201 + 2 * i) 32 (vv i) []) → Step [55] o w o' w' → Q .normal ⟨List.toArray (c0 :: c1 :: c2 :: c3 :: c4 :: c5 :: c6 :: c7 :: c8 :: c9 :: c10 :: c11 :: c12 :: c13 :: c14 :: c15 :: c16 :: c17 :: c18 :: c19 :: c20 :: c21 :: c22 :: c23 :: c24 :: c25 :: c26 :: c27 :: c28 :: c29 :: c30 :: .slice (some ⟨rb, 0, none⟩) K rc :: c32 :: .slice (some ⟨mb, 0, none⟩) K mc :: .slice (some ⟨cb, 0, none⟩) K cc :: c35 :: c36 :: c37 :: u38 :: c39 :: c40 :: c41 :: c42 :: c43 :: c44 :: c45 :: c46 :: c47 :: c48 :: c49 :: c50 :: c51 :: c52 :: c53 :: c54 :: c55 :: c56 :: c57 :: c58 :: c59 :: c60 :: c61 :: c62 :: c63 :: c64 :: c65 :: c66 :: c67 :: c68 :: c69 :: c70 :: c71 :: c72 :: c73 :: c74 :: c75 :: c76 :: c77 :: c78 :: c79 :: c80 :: c81 :: c82 :: c83 :: c84 :: c85 :: c86 :: c87 :: c88 :: c89 :: c90 :: c91 :: c92 :: c93 :: c94 :: c95 :: c96 :: c97 :: c98 :: c99 :: c100 :: c101 :: c102 :: c103 :: c104 :: c105 :: c106 :: c107 :: c108 :: c109 :: c110 :: c111 :: c112 :: c113 :: c114 :: c115 :: c116 :: c117 :: c118 :: c119 :: c120 :: c121 :: c122 :: c123 :: c124 :: c125 :: c126 :: c127 :: c128 :: c129 :: c130 :: c131 :: c132 :: c133 :: c134 :: c135 :: c136 :: c137 :: c138 :: c139 :: c140 :: c141 :: c142 :: c143 :: c144 :: c145 :: c146 :: c147 :: c148 :: c149 :: c150 :: c151 :: c152 :: c153 :: c154 :: c155 :: c156 :: c157 :: c158 :: c159 :: c160 :: c161 :: c162 :: c163 :: c164 :: c165 :: c166 :: c167 :: c168 :: c169 :: c170 :: c171 :: c172 :: c173 :: c174 :: c175 :: c176 :: c177 :: c178 :: c179 :: c180 :: c181 :: c182 :: c183 :: c184 :: c185 :: c186 :: c187 :: c188 :: c189 :: c190 :: c191 :: c192 :: c193 :: c194 :: c195 :: c196 :: c197 :: c198 :: c199 :: c200 :: c201 :: c202 :: c203 :: c204 :: c205 :: c206 :: c207 :: c208 :: c209 :: c210 :: c211 :: c212 :: c213 :: c214 :: c215 :: c216 :: c217 :: c218 :: c219 :: c220 :: c221 :: c222 :: c223 :: c224 :: c225 :: c226 :: c227 :: c228 :: c229 :: c230 :: c231 :: c232 :: c233 :: c234 :: c235 :: c236 :: c237 :: c238 :: c239 :: c240 :: c241 :: c242 :: c243 :: c244 :: c245 :: c246 :: c247 :: c248 :: c249 :: c250 :: c251 :: c252 :: c253 :: c254 :: c255 :: c256 :: c257 :: c258 :: c259 :: c260 :: c261 :: c262 :: c263 :: c264 :: c265 :: c266 :: c267 :: c268 :: c269 :: c270 :: c271 :: c272 :: c273 :: c274 :: c275 :: c276 :: c277 :: c278 :: c279 :: c280 :: c281 :: c282 :: c283 :: c284 :: c285 :: c286 :: c287 :: c288 :: c289 :: c290 :: c291 :: c292 :: c293 :: c294 :: c295 :: c296 :: c297 :: c298 :: c299 :: c300 :: c301 :: c302 :: c303 :: c304 :: c305 :: c306 :: c307 :: c308 :: c309 :: c310 :: c311 :: c312 :: c313 :: c314 :: c315 :: c316 :: c317 :: c318 :: c319 :: c320 :: c321 :: c322 :: c323 :: c324 :: c325 :: c326 :: c327 :: c328 :: c329 :: c330 :: c331 :: c332 :: c333 :: c334 :: c335 :: c336 :: c337 :: c338 :: c339 :: c340 :: c341 :: c342 :: c343 :: c344 :: c345 :: c346 :: c347 :: c348 :: c349 :: c350 :: c351 :: c352 :: c353 :: c354 :: c355 :: c356 :: c357 :: c358 :: c359 :: c360 :: c361 :: c362 :: c363 :: c364 :: c365 :: c366 :: c367 :: c368 :: c369 :: c370 :: c371 :: c372 :: c373 :: c374 :: c375 :: c376 :: c377 :: c378 :: c379 :: c380 :: c381 :: c382 :: c383 :: c384 :: c385 :: c386 :: c387 :: c388 :: c389 :: c390 :: c391 :: c392 :: c393 :: c394 :: c395 :: c396 :: c397 :: c398 :: c399 :: c400 :: c401 :: c402 :: c403 :: c404 :: c405 :: c406 :: c407 :: c408 :: c409 :: c410 :: c411 :: c412 :: c413 :: c414 :: c415 :: c416 :: c417 :: c418 :: c419 :: c420 :: c421 :: c422 :: c423 :: c424 :: c425 :: c426 :: .slice (some ⟨rb, 0, none⟩) K rc :: .int .i64 (K : Int) :: u429 :: u430 :: u431 :: u432 :: u433 :: u434 :: u435 :: u436 :: u437 :: u438 :: u439 :: u440 :: u441 :: u442 :: u443 :: u444 :: u445 :: u446 :: u447 :: u448 :: u449 :: u450 :: c451 :: c452 :: c453 :: c454 :: c455 :: c456 :: c457 :: c458 :: c459 :: c460 :: c461 :: c462 :: c463 :: c464 :: c465 :: c466 :: c467 :: c468 :: c469 :: c470 :: c471 :: c472 :: c473 :: c474 :: c475 :: c476 :: c477 :: c478 :: c479 :: c480 :: c481 :: c482 :: c483 :: c484 :: c485 :: c486 :: c487 :: c488 :: c489 :: c490 :: c491 :: c492 :: c493 :: c494 :: c495 :: c496 :: c497 :: c498 :: c499 :: c500 :: c501 :: c502 :: c503 :: c504 :: c505 :: c506 :: []), dz⟩ w') :
    Code.wp Ybaz.prog (st7 31) Q ⟨List.toArray (c0 :: c1 :: c2 :: c3 :: c4 :: c5 :: c6 :: c7 :: c8 :: c9 :: c10 :: c11 :: c12 :: c13 :: c14 :: c15 :: c16 :: c17 :: c18 :: c19 :: c20 :: c21 :: c22 :: c23 :: c24 :: c25 :: c26 :: c27 :: c28 :: c29 :: c30 :: .slice (some ⟨rb, 0, none⟩) K rc :: c32 :: .slice (some ⟨mb, 0, none⟩) K mc :: .slice (some ⟨cb, 0, none⟩) K cc :: c35 :: c36 :: c37 :: c38 :: c39 :: c40 :: c41 :: c42 :: c43 :: c44 :: c45 :: c46 :: c47 :: c48 :: c49 :: c50 :: c51 :: c52 :: c53 :: c54 :: c55 :: c56 :: c57 :: c58 :: c59 :: c60 :: c61 :: c62 :: c63 :: c64 :: c65 :: c66 :: c67 :: c68 :: c69 :: c70 :: c71 :: c72 :: c73 :: c74 :: c75 :: c76 :: c77 :: c78 :: c79 :: c80 :: c81 :: c82 :: c83 :: c84 :: c85 :: c86 :: c87 :: c88 :: c89 :: c90 :: c91 :: c92 :: c93 :: c94 :: c95 :: c96 :: c97 :: c98 :: c99 :: c100 :: c101 :: c102 :: c103 :: c104 :: c105 :: c106 :: c107 :: c108 :: c109 :: c110 :: c111 :: c112 :: c113 :: c114 :: c115 :: c116 :: c117 :: c118 :: c119 :: c120 :: c121 :: c122 :: c123 :: c124 :: c125 :: c126 :: c127 :: c128 :: c129 :: c130 :: c131 :: c132 :: c133 :: c134 :: c135 :: c136 :: c137 :: c138 :: c139 :: c140 :: c141 :: c142 :: c143 :: c144 :: c145 :: c146 :: c147 :: c148 :: c149 :: c150 :: c151 :: c152 :: c153 :: c154 :: c155 :: c156 :: c157 :: c158 :: c159 :: c160 :: c161 :: c162 :: c163 :: c164 :: c165 :: c166 :: c167 :: c168 :: c169 :: c170 :: c171 :: c172 :: c173 :: c174 :: c175 :: c176 :: c177 :: c178 :: c179 :: c180 :: c181 :: c182 :: c183 :: c184 :: c185 :: c186 :: c187 :: c188 :: c189 :: c190 :: c191 :: c192 :: c193 :: c194 :: c195 :: c196 :: c197 :: c198 :: c199 :: c200 :: c201 :: c202 :: c203 :: c204 :: c205 :: c206 :: c207 :: c208 :: c209 :: c210 :: c211 :: c212 :: c213 :: c214 :: c215 :: c216 :: c217 :: c218 :: c219 :: c220 :: c221 :: c222 :: c223 :: c224 :: c225 :: c226 :: c227 :: c228 :: c229 :: c230 :: c231 :: c232 :: c233 :: c234 :: c235 :: c236 :: c237 :: c238 :: c239 :: c240 :: c241 :: c242 :: c243 :: c244 :: c245 :: c246 :: c247 :: c248 :: c249 :: c250 :: c251 :: c252 :: c253 :: c254 :: c255 :: c256 :: c257 :: c258 :: c259 :: c260 :: c261 :: c262 :: c263 :: c264 :: c265 :: c266 :: c267 :: c268 :: c269 :: c270 :: c271 :: c272 :: c273 :: c274 :: c275 :: c276 :: c277 :: c278 :: c279 :: c280 :: c281 :: c282 :: c283 :: c284 :: c285 :: c286 :: c287 :: c288 :: c289 :: c290 :: c291 :: c292 :: c293 :: c294 :: c295 :: c296 :: c297 :: c298 :: c299 :: c300 :: c301 :: c302 :: c303 :: c304 :: c305 :: c306 :: c307 :: c308 :: c309 :: c310 :: c311 :: c312 :: c313 :: c314 :: c315 :: c316 :: c317 :: c318 :: c319 :: c320 :: c321 :: c322 :: c323 :: c324 :: c325 :: c326 :: c327 :: c328 :: c329 :: c330 :: c331 :: c332 :: c333 :: c334 :: c335 :: c336 :: c337 :: c338 :: c339 :: c340 :: c341 :: c342 :: c343 :: c344 :: c345 :: c346 :: c347 :: c348 :: c349 :: c350 :: c351 :: c352 :: c353 :: c354 :: c355 :: c356 :: c357 :: c358 :: c359 :: c360 :: c361 :: c362 :: c363 :: c364 :: c365 :: c366 :: c367 :: c368 :: c369 :: c370 :: c371 :: c372 :: c373 :: c374 :: c375 :: c376 :: c377 :: c378 :: c379 :: c380 :: c381 :: c382 :: c383 :: c384 :: c385 :: c386 :: c387 :: c388 :: c389 :: c390 :: c391 :: c392 :: c393 :: c394 :: c395 :: c396 :: c397 :: c398 :: c399 :: c400 :: c401 :: c402 :: c403 :: c404 :: c405 :: c406 :: c407 :: c408 :: c409 :: c410 :: c411 :: c412 :: c413 :: c414 :: c415 :: c416 :: c417 :: c418 :: c419 :: c420 :: c421 :: c422 :: c423 :: c424 :: c425 :: c426 :: c427 :: c428 :: c429 :: c430 :: c431 :: c432 :: c433 :: c434 :: c435 :: c436 :: c437 :: c438 :: c439 :: c440 :: c441 :: c442 :: c443 :: c444 :: c445 :: c446 :: c447 :: c448 :: c449 :: c450 :: c451 :: c452 :: c453 :: c454 :: c455 :: c456 :: c457 :: c458 :: c459 :: c460 :: c461 :: c462 :: c463 :: c464 :: c465 :: c466 :: c467 :: c468 :: c469 :: c470 :: c471 :: c472 :: c473 :: c474 :: c475 :: c476 :: c477 :: c478 :: c479 :: c480 :: c481 :: c482 :: c483 :: c484 :: c485 :: c486 :: c487 :: c488 :: c489 :: c490 :: c491 :: c492 :: c493 :: c494 :: c495 :: c496 :: c497 :: c498 :: c499 :: c500 :: c501 :: c502 :: c503 :: c504 :: c505 :: c506 :: []), dz⟩ w := by
  have HQ := hid hQ
  have HH := hid (And.intro h1 (And.intro h2 (And.intro h3 (And.intro h4 (And.intro hM (And.intro hC hD))))))
  clear hQ h1 h2 h3 h4 hM hC hD
  conv => arg 2; whnf
  go_wp2
  go_loopw [429] (fun c wr => ∃ (k : Nat) (o1 : Nat → Nat) (mv vv : Nat → Value), k ≤ K ∧ c = .int .i64 (k : Int) ∧ S3 o1 wr 55 (.slice (some ⟨rb, 0, none⟩) K rc) K (D3 mv vv K) ∧ (∀ i, i < k → Sl o1 wr (200 + 2 * i) 32 (mv i) [] ∧ Sl o1 wr (201 + 2 * i) 32 (vv i) []) ∧ Step [55] o w o1 wr) (fun c _ => K - (intOf c).toNat)
  case atStart =>
    obtain ⟨h1, h2, h3, h4, hM, hC, hD⟩ := HH.out
    exact ⟨0, o, _, _, Nat.zero_le _, rfl, hD, fun i hi => absurd hi (by omega), Step.refl _ _ _⟩
  case round =>
    obtain ⟨k, o1, mv, vv, hk, rfl, T1, R1, st⟩ := hrel
    by_cases hk2 : k < K
    · obtain ⟨h1, h2, h3, h4, hM, hC, hD⟩ := HH.out
      have M1 := hM.step st (by simp)
      have C1 := hC.step st (by simp)
      have hkm : k < ms.length := by omega
      have hkc : k < cs.length := by omega
      obtain ⟨m, hm⟩ : ∃ m, ms[k] = m := ⟨_, rfl⟩
      obtain ⟨u, hu⟩ : ∃ u, cs[k] = u := ⟨_, rfl⟩
      have hm3 : m ≤ 300 := by rw [← hm]; exact h3 _ (List.getElem_mem _)
      have hu3 : u ≤ 300 := by rw [← hu]; exact h4 _ (List.getElem_mem _)
      have M1' : Sl o1 wr 56 3 (.slice (some ⟨mb, 0, none⟩) (ints ms).length mc) (ints ms) := by rw [ints_length, h1]; exact M1
      have C1' : Sl o1 wr 57 3 (.slice (some ⟨cb, 0, none⟩) (ints cs).length cc) (ints cs) := by rw [ints_length, h2]; exact C1
      have y1 : wr.cell? ⟨mb, k, none⟩ = some (.int .i64 (m : Int)) := by rw [M1'.cell k (by rw [ints_length]; omega), ints_get', hm]
      have b1 : (k : Int) < (K : Int) := by omega
      have mk1 := run_make_cap 25 32 (.string ⟨#[]⟩) 1 16 Ybaz.underlying25 info32' m (by omega) (by omega) wr
      rw [show (Value.string ⟨#[]⟩).cells = #[.string ⟨#[]⟩] from rfl, Nat.mul_one] at mk1
      obtain ⟨X1, o2, B1, e1, z1, k1, t1, s1⟩ := alloc_step' o1 wr (200 + 2 * k) (.cells (madeCells #[.string ⟨#[]⟩] m) 32)
      have Sa := made_ids k1 t1 hm3
      have T2 := T1.step s1 (by simp)
      obtain ⟨d1, d2, d3⟩ := D3_at mv vv K k hk2
      have c1 : X1.cell? ⟨rb, k * 3, none⟩ = some (mv k) := by rw [T2.cell _ (by omega), d1]
      have c2 : X1.frozen? ⟨rb, k * 3, none⟩ = false := T2.frozen _
      have s2 := T2.sset (k * 3) (.slice (some ⟨B1, 0, none⟩) 0 m) (T := [55]) (by simp)
      have T3 := T2.set (k * 3) (.slice (some ⟨B1, 0, none⟩) 0 m)
      rw [D3_set0 _ _ _ K k hk2] at T3
      obtain ⟨X2, hX2⟩ : ∃ X2, X1.setCell ⟨rb, k * 3, none⟩ (.slice (some ⟨B1, 0, none⟩) 0 m) = X2 := ⟨_, rfl⟩
      rw [hX2] at s2 T3
      have C2' := (C1'.step s1 (by simp)).step s2 (by simp)
      have y2 : X2.cell? ⟨cb, k, none⟩ = some (.int .i64 (u : Int)) := by rw [C2'.cell k (by rw [ints_length]; omega), ints_get', hu]
      have mk2 := run_make_cap 25 32 (.string ⟨#[]⟩) 1 16 Ybaz.underlying25 info32' u (by omega) (by omega) X2
      rw [show (Value.string ⟨#[]⟩).cells = #[.string ⟨#[]⟩] from rfl, Nat.mul_one] at mk2
      obtain ⟨X3, o3, B2, e3, z3, k3, t3, s3⟩ := alloc_step' o2 X2 (201 + 2 * k) (.cells (madeCells #[.string ⟨#[]⟩] u) 32)
      have Sb := made_ids k3 t3 hu3
      have T4 := T3.step s3 (by simp)
      obtain ⟨f1, f2, f3⟩ := D3_at (fun j => if j = k then .slice (some ⟨B1, 0, none⟩) 0 m else mv j) vv K k hk2
      have c3 : X3.cell? ⟨rb, k * 3 + 1, none⟩ = some (vv k) := by rw [T4.cell _ (by omega), f2]
      have c4 : X3.frozen? ⟨rb, k * 3 + 1, none⟩ = false := T4.frozen _
      have s4 := T4.sset (k * 3 + 1) (.slice (some ⟨B2, 0, none⟩) 0 u) (T := [55]) (by simp)
      have T5 := T4.set (k * 3 + 1) (.slice (some ⟨B2, 0, none⟩) 0 u)
      rw [D3_set1 _ _ _ K k hk2] at T5
      have sA := (s1.mono (T' := [55]) (by simp)).trans (s2.trans ((s3.mono (T' := [55]) (by simp)).trans s4))
      have HT := hid (And.intro T5 (And.intro sA (And.intro (((Sa.step s2 (by simp; omega)).step s3 (by simp)).step s4 (by simp; omega)) (And.intro (Sb.step s4 (by simp; omega)) (And.intro R1 st)))))
      clear h1 h2 h3 h4 hM hC hD M1 C1 M1' C1' Sa T2 d1 d2 d3 s2 T3 C2' Sb T4 f1 f2 f3 s4 T5 sA R1 st T1 s1 s3 k1 t1 k3 t3 hm hu
      go_wp2
      go_roundw
      case rel =>
        obtain ⟨T5, sA, Sa, Sb, R1, st⟩ := HT.out
        refine ⟨k + 1, o3, _, _, by omega, by go_num, T5, fun i hi => ?_, st.trans sA⟩
        by_cases e : i = k
        · subst e
          simp only [if_true]
          exact ⟨Sa, Sb⟩
        · simp only [if_neg e]
          obtain ⟨q1, q2⟩ := R1 i (by omega)
          exact ⟨q1.step sA (by simp; omega), q2.step sA (by simp; omega)⟩
      case measure => simp [intOf]; omega
    · obtain rfl : k = K := by omega
      have b1 : ¬ (k : Int) < (k : Int) := by omega
      have HT := hid (And.intro T1 (And.intro R1 st))
      clear T1 R1 st
      go_wp2
      obtain ⟨T1, R1, st⟩ := HT.out
      exact HQ.out _ _ _ _ _ _ _ _ _ _ _ _ _ _ _ _ _ _ _ _ _ _ _ _ o1 mv vv T1 R1 st
end Go.Proofs.YbulkbmdoGreat
