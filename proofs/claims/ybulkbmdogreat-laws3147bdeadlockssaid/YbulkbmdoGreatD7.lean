import Derived.Test.YbulkbmdoGreatD6
import Derived.Test.YbulkbmdoGreatOf
namespace Go.Proofs.YbulkbmdoGreat
open Go.RowKit
set_option linter.unusedVariables false
set_option linter.unusedSimpArgs false
attribute [local go_sem ↓] Go.wp_at_zero Go.wp_at_succ

/-- Two of one root are of one group; the first k are joined to what they wait on. -/
structure Gq (n : Nat) (dead : Nat → Prop) (nx vc : Nat → Nat) (k : Nat) (rt : Nat → Nat) : Prop where
  one : ∀ p, p < k → dead p → rt p = rt (nx p)
  two : ∀ x y, x < n → y < n → rt x = rt y → x = y ∨ (dead x ∧ dead y ∧ vc x = vc y)

theorem Gq.skip {n k : Nat} {dead : Nat → Prop} {nx vc rt : Nat → Nat} (h : Gq n dead nx vc k rt) (hd : ¬ dead k) : Gq n dead nx vc (k + 1) rt :=
  ⟨fun p hp hdp => h.one p (by rcases Nat.lt_succ_iff_lt_or_eq.1 hp with e | e; exact e; subst e; exact absurd hdp hd) hdp, h.two⟩
theorem Gq.join {n k : Nat} {dead : Nat → Prop} {nx vc rt : Nat → Nat} (h : Gq n dead nx vc k rt) (hk : k < n) (hd : dead k) (hdq : dead (nx k)) (hqn : nx k < n) (hv : vc (nx k) = vc k) (hr : ∀ p, p < n → rt (rt p) = rt p ∧ rt p < n) :
    Gq n dead nx vc (k + 1) (fun x => if rt x = rt (nx k) then rt k else rt x) := by
  refine ⟨fun p hp hdp => ?_, fun x y hx hy e => ?_⟩
  · show (if rt p = rt (nx k) then rt k else rt p) = if rt (nx p) = rt (nx k) then rt k else rt (nx p)
    by_cases e : p < k
    · rw [h.one p e hdp]
    · obtain rfl : p = k := by omega
      rw [if_pos rfl]
      split <;> rfl
  · have e : (if rt x = rt (nx k) then rt k else rt x) = if rt y = rt (nx k) then rt k else rt y := e
    have key : ∀ z, z < n → (rt z = rt (nx k) ∨ rt z = rt k) → dead z ∧ vc z = vc k := by
      intro z hz hor
      rcases hor with h1 | h1
      · rcases h.two z (nx k) hz hqn h1 with h2 | ⟨h2, _, h3⟩
        · rw [h2]; exact ⟨hdq, hv⟩
        · exact ⟨h2, h3.trans hv⟩
      · rcases h.two z k hz hk h1 with h2 | ⟨h2, _, h3⟩
        · rw [h2]; exact ⟨hd, rfl⟩
        · exact ⟨h2, h3⟩
    by_cases e1 : rt x = rt (nx k)
    · by_cases e2 : rt y = rt (nx k)
      · exact h.two x y hx hy (e1.trans e2.symm)
      · rw [if_pos e1, if_neg e2] at e
        have a := key x hx (.inl e1)
        have b := key y hy (.inr e.symm)
        exact .inr ⟨a.1, b.1, a.2.trans b.2.symm⟩
    · by_cases e2 : rt y = rt (nx k)
      · rw [if_neg e1, if_pos e2] at e
        have a := key x hx (.inr e)
        have b := key y hy (.inl e2)
        exact .inr ⟨a.1, b.1, a.2.trans b.2.symm⟩
      · rw [if_neg e1, if_neg e2] at e
        exact h.two x y hx hy e

theorem fl_pref (g : GS) (gr : Nat → Bool) {a b : Nat} (h : a ≤ b) : fl g gr a <+: fl g gr b := by
  induction b with
  | zero => obtain rfl : a = 0 := by omega
            exact List.prefix_refl _
  | succ b ih =>
    by_cases e : a = b + 1
    · subst e; exact List.prefix_refl _
    · rw [fl_succ]
      exact (ih (by omega)).trans (List.prefix_append _ _)

set_option maxRecDepth 1000000 in
set_option maxHeartbeats 4000000 in
theorem d7_20 {Q : Exit → Act → World → Prop} {dz : List Deferred} {c0 c1 c2 c3 c5 c6 c7 c8 c9 c10 c11 c12 c13 c14 c15 c16 c17 c18 c19 c21 c24 c25 c26 c27 c28 c29 c30 c31 c32 c33 c34 c35 c36 c37 c38 c39 c40 c41 c42 c43 c44 c45 c46 c47 c48 c49 c50 c51 c52 c53 c54 c55 c56 c57 c58 c59 c60 c61 c62 c63 c64 c65 c66 c67 c68 c69 c70 c71 c72 c73 c74 c75 c76 c77 c78 c79 c80 c81 c82 c83 c84 c85 c86 c87 c88 c89 c90 c91 c92 c93 c94 c95 c96 c97 c98 c99 c100 c101 c102 c103 c104 c105 c106 c107 c108 c109 c110 c111 c112 c113 c114 c115 c116 c117 c118 c119 c120 c121 c122 c123 c124 c125 c126 c127 c128 c129 c130 c131 c132 c133 c134 c135 c136 c137 c138 c139 c140 c141 c142 c143 c144 c145 c146 c147 c148 c149 c150 c151 c152 c153 c154 c155 c156 c157 c158 c159 c160 c161 c162 c163 c164 c165 c166 c167 c168 c169 c170 c171 c172 c173 c174 c175 c176 c177 c178 c179 c180 c181 c182 c183 c184 c185 c186 c187 c188 c189 c190 c191 c192 c193 c194 c195 c196 c197 c198 c199 c200 c201 c202 c203 c204 c205 c206 c207 c208 c209 c210 c211 c212 c213 c214 c215 c216 c217 c218 c219 c220 c221 c222 c223 c224 c225 c226 c227 c228 c229 c230 c231 c232 c233 c234 c235 c236 c237 c238 c239 c240 c241 c242 c243 c244 c245 c246 c247 c248 c249 c250 c251 c252 c253 c254 c255 c256 c257 c258 c259 c260 c261 c262 c263 c264 c265 c266 c267 c268 c269 c270 c271 c272 c273 c274 c275 c276 c277 c278 c279 c280 c281 c282 c283 c284 c285 c286 c287 c288 c289 c290 c291 c292 c293 c294 c295 c296 c297 c298 c299 c300 c301 c302 c303 c304 c305 c306 c307 c308 c309 c310 c311 c312 c313 c314 c315 c316 c317 c318 c319 c320 c321 c322 c323 c324 c325 c326 c327 c328 c329 c330 c331 c332 c333 c334 c335 c336 c337 c338 c339 c340 c341 c342 c343 c344 c345 c346 c347 c348 c349 c350 c351 c352 c353 c354 c355 c356 c357 c358 c359 c360 c361 c362 c363 c364 c365 c366 c367 c368 c369 c370 c371 c372 c373 c374 c375 c376 c377 c378 c379 c380 c381 c382 c383 c384 c385 c386 c387 c388 c389 c390 c391 c392 c393 c394 c395 c396 c397 c398 c399 c400 c401 c402 c403 c404 c405 c406 c407 c408 c409 c410 c411 c412 c413 c414 c415 c416 c417 c418 c419 c420 c421 c422 c423 c424 c425 c426 c427 c428 c429 c430 c431 c432 c433 c434 c435 c436 c437 c438 c439 c440 c441 c442 c443 c444 c445 c446 c447 c448 c449 c450 c451 c452 c453 c454 c455 c456 c457 c458 c459 c460 c461 c462 c463 c464 c465 c466 c467 c468 c469 c470 c471 c472 c473 c474 c475 c476 c477 c478 c479 c480 c481 c482 c483 c484 c485 c486 c487 c488 c489 c490 c491 c492 c493 c494 c495 c496 c497 c498 c499 c500 c501 c502 c503 c504 c505 c506 : Value} {w : World} (o : Nat → Nat) (S da fb ib rb D Bg gb Bf : Nat) (g : GS) (s : RS) (nx vc : Nat → Nat) (dv : Nat → Int) (v : VSt) (hg : GAt o w g) (hn : g.n ≤ 300) (hn0 : 0 < g.n) (hpos : ∀ p, p < g.n → (0 ≤ dv p ↔ dq g s.gr p = true)) (hnx : ∀ p, p < g.n → dq g s.gr p = true → nx p < g.n ∧ dq g s.gr (nx p) = true ∧ vc (nx p) = vc p) (hS : Ob o w 20 S 63 (vcells v)) (hv : v.deadAt = .slice (some ⟨da, 0, none⟩) g.n g.n) (hv2 : v.wf = .slice (some ⟨fb, 0, none⟩) (g.n + 1) (g.n + 1)) (hv3 : v.wi = .slice (some ⟨ib, 0, none⟩) D D) (hD : D = (fl g s.gr g.n).length)
    (hA : Ar o w 22 da 3 g.n (fun p => .int .i64 (dv p))) (hF : Ar o w 23 fb 3 (g.n + 1) (fun i => .int .i64 ((fl g s.gr i).length : Int))) (hI : Rw o w 24 ib 3 D (ints ((fl g s.gr g.n).map nx))) (hR : Rw o w 25 rb 3 D []) (hG : Ar o w 50 gb 3 g.n (fun i => .int .i64 (i : Int))) (hBg : Ob o w 71 Bg 24 #[.slice (some ⟨gb, 0, none⟩) g.n g.n]) (hBf : Ob o w 70 Bf 37 #[.func (.func 16) #[] #[.pointer (some ⟨Bg, 0, none⟩)]])
    (hQ : ∀ (u24 u26 u287 u288 u289 u290 u291 u292 u293 u294 u295 u296 u297 u298 u299 u300 u301 u302 u303 u304 u305 u306 u307 u308 u309 u310 u311 u312 u313 u314 u315 u316 u317 : Value) (w' : World) (o' : Nat → Nat) (gp rt d : Nat → Nat), Rw o' w' 25 rb 3 D (ints (fl g s.gr g.n)) → Uf g.n gp rt d → Gq g.n (fun p => p < g.n ∧ dq g s.gr p = true) nx vc g.n rt → Ar o' w' 50 gb 3 g.n (fun i => .int .i64 (gp i : Int)) → Step [25, 50] o w o' w' → Q .normal ⟨List.toArray (c0 :: c1 :: c2 :: .pointer (some ⟨g.G, 0, none⟩) :: .pointer (some ⟨S, 0, none⟩) :: c5 :: c6 :: c7 :: c8 :: c9 :: c10 :: c11 :: c12 :: c13 :: c14 :: c15 :: c16 :: c17 :: c18 :: c19 :: .pointer (some ⟨Bg, 0, none⟩) :: c21 :: .pointer (some ⟨Bf, 0, none⟩) :: .slice (some ⟨rb, 0, none⟩) D D :: u24 :: c25 :: u26 :: c27 :: c28 :: c29 :: c30 :: c31 :: c32 :: c33 :: c34 :: c35 :: c36 :: c37 :: c38 :: c39 :: c40 :: c41 :: c42 :: c43 :: c44 :: c45 :: c46 :: c47 :: c48 :: c49 :: c50 :: c51 :: c52 :: c53 :: c54 :: c55 :: c56 :: c57 :: c58 :: c59 :: c60 :: c61 :: c62 :: c63 :: c64 :: c65 :: c66 :: c67 :: c68 :: c69 :: c70 :: c71 :: c72 :: c73 :: c74 :: c75 :: c76 :: c77 :: c78 :: c79 :: c80 :: c81 :: c82 :: c83 :: c84 :: c85 :: c86 :: c87 :: c88 :: c89 :: c90 :: c91 :: c92 :: c93 :: c94 :: c95 :: c96 :: c97 :: c98 :: c99 :: c100 :: c101 :: c102 :: c103 :: c104 :: c105 :: c106 :: c107 :: c108 :: c109 :: c110 :: c111 :: c112 :: c113 :: c114 :: c115 :: c116 :: c117 :: c118 :: c119 :: c120 :: c121 :: c122 :: c123 :: c124 :: c125 :: c126 :: c127 :: c128 :: c129 :: c130 :: c131 :: c132 :: c133 :: c134 :: c135 :: c136 :: c137 :: c138 :: c139 :: c140 :: c141 :: c142 :: c143 :: c144 :: c145 :: c146 :: c147 :: c148 :: c149 :: c150 :: c151 :: c152 :: c153 :: c154 :: c155 :: c156 :: c157 :: c158 :: c159 :: c160 :: c161 :: c162 :: c163 :: c164 :: c165 :: c166 :: c167 :: c168 :: c169 :: c170 :: c171 :: c172 :: c173 :: c174 :: c175 :: c176 :: c177 :: c178 :: c179 :: c180 :: c181 :: c182 :: c183 :: c184 :: c185 :: c186 :: c187 :: c188 :: c189 :: c190 :: c191 :: c192 :: c193 :: c194 :: c195 :: c196 :: c197 :: c198 :: c199 :: c200 :: c201 :: c202 :: c203 :: c204 :: c205 :: c206 :: c207 :: c208 :: c209 :: c210 :: c211 :: c212 :: c213 :: c214 :: c215 :: c216 :: c217 :: c218 :: c219 :: c220 :: c221 :: c222 :: c223 :: c224 :: c225 :: c226 :: c227 :: c228 :: c229 :: c230 :: c231 :: c232 :: c233 :: c234 :: c235 :: c236 :: c237 :: c238 :: c239 :: c240 :: c241 :: c242 :: c243 :: c244 :: c245 :: c246 :: c247 :: c248 :: c249 :: c250 :: c251 :: c252 :: c253 :: c254 :: c255 :: c256 :: c257 :: c258 :: c259 :: c260 :: c261 :: c262 :: c263 :: c264 :: c265 :: c266 :: c267 :: c268 :: c269 :: c270 :: c271 :: c272 :: c273 :: c274 :: c275 :: c276 :: c277 :: c278 :: c279 :: c280 :: c281 :: .pointer (some ⟨g.G, 0, none⟩) :: .pointer (some ⟨g.G, 0, none⟩) :: .pointer (some ⟨g.G, 0, none⟩) :: .slice (some ⟨g.pb, 0, none⟩) g.n g.pcap :: .int .i64 (g.n : Int) :: u287 :: u288 :: u289 :: u290 :: u291 :: u292 :: u293 :: u294 :: u295 :: u296 :: u297 :: u298 :: u299 :: u300 :: u301 :: u302 :: u303 :: u304 :: u305 :: u306 :: u307 :: u308 :: u309 :: u310 :: u311 :: u312 :: u313 :: u314 :: u315 :: u316 :: u317 :: c318 :: c319 :: c320 :: c321 :: c322 :: c323 :: c324 :: c325 :: c326 :: c327 :: c328 :: c329 :: c330 :: c331 :: c332 :: c333 :: c334 :: c335 :: c336 :: c337 :: c338 :: c339 :: c340 :: c341 :: c342 :: c343 :: c344 :: c345 :: c346 :: c347 :: c348 :: c349 :: c350 :: c351 :: c352 :: c353 :: c354 :: c355 :: c356 :: c357 :: c358 :: c359 :: c360 :: c361 :: c362 :: c363 :: c364 :: c365 :: c366 :: c367 :: c368 :: c369 :: c370 :: c371 :: c372 :: c373 :: c374 :: c375 :: c376 :: c377 :: c378 :: c379 :: c380 :: c381 :: c382 :: c383 :: c384 :: c385 :: c386 :: c387 :: c388 :: c389 :: c390 :: c391 :: c392 :: c393 :: c394 :: c395 :: c396 :: c397 :: c398 :: c399 :: c400 :: c401 :: c402 :: c403 :: c404 :: c405 :: c406 :: c407 :: c408 :: c409 :: c410 :: c411 :: c412 :: c413 :: c414 :: c415 :: c416 :: c417 :: c418 :: c419 :: c420 :: c421 :: c422 :: c423 :: c424 :: c425 :: c426 :: c427 :: c428 :: c429 :: c430 :: c431 :: c432 :: c433 :: c434 :: c435 :: c436 :: c437 :: c438 :: c439 :: c440 :: c441 :: c442 :: c443 :: c444 :: c445 :: c446 :: c447 :: c448 :: c449 :: c450 :: c451 :: c452 :: c453 :: c454 :: c455 :: c456 :: c457 :: c458 :: c459 :: c460 :: c461 :: c462 :: c463 :: c464 :: c465 :: c466 :: c467 :: c468 :: c469 :: c470 :: c471 :: c472 :: c473 :: c474 :: c475 :: c476 :: c477 :: c478 :: c479 :: c480 :: c481 :: c482 :: c483 :: c484 :: c485 :: c486 :: c487 :: c488 :: c489 :: c490 :: c491 :: c492 :: c493 :: c494 :: c495 :: c496 :: c497 :: c498 :: c499 :: c500 :: c501 :: c502 :: c503 :: c504 :: c505 :: c506 :: []), dz⟩ w') :
    Code.wp Ybaz.prog (st7 20) Q ⟨List.toArray (c0 :: c1 :: c2 :: .pointer (some ⟨g.G, 0, none⟩) :: .pointer (some ⟨S, 0, none⟩) :: c5 :: c6 :: c7 :: c8 :: c9 :: c10 :: c11 :: c12 :: c13 :: c14 :: c15 :: c16 :: c17 :: c18 :: c19 :: .pointer (some ⟨Bg, 0, none⟩) :: c21 :: .pointer (some ⟨Bf, 0, none⟩) :: .slice (some ⟨rb, 0, none⟩) 0 D :: c24 :: c25 :: c26 :: c27 :: c28 :: c29 :: c30 :: c31 :: c32 :: c33 :: c34 :: c35 :: c36 :: c37 :: c38 :: c39 :: c40 :: c41 :: c42 :: c43 :: c44 :: c45 :: c46 :: c47 :: c48 :: c49 :: c50 :: c51 :: c52 :: c53 :: c54 :: c55 :: c56 :: c57 :: c58 :: c59 :: c60 :: c61 :: c62 :: c63 :: c64 :: c65 :: c66 :: c67 :: c68 :: c69 :: c70 :: c71 :: c72 :: c73 :: c74 :: c75 :: c76 :: c77 :: c78 :: c79 :: c80 :: c81 :: c82 :: c83 :: c84 :: c85 :: c86 :: c87 :: c88 :: c89 :: c90 :: c91 :: c92 :: c93 :: c94 :: c95 :: c96 :: c97 :: c98 :: c99 :: c100 :: c101 :: c102 :: c103 :: c104 :: c105 :: c106 :: c107 :: c108 :: c109 :: c110 :: c111 :: c112 :: c113 :: c114 :: c115 :: c116 :: c117 :: c118 :: c119 :: c120 :: c121 :: c122 :: c123 :: c124 :: c125 :: c126 :: c127 :: c128 :: c129 :: c130 :: c131 :: c132 :: c133 :: c134 :: c135 :: c136 :: c137 :: c138 :: c139 :: c140 :: c141 :: c142 :: c143 :: c144 :: c145 :: c146 :: c147 :: c148 :: c149 :: c150 :: c151 :: c152 :: c153 :: c154 :: c155 :: c156 :: c157 :: c158 :: c159 :: c160 :: c161 :: c162 :: c163 :: c164 :: c165 :: c166 :: c167 :: c168 :: c169 :: c170 :: c171 :: c172 :: c173 :: c174 :: c175 :: c176 :: c177 :: c178 :: c179 :: c180 :: c181 :: c182 :: c183 :: c184 :: c185 :: c186 :: c187 :: c188 :: c189 :: c190 :: c191 :: c192 :: c193 :: c194 :: c195 :: c196 :: c197 :: c198 :: c199 :: c200 :: c201 :: c202 :: c203 :: c204 :: c205 :: c206 :: c207 :: c208 :: c209 :: c210 :: c211 :: c212 :: c213 :: c214 :: c215 :: c216 :: c217 :: c218 :: c219 :: c220 :: c221 :: c222 :: c223 :: c224 :: c225 :: c226 :: c227 :: c228 :: c229 :: c230 :: c231 :: c232 :: c233 :: c234 :: c235 :: c236 :: c237 :: c238 :: c239 :: c240 :: c241 :: c242 :: c243 :: c244 :: c245 :: c246 :: c247 :: c248 :: c249 :: c250 :: c251 :: c252 :: c253 :: c254 :: c255 :: c256 :: c257 :: c258 :: c259 :: c260 :: c261 :: c262 :: c263 :: c264 :: c265 :: c266 :: c267 :: c268 :: c269 :: c270 :: c271 :: c272 :: c273 :: c274 :: c275 :: c276 :: c277 :: c278 :: c279 :: c280 :: c281 :: c282 :: c283 :: c284 :: c285 :: c286 :: c287 :: c288 :: c289 :: c290 :: c291 :: c292 :: c293 :: c294 :: c295 :: c296 :: c297 :: c298 :: c299 :: c300 :: c301 :: c302 :: c303 :: c304 :: c305 :: c306 :: c307 :: c308 :: c309 :: c310 :: c311 :: c312 :: c313 :: c314 :: c315 :: c316 :: c317 :: c318 :: c319 :: c320 :: c321 :: c322 :: c323 :: c324 :: c325 :: c326 :: c327 :: c328 :: c329 :: c330 :: c331 :: c332 :: c333 :: c334 :: c335 :: c336 :: c337 :: c338 :: c339 :: c340 :: c341 :: c342 :: c343 :: c344 :: c345 :: c346 :: c347 :: c348 :: c349 :: c350 :: c351 :: c352 :: c353 :: c354 :: c355 :: c356 :: c357 :: c358 :: c359 :: c360 :: c361 :: c362 :: c363 :: c364 :: c365 :: c366 :: c367 :: c368 :: c369 :: c370 :: c371 :: c372 :: c373 :: c374 :: c375 :: c376 :: c377 :: c378 :: c379 :: c380 :: c381 :: c382 :: c383 :: c384 :: c385 :: c386 :: c387 :: c388 :: c389 :: c390 :: c391 :: c392 :: c393 :: c394 :: c395 :: c396 :: c397 :: c398 :: c399 :: c400 :: c401 :: c402 :: c403 :: c404 :: c405 :: c406 :: c407 :: c408 :: c409 :: c410 :: c411 :: c412 :: c413 :: c414 :: c415 :: c416 :: c417 :: c418 :: c419 :: c420 :: c421 :: c422 :: c423 :: c424 :: c425 :: c426 :: c427 :: c428 :: c429 :: c430 :: c431 :: c432 :: c433 :: c434 :: c435 :: c436 :: c437 :: c438 :: c439 :: c440 :: c441 :: c442 :: c443 :: c444 :: c445 :: c446 :: c447 :: c448 :: c449 :: c450 :: c451 :: c452 :: c453 :: c454 :: c455 :: c456 :: c457 :: c458 :: c459 :: c460 :: c461 :: c462 :: c463 :: c464 :: c465 :: c466 :: c467 :: c468 :: c469 :: c470 :: c471 :: c472 :: c473 :: c474 :: c475 :: c476 :: c477 :: c478 :: c479 :: c480 :: c481 :: c482 :: c483 :: c484 :: c485 :: c486 :: c487 :: c488 :: c489 :: c490 :: c491 :: c492 :: c493 :: c494 :: c495 :: c496 :: c497 :: c498 :: c499 :: c500 :: c501 :: c502 :: c503 :: c504 :: c505 :: c506 :: []), dz⟩ w := by
  have HQ := hid hQ
  have k0 : w.cell? ⟨g.G, 0, none⟩ = some (.slice (some ⟨g.pb, 0, none⟩) g.n g.pcap) := by rw [← (hg.hpa hn0).1]; exact hg.ob.cell 0
  have HH := hid (And.intro hpos (And.intro hnx (And.intro hS (And.intro hA (And.intro hF (And.intro hI (And.intro hR (And.intro hG (And.intro hBg hBf)))))))))
  have Hv := hid (And.intro hv (And.intro hv2 (And.intro hv3 hD)))
  clear hQ hg hpos hnx hS hA hF hI hR hG hBg hBf hv hv2 hv3 hD
  conv => arg 2; whnf
  go_wp2
  go_loopw [23, 287] (fun a c wr => ∃ (k : Nat) (o1 : Nat → Nat) (gp rt d : Nat → Nat), k ≤ g.n ∧ c = .int .i64 (k : Int) ∧ a = .slice (some ⟨rb, 0, none⟩) (fl g s.gr k).length D ∧ Rw o1 wr 25 rb 3 D (ints (fl g s.gr k)) ∧ Uf g.n gp rt d ∧ Gq g.n (fun p => p < g.n ∧ dq g s.gr p = true) nx vc k rt ∧ Ar o1 wr 50 gb 3 g.n (fun i => .int .i64 (gp i : Int)) ∧ Step [25, 50] o w o1 wr) (fun a c _ => g.n - (intOf c).toNat)
  case atStart =>
    obtain ⟨hpos, hnx, hS, hA, hF, hI, hR, hG, hBg, hBf⟩ := HH.out
    exact ⟨0, o, fun p => p, fun p => p, fun _ => 0, Nat.zero_le _, rfl, rfl, by simpa [fl, ints] using hR, Uf.self g.n, ⟨fun p hp => absurd hp (by omega), fun x y _ _ e => .inl e⟩, hG, Step.refl _ _ _⟩
  case round =>
    obtain ⟨k, o1, gp, rt, d, hk, rfl, rfl, R1, U1, q1, G1, st⟩ := hrel
    by_cases hk2 : k < g.n
    · obtain ⟨hpos, hnx, hS, hA, hF, hI, hR, hG, hBg, hBf⟩ := HH.out
      obtain ⟨hv, hv2, hv3, hD⟩ := Hv.out
      have b1 : (k : Int) < (g.n : Int) := by omega
      have hfs := fl_succ g s.gr k
      have hfl := fl_le g s.gr k
      have S1 := hS.step st (by simp)
      have A1 := hA.step st (by simp)
      have F1 := hF.step st (by simp)
      have I1 := hI.step st (by simp)
      have Bg1 := hBg.step st (by simp)
      have Bf1 := hBf.step st (by simp)
      obtain ⟨cl, hcl⟩ : ∃ cl, (fl g s.gr k).length = cl := ⟨_, rfl⟩
      rw [hcl] at hfl ⊢
      have c3 : wr.cell? ⟨S, 3, none⟩ = some (.slice (some ⟨da, 0, none⟩) g.n g.n) := by rw [← hv]; exact S1.cell 3
      have d1 := A1.cell k hk2
      cases hd : dq g s.gr k with
      | false =>
        have hneg : ¬ 0 ≤ dv k := by rw [hpos k hk2, hd]; simp
        have e : fl g s.gr (k + 1) = fl g s.gr k := by rw [hfs, hd]; simp
        have HT := hid (And.intro R1 (And.intro U1 (And.intro (q1.skip (fun h => by have := h.2; rw [hd] at this; cases this)) (And.intro G1 (And.intro st (And.intro e hcl))))))
        clear hpos hnx hS hA hF hI hR hG hBg hBf hv hv2 hv3 hD hfs S1 A1 F1 I1 Bg1 Bf1 R1 U1 q1 G1 st e hcl hd
        go_wp2
        go_roundw
        case rel =>
          obtain ⟨R1, U1, q2, G1, st, e, hcl⟩ := HT.out
          exact ⟨k + 1, o1, gp, rt, d, by omega, by go_num, by rw [e, hcl], by rw [e]; exact R1, U1, q2, G1, st⟩
        case measure => simp [intOf]; omega
      | true =>
        obtain ⟨r5, r6, r7⟩ := hnx k hk2 hd
        obtain ⟨q, hqe⟩ : ∃ q, nx k = q := ⟨_, rfl⟩
        have hposk : 0 ≤ dv k := (hpos k hk2).2 hd
        have e : fl g s.gr (k + 1) = fl g s.gr k ++ [k] := by rw [hfs, hd]; simp
        have hmo := fl_mono g s.gr (show k + 1 ≤ g.n by omega)
        have hlD : cl < D := by rw [e] at hmo; simp [hcl] at hmo; rw [hD]; omega
        have hil : (ints (fl g s.gr k)).length = cl := by rw [ints_length]; exact hcl
        have ha := R1.app1 (cap := D) (by rw [hil]; exact hlD) (Nat.le_refl _) (.int .i64 (k : Int)) (.int .i64 0) rfl 24 24 8 Ybaz.underlying24 info3 3
        obtain ⟨X1, o2, TB, e2, z2, k2, t2, s2⟩ := alloc_step' o1 wr 99 (.cells #[.int .i64 (k : Int)] 3)
        rw [hil, e2, z2] at ha
        have R2 := R1.step s2 (by simp)
        have s3 := R2.sset cl (.int .i64 (k : Int)) (T := [25]) (by simp)
        have R3 := R2.push1 (.int .i64 (k : Int)) (by rw [hil]; exact hlD)
        rw [hil] at R3
        obtain ⟨X2, hX2⟩ : ∃ X2, X1.setCell ⟨rb, cl, none⟩ (.int .i64 (k : Int)) = X2 := ⟨_, rfl⟩
        rw [hX2] at ha s3 R3
        have s23 := (s2.mono (T' := [25]) (by simp)).trans s3
        have S2 := S1.step s23 (by simp)
        have F2 := F1.step s23 (by simp)
        have I2 := I1.step s23 (by simp)
        have Bg2 := Bg1.step s23 (by simp)
        have Bf2 := Bf1.step s23 (by simp)
        have G2 := G1.step s23 (by simp)
        have h4 : X2.cell? ⟨S, 4, none⟩ = some (.slice (some ⟨fb, 0, none⟩) (g.n + 1) (g.n + 1)) := by rw [← hv2]; exact S2.cell 4
        have h5 : X2.cell? ⟨S, 4 + 1, none⟩ = some (.slice (some ⟨ib, 0, none⟩) D D) := by rw [← hv3]; exact S2.cell 5
        have hx := F2.cell k (by omega)
        have hy := F2.cell (k + 1) (by omega)
        rw [hcl] at hx
        have e9 : (fl g s.gr (k + 1)).length = cl + 1 := by rw [e]; simp [hcl]
        rw [e9] at hy
        have HOF := hid (of_some S 4 fb ib (g.n + 1) D D k cl (cl + 1) X2 h4 h5 hx hy (by omega) (by omega) (by omega) (by omega) hlD)
        have hil2 : cl < (ints ((fl g s.gr g.n).map nx)).length := by rw [ints_length]; simp; omega
        have hiq : X2.cell? ⟨ib, cl, none⟩ = some (.int .i64 (q : Int)) := by
          rw [I2.cell cl hil2]
          have hpre : (fl g s.gr g.n)[cl]'(by rw [← hD]; exact hlD) = k := by
            have : fl g s.gr (k + 1) <+: fl g s.gr g.n := fl_pref g s.gr (by omega)
            have h9 := this.getElem (i := cl) (by rw [e9]; omega)
            rw [← h9]
            simp [e, hcl]
          simp [ints, hpre, hqe]
        have b5 : (cl : Int) < (D : Int) := by omega
        have hU := U1
        rw [hqe] at r5 r6 r7
        have HA := hid ha
        have HT := hid (And.intro R3 (And.intro U1 (And.intro q1 (And.intro G2 (And.intro (st.trans (s23.mono (by simp))) (And.intro e (And.intro e9 (And.intro Bg2 (And.intro Bf2 (And.intro hqe (And.intro r6 (And.intro r7 hd))))))))))))
        clear hpos hnx hS hA hF hI hR hG hBg hBf hv hv2 hv3 hD hfs S1 A1 F1 I1 Bg1 Bf1 R1 U1 q1 G1 st e hcl hd hil ha R2 s3 R3 s23 S2 F2 I2 Bg2 Bf2 G2 h4 h5 hx hy e9 hil2 hU hmo k2 t2 s2 r6 r7 hqe
        go_wp2_with (first | (go_at_call 17; refine HOF.out.mono ?_; rintro ee w3 ⟨rfl, mm, hmm⟩; have hiq3 : w3.cell? ⟨ib, cl, none⟩ = some (.int .i64 (q : Int)) := by { rw [hmm]; exact hiq }; have Hm := hid hmm; clear hmm) | (at_builtin; refine wpList_append_is rfl _ _ 24 rfl _ _ _ _ rfl rfl HA.out ?_))
        refine wp_loop_rounds 2 ?_
        rw [rounds_succ]
        go_wp2
        obtain ⟨R3, U1, q1, G2, sA, e, e9, Bg2, Bf2, hqe, r6, r7, hd⟩ := HT.out
        have sm : Step [] o2 X2 o2 w3 := by rw [Hm.out]; exact Step.drewN [] o2 X2 mm
        have sd := Step.drew [] o2 w3
        have Bg3 := Bg2.step sm (by simp)
        have Bf3 := Bf2.step sm (by simp)
        have G3 := (G2.step sm (by simp)).step sd (by simp)
        have y1 : w3.cell? ⟨Bg, 0, none⟩ = some (.slice (some ⟨gb, 0, none⟩) g.n g.n) := Bg3.cell 0
        have y2 : w3.cell? ⟨Bf, 0, none⟩ = some (.func (.func 16) #[] #[.pointer (some ⟨Bg, 0, none⟩)]) := Bf3.cell 0
        have HF1 := hid (find_any o2 w3.drew Bg gb g.n gp rt d U1 ((Bg3.step sd (by simp)).cell 0) (by rw [Bg3.tag]; decide) G3 hn q r5)
        have HT2 := hid (And.intro R3 (And.intro q1 (And.intro sA (And.intro e (And.intro e9 (And.intro Bg3 (And.intro Bf3 (And.intro hqe (And.intro r6 (And.intro r7 (And.intro hd (And.intro sm G3))))))))))))
        clear R3 q1 sA e e9 Bg2 Bf2 hqe r6 r7 hd sm sd Bg3 Bf3 G3 U1 G2 HT hiq hiq3 HOF HA
        refine wp_region_mix [(true, 0), (true, 1), (true, 2), (true, 4), (true, 5), (false, 3), (false, 6), (false, 7), (false, 8)] 8 (fun w' => w'.cell? ⟨Bg, 0, none⟩ = some (.slice (some ⟨gb, 0, none⟩) g.n g.n) ∧ w'.cell? ⟨Bf, 0, none⟩ = some (.func (.func 16) #[] #[.pointer (some ⟨Bg, 0, none⟩)])) (by kernel_rfl) (by kernel_rfl) (by kernel_rfl) (by kernel_rfl) ?_ ?_
        exact ⟨y1, y2⟩
        repeat
          refine mix_take (v := ?_) rfl (by rfl) ?_ ?_
          rotate_left
          · (intro w' hS; (try dsimp only at hS); go_simp; try with_reducible rfl)
          try simp only [Act.put, List.setIfInBounds_toArray, List.set_cons_zero, List.set_cons_succ]
        refine mix_step rfl (fun K hK => ?_)
        go_simp
        refine HF1.out.mono ?_
        rintro ee w4 ⟨rfl, gp4, U4, G4, s4⟩
        obtain ⟨R3, q1, sA, e, e9, Bg3, Bf3, hqe, r6, r7, hd, sm, G3⟩ := HT2.out
        have s4' := (Step.drew [50] o2 w3).trans s4
        have Bg4 := Bg3.step s4' (by simp)
        have Bf4 := Bf3.step s4' (by simp)
        have l1 : w4.cell? ⟨Bg, 0, none⟩ = some (.slice (some ⟨gb, 0, none⟩) g.n g.n) := Bg4.cell 0
        have l2 : w4.cell? ⟨Bf, 0, none⟩ = some (.func (.func 16) #[] #[.pointer (some ⟨Bg, 0, none⟩)]) := Bf4.cell 0
        have HF2 := hid (find_any o2 w4 Bg gb g.n gp4 rt d U4 (Bg4.cell 0) (by rw [Bg4.tag]; decide) G4 hn k hk2)
        refine hK.out _ _ (⟨l1, l2⟩) (fun hHeld => ?_)
        clear hK K hHeld
        try simp only [Act.put, List.setIfInBounds_toArray, List.set_cons_zero, List.set_cons_succ]
        refine mix_step rfl (fun K hK => ?_)
        go_simp
        refine HF2.out.mono ?_
        rintro ee w5 ⟨rfl, gp5, U5, G5, s5⟩
        have m1 : w5.cell? ⟨Bg, 0, none⟩ = some (.slice (some ⟨gb, 0, none⟩) g.n g.n) := (Bg4.step s5 (by simp)).cell 0
        have m2 : w5.cell? ⟨Bf, 0, none⟩ = some (.func (.func 16) #[] #[.pointer (some ⟨Bg, 0, none⟩)]) := (Bf4.step s5 (by simp)).cell 0
        have hrq := (U5.root q r5).1
        have hrk := (U5.root k hk2).1
        have n1 := G5.cell (rt q) hrq
        have n2 := G5.frozen (rt q)
        have b6 : (rt q : Int) < (g.n : Int) := by omega
        have HZ := hid (And.intro R3 (And.intro q1 (And.intro ((sA.trans (sm.mono (by simp))).trans ((s4'.mono (T' := [25, 50]) (by simp)).trans (s5.mono (T' := [25, 50]) (by simp)))) (And.intro e (And.intro e9 (And.intro hqe (And.intro r6 (And.intro r7 (And.intro hd (And.intro U5 (And.intro G5 ((sm.mono (T' := [50]) (by simp)).trans (s4'.trans s5)))))))))))))
        clear R3 q1 sA e e9 Bg3 Bf3 hqe r6 r7 hd sm G3 s4' Bg4 Bf4 U5 G5 s5 s4 U4 G4 HF1 HF2 HT2
        refine hK.out _ _ (⟨m1, m2⟩) (fun hHeld => ?_)
        clear hK K hHeld
        try simp only [Act.put, List.setIfInBounds_toArray, List.set_cons_zero, List.set_cons_succ]
        refine mix_step rfl (fun K hK => ?_)
        go_simp
        refine hK.out _ _ (⟨m1, m2⟩) (fun hHeld => ?_)
        clear hK K hHeld
        try simp only [Act.put, List.setIfInBounds_toArray, List.set_cons_zero, List.set_cons_succ]
        refine mix_last rfl (fun K hK => ?_)
        go_simp
        refine hK.out _ _ ?_
        clear hK K
        refine mix_nil (NoPanic.normal ?_)
        try simp only [Act.put]
        go_wp2
        rw [rounds_succ]
        go_wp2
        go_roundw
        case rel =>
          obtain ⟨R3, q1, sA, e, e9, hqe, r6, r7, hd, U5, G5, sB⟩ := HZ.out
          have s6 := G5.sset (rt q) (.int .i64 (rt k : Int)) (T := [50]) (by simp)
          have J := U5.join (a := rt q) (b := rt k) hrk (U5.rr r5) (U5.rr hk2) (U5.root k hk2).2
          have q2 := q1.join hk2 ⟨hk2, hd⟩ (by rw [hqe]; exact ⟨r5, r6⟩) (by rw [hqe]; exact r5) (by rw [hqe]; exact r7) (fun p hp => ⟨U5.rr hp, (U5.root p hp).1⟩)
          rw [hqe] at q2
          refine ⟨k + 1, o2, _, _, _, by omega, by go_num, by rw [e9], by rw [e, ints_snoc]; exact (R3.step sB (by simp)).step s6 (by simp), J, q2, (G5.set (rt q) (.int .i64 (rt k : Int))).congr fun i hi => ?_, sA.trans (s6.mono (by simp))⟩
          by_cases e1 : i = rt q
          · rw [if_pos e1, if_pos e1]
          · rw [if_neg e1, if_neg e1]
        case measure => simp [intOf]; omega
    · obtain rfl : k = g.n := by omega
      have b1 : ¬ (g.n : Int) < (g.n : Int) := by omega
      have HT := hid (And.intro R1 (And.intro U1 (And.intro q1 (And.intro G1 st))))
      clear R1 U1 q1 G1 st
      go_wp2
      obtain ⟨R1, U1, q1, G1, st⟩ := HT.out
      rw [← Hv.out.2.2.2]
      exact HQ.out _ _ _ _ _ _ _ _ _ _ _ _ _ _ _ _ _ _ _ _ _ _ _ _ _ _ _ _ _ _ _ _ _ _ o1 gp rt d R1 U1 q1 G1 st
end Go.Proofs.YbulkbmdoGreat
