import Derived.Test.YbulkbmdoGreatL3
namespace Go.Proofs.YbulkbmdoGreat
open Go.RowKit
set_option linter.unusedVariables false
set_option linter.unusedSimpArgs false
attribute [local go_sem ↓] Go.wp_at_zero Go.wp_at_succ

/-- The next one of a process, told as the law keeps it. -/
structure NxQ (n : Nat) (nI : Nat → Int) (nxo : Nat → Option Nat) : Prop where
  nn : ∀ i, i < n → nxo i = none → nI i < 0
  ss : ∀ i q, i < n → nxo i = some q → nI i = (q : Int)
  lt : ∀ i q, nxo i = some q → q < n
def nxg (nxo : Nat → Option Nat) (i : Nat) : Nat := (nxo i).getD 0
/-- Deadlocked: the chain never ends. -/
def dd (n : Nat) (nxo : Nat → Option Nat) (p : Nat) : Prop := p < n ∧ chain nxo n p ≠ none
open Classical in
noncomputable def vF (n : Nat) (nxo : Nat → Option Nat) (j : Nat → Nat) (p : Nat) : Int := if dd n nxo p then (vic n (nxg nxo) j p : Int) else -1

theorem chain_lt {n : Nat} {nI : Nat → Int} {nxo : Nat → Option Nat} (h : NxQ n nI nxo) : ∀ k p q, p < n → chain nxo k p = some q → q < n
  | 0, p, q, hp, e => by simp [chain] at e; omega
  | k + 1, p, q, hp, e => by
    simp only [chain] at e
    obtain ⟨r, _, h2⟩ := Option.bind_eq_some_iff.1 e
    exact h.lt _ _ h2
theorem chain_rep {nxo : Nat → Option Nat} : ∀ k p q, chain nxo k p = some q → Nat.repeat (nxg nxo) k p = q
  | 0, p, q, e => by simp [chain] at e; exact e
  | k + 1, p, q, e => by
    simp only [chain] at e
    obtain ⟨r, h1, h2⟩ := Option.bind_eq_some_iff.1 e
    rw [rep_out, chain_rep k p r h1]
    simp [nxg, h2]
theorem dd_all {n : Nat} {nI : Nat → Int} {nxo : Nat → Option Nat} (h : NxQ n nI nxo) {p : Nat} (hp : dd n nxo p) (k : Nat) : chain nxo k p ≠ none := fun he => hp.2 (chain_end n nxo h.lt hp.1 ⟨k, he⟩)
theorem dd_dw {n : Nat} {nI : Nat → Int} {nxo : Nat → Option Nat} (h : NxQ n nI nxo) (j : Nat → Nat) (hj : ∀ a b, a < n → b < n → j a = j b → a = b) : Dw n (dd n nxo) (nxg nxo) j := by
  refine ⟨fun p hp => hp.1, fun p hp => ?_, fun p q hp hq e => hj p q hp.1 hq.1 e⟩
  have h1 := dd_all h hp 1
  simp only [chain, Option.bind_some] at h1
  cases h2 : nxo p with
  | none => exact absurd h2 h1
  | some q =>
    have e : nxg nxo p = q := by simp [nxg, h2]
    rw [e]
    refine ⟨h.lt _ _ h2, fun he => ?_⟩
    have := dd_all h hp (n + 1)
    rw [chain_succ, h2] at this
    exact this he
theorem vF_alive {n : Nat} {nI : Nat → Int} {nxo : Nat → Option Nat} (h : NxQ n nI nxo) (j : Nat → Nat) {p k q : Nat} (h1 : chain nxo k p = some q) (h2 : nxo q = none) : vF n nxo j p = -1 := by
  unfold vF
  rw [if_neg]
  intro hd
  have := dd_all h hd (k + 1)
  simp only [chain, h1, Option.bind_some] at this
  exact this h2

theorem nI_dd {n : Nat} {nI : Nat → Int} {nxo : Nat → Option Nat} (h : NxQ n nI nxo) {p : Nat} (hp : dd n nxo p) : nI p = (nxg nxo p : Int) := by
  have h1 := dd_all h hp 1
  simp only [chain, Option.bind_some] at h1
  cases h2 : nxo p with
  | none => exact absurd h2 h1
  | some q => rw [h.ss p q hp.1 h2]; simp [nxg, h2]
theorem rep_mod {f : Nat → Nat} {K q : Nat} (h : Nat.repeat f K q = q) (b : Nat) : Nat.repeat f (b % K) q = Nat.repeat f b q := by
  have hmul : ∀ c, Nat.repeat f (K * c) q = q := by
    intro c
    induction c with
    | zero => rfl
    | succ c ih => rw [Nat.mul_succ, rep_add, h, ih]
  have e : b = b % K + K * (b / K) := (Nat.mod_add_div b K).symm
  have : Nat.repeat f b q = Nat.repeat f (b % K + K * (b / K)) q := by rw [← e]
  rw [this, rep_add, hmul]
theorem rep_uni {f : Nat → Nat} {K q : Nat} (h : Nat.repeat f K q = q) (hmin : ∀ x, 0 < x ∧ Nat.repeat f x q = q → K ≤ x) {a b : Nat} (ha : 1 ≤ a) (ha2 : a ≤ K) (hb : 1 ≤ b) (hb2 : b ≤ K) (e : Nat.repeat f a q = Nat.repeat f b q) : a = b := by
  have key : ∀ a b, 1 ≤ a → b ≤ K → a < b → Nat.repeat f a q = Nat.repeat f b q → False := fun a b h1 h2 h3 e => by
    have e2 : Nat.repeat f (K - b + a) q = q := by
      rw [rep_add, e, ← rep_add, Nat.sub_add_cancel h2, h]
    have := hmin _ ⟨by omega, e2⟩
    omega
  rcases Nat.lt_trichotomy a b with h1 | h1 | h1
  · exact (key a b ha hb2 h1 e).elim
  · exact h1
  · exact (key b a hb ha2 h1 e.symm).elim

set_option maxRecDepth 1000000 in
set_option maxHeartbeats 4000000 in
theorem l3_12 {Q : Exit → Act → World → Prop} {dz : List Deferred} {c0 c1 c2 c3 c4 c7 c8 c9 c10 c11 c12 c13 c15 c16 c17 c18 c20 c21 c22 c23 c24 c25 c26 c27 c28 c29 c30 c31 c32 c33 c34 c35 c36 c37 c38 c39 c40 c41 c42 c43 c44 c45 c46 c47 c48 c49 c50 c51 c52 c53 c54 c55 c56 c57 c58 c59 c60 c61 c62 c63 c64 c65 c66 c67 c68 c69 c70 c71 c72 c73 c74 c75 c76 c77 c78 c79 c80 c81 c82 c83 c84 c85 c86 c87 c88 c89 c90 c91 c92 c93 c94 c95 c96 c97 c98 c99 c100 c101 c102 c103 c104 c105 c106 c107 c108 c109 c110 c111 c112 c113 c114 c115 c116 c117 c118 c119 c120 c121 c122 c123 c124 c125 c126 c127 c128 c129 c130 c131 c132 c133 c134 c135 c136 c137 c138 c139 c140 c141 c142 c143 c144 c145 c146 c147 c148 c149 c150 c151 c152 c153 c154 c155 c156 c157 c158 c159 c160 c161 c162 c163 c164 c165 c166 c167 c168 c169 c170 c171 c172 c173 c174 c175 c176 c177 c178 c179 c180 c181 c182 c183 c184 c185 c186 c187 c188 c189 c190 c191 c192 c193 c194 c195 c196 c197 c198 c199 c200 c201 c202 c203 c204 c205 c206 c207 c208 c209 c210 c211 c212 c213 c214 c215 c216 c217 c218 c219 c220 c221 c222 c223 c224 c225 c226 c227 c228 c229 c230 c231 c232 c233 c234 c235 c236 c237 c238 c239 c240 c241 c242 c243 c244 c245 c246 c247 c248 c249 c250 c251 c252 c253 c254 c255 c256 c257 c258 c259 c260 c261 c262 c263 c264 c265 c266 c267 c268 c269 c270 c271 c272 c273 c274 c275 c276 c277 c278 c279 c280 c281 c282 c283 c284 c285 c286 c287 c288 c289 c290 c291 c292 c293 c294 c295 c296 c297 c298 c299 c300 c301 c302 c303 c304 c305 c306 c307 c308 c309 c310 c311 c312 c313 c314 c315 c316 c317 c318 c319 c320 c321 c322 c323 c324 c325 c326 c327 c328 c329 c330 c331 c332 c333 c334 c335 c336 c337 c338 c339 c340 : Value} {w : World} (o : Nat → Nat) (n jb xb vb : Nat) (j : Nat → Nat) (nI : Nat → Int) (nxo : Nat → Option Nat) (hn : n ≤ 300) (hx : NxQ n nI nxo) (hj : ∀ a b, a < n → b < n → j a = j b → a = b) (hJ : Ar o w 1001 jb 3 n (fun i => .int .i64 (j i : Int))) (hX : Ar o w 1004 xb 3 n (fun i => .int .i64 (nI i))) (hV : Ar o w 1005 vb 3 n (fun _ => .int .i64 0))
    (hQ : ∀ (u20 u21 u22 u23 u24 u25 u171 u172 u173 u174 u175 u176 u177 u178 u179 u180 u181 u182 u183 u184 u185 u186 u187 u188 u189 u190 u191 u192 u193 u194 u195 u196 u197 u198 u199 u200 u201 u202 u203 u204 u205 u206 u207 u208 u209 u210 u211 u212 u213 u214 u215 u216 u217 u218 u219 u220 : Value) (w' : World), Ar o w' 1005 vb 3 n (fun p => .int .i64 (vF n nxo j p)) → Step [1005] o w o w' → Q .normal ⟨List.toArray (c0 :: c1 :: c2 :: c3 :: c4 :: .int .i64 (n : Int) :: .slice (some ⟨jb, 0, none⟩) n n :: c7 :: c8 :: c9 :: c10 :: c11 :: c12 :: c13 :: .slice (some ⟨xb, 0, none⟩) n n :: c15 :: c16 :: c17 :: c18 :: .slice (some ⟨vb, 0, none⟩) n n :: u20 :: u21 :: u22 :: u23 :: u24 :: u25 :: c26 :: c27 :: c28 :: c29 :: c30 :: c31 :: c32 :: c33 :: c34 :: c35 :: c36 :: c37 :: c38 :: c39 :: c40 :: c41 :: c42 :: c43 :: c44 :: c45 :: c46 :: c47 :: c48 :: c49 :: c50 :: c51 :: c52 :: c53 :: c54 :: c55 :: c56 :: c57 :: c58 :: c59 :: c60 :: c61 :: c62 :: c63 :: c64 :: c65 :: c66 :: c67 :: c68 :: c69 :: c70 :: c71 :: c72 :: c73 :: c74 :: c75 :: c76 :: c77 :: c78 :: c79 :: c80 :: c81 :: c82 :: c83 :: c84 :: c85 :: c86 :: c87 :: c88 :: c89 :: c90 :: c91 :: c92 :: c93 :: c94 :: c95 :: c96 :: c97 :: c98 :: c99 :: c100 :: c101 :: c102 :: c103 :: c104 :: c105 :: c106 :: c107 :: c108 :: c109 :: c110 :: c111 :: c112 :: c113 :: c114 :: c115 :: c116 :: c117 :: c118 :: c119 :: c120 :: c121 :: c122 :: c123 :: c124 :: c125 :: c126 :: c127 :: c128 :: c129 :: c130 :: c131 :: c132 :: c133 :: c134 :: c135 :: c136 :: c137 :: c138 :: c139 :: c140 :: c141 :: c142 :: c143 :: c144 :: c145 :: c146 :: c147 :: c148 :: c149 :: c150 :: c151 :: c152 :: c153 :: c154 :: c155 :: c156 :: c157 :: c158 :: c159 :: c160 :: c161 :: c162 :: c163 :: c164 :: c165 :: c166 :: c167 :: c168 :: c169 :: c170 :: u171 :: u172 :: u173 :: u174 :: u175 :: u176 :: u177 :: u178 :: u179 :: u180 :: u181 :: u182 :: u183 :: u184 :: u185 :: u186 :: u187 :: u188 :: u189 :: u190 :: u191 :: u192 :: u193 :: u194 :: u195 :: u196 :: u197 :: u198 :: u199 :: u200 :: u201 :: u202 :: u203 :: u204 :: u205 :: u206 :: u207 :: u208 :: u209 :: u210 :: u211 :: u212 :: u213 :: u214 :: u215 :: u216 :: u217 :: u218 :: u219 :: u220 :: c221 :: c222 :: c223 :: c224 :: c225 :: c226 :: c227 :: c228 :: c229 :: c230 :: c231 :: c232 :: c233 :: c234 :: c235 :: c236 :: c237 :: c238 :: c239 :: c240 :: c241 :: c242 :: c243 :: c244 :: c245 :: c246 :: c247 :: c248 :: c249 :: c250 :: c251 :: c252 :: c253 :: c254 :: c255 :: c256 :: c257 :: c258 :: c259 :: c260 :: c261 :: c262 :: c263 :: c264 :: c265 :: c266 :: c267 :: c268 :: c269 :: c270 :: c271 :: c272 :: c273 :: c274 :: c275 :: c276 :: c277 :: c278 :: c279 :: c280 :: c281 :: c282 :: c283 :: c284 :: c285 :: c286 :: c287 :: c288 :: c289 :: c290 :: c291 :: c292 :: c293 :: c294 :: c295 :: c296 :: c297 :: c298 :: c299 :: c300 :: c301 :: c302 :: c303 :: c304 :: c305 :: c306 :: c307 :: c308 :: c309 :: c310 :: c311 :: c312 :: c313 :: c314 :: c315 :: c316 :: c317 :: c318 :: c319 :: c320 :: c321 :: c322 :: c323 :: c324 :: c325 :: c326 :: c327 :: c328 :: c329 :: c330 :: c331 :: c332 :: c333 :: c334 :: c335 :: c336 :: c337 :: c338 :: c339 :: c340 :: []), dz⟩ w') :
    Code.wp Ybaz.prog (st3 12) Q ⟨List.toArray (c0 :: c1 :: c2 :: c3 :: c4 :: .int .i64 (n : Int) :: .slice (some ⟨jb, 0, none⟩) n n :: c7 :: c8 :: c9 :: c10 :: c11 :: c12 :: c13 :: .slice (some ⟨xb, 0, none⟩) n n :: c15 :: c16 :: c17 :: c18 :: .slice (some ⟨vb, 0, none⟩) n n :: c20 :: c21 :: c22 :: c23 :: c24 :: c25 :: c26 :: c27 :: c28 :: c29 :: c30 :: c31 :: c32 :: c33 :: c34 :: c35 :: c36 :: c37 :: c38 :: c39 :: c40 :: c41 :: c42 :: c43 :: c44 :: c45 :: c46 :: c47 :: c48 :: c49 :: c50 :: c51 :: c52 :: c53 :: c54 :: c55 :: c56 :: c57 :: c58 :: c59 :: c60 :: c61 :: c62 :: c63 :: c64 :: c65 :: c66 :: c67 :: c68 :: c69 :: c70 :: c71 :: c72 :: c73 :: c74 :: c75 :: c76 :: c77 :: c78 :: c79 :: c80 :: c81 :: c82 :: c83 :: c84 :: c85 :: c86 :: c87 :: c88 :: c89 :: c90 :: c91 :: c92 :: c93 :: c94 :: c95 :: c96 :: c97 :: c98 :: c99 :: c100 :: c101 :: c102 :: c103 :: c104 :: c105 :: c106 :: c107 :: c108 :: c109 :: c110 :: c111 :: c112 :: c113 :: c114 :: c115 :: c116 :: c117 :: c118 :: c119 :: c120 :: c121 :: c122 :: c123 :: c124 :: c125 :: c126 :: c127 :: c128 :: c129 :: c130 :: c131 :: c132 :: c133 :: c134 :: c135 :: c136 :: c137 :: c138 :: c139 :: c140 :: c141 :: c142 :: c143 :: c144 :: c145 :: c146 :: c147 :: c148 :: c149 :: c150 :: c151 :: c152 :: c153 :: c154 :: c155 :: c156 :: c157 :: c158 :: c159 :: c160 :: c161 :: c162 :: c163 :: c164 :: c165 :: c166 :: c167 :: c168 :: c169 :: c170 :: c171 :: c172 :: c173 :: c174 :: c175 :: c176 :: c177 :: c178 :: c179 :: c180 :: c181 :: c182 :: c183 :: c184 :: c185 :: c186 :: c187 :: c188 :: c189 :: c190 :: c191 :: c192 :: c193 :: c194 :: c195 :: c196 :: c197 :: c198 :: c199 :: c200 :: c201 :: c202 :: c203 :: c204 :: c205 :: c206 :: c207 :: c208 :: c209 :: c210 :: c211 :: c212 :: c213 :: c214 :: c215 :: c216 :: c217 :: c218 :: c219 :: c220 :: c221 :: c222 :: c223 :: c224 :: c225 :: c226 :: c227 :: c228 :: c229 :: c230 :: c231 :: c232 :: c233 :: c234 :: c235 :: c236 :: c237 :: c238 :: c239 :: c240 :: c241 :: c242 :: c243 :: c244 :: c245 :: c246 :: c247 :: c248 :: c249 :: c250 :: c251 :: c252 :: c253 :: c254 :: c255 :: c256 :: c257 :: c258 :: c259 :: c260 :: c261 :: c262 :: c263 :: c264 :: c265 :: c266 :: c267 :: c268 :: c269 :: c270 :: c271 :: c272 :: c273 :: c274 :: c275 :: c276 :: c277 :: c278 :: c279 :: c280 :: c281 :: c282 :: c283 :: c284 :: c285 :: c286 :: c287 :: c288 :: c289 :: c290 :: c291 :: c292 :: c293 :: c294 :: c295 :: c296 :: c297 :: c298 :: c299 :: c300 :: c301 :: c302 :: c303 :: c304 :: c305 :: c306 :: c307 :: c308 :: c309 :: c310 :: c311 :: c312 :: c313 :: c314 :: c315 :: c316 :: c317 :: c318 :: c319 :: c320 :: c321 :: c322 :: c323 :: c324 :: c325 :: c326 :: c327 :: c328 :: c329 :: c330 :: c331 :: c332 :: c333 :: c334 :: c335 :: c336 :: c337 :: c338 :: c339 :: c340 :: []), dz⟩ w := by
  have HQ := hid hQ
  have HH := hid (And.intro hx (And.intro hj (And.intro hJ (And.intro hX hV))))
  clear hQ hx hj hJ hX hV
  conv => arg 2; whnf
  go_wp2
  go_loopw [20] (fun c wr => ∃ (k : Nat), k ≤ n ∧ c = .int .i64 (k : Int) ∧ Ar o wr 1005 vb 3 n (fun i => .int .i64 (if i < k then vF n nxo j i else 0)) ∧ Step [1005] o w o wr) (fun c _ => n - (intOf c).toNat)
  case atStart => exact ⟨0, Nat.zero_le _, rfl, by simpa using HH.out.2.2.2.2, Step.refl _ _ _⟩
  case round =>
    obtain ⟨k, hk, rfl, V1, st⟩ := hrel
    by_cases hk2 : k < n
    · have b1 : (k : Int) < (n : Int) := by omega
      have wk : IntKind.i64.wrap ((k : Int) + 1) = (k : Int) + 1 := by rw [IntKind.wrap_i64]; omega
      have x1 := V1.cell k hk2
      have x2 := V1.frozen k
      have s2 := V1.sset k (.int .i64 (-1)) (T := [1005]) (by simp)
      have V2 := V1.set k (.int .i64 (-1))
      obtain ⟨X2, hX2⟩ : ∃ X2, wr.setCell ⟨vb, k, none⟩ (.int .i64 (-1)) = X2 := ⟨_, rfl⟩
      rw [hX2] at s2 V2
      have st2 := st.trans s2
      have hX' := HH.out.2.2.2.1.step st2 (by simp)
      have hJ' := HH.out.2.2.1.step st2 (by simp)
      have HZ := hid (And.intro V2 (And.intro st2 (And.intro hX' hJ')))
      clear V1 st s2 V2 st2 hX' hJ'
      have relA : Hid (vF n nxo j k = -1 → ∃ k', k' ≤ n ∧ Value.int .i64 ((k : Int) + 1) = .int .i64 (k' : Int) ∧ Ar o X2 1005 vb 3 n (fun i => .int .i64 (if i < k' then vF n nxo j i else 0)) ∧ Step [1005] o w o X2) := fun hv => by
        obtain ⟨V2, st2, _, _⟩ := HZ.out
        refine ⟨k + 1, by omega, rfl, V2.congr fun i hi => ?_, st2⟩
        by_cases e : i = k
        · rw [if_pos e, if_pos (by omega : i < k + 1), e, hv]
        · by_cases e2 : i < k
          · rw [if_neg e, if_pos e2, if_pos (by omega : i < k + 1)]
          · rw [if_neg e, if_neg e2, if_neg (by omega : ¬ i < k + 1)]
      go_wp2
      go_loopw [21, 22, 23] (fun a b c wz => ∃ (i q : Nat), X2 = wz ∧ i ≤ n ∧ c = .int .i64 (i : Int) ∧ a = .int .i64 (q : Int) ∧ b = .bool false ∧ chain nxo i k = some q) (fun a b c _ => n - (intOf c).toNat)
      case atStart => exact ⟨0, k, rfl, Nat.zero_le _, rfl, rfl, rfl, rfl⟩
      case round =>
        obtain ⟨i, q, rfl, hi, rfl, rfl, rfl, hch⟩ := hrel
        have hqn := chain_lt HH.out.1 i k q hk2 hch
        by_cases hi2 : i < n
        · have b2 : (i : Int) < (n : Int) := by omega
          have b3 : (q : Int) < (n : Int) := by omega
          have wi : IntKind.i64.wrap ((i : Int) + 1) = (i : Int) + 1 := by rw [IntKind.wrap_i64]; omega
          have y1 := HZ.out.2.2.1.cell q hqn
          cases hq : nxo q with
          | none =>
            have hneg := HH.out.1.nn q hqn hq
            have hv := hid (vF_alive HH.out.1 j hch hq)
            clear hq hch
            go_wp2
            go_roundw
            case rel => exact relA.out hv.out
            case measure => simp [intOf]; omega
          | some r =>
            have hsr := HH.out.1.ss q r hqn hq
            rw [hsr] at y1
            have b4 : ¬ (r : Int) < 0 := by omega
            have hch2 := hid (show chain nxo (i + 1) k = some r by simp only [chain, hch, Option.bind_some]; exact hq)
            clear hq hch hsr
            go_wp2
            go_roundw
            case rel => exact ⟨i + 1, r, by trivial, by omega, by go_num, rfl, rfl, hch2.out⟩
            case measure => simp [intOf]; omega
        · obtain rfl : n = i := by omega
          have dw := dd_dw HH.out.1 j HH.out.2.1
          have hd : dd n nxo k := ⟨hk2, by rw [hch]; simp⟩
          have hrep := chain_rep n k q hch
          have hdq : dd n nxo q := by rw [← hrep]; exact dw.rep hd n
          obtain ⟨K, ⟨hK, hKq⟩, hmin⟩ := least (fun K => 0 < K ∧ Nat.repeat (nxg nxo) K q = q) (by rw [← hrep]; exact dw.back hd)
          have b2 : ¬ (n : Int) < (n : Int) := by omega
          have b3 : (q : Int) < (n : Int) := by omega
          have y1 := HZ.out.2.2.1.cell q hqn
          rw [nI_dd HH.out.1 hdq] at y1
          have HD := hid (And.intro dw (And.intro hd (And.intro hrep (And.intro hdq (And.intro hKq hmin)))))
          clear dw hd hrep hdq hKq hmin hch
          obtain ⟨q1, hq1⟩ : ∃ q1, nxg nxo q = q1 := ⟨_, rfl⟩
          rw [hq1] at y1
          have HE := hid hq1
          clear hq1
          go_wp2
          go_loopw [24, 25] (fun a b wz => ∃ (i m : Nat), Step [] o X2 o wz ∧ 1 ≤ i ∧ i ≤ K ∧ b = .int .i64 ((Nat.repeat (nxg nxo) i q : Nat) : Int) ∧ a = .int .i64 (m : Int) ∧ (∃ a', Nat.repeat (nxg nxo) a' q = m) ∧ ∀ b', b' < i → j m ≤ j (Nat.repeat (nxg nxo) b' q)) (fun _ b _ => K - Classical.epsilon (fun i : Nat => 1 ≤ i ∧ i ≤ K ∧ b = Value.int .i64 ((Nat.repeat (nxg nxo) i q : Nat) : Int)))
          case atStart => exact ⟨1, q, Step.refl _ _ _, Nat.le_refl _, hK, by rw [← HE.out]; rfl, rfl, ⟨0, rfl⟩, fun b' hb => by cases (show b' = 0 by omega); exact Nat.le_refl _⟩
          case round =>
            obtain ⟨i, m, sz, hi1, hi2, rfl, rfl, ⟨a', ha'⟩, hmn⟩ := hrel
            obtain ⟨dw, hd, hrep, hdq, hKq, hmin⟩ := HD.out
            have HZ2 := hid (And.intro (HZ.out.1.step sz (by simp)) (And.intro ((HZ.out.2.1.trans (sz.mono (by simp)))) (And.intro (HZ.out.2.2.1.step sz (by simp)) (HZ.out.2.2.2.step sz (by simp)))))
            have htd : dd n nxo (Nat.repeat (nxg nxo) i q) := dw.rep hdq i
            have hmd : dd n nxo m := by rw [← ha']; exact dw.rep hdq a'
            obtain ⟨t, ht⟩ : ∃ t, Nat.repeat (nxg nxo) i q = t := ⟨_, rfl⟩
            rw [ht] at htd ⊢
            have htn := htd.1
            have hmn2 := hmd.1
            by_cases hiK : i = K
            · have et : t = q := by rw [← ht, hiK]; exact hKq
              have hv : vF n nxo j k = (m : Int) := by
                unfold vF
                rw [if_pos hd]
                congr 1
                refine dw.vic_at hd ?_
                rw [hrep]
                refine ⟨⟨a', ha'⟩, fun b => ?_⟩
                rw [← rep_mod hKq b]
                exact hmn _ (by rw [hiK]; exact Nat.mod_lt _ hK)
              have z1 := HZ2.out.1.cell k hk2
              have z2 := HZ2.out.1.frozen k
              have s3 := HZ2.out.1.sset k (.int .i64 (m : Int)) (T := [1005]) (by simp)
              have V3 := HZ2.out.1.set k (.int .i64 (m : Int))
              have st3 := HZ2.out.2.1.trans s3
              obtain ⟨X3, hX3⟩ : ∃ X3, wr.setCell ⟨vb, k, none⟩ (.int .i64 (m : Int)) = X3 := ⟨_, rfl⟩
              rw [hX3] at V3 st3
              have HY := hid (And.intro hv (And.intro V3 st3))
              clear hv V3 st3 s3 dw hd hrep hdq hKq hmin htd hmd ht hmn ha'
              subst et
              go_wp2
              go_roundw
              case rel =>
                obtain ⟨hv, V3, st3⟩ := HY.out
                refine ⟨k + 1, by omega, by go_num, V3.congr fun i hi => ?_, st3⟩
                by_cases e : i = k
                · rw [if_pos e, if_pos (by omega : i < k + 1), e, hv]
                · by_cases e2 : i < k
                  · rw [if_neg e, if_neg e, if_pos e2, if_pos (by omega : i < k + 1)]
                  · rw [if_neg e, if_neg e, if_neg e2, if_neg (by omega : ¬ i < k + 1)]
              case measure => simp [intOf]; omega
            · have hne : ¬ t = q := fun e => by
                have := hmin i ⟨by omega, by rw [ht]; exact e⟩
                omega
              have b5 : ¬ (t : Int) = (q : Int) := by omega
              have b6 : (t : Int) < (n : Int) := by omega
              have b7 : (m : Int) < (n : Int) := by omega
              have j1 := HZ2.out.2.2.2.cell t htn
              have j2 := HZ2.out.2.2.2.cell m hmn2
              have y2 := HZ2.out.2.2.1.cell t htn
              rw [nI_dd HH.out.1 htd] at y2
              have hr2 : Nat.repeat (nxg nxo) (i + 1) q = nxg nxo t := by rw [rep_out, ht]
              have hme : ∀ i, 1 ≤ i → i ≤ K → Classical.epsilon (fun i' : Nat => 1 ≤ i' ∧ i' ≤ K ∧ Value.int .i64 ((Nat.repeat (nxg nxo) i q : Nat) : Int) = Value.int .i64 ((Nat.repeat (nxg nxo) i' q : Nat) : Int)) = i := fun i h1 h2 => by
                have := Classical.epsilon_spec (p := fun i' : Nat => 1 ≤ i' ∧ i' ≤ K ∧ Value.int .i64 ((Nat.repeat (nxg nxo) i q : Nat) : Int) = Value.int .i64 ((Nat.repeat (nxg nxo) i' q : Nat) : Int)) ⟨i, h1, h2, rfl⟩
                obtain ⟨g1, g2, g3⟩ := this
                exact rep_uni hKq (fun x h => hmin x h) g1 g2 h1 h2 (Int.ofNat.inj (Value.int.inj g3).2).symm
              have HF := hid (And.intro hr2 (And.intro hme (And.intro ht (And.intro ha' hmn))))
              clear hr2 hme ht hmn ha' dw hd hrep hdq hKq hmin htd hmd
              by_cases hlt : j t < j m
              · have b8 : (j t : Int) < (j m : Int) := by omega
                go_wp2
                go_quiet (fail)
                go_wp2
                have sz2 := hid (sz.trans (Step.drewN [] o wr nq))
                clear sz
                go_roundw
                case rel =>
                  obtain ⟨hr2, hme, ht, ha', hmn⟩ := HF.out
                  refine ⟨i + 1, t, sz2.out, by omega, by omega, by rw [hr2], rfl, ⟨i, ht⟩, fun b' hb => ?_⟩
                  by_cases e : b' = i
                  · rw [e, ht]; exact Nat.le_refl _
                  · have := hmn b' (by omega); omega
                case measure =>
                  obtain ⟨hr2, hme, ht, ha', hmn⟩ := HF.out
                  rw [← hr2, ← ht, hme i hi1 hi2, hme (i + 1) (by omega) (by omega)]; omega
              · have b8 : ¬ (j t : Int) < (j m : Int) := by omega
                go_wp2
                go_quiet (fail)
                go_wp2
                have sz2 := hid (sz.trans (Step.drewN [] o wr nq))
                clear sz
                go_roundw
                case rel =>
                  obtain ⟨hr2, hme, ht, ha', hmn⟩ := HF.out
                  refine ⟨i + 1, m, sz2.out, by omega, by omega, by rw [hr2], rfl, ⟨a', ha'⟩, fun b' hb => ?_⟩
                  by_cases e : b' = i
                  · rw [e, ht]; omega
                  · exact hmn b' (by omega)
                case measure =>
                  obtain ⟨hr2, hme, ht, ha', hmn⟩ := HF.out
                  rw [← hr2, ← ht, hme i hi1 hi2, hme (i + 1) (by omega) (by omega)]; omega
    · obtain rfl : k = n := by omega
      have b1 : ¬ (k : Int) < (k : Int) := by omega
      have HT := hid (And.intro V1 st)
      clear V1 st
      go_wp2
      exact HQ.out _ _ _ _ _ _ _ _ _ _ _ _ _ _ _ _ _ _ _ _ _ _ _ _ _ _ _ _ _ _ _ _ _ _ _ _ _ _ _ _ _ _ _ _ _ _ _ _ _ _ _ _ _ _ _ _ _ (HT.out.1.congr fun i hi => by rw [if_pos hi]) HT.out.2
end Go.Proofs.YbulkbmdoGreat
