import Derived.Test.YbulkbmdoGreatL4
import Derived.Test.YbulkbmdoGreatD10
namespace Go.Proofs.YbulkbmdoGreat
open Go.RowKit
set_option linter.unusedVariables false
set_option linter.unusedSimpArgs false
attribute [local go_sem ↓] Go.wp_at_zero Go.wp_at_succ

def T15 : List Nat := [1006, 1007] ++ (List.range 700).map fun j => 1100 + j
theorem t15_no {t : Nat} (h : t < 1100) (h1 : t ≠ 1006) (h2 : t ≠ 1007) : t ∉ T15 := by
  simp [T15, h1, h2]; omega
theorem t15_in {j : Nat} (h : j < 700) : 1100 + j ∈ T15 := by
  simp [T15]
  exact .inr (.inr h)
def strs' (id : Nat → ByteArray) (L : List Nat) : List Value := L.map fun p => .string (id p)
theorem strs'_snoc (id : Nat → ByteArray) (L : List Nat) (p : Nat) : strs' id (L ++ [p]) = strs' id L ++ [.string (id p)] := by simp [strs']
/-- The dead ones met when the pair numbers below k are walked. -/
def wl (pos vf : Nat → Int) : Nat → List Nat
  | 0 => []
  | k + 1 => if pos k < 0 ∨ vf (pos k).toNat < 0 then wl pos vf k else wl pos vf k ++ [(pos k).toNat]
theorem wl_len (pos vf : Nat → Int) : ∀ k, (wl pos vf k).length ≤ k
  | 0 => Nat.le_refl _
  | k + 1 => by
    have := wl_len pos vf k
    simp only [wl]
    split <;> simp <;> omega
theorem mem_key {rt : Nat → Nat} {kk : List Nat} {x i : Nat} {L : List Nat} (h : ∀ p ∈ L, rt p ∈ kk) : mem rt (kk ++ [x]) i L = mem rt kk i L := by
  unfold mem
  refine List.filter_congr fun p hp => ?_
  rw [List.idxOf_append, if_pos (h p hp)]
theorem mem_none {rt : Nat → Nat} {kk : List Nat} {L : List Nat} (h : ∀ p ∈ L, rt p ∈ kk) : mem rt kk kk.length L = [] := by
  unfold mem
  rw [List.filter_eq_nil_iff]
  intro p hp
  have := List.idxOf_lt_length_of_mem (h p hp)
  simp; omega
/-- The deadlocks wanted so far. -/
structure L15 (o : Nat → Nat) (W : World) (id : Nat → ByteArray) (n ab : Nat) (vn : Nat → Nat) (wv : Value) (kk L : List Nat) (mv vv : Nat → Value) : Prop where
  ds : S3 o W 1007 wv kk.length (D3 mv vv kk.length)
  ms : ∀ i, i < kk.length → Sl o W (1100 + i) 32 (mv i) (strs' id (mem vn kk i L))
  vs : ∀ i, i < kk.length → ∃ b, vv i = .slice (some ⟨b, 0, none⟩) 1 1 ∧ Ob o W 1008 b 32 #[.string (id (kk.getD i 0))]
  ar : Ar o W 1006 ab 3 n (fun r => .int .i64 ((kat kk r : Nat) : Int))
theorem L15.step {o o' : Nat → Nat} {W W' : World} {id : Nat → ByteArray} {n ab : Nat} {vn : Nat → Nat} {wv : Value} {kk L : List Nat} {mv vv : Nat → Value} {T : List Nat} (h : L15 o W id n ab vn wv kk L mv vv) (s : Step T o W o' W') (h1 : 1007 ∉ T) (h2 : ∀ i, i < kk.length → 1100 + i ∉ T) (h3 : 1008 ∉ T) (h4 : 1006 ∉ T) : L15 o' W' id n ab vn wv kk L mv vv :=
  ⟨h.ds.step s h1, fun i hi => (h.ms i hi).step s (h2 i hi), fun i hi => by obtain ⟨b, e, ob⟩ := h.vs i hi; exact ⟨b, e, ob.step s h3⟩, h.ar.step s h4⟩

set_option maxRecDepth 1000000 in
set_option maxHeartbeats 4000000 in
theorem l3_15 {Q : Exit → Act → World → Prop} {dz : List Deferred} {c0 c1 c2 c3 c4 c5 c6 c9 c10 c11 c12 c13 c14 c15 c16 c17 c18 c20 c21 c22 c23 c24 c25 c28 c29 c30 c31 c32 c33 c34 c35 c36 c37 c38 c39 c40 c41 c42 c43 c44 c45 c46 c47 c48 c49 c50 c51 c52 c53 c54 c55 c56 c57 c58 c59 c60 c61 c62 c63 c64 c65 c66 c67 c68 c69 c70 c71 c72 c73 c74 c75 c76 c77 c78 c79 c80 c81 c82 c83 c84 c85 c86 c87 c88 c89 c90 c91 c92 c93 c94 c95 c96 c97 c98 c99 c100 c101 c102 c103 c104 c105 c106 c107 c108 c109 c110 c111 c112 c113 c114 c115 c116 c117 c118 c119 c120 c121 c122 c123 c124 c125 c126 c127 c128 c129 c130 c131 c132 c133 c134 c135 c136 c137 c138 c139 c140 c141 c142 c143 c144 c145 c146 c147 c148 c149 c150 c151 c152 c153 c154 c155 c156 c157 c158 c159 c160 c161 c162 c163 c164 c165 c166 c167 c168 c169 c170 c171 c172 c173 c174 c175 c176 c177 c178 c179 c180 c181 c182 c183 c184 c185 c186 c187 c188 c189 c190 c191 c192 c193 c194 c195 c196 c197 c198 c199 c200 c201 c202 c203 c204 c205 c206 c207 c208 c209 c210 c211 c212 c213 c214 c215 c216 c217 c218 c219 c220 c221 c222 c223 c224 c225 c226 c227 c228 c229 c230 c231 c232 c233 c234 c235 c236 c237 c238 c239 c240 c241 c242 c243 c244 c245 c246 c247 c248 c249 c250 c251 c252 c253 c254 c255 c256 c257 c258 c259 c260 c261 c262 c263 c264 c265 c266 c267 c268 c269 c270 c271 c272 c273 c274 c275 c276 c277 c278 c279 c280 c281 c282 c283 c284 c285 c286 c287 c288 c289 c290 c291 c292 c293 c294 c295 c296 c297 c298 c299 c300 c301 c302 c303 c304 c305 c306 c307 c308 c309 c310 c311 c312 c313 c314 c315 c316 c317 c318 c319 c320 c321 c322 c323 c324 c325 c326 c327 c328 c329 c330 c331 c332 c333 c334 c335 c336 c337 c338 c339 c340 : Value} {w : World} (o : Nat → Nat) (n ib pb vb ab : Nat) (id : Nat → ByteArray) (pos vf : Nat → Int) (hn : n ≤ 300) (hpos : ∀ k, k < 676 → pos k < 0 ∨ ∃ p, p < n ∧ pos k = (p : Int)) (hvf : ∀ p, p < n → vf p < 0 ∨ ∃ v, v < n ∧ vf p = (v : Int)) (hI : Ar o w 1002 ib 32 n (fun i => .string (id i))) (hP : Ar o w 1003 pb 3 676 (fun j => .int .i64 (pos j))) (hV : Ar o w 1005 vb 3 n (fun i => .int .i64 (vf i))) (hA : Ar o w 1006 ab 3 n (fun _ => .int .i64 0))
    (hQ : ∀ (u28 u29 u30 u31 u223 u224 u225 u226 u227 u228 u229 u230 u231 u232 u233 u234 u235 u236 u237 u238 u239 u240 u241 u242 u243 u244 u245 u246 u247 u248 u249 u250 u251 u252 u253 u254 u255 u256 u257 u258 u259 u260 u261 u262 u263 u264 u265 u266 u267 u268 u269 u270 u271 u272 u273 u274 u275 u276 u277 u278 u279 u280 u281 u282 : Value) (w' : World) (o' : Nat → Nat) (wv : Value) (mv vv : Nat → Value), L15 o' w' id n ab (fun p => (vf p).toNat) wv (ks (fun p => (vf p).toNat) (wl pos vf 676)) (wl pos vf 676) mv vv → Step T15 o w o' w' → Q .normal ⟨List.toArray (c0 :: c1 :: c2 :: c3 :: c4 :: c5 :: c6 :: .slice (some ⟨ib, 0, none⟩) n n :: .slice (some ⟨pb, 0, none⟩) 676 676 :: c9 :: c10 :: c11 :: c12 :: c13 :: c14 :: c15 :: c16 :: c17 :: c18 :: .slice (some ⟨vb, 0, none⟩) n n :: c20 :: c21 :: c22 :: c23 :: c24 :: c25 :: .slice (some ⟨ab, 0, none⟩) n n :: wv :: u28 :: u29 :: u30 :: u31 :: c32 :: c33 :: c34 :: c35 :: c36 :: c37 :: c38 :: c39 :: c40 :: c41 :: c42 :: c43 :: c44 :: c45 :: c46 :: c47 :: c48 :: c49 :: c50 :: c51 :: c52 :: c53 :: c54 :: c55 :: c56 :: c57 :: c58 :: c59 :: c60 :: c61 :: c62 :: c63 :: c64 :: c65 :: c66 :: c67 :: c68 :: c69 :: c70 :: c71 :: c72 :: c73 :: c74 :: c75 :: c76 :: c77 :: c78 :: c79 :: c80 :: c81 :: c82 :: c83 :: c84 :: c85 :: c86 :: c87 :: c88 :: c89 :: c90 :: c91 :: c92 :: c93 :: c94 :: c95 :: c96 :: c97 :: c98 :: c99 :: c100 :: c101 :: c102 :: c103 :: c104 :: c105 :: c106 :: c107 :: c108 :: c109 :: c110 :: c111 :: c112 :: c113 :: c114 :: c115 :: c116 :: c117 :: c118 :: c119 :: c120 :: c121 :: c122 :: c123 :: c124 :: c125 :: c126 :: c127 :: c128 :: c129 :: c130 :: c131 :: c132 :: c133 :: c134 :: c135 :: c136 :: c137 :: c138 :: c139 :: c140 :: c141 :: c142 :: c143 :: c144 :: c145 :: c146 :: c147 :: c148 :: c149 :: c150 :: c151 :: c152 :: c153 :: c154 :: c155 :: c156 :: c157 :: c158 :: c159 :: c160 :: c161 :: c162 :: c163 :: c164 :: c165 :: c166 :: c167 :: c168 :: c169 :: c170 :: c171 :: c172 :: c173 :: c174 :: c175 :: c176 :: c177 :: c178 :: c179 :: c180 :: c181 :: c182 :: c183 :: c184 :: c185 :: c186 :: c187 :: c188 :: c189 :: c190 :: c191 :: c192 :: c193 :: c194 :: c195 :: c196 :: c197 :: c198 :: c199 :: c200 :: c201 :: c202 :: c203 :: c204 :: c205 :: c206 :: c207 :: c208 :: c209 :: c210 :: c211 :: c212 :: c213 :: c214 :: c215 :: c216 :: c217 :: c218 :: c219 :: c220 :: c221 :: c222 :: u223 :: u224 :: u225 :: u226 :: u227 :: u228 :: u229 :: u230 :: u231 :: u232 :: u233 :: u234 :: u235 :: u236 :: u237 :: u238 :: u239 :: u240 :: u241 :: u242 :: u243 :: u244 :: u245 :: u246 :: u247 :: u248 :: u249 :: u250 :: u251 :: u252 :: u253 :: u254 :: u255 :: u256 :: u257 :: u258 :: u259 :: u260 :: u261 :: u262 :: u263 :: u264 :: u265 :: u266 :: u267 :: u268 :: u269 :: u270 :: u271 :: u272 :: u273 :: u274 :: u275 :: u276 :: u277 :: u278 :: u279 :: u280 :: u281 :: u282 :: c283 :: c284 :: c285 :: c286 :: c287 :: c288 :: c289 :: c290 :: c291 :: c292 :: c293 :: c294 :: c295 :: c296 :: c297 :: c298 :: c299 :: c300 :: c301 :: c302 :: c303 :: c304 :: c305 :: c306 :: c307 :: c308 :: c309 :: c310 :: c311 :: c312 :: c313 :: c314 :: c315 :: c316 :: c317 :: c318 :: c319 :: c320 :: c321 :: c322 :: c323 :: c324 :: c325 :: c326 :: c327 :: c328 :: c329 :: c330 :: c331 :: c332 :: c333 :: c334 :: c335 :: c336 :: c337 :: c338 :: c339 :: c340 :: []), dz⟩ w') :
    Code.wp Ybaz.prog (st3 15) Q ⟨List.toArray (c0 :: c1 :: c2 :: c3 :: c4 :: c5 :: c6 :: .slice (some ⟨ib, 0, none⟩) n n :: .slice (some ⟨pb, 0, none⟩) 676 676 :: c9 :: c10 :: c11 :: c12 :: c13 :: c14 :: c15 :: c16 :: c17 :: c18 :: .slice (some ⟨vb, 0, none⟩) n n :: c20 :: c21 :: c22 :: c23 :: c24 :: c25 :: .slice (some ⟨ab, 0, none⟩) n n :: .slice none 0 0 :: c28 :: c29 :: c30 :: c31 :: c32 :: c33 :: c34 :: c35 :: c36 :: c37 :: c38 :: c39 :: c40 :: c41 :: c42 :: c43 :: c44 :: c45 :: c46 :: c47 :: c48 :: c49 :: c50 :: c51 :: c52 :: c53 :: c54 :: c55 :: c56 :: c57 :: c58 :: c59 :: c60 :: c61 :: c62 :: c63 :: c64 :: c65 :: c66 :: c67 :: c68 :: c69 :: c70 :: c71 :: c72 :: c73 :: c74 :: c75 :: c76 :: c77 :: c78 :: c79 :: c80 :: c81 :: c82 :: c83 :: c84 :: c85 :: c86 :: c87 :: c88 :: c89 :: c90 :: c91 :: c92 :: c93 :: c94 :: c95 :: c96 :: c97 :: c98 :: c99 :: c100 :: c101 :: c102 :: c103 :: c104 :: c105 :: c106 :: c107 :: c108 :: c109 :: c110 :: c111 :: c112 :: c113 :: c114 :: c115 :: c116 :: c117 :: c118 :: c119 :: c120 :: c121 :: c122 :: c123 :: c124 :: c125 :: c126 :: c127 :: c128 :: c129 :: c130 :: c131 :: c132 :: c133 :: c134 :: c135 :: c136 :: c137 :: c138 :: c139 :: c140 :: c141 :: c142 :: c143 :: c144 :: c145 :: c146 :: c147 :: c148 :: c149 :: c150 :: c151 :: c152 :: c153 :: c154 :: c155 :: c156 :: c157 :: c158 :: c159 :: c160 :: c161 :: c162 :: c163 :: c164 :: c165 :: c166 :: c167 :: c168 :: c169 :: c170 :: c171 :: c172 :: c173 :: c174 :: c175 :: c176 :: c177 :: c178 :: c179 :: c180 :: c181 :: c182 :: c183 :: c184 :: c185 :: c186 :: c187 :: c188 :: c189 :: c190 :: c191 :: c192 :: c193 :: c194 :: c195 :: c196 :: c197 :: c198 :: c199 :: c200 :: c201 :: c202 :: c203 :: c204 :: c205 :: c206 :: c207 :: c208 :: c209 :: c210 :: c211 :: c212 :: c213 :: c214 :: c215 :: c216 :: c217 :: c218 :: c219 :: c220 :: c221 :: c222 :: c223 :: c224 :: c225 :: c226 :: c227 :: c228 :: c229 :: c230 :: c231 :: c232 :: c233 :: c234 :: c235 :: c236 :: c237 :: c238 :: c239 :: c240 :: c241 :: c242 :: c243 :: c244 :: c245 :: c246 :: c247 :: c248 :: c249 :: c250 :: c251 :: c252 :: c253 :: c254 :: c255 :: c256 :: c257 :: c258 :: c259 :: c260 :: c261 :: c262 :: c263 :: c264 :: c265 :: c266 :: c267 :: c268 :: c269 :: c270 :: c271 :: c272 :: c273 :: c274 :: c275 :: c276 :: c277 :: c278 :: c279 :: c280 :: c281 :: c282 :: c283 :: c284 :: c285 :: c286 :: c287 :: c288 :: c289 :: c290 :: c291 :: c292 :: c293 :: c294 :: c295 :: c296 :: c297 :: c298 :: c299 :: c300 :: c301 :: c302 :: c303 :: c304 :: c305 :: c306 :: c307 :: c308 :: c309 :: c310 :: c311 :: c312 :: c313 :: c314 :: c315 :: c316 :: c317 :: c318 :: c319 :: c320 :: c321 :: c322 :: c323 :: c324 :: c325 :: c326 :: c327 :: c328 :: c329 :: c330 :: c331 :: c332 :: c333 :: c334 :: c335 :: c336 :: c337 :: c338 :: c339 :: c340 :: []), dz⟩ w := by
  have HQ := hid hQ
  have HH := hid (And.intro hpos (And.intro hvf (And.intro hI (And.intro hP (And.intro hV hA)))))
  clear hQ hpos hvf hI hP hV hA
  obtain ⟨vn, hvn⟩ : ∃ vn, (fun p => (vf p).toNat) = vn := ⟨_, rfl⟩
  rw [hvn] at HQ
  have HN := hid hvn
  clear hvn
  conv => arg 2; whnf
  go_wp2
  go_loopw [27, 28] (fun wv c wr => ∃ (k : Nat) (o1 : Nat → Nat) (mv vv : Nat → Value), k ≤ 676 ∧ c = .int .i64 (k : Int) ∧ L15 o1 wr id n ab vn wv (ks vn (wl pos vf k)) (wl pos vf k) mv vv ∧ Step T15 o w o1 wr) (fun _ c _ => 676 - (intOf c).toNat)
  case atStart =>
    obtain ⟨hpos, hvf, hI, hP, hV, hA⟩ := HH.out
    exact ⟨0, o, fun _ => .slice none 0 0, fun _ => .slice none 0 0, Nat.zero_le _, rfl, ⟨S3.nil _ _ _, fun i hi => absurd hi (by simp [ks, wl]), fun i hi => absurd hi (by simp [ks, wl]), hA⟩, Step.refl _ _ _⟩
  case round =>
    obtain ⟨k, o1, mv, vv, hk, rfl, T1, st⟩ := hrel
    by_cases hk2 : k < 676
    · obtain ⟨hpos, hvf, hI, hP, hV, hA⟩ := HH.out
      have no : ∀ t ∈ [1002, 1003, 1005, 1008], t ∉ T15 := fun t ht => by simp at ht; exact t15_no (by omega) (by omega) (by omega)
      have P1 := hP.step st (no _ (by simp))
      have V1 := hV.step st (no _ (by simp))
      have I1 := hI.step st (no _ (by simp))
      have x1 := P1.cell k hk2
      have b1 : (k : Int) < 676 := by omega
      have wk : IntKind.i64.wrap ((k : Int) + 1) = (k : Int) + 1 := by rw [IntKind.wrap_i64]; omega
      rcases hpos k hk2 with hneg | ⟨p, hpn, hpk⟩
      · have e2 : wl pos vf (k + 1) = wl pos vf k := by simp only [wl]; rw [if_pos (.inl hneg)]
        have HT := hid (And.intro T1 (And.intro st e2))
        clear T1 st hpos hvf hI hP hV hA no P1 V1 I1 e2
        go_wp2
        go_roundw
        case rel =>
          obtain ⟨T1, st, e2⟩ := HT.out
          exact ⟨k + 1, o1, mv, vv, by omega, by go_num, by rw [e2]; exact T1, st⟩
        case measure => simp [intOf]; omega
      have x2 := V1.cell p hpn
      rw [hpk] at x1
      have b2 : (p : Int) < (n : Int) := by omega
      rcases hvf p hpn with hneg | ⟨v, hvn, hpv⟩
      · have e2 : wl pos vf (k + 1) = wl pos vf k := by simp only [wl]; rw [if_pos (.inr (by rw [hpk]; exact hneg))]
        have HT := hid (And.intro T1 (And.intro st e2))
        clear T1 st hpos hvf hI hP hV hA no P1 V1 I1 e2 hpk
        go_wp2
        go_roundw
        case rel =>
          obtain ⟨T1, st, e2⟩ := HT.out
          exact ⟨k + 1, o1, mv, vv, by omega, by go_num, by rw [e2]; exact T1, st⟩
        case measure => simp [intOf]; omega
      have e2 : wl pos vf (k + 1) = wl pos vf k ++ [p] := by simp only [wl]; rw [if_neg (by rw [hpk]; simp only [Int.toNat_natCast, hpv]; omega), hpk]; simp
      have e3 : vn p = v := by rw [← HN.out]; simp [hpv]
      have hll := wl_len pos vf k
      have hkl := ks_len vn (wl pos vf k)
      have hin : ∀ q ∈ wl pos vf k, vn q ∈ ks vn (wl pos vf k) := fun q hq => (ks_mem _ _ _).2 ⟨q, hq, rfl⟩
      have e4 := ks_snoc vn (wl pos vf k) p
      rw [← e2, e3] at e4
      obtain ⟨L, hL⟩ : ∃ L, wl pos vf k = L := ⟨_, rfl⟩
      obtain ⟨kk, hkk⟩ : ∃ kk, ks vn (wl pos vf k) = kk := ⟨_, rfl⟩
      rw [hkk] at e4 hkl hin T1
      rw [hL] at e2 hll hkl hin T1
      rw [hpv] at x2
      clear hL hkk hpk hpv
      have b3 : (v : Int) < (n : Int) := by omega
      have x3 := T1.ar.cell v hvn
      by_cases hm : v ∈ kk
      · rw [if_pos hm] at e4
        rw [kat_pos hm] at x3
        have hix := List.idxOf_lt_length_of_mem hm
        obtain ⟨i, hi⟩ : ∃ i, kk.idxOf v = i := ⟨_, rfl⟩
        rw [hi] at hix x3
        obtain ⟨K, hK⟩ : ∃ K, kk.length = K := ⟨_, rfl⟩
        obtain ⟨rb, rc, hwv, hc1, hc2, _, _⟩ := T1.ds.some_of (by omega)
        rw [hK] at hwv hix hc1 hkl
        subst hwv
        have b4 : ¬ ((i : Int) + 1) = 0 := by omega
        have wi : IntKind.i64.wrap ((i : Int) + 1 - 1) = (i : Int) := by rw [IntKind.wrap_i64]; omega
        have b5 : (i : Int) < (K : Int) := by omega
        have T2 := T1
        have st2 := st
        have I2 := I1
        have HT := hid (And.intro T2 (And.intro st2 (And.intro e2 (And.intro e3 (And.intro e4 (And.intro hi (And.intro I2 hK)))))))
        clear T1 st hpos hvf hI hP hV hA no P1 V1 I1 e2 e3 e4 hm hi hin hK T2 st2 I2
        go_upto_region 70 with fail
        clear x3
        obtain ⟨T2, st2, e2, e3, e4, hi, I2, hK⟩ := HT.out
        have hml : (strs' id (mem vn kk i L)).length ≤ 700 := by have := mem_len vn kk i L; simp [strs']; omega
        have sd := Step.drew [] o1 wr
        have M2 := (T2.ms i (by omega)).step sd (by simp)
        obtain ⟨ga, gc, w3, ra, _, o4, M3, s3⟩ := M2.app_gen Ybaz.underlying25 info32' rfl (by omega) (by omega) (.string (id p)) rfl 32
        obtain ⟨q1, hq1⟩ : ∃ q1, (strs' id (mem vn kk i L)).length + 1 = q1 := ⟨_, rfl⟩
        rw [hq1] at ra M3
        rw [← strs'_snoc] at M3
        have D2 := T2.ds
        rw [hK] at D2
        obtain ⟨d1, d2, d3⟩ := D3_at mv vv K i hix
        have g1 : (wr).cell? ⟨rb, i * 3, none⟩ = some (mv i) := by rw [D2.cell _ (by omega), d1]
        have g2 : (wr).cell? ⟨ib, p, none⟩ = some (.string (id p)) := I2.cell p hpn
        have s13 := (Step.drew [1100 + i] o1 wr).trans s3
        have D4 := D2.step s13 (by simp; omega)
        have I4 := I2.step s13 (by simp; omega)
        have l1 : w3.cell? ⟨rb, i * 3, none⟩ = some (mv i) := by rw [D4.cell _ (by omega), d1]
        have l2 : w3.cell? ⟨ib, p, none⟩ = some (.string (id p)) := I4.cell p hpn
        have l3 : w3.frozen? ⟨rb, i * 3, none⟩ = false := D4.frozen _
        have s5 := D4.sset (i * 3) (.slice (some ⟨ga, 0, none⟩) q1 gc) (T := [1007]) (by simp)
        have D5 := D4.set (i * 3) (.slice (some ⟨ga, 0, none⟩) q1 gc)
        rw [D3_set0 _ _ _ K i hix] at D5
        obtain ⟨w5, hw5⟩ : ∃ w5, w3.setCell ⟨rb, i * 3, none⟩ (.slice (some ⟨ga, 0, none⟩) q1 gc) = w5 := ⟨_, rfl⟩
        rw [hw5] at s5 D5
        have Ms5 : ∀ q, q < kk.length → Sl o4 w5 (1100 + q) 32 (if q = i then .slice (some ⟨ga, 0, none⟩) q1 gc else mv q) (strs' id (mem vn kk q (L ++ [p]))) := fun q hq => by
          rw [mem_snoc, e3, hi]
          by_cases e : q = i
          · subst e
            rw [if_pos rfl, if_pos rfl]
            exact M3.step s5 (by simp; omega)
          · rw [if_neg e, if_neg (fun h => e h.symm)]
            exact ((T2.ms q hq).step s13 (by simp; omega)).step s5 (by simp; omega)
        have T5 : L15 o4 w5 id n ab vn (.slice (some ⟨rb, 0, none⟩) K rc) kk (L ++ [p]) (fun q => if q = i then .slice (some ⟨ga, 0, none⟩) q1 gc else mv q) vv := by
          refine ⟨by rw [hK]; exact D5, Ms5, fun q hq => ?_, (T2.ar.step s13 (by simp; omega)).step s5 (by simp)⟩
          obtain ⟨b, h1, h2⟩ := T2.vs q hq
          exact ⟨b, h1, (h2.step s13 (by simp; omega)).step s5 (by simp)⟩
        have stB := st2.trans ((s13.mono (T' := T15) (by intro t ht; simp at ht; subst ht; exact t15_in (by omega))).trans (s5.mono (T' := T15) (by intro t ht; simp at ht; subst ht; simp [T15])))
        have HRA := hid ra
        have HZ := hid (And.intro T5 (And.intro stB (And.intro e2 e4)))
        clear T2 st2 e2 e3 e4 hi I2 hK HT hml sd M2 ra M3 D2 d1 d2 d3 s13 s3 D4 I4 s5 D5 Ms5 T5 stB hq1
        refine wp_region_mix [(true, 0), (true, 1), (true, 2), (true, 3), (true, 4), (true, 5), (true, 6), (true, 7), (true, 8), (true, 9), (true, 10), (false, 11), (false, 12), (false, 13), (false, 14), (false, 15)] 15 (fun w' => w'.cell? ⟨rb, i * 3, none⟩ = some (mv i) ∧ w'.cell? ⟨ib, p, none⟩ = some (.string (id p))) (by kernel_rfl) (by kernel_rfl) (by kernel_rfl) (by kernel_rfl) ?_ ?_
        exact ⟨g1, g2⟩
        repeat
          refine mix_take (v := ?_) rfl (by rfl) ?_ ?_
          rotate_left
          · (intro w' hS; (try dsimp only at hS); go_simp; try with_reducible rfl)
          try simp only [Act.put, List.setIfInBounds_toArray, List.set_cons_zero, List.set_cons_succ]
        refine mix_step rfl (fun K hK => ?_)
        go_simp
        refine hK.out _ _ (⟨cellUp g1 _, cellUp g2 _⟩) (fun hHeld => ?_)
        clear hK K hHeld
        try simp only [Act.put, List.setIfInBounds_toArray, List.set_cons_zero, List.set_cons_succ]
        refine mix_step rfl (fun K hK => ?_)
        refine step_append_is (by rfl) _ _ 25 (by rfl) _ _ _ _ (by rfl) (by rfl) HRA.out ?_
        refine hK.out _ _ (⟨l1, l2⟩) (fun hHeld => ?_)
        clear hK K hHeld
        try simp only [Act.put, List.setIfInBounds_toArray, List.set_cons_zero, List.set_cons_succ]
        refine mix_step rfl (fun K hK => ?_)
        go_simp
        refine hK.out _ _ (⟨l1, l2⟩) (fun hHeld => ?_)
        clear hK K hHeld
        try simp only [Act.put, List.setIfInBounds_toArray, List.set_cons_zero, List.set_cons_succ]
        refine mix_step rfl (fun K hK => ?_)
        go_simp
        refine hK.out _ _ (⟨l1, l2⟩) (fun hHeld => ?_)
        clear hK K hHeld
        try simp only [Act.put, List.setIfInBounds_toArray, List.set_cons_zero, List.set_cons_succ]
        refine mix_last rfl (fun K hK => ?_)
        go_simp
        refine hK.out _ _ ?_
        clear hK K
        refine mix_nil (NoPanic.normal ?_)
        try simp only [Act.put]
        clear g1 g2 l1 l2 l3 HRA
        go_wp2
        go_roundw
        case rel =>
          obtain ⟨T5, stB, e2, e4⟩ := HZ.out
          exact ⟨k + 1, o4, _, _, by omega, by go_num, by rw [e4, e2]; exact T5, stB⟩
        case measure => simp [intOf]; omega
      · rw [if_neg hm] at e4
        rw [kat_zero hm] at x3
        obtain ⟨K, hK⟩ : ∃ K, kk.length = K := ⟨_, rfl⟩
        have x4 := I1.cell v hvn
        rw [hK] at hkl
        obtain ⟨X1, o2, B1, f1, z1, k1, t1, s1⟩ := alloc_step' o1 wr 1008 (.cells #[.string (id v)] 32)
        have OB : Ob o2 X1 1008 B1 32 #[.string (id v)] := ⟨k1, t1⟩
        have T2 := T1.step s1 (by simp) (by simp) (by simp) (by simp)
        have D2 := T2.ds
        rw [hK] at D2
        obtain ⟨rb, rc, X2, ra, o3, D3', s3⟩ := D2.app_run (by omega) (.slice none 0 0) (.slice (some ⟨B1, 0, none⟩) 1 1) (.int .u8 2) rfl rfl rfl
        have A3 := T2.ar.step s3 (by simp)
        have y1 := A3.cell v hvn
        have y2 := A3.frozen v
        have s4 := A3.sset v (.int .i64 ((K : Int) + 1)) (T := [1006]) (by simp)
        have A4 := A3.set v (.int .i64 ((K : Int) + 1))
        obtain ⟨X4, hX4⟩ : ∃ X4, X2.setCell ⟨ab, v, none⟩ (.int .i64 ((K : Int) + 1)) = X4 := ⟨_, rfl⟩
        rw [hX4] at s4 A4
        have y3 : X4.cell? ⟨ab, v, none⟩ = some (.int .i64 ((K : Int) + 1)) := by have := A4.cell v hvn; simpa using this
        have s14 := (s1.mono (T' := [1006, 1007]) (by simp)).trans ((s3.mono (T' := [1006, 1007]) (by simp)).trans (s4.mono (T' := [1006, 1007]) (by simp)))
        have st2 := st.trans (s14.mono (T' := T15) (by intro t ht; simp at ht; rcases ht with rfl | rfl <;> simp [T15]))
        have I2 := I1.step s14 (by simp)
        have hK1 : (kk ++ [v]).length = K + 1 := by simp [hK]
        have T3 : L15 o3 X4 id n ab vn (.slice (some ⟨rb, 0, none⟩) (K + 1) rc) (kk ++ [v]) L (fun q => if q = K then .slice none 0 0 else mv q) (fun q => if q = K then .slice (some ⟨B1, 0, none⟩) 1 1 else vv q) := by
          refine ⟨?_, fun q hq => ?_, fun q hq => ?_, A4.congr fun r hr => ?_⟩
          · rw [hK1]
            have e5 : D3 (fun q => if q = K then Value.slice none 0 0 else mv q) (fun q => if q = K then Value.slice (some ⟨B1, 0, none⟩) 1 1 else vv q) (K + 1) = D3 mv vv K ++ [.slice none 0 0, .slice (some ⟨B1, 0, none⟩) 1 1, .int .u8 2] := by
              rw [D3_succ]
              simp only [if_true]
              rw [D3_ext (mv' := mv) (vv' := vv) (fun q hq => if_neg (by omega)) (fun q hq => if_neg (by omega))]
            rw [e5]
            exact D3'.step s4 (by simp)
          · rw [mem_key hin]
            by_cases e : q = K
            · rw [if_pos e, e, ← hK, mem_none hin]; exact Sl.nil _ _ _ _
            · rw [if_neg e]; exact ((T2.ms q (by omega)).step s3 (by simp; omega)).step s4 (by simp; omega)
          · by_cases e : q = K
            · refine ⟨B1, if_pos e, ?_⟩
              have : (kk ++ [v]).getD q 0 = v := by rw [e, ← hK]; simp
              rw [this]; exact (OB.step s3 (by simp)).step s4 (by simp)
            · obtain ⟨b, g1, g2⟩ := T2.vs q (by omega)
              refine ⟨b, by rw [if_neg e]; exact g1, ?_⟩
              have : (kk ++ [v]).getD q 0 = kk.getD q 0 := by rw [List.getD_eq_getElem?_getD, List.getD_eq_getElem?_getD, List.getElem?_append_left (by omega)]
              rw [this]; exact (g2.step s3 (by simp)).step s4 (by simp)
          · by_cases e : r = v
            · rw [if_pos e, e, kat_snoc_self hm, hK]; simp
            · rw [if_neg e, kat_snoc_other e]
        obtain ⟨mv2, hmv2⟩ : ∃ mv2, (fun q => if q = K then Value.slice none 0 0 else mv q) = mv2 := ⟨_, rfl⟩
        obtain ⟨vv2, hvv2⟩ : ∃ vv2, (fun q => if q = K then Value.slice (some ⟨B1, 0, none⟩) 1 1 else vv q) = vv2 := ⟨_, rfl⟩
        rw [hmv2, hvv2] at T3
        have hi : (kk ++ [v]).idxOf v = K := by rw [List.idxOf_append, if_neg hm]; simp [hK]
        have wi : IntKind.i64.wrap ((K : Int) + 1 - 1) = (K : Int) := by rw [IntKind.wrap_i64]; omega
        obtain ⟨i, hiK⟩ : ∃ i, K = i := ⟨_, rfl⟩
        obtain ⟨kk2, hkk2⟩ : ∃ kk2, kk ++ [v] = kk2 := ⟨_, rfl⟩
        rw [hkk2] at hi hK1 e4 T3
        have HRA0 := hid ra
        have HT := hid (And.intro T3 (And.intro st2 (And.intro e2 (And.intro e3 (And.intro e4 (And.intro hi (And.intro I2 hK1)))))))
        clear T1 st hpos hvf hI hP hV hA no P1 V1 I1 e2 e3 e4 hm hi hin hK T3 st2 I2 hkk2 hmv2 hvv2 hK1 k1 t1 s1 OB T2 D2 D3' s3 A3 s4 A4 s14 ra hiK
        go_upto_region 70 with (at_builtin; refine wpList_append_is rfl _ _ 40 rfl _ _ _ _ rfl rfl HRA0.out ?_)
        clear x3 x4 y1 y2 y3 f1 z1 HRA0 hX4 wi
        obtain ⟨i, hiK⟩ : ∃ i, K = i := ⟨_, rfl⟩
        obtain ⟨K2, hK2⟩ : ∃ K2, K + 1 = K2 := ⟨_, rfl⟩
        rw [hK2] at HT ⊢
        rw [hiK] at HT ⊢
        have hix : i < K2 := by omega
        have hkl : K2 ≤ 700 := by omega
        have b5 : (i : Int) < (K2 : Int) := by omega
        clear hK2 hiK
        obtain ⟨T2, st2, e2, e3, e4, hi, I2, hK⟩ := HT.out
        have hml : (strs' id (mem vn kk2 i L)).length ≤ 700 := by have := mem_len vn kk2 i L; simp [strs']; omega
        have sd := Step.drew [] o3 X4
        have M2 := (T2.ms i (by omega)).step sd (by simp)
        obtain ⟨ga, gc, w3, ra, _, o4, M3, s3⟩ := M2.app_gen Ybaz.underlying25 info32' rfl (by omega) (by omega) (.string (id p)) rfl 32
        obtain ⟨q1, hq1⟩ : ∃ q1, (strs' id (mem vn kk2 i L)).length + 1 = q1 := ⟨_, rfl⟩
        rw [hq1] at ra M3
        rw [← strs'_snoc] at M3
        have D2 := T2.ds
        rw [hK] at D2
        obtain ⟨d1, d2, d3⟩ := D3_at mv2 vv2 K2 i hix
        have g1 : (X4).cell? ⟨rb, i * 3, none⟩ = some (mv2 i) := by rw [D2.cell _ (by omega), d1]
        have g2 : (X4).cell? ⟨ib, p, none⟩ = some (.string (id p)) := I2.cell p hpn
        have s13 := (Step.drew [1100 + i] o3 X4).trans s3
        have D4 := D2.step s13 (by simp; omega)
        have I4 := I2.step s13 (by simp; omega)
        have l1 : w3.cell? ⟨rb, i * 3, none⟩ = some (mv2 i) := by rw [D4.cell _ (by omega), d1]
        have l2 : w3.cell? ⟨ib, p, none⟩ = some (.string (id p)) := I4.cell p hpn
        have l3 : w3.frozen? ⟨rb, i * 3, none⟩ = false := D4.frozen _
        have s5 := D4.sset (i * 3) (.slice (some ⟨ga, 0, none⟩) q1 gc) (T := [1007]) (by simp)
        have D5 := D4.set (i * 3) (.slice (some ⟨ga, 0, none⟩) q1 gc)
        rw [D3_set0 _ _ _ K2 i hix] at D5
        obtain ⟨w5, hw5⟩ : ∃ w5, w3.setCell ⟨rb, i * 3, none⟩ (.slice (some ⟨ga, 0, none⟩) q1 gc) = w5 := ⟨_, rfl⟩
        rw [hw5] at s5 D5
        have Ms5 : ∀ q, q < kk2.length → Sl o4 w5 (1100 + q) 32 (if q = i then .slice (some ⟨ga, 0, none⟩) q1 gc else mv2 q) (strs' id (mem vn kk2 q (L ++ [p]))) := fun q hq => by
          rw [mem_snoc, e3, hi]
          by_cases e : q = i
          · subst e
            rw [if_pos rfl, if_pos rfl]
            exact M3.step s5 (by simp; omega)
          · rw [if_neg e, if_neg (fun h => e h.symm)]
            exact ((T2.ms q hq).step s13 (by simp; omega)).step s5 (by simp; omega)
        have T5 : L15 o4 w5 id n ab vn (.slice (some ⟨rb, 0, none⟩) K2 rc) kk2 (L ++ [p]) (fun q => if q = i then .slice (some ⟨ga, 0, none⟩) q1 gc else mv2 q) vv2 := by
          refine ⟨by rw [hK]; exact D5, Ms5, fun q hq => ?_, (T2.ar.step s13 (by simp; omega)).step s5 (by simp)⟩
          obtain ⟨b, h1, h2⟩ := T2.vs q hq
          exact ⟨b, h1, (h2.step s13 (by simp; omega)).step s5 (by simp)⟩
        have stB := st2.trans ((s13.mono (T' := T15) (by intro t ht; simp at ht; subst ht; exact t15_in (by omega))).trans (s5.mono (T' := T15) (by intro t ht; simp at ht; subst ht; simp [T15])))
        have HRA := hid ra
        have HZ := hid (And.intro T5 (And.intro stB (And.intro e2 e4)))
        clear T2 st2 e2 e3 e4 hi I2 hK HT hml sd M2 ra M3 D2 d1 d2 d3 s13 s3 D4 I4 s5 D5 Ms5 T5 stB hq1
        refine wp_region_mix [(true, 0), (true, 1), (true, 2), (true, 3), (true, 4), (true, 5), (true, 6), (true, 7), (true, 8), (true, 9), (true, 10), (false, 11), (false, 12), (false, 13), (false, 14), (false, 15)] 15 (fun w' => w'.cell? ⟨rb, i * 3, none⟩ = some (mv2 i) ∧ w'.cell? ⟨ib, p, none⟩ = some (.string (id p))) (by kernel_rfl) (by kernel_rfl) (by kernel_rfl) (by kernel_rfl) ?_ ?_
        exact ⟨g1, g2⟩
        repeat
          refine mix_take (v := ?_) rfl (by rfl) ?_ ?_
          rotate_left
          · (intro w' hS; (try dsimp only at hS); go_simp; try with_reducible rfl)
          try simp only [Act.put, List.setIfInBounds_toArray, List.set_cons_zero, List.set_cons_succ]
        refine mix_step rfl (fun K hK => ?_)
        go_simp
        refine hK.out _ _ (⟨cellUp g1 _, cellUp g2 _⟩) (fun hHeld => ?_)
        clear hK K hHeld
        try simp only [Act.put, List.setIfInBounds_toArray, List.set_cons_zero, List.set_cons_succ]
        refine mix_step rfl (fun K hK => ?_)
        refine step_append_is (by rfl) _ _ 25 (by rfl) _ _ _ _ (by rfl) (by rfl) HRA.out ?_
        refine hK.out _ _ (⟨l1, l2⟩) (fun hHeld => ?_)
        clear hK K hHeld
        try simp only [Act.put, List.setIfInBounds_toArray, List.set_cons_zero, List.set_cons_succ]
        refine mix_step rfl (fun K hK => ?_)
        go_simp
        refine hK.out _ _ (⟨l1, l2⟩) (fun hHeld => ?_)
        clear hK K hHeld
        try simp only [Act.put, List.setIfInBounds_toArray, List.set_cons_zero, List.set_cons_succ]
        refine mix_step rfl (fun K hK => ?_)
        go_simp
        refine hK.out _ _ (⟨l1, l2⟩) (fun hHeld => ?_)
        clear hK K hHeld
        try simp only [Act.put, List.setIfInBounds_toArray, List.set_cons_zero, List.set_cons_succ]
        refine mix_last rfl (fun K hK => ?_)
        go_simp
        refine hK.out _ _ ?_
        clear hK K
        refine mix_nil (NoPanic.normal ?_)
        try simp only [Act.put]
        clear g1 g2 l1 l2 l3 HRA
        go_wp2
        go_roundw
        case rel =>
          obtain ⟨T5, stB, e2, e4⟩ := HZ.out
          exact ⟨k + 1, o4, _, _, by omega, by go_num, by rw [e4, e2]; exact T5, stB⟩
        case measure => simp [intOf]; omega
    · obtain rfl : k = 676 := by omega
      have b1 : ¬ ((676 : Nat) : Int) < 676 := by omega
      have HT := hid (And.intro T1 st)
      clear T1 st
      go_wp2
      exact HQ.out _ _ _ _ _ _ _ _ _ _ _ _ _ _ _ _ _ _ _ _ _ _ _ _ _ _ _ _ _ _ _ _ _ _ _ _ _ _ _ _ _ _ _ _ _ _ _ _ _ _ _ _ _ _ _ _ _ _ _ _ _ _ _ _ _ o1 _ mv vv HT.out.1 HT.out.2
end Go.Proofs.YbulkbmdoGreat
