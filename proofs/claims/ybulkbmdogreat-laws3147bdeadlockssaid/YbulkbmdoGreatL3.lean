import Derived.Test.YbulkbmdoGreatL2
namespace Go.Proofs.YbulkbmdoGreat
open Go.RowKit
set_option linter.unusedVariables false
set_option linter.unusedSimpArgs false
attribute [local go_sem ↓] Go.wp_at_zero Go.wp_at_succ

/-- The graph's cells: cd i what i waits on (n: runs; n + 1: an undeclared id). -/
def ct (cd : Nat → Nat) (n k : Nat) : Nat := ((List.range k).filter fun i => cd i != n).length
def tilde : ByteArray := ⟨#[126]⟩
def tdf (cd : Nat → Nat) (id : Nat → ByteArray) (n i : Nat) : ByteArray := if cd i < n then id (cd i) else tilde
def rtf (cd : Nat → Nat) (n i : Nat) : Int := if cd i = n then -1 else (ct cd n i : Int)
def fnf (cd : Nat → Nat) (n i : Nat) : Int := if cd i = n then -1 else (ct cd n i : Int) + 1
def nxf (cd : Nat → Nat) (n i : Nat) : Int := if cd i = n then -1 else if cd i < n then (cd i : Int) else -2
def pcl (cd : Nat → Nat) (id : Nat → ByteArray) (n k : Nat) : List Value := (List.range k).flatMap fun i => [.string (id i), .int .i64 (rtf cd n i), .int .i64 (fnf cd n i)]
def ncl (cd : Nat → Nat) (id : Nat → ByteArray) (n k : Nat) : List Value := ((List.range k).filter fun i => cd i != n).flatMap fun i => [.string (tdf cd id n i), .int .i64 0, .int .i64 (-1 - (i : Int))]
theorem ct_succ (cd : Nat → Nat) (n k : Nat) : ct cd n (k + 1) = if cd k = n then ct cd n k else ct cd n k + 1 := by
  unfold ct
  rw [List.range_succ, List.filter_append]
  by_cases h : cd k = n <;> simp [h]
theorem ct_le (cd : Nat → Nat) (n k : Nat) : ct cd n k ≤ k := by
  have := List.length_filter_le (fun i => cd i != n) (List.range k)
  unfold ct; simpa using this
theorem pcl_succ (cd : Nat → Nat) (id : Nat → ByteArray) (n k : Nat) : pcl cd id n (k + 1) = pcl cd id n k ++ [.string (id k), .int .i64 (rtf cd n k), .int .i64 (fnf cd n k)] := by simp [pcl, List.range_succ]
theorem ncl_succ (cd : Nat → Nat) (id : Nat → ByteArray) (n k : Nat) : ncl cd id n (k + 1) = if cd k = n then ncl cd id n k else ncl cd id n k ++ [.string (tdf cd id n k), .int .i64 0, .int .i64 (-1 - (k : Int))] := by
  unfold ncl
  rw [List.range_succ, List.filter_append]
  by_cases h : cd k = n <;> simp [h]

/-- The graph while it is built. -/
structure LG (o : Nat → Nat) (W : World) (n G mb xb : Nat) (cd : Nat → Nat) (id : Nat → ByteArray) (k : Nat) (pv nv : Value) : Prop where
  gr : Ob o W 10 G 31 #[pv, .map (some mb), nv, .slice none 0 0]
  ps : SK o W 11 36 pv k (pcl cd id n k)
  ns : SK o W 12 39 nv (ct cd n k) (ncl cd id n k)
  nx : Ar o W 1004 xb 3 n (fun i => .int .i64 (if i < k then nxf cd n i else 0))

set_option maxRecDepth 1000000 in
set_option maxHeartbeats 4000000 in
theorem l3_10 {Q : Exit → Act → World → Prop} {dz : List Deferred} {c1 c2 c3 c4 c6 c8 c9 c11 c12 c13 c15 c16 c17 c18 c19 c20 c21 c22 c23 c24 c25 c26 c27 c28 c29 c30 c31 c32 c33 c34 c35 c36 c37 c38 c39 c40 c41 c42 c43 c44 c45 c46 c47 c48 c49 c50 c51 c52 c53 c54 c55 c56 c57 c58 c59 c60 c61 c62 c63 c64 c65 c66 c67 c68 c69 c70 c71 c72 c73 c74 c75 c76 c77 c78 c79 c80 c81 c82 c83 c84 c85 c86 c87 c88 c89 c90 c91 c92 c93 c94 c95 c96 c97 c98 c99 c100 c101 c102 c103 c104 c105 c106 c107 c108 c109 c110 c111 c112 c113 c114 c115 c116 c117 c118 c119 c120 c121 c122 c123 c124 c125 c126 c127 c128 c129 c130 c131 c132 c133 c134 c135 c136 c137 c138 c139 c140 c141 c142 c143 c144 c145 c146 c147 c148 c149 c150 c151 c152 c153 c154 c155 c156 c157 c158 c159 c160 c161 c162 c163 c164 c165 c166 c167 c168 c169 c170 c171 c172 c173 c174 c175 c176 c177 c178 c179 c180 c181 c182 c183 c184 c185 c186 c187 c188 c189 c190 c191 c192 c193 c194 c195 c196 c197 c198 c199 c200 c201 c202 c203 c204 c205 c206 c207 c208 c209 c210 c211 c212 c213 c214 c215 c216 c217 c218 c219 c220 c221 c222 c223 c224 c225 c226 c227 c228 c229 c230 c231 c232 c233 c234 c235 c236 c237 c238 c239 c240 c241 c242 c243 c244 c245 c246 c247 c248 c249 c250 c251 c252 c253 c254 c255 c256 c257 c258 c259 c260 c261 c262 c263 c264 c265 c266 c267 c268 c269 c270 c271 c272 c273 c274 c275 c276 c277 c278 c279 c280 c281 c282 c283 c284 c285 c286 c287 c288 c289 c290 c291 c292 c293 c294 c295 c296 c297 c298 c299 c300 c301 c302 c303 c304 c305 c306 c307 c308 c309 c310 c311 c312 c313 c314 c315 c316 c317 c318 c319 c320 c321 c322 c323 c324 c325 c326 c327 c328 c329 c330 c331 c332 c333 c334 c335 c336 c337 c338 c339 c340 : Value} {w : World} (o : Nat → Nat) (n ib G mb xb cap : Nat) (a : Option Addr) (wv cd : Nat → Nat) (id : Nat → ByteArray) (hn : n ≤ 300) (hwv : ∀ i, i < n → wv i < 65536) (hcd : ∀ i, cd i = wv i % (n + 2)) (ha : 0 < n → ∃ x, a = some x ∧ o x.block = 5000 ∧ ∀ i, i < n → w.cell? (x.add i) = some (.int .u16 (wv i : Int))) (hI : Ar o w 1002 ib 32 n (fun i => .string (id i))) (h0 : LG o w n G mb xb cd id 0 (.slice none 0 0) (.slice none 0 0))
    (hQ : ∀ (u15 u16 u17 u18 u87 u88 u89 u90 u91 u92 u93 u94 u95 u96 u97 u98 u99 u100 u101 u102 u103 u104 u105 u106 u107 u108 u109 u110 u111 u112 u113 u114 u115 u116 u117 u118 u119 u120 u121 u122 u123 u124 u125 u126 u127 u128 u129 u130 u131 u132 u133 u134 u135 u136 u137 u138 u139 u140 u141 u142 u143 u144 u145 u146 u147 u148 u149 u150 u151 u152 u153 u154 u155 u156 u157 u158 u159 u160 u161 u162 u163 u164 u165 u166 u167 u168 : Value) (w' : World) (o' : Nat → Nat) (pv nv : Value), LG o' w' n G mb xb cd id n pv nv → Step [10, 11, 12, 1004] o w o' w' → Q .normal ⟨List.toArray (.slice a n cap :: c1 :: c2 :: c3 :: c4 :: .int .i64 (n : Int) :: c6 :: .slice (some ⟨ib, 0, none⟩) n n :: c8 :: c9 :: .pointer (some ⟨G, 0, none⟩) :: c11 :: c12 :: c13 :: .slice (some ⟨xb, 0, none⟩) n n :: u15 :: u16 :: u17 :: u18 :: c19 :: c20 :: c21 :: c22 :: c23 :: c24 :: c25 :: c26 :: c27 :: c28 :: c29 :: c30 :: c31 :: c32 :: c33 :: c34 :: c35 :: c36 :: c37 :: c38 :: c39 :: c40 :: c41 :: c42 :: c43 :: c44 :: c45 :: c46 :: c47 :: c48 :: c49 :: c50 :: c51 :: c52 :: c53 :: c54 :: c55 :: c56 :: c57 :: c58 :: c59 :: c60 :: c61 :: c62 :: c63 :: c64 :: c65 :: c66 :: c67 :: c68 :: c69 :: c70 :: c71 :: c72 :: c73 :: c74 :: c75 :: c76 :: c77 :: c78 :: c79 :: c80 :: c81 :: c82 :: c83 :: c84 :: c85 :: c86 :: u87 :: u88 :: u89 :: u90 :: u91 :: u92 :: u93 :: u94 :: u95 :: u96 :: u97 :: u98 :: u99 :: u100 :: u101 :: u102 :: u103 :: u104 :: u105 :: u106 :: u107 :: u108 :: u109 :: u110 :: u111 :: u112 :: u113 :: u114 :: u115 :: u116 :: u117 :: u118 :: u119 :: u120 :: u121 :: u122 :: u123 :: u124 :: u125 :: u126 :: u127 :: u128 :: u129 :: u130 :: u131 :: u132 :: u133 :: u134 :: u135 :: u136 :: u137 :: u138 :: u139 :: u140 :: u141 :: u142 :: u143 :: u144 :: u145 :: u146 :: u147 :: u148 :: u149 :: u150 :: u151 :: u152 :: u153 :: u154 :: u155 :: u156 :: u157 :: u158 :: u159 :: u160 :: u161 :: u162 :: u163 :: u164 :: u165 :: u166 :: u167 :: u168 :: c169 :: c170 :: c171 :: c172 :: c173 :: c174 :: c175 :: c176 :: c177 :: c178 :: c179 :: c180 :: c181 :: c182 :: c183 :: c184 :: c185 :: c186 :: c187 :: c188 :: c189 :: c190 :: c191 :: c192 :: c193 :: c194 :: c195 :: c196 :: c197 :: c198 :: c199 :: c200 :: c201 :: c202 :: c203 :: c204 :: c205 :: c206 :: c207 :: c208 :: c209 :: c210 :: c211 :: c212 :: c213 :: c214 :: c215 :: c216 :: c217 :: c218 :: c219 :: c220 :: c221 :: c222 :: c223 :: c224 :: c225 :: c226 :: c227 :: c228 :: c229 :: c230 :: c231 :: c232 :: c233 :: c234 :: c235 :: c236 :: c237 :: c238 :: c239 :: c240 :: c241 :: c242 :: c243 :: c244 :: c245 :: c246 :: c247 :: c248 :: c249 :: c250 :: c251 :: c252 :: c253 :: c254 :: c255 :: c256 :: c257 :: c258 :: c259 :: c260 :: c261 :: c262 :: c263 :: c264 :: c265 :: c266 :: c267 :: c268 :: c269 :: c270 :: c271 :: c272 :: c273 :: c274 :: c275 :: c276 :: c277 :: c278 :: c279 :: c280 :: c281 :: c282 :: c283 :: c284 :: c285 :: c286 :: c287 :: c288 :: c289 :: c290 :: c291 :: c292 :: c293 :: c294 :: c295 :: c296 :: c297 :: c298 :: c299 :: c300 :: c301 :: c302 :: c303 :: c304 :: c305 :: c306 :: c307 :: c308 :: c309 :: c310 :: c311 :: c312 :: c313 :: c314 :: c315 :: c316 :: c317 :: c318 :: c319 :: c320 :: c321 :: c322 :: c323 :: c324 :: c325 :: c326 :: c327 :: c328 :: c329 :: c330 :: c331 :: c332 :: c333 :: c334 :: c335 :: c336 :: c337 :: c338 :: c339 :: c340 :: []), dz⟩ w') :
    Code.wp Ybaz.prog (st3 10) Q ⟨List.toArray (.slice a n cap :: c1 :: c2 :: c3 :: c4 :: .int .i64 (n : Int) :: c6 :: .slice (some ⟨ib, 0, none⟩) n n :: c8 :: c9 :: .pointer (some ⟨G, 0, none⟩) :: c11 :: c12 :: c13 :: .slice (some ⟨xb, 0, none⟩) n n :: c15 :: c16 :: c17 :: c18 :: c19 :: c20 :: c21 :: c22 :: c23 :: c24 :: c25 :: c26 :: c27 :: c28 :: c29 :: c30 :: c31 :: c32 :: c33 :: c34 :: c35 :: c36 :: c37 :: c38 :: c39 :: c40 :: c41 :: c42 :: c43 :: c44 :: c45 :: c46 :: c47 :: c48 :: c49 :: c50 :: c51 :: c52 :: c53 :: c54 :: c55 :: c56 :: c57 :: c58 :: c59 :: c60 :: c61 :: c62 :: c63 :: c64 :: c65 :: c66 :: c67 :: c68 :: c69 :: c70 :: c71 :: c72 :: c73 :: c74 :: c75 :: c76 :: c77 :: c78 :: c79 :: c80 :: c81 :: c82 :: c83 :: c84 :: c85 :: c86 :: c87 :: c88 :: c89 :: c90 :: c91 :: c92 :: c93 :: c94 :: c95 :: c96 :: c97 :: c98 :: c99 :: c100 :: c101 :: c102 :: c103 :: c104 :: c105 :: c106 :: c107 :: c108 :: c109 :: c110 :: c111 :: c112 :: c113 :: c114 :: c115 :: c116 :: c117 :: c118 :: c119 :: c120 :: c121 :: c122 :: c123 :: c124 :: c125 :: c126 :: c127 :: c128 :: c129 :: c130 :: c131 :: c132 :: c133 :: c134 :: c135 :: c136 :: c137 :: c138 :: c139 :: c140 :: c141 :: c142 :: c143 :: c144 :: c145 :: c146 :: c147 :: c148 :: c149 :: c150 :: c151 :: c152 :: c153 :: c154 :: c155 :: c156 :: c157 :: c158 :: c159 :: c160 :: c161 :: c162 :: c163 :: c164 :: c165 :: c166 :: c167 :: c168 :: c169 :: c170 :: c171 :: c172 :: c173 :: c174 :: c175 :: c176 :: c177 :: c178 :: c179 :: c180 :: c181 :: c182 :: c183 :: c184 :: c185 :: c186 :: c187 :: c188 :: c189 :: c190 :: c191 :: c192 :: c193 :: c194 :: c195 :: c196 :: c197 :: c198 :: c199 :: c200 :: c201 :: c202 :: c203 :: c204 :: c205 :: c206 :: c207 :: c208 :: c209 :: c210 :: c211 :: c212 :: c213 :: c214 :: c215 :: c216 :: c217 :: c218 :: c219 :: c220 :: c221 :: c222 :: c223 :: c224 :: c225 :: c226 :: c227 :: c228 :: c229 :: c230 :: c231 :: c232 :: c233 :: c234 :: c235 :: c236 :: c237 :: c238 :: c239 :: c240 :: c241 :: c242 :: c243 :: c244 :: c245 :: c246 :: c247 :: c248 :: c249 :: c250 :: c251 :: c252 :: c253 :: c254 :: c255 :: c256 :: c257 :: c258 :: c259 :: c260 :: c261 :: c262 :: c263 :: c264 :: c265 :: c266 :: c267 :: c268 :: c269 :: c270 :: c271 :: c272 :: c273 :: c274 :: c275 :: c276 :: c277 :: c278 :: c279 :: c280 :: c281 :: c282 :: c283 :: c284 :: c285 :: c286 :: c287 :: c288 :: c289 :: c290 :: c291 :: c292 :: c293 :: c294 :: c295 :: c296 :: c297 :: c298 :: c299 :: c300 :: c301 :: c302 :: c303 :: c304 :: c305 :: c306 :: c307 :: c308 :: c309 :: c310 :: c311 :: c312 :: c313 :: c314 :: c315 :: c316 :: c317 :: c318 :: c319 :: c320 :: c321 :: c322 :: c323 :: c324 :: c325 :: c326 :: c327 :: c328 :: c329 :: c330 :: c331 :: c332 :: c333 :: c334 :: c335 :: c336 :: c337 :: c338 :: c339 :: c340 :: []), dz⟩ w := by
  have HQ := hid hQ
  have HH := hid (And.intro hwv (And.intro hcd (And.intro ha (And.intro hI h0))))
  clear hQ hwv hcd ha hI h0
  conv => arg 2; whnf
  go_wp2
  go_loopw [15] (fun c wr => ∃ (k : Nat) (o1 : Nat → Nat) (pv nv : Value), k ≤ n ∧ c = .int .i64 (k : Int) ∧ LG o1 wr n G mb xb cd id k pv nv ∧ Step [10, 11, 12, 1004] o w o1 wr) (fun c _ => n - (intOf c).toNat)
  case atStart =>
    obtain ⟨hwv, hcd, ha, hI, h0⟩ := HH.out
    exact ⟨0, o, _, _, Nat.zero_le _, rfl, h0, Step.refl _ _ _⟩
  case round =>
    obtain ⟨k, o1, pv, nv, hk, rfl, T1, st⟩ := hrel
    by_cases hk2 : k < n
    · obtain ⟨hwv, hcd, ha, hI, h0⟩ := HH.out
      obtain ⟨x, rfl, tx, hx⟩ := ha (by omega)
      have hxl : x.block < w.heap.size := World.block_lt_of_cell? _ _ (by have := hx 0 (by omega); simpa [Addr.add] using this)
      have y0 : wr.cell? (x.add k) = some (.int .u16 (wv k : Int)) := (st.cell (p := x.add k) (by cases k <;> exact hxl) (by rw [show (x.add k).block = x.block by cases k <;> rfl, tx]; simp)).trans (hx k hk2)
      have I1 := hI.step st (by simp)
      have hw1 := hwv k hk2
      have hck := hcd k
      obtain ⟨c, hc⟩ : ∃ c, cd k = c := ⟨_, rfl⟩
      rw [hc] at hck
      have hcl : c < n + 2 := by rw [hck]; exact Nat.mod_lt _ (by omega)
      have b1 : (k : Int) < (n : Int) := by omega
      have wk : IntKind.i64.wrap ((k : Int) + 1) = (k : Int) + 1 := by rw [IntKind.wrap_i64]; omega
      have w2 : IntKind.i64.wrap ((n : Int) + 2) = (n : Int) + 2 := by rw [IntKind.wrap_i64]; omega
      have w3 : IntKind.i64.wrap (wv k : Int) = (wv k : Int) := by rw [IntKind.wrap_i64]; omega
      have w4 : Int.tmod (wv k : Int) ((n : Int) + 2) = (c : Int) := by
        rw [Int.tmod_eq_emod_of_nonneg (by omega), hck]; push_cast; rfl
      have b2 : ¬ (n : Int) + 2 = 0 := by omega
      have g1 : wr.cell? ⟨G, 0, none⟩ = some pv := T1.gr.cell 0
      have i1 : wr.cell? ⟨ib, k, none⟩ = some (.string (id k)) := I1.cell k hk2
      have hctk := ct_le cd n k
      have hcs := ct_succ cd n k
      have hps := pcl_succ cd id n k
      have hns := ncl_succ cd id n k
      rw [hc] at hcs hns
      by_cases hcn : c = n
      · have hw4' : Int.tmod (wv k : Int) ((n : Int) + 2) = (n : Int) := by rw [w4, hcn]
        have er : rtf cd n k = -1 := by unfold rtf; rw [if_pos (hc.trans hcn)]
        have ef : fnf cd n k = -1 := by unfold fnf; rw [if_pos (hc.trans hcn)]
        have ex : nxf cd n k = -1 := by unfold nxf; rw [if_pos (hc.trans hcn)]
        rw [if_pos hcn] at hcs hns
        rw [er, ef] at hps
        have sd := Step.drew [] o1 wr
        obtain ⟨pb, pc, w3', ra, o3, P3, s3⟩ := (T1.ps.step sd (by simp)).app_run Ybaz.underlying28 info36 rfl (by omega) (by omega) (.string (id k)) (.int .i64 (-1)) (.int .i64 (-1)) rfl rfl rfl
        have s13 := (Step.drew [11] o1 wr).trans s3
        have Gr3 := T1.gr.step s13 (by simp)
        have I3 := I1.step s13 (by simp)
        have l1 : w3'.cell? ⟨G, 0, none⟩ = some pv := Gr3.cell 0
        have l2 : w3'.cell? ⟨ib, k, none⟩ = some (.string (id k)) := I3.cell k hk2
        have l3 : w3'.frozen? ⟨G, 0, none⟩ = false := Gr3.frozen 0
        have s4 := Gr3.sset 0 (.slice (some ⟨pb, 0, none⟩) (k + 1) pc) (T := [10]) (by simp)
        have Gr4 := Gr3.set 0 (.slice (some ⟨pb, 0, none⟩) (k + 1) pc)
        obtain ⟨w4', hw4⟩ : ∃ w4', w3'.setCell ⟨G, 0, none⟩ (.slice (some ⟨pb, 0, none⟩) (k + 1) pc) = w4' := ⟨_, rfl⟩
        rw [hw4] at s4 Gr4
        have s14 := (s13.mono (T' := [10, 11]) (by simp)).trans (s4.mono (T' := [10, 11]) (by simp))
        have X4 := T1.nx.step s14 (by simp)
        have x1 := X4.cell k hk2
        have x2 := X4.frozen k
        have HRA := hid ra
        have HZ := hid (And.intro T1 (And.intro Gr4 (And.intro P3 (And.intro s4 (And.intro s14 (And.intro X4 (And.intro st (And.intro hcs (And.intro hps (And.intro hns ex))))))))))
        clear hwv hcd ha hI h0 hx tx T1 st I1 hck w4 hcs hps hns er ef ex sd ra P3 s3 s13 Gr3 I3 s4 Gr4 s14 X4
        subst hcn
        go_wp2
        refine wp_region_mix [(true, 0), (true, 1), (true, 2), (true, 3), (true, 4), (true, 5), (true, 6), (true, 7), (true, 8), (true, 9), (false, 10), (false, 11), (false, 12), (false, 13), (false, 14)] 14 (fun w' => w'.cell? ⟨G, 0, none⟩ = some pv ∧ w'.cell? ⟨ib, k, none⟩ = some (.string (id k))) (by kernel_rfl) (by kernel_rfl) (by kernel_rfl) (by kernel_rfl) ?_ ?_
        exact ⟨g1, i1⟩
        repeat
          refine mix_take (v := ?_) rfl (by rfl) ?_ ?_
          rotate_left
          · (intro w' hS; (try dsimp only at hS); go_simp; try with_reducible rfl)
          try simp only [Act.put, List.setIfInBounds_toArray, List.set_cons_zero, List.set_cons_succ]
        refine mix_step rfl (fun K hK => ?_)
        go_simp
        refine hK.out _ _ (⟨cellUp g1 _, cellUp i1 _⟩) (fun hHeld => ?_)
        clear hK K hHeld
        try simp only [Act.put, List.setIfInBounds_toArray, List.set_cons_zero, List.set_cons_succ]
        refine mix_step rfl (fun K hK => ?_)
        refine step_append_is (by rfl) _ _ 28 (by rfl) _ _ _ _ (by rfl) (by rfl) HRA.out ?_
        refine hK.out _ _ (⟨l1, l2⟩) (fun hHeld => ?_)
        clear hK K hHeld
        try simp only [Act.put, List.setIfInBounds_toArray, List.set_cons_zero, List.set_cons_succ]
        refine mix_step rfl (fun K hK => ?_)
        go_simp
        refine hK.out _ _ (⟨l1, l2⟩) (fun hHeld => ?_)
        clear hK K hHeld
        try simp only [Act.put, List.setIfInBounds_toArray, List.set_cons_zero, List.set_cons_succ]
        refine mix_step rfl (fun K hK => ?_)
        go_simp
        refine hK.out _ _ (⟨l1, l2⟩) (fun hHeld => ?_)
        clear hK K hHeld
        try simp only [Act.put, List.setIfInBounds_toArray, List.set_cons_zero, List.set_cons_succ]
        refine mix_last rfl (fun K hK => ?_)
        go_simp
        refine hK.out _ _ ?_
        clear hK K
        refine mix_nil (NoPanic.normal ?_)
        try simp only [Act.put]
        go_wp2
        go_roundw
        case rel =>
          obtain ⟨T1, Gr4, P3, s4, s14, X4, st, hcs, hps, hns, ex⟩ := HZ.out
          have s5 := X4.sset k (.int .i64 (-1)) (T := [1004]) (by simp)
          refine ⟨k + 1, o3, _, _, by omega, by go_num, ⟨Gr4.step s5 (by simp), ?_, ?_, (X4.set k (.int .i64 (-1))).congr fun i hi => ?_⟩, (st.trans (s14.mono (by simp))).trans (s5.mono (by simp))⟩
          · rw [hps]; exact (P3.step s4 (by simp)).step s5 (by simp)
          · rw [hcs, hns]; exact (T1.ns.step s14 (by simp)).step s5 (by simp)
          · by_cases e : i = k
            · rw [if_pos e, if_pos (by omega : i < k + 1), e, ex]
            · by_cases e2 : i < k
              · rw [if_neg e, if_pos e2, if_pos (by omega : i < k + 1)]
              · rw [if_neg e, if_neg e2, if_neg (by omega : ¬ i < k + 1)]
        case measure => simp [intOf]; omega
      · have hcnI : ¬ (c : Int) = (n : Int) := by omega
        have er : rtf cd n k = (ct cd n k : Int) := by unfold rtf; rw [if_neg (by rw [hc]; exact hcn)]
        have ef : fnf cd n k = (ct cd n k : Int) + 1 := by unfold fnf; rw [if_neg (by rw [hc]; exact hcn)]
        rw [if_neg hcn] at hcs hns
        rw [er, ef] at hps
        have x1 := T1.nx.cell k hk2
        have x2 := T1.nx.frozen k
        have s2 := T1.nx.sset k (.int .i64 (-2)) (T := [1004]) (by simp)
        have X2 := T1.nx.set k (.int .i64 (-2))
        obtain ⟨v2, hv2⟩ : ∃ v2, wr.setCell ⟨xb, k, none⟩ (.int .i64 (-2)) = v2 := ⟨_, rfl⟩
        rw [hv2] at s2 X2
        by_cases hclt : c < n
        · skip
          have bc : (c : Int) < (n : Int) := by omega
          have ex : nxf cd n k = (c : Int) := by unfold nxf; rw [hc, if_neg hcn, if_pos hclt]
          have et : tdf cd id n k = id c := by unfold tdf; rw [hc, if_pos hclt]
          rw [et] at hns
          have z1 := X2.cell k hk2
          have z2 := X2.frozen k
          have iv2 : v2.cell? ⟨ib, c, none⟩ = some (.string (id c)) := (I1.step s2 (by simp)).cell c hclt
          have s3 := X2.sset k (.int .i64 (c : Int)) (T := [1004]) (by simp)
          have X3 := X2.set k (.int .i64 (c : Int))
          obtain ⟨v3, hv3⟩ : ∃ v3, v2.setCell ⟨xb, k, none⟩ (.int .i64 (c : Int)) = v3 := ⟨_, rfl⟩
          rw [hv3] at s3 X3
          have s23 := s2.trans s3
          have GA := T1.gr.step s23 (by simp)
          have PA := T1.ps.step s23 (by simp)
          have NA := T1.ns.step s23 (by simp)
          have IA := I1.step s23 (by simp)
          obtain ⟨ctk, hctk2⟩ : ∃ q, ct cd n k = q := ⟨_, rfl⟩
          rw [hctk2] at NA hps hctk hcs
          have ga2 : v3.cell? ⟨G, 2, none⟩ = some nv := GA.cell 2
          obtain ⟨an, lnv, hlnv⟩ : ∃ an q, nv = .slice an ctk q := by
            rcases NA.row.2 with ⟨e1, e2⟩ | ⟨gg, cp, cu, e1, _⟩
            · exact ⟨none, 0, by rw [e1, e2]⟩
            · exact ⟨_, cp, e1⟩
          subst hlnv
          obtain ⟨nb, nc, v5, rn, o5, N5, s5⟩ := (NA.step (Step.drew [] o1 v3) (by simp)).app_run Ybaz.underlying29 info39 rfl (by omega) (by omega) (.string (id c)) (.int .i64 0) (.int .i64 (-1 - (k : Int))) rfl rfl rfl
          have s15 := (Step.drew [12] o1 v3).trans s5
          have G5 := GA.step s15 (by simp)
          have m1 : v5.cell? ⟨G, 2, none⟩ = some (.slice an ctk lnv) := G5.cell 2
          have m2 : v5.frozen? ⟨G, 2, none⟩ = false := G5.frozen 2
          have s6 := G5.sset 2 (.slice (some ⟨nb, 0, none⟩) (ctk + 1) nc) (T := [10]) (by simp)
          have G6 := G5.set 2 (.slice (some ⟨nb, 0, none⟩) (ctk + 1) nc)
          obtain ⟨v6, hv6⟩ : ∃ v6, v5.setCell ⟨G, 2, none⟩ (.slice (some ⟨nb, 0, none⟩) (ctk + 1) nc) = v6 := ⟨_, rfl⟩
          rw [hv6] at s6 G6
          have s16 := (s15.mono (T' := [10, 12]) (by simp)).trans (s6.mono (T' := [10, 12]) (by simp))
          have P6 := PA.step s16 (by simp)
          have I6 := IA.step s16 (by simp)
          have q1 : v6.cell? ⟨G, 0, none⟩ = some pv := G6.cell 0
          have q2 : v6.cell? ⟨ib, k, none⟩ = some (.string (id k)) := I6.cell k hk2
          obtain ⟨pb, pc, v7, rp, o7, P7, s7⟩ := (P6.step (Step.drew [] o5 v6) (by simp)).app_run Ybaz.underlying28 info36 rfl (by omega) (by omega) (.string (id k)) (.int .i64 (ctk : Int)) (.int .i64 ((ctk : Int) + 1)) rfl rfl rfl
          have s17 := (Step.drew [11] o5 v6).trans s7
          have G7 := G6.step s17 (by simp)
          have I7 := I6.step s17 (by simp)
          have q3 : v7.cell? ⟨G, 0, none⟩ = some pv := G7.cell 0
          have q4 : v7.cell? ⟨ib, k, none⟩ = some (.string (id k)) := I7.cell k hk2
          have q5 : v7.frozen? ⟨G, 0, none⟩ = false := G7.frozen 0
          have s8 := G7.sset 0 (.slice (some ⟨pb, 0, none⟩) (k + 1) pc) (T := [10]) (by simp)
          have G8 := G7.set 0 (.slice (some ⟨pb, 0, none⟩) (k + 1) pc)
          have wc : IntKind.i64.wrap ((ctk : Int) + 1) = (ctk : Int) + 1 := by rw [IntKind.wrap_i64]; omega
          have HRT := hid (fun w => root_any (k : Int) (by omega) (by omega) w)
          have HRN := hid rn
          have HRP := hid rp
          have HZ := hid (And.intro G8 (And.intro P7 (And.intro N5 (And.intro s6 (And.intro s8 (And.intro s15 (And.intro s16 (And.intro s17 (And.intro X3 (And.intro st (And.intro s23 (And.intro hcs (And.intro hps (And.intro hns ex))))))))))))))
          clear hwv hcd ha hI h0 hx tx T1 st I1 hck hcs hps hns er ef s2 X2 GA PA NA IA rn N5 s5 s15 G5 s6 G6 s16 P6 I6 rp P7 s7 s17 G7 I7 s8 G8 hctk2 ex s3 X3 s23 et
          go_wp2
          refine wp_region_mix [(true, 0), (true, 1), (true, 2), (true, 3), (true, 4), (true, 5), (true, 6), (false, 7), (true, 8), (false, 9), (false, 10), (false, 11), (false, 12), (false, 13)] 13 (fun w' => w'.cell? ⟨G, 2, none⟩ = some (.slice an ctk lnv)) (by kernel_rfl) (by kernel_rfl) (by kernel_rfl) (by kernel_rfl) ?_ ?_
          exact ga2
          repeat
            refine mix_take (v := ?_) rfl (by rfl) ?_ ?_
            rotate_left
            · (intro w' hS; (try dsimp only at hS); go_simp; try with_reducible rfl)
            try simp only [Act.put, List.setIfInBounds_toArray, List.set_cons_zero, List.set_cons_succ]
          refine mix_step rfl (fun K hK => ?_)
          go_simp
          refine (HRT.out _).mono ?_
          rintro ee w7 ⟨rfl, hw7⟩
          obtain rfl := hw7.symm
          refine hK.out _ _ (ga2) (fun hHeld => ?_)
          clear hK K hHeld
          try simp only [Act.put, List.setIfInBounds_toArray, List.set_cons_zero, List.set_cons_succ]
          repeat
            refine mix_take (v := ?_) rfl (by rfl) ?_ ?_
            rotate_left
            · (intro w' hS; (try dsimp only at hS); go_simp; try with_reducible rfl)
            try simp only [Act.put, List.setIfInBounds_toArray, List.set_cons_zero, List.set_cons_succ]
          refine mix_step rfl (fun K hK => ?_)
          go_simp
          refine hK.out _ _ (cellUp ga2 _) (fun hHeld => ?_)
          clear hK K hHeld
          try simp only [Act.put, List.setIfInBounds_toArray, List.set_cons_zero, List.set_cons_succ]
          refine mix_step rfl (fun K hK => ?_)
          refine step_append_is (by rfl) _ _ 29 (by rfl) _ _ _ _ (by rfl) (by rfl) HRN.out ?_
          refine hK.out _ _ (m1) (fun hHeld => ?_)
          clear hK K hHeld
          try simp only [Act.put, List.setIfInBounds_toArray, List.set_cons_zero, List.set_cons_succ]
          refine mix_step rfl (fun K hK => ?_)
          go_simp
          refine hK.out _ _ (m1) (fun hHeld => ?_)
          clear hK K hHeld
          try simp only [Act.put, List.setIfInBounds_toArray, List.set_cons_zero, List.set_cons_succ]
          refine mix_step rfl (fun K hK => ?_)
          go_simp
          refine hK.out _ _ (m1) (fun hHeld => ?_)
          clear hK K hHeld
          try simp only [Act.put, List.setIfInBounds_toArray, List.set_cons_zero, List.set_cons_succ]
          refine mix_last rfl (fun K hK => ?_)
          go_simp
          refine hK.out _ _ ?_
          clear hK K
          refine mix_nil (NoPanic.normal ?_)
          try simp only [Act.put]
          go_wp2
          refine wp_region_mix [(true, 0), (true, 1), (true, 2), (true, 3), (true, 4), (true, 5), (true, 6), (true, 7), (true, 8), (true, 9), (true, 10), (true, 11), (true, 12), (false, 13), (false, 14), (false, 15), (false, 16), (false, 17)] 17 (fun w' => w'.cell? ⟨G, 0, none⟩ = some pv ∧ w'.cell? ⟨ib, k, none⟩ = some (.string (id k))) (by kernel_rfl) (by kernel_rfl) (by kernel_rfl) (by kernel_rfl) ?_ ?_
          exact ⟨q1, q2⟩
          repeat
            refine mix_take (v := ?_) rfl (by rfl) ?_ ?_
            rotate_left
            · (intro w' hS; (try dsimp only at hS); go_simp; try with_reducible rfl)
            try simp only [Act.put, List.setIfInBounds_toArray, List.set_cons_zero, List.set_cons_succ]
          refine mix_step rfl (fun K hK => ?_)
          go_simp
          refine hK.out _ _ (⟨cellUp q1 _, cellUp q2 _⟩) (fun hHeld => ?_)
          clear hK K hHeld
          try simp only [Act.put, List.setIfInBounds_toArray, List.set_cons_zero, List.set_cons_succ]
          refine mix_step rfl (fun K hK => ?_)
          refine step_append_is (by rfl) _ _ 28 (by rfl) _ _ _ _ (by rfl) (by rfl) HRP.out ?_
          refine hK.out _ _ (⟨q3, q4⟩) (fun hHeld => ?_)
          clear hK K hHeld
          try simp only [Act.put, List.setIfInBounds_toArray, List.set_cons_zero, List.set_cons_succ]
          refine mix_step rfl (fun K hK => ?_)
          go_simp
          refine hK.out _ _ (⟨q3, q4⟩) (fun hHeld => ?_)
          clear hK K hHeld
          try simp only [Act.put, List.setIfInBounds_toArray, List.set_cons_zero, List.set_cons_succ]
          refine mix_step rfl (fun K hK => ?_)
          go_simp
          refine hK.out _ _ (⟨q3, q4⟩) (fun hHeld => ?_)
          clear hK K hHeld
          try simp only [Act.put, List.setIfInBounds_toArray, List.set_cons_zero, List.set_cons_succ]
          refine mix_last rfl (fun K hK => ?_)
          go_simp
          refine hK.out _ _ ?_
          clear hK K
          refine mix_nil (NoPanic.normal ?_)
          try simp only [Act.put]
          go_wp2
          go_roundw
          case rel =>
            obtain ⟨G8, P7, N5, s6, s8, s15, s16, s17, XX, st, sA, hcs, hps, hns, ex⟩ := HZ.out
            refine ⟨k + 1, o7, _, _, by omega, by go_num, ⟨G8, ?_, ?_, (((XX.step s16 (by simp)).step s17 (by simp)).step s8 (by simp)).congr fun i hi => ?_⟩, ((st.trans (sA.mono (by simp))).trans (s16.mono (by simp))).trans ((s17.mono (by simp)).trans (s8.mono (by simp)))⟩
            · rw [hps]; exact P7.step s8 (by simp)
            · rw [hcs, hns]; exact ((N5.step s6 (by simp)).step s17 (by simp)).step s8 (by simp)
            · by_cases e : i = k
              · subst e; rw [if_pos (by omega : i < i + 1), ex]; simp
              · by_cases e2 : i < k
                · rw [if_pos (by omega : i < k + 1)]; simp [e, e2]
                · rw [if_neg (by omega : ¬ i < k + 1)]; simp [e, e2]
          case measure => simp [intOf]; omega
        · skip
          have bc : ¬ (c : Int) < (n : Int) := by omega
          have ex : nxf cd n k = -2 := by unfold nxf; rw [hc, if_neg hcn, if_neg hclt]
          have et : tdf cd id n k = tilde := by unfold tdf; rw [hc, if_neg hclt]
          rw [et] at hns
          have ets : tilde = ⟨#[126]⟩ := rfl
          rw [ets] at hns
          have GA := T1.gr.step s2 (by simp)
          have PA := T1.ps.step s2 (by simp)
          have NA := T1.ns.step s2 (by simp)
          have IA := I1.step s2 (by simp)
          obtain ⟨ctk, hctk2⟩ : ∃ q, ct cd n k = q := ⟨_, rfl⟩
          rw [hctk2] at NA hps hctk hcs
          have ga2 : v2.cell? ⟨G, 2, none⟩ = some nv := GA.cell 2
          obtain ⟨an, lnv, hlnv⟩ : ∃ an q, nv = .slice an ctk q := by
            rcases NA.row.2 with ⟨e1, e2⟩ | ⟨gg, cp, cu, e1, _⟩
            · exact ⟨none, 0, by rw [e1, e2]⟩
            · exact ⟨_, cp, e1⟩
          subst hlnv
          obtain ⟨nb, nc, v5, rn, o5, N5, s5⟩ := (NA.step (Step.drew [] o1 v2) (by simp)).app_run Ybaz.underlying29 info39 rfl (by omega) (by omega) (.string (⟨#[126]⟩)) (.int .i64 0) (.int .i64 (-1 - (k : Int))) rfl rfl rfl
          have s15 := (Step.drew [12] o1 v2).trans s5
          have G5 := GA.step s15 (by simp)
          have m1 : v5.cell? ⟨G, 2, none⟩ = some (.slice an ctk lnv) := G5.cell 2
          have m2 : v5.frozen? ⟨G, 2, none⟩ = false := G5.frozen 2
          have s6 := G5.sset 2 (.slice (some ⟨nb, 0, none⟩) (ctk + 1) nc) (T := [10]) (by simp)
          have G6 := G5.set 2 (.slice (some ⟨nb, 0, none⟩) (ctk + 1) nc)
          obtain ⟨v6, hv6⟩ : ∃ v6, v5.setCell ⟨G, 2, none⟩ (.slice (some ⟨nb, 0, none⟩) (ctk + 1) nc) = v6 := ⟨_, rfl⟩
          rw [hv6] at s6 G6
          have s16 := (s15.mono (T' := [10, 12]) (by simp)).trans (s6.mono (T' := [10, 12]) (by simp))
          have P6 := PA.step s16 (by simp)
          have I6 := IA.step s16 (by simp)
          have q1 : v6.cell? ⟨G, 0, none⟩ = some pv := G6.cell 0
          have q2 : v6.cell? ⟨ib, k, none⟩ = some (.string (id k)) := I6.cell k hk2
          obtain ⟨pb, pc, v7, rp, o7, P7, s7⟩ := (P6.step (Step.drew [] o5 v6) (by simp)).app_run Ybaz.underlying28 info36 rfl (by omega) (by omega) (.string (id k)) (.int .i64 (ctk : Int)) (.int .i64 ((ctk : Int) + 1)) rfl rfl rfl
          have s17 := (Step.drew [11] o5 v6).trans s7
          have G7 := G6.step s17 (by simp)
          have I7 := I6.step s17 (by simp)
          have q3 : v7.cell? ⟨G, 0, none⟩ = some pv := G7.cell 0
          have q4 : v7.cell? ⟨ib, k, none⟩ = some (.string (id k)) := I7.cell k hk2
          have q5 : v7.frozen? ⟨G, 0, none⟩ = false := G7.frozen 0
          have s8 := G7.sset 0 (.slice (some ⟨pb, 0, none⟩) (k + 1) pc) (T := [10]) (by simp)
          have G8 := G7.set 0 (.slice (some ⟨pb, 0, none⟩) (k + 1) pc)
          have wc : IntKind.i64.wrap ((ctk : Int) + 1) = (ctk : Int) + 1 := by rw [IntKind.wrap_i64]; omega
          have HRT := hid (fun w => root_any (k : Int) (by omega) (by omega) w)
          have HRN := hid rn
          have HRP := hid rp
          have HZ := hid (And.intro G8 (And.intro P7 (And.intro N5 (And.intro s6 (And.intro s8 (And.intro s15 (And.intro s16 (And.intro s17 (And.intro X2 (And.intro st (And.intro s2 (And.intro hcs (And.intro hps (And.intro hns ex))))))))))))))
          clear hwv hcd ha hI h0 hx tx T1 st I1 hck hcs hps hns er ef s2 X2 GA PA NA IA rn N5 s5 s15 G5 s6 G6 s16 P6 I6 rp P7 s7 s17 G7 I7 s8 G8 hctk2 ex et ets
          go_wp2
          refine wp_region_mix [(true, 0), (true, 1), (true, 2), (true, 3), (true, 4), (true, 5), (true, 6), (false, 7), (true, 8), (false, 9), (false, 10), (false, 11), (false, 12), (false, 13)] 13 (fun w' => w'.cell? ⟨G, 2, none⟩ = some (.slice an ctk lnv)) (by kernel_rfl) (by kernel_rfl) (by kernel_rfl) (by kernel_rfl) ?_ ?_
          exact ga2
          repeat
            refine mix_take (v := ?_) rfl (by rfl) ?_ ?_
            rotate_left
            · (intro w' hS; (try dsimp only at hS); go_simp; try with_reducible rfl)
            try simp only [Act.put, List.setIfInBounds_toArray, List.set_cons_zero, List.set_cons_succ]
          refine mix_step rfl (fun K hK => ?_)
          go_simp
          refine (HRT.out _).mono ?_
          rintro ee w7 ⟨rfl, hw7⟩
          obtain rfl := hw7.symm
          refine hK.out _ _ (ga2) (fun hHeld => ?_)
          clear hK K hHeld
          try simp only [Act.put, List.setIfInBounds_toArray, List.set_cons_zero, List.set_cons_succ]
          repeat
            refine mix_take (v := ?_) rfl (by rfl) ?_ ?_
            rotate_left
            · (intro w' hS; (try dsimp only at hS); go_simp; try with_reducible rfl)
            try simp only [Act.put, List.setIfInBounds_toArray, List.set_cons_zero, List.set_cons_succ]
          refine mix_step rfl (fun K hK => ?_)
          go_simp
          refine hK.out _ _ (cellUp ga2 _) (fun hHeld => ?_)
          clear hK K hHeld
          try simp only [Act.put, List.setIfInBounds_toArray, List.set_cons_zero, List.set_cons_succ]
          refine mix_step rfl (fun K hK => ?_)
          refine step_append_is (by rfl) _ _ 29 (by rfl) _ _ _ _ (by rfl) (by rfl) HRN.out ?_
          refine hK.out _ _ (m1) (fun hHeld => ?_)
          clear hK K hHeld
          try simp only [Act.put, List.setIfInBounds_toArray, List.set_cons_zero, List.set_cons_succ]
          refine mix_step rfl (fun K hK => ?_)
          go_simp
          refine hK.out _ _ (m1) (fun hHeld => ?_)
          clear hK K hHeld
          try simp only [Act.put, List.setIfInBounds_toArray, List.set_cons_zero, List.set_cons_succ]
          refine mix_step rfl (fun K hK => ?_)
          go_simp
          refine hK.out _ _ (m1) (fun hHeld => ?_)
          clear hK K hHeld
          try simp only [Act.put, List.setIfInBounds_toArray, List.set_cons_zero, List.set_cons_succ]
          refine mix_last rfl (fun K hK => ?_)
          go_simp
          refine hK.out _ _ ?_
          clear hK K
          refine mix_nil (NoPanic.normal ?_)
          try simp only [Act.put]
          go_wp2
          refine wp_region_mix [(true, 0), (true, 1), (true, 2), (true, 3), (true, 4), (true, 5), (true, 6), (true, 7), (true, 8), (true, 9), (true, 10), (true, 11), (true, 12), (false, 13), (false, 14), (false, 15), (false, 16), (false, 17)] 17 (fun w' => w'.cell? ⟨G, 0, none⟩ = some pv ∧ w'.cell? ⟨ib, k, none⟩ = some (.string (id k))) (by kernel_rfl) (by kernel_rfl) (by kernel_rfl) (by kernel_rfl) ?_ ?_
          exact ⟨q1, q2⟩
          repeat
            refine mix_take (v := ?_) rfl (by rfl) ?_ ?_
            rotate_left
            · (intro w' hS; (try dsimp only at hS); go_simp; try with_reducible rfl)
            try simp only [Act.put, List.setIfInBounds_toArray, List.set_cons_zero, List.set_cons_succ]
          refine mix_step rfl (fun K hK => ?_)
          go_simp
          refine hK.out _ _ (⟨cellUp q1 _, cellUp q2 _⟩) (fun hHeld => ?_)
          clear hK K hHeld
          try simp only [Act.put, List.setIfInBounds_toArray, List.set_cons_zero, List.set_cons_succ]
          refine mix_step rfl (fun K hK => ?_)
          refine step_append_is (by rfl) _ _ 28 (by rfl) _ _ _ _ (by rfl) (by rfl) HRP.out ?_
          refine hK.out _ _ (⟨q3, q4⟩) (fun hHeld => ?_)
          clear hK K hHeld
          try simp only [Act.put, List.setIfInBounds_toArray, List.set_cons_zero, List.set_cons_succ]
          refine mix_step rfl (fun K hK => ?_)
          go_simp
          refine hK.out _ _ (⟨q3, q4⟩) (fun hHeld => ?_)
          clear hK K hHeld
          try simp only [Act.put, List.setIfInBounds_toArray, List.set_cons_zero, List.set_cons_succ]
          refine mix_step rfl (fun K hK => ?_)
          go_simp
          refine hK.out _ _ (⟨q3, q4⟩) (fun hHeld => ?_)
          clear hK K hHeld
          try simp only [Act.put, List.setIfInBounds_toArray, List.set_cons_zero, List.set_cons_succ]
          refine mix_last rfl (fun K hK => ?_)
          go_simp
          refine hK.out _ _ ?_
          clear hK K
          refine mix_nil (NoPanic.normal ?_)
          try simp only [Act.put]
          go_wp2
          go_roundw
          case rel =>
            obtain ⟨G8, P7, N5, s6, s8, s15, s16, s17, XX, st, sA, hcs, hps, hns, ex⟩ := HZ.out
            refine ⟨k + 1, o7, _, _, by omega, by go_num, ⟨G8, ?_, ?_, (((XX.step s16 (by simp)).step s17 (by simp)).step s8 (by simp)).congr fun i hi => ?_⟩, ((st.trans (sA.mono (by simp))).trans (s16.mono (by simp))).trans ((s17.mono (by simp)).trans (s8.mono (by simp)))⟩
            · rw [hps]; exact P7.step s8 (by simp)
            · rw [hcs, hns]; exact ((N5.step s6 (by simp)).step s17 (by simp)).step s8 (by simp)
            · by_cases e : i = k
              · subst e; rw [if_pos (by omega : i < i + 1), ex]; simp
              · by_cases e2 : i < k
                · rw [if_pos (by omega : i < k + 1)]; simp [e, e2]
                · rw [if_neg (by omega : ¬ i < k + 1)]; simp [e, e2]
          case measure => simp [intOf]; omega
    · obtain rfl : k = n := by omega
      have b1 : ¬ (k : Int) < (k : Int) := by omega
      have HT := hid (And.intro T1 st)
      clear T1 st
      go_wp2
      obtain ⟨T1, st⟩ := HT.out
      exact HQ.out _ _ _ _ _ _ _ _ _ _ _ _ _ _ _ _ _ _ _ _ _ _ _ _ _ _ _ _ _ _ _ _ _ _ _ _ _ _ _ _ _ _ _ _ _ _ _ _ _ _ _ _ _ _ _ _ _ _ _ _ _ _ _ _ _ _ _ _ _ _ _ _ _ _ _ _ _ _ _ _ _ _ _ _ _ _ _ o1 pv nv T1 st
end Go.Proofs.YbulkbmdoGreat
