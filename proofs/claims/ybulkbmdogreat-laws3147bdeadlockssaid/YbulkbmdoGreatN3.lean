import Derived.Test.YbulkbmdoGreatN1
import Derived.Test.YbulkbmdoGreatN2
namespace Go.Proofs.YbulkbmdoGreat
open Go.RowKit
set_option linter.unusedVariables false
set_option linter.unusedSimpArgs false
attribute [local go_sem ↓] Go.wp_at_zero Go.wp_at_succ

/-- The reduction, grants of the first k leaves that hold at once told. -/
def gs0 (g : GS) (nb tb gb : Nat) : RS := ⟨g.n, g.M, g.G, nb, tb, gb, .slice none 0 0, .slice none 0 0, fun _ => false, [], [], 0⟩
def gs (g : GS) (tgt : Nat → Option Nat) (nb tb gb : Nat) : Nat → RS
  | 0 => gs0 g nb tb gb
  | k + 1 => if tgt k = none then (gs g tgt nb tb gb k).grant (g.wp k) else gs g tgt nb tb gb k
theorem gs_inv (g : GS) (tgt : Nat → Option Nat) (nb tb gb : Nat) : ∀ k, (gs g tgt nb tb gb k).N = g.n ∧ (gs g tgt nb tb gb k).M = g.M ∧ (gs g tgt nb tb gb k).G = g.G ∧ (gs g tgt nb tb gb k).tb = tb ∧ (gs g tgt nb tb gb k).nf = .slice none 0 0 ∧ (gs g tgt nb tb gb k).ni = .slice none 0 0 ∧ (gs g tgt nb tb gb k).und = [] ∧ (gs g tgt nb tb gb k).marks = 0 ∧ (gs g tgt nb tb gb k).pend.length ≤ k ∧ (∀ p, (gs g tgt nb tb gb k).gr p = true ↔ ∃ i, i < k ∧ tgt i = none ∧ g.wp i = p) ∧ (∀ p, p ∈ (gs g tgt nb tb gb k).pend ↔ (gs g tgt nb tb gb k).gr p = true)
  | 0 => ⟨rfl, rfl, rfl, rfl, rfl, rfl, rfl, rfl, Nat.le_refl _, fun p => ⟨fun h => by simp [gs, gs0] at h, fun ⟨i, h, _⟩ => by omega⟩, fun p => by simp [gs, gs0]⟩
  | k + 1 => by
    obtain ⟨h1, h2, h3, h4, h5, h6, h7, h8, h9, h10, h11⟩ := gs_inv g tgt nb tb gb k
    unfold gs
    by_cases ht : tgt k = none
    · rw [if_pos ht]
      unfold RS.grant
      by_cases hg : (gs g tgt nb tb gb k).gr (g.wp k) = true
      · rw [if_pos hg]
        refine ⟨h1, h2, h3, h4, h5, h6, h7, h8, by omega, fun p => ?_, h11⟩
        rw [h10]
        constructor
        · rintro ⟨i, a, b, c⟩; exact ⟨i, by omega, b, c⟩
        · rintro ⟨i, a, b, c⟩
          by_cases e : i = k
          · subst e; rw [← c]; exact (h10 _).1 hg
          · exact ⟨i, by omega, b, c⟩
      · rw [if_neg hg]
        refine ⟨h1, h2, h3, h4, h5, h6, by simp [h8, h7], h8, by simp; omega, fun p => ?_, fun p => ?_⟩
        · show (if p = g.wp k then true else (gs g tgt nb tb gb k).gr p) = true ↔ _
          by_cases e : p = g.wp k
          · rw [if_pos e]; exact ⟨fun _ => ⟨k, by omega, ht, e.symm⟩, fun _ => rfl⟩
          · rw [if_neg e, h10]
            constructor
            · rintro ⟨i, a, b, c⟩; exact ⟨i, by omega, b, c⟩
            · rintro ⟨i, a, b, c⟩
              by_cases e2 : i = k
              · subst e2; exact absurd c.symm e
              · exact ⟨i, by omega, b, c⟩
        · show p ∈ (gs g tgt nb tb gb k).pend ++ [g.wp k] ↔ (if p = g.wp k then true else (gs g tgt nb tb gb k).gr p) = true
          rw [List.mem_append, h11]
          by_cases e : p = g.wp k
          · simp [e]
          · simp [e]
    · rw [if_neg ht]
      refine ⟨h1, h2, h3, h4, h5, h6, h7, h8, by omega, fun p => ?_, h11⟩
      rw [h10]
      constructor
      · rintro ⟨i, a, b, c⟩; exact ⟨i, by omega, b, c⟩
      · rintro ⟨i, a, b, c⟩
        by_cases e : i = k
        · subst e; exact absurd b ht
        · exact ⟨i, by omega, b, c⟩

set_option maxRecDepth 1000000 in
set_option maxHeartbeats 2000000 in
theorem n6_3 {Q : Exit → Act → World → Prop} {dz : List Deferred} {c1 c2 c3 c4 c5 c6 c7 c8 c9 c10 c11 c12 c13 c14 c15 c16 c17 c18 c19 c20 c21 c22 c23 c24 c25 c26 c27 c28 c29 c30 c31 c32 c33 c34 c35 c36 c37 c38 c39 c40 c41 c42 c43 c44 c45 c46 c47 c48 c49 c50 c51 c52 c53 c54 c55 c56 c57 c58 c59 c60 c61 c62 c63 c64 c65 c66 c67 c68 c69 c70 c71 c72 c73 c74 c75 c76 c77 c78 c79 c80 c81 c82 c83 c84 c85 c86 c87 c88 c89 c90 c91 c92 c93 c94 c95 c96 c97 c98 c99 c100 c101 c102 c103 c104 c105 c106 c107 c108 c109 c110 c111 c112 c113 c114 c115 c116 c117 c118 c119 c120 c121 c122 c123 c124 c125 c126 c127 c128 c129 c130 c131 c132 c133 c134 c135 c136 c137 : Value} {w : World} (o : Nat → Nat) (g : GS) (hg : GAt o w g)
    (hQ : ∀ (u90 u91 u92 u93 u94 u95 u96 u97 u98 u99 u100 u101 u102 u103 u104 u105 : Value), Q .normal ⟨List.toArray (.pointer (some ⟨g.G, 0, none⟩) :: c1 :: c2 :: c3 :: c4 :: c5 :: c6 :: c7 :: c8 :: c9 :: c10 :: c11 :: c12 :: c13 :: c14 :: c15 :: c16 :: c17 :: c18 :: c19 :: c20 :: c21 :: c22 :: c23 :: c24 :: c25 :: c26 :: c27 :: c28 :: c29 :: c30 :: c31 :: c32 :: c33 :: c34 :: c35 :: c36 :: c37 :: c38 :: c39 :: c40 :: c41 :: c42 :: c43 :: c44 :: c45 :: c46 :: c47 :: c48 :: c49 :: c50 :: c51 :: c52 :: c53 :: c54 :: c55 :: c56 :: c57 :: c58 :: c59 :: c60 :: c61 :: c62 :: c63 :: c64 :: c65 :: c66 :: c67 :: c68 :: c69 :: c70 :: c71 :: c72 :: c73 :: c74 :: c75 :: c76 :: c77 :: c78 :: c79 :: c80 :: c81 :: c82 :: c83 :: c84 :: c85 :: c86 :: c87 :: c88 :: c89 :: u90 :: u91 :: u92 :: u93 :: u94 :: u95 :: u96 :: u97 :: u98 :: u99 :: u100 :: u101 :: u102 :: u103 :: u104 :: u105 :: c106 :: c107 :: c108 :: c109 :: c110 :: c111 :: c112 :: c113 :: c114 :: c115 :: c116 :: c117 :: c118 :: c119 :: c120 :: c121 :: c122 :: c123 :: c124 :: c125 :: c126 :: c127 :: c128 :: c129 :: c130 :: c131 :: c132 :: c133 :: c134 :: c135 :: c136 :: c137 :: []), dz⟩ w) : Code.wp Ybaz.prog (st6 3) Q ⟨List.toArray (.pointer (some ⟨g.G, 0, none⟩) :: c1 :: c2 :: c3 :: c4 :: c5 :: c6 :: c7 :: c8 :: c9 :: c10 :: c11 :: c12 :: c13 :: c14 :: c15 :: c16 :: c17 :: c18 :: c19 :: c20 :: c21 :: c22 :: c23 :: c24 :: c25 :: c26 :: c27 :: c28 :: c29 :: c30 :: c31 :: c32 :: c33 :: c34 :: c35 :: c36 :: c37 :: c38 :: c39 :: c40 :: c41 :: c42 :: c43 :: c44 :: c45 :: c46 :: c47 :: c48 :: c49 :: c50 :: c51 :: c52 :: c53 :: c54 :: c55 :: c56 :: c57 :: c58 :: c59 :: c60 :: c61 :: c62 :: c63 :: c64 :: c65 :: c66 :: c67 :: c68 :: c69 :: c70 :: c71 :: c72 :: c73 :: c74 :: c75 :: c76 :: c77 :: c78 :: c79 :: c80 :: c81 :: c82 :: c83 :: c84 :: c85 :: c86 :: c87 :: c88 :: c89 :: c90 :: c91 :: c92 :: c93 :: c94 :: c95 :: c96 :: c97 :: c98 :: c99 :: c100 :: c101 :: c102 :: c103 :: c104 :: c105 :: c106 :: c107 :: c108 :: c109 :: c110 :: c111 :: c112 :: c113 :: c114 :: c115 :: c116 :: c117 :: c118 :: c119 :: c120 :: c121 :: c122 :: c123 :: c124 :: c125 :: c126 :: c127 :: c128 :: c129 :: c130 :: c131 :: c132 :: c133 :: c134 :: c135 :: c136 :: c137 :: []), dz⟩ w := by
  have HQ := hid hQ
  have k3 : w.cell? ⟨g.G, 3, none⟩ = some (.slice none 0 0) := hg.ob.cell 3
  clear hQ hg
  conv => arg 2; whnf
  go_wp2
  refine wp_loop_rounds 1 ?_
  rw [rounds_succ]
  go_wp2
  exact HQ.out _ _ _ _ _ _ _ _ _ _ _ _ _ _ _ _

set_option maxRecDepth 1000000 in
set_option maxHeartbeats 2000000 in
theorem n6_2z {Q : Exit → Act → World → Prop} {dz : List Deferred} {c1 c2 c3 c4 c5 c6 c7 c8 c9 c10 c11 c12 c13 c14 c15 c16 c17 c18 c19 c20 c21 c22 c23 c24 c25 c26 c27 c28 c29 c30 c31 c32 c33 c34 c35 c36 c37 c38 c39 c40 c41 c42 c43 c44 c45 c46 c47 c48 c49 c50 c51 c52 c53 c54 c55 c56 c57 c58 c59 c60 c61 c62 c63 c64 c65 c66 c67 c68 c69 c70 c71 c72 c73 c74 c75 c76 c77 c78 c79 c80 c81 c82 c83 c84 c85 c86 c87 c88 c89 c90 c91 c92 c93 c94 c95 c96 c97 c98 c99 c100 c101 c102 c103 c104 c105 c106 c107 c108 c109 c110 c111 c112 c113 c114 c115 c116 c117 c118 c119 c120 c121 c122 c123 c124 c125 c126 c127 c128 c129 c130 c131 c132 c133 c134 c135 c136 c137 : Value} {w : World} (o : Nat → Nat) (g : GS) (hg : GAt o w g) (hM : g.M = 0)
    (hQ : ∀ (u33 u34 u35 u36 u37 u38 u39 u40 u41 u42 u43 u44 u45 u46 u47 u48 u49 u50 u51 u52 u53 u54 u55 u56 u57 u58 u59 u60 u61 u62 u63 u64 u65 u66 u67 u68 u69 u70 u71 u72 u73 u74 u75 u76 u77 u78 u79 u80 u81 u82 u83 u84 u85 u86 u87 u88 u89 : Value), Q .normal ⟨List.toArray (.pointer (some ⟨g.G, 0, none⟩) :: c1 :: c2 :: c3 :: c4 :: c5 :: c6 :: c7 :: c8 :: c9 :: c10 :: c11 :: c12 :: c13 :: c14 :: c15 :: c16 :: c17 :: c18 :: c19 :: c20 :: c21 :: c22 :: c23 :: c24 :: c25 :: c26 :: c27 :: c28 :: c29 :: c30 :: c31 :: c32 :: u33 :: u34 :: u35 :: u36 :: u37 :: u38 :: u39 :: u40 :: u41 :: u42 :: u43 :: u44 :: u45 :: u46 :: u47 :: u48 :: u49 :: u50 :: u51 :: u52 :: u53 :: u54 :: u55 :: u56 :: u57 :: u58 :: u59 :: u60 :: u61 :: u62 :: u63 :: u64 :: u65 :: u66 :: u67 :: u68 :: u69 :: u70 :: u71 :: u72 :: u73 :: u74 :: u75 :: u76 :: u77 :: u78 :: u79 :: u80 :: u81 :: u82 :: u83 :: u84 :: u85 :: u86 :: u87 :: u88 :: u89 :: c90 :: c91 :: c92 :: c93 :: c94 :: c95 :: c96 :: c97 :: c98 :: c99 :: c100 :: c101 :: c102 :: c103 :: c104 :: c105 :: c106 :: c107 :: c108 :: c109 :: c110 :: c111 :: c112 :: c113 :: c114 :: c115 :: c116 :: c117 :: c118 :: c119 :: c120 :: c121 :: c122 :: c123 :: c124 :: c125 :: c126 :: c127 :: c128 :: c129 :: c130 :: c131 :: c132 :: c133 :: c134 :: c135 :: c136 :: c137 :: []), dz⟩ w) : Code.wp Ybaz.prog (st6 2) Q ⟨List.toArray (.pointer (some ⟨g.G, 0, none⟩) :: c1 :: c2 :: c3 :: c4 :: c5 :: c6 :: c7 :: c8 :: c9 :: c10 :: c11 :: c12 :: c13 :: c14 :: c15 :: c16 :: c17 :: c18 :: c19 :: c20 :: c21 :: c22 :: c23 :: c24 :: c25 :: c26 :: c27 :: c28 :: c29 :: c30 :: c31 :: c32 :: c33 :: c34 :: c35 :: c36 :: c37 :: c38 :: c39 :: c40 :: c41 :: c42 :: c43 :: c44 :: c45 :: c46 :: c47 :: c48 :: c49 :: c50 :: c51 :: c52 :: c53 :: c54 :: c55 :: c56 :: c57 :: c58 :: c59 :: c60 :: c61 :: c62 :: c63 :: c64 :: c65 :: c66 :: c67 :: c68 :: c69 :: c70 :: c71 :: c72 :: c73 :: c74 :: c75 :: c76 :: c77 :: c78 :: c79 :: c80 :: c81 :: c82 :: c83 :: c84 :: c85 :: c86 :: c87 :: c88 :: c89 :: c90 :: c91 :: c92 :: c93 :: c94 :: c95 :: c96 :: c97 :: c98 :: c99 :: c100 :: c101 :: c102 :: c103 :: c104 :: c105 :: c106 :: c107 :: c108 :: c109 :: c110 :: c111 :: c112 :: c113 :: c114 :: c115 :: c116 :: c117 :: c118 :: c119 :: c120 :: c121 :: c122 :: c123 :: c124 :: c125 :: c126 :: c127 :: c128 :: c129 :: c130 :: c131 :: c132 :: c133 :: c134 :: c135 :: c136 :: c137 :: []), dz⟩ w := by
  have HQ := hid hQ
  have k3 : w.cell? ⟨g.G, 2, none⟩ = some (.slice g.na 0 g.ncap) := by rw [← hM]; exact hg.ob.cell 2
  clear hQ hg hM
  conv => arg 2; whnf
  go_wp2
  refine wp_loop_rounds 1 ?_
  rw [rounds_succ]
  go_wp2
  exact HQ.out _ _ _ _ _ _ _ _ _ _ _ _ _ _ _ _ _ _ _ _ _ _ _ _ _ _ _ _ _ _ _ _ _ _ _ _ _ _ _ _ _ _ _ _ _ _ _ _ _ _ _ _ _ _ _ _ _

set_option maxRecDepth 1000000 in
set_option maxHeartbeats 2000000 in
theorem n6_4z {Q : Exit → Act → World → Prop} {dz : List Deferred} {c1 c2 c3 c4 c5 c6 c7 c8 c9 c10 c11 c12 c13 c14 c15 c16 c17 c18 c19 c20 c21 c22 c23 c24 c25 c26 c27 c28 c29 c30 c31 c32 c33 c34 c35 c36 c37 c38 c39 c40 c41 c42 c43 c44 c45 c46 c47 c48 c49 c50 c51 c52 c53 c54 c55 c56 c57 c58 c59 c60 c61 c62 c63 c64 c65 c66 c67 c68 c69 c70 c71 c72 c73 c74 c75 c76 c77 c78 c79 c80 c81 c82 c83 c84 c85 c86 c87 c88 c89 c90 c91 c92 c93 c94 c95 c96 c97 c98 c99 c100 c101 c102 c103 c104 c105 c106 c107 c108 c109 c110 c111 c112 c113 c114 c115 c116 c117 c118 c119 c120 c121 c122 c123 c124 c125 c126 c127 c128 c129 c130 c131 c132 c133 c134 c135 c136 c137 : Value} {w : World} (o : Nat → Nat) (g : GS) (hg : GAt o w g) (hM : g.M = 0)
    (hQ : ∀ (u106 u107 u108 u109 u110 u111 u112 u113 u114 u115 u116 u117 u118 u119 u120 u121 u122 u123 u124 u125 u126 u127 u128 u129 u130 u131 u132 : Value), Q .normal ⟨List.toArray (.pointer (some ⟨g.G, 0, none⟩) :: c1 :: c2 :: c3 :: c4 :: c5 :: c6 :: c7 :: c8 :: c9 :: c10 :: c11 :: c12 :: c13 :: c14 :: c15 :: c16 :: c17 :: c18 :: c19 :: c20 :: c21 :: c22 :: c23 :: c24 :: c25 :: c26 :: c27 :: c28 :: c29 :: c30 :: c31 :: c32 :: c33 :: c34 :: c35 :: c36 :: c37 :: c38 :: c39 :: c40 :: c41 :: c42 :: c43 :: c44 :: c45 :: c46 :: c47 :: c48 :: c49 :: c50 :: c51 :: c52 :: c53 :: c54 :: c55 :: c56 :: c57 :: c58 :: c59 :: c60 :: c61 :: c62 :: c63 :: c64 :: c65 :: c66 :: c67 :: c68 :: c69 :: c70 :: c71 :: c72 :: c73 :: c74 :: c75 :: c76 :: c77 :: c78 :: c79 :: c80 :: c81 :: c82 :: c83 :: c84 :: c85 :: c86 :: c87 :: c88 :: c89 :: c90 :: c91 :: c92 :: c93 :: c94 :: c95 :: c96 :: c97 :: c98 :: c99 :: c100 :: c101 :: c102 :: c103 :: c104 :: c105 :: u106 :: u107 :: u108 :: u109 :: u110 :: u111 :: u112 :: u113 :: u114 :: u115 :: u116 :: u117 :: u118 :: u119 :: u120 :: u121 :: u122 :: u123 :: u124 :: u125 :: u126 :: u127 :: u128 :: u129 :: u130 :: u131 :: u132 :: c133 :: c134 :: c135 :: c136 :: c137 :: []), dz⟩ w) : Code.wp Ybaz.prog (st6 4) Q ⟨List.toArray (.pointer (some ⟨g.G, 0, none⟩) :: c1 :: c2 :: c3 :: c4 :: c5 :: c6 :: c7 :: c8 :: c9 :: c10 :: c11 :: c12 :: c13 :: c14 :: c15 :: c16 :: c17 :: c18 :: c19 :: c20 :: c21 :: c22 :: c23 :: c24 :: c25 :: c26 :: c27 :: c28 :: c29 :: c30 :: c31 :: c32 :: c33 :: c34 :: c35 :: c36 :: c37 :: c38 :: c39 :: c40 :: c41 :: c42 :: c43 :: c44 :: c45 :: c46 :: c47 :: c48 :: c49 :: c50 :: c51 :: c52 :: c53 :: c54 :: c55 :: c56 :: c57 :: c58 :: c59 :: c60 :: c61 :: c62 :: c63 :: c64 :: c65 :: c66 :: c67 :: c68 :: c69 :: c70 :: c71 :: c72 :: c73 :: c74 :: c75 :: c76 :: c77 :: c78 :: c79 :: c80 :: c81 :: c82 :: c83 :: c84 :: c85 :: c86 :: c87 :: c88 :: c89 :: c90 :: c91 :: c92 :: c93 :: c94 :: c95 :: c96 :: c97 :: c98 :: c99 :: c100 :: c101 :: c102 :: c103 :: c104 :: c105 :: c106 :: c107 :: c108 :: c109 :: c110 :: c111 :: c112 :: c113 :: c114 :: c115 :: c116 :: c117 :: c118 :: c119 :: c120 :: c121 :: c122 :: c123 :: c124 :: c125 :: c126 :: c127 :: c128 :: c129 :: c130 :: c131 :: c132 :: c133 :: c134 :: c135 :: c136 :: c137 :: []), dz⟩ w := by
  have HQ := hid hQ
  have k3 : w.cell? ⟨g.G, 2, none⟩ = some (.slice g.na 0 g.ncap) := by rw [← hM]; exact hg.ob.cell 2
  clear hQ hg hM
  conv => arg 2; whnf
  go_wp2
  refine wp_loop_rounds 1 ?_
  rw [rounds_succ]
  go_wp2
  exact HQ.out _ _ _ _ _ _ _ _ _ _ _ _ _ _ _ _ _ _ _ _ _ _ _ _ _ _ _

set_option maxRecDepth 1000000 in
set_option maxHeartbeats 2000000 in
theorem n6_4 {Q : Exit → Act → World → Prop} {dz : List Deferred} {c1 c2 c4 c5 c6 c7 c8 c9 c10 c11 c12 c13 c14 c15 c16 c17 c18 c19 c20 c21 c22 c23 c24 c25 c26 c27 c28 c29 c30 c31 c32 c33 c34 c35 c36 c37 c38 c39 c40 c41 c42 c43 c44 c45 c46 c47 c48 c49 c50 c51 c52 c53 c54 c55 c56 c57 c58 c59 c60 c61 c62 c63 c64 c65 c66 c67 c68 c69 c70 c71 c72 c73 c74 c75 c76 c77 c78 c79 c80 c81 c82 c83 c84 c85 c86 c87 c88 c89 c90 c91 c92 c93 c94 c95 c96 c97 c98 c99 c100 c101 c102 c103 c104 c105 c106 c107 c108 c109 c110 c111 c112 c113 c114 c115 c116 c117 c118 c119 c120 c121 c122 c123 c124 c125 c126 c127 c128 c129 c130 c131 c132 c133 c134 c135 c136 c137 : Value} {w : World} (o : Nat → Nat) (g : GS) (R nb tb gb : Nat) (tgt : Nat → Option Nat) (pv uv : Value) (hg : GAt o w g) (hn : g.n ≤ 300) (hM : g.M ≤ 300) (hM0 : 0 < g.M) (hwp : ∀ i, i < g.M → g.wp i < g.n) (hR : RAt o w R (gs g tgt nb tb gb 0) pv uv) (hT : Ar o w 5 tb 3 g.M (fun i => .int .i64 (tv (tgt i)))) (hidn : ∀ i, i < g.M → (g.tid i).toList ≠ [])
    (hQ : ∀ (u10 u11 u111 u112 u113 u114 u115 u116 u117 u118 u119 u120 u121 u122 u123 u124 u125 u126 u127 u128 u129 u130 u131 u132 : Value) (w' : World) (o' : Nat → Nat) (pv' uv' : Value), RAt o' w' R (gs g tgt nb tb gb g.M) pv' uv' → Step [1, 2, 3, 4] o w o' w' → Q .normal ⟨List.toArray (.pointer (some ⟨g.G, 0, none⟩) :: c1 :: c2 :: .pointer (some ⟨R, 0, none⟩) :: c4 :: c5 :: c6 :: c7 :: c8 :: c9 :: u10 :: u11 :: c12 :: c13 :: c14 :: c15 :: c16 :: c17 :: c18 :: c19 :: c20 :: c21 :: c22 :: c23 :: c24 :: c25 :: c26 :: c27 :: c28 :: c29 :: c30 :: c31 :: c32 :: c33 :: c34 :: c35 :: c36 :: c37 :: c38 :: c39 :: c40 :: c41 :: c42 :: c43 :: c44 :: c45 :: c46 :: c47 :: c48 :: c49 :: c50 :: c51 :: c52 :: c53 :: c54 :: c55 :: c56 :: c57 :: c58 :: c59 :: c60 :: c61 :: c62 :: c63 :: c64 :: c65 :: c66 :: c67 :: c68 :: c69 :: c70 :: c71 :: c72 :: c73 :: c74 :: c75 :: c76 :: c77 :: c78 :: c79 :: c80 :: c81 :: c82 :: c83 :: c84 :: c85 :: c86 :: c87 :: c88 :: c89 :: c90 :: c91 :: c92 :: c93 :: c94 :: c95 :: c96 :: c97 :: c98 :: c99 :: c100 :: c101 :: c102 :: c103 :: c104 :: c105 :: .pointer (some ⟨g.G, 0, none⟩) :: .pointer (some ⟨g.G, 0, none⟩) :: .pointer (some ⟨g.G, 2, none⟩) :: .slice (some ⟨g.nd, 0, none⟩) g.M g.ncap :: .int .i64 (g.M : Int) :: u111 :: u112 :: u113 :: u114 :: u115 :: u116 :: u117 :: u118 :: u119 :: u120 :: u121 :: u122 :: u123 :: u124 :: u125 :: u126 :: u127 :: u128 :: u129 :: u130 :: u131 :: u132 :: c133 :: c134 :: c135 :: c136 :: c137 :: []), dz⟩ w') :
    Code.wp Ybaz.prog (st6 4) Q ⟨List.toArray (.pointer (some ⟨g.G, 0, none⟩) :: c1 :: c2 :: .pointer (some ⟨R, 0, none⟩) :: c4 :: c5 :: c6 :: c7 :: c8 :: c9 :: c10 :: c11 :: c12 :: c13 :: c14 :: c15 :: c16 :: c17 :: c18 :: c19 :: c20 :: c21 :: c22 :: c23 :: c24 :: c25 :: c26 :: c27 :: c28 :: c29 :: c30 :: c31 :: c32 :: c33 :: c34 :: c35 :: c36 :: c37 :: c38 :: c39 :: c40 :: c41 :: c42 :: c43 :: c44 :: c45 :: c46 :: c47 :: c48 :: c49 :: c50 :: c51 :: c52 :: c53 :: c54 :: c55 :: c56 :: c57 :: c58 :: c59 :: c60 :: c61 :: c62 :: c63 :: c64 :: c65 :: c66 :: c67 :: c68 :: c69 :: c70 :: c71 :: c72 :: c73 :: c74 :: c75 :: c76 :: c77 :: c78 :: c79 :: c80 :: c81 :: c82 :: c83 :: c84 :: c85 :: c86 :: c87 :: c88 :: c89 :: c90 :: c91 :: c92 :: c93 :: c94 :: c95 :: c96 :: c97 :: c98 :: c99 :: c100 :: c101 :: c102 :: c103 :: c104 :: c105 :: c106 :: c107 :: c108 :: c109 :: c110 :: c111 :: c112 :: c113 :: c114 :: c115 :: c116 :: c117 :: c118 :: c119 :: c120 :: c121 :: c122 :: c123 :: c124 :: c125 :: c126 :: c127 :: c128 :: c129 :: c130 :: c131 :: c132 :: c133 :: c134 :: c135 :: c136 :: c137 :: []), dz⟩ w := by
  have HQ := hid hQ
  have k2 : w.cell? ⟨g.G, 2, none⟩ = some (.slice (some ⟨g.nd, 0, none⟩) g.M g.ncap) := by rw [← (hg.hna hM0).1]; exact hg.ob.cell 2
  have HH := hid (And.intro hg (And.intro hwp (And.intro hR (And.intro hT hidn))))
  clear hQ hg hwp hR hT hidn
  conv => arg 2; whnf
  go_wp2
  go_loopw [111] (fun c wr => ∃ (k : Nat) (o1 : Nat → Nat) (pv1 uv1 : Value), k ≤ g.M ∧ c = .int .i64 (k : Int) ∧ RAt o1 wr R (gs g tgt nb tb gb k) pv1 uv1 ∧ Step [1, 2, 3, 4] o w o1 wr) (fun c _ => g.M - (intOf c).toNat)
  case atStart =>
    obtain ⟨hg, hwp, hR, hT, hidn⟩ := HH.out
    exact ⟨0, o, pv, uv, Nat.zero_le _, rfl, hR, Step.refl _ _ _⟩
  case round =>
    obtain ⟨k, o1, pv1, uv1, hk, rfl, R1, st⟩ := hrel
    by_cases hk2 : k < g.M
    · obtain ⟨hg, hwp, hR, hT, hidn⟩ := HH.out
      have g1 := hg.step st (by simp) (by simp) (by simp)
      have T1 := hT.step st (by simp)
      obtain ⟨i1, i2, i3, i4, i5, i6, i7, i8, i9, i10, i11⟩ := gs_inv g tgt nb tb gb k
      obtain ⟨p1, p2, p3⟩ := g1.nc k hk2
      have b1 : (k : Int) < (g.M : Int) := by omega
      obtain ⟨X1, o2, B5, e1, z1, k1, t1, s1⟩ := alloc_step' o1 wr 99 (.cells #[.string (g.tid k), .int .i64 0, .int .i64 (-1 - (g.wp k : Int))] 39)
      have ob5 : Ob o2 X1 99 B5 39 #[.string (g.tid k), .int .i64 0, .int .i64 (-1 - (g.wp k : Int))] := ⟨k1, t1⟩
      have R2 := R1.step s1 (by simp) (by simp) (by simp) (by simp)
      have T2 := T1.step s1 (by simp)
      have g2 := g1.step s1 (by simp) (by simp) (by simp)
      have a0 : X1.cell? ⟨B5, 0, none⟩ = some (.string (g.tid k)) := ob5.cell 0
      have r2 : X1.cell? ⟨R, 2, none⟩ = some (.slice (some ⟨tb, 0, none⟩) g.M g.M) := by have := R2.ob.cell 2; rw [show (rcells (gs g tgt nb tb gb k) pv1 uv1)[2]? = some (.slice (some ⟨(gs g tgt nb tb gb k).tb, 0, none⟩) (gs g tgt nb tb gb k).M (gs g tgt nb tb gb k).M) from rfl, i4, i2] at this; exact this
      have q1 := T2.cell k hk2
      have hnb : (g.tid k).toList.isEmpty = false := by simpa using hidn k hk2
      have hwk := hwp k hk2
      have HHo := hid (holds_any o2 X1 R (gs g tgt nb tb gb k) pv1 uv1 g R2 g2 i3 k hk2 hM (by rw [i1]; exact hwk) (by rw [i1]; exact hn) (by omega) (by rw [i7]; simp) (by rw [i8]; omega))
      have HZ := hid (And.intro R2 (st.trans (s1.mono (T' := [1, 2, 3, 4]) (by simp))))
      clear hg hwp hR hT hidn g1 T1 R1 st i1 i2 i3 i4 i5 i6 i7 i8 i9 i10 i11 ob5 R2 T2 g2 s1 k1 t1
      cases ht : tgt k with
      | none =>
        rw [ht] at q1
        simp only [tv] at q1
        have Ht := hid ht
        clear ht
        go_wp2_with (go_at_call 9; refine HHo.out.mono ?_; rintro e w3 ⟨⟨r, rfl⟩, o3, pv3, uv3, R3, s3⟩)
        go_roundw
        case rel =>
          obtain ⟨R2, st2⟩ := HZ.out
          exact ⟨k + 1, o3, pv3, uv3, by omega, by go_num, by rw [gs, if_pos Ht.out]; exact R3, st2.trans s3⟩
        case measure => simp [intOf]; omega
      | some p =>
        rw [ht] at q1
        simp only [tv] at q1
        have Ht := hid (show ¬ tgt k = none by rw [ht]; simp)
        have b2 : ¬ (p : Int) < 0 := by omega
        clear ht
        go_wp2
        go_roundw
        case rel =>
          obtain ⟨R2, st2⟩ := HZ.out
          exact ⟨k + 1, o2, pv1, uv1, by omega, by go_num, by rw [gs, if_neg Ht.out]; exact R2, st2⟩
        case measure => simp [intOf]; omega
    · obtain rfl : k = g.M := by omega
      have b1 : ¬ (g.M : Int) < (g.M : Int) := by omega
      have HT := hid (And.intro R1 st)
      clear R1 st
      go_wp2
      obtain ⟨R1, st⟩ := HT.out
      exact HQ.out _ _ _ _ _ _ _ _ _ _ _ _ _ _ _ _ _ _ _ _ _ _ _ _ _ o1 pv1 uv1 R1 st

set_option maxRecDepth 1000000 in
set_option maxHeartbeats 2000000 in
theorem n6_5 {Q : Exit → Act → World → Prop} {dz : List Deferred} {c0 c1 c2 c4 c5 c6 c7 c8 c9 c10 c11 c12 c13 c14 c15 c16 c17 c18 c19 c20 c21 c22 c23 c24 c25 c26 c27 c28 c29 c30 c31 c32 c33 c34 c35 c36 c37 c38 c39 c40 c41 c42 c43 c44 c45 c46 c47 c48 c49 c50 c51 c52 c53 c54 c55 c56 c57 c58 c59 c60 c61 c62 c63 c64 c65 c66 c67 c68 c69 c70 c71 c72 c73 c74 c75 c76 c77 c78 c79 c80 c81 c82 c83 c84 c85 c86 c87 c88 c89 c90 c91 c92 c93 c94 c95 c96 c97 c98 c99 c100 c101 c102 c103 c104 c105 c106 c107 c108 c109 c110 c111 c112 c113 c114 c115 c116 c117 c118 c119 c120 c121 c122 c123 c124 c125 c126 c127 c128 c129 c130 c131 c132 c133 c134 c135 c136 c137 : Value} {w : World} (R : Nat) (P : World → Prop)
    (hc : Calls Ybaz.prog 10 #[.pointer (some ⟨R, 0, none⟩), .func (.func 11) #[.pointer (some ⟨R, 0, none⟩)] #[]] w fun e w' => (∃ v, e = .returned v) ∧ P w')
    (hQ : ∀ (u133 u134 u135 u136 u137 : Value) (w' : World), P w' → Q .ret ⟨List.toArray (c0 :: c1 :: .pointer (some ⟨R, 0, none⟩) :: .pointer (some ⟨R, 0, none⟩) :: c4 :: c5 :: c6 :: c7 :: c8 :: c9 :: c10 :: c11 :: c12 :: c13 :: c14 :: c15 :: c16 :: c17 :: c18 :: c19 :: c20 :: c21 :: c22 :: c23 :: c24 :: c25 :: c26 :: c27 :: c28 :: c29 :: c30 :: c31 :: c32 :: c33 :: c34 :: c35 :: c36 :: c37 :: c38 :: c39 :: c40 :: c41 :: c42 :: c43 :: c44 :: c45 :: c46 :: c47 :: c48 :: c49 :: c50 :: c51 :: c52 :: c53 :: c54 :: c55 :: c56 :: c57 :: c58 :: c59 :: c60 :: c61 :: c62 :: c63 :: c64 :: c65 :: c66 :: c67 :: c68 :: c69 :: c70 :: c71 :: c72 :: c73 :: c74 :: c75 :: c76 :: c77 :: c78 :: c79 :: c80 :: c81 :: c82 :: c83 :: c84 :: c85 :: c86 :: c87 :: c88 :: c89 :: c90 :: c91 :: c92 :: c93 :: c94 :: c95 :: c96 :: c97 :: c98 :: c99 :: c100 :: c101 :: c102 :: c103 :: c104 :: c105 :: c106 :: c107 :: c108 :: c109 :: c110 :: c111 :: c112 :: c113 :: c114 :: c115 :: c116 :: c117 :: c118 :: c119 :: c120 :: c121 :: c122 :: c123 :: c124 :: c125 :: c126 :: c127 :: c128 :: c129 :: c130 :: c131 :: c132 :: u133 :: u134 :: u135 :: u136 :: u137 :: []), dz⟩ w') : Code.wp Ybaz.prog (tl6 5) Q ⟨List.toArray (c0 :: c1 :: c2 :: .pointer (some ⟨R, 0, none⟩) :: c4 :: c5 :: c6 :: c7 :: c8 :: c9 :: c10 :: c11 :: c12 :: c13 :: c14 :: c15 :: c16 :: c17 :: c18 :: c19 :: c20 :: c21 :: c22 :: c23 :: c24 :: c25 :: c26 :: c27 :: c28 :: c29 :: c30 :: c31 :: c32 :: c33 :: c34 :: c35 :: c36 :: c37 :: c38 :: c39 :: c40 :: c41 :: c42 :: c43 :: c44 :: c45 :: c46 :: c47 :: c48 :: c49 :: c50 :: c51 :: c52 :: c53 :: c54 :: c55 :: c56 :: c57 :: c58 :: c59 :: c60 :: c61 :: c62 :: c63 :: c64 :: c65 :: c66 :: c67 :: c68 :: c69 :: c70 :: c71 :: c72 :: c73 :: c74 :: c75 :: c76 :: c77 :: c78 :: c79 :: c80 :: c81 :: c82 :: c83 :: c84 :: c85 :: c86 :: c87 :: c88 :: c89 :: c90 :: c91 :: c92 :: c93 :: c94 :: c95 :: c96 :: c97 :: c98 :: c99 :: c100 :: c101 :: c102 :: c103 :: c104 :: c105 :: c106 :: c107 :: c108 :: c109 :: c110 :: c111 :: c112 :: c113 :: c114 :: c115 :: c116 :: c117 :: c118 :: c119 :: c120 :: c121 :: c122 :: c123 :: c124 :: c125 :: c126 :: c127 :: c128 :: c129 :: c130 :: c131 :: c132 :: c133 :: c134 :: c135 :: c136 :: c137 :: []), dz⟩ w := by
  have HQ := hid hQ
  have HC := hid hc
  clear hQ hc
  conv => arg 2; whnf
  go_wp2_with (go_at_call 10; refine HC.out.mono ?_; rintro e w' ⟨⟨r, rfl⟩, h1⟩)
  exact HQ.out _ _ _ _ _ _ h1
end Go.Proofs.YbulkbmdoGreat
