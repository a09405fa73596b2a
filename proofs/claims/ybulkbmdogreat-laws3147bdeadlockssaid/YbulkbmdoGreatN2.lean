import Derived.Test.YbulkbmdoGreatD0
import Derived.Test.YbulkbmdoGreatMp
namespace Go.Proofs.YbulkbmdoGreat
open Go.RowKit
set_option linter.unusedVariables false
set_option linter.unusedSimpArgs false
attribute [local go_sem ↓] Go.wp_at_zero Go.wp_at_succ

/-- The reduction as newReduction lays it. -/
def rc0 (g : GS) (nb tb gb : Nat) : Array Value := #[.pointer (some ⟨g.G, 0, none⟩), .slice (some ⟨nb, 0, none⟩) g.M g.M, .slice (some ⟨tb, 0, none⟩) g.M g.M, .slice none 0 0, .slice none 0 0, .slice (some ⟨gb, 0, none⟩) g.n g.n, .slice none 0 0, .slice none 0 0, .int .i64 0]

set_option maxRecDepth 1000000 in
set_option maxHeartbeats 2000000 in
theorem n6_2 {Q : Exit → Act → World → Prop} {dz : List Deferred} {c1 c2 c4 c5 c6 c7 c8 c9 c10 c11 c12 c13 c14 c15 c16 c17 c18 c19 c20 c21 c22 c23 c24 c25 c26 c27 c28 c29 c30 c31 c32 c33 c34 c35 c36 c37 c38 c39 c40 c41 c42 c43 c44 c45 c46 c47 c48 c49 c50 c51 c52 c53 c54 c55 c56 c57 c58 c59 c60 c61 c62 c63 c64 c65 c66 c67 c68 c69 c70 c71 c72 c73 c74 c75 c76 c77 c78 c79 c80 c81 c82 c83 c84 c85 c86 c87 c88 c89 c90 c91 c92 c93 c94 c95 c96 c97 c98 c99 c100 c101 c102 c103 c104 c105 c106 c107 c108 c109 c110 c111 c112 c113 c114 c115 c116 c117 c118 c119 c120 c121 c122 c123 c124 c125 c126 c127 c128 c129 c130 c131 c132 c133 c134 c135 c136 c137 : Value} {w : World} (o : Nat → Nat) (g : GS) (R nb tb gb nk : Nat) (f : ByteArray → Option Nat) (tgt : Nat → Option Nat) (hg : GAt o w g) (hn : g.n ≤ 300) (hM : g.M ≤ 300) (hM0 : 0 < g.M) (hR : Ob o w 1 R 54 (rc0 g nb tb gb)) (hN : Ar o w 6 nb 3 g.M (fun _ => .int .i64 0)) (hT : Ar o w 5 tb 3 g.M (fun _ => .int .i64 0)) (hm : MP w g.mb nk f) (tm : o g.mb = 13) (hid : ∀ i, i < g.M → (g.tid i).size ≤ 2 ∧ (g.tid i).toList ≠ []) (hf : ∀ i p, i < g.M → f (g.tid i) = some p → p < g.n) (htg : ∀ i, i < g.M → tgt i = match f (g.tid i) with | some p => if 0 ≤ g.root p then some p else none | none => none)
    (hQ : ∀ (u4 u5 u6 u7 u38 u39 u40 u41 u42 u43 u44 u45 u46 u47 u48 u49 u50 u51 u52 u53 u54 u55 u56 u57 u58 u59 u60 u61 u62 u63 u64 u65 u66 u67 u68 u69 u70 u71 u72 u73 u74 u75 u76 u77 u78 u79 u80 u81 u82 u83 u84 u85 u86 u87 u88 u89 : Value) (w' : World) (o' : Nat → Nat), Ar o' w' 6 nb 3 g.M (fun _ => .int .i64 0) → Ar o' w' 5 tb 3 g.M (fun i => .int .i64 (tv (tgt i))) → Step [5, 6] o w o' w' → Q .normal ⟨List.toArray (.pointer (some ⟨g.G, 0, none⟩) :: c1 :: c2 :: .pointer (some ⟨R, 0, none⟩) :: u4 :: u5 :: u6 :: u7 :: c8 :: c9 :: c10 :: c11 :: c12 :: c13 :: c14 :: c15 :: c16 :: c17 :: c18 :: c19 :: c20 :: c21 :: c22 :: c23 :: c24 :: c25 :: c26 :: c27 :: c28 :: c29 :: c30 :: c31 :: c32 :: .pointer (some ⟨g.G, 0, none⟩) :: .pointer (some ⟨g.G, 0, none⟩) :: .pointer (some ⟨g.G, 2, none⟩) :: .slice (some ⟨g.nd, 0, none⟩) g.M g.ncap :: .int .i64 (g.M : Int) :: u38 :: u39 :: u40 :: u41 :: u42 :: u43 :: u44 :: u45 :: u46 :: u47 :: u48 :: u49 :: u50 :: u51 :: u52 :: u53 :: u54 :: u55 :: u56 :: u57 :: u58 :: u59 :: u60 :: u61 :: u62 :: u63 :: u64 :: u65 :: u66 :: u67 :: u68 :: u69 :: u70 :: u71 :: u72 :: u73 :: u74 :: u75 :: u76 :: u77 :: u78 :: u79 :: u80 :: u81 :: u82 :: u83 :: u84 :: u85 :: u86 :: u87 :: u88 :: u89 :: c90 :: c91 :: c92 :: c93 :: c94 :: c95 :: c96 :: c97 :: c98 :: c99 :: c100 :: c101 :: c102 :: c103 :: c104 :: c105 :: c106 :: c107 :: c108 :: c109 :: c110 :: c111 :: c112 :: c113 :: c114 :: c115 :: c116 :: c117 :: c118 :: c119 :: c120 :: c121 :: c122 :: c123 :: c124 :: c125 :: c126 :: c127 :: c128 :: c129 :: c130 :: c131 :: c132 :: c133 :: c134 :: c135 :: c136 :: c137 :: []), dz⟩ w') :
    Code.wp Ybaz.prog (st6 2) Q ⟨List.toArray (.pointer (some ⟨g.G, 0, none⟩) :: c1 :: c2 :: .pointer (some ⟨R, 0, none⟩) :: c4 :: c5 :: c6 :: c7 :: c8 :: c9 :: c10 :: c11 :: c12 :: c13 :: c14 :: c15 :: c16 :: c17 :: c18 :: c19 :: c20 :: c21 :: c22 :: c23 :: c24 :: c25 :: c26 :: c27 :: c28 :: c29 :: c30 :: c31 :: c32 :: c33 :: c34 :: c35 :: c36 :: c37 :: c38 :: c39 :: c40 :: c41 :: c42 :: c43 :: c44 :: c45 :: c46 :: c47 :: c48 :: c49 :: c50 :: c51 :: c52 :: c53 :: c54 :: c55 :: c56 :: c57 :: c58 :: c59 :: c60 :: c61 :: c62 :: c63 :: c64 :: c65 :: c66 :: c67 :: c68 :: c69 :: c70 :: c71 :: c72 :: c73 :: c74 :: c75 :: c76 :: c77 :: c78 :: c79 :: c80 :: c81 :: c82 :: c83 :: c84 :: c85 :: c86 :: c87 :: c88 :: c89 :: c90 :: c91 :: c92 :: c93 :: c94 :: c95 :: c96 :: c97 :: c98 :: c99 :: c100 :: c101 :: c102 :: c103 :: c104 :: c105 :: c106 :: c107 :: c108 :: c109 :: c110 :: c111 :: c112 :: c113 :: c114 :: c115 :: c116 :: c117 :: c118 :: c119 :: c120 :: c121 :: c122 :: c123 :: c124 :: c125 :: c126 :: c127 :: c128 :: c129 :: c130 :: c131 :: c132 :: c133 :: c134 :: c135 :: c136 :: c137 :: []), dz⟩ w := by
  have HQ : Hid _ := hQ
  have k2 : w.cell? ⟨g.G, 2, none⟩ = some (.slice (some ⟨g.nd, 0, none⟩) g.M g.ncap) := by rw [← (hg.hna hM0).1]; exact hg.ob.cell 2
  have HH : Hid _ := And.intro hg (And.intro hR (And.intro hN (And.intro hT (And.intro hm (And.intro tm (And.intro hid (And.intro hf htg)))))))
  clear hQ hg hR hN hT hm tm hid hf htg
  conv => arg 2; whnf
  go_wp2
  go_loopw [38] (fun c wr => ∃ (k : Nat) (o1 : Nat → Nat), k ≤ g.M ∧ c = .int .i64 (k : Int) ∧ Ar o1 wr 6 nb 3 g.M (fun _ => .int .i64 0) ∧ Ar o1 wr 5 tb 3 g.M (fun i => .int .i64 (if i < k then tv (tgt i) else 0)) ∧ Step [5, 6] o w o1 wr) (fun c _ => g.M - (intOf c).toNat)
  case atStart =>
    obtain ⟨hg, hR, hN, hT, hm, tm, hid, hf, htg⟩ := HH.out
    exact ⟨0, o, Nat.zero_le _, rfl, hN, by simpa using hT, Step.refl _ _ _⟩
  case round =>
    obtain ⟨k, o1, hk, rfl, N1, T1, st⟩ := hrel
    by_cases hk2 : k < g.M
    · obtain ⟨hg, hR, hN, hT, hm, tm, hidd, hf, htg⟩ := HH.out
      have g1 := hg.step st (by simp) (by simp) (by simp)
      have R1 := hR.step st (by simp)
      have m1 := hm.step st (by rw [tm]; simp)
      obtain ⟨p1, p2, p3⟩ := g1.nc k hk2
      have b1 : (k : Int) < (g.M : Int) := by omega
      obtain ⟨X1, o2, B5, e1, z1, k1, t1, s1⟩ := alloc_step' o1 wr 99 (.cells #[.string (g.tid k), .int .i64 0, .int .i64 (-1 - (g.wp k : Int))] 39)
      have ob5 : Ob o2 X1 99 B5 39 #[.string (g.tid k), .int .i64 0, .int .i64 (-1 - (g.wp k : Int))] := ⟨k1, t1⟩
      have N2 := N1.step s1 (by simp)
      have T2 := T1.step s1 (by simp)
      have R2 := R1.step s1 (by simp)
      have g2 := g1.step s1 (by simp) (by simp) (by simp)
      have m2 := m1.step s1 (by simp)
      have a0 : X1.cell? ⟨B5, 0, none⟩ = some (.string (g.tid k)) := ob5.cell 0
      have a1 : X1.cell? ⟨B5, 1, none⟩ = some (.int .i64 0) := ob5.cell 1
      have r1 : X1.cell? ⟨R, 1, none⟩ = some (.slice (some ⟨nb, 0, none⟩) g.M g.M) := R2.cell 1
      -- need[k] = 0
      have n1 := (N2.step (Step.drew [] o2 X1) (by simp)).cell k hk2
      have n2 := (N2.step (Step.drew [] o2 X1) (by simp)).frozen k
      have s2 := (Step.drew [6] o2 X1).trans ((N2.step (Step.drew [] o2 X1) (by simp)).sset k (.int .i64 0) (T := [6]) (by simp))
      have N3 := (N2.step (Step.drew [] o2 X1) (by simp)).set k (.int .i64 0)
      obtain ⟨X2, hX2⟩ : ∃ X2, X1.drew.setCell ⟨nb, k, none⟩ (.int .i64 0) = X2 := ⟨_, rfl⟩
      rw [hX2] at s2 N3
      have R3 := R2.step s2 (by simp)
      have T3 := T2.step s2 (by simp)
      have r2 : X2.cell? ⟨R, 2, none⟩ = some (.slice (some ⟨tb, 0, none⟩) g.M g.M) := R3.cell 2
      have q1 := T3.cell k hk2
      have q2 := T3.frozen k
      have s3 := T3.sset k (.int .i64 (-1)) (T := [5]) (by simp)
      have T4 := T3.set k (.int .i64 (-1))
      obtain ⟨X3, hX3⟩ : ∃ X3, X2.setCell ⟨tb, k, none⟩ (.int .i64 (-1)) = X3 := ⟨_, rfl⟩
      rw [hX3] at s3 T4
      have s23 := (s2.mono (T' := [5, 6]) (by simp)).trans (s3.mono (T' := [5, 6]) (by simp))
      have ob5' := ob5.step s23 (by simp)
      have a0' : X3.cell? ⟨B5, 0, none⟩ = some (.string (g.tid k)) := ob5'.cell 0
      have g3 := g2.step s23 (by simp) (by simp) (by simp)
      have om : o2 g.mb = 13 := by rw [s1.own _ m1.lt, st.own _ hm.lt]; exact tm
      have m3 := m2.step s23 (by rw [om]; simp)
      have gm : X3.cell? ⟨g.G, 1, none⟩ = some (.map (some g.mb)) := g3.ob.cell 1
      have hlk := (m3.step (Step.drew [] o2 X3) (by simp)).look (g.tid k) (by have := (hidd k hk2).1; unfold maxLen; omega)
      have hne : (g.tid k).toList ≠ [] := (hidd k hk2).2
      have hnb : (g.tid k).toList.isEmpty = false := by simpa using hne
      have N4 := N3.step s3 (by simp)
      have stA := (st.trans (s1.mono (T' := [5, 6]) (by simp))).trans s23
      have htk := htg k hk2
      have hN4 : Ar o2 X3 6 nb 3 g.M (fun _ => .int .i64 0) := N4.congr fun i _ => by by_cases e : i = k <;> simp [e]
      have HZ : Hid _ := And.intro T4 (And.intro hN4 (And.intro stA (And.intro htk (And.intro g3 R3))))
      have sX3 := s3
      have R4 := R3.step s3 (by simp)
      have r4 : X3.drew.cell? ⟨R, 2, none⟩ = some (.slice (some ⟨tb, 0, none⟩) g.M g.M) := R4.cell 2
      have hfk := fun p h => hf k p hk2 h
      have gp0 : X3.drew.cell? ⟨g.G, 0, none⟩ = some (.slice g.pa g.n g.pcap) := g3.ob.cell 0
      have HF : Hid _ := And.intro hfk (And.intro g3 (And.intro T4 R4))
      have HL : Hid _ := hlk
      clear hg hR hN hT hm tm hidd hf htg g1 R1 m1 N1 T1 st N2 T2 R2 g2 m2 s1 s2 N3 R3 T3 s3 T4 s23 ob5 ob5' g3 om m3 N4 stA htk hN4 sX3 R4 hfk k1 t1 hlk
      go_wp2
      refine wp_region_plan [0, 1, 2, 3, 4, 5, 6] [7, 8] 8 (fun w' => w'.cell? ⟨R, 1, none⟩ = some (.slice (some ⟨nb, 0, none⟩) g.M g.M) ∧ w'.cell? ⟨B5, 1, none⟩ = some (.int .i64 0)) (by kernel_rfl) (by kernel_rfl) (by kernel_rfl) (by kernel_rfl) ?_ ?_
      exact ⟨r1, a1⟩
      repeat
        refine takes_cons (v := ?_) rfl (by rfl) ?_ ?_
        rotate_left
        · (intro w' hS; (try dsimp only at hS); go_simp; try with_reducible rfl)
        try simp only [Act.put, List.setIfInBounds_toArray, List.set_cons_zero, List.set_cons_succ]
      refine takes_nil ?_
      refine runZ_step rfl (fun K hK => ?_)
      go_simp
      refine hK.out _ _ (⟨r1, a1⟩) (fun hHeld => ?_)
      clear hK K hHeld
      try simp only [Act.put, List.setIfInBounds_toArray, List.set_cons_zero, List.set_cons_succ]
      refine runZ_last rfl (fun K hK => ?_)
      go_simp
      refine hK.out _ _ ?_
      clear hK K
      refine runZ_nil (NoPanic.normal ?_)
      try simp only [Act.put]
      clear n1 n2 r1 a1
      go_wp2
      clear q1 q2 r2
      refine wp_region_mix [(true, 0), (true, 1), (true, 2), (true, 3), (true, 4), (true, 5), (false, 6), (true, 7), (true, 8), (true, 9), (true, 10), (true, 11)] 99 (fun w' => w'.cell? ⟨g.G, 1, none⟩ = some (.map (some g.mb)) ∧ w'.cell? ⟨B5, 0, none⟩ = some (.string (g.tid k))) (by kernel_rfl) (by kernel_rfl) (by kernel_rfl) (by kernel_rfl) ?_ ?_
      exact ⟨gm, a0'⟩
      repeat
        refine mix_take (v := ?_) rfl (by rfl) ?_ ?_
        rotate_left
        · (intro w' hS; (try dsimp only at hS); go_simp; try with_reducible rfl)
        try simp only [Act.put, List.setIfInBounds_toArray, List.set_cons_zero, List.set_cons_succ]
      have sd : Step [] o2 X3 o2 X3.drew := Step.drew [] o2 X3
      have Hsd : Hid _ := sd
      clear sd
      cases hfs : f (g.tid k) with
      | none =>
        have hlk := HL.out
        rw [hfs] at hlk
        simp only [Option.getD_none, Option.isSome_none] at hlk
        have Hfs : Hid _ := hfs
        clear hfs HF gp0
        refine mix_step rfl (fun K hK => ?_)
        go_simp
        refine hK.out _ _ (⟨gm, a0'⟩) (fun hHeld => ?_)
        clear hK K hHeld
        try simp only [Act.put, List.setIfInBounds_toArray, List.set_cons_zero, List.set_cons_succ]
        repeat
          refine mix_take (v := ?_) rfl (by rfl) ?_ ?_
          rotate_left
          · (intro w' hS; (try dsimp only at hS); go_simp; try with_reducible rfl)
          try simp only [Act.put, List.setIfInBounds_toArray, List.set_cons_zero, List.set_cons_succ]
        refine mix_nil (NoPanic.normal ?_)
        try simp only [Act.put]
        go_wp2
        go_roundw
        case rel =>
          obtain ⟨T4, hN4, stA, htk, g3, R3⟩ := HZ.out
          rw [Hfs.out] at htk
          refine ⟨k + 1, o2, by omega, by go_num, hN4.step Hsd.out (by simp), (T4.step Hsd.out (by simp)).congr fun i hi => ?_, stA.trans (Hsd.out.mono (by simp))⟩
          by_cases e : i = k
          · rw [if_pos e, if_pos (by omega : i < k + 1), e, htk]; rfl
          · by_cases e2 : i < k
            · rw [if_neg e, if_pos e2, if_pos (by omega : i < k + 1)]
            · rw [if_neg e, if_neg e2, if_neg (by omega : ¬ i < k + 1)]
        case measure => simp [intOf]; omega
      | some p =>
        obtain ⟨hfk, g3, T4, R4⟩ := HF.out
        have hpn := hfk p hfs
        have hgp : X3.drew.cell? ⟨g.G, 0, none⟩ = some (.slice (some ⟨g.pb, 0, none⟩) g.n g.pcap) := by rw [← (g3.hpa (by omega)).1]; exact gp0
        have hgr : X3.drew.cell? ⟨g.pb, p * 3 + 1, none⟩ = some (.int .i64 (g.root p)) := (g3.pc p hpn).2.1
        have T5 := T4.step Hsd.out (by simp)
        have w1 := T5.cell k hk2
        have w2 := T5.frozen k
        have b2 : (p : Int) < (g.n : Int) := by omega
        have hlk := HL.out
        rw [hfs] at hlk
        simp only [Option.getD_some, Option.isSome_some] at hlk
        have Hfs : Hid _ := hfs
        clear hfs HF gp0 hfk g3 T4 R4
        have HT5 : Hid _ := T5
        clear T5
        by_cases hr : 0 ≤ g.root p
        · skip
          refine mix_step rfl (fun K hK => ?_)
          go_simp
          refine hK.out _ _ (⟨gm, a0'⟩) (fun hHeld => ?_)
          clear hK K hHeld
          try simp only [Act.put, List.setIfInBounds_toArray, List.set_cons_zero, List.set_cons_succ]
          repeat
            refine mix_take (v := ?_) rfl (by rfl) ?_ ?_
            rotate_left
            · (intro w' hS; (try dsimp only at hS); go_simp; try with_reducible rfl)
            try simp only [Act.put, List.setIfInBounds_toArray, List.set_cons_zero, List.set_cons_succ]
          refine mix_nil (NoPanic.normal ?_)
          try simp only [Act.put]
          go_wp2
          go_roundw
          case rel =>
            obtain ⟨T4, hN4, stA, htk, g3, R3⟩ := HZ.out
            rw [Hfs.out] at htk
            simp only [hr, if_true] at htk
            have T5 := HT5.out
            have s6 := T5.sset k (.int .i64 (p : Int)) (T := [5]) (by simp)
            refine ⟨k + 1, o2, by omega, by go_num, (hN4.step Hsd.out (by simp)).step s6 (by simp), (T5.set k (.int .i64 (p : Int))).congr fun i hi => ?_, (stA.trans (Hsd.out.mono (by simp))).trans (s6.mono (by simp))⟩
            by_cases e : i = k
            · rw [if_pos e, if_pos (by omega : i < k + 1), e, htk]; rfl
            · by_cases e2 : i < k
              · rw [if_neg e, if_neg e, if_pos e2, if_pos (by omega : i < k + 1)]
              · rw [if_neg e, if_neg e, if_neg e2, if_neg (by omega : ¬ i < k + 1)]
          case measure => simp [intOf]; omega
        · skip
          refine mix_step rfl (fun K hK => ?_)
          go_simp
          refine hK.out _ _ (⟨gm, a0'⟩) (fun hHeld => ?_)
          clear hK K hHeld
          try simp only [Act.put, List.setIfInBounds_toArray, List.set_cons_zero, List.set_cons_succ]
          repeat
            refine mix_take (v := ?_) rfl (by rfl) ?_ ?_
            rotate_left
            · (intro w' hS; (try dsimp only at hS); go_simp; try with_reducible rfl)
            try simp only [Act.put, List.setIfInBounds_toArray, List.set_cons_zero, List.set_cons_succ]
          refine mix_nil (NoPanic.normal ?_)
          try simp only [Act.put]
          go_wp2
          go_roundw
          case rel =>
            obtain ⟨T4, hN4, stA, htk, g3, R3⟩ := HZ.out
            rw [Hfs.out] at htk
            simp only [hr, if_false] at htk
            refine ⟨k + 1, o2, by omega, by go_num, hN4.step Hsd.out (by simp), (T4.step Hsd.out (by simp)).congr fun i hi => ?_, stA.trans (Hsd.out.mono (by simp))⟩
            by_cases e : i = k
            · rw [if_pos e, if_pos (by omega : i < k + 1), e, htk]; rfl
            · by_cases e2 : i < k
              · rw [if_neg e, if_pos e2, if_pos (by omega : i < k + 1)]
              · rw [if_neg e, if_neg e2, if_neg (by omega : ¬ i < k + 1)]
          case measure => simp [intOf]; omega
    · obtain rfl : k = g.M := by omega
      have b1 : ¬ (g.M : Int) < (g.M : Int) := by omega
      have HT : Hid _ := And.intro N1 (And.intro T1 st)
      clear N1 T1 st
      go_wp2
      obtain ⟨N1, T1, st⟩ := HT.out
      exact HQ.out _ _ _ _ _ _ _ _ _ _ _ _ _ _ _ _ _ _ _ _ _ _ _ _ _ _ _ _ _ _ _ _ _ _ _ _ _ _ _ _ _ _ _ _ _ _ _ _ _ _ _ _ _ _ _ _ _ o1 N1 (T1.congr fun i hi => by rw [if_pos hi]) st
end Go.Proofs.YbulkbmdoGreat
