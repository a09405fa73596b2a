import Derived.Test.YbulkbmdoGreatN3
namespace Go.Proofs.YbulkbmdoGreat
open Go.RowKit
set_option linter.unusedVariables false
set_option linter.unusedSimpArgs false

/-- Who is granted when the reduction has settled. -/
structure GRed (g : GS) (tgt : Nat → Option Nat) (gr : Nat → Bool) : Prop where
  base : ∀ i, i < g.M → tgt i = none → gr (g.wp i) = true
  up : ∀ i q, i < g.M → tgt i = some q → gr q = true → gr (g.wp i) = true
  sound : ∀ P : Nat → Prop, (∀ i, i < g.M → tgt i = none → P (g.wp i)) → (∀ i q, i < g.M → tgt i = some q → P q → P (g.wp i)) → ∀ p, gr p = true → P p

theorem gred_of (g : GS) (tgt : Nat → Option Nat) (nb tb gb : Nat) (new : List Nat) (hI : SInv (gs g tgt nb tb gb g.M).gr g.n (gs g tgt nb tb gb g.M).pend (fun p => Pl.sel (prs tgt g.M) p) g.wp [] new) : GRed g tgt (grown (gs g tgt nb tb gb g.M).gr new) := by
  obtain ⟨_, _, _, _, _, _, _, _, _, i10, i11⟩ := gs_inv g tgt nb tb gb g.M
  have hin : ∀ q, grown (gs g tgt nb tb gb g.M).gr new q = true ↔ q ∈ (gs g tgt nb tb gb g.M).pend ++ new := fun q => by
    unfold grown
    rw [List.mem_append, i11]
    simp
  refine ⟨fun i hi ht => ?_, fun i q hi ht hq => ?_, fun P h1 h2 p hp => ?_⟩
  · unfold grown
    rw [(i10 (g.wp i)).2 ⟨i, hi, ht, rfl⟩]; rfl
  · exact hI.closed q ((hin q).1 hq) (by simp) i (selM.2 ⟨hi, ht⟩)
  · have hb : ∀ q ∈ (gs g tgt nb tb gb g.M).pend, P q := fun q hq => by
      obtain ⟨i, a, b, c⟩ := (i10 q).1 ((i11 q).1 hq)
      rw [← c]; exact h1 i a b
    rcases List.mem_append.1 ((hin p).1 hp) with h | h
    · exact hb p h
    · exact hI.sound P hb (fun q lf hq hl => by obtain ⟨a, b⟩ := selM.1 hl; exact h2 lf q a b hq) p h

set_option maxRecDepth 1000000 in
set_option maxHeartbeats 2000000 in
theorem newRed_any (o : Nat → Nat) (W : World) (g : GS) (nk : Nat) (f : ByteArray → Option Nat) (tgt : Nat → Option Nat) (hg : GAt o W g) (hn : g.n ≤ 300) (hM : g.M ≤ 300) (hm : MP W g.mb nk f) (tm : o g.mb = 13) (hidn : ∀ i, i < g.M → (g.tid i).size ≤ 2 ∧ (g.tid i).toList ≠ []) (hf : ∀ i p, i < g.M → f (g.tid i) = some p → p < g.n) (htg : ∀ i, i < g.M → tgt i = match f (g.tid i) with | some p => if 0 ≤ g.root p then some p else none | none => none) (htn : ∀ i p, tgt i = some p → p < g.n) (hwp : ∀ i, i < g.M → g.wp i < g.n) :
    Calls Ybaz.prog 6 #[.pointer (some ⟨g.G, 0, none⟩)] W fun e w' => ∃ (o' : Nat → Nat) (R : Nat) (s : RS) (pv uv : Value), e = .returned (.pointer (some ⟨R, 0, none⟩)) ∧ DC o' w' R g s pv uv ∧ NG g tgt o' w' s ∧ s.marks = 0 ∧ s.und = [] ∧ s.pend = [] ∧ GRed g tgt s.gr ∧ Step [1, 2, 3, 4, 5, 6] o W o' w' := by
  refine calls_of_wp Ybaz.func6 (c := bd6) rfl ?_
  simp only [Ybaz.ntmps6, List.size_toArray, List.length_cons, List.length_nil, Nat.reduceAdd, Nat.reduceSub, Array.replicate_succ, Array.replicate_zero, List.push_toArray, List.append_toArray, List.nil_append, List.cons_append]
  change Code.wp Ybaz.prog (tl6 0) _ _ _
  rw [show tl6 0 = .seq (st6 0) (tl6 1) from rfl]
  refine wp_seq ?_
  refine n6_0 ?_
  change Code.wp Ybaz.prog (tl6 1) _ _ _
  rw [show tl6 1 = .seq (st6 1) (tl6 2) from rfl]
  refine wp_seq ?_
  refine n6_1 o g hg hn hM ?_
  intro u12 u13 u14 u15 u16 u17 u18 u19 u20 u21 u22 u23 u24 u25 u26 u27 u28 u29 u30 u31 u32 w1 o1 R nb tb gb R1 N1 T1 G1 s1
  have g1 := hg.step s1 (by simp) (by simp) (by simp)
  have m1 := hm.step s1 (by simp)
  have tm1 : o1 g.mb = 13 := (s1.own _ hm.lt).trans tm
  have fin : ∀ (o4 : Nat → Nat) (w4 : World) (pv uv : Value) (S0 : Step [1, 2, 3, 4, 5, 6] o W o4 w4), RAt o4 w4 R (gs g tgt nb tb gb g.M) pv uv → GAt o4 w4 g → Ar o4 w4 5 tb 3 g.M (fun i => .int .i64 (tv (tgt i))) →
      Calls Ybaz.prog 10 #[.pointer (some ⟨R, 0, none⟩), .func (.func 11) #[.pointer (some ⟨R, 0, none⟩)] #[]] w4 fun e w' => (∃ v, e = .returned v) ∧ ∃ (o' : Nat → Nat) (s : RS) (pv uv : Value), DC o' w' R g s pv uv ∧ NG g tgt o' w' s ∧ s.marks = 0 ∧ s.und = [] ∧ s.pend = [] ∧ GRed g tgt s.gr ∧ Step [1, 2, 3, 4, 5, 6] o W o' w' := by
    intro o4 w4 pv uv S0 R4 g4 T4
    obtain ⟨i1, i2, i3, i4, i5, i6, i7, i8, i9, i10, i11⟩ := gs_inv g tgt nb tb gb g.M
    have hNG : NG g tgt o4 w4 (gs g tgt nb tb gb g.M) := ⟨g4, by rw [i4, i2]; exact T4, .inl ⟨i5, i6⟩, i3, i1, i2⟩
    refine (settle_any o4 w4 R _ pv uv R4 g tgt hNG htn hn hM (by rw [i8]; omega) (by rw [i7]; simp) (by omega) hwp (fun q hq => ?_)).mono ?_
    · obtain ⟨i, a, b, c⟩ := (i10 q).1 ((i11 q).1 hq)
      rw [← c]; exact hwp i a
    · rintro e w' ⟨hv, o', pv', uv', nf, ni, new, R5, hI, N5, s5⟩
      refine ⟨hv, o', _, pv', uv', ⟨R5, g4.step s5 (by simp) (by simp) (by simp), i3, i1, i2⟩, N5, i8, ?_, rfl, gred_of g tgt nb tb gb new hI, S0.trans (s5.mono (by simp))⟩
      show (if 0 < (gs g tgt nb tb gb g.M).marks then _ else (gs g tgt nb tb gb g.M).und) = []
      rw [i8, i7]; rfl
  by_cases hM0 : g.M = 0
  · change Code.wp Ybaz.prog (tl6 2) _ _ _
    rw [show tl6 2 = .seq (st6 2) (tl6 3) from rfl]
    refine wp_seq ?_
    refine n6_2z o1 g g1 hM0 ?_
    intro u33 u34 u35 u36 u37 u38 u39 u40 u41 u42 u43 u44 u45 u46 u47 u48 u49 u50 u51 u52 u53 u54 u55 u56 u57 u58 u59 u60 u61 u62 u63 u64 u65 u66 u67 u68 u69 u70 u71 u72 u73 u74 u75 u76 u77 u78 u79 u80 u81 u82 u83 u84 u85 u86 u87 u88 u89
    change Code.wp Ybaz.prog (tl6 3) _ _ _
    rw [show tl6 3 = .seq (st6 3) (tl6 4) from rfl]
    refine wp_seq ?_
    refine n6_3 o1 g g1 ?_
    intro u90 u91 u92 u93 u94 u95 u96 u97 u98 u99 u100 u101 u102 u103 u104 u105
    change Code.wp Ybaz.prog (tl6 4) _ _ _
    rw [show tl6 4 = .seq (st6 4) (tl6 5) from rfl]
    refine wp_seq ?_
    refine n6_4z o1 g g1 hM0 ?_
    intro u106 u107 u108 u109 u110 u111 u112 u113 u114 u115 u116 u117 u118 u119 u120 u121 u122 u123 u124 u125 u126 u127 u128 u129 u130 u131 u132
    change Code.wp Ybaz.prog (tl6 5) _ _ _
    have hR0 : RAt o1 w1 R (gs g tgt nb tb gb g.M) (.slice none 0 0) (.slice none 0 0) := by
      rw [hM0]
      exact ⟨by have := R1; rw [hM0] at this; show Ob o1 w1 1 R 54 #[.pointer (some ⟨g.G, 0, none⟩), .slice (some ⟨nb, 0, none⟩) g.M g.M, .slice (some ⟨tb, 0, none⟩) g.M g.M, .slice none 0 0, .slice none 0 0, .slice (some ⟨gb, 0, none⟩) g.n g.n, .slice none 0 0, .slice none 0 0, .int .i64 0]; rw [hM0]; exact this, G1, Sl.nil _ _ _ _, Sl.nil _ _ _ _⟩
    refine n6_5 R _ (fin o1 w1 _ _ (s1.mono (by simp)) hR0 g1 (T1.congr fun i hi => by omega)) ?_
    rintro u133 u134 u135 u136 u137 w5 ⟨o', s, pv, uv, a1, a2, a3, a4, a5, a6, a7⟩
    refine bodyPost_ret (results_tmp rfl _ _ _) rfl ⟨o', R, s, pv, uv, rfl, a1, a2, a3, a4, a5, a6, a7⟩
  · have hMp : 0 < g.M := by omega
    change Code.wp Ybaz.prog (tl6 2) _ _ _
    rw [show tl6 2 = .seq (st6 2) (tl6 3) from rfl]
    refine wp_seq ?_
    refine n6_2 (c1 := undef) (c2 := .pointer none) o1 g R nb tb gb nk f tgt g1 hn hM hMp R1 N1 T1 m1 tm1 hidn hf htg ?_
    intro u4 u5 u6 u7 u38 u39 u40 u41 u42 u43 u44 u45 u46 u47 u48 u49 u50 u51 u52 u53 u54 u55 u56 u57 u58 u59 u60 u61 u62 u63 u64 u65 u66 u67 u68 u69 u70 u71 u72 u73 u74 u75 u76 u77 u78 u79 u80 u81 u82 u83 u84 u85 u86 u87 u88 u89 w2 o2 N2 T2 s2
    have g2 := g1.step s2 (by simp) (by simp) (by simp)
    have R2 := R1.step s2 (by simp)
    have G2 := G1.step s2 (by simp)
    change Code.wp Ybaz.prog (tl6 3) _ _ _
    rw [show tl6 3 = .seq (st6 3) (tl6 4) from rfl]
    refine wp_seq ?_
    refine n6_3 o2 g g2 ?_
    intro u90 u91 u92 u93 u94 u95 u96 u97 u98 u99 u100 u101 u102 u103 u104 u105
    change Code.wp Ybaz.prog (tl6 4) _ _ _
    rw [show tl6 4 = .seq (st6 4) (tl6 5) from rfl]
    refine wp_seq ?_
    refine n6_4 o2 g R nb tb gb tgt (.slice none 0 0) (.slice none 0 0) g2 hn hM hMp hwp ⟨R2, G2, Sl.nil _ _ _ _, Sl.nil _ _ _ _⟩ T2 (fun i hi => (hidn i hi).2) ?_
    intro u10 u11 u111 u112 u113 u114 u115 u116 u117 u118 u119 u120 u121 u122 u123 u124 u125 u126 u127 u128 u129 u130 u131 u132 w4 o4 pv4 uv4 R4 s4
    change Code.wp Ybaz.prog (tl6 5) _ _ _
    refine n6_5 R _ (fin o4 w4 _ _ (((s1.mono (by simp)).trans (s2.mono (by simp))).trans (s4.mono (by simp))) R4 (g2.step s4 (by simp) (by simp) (by simp)) (T2.step s4 (by simp))) ?_
    rintro u133 u134 u135 u136 u137 w5 ⟨o', s, pv, uv, a1, a2, a3, a4, a5, a6, a7⟩
    refine bodyPost_ret (results_tmp rfl _ _ _) rfl ⟨o', R, s, pv, uv, rfl, a1, a2, a3, a4, a5, a6, a7⟩
end Go.Proofs.YbulkbmdoGreat
