import Derived.Test.YbulkbmdoGreatQueue4
namespace Go.Proofs.YbulkbmdoGreat
open Go.RowKit Go.Shelf
set_option linter.unusedVariables false

def slLen : Value → Nat
  | .slice _ n _ => n
  | _ => 0

set_option maxRecDepth 100000 in
set_option maxHeartbeats 8000000 in
/-- q.next(done): a slot that is not done, or none is left. -/
theorem next_any (o : Nat → Nat) (W : World) (S : Nat) (v : VSt) (ctb N ccap : Nat) (f : Nat → Int) (n0 : Nat) (bl : Nat → List Nat) (top : Int) (h : TQ o W S v ctb N ccap f n0 bl top) (ht0 : -1 ≤ top) (ht1 : top < (n0 : Int)) (hn0 : n0 ≤ 10) (hN : N ≤ 300) (hv : ∀ j, j < n0 → ∀ i ∈ bl j, i < N) (hl : ∀ j, j < n0 → (bl j).length ≤ 2000)
    (gf : Nat) (lb : Array Value) (eg : ∀ args w, (callFunc gf args).run Ybaz.prog w = .ok (.enter gf args) w) (dn : Nat → Bool)
    (hd : ∀ o' W' qbv qt, Ob o' W' 20 S 63 (vcells { v with qb := qbv, qt := qt }) → Step [20, 36] o W o' W' → ∀ i, i < N → Calls Ybaz.prog gf (#[.int .i64 (i : Int)] ++ lb) W' fun e w' => e = .returned (.bool (dn i)) ∧ ∃ m, w' = W'.drewN m) :
    Calls Ybaz.prog 97 #[.pointer (some ⟨S, 16, none⟩), .func (.func gf) #[] lb] W fun e w' => ∃ o' qbv bl' top', TQ o' w' S { v with qb := qbv, qt := .int .i64 top' } ctb N ccap f n0 bl' top' ∧ -1 ≤ top' ∧ top' ≤ top ∧ (∀ j, j < n0 → bl' j <+: bl j) ∧ Step [20, 36] o W o' w' ∧
      ((∃ i : Nat, e = .returned (.tuple #[.int .i64 (i : Int), .bool true]) ∧ i < N ∧ dn i = false ∧ 0 ≤ top') ∨ (e = .returned (.tuple #[.int .i64 0, .bool false]) ∧ ∀ j : Nat, (j : Int) ≤ top → ∀ i ∈ bl j, f i = (j : Int) → dn i = true)) := by
  go_enter Ybaz.func97, Ybaz.ntmps97
  go_wp2
  go_loopg [] ((top + 1).toNat) (fun gk wr => ∃ o1 qbv bl1 top1, TQ o1 wr S { v with qb := qbv, qt := .int .i64 top1 } ctb N ccap f n0 bl1 top1 ∧ -1 ≤ top1 ∧ top1 ≤ top ∧ (∀ j, j < n0 → bl1 j <+: bl j) ∧ (∀ j, j < n0 → (j : Int) ≤ top1 → bl1 j = bl j) ∧ Step [20, 36] o W o1 wr ∧ (∀ j : Nat, (j : Int) ≤ top → top1 < (j : Int) → ∀ i ∈ bl j, f i = (j : Int) → dn i = true) ∧ gk = (top1 + 1).toNat)
  case atStart => exact ⟨o, v.qb, bl, top, by have e := h.qt; rw [← e]; exact h, ht0, Int.le_refl _, fun _ _ => List.prefix_rfl, fun _ _ _ => rfl, Step.refl _ _ _, fun j h1 h2 => by omega, rfl⟩
  case round =>
    obtain ⟨o1, qbv, bl1, top1, T1, k1, k2, k3, k4, st1, k5, rfl⟩ := hrel
    have c18 : wr.cell? ⟨S, 18, none⟩ = some (.int .i64 top1) := T1.ob.cell 18
    by_cases hneg : top1 < 0
    · have b1 : ¬ (0 : Int) ≤ top1 := by omega
      have HF := hid (And.intro T1 st1)
      clear T1 st1
      go_wp2
      refine bodyPost_ret (results_tmp2 rfl _ _ _) rfl ?_
      exact ⟨o1, qbv, bl1, top1, HF.out.1, k1, k2, k3, HF.out.2, .inr ⟨rfl, fun j hj => k5 j hj (by omega)⟩⟩
    · obtain ⟨t, rfl⟩ : ∃ t : Nat, top1 = (t : Int) := ⟨top1.toNat, by omega⟩
      have b1 : (0 : Int) ≤ (t : Int) := by omega
      have htn : t < n0 := by omega
      obtain ⟨a, cap, hqv, hnc, hcm, _⟩ := T1.qb.form
      obtain ⟨qb, rfl⟩ : ∃ qb, a = some ⟨qb, 0, none⟩ := by
        rcases T1.qb with ⟨_, h0⟩ | ⟨qb, cap', cur, bv, e, _⟩
        · omega
        · rw [hqv] at e; simp at e; exact ⟨qb, e.1⟩
      have hqv' : qbv = .slice (some ⟨qb, 0, none⟩) n0 cap := hqv
      subst hqv'
      have c17 : wr.cell? ⟨S, 17, none⟩ = some (.slice (some ⟨qb, 0, none⟩) n0 cap) := T1.ob.cell 17
      have c16 : wr.cell? ⟨S, 16, none⟩ = some (.slice (some ⟨ctb, 0, none⟩) N ccap) := by have := T1.ob.cell 16; rw [this]; exact congrArg some T1.qc
      obtain ⟨_, _, hcells⟩ := T1.qb.cell
      obtain ⟨a2, cp2, e2, e3, e4, e5, e6⟩ := hcells t (by omega)
      have hcp : cp2 ≤ 9223372036854775807 := by unfold maxLen at e4; omega
      have b2 : (t : Int) < (n0 : Int) := by omega
      have ebl := k4 t htn (Int.le_refl _)
      have hlen := hl t htn
      rw [ebl] at e2 e3 e6
      have HT := hid T1
      have HST := hid st1
      clear T1 st1 hcells hqv
      go_wp2
      go_quiet (fail)
      go_wp2
      have lq : qb < wr.heap.size := World.block_lt_of_cell? _ _ e2
      go_loopw [6] (fun b wz => ∃ (rest rem : List Nat) (m : Nat), bl t = rest ++ rem ∧ b = .slice a2 rest.length cp2 ∧ (∀ i ∈ rem, f i = (t : Int) → dn i = true) ∧ wz = wr.drewN m) (fun b _ => slLen b)
      case atStart => exact ⟨bl t, [], nq, by simp, rfl, by simp, rfl⟩
      case round =>
        obtain ⟨rest, rem, m, hrr, rfl, hrem, rfl⟩ := hrel
        rcases nil_or_snoc rest with rfl | ⟨rs, i, rfl⟩
        · -- the bucket is empty: on to the next lower
          have sD := Step.drewN [] o1 wr m
          have TD := HT.out.step sD (by simp) (by simp) (by simp) (by simp)
          obtain ⟨qP, sP⟩ := TD.qb.put' n0 t (by omega) (by omega) (.slice a2 0 cp2) [] (by have := (e6.step sD (by simp)).cut 0 (by simp); simpa [ints] using this)
          have obP := TD.ob.step sP (by simp)
          obtain ⟨X, hX⟩ : ∃ X, wr.drewN m = X := ⟨_, rfl⟩
          rw [hX] at sD TD qP sP obP ⊢
          have x17 : X.cell? ⟨S, 17, none⟩ = some (.slice (some ⟨qb, 0, none⟩) n0 cap) := TD.ob.cell 17
          have x18 : X.cell? ⟨S, 18, none⟩ = some (.int .i64 (t : Int)) := TD.ob.cell 18
          have xq : X.cell? ⟨qb, t, none⟩ = some (.slice a2 (bl t).length cp2) := by rw [← hX]; exact e2
          have xf : X.frozen? ⟨qb, t, none⟩ = false := by rw [← hX]; exact e5
          have y18 : (X.setCell ⟨qb, t, none⟩ (.slice a2 0 cp2)).cell? ⟨S, 18, none⟩ = some (.int .i64 (t : Int)) := obP.cell 18
          have y18f := obP.frozen 18
          have obR := obP.set 18 (.int .i64 ((t : Int) - 1))
          have sR := obP.sset 18 (.int .i64 ((t : Int) - 1)) (T := [20]) (by simp)
          have TR : TQ o1 ((X.setCell ⟨qb, t, none⟩ (.slice a2 0 cp2)).setCell ⟨S, 18, none⟩ (.int .i64 ((t : Int) - 1))) S { v with qb := .slice (some ⟨qb, 0, none⟩) n0 cap, qt := .int .i64 ((t : Int) - 1) } ctb N ccap f n0 (fun j => if j = t then [] else bl1 j) ((t : Int) - 1) :=
            ⟨obR, TD.qc, (TD.ct.kept (sP.block _ TD.ct.lt (by rw [TD.tct]; simp))).kept (sR.block _ (Nat.lt_of_lt_of_le TD.ct.lt sP.size) (by rw [TD.tct]; simp)), TD.tct, qP.step sR (by simp) (by simp; omega), rfl, (TD.sz.kept (sP.block _ TD.ct.lt (by rw [TD.tct]; simp))).kept (sR.block _ (Nat.lt_of_lt_of_le TD.ct.lt sP.size) (by rw [TD.tct]; simp))⟩
          have HTR := hid TR
          have HSR := hid ((((HST.out.trans (sD.mono (by simp))).trans (sP.mono (by simp)))).trans (sR.mono (by simp)))
          rw [List.nil_append] at hrr
          rw [← hrr] at hrem
          have HREM := hid hrem
          clear TD qP sP obP obR sR TR hX sD hrr hrem HT HST e6 hd c17 c16 c18 e2 e5 ebl
          go_wp2
          go_region
          all_goals
            go_wp2
            go_roundg (((t : Int) - 1 + 1).toNat)
            case rel =>
              have sE := Step.drew [] o1 ((X.setCell ⟨qb, t, none⟩ (.slice a2 0 cp2)).setCell ⟨S, 18, none⟩ (.int .i64 ((t : Int) - 1)))
              refine ⟨o1, _, _, (t : Int) - 1, HTR.out.step sE (by simp) (by simp) (by simp) (by simp), by omega, by omega, fun j hj => ?_, fun j hj hj2 => ?_, HSR.out.trans (sE.mono (by simp)), fun j hj1 hj2 => ?_, rfl⟩
              · by_cases e : j = t
                · simp only [e, if_true]; exact List.nil_prefix
                · simp only [e, if_false]; exact k3 j hj
              · have e : ¬ j = t := by omega
                simp only [e, if_false]
                exact k4 j hj (by omega)
              · by_cases e : j = t
                · subst e; exact HREM.out
                · exact k5 j hj1 (by omega)
            case measure => omega
        · have hil : i < N := hv t htn i (by rw [hrr]; simp)
          have hlr : rs.length + 1 ≤ (bl t).length := by rw [hrr]; simp
          obtain ⟨g3, rfl⟩ : ∃ g3, a2 = some ⟨g3, 0, none⟩ := by
            rcases e6.form with ⟨hx, hy⟩ | ⟨g3, cp3, hx, _⟩
            · have := congrArg List.length hy; rw [ints_length, List.length_nil] at this; omega
            · simp at hx; exact ⟨g3, hx.1⟩
          have ci : wr.cell? ⟨g3, rs.length, none⟩ = some (.int .i64 (i : Int)) := by
            have hh := e6
            rw [← ints_length (bl t)] at hh
            rw [hh.cell rs.length (by rw [ints_length]; omega)]
            simp [ints, hrr]
          have b3 : (0 : Int) < (rs.length : Int) + 1 := by omega
          have b4 : (rs.length : Int) ≤ (cp2 : Int) := by omega
          have b5 : (i : Int) < (N : Int) := by omega
          have cct : wr.cell? ⟨ctb, i, none⟩ = some (.int .i64 (f i)) := HT.out.ct.cell i hil
          have elen : (rs ++ [i]).length = rs.length + 1 := by simp
          simp only [elen]
          have sX := Step.drewN [] o1 wr m
          have TX := HT.out.step sX (by simp) (by simp) (by simp) (by simp)
          have slX := e6.step sX (by simp)
          have x17 : (wr.drewN m).cell? ⟨S, 17, none⟩ = some (.slice (some ⟨qb, 0, none⟩) n0 cap) := c17
          have x16 : (wr.drewN m).cell? ⟨S, 16, none⟩ = some (.slice (some ⟨ctb, 0, none⟩) N ccap) := c16
          have x18 : (wr.drewN m).cell? ⟨S, 18, none⟩ = some (.int .i64 (t : Int)) := c18
          have xi : (wr.drewN m).cell? ⟨g3, rs.length, none⟩ = some (.int .i64 (i : Int)) := ci
          have xct : (wr.drewN m).cell? ⟨ctb, i, none⟩ = some (.int .i64 (f i)) := cct
          have xq : (wr.drewN m).cell? ⟨qb, t, none⟩ = some (.slice (some ⟨g3, 0, none⟩) (bl t).length cp2) := e2
          have xf : (wr.drewN m).frozen? ⟨qb, t, none⟩ = false := e5
          obtain ⟨X, hX⟩ : ∃ X, wr.drewN m = X := ⟨_, rfl⟩
          have HXE := hid hX
          rw [hX] at sX TX slX x17 x16 x18 xi xct xq xf ⊢
          clear hX c17 c16 c18 ci cct e2 e5
          have HD : Hid (∀ m2, Calls Ybaz.prog gf (#[.int .i64 (i : Int)] ++ lb) (X.drewN m2) fun e w' => e = .returned (.bool (dn i)) ∧ ∃ m3, w' = (X.drewN m2).drewN m3) := fun m2 => by
            have s2 := sX.trans (Step.drewN [] o1 X m2)
            exact hd _ _ _ _ (HT.out.ob.step s2 (by simp)) (HST.out.trans (s2.mono (by simp))) i hil
          have HRR := hid hrr
          have HTX := hid TX
          have HSL := hid slX
          have HSX := hid (HST.out.trans (sX.mono (by simp)))
          clear e6 hd hrr sX TX slX
          by_cases hfe : f i = (t : Int)
          · rw [hfe] at xct
            go_wp2
            go_quiet (first | exact Calls.quiet_of (HD.out _))
            cases hdn : dn i with
            | true =>
              go_wp2
              go_roundw
              case rel =>
                refine ⟨rs, i :: rem, m + nq, by rw [HRR.out]; simp, rfl, fun q hq => ?_, by rw [← HXE.out, World.drewN_drewN]⟩
                rcases List.mem_cons.1 hq with h1 | h1
                · rw [h1]; exact fun _ => hdn
                · exact hrem q h1
              case measure => simp [slLen]
            | false =>
              have sN := Step.drewN [] o1 X nq
              have TN := HTX.out.step sN (by simp) (by simp) (by simp) (by simp)
              have slN := HSL.out.step sN (by simp)
              obtain ⟨qP, sP⟩ := TN.qb.put' n0 t (by omega) (by omega) (.slice (some ⟨g3, 0, none⟩) rs.length cp2) rs (by have := slN.cut rs.length (by rw [ints_length]; omega); simpa [ints, HRR.out] using this)
              have TP : TQ o1 ((X.drewN nq).setCell ⟨qb, t, none⟩ (.slice (some ⟨g3, 0, none⟩) rs.length cp2)) S { v with qb := .slice (some ⟨qb, 0, none⟩) n0 cap, qt := .int .i64 (t : Int) } ctb N ccap f n0 (fun j => if j = t then rs else bl1 j) (t : Int) :=
                ⟨TN.ob.step sP (by simp), TN.qc, TN.ct.kept (sP.block _ TN.ct.lt (by rw [TN.tct]; simp)), TN.tct, qP, rfl, TN.sz.kept (sP.block _ TN.ct.lt (by rw [TN.tct]; simp))⟩
              have HTP := hid TP
              have HSP := hid ((HSX.out.trans (sN.mono (by simp))).trans (sP.mono (by simp)))
              have y17 : (X.drewN nq).cell? ⟨S, 17, none⟩ = some (.slice (some ⟨qb, 0, none⟩) n0 cap) := x17
              have y18 : (X.drewN nq).cell? ⟨S, 18, none⟩ = some (.int .i64 (t : Int)) := x18
              have yq : (X.drewN nq).cell? ⟨qb, t, none⟩ = some (.slice (some ⟨g3, 0, none⟩) (bl t).length cp2) := xq
              have yf : (X.drewN nq).frozen? ⟨qb, t, none⟩ = false := xf
              clear sN TN slN qP sP TP
              go_wp2
              go_region
              all_goals
                go_wp2
                refine bodyPost_ret (results_tmp2 rfl _ _ _) rfl ?_
                have sE := Step.drew [] o1 ((X.drewN nq).setCell ⟨qb, t, none⟩ (.slice (some ⟨g3, 0, none⟩) rs.length cp2))
                have eE : ((X.drewN (nq + 1)).setCell ⟨qb, t, none⟩ (.slice (some ⟨g3, 0, none⟩) rs.length cp2)) = ((X.drewN nq).setCell ⟨qb, t, none⟩ (.slice (some ⟨g3, 0, none⟩) rs.length cp2)).drew := rfl
                refine ⟨o1, .slice (some ⟨qb, 0, none⟩) n0 cap, fun j => if j = t then rs else bl1 j, (t : Int), ?_, by omega, k2, fun j hj => ?_, ?_, .inl ⟨i, rfl, hil, hdn, by omega⟩⟩
                · exact HTP.out.step sE (by simp) (by simp) (by simp) (by simp)
                · by_cases e : j = t
                  · simp only [e, if_true]; rw [HRR.out, List.append_assoc]; exact List.prefix_append _ _
                  · simp only [e, if_false]; exact k3 j hj
                · exact HSP.out.trans (sE.mono (by simp))
          · have hfd : decide (f i = (t : Int)) = false := by simp [hfe]
            have hfb : (f i == (t : Int)) = false := by simp [hfe]
            go_wp2
            go_quiet (fail)
            go_wp2
            go_roundw
            case rel =>
              refine ⟨rs, i :: rem, m + nq, by rw [HRR.out]; simp, rfl, fun q hq => ?_, by rw [← HXE.out, World.drewN_drewN]⟩
              rcases List.mem_cons.1 hq with h1 | h1
              · rw [h1]; exact fun h2 => absurd h2 hfe
              · exact hrem q h1
            case measure => simp [slLen]
end Go.Proofs.YbulkbmdoGreat
