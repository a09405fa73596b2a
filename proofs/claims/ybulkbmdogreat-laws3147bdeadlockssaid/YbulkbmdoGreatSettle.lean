import Derived.Test.YbulkbmdoGreatSInv
import Derived.Deep.LoopGhost
namespace Go.Proofs.YbulkbmdoGreat
open Go.RowKit Go.Shelf
set_option linter.unusedVariables false

/-- A function value that lists the leaves told of a granted process: what a call of it gives, and that its ground E abides the reduction's own steps. -/
structure Leaves (R N : Nat) (gf : Nat) (bd lb : Array Value) (ti : Nat) (Lv : Nat → List Nat) (ok : Nat → Prop) (E : (Nat → Nat) → World → RS → Prop) : Prop where
  eg : ∀ args w, (callFunc gf args).run Ybaz.prog w = .ok (.enter gf args) w
  tag : ti ∉ [1, 2, 3, 4]
  call : ∀ o W s pv uv p, RAt o W R s pv uv → E o W s → s.N = N → p < N → ok p → Calls Ybaz.prog gf (bd.push (.int .i64 (p : Int)) ++ lb) W fun e w' => ∃ o' a c nf ni, e = .returned (.slice a (Lv p).length c) ∧ OfAt o' w' ti (Lv p) a ∧ RAt o' w' R { s with nf := nf, ni := ni } pv uv ∧ E o' w' { s with nf := nf, ni := ni } ∧ Step [1] o W o' w'
  step : ∀ o W s o' W' gr pend und, E o W s → Step [1, 2, 3, 4] o W o' W' → E o' W' { s with gr := gr, pend := pend, und := und }

theorem nil_or_snoc {α : Type} (l : List α) : l = [] ∨ ∃ ps p, l = ps ++ [p] := by
  rcases List.eq_nil_or_concat l with h | ⟨ps, p, h⟩
  · exact .inl h
  · exact .inr ⟨ps, p, by rw [h, List.concat_eq_append]⟩
theorem RS.ext_self (s : RS) : s.ext s.nf s.ni s.pend [] = s := by
  simp only [RS.ext, grown_nil]
  by_cases hm : 0 < s.marks <;> simp [hm]

set_option maxRecDepth 100000 in
set_option maxHeartbeats 4000000 in
theorem settleUntil_any (o : Nat → Nat) (W : World) (R : Nat) (s : RS) (pv uv : Value) (h : RAt o W R s pv uv) (g : GS) (hg : GAt o W g) (hG : s.G = g.G) (hGn : s.N = g.n) (hM : g.M ≤ 300) (hN : s.N ≤ 300) (hm : s.marks ≤ 1000) (hu : s.und.length ≤ 600) (hpl : s.pend.length ≤ 600)
    (hwp : ∀ i, i < g.M → g.wp i < s.N) (gf : Nat) (bd lb : Array Value) (ti : Nat) (Lv : Nat → List Nat) (ok : Nat → Prop) (E : (Nat → Nat) → World → RS → Prop) (hE : Leaves R s.N gf bd lb ti Lv ok E) (he : E o W s)
    (hLv : ∀ q, ok q → ∀ lf ∈ Lv q, lf < g.M ∧ ok (g.wp lf)) (hLl : ∀ q, ok q → (Lv q).length ≤ 1000) (hp0 : ∀ q ∈ s.pend, ok q ∧ q < s.N) :
    Calls Ybaz.prog 22 #[.pointer (some ⟨R, 0, none⟩), .func (.func gf) bd lb, .nilFunc] W fun e w' => e = .returned (.bool false) ∧
      ∃ o' pv' uv' nf ni new, RAt o' w' R (s.ext nf ni [] new) pv' uv' ∧ SInv s.gr s.N s.pend Lv g.wp [] new ∧ E o' w' (s.ext nf ni [] new) ∧ Step [1, 2, 3, 4] o W o' w' := by
  have heg := hE.eg
  go_enter Ybaz.func22, Ybaz.ntmps22
  go_wp2
  go_loopg [] (2 * s.N + s.pend.length) (fun gk wr => ∃ o' pv' uv' nf ni pend new, RAt o' wr R (s.ext nf ni pend new) pv' uv' ∧ SInv s.gr s.N s.pend Lv g.wp pend new ∧ E o' wr (s.ext nf ni pend new) ∧ Step [1, 2, 3, 4] o W o' wr ∧ (∀ q ∈ pend, ok q ∧ q < s.N) ∧ gk = 2 * (s.N - new.length) + pend.length)
  case atStart =>
    refine ⟨o, pv, uv, s.nf, s.ni, s.pend, [], ?_, SInv.start _ _ _ _ _, ?_, Step.refl _ _ _, hp0, by simp⟩
    · rw [RS.ext_self]; exact h
    · rw [RS.ext_self]; exact he
  case round =>
    obtain ⟨o1, pv1, uv1, nf, ni, pend, new, hR, hS, hEr, hst, hpk, rfl⟩ := hrel
    rcases nil_or_snoc pend with rfl | ⟨ps, p, rfl⟩
    · obtain ⟨a6, cap, rfl, _⟩ := hR.pend.val
      have c6 : wr.cell? ⟨R, 6, none⟩ = some (.slice a6 0 cap) := hR.ob.cell 6
      have HF := hid (And.intro hR (And.intro hS (And.intro hEr hst)))
      clear hR hS hEr hst
      go_wp2
      go_ret
      exact ⟨rfl, o1, _, uv1, nf, ni, new, HF.out⟩
    · obtain ⟨g3, cap, rfl, hl1, hl2, ht3, hlt3⟩ := hR.pend.some_of (by simp [RS.ext, ints])
      have e3 : (ints (s.ext nf ni (ps ++ [p]) new).pend).length = ps.length + 1 := by simp [RS.ext, ints]
      rw [e3] at hR hl1
      have hcut := hR.pend.cut ps.length (by simp [RS.ext, ints])
      have e4 : (ints (s.ext nf ni (ps ++ [p]) new).pend).take ps.length = ints ps := by simp [RS.ext, ints]
      rw [e4] at hcut
      have cp : wr.cell? ⟨g3, ps.length, none⟩ = some (.int .i64 (p : Int)) := by
        have hr0 := hR.pend
        rw [← e3] at hr0
        have := hr0.cell ps.length (by omega)
        rw [this]; simp [RS.ext, ints]
      have c6 : wr.cell? ⟨R, 6, none⟩ = some (.slice (some ⟨g3, 0, none⟩) (ps.length + 1) cap) := hR.ob.cell 6
      have f6 := hR.ob.frozen 6
      -- p is popped
      have sA := hR.ob.sset 6 (.slice (some ⟨g3, 0, none⟩) ps.length cap) (T := [1]) (by simp)
      have RA : RAt o1 (wr.setCell ⟨R, 6, none⟩ (.slice (some ⟨g3, 0, none⟩) ps.length cap)) R (s.ext nf ni ps new) (.slice (some ⟨g3, 0, none⟩) ps.length cap) uv1 :=
        ⟨hR.ob.set 6 _, hR.gr.step sA (by simp), hcut.step sA (by simp), hR.und.step sA (by simp)⟩
      obtain ⟨WA, hWA⟩ : ∃ WA, wr.setCell ⟨R, 6, none⟩ (.slice (some ⟨g3, 0, none⟩) ps.length cap) = WA := ⟨_, rfl⟩
      rw [hWA] at RA sA
      have EA : E o1 WA (s.ext nf ni ps new) := hE.step o1 wr _ o1 WA (grown s.gr new) ps (s.ext nf ni ps new).und hEr (sA.mono (by simp))
      have stA : Step [1, 2, 3, 4] o W o1 WA := hst.trans (sA.mono (by simp))
      have hSp := hS.pop
      have hpok := hpk p (by simp)
      have hpk' : ∀ q ∈ ps, ok q ∧ q < s.N := fun q hq => hpk q (by simp [hq])
      have hlen := hS.len
      have hle := hS.le
      simp at hlen
      have b0 : (0 : Int) < (ps.length : Int) + 1 := by omega
      have b1 : (ps.length : Int) ≤ (cap : Int) := by omega
      have hcapl : cap ≤ 9223372036854775807 := by unfold maxLen at hl2; omega
      have HR := hid RA
      have HE := hid EA
      have HSt := hid stA
      have HSp := hid hSp
      clear hR RA EA stA hSp hcut hS hEr hst hpk sA
      have hneq : ∀ w, (binOp .neq 101 .nilFunc .nilFunc).run Ybaz.prog w = .ok (.bool false) w := fun w => by kernel_rfl
      go_wp2
      go_quiet (fail)
      go_wp2
      go_region
      all_goals go_wp2_with fail
      have eA : (wr.drewN (nq + 1)).setCell ⟨R, 6, none⟩ (.slice (some ⟨g3, 0, none⟩) ps.length cap) = WA.drewN (nq + 1) := by rw [← hWA]; rfl
      rw [eA]
      clear eA hWA c6 f6 cp
      have sD := Step.drewN [] o1 WA (nq + 1)
      have R1 := HR.out.step sD (by simp) (by simp) (by simp) (by simp)
      have E1 := hE.step _ _ _ _ _ (grown s.gr new) ps (s.ext nf ni ps new).und HE.out (sD.mono (by simp))
      refine (hE.call _ _ _ _ _ p R1 E1 rfl hpok.2 hpok.1).mono ?_
      rintro e w2 ⟨o2, a, c, nf2, ni2, rfl, hof, R2, E2, s2⟩
      have st2 := (HSt.out.trans (sD.mono (by simp))).trans (s2.mono (by simp))
      have HR2 : Hid (RAt o2 w2 R (s.ext nf2 ni2 ps new) _ _) := R2
      have HE2 : Hid (E o2 w2 (s.ext nf2 ni2 ps new)) := E2
      have HS2 := hid st2
      have HO := hid hof
      clear R1 E1 sD R2 E2 s2 st2 hof HR HE HSt
      have hll := hLl p hpok.1
      go_wp2_with fail
      go_loopw [61] (fun i wz => ∃ k : Nat, k ≤ (Lv p).length ∧ i = .int .i64 (k : Int) ∧ ∃ o3 pv3 uv3 pend3 new3, RAt o3 wz R (s.ext nf2 ni2 pend3 new3) pv3 uv3 ∧ SIn s.gr s.N s.pend Lv g.wp p k pend3 new3 ∧ E o3 wz (s.ext nf2 ni2 pend3 new3) ∧ Step [1, 2, 3, 4] o W o3 wz ∧ OfAt o3 wz ti (Lv p) a ∧ (∀ q ∈ pend3, ok q ∧ q < s.N) ∧ 2 * (s.N - new3.length) + pend3.length ≤ 2 * (s.N - new.length) + ps.length) (fun i _ => (Lv p).length - (intOf i).toNat)
      case atStart => exact ⟨0, Nat.zero_le _, rfl, o2, _, _, ps, new, HR2.out, HSp.out, HE2.out, HS2.out, HO.out, hpk', Nat.le_refl _⟩
      case round =>
        clear HR2 HE2 HS2 HO
        obtain ⟨k, hk, rfl, o3, pv3, uv3, pend3, new3, R3, S3, E3, st3, hof, hpk3, hms⟩ := hrel
        by_cases hlt : k < (Lv p).length
        · obtain ⟨ib, x, ha, htb, hltb, hcs⟩ := hof.at_ (by omega)
          subst ha
          have cl := hcs k hlt
          have hlf := hLv p hpok.1 (Lv p)[k] (List.getElem_mem hlt)
          have G3 := hg.step st3 (by simp) (by simp) (by simp)
          have b2 : (k : Int) < ((Lv p).length : Int) := by omega
          have hul := RS.ext_und s nf2 ni2 pend3 new3
          have hl3 := S3.len
          have hle3 := S3.le
          have HH := hid (holds_any o3 wr R (s.ext nf2 ni2 pend3 new3) pv3 uv3 g R3 G3 hG (Lv p)[k] hlf.1 hM (hwp _ hlf.1) hN (show pend3.length ≤ 1000 by omega) (by omega) hm)
          have HS3 := hid S3
          have HE3 := hid E3
          have Hst3 := hid st3
          have HO3 := hid hof
          clear R3 S3 E3 st3 hof G3 hcs
          go_wp2_with (go_at_call 9; refine HH.out.mono ?_; rintro e w4 ⟨⟨v4, rfl⟩, o4, pv4, uv4, R4, s4⟩)
          go_roundw
          case rel =>
            refine ⟨k + 1, by omega, by go_num, ?_⟩
            have st4 := Hst3.out.trans s4
            have hof4 := HO3.out.step s4 hE.tag
            cases hgr : grown s.gr new3 (g.wp (Lv p)[k]) with
            | true =>
              rw [RS.ext_grant_no _ _ _ _ _ _ hgr] at R4
              exact ⟨o4, pv4, uv4, pend3, new3, R4, HS3.out.no hlt hgr, hE.step _ _ _ _ _ (grown s.gr new3) pend3 (s.ext nf2 ni2 pend3 new3).und HE3.out s4, st4, hof4, hpk3, hms⟩
            | false =>
              rw [RS.ext_grant_yes _ _ _ _ _ _ hgr] at R4
              have S4 := HS3.out.yes hlt (hwp _ hlf.1) hgr
              have hle4 := S4.le
              refine ⟨o4, pv4, uv4, _, _, R4, S4, hE.step _ _ _ _ _ (grown s.gr (new3 ++ [g.wp (Lv p)[k]])) (pend3 ++ [g.wp (Lv p)[k]]) (s.ext nf2 ni2 (pend3 ++ [g.wp (Lv p)[k]]) (new3 ++ [g.wp (Lv p)[k]])).und HE3.out s4, st4, hof4, fun q hq => ?_, ?_⟩
              · rcases List.mem_append.1 hq with h1 | h1
                · exact hpk3 q h1
                · simp at h1; subst h1; exact ⟨hlf.2, hwp _ hlf.1⟩
              · simp at hle4 ⊢; omega
          case measure => simp [intOf]; omega
        · have SD := S3.done (by omega)
          have b3 : ¬ (k : Int) < ((Lv p).length : Int) := by omega
          have HF := hid (And.intro R3 (And.intro SD (And.intro E3 st3)))
          clear R3 S3 E3 st3 SD hof
          go_wp2
          go_roundg (2 * (s.N - new3.length) + pend3.length)
          case rel => exact ⟨o3, pv3, uv3, nf2, ni2, pend3, new3, HF.out.1, HF.out.2.1, HF.out.2.2.1, HF.out.2.2.2, hpk3, rfl⟩
          case measure => omega
end Go.Proofs.YbulkbmdoGreat
