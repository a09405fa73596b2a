import Derived.Test.YbulkbmdoGreatMin
import Derived.Test.YbulkbmdoGreatApp
import Derived.Deep.DeepCutAuto
namespace Go.Proofs.YbulkbmdoGreat
open Go.RowKit Go.Shelf
set_option linter.unusedVariables false

/-- The search with some of its fields turned. -/
theorem VG.turn {o o' : Nat → Nat} {W W' : World} {R S : Nat} {s s' : RS} {pv uv pv' uv' : Value} {g : GS} {tgt : Nat → Option Nat} {v v' : VSt} {cs : List Nat} {idx lf nx : Nat → Nat} {sl : Nat → Int} {sb : Nat} {T : List Nat} (h : VG o W R S s pv uv g tgt v cs idx lf nx sl sb) (h0 : 0 < cs.length) (hs : Step T o W o' W') (k : ∀ t ∈ [26, 27, 28, 29, 30, 31], t ∉ T)
    (hr : RAt o' W' R s' pv' uv') (hn : NG g tgt o' W' s') (ob : Ob o' W' 20 S 63 (vcells v')) (e : VEq v v') (e1 : v'.lf = v.lf) (e2 : v'.li = v.li) (cnt : Rm o' W' 33 v'.count) (shr : Rm o' W' 34 v'.shares) (q : ∃ n bl, QAt o' W' v'.qb n bl) (co : Rm o' W' 40 v'.coreOf) (cl : Rm o' W' 41 v'.coreLast) (tw : Rm o' W' 42 v'.topW) :
    VG o' W' R S s' pv' uv' g tgt v' cs idx lf nx sl sb := by
  refine ⟨hr, hn, ⟨ob, e.G.trans h.sa.hG, e.R.trans h.sa.hR, ?_, e.slot.trans h.sa.hslot, h.sa.slot.step hs (k _ (by decide))⟩, ?_, cnt, shr, q, co, cl, tw, ?_, ?_⟩
  · rw [e.cands]; exact h.sa.cands.step hs (k _ (by decide))
  · have := h.lc.step hs (k _ (by decide)) (k _ (by decide))
    unfold LcAt at this ⊢
    rw [e1, e2]; exact this
  · rw [e.slots]; exact sls_step hs (k _ (by decide)) h.sls h0
  · rw [e.weight]; exact wts_step hs (k _ (by decide)) h.wts h0

set_option maxRecDepth 100000 in
set_option maxHeartbeats 2000000 in
/-- s.findCores(1): no core. -/
theorem findCores_any (o : Nat → Nat) (W : World) (R S : Nat) (s : RS) (pv uv : Value) (g : GS) (tgt : Nat → Option Nat) (v : VSt) (cs : List Nat) (idx lf nx : Nat → Nat) (sl : Nat → Int) (sb : Nat) (hX : Cx g tgt cs idx lf nx sl) (h : VG o W R S s pv uv g tgt v cs idx lf nx sl sb) (hm : s.marks ≤ 100) (hu : s.und.length ≤ 100) :
    Calls Ybaz.prog 63 #[.pointer (some ⟨S, 0, none⟩), .int .i64 1] W fun e w' => (∃ r, e = .returned r) ∧ ∃ (o' : Nat → Nat) (cov : Value) (a2 : Option Addr) (cap2 : Nat) (uv' : Value), VG o' w' R S s pv uv' g tgt { v with coreOf := cov, coreLast := .slice a2 0 cap2 } cs idx lf nx sl sb ∧ Sl o' w' 40 3 cov (zints (List.replicate cs.length (-1))) ∧ Step TT o W o' w' := by
  have hne := hX.cyc.ne
  have hcl := hX.cyc.le
  have hn3 := hX.n
  obtain ⟨cb, cap, hcv, hc1, hc2, htc, hltc⟩ := h.sa.cands.some_of (by rw [ints_length]; exact hne)
  rw [ints_length] at hcv hc1
  obtain ⟨ao, no, co, hco, hcol, hsl⟩ := h.co
  obtain ⟨al, nl, cl, hcl2, hcll, hsl2⟩ := h.cl
  have hcom : co ≤ 9223372036854775807 := by
    rcases hsl.room with ⟨_, rfl⟩ | ⟨_, _, _, _, _, _, hm⟩
    · omega
    · unfold maxLen at hm; omega
  have hclm : cl ≤ 9223372036854775807 := by
    rcases hsl2.room with ⟨_, rfl⟩ | ⟨_, _, _, _, _, _, hm⟩
    · omega
    · unfold maxLen at hm; omega
  have ob := h.sa.ob
  have x19 : W.cell? ⟨S, 19, none⟩ = some (.slice ao no co) := by rw [← hco]; exact ob.cell 19
  have f19 := ob.frozen 19
  have ob1 := ob.set 19 (.slice ao 0 co)
  have s1 := ob.sset 19 (.slice ao 0 co) (T := [20, 40]) (by simp)
  have x7 : (W.setCell ⟨S, 19, none⟩ (.slice ao 0 co)).cell? ⟨S, 7, none⟩ = some (.slice (some ⟨cb, 0, none⟩) cs.length cap) := by rw [← hcv]; exact ob1.cell 7
  have H0 := hid h
  have Hob1 := hid ob1
  have Hs1 := hid s1
  have Hsl := hid (hsl.step (ob.sset 19 (.slice ao 0 co) (T := [20]) (by simp)) (by simp))
  clear h ob ob1 s1 hsl
  go_enter_defers Ybaz.func63, Ybaz.ntmps63
  go_wp2
  clear x19 f19 x7
  go_loopw [25] (fun q wr => ∃ (k : Nat) (o1 : Nat → Nat) (cov : Value), q = .int .i64 (k : Int) ∧ k ≤ cs.length ∧ Ob o1 wr 20 S 63 (vcells { v with coreOf := cov }) ∧ Sl o1 wr 40 3 cov (zints (List.replicate k (-1))) ∧ Step [20, 40] o W o1 wr) (fun q _ => cs.length - (intOf q).toNat)
  case atStart => exact ⟨0, o, .slice ao 0 co, rfl, by omega, Hob1.out, by simpa [zints] using Hsl.out, Hs1.out⟩
  case round =>
    clear Hob1 Hs1 Hsl
    obtain ⟨k, o1, cov, rfl, hk, ob1, sl1, s1⟩ := hrel
    have hzl : (zints (List.replicate k (-1))).length = k := by simp [zints]
    by_cases hlt : k < cs.length
    · obtain ⟨ga, capa, wa, hra, hca, oa, sla, sta⟩ := sl1.app_run (by rw [hzl]; omega) (.int .i64 (-1)) rfl
      rw [hzl] at hra sla
      have c19 : wr.cell? ⟨S, 19, none⟩ = some cov := ob1.cell 19
      have oba := ob1.step sta (by simp)
      have d19 : wa.cell? ⟨S, 19, none⟩ = some cov := oba.cell 19
      have e19 := oba.frozen 19
      have obb := oba.set 19 (.slice (some ⟨ga, 0, none⟩) (k + 1) capa)
      have sb' := oba.sset 19 (.slice (some ⟨ga, 0, none⟩) (k + 1) capa) (T := [20]) (by simp)
      have slb := sla.step sb' (by simp)
      have HF := hid (And.intro obb (And.intro slb (s1.trans ((sta.mono (T' := [20, 40]) (by simp)).trans (sb'.mono (by simp))))))
      have b1 : (k : Int) < (cs.length : Int) := by omega
      obtain ⟨a0, cap0, hcv0, _⟩ := sl1.val
      rw [hzl] at hcv0
      clear ob1 sl1 s1 sla sta oba obb sb' slb
      subst hcv0
      go_wp2_with (at_builtin; refine wpList_append_is rfl _ _ 24 rfl _ _ _ _ rfl rfl hra ?_)
      go_roundw
      case rel =>
        obtain ⟨h1, h2, h3⟩ := HF.out
        refine ⟨k + 1, oa, .slice (some ⟨ga, 0, none⟩) (k + 1) capa, by go_num, by omega, h1, ?_, h3⟩
        rw [List.replicate_succ', zints_snoc]; exact h2
      case measure => simp [intOf]; omega
    · obtain rfl : k = cs.length := by omega
      have hcl3 : ({ v with coreOf := cov } : VSt).coreLast = .slice al nl cl := hcl2
      have c20 : wr.cell? ⟨S, 20, none⟩ = some (.slice al nl cl) := by rw [← hcl2]; exact ob1.cell 20
      have f20 := ob1.frozen 20
      have ob2 := ob1.set 20 (.slice al 0 cl)
      have s2 := ob1.sset 20 (.slice al 0 cl) (T := [20]) (by simp)
      have V0 := H0.out
      obtain ⟨X, hX2⟩ : ∃ X, wr.setCell ⟨S, 20, none⟩ (.slice al 0 cl) = X := ⟨_, rfl⟩
      rw [hX2] at ob2 s2
      have sA := s1.trans (s2.mono (T' := [20, 40]) (by simp))
      obtain ⟨qn, qbl, Q0⟩ := V0.q
      have V2 : VG o1 X R S s pv uv g tgt { v with coreOf := cov, coreLast := .slice al 0 cl } cs idx lf nx sl sb :=
        V0.turn hne sA (by decide) (V0.r.step sA (by decide) (by decide) (by decide) (by decide)) (V0.ng.step sA (by decide) rfl rfl rfl rfl rfl rfl) ob2 ⟨rfl, rfl, rfl, rfl, rfl, rfl, rfl, rfl, rfl, rfl, rfl, rfl⟩ rfl rfl (V0.cnt.step sA (by decide)) (V0.shr.step sA (by decide)) ⟨qn, qbl, Q0.step sA (by decide) (by simp; omega)⟩ (Rm.of_sl (sl1.step s2 (by simp))) ⟨al, 0, cl, rfl, by omega, hsl2.step sA (by decide)⟩ (V0.tw.step sA (by decide))
      have y1 : X.cell? ⟨S, 1, none⟩ = some (.pointer (some ⟨R, 0, none⟩)) := by rw [← V2.sa.hR]; exact V2.sa.ob.cell 1
      have HM := hid (mark_any o1 X R s pv uv V2.r (by omega))
      have HV := hid V2
      have HSA := hid sA
      have HSL := hid (sl1.step s2 (by simp))
      have b1 : ¬ (cs.length : Int) < (cs.length : Int) := by omega
      clear ob1 sl1 s1 ob2 s2 V0 Q0 V2 sA hcl3
      go_wp2_with (go_at_call 90; refine HM.out.mono ?_; rintro e w1 ⟨rfl, R1, s1⟩; have y1' : w1.cell? ⟨S, 1, none⟩ = some (.pointer (some ⟨R, 0, none⟩)) := by { rw [← HV.out.sa.hR]; exact (HV.out.sa.ob.step s1 (by simp)).cell 1 })
      refine wp_loop_rounds 1 ?_
      rw [rounds_succ]
      go_wp2
      refine leaves_cons (f := 92) (args := #[.pointer (some ⟨R, 0, none⟩), .int .i64 (s.und.length : Int)]) (by simp) (by simp [go_sem]) ?_
      refine (rollback_deferred o1 w1 R _ pv uv R1 s.und [] (by simp) (by simp) (by show s.und.length ≤ 1000; omega) (by show 0 < s.marks + 1; omega) (by show s.marks + 1 ≤ 1000; omega) (by show s.N ≤ 300; rw [HV.out.ng.hN]; exact hn3) _).mono ?_
      rintro e u' w2 ⟨rfl, ⟨r, rfl⟩, o2, uv2, R2, s2⟩
      have s12 := (s1.mono (T' := [1, 2]) (by simp)).trans s2
      have V := HV.out
      obtain ⟨qn, qbl, Q0⟩ := V.q
      have R3 : RAt o2 w2 R s pv uv2 := by
        have R4 := R2
        simp only [List.not_mem_nil, if_false, Nat.add_sub_cancel] at R4
        exact R4
      exact ⟨_, results_none rfl _ _ _, ⟨_, rfl⟩, o2, cov, al, cl, uv2, V.turn hne s12 (by decide) R3 (V.ng.step s12 (by decide) rfl rfl rfl rfl rfl rfl) (V.sa.ob.step s12 (by decide)) (VEq.refl _) rfl rfl (V.cnt.step s12 (by decide)) (V.shr.step s12 (by decide)) ⟨qn, qbl, Q0.step s12 (by decide) (by simp; omega)⟩ (V.co.step s12 (by decide)) (V.cl.step s12 (by decide)) (V.tw.step s12 (by decide)), HSL.out.step s12 (by decide), (HSA.out.mono (by decide)).trans (s12.mono (by decide))⟩
end Go.Proofs.YbulkbmdoGreat
