import Derived.Test.YbulkbmdoGreatEmP
import Derived.Test.YbulkbmdoGreatComp
import Derived.Test.YbulkbmdoGreatTake
namespace Go.Proofs.YbulkbmdoGreat
open Go.RowKit
set_option linter.unusedVariables false
set_option linter.unusedSimpArgs false
attribute [local go_sem ↓] Go.wp_at_zero Go.wp_at_succ

/-- What lies beside the search and the reduction while the components are handed out. -/
structure JE (o : Nat → Nat) (W : World) (n Bf Bg gb Bp pb Bv vb : Nat) (gp rt d : Nat → Nat) (vq : Nat → Bool) : Prop where
  bf : Ob o W 70 Bf 37 #[.func (.func 16) #[] #[.pointer (some ⟨Bg, 0, none⟩)]]
  bg : Ob o W 71 Bg 24 #[.slice (some ⟨gb, 0, none⟩) n n]
  uf : Uf n gp rt d
  ga : Ar o W 50 gb 3 n (fun i => .int .i64 (gp i : Int))
  bp : Ob o W 72 Bp 72 #[.slice (some ⟨pb, 0, none⟩) n n]
  pa : Ar o W 53 pb 41 n (fun _ => .int .u8 2)
  bv : Ob o W 73 Bv 50 #[.slice (some ⟨vb, 0, none⟩) n n]
  va : Ar o W 54 vb 4 n (fun p => .bool (vq p))
theorem JE.step {o o' : Nat → Nat} {W W' : World} {n Bf Bg gb Bp pb Bv vb : Nat} {gp rt d : Nat → Nat} {vq : Nat → Bool} {T : List Nat} (h : JE o W n Bf Bg gb Bp pb Bv vb gp rt d vq) (hs : Step T o W o' W') (hn : ∀ t ∈ [50, 53, 54, 70, 71, 72, 73], t ∉ T) : JE o' W' n Bf Bg gb Bp pb Bv vb gp rt d vq :=
  ⟨h.bf.step hs (hn _ (by simp)), h.bg.step hs (hn _ (by simp)), h.uf, h.ga.step hs (hn _ (by simp)), h.bp.step hs (hn _ (by simp)), h.pa.step hs (hn _ (by simp)), h.bv.step hs (hn _ (by simp)), h.va.step hs (hn _ (by simp))⟩

/-- The caller's invariant while the components are handed out. -/
def JJ (R S : Nat) (g : GS) (tgt : Nat → Option Nat) (ds : List Nat) (dp : Nat → Nat) (sb : Nat) (dead : Nat → Prop) (nx j : Nat → Nat) (Bf Bg gb Bp pb Bv vb : Nat) (rt d : Nat → Nat) (L : List Nat) (o : Nat → Nat) (W : World) : Prop :=
  ∃ (v : VSt) (s : RS) (pv uv : Value) (gp : Nat → Nat) (vq : Nat → Bool), VI o W R S g ds dp v sb ∧ RAt o W R s pv uv ∧ NG g tgt o W s ∧ s.marks = 0 ∧ s.und = [] ∧ s.pend.length ≤ 1 ∧ GrI dead (vic g.n nx j) L s.gr s.pend ∧ JE o W g.n Bf Bg gb Bp pb Bv vb gp rt d vq ∧ ∀ p, p < g.n → (vq p = true ↔ p ∈ L ∧ vic g.n nx j p = p)

/-- What emit may write. -/
def TEm : List Nat := TR ++ [50, 53, 54]

set_option maxRecDepth 100000 in
set_option maxHeartbeats 4000000 in
theorem emit_ok (R S : Nat) (g : GS) (tgt : Nat → Option Nat) (ds : List Nat) (dp : Nat → Nat) (sb : Nat) (dead : Nat → Prop) (nx lf j : Nat → Nat) (Bf Bg gb Bp pb Bv vb : Nat) (rt d : Nat → Nat)
    (hP : GP g tgt dead nx lf j) (hn : g.n ≤ 300) (hM : g.M ≤ 300) (hwp : ∀ i, i < g.M → g.wp i < g.n) (htg : ∀ i p, tgt i = some p → p < g.n) (hnc : g.M ≤ g.ncap) (hncm : g.ncap ≤ 9223372036854775807) (hD : ds.length ≤ 300) (hds : ∀ p, dead p ↔ p ∈ ds) (hdp : ∀ p ∈ ds, dp p < ds.length ∧ ds.getD (dp p) 0 = p) (hj : ∀ p ∈ ds, ∀ q ∈ ds, dp p ≤ dp q → j p ≤ j q) :
    EmitOk 19 #[.pointer (some ⟨S, 0, none⟩), .pointer (some ⟨Bf, 0, none⟩), .pointer (some ⟨Bp, 0, none⟩), .pointer (some ⟨Bv, 0, none⟩)] nx dead TEm (JJ R S g tgt ds dp sb dead nx j Bf Bg gb Bp pb Bv vb rt d) := by
  intro L pre comp o W stb cap hJ hVC hRw hcap
  obtain ⟨v, s, pv, uv, gp, vq, hV, hr, hng, hmk, hun, hpl, hGr, hE, hvq⟩ := hJ
  have hdsn : ∀ p ∈ ds, p < g.n := fun p hp => hP.dw.lt p ((hds p).2 hp)
  have hcd : ∀ p ∈ comp, dead p := fun p hp => hVC.dd p (List.mem_append.2 (.inr hp))
  have hcds : ∀ p ∈ comp, p ∈ ds := fun p hp => (hds p).1 (hcd p hp)
  have hD0 : 0 < ds.length := List.length_pos_of_mem (hcds _ (List.getElem_mem hVC.ne))
  have hle := hRw.le
  rw [ints_length, List.length_append] at hle
  have hpend : ∀ q ∈ s.pend, q < g.n := fun q hq => hP.dw.lt q (hGr.e q hq).1
  have HS := hid (settle_any o W R s pv uv hr g tgt hng htg hn hM (by omega) (by rw [hun]; simp) (by omega) hwp hpend)
  have x1 : W.cell? ⟨S, 1, none⟩ = some (.pointer (some ⟨R, 0, none⟩)) := by rw [← hV.hR]; exact hV.ob.cell 1
  obtain ⟨pl, hpl2⟩ : ∃ pl, pre.length = pl := ⟨_, rfl⟩
  have HH := hid (And.intro hV (And.intro hr (And.intro hng (And.intro hmk (And.intro hun (And.intro hGr (And.intro hE (And.intro hvq (And.intro hRw (And.intro hdsn (And.intro hcd (And.intro hcds (And.intro hVC hpl2)))))))))))))
  rw [hpl2]
  clear hV hr hng hmk hun hpl hGr hE hvq hpend hRw hdsn hcd hcds hVC hpl2
  show Calls Ybaz.prog 19 #[.slice (some ⟨stb, pl, none⟩) comp.length (cap - pl), .pointer (some ⟨S, 0, none⟩), .pointer (some ⟨Bf, 0, none⟩), .pointer (some ⟨Bp, 0, none⟩), .pointer (some ⟨Bv, 0, none⟩)] W _
  go_enter Ybaz.func19, Ybaz.ntmps19
  go_wp2_with (go_at_call 10; refine HS.out.mono ?_; rintro e w1 ⟨⟨r, rfl⟩, o1, pv1, uv1, nf, ni, new, R1, hI, N1, s1⟩)
  obtain ⟨hV, hr, hng, hmk, hun, hGr, hE, hvq, hRw, hdsn, hcd, hcds, hVC, hpl2⟩ := HH.out
  have hG1 := settled hP hGr hI
  obtain ⟨s', hs'⟩ : ∃ s', s.ext nf ni [] new = s' := ⟨_, rfl⟩
  have m1 : s'.marks = 0 := by rw [← hs']; exact hmk
  have m2 : s'.und = [] := by rw [← hs']; simp [RS.ext, hmk, hun]
  have m3 : s'.pend = [] := by rw [← hs']; rfl
  have m4 : s'.gr = grown s.gr new := by rw [← hs']; rfl
  have hN' : s'.N = g.n := by rw [hs'] at N1; exact N1.hN
  rw [hs'] at R1 N1
  rw [← m4] at hG1
  have V1 := hV.step hD0 s1 (by decide) (fun j => by simp; omega)
  have E1 := hE.step s1 (by decide)
  have RW1 := hRw.step s1 (by simp)
  have hc0 := hVC.ne
  have hp0n := hdsn _ (hcds _ (List.getElem_mem hc0))
  have hli : pre.length < (ints (pre ++ comp)).length := by rw [ints_length, List.length_append]; omega
  have y1 : w1.cell? ⟨Bf, 0, none⟩ = some (.func (.func 16) #[] #[.pointer (some ⟨Bg, 0, none⟩)]) := E1.bf.cell 0
  have y2 : w1.cell? ⟨stb, pl, none⟩ = some (.int .i64 (comp[0] : Int)) := by
    rw [← hpl2, RW1.cell _ hli]; simp [ints, List.getElem_append_right]
  have s0 := Step.drew [] o1 w1
  have E1d := E1.step s0 (by simp)
  have HF := hid (find_any o1 w1.drew Bg gb g.n gp rt d E1d.uf (E1d.bg.cell 0) (by rw [E1d.bg.tag]; decide) E1d.ga hn comp[0] hp0n)
  have b1 : (0 : Int) < (comp.length : Int) := by omega
  clear s0 E1d HS hli hGr hI hV hr hng hE hRw x1
  have H1 := hid (And.intro V1 (And.intro R1 (And.intro N1 (And.intro E1 (And.intro RW1 (And.intro s1 (And.intro hG1 (And.intro hvq (And.intro hdsn (And.intro hcd (And.intro hcds (And.intro hVC hpl2))))))))))))
  clear V1 R1 N1 E1 RW1 s1 hG1 hvq hdsn hcd hcds hVC hpl2 hs' m4 hmk hun
  refine wp_region_plan [0, 1, 2, 3] [4, 5] 99 (fun w' => w'.cell? ⟨Bf, 0, none⟩ = some (.func (.func 16) #[] #[.pointer (some ⟨Bg, 0, none⟩)]) ∧ w'.cell? ⟨stb, pl, none⟩ = some (.int .i64 (comp[0] : Int))) (by kernel_rfl) (by kernel_rfl) (by kernel_rfl) (by kernel_rfl) ?_ ?_
  exact ⟨y1, y2⟩
  repeat
    refine takes_cons (v := ?_) rfl (by rfl) ?_ ?_
    rotate_left
    · (intro w' hS; (try dsimp only at hS); go_simp; try with_reducible rfl)
    try simp only [Act.put, List.setIfInBounds_toArray, List.set_cons_zero, List.set_cons_succ]
  refine takes_nil ?_
  refine runZ_step rfl (fun K hK => ?_)
  go_simp
  refine HF.out.mono ?_
  rintro e w2 ⟨rfl, gp2, U2, A2, s2⟩
  obtain ⟨V1, R1, N1, E1, RW1, s1, hG1, hvq, hdsn, hcd, hcds, hVC, hpl2⟩ := H1.out
  have s2' := (Step.drew [50] o1 w1).trans s2
  have V2 := V1.step hD0 s2' (by decide) (fun j => by simp; omega)
  have R2 := R1.step s2' (by decide) (by decide) (by decide) (by decide)
  have N2 : NG g tgt o1 w2 s' := N1.step s2' (by decide) rfl rfl rfl rfl rfl rfl
  have RW2 := RW1.step s2' (by simp)
  have E2 : JE o1 w2 g.n Bf Bg gb Bp pb Bv vb gp2 rt d vq := ⟨E1.bf.step s2' (by simp), E1.bg.step s2' (by simp), U2, A2, E1.bp.step s2' (by simp), E1.pa.step s2' (by simp), E1.bv.step s2' (by simp), E1.va.step s2' (by simp)⟩
  have hli : pre.length < (ints (pre ++ comp)).length := by rw [ints_length, List.length_append]; omega
  have l1 : w2.cell? ⟨Bf, 0, none⟩ = some (.func (.func 16) #[] #[.pointer (some ⟨Bg, 0, none⟩)]) := E2.bf.cell 0
  have l2 : w2.cell? ⟨stb, pl, none⟩ = some (.int .i64 (comp[0] : Int)) := by
    rw [← hpl2, RW2.cell _ hli]; simp [ints, List.getElem_append_right]
  have hrn := (U2.root comp[0] hp0n).1
  have s12 := (s1.mono (T' := TEm) (by decide)).trans (s2'.mono (T' := TEm) (by decide))
  have H2 := hid (And.intro V2 (And.intro R2 (And.intro N2 (And.intro E2 (And.intro RW2 (And.intro s12 (And.intro hG1 (And.intro hvq (And.intro hdsn (And.intro hcd (And.intro hcds (And.intro hVC hpl2))))))))))))
  clear V1 R1 N1 E1 RW1 s1 s2 s2' H1 HF U2 A2 V2 R2 N2 E2 RW2 hli s12 y1 y2 hG1 hvq hdsn hcd hcds
  refine hK.out _ _ (⟨l1, l2⟩) (fun hHeld => ?_)
  clear hK K hHeld
  try simp only [Act.put, List.setIfInBounds_toArray, List.set_cons_zero, List.set_cons_succ]
  refine runZ_step rfl (fun K hK => ?_)
  go_simp
  refine hK.out _ _ (⟨l1, l2⟩) (fun hHeld => ?_)
  clear hK K hHeld
  try simp only [Act.put, List.setIfInBounds_toArray, List.set_cons_zero, List.set_cons_succ]
  refine runZ_nil (NoPanic.normal ?_)
  clear l1 l2
  rcases hVC.last with hl | hl
  · obtain ⟨V2, R2, N2, E2, RW2, s12, hG1, hvq, hdsn, hcd, hcds, _, hpl2⟩ := H2.out
    obtain ⟨hnx, hcon, hvc, hnone⟩ := cyc_none hP hG1 hVC hl
    have hB : CompB g tgt comp lf nx := ⟨(List.nodup_append.1 hVC.nd).2.1, hVC.ne, fun p hp => hdsn p (hcds p hp), hnx, fun p hp => (hP.root p (hcd p hp)).1, hcon, fun p hp => (hP.root p (hcd p hp)).2⟩
    have hR := resolve_one take_ok o1 w2 R S g tgt ds dp v sb s' pv1 uv1 stb cap pre comp lf nx hB V2 R2 N2 hn hM hwp hnc hncm hD hdsn hdp hcds RW2 hcap hnone (by omega) (by rw [m2]; simp) m3
    rw [hpl2] at hR
    have HR := hid hR
    have H3 := hid (And.intro hvc (And.intro hVC (And.intro hG1 (And.intro hnone hvq))))
    clear V2 R2 N2 E2 RW2 s12 hG1 hvq hdsn hcd hcds hpl2 hnx hcon hvc hnone hB hR hl hVC
    go_wp2_with (go_at_call 20; refine HR.out.mono ?_; rintro e w3 ⟨vb3, vcap, rfl, hRes⟩)
    obtain ⟨o3, v3, nf3, ni3, pv3, uv3, hd, V3, R3, N3, RW3, hdm, hdmin, sl3, s3⟩ := hRes
    obtain ⟨V2, R2, N2, E2, RW2, s12, hG1, hvq, hdsn, hcd, hcds, hVC, hpl2⟩ := H2.out
    obtain ⟨hvc, _, _, hnone, _⟩ := H3.out
    have E3 := E2.step s3 (by decide)
    have hvh : ∀ p ∈ comp, vic g.n nx j p = hd := fun p hp => by
      have h1 := hvc p hp
      have h2 : j hd ≤ j (vic g.n nx j p) := hj hd (hcds _ hdm) _ (hcds _ h1.1) (hdmin _ h1.1)
      exact hP.dw.inj _ _ (hcd _ h1.1) (hcd _ hdm) (Nat.le_antisymm (h1.2 hd hdm) h2)
    have hGN := grI_one hP hG1 hVC hdm hvh
    have hhn := hdsn _ (hcds _ hdm)
    have hgh := hnone _ hdm
    have z1 : w3.cell? ⟨Bp, 0, none⟩ = some (.slice (some ⟨pb, 0, none⟩) g.n g.n) := E3.bp.cell 0
    have z2 : w3.cell? ⟨pb, rt comp[0], none⟩ = some (.int .u8 2) := E3.pa.cell _ hrn
    have z3 : w3.frozen? ⟨pb, rt comp[0], none⟩ = false := E3.pa.frozen _
    have s4 := (Step.drew [53] o3 w3).trans ((E3.pa.step (Step.drew [] o3 w3) (by simp)).sset (rt comp[0]) (.int .u8 2) (T := [53]) (by simp))
    have P4 := (E3.pa.step (Step.drew [] o3 w3) (by simp)).set (rt comp[0]) (.int .u8 2)
    obtain ⟨w4, hw4⟩ : ∃ w4, w3.drew.setCell ⟨pb, rt comp[0], none⟩ (.int .u8 2) = w4 := ⟨_, rfl⟩
    rw [hw4] at s4 P4
    have E4 : JE o3 w4 g.n Bf Bg gb Bp pb Bv vb gp2 rt d vq := ⟨E3.bf.step s4 (by simp), E3.bg.step s4 (by simp), E3.uf, E3.ga.step s4 (by simp), E3.bp.step s4 (by simp), P4.congr fun q _ => by by_cases e : q = rt comp[0] <;> simp [e], E3.bv.step s4 (by simp), E3.va.step s4 (by simp)⟩
    have sl4 := sl3.step s4 (by simp)
    have a1 : w4.cell? ⟨vb3, 0, none⟩ = some (.int .i64 (hd : Int)) := Sl.cell (xs := [.int .i64 (hd : Int)]) sl4 0 Nat.zero_lt_one
    have a2 : w4.cell? ⟨Bv, 0, none⟩ = some (.slice (some ⟨vb, 0, none⟩) g.n g.n) := E4.bv.cell 0
    have a3 := E4.va.cell hd hhn
    have a4 := E4.va.frozen hd
    have s5 := E4.va.sset hd (.bool true) (T := [54]) (by simp)
    have VA5 := E4.va.set hd (.bool true)
    obtain ⟨w5, hw5⟩ : ∃ w5, w4.setCell ⟨vb, hd, none⟩ (.bool true) = w5 := ⟨_, rfl⟩
    rw [hw5] at s5 VA5
    have E5 : JE o3 w5 g.n Bf Bg gb Bp pb Bv vb gp2 rt d (fun p => if p = hd then true else vq p) := ⟨E4.bf.step s5 (by simp), E4.bg.step s5 (by simp), E4.uf, E4.ga.step s5 (by simp), E4.bp.step s5 (by simp), E4.pa.step s5 (by simp), E4.bv.step s5 (by simp), VA5.congr fun q _ => by by_cases e : q = hd <;> simp [e]⟩
    have s45 := (s4.mono (T' := [53, 54]) (by simp)).trans (s5.mono (T' := [53, 54]) (by simp))
    have V5 := V3.step hD0 s45 (by decide) (fun j => by simp; omega)
    have R5 := R3.step s45 (by decide) (by decide) (by decide) (by decide)
    have N5 : NG g tgt o3 w5 { s' with nf := nf3, ni := ni3 } := N3.step s45 (by decide) rfl rfl rfl rfl rfl rfl
    have RW5 := RW3.step s45 (by simp)
    have HGr := hid (grant_yes0 o3 w5 R { s' with nf := nf3, ni := ni3 } pv3 uv3 R5 hd (by show hd < s'.N; omega) (by show s'.N ≤ 300; omega) hgh (by show s'.pend.length ≤ 1000; rw [m3]; simp) m1)
    have a5 : w5.cell? ⟨S, 1, none⟩ = some (.pointer (some ⟨R, 0, none⟩)) := by rw [← V5.hR]; exact V5.ob.cell 1
    have hh1 : (hd : Int) < (g.n : Int) := by omega
    have hh2 : (rt comp[0] : Int) < (g.n : Int) := by omega
    have sT := (s12.trans (s3.mono (T' := TEm) (by decide))).trans (s45.mono (T' := TEm) (by decide))
    have HZ := hid (And.intro V5 (And.intro N5 (And.intro RW5 (And.intro E5 (And.intro sT (And.intro hGN (And.intro hvq (And.intro hvh (And.intro hdm (And.intro hVC hdsn))))))))))
    clear V2 R2 N2 E2 RW2 s12 hG1 hvq hdsn hcd hcds hpl2 hvc hnone E3 hvh hGN s4 P4 E4 sl4 s5 VA5 E5 s45 V5 R5 N5 RW5 sT V3 R3 N3 RW3 hdmin sl3 s3 H2 H3 HR hdm hVC hgh
    refine wp_region_plan [0, 1, 2, 3, 4, 5, 6, 7] [8, 9] 9 (fun w' => w'.cell? ⟨Bp, 0, none⟩ = some (.slice (some ⟨pb, 0, none⟩) g.n g.n) ∧ w'.cell? ⟨pb, rt comp[0], none⟩ = some (.int .u8 2)) (by kernel_rfl) (by kernel_rfl) (by kernel_rfl) (by kernel_rfl) ?_ ?_
    exact ⟨z1, z2⟩
    repeat
      refine takes_cons (v := ?_) rfl (by rfl) ?_ ?_
      rotate_left
      · (intro w' hS; (try dsimp only at hS); go_simp; try with_reducible rfl)
      try simp only [Act.put, List.setIfInBounds_toArray, List.set_cons_zero, List.set_cons_succ]
    refine takes_nil ?_
    refine runZ_step rfl (fun K hK => ?_)
    go_simp
    refine hK.out _ _ (⟨z1, z2⟩) (fun hHeld => ?_)
    clear hK K hHeld
    try simp only [Act.put, List.setIfInBounds_toArray, List.set_cons_zero, List.set_cons_succ]
    refine runZ_last rfl (fun K hK => ?_)
    go_simp
    refine hK.out _ _ ?_
    clear hK K
    refine runZ_nil (NoPanic.normal ?_)
    try simp only [Act.put]
    go_wp2
    refine wp_loop_rounds 2 ?_
    rw [rounds_succ]
    go_wp2_with (go_at_call 21; refine HGr.out.mono ?_; rintro e w6 ⟨⟨r, rfl⟩, o6, pv6, R6, s6⟩)
    rw [rounds_succ]
    go_wp2
    go_end0
    obtain ⟨V5, N5, RW5, E5, sT, hGN, hvq, hvh, hdm, hVC, hdsn⟩ := HZ.out
    refine ⟨⟨_, rfl⟩, o6, ⟨v3, _, pv6, uv3, gp2, _, V5.step hD0 s6 (by decide) (fun j => by simp; omega), R6, N5.step s6 (by decide) rfl rfl rfl rfl rfl rfl, m1, m2, by show (s'.pend ++ [hd]).length ≤ 1; rw [m3]; simp, ?_, E5.step s6 (by decide), fun p hp => ?_⟩, RW5.step s6 (by simp), sT.trans (s6.mono (by decide))⟩
    · show GrI dead (vic g.n nx j) (L ++ comp) (fun i => if i = hd then true else s'.gr i) (s'.pend ++ [hd])
      rw [m3]; exact hGN
    · by_cases e : p = hd
      · simp only [e, if_true, true_iff]
        exact ⟨List.mem_append.2 (.inr hdm), hvh hd hdm⟩
      · simp only [e, if_false]
        rw [hvq p hp]
        constructor
        · rintro ⟨h1, h2⟩; exact ⟨List.mem_append.2 (.inl h1), h2⟩
        · rintro ⟨h1, h2⟩
          rcases List.mem_append.1 h1 with h3 | h3
          · exact ⟨h3, h2⟩
          · exact absurd ((hvh p h3).symm.trans h2).symm e
  · obtain ⟨V2, R2, N2, E2, RW2, s12, hG1, hvq, hdsn, hcd, hcds, _, hpl2⟩ := H2.out
    obtain ⟨hvS, hall⟩ := one_all hP hG1 hVC hl
    have hR := resolve_none o1 w2 R S g tgt ds dp v sb s' pv1 uv1 stb cap pre comp V2 R2 hN' hn hD hdsn hdp hcds hVC.ne RW2 hcap hall
    rw [hpl2] at hR
    have HR := hid hR
    have H3 := hid (And.intro hvS hVC)
    clear V2 R2 N2 E2 RW2 s12 hG1 hvq hdsn hcd hcds hpl2 hvS hall hR hl hVC
    go_wp2_with (go_at_call 20; refine HR.out.mono ?_; rintro e w3 ⟨rfl, o3, v3, V3, RW3, s3⟩)
    obtain ⟨V2, R2, N2, E2, RW2, s12, hG1, hvq, hdsn, hcd, hcds, hVC, hpl2⟩ := H2.out
    obtain ⟨hvS, _⟩ := H3.out
    have E3 := E2.step s3 (by decide)
    have hGN := grI_none hP hG1 hVC hvS
    have z1 : w3.cell? ⟨Bp, 0, none⟩ = some (.slice (some ⟨pb, 0, none⟩) g.n g.n) := E3.bp.cell 0
    have z2 : w3.cell? ⟨pb, rt comp[0], none⟩ = some (.int .u8 2) := E3.pa.cell _ hrn
    have z3 : w3.frozen? ⟨pb, rt comp[0], none⟩ = false := E3.pa.frozen _
    have s4 := (Step.drew [53] o3 w3).trans ((E3.pa.step (Step.drew [] o3 w3) (by simp)).sset (rt comp[0]) (.int .u8 2) (T := [53]) (by simp))
    have P4 := (E3.pa.step (Step.drew [] o3 w3) (by simp)).set (rt comp[0]) (.int .u8 2)
    obtain ⟨w4, hw4⟩ : ∃ w4, w3.drew.setCell ⟨pb, rt comp[0], none⟩ (.int .u8 2) = w4 := ⟨_, rfl⟩
    rw [hw4] at s4 P4
    have E4 : JE o3 w4 g.n Bf Bg gb Bp pb Bv vb gp2 rt d vq := ⟨E3.bf.step s4 (by simp), E3.bg.step s4 (by simp), E3.uf, E3.ga.step s4 (by simp), E3.bp.step s4 (by simp), P4.congr fun q _ => by by_cases e : q = rt comp[0] <;> simp [e], E3.bv.step s4 (by simp), E3.va.step s4 (by simp)⟩
    have sT := (s12.trans (s3.mono (T' := TEm) (by decide))).trans (s4.mono (T' := TEm) (by decide))
    have s34 := (s3.mono (T' := [20, 26, 53, 63]) (by simp)).trans (s4.mono (T' := [20, 26, 53, 63]) (by simp))
    have hh2 : (rt comp[0] : Int) < (g.n : Int) := by omega
    have HZ := hid (And.intro (V3.step hD0 s4 (by decide) (fun j => by simp; omega)) (And.intro (R2.step s34 (by decide) (by decide) (by decide) (by decide)) (And.intro (N2.step (s' := s') s34 (by decide) rfl rfl rfl rfl rfl rfl) (And.intro (RW3.step s4 (by simp)) (And.intro E4 (And.intro sT (And.intro hGN (And.intro hvq (And.intro hvS (And.intro hVC hP))))))))))
    clear V2 R2 N2 E2 RW2 s12 hG1 hvq hdsn hcd hcds hpl2 E3 hGN s4 P4 E4 sT V3 RW3 s3 H2 H3 HR hVC hvS s34
    refine wp_region_plan [0, 1, 2, 3, 4, 5, 6, 7] [8, 9] 9 (fun w' => w'.cell? ⟨Bp, 0, none⟩ = some (.slice (some ⟨pb, 0, none⟩) g.n g.n) ∧ w'.cell? ⟨pb, rt comp[0], none⟩ = some (.int .u8 2)) (by kernel_rfl) (by kernel_rfl) (by kernel_rfl) (by kernel_rfl) ?_ ?_
    exact ⟨z1, z2⟩
    repeat
      refine takes_cons (v := ?_) rfl (by rfl) ?_ ?_
      rotate_left
      · (intro w' hS; (try dsimp only at hS); go_simp; try with_reducible rfl)
      try simp only [Act.put, List.setIfInBounds_toArray, List.set_cons_zero, List.set_cons_succ]
    refine takes_nil ?_
    refine runZ_step rfl (fun K hK => ?_)
    go_simp
    refine hK.out _ _ (⟨z1, z2⟩) (fun hHeld => ?_)
    clear hK K hHeld
    try simp only [Act.put, List.setIfInBounds_toArray, List.set_cons_zero, List.set_cons_succ]
    refine runZ_last rfl (fun K hK => ?_)
    go_simp
    refine hK.out _ _ ?_
    clear hK K
    refine runZ_nil (NoPanic.normal ?_)
    try simp only [Act.put]
    go_wp2
    refine wp_loop_rounds 1 ?_
    rw [rounds_succ]
    go_wp2
    go_end0
    obtain ⟨V4, R4, N4, RW4, E4, sT, hGN, hvq, hvS, hVC, _⟩ := HZ.out
    refine ⟨⟨_, rfl⟩, o3, ⟨v3, s', pv1, uv1, gp2, vq, V4, R4, N4, m1, m2, by rw [m3]; simp, by rw [m3]; exact hGN, E4, fun p hp => ?_⟩, RW4, sT⟩
    rw [hvq p hp]
    constructor
    · rintro ⟨h1, h2⟩; exact ⟨List.mem_append.2 (.inl h1), h2⟩
    · rintro ⟨h1, h2⟩
      rcases List.mem_append.1 h1 with h3 | h3
      · exact ⟨h3, h2⟩
      · have h4 := hvS p h3
        rw [h2] at h4
        exact ⟨h4, h2⟩
end Go.Proofs.YbulkbmdoGreat
