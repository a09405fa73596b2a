import Derived.Test.YbulkbmdoGreatSettle
namespace Go.Proofs.YbulkbmdoGreat
open Go.RowKit Go.Shelf
set_option linter.unusedVariables false

/-- The ground of the naming lists. -/
structure NG (g : GS) (tgt : Nat → Option Nat) (o : Nat → Nat) (W : World) (s : RS) : Prop where
  gat : GAt o W g
  tg : Ar o W 5 s.tb 3 s.M (fun i => .int .i64 (tv (tgt i)))
  nat : NAt o W s tgt
  hG : s.G = g.G
  hN : s.N = g.n
  hM : s.M = g.M

theorem namers_leaves (R : Nat) (g : GS) (tgt : Nat → Option Nat) (htg : ∀ i p, tgt i = some p → p < g.n) (hn : g.n ≤ 300) (hM : g.M ≤ 300) :
    Leaves R g.n 11 #[.pointer (some ⟨R, 0, none⟩)] #[] 8 (fun p => Pl.sel (prs tgt g.M) p) (fun p => p < g.n) (NG g tgt) := by
  refine ⟨enters_of Ybaz.func11 (by kernel_rfl) rfl, by decide, ?_, ?_⟩
  · intro o W s pv uv p hR hE hsN hp _
    show Calls Ybaz.prog 11 #[.pointer (some ⟨R, 0, none⟩), .int .i64 (p : Int)] W _
    rw [← hE.hM]
    have e1 := hE.hM
    have e2 := hE.hN
    rcases hE.nat with ⟨h1, h2⟩ | ⟨fb, ib, hL⟩
    · refine (namers_make o W R s pv uv hR g hE.gat hE.hG hE.hN tgt (fun i q hq => by rw [e2]; exact htg i q hq) hE.tg (by omega) (by omega) (by omega) h1 p (by omega)).mono ?_
      rintro e w' ⟨o', a, c, nf, ni, fb, ib, rfl, hof, R', L', st⟩
      refine ⟨o', a, c, nf, ni, rfl, hof, R', ⟨hE.gat.step st (by simp) (by simp) (by simp), hE.tg.step st (by simp), .inr ⟨fb, ib, L'⟩, hE.hG, hE.hN, hE.hM⟩, st⟩
    · refine (namers_made o W R s pv uv hR tgt (fun i q hq => by rw [e2]; exact htg i q hq) fb ib hL (by omega) p (by omega)).mono ?_
      rintro e w' ⟨o', a, c, rfl, hof, st⟩
      exact ⟨o', a, c, s.nf, s.ni, rfl, hof, ⟨hR.ob.step st (by simp), hR.gr.step st (by simp), hR.pend.step st (by simp), hR.und.step st (by simp)⟩, ⟨hE.gat.step st (by simp) (by simp) (by simp), hE.tg.step st (by simp), hE.nat.step st (by simp) (by simp) rfl rfl rfl rfl, hE.hG, hE.hN, hE.hM⟩, st.mono (by simp)⟩
  · intro o W s o' W' gr pend und hE st
    exact ⟨hE.gat.step st (by simp) (by simp) (by simp), hE.tg.step st (by simp), hE.nat.step st (by simp) (by simp) rfl rfl rfl rfl, hE.hG, hE.hN, hE.hM⟩

set_option maxRecDepth 100000 in
/-- r.settle(r.namers). -/
theorem settle_any (o : Nat → Nat) (W : World) (R : Nat) (s : RS) (pv uv : Value) (h : RAt o W R s pv uv) (g : GS) (tgt : Nat → Option Nat) (hE : NG g tgt o W s) (htg : ∀ i p, tgt i = some p → p < g.n) (hn : g.n ≤ 300) (hM : g.M ≤ 300) (hm : s.marks ≤ 1000) (hu : s.und.length ≤ 600) (hpl : s.pend.length ≤ 600)
    (hwp : ∀ i, i < g.M → g.wp i < g.n) (hp0 : ∀ q ∈ s.pend, q < g.n) :
    Calls Ybaz.prog 10 #[.pointer (some ⟨R, 0, none⟩), .func (.func 11) #[.pointer (some ⟨R, 0, none⟩)] #[]] W fun e w' => (∃ v, e = .returned v) ∧
      ∃ o' pv' uv' nf ni new, RAt o' w' R (s.ext nf ni [] new) pv' uv' ∧ SInv s.gr g.n s.pend (fun p => Pl.sel (prs tgt g.M) p) g.wp [] new ∧ NG g tgt o' w' (s.ext nf ni [] new) ∧ Step [1, 2, 3, 4] o W o' w' := by
  have hc := settleUntil_any o W R s pv uv h g hE.gat hE.hG hE.hN hM (by rw [hE.hN]; exact hn) hm hu hpl (by rw [hE.hN]; exact hwp) 11 #[.pointer (some ⟨R, 0, none⟩)] #[] 8 (fun p => Pl.sel (prs tgt g.M) p) (fun p => p < g.n) (NG g tgt) (by rw [hE.hN]; exact namers_leaves R g tgt htg hn hM) hE
    (fun q _ lf hlf => by
      have h1 : (q, lf) ∈ prs tgt g.M := by
        unfold Pl.sel at hlf
        rw [List.mem_map] at hlf
        obtain ⟨x, hx, rfl⟩ := hlf
        rw [List.mem_filter] at hx
        have : x.1 = q := by simpa using hx.2
        rw [← this]; exact hx.1
      exact ⟨(prs_mem h1).1, hwp _ (prs_mem h1).1⟩)
    (fun q _ => by
      have h1 : (Pl.sel (prs tgt g.M) q).length ≤ (prs tgt g.M).length := by unfold Pl.sel; rw [List.length_map]; exact List.length_filter_le _ _
      have := prs_len tgt g.M; show (Pl.sel (prs tgt g.M) q).length ≤ 1000; omega)
    (fun q hq => by rw [hE.hN]; exact ⟨hp0 q hq, hp0 q hq⟩)
  have HC := hid hc
  have hsN := hid hE.hN
  clear hc hE h
  go_enter Ybaz.func10, Ybaz.ntmps10
  go_wp2_with (go_at_call 22; refine HC.out.mono ?_; rintro e w1 ⟨rfl, o', pv', uv', nf, ni, new, hR, hS, hE, hst⟩)
  go_end0
  rw [hsN.out] at hS
  exact ⟨⟨_, rfl⟩, o', pv', uv', nf, ni, new, hR, hS, hE, hst⟩

set_option maxHeartbeats 1000000 in
/-- r.mark(). -/
theorem mark_any (o : Nat → Nat) (W : World) (R : Nat) (s : RS) (pv uv : Value) (h : RAt o W R s pv uv) (hm : s.marks ≤ 1000) :
    Calls Ybaz.prog 90 #[.pointer (some ⟨R, 0, none⟩)] W fun e w' => e = .returned (.int .i64 (s.und.length : Int)) ∧ RAt o w' R { s with marks := s.marks + 1 } pv uv ∧ Step [1] o W o w' := by
  obtain ⟨a, cap, huv, _⟩ := h.und.val
  rw [zints_length] at huv
  have c8 : W.cell? ⟨R, 8, none⟩ = some (.int .i64 (s.marks : Int)) := h.ob.cell 8
  have f8 := h.ob.frozen 8
  have ob1 := h.ob.set 8 (.int .i64 ((s.marks : Int) + 1))
  have s1 := h.ob.sset 8 (.int .i64 ((s.marks : Int) + 1)) (T := [1]) (by simp)
  have d7 : (W.setCell ⟨R, 8, none⟩ (.int .i64 ((s.marks : Int) + 1))).cell? ⟨R, 7, none⟩ = some (.slice a s.und.length cap) := by rw [ob1.cell 7, ← huv]; rfl
  go_enter Ybaz.func90, Ybaz.ntmps90
  go_wp2
  go_ret
  refine ⟨rfl, ⟨?_, h.gr.step s1 (by simp), h.pend.step s1 (by simp), h.und.step s1 (by simp)⟩, s1⟩
  have e : rcells { s with marks := s.marks + 1 } pv uv = (rcells s pv uv).setIfInBounds 8 (.int .i64 ((s.marks : Int) + 1)) := by simp [rcells]
  rw [e]; exact ob1
end Go.Proofs.YbulkbmdoGreat
