import Derived.Test.YbulkbmdoGreatCyc
namespace Go.Proofs.YbulkbmdoGreat
open Go.RowKit Go.Shelf
set_option linter.unusedVariables false

/-- The search with its candidates cs. -/
structure SAt (o : Nat → Nat) (W : World) (S : Nat) (v : VSt) (g : GS) (R : Nat) (cs : List Nat) (sl : Nat → Int) (sb : Nat) : Prop where
  ob : Ob o W 20 S 63 (vcells v)
  hG : v.G = g.G
  hR : v.R = R
  cands : Sl o W 26 3 v.cands (ints cs)
  hslot : v.slot = .slice (some ⟨sb, 0, none⟩) g.n g.n
  slot : Ar o W 27 sb 3 g.n (fun i => .int .i64 (sl i))
theorem SAt.step {o o' : Nat → Nat} {W W' : World} {T : List Nat} {S : Nat} {v : VSt} {g : GS} {R : Nat} {cs : List Nat} {sl : Nat → Int} {sb : Nat} (h : SAt o W S v g R cs sl sb) (hs : Step T o W o' W') (h1 : 20 ∉ T) (h2 : 26 ∉ T) (h3 : 27 ∉ T) : SAt o' W' S v g R cs sl sb :=
  ⟨h.ob.step hs h1, h.hG, h.hR, h.cands.step hs h2, h.hslot, h.slot.step hs h3⟩

/-- The ground of the local lists. -/
structure LE (g : GS) (tgt : Nat → Option Nat) (R S : Nat) (v : VSt) (cs : List Nat) (sl : Nat → Int) (sb : Nat) (L : List (Nat × Nat)) (fb ib Bx : Nat) (o : Nat → Nat) (W : World) (s : RS) : Prop where
  ng : NG g tgt o W s
  sat : SAt o W S v g R cs sl sb
  loc : LAt o W 29 30 cs.length L v.lf v.li fb ib
  box : Ob o W 99 Bx 95 #[.pointer (some ⟨S, 0, none⟩)]
theorem NG.step {g : GS} {tgt : Nat → Option Nat} {o o' : Nat → Nat} {W W' : World} {s s' : RS} {T : List Nat} (h : NG g tgt o W s) (hs : Step T o W o' W') (h1 : ∀ t ∈ [5, 7, 8, 10, 11, 12], t ∉ T) (e1 : s'.nf = s.nf) (e2 : s'.ni = s.ni) (e3 : s'.N = s.N) (e4 : s'.M = s.M) (e5 : s'.G = s.G) (e6 : s'.tb = s.tb) : NG g tgt o' W' s' :=
  ⟨h.gat.step hs (h1 _ (by simp)) (h1 _ (by simp)) (h1 _ (by simp)), by rw [e6, e4]; exact h.tg.step hs (h1 _ (by simp)), h.nat.step hs (h1 _ (by simp)) (h1 _ (by simp)) e1 e2 e3 e4, e5.trans h.hG, e3.trans h.hN, e4.trans h.hM⟩

/-- l.of(i) where list i holds something: which slice it is. -/
theorem of_at1 (o : Nat → Nat) (W : World) (B off tf ti n : Nat) (L : List (Nat × Nat)) (fv iv : Value) (fb ib : Nat) (hL : ∀ x ∈ L, x.1 < n) (hn : n ≤ 300) (h : LAt o W tf ti n L fv iv fb ib) (h0 : W.cell? ⟨B, off, none⟩ = some fv) (h1 : W.cell? ⟨B, off + 1, none⟩ = some iv) (i : Nat) (hi : i < n) (hne : 0 < (Pl.sel L i).length) :
    Calls Ybaz.prog 17 #[.pointer (some ⟨B, off, none⟩), .int .i64 (i : Int)] W fun e w' => e = .returned (.slice (some ⟨ib, Pl.pos L i, none⟩) (Pl.sel L i).length (L.length - Pl.pos L i)) ∧ ∃ m, w' = W.drewN m := by
  obtain ⟨it, hA, hD⟩ := h.items
  have e1 := Pl.pos_succ L i
  have := Pl.pos_le_all L n hL (show i + 1 ≤ n from hi)
  have e2 : Pl.pos L (i + 1) - Pl.pos L i = (Pl.sel L i).length := by omega
  rw [← e2]
  exact of_some B off fb ib (n + 1) L.length L.length i (Pl.pos L i) (Pl.pos L (i + 1)) W (by rw [h0, h.hf]) (by rw [h1, h.hi]) (h.first.cell i (by omega)) (h.first.cell (i + 1) (by omega)) (by omega) (by omega) (by omega) (by omega) (by omega)
theorem LAt.of1 {o : Nat → Nat} {W : World} {tf ti n : Nat} {L : List (Nat × Nat)} {fv iv : Value} {fb ib : Nat} (hL : ∀ x ∈ L, x.1 < n) (h : LAt o W tf ti n L fv iv fb ib) (i : Nat) (hi : i < n) : OfAt o W ti (Pl.sel L i) (some ⟨ib, Pl.pos L i, none⟩) := by
  obtain ⟨it, hA, hD⟩ := h.items
  refine ⟨fun hx => ⟨ib, Pl.pos L i, rfl, h.ti, hA.lt, fun j hj => ?_⟩⟩
  have := hA.cell (Pl.pos L i + j) (Pl.sel_in L n hL hi hj)
  rw [hD i j hi hj] at this
  exact this

set_option maxRecDepth 100000 in
set_option maxHeartbeats 1000000 in
theorem local_of (g : GS) (tgt : Nat → Option Nat) (R S : Nat) (v : VSt) (cs : List Nat) (sl : Nat → Int) (sb : Nat) (L : List (Nat × Nat)) (fb ib Bx : Nat) (hL : ∀ x ∈ L, x.1 < cs.length) (hc : cs.length ≤ 300) (hn : g.n ≤ 300) (o : Nat → Nat) (W : World) (s : RS) (hE : LE g tgt R S v cs sl sb L fb ib Bx o W s) (p i : Nat) (hp : p < g.n) (hi : sl p = (i : Int)) (hic : i < cs.length) (hne : 0 < (Pl.sel L i).length) :
    Calls Ybaz.prog 133 #[.int .i64 (p : Int), .pointer (some ⟨Bx, 0, none⟩)] W fun e w' => e = .returned (.slice (some ⟨ib, Pl.pos L i, none⟩) (Pl.sel L i).length (L.length - Pl.pos L i)) ∧ ∃ m, w' = W.drewN m := by
  have c0 : W.cell? ⟨Bx, 0, none⟩ = some (.pointer (some ⟨S, 0, none⟩)) := hE.box.cell 0
  have c8 : W.cell? ⟨S, 8, none⟩ = some (.slice (some ⟨sb, 0, none⟩) g.n g.n) := by rw [← hE.sat.hslot]; exact hE.sat.ob.cell 8
  have cp := hE.sat.slot.cell p hp
  rw [hi] at cp
  have b1 : (p : Int) < (g.n : Int) := by omega
  have hof : ∀ m, Calls Ybaz.prog 17 #[.pointer (some ⟨S, 10, none⟩), .int .i64 (i : Int)] (W.drewN m) fun e w' => e = .returned (.slice (some ⟨ib, Pl.pos L i, none⟩) (Pl.sel L i).length (L.length - Pl.pos L i)) ∧ ∃ m2, w' = (W.drewN m).drewN m2 := fun m =>
    of_at1 o (W.drewN m) S 10 29 30 cs.length L v.lf v.li fb ib hL hc (hE.loc.step (Step.drewN [] o W m) (by simp) (by simp)) (hE.sat.ob.cell 10) (hE.sat.ob.cell 11) i hic hne
  have HOF := hid hof
  clear hof hE
  go_enter Ybaz.func133, Ybaz.ntmps133
  go_wp2
  go_quiet (first | (go_at_call 17; exact Calls.quiet_of (HOF.out _)))
  go_wp2
  go_ret
  exact ⟨rfl, nq, rfl⟩

theorem sel_mem {L : List (Nat × Nat)} {i x : Nat} : x ∈ Pl.sel L i ↔ (i, x) ∈ L := by
  unfold Pl.sel
  rw [List.mem_map]
  constructor
  · rintro ⟨y, hy, rfl⟩
    rw [List.mem_filter] at hy
    have : y.1 = i := by simpa using hy.2
    rw [← this]; exact hy.1
  · intro h
    exact ⟨(i, x), List.mem_filter.2 ⟨h, by simp⟩, rfl⟩
theorem Cyc.pred {g : GS} {tgt : Nat → Option Nat} {cs : List Nat} {idx lf nx : Nat → Nat} (h : Cyc g tgt cs idx lf nx) {p : Nat} (hp : p ∈ cs) : ∃ q ∈ cs, nx q = p := by
  have key : ∀ k q, q ∈ cs → Nat.repeat nx k (nx q) = p → ∃ q ∈ cs, nx q = p := by
    intro k
    induction k with
    | zero => intro q hq e; exact ⟨q, hq, e⟩
    | succ k ih =>
      intro q hq e
      have hr : ∀ k, Nat.repeat nx k (nx q) ∈ cs := by
        intro k
        induction k with
        | zero => exact h.hnx _ hq
        | succ k ih2 => exact h.hnx _ ih2
      exact ⟨_, hr k, e⟩
  obtain ⟨k, hk⟩ := h.con (nx p) (h.hnx _ hp) p hp
  exact key k p hp hk
theorem Cyc.sel_pos {g : GS} {tgt : Nat → Option Nat} {cs : List Nat} {idx lf nx : Nat → Nat} (h : Cyc g tgt cs idx lf nx) {p : Nat} (hp : p ∈ cs) : 0 < (Pl.sel (cpr idx lf nx cs) (idx p)).length := by
  obtain ⟨q, hq, rfl⟩ := h.pred hp
  apply List.length_pos_of_mem (a := lf q)
  rw [sel_mem]
  exact List.mem_map.2 ⟨q, hq, rfl⟩
theorem cpr_lt {g : GS} {tgt : Nat → Option Nat} {cs : List Nat} {idx lf nx : Nat → Nat} (h : Cyc g tgt cs idx lf nx) : ∀ x ∈ cpr idx lf nx cs, x.1 < cs.length := by
  intro x hx
  obtain ⟨q, hq, rfl⟩ := List.mem_map.1 hx
  exact h.idx_lt (h.hnx _ hq)

theorem local_leaves (g : GS) (tgt : Nat → Option Nat) (R S : Nat) (v : VSt) (cs : List Nat) (idx lf nx : Nat → Nat) (sl : Nat → Int) (sb fb ib Bx : Nat) (hC : Cyc g tgt cs idx lf nx) (hsl : ∀ p ∈ cs, sl p = (idx p : Int)) (hn : g.n ≤ 300) :
    Leaves R g.n 133 #[] #[.pointer (some ⟨Bx, 0, none⟩)] 30 (fun p => Pl.sel (cpr idx lf nx cs) (idx p)) (fun p => p ∈ cs) (LE g tgt R S v cs sl sb (cpr idx lf nx cs) fb ib Bx) := by
  have hcl := hC.le
  refine ⟨enters_of Ybaz.func133 (by kernel_rfl) rfl, by decide, ?_, ?_⟩
  · intro o W s pv uv p hR hE hsN hp hpc
    show Calls Ybaz.prog 133 #[.int .i64 (p : Int), .pointer (some ⟨Bx, 0, none⟩)] W _
    refine (local_of g tgt R S v cs sl sb (cpr idx lf nx cs) fb ib Bx (cpr_lt hC) (by omega) hn o W s hE p (idx p) hp (hsl p hpc) (hC.idx_lt hpc) (hC.sel_pos hpc)).mono ?_
    rintro e w' ⟨rfl, m, rfl⟩
    have st := Step.drewN [] o W m
    refine ⟨o, _, _, s.nf, s.ni, rfl, (hE.loc.of1 (cpr_lt hC) _ (hC.idx_lt hpc)).step st (by simp), hR.step st (by simp) (by simp) (by simp) (by simp), ⟨hE.ng.step st (by simp) rfl rfl rfl rfl rfl rfl, hE.sat.step st (by simp) (by simp) (by simp), hE.loc.step st (by simp) (by simp), hE.box.step st (by simp)⟩, st.mono (by simp)⟩
  · intro o W s o' W' gr pend und hE st
    exact ⟨hE.ng.step st (by decide) rfl rfl rfl rfl rfl rfl, hE.sat.step st (by decide) (by decide) (by decide), hE.loc.step st (by decide) (by decide), hE.box.step st (by decide)⟩
end Go.Proofs.YbulkbmdoGreat
