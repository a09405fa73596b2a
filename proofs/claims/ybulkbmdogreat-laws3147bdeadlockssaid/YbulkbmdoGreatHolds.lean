import Derived.Test.YbulkbmdoGreatGrant
namespace Go.Proofs.YbulkbmdoGreat
open Go.RowKit
set_option linter.unusedVariables false

/-- p counted as granted. -/
def RS.grant (s : RS) (p : Nat) : RS :=
  if s.gr p = true then s else { s with gr := fun j => if j = p then true else s.gr j, pend := s.pend ++ [p], und := if 0 < s.marks then s.und ++ [-1 - (p : Int)] else s.und }

theorem grant_any (o : Nat → Nat) (W : World) (R : Nat) (s : RS) (pv uv : Value) (h : RAt o W R s pv uv) (p : Nat) (hp : p < s.N) (hN : s.N ≤ 300) (hl : s.pend.length ≤ 1000) (hlu : s.und.length ≤ 1000) (hm2 : s.marks ≤ 1000) :
    Calls Ybaz.prog 21 #[.pointer (some ⟨R, 0, none⟩), .int .i64 (p : Int)] W fun e w' => (∃ v, e = .returned v) ∧
      ∃ o' pv' uv', RAt o' w' R (s.grant p) pv' uv' ∧ Step [1, 2, 3, 4] o W o' w' := by
  unfold RS.grant
  cases hg : s.gr p with
  | true =>
    refine (grant_no o W R s pv uv h p hp hg).mono ?_
    rintro e w' ⟨he, rfl⟩
    exact ⟨he, o, pv, uv, by simpa using h, Step.refl _ _ _⟩
  | false =>
    by_cases hm : 0 < s.marks
    · refine (grant_yes1 o W R s pv uv h p hp hN hg hl hlu hm hm2).mono ?_
      rintro e w' ⟨he, o', pv', uv', hR, hS⟩
      exact ⟨he, o', pv', uv', by simpa [hm] using hR, hS⟩
    · refine (grant_yes0 o W R s pv uv h p hp hN hg hl (by omega)).mono ?_
      rintro e w' ⟨he, o', pv', hR, hS⟩
      exact ⟨he, o', pv', uv, by simpa [hm] using hR, hS.mono (by decide)⟩

/-- What the graph holds. -/
structure GS where
  n : Nat
  M : Nat
  G : Nat
  pb : Nat
  nd : Nat
  mb : Nat
  pa : Option Addr
  na : Option Addr
  pcap : Nat
  ncap : Nat
  pid : Nat → ByteArray
  root : Nat → Int
  fin : Nat → Int
  tid : Nat → ByteArray
  wp : Nat → Nat

structure GAt (o : Nat → Nat) (W : World) (g : GS) : Prop where
  ob : Ob o W 10 g.G 31 #[.slice g.pa g.n g.pcap, .map (some g.mb), .slice g.na g.M g.ncap, .slice none 0 0]
  hpa : 0 < g.n → g.pa = some ⟨g.pb, 0, none⟩ ∧ o g.pb = 11
  hna : 0 < g.M → g.na = some ⟨g.nd, 0, none⟩ ∧ o g.nd = 12
  pc : ∀ i, i < g.n → W.cell? ⟨g.pb, i * 3, none⟩ = some (.string (g.pid i)) ∧ W.cell? ⟨g.pb, i * 3 + 1, none⟩ = some (.int .i64 (g.root i)) ∧ W.cell? ⟨g.pb, i * 3 + 2, none⟩ = some (.int .i64 (g.fin i))
  nc : ∀ i, i < g.M → W.cell? ⟨g.nd, i * 3, none⟩ = some (.string (g.tid i)) ∧ W.cell? ⟨g.nd, i * 3 + 1, none⟩ = some (.int .i64 0) ∧ W.cell? ⟨g.nd, i * 3 + 2, none⟩ = some (.int .i64 (-1 - (g.wp i : Int)))

theorem GAt.step {o o' : Nat → Nat} {W W' : World} {g : GS} {T : List Nat} (h : GAt o W g) (hs : Step T o W o' W') (h1 : 10 ∉ T) (h2 : 11 ∉ T) (h3 : 12 ∉ T) : GAt o' W' g := by
  have lp : ∀ i, i < g.n → g.pb < W.heap.size := fun i hi => World.block_lt_of_cell? _ _ (h.pc i hi).1
  have ln : ∀ i, i < g.M → g.nd < W.heap.size := fun i hi => World.block_lt_of_cell? _ _ (h.nc i hi).1
  refine ⟨h.ob.step hs h1, fun hn => ⟨(h.hpa hn).1, (hs.own _ (lp 0 hn)).trans (h.hpa hn).2⟩, fun hn => ⟨(h.hna hn).1, (hs.own _ (ln 0 hn)).trans (h.hna hn).2⟩, fun i hi => ?_, fun i hi => ?_⟩
  · have ht : o g.pb ∉ T := by rw [(h.hpa (by omega)).2]; exact h2
    obtain ⟨a, b, c⟩ := h.pc i hi
    exact ⟨(hs.cell (p := ⟨g.pb, i * 3, none⟩) (lp i hi) ht).trans a, (hs.cell (p := ⟨g.pb, i * 3 + 1, none⟩) (lp i hi) ht).trans b, (hs.cell (p := ⟨g.pb, i * 3 + 2, none⟩) (lp i hi) ht).trans c⟩
  · have ht : o g.nd ∉ T := by rw [(h.hna (by omega)).2]; exact h3
    obtain ⟨a, b, c⟩ := h.nc i hi
    exact ⟨(hs.cell (p := ⟨g.nd, i * 3, none⟩) (ln i hi) ht).trans a, (hs.cell (p := ⟨g.nd, i * 3 + 1, none⟩) (ln i hi) ht).trans b, (hs.cell (p := ⟨g.nd, i * 3 + 2, none⟩) (ln i hi) ht).trans c⟩

theorem root_at (p r : Int) (h1 : -9223372036854775807 ≤ p) (h2 : p ≤ 9223372036854775806) (hr : -1 - p = r) (w : World) : Calls Ybaz.prog 5 #[.int .i64 p] w fun e w' => e = .returned (.int .i64 r) ∧ w = w' := by
  subst hr
  exact (root_any p h1 h2 w).mono fun e w' ⟨a, b⟩ => ⟨a, b.symm⟩

set_option maxHeartbeats 1000000 in
/-- A leaf has come to hold: its process is granted. -/
theorem holds_any (o : Nat → Nat) (W : World) (R : Nat) (s : RS) (pv uv : Value) (g : GS) (h : RAt o W R s pv uv) (hg : GAt o W g) (hG : s.G = g.G) (i : Nat) (hi : i < g.M) (hM : g.M ≤ 300) (hp : g.wp i < s.N) (hN : s.N ≤ 300) (hl : s.pend.length ≤ 1000) (hlu : s.und.length ≤ 1000) (hm2 : s.marks ≤ 1000) :
    Calls Ybaz.prog 9 #[.pointer (some ⟨R, 0, none⟩), .int .i64 (i : Int)] W fun e w' => (∃ v, e = .returned v) ∧
      ∃ o' pv' uv', RAt o' w' R (s.grant (g.wp i)) pv' uv' ∧ Step [1, 2, 3, 4] o W o' w' := by
  have c0 : W.cell? ⟨R, 0, none⟩ = some (.pointer (some ⟨g.G, 0, none⟩)) := by rw [← hG]; exact h.ob.cell 0
  have e2 : W.cell? ⟨g.G, 2, none⟩ = some (.slice (some ⟨g.nd, 0, none⟩) g.M g.ncap) := by rw [← (hg.hna (by omega)).1]; exact hg.ob.cell 2
  have n2 := (hg.nc i hi).2.2
  have hb : (i : Int) < (g.M : Int) := by omega
  go_enter Ybaz.func9, Ybaz.ntmps9
  go_wp2
  refine wp_loop_rounds 1 ?_
  rw [rounds_succ]
  go_wp2_with (first | (go_at_call 5; refine (root_at _ (g.wp i : Int) (by omega) (by omega) (by omega) _).mono ?_; rintro e w' ⟨rfl, rfl⟩) | (go_at_call 21; refine (grant_any o W R s pv uv h (g.wp i) hp hN hl hlu hm2).mono ?_; rintro e w1 ⟨⟨v, rfl⟩, hpost⟩))
  refine bodyPost_ret (results_none rfl _ _ _) rfl ?_
  exact ⟨⟨_, rfl⟩, hpost⟩
end Go.Proofs.YbulkbmdoGreat
