import Derived.Test.YbulkbmdoGreatTopW
import Derived.Test.YbulkbmdoGreatShelf
import Derived.BigQuiet
namespace Go.Proofs.YbulkbmdoGreat
open Go.RowKit Go.Shelf
set_option linter.unusedVariables false

theorem clone_one (o : Nat → Nat) (W : World) (b c t : Nat) (x : Int) (hc : W.cell? ⟨b, 0, none⟩ = some (.int .i64 x)) :
    Calls Ybaz.prog 84 #[.slice (some ⟨b, 0, none⟩) 1 c] W fun e w' => ∃ (g cap : Nat) (o' : Nat → Nat), e = .returned (.slice (some ⟨g, 0, none⟩) 1 cap) ∧ Sl o' w' t 3 (.slice (some ⟨g, 0, none⟩) 1 cap) [.int .i64 x] ∧ Step [] o W o' w' := by
  refine (Ybaz.slices_Clone_int b 0 1 c [x] W (by simp) (by omega) (fun j hj => by
    have : j = 0 := by simpa using hj
    subst this; simpa using hc)).mono ?_
  rintro e w' ⟨v', rfl, hown, hne, hb⟩
  obtain ⟨g, cap, rfl⟩ := ownsRow_succ hown
  have hg : W.heap.size ≤ g := by
    rcases hown.2 with ⟨h0, _⟩ | ⟨g', cap', cur, h0, hge, _⟩
    · simp at h0
    · simp at h0; omega
  have hown0 : w'.ownsRow 0 3 1 (.slice (some ⟨g, 0, none⟩) 1 cap) 1 [.int .i64 x] := by
    refine ⟨rfl, .inr ?_⟩
    rcases hown.2 with ⟨h0, _⟩ | ⟨g', cap', cur, h0, hge, h1, h2, h3, h4, h5⟩
    · simp at h0
    · exact ⟨g', cap', cur, h0, Nat.zero_le _, h1, h2, h3, h4, by simpa using h5⟩
  refine ⟨g, cap, fun k => if k = g then t else o k, rfl, ⟨hown0, fun b' hb' => ?_⟩, (Step.of_below (o := o) hb []).retag fun k hk => ?_⟩
  · have : b' = g := by simpa [Value.ownBlock] using hb'.symm
    simp [this]
  · simp [show k ≠ g by omega]

set_option maxRecDepth 100000 in
set_option maxHeartbeats 2000000 in
/-- walk at a whole set: the set is the best. -/
theorem walk_leaf (o : Nat → Nat) (W : World) (R S : Nat) (s : RS) (pv uv : Value) (h : RAt o W R s pv uv) (g : GS) (v : VSt) (cs : List Nat) (sl : Nat → Int) (sb : Nat) (hS : SAt o W S v g R cs sl sb) (hsN : s.N = g.n) (hn : g.n ≤ 300) (hcs : ∀ q ∈ cs, q < g.n) (hc0 : 0 < cs.length) (hcl : cs.length ≤ 300) (hgr : ∀ q ∈ cs, s.gr q = true)
    (nv : Value) (Bk Bset Bm Bw Bs Bb Ba Bn Bh Bf sa cap : Nat) (c2 : W.cell? ⟨Bk, 0, none⟩ = some (.int .i64 1)) (c3 : W.cell? ⟨Bset, 0, none⟩ = some (.slice (some ⟨sa, 0, none⟩) 1 cap)) (c4 : W.cell? ⟨Bm, 0, none⟩ = some (.int .i64 0)) (c6 : W.cell? ⟨Bs, 0, none⟩ = some (.pointer (some ⟨S, 0, none⟩))) (c8 : W.cell? ⟨Ba, 0, none⟩ = some (.bool false)) (ta : o Ba = 99) (ca : W.cell? ⟨sa, 0, none⟩ = some (.int .i64 0))
    (bw : Ob o W 92 Bw 3 #[.int .i64 (-1)]) (bb : Ob o W 91 Bb 24 #[.slice none 0 0]) :
    Calls Ybaz.prog 104 #[nv, .int .i64 1, .pointer (some ⟨Bk, 0, none⟩), .pointer (some ⟨Bset, 0, none⟩), .pointer (some ⟨Bm, 0, none⟩), .pointer (some ⟨Bw, 0, none⟩), .pointer (some ⟨Bs, 0, none⟩), .pointer (some ⟨Bb, 0, none⟩), .pointer (some ⟨Ba, 0, none⟩), .pointer (some ⟨Bn, 0, none⟩), .pointer (some ⟨Bh, 0, none⟩), .pointer (some ⟨Bf, 0, none⟩)] W fun e w' => e = .returned (.bool false) ∧ ∃ (o' : Nat → Nat) (cb ccap : Nat), Ob o' w' 92 Bw 3 #[.int .i64 1] ∧ Ob o' w' 91 Bb 24 #[.slice (some ⟨cb, 0, none⟩) 1 ccap] ∧ Sl o' w' 98 3 (.slice (some ⟨cb, 0, none⟩) 1 ccap) [.int .i64 0] ∧ Step [91, 92] o W o' w' := by
  have c5 : W.cell? ⟨Bw, 0, none⟩ = some (.int .i64 (-1)) := bw.cell 0
  have HC := hid (cleared_yes o W R S s pv uv h g v cs sl sb hS hsN hn hcs hc0 hcl hgr)
  have HL := hid (clone_one o W sa cap 98 0 ca)
  have HB := hid (And.intro bw bb)
  have hwlt : Bw < W.heap.size := bw.lt
  have hblt : Bb < W.heap.size := bb.lt
  have nwb : Bw ≠ Bb := fun e => by have h1 := bw.tag; have h2 := bb.tag; rw [e] at h1; omega
  clear h hS hgr hcs bw bb
  go_enter Ybaz.func104, Ybaz.ntmps104
  go_wp2_with (first
    | (go_at_call 102; refine HC.out.mono ?_; rintro e w' ⟨rfl, hw'⟩; obtain rfl : W = w' := hw'.symm)
    | (go_at_call 84; refine HL.out.mono ?_; rintro e w2 ⟨cb, ccap, o2, rfl, sl2, s2⟩; have bw2 := HB.out.1.step s2 (by simp); have bb2 := HB.out.2.step s2 (by simp); have d7 : w2.cell? ⟨Bb, 0, none⟩ = some (.slice none 0 0) := bb2.cell 0; have f7 := bb2.frozen 0; have bb3 := bb2.set 0 (.slice (some ⟨cb, 0, none⟩) 1 ccap); have s3 := bb2.sset 0 (.slice (some ⟨cb, 0, none⟩) 1 ccap) (T := [91, 92]) (by simp); have bw3 := bw2.step (bb2.sset 0 (.slice (some ⟨cb, 0, none⟩) 1 ccap) (T := [91]) (by simp)) (by simp); have sl3 := sl2.step s3 (by simp); have d5 := bw3.cell 0; have f5 := bw3.frozen 0; have bw4 := bw3.set 0 (.int .i64 1); have s4 := s3.trans (bw3.sset 0 (.int .i64 1) (T := [91, 92]) (by simp)); have bb4 := bb3.step (bw3.sset 0 (.int .i64 1) (T := [92]) (by simp)) (by simp); have sl4 := sl3.step (bw3.sset 0 (.int .i64 1) (T := [92]) (by simp)) (by simp); have c9 := (((s2.mono (T' := [91, 92]) (by simp)).trans s4).cell (p := ⟨Ba, 0, none⟩) (World.block_lt_of_cell? _ _ c8) (by rw [ta]; simp)).trans c8; have HF := hid (And.intro bw4 (And.intro bb4 (And.intro sl4 ((s2.mono (T' := [91, 92]) (by simp)).trans s4)))); clear bw2 bb2 bb3 s3 bw3 sl3 bw4 s4 bb4 sl4 s2 sl2))
  go_ret
  obtain ⟨h1, h2, h3, h4⟩ := HF.out
  exact ⟨rfl, o2, cb, ccap, h1, h2, h3, h4⟩
end Go.Proofs.YbulkbmdoGreat
