import Derived.Test.YbulkbmdoGreatQueue5
namespace Go.Proofs.YbulkbmdoGreat
open Go.RowKit Go.Shelf
set_option linter.unusedVariables false

set_option maxHeartbeats 1000000 in
/-- take$4: is the candidate at slot i granted? -/
theorem done_any (o : Nat → Nat) (W : World) (R S Br Bs : Nat) (s : RS) (pv uv : Value) (h : RAt o W R s pv uv) (v : VSt) (cs : List Nat) (ob : Ob o W 20 S 63 (vcells v)) (hc : Sl o W 26 3 v.cands (ints cs)) (c1 : W.cell? ⟨Br, 0, none⟩ = some (.pointer (some ⟨R, 0, none⟩))) (c2 : W.cell? ⟨Bs, 0, none⟩ = some (.pointer (some ⟨S, 0, none⟩)))
    (hcs : ∀ q ∈ cs, q < s.N) (hN : s.N ≤ 300) (hcl : cs.length ≤ 300) (i : Nat) (hi : i < cs.length) :
    Calls Ybaz.prog 98 (#[.int .i64 (i : Int)] ++ #[.pointer (some ⟨Br, 0, none⟩), .pointer (some ⟨Bs, 0, none⟩)]) W fun e w' => e = .returned (.bool (s.gr cs[i])) ∧ ∃ m, w' = W.drewN m := by
  show Calls Ybaz.prog 98 #[.int .i64 (i : Int), .pointer (some ⟨Br, 0, none⟩), .pointer (some ⟨Bs, 0, none⟩)] W _
  obtain ⟨cb, cap, hcv, hc1, hc2, htc, hltc⟩ := hc.some_of (by rw [ints_length]; omega)
  rw [ints_length] at hcv hc1
  have hcc : W.cell? ⟨cb, i, none⟩ = some (.int .i64 (cs[i] : Int)) := by
    have hh := hc
    rw [hcv] at hh
    have e := ints_length cs
    rw [← e] at hh
    rw [hh.cell i (by rw [ints_length]; exact hi)]
    simp [ints]
  have x7 : W.cell? ⟨S, 7, none⟩ = some (.slice (some ⟨cb, 0, none⟩) cs.length cap) := by rw [← hcv]; exact ob.cell 7
  have x5 : W.cell? ⟨R, 5, none⟩ = some (.slice (some ⟨s.gb, 0, none⟩) s.N s.N) := h.ob.cell 5
  have hpn := hcs _ (List.getElem_mem hi)
  have hg := h.gr.cell cs[i] hpn
  have b1 : (i : Int) < (cs.length : Int) := by omega
  have b2 : (cs[i] : Int) < (s.N : Int) := by omega
  clear h ob hc
  go_enter Ybaz.func98, Ybaz.ntmps98
  go_wp2
  go_quiet (fail)
  go_wp2
  go_ret
  exact ⟨rfl, nq, rfl⟩

set_option maxHeartbeats 1000000 in
/-- setsUpTo(n, 1, limit), where n is within the limit. -/
theorem sets_any (n limit : Nat) (hn : n ≤ 300) (hl : n ≤ limit) (hl2 : limit ≤ 100000000) (W : World) :
    Calls Ybaz.prog 39 #[.int .i64 (n : Int), .int .i64 1, .int .i64 (limit : Int)] W fun e w' => e = .returned (.int .i64 (n : Int)) ∧ ∃ m, w' = W.drewN m := by
  have b1 : ¬ (limit : Int) < (n : Int) := by omega
  go_enter Ybaz.func39, Ybaz.ntmps39
  go_wp2
  go_loopw [7, 8, 9] (fun a b c wr => wr = W ∧ ((a = .int .i64 0 ∧ b = .int .i64 1 ∧ c = .int .i64 1) ∨ (a = .int .i64 (n : Int) ∧ b = .int .i64 (n : Int) ∧ c = .int .i64 2))) (fun a b c _ => 2 - (intOf c).toNat)
  case atStart => exact ⟨rfl, .inl ⟨rfl, rfl, rfl⟩⟩
  case round =>
    obtain ⟨rfl, ⟨rfl, rfl, rfl⟩ | ⟨rfl, rfl, rfl⟩⟩ := hrel
    · go_wp2
      go_roundw
      case rel => exact ⟨trivial, .inr ⟨by go_num, by go_num, by go_num⟩⟩
      case measure => simp [intOf]
    · go_wp2
      go_ret
      exact ⟨rfl, 0, rfl⟩

set_option maxHeartbeats 1000000 in
/-- take$2: what a candidate adds to the count of each that it names: 2, or 0 once it is granted. -/
theorem share_any (o : Nat → Nat) (W : World) (R Bg Br : Nat) (s : RS) (pv uv : Value) (h : RAt o W R s pv uv) (g : GS) (hg : GAt o W g) (c1 : W.cell? ⟨Bg, 0, none⟩ = some (.pointer (some ⟨g.G, 0, none⟩))) (c2 : W.cell? ⟨Br, 0, none⟩ = some (.pointer (some ⟨R, 0, none⟩)))
    (hsN : s.N = g.n) (hn : g.n ≤ 300) (hM : g.M ≤ 300) (p l : Nat) (hp : p < g.n) (hr : g.root p = (l : Int)) (hl : l < g.M) (hne : (g.tid l).toList ≠ []) :
    Calls Ybaz.prog 94 #[.int .i64 (p : Int), .pointer (some ⟨Bg, 0, none⟩), .pointer (some ⟨Br, 0, none⟩)] W fun e w' => e = .returned (.int .i64 (if s.gr p = true then 0 else 2)) ∧ ∃ m, w' = W.drewN m := by
  have g0 : W.cell? ⟨g.G, 0, none⟩ = some (.slice (some ⟨g.pb, 0, none⟩) g.n g.pcap) := by rw [← (hg.hpa (by omega)).1]; exact hg.ob.cell 0
  have g2 : W.cell? ⟨g.G, 2, none⟩ = some (.slice (some ⟨g.nd, 0, none⟩) g.M g.ncap) := by rw [← (hg.hna (by omega)).1]; exact hg.ob.cell 2
  have p1 := (hg.pc p hp).2.1
  rw [hr] at p1
  have n0 := (hg.nc l hl).1
  have x5 : W.cell? ⟨R, 5, none⟩ = some (.slice (some ⟨s.gb, 0, none⟩) s.N s.N) := h.ob.cell 5
  have hgr := h.gr.cell p (by omega)
  have b1 : (p : Int) < (g.n : Int) := by omega
  have b2 : (l : Int) < (g.M : Int) := by omega
  have b3 : (p : Int) < (s.N : Int) := by omega
  have hnb : (g.tid l).toList.isEmpty = false := by simpa using hne
  clear h hg hr
  cases hq : s.gr p with
  | true =>
    rw [hq] at hgr
    go_enter Ybaz.func94, Ybaz.ntmps94
    go_wp2
    go_ret
    exact ⟨rfl, 0, rfl⟩
  | false =>
    rw [hq] at hgr
    go_enter Ybaz.func94, Ybaz.ntmps94
    go_wp2
    go_ret
    exact ⟨rfl, 0, rfl⟩
end Go.Proofs.YbulkbmdoGreat
