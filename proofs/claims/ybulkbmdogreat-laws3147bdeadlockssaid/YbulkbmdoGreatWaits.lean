import Derived.Test.YbulkbmdoGreatIds
import Derived.Test.YbulkbmdoGreatApp
import Derived.Test.YbulkbmdoGreatLists
import Derived.Deep.RegionHeld3
namespace Go.Proofs.YbulkbmdoGreat
open Go.RowKit Go.Shelf
set_option linter.unusedVariables false

theorem info32 : (Ybaz.prog.info? 32).map (fun i => (i.zero, i.size, i.bytes)) = some (some (.string ⟨#[]⟩), 1, 16) := by kernel_rfl

set_option maxRecDepth 100000 in
set_option maxHeartbeats 2000000 in
/-- appendIDs(ids[:0], nodes) at one leaf. -/
theorem appendIDs_any (o : Nat → Nat) (W : World) (a : Option Addr) (cap nd l ncap : Nat) (tid : ByteArray) (par : Int) (h : Sl o W 35 32 (.slice a 0 cap) []) (hc : cap ≤ 9223372036854775807) (n0 : W.cell? ⟨nd, l * 3, none⟩ = some (.string tid)) (n1 : W.cell? ⟨nd, l * 3 + 1, none⟩ = some (.int .i64 0)) (n2 : W.cell? ⟨nd, l * 3 + 2, none⟩ = some (.int .i64 par)) (hne : tid.toList ≠ []) :
    Calls Ybaz.prog 56 #[.slice a 0 cap, .slice (some ⟨nd, l * 3, none⟩) 1 ncap] W fun e w' => ∃ g cap' o', e = .returned (.slice (some ⟨g, 0, none⟩) 1 cap') ∧ cap' ≤ 9223372036854775807 ∧ Sl o' w' 35 32 (.slice (some ⟨g, 0, none⟩) 1 cap') [.string tid] ∧ Step [35] o W o' w' := by
  have hnb : tid.toList.isEmpty = false := by simpa using hne
  have st0 := Step.alloc [] o W (.cells #[.string tid, .int .i64 0, .int .i64 par] 39) 99
  have bx0 := Ob.new o W 99 39 #[.string tid, .int .i64 0, .int .i64 par]
  obtain ⟨X, e0⟩ : ∃ X, W.alloc (.cells #[.string tid, .int .i64 0, .int .i64 par] 39) = X := ⟨_, rfl⟩
  obtain ⟨o0, ho0⟩ : ∃ o0, tg o W.heap.size 99 = o0 := ⟨_, rfl⟩
  obtain ⟨B7, z7⟩ : ∃ B7, W.heap.size = B7 := ⟨_, rfl⟩
  rw [e0, ho0] at st0 bx0
  rw [z7] at bx0
  have x0 : X.cell? ⟨B7, 0, none⟩ = some (.string tid) := bx0.cell 0
  have h1 := h.step st0 (by simp)
  obtain ⟨g, cap', w', hr, hcm, o', sl', st'⟩ := h1.app_gen Ybaz.underlying25 info32 rfl (by omega) (by simp) (.string tid) rfl 32
  rw [List.length_nil, List.nil_append] at *
  have b1 : (1 : Int) ≤ (cap' : Int) := by
    obtain ⟨a5, c5, e5, h5⟩ := sl'.val
    simp at e5 h5
    omega
  have HF := hid (And.intro sl' ((st0.mono (T' := [35]) (by simp)).trans st'))
  have HS := hid (fun cp => sort_ids (some ⟨g, 0, none⟩) cp w')
  have HC := hid (fun cp => compact_ids (some ⟨g, 0, none⟩) cp w')
  clear h h1 st0 bx0 sl' st' ho0
  go_enter Ybaz.func56, Ybaz.ntmps56
  go_wp2
  go_loopw [0, 12] (fun x q wr => (x = .slice a 0 cap ∧ q = .int .i64 0 ∧ wr = W) ∨ (x = .slice (some ⟨g, 0, none⟩) 1 cap' ∧ q = .int .i64 1 ∧ wr = w')) (fun _ q _ => 1 - (intOf q).toNat)
  case atStart => exact .inl ⟨rfl, rfl, rfl⟩
  case round =>
    rcases hrel with ⟨rfl, rfl, hw⟩ | ⟨rfl, rfl, hw⟩
    · obtain rfl : W = wr := hw.symm
      go_wp2_with (at_builtin; refine wpList_append_is rfl _ _ 25 rfl _ _ _ _ rfl rfl hr ?_)
      go_roundw
      case rel => exact .inr ⟨by simp, by go_num, trivial⟩
      case measure => simp [intOf]
    · obtain rfl : w' = wr := hw.symm
      have HS1 := hid (HS.out cap')
      have HC1 := hid (HC.out cap')
      go_wp2_with (first | (go_at_call 80; refine HS1.out.mono ?_; rintro e w2 ⟨⟨r, rfl⟩, hw⟩; obtain rfl : w' = w2 := hw.symm) | (go_at_call 81; refine HC1.out.mono ?_; rintro e w2 ⟨rfl, hw⟩; obtain rfl : w' = w2 := hw.symm))
      go_ret
      exact ⟨g, cap', o', rfl, hcm, HF.out.1, HF.out.2⟩

set_option maxRecDepth 100000 in
set_option maxHeartbeats 2000000 in
/-- g.waitsOn(p, ids) at a process with one leaf: one id. -/
theorem waitsOn_any (o : Nat → Nat) (W : World) (g : GS) (hg : GAt o W g) (a : Option Addr) (n cap p l : Nat) (h : Sl o W 35 32 (.slice a 0 cap) []) (hc : cap ≤ 9223372036854775807) (hp : p < g.n) (hn : g.n ≤ 300) (hM : g.M ≤ 300) (hr : g.root p = (l : Int)) (hf : g.fin p = (l : Int) + 1) (hl : l < g.M) (hnc : g.M ≤ g.ncap) (hncm : g.ncap ≤ 9223372036854775807) (hne : (g.tid l).toList ≠ []) :
    Calls Ybaz.prog 37 #[.pointer (some ⟨g.G, 0, none⟩), .int .i64 (p : Int), .slice a n cap] W fun e w' => ∃ gb cap' o', e = .returned (.tuple #[.int .i64 1, .slice (some ⟨gb, 0, none⟩) 1 cap']) ∧ cap' ≤ 9223372036854775807 ∧ Sl o' w' 35 32 (.slice (some ⟨gb, 0, none⟩) 1 cap') [.string (g.tid l)] ∧ Step [35] o W o' w' := by
  have g0 : W.cell? ⟨g.G, 0, none⟩ = some (.slice (some ⟨g.pb, 0, none⟩) g.n g.pcap) := by rw [← (hg.hpa (by omega)).1]; exact hg.ob.cell 0
  obtain ⟨p0, p1, p2⟩ := hg.pc p hp
  rw [hr] at p1
  rw [hf] at p2
  have st0 := Step.alloc [] o W (.cells #[.string (g.pid p), .int .i64 (l : Int), .int .i64 ((l : Int) + 1)] 36) 99
  have bx0 := Ob.new o W 99 36 #[.string (g.pid p), .int .i64 (l : Int), .int .i64 ((l : Int) + 1)]
  obtain ⟨X, e0⟩ : ∃ X, W.alloc (.cells #[.string (g.pid p), .int .i64 (l : Int), .int .i64 ((l : Int) + 1)] 36) = X := ⟨_, rfl⟩
  obtain ⟨o0, ho0⟩ : ∃ o0, tg o W.heap.size 99 = o0 := ⟨_, rfl⟩
  obtain ⟨B8, z8⟩ : ∃ B8, W.heap.size = B8 := ⟨_, rfl⟩
  rw [e0, ho0] at st0 bx0
  rw [z8] at bx0
  have hg1 := hg.step st0 (by simp) (by simp) (by simp)
  have y1 : X.cell? ⟨B8, 1, none⟩ = some (.int .i64 (l : Int)) := bx0.cell 1
  have y2 : X.cell? ⟨B8, 2, none⟩ = some (.int .i64 ((l : Int) + 1)) := bx0.cell 2
  have g2 : X.cell? ⟨g.G, 2, none⟩ = some (.slice (some ⟨g.nd, 0, none⟩) g.M g.ncap) := by rw [← (hg1.hna (by omega)).1]; exact hg1.ob.cell 2
  obtain ⟨n0, n1, n2⟩ := hg1.nc l hl
  have HA := hid (fun q => appendIDs_any o0 (X.drewN q) a cap g.nd l (g.ncap - l) (g.tid l) _ ((h.step st0 (by simp)).step (Step.drewN [] o0 X q) (by simp)) hc n0 n1 n2 hne)
  have HS0 := hid st0
  have Hob := hid (And.intro hg1.ob bx0)
  have b1 : (p : Int) < (g.n : Int) := by omega
  have b2 : (0 : Int) ≤ (l : Int) + 1 := by omega
  have b3 : (l : Int) + 1 ≤ (g.ncap : Int) := by omega
  have b4 : ((l : Int) + 1).toNat = l + 1 := by omega
  have b5 : ¬ g.ncap = l := by omega
  have b6 : (l : Int) ≤ 300 := by omega
  clear hg hg1 h st0 bx0 ho0 hr hf n0 n1 n2
  go_enter Ybaz.func37, Ybaz.ntmps37
  go_wp2
  go_region_held3 (fun w' => w'.cell? ⟨g.G, 2, none⟩ = some (.slice (some ⟨g.nd, 0, none⟩) g.M g.ncap) ∧ w'.cell? ⟨B8, 1, none⟩ = some (.int .i64 (l : Int)) ∧ w'.cell? ⟨B8, 2, none⟩ = some (.int .i64 ((l : Int) + 1))) (first | go_keep | exact ⟨k1, k2, k3⟩ | fail)
    (first | (go_at_call 56; refine (HA.out 1).mono ?_; rintro e w2 ⟨gb, cap', o', rfl, hcm, sl', st'⟩; have sx := (Step.drewN [35] o0 X 1).trans st'; have k1 : w2.cell? ⟨g.G, 2, none⟩ = some (.slice (some ⟨g.nd, 0, none⟩) g.M g.ncap) := ((Hob.out.1.step sx (by simp)).cell 2).trans ((Hob.out.1.cell 2).symm.trans g2); have k2 : w2.cell? ⟨B8, 1, none⟩ = some (.int .i64 (l : Int)) := (Hob.out.2.step sx (by simp)).cell 1; have k3 : w2.cell? ⟨B8, 2, none⟩ = some (.int .i64 ((l : Int) + 1)) := (Hob.out.2.step sx (by simp)).cell 2))
  all_goals
    go_wp2
    refine bodyPost_ret (results_tmp2 rfl _ _ _) rfl ?_
    exact ⟨gb, cap', o', rfl, hcm, sl', (HS0.out.mono (by simp)).trans sx⟩
end Go.Proofs.YbulkbmdoGreat
