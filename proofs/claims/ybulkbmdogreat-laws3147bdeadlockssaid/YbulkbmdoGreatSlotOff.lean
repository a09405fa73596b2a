import Derived.Test.YbulkbmdoGreatRollD
namespace Go.Proofs.YbulkbmdoGreat
open Go.RowKit Go.Shelf
set_option linter.unusedVariables false

set_option maxRecDepth 100000 in
set_option maxHeartbeats 2000000 in
/-- resolve$1, deferred: the candidates' slots are taken back. -/
theorem slots_off (o : Nat → Nat) (W : World) (R S Bs : Nat) (g : GS) (v : VSt) (cs : List Nat) (sl : Nat → Int) (sb : Nat) (hS : SAt o W S v g R cs sl sb) (hB : W.cell? ⟨Bs, 0, none⟩ = some (.pointer (some ⟨S, 0, none⟩))) (tB : o Bs = 99) (hcs : ∀ q ∈ cs, q < g.n) (hc0 : 0 < cs.length) (hcl : cs.length ≤ 300) (hn : g.n ≤ 300) (u : FrameMode) :
    CallsD Ybaz.prog 36 #[.pointer (some ⟨Bs, 0, none⟩)] u W fun e u' w' => u' = u ∧ (∃ r, e = .returned r) ∧ SAt o w' S v g R cs (fun q => if q ∈ cs then -1 else sl q) sb ∧ Step [27] o W o w' := by
  refine callsD_of_wp Ybaz.func36 rfl ?_
  simp only [Ybaz.ntmps36, List.size_toArray, List.length_cons, List.length_nil, Nat.reduceAdd, Nat.reduceSub, Array.replicate_succ, Array.replicate_zero, List.push_toArray, List.append_toArray, List.nil_append, List.cons_append]
  obtain ⟨cb, cap, hcv, hc1, hc2, htc, hltc⟩ := hS.cands.some_of (by rw [ints_length]; exact hc0)
  rw [ints_length] at hcv hc1
  have x7 : W.cell? ⟨S, 7, none⟩ = some (.slice (some ⟨cb, 0, none⟩) cs.length cap) := by rw [← hcv]; exact hS.ob.cell 7
  have HS := hid hS
  clear hS
  go_wp2
  go_loopw [8] (fun j wr => ∃ k : Nat, k ≤ cs.length ∧ j = .int .i64 (k : Int) ∧ SAt o wr S v g R cs (fun q => if q ∈ cs.take k then -1 else sl q) sb ∧ Step [27] o W o wr) (fun j _ => cs.length - (intOf j).toNat)
  case atStart => exact ⟨0, Nat.zero_le _, rfl, by simpa using HS.out, Step.refl _ _ _⟩
  case round =>
    obtain ⟨k, hk, rfl, T1, st⟩ := hrel
    by_cases hlt : k < cs.length
    · have hpn := hcs _ (List.getElem_mem hlt)
      have y1 : wr.cell? ⟨cb, k, none⟩ = some (.int .i64 (cs[k] : Int)) := by
        have hh := T1.cands
        rw [hcv] at hh
        have e := ints_length cs
        rw [← e] at hh
        rw [hh.cell k (by rw [ints_length]; exact hlt)]
        simp [ints]
      have y2 : wr.cell? ⟨Bs, 0, none⟩ = some (.pointer (some ⟨S, 0, none⟩)) := (st.cell (p := ⟨Bs, 0, none⟩) (World.block_lt_of_cell? _ _ hB) (by simp [tB])).trans hB
      have y3 : wr.cell? ⟨S, 8, none⟩ = some (.slice (some ⟨sb, 0, none⟩) g.n g.n) := by rw [← T1.hslot]; exact T1.ob.cell 8
      have y4 := T1.slot.cell cs[k] hpn
      have y5 := T1.slot.frozen cs[k]
      have s1 := T1.slot.sset cs[k] (.int .i64 (-1)) (T := [27]) (by simp)
      have T2 : SAt o (wr.setCell ⟨sb, cs[k], none⟩ (.int .i64 (-1))) S v g R cs (fun q => if q ∈ cs.take (k + 1) then -1 else sl q) sb := by
        refine ⟨T1.ob.step s1 (by simp), T1.hG, T1.hR, T1.cands.step s1 (by simp), T1.hslot, (T1.slot.set cs[k] (.int .i64 (-1))).congr fun q _ => ?_⟩
        have et : cs.take (k + 1) = cs.take k ++ [cs[k]] := by rw [List.take_add_one]; simp [List.getElem?_eq_getElem hlt]
        by_cases e : q = cs[k]
        · rw [if_pos e, if_pos (show q ∈ cs.take (k + 1) by rw [et, e]; exact List.mem_append.2 (.inr (List.mem_singleton.2 rfl)))]
        · simp only [e, if_false, et, List.mem_append, List.mem_singleton, or_false]
      have HT := hid T2
      have HST := hid (st.trans s1)
      clear T1 T2 s1 st
      have b1 : (k : Int) < (cs.length : Int) := by omega
      have b2 : (cs[k] : Int) < (g.n : Int) := by omega
      go_wp2
      go_roundw
      case rel => exact ⟨k + 1, by omega, by go_num, HT.out, HST.out⟩
      case measure => simp [intOf]; omega
    · obtain rfl : k = cs.length := by omega
      have HT := hid T1
      clear T1
      go_wp2
      go_end0
      have := HT.out
      rw [List.take_length] at this
      exact ⟨⟨_, rfl⟩, this, st⟩
end Go.Proofs.YbulkbmdoGreat
