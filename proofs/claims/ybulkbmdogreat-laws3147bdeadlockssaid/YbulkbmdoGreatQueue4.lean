import Derived.Test.YbulkbmdoGreatQueue3
namespace Go.Proofs.YbulkbmdoGreat
open Go.RowKit Go.Shelf
set_option linter.unusedVariables false

theorem QAt.zero {o : Nat → Nat} {W : World} {qbv : Value} {n : Nat} {bl : Nat → List Nat} (h : QAt o W qbv n bl) : ∃ a cap, qbv = .slice a n cap ∧ cap ≤ 9223372036854775807 ∧ QAt o W (.slice a 0 cap) 0 bl := by
  rcases h with ⟨rfl, rfl⟩ | ⟨qb, cap, cur, bv, rfl, h3, h4, h5⟩
  · exact ⟨none, 0, rfl, by omega, .inl ⟨rfl, rfl⟩⟩
  · exact ⟨_, cap, rfl, by unfold maxLen at h4; omega, .inr ⟨qb, cap, cur, bv, rfl, Nat.zero_le _, h4, h5⟩⟩

set_option maxRecDepth 100000 in
set_option maxHeartbeats 4000000 in
/-- q.reset(count): every slot is queued with its count. -/
theorem reset_any (o : Nat → Nat) (W : World) (S : Nat) (v : VSt) (ob : Ob o W 20 S 63 (vcells v)) (ctb N ccap : Nat) (fn : Nat → Nat) (hct : Arr W ctb N (fun j => (fn j : Int))) (tct : o ctb = 33) (hsz : SZ W ctb ccap) (n00 : Nat) (bl0 : Nat → List Nat) (hq : QAt o W v.qb n00 bl0) (hN : N ≤ 300) (hN0 : 0 < N) (hf : ∀ i, i < N → fn i ≤ 2) :
    Calls Ybaz.prog 96 #[.pointer (some ⟨S, 16, none⟩), .slice (some ⟨ctb, 0, none⟩) N ccap] W fun e w' => (∃ r, e = .returned r) ∧
      ∃ o' qbv n0 bl top, TQ o' w' S { v with qc := .slice (some ⟨ctb, 0, none⟩) N ccap, qb := qbv, qt := .int .i64 top } ctb N ccap (fun j => (fn j : Int)) n0 bl top ∧ n0 ≤ 3 ∧ 0 ≤ top ∧ top < (n0 : Int) ∧ (∀ j, j < n0 → ∀ i ∈ bl j, i < N) ∧ (∀ j, j < n0 → (bl j).length ≤ N) ∧ (∀ i, i < N → fn i < n0 ∧ (fn i : Int) ≤ top ∧ i ∈ bl (fn i)) ∧ Step [20, 36, 100, 101, 102] o W o' w' := by
  obtain ⟨a, cap, hqv, hcap, q0⟩ := hq.zero
  have c17 : W.cell? ⟨S, 17, none⟩ = some (.slice a n00 cap) := by rw [← hqv]; exact ob.cell 17
  have f16 := ob.frozen 16
  have f17 := ob.frozen 17
  have f18 := ob.frozen 18
  have c16 : W.cell? ⟨S, 16, none⟩ = some v.qc := ob.cell 16
  have c18 : W.cell? ⟨S, 18, none⟩ = some v.qt := ob.cell 18
  have ob1 := ob.set 16 (.slice (some ⟨ctb, 0, none⟩) N ccap)
  have s1 := ob.sset 16 (.slice (some ⟨ctb, 0, none⟩) N ccap) (T := [20]) (by simp)
  have s2 := s1.trans (ob1.sset 18 (.int .i64 0) (T := [20]) (by simp))
  have ob2 := ob1.set 18 (.int .i64 0)
  have s3 := s2.trans (ob2.sset 17 (.slice a 0 cap) (T := [20]) (by simp))
  have ob3 := ob2.set 17 (.slice a 0 cap)
  have s4 := s3.trans (Step.drew [20] o _)
  have ob4 := ob3.step (Step.drew [] o _) (by simp)
  obtain ⟨W4, hW4⟩ : ∃ W4, (((W.setCell ⟨S, 16, none⟩ (.slice (some ⟨ctb, 0, none⟩) N ccap)).setCell ⟨S, 18, none⟩ (.int .i64 0)).setCell ⟨S, 17, none⟩ (.slice a 0 cap)).drew = W4 := ⟨_, rfl⟩
  rw [hW4] at s4 ob4
  have T4 : TQ o W4 S { v with qc := .slice (some ⟨ctb, 0, none⟩) N ccap, qb := .slice a 0 cap, qt := .int .i64 0 } ctb N ccap (fun j => (fn j : Int)) 0 bl0 0 :=
    ⟨ob4, rfl, hct.kept (s4.block _ hct.lt (by rw [tct]; simp)), tct, q0.step s4 (by simp) (by simp; omega), rfl, hsz.kept (s4.block _ hct.lt (by rw [tct]; simp))⟩
  have HT := hid T4
  have HS := hid s4
  clear ob1 s1 s2 ob2 s3 ob3 s4 ob4 T4 ob q0 hq hct hqv
  go_enter Ybaz.func96, Ybaz.ntmps96
  go_wp2
  go_region
  all_goals
    clear hW4 c17 f16 f17 f18 c16 c18
    go_wp2
    go_loopw [4] (fun q wr => ∃ k : Nat, k ≤ N ∧ q = .int .i64 ((N : Int) - 1 - (k : Int)) ∧ ∃ o1 qbv n0 bl top, TQ o1 wr S { v with qc := .slice (some ⟨ctb, 0, none⟩) N ccap, qb := qbv, qt := .int .i64 top } ctb N ccap (fun j => (fn j : Int)) n0 bl top ∧ n0 ≤ 3 ∧ 0 ≤ top ∧ top ≤ 2 ∧ ((k = 0 → top = 0) ∧ (0 < k → top < (n0 : Int))) ∧ (∀ j, j < n0 → ∀ i ∈ bl j, i < N) ∧ (∀ j, j < n0 → (bl j).length ≤ k) ∧ (∀ i, N - k ≤ i → i < N → fn i < n0 ∧ (fn i : Int) ≤ top ∧ i ∈ bl (fn i)) ∧ Step [20, 36, 100, 101, 102] o W o1 wr) (fun q _ => (intOf q + 1).toNat)
    case atStart => exact ⟨0, Nat.zero_le _, by simp, o, _, 0, bl0, 0, HT.out, by omega, by omega, by omega, by omega, by omega, by omega, by omega, HS.out.mono (by simp)⟩
    case round =>
      obtain ⟨k, hk, rfl, o1, qbv, n0, bl, top, T1, h1, h2, h3, h4, h5, h6, h7, st⟩ := hrel
      by_cases hlt : k < N
      · have b1 : (0 : Int) ≤ (N : Int) - 1 - (k : Int) := by omega
        have e1 : ((N - 1 - k : Nat) : Int) = (N : Int) - 1 - (k : Int) := by omega
        have hfi := hf (N - 1 - k) (by omega)
        have HC := hid (queue_tq o1 wr S _ ctb N ccap _ n0 bl top T1 (by omega) (by omega) hN (N - 1 - k) (by omega) (fn (N - 1 - k)) rfl hfi (by omega) (fun j hj => by have := h6 j hj; omega))
        rw [e1] at HC
        have Hst := hid st
        clear T1 st
        go_wp2_with (go_at_call 116; refine HC.out.mono ?_; rintro e w1 ⟨⟨r, rfl⟩, o2, qbv2, bl2, T2, hb2, st2⟩)
        go_roundw
        case rel =>
          refine ⟨k + 1, by omega, by go_num, o2, qbv2, _, bl2, _, T2, by omega, by omega, by omega, ⟨fun h => by omega, fun _ => by omega⟩, fun j hj i hi => ?_, fun j hj => ?_, fun i hi1 hi2 => ?_, Hst.out.trans st2⟩
          · rw [hb2 j hj] at hi
            rcases List.mem_append.1 hi with h8 | h8
            · split at h8
              · rename_i hjn; exact h5 j hjn i h8
              · simp at h8
            · split at h8
              · simp at h8; omega
              · simp at h8
          · rw [hb2 j hj, List.length_append]
            have hl1 : (if j < n0 then bl j else []).length ≤ k := by
              split
              · exact h6 j (by assumption)
              · simp
            have hl2 : (if j = fn (N - 1 - k) then [N - 1 - k] else []).length ≤ 1 := by split <;> simp
            omega
          · by_cases e : i = N - 1 - k
            · subst e
              refine ⟨by omega, by omega, ?_⟩
              rw [hb2 _ (by omega)]; simp
            · obtain ⟨g1, g2, g3⟩ := h7 i (by omega) hi2
              refine ⟨by omega, by omega, ?_⟩
              rw [hb2 _ (by omega)]; simp [g1, g3]
        case measure => simp [intOf]; omega
      · obtain rfl : k = N := by omega
        have b1 : ¬ (0 : Int) ≤ (k : Int) - 1 - (k : Int) := by omega
        have HF := hid T1
        clear T1
        go_wp2
        go_end0
        exact ⟨⟨_, rfl⟩, o1, qbv, n0, bl, top, HF.out, h1, h2, h4.2 hN0, h5, h6, fun i hi => h7 i (by omega) hi, st⟩
end Go.Proofs.YbulkbmdoGreat
