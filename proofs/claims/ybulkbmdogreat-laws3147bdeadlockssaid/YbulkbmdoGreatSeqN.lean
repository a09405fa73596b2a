import Derived.Test.YbulkbmdoGreatLists
namespace Go.Proofs.YbulkbmdoGreat
open Go.RowKit Go.Shelf
set_option linter.unusedVariables false
attribute [local go_sem] Oper.semAt_some

/-- What the cell of a leaf's target holds. -/
def tv : Option Nat → Int
  | none => -1
  | some p => (p : Int)
/-- The pairs (process named, leaf), in the order of the leaves. -/
def prs (tgt : Nat → Option Nat) (M : Nat) : List (Nat × Nat) := (List.range M).filterMap fun i => (tgt i).map fun p => (p, i)
theorem prs_succ (tgt : Nat → Option Nat) (k : Nat) : prs tgt (k + 1) = prs tgt k ++ ((tgt k).map fun p => (p, k)).toList := by
  unfold prs
  rw [List.range_succ, List.filterMap_append]
  cases h : tgt k <;> simp [h]
theorem prs_pref (tgt : Nat → Option Nat) {k M : Nat} (h : k ≤ M) : prs tgt k <+: prs tgt M := by
  induction h with
  | refl => exact List.prefix_rfl
  | step _ ih => exact ih.trans (by rw [prs_succ]; exact List.prefix_append _ _)
theorem prs_len (tgt : Nat → Option Nat) (M : Nat) : (prs tgt M).length ≤ M := by
  induction M with
  | zero => simp [prs]
  | succ M ih => rw [prs_succ]; cases tgt M <;> simp <;> omega
theorem prs_mem {tgt : Nat → Option Nat} {M : Nat} {x : Nat × Nat} (h : x ∈ prs tgt M) : x.2 < M ∧ tgt x.2 = some x.1 := by
  unfold prs at h
  rw [List.mem_filterMap] at h
  obtain ⟨i, hi, h2⟩ := h
  cases ht : tgt i with
  | none => simp [ht] at h2
  | some p => simp [ht] at h2; subst h2; simpa [ht] using hi

theorem grownBy_drew (W : World) : W.grownBy W.drew none := ⟨rfl, rfl, rfl, Nat.le_refl _, fun _ _ _ => rfl⟩

set_option maxRecDepth 100000 in
set_option maxHeartbeats 2000000 in
theorem namers1_in (n l Bx R tb M B0 : Nat) (hM : M ≤ 300) (tgt : Nat → Option Nat) (htg : ∀ i p, tgt i = some p → p ≤ 300) (J : List (Nat × Nat) → World → Prop)
    (w : World) (hB : B0 ≤ w.heap.size) (hBx : Bx < B0) (hR : R < B0) (htb : tb < B0)
    (c0 : w.cell? ⟨Bx, 0, none⟩ = some (.pointer (some ⟨R, 0, none⟩))) (c1 : w.cell? ⟨R, 2, none⟩ = some (.slice (some ⟨tb, 0, none⟩) M M)) (c2 : ∀ i, i < M → w.cell? ⟨tb, i, none⟩ = some (.int .i64 (tv (tgt i))))
    (hY : ∀ pre x W1, J pre W1 → pre ++ [x] <+: prs tgt M → YieldAt Fence.wide (n - 1) Ybaz.prog l #[.int .i64 (x.1 : Int), .int .i64 (x.2 : Int)] W1 fun e W' => e = .returned (.bool true) ∧ J (pre ++ [x]) W' ∧ Below B0 W1 W')
    (W : World) (hW : Below B0 w W) (h0 : J [] W) :
    CallsIn Fence.wide n Ybaz.prog 24 #[.func (.yield l) #[] #[], .pointer (some ⟨Bx, 0, none⟩)] W fun e W' => (∃ v, e = .returned v) ∧ J (prs tgt M) W' := by
  refine callsIn_of_wp Ybaz.func24 rfl trivial ?_ rfl
  simp only [Ybaz.ntmps24, List.size_toArray, List.length_cons, List.length_nil, Nat.reduceAdd, Nat.reduceSub, Array.replicate_succ, Array.replicate_zero, List.push_toArray, List.append_toArray, List.nil_append, List.cons_append]
  have d0 : W.cell? ⟨Bx, 0, none⟩ = some (.pointer (some ⟨R, 0, none⟩)) := (World.cell?_of_block (w := w) (hW.block Bx hBx)).trans c0
  have d1 : W.cell? ⟨R, 2, none⟩ = some (.slice (some ⟨tb, 0, none⟩) M M) := (World.cell?_of_block (w := w) (hW.block R hR)).trans c1
  gi_wp2
  clear d0 d1
  gi_loopw [10] (fun i wr => ∃ k : Nat, k ≤ M ∧ i = .int .i64 k ∧ J (prs tgt k) wr ∧ Below B0 w wr) (fun i _ => M - (intOf i).toNat)
  case atStart => exact ⟨0, Nat.zero_le _, rfl, h0, hW⟩
  case round =>
    obtain ⟨k, hk, rfl, hJ, hB1⟩ := hrel
    by_cases hlt : k < M
    · have hc := (World.cell?_of_block (w := w) (a := ⟨tb, k, none⟩) (hB1.block tb htb)).trans (c2 k hlt)
      have hb1 : (k : Int) < (M : Int) := by omega
      have HJ := hid hJ
      have HB := hid hB1
      clear hJ hB1
      cases ht : tgt k with
      | none =>
        rw [ht] at hc
        have hc' : wr.cell? ⟨tb, k, none⟩ = some (.int .i64 (-1)) := hc
        clear hc
        gi_wp2
        refine ⟨fun f hf => (by cases hf), ?_⟩
        gi_wp2
        go_roundw
        case rel => exact ⟨k + 1, by omega, by go_num, by rw [prs_succ, ht]; simpa using HJ.out, HB.out⟩
        case measure => simp [intOf]; omega
      | some p =>
        rw [ht] at hc
        have hc' : wr.cell? ⟨tb, k, none⟩ = some (.int .i64 (p : Int)) := hc
        clear hc
        have hpre : prs tgt k ++ [(p, k)] <+: prs tgt M := by
          have := prs_pref tgt (show k + 1 ≤ M from hlt)
          rw [prs_succ, ht] at this
          simpa using this
        obtain ⟨fn, tmps, assign, body, hy, hR⟩ := hY _ (p, k) wr HJ.out hpre
        have hR2 : RoundIn Fence.wide (n - 1) Ybaz.prog l fn tmps assign body wr fun e W' => e = .returned (.bool true) ∧ Hid (J (prs tgt k ++ [(p, k)]) W' ∧ Below B0 wr W') := hR
        clear hR
        gi_wp2_with fail
        refine ⟨fun h => (by cases h), hR2.mono ?_⟩
        rintro e W3 ⟨rfl, h3⟩
        gi_wp2
        go_roundw
        case rel => exact ⟨k + 1, by omega, by go_num, by rw [prs_succ, ht]; simpa using h3.out.1, HB.out.trans h3.out.2⟩
        case measure => simp [intOf]; omega
    · obtain rfl : k = M := by omega
      gi_wp2
      go_end0
      exact ⟨⟨_, rfl⟩, hJ⟩

/-- The leaves' iterator hands out the pairs. -/
theorem namers1_seq (n Bx R tb M B0 : Nat) (hM : M ≤ 300) (tgt : Nat → Option Nat) (htg : ∀ i p, tgt i = some p → p ≤ 300)
    (w : World) (hB : B0 ≤ w.heap.size) (hBx : Bx < B0) (hR : R < B0) (htb : tb < B0)
    (c0 : w.cell? ⟨Bx, 0, none⟩ = some (.pointer (some ⟨R, 0, none⟩))) (c1 : w.cell? ⟨R, 2, none⟩ = some (.slice (some ⟨tb, 0, none⟩) M M)) (c2 : ∀ i, i < M → w.cell? ⟨tb, i, none⟩ = some (.int .i64 (tv (tgt i)))) :
    ∀ W, Below B0 w W → SeqL n Ybaz.prog 24 #[.pointer (some ⟨Bx, 0, none⟩)] (fun x : Nat × Nat => #[Value.int .i64 (x.1 : Int), Value.int .i64 (x.2 : Int)]) (Below B0) (prs tgt M) W := by
  intro W0 hW0 l J W hW hJ hY h0
  exact namers1_in n l Bx R tb M B0 hM tgt htg J w hB hBx hR htb c0 c1 c2 hY W (hW0.trans (hW.mono (Nat.le_trans hB hW0.size))) h0
end Go.Proofs.YbulkbmdoGreat
