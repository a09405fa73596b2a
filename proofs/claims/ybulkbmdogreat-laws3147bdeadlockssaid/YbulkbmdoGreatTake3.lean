import Derived.Test.YbulkbmdoGreatTake2
import Derived.Lib.AppendZerosOnto
namespace Go.Proofs.YbulkbmdoGreat
open Go.RowKit Go.Shelf
set_option linter.unusedVariables false

set_option maxHeartbeats 1000000 in
/-- take$3: count[j] += shares[i]. -/
theorem count_any (o : Nat → Nat) (W : World) (B9 B10 B11 ctb N ccap shb scap : Nat) (f h : Nat → Int) (c9 : W.cell? ⟨B9, 0, none⟩ = some (.slice (some ⟨ctb, 0, none⟩) N ccap)) (c10 : W.cell? ⟨B10, 0, none⟩ = some (.slice (some ⟨shb, 0, none⟩) N scap)) (i : Nat) (c11 : W.cell? ⟨B11, 0, none⟩ = some (.int .i64 (i : Int)))
    (hct : Arr W ctb N f) (tct : o ctb = 33) (hsh : Arr W shb N h) (hN : N ≤ 300) (hi : i < N) (j : Nat) (hj : j < N) (hf : 0 ≤ f j ∧ f j ≤ 1000) (hh : 0 ≤ h i ∧ h i ≤ 1000) :
    Calls Ybaz.prog 95 (#[.int .i64 (j : Int)] ++ #[.pointer (some ⟨B9, 0, none⟩), .pointer (some ⟨B10, 0, none⟩), .pointer (some ⟨B11, 0, none⟩)]) W fun e w' => (∃ r, e = .returned r) ∧ Arr w' ctb N (fun q => if q = j then f j + h i else f q) ∧ Step [33] o W o w' := by
  show Calls Ybaz.prog 95 #[.int .i64 (j : Int), .pointer (some ⟨B9, 0, none⟩), .pointer (some ⟨B10, 0, none⟩), .pointer (some ⟨B11, 0, none⟩)] W _
  have cj := hct.cell j hj
  have fj := hct.frozen j
  have ci := hsh.cell i hi
  have b1 : (j : Int) < (N : Int) := by omega
  have b2 : (i : Int) < (N : Int) := by omega
  have hw : IntKind.i64.wrap (f j + h i) = f j + h i := by rw [IntKind.wrap_i64]; omega
  have s1 : Step [33] o W o (W.setCell ⟨ctb, j, none⟩ (.int .i64 (f j + h i))) := Step.setCell W (by simp [tct]) _
  have HF := hid (And.intro (hct.set j (f j + h i)) (s1.trans (Step.drew [33] o _)))
  clear s1 hct hsh
  go_enter Ybaz.func95, Ybaz.ntmps95
  go_wp2
  go_region
  all_goals
    go_wp2
    go_end0
    exact ⟨⟨_, rfl⟩, HF.out.1.kept rfl, HF.out.2⟩

set_option maxHeartbeats 1000000 in
/-- take$5: q.add(j, d). -/
theorem qadd_any (W : World) (S B13 Bd : Nat) (c1 : W.cell? ⟨B13, 0, none⟩ = some (.pointer (some ⟨S, 16, none⟩))) (d : Int) (c2 : W.cell? ⟨Bd, 0, none⟩ = some (.int .i64 d)) (j : Nat) (Q : World → Prop)
    (hc : Calls Ybaz.prog 101 #[.pointer (some ⟨S, 16, none⟩), .int .i64 (j : Int), .int .i64 d] W fun e w' => (∃ r, e = .returned r) ∧ Q w') :
    Calls Ybaz.prog 100 (#[.int .i64 (j : Int)] ++ #[.pointer (some ⟨B13, 0, none⟩), .pointer (some ⟨Bd, 0, none⟩)]) W fun e w' => (∃ r, e = .returned r) ∧ Q w' := by
  show Calls Ybaz.prog 100 #[.int .i64 (j : Int), .pointer (some ⟨B13, 0, none⟩), .pointer (some ⟨Bd, 0, none⟩)] W _
  have HC := hid hc
  clear hc
  go_enter Ybaz.func100, Ybaz.ntmps100
  go_wp2_with (go_at_call 101; refine HC.out.mono ?_; rintro e w1 ⟨⟨r, rfl⟩, hQ⟩)
  go_end0
  exact ⟨⟨_, rfl⟩, hQ⟩
end Go.Proofs.YbulkbmdoGreat
