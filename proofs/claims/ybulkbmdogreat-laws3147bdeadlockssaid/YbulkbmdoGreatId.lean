import Derived.Test.YbulkbmdoGreatBase
import Derived.Test.YbulkbmdoGreatRows
import Derived.WalkLawsBesides
import Derived.Outline
import Derived.BigQuiet
import Derived.BigRegion
import Derived.Laws.IdiomStrings
namespace Go.Proofs.YbulkbmdoGreat
open Go.RowKit
set_option linter.unusedVariables false

/-- The number of process i. -/
def jof (seed i : Nat) : Nat := (i * 37 + seed) % 676
/-- Its two letters. -/
def idb (j : Nat) : ByteArray := ⟨#[UInt8.ofNat (97 + j / 26), UInt8.ofNat (97 + j % 26)]⟩

set_option maxRecDepth 100000 in
set_option maxHeartbeats 2000000 in
theorem id_any (o : Nat → Nat) (W : World) (i seed : Nat) (hi : i ≤ 300) (hs : seed < 65536) :
    Calls Ybaz.prog 4 #[.int .i64 (i : Int), .int .u16 (seed : Int)] W fun e w' => e = .returned (.tuple #[.int .i64 (jof seed i : Int), .string (idb (jof seed i))]) ∧ ∃ o', Step [] o W o' w' := by
  have hj : jof seed i < 676 := Nat.mod_lt _ (by omega)
  have e1 : Int.tmod ((i : Int) * 37 + (seed : Int)) 676 = (jof seed i : Int) := by
    unfold jof
    rw [Int.tmod_eq_emod_of_nonneg (by omega)]; omega
  have w1 : IntKind.i64.wrap ((i : Int) * 37) = (i : Int) * 37 := by rw [IntKind.wrap_i64]; omega
  have w2 : IntKind.i64.wrap ((i : Int) * 37 + (seed : Int)) = (i : Int) * 37 + (seed : Int) := by rw [IntKind.wrap_i64]; omega
  obtain ⟨j, hje⟩ : ∃ j, jof seed i = j := ⟨_, rfl⟩
  rw [hje] at e1 hj ⊢
  clear hje
  have q1 : Int.tdiv (j : Int) 26 = ((j / 26 : Nat) : Int) := by rw [Int.tdiv_eq_ediv_of_nonneg (by omega)]; omega
  have q2 : Int.tmod (j : Int) 26 = ((j % 26 : Nat) : Int) := by rw [Int.tmod_eq_emod_of_nonneg (by omega)]; omega
  have hx : j / 26 < 26 := by omega
  have hy : j % 26 < 26 := by omega
  have ex : idb j = ⟨#[UInt8.ofNat (97 + j / 26), UInt8.ofNat (97 + j % 26)]⟩ := rfl
  rw [ex]
  clear ex
  obtain ⟨x, hxe⟩ : ∃ x, j / 26 = x := ⟨_, rfl⟩
  obtain ⟨y, hye⟩ : ∃ y, j % 26 = y := ⟨_, rfl⟩
  rw [hxe] at q1 hx ⊢
  rw [hye] at q2 hy ⊢
  clear hxe hye
  have ob := Ob.new o W 99 5 #[.int .u8 (97 + (x : Int)), .int .u8 (97 + (y : Int))]
  have tx : (UInt8.ofNat (97 + x)).toNat = 97 + x := by simp; omega
  have ty : (UInt8.ofNat (97 + y)).toNat = 97 + y := by simp; omega
  have hcv : (convert 49 9 (.slice (some ⟨W.heap.size, 0, none⟩) 2 2)).run Ybaz.prog (W.alloc (.cells #[.int .u8 (97 + (x : Int)), .int .u8 (97 + (y : Int))] 5)).drew = .ok (.string ⟨#[UInt8.ofNat (97 + x), UInt8.ofNat (97 + y)]⟩) (W.alloc (.cells #[.int .u8 (97 + (x : Int)), .int .u8 (97 + (y : Int))] 5)).drew :=
    run_convert_bytes_back (P := Ybaz.prog) (W.alloc (.cells #[.int .u8 (97 + (x : Int)), .int .u8 (97 + (y : Int))] 5)).drew 49 9 5 ⟨W.heap.size, 0, none⟩ 2 [UInt8.ofNat (97 + x), UInt8.ofNat (97 + y)] Ybaz.underlying49 Ybaz.underlying5 Ybaz.underlying9 (by
      intro q hq
      have hq2 : q = 0 ∨ q = 1 := by simp at hq; omega
      rcases hq2 with rfl | rfl
      · refine (ob.cell 0).trans ?_
        simp only [List.getElem_cons_zero, tx]
        simp
      · refine (ob.cell 1).trans ?_
        simp only [List.getElem_cons_succ, List.getElem_cons_zero, ty]
        simp)
  have st : Step [] o W (tg o W.heap.size 99) (W.alloc (.cells #[.int .u8 (97 + (x : Int)), .int .u8 (97 + (y : Int))] 5)).drew := (Step.alloc [] o W _ 99).trans (Step.drew [] _ _)
  clear ob tx ty
  obtain ⟨bs, hbs⟩ : ∃ bs : ByteArray, ⟨#[UInt8.ofNat (97 + x), UInt8.ofNat (97 + y)]⟩ = bs := ⟨_, rfl⟩
  rw [hbs] at hcv ⊢
  clear hbs
  go_enter Ybaz.func4, Ybaz.ntmps4
  go_wp2
  go_region
  all_goals
    go_wp2
    refine bodyPost_ret (results_tmp2 rfl _ _ _) rfl ?_
    exact ⟨rfl, _, st⟩
end Go.Proofs.YbulkbmdoGreat
