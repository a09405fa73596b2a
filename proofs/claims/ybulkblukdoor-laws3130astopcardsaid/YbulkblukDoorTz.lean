import Derived.Test.YbulkblukDoorRows
import Derived.Test.YbulkblukDoorBits
import Derived.WalkKit
import Derived.ProofKit
import Derived.WalkLawsBesides
import Derived.Outline
import Derived.Laws.Bits64
namespace Go.Proofs.YbulkblukDoor
open Go.RowKit

/-- The library's table lies where Go's initialiser lays it. -/
def TabAt (w : World) : Prop := ∀ i, i < 64 → w.cell? ⟨0, i, none⟩ = some (.int .u8 (Bt.tab.getD i 0))

theorem and_u64 (a b : Nat) (ha : a < 18446744073709551616) (hb : b < 18446744073709551616) : bits .and .u64 (a : Int) (b : Int) = ((a &&& b : Nat) : Int) := by
  have hx : a &&& b < 2 ^ 64 := Nat.and_lt_two_pow _ (by omega)
  have h1 : (BitVec.ofInt 64 (a : Int)).toNat = a := by
    rw [BitVec.ofInt_natCast, BitVec.toNat_ofNat]; exact Nat.mod_eq_of_lt (by omega)
  have h2 : (BitVec.ofInt 64 (b : Int)).toNat = b := by
    rw [BitVec.ofInt_natCast, BitVec.toNat_ofNat]; exact Nat.mod_eq_of_lt (by omega)
  show IntKind.u64.wrap ((BitVec.ofInt 64 (a : Int) &&& BitVec.ofInt 64 (b : Int)).toNat : Int) = _
  rw [BitVec.toNat_and, h1, h2, IntKind.wrap_u64]
  omega

theorem tz_index (x : Nat) (h0 : x ≠ 0) (hx : x < 18446744073709551616) :
    ∃ k : Nat, k < 64 ∧ IntKind.u64.wrap (bits BinOp.and IntKind.u64 (x : Int) (IntKind.u64.wrap (-(x : Int))) * 285870213051353865) / 288230376151711744 = (k : Int) ∧ Bt.tab.getD k 0 = (Bt.tz x : Int) := by
  have e1 : IntKind.u64.wrap (-(x : Int)) = ((18446744073709551616 - x : Nat) : Int) := by rw [IntKind.wrap_u64]; omega
  have e2 := and_u64 x (18446744073709551616 - x) hx (by omega)
  have e3 : x &&& (18446744073709551616 - x) = 2 ^ Bt.tz x := Bt.and_neg_tz x h0 hx
  have e4 := Bt.tab_at (Bt.tz x) (Bt.tz_lt x h0 hx)
  refine ⟨2 ^ Bt.tz x * 285870213051353865 % 18446744073709551616 / 288230376151711744, ?_, ?_, e4⟩
  · omega
  · rw [e1, e2, e3, IntKind.wrap_u64]
    generalize 2 ^ Bt.tz x = p
    omega

theorem tz_any (x : Nat) (h0 : x ≠ 0) (hx : x < 18446744073709551616) (w : World) (hT : TabAt w) :
    Calls Ybad.prog 12 #[.int .u64 (x : Int)] w fun e w' => e = .returned (.int .i64 (Bt.tz x : Int)) ∧ w' = w := by
  have h1 : ((x : Int) == 0) = false := by simp; omega
  obtain ⟨k, hk, hke, hkt⟩ := tz_index x h0 hx
  have hc := hT k hk
  rw [hkt] at hc
  have hz := Bt.tz_lt x h0 hx
  clear hkt hT
  go_enter Ybad.func12, Ybad.ntmps12
  go_wp2
  go_ret
  exact ⟨rfl, rfl⟩
end Go.Proofs.YbulkblukDoor
