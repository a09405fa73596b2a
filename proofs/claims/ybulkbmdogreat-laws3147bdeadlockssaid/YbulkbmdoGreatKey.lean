import Derived.Test.YbulkbmdoGreatId
import Derived.Laws.Bits64
namespace Go.Proofs.YbulkbmdoGreat
open Go.RowKit
set_option linter.unusedVariables false

theorem hid' {p : Prop} (h : p) : Hid p := h
/-- The key of two bytes x, y behind k rounds. -/
def kv (x y : Nat) : Nat → Nat
  | 0 => 0
  | 1 => x
  | k + 2 => (x * 256 + y) * 256 ^ k

theorem or_u64 (a b : Nat) (ha : a < 72057594037927936) (hb : b < 256) : bits .or .u64 (IntKind.u64.wrap ((a : Int) * 256)) (IntKind.u64.wrap (b : Int)) = ((a * 256 + b : Nat) : Int) := by
  have e1 : IntKind.u64.wrap ((a : Int) * 256) = ((a * 256 : Nat) : Int) := by rw [IntKind.wrap_u64]; omega
  have e2 : IntKind.u64.wrap (b : Int) = (b : Int) := by rw [IntKind.wrap_u64]; omega
  rw [e1, e2]
  have h1 : (BitVec.ofInt 64 ((a * 256 : Nat) : Int)).toNat = a * 256 := by
    rw [BitVec.ofInt_natCast, BitVec.toNat_ofNat]; exact Nat.mod_eq_of_lt (by omega)
  have h2 : (BitVec.ofInt 64 (b : Int)).toNat = b := by
    rw [BitVec.ofInt_natCast, BitVec.toNat_ofNat]; exact Nat.mod_eq_of_lt (by omega)
  have h3 : a * 256 ||| b = a * 256 + b := by
    have := Nat.shiftLeft_add_eq_or_of_lt (i := 8) (b := b) (by omega) a
    rw [Nat.shiftLeft_eq] at this
    exact this.symm
  show IntKind.u64.wrap ((BitVec.ofInt 64 ((a * 256 : Nat) : Int) ||| BitVec.ofInt 64 (b : Int)).toNat : Int) = _
  rw [BitVec.toNat_or, h1, h2, h3, IntKind.wrap_u64]
  omega

set_option maxRecDepth 100000 in
set_option maxHeartbeats 2000000 in
theorem key_any (x y : UInt8) (W : World) :
    Calls Ybaz.prog 12 #[.string ⟨#[x, y]⟩] W fun e w' => e = .returned (.int .u64 (kv x.toNat y.toNat 8 : Int)) ∧ w' = W := by
  have hx := x.toNat_lt
  have hy := y.toNat_lt
  go_enter Ybaz.func12, Ybaz.ntmps12
  go_wp2
  go_loopw [3, 5] (fun a q wr => ∃ k : Nat, k ≤ 8 ∧ q = .int .i64 (k : Int) ∧ a = .int .u64 (kv x.toNat y.toNat k : Int) ∧ wr = W) (fun _ q _ => 8 - (intOf q).toNat)
  case atStart => exact ⟨0, by omega, rfl, rfl, rfl⟩
  case round =>
    obtain ⟨k, hk, rfl, rfl, rfl⟩ := hrel
    match k with
    | 0 =>
      go_wp2
      go_roundw
      case rel =>
        refine ⟨1, by omega, rfl, ?_, trivial⟩
        have h5 := or_u64 0 x.toNat (by omega) (by omega)
        have h6 : ∀ h, ((⟨#[x, y]⟩ : ByteArray)[0]'h).toNat = x.toNat := fun _ => rfl
        rw [h6]
        simpa [kv] using h5
      case measure => simp [intOf]
    | 1 =>
      go_wp2
      go_roundw
      case rel =>
        refine ⟨2, by omega, rfl, ?_, trivial⟩
        have h5 := or_u64 x.toNat y.toNat (by omega) (by omega)
        have h6 : ∀ h, ((⟨#[x, y]⟩ : ByteArray)[1]'h).toNat = y.toNat := fun _ => rfl
        rw [h6]
        simpa [kv] using h5
      case measure => simp [intOf]
    | k + 2 =>
      by_cases h8 : k + 2 = 8
      · obtain rfl : k = 6 := by omega
        go_wp2
        go_ret
        exact ⟨rfl, rfl⟩
      · have b1 : ((k + 2 : Nat) : Int) < 8 := by omega
        have b2 : ¬ ((k + 2 : Nat) : Int) < 2 := by omega
        have b1' : (k : Int) + 2 < 8 := by omega
        have b2' : ¬ (k : Int) + 2 < 2 := by omega
        have hv : kv x.toNat y.toNat (k + 2) * 256 = kv x.toNat y.toNat (k + 3) := by
          show (x.toNat * 256 + y.toNat) * 256 ^ k * 256 = (x.toNat * 256 + y.toNat) * 256 ^ (k + 1)
          rw [Nat.mul_assoc, Nat.pow_succ]
        have hlt : kv x.toNat y.toNat (k + 3) < 18446744073709551616 := by
          show (x.toNat * 256 + y.toNat) * 256 ^ (k + 1) < _
          have h1 : (256 : Nat) ^ (k + 1) ≤ 256 ^ 6 := Nat.pow_le_pow_right (by omega) (by omega)
          have h2 : (x.toNat * 256 + y.toNat) * 256 ^ (k + 1) ≤ 65535 * 256 ^ 6 := Nat.mul_le_mul (by omega) h1
          have h3 : 65535 * 256 ^ 6 < 18446744073709551616 := by decide
          omega
        obtain ⟨A, hA⟩ : ∃ A, kv x.toNat y.toNat (k + 2) = A := ⟨_, rfl⟩
        obtain ⟨B, hB⟩ : ∃ B, kv x.toNat y.toNat (k + 3) = B := ⟨_, rfl⟩
        rw [hA, hB] at hv
        rw [hB] at hlt
        rw [hA]
        have hw : IntKind.u64.wrap ((A : Int) * 256) = (B : Int) := by rw [IntKind.wrap_u64]; omega
        have HB := hid' hB
        clear hA hB hv
        go_wp2
        go_roundw
        case rel => exact ⟨k + 3, by omega, by go_num, by rw [HB.out], trivial⟩
        case measure => simp [intOf]; omega
end Go.Proofs.YbulkbmdoGreat
