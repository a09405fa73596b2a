import Derived.Test.YbulkblwaRows
import Derived.WalkKit
import Derived.ProofKit
import Derived.OpenShut
import Derived.ShutString
import Derived.WalkLawsBesides
import Derived.Outline
import Derived.Below
namespace Go.Proofs.Ybulkblwa
open Go.RowKit

theorem f_nil (s : ByteArray) (b : Nat) (w : World) :
    Calls Yba.prog 9 #[.string s, .nilIface, .pointer (some ⟨b, 0, none⟩)] w fun e w' => e = .returned (.string s) ∧ w' = w := by
  go_enter Yba.func9, Yba.ntmps9
  go_wp2
  go_ret
  exact ⟨rfl, rfl⟩

theorem f_err (d s : ByteArray) (b : Nat) (p : Option Addr) (w : World) (h : w.cell? ⟨b, 0, none⟩ = some (.string d)) :
    Calls Yba.prog 9 #[.string s, .iface 32 (.pointer p), .pointer (some ⟨b, 0, none⟩)] w fun e w' => e = .returned (.string d) ∧ w' = w := by
  go_enter Yba.func9, Yba.ntmps9
  go_wp2
  go_ret
  exact ⟨rfl, rfl⟩

/-- The first len cells of a slice of strings that came in. -/
def StrAt (w : World) (a : Option Addr) (len : Nat) (ss : Nat → ByteArray) : Prop :=
  len = 0 ∨ ∃ b off, a = some ⟨b, off, none⟩ ∧ ∀ j, j < len → w.cell? ⟨b, off + j, none⟩ = some (.string (ss j))
/-- The first len cells of a slice of bytes that came in. -/
def ByteAt (w : World) (a : Option Addr) (len : Nat) (zs : Nat → Int) : Prop :=
  len = 0 ∨ ∃ b off, a = some ⟨b, off, none⟩ ∧ ∀ j, j < len → w.cell? ⟨b, off + j, none⟩ = some (.int .u8 (zs j)) ∧ 0 ≤ zs j ∧ zs j ≤ 255

set_option maxHeartbeats 1000000 in
theorem seq_many (d : ByteArray) (a : Option Addr) (len cap : Nat) (h1 : (1024 : Int) < (len : Int)) (c : Option Addr) (klen kcap : Nat) (w : World) :
    Calls Yba.prog 4 #[.string d, .slice a len cap, .slice c klen kcap] w fun e w' => e = .returned (.bool true) ∧ Below w.heap.size w w' := by
  go_enter Yba.func4, Yba.ntmps4
  go_wp2
  go_ret
  exact ⟨rfl, Below.refl _ _⟩

set_option maxHeartbeats 2000000 in
theorem seq_few (d : ByteArray) (a : Option Addr) (len cap : Nat) (h1 : (len : Int) ≤ 1024) (c : Option Addr) (klen kcap : Nat) (ss : Nat → ByteArray) (zs : Nat → Int) (w : World)
    (hs : StrAt w a len ss) (hz : ByteAt w c klen zs) :
    Calls Yba.prog 4 #[.string d, .slice a len cap, .slice c klen kcap] w fun e w' => e = .returned (.bool true) ∧ Below w.heap.size w w' := by
  have h1' : ¬ (1024 : Int) < (len : Int) := by omega
  go_enter Yba.func4, Yba.ntmps4
  go_wp2
  go_loopw [21] (fun i wr => ∃ k : Nat, k ≤ len ∧ i = .int .i64 k ∧ Below w.heap.size w wr ∧ w.heap.size < wr.heap.size ∧ wr.cell? ⟨w.heap.size, 0, none⟩ = some (.string d)) (fun i _ => len - (intOf i).toNat)
  case atStart => exact ⟨0, Nat.zero_le _, rfl, (Below.refl _ _).alloc (Nat.le_refl _) _, by simp, by simp⟩
  case round =>
    obtain ⟨k, hk, rfl, hb, hsz, hd⟩ := hrel
    by_cases hlt : k < len
    · obtain ⟨b, off, rfl, hcs⟩ : ∃ b off, a = some ⟨b, off, none⟩ ∧ ∀ j, j < len → w.cell? ⟨b, off + j, none⟩ = some (.string (ss j)) := by
        rcases hs with h | h
        · omega
        · exact h
      have hc0 := hcs k hlt
      have hc1 := (hb.cell (p := ⟨b, off + k, none⟩) (World.block_lt_of_cell? _ _ hc0)).trans hc0
      clear hcs hc0 hs
      by_cases hkk : k < klen
      · obtain ⟨b', off', rfl, hz'⟩ : ∃ b off, c = some ⟨b, off, none⟩ ∧ ∀ j, j < klen → w.cell? ⟨b, off + j, none⟩ = some (.int .u8 (zs j)) ∧ 0 ≤ zs j ∧ zs j ≤ 255 := by
          rcases hz with h | h
          · omega
          · exact h
        obtain ⟨hz0, z1, z2⟩ := hz' k hkk
        have hz1 := (hb.cell (p := ⟨b', off' + k, none⟩) (World.block_lt_of_cell? _ _ hz0)).trans hz0
        clear hz' hz0 hz
        have h3 : zs k % 3 = 0 ∨ zs k % 3 = 1 ∨ zs k % 3 = 2 := by omega
        rcases h3 with h3 | h3 | h3
        · go_wp2
          go_roundw
          case rel => exact ⟨k + 1, by omega, by go_num, hb, hsz, hd⟩
          case measure => simp [intOf]; omega
        · go_wp2
          go_roundw
          case rel => exact ⟨k + 1, by omega, by go_num, hb.alloc (by omega) _, by simp; omega, by rw [World.cell?_alloc_lt _ _ _ hsz]; exact hd⟩
          case measure => simp [intOf]; omega
        · go_wp2
          go_roundw
          case rel => exact ⟨k + 1, by omega, by go_num, hb, hsz, hd⟩
          case measure => simp [intOf]; omega
      · go_wp2
        go_roundw
        case rel => exact ⟨k + 1, by omega, by go_num, hb, hsz, hd⟩
        case measure => simp [intOf]; omega
    · go_wp2
      go_ret
      exact ⟨rfl, hb⟩
end Go.Proofs.Ybulkblwa
