import Derived.Test.YbulkblukDoorPcs
import Derived.Test.YbulkblukDoorTz
import Derived.WalkKit
import Derived.ProofKit
import Derived.WalkLawsBesides
import Derived.Outline
import Derived.Maps.AppendAt
namespace Go.Proofs.YbulkblukDoor
open Go.RowKit Go.Deep

def vals (ps : Nat → Int) (l : List Nat) : List Value := l.map fun j => Value.int .i32 (ps j)
theorem vals_snoc (ps : Nat → Int) (l : List Nat) (j : Nat) : vals ps (l ++ [j]) = vals ps l ++ [.int .i32 (ps j)] := by simp [vals]

theorem bit_test (x t : Nat) (hx : x < 18446744073709551616) : (bits BinOp.and IntKind.u64 ((x : Int) / 2 ^ t) 1 == 1) = x.testBit t := by
  have e : ((x : Int) / 2 ^ t) = ((x / 2 ^ t : Nat) : Int) := by simp
  have hlt : x / 2 ^ t < 18446744073709551616 := Nat.lt_of_le_of_lt (Nat.div_le_self _ _) hx
  have h1 := and_u64 (x / 2 ^ t) 1 hlt (by omega)
  rw [e, show (1 : Int) = ((1 : Nat) : Int) from rfl, h1, Nat.and_one_is_mod, Nat.testBit_eq_decide_div_mod_eq]
  rcases Nat.mod_two_eq_zero_or_one (x / 2 ^ t) with h | h <;> simp [h]

theorem own_ge {w : World} {base : Nat} {e : TypeId} {size : Nat} {v : Value} {n : Nat} {xs : List Value} (h : w.ownsRow base e size v n xs) : ∀ k, v.ownBlock = some k → base ≤ k := by
  intro k hk
  rcases h.2 with ⟨rfl, _⟩ | ⟨g, cap, cur, rfl, hb, _⟩
  · simp [Value.ownBlock] at hk
  · simp [Value.ownBlock] at hk; omega

set_option maxHeartbeats 2000000 in
theorem model_some (b off m cap g n : Nat) (hm : m ≤ 256) (xs : Nat → Nat) (ps : Nat → Int) (w : World)
    (hxs : ∀ j, j < m → xs j < 18446744073709551616)
    (hc : ∀ j, j < m → w.cell? ⟨b, off + j, none⟩ = some (.int .u64 (xs j : Int)))
    (hn : 64 * m ≤ n) (hn2 : n ≤ 16384) (hp : ∀ j, j < n → w.cell? ⟨g, j, none⟩ = some (.int .i32 (ps j))) :
    Calls Ybad.prog 8 #[.slice (some ⟨b, off, none⟩) m cap, .slice (some ⟨g, 0, none⟩) n n] w fun e w' => ∃ v, e = .returned v ∧ w'.ownsRow w.heap.size 21 1 v (Bt.idxs xs m).length (vals ps (Bt.idxs xs m)) ∧ Below w.heap.size w w' := by
  obtain ⟨i0, hi, hz0, hz1, hz2⟩ := info_parts info21
  go_enter Ybad.func8, Ybad.ntmps8
  go_wp2
  go_loopw [5, 6] (fun v i wr => ∃ k : Nat, k ≤ m ∧ i = .int .i64 k ∧ wr.ownsRow w.heap.size 21 1 v (Bt.idxs xs k).length (vals ps (Bt.idxs xs k)) ∧ Below w.heap.size w wr) (fun _ i _ => m - (intOf i).toNat)
  case atStart => exact ⟨0, Nat.zero_le _, rfl, World.ownsRow_nil _ _ _ _, Below.refl _ _⟩
  case round =>
    obtain ⟨k, hk, rfl, hown, hB⟩ := hrel
    by_cases hlt : k < m
    · go_wp2
      go_loopw [5, 7] (fun v i wr => ∃ b : Nat, b ≤ 64 ∧ i = .int .i64 b ∧ wr.ownsRow w.heap.size 21 1 v (Bt.its xs k b).length (vals ps (Bt.its xs k b)) ∧ Below w.heap.size w wr) (fun _ i _ => 64 - (intOf i).toNat)
      case atStart => exact ⟨0, Nat.zero_le _, rfl, by rw [Bt.its_zero]; exact hown, hB⟩
      case round =>
        clear hown hB
        obtain ⟨t, ht, rfl, hown, hB⟩ := hrel
        by_cases ht6 : t < 64
        · have hc1 := hc k hlt
          have hc2 := (hB.cell (p := ⟨b, off + k, none⟩) (World.block_lt_of_cell? _ _ hc1)).trans hc1
          have hp1 := hp (k * 64 + t) (by omega)
          have hp2 := (hB.cell (p := ⟨g, k * 64 + t, none⟩) (World.block_lt_of_cell? _ _ hp1)).trans hp1
          clear hc1 hp1
          have hle := Bt.its_le xs k t
          cases htb : (xs k).testBit t with
          | true =>
            have hbit := bit_test (xs k) t (hxs k hlt)
            rw [htb] at hbit
            have HH : Hid ((xs k).testBit t = true) := htb
            clear htb
            go_wp2_with (at_builtin; refine wpList_append_own _ rfl _ _ 23 rfl w.heap.size 21 i0 (.int .i32 0) 1 4 Ybad.underlying23 hi hz0 hz1 hz2 rfl (by decide) _ _ _ rfl (hown.alloc _) ⟨wr.heap.size, 0, none⟩ 1 1 [.int .i32 (ps (k * 64 + t))] rfl rfl (cell_one_new _ _ _) (by simp [Value.oneCell']) (by unfold maxLen; omega) (by omega) (by have := hB.size; simp; omega) ?_; intro v' w1 hown' hgrow _)
            go_roundw
            case rel =>
              have hB1 : Below w.heap.size w w1 := (hB.alloc hB.size _).grown hgrow (by have := hB.size; simp; omega) (fun j e => own_ge hown j e)
              have ho1 : w1.ownsRow w.heap.size 21 1 v' (Bt.its xs k (t + 1)).length (vals ps (Bt.its xs k (t + 1))) := by
                rw [Bt.its_hit xs k t HH.out, vals_snoc]; simpa using hown'
              exact ⟨t + 1, by omega, by go_num, ho1, hB1⟩
            case measure => simp [intOf]; omega
          | false =>
            have hbit := bit_test (xs k) t (hxs k hlt)
            rw [htb] at hbit
            have HH : Hid ((xs k).testBit t = false) := htb
            clear htb
            go_wp2_with fail
            go_roundw
            case rel => exact ⟨t + 1, by omega, by go_num, by rw [Bt.its_miss xs k t HH.out]; exact hown, hB⟩
            case measure => simp [intOf]; omega
        · obtain rfl : t = 64 := by omega
          go_wp2_with fail
          go_roundw
          case rel => exact ⟨k + 1, by omega, by go_num, by rw [← Bt.its_all]; exact hown, hB⟩
          case measure => simp [intOf]; omega
    · obtain rfl : k = m := by omega
      go_wp2
      go_ret
      exact ⟨_, rfl, hown, hB⟩

set_option maxHeartbeats 2000000 in
theorem model_nil (a c : Option Addr) (cap n n' : Nat) (w : World) :
    Calls Ybad.prog 8 #[.slice a 0 cap, .slice c n n'] w fun e w' => e = .returned (.slice none 0 0) ∧ w' = w := by
  go_enter Ybad.func8, Ybad.ntmps8
  go_wp2
  go_loopw [5, 6] (fun v i wr => v = .slice none 0 0 ∧ i = .int .i64 0 ∧ wr = w) (fun _ _ _ => 0)
  case atStart => exact ⟨rfl, rfl, rfl⟩
  case round =>
    obtain ⟨rfl, rfl, rfl⟩ := hrel
    go_wp2
    go_ret
    exact ⟨rfl, rfl⟩
end Go.Proofs.YbulkblukDoor
