import Derived.Test.YbulkblukDoorLift
import Derived.Test.YbulkblukDoorStop
namespace Go.Proofs.YbulkblukDoor
open Go.ChangeShapes Go.WideShapes Go.ChangeAt Go.RowKit

theorem stop_wide (a : Option Addr) (m cap : Nat) (h : (256 : Int) < (m : Int)) (c : Option Addr) (vm vcap : Nat) (z : Int) (w : World) :
    Calls Ybad.prog 4 #[.slice a m cap, .slice c vm vcap, .int .u8 z] w fun e W' => e = .returned (.bool true) ∧ Below w.heap.size w W' := by
  go_enter Ybad.func4, Ybad.ntmps4
  go_wp2
  go_ret
  exact ⟨rfl, Below.refl _ _⟩
theorem stop_long (a : Option Addr) (m cap : Nat) (h : ¬ (256 : Int) < (m : Int)) (c : Option Addr) (vm vcap : Nat) (h2 : (1024 : Int) < (vm : Int)) (z : Int) (w : World) :
    Calls Ybad.prog 4 #[.slice a m cap, .slice c vm vcap, .int .u8 z] w fun e W' => e = .returned (.bool true) ∧ Below w.heap.size w W' := by
  go_enter Ybad.func4, Ybad.ntmps4
  go_wp2
  go_ret
  exact ⟨rfl, Below.refl _ _⟩

theorem stop_any (a : Option Addr) (m cap : Nat) (c : Option Addr) (vm vcap : Nat) (z : Int) (hz : 0 ≤ z ∧ z ≤ 255) (xs : Nat → Nat) (hxs : ∀ j, j < m → xs j < 18446744073709551616) (vs : Nat → Int) (w : World) (hT : TabAt w) (ha : WordAt w a m xs) (hc : IntAt w c vm vs) :
    Calls Ybad.prog 4 #[.slice a m cap, .slice c vm vcap, .int .u8 z] w fun e W' => e = .returned (.bool true) ∧ Below w.heap.size w W' := by
  by_cases h1 : (256 : Int) < (m : Int)
  · exact stop_wide a m cap h1 c vm vcap z w
  by_cases h2 : (1024 : Int) < (vm : Int)
  · exact stop_long a m cap h1 c vm vcap h2 z w
  · exact stop_walk a m cap (by omega) c vm vcap (by omega) z hz.1 hz.2 ((z % 70).toNat + 1) (by omega) xs hxs vs w hT ha hc

namespace lawStop
set_option maxRecDepth 100000 in
theorem lifted (os : Os) (started : os.Started) (H : Type) (enc : TypeId × Value → H) :
    ReturnsInHanded {} Ybad.checked os 4 .any (fun w args => (Rows.lawS3130AStopSpec.pre enc Ybad.prog Ybad.f4 [] false w args ∧ laidMetH Ybad.prog laid1 w) ∧ sizedMet enc Ybad.prog Ybad.f4 (OpenSpec.ofChange Rows.lawS3130AStopSpec) false w args)
      (Rows.lawS3130AStopSpec.post enc Ybad.prog Ybad.f4 false true false false) := by
  refine returnsInHanded_of_change_and (C := Ybad.checked) (X := fun w _ => laidMetH Ybad.prog laid1 w) (fun _ _ _ hh h => h.of_heap hh) own started (by kernel_rfl) Ybad.func4
    (ChangeSpec.witness_shaped (enc := enc) (C := Ybad.checked) (os := os) (X := fun w _ => laidMetH Ybad.prog laid1 w) false (World.doorLaid Ybad.prog 400 os) #[.slice none 0 0, .slice none 0 0, .int .u8 0] 8 rfl (World.shaped_of_RefB (by kernel_rfl) (by kernel_rfl)) (by kernel_rfl) (by kernel_rfl) (by kernel_rfl) (door_met os _)) ?_
  intro W base args ds gs before hval0 hW _ _ hL _
  have hval : ∀ (j : Nat) t v, Ybad.f4.params[j]? = some t → args[j]? = some v → Value.okWide Ybad.prog W .any base t v := hval0
  have hW' := hW
  obtain ⟨p, q, hA0, hV, rfl, hfz, hnd⟩ := hW
  have hA : DataW.TrodAll enc Ybad.prog W 0 (fun _ => true) true Ybad.f4.params.toList args.toList ds p := hA0
  rw [Ybad.params4] at hA hval
  obtain ⟨v0, vs0, d0, ds0, p0, q0, hargs, rfl, rfl, h0, r0⟩ := trodAll_cons hA
  obtain ⟨v1, vs1, d1, ds1, p1, q1, rfl, rfl, rfl, h1, r1⟩ := trodAll_cons r0
  obtain ⟨v2, vs2, d2, ds2, p2, q2, rfl, rfl, rfl, h2, r2⟩ := trodAll_cons r1
  obtain ⟨rfl, rfl, rfl⟩ := trodAll_nil r2
  obtain rfl : args = #[v0, v1, v2] := by cases args; simp_all
  obtain ⟨rfl, rfl⟩ := trodVars_none hV
  obtain ⟨a0, len0, cap0, rfl⟩ := okWide_slice Ybad.underlying22 (hval 0 22 v0 rfl rfl)
  obtain ⟨a1, len1, cap1, rfl⟩ := okWide_slice Ybad.underlying23 (hval 1 23 v1 rfl rfl)
  obtain ⟨z, rfl, rfl, rfl, wz⟩ := open_int Ybad.underlying5 (hval 2 5 v2 rfl rfl) h2
  have k0 := h0
  have k1 := h1
  have lt0 : ∀ x ∈ p0, x.block < W.heap.size := by obtain ⟨m, hm⟩ := k0; exact DataW.trod_lt m _ _ _ hm
  have lt1 : ∀ x ∈ p1, x.block < W.heap.size := by obtain ⟨m, hm⟩ := k1; exact DataW.trod_lt m _ _ _ hm
  obtain ⟨xs, hxa, hxs⟩ : ∃ xs : Nat → Nat, WordAt W a0 len0 xs ∧ ∀ j, j < len0 → xs j < 18446744073709551616 := by
    obtain ⟨fuel, hf⟩ := h0
    exact open_words hf
  obtain ⟨vs, hva⟩ : ∃ vs : Nat → Int, IntAt W a1 len1 vs := by
    obtain ⟨fuel, hf⟩ := h1
    exact open_i32s hf
  have hT := of_laid hL
  clear hA0 hval0
  refine (stop_any a0 len0 cap0 a1 len1 cap1 z (bounds_u8 wz) xs hxs vs W hT hxa hva).mono fun e W' ⟨he, bel⟩ => ?_
  subst he
  exact ⟨_, rfl, _, _, _, [], _, [], hW', trodAll_mk1 (shut_bool Ybad.underlying4 _), (trodAll_cons_mk (Below.trod laidOut (by kernel_rfl) (of_decide_eq_true (by kernel_rfl)) k0 bel lt0) (trodAll_cons_mk (Below.trod laidOut (by kernel_rfl) (of_decide_eq_true (by kernel_rfl)) k1 bel lt1) (trodAll_cons_mk (shut_int Ybad.underlying5 wz) trodAll_mk0))), rfl, bel.frame _, fun h => by cases h⟩

theorem row_holds : Rows.LawS3130AStopSaid :=
  OpenClaim.holds_of_wide 4 Ybad.f4 rfl rfl rfl rfl rfl rfl rfl ⟨rfl, rfl, rfl, rfl, rfl⟩ rfl rfl rfl rfl rfl (by kernel_rfl) Ybad.func4 (by kernel_rfl)
    (of_decide_eq_true (by kernel_rfl)) (by unfold Func.isWrapper; first | (rw [if_pos (by decide +kernel)]; kernel_rfl) | (rw [if_neg (by decide +kernel)]; exact ⟨rfl, rfl⟩))
    (fun os started H enc _ => lifted os started H enc)
end lawStop
end Go.Proofs.YbulkblukDoor
