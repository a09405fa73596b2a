import Derived.Test.YbulkblukDoorAll
import Derived.ProofKit
import Derived.LaidMore
import Derived.OpenShut
import Derived.Stop.Joined
import Derived.Lib.LaidTab
import Derived.ChangeOld
import Derived.Below
namespace Go.Proofs.YbulkblukDoor
open Go.ChangeShapes Go.WideShapes Go.ChangeAt Go.RowKit

theorem own : ownKnob Ybad.prog.godebug = none := by kernel_rfl
theorem laidOut : laidOutB Ybad.prog = true := by kernel_rfl
/-- The listed table's name, off the given row. -/
def tabName : String := Rows.lawS3130AAllRow.named.headD ""
theorem gTab : Ybad.prog.globalNamed tabName = some 0 := by kernel_rfl
theorem tTab : (Ybad.prog.globals[0]?).map (·.type) = some 55 := by kernel_rfl

def laid1 : List (String × DataW Unit) := [(tabName, Rows.laid_math_bits_deBruijn64tab)]

theorem door_met (os : Os) (args : Array Value) : laidMetH Ybad.prog laid1 ((World.doorLaid Ybad.prog 400 os).forCall (fun _ _ => 0) ⟨#[], args, []⟩).memory :=
  laidMetH_of_parts3 (fuel := 8) (laidMet_of_run' 8 (by kernel_rfl) (by kernel_rfl)) (by kernel_rfl) (by kernel_rfl)

theorem of_laid {W : World} (h : laidMetH Ybad.prog laid1 W) : TabAt W := by
  rw [MakeChecks.laidMetH_plain _ _ _ (by kernel_rfl)] at h
  have h' : laidMet Ybad.prog ((tabName, Lib.tabData .u8 Bt.tab) :: []) W := h
  have hT := Lib.tabIs_of_head gTab tTab Ybad.underlying55 Ybad.underlying5 (by kernel_rfl) (by kernel_rfl) h'
  intro i hi
  exact hT.cell gTab i (by simpa [Bt.tab] using hi)

/-- A slice of words that came in. -/
theorem open_words {H : Type} {enc : TypeId × Value → H} {W : World} {sp : Nat → Bool} {a : Option Addr} {len cap : Nat} {x : DataW H × List MemPlace} {fuel : Nat}
    (hf : DataW.trod enc Ybad.prog W 0 sp true fuel 22 (Value.slice a len cap).cells.toList = some x) : ∃ xs : Nat → Nat, WordAt W a len xs ∧ ∀ j, j < len → xs j < 18446744073709551616 := by
  rcases open_ints Ybad.underlying22 Ybad.underlying49 (by kernel_rfl) hf with ⟨hcs, _⟩ | ⟨y, l, c, zs, hcs, _, hl, hm, hz, _, hcell, hwz⟩
  · simp [Value.cells] at hcs
    exact ⟨fun _ => 0, .inl hcs.2.1, fun _ _ => by omega⟩
  · simp [Value.cells] at hcs
    obtain ⟨rfl, rfl, rfl⟩ := hcs
    by_cases h0 : len = 0
    · exact ⟨fun _ => 0, .inl h0, fun _ _ => by omega⟩
    · have hz' : len ≤ zs.length := by rw [hz]; split <;> omega
      obtain ⟨b, off, rfl, hc⟩ := ints_at hcell (by omega)
      have hb : ∀ j, j < len → 0 ≤ zs.getD j 0 ∧ zs.getD j 0 < 18446744073709551616 := fun j hj => by
        have := hwz (zs.getD j 0) (by rw [List.getD_eq_getElem?_getD, List.getElem?_eq_getElem (by omega)]; exact List.getElem_mem _)
        have h2 := bounds_u64 this
        omega
      refine ⟨fun j => (zs.getD j 0).toNat, .inr ⟨b, off, rfl, fun j hj => ?_⟩, fun j hj => ?_⟩
      · rw [hc j (by omega)]
        have := hb j hj
        rw [show (((zs.getD j 0).toNat : Nat) : Int) = zs.getD j 0 by omega]
      · have := hb j hj
        show (zs.getD j 0).toNat < _
        omega
/-- A slice of int32 that came in. -/
theorem open_i32s {H : Type} {enc : TypeId × Value → H} {W : World} {sp : Nat → Bool} {a : Option Addr} {len cap : Nat} {x : DataW H × List MemPlace} {fuel : Nat}
    (hf : DataW.trod enc Ybad.prog W 0 sp true fuel 23 (Value.slice a len cap).cells.toList = some x) : ∃ vs : Nat → Int, IntAt W a len vs := by
  rcases open_ints Ybad.underlying23 Ybad.underlying21 (by kernel_rfl) hf with ⟨hcs, _⟩ | ⟨y, l, c, zs, hcs, _, hl, hm, hz, _, hcell, hwz⟩
  · simp [Value.cells] at hcs
    exact ⟨fun _ => 0, .inl hcs.2.1⟩
  · simp [Value.cells] at hcs
    obtain ⟨rfl, rfl, rfl⟩ := hcs
    by_cases h0 : len = 0
    · exact ⟨fun _ => 0, .inl h0⟩
    · have hz' : len ≤ zs.length := by rw [hz]; split <;> omega
      obtain ⟨b, off, rfl, hc⟩ := ints_at hcell (by omega)
      exact ⟨fun j => zs.getD j 0, .inr ⟨b, off, rfl, fun j hj => hc j (by omega)⟩⟩

theorem all_wide (a : Option Addr) (m cap : Nat) (h : (256 : Int) < (m : Int)) (c : Option Addr) (vm vcap : Nat) (w : World) :
    Calls Ybad.prog 3 #[.slice a m cap, .slice c vm vcap] w fun e W' => e = .returned (.bool true) ∧ Below w.heap.size w W' := by
  go_enter Ybad.func3, Ybad.ntmps3
  go_wp2
  go_ret
  exact ⟨rfl, Below.refl _ _⟩
theorem all_long (a : Option Addr) (m cap : Nat) (h : ¬ (256 : Int) < (m : Int)) (c : Option Addr) (vm vcap : Nat) (h2 : (1024 : Int) < (vm : Int)) (w : World) :
    Calls Ybad.prog 3 #[.slice a m cap, .slice c vm vcap] w fun e W' => e = .returned (.bool true) ∧ Below w.heap.size w W' := by
  go_enter Ybad.func3, Ybad.ntmps3
  go_wp2
  go_ret
  exact ⟨rfl, Below.refl _ _⟩

theorem all_any (a : Option Addr) (m cap : Nat) (c : Option Addr) (vm vcap : Nat) (xs : Nat → Nat) (hxs : ∀ j, j < m → xs j < 18446744073709551616) (vs : Nat → Int) (w : World) (hT : TabAt w) (ha : WordAt w a m xs) (hc : IntAt w c vm vs) :
    Calls Ybad.prog 3 #[.slice a m cap, .slice c vm vcap] w fun e W' => e = .returned (.bool true) ∧ Below w.heap.size w W' := by
  by_cases h1 : (256 : Int) < (m : Int)
  · exact all_wide a m cap h1 c vm vcap w
  by_cases h2 : (1024 : Int) < (vm : Int)
  · exact all_long a m cap h1 c vm vcap h2 w
  · exact callsIn_wide.1 (all_walk a m cap (by omega) c vm vcap (by omega) xs hxs vs w hT ha hc)

namespace lawAll
set_option maxRecDepth 100000 in
theorem lifted (os : Os) (started : os.Started) (H : Type) (enc : TypeId × Value → H) :
    ReturnsInHanded {} Ybad.checked os 3 .any (fun w args => (Rows.lawS3130AAllSpec.pre enc Ybad.prog Ybad.f3 [] false w args ∧ laidMetH Ybad.prog laid1 w) ∧ sizedMet enc Ybad.prog Ybad.f3 (OpenSpec.ofChange Rows.lawS3130AAllSpec) false w args)
      (Rows.lawS3130AAllSpec.post enc Ybad.prog Ybad.f3 false true false false) := by
  refine returnsInHanded_of_change_and (C := Ybad.checked) (X := fun w _ => laidMetH Ybad.prog laid1 w) (fun _ _ _ hh h => h.of_heap hh) own started (by kernel_rfl) Ybad.func3
    (ChangeSpec.witness_shaped (enc := enc) (C := Ybad.checked) (os := os) (X := fun w _ => laidMetH Ybad.prog laid1 w) false (World.doorLaid Ybad.prog 400 os) #[.slice none 0 0, .slice none 0 0] 8 rfl (World.shaped_of_RefB (by kernel_rfl) (by kernel_rfl)) (by kernel_rfl) (by kernel_rfl) (by kernel_rfl) (door_met os _)) ?_
  intro W base args ds gs before hval0 hW _ _ hL _
  have hval : ∀ (j : Nat) t v, Ybad.f3.params[j]? = some t → args[j]? = some v → Value.okWide Ybad.prog W .any base t v := hval0
  have hW' := hW
  obtain ⟨p, q, hA0, hV, rfl, hfz, hnd⟩ := hW
  have hA : DataW.TrodAll enc Ybad.prog W 0 (fun _ => true) true Ybad.f3.params.toList args.toList ds p := hA0
  rw [Ybad.params3] at hA hval
  obtain ⟨v0, vs0, d0, ds0, p0, q0, hargs, rfl, rfl, h0, r0⟩ := trodAll_cons hA
  obtain ⟨v1, vs1, d1, ds1, p1, q1, rfl, rfl, rfl, h1, r1⟩ := trodAll_cons r0
  obtain ⟨rfl, rfl, rfl⟩ := trodAll_nil r1
  obtain rfl : args = #[v0, v1] := by cases args; simp_all
  obtain ⟨rfl, rfl⟩ := trodVars_none hV
  obtain ⟨a0, len0, cap0, rfl⟩ := okWide_slice Ybad.underlying22 (hval 0 22 v0 rfl rfl)
  obtain ⟨a1, len1, cap1, rfl⟩ := okWide_slice Ybad.underlying23 (hval 1 23 v1 rfl rfl)
  have k0 := h0
  have k1 := h1
  have lt0 : ∀ x ∈ p0, x.block < W.heap.size := by obtain ⟨m, hm⟩ := k0; exact DataW.trod_lt m _ _ _ hm
  have lt1 : ∀ x ∈ p1, x.block < W.heap.size := by obtain ⟨m, hm⟩ := k1; exact DataW.trod_lt m _ _ _ hm
  obtain ⟨xs, hxa, hxs⟩ : ∃ xs : Nat → Nat, WordAt W a0 len0 xs ∧ ∀ j, j < len0 → xs j < 18446744073709551616 := by
    obtain ⟨fuel, hf⟩ := h0
    exact open_words hf
  obtain ⟨vs, hva⟩ : ∃ vs : Nat → Int, IntAt W a1 len1 vs := by
    obtain ⟨fuel, hf⟩ := h1
    exact open_i32s hf
  have hT := of_laid hL
  clear hA0 hval0
  refine (all_any a0 len0 cap0 a1 len1 cap1 xs hxs vs W hT hxa hva).mono fun e W' ⟨he, bel⟩ => ?_
  subst he
  exact ⟨_, rfl, _, _, _, [], _, [], hW', trodAll_mk1 (shut_bool Ybad.underlying4 _), (trodAll_cons_mk (Below.trod laidOut (by kernel_rfl) (of_decide_eq_true (by kernel_rfl)) k0 bel lt0) (trodAll_cons_mk (Below.trod laidOut (by kernel_rfl) (of_decide_eq_true (by kernel_rfl)) k1 bel lt1) trodAll_mk0)), rfl, bel.frame _, fun h => by cases h⟩

theorem row_holds : Rows.LawS3130AAllSaid :=
  OpenClaim.holds_of_wide 3 Ybad.f3 rfl rfl rfl rfl rfl rfl rfl ⟨rfl, rfl, rfl, rfl, rfl⟩ rfl rfl rfl rfl rfl (by kernel_rfl) Ybad.func3 (by kernel_rfl)
    (of_decide_eq_true (by kernel_rfl)) (by unfold Func.isWrapper; first | (rw [if_pos (by decide +kernel)]; kernel_rfl) | (rw [if_neg (by decide +kernel)]; exact ⟨rfl, rfl⟩))
    (fun os started H enc _ => lifted os started H enc)
end lawAll
end Go.Proofs.YbulkblukDoor
