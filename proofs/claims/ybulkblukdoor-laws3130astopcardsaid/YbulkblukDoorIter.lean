import Derived.Test.YbulkblukDoorModel
import Derived.RangeFuncBox
import Derived.RangeFuncLeaves
import Derived.Shelf.Abstract
import Derived.WalkKit
import Derived.OwnWalkIn
import Derived.TacticsInMore
import Derived.LoopNIn
import Derived.LoopIn
import Derived.RegionIn
import Derived.Stop.RegionWithIn
import Derived.Outline
namespace Go.Proofs.YbulkblukDoor
open Go.RowKit Go.Shelf

attribute [local go_sem] Oper.semAt_some

/-- What the iterator reads: the two boxes, the receiver's field, the words, the numbers, the library's table. -/
structure ItAt (W : World) (Bs Bl sb L g m nn : Nat) (xs : Nat → Nat) (ps : Nat → Int) : Prop where
  bs : W.cell? ⟨Bs, 0, none⟩ = some (.slice (some ⟨sb, 0, none⟩) m m)
  bl : W.cell? ⟨Bl, 0, none⟩ = some (.pointer (some ⟨L, 0, none⟩))
  fl : W.cell? ⟨L, 4, none⟩ = some (.slice (some ⟨g, 0, none⟩) nn nn)
  ws : ∀ j, j < m → W.cell? ⟨sb, j, none⟩ = some (.int .u64 (xs j : Int))
  pc : ∀ j, j < nn → W.cell? ⟨g, j, none⟩ = some (.int .i32 (ps j))
  tab : TabAt W

/-- Every block below M, but for b, is as it was. -/
def KpB (b M : Nat) (A B : World) : Prop := ∀ k, k < M → k ≠ b → B.heap[k]? = A.heap[k]?
theorem KpB.cell {b M : Nat} {A B : World} (h : KpB b M A B) {p : Addr} (h1 : p.block < M) (h2 : p.block ≠ b) : B.cell? p = A.cell? p := World.cell?_of_block (w := A) (h p.block h1 h2)
theorem KpB.trans {b M : Nat} {A B C : World} (h : KpB b M A B) (k : KpB b M B C) : KpB b M A C := fun i h1 h2 => (k i h1 h2).trans (h i h1 h2)

/-- The blocks that the iterator reads lie below M and are not b. -/
structure Apart (b M Bs Bl sb L g : Nat) : Prop where
  h0 : 0 < M ∧ 0 ≠ b
  hs : Bs < M ∧ Bs ≠ b
  hl : Bl < M ∧ Bl ≠ b
  hw : sb < M ∧ sb ≠ b
  hL : L < M ∧ L ≠ b
  hg : g < M ∧ g ≠ b

theorem ItAt.kept {b M : Nat} {A B : World} {Bs Bl sb L g m nn : Nat} {xs : Nat → Nat} {ps : Nat → Int} (h : ItAt A Bs Bl sb L g m nn xs ps) (hk : KpB b M A B) (ha : Apart b M Bs Bl sb L g) : ItAt B Bs Bl sb L g m nn xs ps :=
  ⟨(hk.cell ha.hs.1 ha.hs.2).trans h.bs, (hk.cell ha.hl.1 ha.hl.2).trans h.bl, (hk.cell ha.hL.1 ha.hL.2).trans h.fl, fun j hj => (hk.cell ha.hw.1 ha.hw.2).trans (h.ws j hj),
    fun j hj => (hk.cell ha.hg.1 ha.hg.2).trans (h.pc j hj), fun i hi => (hk.cell ha.h0.1 ha.h0.2).trans (h.tab i hi)⟩

theorem and_pred_u64 (x : Nat) (h0 : x ≠ 0) (hx : x < 18446744073709551616) : bits BinOp.and IntKind.u64 (x : Int) ((x : Int) - 1) = ((x &&& (x - 1) : Nat) : Int) := by
  have e : ((x : Int) - 1) = ((x - 1 : Nat) : Int) := by omega
  rw [e]
  exact and_u64 x (x - 1) hx (by omega)

set_option maxRecDepth 100000 in
set_option maxHeartbeats 2000000 in
theorem iter_in (n : Nat) (hn : 1 ≤ n) (l b M Bs Bl sb L g m nn : Nat) (hm : m ≤ 256) (hnn : 64 * m ≤ nn) (xs : Nat → Nat) (ps : Nat → Int) (hxs : ∀ j, j < m → xs j < 18446744073709551616) (ha : Apart b M Bs Bl sb L g) (J Jx : List Nat → World → Prop)
    (hJd : ∀ s W, J s W → J s W.drew)
    (hY : ∀ pre x W, J pre W → pre.length < (Bt.idxs xs m).length → YieldAt Fence.wide (n - 1) Ybad.prog l #[.int .i32 (ps x)] W fun e W' =>
      (e = .returned (.bool true) ∧ J (pre ++ [x]) W' ∧ KpB b M W W') ∨ (e = .returned (.bool false) ∧ Jx (pre ++ [x]) W'))
    (W : World) (hI : ItAt W Bs Bl sb L g m nn xs ps) (h0 : J [] W) :
    CallsIn Fence.wide n Ybad.prog 11 #[.func (.yield l) #[] #[], .pointer (some ⟨Bs, 0, none⟩), .pointer (some ⟨Bl, 0, none⟩)] W fun e W' => (∃ v, e = .returned v) ∧
      ((∃ ys, ys = Bt.idxs xs m ∧ J ys W') ∨ (∃ pre, pre <+: Bt.idxs xs m ∧ Jx pre W')) := by
  refine callsIn_of_wp Ybad.func11 rfl trivial ?_ rfl
  simp only [Ybad.ntmps11, List.size_toArray, List.length_cons, List.length_nil, Nat.reduceAdd, Nat.reduceSub, Array.replicate_succ, Array.replicate_zero, List.push_toArray, List.append_toArray, List.nil_append, List.cons_append]
  have hbs := hI.bs
  gi_wp2
  clear hbs
  gi_loopw [8] (fun i wr => ∃ k : Nat, k ≤ m ∧ i = .int .i64 k ∧ J (Bt.idxs xs k) wr ∧ ItAt wr Bs Bl sb L g m nn xs ps) (fun i _ => m - (intOf i).toNat)
  case atStart => exact ⟨0, Nat.zero_le _, rfl, h0, hI⟩
  case round =>
    obtain ⟨k, hk, rfl, hJ, hIt⟩ := hrel
    by_cases hlt : k < m
    · have hw := hIt.ws k hlt
      gi_wp2
      clear hw
      gi_loopw [5] (fun v wr => ∃ (x : Nat) (dn : List Nat), v = .int .u64 (x : Int) ∧ x < 18446744073709551616 ∧ dn ++ Bt.bitsOf x = Bt.bitsOf (xs k) ∧ J (Bt.idxs xs k ++ dn.map fun b => k * 64 + b) wr ∧ ItAt wr Bs Bl sb L g m nn xs ps) (fun v _ => (intOf v).toNat)
      case atStart => exact ⟨xs k, [], rfl, hxs k hlt, rfl, by simpa using hJ, hIt⟩
      case round =>
        clear hJ hIt
        obtain ⟨x, dn, rfl, hx, hdn, hJ, hIt⟩ := hrel
        by_cases hx0 : x = 0
        · subst hx0
          have hfull : J (Bt.idxs xs (k + 1)) wr := by
            rw [Bt.bitsOf_zero, List.append_nil] at hdn
            rw [Bt.idxs_succ, ← hdn]; exact hJ
          clear hdn
          gi_wp2
          go_roundw
          case rel => exact ⟨k + 1, by omega, by go_num, hfull, hIt⟩
          case measure => simp [intOf]; omega
        · have hne : ((x : Int) == 0) = false := by simp; omega
          have htz := Bt.tz_lt x hx0 hx
          have hbl := hIt.bl
          have hfl := hIt.fl
          have hpc := hIt.pc (k * 64 + Bt.tz x) (by omega)
          have HT : Hid (TabAt wr) := hIt.tab
          have HI := hIt
          clear hIt
          have HD : Hid (dn ++ Bt.bitsOf x = Bt.bitsOf (xs k)) := hdn
          clear hdn
          have hlen : (Bt.idxs xs k ++ List.map (fun b => k * 64 + b) dn).length < (Bt.idxs xs m).length := Bt.step_len hlt hx0 hx HD.out
          obtain ⟨fn, tmps, assign, body, hy, hR⟩ := hY _ (k * 64 + Bt.tz x) wr.drew (hJd _ _ hJ) hlen
          have hR2 : RoundIn Fence.wide (n - 1) Ybad.prog l fn tmps assign body wr.drew fun e W' => ∃ ok : Bool, e = .returned (.bool ok) ∧ Hid ((ok = true → J ((Bt.idxs xs k ++ List.map (fun b => k * 64 + b) dn) ++ [k * 64 + Bt.tz x]) W' ∧ KpB b M wr.drew W') ∧ (ok = false → Jx ((Bt.idxs xs k ++ List.map (fun b => k * 64 + b) dn) ++ [k * 64 + Bt.tz x]) W')) := by
            refine hR.mono ?_
            rintro e W' (⟨rfl, h1, h2⟩ | ⟨rfl, h1⟩)
            · exact ⟨true, rfl, fun _ => ⟨h1, h2⟩, fun h => by cases h⟩
            · exact ⟨false, rfl, fun h => (by cases h), fun _ => h1⟩
          clear hR
          have hw1 : IntKind.i64.wrap ((k : Int) * 64) = (k : Int) * 64 := by rw [IntKind.wrap_i64]; omega
          have hw2 : IntKind.i64.wrap ((k : Int) * 64 + (Bt.tz x : Int)) = (k : Int) * 64 + (Bt.tz x : Int) := by rw [IntKind.wrap_i64]; omega
          have hand : bits BinOp.and IntKind.u64 (x : Int) ((x : Int) - 1) = ((x &&& (x - 1) : Nat) : Int) := and_pred_u64 x hx0 hx
          have hb1 : (0 : Int) ≤ (k : Int) * 64 + (Bt.tz x : Int) := by omega
          have hb2 : (k : Int) * 64 + (Bt.tz x : Int) < (nn : Int) := by omega
          have hb3 : ((k : Int) * 64 + (Bt.tz x : Int)).toNat = k * 64 + Bt.tz x := by omega
          gi_wp2_with fail
          gi_region_with (first | (refine ⟨trivial, ?_⟩; gi_at_call 12; refine (callsIn_wide.2 (tz_any x hx0 hx _ ?_)).mono ?_; (exact HT.out); rintro e w' ⟨rfl, rfl⟩) | (refine hR2.mono ?_; rintro e W3 ⟨ok, rfl, h3⟩))
          all_goals
            cases ok with
            | false =>
              have hJx3 := h3.out.2 rfl
              clear h3
              gi_wp2
              refine bodyPost_ret (results_none rfl _ _ _) rfl ?_
              exact ⟨⟨_, rfl⟩, .inr ⟨_, Bt.step_pref hlt hx0 hx HD.out, hJx3⟩⟩
            | true =>
              obtain ⟨hJ3, hk3⟩ := h3.out.1 rfl
              clear h3
              gi_wp2
              go_roundw
              case rel => exact ⟨x &&& (x - 1), dn ++ [Bt.tz x], rfl, Nat.lt_trans (Bt.and_pred_lt x hx0) hx, Bt.step_next hx0 hx HD.out, by rw [List.map_append, ← List.append_assoc]; exact hJ3, HI.kept (fun i h1 h2 => hk3 i h1 h2) ha⟩
              case measure => simp [intOf]; have := Bt.and_pred_lt x hx0; omega
    · obtain rfl : k = m := by omega
      gi_wp2
      go_end0
      exact ⟨⟨_, rfl⟩, .inl ⟨_, rfl, hJ⟩⟩

theorem grownBy_drew (W : World) : W.grownBy W.drew none := ⟨rfl, rfl, rfl, Nat.le_refl _, fun _ _ _ => rfl⟩

/-- The sequence's contract. -/
theorem iter_stops (n : Nat) (hn : 1 ≤ n) (b M Bs Bl sb L g m nn : Nat) (hm : m ≤ 256) (hnn : 64 * m ≤ nn) (xs : Nat → Nat) (ps : Nat → Int) (hxs : ∀ j, j < m → xs j < 18446744073709551616) (ha : Apart b M Bs Bl sb L g) (w : World) (hM : M ≤ w.heap.size) (hI : ItAt w Bs Bl sb L g m nn xs ps) :
    SeqStopsK Fence.wide n Ybad.prog 11 #[.pointer (some ⟨Bs, 0, none⟩), .pointer (some ⟨Bl, 0, none⟩)] (fun x : Nat => #[Value.int .i32 (ps x)]) (KpB b M) (fun ys => ys = Bt.idxs xs m) (fun pre => pre <+: Bt.idxs xs m) (Bt.idxs xs m).length w :=
  fun l J Jx W hW hJ _ hY h0 =>
    iter_in n hn l b M Bs Bl sb L g m nn hm hnn xs ps hxs ha J Jx (fun s X hs => hJ s X X.drew none hs (grownBy_drew X) (fun r e => by cases e)) hY W
      (hI.kept (b := b) (M := M) (fun k h1 _ => hW.block k (by omega)) ha) h0

set_option maxHeartbeats 1000000 in
/-- instructions(set): both the receiver and the slice are boxed. -/
theorem instr_any (L sb m : Nat) (w : World) :
    Calls Ybad.prog 6 #[.pointer (some ⟨L, 0, none⟩), .slice (some ⟨sb, 0, none⟩) m m] w fun e w' => e = .returned (.func (.func 11) #[] #[.pointer (some ⟨w.heap.size + 1, 0, none⟩), .pointer (some ⟨w.heap.size, 0, none⟩)]) ∧
      w' = (w.alloc (.cells #[.pointer (some ⟨L, 0, none⟩)] 25)).alloc (.cells #[.slice (some ⟨sb, 0, none⟩) m m] 22) := by
  go_enter Ybad.func6, Ybad.ntmps6
  go_wp2
  go_ret
  exact ⟨rfl, rfl⟩
end Go.Proofs.YbulkblukDoor
