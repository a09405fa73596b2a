import Derived.Test.YbulkblukDoorPrep
import Derived.Deep.RegionWith
namespace Go.Proofs.YbulkblukDoor
open Go.RowKit Go.Shelf Go.Deep

theorem take_of_pref {pre l : List Nat} {K : Nat} (h : pre <+: l) (hK : pre.length = K) : pre = l.take K := by
  obtain ⟨r, rfl⟩ := h
  subst hK
  simp

set_option maxRecDepth 100000 in
set_option maxHeartbeats 4000000 in
/-- The sequence called with a function of the program's own, which says 'no more' once K items have come. -/
theorem iter_fn (Bg Bk K b M Bs Bl sb L g m nn : Nat) (hK : 0 < K) (hm : m ≤ 256) (hnn : 64 * m ≤ nn) (xs : Nat → Nat) (ps : Nat → Int) (hxs : ∀ j, j < m → xs j < 18446744073709551616) (ha : Apart b M Bs Bl sb L g) (J : List Nat → World → Prop)
    (hJd : ∀ s W, J s W → J s W.drew)
    (hY : ∀ pre x W, J pre W → pre.length < K → pre.length < (Bt.idxs xs m).length → Calls Ybad.prog 10 #[.int .i32 (ps x), .pointer (some ⟨Bg, 0, none⟩), .pointer (some ⟨Bk, 0, none⟩)] W fun e W' =>
      e = .returned (.bool (decide (pre.length + 1 < K))) ∧ J (pre ++ [x]) W' ∧ KpB b M W W')
    (W : World) (hI : ItAt W Bs Bl sb L g m nn xs ps) (h0 : J [] W) :
    Calls Ybad.prog 11 #[.func (.func 10) #[] #[.pointer (some ⟨Bg, 0, none⟩), .pointer (some ⟨Bk, 0, none⟩)], .pointer (some ⟨Bs, 0, none⟩), .pointer (some ⟨Bl, 0, none⟩)] W fun e W' => (∃ v, e = .returned v) ∧ J ((Bt.idxs xs m).take K) W' := by
  have hbs := hI.bs
  go_enter Ybad.func11, Ybad.ntmps11
  go_wp2
  clear hbs
  go_loopw [8] (fun i wr => ∃ k : Nat, k ≤ m ∧ i = .int .i64 k ∧ (Bt.idxs xs k).length < K ∧ J (Bt.idxs xs k) wr ∧ ItAt wr Bs Bl sb L g m nn xs ps) (fun i _ => m - (intOf i).toNat)
  case atStart => exact ⟨0, Nat.zero_le _, rfl, hK, h0, hI⟩
  case round =>
    obtain ⟨k, hk, rfl, hKl, hJ, hIt⟩ := hrel
    by_cases hlt : k < m
    · have hw := hIt.ws k hlt
      go_wp2
      clear hw
      go_loopw [5] (fun v wr => ∃ (x : Nat) (dn : List Nat), v = .int .u64 (x : Int) ∧ x < 18446744073709551616 ∧ dn ++ Bt.bitsOf x = Bt.bitsOf (xs k) ∧ (Bt.idxs xs k ++ dn.map fun b => k * 64 + b).length < K ∧ J (Bt.idxs xs k ++ dn.map fun b => k * 64 + b) wr ∧ ItAt wr Bs Bl sb L g m nn xs ps) (fun v _ => (intOf v).toNat)
      case atStart => exact ⟨xs k, [], rfl, hxs k hlt, rfl, by simpa using hKl, by simpa using hJ, hIt⟩
      case round =>
        clear hJ hIt hKl
        obtain ⟨x, dn, rfl, hx, hdn, hKl, hJ, hIt⟩ := hrel
        by_cases hx0 : x = 0
        · subst hx0
          have hfull : (Bt.idxs xs k ++ dn.map fun b => k * 64 + b) = Bt.idxs xs (k + 1) := by
            rw [Bt.bitsOf_zero, List.append_nil] at hdn
            rw [Bt.idxs_succ, ← hdn]
          rw [hfull] at hJ hKl
          clear hdn hfull
          go_wp2
          go_roundw
          case rel => exact ⟨k + 1, by omega, by go_num, hKl, hJ, hIt⟩
          case measure => simp [intOf]; omega
        · have hne : ((x : Int) == 0) = false := by simp; omega
          have htz := Bt.tz_lt x hx0 hx
          have hbl := hIt.bl
          have hfl := hIt.fl
          have hpc := hIt.pc (k * 64 + Bt.tz x) (by omega)
          have HT : Hid (TabAt wr) := hIt.tab
          have HI := hIt
          clear hIt
          have HD : Hid (dn ++ Bt.bitsOf x = Bt.bitsOf (xs k)) := hdn
          clear hdn
          have hlen : (Bt.idxs xs k ++ List.map (fun b => k * 64 + b) dn).length < (Bt.idxs xs m).length := Bt.step_len hlt hx0 hx HD.out
          have HY := hY _ (k * 64 + Bt.tz x) wr.drew (hJd _ _ hJ) hKl hlen
          have HY2 : Hid (Calls Ybad.prog 10 #[.int .i32 (ps (k * 64 + Bt.tz x)), .pointer (some ⟨Bg, 0, none⟩), .pointer (some ⟨Bk, 0, none⟩)] wr.drew fun e W' => ∃ ok : Bool, e = .returned (.bool ok) ∧ Hid (ok = decide ((Bt.idxs xs k ++ List.map (fun b => k * 64 + b) dn).length + 1 < K) ∧ J ((Bt.idxs xs k ++ List.map (fun b => k * 64 + b) dn) ++ [k * 64 + Bt.tz x]) W' ∧ KpB b M wr.drew W')) := by
            refine HY.mono ?_
            rintro e W' ⟨rfl, h1, h2⟩
            exact ⟨_, rfl, rfl, h1, h2⟩
          clear HY
          have hw1 : IntKind.i64.wrap ((k : Int) * 64) = (k : Int) * 64 := by rw [IntKind.wrap_i64]; omega
          have hw2 : IntKind.i64.wrap ((k : Int) * 64 + (Bt.tz x : Int)) = (k : Int) * 64 + (Bt.tz x : Int) := by rw [IntKind.wrap_i64]; omega
          have hand : bits BinOp.and IntKind.u64 (x : Int) ((x : Int) - 1) = ((x &&& (x - 1) : Nat) : Int) := and_pred_u64 x hx0 hx
          have hb1 : (0 : Int) ≤ (k : Int) * 64 + (Bt.tz x : Int) := by omega
          have hb2 : (k : Int) * 64 + (Bt.tz x : Int) < (nn : Int) := by omega
          have hb3 : ((k : Int) * 64 + (Bt.tz x : Int)).toNat = k * 64 + Bt.tz x := by omega
          have HL : Hid ((Bt.idxs xs k ++ List.map (fun b => k * 64 + b) dn).length < K) := hKl
          clear hKl hlen hJ
          go_wp2_with fail
          go_region_with (first | (go_at_call 12; refine (tz_any x hx0 hx _ ?_).mono ?_; (exact HT.out); rintro e w' ⟨rfl, rfl⟩) | (go_at_call 10; refine HY2.out.mono ?_; rintro e W3 ⟨ok, rfl, h3⟩))
          all_goals
            cases ok with
            | false =>
              obtain ⟨hok, hJ3, _⟩ := h3.out
              have hKe : (Bt.idxs xs k ++ List.map (fun b => k * 64 + b) dn ++ [k * 64 + Bt.tz x]).length = K := by
                have h5 := HL.out
                have h6 := of_decide_eq_false hok.symm
                simp only [List.length_append, List.length_singleton] at h5 h6 ⊢
                omega
              rw [take_of_pref (Bt.step_pref hlt hx0 hx HD.out) hKe] at hJ3
              clear h3 hok hKe
              go_wp2
              refine bodyPost_ret (results_none rfl _ _ _) rfl ?_
              exact ⟨⟨_, rfl⟩, hJ3⟩
            | true =>
              obtain ⟨hok, hJ3, hk3⟩ := h3.out
              have h6 := of_decide_eq_true hok.symm
              have H6 : Hid ((Bt.idxs xs k ++ List.map (fun b => k * 64 + b) dn).length + 1 < K) := h6
              clear h3 hok h6
              go_wp2
              go_roundw
              case rel =>
                refine ⟨x &&& (x - 1), dn ++ [Bt.tz x], rfl, Nat.lt_trans (Bt.and_pred_lt x hx0) hx, Bt.step_next hx0 hx HD.out, ?_, ?_, HI.kept (fun i h1 h2 => hk3 i h1 h2) ha⟩
                · have h7 := H6.out
                  simp only [List.length_append, List.length_map, List.length_singleton] at h7 ⊢
                  omega
                · rw [List.map_append, ← List.append_assoc]; exact hJ3
              case measure => simp [intOf]; have := Bt.and_pred_lt x hx0; omega
    · obtain rfl : k = m := by omega
      rw [← List.take_of_length_le (Nat.le_of_lt hKl)] at hJ
      go_wp2
      go_end0
      exact ⟨⟨_, rfl⟩, hJ⟩
end Go.Proofs.YbulkblukDoor
