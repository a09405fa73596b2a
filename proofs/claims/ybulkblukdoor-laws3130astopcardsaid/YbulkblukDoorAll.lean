import Derived.Test.YbulkblukDoorPrep
namespace Go.Proofs.YbulkblukDoor
open Go.RowKit Go.Shelf Go.Deep

attribute [local go_sem] Oper.semAt_some

set_option maxRecDepth 100000 in
set_option maxHeartbeats 4000000 in
theorem all_walk (a : Option Addr) (m cap : Nat) (hm : m ≤ 256) (c : Option Addr) (vm vcap : Nat) (hv : vm ≤ 1024) (xs : Nat → Nat) (hxs : ∀ j, j < m → xs j < 18446744073709551616) (vs : Nat → Int) (w : World) (hT : TabAt w) (ha : WordAt w a m xs) (hc : IntAt w c vm vs) :
    CallsIn Fence.wide 5 Ybad.prog 3 #[.slice a m cap, .slice c vm vcap] w fun e W' => e = .returned (.bool true) ∧ Below w.heap.size w W' := by
  have h1 : ¬ (256 : Int) < (m : Int) := by omega
  have h2 : ¬ (1024 : Int) < (vm : Int) := by omega
  have hc1 : IntAt (w.alloc (.cells (wcells xs m).toArray 49)) c vm vs := hc.kept (below_keeps ((Below.refl _ w).alloc (Nat.le_refl _) _))
  have hmk := run_make_row' (P := Ybad.prog) 22 49 (.int .u64 0) 8 Ybad.underlying22 info49 rfl .i64 .i64 m (by omega) (by omega)
  have hcp := copy_run a m cap 3 xs w ha
  obtain ⟨i0, hi, hz0, hz1, hz2⟩ := info_parts info21
  refine callsIn_of_wp_marks Ybad.func3 rfl trivial ?_ rfl
  simp only [Ybad.ntmps3, List.size_toArray, List.length_cons, List.length_nil, Nat.reduceAdd, Nat.reduceSub, Array.replicate_succ, Array.replicate_zero, List.push_toArray, List.append_toArray, List.nil_append, List.cons_append]
  gi_wp2_with fail
  refine ⟨trivial, (callsIn_wide.2 (pcs_any c vm vcap (64 * m) (64 * (m : Int)) (by omega) (by omega) hv vs _ hc1)).mono ?_⟩
  rintro e w' ⟨rfl, cur, hcs, hall, rfl⟩
  obtain ⟨C, hC4, hbl⟩ := build42 (w.heap.size + 1) (64 * m)
  gi_wp2_with (refine wpListIn_build rfl 42 4 _ rfl (.slice (some ⟨w.heap.size + 1, 0, none⟩) (64 * m) (64 * m)) rfl (.agg C) hbl ?_)
  refine ⟨trivial, (callsIn_wide.2 (instr_any (w.heap.size + 1 + 1) w.heap.size m _)).mono ?_⟩
  rintro e w' ⟨rfl, rfl⟩
  gi_wp2_with fail
  clear hmk hcp hbl hc1 hc
  change Code.wpIn _ _ _ _ _ _ (start w m xs cur C)
  have hsz := start_size w m xs cur C
  have hB0 := start_below w m xs cur C
  have hIt := start_it w m xs cur C hcs hall hC4 hT
  have hbx : Boxed (start w m xs cur C) (w.heap.size + 3) 23 (.slice none 0 0) := start_3 w m xs cur C
  clear hall hC4
  obtain ⟨ps, hps⟩ : ∃ ps, psOf cur = ps := ⟨_, rfl⟩
  rw [hps] at hIt
  clear hps hcs
  obtain ⟨W0, hW0⟩ : ∃ W0, start w m xs cur C = W0 := ⟨_, rfl⟩
  rw [hW0] at hsz hB0 hIt hbx ⊢
  clear hW0 cur
  have hAp : Apart (w.heap.size + 3) (w.heap.size + 6) (w.heap.size + 5) (w.heap.size + 4) w.heap.size (w.heap.size + 2) (w.heap.size + 1) := by
    have h0 : 0 < w.heap.size := World.block_lt_of_cell? _ _ (hT 0 (by omega))
    constructor <;> omega
  refine wpIn_rangeFunc_ownG rfl (by omega) (gf := 11) (lb := #[.pointer (some ⟨w.heap.size + 1 + 1 + 1 + 1 + 1, 0, none⟩), .pointer (some ⟨w.heap.size + 1 + 1 + 1 + 1, 0, none⟩)]) rfl trivial (enters_of Ybad.func11 (by kernel_rfl) rfl)
    (iter_stops (5 - 1) (by omega) (w.heap.size + 3) (w.heap.size + 6) (w.heap.size + 5) (w.heap.size + 4) w.heap.size (w.heap.size + 2) (w.heap.size + 1) m (64 * m) hm (Nat.le_refl _) xs ps hxs hAp W0 (by omega) hIt)
    (fun h k => h.trans k) (fun X l o o' hl _ _ _ => fun k hk _ => heap_putObj X l o' k (by omega)) (Below.refl _ _) (fun _ => rfl)
    (fun pre X => (∃ v, Boxed X (w.heap.size + 3) 23 v ∧ X.ownsRow (w.heap.size + 6) 21 1 v pre.length (vals ps pre) ∧ True) ∧ (w.heap.size + 6 ≤ X.heap.size ∧ KpB (w.heap.size + 3) (w.heap.size + 6) W0 X) ∧ Below w.heap.size w X)
    (fun _ _ _ => False)
    (OwnFrom.and (Own.from (holdsRow_own (w.heap.size + 6) (w.heap.size + 3) 23 21 1 (fun pre : List Nat => pre.length) (fun pre => vals ps pre) (fun _ _ => True)) _) (OwnFrom.and (kp_own _ _ W0 (by omega)) (ownFrom_below (Nat.le_refl _) (by omega))))
    (fun _ _ _ _ _ hs _ _ => hs)
    ⟨⟨_, hbx, World.ownsRow_nil _ _ _ _, trivial⟩, ⟨by omega, fun _ _ _ => rfl⟩, hB0⟩
    (fun x => { tmps := #[.slice a m cap, .slice c vm vcap, undef, undef, .bool false,
          .slice (some ⟨w.heap.size, 0, none⟩) m m,
          .slice (some ⟨w.heap.size + 1, 0, none⟩) (64 * m) (64 * m),
          .pointer (some ⟨w.heap.size + 1 + 1, 0, none⟩),
          .pointer (some ⟨w.heap.size + 1 + 1 + 1, 0, none⟩), .int .i32 (ps x), .slice a m cap,
          .int .i64 m, .bool false, .bool false, .slice c vm vcap,
          .int .i64 vm, .bool false, .bool false, .slice a m cap, .int .i64 m,
          .slice (some ⟨w.heap.size, 0, none⟩) m m,
          .slice (some ⟨w.heap.size, 0, none⟩) m m, .slice a m cap, .int .i64 m,
          .slice (some ⟨w.heap.size, 0, none⟩) m m, .int .i64 m,
          .int .i64 (64 * m), .slice c vm vcap,
          .slice (some ⟨w.heap.size + 1, 0, none⟩) (64 * m) (64 * m),
          .slice (some ⟨w.heap.size + 1, 0, none⟩) (64 * m) (64 * m), .agg C,
          .pointer (some ⟨w.heap.size + 1 + 1, 0, none⟩),
          .pointer (some ⟨w.heap.size + 1 + 1, 0, none⟩),
          .slice (some ⟨w.heap.size, 0, none⟩) m m,
          .func (.func 11) #[] #[.pointer (some ⟨w.heap.size + 1 + 1 + 1 + 1 + 1, 0, none⟩), .pointer (some ⟨w.heap.size + 1 + 1 + 1 + 1, 0, none⟩)],
          .int .i32 (ps x), undef, undef, undef, undef, undef, undef, undef, undef, undef, undef, undef, undef, undef, undef], defers := [] }) ?assign ?body ?done ?stop
  case assign =>
    intro l x W K hK
    gi_wp2
    exact hK
  case body =>
    rintro l pre x W ⟨⟨v, hv, hrow, _⟩, ⟨hge, hkp⟩, hB⟩ hlt
    have hcv := hv.cell
    have hil := Bt.idxs_le xs m
    gi_wp2_with (gi_at_builtin; refine wpListIn_append_own _ rfl _ _ 23 rfl (w.heap.size + 6) 21 i0 (.int .i32 0) 1 4 Ybad.underlying23 hi hz0 hz1 hz2 rfl (by decide) _ _ _ rfl (hrow.alloc _) ⟨W.heap.size, 0, none⟩ 1 1 [.int .i32 (ps x)] rfl rfl (cell_one_new _ _ _) (by simp [Value.oneCell']) (by unfold maxLen; omega) (by omega) (by simp; omega) ?_; intro v' w1 hown' hgrow _; obtain ⟨g', cap', rfl⟩ := ownsRow_succ hown'; obtain ⟨hv1, hv2, hr2, hk2, hb2, hkp2⟩ := collect hv hrow (by omega) (H := w.heap.size) (by omega) hge hown' hgrow; have hc1 := hv1.cell; have hf1 := hv1.frozen)
    exact ⟨hk2.from _, hkp2, ⟨_, hv2, by rw [vals_snoc]; simpa using hr2, trivial⟩, ⟨Nat.le_trans hge hb2.size, hkp.trans hkp2⟩, hB.trans hb2⟩
  case done =>
    rintro D ys W hD rfl ⟨⟨v, hv, hrow, _⟩, ⟨hge, hkp⟩, hB⟩ hK
    have hIt2 := hIt.kept hkp hAp
    have hWd : WordAt W.drew a m xs := ha.kept (below_keeps hB.drew)
    have hPd : ∀ j, j < 64 * m → W.drew.cell? ⟨w.heap.size + 1, j, none⟩ = some (.int .i32 (ps j)) := hIt2.pc
    have hSd : WordAt W (some ⟨w.heap.size, 0, none⟩) m xs := .inr ⟨_, 0, rfl, fun j hj => by rw [Nat.zero_add]; exact hIt2.ws j hj⟩
    have hcv := hv.cell
    have hgr : Row .i32 W v ((Bt.idxs xs m).map ps) := row_of_own (n := (Bt.idxs xs m).length) (by simp) (by rw [← vals_eq]; exact hrow)
    have hil := Bt.idxs_le xs m
    have hDlt : D < W.heap.size := (Array.getElem?_eq_some_iff.1 hK).1
    have HG : Hid (Row .i32 W.drew v ((Bt.idxs xs m).map ps)) := hgr.kept fun _ _ h => h
    have HS : Hid (WordAt W.drew (some ⟨w.heap.size, 0, none⟩) m xs) := hSd.kept fun _ _ h => h
    have HK : Hid (W.heap[D]? = some (.deferred (some []))) := hK
    clear hgr hSd hIt2 hIt hkp hrow hK hbx
    gi_wp2_with fail
    refine wpIn_then_false ?_
    gi_region_with (first
      | (refine ⟨trivial, ?_⟩; gi_at_call 8; refine (callsIn_wide.2 (model_any a m cap (w.heap.size + 1) (64 * m) hm xs ps _ hxs ?_ (Nat.le_refl _) (by omega) ?_)).mono ?_; (exact hWd); (exact hPd); rintro e w2 ⟨v2, rfl, hrow2, hB2⟩; have hcv2 := below_keeps hB2 _ _ hcv)
      | (refine ⟨trivial, ?_⟩; gi_at_call 7; refine (callsIn_wide.2 (eq_rows (zs := (Bt.idxs xs m).map ps) ?_ _ v v2 ?_ ?_)).mono ?_; (simp; omega); (exact HG.out.kept (below_keeps hB2)); (exact row_of_own (n := (Bt.idxs xs m).length) (by simp) (by rw [← vals_eq]; exact hrow2)); rintro e w3 ⟨rfl, n3, rfl⟩)
      | (refine ⟨trivial, ?_⟩; gi_at_call 9; refine (callsIn_wide.2 (equal_rows (zs := (List.range m).map fun j => (xs j : Int)) ?_ _ _ _ ?_ ?_)).mono ?_; (simp; omega); (exact row_word (HS.out.kept (fun p u h => drewN_keeps w2 n3 p u (below_keeps hB2 p u h)))); (exact row_word (hWd.kept (fun p u h => drewN_keeps w2 n3 p u (below_keeps hB2 p u h)))); rintro e w4 ⟨rfl, n4, rfl⟩))
    all_goals
      gi_wp2
      have hK4 : (w2.drewN (n3 + n4)).heap[D]? = some (.deferred (some [])) := (hB2.block D hDlt).trans HK.out
      refine ⟨by simp, .inl ⟨_, _, rfl, run_takeDeferred hK4, ?_⟩⟩
      refine ⟨_, results_tmp rfl _ _ _, rfl, ?_⟩
      exact (below_drewN (hB.drew.trans (hB2.mono (Nat.le_trans hB.size (Nat.le_refl _)))) (n3 + n4)).trans (belowK_b (w := w) (Nat.le_refl _) _ D _ _ (by omega) hK4 rfl rfl)
  case stop =>
    rintro D c pre W _ _ h _
    exact h.elim
end Go.Proofs.YbulkblukDoor
