import Derived.Test.YbulkblukDoorStopIter
namespace Go.Proofs.YbulkblukDoor
open Go.RowKit Go.Shelf Go.Deep

set_option maxHeartbeats 2000000 in
/-- 'func(v int32) bool { log = append(log, v); return len(log) < k }'. -/
theorem yield_any (H Bg Bk M n K : Nat) (z : Int) (v : Value) (vs : List Value) (W : World) (hv : Boxed W Bg 23 v) (hrow : W.ownsRow M 21 1 v n vs) (hn : n ≤ 16384) (hkc : W.cell? ⟨Bk, 0, none⟩ = some (.int .i64 (K : Int)))
    (hb : Bg < M) (hHb : H ≤ Bg) (hM : M ≤ W.heap.size) (hkM : Bk < M) (hne : Bk ≠ Bg) :
    Calls Ybad.prog 10 #[.int .i32 z, .pointer (some ⟨Bg, 0, none⟩), .pointer (some ⟨Bk, 0, none⟩)] W fun e W' =>
      e = .returned (.bool (decide (n + 1 < K))) ∧ (∃ v', Boxed W' Bg 23 v' ∧ W'.ownsRow M 21 1 v' (n + 1) (vs ++ [.int .i32 z])) ∧ KpB Bg M W W' ∧ Below H W W' := by
  obtain ⟨i0, hi, hz0, hz1, hz2⟩ := info_parts info21
  have hcv := hv.cell
  go_enter Ybad.func10, Ybad.ntmps10
  go_wp2_with (at_builtin; refine wpList_append_own _ rfl _ _ 23 rfl M 21 i0 (.int .i32 0) 1 4 Ybad.underlying23 hi hz0 hz1 hz2 rfl (by decide) _ _ _ rfl (hrow.alloc _) ⟨W.heap.size, 0, none⟩ 1 1 [.int .i32 z] rfl rfl (cell_one_new _ _ _) (by simp [Value.oneCell']) (by unfold maxLen; omega) (by omega) (by simp; omega) ?_; intro v' w1 hown' hgrow _; obtain ⟨g', cap', rfl⟩ := ownsRow_succ hown'; obtain ⟨hv1, hv2, hr2, hk2, hb2, hkp2⟩ := collect hv hrow hb (H := H) hHb hM hown' hgrow; have hc1 := hv1.cell; have hf1 := hv1.frozen; have hc2 := hv2.cell; have hk1 := (hkp2.cell (p := ⟨Bk, 0, none⟩) hkM hne).trans hkc)
  go_ret
  have hd : (decide ((n : Int) + 1 < (K : Int))) = decide (n + 1 < K) := decide_eq_decide.2 (by omega)
  exact ⟨by rw [← hd]; rfl, ⟨_, hv2, hr2⟩, hkp2, hb2⟩

theorem wpList_build {P : Program} {w : World} {ops : Array Oper} {rest : List Oper} {o : Oper} {a : Act} {Q : Exit → Act → World → Prop}
    (hg : o.guard = none) (t : TypeId) (i : Nat) (x : Operand) (hop : o.op = .build t #[(i, x)]) (s : Value) (hx : a.eval x = s) (v : Value) (hrun : ∀ w, (Instr.build t #[(i, s)]).run P w = .ok v w)
    (hK : wpList P ops Q rest (a.put o.dst v) w) : wpList P ops Q (o :: rest) a w := by
  refine wpList_plain hg fun K hK' => ?_
  unfold Oper.wp
  simp [execOp, hop, hx, hrun, Result.andThen]
  exact hK' _ _ hK

theorem own_form {w : World} {base : Nat} {e : TypeId} {size : Nat} {v : Value} {n : Nat} {xs : List Value} (h : w.ownsRow base e size v n xs) : ∃ a cap, v = .slice a n cap ∧ n ≤ cap := by
  rcases h.2 with ⟨rfl, rfl⟩ | ⟨g, cap, cur, rfl, _, _, hc, _⟩
  · exact ⟨none, 0, rfl, Nat.le_refl _⟩
  · exact ⟨_, cap, rfl, hc⟩

theorem row_take {k : IntKind} {w : World} {a : Option Addr} {n cap cap' K : Nat} {zs : List Int} (h : Row k w (.slice a n cap) zs) (hK : K ≤ zs.length) : Row k w (.slice a K cap') (zs.take K) := by
  obtain ⟨a', c', e, h⟩ := h
  simp only [Value.slice.injEq] at e
  obtain ⟨rfl, rfl, rfl⟩ := e
  refine ⟨a, cap', by rw [List.length_take, Nat.min_eq_left hK], ?_⟩
  rcases h with rfl | ⟨b, off, rfl, hc⟩
  · exact .inl (by simp)
  · refine .inr ⟨b, off, rfl, fun j hj => ?_⟩
    rw [List.length_take, Nat.min_eq_left hK] at hj
    rw [hc j (by omega), List.getElem?_take, if_pos hj]

/-- The world ahead of the sequence's call. -/
def start2 (w : World) (m K : Nat) (xs : Nat → Nat) (cur C : Array Value) : World :=
  ((((((w.alloc (.cells (wcells xs m).toArray 49)).alloc (.cells cur 21)).alloc (.cells C 42)).alloc (.cells #[.int .i64 (K : Int)] 3)).alloc (.cells #[.slice none 0 0] 23)).alloc (.cells #[.pointer (some ⟨w.heap.size + 1 + 1, 0, none⟩)] 25)).alloc (.cells #[.slice (some ⟨w.heap.size, 0, none⟩) m m] 22)

theorem start2_size (w : World) (m K : Nat) (xs : Nat → Nat) (cur C : Array Value) : (start2 w m K xs cur C).heap.size = w.heap.size + 7 := by simp [start2]
theorem start2_below (w : World) (m K : Nat) (xs : Nat → Nat) (cur C : Array Value) : Below w.heap.size w (start2 w m K xs cur C) :=
  (((((((Below.refl _ w).alloc (Nat.le_refl _) _).alloc (by simp) _).alloc (by simp; omega) _).alloc (by simp; omega) _).alloc (by simp; omega) _).alloc (by simp; omega) _).alloc (by simp; omega) _

theorem start2_at (w : World) (m K : Nat) (xs : Nat → Nat) (cur C : Array Value) :
    (start2 w m K xs cur C).heap[w.heap.size]? = some (.cells (wcells xs m).toArray 49) ∧ (start2 w m K xs cur C).heap[w.heap.size + 1]? = some (.cells cur 21) ∧ (start2 w m K xs cur C).heap[w.heap.size + 2]? = some (.cells C 42) ∧
    (start2 w m K xs cur C).heap[w.heap.size + 3]? = some (.cells #[.int .i64 (K : Int)] 3) ∧ (start2 w m K xs cur C).heap[w.heap.size + 4]? = some (.cells #[.slice none 0 0] 23) ∧
    (start2 w m K xs cur C).heap[w.heap.size + 5]? = some (.cells #[.pointer (some ⟨w.heap.size + 1 + 1, 0, none⟩)] 25) ∧ (start2 w m K xs cur C).heap[w.heap.size + 6]? = some (.cells #[.slice (some ⟨w.heap.size, 0, none⟩) m m] 22) := by
  have e : (start2 w m K xs cur C).heap = w.heap ++ #[.cells (wcells xs m).toArray 49, .cells cur 21, .cells C 42, .cells #[.int .i64 (K : Int)] 3, .cells #[.slice none 0 0] 23, .cells #[.pointer (some ⟨w.heap.size + 1 + 1, 0, none⟩)] 25, .cells #[.slice (some ⟨w.heap.size, 0, none⟩) m m] 22] := by
    show ((((((w.heap.push _).push _).push _).push _).push _).push _).push _ = _
    apply Array.ext'
    simp [Array.toList_push]
  rw [e]
  refine ⟨?_, ?_, ?_, ?_, ?_, ?_, ?_⟩ <;> (rw [Array.getElem?_append_right (by omega)]; simp)

theorem start2_it (w : World) (m K : Nat) (xs : Nat → Nat) (cur C : Array Value) (hcs : cur.size = 64 * m) (hall : AllI cur) (hC : C[4]? = some (.slice (some ⟨w.heap.size + 1, 0, none⟩) (64 * m) (64 * m))) (hT : TabAt w) :
    ItAt (start2 w m K xs cur C) (w.heap.size + 6) (w.heap.size + 5) w.heap.size (w.heap.size + 2) (w.heap.size + 1) m (64 * m) xs (psOf cur) := by
  obtain ⟨h0, h1, h2, h3, h4, h5, h6⟩ := start2_at w m K xs cur C
  constructor
  · simp [World.cell?, h6]
  · simp [World.cell?, h5]
  · simp [World.cell?, h2, hC]
  · intro j hj
    simp only [World.cell?, h0]
    simpa using wcells_at xs m j hj
  · intro j hj
    simp only [World.cell?, h1]
    simpa using hall.at (by omega)
  · exact fun i hi => below_keeps (start2_below w m K xs cur C) _ _ (hT i hi)

/-- Between two items: what the log holds; all else as it was. -/
def Inv (w W0 : World) (ps : Nat → Int) (pre : List Nat) (X : World) : Prop :=
  (∃ v, Boxed X (w.heap.size + 4) 23 v ∧ X.ownsRow (w.heap.size + 7) 21 1 v pre.length (vals ps pre)) ∧ (w.heap.size + 7 ≤ X.heap.size ∧ KpB (w.heap.size + 4) (w.heap.size + 7) W0 X) ∧ Below w.heap.size w X

theorem Inv.drew {w W0 : World} {ps : Nat → Int} {pre : List Nat} {X : World} (h : Inv w W0 ps pre X) : Inv w W0 ps pre X.drew :=
  ⟨h.1, h.2.1, h.2.2.drew⟩

set_option maxRecDepth 100000 in
set_option maxHeartbeats 4000000 in
theorem stop_walk (a : Option Addr) (m cap : Nat) (hm : m ≤ 256) (c : Option Addr) (vm vcap : Nat) (hv : vm ≤ 1024) (z : Int) (hz1 : 0 ≤ z) (hz2 : z ≤ 255) (K : Nat) (hKz : z % 70 + 1 = (K : Int)) (xs : Nat → Nat) (hxs : ∀ j, j < m → xs j < 18446744073709551616) (vs : Nat → Int) (w : World) (hT : TabAt w) (ha : WordAt w a m xs) (hc : IntAt w c vm vs) :
    Calls Ybad.prog 4 #[.slice a m cap, .slice c vm vcap, .int .u8 z] w fun e W' => e = .returned (.bool true) ∧ Below w.heap.size w W' := by
  have h1 : ¬ (256 : Int) < (m : Int) := by omega
  have h2 : ¬ (1024 : Int) < (vm : Int) := by omega
  have hK1 : 0 < K := by omega
  have hK2 : K ≤ 70 := by omega
  have hc1 : IntAt (w.alloc (.cells (wcells xs m).toArray 49)) c vm vs := hc.kept (below_keeps ((Below.refl _ w).alloc (Nat.le_refl _) _))
  have hmk := run_make_row' (P := Ybad.prog) 22 49 (.int .u64 0) 8 Ybad.underlying22 info49 rfl .i64 .i64 m (by omega) (by omega)
  have hcp := copy_run a m cap 3 xs w ha
  go_enter Ybad.func4, Ybad.ntmps4
  go_wp2_with fail
  refine (pcs_any c vm vcap (64 * m) (64 * (m : Int)) (by omega) (by omega) hv vs _ hc1).mono ?_
  rintro e w' ⟨rfl, cur, hcs, hall, rfl⟩
  obtain ⟨C, hC4, hbl⟩ := build42 (w.heap.size + 1) (64 * m)
  go_wp2_with (refine wpList_build rfl 42 4 _ rfl (.slice (some ⟨w.heap.size + 1, 0, none⟩) (64 * m) (64 * m)) rfl (.agg C) hbl ?_)
  refine (instr_any (w.heap.size + 1 + 1) w.heap.size m _).mono ?_
  rintro e w' ⟨rfl, rfl⟩
  go_wp2_with fail
  clear hmk hcp hbl hc1 hc hKz
  obtain ⟨s0, s1, s2, s3, s4, s5, s6⟩ := start2_at w m K xs cur C
  have hsz := start2_size w m K xs cur C
  have hB0 := start2_below w m K xs cur C
  have hIt := start2_it w m K xs cur C hcs hall hC4 hT
  have hbx : Boxed (start2 w m K xs cur C) (w.heap.size + 4) 23 (.slice none 0 0) := s4
  have hbk : (start2 w m K xs cur C).cell? ⟨w.heap.size + 3, 0, none⟩ = some (.int .i64 (K : Int)) := by simp [World.cell?, s3]
  clear hall hC4 s0 s1 s2 s3 s4 s5 s6
  obtain ⟨ps, hps⟩ : ∃ ps, psOf cur = ps := ⟨_, rfl⟩
  rw [hps] at hIt
  clear hps hcs
  have hAp : Apart (w.heap.size + 4) (w.heap.size + 7) (w.heap.size + 6) (w.heap.size + 5) w.heap.size (w.heap.size + 2) (w.heap.size + 1) := by
    have h0 : 0 < w.heap.size := World.block_lt_of_cell? _ _ (hT 0 (by omega))
    constructor <;> omega
  have hil := Bt.idxs_le xs m
  have hinv0 : Inv w (start2 w m K xs cur C) ps [] (start2 w m K xs cur C) := ⟨⟨_, hbx, World.ownsRow_nil _ _ _ _⟩, ⟨by omega, fun _ _ _ => rfl⟩, hB0⟩
  have hit := iter_fn (w.heap.size + 4) (w.heap.size + 3) K (w.heap.size + 4) (w.heap.size + 7) (w.heap.size + 6) (w.heap.size + 5) w.heap.size (w.heap.size + 2) (w.heap.size + 1) m (64 * m) hK1 hm (Nat.le_refl _) xs ps hxs hAp (Inv w (start2 w m K xs cur C) ps) (fun _ _ h => h.drew)
    (by
      rintro pre x X ⟨⟨v, hv, hrow⟩, ⟨hge, hkp⟩, hB⟩ _ hpl
      refine (yield_any w.heap.size (w.heap.size + 4) (w.heap.size + 3) (w.heap.size + 7) pre.length K (ps x) v (vals ps pre) X hv hrow (by omega) ((hkp.cell (p := ⟨w.heap.size + 3, 0, none⟩) (by simp) (by simp)).trans hbk) (by omega) (by omega) hge (by omega) (by omega)).mono ?_
      rintro e W' ⟨rfl, ⟨v', hv', hr'⟩, hk', hb'⟩
      exact ⟨rfl, ⟨⟨v', hv', by rw [vals_snoc]; simpa using hr'⟩, ⟨Nat.le_trans hge hb'.size, hkp.trans hk'⟩, hB.trans hb'⟩, hk'⟩)
    (start2 w m K xs cur C) hIt hinv0
  refine hit.mono ?_
  rintro e W ⟨⟨rv, rfl⟩, ⟨v, hv, hrow⟩, ⟨hge, hkp⟩, hB⟩
  have hIt2 := hIt.kept hkp hAp
  have hWd : WordAt W a m xs := ha.kept (below_keeps hB)
  have hPd : ∀ j, j < 64 * m → W.cell? ⟨w.heap.size + 1, j, none⟩ = some (.int .i32 (ps j)) := hIt2.pc
  have hSd : WordAt W (some ⟨w.heap.size, 0, none⟩) m xs := .inr ⟨_, 0, rfl, fun j hj => by rw [Nat.zero_add]; exact hIt2.ws j hj⟩
  have hcv := hv.cell
  have hkW := (hkp.cell (p := ⟨w.heap.size + 3, 0, none⟩) (by simp) (by simp)).trans hbk
  have HG : Hid (Row .i32 W v (((Bt.idxs xs m).map ps).take K)) := by
    rw [← List.map_take]
    exact row_of_own (n := ((Bt.idxs xs m).take K).length) (by simp) (by rw [← vals_eq]; exact hrow)
  clear hit hIt2 hIt hkp hrow hbx hbk hinv0 hB0 hsz
  go_wp2_with fail
  refine (model_any a m cap (w.heap.size + 1) (64 * m) hm xs ps _ hxs hWd (Nat.le_refl _) (by omega) hPd).mono ?_
  rintro e w2 ⟨v2, rfl, hrow2, hB2⟩
  have hcv2 := below_keeps hB2 _ _ hcv
  have hkW2 := below_keeps hB2 _ _ hkW
  have HR2 : Hid (Row .i32 w2 v2 ((Bt.idxs xs m).map ps)) := row_of_own (n := (Bt.idxs xs m).length) (by simp) (by rw [← vals_eq]; exact hrow2)
  have HG2 : Hid (Row .i32 w2 v (((Bt.idxs xs m).map ps).take K)) := HG.out.kept (below_keeps hB2)
  by_cases hL : K < (Bt.idxs xs m).length
  · obtain ⟨g2, cap2, rfl, hcap2⟩ : ∃ g cap, v2 = .slice (some ⟨g, 0, none⟩) (Bt.idxs xs m).length cap ∧ (Bt.idxs xs m).length ≤ cap := by
      rcases hrow2.2 with ⟨_, h0⟩ | ⟨g, cap, cur, e, _, _, hcp, _⟩
      · omega
      · exact ⟨g, cap, e, hcp⟩
    clear hrow2 hcv hkW
    go_wp2_with fail
    refine (eq_rows (zs := ((Bt.idxs xs m).map ps).take K) (by simp; omega) _ v _ HG2.out (row_take HR2.out (by simp; omega))).mono ?_
    rintro e w3 ⟨rfl, n3, rfl⟩
    go_wp2_with fail
    refine (equal_rows (zs := (List.range m).map fun j => (xs j : Int)) (by simp; omega) _ _ _ (row_word (hSd.kept (fun p u h => drewN_keeps w2 n3 p u (below_keeps hB2 p u h)))) (row_word (hWd.kept (fun p u h => drewN_keeps w2 n3 p u (below_keeps hB2 p u h))))).mono ?_
    rintro e w4 ⟨rfl, n4, rfl⟩
    go_wp2
    go_ret
    exact ⟨rfl, below_drewN (hB.trans (hB2.mono hB.size)) _⟩
  · obtain ⟨a2, cap2, rfl, hcap2⟩ := own_form hrow2
    clear hrow2 hcv hkW
    go_wp2_with fail
    have HG3 : Hid (Row .i32 w2 v ((Bt.idxs xs m).map ps)) := by
      have := HG2.out
      rwa [List.take_of_length_le (by simp; omega)] at this
    refine (eq_rows (zs := (Bt.idxs xs m).map ps) (by simp; omega) _ v _ HG3.out HR2.out).mono ?_
    rintro e w3 ⟨rfl, n3, rfl⟩
    go_wp2_with fail
    refine (equal_rows (zs := (List.range m).map fun j => (xs j : Int)) (by simp; omega) _ _ _ (row_word (hSd.kept (fun p u h => drewN_keeps w2 n3 p u (below_keeps hB2 p u h)))) (row_word (hWd.kept (fun p u h => drewN_keeps w2 n3 p u (below_keeps hB2 p u h))))).mono ?_
    rintro e w4 ⟨rfl, n4, rfl⟩
    go_wp2
    go_ret
    exact ⟨rfl, below_drewN (hB.trans (hB2.mono hB.size)) _⟩
end Go.Proofs.YbulkblukDoor
