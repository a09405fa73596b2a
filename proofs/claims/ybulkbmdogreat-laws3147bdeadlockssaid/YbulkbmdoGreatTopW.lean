import Derived.Test.YbulkbmdoGreatTopW0
import Derived.Test.YbulkbmdoGreatShelf2
import Derived.Test.YbulkbmdoGreatCores
namespace Go.Proofs.YbulkbmdoGreat
open Go.RowKit Go.Shelf
set_option linter.unusedVariables false

/-- slices.Insert(top, 0, 1): top was empty, or [1]; there is room. -/
theorem insert_top (o : Nat → Nat) (wr : World) (tb L : Nat) (h : Rw o wr 97 tb 3 2 []) (hL : L = 0 ∨ (L = 1 ∧ wr.cell? ⟨tb, 0, none⟩ = some (.int .i64 1))) :
    Calls Ybaz.prog 119 #[.slice (some ⟨tb, 0, none⟩) L 2, .int .i64 0, .slice (some ⟨wr.heap.size, 0, none⟩) 1 1] (wr.alloc (.cells #[.int .i64 1] 3)) fun e w' => e = .returned (.slice (some ⟨tb, 0, none⟩) (L + 1) 2) ∧ ∃ o', Rw o' w' 97 tb 3 2 [] ∧ w'.cell? ⟨tb, 0, none⟩ = some (.int .i64 1) ∧ Step [97] o wr o' w' := by
  have s1 := Step.alloc [] o wr (.cells #[.int .i64 1] 3) 99
  have bx := Ob.new o wr 99 3 #[.int .i64 1]
  have h1 := h.step s1 (by simp)
  have hlt := h.lt
  have hvs : ∀ j v, [Value.int .i64 1][j]? = some v → (wr.alloc (.cells #[.int .i64 1] 3)).cell? ⟨wr.heap.size, 0 + j, none⟩ = some v := by
    intro j v hv
    match j, hv with
    | 0, hv => have := bx.cell 0; rw [this]; simpa using hv
    | j + 1, hv => simp at hv
  rcases hL with rfl | ⟨rfl, hc⟩
  · have hk := Any2.slices_Insert_int_end_room Ybaz.laysNm221 tb 0 0 2 wr.heap.size 0 1 1 [.int .i64 1] (wr.alloc (.cells #[.int .i64 1] 3)) (by omega) (by omega) (by omega) rfl (fun j hj => by obtain ⟨u, hu⟩ := h1.has (0 + 0 + j) (by omega); rw [hu]; rfl) (fun j hj => h1.frozen _) hvs (by simp [Value.oneCell'])
    refine Calls.mono hk ?_
    rintro e w' ⟨rfl, rfl⟩
    refine ⟨rfl, _, h1.set 0 (.int .i64 1), ?_, (s1.mono (by simp)).trans (h1.sset 0 (.int .i64 1) (by simp))⟩
    exact (h1.push1 (.int .i64 1) (by simp)).cell 0 (by simp)
  · obtain ⟨cur, hb, hs, _⟩ := h1.blk
    have hc1 := (s1.cell (p := ⟨tb, 0, none⟩) hlt (by simp)).trans hc
    have hk := Any2.slices_Insert_int_shift Ybaz.laysNm221 tb 0 1 2 0 wr.heap.size 0 1 1 [.int .i64 1] [.int .i64 1] (wr.alloc (.cells #[.int .i64 1] 3)) (by omega) (by omega) (by omega) (by omega) (by omega) rfl rfl
      (fun j v hv => by
        match j, hv with
        | 0, hv => rw [show (⟨tb, 0 + 0, none⟩ : Addr) = ⟨tb, 0, none⟩ from rfl, hc1]; simpa using hv
        | j + 1, hv => simp at hv)
      (fun j hj => by obtain ⟨u, hu⟩ := h1.has (0 + j) (by omega); rw [hu]; rfl) (fun j hj => h1.frozen _) hvs (by simp [Value.oneCell']) (by simp [Value.oneCell'])
      3 3 1 2 (by unfold World.shape?; rw [bx.blk]; rfl) (by unfold World.shape?; rw [hb]; simp [hs]) (by omega) (bx.frozen 0) (bx.frozen 1)
    refine Calls.mono hk ?_
    rintro e w' ⟨rfl, rfl⟩
    have h2 := h1.step (Step.drew [] _ _) (by simp)
    have h3 : Rw (tg o wr.heap.size 99) ((wr.alloc (.cells #[.int .i64 1] 3)).drew.setCells tb (0 + (0 + 1)) (List.drop 0 [.int .i64 1])) 97 tb 3 2 [] := h2.set 1 (.int .i64 1)
    have s2 : Step [97] o wr (tg o wr.heap.size 99) ((wr.alloc (.cells #[.int .i64 1] 3)).drew.setCells tb (0 + (0 + 1)) (List.drop 0 [.int .i64 1])) := ((s1.mono (by simp)).trans (Step.drew [97] _ _)).trans (h2.sset 1 (.int .i64 1) (by simp))
    refine ⟨rfl, _, h3.set 0 (.int .i64 1), ?_, s2.trans (h3.sset 0 (.int .i64 1) (by simp))⟩
    exact (h3.push1 (.int .i64 1) (by simp)).cell 0 (by simp)

/-- Behind a call that wrote one new block b alone. -/
theorem Step.past {T : List Nat} {o o3 o' : Nat → Nat} {W wr w' : World} (h : Step T o W o3 wr) {b : Nat} (hb : W.heap.size ≤ b) (h2 : Step [97] (fun k => if k = b then 97 else 0) wr o' w') : ∃ o4, (∀ k, k < wr.heap.size → o4 k = o3 k) ∧ Step T o W o4 w' ∧ ∀ k, k < wr.heap.size → k ≠ b → w'.heap[k]? = wr.heap[k]? := by
  have key : ∀ k, k < wr.heap.size → k ≠ b → w'.heap[k]? = wr.heap[k]? := fun k hk hne => h2.block k hk (by simp [hne])
  refine ⟨fun k => if k < wr.heap.size then o3 k else 99, fun k hk => by simp [hk], ⟨h2.os.trans h.os, h2.tape.trans h.tape, h2.output.trans h.output, Nat.le_trans h.size h2.size, fun k hk => ?_, fun k hk hn => ?_⟩, key⟩
  · have := h.size
    simp only [show k < wr.heap.size by omega, if_true]
    exact h.own k hk
  · have := h.size
    rw [key k (by omega) (by omega)]; exact h.block k hk hn
theorem Rw.same {o o' : Nat → Nat} {W W' : World} {t b : Nat} {e : TypeId} {N : Nat} {xs : List Value} (h : Rw o W t b e N xs) (hk : W'.heap[b]? = W.heap[b]?) (ht : o' b = o b) : Rw o' W' t b e N xs := by
  obtain ⟨c, hc, r⟩ := h.blk
  exact ⟨⟨c, hk.trans hc, r⟩, h.le, ht.trans h.tag⟩
theorem Ob.same {o o' : Nat → Nat} {W W' : World} {t b : Nat} {ty : TypeId} {C : Array Value} (h : Ob o W t b ty C) (hk : W'.heap[b]? = W.heap[b]?) (ht : o' b = o b) : Ob o' W' t b ty C := ⟨hk.trans h.blk, ht.trans h.tag⟩

set_option maxRecDepth 100000 in
set_option maxHeartbeats 4000000 in
/-- s.topWeights(1). -/
theorem topWeights_any (o : Nat → Nat) (W : World) (R S : Nat) (s : RS) (pv uv : Value) (g : GS) (tgt : Nat → Option Nat) (v : VSt) (cs : List Nat) (idx lf nx : Nat → Nat) (sl : Nat → Int) (sb : Nat) (hX : Cx g tgt cs idx lf nx sl) (h : VG o W R S s pv uv g tgt v cs idx lf nx sl sb) :
    Calls Ybaz.prog 103 #[.pointer (some ⟨S, 0, none⟩), .int .i64 1] W fun e w' => (∃ r, e = .returned r) ∧ ∃ (o' : Nat → Nat) (twb cap : Nat), VG o' w' R S s pv uv g tgt { v with topW := .slice (some ⟨twb, 0, none⟩) ((cs.length + 1) * 2) cap } cs idx lf nx sl sb ∧ (∀ m, m ≤ cs.length → w'.cell? ⟨twb, m * 2, none⟩ = some (.int .i64 0)) ∧ o' twb = 42 ∧ Step [20, 42] o W o' w' := by
  have hne := hX.cyc.ne
  have hcl := hX.cyc.le
  have hn3 := hX.n
  obtain ⟨cb, ccap, hcv, hc1, hc2, htc, hltc⟩ := h.sa.cands.some_of (by rw [ints_length]; exact hne)
  rw [ints_length] at hcv hc1
  obtain ⟨at0, nt, ct, htw, htl, hslt⟩ := h.tw
  obtain ⟨wb, wcap, hwv, twb0, hwc⟩ := h.wts
  have hctm : ct ≤ 9223372036854775807 := by
    rcases hslt.room with ⟨_, rfl⟩ | ⟨_, _, _, _, _, _, hm⟩
    · omega
    · unfold maxLen at hm; omega
  have x7 : W.cell? ⟨S, 7, none⟩ = some (.slice (some ⟨cb, 0, none⟩) cs.length ccap) := by rw [← hcv]; exact h.sa.ob.cell 7
  have x21 : W.cell? ⟨S, 21, none⟩ = some (.slice at0 nt ct) := by rw [← htw]; exact h.sa.ob.cell 21
  have ob0 := h.sa.ob
  have hgr := (grow_any o W 42 at0 ct ((cs.length + 1) * 2) hslt (by omega)).mono (R' := fun e w1 => ∃ (o1 : Nat → Nat) (twb cap1 : Nat), e = .returned (.slice (some ⟨twb, 0, none⟩) 0 cap1) ∧ ((cs.length : Int) + 1) * 2 ≤ (cap1 : Int) ∧ cap1 ≤ 9223372036854775807 ∧ w1.cell? ⟨S, 21, none⟩ = some (.slice at0 nt ct) ∧ w1.frozen? ⟨S, 21, none⟩ = false ∧ (w1.setCell ⟨S, 21, none⟩ (.slice (some ⟨twb, 0, none⟩) ((cs.length + 1) * 2) cap1)).cell? ⟨S, 21, none⟩ = some (.slice (some ⟨twb, 0, none⟩) ((cs.length + 1) * 2) cap1) ∧ ∃ W3, (Builtin.clear_ #[24] 0 #[.slice (some ⟨twb, cs.length * 2, none⟩) ((cs.length + 1) * 2 - cs.length * 2) (cap1 - cs.length * 2)]).run Ybaz.prog (w1.setCell ⟨S, 21, none⟩ (.slice (some ⟨twb, 0, none⟩) ((cs.length + 1) * 2) cap1)) = .ok (.tuple #[]) W3 ∧ Hid (Ob o1 W3 20 S 63 (vcells { v with topW := .slice (some ⟨twb, 0, none⟩) ((cs.length + 1) * 2) cap1 }) ∧ Rw o1 W3 42 twb 3 cap1 [] ∧ W3.cell? ⟨twb, cs.length * 2, none⟩ = some (.int .i64 0) ∧ cap1 ≤ maxLen ∧ Step [20, 42] o W o1 W3)) (by
    rintro e w1 ⟨o1, a1, cap1, rfl, hle1, sl1, s1⟩
    obtain ⟨twb, rfl, rw1, hm1⟩ := sl1.rw hle1 (by omega)
    have ob1 := ob0.step s1 (by simp)
    have sS := ob1.sset 21 (.slice (some ⟨twb, 0, none⟩) ((cs.length + 1) * 2) cap1) (T := [20]) (by simp)
    have ob2 := ob1.set 21 (.slice (some ⟨twb, 0, none⟩) ((cs.length + 1) * 2) cap1)
    have rw2 := rw1.step sS (by simp)
    have hzv : ∀ w, (zeroValue 3).run Ybaz.prog w = .ok (.int .i64 0) w := fun w => by kernel_rfl
    have e9 : (cs.length + 1) * 2 - cs.length * 2 = 2 := by omega
    have hr := Lib.run_clear_slice (P := Ybaz.prog) (w1.setCell ⟨S, 21, none⟩ (.slice (some ⟨twb, 0, none⟩) ((cs.length + 1) * 2) cap1)) 24 3 0 (.int .i64 0) Ybaz.underlying24 hzv rfl rfl twb (cs.length * 2) 2 (cap1 - cs.length * 2) (by omega) (fun j hj => by obtain ⟨u, hu⟩ := rw2.has (cs.length * 2 + j) (by omega); rw [hu]; rfl) (fun j hj => rw2.frozen _)
    have rw3 := rw2.set (cs.length * 2) (.int .i64 0)
    have sA := rw2.sset (cs.length * 2) (.int .i64 0) (T := [42]) (by simp)
    have rw4 := rw3.set (cs.length * 2 + 1) (.int .i64 0)
    have sB := rw3.sset (cs.length * 2 + 1) (.int .i64 0) (T := [42]) (by simp)
    have c9 : ((w1.setCell ⟨S, 21, none⟩ (.slice (some ⟨twb, 0, none⟩) ((cs.length + 1) * 2) cap1)).setCell ⟨twb, cs.length * 2, none⟩ (.int .i64 0)).cell? ⟨twb, cs.length * 2, none⟩ = some (.int .i64 0) := by
      obtain ⟨u, hu⟩ := rw2.has (cs.length * 2) (by omega)
      exact World.cell?_setCell_same _ _ _ hu
    refine ⟨o1, twb, cap1, rfl, by omega, by unfold maxLen at hm1; omega, ?_, ob1.frozen 21, ob2.cell 21, _, by rw [e9]; exact hr, (ob2.step sA (by simp)).step sB (by simp), rw4, ?_, hm1, ((s1.mono (by simp)).trans (sS.mono (by simp))).trans ((sA.mono (by simp)).trans (sB.mono (by simp)))⟩
    · rw [← htw]; exact ob1.cell 21
    · refine (World.cell?_setCell_other _ _ _ _ ?_).trans c9
      intro e8
      simp at e8)
  have HGr := hid hgr
  have e2 : (((cs.length + 1) * 2 : Nat) : Int) = ((cs.length : Int) + 1) * 2 := by omega
  rw [e2] at HGr
  have H0 := hid h
  have hw1 : IntKind.i64.wrap (((cs.length : Int) + 1) * 2) = ((cs.length : Int) + 1) * 2 := by rw [IntKind.wrap_i64]; omega
  have hw2 : IntKind.i64.wrap ((cs.length : Int) + 1) = (cs.length : Int) + 1 := by rw [IntKind.wrap_i64]; omega
  have hw3 : IntKind.i64.wrap ((cs.length : Int) * 2) = (cs.length : Int) * 2 := by rw [IntKind.wrap_i64]; omega
  have b1 : (cs.length : Int) * 2 ≤ ((cs.length : Int) + 1) * 2 := by omega
  have b2 : ((cs.length : Int) * 2).toNat = cs.length * 2 := by omega
  have b3 : (0 : Int) ≤ (cs.length : Int) * 2 := by omega
  have m2 : ∀ w : World, (Instr.makeSlice 24 (.int .i64 0) (.int .i64 2)).run Ybaz.prog w = .ok (.slice (some ⟨w.heap.size, 0, none⟩) 0 2) (w.alloc (.cells (madeCells #[.int .i64 0] 2) 3)) := fun w => by
    obtain ⟨i0, hi0, hz0, hz1, hz2⟩ := info_parts info3
    have hr := run_make (P := Ybaz.prog) w 24 3 i0 (.int .i64 0) Ybaz.underlying24 hi0 hz0 .i64 .i64 0 2 (by omega) (by omega) (by rw [hz2]; decide) (by omega)
    simpa [hz1, Value.cells] using hr
  have Hwv := hid hwv
  have Hwc := hid hwc
  clear h hslt e2 hgr ob0 hcv hwv htw hwc
  go_enter Ybaz.func103, Ybaz.ntmps103
  go_wp2_with (go_at_call 34; refine HGr.out.mono ?_; rintro e w1 ⟨o1, twb, cap1, rfl, hle1, hcm1, y21, f21, z21, W3, hr3, H1⟩)
  clear y21 f21 z21 hr3 x21
  obtain ⟨X, o2, tb, e4, z4, k4, t4, s4⟩ := alloc_step' o1 W3 97 (.cells (madeCells #[.int .i64 0] 2) 3)
  rw [e4, z4]
  have rwT : Rw o2 X 97 tb 3 2 [] := ⟨⟨_, k4, size_madeCells _ _, fun j hj => by simp at hj⟩, by simp, t4⟩
  obtain ⟨obH, rwH, cH, hmH, sH⟩ := H1.out
  have htbn : W.heap.size ≤ tb := by rw [← z4]; exact sH.size
  have HL := hid (And.intro rwT (And.intro (obH.step s4 (by simp)) (And.intro (rwH.step s4 (by simp)) (And.intro ((s4.cell (p := ⟨twb, cs.length * 2, none⟩) rwH.lt (by simp)).trans cH) (sH.trans (s4.mono (T' := [20, 42]) (by simp)))))))
  have HmH := hid hmH
  clear rwT obH rwH cH hmH sH k4 t4 s4 e4 z4 H1 m2 x7
  go_loopw [5, 6] (fun x q wr => ∃ (i L : Nat) (o1 : Nat → Nat), q = .int .i64 ((i : Int) - 1) ∧ i ≤ cs.length ∧ x = .slice (some ⟨tb, 0, none⟩) L 2 ∧ (L = 0 ∨ (L = 1 ∧ wr.cell? ⟨tb, 0, none⟩ = some (.int .i64 1))) ∧ Rw o1 wr 97 tb 3 2 [] ∧ Rw o1 wr 42 twb 3 cap1 [] ∧ (∀ m, i ≤ m → m ≤ cs.length → wr.cell? ⟨twb, m * 2, none⟩ = some (.int .i64 0)) ∧ Ob o1 wr 20 S 63 (vcells { v with topW := .slice (some ⟨twb, 0, none⟩) ((cs.length + 1) * 2) cap1 }) ∧ Step [20, 42] o W o1 wr) (fun _ q _ => (intOf q + 1).toNat)
  case atStart =>
    obtain ⟨h1, h2, h3, h4, h5⟩ := HL.out
    refine ⟨cs.length, 0, o2, by simp, by omega, rfl, .inl rfl, h1, h3, fun m hm1 hm2 => ?_, h2, h5⟩
    have : m = cs.length := by omega
    subst this; exact h4
  case round =>
    clear HL
    obtain ⟨i, L, o3, rfl, hi, rfl, hLc, rT, rW, hev, ob3, s3⟩ := hrel
    cases i with
    | zero =>
      have HF := hid (And.intro rW (And.intro hev (And.intro ob3 s3)))
      have b4 : ¬ (0 : Int) ≤ ((0 : Nat) : Int) - 1 := by omega
      clear rW hev ob3 s3 rT
      go_wp2
      go_end0
      obtain ⟨rW, hev, ob3, s3⟩ := HF.out
      have V0 := H0.out
      obtain ⟨qn, qbl, Q0⟩ := V0.q
      refine ⟨⟨_, rfl⟩, o3, twb, ⟨cap1, V0.turn hne s3 (by decide) (V0.r.step s3 (by decide) (by decide) (by decide) (by decide)) (V0.ng.step s3 (by decide) rfl rfl rfl rfl rfl rfl) ob3 ⟨rfl, rfl, rfl, rfl, rfl, rfl, rfl, rfl, rfl, rfl, rfl, rfl⟩ rfl rfl (V0.cnt.step s3 (by decide)) (V0.shr.step s3 (by decide)) ⟨qn, qbl, Q0.step s3 (by decide) (by simp; omega)⟩ (V0.co.step s3 (by decide)) (V0.cl.step s3 (by decide)) ⟨_, _, cap1, rfl, by omega, rW.sl HmH.out⟩⟩, fun m hm => hev m (by omega) hm, rW.tag, s3.mono (by decide)⟩
    | succ j =>
      have hj : j < cs.length := by omega
      have y9 : wr.cell? ⟨S, 9, none⟩ = some (.slice (some ⟨wb, 0, none⟩) cs.length wcap) := by rw [← Hwv.out]; exact ob3.cell 9
      have yw : wr.cell? ⟨wb, j, none⟩ = some (.int .i64 1) := (s3.cell (p := ⟨wb, j, none⟩) (World.block_lt_of_cell? _ _ (Hwc.out j hj)) (by rw [twb0]; decide)).trans (Hwc.out j hj)
      have HB : Hid (Calls Ybaz.prog 117 #[.slice (some ⟨tb, 0, none⟩) L 2, .int .i64 1, .func (.func 118) #[] #[]] wr fun e w' => (∃ b, e = .returned (.tuple #[.int .i64 0, .bool b])) ∧ w' = wr) := by
        rcases hLc with rfl | ⟨rfl, hc⟩
        · exact (bs_zero _ _ wr).mono fun e w' ⟨h1, h2⟩ => ⟨⟨_, h1⟩, h2⟩
        · exact (bs_one _ _ wr hc).mono fun e w' ⟨h1, h2⟩ => ⟨⟨_, h1⟩, h2⟩
      have HI := hid (insert_top (fun k => if k = tb then 97 else 0) wr tb L (rT.same rfl (by simp [rT.tag])) hLc)
      have hL1 : L ≤ 1 := by rcases hLc with rfl | ⟨rfl, _⟩ <;> omega
      have HF := hid (And.intro rT (And.intro rW (And.intro hev (And.intro ob3 s3))))
      have b4 : (0 : Int) ≤ ((j + 1 : Nat) : Int) - 1 := by omega
      have e4 : ((j + 1 : Nat) : Int) - 1 = (j : Int) := by omega
      rw [e4]
      have b5 : (j : Int) < (cs.length : Int) := by omega
      have b6 : (j : Int) ≤ 300 := by omega
      have hw4 : IntKind.i64.wrap ((j : Int) * 2) = (j : Int) * 2 := by rw [IntKind.wrap_i64]; omega
      clear rT rW hev ob3 s3 hLc e4
      have hmin : (min ((L : Int) + 1) 1).toNat = 1 := by omega
      have hmin2 : min ((L : Int) + 1) 1 = 1 := by omega
      have b7 : (j : Int) * 2 ≤ ((cs.length : Int) + 1) * 2 := by omega
      have b8 : ((j : Int) * 2).toNat = j * 2 := by omega
      have b9 : (0 : Int) ≤ (j : Int) * 2 := by omega
      have b10 : ¬ cap1 = j * 2 := by omega
      have b11 : (0 : Int) < (((cs.length + 1) * 2 - j * 2 : Nat) : Int) := by omega
      have b12 : (1 : Int) < (((cs.length + 1) * 2 - j * 2 : Nat) : Int) := by omega
      have b13 : 0 < (cs.length + 1) * 2 - j * 2 := by omega
      have b14 : 1 < (cs.length + 1) * 2 - j * 2 := by omega
      have HP : Hid (∀ (o5 : Nat → Nat) (w5 : World), Rw o5 w5 97 tb 3 2 [] → w5.cell? ⟨tb, 0, none⟩ = some (.int .i64 1) → Step [97] (fun k => if k = tb then 97 else 0) wr o5 w5 → w5.cell? ⟨S, 21, none⟩ = some (.slice (some ⟨twb, 0, none⟩) ((cs.length + 1) * 2) cap1) ∧ (∃ u, w5.cell? ⟨twb, j * 2, none⟩ = some u) ∧ w5.frozen? ⟨twb, j * 2, none⟩ = false ∧ (w5.setCell ⟨twb, j * 2, none⟩ (.int .i64 0)).cell? ⟨twb, j * 2, none⟩ = some (.int .i64 0) ∧ (∃ u2, (w5.setCell ⟨twb, j * 2, none⟩ (.int .i64 0)).cell? ⟨twb, j * 2 + 1, none⟩ = some u2) ∧ (w5.setCell ⟨twb, j * 2, none⟩ (.int .i64 0)).frozen? ⟨twb, j * 2 + 1, none⟩ = false ∧ ((w5.setCell ⟨twb, j * 2, none⟩ (.int .i64 0)).setCell ⟨twb, j * 2 + 1, none⟩ (.int .i64 0)).cell? ⟨twb, j * 2 + 1, none⟩ = some (.int .i64 0) ∧ ((w5.setCell ⟨twb, j * 2, none⟩ (.int .i64 0)).setCell ⟨twb, j * 2 + 1, none⟩ (.int .i64 0)).frozen? ⟨twb, j * 2 + 1, none⟩ = false ∧ ((w5.setCell ⟨twb, j * 2, none⟩ (.int .i64 0)).setCell ⟨twb, j * 2 + 1, none⟩ (.int .i64 0)).cell? ⟨tb, 0, none⟩ = some (.int .i64 1) ∧ Hid (∃ o6, Rw o6 ((((w5.setCell ⟨twb, j * 2, none⟩ (.int .i64 0)).setCell ⟨twb, j * 2 + 1, none⟩ (.int .i64 0)).setCell ⟨twb, j * 2 + 1, none⟩ (.int .i64 1)).drew) 97 tb 3 2 [] ∧ ((((w5.setCell ⟨twb, j * 2, none⟩ (.int .i64 0)).setCell ⟨twb, j * 2 + 1, none⟩ (.int .i64 0)).setCell ⟨twb, j * 2 + 1, none⟩ (.int .i64 1)).drew).cell? ⟨tb, 0, none⟩ = some (.int .i64 1) ∧ Rw o6 ((((w5.setCell ⟨twb, j * 2, none⟩ (.int .i64 0)).setCell ⟨twb, j * 2 + 1, none⟩ (.int .i64 0)).setCell ⟨twb, j * 2 + 1, none⟩ (.int .i64 1)).drew) 42 twb 3 cap1 [] ∧ (∀ m, j ≤ m → m ≤ cs.length → ((((w5.setCell ⟨twb, j * 2, none⟩ (.int .i64 0)).setCell ⟨twb, j * 2 + 1, none⟩ (.int .i64 0)).setCell ⟨twb, j * 2 + 1, none⟩ (.int .i64 1)).drew).cell? ⟨twb, m * 2, none⟩ = some (.int .i64 0)) ∧ Ob o6 ((((w5.setCell ⟨twb, j * 2, none⟩ (.int .i64 0)).setCell ⟨twb, j * 2 + 1, none⟩ (.int .i64 0)).setCell ⟨twb, j * 2 + 1, none⟩ (.int .i64 1)).drew) 20 S 63 (vcells { v with topW := .slice (some ⟨twb, 0, none⟩) ((cs.length + 1) * 2) cap1 }) ∧ Step [20, 42] o W o6 ((((w5.setCell ⟨twb, j * 2, none⟩ (.int .i64 0)).setCell ⟨twb, j * 2 + 1, none⟩ (.int .i64 0)).setCell ⟨twb, j * 2 + 1, none⟩ (.int .i64 1)).drew))) := by
        intro o5 w5 rT5 cT5 s5
        obtain ⟨rT, rW, hev, ob3, s3⟩ := HF.out
        obtain ⟨o6, ho6, s6, key⟩ := s3.past htbn s5
        have n1 : twb ≠ tb := fun e => by have h1 := rT.tag; have h2 := rW.tag; rw [e] at h2; omega
        have n2 : S ≠ tb := fun e => by have h1 := rT.tag; have h2 := ob3.tag; rw [e] at h2; omega
        have rW6 : Rw o6 w5 42 twb 3 cap1 [] := rW.same (key _ rW.lt n1) (ho6 _ rW.lt)
        have ob6 := ob3.same (key _ ob3.lt n2) (ho6 _ ob3.lt)
        have rT6 : Rw o6 w5 97 tb 3 2 [] := rT5.same rfl ((ho6 _ rT.lt).trans (rT.tag.trans rT5.tag.symm))
        have hev6 : ∀ m, j + 1 ≤ m → m ≤ cs.length → w5.cell? ⟨twb, m * 2, none⟩ = some (.int .i64 0) := fun m h1 h2 => (World.cell?_of_block (w := wr) (a := ⟨twb, m * 2, none⟩) (key _ rW.lt n1)).trans (hev m h1 h2)
        obtain ⟨u0, hu0⟩ := rW6.has (j * 2) (by omega)
        have rA := rW6.set (j * 2) (.int .i64 0)
        have sA := rW6.sset (j * 2) (.int .i64 0) (T := [42]) (by simp)
        have rB := rA.set (j * 2 + 1) (.int .i64 0)
        have sB := rA.sset (j * 2 + 1) (.int .i64 0) (T := [42]) (by simp)
        have rC := rB.set (j * 2 + 1) (.int .i64 1)
        have sC := (rB.sset (j * 2 + 1) (.int .i64 1) (T := [42]) (by simp)).trans (Step.drew [42] o6 _)
        have sABC := sA.trans (sB.trans sC)
        obtain ⟨u1, hu1⟩ := rA.has (j * 2 + 1) (by omega)
        have cA := World.cell?_setCell_same w5 ⟨twb, j * 2, none⟩ (.int .i64 0) hu0
        have cB := World.cell?_setCell_same (w5.setCell ⟨twb, j * 2, none⟩ (.int .i64 0)) ⟨twb, j * 2 + 1, none⟩ (.int .i64 0) hu1
        have cT7 := ((sA.trans sB).cell (p := ⟨tb, 0, none⟩) rT6.lt (by show o6 tb ∉ [42]; rw [rT6.tag]; decide)).trans cT5
        have far : ∀ (X : World) (m : Nat) (z : Value), (X.setCell ⟨twb, j * 2 + 1, none⟩ z).cell? ⟨twb, m * 2, none⟩ = X.cell? ⟨twb, m * 2, none⟩ := fun X m z => World.cell?_setCell_other _ _ _ _ (fun e => by first | (simp at e; done) | (simp at e; omega))
        refine ⟨ob6.cell 21, ⟨u0, hu0⟩, rW6.frozen _, cA, ⟨u1, hu1⟩, rA.frozen _, cB, rB.frozen _, cT7, o6, rT6.step sABC (by decide), (sABC.cell (p := ⟨tb, 0, none⟩) rT6.lt (by show o6 tb ∉ [42]; rw [rT6.tag]; decide)).trans cT5, rC.step (Step.drew [] o6 _) (by simp), fun m h1 h2 => ?_, ob6.step sABC (by decide), s6.trans (sABC.mono (by simp))⟩
        refine (far _ m _).trans ((far _ m _).trans ?_)
        by_cases e : m = j
        · subst e; exact cA
        · exact (World.cell?_setCell_other _ _ _ _ (fun e2 => by first | (simp at e2; done) | (simp at e2; omega))).trans (hev6 m (by omega) h2)
      go_wp2_with (first | (go_at_call 117; refine HB.out.mono ?_; rintro e w' ⟨⟨b, rfl⟩, hw⟩; obtain rfl : wr = w' := hw.symm) | (go_at_call 119; refine HI.out.mono ?_; rintro e w5 ⟨rfl, o5, rT5, cT5, s5⟩; obtain ⟨p21, ⟨u, pu⟩, pf, pA, ⟨u2, pB⟩, pfB, pC, pfC, pT, HQ⟩ := HP.out o5 w5 rT5 cT5 s5; clear rT5 s5))
      refine wp_loop_rounds 2 ?_
      rw [rounds_succ]
      go_wp2
      go_region
      all_goals
        go_wp2
        rw [rounds_succ]
        go_wp2
        go_roundw
        case rel =>
          obtain ⟨o6, h1, h2, h3, h4, h5, h6⟩ := HQ.out
          exact ⟨j, 1, o6, by go_num, by omega, rfl, .inr ⟨rfl, h2⟩, h1, h3, h4, h5, h6⟩
        case measure => first | (simp [intOf]; done) | (simp [intOf]; omega)
end Go.Proofs.YbulkbmdoGreat
