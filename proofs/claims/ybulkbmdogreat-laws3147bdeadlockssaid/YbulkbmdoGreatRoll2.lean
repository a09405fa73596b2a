import Derived.Test.YbulkbmdoGreatRoll
namespace Go.Proofs.YbulkbmdoGreat
open Go.RowKit Go.Shelf
set_option linter.unusedVariables false
attribute [local go_sem] Oper.semAt_some

/-- v[m:] of a slice of ints. -/
theorem slice_from (a : Option Addr) (n cap m : Nat) (h : m ≤ n) (hn : n ≤ cap) : ∃ ad c, (∀ w, (Instr.sliceAt 24 (.slice a n cap) (some (.int .i64 (m : Int))) none none).run Ybaz.prog w = .ok (.slice ad (n - m) c) w) ∧ ∀ g, m < n → a = some ⟨g, 0, none⟩ → ad = some ⟨g, m, none⟩ := by
  have hm : (m : Int) ≤ (n : Int) := by omega
  by_cases e : cap = m
  · refine ⟨a, 0, fun w => ?_, fun g h1 => by omega⟩
    subst e
    simp [go_sem, Ybaz.underlying24, hm]
  · refine ⟨a.map (·.add m), cap - m, fun w => ?_, fun g h1 ha => by subst ha; simp [Addr.add]; omega⟩
    simp [go_sem, Ybaz.underlying24, hm, e]

/-- The grants gr without those that pre takes back. -/
def ungr (gr : Nat → Bool) (pre : List (Nat × Int)) (j : Nat) : Bool := if pre.any (fun x => x.2 == -1 - (j : Int)) then false else gr j

set_option maxRecDepth 100000 in
set_option maxHeartbeats 4000000 in
theorem rollback_in (o : Nat → Nat) (W : World) (R : Nat) (s : RS) (pv uv : Value) (h : RAt o W R s pv uv) (u0 zs : List Int) (hu : s.und = u0 ++ zs) (hz : ∀ z ∈ zs, ∃ p : Nat, p < s.N ∧ z = -1 - (p : Int)) (hul : s.und.length ≤ 1000) (hm : 0 < s.marks) (hm2 : s.marks ≤ 1000) (hN : s.N ≤ 300) :
    CallsIn Fence.wide 10 Ybaz.prog 92 #[.pointer (some ⟨R, 0, none⟩), .int .i64 (u0.length : Int)] W fun e w' => (∃ v, e = .returned v) ∧
      ∃ o' uv', RAt o' w' R { s with gr := ungr s.gr (bq zs zs.length), und := u0, marks := s.marks - 1 } pv uv' ∧ Step [1, 2] o W o' w' := by
  obtain ⟨a, cap, rfl, hcap⟩ := h.und.val
  rw [zints_length] at hcap h
  have hlen : s.und.length = u0.length + zs.length := by rw [hu]; simp
  obtain ⟨ad, c', hsl, had⟩ := slice_from a s.und.length cap u0.length (by omega) hcap
  have hzl : s.und.length - u0.length = zs.length := by omega
  rw [hzl] at hsl
  have HL := hid (And.intro hlen hu)
  have HAD : Hid (∀ g, u0.length < s.und.length → a = some ⟨g, 0, none⟩ → ad = some ⟨g, u0.length, none⟩) := had
  clear hlen hzl had hu
  have hRlt := h.ob.lt
  have eB := World.size_alloc W (.cells #[.pointer (some ⟨R, 0, none⟩)] 44)
  obtain ⟨W0, hW0⟩ : ∃ W0, W.alloc (.cells #[.pointer (some ⟨R, 0, none⟩)] 44) = W0 := ⟨_, rfl⟩
  have st0 := Step.alloc [] o W (.cells #[.pointer (some ⟨R, 0, none⟩)] 44) 99
  have cB : W0.cell? ⟨W.heap.size, 0, none⟩ = some (.pointer (some ⟨R, 0, none⟩)) := by rw [← hW0]; exact (Ob.new o W 99 44 #[.pointer (some ⟨R, 0, none⟩)]).cell 0
  rw [hW0] at st0 eB
  have R0 := h.step st0 (by simp) (by simp) (by simp) (by simp)
  have c7 : W0.cell? ⟨R, 7, none⟩ = some (.slice a s.und.length cap) := R0.ob.cell 7
  have HR := hid R0
  have HB := hid eB
  refine callsIn_of_wp_marks Ybaz.func92 rfl trivial ?_ rfl
  simp only [Ybaz.ntmps92, List.size_toArray, List.length_cons, List.length_nil, Nat.reduceAdd, Nat.reduceSub, Array.replicate_succ, Array.replicate_zero, List.push_toArray, List.append_toArray, List.nil_append, List.cons_append]
  clear R0 h eB
  gi_wp2_with fail
  refine ⟨trivial, (callsIn_wide.2 (backward_any _ ⟨_, _, _, rfl⟩ W0)).mono ?_⟩
  rintro e w' ⟨rfl, rfl⟩
  gi_wp2_with fail
  have st1 := Step.alloc [] (tg o W.heap.size 99) W0 (.cells #[.slice ad zs.length c'] 24) 99
  have R1 := HR.out.step st1 (by simp) (by simp) (by simp) (by simp)
  have hBX : (W0.alloc (.cells #[.slice ad zs.length c'] 24)).cell? ⟨W0.heap.size, 0, none⟩ = some (.slice ad zs.length c') := (Ob.new o W0 99 24 #[.slice ad zs.length c']).cell 0
  have eB1 := World.size_alloc W0 (.cells #[.slice ad zs.length c'] 24)
  have hst1 := hid (st0.trans st1)
  obtain ⟨W1, hW1⟩ : ∃ W1, W0.alloc (.cells #[.slice ad zs.length c'] 24) = W1 := ⟨_, rfl⟩
  obtain ⟨oo, hoo⟩ : ∃ oo, tg (tg o W.heap.size 99) W0.heap.size 99 = oo := ⟨_, rfl⟩
  rw [hW1] at R1 hBX eB1 hst1 st1
  rw [hoo] at R1 hst1 st1
  rw [hW1]
  have cB1 : W1.cell? ⟨W.heap.size, 0, none⟩ = some (.pointer (some ⟨R, 0, none⟩)) := (st1.cell (p := ⟨W.heap.size, 0, none⟩) (World.block_lt_of_cell? _ _ cB) (by simp)).trans cB
  have tR : oo R = 1 := R1.ob.tag
  have tG : oo s.gb = 2 := R1.gr.tag
  have tB : oo W.heap.size = 99 := by rw [← hoo, tg_old _ _ (by have := HB.out; omega), tg_self]
  have tC : oo W0.heap.size = 99 := by rw [← hoo, tg_self]
  have nR : R ≠ s.gb := fun e => by rw [e, tG] at tR; omega
  have nB : W.heap.size ≠ s.gb := fun e => by rw [e, tG] at tB; omega
  have nC : W0.heap.size ≠ s.gb := fun e => by rw [e, tG] at tC; omega
  have hM := hid (And.intro HB.out eB1)
  have c1 : 0 < zs.length → ∃ ib x, ad = some ⟨ib, x, none⟩ ∧ ib < W1.heap.size ∧ ib ≠ s.gb ∧ ∀ j (hj : j < zs.length), W1.cell? ⟨ib, x + j, none⟩ = some (.int .i64 zs[j]) := by
    intro h0
    have hl := HL.out.1
    obtain ⟨g, cap2, hv, _, _, htg, hgl⟩ := R1.und.some_of (by rw [zints_length]; omega)
    simp at hv
    obtain ⟨rfl, hln, rfl⟩ := hv
    refine ⟨g, u0.length, HAD.out g (by omega) rfl, hgl, fun e => by rw [e, tG] at htg; omega, fun j hj => ?_⟩
    have hu1 := R1.und
    rw [hln] at hu1
    have := hu1.cell (u0.length + j) (by rw [zints_length]; omega)
    rw [this]
    have e2 : zints s.und = zints u0 ++ zints zs := by rw [HL.out.2]; simp [zints]
    simp only [e2]
    rw [List.getElem_append_right (by rw [zints_length]; omega)]
    simp [zints]
  have hseq := back_seq 9 W0.heap.size s.gb W1.heap.size c' ad zs (by have := HL.out.1; omega) W1 (Nat.le_refl _) ⟨by have := hM.out.2; omega, nC⟩ hBX c1
  have HR1 := hid R1
  clear hoo tR tG tB tC eB1 hW0 hW1 hBX c1 R1 st1 st0 HR c7
  refine range_all (gf := 134) (lb := #[.pointer (some ⟨W0.heap.size, 0, none⟩)]) rfl (enters_of Ybaz.func134 (by kernel_rfl) rfl) hseq (fun h k => h.trans k) (KpB.put (Nat.le_refl _)) (Below.refl _ _) (fun _ => rfl)
    (fun pre X => Ar (fun _ => 0) X 0 s.gb 4 s.N (fun j => .bool (ungr s.gr pre j)) ∧ Kq s.gb W1.heap.size W1 X)
    (OwnFrom.and ((Ar.own _ _ _ _).from _) (Kq.own _ _ _ (Nat.le_refl _)))
    ⟨⟨HR1.out.gr.blk, rfl⟩, ⟨rfl, rfl, rfl, Nat.le_refl _, fun _ _ _ => rfl⟩⟩
    (fun x => { tmps := #[.pointer (some ⟨R, 0, none⟩), .int .i64 (u0.length : Int), .pointer (some ⟨W.heap.size, 0, none⟩), undef, undef, .int .i64 x.2, .pointer (some ⟨R, 0, none⟩), .pointer (some ⟨R, 0, none⟩), .pointer (some ⟨R, 7, none⟩), .slice a s.und.length cap, .int .i64 (u0.length : Int), .slice ad zs.length c', .func (.func 134) #[] #[.pointer (some ⟨W0.heap.size, 0, none⟩)], .int .i64 (x.1 : Int), .int .i64 x.2, undef, undef, undef, undef, undef, undef, undef, undef, undef, undef, undef, undef, undef, undef, undef, undef, undef, undef, undef, undef, undef, undef, undef, undef, undef, undef, undef, undef, undef, undef, undef, undef, undef, undef], defers := [] }) ?assign ?body ?done
  case assign =>
    intro l x X K hK
    gi_wp2
    exact hK
  case body =>
    rintro l pre x X ⟨hA, hk⟩ hpre
    obtain ⟨p, hp, hx⟩ := hz x.2 (bq_mem zs (Nat.le_refl _) (by obtain ⟨r, hr⟩ := hpre; rw [← hr]; simp))
    have hmx : Ybaz.prog.follows .mixedOrders = true := by kernel_rfl
    obtain ⟨m1, m2⟩ := hM.out
    have cX : X.cell? ⟨W.heap.size, 0, none⟩ = some (.pointer (some ⟨R, 0, none⟩)) := (hk.cell (p := ⟨W.heap.size, 0, none⟩) (show W.heap.size < W1.heap.size by omega) nB).trans cB1
    have c5 : X.cell? ⟨R, 5, none⟩ = some (.slice (some ⟨s.gb, 0, none⟩) s.N s.N) := (hk.cell (p := ⟨R, 5, none⟩) HR1.out.ob.lt nR).trans (HR1.out.ob.cell 5)
    have cp := hA.cell p hp
    have fp := hA.frozen p
    have b1 : ¬ (0 : Int) ≤ x.2 := by omega
    have b2 : (p : Int) < (s.N : Int) := by omega
    have hfin : Hid (KeepsFrom W1.heap.size X (X.setCell ⟨s.gb, p, none⟩ (.bool false)).drew ∧ KpB s.gb W1.heap.size X (X.setCell ⟨s.gb, p, none⟩ (.bool false)).drew ∧ Ar (fun _ => 0) (X.setCell ⟨s.gb, p, none⟩ (.bool false)).drew 0 s.gb 4 s.N (fun j => .bool (ungr s.gr (pre ++ [x]) j)) ∧ Kq s.gb W1.heap.size W1 (X.setCell ⟨s.gb, p, none⟩ (.bool false)).drew) := by
      have q := (KeepsOthers.setCell X ⟨s.gb, p, none⟩ (.bool false)).from W1.heap.size
      have q2 := hk.set (i := p) (v := .bool false)
      refine ⟨⟨q.size, q.same⟩, fun k _ hk2 => Below.heap_setCell _ _ _ _ hk2, ?_, ⟨q2.os, q2.tape, q2.output, q2.size, q2.block⟩⟩
      have h3 := (hA.set p (.bool false)).congr (g := fun j => .bool (ungr s.gr (pre ++ [x]) j)) (fun j _ => by
        by_cases e : j = p
        · subst e; simp [ungr, hx]
        · have e2 : ¬ x.2 = -1 - (j : Int) := by omega
          have e3 : (x.2 == -1 - (j : Int)) = false := by simp [e2]
          simp only [e, if_false, ungr, List.any_append, List.any_cons, List.any_nil, e3, Bool.or_false])
      exact ⟨h3.blk, rfl⟩
    have hrt := root_at x.2 (p : Int) (by omega) (by omega) (by omega)
    clear hA hk hpre m1 m2 hx
    gi_wp2
    gi_region_with_o (refine ⟨trivial, ?_⟩; gi_at_call 5; refine (CallsIn.inRound l (callsIn_wide.2 (hrt _))).mono ?_; rintro e w' ⟨rfl, rfl⟩)
    all_goals gi_wp2
    all_goals exact hfin.out
  case done =>
    rintro D X2 hD ⟨hA, hk⟩ hK
    obtain ⟨m1, m2⟩ := hM.out
    have hl := HL.out.1
    have cX : X2.cell? ⟨W.heap.size, 0, none⟩ = some (.pointer (some ⟨R, 0, none⟩)) := (hk.cell (p := ⟨W.heap.size, 0, none⟩) (show W.heap.size < W1.heap.size by omega) nB).trans cB1
    have obX : Ob (fun _ => 0) X2 0 R 54 (rcells s pv (.slice a s.und.length cap)) := ⟨(hk.block R HR1.out.ob.lt nR).trans HR1.out.ob.blk, rfl⟩
    have c7 : X2.cell? ⟨R, 7, none⟩ = some (.slice a s.und.length cap) := obX.cell 7
    have f7 := obX.frozen 7
    have ob1 := obX.set 7 (.slice a u0.length cap)
    have d8 : (X2.setCell ⟨R, 7, none⟩ (.slice a u0.length cap)).cell? ⟨R, 8, none⟩ = some (.int .i64 (s.marks : Int)) := ob1.cell 8
    have g8 := ob1.frozen 8
    have ob2 := ob1.set 8 (.int .i64 ((s.marks : Int) - 1))
    have nBR : W.heap.size ≠ R := by omega
    have dB : (X2.setCell ⟨R, 7, none⟩ (.slice a u0.length cap)).cell? ⟨W.heap.size, 0, none⟩ = some (.pointer (some ⟨R, 0, none⟩)) := (World.cell?_of_block (w := X2) (a := ⟨W.heap.size, 0, none⟩) (Below.heap_setCell _ _ _ _ nBR)).trans cX
    have b3 : (u0.length : Int) ≤ (cap : Int) := by omega
    have HO2 := hid ob2
    have HA := hid hA
    have HK := hid hk
    have HD := hid hK
    clear hA hk hK obX ob1 ob2 m1 m2 hl hsl hseq
    gi_wp2
    gi_region
    all_goals gi_wp2
    have ob2 := HO2.out
    have hk := HK.out
    have hA := HA.out
    have R1 := HR1.out
    obtain ⟨Y, hY⟩ : ∃ Y, ((X2.setCell ⟨R, 7, none⟩ (.slice a u0.length cap)).setCell ⟨R, 8, none⟩ (.int .i64 ((s.marks : Int) - 1))).drew = Y := ⟨_, rfl⟩
    have yk : ∀ k, k ≠ R → Y.heap[k]? = X2.heap[k]? := fun k hk2 => by
      rw [← hY]
      show ((X2.setCell ⟨R, 7, none⟩ (.slice a u0.length cap)).setCell ⟨R, 8, none⟩ (.int .i64 ((s.marks : Int) - 1))).heap[k]? = _
      rw [Below.heap_setCell _ _ _ _ hk2, Below.heap_setCell _ _ _ _ hk2]
    have yR : Y.heap[R]? = some (.cells (((rcells s pv (.slice a s.und.length cap)).setIfInBounds 7 (.slice a u0.length cap)).setIfInBounds 8 (.int .i64 ((s.marks : Int) - 1))) 54 (0, 0)) := by rw [← hY]; exact ob2.blk
    have ysz : Y.heap.size = X2.heap.size := by rw [← hY]; simp [World.setCell]
    have yos : Y.os = X2.os ∧ Y.tape = X2.tape ∧ Y.output = X2.output := by rw [← hY]; exact ⟨rfl, rfl, rfl⟩
    rw [hY]
    clear hY HO2 HA HK
    have tR : oo R = 1 := R1.ob.tag
    have tG : oo s.gb = 2 := R1.gr.tag
    have hDR : D ≠ R := by have := R1.ob.lt; omega
    have yD : Y.heap[D]? = some (.deferred (some [])) := (yk D hDR).trans HD.out
    refine ⟨by simp, .inl ⟨_, _, rfl, run_takeDeferred yD, ?_⟩⟩
    refine ⟨_, results_none rfl _ _ _, ⟨_, rfl⟩, oo, .slice a u0.length cap, ?_⟩
    have zk : ∀ k, k ≠ D → (Y.putObj D (.deferred none)).heap[k]? = Y.heap[k]? := fun k hk2 => World.putObj_heap_other hk2
    have zs2 : Step [1, 2] oo W1 oo (Y.putObj D (.deferred none)) := by
      refine ⟨yos.1.trans hk.os, yos.2.1.trans hk.tape, yos.2.2.trans hk.output, ?_, fun _ _ => rfl, fun k hk1 hn => ?_⟩
      · have := hk.size; simp [World.putObj]; omega
      · have k1 : k ≠ R := fun e => hn (by rw [e, tR]; simp)
        have k2 : k ≠ s.gb := fun e => hn (by rw [e, tG]; simp)
        rw [zk k (by omega), yk k k1, hk.block k hk1 k2]
    refine ⟨⟨⟨?_, tR⟩, ?_, R1.pend.step zs2 (by simp), ?_⟩, (hst1.out.mono (by simp)).trans zs2⟩
    · rw [zk R (fun e => hDR e.symm), yR]
      have em : ((s.marks - 1 : Nat) : Int) = (s.marks : Int) - 1 := by omega
      simp [rcells, em]
    · obtain ⟨c, hc, hs2, hf⟩ := hA.blk
      have hgD : s.gb ≠ D := by have := R1.gr.lt; omega
      exact ⟨⟨c, by rw [zk _ hgD, yk _ (fun e => nR e.symm)]; exact hc, hs2, hf⟩, tG⟩
    · have hc := (R1.und.cut u0.length (by rw [zints_length, HL.out.1]; omega)).step zs2 (by simp)
      have e2 : (zints s.und).take u0.length = zints u0 := by rw [HL.out.2]; simp [zints]
      rw [e2] at hc
      exact hc

/-- r.rollback(m): the grants since the mark are taken back. -/
theorem rollback_any (o : Nat → Nat) (W : World) (R : Nat) (s : RS) (pv uv : Value) (h : RAt o W R s pv uv) (u0 zs : List Int) (hu : s.und = u0 ++ zs) (hz : ∀ z ∈ zs, ∃ p : Nat, p < s.N ∧ z = -1 - (p : Int)) (hul : s.und.length ≤ 1000) (hm : 0 < s.marks) (hm2 : s.marks ≤ 1000) (hN : s.N ≤ 300) :
    Calls Ybaz.prog 92 #[.pointer (some ⟨R, 0, none⟩), .int .i64 (u0.length : Int)] W fun e w' => (∃ v, e = .returned v) ∧
      ∃ o' uv', RAt o' w' R { s with gr := fun j => if -1 - (j : Int) ∈ zs then false else s.gr j, und := u0, marks := s.marks - 1 } pv uv' ∧ Step [1, 2] o W o' w' := by
  have e : ungr s.gr (bq zs zs.length) = fun j : Nat => if -1 - (j : Int) ∈ zs then false else s.gr j := by
    funext j
    unfold ungr
    have : ((bq zs zs.length).any fun x => x.2 == -1 - (j : Int)) = decide (-1 - (j : Int) ∈ zs) := by
      rw [Bool.eq_iff_iff]
      simp only [List.any_eq_true, beq_iff_eq, decide_eq_true_eq]
      constructor
      · rintro ⟨x, hx, e⟩; rw [← e]; exact bq_mem zs (Nat.le_refl _) hx
      · intro hz; obtain ⟨x, hx, e⟩ := bq_all zs _ hz; exact ⟨x, hx, e⟩
    rw [this]; simp
  have := callsIn_wide.1 (rollback_in o W R s pv uv h u0 zs hu hz hul hm hm2 hN)
  rw [e] at this
  exact this
end Go.Proofs.YbulkbmdoGreat
