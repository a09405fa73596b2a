import Derived.Test.YbulkbmdoGreatComp0
import Derived.Deep.DeepCutAuto
namespace Go.Proofs.YbulkbmdoGreat
open Go.RowKit Go.Shelf
set_option linter.unusedVariables false

theorem nodup_sub : ∀ {l ds : List Nat}, l.Nodup → (∀ x ∈ l, x ∈ ds) → l.length ≤ ds.length
  | [], _, _, _ => Nat.zero_le _
  | a :: t, ds, hn, hs => by
    rw [List.nodup_cons] at hn
    have h1 := nodup_sub (l := t) (ds := ds.erase a) hn.2 (fun x hx => (List.mem_erase_of_ne (fun e : x = a => hn.1 (by rw [← e]; exact hx))).2 (hs x (by simp [hx])))
    have h2 := List.length_erase_of_mem (hs a (by simp))
    have h3 : 0 < ds.length := List.length_pos_of_mem (hs a (by simp))
    simp; omega

theorem info4 : (Ybaz.prog.info? 4).map (fun i => (i.zero, i.size, i.bytes)) = some (some (.bool false), 1, 1) := by kernel_rfl

/-- 'make([]T, 0, n)'. -/
theorem run_make_cap (t e : TypeId) (z : Value) (size bytes : Nat) (ht : Ybaz.prog.underlying t = some (.slice e)) (hinfo : (Ybaz.prog.info? e).map (fun i => (i.zero, i.size, i.bytes)) = some (some z, size, bytes)) (n : Nat) (hb : bytes * n ≤ 281474976710656) (h63 : n ≤ 9223372036854775807) (w : World) :
    (Instr.makeSlice t (.int .i64 0) (.int .i64 (n : Int))).run Ybaz.prog w = .ok (.slice (some ⟨w.heap.size, 0, none⟩) 0 n) (w.alloc (.cells (madeCells z.cells (n * size)) e)) := by
  obtain ⟨i0, hi0, hz0, hz1, hz2⟩ := info_parts hinfo
  have hb' : (i0.bytes : Int) * (n : Int) ≤ 281474976710656 := by
    have h : ((i0.bytes * n : Nat) : Int) ≤ 281474976710656 := by rw [hz2]; omega
    rwa [Int.natCast_mul] at h
  have hr := run_make (P := Ybaz.prog) w t e i0 z ht hi0 hz0 .i64 .i64 0 n (by omega) (by omega) hb' (by omega)
  simp only [Int.toNat_natCast, hz1] at hr
  simpa using hr

theorem set_snoc (l : List Value) (x y : Value) (i : Nat) (h : i = l.length) : (l ++ [x]).set i y = l ++ [y] := by subst h; simp
theorem alloc_step (o : Nat → Nat) (W : World) (t : Nat) (x : Obj) : ∃ X o' b, W.alloc x = X ∧ W.heap.size = b ∧ X.heap[b]? = some x ∧ o' b = t ∧ Step [] o W o' X :=
  ⟨_, _, _, rfl, rfl, World.alloc_heap_new W x, tg_self _ _ _, Step.alloc [] o W x t⟩
theorem Ar.of_made {o : Nat → Nat} {W : World} {t b : Nat} {e : TypeId} {N : Nat} {z : Value} (h : W.heap[b]? = some (.cells (madeCells #[z] N) e (0, 0))) (ht : o b = t) : Ar o W t b e N (fun _ => z) := by
  refine ⟨⟨_, h, size_madeCells _ _, fun j hj => ?_⟩, ht⟩
  rw [← Array.getElem?_toList, toList_madeCells_one]
  simp [hj]
theorem Rw.of_made {o : Nat → Nat} {W : World} {t b : Nat} {e : TypeId} {N : Nat} {z : Array Value} (h : W.heap[b]? = some (.cells (madeCells z N) e (0, 0))) (ht : o b = t) : Rw o W t b e N [] :=
  ⟨⟨_, h, size_madeCells _ _, fun j hj => by simp at hj⟩, by simp, ht⟩

/-- What emit must do. -/
def EmitOk (gf : Nat) (lb : Array Value) (nx : Nat → Nat) (dead : Nat → Prop) (TE : List Nat) (J : List Nat → (Nat → Nat) → World → Prop) : Prop :=
  ∀ (S pre comp : List Nat) (o : Nat → Nat) (W : World) (stb cap : Nat), J S o W → VC nx dead S comp → Rw o W 63 stb 3 cap (ints (pre ++ comp)) → cap ≤ 300 →
    Calls Ybaz.prog gf (#[.slice (some ⟨stb, pre.length, none⟩) comp.length (cap - pre.length)] ++ lb) W fun e w' => (∃ r, e = .returned r) ∧ ∃ o', J (S ++ comp) o' w' ∧ Rw o' w' 63 stb 3 cap (ints pre) ∧ Step TE o W o' w'

set_option maxRecDepth 100000 in
set_option maxHeartbeats 4000000 in
theorem comps_any (o : Nat → Nat) (W : World) (n fb ib icap rb rcap : Nat) (fst nx : Nat → Nat) (dead : Nat → Prop) (ds : List Nat) (hds : ∀ v, dead v ↔ v ∈ ds) (hn : n ≤ 300) (hD0 : 0 < ds.length) (hDn : ds.length ≤ n) (hlt : ∀ v, dead v → v < n) (hnx : ∀ v, dead v → dead (nx v)) (hfst : ∀ v, dead v → fst (v + 1) = fst v + 1) (hfb : ∀ j, j ≤ n → fst j ≤ ds.length)
    (tf : o fb = 23) (ti : o ib = 24) (tr : o rb = 25) (hlf : fb < W.heap.size) (hli : ib < W.heap.size) (hlr : rb < W.heap.size) (cf : ∀ j, j ≤ n → W.cell? ⟨fb, j, none⟩ = some (.int .i64 (fst j : Int))) (ci : ∀ v, dead v → W.cell? ⟨ib, fst v, none⟩ = some (.int .i64 (nx v : Int))) (cr : ∀ j (hj : j < ds.length), W.cell? ⟨rb, j, none⟩ = some (.int .i64 (ds[j] : Int))) (hic : ds.length ≤ icap)
    (gf : Nat) (lb : Array Value) (eg : ∀ args w, (callFunc gf args).run Ybaz.prog w = .ok (.enter gf args) w) (TE : List Nat) (hTE : ∀ t ∈ [60, 61, 62, 64, 65, 66, 67, 99, 23, 24, 25], t ∉ TE) (J : List Nat → (Nat → Nat) → World → Prop) (hJ : ∀ S o1 W1 o2 W2, J S o1 W1 → Step CT o1 W1 o2 W2 → J S o2 W2) (hem : EmitOk gf lb nx dead TE J) (J0 : J [] o W) :
    Calls Ybaz.prog 18 #[.agg #[.slice (some ⟨fb, 0, none⟩) (n + 1) (n + 1), .slice (some ⟨ib, 0, none⟩) ds.length icap], .slice (some ⟨rb, 0, none⟩) ds.length rcap, .func (.func gf) #[] lb] W fun e w' => (∃ r, e = .returned r) ∧ ∃ o' S, J S o' w' ∧ (∀ v, dead v → v ∈ S) ∧ Step (TE ++ CT) o W o' w' := by
  have b1 : (0 : Int) ≤ (n : Int) := by omega
  have b2 : (n : Int) ≤ 9223372036854775807 := by omega
  have m1 := run_make_row' (P := Ybaz.prog) 24 3 (.int .i64 0) 8 Ybaz.underlying24 info3 rfl .i64 .i64 n (by omega) (by omega)
  have m2 := run_make_row' (P := Ybaz.prog) 50 4 (.bool false) 1 Ybaz.underlying50 info4 rfl .i64 .i64 n (by omega) (by omega)
  have m3 := run_make_cap 24 3 (.int .i64 0) 1 8 Ybaz.underlying24 info3 ds.length (by omega) (by omega)
  have m4 := run_make_cap 91 93 (.agg #[.int .i64 0, .int .i64 0]) 2 16 Ybaz.underlying91 info93 ds.length (by omega) (by omega)
  obtain ⟨X0, o0, Be, e0, z0, k0, t0, s0⟩ := alloc_step o W 99 (.cells #[.slice (some ⟨fb, 0, none⟩) (n + 1) (n + 1), .slice (some ⟨ib, 0, none⟩) ds.length icap] 52)
  obtain ⟨X1, o1, ob, e1, z1, k1, t1, s1⟩ := alloc_step o0 X0 60 (.cells (madeCells #[.int .i64 0] n) 3)
  obtain ⟨X2, o2, Bo, e2, z2, k2, t2, s2⟩ := alloc_step o1 X1 99 (.cells #[.slice (some ⟨ob, 0, none⟩) n n] 24)
  obtain ⟨X3, o3, lb', e3, z3, k3, t3, s3⟩ := alloc_step o2 X2 61 (.cells (madeCells #[.int .i64 0] n) 3)
  obtain ⟨X4, o4, Bl, e4, z4, k4, t4, s4⟩ := alloc_step o3 X3 99 (.cells #[.slice (some ⟨lb', 0, none⟩) n n] 24)
  obtain ⟨X5, o5, nb, e5, z5, k5, t5, s5⟩ := alloc_step o4 X4 62 (.cells (madeCells #[.bool false] n) 4)
  obtain ⟨X6, o6, Bn, e6, z6, k6, t6, s6⟩ := alloc_step o5 X5 99 (.cells #[.slice (some ⟨nb, 0, none⟩) n n] 50)
  obtain ⟨X7, o7, stb, e7, z7, k7, t7, s7⟩ := alloc_step o6 X6 63 (.cells (madeCells #[.int .i64 0] ds.length) 3)
  obtain ⟨X8, o8, Bs, e8, z8, k8, t8, s8⟩ := alloc_step o7 X7 66 (.cells #[.slice (some ⟨stb, 0, none⟩) 0 ds.length] 24)
  obtain ⟨X9, o9, cb, e9, z9, k9, t9, s9⟩ := alloc_step o8 X8 64 (.cells (madeCells #[.int .i64 0, .int .i64 0] (ds.length * 2)) 93)
  obtain ⟨XA, oA, Bc, eA, zA, kA, tA, sA⟩ := alloc_step o9 X9 67 (.cells #[.slice (some ⟨cb, 0, none⟩) 0 ds.length] 91)
  obtain ⟨XB, oB, Br, eB, zB, kB, tB, sB⟩ := alloc_step oA XA 65 (.cells #[.int .i64 0] 3)
  have x0 : X0.cell? ⟨Be, 0, none⟩ = some (.slice (some ⟨fb, 0, none⟩) (n + 1) (n + 1)) := Ob.cell (o := o0) ⟨k0, t0⟩ 0
  have hall : Step [] o W oB XB := s0.trans (s1.trans (s2.trans (s3.trans (s4.trans (s5.trans (s6.trans (s7.trans (s8.trans (s9.trans (sA.trans sB))))))))))
  have hM : CM oB XB ⟨n, ds.length, fb, ib, icap, Br, Bo, Bl, Bs, Bn, Bc, Be, ob, lb', nb, stb, cb⟩ ⟨fun _ => 0, fun _ => 0, fun _ => false, [], [], 0⟩ := by
    have q9 := sA.trans sB
    have q8 := s9.trans q9
    have q7 := s8.trans q8
    have q6 := s7.trans q7
    have q5 := s6.trans q6
    have q4 := s5.trans q5
    have q3 := s4.trans q4
    have q2 := s3.trans q3
    have q1 := s2.trans q2
    have q0 := s1.trans q1
    refine ⟨(Ob.step ⟨k0, t0⟩ q0 (by simp)), (Ob.step ⟨k2, t2⟩ q2 (by simp)), (Ob.step ⟨k4, t4⟩ q4 (by simp)), (Ob.step ⟨k6, t6⟩ q6 (by simp)), (Ob.step ⟨k8, t8⟩ q8 (by simp)), (Ob.step ⟨kA, tA⟩ sB (by simp)), ⟨kB, tB⟩, ?_, ?_, ?_, ?_, ?_⟩
    · exact (Ar.of_made k1 t1).step q1 (by simp)
    · exact (Ar.of_made k3 t3).step q3 (by simp)
    · exact (Ar.of_made k5 t5).step q5 (by simp)
    · exact (Rw.of_made k7 t7).step q7 (by simp)
    · exact (Rw.of_made k9 t9).step q9 (by simp)
  have hE : EG oB XB ⟨n, ds.length, fb, ib, icap, Br, Bo, Bl, Bs, Bn, Bc, Be, ob, lb', nb, stb, cb⟩ fst nx dead := EG.step ⟨tf, ti, hlf, hli, cf, ci⟩ hall (by simp) (by simp)
  have J1 := hJ _ _ _ _ _ J0 (hall.mono (T' := CT) (by simp))
  have cr1 : ∀ (o' : Nat → Nat) (wr : World), Step (TE ++ CT) o W o' wr → ∀ j (hj : j < ds.length), wr.cell? ⟨rb, j, none⟩ = some (.int .i64 (ds[j] : Int)) := fun o' wr st j hj => (st.cell (p := ⟨rb, j, none⟩) hlr (by rw [tr]; simp only [List.mem_append, not_or]; exact ⟨hTE 25 (by simp), by decide⟩)).trans (cr j hj)
  have HM := hid hM
  have HE := hid hE
  have HJ1 := hid J1
  have HA := hid (hall.mono (T' := TE ++ CT) (by simp))
  clear hM hE J1 hall s0 s1 s2 s3 s4 s5 s6 s7 s8 s9 sA sB k0 k1 k2 k3 k4 k5 k6 k7 k8 k9 kA kB t0 t1 t2 t3 t4 t5 t6 t7 t8 t9 tA tB cf ci cr tf ti tr
  obtain ⟨K, hK⟩ : ∃ K : CK, K = ⟨n, ds.length, fb, ib, icap, Br, Bo, Bl, Bs, Bn, Bc, Be, ob, lb', nb, stb, cb⟩ := ⟨_, rfl⟩
  rw [← hK] at HM HE
  have HK := hid hK
  clear hK
  have HeB := hid eB
  clear eB
  go_enter Ybaz.func18, Ybaz.ntmps18
  go_wp2
  clear x0 e0 e1 e2 e3 e4 e5 e6 e7 e8 e9 eA z0 z1 z2 z3 z4 z5 z6 z7 z8 z9 zA zB m1 m2 m3 m4
  go_loopw [42] (fun q wr => ∃ (k : Nat) (o1 : Nat → Nat) (m : CS) (S : List Nat), q = .int .i64 (k : Int) ∧ k ≤ ds.length ∧ CM o1 wr K m ∧ EG o1 wr K fst nx dead ∧ P0 n nx dead S m ∧ J S o1 wr ∧ (∀ j (hj : j < ds.length), j < k → ds[j] ∈ S) ∧ Step (TE ++ CT) o W o1 wr) (fun q _ => ds.length - (intOf q).toNat)
  case atStart => rw [HeB.out]; exact ⟨0, oB, _, [], rfl, Nat.zero_le _, HM.out, HE.out, ⟨List.nodup_nil, by simp, by simp, rfl, rfl, rfl, fun v _ => by simp, fun _ _ => rfl⟩, HJ1.out, fun j _ h => by omega, HA.out⟩
  case round =>
    clear HM HE HJ1 HA
    obtain ⟨k, o1, m, S, rfl, hk, hM, hE, hP, hJr, hdn, st⟩ := hrel
    have hKn : K.n = n := by rw [HK.out]
    have hKD : K.D = ds.length := by rw [HK.out]
    by_cases hlt2 : k < ds.length
    · have hpm : dead ds[k] := (hds _).2 (List.getElem_mem hlt2)
      have hpn := hlt _ hpm
      have c0 := cr1 o1 wr st k hlt2
      have hM2 := hM
      rw [HK.out] at hM2
      have c1 : wr.cell? ⟨Bo, 0, none⟩ = some (.slice (some ⟨ob, 0, none⟩) n n) := hM2.bo.cell 0
      have c2 : wr.cell? ⟨ob, ds[k], none⟩ = some (.int .i64 (m.ord ds[k] : Int)) := hM2.ord.cell ds[k] hpn
      have b3 : (k : Int) < (ds.length : Int) := by omega
      have b4 : (ds[k] : Int) < (n : Int) := by omega
      by_cases hvs : ds[k] ∈ S
      · have hne : m.ord ds[k] ≠ 0 := fun e => (hP.vis _ hpn).1 e hvs
        have hneI : ¬ ((m.ord ds[k] : Int) = 0) := by omega
        have HF := hid (And.intro hM (And.intro hE (And.intro hP (And.intro hJr (And.intro hdn st)))))
        clear hM hE hP hJr hdn st hM2
        go_wp2
        go_roundw
        case rel =>
          obtain ⟨hM, hE, hP, hJr, hdn, st⟩ := HF.out
          refine ⟨k + 1, o1, m, S, by go_num, by omega, hM, hE, hP, hJr, fun j hj hj2 => ?_, st⟩
          by_cases e : j = k
          · subst e; exact hvs
          · exact hdn j hj (by omega)
        case measure => simp [intOf]; omega
      · have hz : m.ord ds[k] = 0 := (hP.vis _ hpn).2 hvs
        rw [hz] at c2
        have hSn : S.length ≤ 300 := by have := pig hP.nd (fun q hq => hlt q (hP.dd q hq)); omega
        have HC := hid (reach_any o1 wr K fst nx dead m hM hE (by rw [hKn]; exact hn) (by rw [hKD]; omega) (by rw [hP.st, hKD]; simpa using hD0) (by rw [hP.fr, hKD]; simpa using hD0) (by rw [hP.rc]; omega) ds[k] (by rw [hKn]; exact hpn) (by have := hfb ds[k] (by omega); omega))
        have HP := hid hP
        have HR := hid (And.intro hE (And.intro hJr (And.intro hdn st)))
        rw [HK.out] at HC
        have HC' : Hid (Calls Ybaz.prog 33 #[.int .i64 (ds[k] : Int), .pointer (some ⟨Br, 0, none⟩), .pointer (some ⟨Bo, 0, none⟩), .pointer (some ⟨Bl, 0, none⟩), .pointer (some ⟨Bs, 0, none⟩), .pointer (some ⟨Bn, 0, none⟩), .pointer (some ⟨Bc, 0, none⟩), .pointer (some ⟨Be, 0, none⟩)] wr _) := HC
        clear hM hE hP hJr hdn st hM2 HC hz
        go_wp2_with (go_at_call 33; refine HC'.out.mono ?_; rintro e w1 ⟨⟨r, rfl⟩, o2, hM2, st2⟩)
        have hP1 := HP.out.reach (fst := fst) hpm hpn hvs
        obtain ⟨hE, hJr, hdn, st⟩ := HR.out
        have HA := hid (And.intro hM2 (And.intro (hE.step st2 (by decide) (by decide)) (And.intro hP1 (And.intro (hJ _ _ _ _ _ hJr st2) (st.trans (st2.mono fun t ht => List.mem_append.2 (.inr ht)))))))
        have HD := hid hdn
        clear hM2 st2 hP1 hE hJr hdn st HR HP HC' c0 c1 c2
        go_loopg [] (n + n + 2) (fun gk wx => ∃ (o1 : Nat → Nat) (m : CS), CM o1 wx K m ∧ EG o1 wx K fst nx dead ∧ Step (TE ++ CT) o W o1 wx ∧ ((∃ Q v, P1 n nx fst dead S Q v m ∧ J S o1 wx ∧ ds[k] ∈ S ++ (Q ++ [v]) ∧ gk = (n - Q.length) + n + 2) ∨ ∃ P SS i, P2 n nx fst dead S P SS i gk m ∧ J SS o1 wx ∧ ds[k] ∈ S ++ P))
        case atStart =>
          obtain ⟨hM, hE, hP1, hJr, st⟩ := HA.out
          exact ⟨o2, _, by rw [HK.out]; exact hM, hE, st, .inl ⟨[], ds[k], hP1, hJr, by simp, by simp⟩⟩
        case round =>
          clear HA
          obtain ⟨o3, m3, hM, hE, st, hph⟩ := hrel
          have hM3 := hM
          have hE3 := hE
          rw [HK.out] at hM3 hE3
          rcases hph with ⟨Q, v, h1, hJr, hin, rfl⟩ | ⟨P, SS, i, h2, hJr, hin⟩
          · -- on the way down
            have hvd : dead v := h1.ph.dd v (by simp)
            have hvn := hlt v hvd
            have hwd := hnx v hvd
            have hwn := hlt _ hwd
            have hfl : m3.fr.length = Q.length + 1 := by rw [h1.fr]; simp [gfr]
            have hgl : (gfr fst Q).length = Q.length := by simp [gfr]
            have hcap : Q.length + 1 ≤ ds.length := by
              have := nodup_sub (ds := ds) (List.nodup_append.1 h1.ph.nd).2.1 (fun x hx => (hds x).1 (h1.ph.dd x (List.mem_append.2 (.inr hx))))
              simpa using this
            have c1 : wr.cell? ⟨Bc, 0, none⟩ = some (.slice (some ⟨cb, 0, none⟩) (Q.length + 1) ds.length) := by rw [← hfl]; exact hM3.bc.cell 0
            have hfrv : frv m3.fr = frv (gfr fst Q) ++ [.int .i64 (v : Int)] ++ [.int .i64 (fst v : Int)] := by rw [h1.fr, frv_snoc]
            have hfvl : (frv (gfr fst Q)).length = Q.length * 2 := by rw [frv_length, hgl]
            have c2 : wr.cell? ⟨cb, Q.length * 2, none⟩ = some (.int .i64 (v : Int)) := by
              have := hM3.fr.cell (Q.length * 2) (by rw [hfrv]; simp [hfvl])
              rw [this]
              simp only [hfrv]
              rw [List.getElem_append_left (by simp [hfvl]), List.getElem_append_right (by omega)]
              simp [hfvl]
            have c3 : wr.cell? ⟨cb, Q.length * 2 + 1, none⟩ = some (.int .i64 (fst v : Int)) := by
              have := hM3.fr.cell (Q.length * 2 + 1) (by rw [hfrv]; simp [hfvl])
              rw [this]
              simp only [hfrv]
              rw [List.getElem_append_right (by simp [hfvl])]
              simp [hfvl]
            have c4 := hM3.fr.frozen (Q.length * 2 + 1)
            have c5 : wr.cell? ⟨Be, 0, none⟩ = some (.slice (some ⟨fb, 0, none⟩) (n + 1) (n + 1)) := hM3.be.cell 0
            have c6 : wr.cell? ⟨Be, 1, none⟩ = some (.slice (some ⟨ib, 0, none⟩) ds.length icap) := hM3.be.cell 1
            have c7 : wr.cell? ⟨fb, v + 1, none⟩ = some (.int .i64 ((fst v : Int) + 1)) := by
              have := hE3.cf (v + 1) hvn
              rw [hfst v hvd] at this
              exact this
            have c8 : wr.cell? ⟨ib, fst v, none⟩ = some (.int .i64 (nx v : Int)) := hE3.ci v hvd
            have hfv : fst v + 1 ≤ ds.length := by rw [← hfst v hvd]; exact hfb _ hvn
            have b5 : (v : Int) + 1 < (n : Int) + 1 := by omega
            have b6 : (fst v : Int) < (ds.length : Int) := by omega
            have b7 : (Q.length : Int) < (Q.length : Int) + 1 := by omega
            have b8 : (0 : Int) < (Q.length : Int) + 1 := by omega
            have b9 : (Q.length : Int) ≤ 300 := by omega
            have b10 : (v : Int) ≤ 300 := by omega
            have b11 : (fst v : Int) ≤ 300 := by omega
            -- the frame's edge is taken: the world behind it
            have H1 := hid h1
            have HJr := hid hJr
            have Hst := hid st
            have Hin := hid hin
            have HMm := hid hM
            have HEe := hid hE
            clear h1 hJr st hin hM hE hM3 hE3 hfrv hfl
            go_wp2
            go_quiet (fail)
            revert nq
            intro n1
            go_wp2
            go_quiet (fail)
            obtain ⟨X, hX⟩ : ∃ X, (wr.drewN n1).drewN nq = X := ⟨_, rfl⟩
            rw [hX]
            have sX : Step [] o3 wr o3 X := by rw [← hX]; exact (Step.drewN [] o3 wr n1).trans (Step.drewN [] o3 _ nq)
            clear hX c1 c2 c3 c4 c5 c6 c7 c8
            have hM := HMm.out.step sX (by simp)
            have hE := HEe.out.step sX (by simp) (by simp)
            have h1 := H1.out
            have hfrl : frv (gfr fst Q ++ [(v, fst v)]) = frv (gfr fst Q) ++ [.int .i64 (v : Int)] ++ [.int .i64 (fst v : Int)] := frv_snoc _ _
            have hfr2 : Rw o3 X 64 cb 93 (ds.length * 2) (frv (gfr fst Q) ++ [.int .i64 (v : Int)] ++ [.int .i64 (fst v : Int)]) := by
              have := hM.fr; rw [HK.out, h1.fr, hfrl] at this; exact this
            have d1 : X.cell? ⟨cb, Q.length * 2 + 1, none⟩ = some (.int .i64 (fst v : Int)) := by
              have := hfr2.cell (Q.length * 2 + 1) (by simp [hfvl])
              rw [this, List.getElem_append_right (by simp [hfvl])]
              simp [hfvl]
            have d2 := hfr2.frozen (Q.length * 2 + 1)
            have s1 := hfr2.sset (Q.length * 2 + 1) (.int .i64 ((fst v : Int) + 1)) (T := [64]) (by simp)
            have hfr3 := hfr2.set (Q.length * 2 + 1) (.int .i64 ((fst v : Int) + 1))
            have hMY : CM o3 (X.setCell ⟨cb, Q.length * 2 + 1, none⟩ (.int .i64 ((fst v : Int) + 1))) K { m3 with fr := gfr fst (Q ++ [v]) } := by
              have hM' := hM
              rw [HK.out] at hM' ⊢
              refine ⟨hM'.be.step s1 (by simp), hM'.bo.step s1 (by simp), hM'.bl.step s1 (by simp), hM'.bn.step s1 (by simp), hM'.bs.step s1 (by simp), ?_, hM'.br.step s1 (by simp), hM'.ord.step s1 (by simp), hM'.low.step s1 (by simp), hM'.on.step s1 (by simp), hM'.st.step s1 (by simp), ?_⟩
              · have := hM'.bc.step s1 (by simp)
                rw [h1.fr] at this
                simpa [gfr] using this
              · have e : frv (gfr fst (Q ++ [v])) = (frv (gfr fst Q) ++ [Value.int .i64 (v : Int)] ++ [Value.int .i64 (fst v : Int)]).set (Q.length * 2 + 1) (.int .i64 ((fst v : Int) + 1)) := by
                  have e2 : gfr fst (Q ++ [v]) = gfr fst Q ++ [(v, fst v + 1)] := by simp [gfr]
                  rw [e2, frv_snoc, set_snoc _ _ _ _ (by simp [hfvl])]
                  simp
                show Rw _ _ _ _ _ _ (frv (gfr fst (Q ++ [v])))
                rw [e]; exact hfr3
            have hEY := hE.step s1 (by simp) (by simp)
            have sY : Step CT o3 wr o3 (X.setCell ⟨cb, Q.length * 2 + 1, none⟩ (.int .i64 ((fst v : Int) + 1))) := (sX.mono (by simp)).trans (s1.mono (by decide))
            obtain ⟨Y, hY⟩ : ∃ Y, X.setCell ⟨cb, Q.length * 2 + 1, none⟩ (.int .i64 ((fst v : Int) + 1)) = Y := ⟨_, rfl⟩
            rw [hY] at hMY hEY sY
            have hMZ := hMY
            rw [HK.out] at hMZ
            have f1 : Y.cell? ⟨Bo, 0, none⟩ = some (.slice (some ⟨ob, 0, none⟩) n n) := hMZ.bo.cell 0
            have f2 : Y.cell? ⟨ob, nx v, none⟩ = some (.int .i64 (m3.ord (nx v) : Int)) := hMZ.ord.cell (nx v) hwn
            have f3 : Y.cell? ⟨Bn, 0, none⟩ = some (.slice (some ⟨nb, 0, none⟩) n n) := hMZ.bn.cell 0
            have f4 : Y.cell? ⟨nb, nx v, none⟩ = some (.bool (m3.on (nx v))) := hMZ.on.cell (nx v) hwn
            have b12 : (nx v : Int) < (n : Int) := by omega
            have hSQ : S.length + (Q.length + 1) ≤ 300 := by
              have := pig h1.ph.nd (fun q hq => hlt q (h1.ph.dd q hq))
              simp at this; omega
            by_cases hwv : nx v ∈ S ++ (Q ++ [v])
            · have hne : m3.ord (nx v) ≠ 0 := fun e => (h1.ph.vis _ hwn).1 e hwv
              have hneI : ¬ ((m3.ord (nx v) : Int) = 0) := by omega
              have hneB : ((m3.ord (nx v) : Int) == 0) = false := by simpa using hne
              by_cases hwp : nx v ∈ Q ++ [v]
              · obtain ⟨i, hi, hie⟩ := List.mem_iff_getElem.1 hwp
                have hon : m3.on (nx v) = true := by rw [h1.on _ hwn]; simpa using hwp
                have hil : i ≤ Q.length := by simp at hi; omega
                rw [hon] at f4
                have hov : m3.ord (nx v) = S.length + i + 1 := by rw [← hie]; exact h1.ph.ord i hi
                have hlv : m3.low v = S.length + Q.length + 1 := by have := h1.low Q.length (by simp); simpa using this
                have h2 := h1.circle i hi hie
                have f5 : Y.cell? ⟨Bl, 0, none⟩ = some (.slice (some ⟨lb', 0, none⟩) n n) := hMZ.bl.cell 0
                have f6 : Y.cell? ⟨lb', v, none⟩ = some (.int .i64 (m3.low v : Int)) := hMZ.low.cell v hvn
                have f7 := hMZ.low.frozen v
                have f8 : Y.cell? ⟨cb, Q.length * 2, none⟩ = some (.int .i64 (v : Int)) := by
                  have e2 : gfr fst (Q ++ [v]) = gfr fst Q ++ [(v, fst v + 1)] := by simp [gfr]
                  have hh := hMZ.fr
                  simp only [e2, frv_snoc] at hh
                  have := hh.cell (Q.length * 2) (by simp [hfvl])
                  rw [this, List.getElem_append_left (by simp [hfvl]), List.getElem_append_right (by omega)]
                  simp [hfvl]
                obtain ⟨A, hA⟩ : ∃ A : Nat, S.length + i + 1 = A := ⟨_, rfl⟩
                rw [hov, hA] at f2
                obtain ⟨L, hL⟩ : ∃ L : Nat, S.length + Q.length + 1 = L := ⟨_, rfl⟩
                rw [hlv, hL] at f6
                have bAL : (A : Int) ≤ (L : Int) := by omega
                rw [hov, hA] at hne hneI hneB
                rw [hA] at h2
                have emin : (if A < L then (A : Int) else (L : Int)) = (A : Int) := by split <;> omega
                have s3 := (hMZ.low.sset v (.int .i64 (A : Int)) (T := [61]) (by simp)).trans (Step.drew [61] o3 _)
                have lw := (hMZ.low.set v (.int .i64 (A : Int))).step (Step.drew [] o3 _) (by simp)
                have hMW : CM o3 (Y.setCell ⟨lb', v, none⟩ (.int .i64 (A : Int))).drew K { m3 with fr := gfr fst (Q ++ [v]), low := fun j => if j = v then A else m3.low j } := by
                  rw [HK.out]
                  refine ⟨hMZ.be.step s3 (by simp), hMZ.bo.step s3 (by simp), hMZ.bl.step s3 (by simp), hMZ.bn.step s3 (by simp), hMZ.bs.step s3 (by simp), hMZ.bc.step s3 (by simp), hMZ.br.step s3 (by simp), hMZ.ord.step s3 (by simp), ?_, hMZ.on.step s3 (by simp), hMZ.st.step s3 (by simp), hMZ.fr.step s3 (by simp)⟩
                  exact lw.congr fun j _ => by by_cases e : j = v <;> simp [e]
                have sW := sY.trans (s3.mono (T' := CT) (by decide))
                have HF := hid (And.intro hMW (And.intro (hEY.step s3 (by simp) (by simp)) (And.intro h2 (And.intro (hJ _ _ _ _ _ HJr.out sW) (Hst.out.trans (sW.mono fun t ht => List.mem_append.2 (.inr ht)))))))
                have bv : (v : Int) < (n : Int) := by omega
                have HAL := hid (And.intro hA hL)
                have Hem := hid emin
                clear hMY hEY h2 hMZ sY s1 hfr2 hfr3 sX hM hE h1 hon hov hlv hA hL emin hMW sW s3 lw
                go_wp2
                go_region
                all_goals
                  rw [Hem.out]
                  go_wp2
                  go_roundg ((Q ++ [v]).length)
                  case rel =>
                    obtain ⟨g1, g2, g3, g4, g5⟩ := HF.out
                    exact ⟨o3, _, g1, g2, g5, .inr ⟨Q ++ [v], S, i, g3, g4, Hin.out⟩⟩
                  case measure => simp; omega
              · have hwS : nx v ∈ S := (List.mem_append.1 hwv).resolve_right hwp
                have hoff : m3.on (nx v) = false := by rw [h1.on _ hwn]; simpa using hwp
                rw [hoff] at f4
                have h2 := h1.tail hwS
                have HF := hid (And.intro hMY (And.intro hEY (And.intro h2 (And.intro (hJ _ _ _ _ _ HJr.out sY) (Hst.out.trans (sY.mono fun t ht => List.mem_append.2 (.inr ht)))))))
                clear hMY hEY h2 hMZ sY s1 hfr2 hfr3 sX hM hE h1 hoff
                go_wp2
                go_roundg ((Q ++ [v]).length)
                case rel =>
                  obtain ⟨g1, g2, g3, g4, g5⟩ := HF.out
                  exact ⟨o3, _, g1, g2, g5, .inr ⟨Q ++ [v], S, Q.length, g3, g4, Hin.out⟩⟩
                case measure => simp; omega
            · have hz : m3.ord (nx v) = 0 := (h1.ph.vis _ hwn).2 hwv
              rw [hz] at f2
              have hcap2 : Q.length + 2 ≤ ds.length := by
                have := nodup_sub (ds := ds) (List.nodup_append.1 (nodup_snoc h1.ph.nd hwv)).2.1 (fun x hx => by
                  rcases List.mem_append.1 hx with h3 | h3
                  · exact (hds x).1 (h1.ph.dd x (List.mem_append.2 (.inr h3)))
                  · rw [List.mem_singleton.1 h3]; exact (hds _).1 hwd)
                simpa using this
              have h2 := h1.reach hwd hwn hwv hlt
              have HC := hid (reach_any o3 Y K fst nx dead _ hMY hEY (by rw [hKn]; exact hn) (by rw [hKD]; omega) (by show m3.st.length < _; rw [h1.st, hKD]; simp; omega) (by rw [hKD]; simp [gfr]; omega) (by show m3.rc ≤ _; rw [h1.ph.rc]; simp; omega) (nx v) (by rw [hKn]; exact hwn) (by have := hfb (nx v) (by omega); omega))
              rw [HK.out] at HC
              have HC' : Hid (Calls Ybaz.prog 33 #[.int .i64 (nx v : Int), .pointer (some ⟨Br, 0, none⟩), .pointer (some ⟨Bo, 0, none⟩), .pointer (some ⟨Bl, 0, none⟩), .pointer (some ⟨Bs, 0, none⟩), .pointer (some ⟨Bn, 0, none⟩), .pointer (some ⟨Bc, 0, none⟩), .pointer (some ⟨Be, 0, none⟩)] Y _) := HC
              have HF := hid (And.intro hEY (And.intro h2 sY))
              clear hMY hEY h2 hMZ sY s1 hfr2 hfr3 sX hM hE h1 hz HC
              go_wp2_with (go_at_call 33; refine HC'.out.mono ?_; rintro e w2 ⟨⟨r, rfl⟩, o4, hM4, st4⟩)
              go_roundg ((n - (Q ++ [v]).length) + n + 2)
              case rel =>
                obtain ⟨g1, g2, g3⟩ := HF.out
                have g4 := g3.trans st4
                refine ⟨o4, _, by rw [HK.out]; exact hM4, g1.step st4 (by decide) (by decide), Hst.out.trans (g4.mono fun t ht => List.mem_append.2 (.inr ht)), .inl ⟨Q ++ [v], nx v, g2, hJ _ _ _ _ _ HJr.out g4, ?_, rfl⟩⟩
                have := Hin.out
                simp only [List.mem_append] at this ⊢
                rcases this with h5 | h5
                · exact .inl h5
                · exact .inr (.inl h5)
              case measure => simp; omega
          · cases gk with
            | zero =>
              have c1 : wr.cell? ⟨Bc, 0, none⟩ = some (.slice (some ⟨cb, 0, none⟩) 0 ds.length) := by
                have := hM3.bc.cell 0
                rw [h2.fr] at this
                simpa [gfr] using this
              obtain ⟨hP0, hall⟩ := h2.done
              have HF := hid (And.intro hM (And.intro hE (And.intro hP0 (And.intro hJr (And.intro hall (And.intro hin st))))))
              clear hM hE hP0 hJr hall hin st hM3 hE3 h2
              go_wp2
              go_roundw
              case rel =>
                obtain ⟨hM, hE, hP0, hJr, hall, hin, st⟩ := HF.out
                refine ⟨k + 1, o3, m3, SS, by go_num, by omega, hM, hE, hP0, hJr, fun j hj hj2 => ?_, st⟩
                by_cases e : j = k
                · subst e; exact hall _ (List.mem_append.1 hin)
                · exact hall _ (.inl (HD.out j hj (by omega)))
              case measure => simp [intOf]; omega
            | succ c =>
              have hcP : c < P.length := h2.hc
              obtain ⟨v, hv⟩ : ∃ v, P[c] = v := ⟨_, rfl⟩
              have hvd : dead v := h2.ph.dd v (List.mem_append.2 (.inr (by rw [← hv]; exact List.getElem_mem _)))
              have hvn := hlt v hvd
              have et : P.take (c + 1) = P.take c ++ [v] := by rw [List.take_add_one]; simp [List.getElem?_eq_getElem hcP, hv]
              have hgl : (gfr fst (P.take c)).length = c := by simp [gfr]; omega
              have hfr0 : m3.fr = gfr fst (P.take c) ++ [(v, fst v + 1)] := by rw [h2.fr, et]; simp [gfr]
              have hfl : m3.fr.length = c + 1 := by rw [hfr0]; simp [hgl]
              have hPd : P.length ≤ ds.length := nodup_sub (ds := ds) (List.nodup_append.1 h2.ph.nd).2.1 (fun x hx => (hds x).1 (h2.ph.dd x (List.mem_append.2 (.inr hx))))
              have hSP : S.length + P.length ≤ 300 := by
                have := pig h2.ph.nd (fun q hq => hlt q (h2.ph.dd q hq))
                simp at this; omega
              have c1 : wr.cell? ⟨Bc, 0, none⟩ = some (.slice (some ⟨cb, 0, none⟩) (c + 1) ds.length) := by rw [← hfl]; exact hM3.bc.cell 0
              have hfvl : (frv (gfr fst (P.take c))).length = c * 2 := by rw [frv_length, hgl]
              have hfrv : frv m3.fr = frv (gfr fst (P.take c)) ++ [.int .i64 (v : Int)] ++ [.int .i64 ((fst v + 1 : Nat) : Int)] := by rw [hfr0, frv_snoc]
              have c2 : wr.cell? ⟨cb, c * 2, none⟩ = some (.int .i64 (v : Int)) := by
                have := hM3.fr.cell (c * 2) (by rw [hfrv]; simp [hfvl])
                rw [this]
                simp only [hfrv]
                rw [List.getElem_append_left (by simp [hfvl]), List.getElem_append_right (by omega)]
                simp [hfvl]
              have c3 : wr.cell? ⟨cb, c * 2 + 1, none⟩ = some (.int .i64 ((fst v : Int) + 1)) := by
                have := hM3.fr.cell (c * 2 + 1) (by rw [hfrv]; simp [hfvl])
                rw [this]
                simp only [hfrv]
                rw [List.getElem_append_right (by simp [hfvl])]
                simp [hfvl]
              have c5 : wr.cell? ⟨Be, 0, none⟩ = some (.slice (some ⟨fb, 0, none⟩) (n + 1) (n + 1)) := hM3.be.cell 0
              have c7 : wr.cell? ⟨fb, v + 1, none⟩ = some (.int .i64 ((fst v : Int) + 1)) := by
                have := hE3.cf (v + 1) hvn
                rw [hfst v hvd] at this
                exact this
              have b5 : (v : Int) + 1 < (n : Int) + 1 := by omega
              have b7 : (c : Int) < (c : Int) + 1 := by omega
              have b8 : (0 : Int) < (c : Int) + 1 := by omega
              have b9 : (c : Int) ≤ 300 := by omega
              have b10 : (v : Int) ≤ 300 := by omega
              have b11 : (fst v : Int) ≤ 300 := by have := hfb v (by omega); omega
              have b12 : (c : Int) ≤ (ds.length : Int) := by omega
              have b13 : ¬ (fst v : Int) + 1 < (fst v : Int) + 1 := by omega
              have H2 := hid h2
              have HJr := hid hJr
              have Hst := hid st
              have Hin := hid hin
              have HMm := hid hM
              have HEe := hid hE
              have Het := hid et
              have Hv := hid hv
              clear h2 hJr st hin hM hE hM3 hE3 hfrv hfl hfr0 et hv
              go_wp2
              go_quiet (fail)
              obtain ⟨X, hX⟩ : ∃ X, wr.drewN nq = X := ⟨_, rfl⟩
              rw [hX]
              have sX : Step [] o3 wr o3 X := by rw [← hX]; exact Step.drewN [] o3 wr nq
              clear hX c1 c2 c3 c5 c7
              have h2 := H2.out
              have hM := HMm.out.step sX (by simp)
              have hE := HEe.out.step sX (by simp) (by simp)
              have hM3 := hM
              rw [HK.out] at hM3
              have hfr0 : m3.fr = gfr fst (P.take c) ++ [(v, fst v + 1)] := by rw [h2.fr, Het.out]; simp [gfr]
              have hfl : m3.fr.length = c + 1 := by rw [hfr0]; simp [hgl]
              have d1 : X.cell? ⟨Bc, 0, none⟩ = some (.slice (some ⟨cb, 0, none⟩) (c + 1) ds.length) := by rw [← hfl]; exact hM3.bc.cell 0
              have d2 := hM3.bc.frozen 0
              have hfrv : frv m3.fr = frv (gfr fst (P.take c)) ++ [.int .i64 (v : Int)] ++ [.int .i64 ((fst v + 1 : Nat) : Int)] := by rw [hfr0, frv_snoc]
              have d3 : X.cell? ⟨cb, c * 2, none⟩ = some (.int .i64 (v : Int)) := by
                have := hM3.fr.cell (c * 2) (by rw [hfrv]; simp [hfvl])
                rw [this]
                simp only [hfrv]
                rw [List.getElem_append_left (by simp [hfvl]), List.getElem_append_right (by omega)]
                simp [hfvl]
              have s1 := hM3.bc.sset 0 (.slice (some ⟨cb, 0, none⟩) c ds.length) (T := [67]) (by simp)
              have bc1 := hM3.bc.set 0 (.slice (some ⟨cb, 0, none⟩) c ds.length)
              have hMY : CM o3 (X.setCell ⟨Bc, 0, none⟩ (.slice (some ⟨cb, 0, none⟩) c ds.length)) K { m3 with fr := gfr fst (P.take c) } := by
                rw [HK.out]
                refine ⟨hM3.be.step s1 (by simp), hM3.bo.step s1 (by simp), hM3.bl.step s1 (by simp), hM3.bn.step s1 (by simp), hM3.bs.step s1 (by simp), ?_, hM3.br.step s1 (by simp), hM3.ord.step s1 (by simp), hM3.low.step s1 (by simp), hM3.on.step s1 (by simp), hM3.st.step s1 (by simp), ?_⟩
                · simpa [hgl] using bc1
                · have := (hM3.fr.step s1 (by simp)).cut (c * 2)
                  rw [hfrv, List.append_assoc, List.take_append_of_le_length (by omega), List.take_of_length_le (by omega)] at this
                  exact this
              have hEY := hE.step s1 (by simp) (by simp)
              have sY : Step CT o3 wr o3 (X.setCell ⟨Bc, 0, none⟩ (.slice (some ⟨cb, 0, none⟩) c ds.length)) := (sX.mono (by simp)).trans (s1.mono (by decide))
              obtain ⟨Y, hY⟩ : ∃ Y, X.setCell ⟨Bc, 0, none⟩ (.slice (some ⟨cb, 0, none⟩) c ds.length) = Y := ⟨_, rfl⟩
              rw [hY] at hMY hEY sY
              have hMZ := hMY
              rw [HK.out] at hMZ
              have f1 : Y.cell? ⟨Bc, 0, none⟩ = some (.slice (some ⟨cb, 0, none⟩) c ds.length) := by have := hMZ.bc.cell 0; simpa [hgl] using this
              have HMY := hid hMY
              have HEY := hid hEY
              have HSY := hid sY
              have HMZ := hid hMZ
              clear hMY hEY sY s1 sX bc1 hM hE hM3 hMZ hfrv hfl hfr0 h2
              go_upto_region 25 with fail
              clear d1 d2 d3
              rcases Nat.eq_zero_or_pos c with hc0 | hc0
              focus
                have b14 : ¬ (0 : Int) < (c : Int) := by omega
                have HZ : Hid (∃ low' : Nat → Nat, CM o3 Y K { m3 with fr := gfr fst (P.take c), low := low' } ∧ EG o3 Y K fst nx dead ∧ Step CT o3 wr o3 Y ∧ (∀ j (h : j < P.length), j + 1 < c → low' P[j] = m3.low P[j]) ∧ (∀ (ha : c - 1 < P.length) (hb : c < P.length), 0 < c → low' P[c - 1] = min (m3.low P[c - 1]) (m3.low P[c])) ∧ low' v = m3.low v) :=
                  ⟨m3.low, HMY.out, HEY.out, HSY.out, fun _ _ _ => rfl, fun _ _ h => by omega, rfl⟩
                have Hc0 := hid hc0
                clear HMY HEY HSY HMZ hY hc0
                go_upto_region 28 with fail
                obtain ⟨Z, hZ⟩ : ∃ Z, Y = Z := ⟨_, rfl⟩
                rw [hZ] at HZ ⊢
                clear hZ f1 b14 Hc0
              rotate_left
              focus
                obtain ⟨c', rfl⟩ : ∃ c', c = c' + 1 := ⟨c - 1, by omega⟩
                have hc'P : c' < P.length := by omega
                obtain ⟨u, hu⟩ : ∃ u, P[c'] = u := ⟨_, rfl⟩
                have hud : dead u := H2.out.ph.dd u (List.mem_append.2 (.inr (by rw [← hu]; exact List.getElem_mem _)))
                have hun := hlt u hud
                have huv : u ≠ v := fun e => by
                  have := H2.out.ph.inj hc'P hcP (by rw [hu, Hv.out, e]); omega
                have hMZ := HMZ.out
                have et2 : P.take (c' + 1) = P.take c' ++ [u] := by rw [List.take_add_one]; simp [List.getElem?_eq_getElem hc'P, hu]
                have hfr3 := hMZ.fr
                have eg3 : gfr fst (P.take (c' + 1)) = gfr fst (P.take c') ++ [(u, fst u + 1)] := by rw [et2]; simp [gfr]
                simp only [eg3, frv_snoc] at hfr3
                have hgl3 : (frv (gfr fst (P.take c'))).length = c' * 2 := by rw [frv_length]; simp [gfr]; omega
                have g1 : Y.cell? ⟨cb, c' * 2, none⟩ = some (.int .i64 (u : Int)) := by
                  have := hfr3.cell (c' * 2) (by simp [hgl3])
                  rw [this, List.getElem_append_left (by simp [hgl3]), List.getElem_append_right (by omega)]
                  simp [hgl3]
                have g2 : Y.cell? ⟨Bl, 0, none⟩ = some (.slice (some ⟨lb', 0, none⟩) n n) := hMZ.bl.cell 0
                have g3 : Y.cell? ⟨lb', u, none⟩ = some (.int .i64 (m3.low u : Int)) := hMZ.low.cell u hun
                have g4 : Y.cell? ⟨lb', v, none⟩ = some (.int .i64 (m3.low v : Int)) := hMZ.low.cell v hvn
                have g5 := hMZ.low.frozen u
                have b14 : (0 : Int) < (c' : Int) + 1 := by omega
                have b15 : (u : Int) < (n : Int) := by omega
                have b16 : (v : Int) < (n : Int) := by omega
                have b17 : (c' : Int) ≤ 300 := by omega
                have emin : (if m3.low v < m3.low u then (m3.low v : Int) else (m3.low u : Int)) = ((min (m3.low u) (m3.low v) : Nat) : Int) := by split <;> omega
                have s3 := (hMZ.low.sset u (.int .i64 ((min (m3.low u) (m3.low v) : Nat) : Int)) (T := [61]) (by simp)).trans (Step.drew [61] o3 _)
                have lw := (hMZ.low.set u (.int .i64 ((min (m3.low u) (m3.low v) : Nat) : Int))).step (Step.drew [] o3 _) (by simp)
                have HZ : Hid (∃ low' : Nat → Nat, CM o3 (Y.setCell ⟨lb', u, none⟩ (.int .i64 ((min (m3.low u) (m3.low v) : Nat) : Int))).drew K { m3 with fr := gfr fst (P.take (c' + 1)), low := low' } ∧ EG o3 (Y.setCell ⟨lb', u, none⟩ (.int .i64 ((min (m3.low u) (m3.low v) : Nat) : Int))).drew K fst nx dead ∧ Step CT o3 wr o3 (Y.setCell ⟨lb', u, none⟩ (.int .i64 ((min (m3.low u) (m3.low v) : Nat) : Int))).drew ∧ (∀ j (h : j < P.length), j + 1 < c' + 1 → low' P[j] = m3.low P[j]) ∧ (∀ (ha : c' + 1 - 1 < P.length) (hb : c' + 1 < P.length), 0 < c' + 1 → low' P[c' + 1 - 1] = min (m3.low P[c' + 1 - 1]) (m3.low P[c' + 1])) ∧ low' v = m3.low v) := by
                  refine ⟨fun j => if j = u then min (m3.low u) (m3.low v) else m3.low j, ?_, HEY.out.step s3 (by simp) (by simp), HSY.out.trans (s3.mono (by decide)), fun j hj hj2 => ?_, fun ha hb _ => ?_, ?_⟩
                  · rw [HK.out]
                    refine ⟨hMZ.be.step s3 (by simp), hMZ.bo.step s3 (by simp), hMZ.bl.step s3 (by simp), hMZ.bn.step s3 (by simp), hMZ.bs.step s3 (by simp), hMZ.bc.step s3 (by simp), hMZ.br.step s3 (by simp), hMZ.ord.step s3 (by simp), ?_, hMZ.on.step s3 (by simp), hMZ.st.step s3 (by simp), hMZ.fr.step s3 (by simp)⟩
                    exact lw.congr fun j _ => by by_cases e : j = u <;> simp [e]
                  · show (if P[j] = u then _ else _) = _
                    rw [if_neg (fun e => by have := H2.out.ph.inj hj hc'P (by rw [e, hu]); omega)]
                  · show (if P[c' + 1 - 1] = u then _ else _) = _
                    have e1 : P[c' + 1 - 1] = u := by simpa using hu
                    rw [if_pos e1, e1, Hv.out]
                  · show (if v = u then _ else _) = _
                    rw [if_neg (fun e => huv e.symm)]
                have Hem := hid emin
                clear HMY HEY HSY HMZ hY hMZ lw s3 emin hfr3 hu et2 eg3
                go_wp2
                go_region
                rw [Hem.out]
                go_upto_region 28 with fail
                obtain ⟨Z, hZ⟩ : ∃ Z, (Y.setCell ⟨lb', u, none⟩ (.int .i64 ((min (m3.low u) (m3.low v) : Nat) : Int))).drew = Z := ⟨_, rfl⟩
                rw [hZ] at HZ ⊢
                clear hZ f1 b14 g1 g2 g3 g4 g5 b15 b16 b17 Hem hud hun huv
                generalize hc' : c' + 1 = c at *
                clear hc' hc'P hgl3 hc0
              all_goals
                obtain ⟨low', hM, hE, sZ, hl1, hl2, hlv⟩ := HZ.out
                have h2 := H2.out
                have hM3 := hM
                rw [HK.out] at hM3
                have r1 : Z.cell? ⟨Bl, 0, none⟩ = some (.slice (some ⟨lb', 0, none⟩) n n) := hM3.bl.cell 0
                have r2 : Z.cell? ⟨lb', v, none⟩ = some (.int .i64 (m3.low v : Int)) := by rw [← hlv]; exact hM3.low.cell v hvn
                have r3 : Z.cell? ⟨Bo, 0, none⟩ = some (.slice (some ⟨ob, 0, none⟩) n n) := hM3.bo.cell 0
                have r4 : Z.cell? ⟨ob, v, none⟩ = some (.int .i64 (m3.ord v : Int)) := hM3.ord.cell v hvn
                have b15 : (v : Int) < (n : Int) := by omega
                by_cases hic2 : i < c
                · have e1 : m3.low v = S.length + i + 1 := by have := (h2.up (by omega)).2.2.1 (by omega); simpa [Hv.out] using this
                  have e2 : m3.ord v = S.length + c + 1 := by rw [← Hv.out]; exact h2.ph.ord c hcP
                  have hneI : ¬ ((m3.low v : Int) = (m3.ord v : Int)) := by rw [e1, e2]; omega
                  have hneB : ((m3.low v : Int) == (m3.ord v : Int)) = false := by simpa using (fun e => hneI (by rw [e]))
                  have h3 := h2.stay hic2 low' hl1 (fun ha hb => hl2 ha hb (by omega))
                  have HF := hid (And.intro hM (And.intro hE (And.intro sZ h3)))
                  clear hM hE sZ h3 hM3 h2 hl1 hl2 hlv HZ e1 e2
                  go_wp2
                  go_quiet (fail)
                  go_wp2
                  go_roundg c
                  case rel =>
                    obtain ⟨hM, hE, sZ, h3⟩ := HF.out
                    have sd := Step.drewN [] o3 Z nq
                    have sW := sZ.trans (sd.mono (T' := CT) (by simp))
                    exact ⟨o3, _, hM.step sd (by simp), hE.step sd (by simp) (by simp), Hst.out.trans (sW.mono fun t ht => List.mem_append.2 (.inr ht)), .inr ⟨P, SS, i, h3, hJ _ _ _ _ _ HJr.out sW, Hin.out⟩⟩
                  case measure => omega
                · obtain ⟨hVC, hst, hlo, hnew⟩ := h2.emit (by omega) low' hl1 hl2
                  have hlo := hlo hcP
                  rw [Hv.out] at hlo
                  rw [← hlo] at r4
                  have hsg : ∀ j (hj : j < m3.st.length) (hj2 : j < P.length), m3.st[j] = P[j] := by
                    intro j hj hj2
                    by_cases e : i < c + 1
                    · have := (h2.up e).1
                      simp only [this]
                    · have := (h2.down (by omega)).1
                      simp only [this, List.getElem_take]
                  have hsl : m3.st.length ≤ P.length := by
                    by_cases e : i < c + 1
                    · rw [(h2.up e).1]; omega
                    · rw [(h2.down (by omega)).1]; simp; omega
                  have hinj : ∀ j (hj : j < P.length), P[j] = v → j = c := fun j hj e => h2.ph.inj hj hcP (by rw [e, Hv.out])
                  obtain ⟨comp, hcomp⟩ : ∃ comp, m3.st.drop c = comp := ⟨_, rfl⟩
                  rw [hcomp] at hVC hst hnew
                  obtain ⟨q, hq⟩ : ∃ q, comp.length = q := ⟨_, rfl⟩
                  have htl : (P.take c).length = c := by simp; omega
                  have hL : m3.st.length = c + q := by rw [hst, List.length_append, htl, hq]
                  have hq0 : 0 < q := by rw [← hq]; exact hVC.ne
                  have hcg : ∀ j (hj : j < comp.length) (h2 : c + j < m3.st.length), m3.st[c + j] = comp[j] := by
                    intro j hj h2
                    simp only [hst]
                    rw [List.getElem_append_right (by omega)]
                    simp [htl]
                  have hcd : ∀ x ∈ comp, dead x := fun x hx => hVC.dd x (List.mem_append.2 (.inr hx))
                  have hqD : c + q ≤ ds.length := by omega
                  have HF := hid (And.intro hM (And.intro hE (And.intro sZ (And.intro hVC hnew))))
                  have Hst2 := hid hst
                  have HsL := hid hL
                  have Hq := hid hq
                  have Hhl := hid hlo
                  clear hM hE sZ hVC hnew hM3 h2 hl1 hl2 hlv HZ hst hL hq hlo hcomp
                  go_wp2
                  go_quiet (fail)
                  obtain ⟨Z2, hZ2⟩ : ∃ Z2, Z.drewN nq = Z2 := ⟨_, rfl⟩
                  rw [hZ2]
                  obtain ⟨hM, hE, sZ, hVC, hnew⟩ := HF.out
                  have sd : Step [] o3 Z o3 Z2 := by rw [← hZ2]; exact Step.drewN [] o3 Z nq
                  clear hZ2 r1 r2 r3 r4
                  have hM2 := hM.step sd (by simp)
                  have hE2 := hE.step sd (by simp) (by simp)
                  have s2 := sZ.trans (sd.mono (T' := CT) (by simp))
                  have hM3 := hM2
                  rw [HK.out] at hM3
                  have q1 : Z2.cell? ⟨Bs, 0, none⟩ = some (.slice (some ⟨stb, 0, none⟩) (c + q) ds.length) := by rw [← HsL.out]; exact hM3.bs.cell 0
                  have q2 : ∀ j (hj : j < m3.st.length), Z2.cell? ⟨stb, j, none⟩ = some (.int .i64 (m3.st[j] : Int)) := fun j hj => by
                    have := hM3.st.cell j (by rw [ints_length]; exact hj)
                    rw [this]; simp [ints]
                  have b16 : (q : Int) ≤ 300 := by omega
                  have b17 : (0 : Int) < (q : Int) := by omega
                  have b18 : (c : Int) + (q : Int) ≤ (ds.length : Int) := by omega
                  have HF2 := hid (And.intro hM2 (And.intro hE2 (And.intro (And.intro (hJ _ _ _ _ _ HJr.out s2) (Hst.out.trans (s2.mono (T' := TE ++ CT) fun t ht => List.mem_append.2 (.inr ht)))) (And.intro hVC hnew))))
                  have HQ2 := hid q2
                  clear hM hE sZ hVC hnew hM2 hE2 s2 hM3 sd HF q2
                  go_wp2
                  go_loopw [20] (fun x wz => ∃ j : Nat, x = .int .i64 (j : Int) ∧ c ≤ j ∧ j < c + q ∧ wz = Z2) (fun x _ => (intOf x).toNat)
                  case atStart => exact ⟨c + q - 1, by simp; omega, by omega, by omega, rfl⟩
                  case round =>
                    obtain ⟨j, rfl, hj1, hj2, hwz⟩ := hrel
                    subst hwz
                    have hjs : j < m3.st.length := by rw [HsL.out]; exact hj2
                    have p1 := HQ2.out j hjs
                    have b19 : (j : Int) < (c : Int) + (q : Int) := by omega
                    by_cases hjc : j = c
                    · have hjv : m3.st[j] = v := by subst hjc; rw [hsg j hjs hcP]; exact Hv.out
                      rw [hjv] at p1
                      have hjc' : c = j := hjc.symm
                      subst hjc'
                      clear hjv hjc
                      go_wp2
                      clear p1 q1
                      go_loopw [176] (fun x wz => ∃ j : Nat, x = .int .i64 (j : Int) ∧ j ≤ q ∧ CM o3 wz K { m3 with fr := gfr fst (P.take c), low := low', on := fun x => if x ∈ comp.take j then false else m3.on x } ∧ EG o3 wz K fst nx dead ∧ J SS o3 wz ∧ Step (TE ++ CT) o W o3 wz) (fun x _ => q - (intOf x).toNat)
                      case atStart =>
                        obtain ⟨hM, hE, ⟨hJ2, s2⟩, hVC, hnew⟩ := HF2.out
                        exact ⟨0, rfl, by omega, by simpa using hM, hE, hJ2, s2⟩
                      case round =>
                        obtain ⟨j, rfl, hjq, hM, hE, hJ4, s4⟩ := hrel
                        have hM3 := hM
                        rw [HK.out] at hM3
                        have q1 : wr.cell? ⟨Bs, 0, none⟩ = some (.slice (some ⟨stb, 0, none⟩) (c + q) ds.length) := by rw [← HsL.out]; exact hM3.bs.cell 0
                        by_cases hjl : j < q
                        · have hjs2 : c + j < m3.st.length := by rw [HsL.out]; omega
                          have hjc2 : j < comp.length := by rw [Hq.out]; exact hjl
                          have hxd := hcd _ (List.getElem_mem hjc2)
                          have hxn := hlt _ hxd
                          have q2 : wr.cell? ⟨stb, c + j, none⟩ = some (.int .i64 (comp[j] : Int)) := by
                            have := hM3.st.cell (c + j) (by rw [ints_length]; exact hjs2)
                            rw [this]; simp [ints, hcg j hjc2 hjs2]
                          have q3 : wr.cell? ⟨Bn, 0, none⟩ = some (.slice (some ⟨nb, 0, none⟩) n n) := hM3.bn.cell 0
                          have q4 := hM3.on.cell comp[j] hxn
                          have q5 := hM3.on.frozen comp[j]
                          have s5 := hM3.on.sset comp[j] (.bool false) (T := [62]) (by simp)
                          have on5 := hM3.on.set comp[j] (.bool false)
                          have hM5 : CM o3 (wr.setCell ⟨nb, comp[j], none⟩ (.bool false)) K { m3 with fr := gfr fst (P.take c), low := low', on := fun x => if x ∈ comp.take (j + 1) then false else m3.on x } := by
                            rw [HK.out]
                            refine ⟨hM3.be.step s5 (by simp), hM3.bo.step s5 (by simp), hM3.bl.step s5 (by simp), hM3.bn.step s5 (by simp), hM3.bs.step s5 (by simp), hM3.bc.step s5 (by simp), hM3.br.step s5 (by simp), hM3.ord.step s5 (by simp), hM3.low.step s5 (by simp), ?_, hM3.st.step s5 (by simp), hM3.fr.step s5 (by simp)⟩
                            refine on5.congr fun x _ => ?_
                            have e5 : comp.take (j + 1) = comp.take j ++ [comp[j]] := by rw [List.take_add_one]; simp [List.getElem?_eq_getElem hjc2]
                            show (if x = comp[j] then Value.bool false else _) = _
                            by_cases e : x = comp[j]
                            · have e7 : x ∈ comp.take (j + 1) := by rw [e5, e]; exact List.mem_append.2 (.inr (by simp))
                              rw [if_pos e]
                              simp only [e7, if_true]
                            · rw [if_neg e]
                              have e6 : (x ∈ comp.take j ++ [comp[j]]) ↔ x ∈ comp.take j := by rw [List.mem_append, List.mem_singleton]; exact ⟨fun h => h.resolve_right e, .inl⟩
                              simp only [e5, e6]
                          have HF3 := hid (And.intro hM5 (And.intro (hE.step s5 (by simp) (by simp)) (And.intro (hJ _ _ _ _ _ hJ4 (s5.mono (by decide))) (s4.trans (s5.mono (T' := TE ++ CT) (fun t ht => List.mem_append.2 (.inr (by revert t; decide))))))))
                          have b19 : (j : Int) < (q : Int) := by omega
                          have b20 : (comp[j] : Int) < (n : Int) := by omega
                          clear hM hM3 hE hJ4 s4 s5 on5 hM5 hxd
                          go_wp2
                          go_roundw
                          case rel => exact ⟨j + 1, by go_num, by omega, HF3.out⟩
                          case measure => simp [intOf]; omega
                        · obtain rfl : j = q := by omega
                          obtain ⟨_, _, _, hVC, hnew⟩ := HF2.out
                          have hRw : Rw o3 wr 63 stb 3 ds.length (ints (P.take c ++ comp)) := by
                            have := hM3.st
                            rw [Hst2.out] at this
                            exact this
                          have hec := hem SS (P.take c) comp o3 wr stb ds.length hJ4 hVC hRw (by omega)
                          rw [htl, Hq.out] at hec
                          have HC := hid hec
                          have HF3 := hid (And.intro hM (And.intro hE (And.intro hnew s4)))
                          have b19 : ¬ (j : Int) < (j : Int) := by omega
                          clear hM hM3 hE hJ4 s4 hRw hec hVC hnew
                          go_wp2_with fail
                          refine HC.out.mono ?_
                          rintro e w5 ⟨⟨r, rfl⟩, o5, hJ5, hRw5, s5⟩
                          obtain ⟨hM, hE, hnew, s4⟩ := HF3.out
                          have hM3 := hM
                          rw [HK.out] at hM3
                          have bs5 := hM3.bs.step s5 (hTE _ (by simp))
                          have z1 : w5.cell? ⟨Bs, 0, none⟩ = some (.slice (some ⟨stb, 0, none⟩) (c + j) ds.length) := by rw [← HsL.out]; exact bs5.cell 0
                          have z2 := bs5.frozen 0
                          have s6 := bs5.sset 0 (.slice (some ⟨stb, 0, none⟩) c ds.length) (T := [66]) (by simp)
                          have bs6 := bs5.set 0 (.slice (some ⟨stb, 0, none⟩) c ds.length)
                          have hM6 : CM o5 (w5.setCell ⟨Bs, 0, none⟩ (.slice (some ⟨stb, 0, none⟩) c ds.length)) K { m3 with fr := gfr fst (P.take c), low := low', st := P.take c, on := fun x => if x ∈ comp then false else m3.on x } := by
                            rw [HK.out]
                            refine ⟨(hM3.be.step s5 (hTE _ (by simp))).step s6 (by simp), (hM3.bo.step s5 (hTE _ (by simp))).step s6 (by simp), (hM3.bl.step s5 (hTE _ (by simp))).step s6 (by simp), (hM3.bn.step s5 (hTE _ (by simp))).step s6 (by simp), ?_, (hM3.bc.step s5 (hTE _ (by simp))).step s6 (by simp), (hM3.br.step s5 (hTE _ (by simp))).step s6 (by simp), (hM3.ord.step s5 (hTE _ (by simp))).step s6 (by simp), (hM3.low.step s5 (hTE _ (by simp))).step s6 (by simp), ?_, hRw5.step s6 (by simp), (hM3.fr.step s5 (hTE _ (by simp))).step s6 (by simp)⟩
                            · simpa [htl] using bs6
                            · have := (hM3.on.step s5 (hTE _ (by simp))).step s6 (by simp)
                              have e8 : comp.take j = comp := by rw [← Hq.out]; exact List.take_length
                              simpa only [e8] using this
                          have s7 : Step (TE ++ CT) o W o5 (w5.setCell ⟨Bs, 0, none⟩ (.slice (some ⟨stb, 0, none⟩) c ds.length)) := (s4.trans (s5.mono fun t ht => List.mem_append.2 (.inl ht))).trans (s6.mono fun t ht => List.mem_append.2 (.inr (by revert t; decide)))
                          have HF4 := hid (And.intro hM6 (And.intro ((hE.step s5 (hTE _ (by simp)) (hTE _ (by simp))).step s6 (by simp) (by simp)) (And.intro s7 (And.intro hnew (hJ _ _ _ _ _ hJ5 (s6.mono (by decide)))))))
                          clear hM hM3 hE s4 s5 s6 s7 bs5 bs6 hM6 hnew hJ5 hRw5 HC
                          go_wp2
                          go_roundg c
                          case rel =>
                            obtain ⟨g1, g2, g3, g4, g5⟩ := HF4.out
                            exact ⟨o5, _, g1, g2, g3, .inr ⟨P, SS ++ comp, i, g4, g5, Hin.out⟩⟩
                          case measure => omega
                    · have hjv : m3.st[j] ≠ v := fun e => hjc (hinj j (by omega) (by rw [← hsg j hjs (by omega)]; exact e))
                      have hneI : ¬ ((m3.st[j] : Int) = (v : Int)) := by omega
                      have hneB : ((m3.st[j] : Int) == (v : Int)) = false := by simpa using (fun e => hneI (by rw [e]))
                      go_wp2
                      go_roundw
                      case rel => exact ⟨j - 1, by simp; omega, by omega, by omega, trivial⟩
                      case measure => simp [intOf]; omega
    · obtain rfl : k = ds.length := by omega
      have HF := hid (And.intro hM (And.intro hE (And.intro hP (And.intro hJr (And.intro hdn st)))))
      clear hM hE hP hJr hdn st
      go_wp2
      go_end0
      obtain ⟨hM, hE, hP, hJr, hdn, st⟩ := HF.out
      refine ⟨⟨_, rfl⟩, o1, S, hJr, fun v hv => ?_, st⟩
      obtain ⟨j, hj, rfl⟩ := List.mem_iff_getElem.1 ((hds v).1 hv)
      exact hdn j hj hj
end Go.Proofs.YbulkbmdoGreat
