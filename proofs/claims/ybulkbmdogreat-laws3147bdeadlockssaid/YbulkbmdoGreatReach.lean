import Derived.Test.YbulkbmdoGreatRw
import Derived.Test.YbulkbmdoGreatLists
namespace Go.Proofs.YbulkbmdoGreat
open Go.RowKit Go.Shelf
set_option linter.unusedVariables false

theorem info93 : (Ybaz.prog.info? 93).map (fun i => (i.zero, i.size, i.bytes)) = some (some (.agg #[.int .i64 0, .int .i64 0]), 2, 16) := by kernel_rfl

/-- Where the walk over the components keeps its things. -/
structure CK where
  n : Nat
  D : Nat
  fb : Nat
  ib : Nat
  icap : Nat
  Br : Nat
  Bo : Nat
  Bl : Nat
  Bs : Nat
  Bn : Nat
  Bc : Nat
  Be : Nat
  ob : Nat
  lb : Nat
  nb : Nat
  stb : Nat
  cb : Nat
/-- What they hold. -/
structure CS where
  ord : Nat → Nat
  low : Nat → Nat
  on : Nat → Bool
  st : List Nat
  fr : List (Nat × Nat)
  rc : Nat
def frv (l : List (Nat × Nat)) : List Value := l.flatMap fun x => [.int .i64 (x.1 : Int), .int .i64 (x.2 : Int)]
theorem frv_length (l : List (Nat × Nat)) : (frv l).length = l.length * 2 := by
  induction l with
  | nil => rfl
  | cons x l ih => simp [frv] at ih ⊢; omega
theorem frv_snoc (l : List (Nat × Nat)) (x : Nat × Nat) : frv (l ++ [x]) = frv l ++ [.int .i64 (x.1 : Int)] ++ [.int .i64 (x.2 : Int)] := by simp [frv]

/-- The edges: list v of the dead v holds nx v. -/
structure EG (o : Nat → Nat) (W : World) (K : CK) (fst nx : Nat → Nat) (dead : Nat → Prop) : Prop where
  tf : o K.fb = 23
  ti : o K.ib = 24
  lf : K.fb < W.heap.size
  li : K.ib < W.heap.size
  cf : ∀ j, j ≤ K.n → W.cell? ⟨K.fb, j, none⟩ = some (.int .i64 (fst j : Int))
  ci : ∀ v, dead v → W.cell? ⟨K.ib, fst v, none⟩ = some (.int .i64 (nx v : Int))

structure CM (o : Nat → Nat) (W : World) (K : CK) (m : CS) : Prop where
  be : Ob o W 99 K.Be 52 #[.slice (some ⟨K.fb, 0, none⟩) (K.n + 1) (K.n + 1), .slice (some ⟨K.ib, 0, none⟩) K.D K.icap]
  bo : Ob o W 99 K.Bo 24 #[.slice (some ⟨K.ob, 0, none⟩) K.n K.n]
  bl : Ob o W 99 K.Bl 24 #[.slice (some ⟨K.lb, 0, none⟩) K.n K.n]
  bn : Ob o W 99 K.Bn 50 #[.slice (some ⟨K.nb, 0, none⟩) K.n K.n]
  bs : Ob o W 66 K.Bs 24 #[.slice (some ⟨K.stb, 0, none⟩) m.st.length K.D]
  bc : Ob o W 67 K.Bc 91 #[.slice (some ⟨K.cb, 0, none⟩) m.fr.length K.D]
  br : Ob o W 65 K.Br 3 #[.int .i64 (m.rc : Int)]
  ord : Ar o W 60 K.ob 3 K.n (fun j => .int .i64 (m.ord j : Int))
  low : Ar o W 61 K.lb 3 K.n (fun j => .int .i64 (m.low j : Int))
  on : Ar o W 62 K.nb 4 K.n (fun j => .bool (m.on j))
  st : Rw o W 63 K.stb 3 K.D (ints m.st)
  fr : Rw o W 64 K.cb 93 (K.D * 2) (frv m.fr)

/-- What the walk itself writes. -/
def CT : List Nat := [60, 61, 62, 63, 64, 65, 66, 67]

section
variable {o o' : Nat → Nat} {W W' : World} {K : CK} {fst nx : Nat → Nat} {dead : Nat → Prop} {m : CS} {T : List Nat}
theorem EG.step (h : EG o W K fst nx dead) (hs : Step T o W o' W') (h1 : 23 ∉ T) (h2 : 24 ∉ T) : EG o' W' K fst nx dead :=
  ⟨(hs.own _ h.lf).trans h.tf, (hs.own _ h.li).trans h.ti, Nat.lt_of_lt_of_le h.lf hs.size, Nat.lt_of_lt_of_le h.li hs.size,
   fun j hj => (hs.cell (p := ⟨K.fb, j, none⟩) h.lf (by rw [h.tf]; exact h1)).trans (h.cf j hj), fun v hv => (hs.cell (p := ⟨K.ib, fst v, none⟩) h.li (by rw [h.ti]; exact h2)).trans (h.ci v hv)⟩
theorem CM.step (h : CM o W K m) (hs : Step T o W o' W') (h1 : ∀ t ∈ [60, 61, 62, 63, 64, 65, 66, 67, 99], t ∉ T) : CM o' W' K m :=
  ⟨h.be.step hs (h1 _ (by simp)), h.bo.step hs (h1 _ (by simp)), h.bl.step hs (h1 _ (by simp)), h.bn.step hs (h1 _ (by simp)), h.bs.step hs (h1 _ (by simp)), h.bc.step hs (h1 _ (by simp)), h.br.step hs (h1 _ (by simp)),
   h.ord.step hs (h1 _ (by simp)), h.low.step hs (h1 _ (by simp)), h.on.step hs (h1 _ (by simp)), h.st.step hs (h1 _ (by simp)), h.fr.step hs (h1 _ (by simp))⟩
end

def cargs (K : CK) : Array Value := #[.pointer (some ⟨K.Br, 0, none⟩), .pointer (some ⟨K.Bo, 0, none⟩), .pointer (some ⟨K.Bl, 0, none⟩), .pointer (some ⟨K.Bs, 0, none⟩), .pointer (some ⟨K.Bn, 0, none⟩), .pointer (some ⟨K.Bc, 0, none⟩), .pointer (some ⟨K.Be, 0, none⟩)]

attribute [local go_sem ↓] Go.wp_at_zero Go.wp_at_succ
set_option maxRecDepth 100000 in
set_option maxHeartbeats 4000000 in
/-- reach(v). -/
theorem reach_any (o : Nat → Nat) (W : World) (K : CK) (fst nx : Nat → Nat) (dead : Nat → Prop) (m : CS) (h : CM o W K m) (hE : EG o W K fst nx dead) (hn : K.n ≤ 300) (hD : K.D ≤ 300) (hst : m.st.length < K.D) (hfr : m.fr.length < K.D) (hrc : m.rc ≤ 1000) (v : Nat) (hv : v < K.n) (hfst : fst v ≤ 1000) :
    Calls Ybaz.prog 33 (#[.int .i64 (v : Int)] ++ cargs K) W fun e w' => (∃ r, e = .returned r) ∧
      ∃ o', CM o' w' K ⟨fun j => if j = v then m.rc + 1 else m.ord j, fun j => if j = v then m.rc + 1 else m.low j, fun j => if j = v then true else m.on j, m.st ++ [v], m.fr ++ [(v, fst v)], m.rc + 1⟩ ∧ Step CT o W o' w' := by
  show Calls Ybaz.prog 33 #[.int .i64 (v : Int), .pointer (some ⟨K.Br, 0, none⟩), .pointer (some ⟨K.Bo, 0, none⟩), .pointer (some ⟨K.Bl, 0, none⟩), .pointer (some ⟨K.Bs, 0, none⟩), .pointer (some ⟨K.Bn, 0, none⟩), .pointer (some ⟨K.Bc, 0, none⟩), .pointer (some ⟨K.Be, 0, none⟩)] W _
  have b1 : (v : Int) < (K.n : Int) := by omega
  have b2 : (v : Int) < (K.n : Int) + 1 := by omega
  -- region 0, 1
  have a0 : W.cell? ⟨K.Br, 0, none⟩ = some (.int .i64 (m.rc : Int)) := h.br.cell 0
  have a0f := h.br.frozen 0
  have s0 := h.br.sset 0 (.int .i64 ((m.rc : Int) + 1)) (T := CT) (by decide)
  have br0 := h.br.set 0 (.int .i64 ((m.rc : Int) + 1))
  have bo0 := h.bo.step s0 (by decide)
  have bl0 := h.bl.step s0 (by decide)
  have ord0 := h.ord.step (h.br.sset 0 (.int .i64 ((m.rc : Int) + 1)) (T := [65]) (by decide)) (by decide)
  have low0 := h.low.step (h.br.sset 0 (.int .i64 ((m.rc : Int) + 1)) (T := [65]) (by decide)) (by decide)
  have a1 := bo0.cell 0
  have a2 := bl0.cell 0
  have a3 := br0.cell 0
  have a4 := ord0.cell v hv
  have a5 := ord0.frozen v
  have a6 := low0.cell v hv
  have a7 := low0.frozen v
  have ord1 := ord0.set v (.int .i64 ((m.rc : Int) + 1))
  have s1 := ord0.sset v (.int .i64 ((m.rc : Int) + 1)) (T := [60]) (by decide)
  have low1 := (low0.step s1 (by decide)).set v (.int .i64 ((m.rc : Int) + 1))
  have s2 := (low0.step s1 (by decide)).sset v (.int .i64 ((m.rc : Int) + 1)) (T := [61]) (by decide)
  have a8 := (low0.step s1 (by decide)).cell v hv
  have a9 := (low0.step s1 (by decide)).frozen v
  have a10 := (bl0.step s1 (by decide)).cell 0
  have a11 := (br0.step s1 (by decide)).cell 0
  have s3 := low0.sset v (.int .i64 ((m.rc : Int) + 1)) (T := [61]) (by decide)
  have a12 := (bo0.step s3 (by decide)).cell 0
  have a13 := (br0.step s3 (by decide)).cell 0
  have a14 := (ord0.step s3 (by decide)).cell v hv
  have a15 := (ord0.step s3 (by decide)).frozen v
  have t2 := ((s0.trans (s1.mono (T' := CT) (by decide))).trans (s2.mono (T' := CT) (by decide))).trans (Step.drew CT o _)
  have s0' : Step [60, 61, 65] o W o _ := (((h.br.sset 0 (.int .i64 ((m.rc : Int) + 1)) (T := [60, 61, 65]) (by decide)).trans (s1.mono (by decide))).trans (s2.mono (by decide))).trans (Step.drew [60, 61, 65] o _)
  have low2 := low1.step (Step.drew [] o _) (by simp)
  have ord2 := (ord1.step s2 (by decide)).step (Step.drew [] o _) (by simp)
  have br2 := ((br0.step s1 (by decide)).step s2 (by decide)).step (Step.drew [] o _) (by simp)
  obtain ⟨W2, hW2⟩ : ∃ W2, ((((W.setCell ⟨K.Br, 0, none⟩ (.int .i64 ((m.rc : Int) + 1))).setCell ⟨K.ob, v, none⟩ (.int .i64 ((m.rc : Int) + 1))).setCell ⟨K.lb, v, none⟩ (.int .i64 ((m.rc : Int) + 1))).drew) = W2 := ⟨_, rfl⟩
  rw [hW2] at t2 s0' low2 ord2 br2
  have be2 := h.be.step s0' (by decide)
  have bo2 := h.bo.step s0' (by decide)
  have bl2 := h.bl.step s0' (by decide)
  have bn2 := h.bn.step s0' (by decide)
  have bs2 := h.bs.step s0' (by decide)
  have bc2 := h.bc.step s0' (by decide)
  have on2 := h.on.step s0' (by decide)
  have st2 := h.st.step s0' (by decide)
  have fr2 := h.fr.step s0' (by decide)
  have hE2 := hE.step s0' (by decide) (by decide)
  have H2 := hid (And.intro be2 (And.intro bo2 (And.intro bl2 (And.intro bn2 (And.intro bs2 (And.intro bc2 (And.intro br2 (And.intro ord2 (And.intro low2 (And.intro on2 (And.intro st2 (And.intro fr2 (And.intro hE2 t2)))))))))))))
  clear be2 bo2 bl2 bn2 bs2 bc2 br2 ord2 low2 on2 st2 fr2 hE2 t2 s0' s0 s1 s2 s3 br0 bo0 bl0 ord0 low0 ord1 low1 h hE
  go_enter Ybaz.func33, Ybaz.ntmps33
  go_wp2
  go_region
  all_goals
    obtain ⟨be2, bo2, bl2, bn2, bs2, bc2, br2, ord2, low2, on2, st2, fr2, hE2, t2⟩ := H2.out
    clear H2 a0 a0f a1 a2 a3 a4 a5 a6 a7 a8 a9 a10 a11 a12 a13 a14 a15

    clear hW2
    have c1 := bs2.cell 0
    have f1 := bs2.frozen 0
    -- stack = append(stack, v)
    have hl := ints_length m.st
    have ha := st2.app1 (v := .int .i64 (v : Int)) (cap := K.D) (by rw [hl]; exact hst) (Nat.le_refl _) (z := .int .i64 0) rfl 24 24 8 Ybaz.underlying24 info3 3
    rw [hl] at ha
    have sA := Step.alloc [] o W2 (.cells #[.int .i64 (v : Int)] 3) 99
    obtain ⟨oA, hoA⟩ : ∃ oA, tg o W2.heap.size 99 = oA := ⟨_, rfl⟩
    rw [hoA] at sA
    have stA := st2.step sA (by simp)
    have st3 := stA.push1 (.int .i64 (v : Int)) (by rw [hl]; exact hst)
    have sB := stA.sset (ints m.st).length (.int .i64 (v : Int)) (T := [63]) (by simp)
    rw [hl] at st3 sB
    obtain ⟨W3, hW3⟩ : ∃ W3, (W2.alloc (.cells #[.int .i64 (v : Int)] 3)).setCell ⟨K.stb, m.st.length, none⟩ (.int .i64 (v : Int)) = W3 := ⟨_, rfl⟩
    rw [hW3] at ha st3 sB
    have sC := (sA.mono (T' := [63]) (by simp)).trans sB
    have bs3 := bs2.step sC (by decide)
    have d1 : W3.cell? ⟨K.Bs, 0, none⟩ = some (.slice (some ⟨K.stb, 0, none⟩) m.st.length K.D) := bs3.cell 0
    have d2 := bs3.frozen 0
    have bs4 := bs3.set 0 (.slice (some ⟨K.stb, 0, none⟩) (m.st.length + 1) K.D)
    have sD := bs3.sset 0 (.slice (some ⟨K.stb, 0, none⟩) (m.st.length + 1) K.D) (T := [66]) (by simp)
    have on4 := (on2.step sC (by decide)).step sD (by decide)
    have bn4 := (bn2.step sC (by decide)).step sD (by decide)
    have e1 := bn4.cell 0
    have e2 := on4.cell v hv
    have e3 := on4.frozen v
    have on5 := on4.set v (.bool true)
    have sE := on4.sset v (.bool true) (T := [62]) (by simp)
    have sF := ((sC.mono (T' := [62, 63, 66]) (by simp)).trans (sD.mono (by simp))).trans (sE.mono (by simp))
    go_wp2_with (at_builtin; refine wpList_append_is rfl _ _ 24 rfl _ _ _ _ rfl rfl ha ?_)
    have fr5 := fr2.step sF (by decide)
    have st5 := (st3.step sD (by decide)).step sE (by decide)
    have bs5 := bs4.step sE (by decide)
    have be5 := be2.step sF (by decide)
    have bo5 := bo2.step sF (by decide)
    have bl5 := bl2.step sF (by decide)
    have bn5 := bn2.step sF (by decide)
    have bc5 := bc2.step sF (by decide)
    have br5 := br2.step sF (by decide)
    have ord5 := ord2.step sF (by decide)
    have low5 := low2.step sF (by decide)
    have hE5 := hE2.step sF (by decide) (by decide)
    have t5 := t2.trans (sF.mono (T' := CT) (by decide))
    obtain ⟨W5, hW5⟩ : ∃ W5, (W3.setCell ⟨K.Bs, 0, none⟩ (.slice (some ⟨K.stb, 0, none⟩) (m.st.length + 1) K.D)).setCell ⟨K.nb, v, none⟩ (.bool true) = W5 := ⟨_, rfl⟩
    rw [hW5] at fr5 st5 bs5 be5 bo5 bl5 bn5 bc5 br5 ord5 low5 hE5 t5 on5 ⊢
    clear hW5 sF sE sD sC sB sA bs4 bs3 d1 d2 e1 e2 e3 on4 bn4 ha hW3 hoA stA st3 be2 bo2 bl2 bn2 bs2 bc2 br2 ord2 low2 on2 st2 fr2 hE2 t2 c1 f1
    have hlf := frv_length m.fr
    have sd := Step.drew [] oA W5
    have ha := (fr5.step sd (by simp)).app2 (v := .int .i64 (v : Int)) (u := .int .i64 (fst v : Int)) (m := m.fr.length) (cap := K.D) hlf hfr (Nat.le_refl _) (z := .agg #[.int .i64 0, .int .i64 0]) rfl rfl 91 91 16 Ybaz.underlying91 info93 93
    have sA := (sd.trans (Step.alloc [] oA W5.drew (.cells #[.int .i64 (v : Int), .int .i64 (fst v : Int)] 93) 99))
    obtain ⟨oB, hoB⟩ : ∃ oB, tg oA W5.drew.heap.size 99 = oB := ⟨_, rfl⟩
    rw [hoB] at sA
    have frA := fr5.step sA (by simp)
    have frB := frA.push1 (.int .i64 (v : Int)) (by rw [hlf]; omega)
    have frC := frB.push1 (.int .i64 (fst v : Int)) (by simp [hlf]; omega)
    have s1 := frA.sset (frv m.fr).length (.int .i64 (v : Int)) (T := [64]) (by simp)
    have s2 := frB.sset (frv m.fr ++ [Value.int .i64 (v : Int)]).length (.int .i64 (fst v : Int)) (T := [64]) (by simp)
    have el : (frv m.fr ++ [Value.int .i64 (v : Int)]).length = m.fr.length * 2 + 1 := by simp [hlf]
    rw [el] at frC s2
    rw [hlf] at frC s1 s2
    have sB := (sA.mono (T' := [64]) (by simp)).trans (s1.trans s2)
    obtain ⟨W6, hW6⟩ : ∃ W6, (((W5.drew.alloc (.cells #[.int .i64 (v : Int), .int .i64 (fst v : Int)] 93)).setCell ⟨K.cb, m.fr.length * 2, none⟩ (.int .i64 (v : Int))).setCell ⟨K.cb, m.fr.length * 2 + 1, none⟩ (.int .i64 (fst v : Int))) = W6 := ⟨_, rfl⟩
    rw [hW6] at ha frC sB s2
    have bc6 := bc5.step sB (by decide)
    have x1 := bc5.cell 0
    have x2 := (bc5.step sA (by decide)).cell 0
    have x3 := be5.cell 0
    have x4 := hE5.cf v (by omega)
    have x5 : W6.cell? ⟨K.Bc, 0, none⟩ = some (.slice (some ⟨K.cb, 0, none⟩) m.fr.length K.D) := bc6.cell 0
    have x6 := bc6.frozen 0
    have bc7 := bc6.set 0 (.slice (some ⟨K.cb, 0, none⟩) (m.fr.length + 1) K.D)
    have s7 := bc6.sset 0 (.slice (some ⟨K.cb, 0, none⟩) (m.fr.length + 1) K.D) (T := [67]) (by simp)
    have s8 := (sB.mono (T' := [64, 67]) (by simp)).trans (s7.mono (by simp))
    have hfin : CM oB (W6.setCell ⟨K.Bc, 0, none⟩ (.slice (some ⟨K.cb, 0, none⟩) (m.fr.length + 1) K.D)) K ⟨fun j => if j = v then m.rc + 1 else m.ord j, fun j => if j = v then m.rc + 1 else m.low j, fun j => if j = v then true else m.on j, m.st ++ [v], m.fr ++ [(v, fst v)], m.rc + 1⟩ := by
      refine ⟨be5.step s8 (by decide), bo5.step s8 (by decide), bl5.step s8 (by decide), bn5.step s8 (by decide), ?_, ?_, ?_, ?_, ?_, ?_, ?_, ?_⟩
      · have := bs5.step s8 (by decide); simpa using this
      · simpa using bc7
      · have := br5.step s8 (by decide); simpa using this
      · refine (ord5.step s8 (by decide)).congr fun j _ => ?_
        by_cases e : j = v <;> simp [e]
      · refine (low5.step s8 (by decide)).congr fun j _ => ?_
        by_cases e : j = v <;> simp [e]
      · refine (on5.step s8 (by decide)).congr fun j _ => ?_
        by_cases e : j = v <;> simp [e]
      · have := st5.step s8 (by decide); simpa [ints_snoc] using this
      · have := frC.step s7 (by decide); simpa [frv_snoc] using this
    have HF := hid (And.intro hfin (t5.trans (s8.mono (T' := CT) (by decide))))
    have x2' : (W5.alloc (.cells #[.int .i64 (v : Int), .int .i64 (fst v : Int)] 93)).cell? ⟨K.Bc, 0, none⟩ = some (.slice (some ⟨K.cb, 0, none⟩) m.fr.length K.D) := x2
    have bb : (v : Int) < ((K.n + 1 : Nat) : Int) := by omega
    have HA := hid ha
    clear hfin t5 s8 s7 bc7 bc6 sB s1 s2 frA frB frC sA hoB hW6 x2 ha el fr5 st5 bs5 be5 bo5 bl5 bn5 bc5 br5 ord5 low5 hE5 on5 sd
    go_region_law (refine step_append_is (by rfl) _ _ 91 (by rfl) _ _ _ _ (by rfl) (by rfl) HA.out ?_)
    all_goals
      go_wp2
      go_end0
      exact ⟨⟨_, rfl⟩, oB, HF.out⟩
end Go.Proofs.YbulkbmdoGreat
