import Derived.Test.YbulkbmdoGreatQueue
namespace Go.Proofs.YbulkbmdoGreat
open Go.RowKit Go.Shelf
set_option linter.unusedVariables false

/-- append, where what it comes to is known. -/
theorem wpList_append_run {P : Program} {w : World} {ops : Array Oper} {rest : List Oper} {o : Oper} {a : Act} {Q : Exit → Act → World → Prop} (hgd : o.guard = none) (s x : Operand) (t : TypeId)
    (ho : o.op = .call { callee := .builtin .append, args := #[s, x], argTypes := #[t, t] }) (v x' v' : Value) (w' : World) (hs : a.eval s = v) (hx : a.eval x = x') (hr : (Builtin.append_ #[t, t] o.type #[v, x']).run P w = .ok v' w') (h : wpList P ops Q rest (a.put o.dst v') w') :
    wpList P ops Q (o :: rest) a w := by
  refine wpList_plain hgd fun K hK => ?_
  unfold Oper.wp execOp
  simp only [ho, resolve, invoke, builtin, Sem.run_bind, Sem.run_pure, Result.andThen_ok, List.map_toArray, List.map_cons, List.map_nil, hs, hx, hr]
  exact hK _ _ h

/-- One bucket's header turned. -/
theorem QAt.put {o : Nat → Nat} {W : World} {qb cap n : Nat} {cur : Array Value} {bv : Nat → Value} {bl : Nat → List Nat} (hn : n ≤ cap) (hm : cap ≤ maxLen) (ht : o qb = 36) (h6 : W.heap[qb]? = some (.cells cur 24 (0, 0))) (h7 : cur.size = cap) (h8 : ∀ j, j < cap → cur[j]? = some (bv j) ∧ Sl o W (100 + j) 3 (bv j) (ints (bl j)))
    (c : Nat) (hc : c < cap) (u : Value) (xs : List Nat) (hu : Sl o W (100 + c) 3 u (ints xs)) :
    QAt o (W.setCell ⟨qb, c, none⟩ u) (.slice (some ⟨qb, 0, none⟩) n cap) n (fun j => if j = c then xs else bl j) := by
  have hs : Step [36] o W o (W.setCell ⟨qb, c, none⟩ u) := Step.setCell W (by simp [ht]) u
  refine .inr ⟨qb, cap, cur.setIfInBounds c u, fun j => if j = c then u else bv j, rfl, hn, hm, ht, (Ob.set (o := o) (t := o qb) ⟨h6, rfl⟩ c u).blk, by simpa using h7, fun j hj => ⟨?_, ?_⟩⟩
  · by_cases e : j = c
    · subst e; simp [h7, hj]
    · rw [Array.getElem?_setIfInBounds_ne (fun e2 => e e2.symm)]
      simp only [e, if_false]
      exact (h8 j hj).1
  · by_cases e : j = c
    · subst e
      simp only [if_true]
      exact hu.step hs (by simp; omega)
    · simp only [e, if_false]
      exact (h8 j hj).2.step hs (by simp; omega)
theorem QAt.cell {o : Nat → Nat} {W : World} {qb n cap : Nat} {bl : Nat → List Nat} (h : QAt o W (.slice (some ⟨qb, 0, none⟩) n cap) n bl) : n ≤ cap ∧ cap ≤ maxLen ∧ ∀ j, j < cap → ∃ a cp, W.cell? ⟨qb, j, none⟩ = some (.slice a (bl j).length cp) ∧ (bl j).length ≤ cp ∧ cp ≤ maxLen ∧ W.frozen? ⟨qb, j, none⟩ = false ∧ Sl o W (100 + j) 3 (.slice a (bl j).length cp) (ints (bl j)) := by
  rcases h with ⟨h, _⟩ | ⟨qb', cap', cur, bv, e, h3, h4, h5, h6, h7, h8⟩
  · simp at h
  · simp at e
    obtain ⟨rfl, rfl⟩ := e
    refine ⟨h3, h4, fun j hj => ?_⟩
    obtain ⟨e1, hs⟩ := h8 j hj
    rcases hs.form with ⟨hv, hx⟩ | ⟨g, cp, hv, h9, h10, _⟩
    · refine ⟨none, 0, ?_, ?_, ?_, ?_, ?_⟩
      · have : (bl j).length = 0 := by have := congrArg List.length hx; rwa [ints_length] at this
        simp [World.cell?, h6, e1, hv, this]
      · have : (bl j).length = 0 := by have := congrArg List.length hx; rwa [ints_length] at this
        omega
      · unfold maxLen; omega
      · simp [World.frozen?, h6]
      · have : (bl j).length = 0 := by have := congrArg List.length hx; rwa [ints_length] at this
        rw [this, ← hv]; exact hs
    · rw [ints_length] at hv h9
      refine ⟨some ⟨g, 0, none⟩, cp, ?_, h9, h10, ?_, ?_⟩
      · simp [World.cell?, h6, e1, hv]
      · simp [World.frozen?, h6]
      · rw [← hv]; exact hs
theorem QAt.put' {o : Nat → Nat} {W : World} {qb n cap : Nat} {bl : Nat → List Nat} (h : QAt o W (.slice (some ⟨qb, 0, none⟩) n cap) n bl) (n' c : Nat) (hn' : n' ≤ cap) (hc : c < cap) (u : Value) (xs : List Nat) (hu : Sl o W (100 + c) 3 u (ints xs)) :
    QAt o (W.setCell ⟨qb, c, none⟩ u) (.slice (some ⟨qb, 0, none⟩) n' cap) n' (fun j => if j = c then xs else bl j) ∧ Step [36] o W o (W.setCell ⟨qb, c, none⟩ u) := by
  rcases h with ⟨h, _⟩ | ⟨qb', cap', cur, bv, e, h3, h4, h5, h6, h7, h8⟩
  · simp at h
  · simp at e
    obtain ⟨rfl, rfl⟩ := e
    exact ⟨QAt.put hn' h4 h5 h6 h7 h8 c hc u xs hu, Step.setCell W (by simp [h5]) u⟩
/-- Cut to another length, within the room. -/
theorem QAt.len {o : Nat → Nat} {W : World} {qb n cap : Nat} {bl : Nat → List Nat} (h : QAt o W (.slice (some ⟨qb, 0, none⟩) n cap) n bl) (n' : Nat) (hn' : n' ≤ cap) : QAt o W (.slice (some ⟨qb, 0, none⟩) n' cap) n' bl := by
  rcases h with ⟨h, _⟩ | ⟨qb', cap', cur, bv, e, h3, h4, h5, h6, h7, h8⟩
  · simp at h
  · simp at e
    obtain ⟨rfl, rfl⟩ := e
    exact .inr ⟨qb, cap, cur, bv, rfl, hn', h4, h5, h6, h7, h8⟩

/-- Behind an append to bucket c: its header stored. -/
theorem QAt.app {o o' : Nat → Nat} {W W' : World} {qb n cap : Nat} {bl : Nat → List Nat} (h : QAt o W (.slice (some ⟨qb, 0, none⟩) n cap) n bl) (c : Nat) (hc : c < cap) (st : Step [100 + c] o W o' W') (u : Value) (xs : List Nat) (hu : Sl o' W' (100 + c) 3 u (ints xs)) :
    (∃ u0, W'.cell? ⟨qb, c, none⟩ = some u0) ∧ W'.frozen? ⟨qb, c, none⟩ = false ∧ QAt o' (W'.setCell ⟨qb, c, none⟩ u) (.slice (some ⟨qb, 0, none⟩) n cap) n (fun j => if j = c then xs else bl j) ∧ Step [36] o' W' o' (W'.setCell ⟨qb, c, none⟩ u) := by
  rcases h with ⟨h, _⟩ | ⟨qb', cap', cur, bv, e, h3, h4, h5, h6, h7, h8⟩
  · simp at h
  · simp at e
    obtain ⟨rfl, rfl⟩ := e
    have hlt := (Array.getElem?_eq_some_iff.1 h6).1
    have h6' : W'.heap[qb]? = some (.cells cur 24 (0, 0)) := (st.block qb hlt (by rw [h5]; simp; omega)).trans h6
    have h5' : o' qb = 36 := (st.own qb hlt).trans h5
    have hs : Step [36] o' W' o' (W'.setCell ⟨qb, c, none⟩ u) := Step.setCell W' (by simp [h5']) u
    refine ⟨⟨bv c, by simp [World.cell?, h6', (h8 c hc).1]⟩, by simp [World.frozen?, h6'], ?_, hs⟩
    refine .inr ⟨qb, cap, cur.setIfInBounds c u, fun j => if j = c then u else bv j, rfl, h3, h4, h5', (Ob.set (o := o') (t := o' qb) ⟨h6', rfl⟩ c u).blk, by simpa using h7, fun j hj => ⟨?_, ?_⟩⟩
    · by_cases e : j = c
      · subst e; simp [h7, hj]
      · rw [Array.getElem?_setIfInBounds_ne (fun e2 => e e2.symm)]
        simp only [e, if_false]
        exact (h8 j hj).1
    · by_cases e : j = c
      · subst e
        simp only [if_true]
        exact hu.step hs (by simp; omega)
      · simp only [e, if_false]
        exact ((h8 j hj).2.step st (by simp; omega)).step hs (by simp; omega)

theorem QAt.form {o : Nat → Nat} {W : World} {qbv : Value} {n : Nat} {bl : Nat → List Nat} (h : QAt o W qbv n bl) : ∃ a cap, qbv = .slice a n cap ∧ n ≤ cap ∧ cap ≤ maxLen ∧ (n < cap → ∃ qb, a = some ⟨qb, 0, none⟩) := by
  rcases h with ⟨rfl, rfl⟩ | ⟨qb, cap, cur, bv, rfl, h3, h4, _⟩
  · exact ⟨none, 0, rfl, Nat.le_refl _, by unfold maxLen; omega, fun h => by omega⟩
  · exact ⟨_, cap, rfl, h3, h4, fun _ => ⟨qb, rfl⟩⟩

theorem queue_fin {o o1 o4 : Nat → Nat} {W wr w4 W5 : World} {S qb n cap c i n0 : Nat} {v : VSt} {bl bl1 : Nat → List Nat} {top z : Int} (hz : z = max top (c : Int)) (hc2 : c ≤ 2) (ob5 : Ob o4 W5 20 S 63 (vcells { v with qb := .slice (some ⟨qb, 0, none⟩) n cap })) (q5 : QAt o4 W5 (.slice (some ⟨qb, 0, none⟩) n cap) n (fun j => if j = c then bl1 c ++ [i] else bl1 j))
    (s5 : Step [36] o4 w4 o4 W5) (s4 : Step [100 + c] o1 wr o4 w4) (st : Step [20, 36] o W o1 wr) (hb1 : ∀ j, j < n → bl1 j = if j < n0 then bl j else []) (hnn : n = max n0 (c + 1)) :
    ∃ o' qbv, Ob o' (W5.setCell ⟨S, 18, none⟩ (.int .i64 z)) 20 S 63 (vcells { v with qb := qbv, qt := .int .i64 (max top (c : Int)) }) ∧ ∃ x, QAt o' (W5.setCell ⟨S, 18, none⟩ (.int .i64 z)) qbv (max n0 (c + 1)) x ∧ (∀ j, j < max n0 (c + 1) → x j = (if j < n0 then bl j else []) ++ (if j = c then [i] else [])) ∧ Step [20, 36, 100, 101, 102] o W o' (W5.setCell ⟨S, 18, none⟩ (.int .i64 z)) := by
  subst hz
  rw [← hnn]
  have s6 := ob5.sset 18 (.int .i64 (max top (c : Int))) (T := [20]) (by simp)
  refine ⟨o4, .slice (some ⟨qb, 0, none⟩) n cap, ob5.set 18 _, _, q5.step s6 (by simp) (by simp; omega), fun j hj => ?_, (((st.mono (by simp)).trans (s4.mono ?_)).trans (s5.mono (by simp))).trans (s6.mono (by simp))⟩
  · have hj' : j < n := hj
    by_cases e : j = c
    · subst e; simp only [if_true]; rw [hb1 j hj']
    · simp only [e, if_false, List.append_nil]; exact hb1 j hj'
  · have : c = 0 ∨ c = 1 ∨ c = 2 := by omega
    rcases this with rfl | rfl | rfl <;> simp

set_option maxRecDepth 100000 in
set_option maxHeartbeats 8000000 in
theorem queue_any (o : Nat → Nat) (W : World) (S : Nat) (v : VSt) (ob : Ob o W 20 S 63 (vcells v)) (ctb N ccap : Nat) (hqc : v.qc = .slice (some ⟨ctb, 0, none⟩) N ccap) (f : Nat → Int) (hct : Arr W ctb N f) (tct : o ctb = 33) (n0 : Nat) (bl : Nat → List Nat) (hq : QAt o W v.qb n0 bl) (top : Int) (hqt : v.qt = .int .i64 top) (ht0 : -1 ≤ top) (ht1 : top ≤ 10)
    (hN : N ≤ 300) (i : Nat) (hi : i < N) (c : Nat) (hc : f i = (c : Int)) (hc2 : c ≤ 2) (hn00 : n0 ≤ 10) (hbl : ∀ j, j < n0 → (bl j).length ≤ 2000) :
    Calls Ybaz.prog 116 #[.pointer (some ⟨S, 16, none⟩), .int .i64 (i : Int)] W fun e w' => (∃ r, e = .returned r) ∧
      ∃ o' qbv bl', Ob o' w' 20 S 63 (vcells { v with qb := qbv, qt := .int .i64 (max top (c : Int)) }) ∧ QAt o' w' qbv (max n0 (c + 1)) bl' ∧ (∀ j, j < max n0 (c + 1) → bl' j = (if j < n0 then bl j else []) ++ (if j = c then [i] else [])) ∧ Step [20, 36, 100, 101, 102] o W o' w' := by
  obtain ⟨i0, hi0, hz0, hz1, hz2⟩ := info_parts info3
  have c16 : W.cell? ⟨S, 16, none⟩ = some (.slice (some ⟨ctb, 0, none⟩) N ccap) := by rw [← hqc]; exact ob.cell 16
  have cct : W.cell? ⟨ctb, i, none⟩ = some (.int .i64 (c : Int)) := by rw [hct.cell i hi, hc]
  have b1 : (i : Int) < (N : Int) := by omega
  go_enter Ybaz.func116, Ybaz.ntmps116
  go_wp2
  go_loopg [] (c + 1 - n0) (fun gk wr => ∃ o1 qbv n bl1, Ob o1 wr 20 S 63 (vcells { v with qb := qbv }) ∧ QAt o1 wr qbv n bl1 ∧ n0 ≤ n ∧ n ≤ max n0 (c + 1) ∧ (∀ j, j < n → bl1 j = if j < n0 then bl j else []) ∧ Step [20, 36] o W o1 wr ∧ gk = c + 1 - n)
  case atStart => exact ⟨o, v.qb, n0, bl, ob, hq, Nat.le_refl _, by omega, fun j hj => by simp [hj], Step.refl _ _ _, rfl⟩
  case round =>
    obtain ⟨o1, qbv, n, bl1, ob1, hq1, hn1, hn2, hb1, st1, rfl⟩ := hrel
    obtain ⟨a, cap, rfl, hnc, hcm, hsm⟩ := hq1.form
    have c17 : wr.cell? ⟨S, 17, none⟩ = some (.slice a n cap) := ob1.cell 17
    have f17 := ob1.frozen 17
    have hcapl : cap ≤ 9223372036854775807 := by unfold maxLen at hcm; omega
    by_cases hle : n ≤ c
    · have b2 : (n : Int) ≤ (c : Int) := by omega
      by_cases hlt : n < cap
      · obtain ⟨qb, rfl⟩ := hsm hlt
        obtain ⟨_, _, hcells⟩ := hq1.cell
        obtain ⟨a2, cp2, e2, e3, e4, e5, e6⟩ := hcells n hlt
        have b3 : (n : Int) < (cap : Int) := by omega
        have b4 : (n : Int) + 1 ≤ (cap : Int) := by omega
        -- the header cut longer, the old bucket emptied
        have obA := ob1.set 17 (.slice (some ⟨qb, 0, none⟩) (n + 1) cap)
        have sA := ob1.sset 17 (.slice (some ⟨qb, 0, none⟩) (n + 1) cap) (T := [20]) (by simp)
        have qA := (hq1.len (n + 1) (by omega)).step sA (by simp) (by simp; omega)
        obtain ⟨WA, hWA⟩ : ∃ WA, wr.setCell ⟨S, 17, none⟩ (.slice (some ⟨qb, 0, none⟩) (n + 1) cap) = WA := ⟨_, rfl⟩
        rw [hWA] at obA sA qA
        have d17 : WA.cell? ⟨S, 17, none⟩ = some (.slice (some ⟨qb, 0, none⟩) (n + 1) cap) := obA.cell 17
        obtain ⟨_, _, hcA⟩ := qA.cell
        obtain ⟨a3, cp3, g2, g3, g4, g5, g6⟩ := hcA n hlt
        have hcp3 : cp3 ≤ 9223372036854775807 := by unfold maxLen at g4; omega
        obtain ⟨qB, sB⟩ := qA.put' (n + 1) n (by omega) hlt (.slice a3 0 cp3) [] (by have := g6.cut 0 (by simp); simpa [ints] using this)
        have obB := obA.step sB (by simp)
        have HF := hid (And.intro obB (And.intro qB ((st1.trans (sA.mono (by simp))).trans (sB.mono (by simp)))))
        clear ob1 hq1 obA qA sA sB qB obB g6 e6 st1 hcells hcA e2 e5 hct
        go_wp2
        go_quiet (fail)
        go_wp2
        go_region
        all_goals go_wp2
        have eA : (wr.drewN (nq + 1)).setCell ⟨S, 17, none⟩ (.slice (some ⟨qb, 0, none⟩) (n + 1) cap) = WA.drewN (nq + 1) := by rw [← hWA]; rfl
        rw [eA]
        clear eA hWA c17 f17
        have h17 : (WA.drewN (nq + 1)).cell? ⟨S, 17, none⟩ = some (.slice (some ⟨qb, 0, none⟩) (n + 1) cap) := d17
        have h2 : (WA.drewN (nq + 1)).cell? ⟨qb, n, none⟩ = some (.slice a3 (bl1 n).length cp3) := g2
        have h5 : (WA.drewN (nq + 1)).frozen? ⟨qb, n, none⟩ = false := g5
        obtain ⟨WB, hWB⟩ : ∃ WB, WA.drewN (nq + 1) = WB := ⟨_, rfl⟩
        rw [hWB] at h17 h2 h5 ⊢
        have HWB := hid hWB
        clear hWB d17 g2 g5
        go_region
        all_goals
          go_wp2
          go_roundg (c + 1 - (n + 1))
          case rel =>
            have eB : (WB.setCell ⟨qb, n, none⟩ (.slice a3 0 cp3)).drew = (WA.setCell ⟨qb, n, none⟩ (.slice a3 0 cp3)).drewN (nq + 2) := by rw [← HWB.out]; rfl
            rw [eB]
            have sD := Step.drewN [] o1 (WA.setCell ⟨qb, n, none⟩ (.slice a3 0 cp3)) (nq + 2)
            obtain ⟨h1, h2, h3⟩ := HF.out
            refine ⟨o1, .slice (some ⟨qb, 0, none⟩) (n + 1) cap, n + 1, _, h1.step sD (by simp), h2.step sD (by simp) (by simp), by omega, by omega, fun j hj => ?_, h3.trans (sD.mono (by simp)), rfl⟩
            by_cases e : j = n
            · subst e; simp [show ¬ j < n0 by omega]
            · simp only [e, if_false]; exact hb1 j (by omega)
          case measure => omega
      · obtain rfl : cap = n := by omega
        have hbg : ∀ m, ∃ v' w', (Builtin.append_ #[59, 59] 59 #[.slice a cap cap, .slice (some ⟨(wr.drewN m).heap.size, 0, none⟩) 1 1]).run Ybaz.prog ((wr.drewN m).alloc (.cells #[.slice none 0 0] 24)) = .ok v' w' ∧ (∃ a c, v' = .slice a (cap + 1) c) ∧ ∃ o', QAt o' w' v' (cap + 1) (fun j => if j < cap then bl1 j else []) ∧ Step [] o1 (wr.drewN m) o' w' := fun m =>
          buckets_grow o1 (wr.drewN m) _ cap bl1 (hq1.step (Step.drewN [] o1 wr m) (by simp) (by simp)) (by omega) (fun a' cap' e => by simp at e; exact e.2.symm)
        have HBG := hid hbg
        have HO1 := hid ob1
        have HST := hid st1
        clear hbg ob1 st1 hq1 hct
        have b5 : ¬ (cap : Int) < (cap : Int) := by omega
        go_wp2
        go_quiet (fail)
        obtain ⟨v', w', hap, ⟨a', c', rfl⟩, o2, q2, s2⟩ := HBG.out nq
        have sD := Step.drewN [] o1 wr nq
        have ob2 := HO1.out.step (sD.trans s2) (by simp)
        have e17 : (wr.drewN nq).cell? ⟨S, 17, none⟩ = some (.slice a cap cap) := c17
        have g17 : w'.cell? ⟨S, 17, none⟩ = some (.slice a cap cap) := ob2.cell 17
        have k17 := ob2.frozen 17
        have s3 := ob2.sset 17 (.slice a' (cap + 1) c') (T := [20]) (by simp)
        have HF := hid (And.intro (ob2.set 17 (.slice a' (cap + 1) c')) (And.intro (q2.step s3 (by simp) (by simp; omega)) (((HST.out.trans (sD.mono (by simp))).trans (s2.mono (by simp))).trans (s3.mono (by simp)))))
        obtain ⟨X, hX⟩ : ∃ X, wr.drewN nq = X := ⟨_, rfl⟩
        rw [hX] at hap e17 ⊢
        clear hX c17 f17 ob2 s3 q2 s2 sD HBG HO1 HST
        go_wp2_with (at_builtin; refine wpList_append_run rfl _ _ 59 rfl _ _ _ _ rfl rfl hap ?_)
        go_roundg (c + 1 - (cap + 1))
        case rel =>
          obtain ⟨h1, h2, h3⟩ := HF.out
          refine ⟨o2, .slice a' (cap + 1) c', cap + 1, _, h1, h2, by omega, by omega, fun j hj => ?_, h3, rfl⟩
          by_cases e : j < cap
          · simp only [e, if_true]; exact hb1 j e
          · simp only [e, if_false]; simp [show ¬ j < n0 by omega]
        case measure => omega
    · have hnn : n = max n0 (c + 1) := by omega
      have hcn : c < n := by omega
      obtain ⟨qb, rfl⟩ : ∃ qb, a = some ⟨qb, 0, none⟩ := by
        rcases hq1 with ⟨_, h0⟩ | ⟨qb, cap', cur, bv, e, _⟩
        · omega
        · simp at e; exact ⟨qb, e.1⟩
      obtain ⟨_, _, hcells⟩ := hq1.cell
      obtain ⟨a2, cp2, e2, e3, e4, e5, e6⟩ := hcells c (by omega)
      have hb1c := hb1 c hcn
      have hblen : (bl1 c).length ≤ 2000 := by rw [hb1c]; split; exact hbl c (by assumption); simp
      have b2 : ¬ (n : Int) ≤ (c : Int) := by omega
      have b3 : (c : Int) < (n : Int) := by omega
      have sd := Step.drew [] o1 wr
      have HO1 := hid ob1
      have HQ1 := hid hq1
      have HST := hid st1
      have HSL := hid e6
      have HNN := hid hnn
      have HB1 := hid hb1
      have tS := ob1.tag
      have lS := ob1.lt
      have lq : qb < wr.heap.size := World.block_lt_of_cell? _ _ e2
      have d17 : wr.drew.cell? ⟨S, 17, none⟩ = some (.slice (some ⟨qb, 0, none⟩) n cap) := c17
      have HQT := hid hqt
      clear ob1 hq1 st1 hcells hnn hb1 hb1c hct f17 e5 hqc hqt
      go_wp2
      go_region_law
        (refine step_append_lies _ (by rfl) _ _ _ (by rfl) 0 3 i0 (.int .i64 0) 1 8 Ybaz.underlying24 hi0 hz0 hz1 hz2 rfl (by decide) (.slice a2 (bl1 c).length cp2) _ _ (by rfl) ((HSL.out.row.alloc _).drew) ⟨wr.heap.size, 0, none⟩ 1 1 [.int .i64 (i : Int)] (by rfl) (by rfl) (cell_one_at _ _ _ _ (by simp)) (by simp [Value.oneCell']) (by decide) (by rw [ints_length]; unfold maxLen; omega) (by rw [ints_length]; omega) (Nat.zero_le _) (wr.heap.size + 1) (by simp) ?_; intro gg cap4 w4 hown4 hgrow4 hat4 hlt4; obtain ⟨o4, sl4, st4⟩ := HSL.out.lies hown4 (by simp) hgrow4 hat4 rfl; rw [← ints_snoc] at sl4; obtain ⟨⟨u4, j1⟩, j2, j3, j4⟩ := HQ1.out.app c (by omega) st4 _ _ sl4; have ob4 := HO1.out.step st4 (by simp; omega); have j5 : w4.cell? ⟨S, 17, none⟩ = some (.slice (some ⟨qb, 0, none⟩) n cap) := ob4.cell 17; have ob5 := ob4.step j4 (by simp); have HJ3 := hid j3; have HJ4 := hid j4; have HO5 := hid ob5; have HS4 := hid st4; have j6 := (ob5.cell 18).trans (show _ = some (Value.int .i64 top) from by rw [← HQT.out]; rfl); have j7 := ob5.frozen 18; clear j3 j4 st4 ob4 ob5)
      all_goals go_wp2
      all_goals go_end0
      all_goals exact ⟨⟨_, rfl⟩, queue_fin (by omega) hc2 HO5.out HJ3.out HJ4.out HS4.out HST.out HB1.out HNN.out⟩
end Go.Proofs.YbulkbmdoGreat
