import Derived.Test.YbulkbmdoGreatSeqN
namespace Go.Proofs.YbulkbmdoGreat
open Go.RowKit Go.Shelf
set_option linter.unusedVariables false

theorem eql_some (a : Addr) (n c : Nat) (w : World) : (binOp .eql 24 (.slice (some a) n c) (.slice none 0 0)).run Ybaz.prog w = .ok (.bool false) w := by kernel_rfl
theorem eql_none (w : World) : (binOp .eql 24 (.slice none 0 0) (.slice none 0 0)).run Ybaz.prog w = .ok (.bool true) w := by kernel_rfl

/-- fv, iv hold the n lists of the pairs L. -/
structure LAt (o : Nat → Nat) (W : World) (tf ti n : Nat) (L : List (Nat × Nat)) (fv iv : Value) (fb ib : Nat) : Prop where
  hf : fv = .slice (some ⟨fb, 0, none⟩) (n + 1) (n + 1)
  hi : iv = .slice (some ⟨ib, 0, none⟩) L.length L.length
  tf : o fb = tf
  ti : o ib = ti
  first : Arr W fb (n + 1) (fun j => (Pl.pos L j : Int))
  items : ∃ it : Nat → Int, Arr W ib L.length it ∧ Dealt L n L it
theorem LAt.step {o o' : Nat → Nat} {W W' : World} {T : List Nat} {tf ti n : Nat} {L : List (Nat × Nat)} {fv iv : Value} {fb ib : Nat} (h : LAt o W tf ti n L fv iv fb ib) (hs : Step T o W o' W') (h1 : tf ∉ T) (h2 : ti ∉ T) : LAt o' W' tf ti n L fv iv fb ib := by
  obtain ⟨it, hA, hD⟩ := h.items
  exact ⟨h.hf, h.hi, (hs.own _ h.first.lt).trans h.tf, (hs.own _ hA.lt).trans h.ti, h.first.kept (hs.block _ h.first.lt (by rw [h.tf]; exact h1)), it, hA.kept (hs.block _ hA.lt (by rw [h.ti]; exact h2)), hD⟩

/-- What l.of(i) gives: the items of list i, in memory. -/
structure OfAt (o : Nat → Nat) (W : World) (ti : Nat) (xs : List Nat) (a : Option Addr) : Prop where
  at_ : 0 < xs.length → ∃ ib x, a = some ⟨ib, x, none⟩ ∧ o ib = ti ∧ ib < W.heap.size ∧ ∀ j (hj : j < xs.length), W.cell? ⟨ib, x + j, none⟩ = some (.int .i64 (xs[j] : Int))
theorem OfAt.step {o o' : Nat → Nat} {W W' : World} {T : List Nat} {ti : Nat} {xs : List Nat} {a : Option Addr} (h : OfAt o W ti xs a) (hs : Step T o W o' W') (h1 : ti ∉ T) : OfAt o' W' ti xs a := by
  refine ⟨fun hx => ?_⟩
  obtain ⟨ib, x, ha, ht, hl, hc⟩ := h.at_ hx
  exact ⟨ib, x, ha, (hs.own _ hl).trans ht, Nat.lt_of_lt_of_le hl hs.size, fun j hj => (hs.cell (p := ⟨ib, x + j, none⟩) hl (by rw [ht]; exact h1)).trans (hc j hj)⟩

/-- l.of(i) at the n lists of L. -/
theorem of_at (o : Nat → Nat) (W : World) (B off tf ti n : Nat) (L : List (Nat × Nat)) (fv iv : Value) (fb ib : Nat) (hL : ∀ x ∈ L, x.1 < n) (hn : n ≤ 300) (h : LAt o W tf ti n L fv iv fb ib) (h0 : W.cell? ⟨B, off, none⟩ = some fv) (h1 : W.cell? ⟨B, off + 1, none⟩ = some iv) (i : Nat) (hi : i < n) :
    Calls Ybaz.prog 17 #[.pointer (some ⟨B, off, none⟩), .int .i64 (i : Int)] W fun e w' => (∃ a c, e = .returned (.slice a (Pl.sel L i).length c) ∧ OfAt o w' ti (Pl.sel L i) a) ∧ ∃ m, w' = W.drewN m := by
  obtain ⟨it, hA, hD⟩ := h.items
  have e1 := Pl.pos_succ L i
  have := Pl.pos_le_all L n hL (show i + 1 ≤ n from hi)
  refine (of_any B off fb ib (n + 1) L.length L.length i (Pl.pos L i) (Pl.pos L (i + 1)) W (by rw [h0, h.hf]) (by rw [h1, h.hi]) (h.first.cell i (by omega)) (h.first.cell (i + 1) (by omega)) (by omega) (by omega) (by omega) (by omega)).mono ?_
  rintro e w' ⟨⟨a, c, rfl, ha⟩, m, rfl⟩
  refine ⟨⟨a, c, by rw [e1, Nat.add_sub_cancel_left], ⟨fun hx => ⟨ib, Pl.pos L i, ha (by omega), h.ti, hA.lt, fun j hj => ?_⟩⟩⟩, m, rfl⟩
  have := hA.cell (Pl.pos L i + j) (Pl.sel_in L n hL hi hj)
  rw [hD i j hi hj] at this
  exact this

/-- The naming lists are not made yet, or are those of tgt. -/
def NAt (o : Nat → Nat) (W : World) (s : RS) (tgt : Nat → Option Nat) : Prop :=
  (s.nf = .slice none 0 0 ∧ s.ni = .slice none 0 0) ∨ ∃ fb ib, LAt o W 7 8 s.N (prs tgt s.M) s.nf s.ni fb ib
theorem NAt.step {o o' : Nat → Nat} {W W' : World} {T : List Nat} {s s' : RS} {tgt : Nat → Option Nat} (h : NAt o W s tgt) (hs : Step T o W o' W') (h1 : 7 ∉ T) (h2 : 8 ∉ T) (e1 : s'.nf = s.nf) (e2 : s'.ni = s.ni) (e3 : s'.N = s.N) (e4 : s'.M = s.M) : NAt o' W' s' tgt := by
  rcases h with ⟨a, b⟩ | ⟨fb, ib, hl⟩
  · exact .inl ⟨e1.trans a, e2.trans b⟩
  · refine .inr ⟨fb, ib, ?_⟩
    rw [e1, e2, e3, e4]
    exact hl.step hs h1 h2

set_option maxRecDepth 100000 in
set_option maxHeartbeats 1000000 in
theorem namers_made (o : Nat → Nat) (W : World) (R : Nat) (s : RS) (pv uv : Value) (h : RAt o W R s pv uv) (tgt : Nat → Option Nat) (htg : ∀ i p, tgt i = some p → p < s.N) (fb ib : Nat) (hL : LAt o W 7 8 s.N (prs tgt s.M) s.nf s.ni fb ib) (hN : s.N ≤ 300) (p : Nat) (hp : p < s.N) :
    Calls Ybaz.prog 11 #[.pointer (some ⟨R, 0, none⟩), .int .i64 (p : Int)] W fun e w' => ∃ o' a c, e = .returned (.slice a (Pl.sel (prs tgt s.M) p).length c) ∧ OfAt o' w' 8 (Pl.sel (prs tgt s.M) p) a ∧ Step [] o W o' w' := by
  have st := Step.alloc [] o W (.cells #[.pointer (some ⟨R, 0, none⟩)] 44) 99
  have ob1 := (h.ob.step (Step.alloc [] o W (.cells #[.pointer (some ⟨R, 0, none⟩)] 44) 99) (by simp))
  have L1 := (hL.step (Step.alloc [] o W (.cells #[.pointer (some ⟨R, 0, none⟩)] 44) 99) (by simp) (by simp))
  have c3 : (W.alloc (.cells #[.pointer (some ⟨R, 0, none⟩)] 44)).cell? ⟨R, 3, none⟩ = some (.slice (some ⟨fb, 0, none⟩) (s.N + 1) (s.N + 1)) := by rw [← hL.hf]; exact ob1.cell 3
  have c3' : (W.alloc (.cells #[.pointer (some ⟨R, 0, none⟩)] 44)).cell? ⟨R, 3, none⟩ = some s.nf := ob1.cell 3
  have c4' : (W.alloc (.cells #[.pointer (some ⟨R, 0, none⟩)] 44)).cell? ⟨R, 3 + 1, none⟩ = some s.ni := ob1.cell 4
  have hpr : ∀ x ∈ prs tgt s.M, x.1 < s.N := fun x hx => htg _ _ (prs_mem hx).2
  have hof := of_at _ _ R 3 7 8 s.N _ _ _ fb ib hpr hN L1 c3' c4' p hp
  have HOF := hid hof
  have heq := eql_some ⟨fb, 0, none⟩ (s.N + 1) (s.N + 1)
  clear hof L1 c3' c4'
  go_enter Ybaz.func11, Ybaz.ntmps11
  go_wp2_with (go_at_call 17; refine HOF.out.mono ?_; rintro e w' ⟨⟨a, c, rfl, hO⟩, m, rfl⟩)
  go_ret
  exact ⟨_, a, c, rfl, hO, st.trans (Step.drewN _ _ _ m)⟩

/-- New blocks may bear what tags one likes. -/
theorem Step.fresh {o : Nat → Nat} {A B : World} (h : Below A.heap.size A B) (T : List Nat) (f : Nat → Nat) : Step T o A (fun k => if k < A.heap.size then o k else f k) B :=
  ⟨h.os, h.tape, h.output, h.size, fun k hk => by simp [hk], fun k hk _ => h.block k hk⟩

/-- newLists over the leaves' targets. -/
theorem lists_named (o : Nat → Nat) (W : World) (R Bx : Nat) (s : RS) (pv uv : Value) (h : RAt o W R s pv uv) (tgt : Nat → Option Nat) (htg : ∀ i p, tgt i = some p → p < s.N) (hT : Ar o W 5 s.tb 3 s.M (fun i => .int .i64 (tv (tgt i)))) (hN0 : 0 < s.N) (hN : s.N ≤ 300) (hM : s.M ≤ 300)
    (cB : W.cell? ⟨Bx, 0, none⟩ = some (.pointer (some ⟨R, 0, none⟩))) :
    Calls Ybaz.prog 23 #[.int .i64 (s.N : Int), .func (.func 24) #[] #[.pointer (some ⟨Bx, 0, none⟩)]] W fun e w' => ∃ o' fb ib fv iv, e = .returned (.agg #[fv, iv]) ∧ LAt o' w' 7 8 s.N (prs tgt s.M) fv iv fb ib ∧ Step [] o W o' w' := by
  have hlen := prs_len tgt s.M
  refine (callsIn_wide.1 (lists_walk s.N hN0 hN 24 #[.pointer (some ⟨Bx, 0, none⟩)] (enters_of Ybaz.func24 (by kernel_rfl) rfl) (prs tgt s.M) (fun x hx => htg _ _ (prs_mem hx).2) (by omega) W
    (namers1_seq 9 Bx R s.tb s.M W.heap.size hM tgt (fun i p hp => Nat.le_trans (Nat.le_of_lt (htg i p hp)) hN) W (Nat.le_refl _) (World.block_lt_of_cell? _ _ cB) h.ob.lt hT.lt cB (h.ob.cell 2) (fun i hi => hT.cell i hi)))).mono ?_
  rintro e w' ⟨fb, ib, rfl, h1, h2, h3, hf, hit, hb⟩
  refine ⟨_, fb, ib, _, _, rfl, ⟨rfl, rfl, ?_, ?_, hf, hit⟩, Step.fresh hb [] (fun k => if k = fb then 7 else 8)⟩
  · simp only [show ¬ fb < W.heap.size by omega, if_false, if_true]
  · simp only [show ¬ ib < W.heap.size by omega, if_false, show ¬ ib = fb by omega]

/-- The lists stored in the reduction. -/
theorem named_store (o : Nat → Nat) (w1 : World) (R : Nat) (s : RS) (pv uv : Value) (h : RAt o w1 R s pv uv) (tgt : Nat → Option Nat) (htg : ∀ i p, tgt i = some p → p < s.N) (hN : s.N ≤ 300) (nf ni : Value) (fb ib : Nat) (hl : LAt o w1 7 8 s.N (prs tgt s.M) nf ni fb ib) (p : Nat) (hp : p < s.N) :
    RAt o ((w1.setCell ⟨R, 3, none⟩ nf).setCell ⟨R, 4, none⟩ ni) R { s with nf := nf, ni := ni } pv uv ∧ LAt o ((w1.setCell ⟨R, 3, none⟩ nf).setCell ⟨R, 4, none⟩ ni) 7 8 s.N (prs tgt s.M) nf ni fb ib ∧ Step [1] o w1 o ((w1.setCell ⟨R, 3, none⟩ nf).setCell ⟨R, 4, none⟩ ni) ∧
    Calls Ybaz.prog 17 #[.pointer (some ⟨R, 3, none⟩), .int .i64 (p : Int)] ((w1.setCell ⟨R, 3, none⟩ nf).setCell ⟨R, 4, none⟩ ni) fun e w' => (∃ a c, e = .returned (.slice a (Pl.sel (prs tgt s.M) p).length c) ∧ OfAt o w' 8 (Pl.sel (prs tgt s.M) p) a) ∧ ∃ m, w' = ((w1.setCell ⟨R, 3, none⟩ nf).setCell ⟨R, 4, none⟩ ni).drewN m := by
  have s1 := h.ob.sset 3 nf (T := [1]) (by simp)
  have ob1 := h.ob.set 3 nf
  have s2 := s1.trans (ob1.sset 4 ni (T := [1]) (by simp))
  have ob2 : Ob o ((w1.setCell ⟨R, 3, none⟩ nf).setCell ⟨R, 4, none⟩ ni) 1 R 54 (rcells { s with nf := nf, ni := ni } pv uv) := ob1.set 4 ni
  have hl2 := hl.step s2 (by simp) (by simp)
  refine ⟨⟨ob2, h.gr.step s2 (by simp), h.pend.step s2 (by simp), h.und.step s2 (by simp)⟩, hl2, s2, ?_⟩
  exact of_at _ _ R 3 7 8 s.N _ _ _ fb ib (fun x hx => htg _ _ (prs_mem hx).2) hN hl2 (ob2.cell 3) (ob2.cell 4) p hp

set_option maxRecDepth 100000 in
set_option maxHeartbeats 2000000 in
theorem namers_make (o : Nat → Nat) (W : World) (R : Nat) (s : RS) (pv uv : Value) (h : RAt o W R s pv uv) (g : GS) (hg : GAt o W g) (hG : s.G = g.G) (hGn : s.N = g.n) (tgt : Nat → Option Nat) (htg : ∀ i p, tgt i = some p → p < s.N) (hT : Ar o W 5 s.tb 3 s.M (fun i => .int .i64 (tv (tgt i)))) (hN0 : 0 < s.N) (hN : s.N ≤ 300) (hM : s.M ≤ 300) (hnf : s.nf = .slice none 0 0) (p : Nat) (hp : p < s.N) :
    Calls Ybaz.prog 11 #[.pointer (some ⟨R, 0, none⟩), .int .i64 (p : Int)] W fun e w' => ∃ o' a c nf ni fb ib, e = .returned (.slice a (Pl.sel (prs tgt s.M) p).length c) ∧ OfAt o' w' 8 (Pl.sel (prs tgt s.M) p) a ∧ RAt o' w' R { s with nf := nf, ni := ni } pv uv ∧ LAt o' w' 7 8 s.N (prs tgt s.M) nf ni fb ib ∧ Step [1] o W o' w' := by
  have st0 := Step.alloc [] o W (.cells #[.pointer (some ⟨R, 0, none⟩)] 44) 99
  have cB : (W.alloc (.cells #[.pointer (some ⟨R, 0, none⟩)] 44)).cell? ⟨W.heap.size, 0, none⟩ = some (.pointer (some ⟨R, 0, none⟩)) := (Ob.new o W 99 44 #[.pointer (some ⟨R, 0, none⟩)]).cell 0
  obtain ⟨W0, hW0⟩ : ∃ W0, W.alloc (.cells #[.pointer (some ⟨R, 0, none⟩)] 44) = W0 := ⟨_, rfl⟩
  rw [hW0] at cB st0
  have R0 := h.step st0 (by simp) (by simp) (by simp) (by simp)
  have G0 := hg.step st0 (by simp) (by simp) (by simp)
  have T0 := hT.step st0 (by simp)
  have c0 : W0.cell? ⟨R, 0, none⟩ = some (.pointer (some ⟨g.G, 0, none⟩)) := by rw [← hG]; exact R0.ob.cell 0
  have c3 : W0.cell? ⟨R, 3, none⟩ = some (.slice none 0 0) := by rw [← hnf]; exact R0.ob.cell 3
  have e0 : W0.cell? ⟨g.G, 0, none⟩ = some (.slice g.pa s.N g.pcap) := by rw [hGn]; exact G0.ob.cell 0
  have heq := eql_none
  have sd := Step.drew [] (tg o W.heap.size 99) W0
  have HL := hid (lists_named _ W0.drew R W.heap.size s pv uv (R0.step sd (by simp) (by simp) (by simp) (by simp)) tgt htg (T0.step sd (by simp)) hN0 hN hM cB)
  have HR := hid R0
  have hpr : ∀ x ∈ prs tgt s.M, x.1 < s.N := fun x hx => htg _ _ (prs_mem hx).2
  clear R0 G0 T0 h hg hT hG hGn hnf
  go_enter Ybaz.func11, Ybaz.ntmps11
  go_wp2
  go_region_law
    (go_simp; go_at_call 23; refine HL.out.mono ?_; rintro e w1 ⟨o1, fb, ib, fv, iv, rfl, hl1, st1⟩; obtain rfl := hl1.hf; obtain rfl := hl1.hi; have ob1 := HR.out.ob.step (sd.trans st1) (by simp); have cB1 : w1.cell? ⟨W.heap.size, 0, none⟩ = some (.pointer (some ⟨R, 0, none⟩)) := ((sd.trans st1).cell (p := ⟨W.heap.size, 0, none⟩) (World.block_lt_of_cell? _ _ cB) (by simp)).trans cB; have k3 := ob1.frozen 3; have k4 := ob1.frozen 4; have c31 : w1.cell? ⟨R, 3, none⟩ = some s.nf := ob1.cell 3; have c41 : w1.cell? ⟨R, 4, none⟩ = some s.ni := ob1.cell 4)
  all_goals
    obtain ⟨hR2, hl2, st2, hcall⟩ := named_store o1 w1 R s pv uv (HR.out.step (sd.trans st1) (by simp) (by simp) (by simp) (by simp)) tgt htg hN _ _ fb ib hl1 p hp
    have cB2 := (st2.cell (p := ⟨W.heap.size, 0, none⟩) (World.block_lt_of_cell? _ _ cB1) (by rw [(sd.trans st1).own _ (World.block_lt_of_cell? _ _ cB)]; simp [tg])).trans cB1
    have HC := hid hcall
    have H2 := hid (And.intro hR2 (And.intro hl2 st2))
    clear hR2 hl2 st2 hcall
    go_wp2_with (go_at_call 17; refine HC.out.mono ?_; rintro e w' ⟨⟨a, c, rfl, hO⟩, m, rfl⟩)
    go_ret
    have sm := Step.drewN [] o1 ((w1.setCell ⟨R, 3, none⟩ (.slice (some ⟨fb, 0, none⟩) (s.N + 1) (s.N + 1))).setCell ⟨R, 4, none⟩ (.slice (some ⟨ib, 0, none⟩) (prs tgt s.M).length (prs tgt s.M).length)) m
    exact ⟨o1, a, c, _, _, fb, ib, rfl, hO, H2.out.1.step sm (by simp) (by simp) (by simp) (by simp), H2.out.2.1.step sm (by simp) (by simp), ((((st0.trans sd).trans st1).mono (by simp)).trans H2.out.2.2).trans (sm.mono (by simp))⟩
end Go.Proofs.YbulkbmdoGreat
