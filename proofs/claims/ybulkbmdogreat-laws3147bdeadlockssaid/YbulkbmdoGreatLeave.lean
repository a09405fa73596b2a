import Derived.Test.YbulkbmdoGreatTake7
import Derived.Test.YbulkbmdoGreatSortI
import Derived.Laws.EntriesVeiled
namespace Go.Proofs.YbulkbmdoGreat
open Go.RowKit Go.Shelf
set_option linter.unusedVariables false

theorem info4' : (Ybaz.prog.info? 4).map (fun i => (i.zero, i.size, i.bytes)) = some (some (.bool false), 1, 1) := by kernel_rfl

theorem Sl.toRw {o : Nat → Nat} {W : World} {t g n cap : Nat} {e : TypeId} {xs : List Value} (h : Sl o W t e (.slice (some ⟨g, 0, none⟩) n cap) xs) : Rw o W t g e cap xs := by
  rcases h.row.2 with ⟨h0, _⟩ | ⟨g', cap', cur, h0, _, hg, h1, h2, h3, h4⟩
  · simp at h0
  · simp at h0
    obtain ⟨rfl, rfl, rfl⟩ := h0
    refine ⟨⟨cur, hg, by simpa using h3, fun j hj => ?_⟩, h1, h.tag g rfl⟩
    rw [← Array.getElem?_toList]
    have : (cur.toList.take xs.length)[j]? = some xs[j] := by
      have h5 : cur.toList.take xs.length = xs := by simpa using h4
      rw [h5, List.getElem?_eq_getElem hj]
    rw [List.getElem?_take_of_lt hj] at this
    exact this

theorem app_new (o : Nat → Nat) (W : World) (t : Nat) (x : Value) : ∃ (g cap : Nat) (w' : World), (Builtin.append_ #[24, 24] 24 #[.slice none 0 0, .slice (some ⟨W.heap.size, 0, none⟩) 1 1]).run Ybaz.prog (W.alloc (.cells #[x] 3)) = .ok (.slice (some ⟨g, 0, none⟩) 1 cap) w' ∧ cap ≤ 9223372036854775807 ∧ W.heap.size ≤ g ∧ ∃ o', Sl o' w' t 3 (.slice (some ⟨g, 0, none⟩) 1 cap) [x] ∧ Step [] o W o' w' := by
  obtain ⟨g, cap, w', hr, hc, o', sl, st⟩ := app_nil (fun _ => t + 1) W t x
  have hg : W.heap.size ≤ g := by
    apply Nat.le_of_not_lt
    intro hlt
    have h1 := sl.tag g rfl
    rw [st.own g hlt] at h1
    omega
  refine ⟨g, cap, w', hr, hc, hg, fun k => if k < W.heap.size then o k else o' k, ⟨sl.row, fun b hb => ?_⟩, st.os, st.tape, st.output, st.size, fun k hk => by simp [hk], fun k hk _ => st.block k hk (by simp)⟩
  have : b = g := by simpa [Value.ownBlock] using hb.symm
  subst this
  simp only [show ¬ b < W.heap.size by omega, if_false]
  exact sl.tag b rfl

set_option maxHeartbeats 2000000 in
/-- leaveOut$1 at (0, 1): keep[0] = true. -/
theorem decide_one (o : Nat → Nat) (W : World) (R S B2 B3 B5 B6 B7 kb tb tcap i : Nat) (s : RS) (pv uv : Value) (g : GS) (v : VSt) (cs : List Nat) (sl : Nat → Int) (sb : Nat) (h : RAt o W R s pv uv) (hS : SAt o W S v g R cs sl sb) (hsN : s.N = g.n) (hn : g.n ≤ 300) (hcl : cs.length ≤ 300) (hcs : ∀ q ∈ cs, q < g.n) (hgr : ∀ q ∈ cs, s.gr q = false)
    (c2 : W.cell? ⟨B2, 0, none⟩ = some (.pointer (some ⟨S, 0, none⟩))) (c3 : W.cell? ⟨B3, 0, none⟩ = some (.slice (some ⟨tb, 0, none⟩) 1 tcap)) (c5 : W.cell? ⟨B5, 0, none⟩ = some (.slice (some ⟨kb, 0, none⟩) 1 1)) (ct : W.cell? ⟨tb, 0, none⟩ = some (.int .i64 (i : Int))) (hi : i < cs.length) (ck : W.cell? ⟨kb, 0, none⟩ = some (.bool false)) (fk : W.frozen? ⟨kb, 0, none⟩ = false) :
    Calls Ybaz.prog 89 #[.int .i64 0, .int .i64 1, .pointer (some ⟨B2, 0, none⟩), .pointer (some ⟨B3, 0, none⟩), .pointer (some ⟨B5, 0, none⟩), .pointer (some ⟨B7, 0, none⟩), .pointer (some ⟨B6, 0, none⟩)] W fun e w' => (∃ r, e = .returned r) ∧ w' = (W.setCell ⟨kb, 0, none⟩ (.bool true)).drew := by
  obtain ⟨cb, cap, hcv, hc1, hc2, htc, hltc⟩ := hS.cands.some_of (by rw [ints_length]; omega)
  rw [ints_length] at hcv hc1
  have hcc : W.cell? ⟨cb, i, none⟩ = some (.int .i64 (cs[i] : Int)) := by
    have hh := hS.cands
    rw [hcv] at hh
    have e := ints_length cs
    rw [← e] at hh
    rw [hh.cell i (by rw [ints_length]; exact hi)]
    simp [ints]
  have x7 : W.cell? ⟨S, 7, none⟩ = some (.slice (some ⟨cb, 0, none⟩) cs.length cap) := by rw [← hcv]; exact hS.ob.cell 7
  have x1 : W.cell? ⟨S, 1, none⟩ = some (.pointer (some ⟨R, 0, none⟩)) := by rw [← hS.hR]; exact hS.ob.cell 1
  have x5 : W.cell? ⟨R, 5, none⟩ = some (.slice (some ⟨s.gb, 0, none⟩) s.N s.N) := h.ob.cell 5
  have hpm := List.getElem_mem hi
  have hpn := hcs _ hpm
  have xg := h.gr.cell cs[i] (by rw [hsN]; exact hpn)
  rw [hgr _ hpm] at xg
  have b1 : (i : Int) < (cs.length : Int) := by omega
  have b2 : (cs[i] : Int) < (s.N : Int) := by omega
  have b3 : (i : Int) ≤ 300 := by omega
  clear h hS hgr hcs hcv hsN
  go_enter Ybaz.func89, Ybaz.ntmps89
  go_wp2
  go_region
  all_goals
    go_wp2
    refine bodyPost_ret (results_none rfl _ _ _) rfl ?_
    exact ⟨⟨_, rfl⟩, rfl⟩

set_option maxRecDepth 100000 in
set_option maxHeartbeats 4000000 in
/-- s.leaveOut(taken) at one taken slot: a set of one. -/
theorem leaveOut_any (o : Nat → Nat) (W : World) (R S tb tcap i : Nat) (s : RS) (pv uv : Value) (g : GS) (v : VSt) (cs : List Nat) (sl : Nat → Int) (sb : Nat) (h : RAt o W R s pv uv) (hS : SAt o W S v g R cs sl sb) (hsN : s.N = g.n) (hn : g.n ≤ 300) (hcl : cs.length ≤ 300) (hcs : ∀ q ∈ cs, q < g.n) (hgr : ∀ q ∈ cs, s.gr q = false)
    (ct : W.cell? ⟨tb, 0, none⟩ = some (.int .i64 (i : Int))) (hi : i < cs.length) :
    Calls Ybaz.prog 61 #[.pointer (some ⟨S, 0, none⟩), .slice (some ⟨tb, 0, none⟩) 1 tcap] W fun e w' => (∃ a cap, e = .returned (.slice a 1 cap)) ∧ ∃ o', Step [] o W o' w' := by
  obtain ⟨X2, o2, B2, e2, z2, k2, t2, s2⟩ := alloc_step' o W 99 (.cells #[.pointer (some ⟨S, 0, none⟩)] 95)
  obtain ⟨X3, o3, B3, e3, z3, k3, t3, s3⟩ := alloc_step' o2 X2 99 (.cells #[.slice (some ⟨tb, 0, none⟩) 1 tcap] 24)
  obtain ⟨X4, o4, kb, e4, z4, k4, t4, s4⟩ := alloc_step' o3 X3 97 (.cells (madeCells #[.bool false] 1) 4)
  obtain ⟨X5, o5, B5, e5, z5, k5, t5, s5⟩ := alloc_step' o4 X4 99 (.cells #[.slice (some ⟨kb, 0, none⟩) 1 1] 50)
  obtain ⟨X6, o6, B6, e6, z6, k6, t6, s6⟩ := alloc_step' o5 X5 99 (.cells #[.slice none 0 0] 24)
  obtain ⟨B7, z7⟩ : ∃ b, X6.heap.size = b := ⟨_, rfl⟩
  obtain ⟨F, hF⟩ : ∃ F : Value, F = .func (.func 89) #[] #[.pointer (some ⟨B2, 0, none⟩), .pointer (some ⟨B3, 0, none⟩), .pointer (some ⟨B5, 0, none⟩), .pointer (some ⟨B7, 0, none⟩), .pointer (some ⟨B6, 0, none⟩)] := ⟨_, rfl⟩
  have k7 : Ob (tg o6 X6.heap.size 99) (X6.alloc (.cells #[F] 140)) 99 X6.heap.size 140 #[F] := Ob.new o6 X6 99 140 #[F]
  have s7 := Step.alloc [] o6 X6 (.cells #[F] 140) 99
  obtain ⟨X7, e7⟩ : ∃ X, X6.alloc (.cells #[F] 140) = X := ⟨_, rfl⟩
  obtain ⟨o7, ho7⟩ : ∃ o7, tg o6 X6.heap.size 99 = o7 := ⟨_, rfl⟩
  rw [z7] at k7 ho7
  rw [e7, ho7] at k7
  rw [e7] at s7
  have ho7' : tg o6 X6.heap.size 99 = o7 := by rw [z7]; exact ho7
  rw [ho7'] at s7
  have q6 := s7
  have q5 := s6.trans q6
  have q4 := s5.trans q5
  have q3 := s4.trans q4
  have q2 := s3.trans q3
  have qA := s2.trans q2
  have m1 : ∀ w : World, (Instr.makeSlice 50 (.int .i64 1) (.int .i64 1)).run Ybaz.prog w = .ok (.slice (some ⟨w.heap.size, 0, none⟩) 1 1) (w.alloc (.cells (madeCells #[.bool false] 1) 4)) := run_make_row' (P := Ybaz.prog) 50 4 (.bool false) 1 Ybaz.underlying50 info4' rfl .i64 .i64 1 (by omega) (by omega)
  have x3 : X3.cell? ⟨B3, 0, none⟩ = some (.slice (some ⟨tb, 0, none⟩) 1 tcap) := Ob.cell (o := o3) ⟨k3, t3⟩ 0
  have ob2 : Ob o7 X7 99 B2 95 #[.pointer (some ⟨S, 0, none⟩)] := Ob.step ⟨k2, t2⟩ q2 (by simp)
  have ob3 : Ob o7 X7 99 B3 24 #[.slice (some ⟨tb, 0, none⟩) 1 tcap] := Ob.step ⟨k3, t3⟩ q3 (by simp)
  have ob5 : Ob o7 X7 99 B5 50 #[.slice (some ⟨kb, 0, none⟩) 1 1] := Ob.step ⟨k5, t5⟩ q5 (by simp)
  have arK : Ar o7 X7 97 kb 4 1 (fun _ => .bool false) := by
    refine Ar.step (o := o4) (W := X4) ⟨⟨_, k4, size_madeCells _ _, fun j hj => ?_⟩, t4⟩ q4 (by simp)
    rw [← Array.getElem?_toList, toList_madeCells_one]
    simp [hj]
  have y7 : X7.cell? ⟨B7, 0, none⟩ = some F := k7.cell 0
  have y3 : X7.cell? ⟨B3, 0, none⟩ = some (.slice (some ⟨tb, 0, none⟩) 1 tcap) := ob3.cell 0
  have y2 : X7.cell? ⟨B2, 0, none⟩ = some (.pointer (some ⟨S, 0, none⟩)) := ob2.cell 0
  have y5 : X7.cell? ⟨B5, 0, none⟩ = some (.slice (some ⟨kb, 0, none⟩) 1 1) := ob5.cell 0
  have yk : X7.cell? ⟨kb, 0, none⟩ = some (.bool false) := arK.cell 0 (by omega)
  have fk := arK.frozen 0
  have yt : X7.cell? ⟨tb, 0, none⟩ = some (.int .i64 (i : Int)) := (qA.cell (p := ⟨tb, 0, none⟩) (World.block_lt_of_cell? _ _ ct) (by simp)).trans ct
  subst hF
  have HC := hid (decide_one o7 X7 R S B2 B3 B5 B6 B7 kb tb tcap i s pv uv g v cs sl sb (h.step qA (by simp) (by simp) (by simp) (by simp)) (hS.step qA (by simp) (by simp) (by simp)) hsN hn hcl hcs hgr y2 y3 y5 yt hi yk fk)
  have sK : Step [97] o7 X7 o7 (X7.setCell ⟨kb, 0, none⟩ (.bool true)).drew := (arK.sset 0 (.bool true) (by simp)).trans (Step.drew [97] o7 _)
  have arK2 := (arK.set 0 (.bool true)).step (Step.drew [] o7 _) (by simp)
  obtain ⟨X8, e8⟩ : ∃ X, (X7.setCell ⟨kb, 0, none⟩ (.bool true)).drew = X := ⟨_, rfl⟩
  rw [e8] at sK arK2 HC
  have w3 : X8.cell? ⟨B3, 0, none⟩ = some (.slice (some ⟨tb, 0, none⟩) 1 tcap) := (ob3.step sK (by simp)).cell 0
  have w5 : X8.cell? ⟨B5, 0, none⟩ = some (.slice (some ⟨kb, 0, none⟩) 1 1) := (ob5.step sK (by simp)).cell 0
  have wk : X8.cell? ⟨kb, 0, none⟩ = some (.bool true) := by have := arK2.cell 0 (by omega); simpa using this
  have wt : X8.cell? ⟨tb, 0, none⟩ = some (.int .i64 (i : Int)) := by
    have hlt : tb < W.heap.size := World.block_lt_of_cell? _ _ ct
    have hne : tb ≠ kb := by
      intro e
      have h1 := s2.size; have h2 := s3.size
      rw [← z4] at e; omega
    have h3 : (X7.setCell ⟨kb, 0, none⟩ (.bool true)).cell? ⟨tb, 0, none⟩ = some (.int .i64 (i : Int)) := cell_ne yt hne
    rw [← e8]; exact h3
  have sAll : ∃ o', Step [] o W o' X8 := by
    refine ⟨o7, qA.retouch (by rw [← e8]; simp [World.setCell]) (by rw [← e8]; rfl) (by rw [← e8]; rfl) (by rw [← e8]; rfl) fun k hk => ?_⟩
    have h1 := s2.size; have h2 := s3.size
    rw [← e8]
    exact Below.heap_setCell _ _ _ _ (by show k ≠ kb; rw [← z4]; omega)
  obtain ⟨gA, capA, wA, hrA, hcA, hgA, oA, slA, stA⟩ := app_new o7 X8 98 (.int .i64 (i : Int))
  have HSo := hid (fun cap2 => sort_row oA wA 98 gA capA cap2 [] [i] (by simpa [ints] using slA.toRw) (by simp))
  have Hall := hid sAll
  have HstA := hid stA
  have HgA := hid hgA
  have b1 : (i : Int) ≤ 300 := by omega
  clear h hS hgr hcs hsN s2 s3 s4 s5 s6 s7 q6 q5 q4 q3 q2 qA k2 k3 k4 k5 k6 k7 t2 t3 t4 t5 t6 ob2 ob3 ob5 arK sK arK2 sAll slA stA hgA e8 ho7 ho7' y2 y5 yk fk yt ct
  go_enter Ybaz.func61, Ybaz.ntmps61
  go_wp2_with (go_at_call 89; refine HC.out.mono ?_; rintro e w' ⟨⟨r, rfl⟩, hw8⟩; obtain rfl : X8 = w' := hw8.symm)
  go_loopw [8, 21] (fun a q wr => (a = .slice none 0 0 ∧ q = .int .i64 0 ∧ wr = X8) ∨ (a = .slice (some ⟨gA, 0, none⟩) 1 capA ∧ q = .int .i64 1 ∧ wr = wA)) (fun _ q _ => 1 - (intOf q).toNat)
  case atStart => exact .inl ⟨rfl, rfl, rfl⟩
  case round =>
    rcases hrel with ⟨rfl, rfl, hwr⟩ | ⟨rfl, rfl, hwr⟩
    · subst hwr
      go_wp2_with (at_builtin; refine wpList_append_is rfl _ _ 24 rfl _ _ _ _ rfl rfl hrA ?_)
      go_roundw
      case rel => exact .inr ⟨rfl, by go_num, trivial⟩
      case measure => simp [intOf]
    · subst hwr
      have HS1 : Hid (Calls Ybaz.prog 14 #[.slice (some ⟨gA, 0, none⟩) 1 capA] wr _) := HSo.out capA
      go_wp2_with (go_at_call 14; refine HS1.out.mono ?_; rintro e w9 ⟨⟨r, rfl⟩, hR9, s9, hk9⟩)
      go_ret
      refine ⟨⟨_, _, rfl⟩, ?_⟩
      obtain ⟨o', sA⟩ := Hall.out
      have sB := HstA.out
      have hg := HgA.out
      have hz1 := sA.size
      have hz2 := sB.size
      refine ⟨o', ⟨s9.os.trans (sB.os.trans sA.os), s9.tape.trans (sB.tape.trans sA.tape), s9.output.trans (sB.output.trans sA.output), Nat.le_trans hz1 (Nat.le_trans hz2 s9.size), sA.own, fun k hk hn => ?_⟩⟩
      rw [hk9 k (by omega) (by omega), sB.block k (by omega) (by simp), sA.block k hk (by simp)]
end Go.Proofs.YbulkbmdoGreat
