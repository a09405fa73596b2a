import Derived.Test.YbulkbmdoGreatGrow
namespace Go.Proofs.YbulkbmdoGreat
open Go.RowKit Go.Shelf
set_option linter.unusedVariables false
theorem infoB : (Ybaz.prog.info? 4).map (fun i => (i.zero, i.size, i.bytes)) = some (some (.bool false), 1, 1) := by kernel_rfl

set_option maxHeartbeats 1000000 in
theorem growB_room (a : Option Addr) (cap n : Nat) (hn : n ≤ cap) (hn2 : n ≤ 100000) (hc : cap ≤ 9223372036854775807) (W : World) :
    Calls Ybaz.prog 35 #[.slice a 0 cap, .int .i64 (n : Int)] W fun e w' => e = .returned (.slice a 0 cap) ∧ w' = W := by
  have b1 : ¬ (n : Int) < 0 := by omega
  have b2 : ¬ (0 : Int) < (n : Int) - (cap : Int) := by omega
  have hw : IntKind.i64.wrap ((n : Int) - (cap : Int)) = (n : Int) - (cap : Int) := by rw [IntKind.wrap_i64]; omega
  go_enter Ybaz.func35, Ybaz.ntmps35
  go_wp2
  go_ret
  exact ⟨rfl, rfl⟩

set_option maxHeartbeats 2000000 in
theorem growB_more (o : Nat → Nat) (W : World) (t : Nat) (a : Option Addr) (cap n : Nat) (h : Sl o W t 4 (.slice a 0 cap) []) (hn : cap < n) (hn2 : n ≤ 100000) :
    Calls Ybaz.prog 35 #[.slice a 0 cap, .int .i64 (n : Int)] W fun e w' => ∃ o' g cap', e = .returned (.slice (some ⟨g, 0, none⟩) 0 cap') ∧ n ≤ cap' ∧ Sl o' w' t 4 (.slice (some ⟨g, 0, none⟩) 0 cap') [] ∧ Step [] o W o' w' := by
  obtain ⟨i0, hi0, hz0, hz1, hz2⟩ := info_parts infoB
  obtain ⟨cs, hcl, hold⟩ : ∃ cs : List Value, cs.length = cap ∧ (Builtin.firstCells i0.size cap (.slice a cap cap)).run Ybaz.prog W.drew = .ok cs.toArray W.drew := by
    rcases h.room with ⟨rfl, rfl⟩ | ⟨g, cur, rfl, _, hg, hs, _⟩
    · exact ⟨[], rfl, run_firstCells_none W.drew i0.size 0 0 0⟩
    · refine ⟨cur.toList, by simpa using hs, run_firstCells_some W.drew i0.size cap ⟨g, 0, none⟩ cap cap cur.toList (by simp [hs, hz1]) ?_⟩
      intro j u hu
      have e2 : ((⟨g, 0, none⟩ : Addr).add j) = ⟨g, j, none⟩ := by cases j <;> simp [Addr.add]
      rw [e2]
      show W.cell? ⟨g, j, none⟩ = some u
      simp [World.cell?, hg]
      simpa using hu
  have hr := Lib.run_append_grow_zeros W 50 3 50 4 i0 (.bool false) .i64 .i64 Ybaz.underlying50 Ybaz.underlying3 hi0 hz0 a cap cap cs hold (n - cap) (by omega) (by omega) (by omega) (by omega) (by rw [hz2]; omega) (growslice_fits (by omega) (by rw [hz2]; omega))
  have e1 : cap + (n - cap) = n := by omega
  have e2 : ((n - cap : Nat) : Int) = (n : Int) - (cap : Int) := by omega
  rw [e1, e2] at hr
  have hge := grownCap_ge W n cap 4
  have hle := grownCap_le_maxLen W n cap 4 (by unfold maxLen; omega)
  obtain ⟨C, hC⟩ : ∃ C, grownCap W n cap 4 = C := ⟨_, rfl⟩
  rw [hC] at hr hge hle
  obtain ⟨cur, hcur⟩ : ∃ cur, cs.toArray ++ Builtin.zeroCells (Value.bool false).cells (n - cap) ++ Builtin.zeroCells (Value.bool false).cells (C - n) = cur := ⟨_, rfl⟩
  have hsz : cur.size = C := by rw [← hcur]; simp [size_zeroCells, Value.cells, hcl]; omega
  rw [hcur] at hr
  have hfin : ∃ o', Sl o' (W.drew.alloc (.cells cur 4)) t 4 (.slice (some ⟨W.heap.size, 0, none⟩) 0 C) [] ∧ Step [] o W o' (W.drew.alloc (.cells cur 4)) := by
    refine ⟨tg o W.heap.size t, ⟨⟨by simp, .inr ⟨W.heap.size, C, cur, rfl, Nat.zero_le _, World.alloc_heap_new W.drew _, Nat.zero_le _, hle, by simpa using hsz, by simp⟩⟩, fun b hb => ?_⟩, ?_⟩
    · simp [Value.ownBlock] at hb; subst hb; exact tg_self _ _ _
    · exact (Step.drew [] o W).trans (Step.alloc [] o W.drew (.cells cur 4) t)
  have hcapl : cap ≤ 9223372036854775807 := by omega
  have hCl : C ≤ 9223372036854775807 := by unfold maxLen at hle; omega
  have b1 : ¬ (n : Int) < 0 := by omega
  have b2 : (0 : Int) < (n : Int) - (cap : Int) := by omega
  have hw : IntKind.i64.wrap ((n : Int) - (cap : Int)) = (n : Int) - (cap : Int) := by rw [IntKind.wrap_i64]; omega
  have HFIN := hid hfin
  clear hfin hC hcur hold h hsz e1 e2
  go_enter Ybaz.func35, Ybaz.ntmps35
  go_wp2_with (at_builtin; refine wpList_append_run2 rfl _ _ 50 3 rfl _ _ _ _ rfl rfl hr ?_)
  go_ret
  obtain ⟨o', h1, h2⟩ := HFIN.out
  exact ⟨o', W.heap.size, C, rfl, hge, h1, h2⟩

/-- slices.Grow(s[:0], n). -/
theorem growB_any (o : Nat → Nat) (W : World) (t : Nat) (a : Option Addr) (cap n : Nat) (h : Sl o W t 4 (.slice a 0 cap) []) (hn2 : n ≤ 100000) :
    Calls Ybaz.prog 35 #[.slice a 0 cap, .int .i64 (n : Int)] W fun e w' => ∃ o' a' cap', e = .returned (.slice a' 0 cap') ∧ n ≤ cap' ∧ Sl o' w' t 4 (.slice a' 0 cap') [] ∧ Step [] o W o' w' := by
  by_cases hc : cap < n
  · refine (growB_more o W t a cap n h hc hn2).mono ?_
    rintro e w' ⟨o', g, cap', h1, h2, h3, h4⟩
    exact ⟨o', _, cap', h1, h2, h3, h4⟩
  · have hcl : cap ≤ 9223372036854775807 := by
      rcases h.room with ⟨_, rfl⟩ | ⟨g, cur, _, _, _, _, h5⟩
      · omega
      · unfold maxLen at h5; omega
    refine (growB_room a cap n (by omega) hn2 hcl W).mono ?_
    rintro e w' ⟨rfl, rfl⟩
    exact ⟨o, a, cap, rfl, by omega, h, Step.refl _ _ _⟩
end Go.Proofs.YbulkbmdoGreat
