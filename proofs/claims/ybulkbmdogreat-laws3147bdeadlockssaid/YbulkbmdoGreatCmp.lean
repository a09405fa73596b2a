/-
  sortByID's comparing: cmp.Or, cmp.Compare of keys, byID, and the closure that SortFunc gets.
-/
import Derived.Test.YbulkbmdoGreatD4
import Derived.Test.YbulkbmdoGreatShelf3
import Derived.Test.YbulkbmdoGreatShelf
namespace Go.Proofs.YbulkbmdoGreat
open Go.RowKit Go.Shelf Go.Sort
set_option linter.unusedVariables false
set_option linter.unusedSimpArgs false
attribute [local go_sem ↓] Go.wp_at_zero Go.wp_at_succ

/-- Some draws, some new blocks. -/
def Gw (W W' : World) : Prop := ∃ q os, W' = grow (W.drewN q) os
theorem Gw.refl (W : World) : Gw W W := ⟨0, #[], by simp [grow, World.drewN]⟩
theorem Gw.alloc {W W' : World} (h : Gw W W') (x : Obj) : Gw W (W'.alloc x) := by
  obtain ⟨q, os, rfl⟩ := h
  exact ⟨q, os.push x, by unfold grow World.alloc; simp only [Array.push_append]⟩
theorem Gw.drewN {W W' : World} (h : Gw W W') (n : Nat) : Gw W (W'.drewN n) := by
  obtain ⟨q, os, rfl⟩ := h
  exact ⟨q + n, os, by simp [grow, World.drewN, Nat.add_assoc]⟩
theorem Gw.trans {A B C : World} (h : Gw A B) (k : Gw B C) : Gw A C := by
  obtain ⟨q, os, rfl⟩ := h
  obtain ⟨q2, os2, rfl⟩ := k
  exact ⟨q + q2, os ++ os2, by simp [grow, World.drewN, Nat.add_assoc, Array.append_assoc]⟩
theorem Gw.cell {W W' : World} (h : Gw W W') {a : Addr} {u : Value} (hc : W.cell? a = some u) : W'.cell? a = some u := by
  obtain ⟨q, os, rfl⟩ := h
  have hl := World.block_lt_of_cell? _ _ hc
  rw [← hc]
  exact World.cell?_of_block (heap_grow_old (W.drewN q) os hl)

/-- Less, like, more. -/
def cmpN (x y : Nat) : Int := if x < y then -1 else if y < x then 1 else 0

set_option maxHeartbeats 1000000 in
theorem isNaN_u64 (x : Int) (W : World) : Calls Ybaz.prog 44 #[.int .u64 x] W fun e w' => e = .returned (.bool false) ∧ w' = W := by
  go_enter Ybaz.func44, Ybaz.ntmps44
  go_wp2
  go_ret
  exact ⟨rfl, rfl⟩
set_option maxHeartbeats 1000000 in
theorem cmp_u64 (x y : Nat) (W : World) : Calls Ybaz.prog 30 #[.int .u64 (x : Int), .int .u64 (y : Int)] W fun e w' => e = .returned (.int .i64 (cmpN x y)) ∧ w' = W := by
  have H := hid (fun z W => isNaN_u64 z W)
  by_cases h1 : x < y
  · have b1 : (x : Int) < (y : Int) := by omega
    go_enter Ybaz.func30, Ybaz.ntmps30
    go_wp2_with (go_at_call 44; refine (H.out _ _).mono ?_; rintro e w' ⟨rfl, rfl⟩)
    go_ret
    exact ⟨by simp [cmpN, h1], rfl⟩
  · have b1 : ¬ (x : Int) < (y : Int) := by omega
    by_cases h2 : y < x
    · have b2 : (y : Int) < (x : Int) := by omega
      go_enter Ybaz.func30, Ybaz.ntmps30
      go_wp2_with (go_at_call 44; refine (H.out _ _).mono ?_; rintro e w' ⟨rfl, rfl⟩)
      go_ret
      exact ⟨by simp [cmpN, h1, h2], rfl⟩
    · have b2 : ¬ (y : Int) < (x : Int) := by omega
      go_enter Ybaz.func30, Ybaz.ntmps30
      go_wp2_with (go_at_call 44; refine (H.out _ _).mono ?_; rintro e w' ⟨rfl, rfl⟩)
      go_ret
      exact ⟨by simp [cmpN, h1, h2], rfl⟩
set_option maxHeartbeats 1000000 in
theorem cmp_or (a b : Int) (B : Nat) (W : World) (h0 : W.cell? ⟨B, 0, none⟩ = some (.int .i64 a)) (h1 : W.cell? ⟨B, 1, none⟩ = some (.int .i64 b)) :
    Calls Ybaz.prog 29 #[.slice (some ⟨B, 0, none⟩) 2 2] W fun e w' => e = .returned (.int .i64 (if a = 0 then b else a)) ∧ w' = W := by
  by_cases ha : a = 0
  · subst ha
    by_cases hb : b = 0
    · subst hb
      go_enter Ybaz.func29, Ybaz.ntmps29
      go_wp2
      refine wp_loop_rounds 3 ?_
      rw [rounds_succ]
      go_wp2
      rw [rounds_succ]
      go_wp2
      rw [rounds_succ]
      go_wp2
      go_ret
      exact ⟨rfl, rfl⟩
    · go_enter Ybaz.func29, Ybaz.ntmps29
      go_wp2
      refine wp_loop_rounds 3 ?_
      rw [rounds_succ]
      go_wp2
      rw [rounds_succ]
      go_wp2
      go_ret
      exact ⟨rfl, rfl⟩
  · go_enter Ybaz.func29, Ybaz.ntmps29
    go_wp2
    refine wp_loop_rounds 3 ?_
    rw [rounds_succ]
    go_wp2
    go_ret
    exact ⟨by simp [ha], rfl⟩

set_option maxRecDepth 100000 in
set_option maxHeartbeats 2000000 in
theorem byID_any (W : World) (g : GS) (B kx ky x y : Nat) (hB : W.cell? ⟨B, 0, none⟩ = some (.pointer (some ⟨g.G, 0, none⟩))) (hG : W.cell? ⟨g.G, 0, none⟩ = some (.slice (some ⟨g.pb, 0, none⟩) g.n g.pcap)) (hx : x < g.n) (hy : y < g.n) (cx : W.cell? ⟨g.pb, x * 3, none⟩ = some (.string (g.pid x))) (cy : W.cell? ⟨g.pb, y * 3, none⟩ = some (.string (g.pid y))) :
    Calls Ybaz.prog 25 #[.agg #[.int .u64 (kx : Int), .int .i64 (x : Int)], .agg #[.int .u64 (ky : Int), .int .i64 (y : Int)], .pointer (some ⟨B, 0, none⟩)] W fun e w' => e = .returned (.int .i64 (Lib.compareBytes (g.pid x).data.toList (g.pid y).data.toList)) ∧ Gw W w' := by
  obtain ⟨X1, o1, B1, e1, z1, k1, t1, s1⟩ := alloc_step' (fun _ => 0) W 99 (.cells #[.int .u64 (kx : Int), .int .i64 (x : Int)] 68)
  obtain ⟨X2, o2, B2, e2, z2, k2, t2, s2⟩ := alloc_step' o1 X1 99 (.cells #[.int .u64 (ky : Int), .int .i64 (y : Int)] 68)
  have g1 : Gw W X1 := by rw [← e1]; exact (Gw.refl W).alloc _
  have g2 : Gw W X2 := by rw [← e2]; exact g1.alloc _
  have ob1 : Ob o1 X1 99 B1 68 #[.int .u64 (kx : Int), .int .i64 (x : Int)] := ⟨k1, t1⟩
  have ob2 : Ob o2 X2 99 B2 68 #[.int .u64 (ky : Int), .int .i64 (y : Int)] := ⟨k2, t2⟩
  have a1 : X2.cell? ⟨B1, 1, none⟩ = some (.int .i64 (x : Int)) := (ob1.step s2 (by simp)).cell 1
  have a2 : X2.cell? ⟨B2, 1, none⟩ = some (.int .i64 (y : Int)) := ob2.cell 1
  have c1 := g2.cell hB
  have c2 := g2.cell hG
  have c3 := g2.cell cx
  have c4 := g2.cell cy
  have b1 : (x : Int) < (g.n : Int) := by omega
  have b2 : (y : Int) < (g.n : Int) := by omega
  have HSC := hid (fun w => Ybaz.strings_Compare (g.pid x) (g.pid y) w)
  have HG := hid g2
  clear g1 g2 ob1 ob2 k1 t1 k2 t2 s1 s2 hB hG cx cy
  go_enter Ybaz.func25, Ybaz.ntmps25
  go_wp2
  go_quiet (first | (go_at_call 26; exact Calls.quiet_of_same (HSC.out _)))
  go_wp2
  go_ret
  exact ⟨rfl, HG.out.drewN _⟩

set_option maxRecDepth 100000 in
set_option maxHeartbeats 2000000 in
theorem cmp28_any (W : World) (g : GS) (B B4 kx ky x y : Nat) (hB4 : W.cell? ⟨B4, 0, none⟩ = some (.func (.func 25) #[] #[.pointer (some ⟨B, 0, none⟩)])) (hB : W.cell? ⟨B, 0, none⟩ = some (.pointer (some ⟨g.G, 0, none⟩))) (hG : W.cell? ⟨g.G, 0, none⟩ = some (.slice (some ⟨g.pb, 0, none⟩) g.n g.pcap)) (hx : x < g.n) (hy : y < g.n) (cx : W.cell? ⟨g.pb, x * 3, none⟩ = some (.string (g.pid x))) (cy : W.cell? ⟨g.pb, y * 3, none⟩ = some (.string (g.pid y))) :
    Calls Ybaz.prog 28 #[.agg #[.int .u64 (kx : Int), .int .i64 (x : Int)], .agg #[.int .u64 (ky : Int), .int .i64 (y : Int)], .pointer (some ⟨B4, 0, none⟩)] W fun e w' => e = .returned (.int .i64 (if cmpN kx ky = 0 then Lib.compareBytes (g.pid x).data.toList (g.pid y).data.toList else cmpN kx ky)) ∧ Gw W w' := by
  obtain ⟨X1, o1, B1, e1, z1, k1, t1, s1⟩ := alloc_step' (fun _ => 0) W 99 (.cells #[.int .u64 (kx : Int), .int .i64 (x : Int)] 68)
  obtain ⟨X2, o2, B2, e2, z2, k2, t2, s2⟩ := alloc_step' o1 X1 99 (.cells #[.int .u64 (ky : Int), .int .i64 (y : Int)] 68)
  have g1 : Gw W X1 := by rw [← e1]; exact (Gw.refl W).alloc _
  have g2 : Gw W X2 := by rw [← e2]; exact g1.alloc _
  have ob1 : Ob o1 X1 99 B1 68 #[.int .u64 (kx : Int), .int .i64 (x : Int)] := ⟨k1, t1⟩
  have ob2 : Ob o2 X2 99 B2 68 #[.int .u64 (ky : Int), .int .i64 (y : Int)] := ⟨k2, t2⟩
  have a0 : X2.cell? ⟨B1, 0, none⟩ = some (.int .u64 (kx : Int)) := (ob1.step s2 (by simp)).cell 0
  have a1 : X2.cell? ⟨B1, 1, none⟩ = some (.int .i64 (x : Int)) := (ob1.step s2 (by simp)).cell 1
  have a2 : X2.cell? ⟨B2, 0, none⟩ = some (.int .u64 (ky : Int)) := ob2.cell 0
  have a3 : X2.cell? ⟨B2, 1, none⟩ = some (.int .i64 (y : Int)) := ob2.cell 1
  have a4 := g2.cell hB4
  obtain ⟨c, hc⟩ : ∃ c, cmpN kx ky = c := ⟨_, rfl⟩
  obtain ⟨sc, hsc⟩ : ∃ sc, Lib.compareBytes (g.pid x).data.toList (g.pid y).data.toList = sc := ⟨_, rfl⟩
  have HC := hid (fun W => cmp_u64 kx ky W)
  have gd := g2.drewN 1
  have HI := hid (byID_any (X2.drewN 1) g B kx ky x y (gd.cell hB) (gd.cell hG) hx hy (gd.cell cx) (gd.cell cy))
  rw [hsc] at HI ⊢
  rw [hc] at HC ⊢
  obtain ⟨rv, hrv⟩ : ∃ rv, (if c = 0 then sc else c) = rv := ⟨_, rfl⟩
  rw [hrv]
  have Hrv := hid hrv
  clear hrv
  have HG := hid g2
  clear g1 g2 gd ob1 ob2 k1 t1 k2 t2 s1 s2 hB hG cx cy hc hsc hB4
  go_enter Ybaz.func28, Ybaz.ntmps28
  go_wp2
  refine wp_region_mix [(true, 0), (true, 1), (true, 2), (true, 3), (true, 5), (true, 6), (true, 7), (false, 4), (false, 8), (false, 9), (false, 10), (false, 11)] 99 (fun w' => w'.cell? ⟨B1, 0, none⟩ = some (.int .u64 (kx : Int)) ∧ w'.cell? ⟨B1, 1, none⟩ = some (.int .i64 (x : Int)) ∧ w'.cell? ⟨B2, 0, none⟩ = some (.int .u64 (ky : Int)) ∧ w'.cell? ⟨B2, 1, none⟩ = some (.int .i64 (y : Int)) ∧ w'.cell? ⟨B4, 0, none⟩ = some (.func (.func 25) #[] #[.pointer (some ⟨B, 0, none⟩)])) (by kernel_rfl) (by kernel_rfl) (by kernel_rfl) (by kernel_rfl) ?_ ?_
  exact ⟨a0, a1, a2, a3, a4⟩
  repeat
    refine mix_take (v := ?_) rfl (by rfl) ?_ ?_
    rotate_left
    · (intro w' hS; (try dsimp only at hS); go_simp; try with_reducible rfl)
    try simp only [Act.put, List.setIfInBounds_toArray, List.set_cons_zero, List.set_cons_succ]
  refine mix_step rfl (fun K hK => ?_)
  go_simp
  refine (HC.out _).mono ?_
  rintro e w1 ⟨rfl, hw1⟩
  obtain rfl := hw1.symm
  refine hK.out _ _ (⟨a0, a1, a2, a3, a4⟩) (fun hHeld => ?_)
  clear hK K hHeld
  try simp only [Act.put, List.setIfInBounds_toArray, List.set_cons_zero, List.set_cons_succ]
  refine mix_step rfl (fun K hK => ?_)
  go_simp
  refine HI.out.mono ?_
  rintro e w2 ⟨rfl, hw2⟩
  have hS2 : w2.cell? ⟨B1, 0, none⟩ = some (.int .u64 (kx : Int)) ∧ w2.cell? ⟨B1, 1, none⟩ = some (.int .i64 (x : Int)) ∧ w2.cell? ⟨B2, 0, none⟩ = some (.int .u64 (ky : Int)) ∧ w2.cell? ⟨B2, 1, none⟩ = some (.int .i64 (y : Int)) ∧ w2.cell? ⟨B4, 0, none⟩ = some (.func (.func 25) #[] #[.pointer (some ⟨B, 0, none⟩)]) := ⟨hw2.cell a0, hw2.cell a1, hw2.cell a2, hw2.cell a3, hw2.cell a4⟩
  have hS3 := hid (fun (x : Obj) => (And.intro (cellUp hS2.1 x) (And.intro (cellUp hS2.2.1 x) (And.intro (cellUp hS2.2.2.1 x) (And.intro (cellUp hS2.2.2.2.1 x) (cellUp hS2.2.2.2.2 x))))))
  have HS2 := hid hS2
  have HG2 := hid ((HG.out.drewN 1).trans hw2)
  clear hw2 hS2
  refine hK.out _ _ (HS2.out) (fun hHeld => ?_)
  clear hK K hHeld
  try simp only [Act.put, List.setIfInBounds_toArray, List.set_cons_zero, List.set_cons_succ]
  refine mix_step rfl (fun K hK => ?_)
  go_simp
  refine hK.out _ _ (hS3.out _) (fun hHeld => ?_)
  clear hK K hHeld
  try simp only [Act.put, List.setIfInBounds_toArray, List.set_cons_zero, List.set_cons_succ]
  have HO := hid (cmp_or c sc w2.heap.size (w2.alloc (.cells #[.int .i64 c, .int .i64 sc] 3)) ((Ob.new (fun _ => 0) w2 0 3 #[.int .i64 c, .int .i64 sc]).cell 0) ((Ob.new (fun _ => 0) w2 0 3 #[.int .i64 c, .int .i64 sc]).cell 1))
  rw [Hrv.out] at HO
  refine mix_step rfl (fun K hK => ?_)
  go_simp
  refine HO.out.mono ?_
  rintro e w3 ⟨rfl, rfl⟩
  refine hK.out _ _ (hS3.out _) (fun hHeld => ?_)
  clear hK K hHeld
  try simp only [Act.put, List.setIfInBounds_toArray, List.set_cons_zero, List.set_cons_succ]
  refine mix_step rfl (fun K hK => ?_)
  go_simp
  refine hK.out _ _ (hS3.out _) (fun hHeld => ?_)
  clear hK K hHeld
  try simp only [Act.put, List.setIfInBounds_toArray, List.set_cons_zero, List.set_cons_succ]
  refine mix_nil (NoPanic.normal ?_)
  try simp only [Act.put]
  go_wp2
  go_ret
  exact ⟨rfl, HG2.out.alloc _⟩
end Go.Proofs.YbulkbmdoGreat
