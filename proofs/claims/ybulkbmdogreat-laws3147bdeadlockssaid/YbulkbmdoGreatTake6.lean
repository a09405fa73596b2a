import Derived.Test.YbulkbmdoGreatTake5a
import Derived.Test.YbulkbmdoGreatRw
import Derived.Lib.SliceRun
namespace Go.Proofs.YbulkbmdoGreat
open Go.RowKit Go.Shelf
set_option linter.unusedVariables false

/-- clear, where what it comes to is known. -/
theorem wpList_clear_is {P : Program} {w : World} {ops : Array Oper} {rest : List Oper} {o : Oper} {a : Act} {Q : Exit → Act → World → Prop} (hgd : o.guard = none) (s : Operand) (t : TypeId)
    (ho : o.op = .call { callee := .builtin .clear, args := #[s], argTypes := #[t] }) (v v' : Value) (w' : World) (hs : a.eval s = v) (hr : (Builtin.clear_ #[t] o.type #[v]).run P w = .ok v' w') (h : wpList P ops Q rest (a.put o.dst v') w') :
    wpList P ops Q (o :: rest) a w := by
  refine wpList_plain hgd fun K hK => ?_
  unfold Oper.wp execOp
  simp only [ho, resolve, invoke, builtin, Sem.run_bind, Sem.run_pure, Result.andThen_ok, List.map_toArray, List.map_cons, List.map_nil, hs, hr]
  exact hK _ _ h

/-- The search without the room for take. -/
structure VH (o : Nat → Nat) (W : World) (R S : Nat) (s : RS) (pv uv : Value) (g : GS) (tgt : Nat → Option Nat) (v : VSt) (cs : List Nat) (idx lf nx : Nat → Nat) (sl : Nat → Int) (sb : Nat) : Prop where
  r : RAt o W R s pv uv
  ng : NG g tgt o W s
  sa : SAt o W S v g R cs sl sb
  lc : LcAt o W v cs idx lf nx
  co : Rm o W 40 v.coreOf
  cl : Rm o W 41 v.coreLast
  tw : Rm o W 42 v.topW
  sls : ∃ slb cap, v.slots = .slice (some ⟨slb, 0, none⟩) cs.length cap ∧ cs.length ≤ cap ∧ cap ≤ maxLen ∧ o slb = 31 ∧ ∀ j, j < cs.length → W.cell? ⟨slb, j, none⟩ = some (.int .i64 (j : Int))
  wts : ∃ wb cap, v.weight = .slice (some ⟨wb, 0, none⟩) cs.length cap ∧ o wb = 28 ∧ ∀ j, j < cs.length → W.cell? ⟨wb, j, none⟩ = some (.int .i64 1)
def VHT : List Nat := [1, 2, 3, 4, 5, 7, 8, 10, 11, 12, 20, 26, 27, 28, 29, 30, 31, 40, 41, 42]
section
variable {o o' : Nat → Nat} {W W' : World} {R S : Nat} {s : RS} {pv uv : Value} {g : GS} {tgt : Nat → Option Nat} {v : VSt} {cs : List Nat} {idx lf nx : Nat → Nat} {sl : Nat → Int} {sb : Nat} {T : List Nat}
theorem VG.vh (h : VG o W R S s pv uv g tgt v cs idx lf nx sl sb) : VH o W R S s pv uv g tgt v cs idx lf nx sl sb := ⟨h.r, h.ng, h.sa, h.lc, h.co, h.cl, h.tw, h.sls, h.wts⟩
theorem VH.vg (h : VH o W R S s pv uv g tgt v cs idx lf nx sl sb) (h1 : Rm o W 33 v.count) (h2 : Rm o W 34 v.shares) (h3 : ∃ n bl, QAt o W v.qb n bl) : VG o W R S s pv uv g tgt v cs idx lf nx sl sb := ⟨h.r, h.ng, h.sa, h.lc, h1, h2, h3, h.co, h.cl, h.tw, h.sls, h.wts⟩
theorem VH.step (h : VH o W R S s pv uv g tgt v cs idx lf nx sl sb) (h0 : 0 < cs.length) (hs : Step T o W o' W') (k : ∀ t ∈ VHT, t ∉ T) : VH o' W' R S s pv uv g tgt v cs idx lf nx sl sb :=
  ⟨h.r.step hs (k _ (by decide)) (k _ (by decide)) (k _ (by decide)) (k _ (by decide)), h.ng.step hs (fun t ht => k t (by revert t; decide)) rfl rfl rfl rfl rfl rfl,
    h.sa.step hs (k _ (by decide)) (k _ (by decide)) (k _ (by decide)), h.lc.step hs (k _ (by decide)) (k _ (by decide)), h.co.step hs (k _ (by decide)), h.cl.step hs (k _ (by decide)), h.tw.step hs (k _ (by decide)), sls_step hs (k _ (by decide)) h.sls h0, wts_step hs (k _ (by decide)) h.wts h0⟩
/-- The search's own fields turned, and what is known of the reduction renewed. -/
theorem VH.turn {s' : RS} {pv' uv' : Value} {v' : VSt} (h : VH o W R S s pv uv g tgt v cs idx lf nx sl sb) (h0 : 0 < cs.length) (hs : Step T o W o' W') (k : ∀ t ∈ [26, 27, 28, 31, 40, 41, 42], t ∉ T) (hr : RAt o' W' R s' pv' uv') (hn : NG g tgt o' W' s') (ob : Ob o' W' 20 S 63 (vcells v')) (hl : LcAt o' W' v' cs idx lf nx) (e : VEq v v') (e1 : v'.coreOf = v.coreOf) (e2 : v'.coreLast = v.coreLast) (e3 : v'.topW = v.topW) :
    VH o' W' R S s' pv' uv' g tgt v' cs idx lf nx sl sb := by
  refine ⟨hr, hn, ⟨ob, e.G.trans h.sa.hG, e.R.trans h.sa.hR, ?_, e.slot.trans h.sa.hslot, h.sa.slot.step hs (k _ (by decide))⟩, hl, ?_, ?_, ?_, ?_, ?_⟩
  · rw [e.cands]; exact h.sa.cands.step hs (k _ (by decide))
  · rw [e1]; exact h.co.step hs (k _ (by decide))
  · rw [e2]; exact h.cl.step hs (k _ (by decide))
  · rw [e3]; exact h.tw.step hs (k _ (by decide))
  · rw [e.slots]; exact sls_step hs (k _ (by decide)) h.sls h0
  · rw [e.weight]; exact wts_step hs (k _ (by decide)) h.wts h0
end

/-- A slice cut to nothing, with room: the row. -/
theorem Sl.rw {o : Nat → Nat} {W : World} {t : Nat} {a : Option Addr} {cap n : Nat} {e : TypeId} (h : Sl o W t e (.slice a 0 cap) []) (hn : n ≤ cap) (h0 : 0 < n) : ∃ b, a = some ⟨b, 0, none⟩ ∧ Rw o W t b e cap [] ∧ cap ≤ maxLen := by
  rcases h.room with ⟨_, rfl⟩ | ⟨b, cur, rfl, ht, hb, hs, hm⟩
  · omega
  · exact ⟨b, rfl, ⟨⟨cur, hb, hs, fun j hj => by simp at hj⟩, by simp, ht⟩, hm⟩
theorem Rw.sl {o : Nat → Nat} {W : World} {t b : Nat} {cap : Nat} {e : TypeId} {xs : List Value} (h : Rw o W t b e cap xs) (hm : cap ≤ maxLen) : Sl o W t e (.slice (some ⟨b, 0, none⟩) 0 cap) [] := by
  obtain ⟨cur, hb, hs, _⟩ := h.blk
  exact ⟨⟨by simp, .inr ⟨b, cap, cur, by simp, Nat.zero_le _, hb, by simp, hm, by simpa using hs, by simp⟩⟩, fun x hx => by simp [Value.ownBlock] at hx; subst hx; exact h.tag⟩
theorem Arr.rw {o : Nat → Nat} {W : World} {t b N cap : Nat} {f : Nat → Int} {xs : List Value} (h : Rw o W t b 3 cap xs) {W' : World} (hA : Arr W' b N f) (hs : ∃ cur, W'.heap[b]? = some (.cells cur 3 (0, 0)) ∧ cur.size = cap) (ht : o b = t) : Rw o W' t b 3 cap [] := by
  obtain ⟨cur, hb, hs⟩ := hs
  exact ⟨⟨cur, hb, hs, fun j hj => by simp at hj⟩, by simp, ht⟩

theorem cell_ne {W : World} {x k : Nat} {u v : Value} {b i : Nat} (h : W.cell? ⟨x, k, none⟩ = some u) (hb : x ≠ b) : (W.setCell ⟨b, i, none⟩ v).cell? ⟨x, k, none⟩ = some u :=
  (World.cell?_of_block (w := W) (a := ⟨x, k, none⟩) (Below.heap_setCell _ _ _ _ hb)).trans h
/-- Behind clear: the counts are zeros. -/
theorem clear_row {o : Nat → Nat} {W : World} {t b cap n : Nat} {xs : List Value} (h : Rw o W t b 3 cap xs) (hn : n ≤ cap) (h0 : 0 < n) (ty : TypeId) (C : Nat) :
    ∃ W', (Builtin.clear_ #[24] ty #[.slice (some ⟨b, 0, none⟩) n C]).run Ybaz.prog W = .ok (.tuple #[]) W' ∧ Arr W' b n (fun _ => 0) ∧ SZ W' b cap ∧ Step [t] o W o W' := by
  obtain ⟨i0, hi0, hz0, hz1, hz2⟩ := info_parts info3
  have hzv : ∀ w, (zeroValue 3).run Ybaz.prog w = .ok (.int .i64 0) w := fun w => by kernel_rfl
  have hr := Lib.run_clear_slice (P := Ybaz.prog) W 24 3 ty (.int .i64 0) Ybaz.underlying24 hzv rfl rfl b 0 n C h0 (fun j hj => by obtain ⟨u, hu⟩ := h.has (0 + j) (by omega); rw [hu]; rfl) (fun j hj => h.frozen _)
  refine ⟨_, hr, ?_⟩
  have key : ∀ m (xs : List Value) (W : World) (i : Nat), Rw o W t b 3 cap [] → i + m ≤ cap → (∃ cur, (W.setCells b i (List.replicate m (.int .i64 0))).heap[b]? = some (.cells cur 3 (0, 0)) ∧ cur.size = cap ∧ (∀ j, i ≤ j → j < i + m → cur[j]? = some (.int .i64 0)) ∧ ∀ cur0, W.heap[b]? = some (.cells cur0 3 (0, 0)) → ∀ j, j < i → cur[j]? = cur0[j]?) ∧ Step [t] o W o (W.setCells b i (List.replicate m (.int .i64 0))) := by
    intro m
    induction m with
    | zero =>
      intro xs W i hW hi
      obtain ⟨cur, hb, hs, _⟩ := hW.blk
      exact ⟨⟨cur, hb, hs, fun j h1 h2 => by omega, fun cur0 h0 j _ => by simp [hb] at h0 ⊢; rw [h0]⟩, Step.refl _ _ _⟩
    | succ m ih =>
      intro xs W i hW hi
      have hW2 : Rw o (W.setCell ⟨b, i, none⟩ (.int .i64 0)) t b 3 cap [] := hW.set i _
      obtain ⟨⟨cur, hb, hs, h1, h2⟩, h3⟩ := ih xs (W.setCell ⟨b, i, none⟩ (.int .i64 0)) (i + 1) hW2 (by omega)
      refine ⟨⟨cur, hb, hs, fun j hj1 hj2 => ?_, fun cur0 h0 j hj => ?_⟩, (hW.sset i _ (by simp)).trans h3⟩
      · by_cases e : j = i
        · subst e
          obtain ⟨c0, hc0, hs0, _⟩ := hW.blk
          have := h2 _ (Ob.set (o := o) (t := o b) ⟨hc0, rfl⟩ j (.int .i64 0)).blk j (by omega)
          rw [this]
          simp [hs0, show j < cap by omega]
        · exact h1 j (by omega) (by omega)
      · have := h2 _ (Ob.set (o := o) (t := o b) ⟨h0, rfl⟩ i (.int .i64 0)).blk j (by omega)
        rw [this, Array.getElem?_setIfInBounds_ne (by omega)]
  obtain ⟨⟨cur, hb, hs, h1, _⟩, h3⟩ := key n [] W 0 (by simpa using h.cut 0) (by omega)
  exact ⟨⟨cur, hb, by omega, fun j hj => h1 j (by omega) (by omega)⟩, ⟨cur, hb, hs⟩, h3⟩

set_option maxHeartbeats 1000000 in
/-- take$3: count[j] += shares[i], shares[i] known. -/
theorem count_at (o : Nat → Nat) (W : World) (B9 B10 B11 ctb N ccap shb scap : Nat) (f : Nat → Int) (z : Int) (c9 : W.cell? ⟨B9, 0, none⟩ = some (.slice (some ⟨ctb, 0, none⟩) N ccap)) (c10 : W.cell? ⟨B10, 0, none⟩ = some (.slice (some ⟨shb, 0, none⟩) N scap)) (i : Nat) (c11 : W.cell? ⟨B11, 0, none⟩ = some (.int .i64 (i : Int)))
    (hct : Arr W ctb N f) (tct : o ctb = 33) (ci : W.cell? ⟨shb, i, none⟩ = some (.int .i64 z)) (hN : N ≤ 300) (hi : i < N) (j : Nat) (hj : j < N) (hf : 0 ≤ f j ∧ f j ≤ 1000) (hh : 0 ≤ z ∧ z ≤ 1000) :
    Calls Ybaz.prog 95 (#[.int .i64 (j : Int)] ++ #[.pointer (some ⟨B9, 0, none⟩), .pointer (some ⟨B10, 0, none⟩), .pointer (some ⟨B11, 0, none⟩)]) W fun e w' => (∃ r, e = .returned r) ∧ Arr w' ctb N (fun q => if q = j then f j + z else f q) ∧ (∀ c, SZ W ctb c → SZ w' ctb c) ∧ Step [33] o W o w' := by
  show Calls Ybaz.prog 95 #[.int .i64 (j : Int), .pointer (some ⟨B9, 0, none⟩), .pointer (some ⟨B10, 0, none⟩), .pointer (some ⟨B11, 0, none⟩)] W _
  have cj := hct.cell j hj
  have fj := hct.frozen j
  have b1 : (j : Int) < (N : Int) := by omega
  have b2 : (i : Int) < (N : Int) := by omega
  have hw : IntKind.i64.wrap (f j + z) = f j + z := by rw [IntKind.wrap_i64]; omega
  have s1 : Step [33] o W o (W.setCell ⟨ctb, j, none⟩ (.int .i64 (f j + z))) := Step.setCell W (by simp [tct]) _
  have HF := hid (And.intro (And.intro (hct.set j (f j + z)) (fun c (hc : SZ W ctb c) => hc.set j (.int .i64 (f j + z)))) (s1.trans (Step.drew [33] o _)))
  clear s1 hct
  go_enter Ybaz.func95, Ybaz.ntmps95
  go_wp2
  go_region
  all_goals
    go_wp2
    go_end0
    exact ⟨⟨_, rfl⟩, HF.out.1.1.kept rfl, fun c hc => (HF.out.1.2 c hc).kept rfl, HF.out.2⟩
end Go.Proofs.YbulkbmdoGreat
