import Derived.Test.YbulkbmdoGreatQueue2
namespace Go.Proofs.YbulkbmdoGreat
open Go.RowKit Go.Shelf
set_option linter.unusedVariables false

/-- A row of ints of c cells. -/
def SZ (W : World) (b c : Nat) : Prop := ∃ cur : Array Value, W.heap[b]? = some (.cells cur 3 (0, 0)) ∧ cur.size = c
theorem SZ.kept {X Y : World} {b c : Nat} (h : SZ X b c) (hk : Y.heap[b]? = X.heap[b]?) : SZ Y b c := by
  obtain ⟨cur, h1, h2⟩ := h; exact ⟨cur, hk.trans h1, h2⟩
theorem SZ.set {X : World} {b c : Nat} (h : SZ X b c) (i : Nat) (v : Value) : SZ (X.setCell ⟨b, i, none⟩ v) b c := by
  obtain ⟨cur, h1, h2⟩ := h; exact ⟨cur.setIfInBounds i v, (Ob.set (o := fun _ => 0) (t := 0) ⟨h1, rfl⟩ i v).blk, by simpa using h2⟩

/-- The queue's counts f (of N slots), its buckets in use n0 with the lists bl, its top. -/
structure TQ (o : Nat → Nat) (W : World) (S : Nat) (v : VSt) (ctb N ccap : Nat) (f : Nat → Int) (n0 : Nat) (bl : Nat → List Nat) (top : Int) : Prop where
  ob : Ob o W 20 S 63 (vcells v)
  qc : v.qc = .slice (some ⟨ctb, 0, none⟩) N ccap
  ct : Arr W ctb N f
  tct : o ctb = 33
  qb : QAt o W v.qb n0 bl
  qt : v.qt = .int .i64 top
  sz : SZ W ctb ccap
theorem TQ.step {o o' : Nat → Nat} {W W' : World} {T : List Nat} {S : Nat} {v : VSt} {ctb N ccap : Nat} {f : Nat → Int} {n0 : Nat} {bl : Nat → List Nat} {top : Int} (h : TQ o W S v ctb N ccap f n0 bl top) (hs : Step T o W o' W') (h1 : 20 ∉ T) (h2 : 33 ∉ T) (h3 : 36 ∉ T) (h4 : ∀ j, 100 + j ∉ T) : TQ o' W' S v ctb N ccap f n0 bl top :=
  ⟨h.ob.step hs h1, h.qc, h.ct.kept (hs.block _ h.ct.lt (by rw [h.tct]; exact h2)), (hs.own _ h.ct.lt).trans h.tct, h.qb.step hs h3 h4, h.qt, h.sz.kept (hs.block _ h.ct.lt (by rw [h.tct]; exact h2))⟩

theorem queue_tq (o : Nat → Nat) (W : World) (S : Nat) (v : VSt) (ctb N ccap : Nat) (f : Nat → Int) (n0 : Nat) (bl : Nat → List Nat) (top : Int) (h : TQ o W S v ctb N ccap f n0 bl top) (ht0 : -1 ≤ top) (ht1 : top ≤ 10) (hN : N ≤ 300) (i : Nat) (hi : i < N) (c : Nat) (hc : f i = (c : Int)) (hc2 : c ≤ 2) (hnq : n0 ≤ 10) (hbl : ∀ j, j < n0 → (bl j).length ≤ 2000) :
    Calls Ybaz.prog 116 #[.pointer (some ⟨S, 16, none⟩), .int .i64 (i : Int)] W fun e w' => (∃ r, e = .returned r) ∧
      ∃ o' qbv bl', TQ o' w' S { v with qb := qbv, qt := .int .i64 (max top (c : Int)) } ctb N ccap f (max n0 (c + 1)) bl' (max top (c : Int)) ∧ (∀ j, j < max n0 (c + 1) → bl' j = (if j < n0 then bl j else []) ++ (if j = c then [i] else [])) ∧ Step [20, 36, 100, 101, 102] o W o' w' := by
  refine (queue_any o W S v h.ob ctb N ccap h.qc f h.ct h.tct n0 bl h.qb top h.qt ht0 ht1 hN i hi c hc hc2 hnq hbl).mono ?_
  rintro e w' ⟨hr, o', qbv, bl', ob', q', hb', st⟩
  exact ⟨hr, o', qbv, bl', ⟨ob', h.qc, h.ct.kept (st.block _ h.ct.lt (by rw [h.tct]; simp)), (st.own _ h.ct.lt).trans h.tct, q', rfl, h.sz.kept (st.block _ h.ct.lt (by rw [h.tct]; simp))⟩, hb', st⟩

set_option maxRecDepth 100000 in
set_option maxHeartbeats 1000000 in
theorem add_any (o : Nat → Nat) (W : World) (S : Nat) (v : VSt) (ctb N ccap : Nat) (f : Nat → Int) (n0 : Nat) (bl : Nat → List Nat) (top : Int) (h : TQ o W S v ctb N ccap f n0 bl top) (ht0 : -1 ≤ top) (ht1 : top ≤ 10) (hN : N ≤ 300) (i : Nat) (hi : i < N) (z d : Int) (hz : f i = z) (hz0 : 0 ≤ z) (hz2 : z ≤ 10) (c : Nat) (hc : z + d = (c : Int)) (hc2 : c ≤ 2) (hnq : n0 ≤ 10) (hbl : ∀ j, j < n0 → (bl j).length ≤ 2000) :
    Calls Ybaz.prog 101 #[.pointer (some ⟨S, 16, none⟩), .int .i64 (i : Int), .int .i64 d] W fun e w' => (∃ r, e = .returned r) ∧
      ∃ o' qbv bl', TQ o' w' S { v with qb := qbv, qt := .int .i64 (max top (c : Int)) } ctb N ccap (fun j => if j = i then (c : Int) else f j) (max n0 (c + 1)) bl' (max top (c : Int)) ∧ (∀ j, j < max n0 (c + 1) → bl' j = (if j < n0 then bl j else []) ++ (if j = c then [i] else [])) ∧ Step [20, 33, 36, 100, 101, 102] o W o' w' := by
  have c16 : W.cell? ⟨S, 16, none⟩ = some (.slice (some ⟨ctb, 0, none⟩) N ccap) := by rw [← h.qc]; exact h.ob.cell 16
  have cct : W.cell? ⟨ctb, i, none⟩ = some (.int .i64 z) := by rw [h.ct.cell i hi, hz]
  have fct := h.ct.frozen i
  have b1 : (i : Int) < (N : Int) := by omega
  have s1 : Step [33] o W o (W.setCell ⟨ctb, i, none⟩ (.int .i64 (c : Int))) := Step.setCell W (by simp [h.tct]) _
  have T1 : TQ o (W.setCell ⟨ctb, i, none⟩ (.int .i64 (c : Int))) S v ctb N ccap (fun j => if j = i then (c : Int) else f j) n0 bl top :=
    ⟨h.ob.step s1 (by simp), h.qc, h.ct.set i _, h.tct, h.qb.step s1 (by simp) (by simp; omega), h.qt, h.sz.set i _⟩
  have HC := hid (queue_tq o _ S v ctb N ccap _ n0 bl top T1 ht0 ht1 hN i hi c (by simp) hc2 hnq hbl)
  have hw : IntKind.i64.wrap (z + d) = (c : Int) := by rw [hc, IntKind.wrap_i64]; omega
  have HS := hid s1
  clear T1 s1 h hz hc
  go_enter Ybaz.func101, Ybaz.ntmps101
  go_wp2_with (go_at_call 116; refine HC.out.mono ?_; rintro e w1 ⟨⟨r, rfl⟩, o', qbv, bl', hT, hb, st⟩)
  go_end0
  exact ⟨⟨_, rfl⟩, o', qbv, bl', hT, hb, (HS.out.mono (by simp)).trans (st.mono (by simp))⟩
end Go.Proofs.YbulkbmdoGreat
