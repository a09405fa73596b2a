import Derived.Test.YbulkblukDoorIter
import Derived.Test.YbulkblukDoorEq
import Derived.Test.YbulkblukDoorBuild
import Derived.Deep.WholeRow
import Derived.Laws.IdiomCopy
import Derived.Laws.CopyRow
namespace Go.Proofs.YbulkblukDoor
open Go.RowKit Go.Shelf Go.Deep

attribute [local go_sem] Oper.semAt_some

/-- The words, as cells. -/
def wcells (xs : Nat → Nat) (m : Nat) : List Value := (List.range m).map fun j => Value.int .u64 (xs j : Int)
theorem wcells_length (xs : Nat → Nat) (m : Nat) : (wcells xs m).length = m := by simp [wcells]
theorem wcells_at (xs : Nat → Nat) (m j : Nat) (hj : j < m) : (wcells xs m)[j]? = some (.int .u64 (xs j : Int)) := by simp [wcells, hj]

/-- The first m cells of a slice of words that came in. -/
def WordAt (w : World) (a : Option Addr) (m : Nat) (xs : Nat → Nat) : Prop :=
  m = 0 ∨ ∃ b off, a = some ⟨b, off, none⟩ ∧ ∀ j, j < m → w.cell? ⟨b, off + j, none⟩ = some (.int .u64 (xs j : Int))

theorem size49 : (Ybad.prog.info? 49).map (·.size) = some 1 := by kernel_rfl

theorem copy_run (a : Option Addr) (m cap ty : Nat) (xs : Nat → Nat) (w : World) (h : WordAt w a m xs) :
    (Builtin.copy_ #[22, 22] ty #[.slice (some ⟨w.heap.size, 0, none⟩) m m, .slice a m cap]).run Ybad.prog (w.alloc (.cells (madeCells #[.int .u64 0] m) 49)) = .ok (goInt m) (w.alloc (.cells (wcells xs m).toArray 49)) := by
  rcases h with rfl | ⟨b, off, rfl, hc⟩
  · rw [run_copy_none (P := Ybad.prog) _ 22 22 ty 49 _ _ _ _ _ _ Ybad.underlying22 size49 (by simp)]
    have e : madeCells #[Value.int IntKind.u64 0] 0 = (wcells xs 0).toArray := by simp [madeCells, wcells]
    rw [e]
    rfl
  · have hb : ∀ j, j < m → b < w.heap.size := fun j hj => World.block_lt_of_cell? _ _ (hc j hj)
    have := run_copy_row Ybad.prog (w.alloc (.cells (madeCells #[.int .u64 0] m) 49)) 22 22 ty 49 w.heap.size 0 m m ⟨b, off, none⟩ m cap (madeCells #[.int .u64 0] m) 49 (wcells xs m) Ybad.underlying22 size49 (World.alloc_heap_new w _) (by simp [wcells_length])
      (fun j v hj => by
        have hjm : j < m := by
          have := (List.getElem?_eq_some_iff.1 hj).1
          rwa [wcells_length] at this
        rw [wcells_at xs m j hjm] at hj
        cases hj
        rw [Go.WideShapes.add_plain, World.cell?_alloc_lt _ _ _ (hb j hjm)]
        exact hc j hjm)
      (by simp [wcells_length, size_madeCells])
      (fun v hv => by
        obtain ⟨j, _, rfl⟩ := List.mem_map.1 hv
        rfl)
    rw [this, World.setRow_alloc_new, wcells_length]
    congr 3
    simp [size_madeCells]

/-- The first m cells of a slice of int32 that came in. -/
def IntAt (w : World) (a : Option Addr) (m : Nat) (vs : Nat → Int) : Prop :=
  m = 0 ∨ ∃ b off, a = some ⟨b, off, none⟩ ∧ ∀ j, j < m → w.cell? ⟨b, off + j, none⟩ = some (.int .i32 (vs j))

theorem pcs_any (c : Option Addr) (vm vcap n : Nat) (N : Int) (hN : N = (n : Int)) (hn : n ≤ 1000000) (hv : vm ≤ 1024) (vs : Nat → Int) (w : World) (hc : IntAt w c vm vs) :
    Calls Ybad.prog 5 #[.int .i64 N, .slice c vm vcap] w fun e w' => e = .returned (.slice (some ⟨w.heap.size, 0, none⟩) n n) ∧ ∃ cur : Array Value, cur.size = n ∧ AllI cur ∧ w' = w.alloc (.cells cur 21) := by
  subst hN
  rcases hc with rfl | ⟨b, off, rfl, hc⟩
  · exact pcs_nil c vcap n hn w
  · by_cases h0 : vm = 0
    · subst h0; exact pcs_nil _ vcap n hn w
    · exact pcs_some b off vm vcap n hn (by omega) hv vs w hc

theorem model_any (a : Option Addr) (m cap g n : Nat) (hm : m ≤ 256) (xs : Nat → Nat) (ps : Nat → Int) (w : World) (hxs : ∀ j, j < m → xs j < 18446744073709551616) (ha : WordAt w a m xs)
    (hn : 64 * m ≤ n) (hn2 : n ≤ 16384) (hp : ∀ j, j < n → w.cell? ⟨g, j, none⟩ = some (.int .i32 (ps j))) :
    Calls Ybad.prog 8 #[.slice a m cap, .slice (some ⟨g, 0, none⟩) n n] w fun e w' => ∃ v, e = .returned v ∧ w'.ownsRow w.heap.size 21 1 v (Bt.idxs xs m).length (vals ps (Bt.idxs xs m)) ∧ Below w.heap.size w w' := by
  rcases ha with rfl | ⟨b, off, rfl, hc⟩
  · refine (model_nil a _ cap n n w).mono ?_
    rintro e w' ⟨rfl, rfl⟩
    exact ⟨_, rfl, World.ownsRow_nil _ _ _ _, Below.refl _ _⟩
  · exact model_some b off m cap g n hm xs ps w hxs hc hn hn2 hp

theorem row_of_own {w : World} {base n : Nat} {v : Value} {zs : List Int} (hn : n = zs.length) (h : w.ownsRow base 21 1 v n (zs.map fun z => Value.int .i32 z)) : Row .i32 w v zs := by
  subst hn
  rcases h.2 with ⟨rfl, h0⟩ | ⟨g, cap, cur, rfl, _, hg, _, _, hsz, ht⟩
  · have : zs = [] := List.eq_nil_of_length_eq_zero h0
    subst this
    exact ⟨none, 0, rfl, .inl rfl⟩
  · refine ⟨_, cap, rfl, .inr ⟨g, 0, rfl, fun j hj => ?_⟩⟩
    have hj2 : (cur.toList.take (zs.length * 1))[j]? = some (.int .i32 (zs[j]?.getD 0)) := by rw [ht]; simp [hj]
    rw [List.getElem?_take] at hj2
    split at hj2
    · simp only [World.cell?, hg, Nat.zero_add]
      simpa using hj2
    · cases hj2

theorem vals_eq (ps : Nat → Int) (l : List Nat) : vals ps l = (l.map ps).map fun z => Value.int .i32 z := by simp [vals]

theorem row_word {w : World} {a : Option Addr} {m cap : Nat} {xs : Nat → Nat} (h : WordAt w a m xs) : Row .u64 w (.slice a m cap) ((List.range m).map fun j => (xs j : Int)) := by
  refine ⟨a, cap, by simp, ?_⟩
  rcases h with rfl | ⟨b, off, rfl, hc⟩
  · exact .inl rfl
  · refine .inr ⟨b, off, rfl, fun j hj => ?_⟩
    have hj' : j < m := by simpa using hj
    rw [hc j hj']
    simp [hj']

theorem Row.kept {k : IntKind} {A B : World} {v : Value} {zs : List Int} (h : Row k A v zs) (hk : ∀ p u, A.cell? p = some u → B.cell? p = some u) : Row k B v zs := by
  obtain ⟨a, cap, rfl, h⟩ := h
  rcases h with h | ⟨b, off, e, hc⟩
  · exact ⟨a, cap, rfl, .inl h⟩
  · exact ⟨a, cap, rfl, .inr ⟨b, off, e, fun j hj => hk _ _ (hc j hj)⟩⟩
theorem WordAt.kept {A B : World} {a : Option Addr} {m : Nat} {xs : Nat → Nat} (h : WordAt A a m xs) (hk : ∀ p u, A.cell? p = some u → B.cell? p = some u) : WordAt B a m xs := by
  rcases h with h | ⟨b, off, e, hc⟩
  · exact .inl h
  · exact .inr ⟨b, off, e, fun j hj => hk _ _ (hc j hj)⟩
theorem IntAt.kept {A B : World} {a : Option Addr} {m : Nat} {xs : Nat → Int} (h : IntAt A a m xs) (hk : ∀ p u, A.cell? p = some u → B.cell? p = some u) : IntAt B a m xs := by
  rcases h with h | ⟨b, off, e, hc⟩
  · exact .inl h
  · exact .inr ⟨b, off, e, fun j hj => hk _ _ (hc j hj)⟩
/-- Whatever is read below the heap's size is read on. -/
theorem below_keeps {A B : World} (h : Below A.heap.size A B) : ∀ p u, A.cell? p = some u → B.cell? p = some u :=
  fun _ _ hp => (h.cell (World.block_lt_of_cell? _ _ hp)).trans hp
theorem drewN_keeps (A : World) (n : Nat) : ∀ p u, A.cell? p = some u → (A.drewN n).cell? p = some u := fun _ _ h => h

/-- The world ahead of the loop over the sequence. -/
def start (w : World) (m : Nat) (xs : Nat → Nat) (cur C : Array Value) : World :=
  (((((w.alloc (.cells (wcells xs m).toArray 49)).alloc (.cells cur 21)).alloc (.cells C 42)).alloc (.cells #[.slice none 0 0] 23)).alloc (.cells #[.pointer (some ⟨w.heap.size + 1 + 1, 0, none⟩)] 25)).alloc (.cells #[.slice (some ⟨w.heap.size, 0, none⟩) m m] 22)

theorem start_size (w : World) (m : Nat) (xs : Nat → Nat) (cur C : Array Value) : (start w m xs cur C).heap.size = w.heap.size + 6 := by simp [start]
theorem start_below (w : World) (m : Nat) (xs : Nat → Nat) (cur C : Array Value) : Below w.heap.size w (start w m xs cur C) :=
  ((((((Below.refl _ w).alloc (Nat.le_refl _) _).alloc (by simp) _).alloc (by simp; omega) _).alloc (by simp; omega) _).alloc (by simp; omega) _).alloc (by simp; omega) _

/-- What is read off a block that was laid, behind blocks laid later. -/
theorem heap_push (w : World) (o : Obj) (k : Nat) (h : k < w.heap.size) {x : Obj} (hx : w.heap[k]? = some x) : (w.alloc o).heap[k]? = some x := by
  rw [Below.heap_alloc _ _ _ h]; exact hx

theorem start_0 (w : World) (m : Nat) (xs : Nat → Nat) (cur C : Array Value) : (start w m xs cur C).heap[w.heap.size]? = some (.cells (wcells xs m).toArray 49) := by
  unfold start
  refine heap_push _ _ _ (by simp <;> omega) (heap_push _ _ _ (by simp <;> omega) (heap_push _ _ _ (by simp <;> omega) (heap_push _ _ _ (by simp <;> omega) (heap_push _ _ _ (by simp <;> omega) (World.alloc_heap_new _ _)))))
theorem start_1 (w : World) (m : Nat) (xs : Nat → Nat) (cur C : Array Value) : (start w m xs cur C).heap[w.heap.size + 1]? = some (.cells cur 21) := by
  unfold start
  refine heap_push _ _ _ (by simp <;> omega) (heap_push _ _ _ (by simp <;> omega) (heap_push _ _ _ (by simp <;> omega) (heap_push _ _ _ (by simp <;> omega) ?_)))
  have := World.alloc_heap_new (w.alloc (.cells (wcells xs m).toArray 49)) (.cells cur 21)
  simpa using this
theorem start_2 (w : World) (m : Nat) (xs : Nat → Nat) (cur C : Array Value) : (start w m xs cur C).heap[w.heap.size + 2]? = some (.cells C 42) := by
  unfold start
  refine heap_push _ _ _ (by simp <;> omega) (heap_push _ _ _ (by simp <;> omega) (heap_push _ _ _ (by simp <;> omega) ?_))
  have := World.alloc_heap_new ((w.alloc (.cells (wcells xs m).toArray 49)).alloc (.cells cur 21)) (.cells C 42)
  simpa using this
theorem start_3 (w : World) (m : Nat) (xs : Nat → Nat) (cur C : Array Value) : (start w m xs cur C).heap[w.heap.size + 3]? = some (.cells #[.slice none 0 0] 23) := by
  unfold start
  refine heap_push _ _ _ (by simp <;> omega) (heap_push _ _ _ (by simp <;> omega) ?_)
  have := World.alloc_heap_new (((w.alloc (.cells (wcells xs m).toArray 49)).alloc (.cells cur 21)).alloc (.cells C 42)) (.cells #[.slice none 0 0] 23)
  simpa using this
theorem start_4 (w : World) (m : Nat) (xs : Nat → Nat) (cur C : Array Value) : (start w m xs cur C).heap[w.heap.size + 4]? = some (.cells #[.pointer (some ⟨w.heap.size + 1 + 1, 0, none⟩)] 25) := by
  unfold start
  refine heap_push _ _ _ (by simp <;> omega) ?_
  have := World.alloc_heap_new ((((w.alloc (.cells (wcells xs m).toArray 49)).alloc (.cells cur 21)).alloc (.cells C 42)).alloc (.cells #[.slice none 0 0] 23)) (.cells #[.pointer (some ⟨w.heap.size + 1 + 1, 0, none⟩)] 25)
  simpa using this
theorem start_5 (w : World) (m : Nat) (xs : Nat → Nat) (cur C : Array Value) : (start w m xs cur C).heap[w.heap.size + 5]? = some (.cells #[.slice (some ⟨w.heap.size, 0, none⟩) m m] 22) := by
  unfold start
  have := World.alloc_heap_new (((((w.alloc (.cells (wcells xs m).toArray 49)).alloc (.cells cur 21)).alloc (.cells C 42)).alloc (.cells #[.slice none 0 0] 23)).alloc (.cells #[.pointer (some ⟨w.heap.size + 1 + 1, 0, none⟩)] 25)) (.cells #[.slice (some ⟨w.heap.size, 0, none⟩) m m] 22)
  simpa using this

/-- The numbers of the table of instructions. -/
def psOf (cur : Array Value) (j : Nat) : Int := intOf (cur[j]?.getD undef)
theorem AllI.at {cur : Array Value} (h : AllI cur) {j : Nat} (hj : j < cur.size) : cur[j]? = some (.int .i32 (psOf cur j)) := by
  obtain ⟨z, hz⟩ := h j hj
  rw [hz, psOf, hz]
  rfl

theorem start_it (w : World) (m : Nat) (xs : Nat → Nat) (cur C : Array Value) (hcs : cur.size = 64 * m) (hall : AllI cur) (hC : C[4]? = some (.slice (some ⟨w.heap.size + 1, 0, none⟩) (64 * m) (64 * m))) (hT : TabAt w) :
    ItAt (start w m xs cur C) (w.heap.size + 5) (w.heap.size + 4) w.heap.size (w.heap.size + 2) (w.heap.size + 1) m (64 * m) xs (psOf cur) where
  bs := by simp [World.cell?, start_5]
  bl := by simp [World.cell?, start_4]
  fl := by simp [World.cell?, start_2, hC]
  ws := fun j hj => by
    simp only [World.cell?, start_0]
    simpa using wcells_at xs m j hj
  pc := fun j hj => by
    simp only [World.cell?, start_1]
    simpa using hall.at (by omega)
  tab := fun i hi => below_keeps (start_below w m xs cur C) _ _ (hT i hi)

/-- Behind 'got = append(got, v)' and its store into the box. -/
theorem collect {W w1 : World} {H b M k m : Nat} {v v' : Value} {xs ys : List Value} {tmp : Obj} (hv : Boxed W b 23 v) (hrow : W.ownsRow M 21 1 v k xs) (hb : b < M) (hHb : H ≤ b) (hM : M ≤ W.heap.size)
    (hown' : w1.ownsRow M 21 1 v' m ys) (hgrow : (W.alloc tmp).grownBy w1 v.ownBlock) :
    Boxed w1 b 23 v ∧ Boxed (w1.setCell ⟨b, 0, none⟩ v') b 23 v' ∧ (w1.setCell ⟨b, 0, none⟩ v').ownsRow M 21 1 v' m ys ∧ KeepsOthers W (w1.setCell ⟨b, 0, none⟩ v') ∧ Below H W (w1.setCell ⟨b, 0, none⟩ v') ∧ KpB b M W (w1.setCell ⟨b, 0, none⟩ v') := by
  have lower : ∀ {X : World} {u : Value} {n : Nat} {zs : List Value}, X.ownsRow M 21 1 u n zs → X.ownsRow H 21 1 u n zs := by
    rintro X u n zs ⟨h1, h2⟩
    rcases h2 with h2 | ⟨g, cap, cur, e, hg, r⟩
    · exact ⟨h1, .inl h2⟩
    · exact ⟨h1, .inr ⟨g, cap, cur, e, by omega, r⟩⟩
  obtain ⟨r1, r2, _, r4, r5⟩ := hv.appended (n₀ := H) (by decide) (lower hrow) (by omega) hHb (lower hown') hgrow
  refine ⟨r1, r2, hown'.kept (grownBy_setCell' w1 b v') (.inr (r1.not_row (by decide) hown').symm), r4, r5, fun i hi hne => ?_⟩
  rw [Below.heap_setCell _ _ _ _ hne, hgrow.block i (by simp; omega) (fun e => by have := own_ge hrow i e.symm; omega), Below.heap_alloc _ _ _ (by omega)]

/-- A region that is shown not to panic, in a function that defers. -/
theorem wpIn_then_false {F : Fence} {n : Nat} {P : Program} {c : Code} {K : Act → World → Prop} {Q : Exit → Act → World → Prop} {a : Act} {w : World} (h : c.wpIn F n P (Exit.then K (fun _ _ _ => False)) a w) : c.wpIn F n P (Exit.then K Q) a w :=
  Code.wpIn_mono (fun e _ _ hq => by cases e <;> first | exact hq | exact hq.elim) h

theorem kp_own {β : Type} (b M : Nat) (W0 : World) {B : Nat} (hB : M ≤ B) : OwnFrom B (fun (_ : β) X => M ≤ X.heap.size ∧ KpB b M W0 X) := by
  rintro s A B' row ⟨h1, h2⟩ hg hr
  refine ⟨Nat.le_trans h1 hg.size, fun k hk hne => ?_⟩
  rw [hg.block k (by omega) (fun e => by have := (hr k e.symm).1; omega)]
  exact h2 k hk hne

theorem heap_putObj (X : World) (l : Nat) (o' : Obj) (k : Nat) (h : k ≠ l) : (X.putObj l o').heap[k]? = X.heap[k]? := by
  by_cases hk : k < X.heap.size
  · exact (grownBy_putObj' X l o').block k hk (fun e => h (by cases e; rfl))
  · have h1 : X.heap.size ≤ k := by omega
    have h2 : (X.putObj l o').heap.size = X.heap.size := by simp [World.putObj]
    rw [Array.getElem?_eq_none h1, Array.getElem?_eq_none (by omega)]
end Go.Proofs.YbulkblukDoor
