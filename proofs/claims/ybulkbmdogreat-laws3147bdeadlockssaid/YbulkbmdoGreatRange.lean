/-
  A range over a function whose pairs are known beforehand (the list L): the body is asked only where what has come, with the next one, is a beginning of L. The body always goes on.
-/
import Derived.RangeFuncWrites
import Derived.RangeFuncBox
import Derived.RangeFuncLeaves
namespace Go.Proofs.YbulkbmdoGreat
open Go.RowKit

/-- The iterator (function g, captured lb) hands out L, in whatever later world. -/
def SeqL {α : Type} (n : Nat) (P : Program) (g : Nat) (lb : Array Value) (encs : α → Array Value) (Kp : World → World → Prop) (L : List α) (w : World) : Prop :=
  ∀ (l : Nat) (J : List α → World → Prop) (W : World), Below w.heap.size w W → AbidesFrom W.heap.size J →
    (∀ pre x W1, J pre W1 → pre ++ [x] <+: L → YieldAt Fence.wide (n - 1) P l (encs x) W1 fun e W' => e = .returned (.bool true) ∧ J (pre ++ [x]) W' ∧ Kp W1 W') →
    J [] W →
    CallsIn Fence.wide n P g (#[.func (.yield l) #[] #[]] ++ lb) W fun e W' => (∃ v, e = .returned v) ∧ J L W'

theorem range_all {α : Type} {n : Nat} {P : Program} {g : Operand} {ps : Array Tmp} {assign body : Code} {Q : Exit → Act → World → Prop} {a : Act} {w : World}
    {gf : Nat} {lb : Array Value} (hg : a.eval g = .func (.func gf) #[] lb) (eg : ∀ args w, (callFunc gf args).run P w = .ok (.enter gf args) w)
    {encs : α → Array Value} {Kp : World → World → Prop} {L : List α} {w0 : World} (hseq : SeqL (n - 1) P gf lb encs Kp L w0)
    (hKt : ∀ {A B C : World}, Kp A B → Kp B C → Kp A C) (hKb : ∀ (W : World) (l : Nat) (o o' : Obj), w.heap.size ≤ l → W.heap[l]? = some o → o.isCells = false → o.isWalk = false → Kp W (W.putObj l o'))
    (hb0 : Below w0.heap.size w0 w) (hps : ∀ x, (encs x).size = ps.size)
    (I : List α → World → Prop) (hI : OwnFrom w.heap.size I) (h0 : I [] w) (a₁ : α → Act)
    (hassign : ∀ (l : Nat) (x : α) (W : World) (K : Act → World → Prop), K (a₁ x) W →
      assign.wpIn (Fence.wide.inRound l) (n - 1 - 1) P (Exit.then K (fun _ _ _ => False)) { tmps := (ps.zip (encs x)).foldl (fun t (p, v) => t.setIfInBounds p v) a.tmps, defers := [] } W)
    (hbody : ∀ (l : Nat) (pre : List α) (x : α) (W : World), I pre W → pre ++ [x] <+: L →
      body.wpIn (Fence.wide.inRound l) (n - 1 - 1) P (fun e _ W' => e = .normal ∧ KeepsFrom w.heap.size W W' ∧ Kp W W' ∧ I (pre ++ [x]) W') (a₁ x) W)
    (hdone : ∀ (D : Nat) (W : World), w.heap.size ≤ D → I L W → W.heap[D]? = some (.deferred (some [])) → Q .normal { a with defers := { target := .collected D, args := #[] } :: a.defers } W) :
    (Code.rangeFunc g ps assign body).wpIn Fence.wide n P Q a w := by
  refine wpIn_rangeFunc fun fn hfn => ?_
  let rec0 : Loop := { state := .ready, pending := none, fn, tmps := a.tmps, params := ps, assign, body, defers := w.heap.size }
  have hps0 : rec0.params = ps := rfl
  have hst0 : rec0.state = .ready := rfl
  have hpe0 : rec0.pending = none := rfl
  have hyld : ∀ {W1 : World} {x : α}, W1.heap[w.heap.size + 1]? = some (.loop rec0) → (Instr.yield (w.heap.size + 1) (encs x)).run P W1 = .ok (.round (w.heap.size + 1) fn ((ps.zip (encs x)).foldl (fun t (p, v) => t.setIfInBounds p v) a.tmps) assign body) W1 := fun h => run_yield h (hps _)
  obtain ⟨V, hV⟩ : ∃ V, (w.alloc (.deferred (some []))).alloc (.loop rec0) = V := ⟨_, rfl⟩
  have hloop : V.heap[w.heap.size + 1]? = some (.loop rec0) := by
    rw [← hV]; have := World.alloc_heap_new (w.alloc (.deferred (some []))) (.loop rec0); rwa [World.size_alloc] at this
  have hdef : V.heap[w.heap.size]? = some (.deferred (some [])) := by
    rw [← hV, Below.heap_alloc _ _ _ (by simp)]; exact World.alloc_heap_new w _
  have hsz : V.heap.size = w.heap.size + 2 := by rw [← hV]; simp
  have hIV : I [] V := by rw [← hV]; exact hI.alloc _ (hI.alloc _ h0)
  have hbV : Below w0.heap.size w0 V := by
    rw [← hV]; exact hb0.trans ((((Below.refl _ w).alloc (Nat.le_refl _) _).alloc (by simp) _).mono hb0.size)
  have hent : (Instr.enterLoop fn a.tmps ps assign body Fence.wide.round).run P w = .ok (w.heap.size + 1, [{ target := .collected w.heap.size, args := #[] }]) V := by
    rw [← hV]; exact run_enterLoop_outer _ _ _ _ _
  clear hV
  refine ⟨_, _, V, { target := .fn (.func gf) lb, args := #[.func (.yield (w.heap.size + 1)) #[] #[]] }, V, gf, #[.func (.yield (w.heap.size + 1)) #[] #[]] ++ lb, V, hent, ?_, fun _ _ => trivial, ?_, fun h => (by cases h), ?_⟩
  · simp only [resolve, hg]; simp [go_sem]
  · simp [invoke, go_sem, eg]
  clear_value rec0
  refine (hseq (w.heap.size + 1) (fun pre W => I pre W ∧ W.heap[w.heap.size + 1]? = some (.loop rec0) ∧ W.heap[w.heap.size]? = some (.deferred (some []))) V hbV ?_ ?_ ⟨hIV, hloop, hdef⟩).mono ?_
  · rintro s A B row ⟨hs, hl, hd⟩ hgr hr
    refine ⟨hI s A B row hs hgr fun r e => ?_, (grownBy_keeps hgr (fun r e => (hr r e).2) hl rfl).trans hl, (grownBy_keeps hgr (fun r e => (hr r e).2) hd rfl).trans hd⟩
    obtain ⟨h1, o, h2, h3⟩ := hr r e
    exact ⟨by omega, o, h2, Obj.not_cells_of_walk h3⟩
  · rintro pre x W1 ⟨hi, hl, hd⟩ hpre
    have hlt := (Array.getElem?_eq_some_iff.1 hl).1
    refine ⟨fn, _, assign, body, hyld hl, roundIn_of_wpIn hfn (hassign _ x W1 _ ⟨_, run_beginRound hl hst0, ?_⟩)⟩
    obtain ⟨W2, hW2⟩ : ∃ W2, W1.putObj (w.heap.size + 1) (.loop { rec0 with state := .busy }) = W2 := ⟨_, rfl⟩
    have hl2 : W2.heap[w.heap.size + 1]? = some (.loop { rec0 with state := .busy }) := by rw [← hW2]; exact World.putObj_heap_same hlt
    have hd2 : W2.heap[w.heap.size]? = some (.deferred (some [])) := by rw [← hW2]; exact (World.putObj_heap_other (by omega)).trans hd
    have hi2 : I pre W2 := by rw [← hW2]; exact hI.putObj _ hi (by omega) hl rfl
    have hk2 : Kp W1 W2 := by rw [← hW2]; exact hKb _ _ _ _ (by omega) hl rfl rfl
    rw [hW2]
    refine wpIn_mono (hbody _ pre x W2 hi2 hpre) ?_
    rintro e a3 W3 ⟨rfl, hk3, hp3, hi3⟩
    have hl3 := hk3.same _ _ (by omega) hl2 rfl
    have hd3 := hk3.same _ _ (Nat.le_refl _) hd2 rfl
    have hrr : ({ rec0 with state := LoopState.ready, pending := none } : Loop) = rec0 := by
      rw [← hst0, ← hpe0]
    have he3 := run_endRound (P := P) none hl3
    have hlt3 := (Array.getElem?_eq_some_iff.1 hl3).1
    simp only [Option.isNone_none, if_true] at he3
    rw [hrr] at he3
    refine ⟨_, _, he3, rfl, ⟨hI.putObj _ hi3 (by omega) hl3 rfl, World.putObj_heap_same hlt3, (World.putObj_heap_other (by omega)).trans hd3⟩, hKt (hKt hk2 hp3) (hKb _ _ _ _ (by omega) hl3 rfl rfl)⟩
  · rintro e W2 ⟨⟨v, rfl⟩, hi, hl, hd⟩
    have he := run_endLoop (P := P) hl (by rw [hst0]; decide)
    rw [hpe0] at he
    exact ⟨none, _, he, hdone _ _ (Nat.le_refl _) (hI.putObj _ hi (by omega) hl rfl) ((World.putObj_heap_other (by omega)).trans hd)⟩
end Go.Proofs.YbulkbmdoGreat
