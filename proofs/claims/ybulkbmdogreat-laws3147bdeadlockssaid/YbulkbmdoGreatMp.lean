/-
  The graph's index, a map from ids to processes, as a function.
-/
import Derived.Test.YbulkbmdoGreatBase
import Derived.Test.YbulkbmdoGreatGrant
import Derived.Maps.OwnSet
import Derived.StringKeys
namespace Go.Proofs.YbulkbmdoGreat
open Go.RowKit Go.Maps
set_option linter.unusedVariables false

theorem key32 {s : ByteArray} (hs : s.size ≤ maxLen) : keyOf Ybaz.prog 32 (.string s) = some (.string s.data.toList) := WideMaps.keyOf_string_mk Ybaz.underlying32 hs
theorem wf_i64 (i : Nat) (h : i ≤ 100000) : (Lit.int .i64 (i : Int)).wf = true := by
  have h1 : IntKind.i64.min = -9223372036854775808 := by decide
  have h2 : IntKind.i64.max = 9223372036854775807 := by decide
  simp [Lit.wf, h1, h2]; omega

/-- The map at block mb answers as f; it has n keys at most. -/
def MP (W : World) (mb n : Nat) (f : ByteArray → Option Nat) : Prop :=
  ∃ (D : DataW Unit), W.ownsMap Ybaz.prog 32 (plainElem Ybaz.prog 3) mb n D ∧ Maps.IsMap D ∧ ∀ s : ByteArray, s.size ≤ maxLen → Maps.has D (.string s.data.toList) = (f s).isSome ∧ ∀ i, f s = some i → i ≤ 100000 ∧ ∀ z, D.atKey (.string s.data.toList) z = .lit (.int .i64 (i : Int))

theorem MP.made (W : World) : MP (W.alloc (.map #[] 0)) W.heap.size 0 (fun _ => none) :=
  ⟨.map [], World.ownsMap_made W _ _ _, ⟨_, rfl⟩, fun s _ => ⟨rfl, fun i h => by cases h⟩⟩
theorem MP.lt {W : World} {mb n : Nat} {f : ByteArray → Option Nat} (h : MP W mb n f) : mb < W.heap.size := by obtain ⟨D, h1, _⟩ := h; exact h1.lt
theorem MP.kept {W W' : World} {mb n : Nat} {f : ByteArray → Option Nat} (h : MP W mb n f) (e : W'.heap[mb]? = W.heap[mb]?) : MP W' mb n f := by
  obtain ⟨D, ⟨es, cl, h1, h2⟩, h3⟩ := h
  exact ⟨D, ⟨es, cl, e.trans h1, h2⟩, h3⟩
theorem MP.step {o o' : Nat → Nat} {W W' : World} {T : List Nat} {mb n : Nat} {f : ByteArray → Option Nat} (h : MP W mb n f) (hs : Step T o W o' W') (ht : o mb ∉ T) : MP W' mb n f := h.kept (hs.block _ h.lt ht)
theorem MP.look {W : World} {mb n : Nat} {f : ByteArray → Option Nat} (h : MP W mb n f) (s : ByteArray) (hs : s.size ≤ maxLen) :
    (Instr.lookup 27 (.map (some mb)) (.string s) true).run Ybaz.prog W = .ok (.tuple #[.int .i64 (((f s).getD 0 : Nat) : Int), .bool (f s).isSome]) W := by
  obtain ⟨D, h1, h2, h3⟩ := h
  obtain ⟨a, b⟩ := h3 s hs
  obtain ⟨v, ps, hr, hv⟩ := h1.look_ok (string_keyed Ybaz.underlying32) Ybaz.underlying27 (zd := .lit (.int .i64 0)) (zp := []) (Ybaz.zeroValue3 W) (plainElem_int Ybaz.underlying3 (by decide)) (key32 hs)
  rw [hr, a]
  obtain ⟨c, rfl, hc, hw⟩ := plainElem_int_inv Ybaz.underlying3 hv
  simp only [Prod.mk.injEq] at hc
  cases hf : f s with
  | none =>
    rw [hf] at a
    rw [Maps.atKey_of_not_has a] at hc
    have : (0 : Int) = c := by simpa using hc.1
    subst this; rfl
  | some i =>
    rw [(b i hf).2] at hc
    have : (i : Int) = c := by simpa using hc.1
    subst this; rfl
theorem MP.put {W : World} {mb n : Nat} {f : ByteArray → Option Nat} (h : MP W mb n f) (hn : n ≤ 1000) (s : ByteArray) (hs : s.size ≤ maxLen) (i : Nat) (hi : i ≤ 100000) :
    ∃ w', (Instr.mapUpdate 27 (.map (some mb)) (.string s) (.int .i64 (i : Int))).run Ybaz.prog W = .ok () w' ∧ MP w' mb (n + 1) (fun t => if t = s then some i else f t) ∧ W.grownBy w' (some mb) := by
  obtain ⟨D, h1, h2, h3⟩ := h
  obtain ⟨w', hr, ho, hg⟩ := h1.update (string_keyed Ybaz.underlying32) Ybaz.underlying27 (by unfold maxLen; omega) (key32 hs) (plainElem_int (H := Unit) (e := 3) (q := .i64) (a := (i : Int)) Ybaz.underlying3 (wf_i64 i hi))
  have hk : WideAt.IsKeyLit (.string s.data.toList) := by trivial
  refine ⟨w', hr, ⟨_, ho, ?_, fun t ht => ?_⟩, hg⟩
  · obtain ⟨es, rfl⟩ := h2; exact ⟨_, rfl⟩
  · by_cases e : t = s
    · subst e
      simp only [if_true]
      exact ⟨by rw [Maps.has_put_same h2 hk]; rfl, fun j hj => by cases hj; exact ⟨hi, fun z => Maps.atKey_put_same h2 hk _ z⟩⟩
    · have hne : Lit.string t.data.toList ≠ Lit.string s.data.toList := by
        intro h
        have : t.data.toList = s.data.toList := by simpa using h
        apply e
        exact ByteArray.ext (Array.toList_inj.1 this)
      simp only [if_neg e]
      rw [Maps.has_put_other hne]
      exact ⟨(h3 t ht).1, fun j hj => ⟨((h3 t ht).2 j hj).1, fun z => by rw [Maps.atKey_put_other hne]; exact ((h3 t ht).2 j hj).2 z⟩⟩
end Go.Proofs.YbulkbmdoGreat
