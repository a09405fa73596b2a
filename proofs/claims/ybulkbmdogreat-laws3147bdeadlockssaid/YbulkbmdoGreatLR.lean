/-
  The graph as the law has built it is the graph that the reduction asks for.
-/
import Derived.Test.YbulkbmdoGreatLQ
namespace Go.Proofs.YbulkbmdoGreat
open Go.RowKit
set_option linter.unusedVariables false

theorem flat3 (f g h : Nat → Value) : ∀ (l : List Nat) (i : Nat) (hi : i < l.length), (l.flatMap fun x => [f x, g x, h x])[i * 3]? = some (f l[i]) ∧ (l.flatMap fun x => [f x, g x, h x])[i * 3 + 1]? = some (g l[i]) ∧ (l.flatMap fun x => [f x, g x, h x])[i * 3 + 2]? = some (h l[i])
  | [], _, hi => absurd hi (by simp)
  | x :: l, 0, _ => by simp
  | x :: l, i + 1, hi => by
    have ih := flat3 f g h l i (by simpa using hi)
    rw [show (i + 1) * 3 = i * 3 + 3 by omega]
    simpa [List.flatMap_cons] using ih

theorem sk_shape {o : Nat → Nat} {W : World} {t : Nat} {e : TypeId} {v : Value} {n : Nat} {xs : List Value} (h : SK o W t e v n xs) : ∃ (a : Option Addr) (cap b : Nat), v = .slice a n cap ∧ n ≤ cap ∧ cap ≤ 9223372036854775807 ∧ (0 < n → a = some ⟨b, 0, none⟩ ∧ o b = t) ∧ ∀ j, j < n * 3 → W.cell? ⟨b, j, none⟩ = xs[j]? := by
  rcases h.row.2 with ⟨rfl, h0⟩ | ⟨g, cap, cur, rfl, _, hg, h1, h2, _⟩
  · subst h0
    exact ⟨none, 0, 0, rfl, Nat.le_refl _, by decide, fun h => absurd h (by simp), fun j hj => absurd hj (by simp)⟩
  · refine ⟨_, cap, g, rfl, h1, ?_, fun _ => ⟨rfl, h.tag g rfl⟩, fun j hj => h.cell j hj⟩
    have : maxLen = 9223372036854775807 := by unfold maxLen; rfl
    omega

theorem gat_of {o : Nat → Nat} {W : World} {n G mb xb sd : Nat} {cd : Nat → Nat} {pv nv : Value} (h : LG o W n G mb xb cd (fun i => idb (jof sd i)) n pv nv) :
    ∃ g : GS, g.n = n ∧ g.M = ct cd n n ∧ g.G = G ∧ g.mb = mb ∧ g.pid = (fun i => idb (jof sd i)) ∧ g.root = rtf cd n ∧ g.fin = fnf cd n ∧ g.tid = (fun i => tdf cd (fun i => idb (jof sd i)) n (wpF cd n i)) ∧ g.wp = wpF cd n ∧ g.M ≤ g.ncap ∧ g.ncap ≤ 9223372036854775807 ∧ GAt o W g := by
  obtain ⟨pa, pcap, pb, e1, p1, p2, p3, p4⟩ := sk_shape h.ps
  obtain ⟨na, ncap, nb, e2, n1, n2, n3, n4⟩ := sk_shape h.ns
  subst e1 e2
  refine ⟨⟨n, ct cd n n, G, pb, nb, mb, pa, na, pcap, ncap, fun i => idb (jof sd i), rtf cd n, fnf cd n, fun i => tdf cd (fun i => idb (jof sd i)) n (wpF cd n i), wpF cd n⟩, rfl, rfl, rfl, rfl, rfl, rfl, rfl, rfl, rfl, n1, n2, ⟨h.gr, p3, n3, fun i hi => ?_, fun i hi => ?_⟩⟩
  · have hl : i < (List.range n).length := by simpa using hi
    obtain ⟨a, b, c⟩ := flat3 (fun i => .string (idb (jof sd i))) (fun i => .int .i64 (rtf cd n i)) (fun i => .int .i64 (fnf cd n i)) (List.range n) i hl
    have hi' : i < n := hi
    have ei : (List.range n)[i] = i := by simp
    rw [ei] at a b c
    exact ⟨(p4 _ (by omega)).trans a, (p4 _ (by omega)).trans b, (p4 _ (by omega)).trans c⟩
  · have hi' : i < ct cd n n := hi
    obtain ⟨hl, ew⟩ := wpF_get hi'
    obtain ⟨a, b, c⟩ := flat3 (fun i => .string (tdf cd (fun i => idb (jof sd i)) n i)) (fun i => .int .i64 0) (fun i => .int .i64 (-1 - (i : Int))) (wpl cd n) i hl
    rw [← ew] at a c
    exact ⟨(n4 _ (by omega)).trans a, (n4 _ (by omega)).trans b, (n4 _ (by omega)).trans c⟩
end Go.Proofs.YbulkbmdoGreat
