import Derived.Test.YbulkbmdoGreatSlotOff
import Derived.Test.YbulkbmdoGreatOrb
namespace Go.Proofs.YbulkbmdoGreat
open Go.RowKit Go.Shelf
set_option linter.unusedVariables false

/-- On a cycle no two wait on the same. -/
theorem Cyc.inj {g : GS} {tgt : Nat → Option Nat} {cs : List Nat} {idx lf nx : Nat → Nat} (h : Cyc g tgt cs idx lf nx) {p q : Nat} (hp : p ∈ cs) (hq : q ∈ cs) (e : nx p = nx q) : p = q := by
  obtain ⟨k, hk, hk2⟩ := least (fun k => Nat.repeat nx k (nx p) = p) (h.con _ (h.hnx p hp) p hp)
  obtain ⟨m, hm, hm2⟩ := least (fun k => Nat.repeat nx k (nx p) = q) (h.con _ (h.hnx p hp) q hq)
  have pk : ∀ a, Nat.repeat nx (a + (k + 1)) (nx p) = Nat.repeat nx a (nx p) := fun a => by rw [rep_add, rep_out, hk]
  have pm : ∀ a, Nat.repeat nx (a + (m + 1)) (nx p) = Nat.repeat nx a (nx p) := fun a => by rw [rep_add, rep_out, hm, ← e]
  rcases Nat.lt_trichotomy k m with hl | hl | hl
  · have h1 := pk (m - (k + 1))
    rw [show m - (k + 1) + (k + 1) = m by omega, hm] at h1
    have := hm2 _ h1.symm
    omega
  · rw [← hk, ← hm, hl]
  · have h1 := pm (k - (m + 1))
    rw [show k - (m + 1) + (m + 1) = k by omega, hk] at h1
    have := hk2 _ h1.symm
    omega

/-- A slice of ints, whatever it holds: its room is at hand. -/
def Rm (o : Nat → Nat) (W : World) (t : Nat) (v : Value) : Prop := ∃ a n cap, v = .slice a n cap ∧ n ≤ cap ∧ Sl o W t 3 (.slice a 0 cap) []
theorem Rm.step {o o' : Nat → Nat} {W W' : World} {T : List Nat} {t : Nat} {v : Value} (h : Rm o W t v) (hs : Step T o W o' W') (hn : t ∉ T) : Rm o' W' t v := by
  obtain ⟨a, n, cap, e, h1, h2⟩ := h
  exact ⟨a, n, cap, e, h1, h2.step hs hn⟩
theorem Rm.of_sl {o : Nat → Nat} {W : World} {t : Nat} {v : Value} {xs : List Value} (h : Sl o W t 3 v xs) : Rm o W t v := by
  obtain ⟨a, cap, rfl, hc⟩ := h.val
  exact ⟨a, _, cap, rfl, hc, by simpa using h.cut 0 (Nat.zero_le _)⟩
theorem Rm.nil (o : Nat → Nat) (W : World) (t : Nat) : Rm o W t (.slice none 0 0) := ⟨none, 0, 0, rfl, Nat.le_refl _, Sl.nil _ _ _ _⟩

/-- What is known of the candidates. -/
structure Cx (g : GS) (tgt : Nat → Option Nat) (cs : List Nat) (idx lf nx : Nat → Nat) (sl : Nat → Int) : Prop where
  cyc : Cyc g tgt cs idx lf nx
  sl : ∀ p ∈ cs, sl p = (idx p : Int)
  n : g.n ≤ 300
  M : g.M ≤ 300
  wp : ∀ i, i < g.M → g.wp i < g.n
  ne : ∀ p ∈ cs, (g.tid (lf p)).toList ≠ []

/-- The search of a component: the reduction, the graph, the candidates, and all the room that the search keeps. -/
structure VG (o : Nat → Nat) (W : World) (R S : Nat) (s : RS) (pv uv : Value) (g : GS) (tgt : Nat → Option Nat) (v : VSt) (cs : List Nat) (idx lf nx : Nat → Nat) (sl : Nat → Int) (sb : Nat) : Prop where
  r : RAt o W R s pv uv
  ng : NG g tgt o W s
  sa : SAt o W S v g R cs sl sb
  lc : LcAt o W v cs idx lf nx
  cnt : Rm o W 33 v.count
  shr : Rm o W 34 v.shares
  q : ∃ n bl, QAt o W v.qb n bl
  co : Rm o W 40 v.coreOf
  cl : Rm o W 41 v.coreLast
  tw : Rm o W 42 v.topW
  sls : ∃ slb cap, v.slots = .slice (some ⟨slb, 0, none⟩) cs.length cap ∧ cs.length ≤ cap ∧ cap ≤ maxLen ∧ o slb = 31 ∧ ∀ j, j < cs.length → W.cell? ⟨slb, j, none⟩ = some (.int .i64 (j : Int))
  wts : ∃ wb cap, v.weight = .slice (some ⟨wb, 0, none⟩) cs.length cap ∧ o wb = 28 ∧ ∀ j, j < cs.length → W.cell? ⟨wb, j, none⟩ = some (.int .i64 1)

def VT : List Nat := [1, 2, 3, 4, 5, 7, 8, 10, 11, 12, 20, 26, 27, 28, 29, 30, 31, 33, 34, 36, 40, 41, 42]
section
variable {o o' : Nat → Nat} {W W' : World} {R S : Nat} {s : RS} {pv uv : Value} {g : GS} {tgt : Nat → Option Nat} {v : VSt} {cs : List Nat} {idx lf nx : Nat → Nat} {sl : Nat → Int} {sb : Nat} {T : List Nat}
theorem LcAt.step (h : LcAt o W v cs idx lf nx) (hs : Step T o W o' W') (h1 : 29 ∉ T) (h2 : 30 ∉ T) : LcAt o' W' v cs idx lf nx := by
  rcases h with h | ⟨fb, ib, h⟩
  · exact .inl h
  · exact .inr ⟨fb, ib, h.step hs h1 h2⟩
theorem sls_step (hs : Step T o W o' W') (hn : 31 ∉ T) (h : ∃ slb cap, v.slots = .slice (some ⟨slb, 0, none⟩) cs.length cap ∧ cs.length ≤ cap ∧ cap ≤ maxLen ∧ o slb = 31 ∧ ∀ j, j < cs.length → W.cell? ⟨slb, j, none⟩ = some (.int .i64 (j : Int))) (h0 : 0 < cs.length) :
    ∃ slb cap, v.slots = .slice (some ⟨slb, 0, none⟩) cs.length cap ∧ cs.length ≤ cap ∧ cap ≤ maxLen ∧ o' slb = 31 ∧ ∀ j, j < cs.length → W'.cell? ⟨slb, j, none⟩ = some (.int .i64 (j : Int)) := by
  obtain ⟨b, cap, e, h1, h2, h3, h4⟩ := h
  have hlt : b < W.heap.size := World.block_lt_of_cell? _ _ (h4 0 h0)
  exact ⟨b, cap, e, h1, h2, (hs.own _ hlt).trans h3, fun j hj => (hs.cell (p := ⟨b, j, none⟩) hlt (by rw [h3]; exact hn)).trans (h4 j hj)⟩
theorem wts_step (hs : Step T o W o' W') (hn : 28 ∉ T) (h : ∃ wb cap, v.weight = .slice (some ⟨wb, 0, none⟩) cs.length cap ∧ o wb = 28 ∧ ∀ j, j < cs.length → W.cell? ⟨wb, j, none⟩ = some (.int .i64 1)) (h0 : 0 < cs.length) :
    ∃ wb cap, v.weight = .slice (some ⟨wb, 0, none⟩) cs.length cap ∧ o' wb = 28 ∧ ∀ j, j < cs.length → W'.cell? ⟨wb, j, none⟩ = some (.int .i64 1) := by
  obtain ⟨b, cap, e, h3, h4⟩ := h
  have hlt : b < W.heap.size := World.block_lt_of_cell? _ _ (h4 0 h0)
  exact ⟨b, cap, e, (hs.own _ hlt).trans h3, fun j hj => (hs.cell (p := ⟨b, j, none⟩) hlt (by rw [h3]; exact hn)).trans (h4 j hj)⟩
theorem VG.step (h : VG o W R S s pv uv g tgt v cs idx lf nx sl sb) (h0 : 0 < cs.length) (hs : Step T o W o' W') (h1 : ∀ t ∈ VT, t ∉ T) (h2 : ∀ j, 100 + j ∉ T) : VG o' W' R S s pv uv g tgt v cs idx lf nx sl sb := by
  have k : ∀ t, t ∈ VT → t ∉ T := h1
  obtain ⟨n, bl, hq⟩ := h.q
  exact ⟨h.r.step hs (k _ (by decide)) (k _ (by decide)) (k _ (by decide)) (k _ (by decide)), h.ng.step hs (fun t ht => k t (by revert t; decide)) rfl rfl rfl rfl rfl rfl,
    h.sa.step hs (k _ (by decide)) (k _ (by decide)) (k _ (by decide)), h.lc.step hs (k _ (by decide)) (k _ (by decide)), h.cnt.step hs (k _ (by decide)), h.shr.step hs (k _ (by decide)),
    ⟨n, bl, hq.step hs (k _ (by decide)) h2⟩, h.co.step hs (k _ (by decide)), h.cl.step hs (k _ (by decide)), h.tw.step hs (k _ (by decide)), sls_step hs (k _ (by decide)) h.sls h0, wts_step hs (k _ (by decide)) h.wts h0⟩
end

/-- What the search of one component leaves alone of its fields. -/
structure VEq (v v' : VSt) : Prop where
  G : v'.G = v.G
  R : v'.R = v.R
  dead : v'.dead = v.dead
  deadAt : v'.deadAt = v.deadAt
  wf : v'.wf = v.wf
  wi : v'.wi = v.wi
  ids : v'.ids = v.ids
  cands : v'.cands = v.cands
  slot : v'.slot = v.slot
  weight : v'.weight = v.weight
  slots : v'.slots = v.slots
  watched : v'.watched = v.watched
theorem VEq.refl (v : VSt) : VEq v v := ⟨rfl, rfl, rfl, rfl, rfl, rfl, rfl, rfl, rfl, rfl, rfl, rfl⟩
theorem VEq.trans {a b c : VSt} (h : VEq a b) (k : VEq b c) : VEq a c := ⟨k.G.trans h.G, k.R.trans h.R, k.dead.trans h.dead, k.deadAt.trans h.deadAt, k.wf.trans h.wf, k.wi.trans h.wi, k.ids.trans h.ids, k.cands.trans h.cands, k.slot.trans h.slot, k.weight.trans h.weight, k.slots.trans h.slots, k.watched.trans h.watched⟩

/-- What the search of one component may write. -/
def TT : List Nat := [1, 2, 3, 4, 20, 33, 34, 36, 40, 41, 42, 100, 101, 102]
end Go.Proofs.YbulkbmdoGreat
