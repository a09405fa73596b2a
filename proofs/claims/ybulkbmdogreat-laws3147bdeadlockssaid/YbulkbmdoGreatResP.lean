/-
  The idle state of the victims' search between two components, and the candidates in the order of the dead.
-/
import Derived.Test.YbulkbmdoGreatRsD
import Derived.Test.YbulkbmdoGreatExact
namespace Go.Proofs.YbulkbmdoGreat
open Go.RowKit
set_option linter.unusedVariables false

/-- The candidates of a component: its members in the order of the dead. -/
def ord (ds : List Nat) (dp : Nat → Nat) (comp : List Nat) : List Nat := (srt (comp.map dp)).map fun x => ds.getD x 0

theorem srt_mem {xs : List Nat} {x : Nat} : x ∈ srt xs ↔ x ∈ xs := by unfold srt; exact List.mem_mergeSort
theorem srt_length (xs : List Nat) : (srt xs).length = xs.length := by unfold srt; exact List.length_mergeSort _
theorem srt_pairwise (xs : List Nat) : (srt xs).Pairwise (· ≤ ·) := by
  have := List.pairwise_mergeSort (le := fun x y => decide (x ≤ y)) (fun a b c h1 h2 => by simp at *; omega) (fun a b => by simp; omega) xs
  unfold srt
  exact this.imp (by simp)

theorem nodup_map_on {f : Nat → Nat} {l : List Nat} (h : l.Nodup) (hi : ∀ x ∈ l, ∀ y ∈ l, f x = f y → x = y) : (l.map f).Nodup :=
  List.pairwise_map.2 (List.Pairwise.imp_of_mem (fun hx hy hne e => hne (hi _ hx _ hy e)) h)
section
variable {ds : List Nat} {dp : Nat → Nat} {comp : List Nat} (hdp : ∀ p ∈ ds, dp p < ds.length ∧ ds.getD (dp p) 0 = p) (hc : ∀ p ∈ comp, p ∈ ds)
include hdp hc
theorem ord_mem {p : Nat} : p ∈ ord ds dp comp ↔ p ∈ comp := by
  unfold ord
  simp only [List.mem_map, srt_mem]
  constructor
  · rintro ⟨x, ⟨q, hq, rfl⟩, h⟩
    rw [(hdp q (hc q hq)).2] at h
    exact h ▸ hq
  · intro hp
    exact ⟨dp p, ⟨p, hp, rfl⟩, (hdp p (hc p hp)).2⟩
theorem ord_nodup (hn : comp.Nodup) : (ord ds dp comp).Nodup := by
  have h1 : (comp.map dp).Nodup := by
    refine nodup_map_on hn ?_
    intro x hx y hy e
    rw [← (hdp x (hc x hx)).2, ← (hdp y (hc y hy)).2, e]
  have h2 : (srt (comp.map dp)).Nodup := by unfold srt; exact (List.mergeSort_perm _ _).nodup_iff.2 h1
  unfold ord
  refine nodup_map_on h2 ?_
  intro x hx y hy e
  rw [srt_mem] at hx hy
  obtain ⟨p, hp, rfl⟩ := List.mem_map.1 hx
  obtain ⟨q, hq, rfl⟩ := List.mem_map.1 hy
  rw [(hdp p (hc p hp)).2, (hdp q (hc q hq)).2] at e
  rw [e]
theorem ord_head (h0 : 0 < (ord ds dp comp).length) (q : Nat) (hq : q ∈ comp) : dp ((ord ds dp comp)[0]) ≤ dp q := by
  have hl : 0 < (srt (comp.map dp)).length := by simpa [ord] using h0
  have e : (ord ds dp comp)[0] = ds.getD ((srt (comp.map dp))[0]) 0 := by simp [ord]
  have hm := List.getElem_mem hl
  rw [srt_mem] at hm
  obtain ⟨p, hp, e2⟩ := List.mem_map.1 hm
  rw [e, ← e2, (hdp p (hc p hp)).2, e2]
  have hq2 : dp q ∈ srt (comp.map dp) := srt_mem.2 (List.mem_map.2 ⟨q, hq, rfl⟩)
  obtain ⟨i, hi, e3⟩ := List.mem_iff_getElem.1 hq2
  rw [← e3]
  by_cases h : i = 0
  · subst h; exact Nat.le_refl _
  · exact (List.pairwise_iff_getElem.1 (srt_pairwise _)) 0 i hl hi (by omega)
end
theorem ord_length (ds : List Nat) (dp : Nat → Nat) (comp : List Nat) : (ord ds dp comp).length = comp.length := by simp [ord, srt_length]

/-- The search between two components. -/
structure VI (o : Nat → Nat) (W : World) (R S : Nat) (g : GS) (ds : List Nat) (dp : Nat → Nat) (v : VSt) (sb : Nat) : Prop where
  ob : Ob o W 20 S 63 (vcells v)
  hG : v.G = g.G
  hR : v.R = R
  dead : ∃ db dc, v.dead = .slice (some ⟨db, 0, none⟩) ds.length dc ∧ o db = 21 ∧ ∀ d, d < ds.length → W.cell? ⟨db, d, none⟩ = some (.int .i64 ((ds.getD d 0 : Nat) : Int))
  deadAt : ∃ da dc, v.deadAt = .slice (some ⟨da, 0, none⟩) g.n dc ∧ o da = 22 ∧ ∀ p ∈ ds, W.cell? ⟨da, p, none⟩ = some (.int .i64 (dp p : Int))
  hslot : v.slot = .slice (some ⟨sb, 0, none⟩) g.n g.n
  slot : Ar o W 27 sb 3 g.n (fun _ => .int .i64 (-1))
  cands : Rm o W 26 v.cands
  slots : Rm o W 31 v.slots
  weight : Rm o W 28 v.weight
  cnt : Rm o W 33 v.count
  shr : Rm o W 34 v.shares
  q : ∃ n bl, QAt o W v.qb n bl
  co : Rm o W 40 v.coreOf
  cl : Rm o W 41 v.coreLast
  tw : Rm o W 42 v.topW
  ids : ∃ ia iN ic, v.ids = .slice ia iN ic ∧ ic ≤ 9223372036854775807 ∧ Sl o W 35 32 (.slice ia 0 ic) []
  wat : ∃ a n c, v.watched = .slice a n c ∧ Sl o W 32 4 (.slice a 0 c) []

def VIT : List Nat := [20, 21, 22, 26, 27, 28, 31, 32, 33, 34, 35, 36, 40, 41, 42]
section
variable {o o' : Nat → Nat} {W W' : World} {R S : Nat} {g : GS} {ds : List Nat} {dp : Nat → Nat} {v : VSt} {sb : Nat} {T : List Nat}
theorem dead_step (hd : 0 < ds.length) (hs : Step T o W o' W') (hn : 21 ∉ T) (h : ∃ db dc, v.dead = .slice (some ⟨db, 0, none⟩) ds.length dc ∧ o db = 21 ∧ ∀ d, d < ds.length → W.cell? ⟨db, d, none⟩ = some (.int .i64 ((ds.getD d 0 : Nat) : Int))) :
    ∃ db dc, v.dead = .slice (some ⟨db, 0, none⟩) ds.length dc ∧ o' db = 21 ∧ ∀ d, d < ds.length → W'.cell? ⟨db, d, none⟩ = some (.int .i64 ((ds.getD d 0 : Nat) : Int)) := by
  obtain ⟨b, c, e, h3, h4⟩ := h
  have hlt : b < W.heap.size := World.block_lt_of_cell? _ _ (h4 0 hd)
  exact ⟨b, c, e, (hs.own _ hlt).trans h3, fun j hj => (hs.cell (p := ⟨b, j, none⟩) hlt (by rw [h3]; exact hn)).trans (h4 j hj)⟩
theorem deadAt_step (hd : 0 < ds.length) (hs : Step T o W o' W') (hn : 22 ∉ T) (h : ∃ da dc, v.deadAt = .slice (some ⟨da, 0, none⟩) g.n dc ∧ o da = 22 ∧ ∀ p ∈ ds, W.cell? ⟨da, p, none⟩ = some (.int .i64 (dp p : Int))) :
    ∃ da dc, v.deadAt = .slice (some ⟨da, 0, none⟩) g.n dc ∧ o' da = 22 ∧ ∀ p ∈ ds, W'.cell? ⟨da, p, none⟩ = some (.int .i64 (dp p : Int)) := by
  obtain ⟨b, c, e, h3, h4⟩ := h
  have hlt : b < W.heap.size := World.block_lt_of_cell? _ _ (h4 _ (List.getElem_mem hd))
  exact ⟨b, c, e, (hs.own _ hlt).trans h3, fun j hj => (hs.cell (p := ⟨b, j, none⟩) hlt (by rw [h3]; exact hn)).trans (h4 j hj)⟩
theorem VI.step (h : VI o W R S g ds dp v sb) (hd : 0 < ds.length) (hs : Step T o W o' W') (h1 : ∀ t ∈ VIT, t ∉ T) (h2 : ∀ j, 100 + j ∉ T) : VI o' W' R S g ds dp v sb := by
  obtain ⟨n, bl, hq⟩ := h.q
  obtain ⟨ia, iN, ic, e1, e2, e3⟩ := h.ids
  obtain ⟨a, m, c, e4, e5⟩ := h.wat
  exact ⟨h.ob.step hs (h1 _ (by decide)), h.hG, h.hR, dead_step hd hs (h1 _ (by decide)) h.dead, deadAt_step hd hs (h1 _ (by decide)) h.deadAt, h.hslot, h.slot.step hs (h1 _ (by decide)),
    h.cands.step hs (h1 _ (by decide)), h.slots.step hs (h1 _ (by decide)), h.weight.step hs (h1 _ (by decide)), h.cnt.step hs (h1 _ (by decide)), h.shr.step hs (h1 _ (by decide)), ⟨n, bl, hq.step hs (h1 _ (by decide)) h2⟩,
    h.co.step hs (h1 _ (by decide)), h.cl.step hs (h1 _ (by decide)), h.tw.step hs (h1 _ (by decide)), ⟨ia, iN, ic, e1, e2, e3.step hs (h1 _ (by decide))⟩, ⟨a, m, c, e4, e5.step hs (h1 _ (by decide))⟩⟩
end

theorem Sl.rm {o : Nat → Nat} {W : World} {t : Nat} {v : Value} {xs : List Value} (h : Sl o W t 3 v xs) : Rm o W t v := by
  obtain ⟨a, cap, e, hl⟩ := h.val
  subst e
  exact ⟨a, _, cap, rfl, hl, by simpa using h.cut 0 (Nat.zero_le _)⟩

/-- A component that is a cycle, its members none granted. -/
structure CompB (g : GS) (tgt : Nat → Option Nat) (comp : List Nat) (lf nx : Nat → Nat) : Prop where
  nd : comp.Nodup
  ne : 0 < comp.length
  lt : ∀ p ∈ comp, p < g.n
  hnx : ∀ p ∈ comp, nx p ∈ comp
  root : ∀ p ∈ comp, g.root p = (lf p : Int) ∧ g.fin p = (lf p : Int) + 1 ∧ lf p < g.M ∧ tgt (lf p) = some (nx p) ∧ g.wp (lf p) = p
  con : ∀ p ∈ comp, ∀ q ∈ comp, ∃ k, Nat.repeat nx k p = q
  tid : ∀ p ∈ comp, (g.tid (lf p)).toList ≠ []

theorem CompB.cyc {g : GS} {tgt : Nat → Option Nat} {ds : List Nat} {dp : Nat → Nat} {comp : List Nat} {lf nx : Nat → Nat} (h : CompB g tgt comp lf nx) (hdp : ∀ p ∈ ds, dp p < ds.length ∧ ds.getD (dp p) 0 = p) (hc : ∀ p ∈ comp, p ∈ ds) :
    Cyc g tgt (ord ds dp comp) (fun p => (ord ds dp comp).idxOf p) lf nx := by
  have hm : ∀ {p}, p ∈ ord ds dp comp ↔ p ∈ comp := ord_mem hdp hc
  exact ⟨ord_nodup hdp hc h.nd, by rw [ord_length]; exact h.ne, fun p hp => h.lt p (hm.1 hp), fun i hi => (ord_nodup hdp hc h.nd).idxOf_getElem i hi, fun p hp => hm.2 (h.hnx p (hm.1 hp)), fun p hp => h.root p (hm.1 hp), fun p hp q hq => h.con p (hm.1 hp) q (hm.1 hq)⟩
end Go.Proofs.YbulkbmdoGreat
