import Derived.Test.YbulkbmdoGreatRoll2
namespace Go.Proofs.YbulkbmdoGreat
open Go.RowKit Go.Shelf
set_option linter.unusedVariables false
attribute [local go_sem] Oper.semAt_some

/-- The victims' search's fields. -/
structure VSt where
  G : Nat
  R : Nat
  dead : Value
  deadAt : Value
  wf : Value
  wi : Value
  ids : Value
  cands : Value
  slot : Value
  weight : Value
  lf : Value
  li : Value
  slots : Value
  watched : Value
  count : Value
  shares : Value
  qc : Value
  qb : Value
  qt : Value
  coreOf : Value
  coreLast : Value
  topW : Value
def vcells (v : VSt) : Array Value :=
  #[.pointer (some ⟨v.G, 0, none⟩), .pointer (some ⟨v.R, 0, none⟩), v.dead, v.deadAt, v.wf, v.wi, v.ids, v.cands, v.slot, v.weight, v.lf, v.li, v.slots, v.watched, v.count, v.shares, v.qc, v.qb, v.qt, v.coreOf, v.coreLast, v.topW]

/-- The candidates cs of a component: a cycle. -/
structure Cyc (g : GS) (tgt : Nat → Option Nat) (cs : List Nat) (idx lf nx : Nat → Nat) : Prop where
  nd : cs.Nodup
  ne : 0 < cs.length
  lt : ∀ p ∈ cs, p < g.n
  hidx : ∀ i (hi : i < cs.length), idx cs[i] = i
  hnx : ∀ p ∈ cs, nx p ∈ cs
  root : ∀ p ∈ cs, g.root p = (lf p : Int) ∧ g.fin p = (lf p : Int) + 1 ∧ lf p < g.M ∧ tgt (lf p) = some (nx p) ∧ g.wp (lf p) = p
  con : ∀ p ∈ cs, ∀ q ∈ cs, ∃ k, Nat.repeat nx k p = q
theorem Cyc.idx_lt {g : GS} {tgt : Nat → Option Nat} {cs : List Nat} {idx lf nx : Nat → Nat} (h : Cyc g tgt cs idx lf nx) {p : Nat} (hp : p ∈ cs) : idx p < cs.length := by
  obtain ⟨i, hi, rfl⟩ := List.mem_iff_getElem.1 hp
  rw [h.hidx i hi]; exact hi
theorem Cyc.at_idx {g : GS} {tgt : Nat → Option Nat} {cs : List Nat} {idx lf nx : Nat → Nat} (h : Cyc g tgt cs idx lf nx) {p : Nat} (hp : p ∈ cs) : cs[idx p]'(h.idx_lt hp) = p := by
  obtain ⟨i, hi, rfl⟩ := List.mem_iff_getElem.1 hp
  congr 1
  exact h.hidx i hi
theorem Cyc.le {g : GS} {tgt : Nat → Option Nat} {cs : List Nat} {idx lf nx : Nat → Nat} (h : Cyc g tgt cs idx lf nx) : cs.length ≤ g.n := nodup_le h.nd h.lt

/-- The pairs (slot named, leaf) of the candidates. -/
def cpr (idx lf nx : Nat → Nat) (cs : List Nat) : List (Nat × Nat) := cs.map fun p => (idx (nx p), lf p)
theorem cpr_take (idx lf nx : Nat → Nat) (cs : List Nat) (k : Nat) (hk : k < cs.length) : cpr idx lf nx (cs.take (k + 1)) = cpr idx lf nx (cs.take k) ++ [(idx (nx cs[k]), lf cs[k])] := by
  unfold cpr
  rw [List.take_add_one, List.map_append]
  simp [List.getElem?_eq_getElem hk]
theorem cpr_pref (idx lf nx : Nat → Nat) (cs : List Nat) (k : Nat) : cpr idx lf nx (cs.take k) <+: cpr idx lf nx cs := by
  unfold cpr
  rw [List.map_take]
  exact List.take_prefix _ _

/-- What the search's lists are read from. -/
structure CG (g : GS) (tgt : Nat → Option Nat) (cs : List Nat) (idx : Nat → Nat) (sl : Nat → Int) (S cb cap sb tb : Nat) (v : VSt) (W : World) : Prop where
  c0 : W.cell? ⟨S, 0, none⟩ = some (.pointer (some ⟨g.G, 0, none⟩))
  c1 : W.cell? ⟨S, 1, none⟩ = some (.pointer (some ⟨v.R, 0, none⟩))
  c7 : W.cell? ⟨S, 7, none⟩ = some (.slice (some ⟨cb, 0, none⟩) cs.length cap)
  c8 : W.cell? ⟨S, 8, none⟩ = some (.slice (some ⟨sb, 0, none⟩) g.n g.n)
  cc : ∀ i (hi : i < cs.length), W.cell? ⟨cb, i, none⟩ = some (.int .i64 (cs[i] : Int))
  g0 : W.cell? ⟨g.G, 0, none⟩ = some (.slice (some ⟨g.pb, 0, none⟩) g.n g.pcap)
  pc : ∀ i, i < g.n → W.cell? ⟨g.pb, i * 3 + 1, none⟩ = some (.int .i64 (g.root i)) ∧ W.cell? ⟨g.pb, i * 3 + 2, none⟩ = some (.int .i64 (g.fin i))
  r2 : W.cell? ⟨v.R, 2, none⟩ = some (.slice (some ⟨tb, 0, none⟩) g.M g.M)
  tc : ∀ i, i < g.M → W.cell? ⟨tb, i, none⟩ = some (.int .i64 (tv (tgt i)))
  sc : ∀ i, i < g.n → W.cell? ⟨sb, i, none⟩ = some (.int .i64 (sl i))
theorem CG.below {g : GS} {tgt : Nat → Option Nat} {cs : List Nat} {idx : Nat → Nat} {sl : Nat → Int} {S cb cap sb tb : Nat} {v : VSt} {W W' : World} (h : CG g tgt cs idx sl S cb cap sb tb v W) {B : Nat} (hb : Below B W W') (hB : W.heap.size ≤ B ∨ B = W.heap.size) : CG g tgt cs idx sl S cb cap sb tb v W' := by
  have key : ∀ {a : Addr} {u : Value}, W.cell? a = some u → W'.cell? a = some u := fun {a} {u} ha =>
    (World.cell?_of_block (w := W) (hb.block a.block (by have := World.block_lt_of_cell? _ _ ha; omega))).trans ha
  exact ⟨key h.c0, key h.c1, key h.c7, key h.c8, fun i hi => key (h.cc i hi), key h.g0, fun i hi => ⟨key (h.pc i hi).1, key (h.pc i hi).2⟩, key h.r2, fun i hi => key (h.tc i hi), fun i hi => key (h.sc i hi)⟩

set_option maxRecDepth 100000 in
set_option maxHeartbeats 4000000 in
theorem local1_in (n l Bx S cb cap sb tb B0 : Nat) (g : GS) (tgt : Nat → Option Nat) (cs : List Nat) (idx lf nx : Nat → Nat) (sl : Nat → Int) (v : VSt) (hC : Cyc g tgt cs idx lf nx) (hsl : ∀ p ∈ cs, sl p = (idx p : Int)) (hn : g.n ≤ 300) (hM : g.M ≤ 300) (J : List (Nat × Nat) → World → Prop)
    (w : World) (hB : B0 = w.heap.size) (hG : CG g tgt cs idx sl S cb cap sb tb v w)
    (c0 : w.cell? ⟨Bx, 0, none⟩ = some (.pointer (some ⟨S, 0, none⟩)))
    (hY : ∀ pre x W1, J pre W1 → pre ++ [x] <+: cpr idx lf nx cs → YieldAt Fence.wide (n - 1) Ybaz.prog l #[.int .i64 (x.1 : Int), .int .i64 (x.2 : Int)] W1 fun e W' => e = .returned (.bool true) ∧ J (pre ++ [x]) W' ∧ Below B0 W1 W')
    (W : World) (hW : Below B0 w W) (h0 : J [] W) :
    CallsIn Fence.wide n Ybaz.prog 132 #[.func (.yield l) #[] #[], .pointer (some ⟨Bx, 0, none⟩)] W fun e W' => (∃ v, e = .returned v) ∧ J (cpr idx lf nx cs) W' := by
  refine callsIn_of_wp Ybaz.func132 rfl trivial ?_ rfl
  simp only [Ybaz.ntmps132, List.size_toArray, List.length_cons, List.length_nil, Nat.reduceAdd, Nat.reduceSub, Array.replicate_succ, Array.replicate_zero, List.push_toArray, List.append_toArray, List.nil_append, List.cons_append]
  have key : ∀ {W2 : World} {a : Addr} {u : Value}, Below B0 w W2 → w.cell? a = some u → W2.cell? a = some u := fun {W2} {a} {u} hb ha =>
    (World.cell?_of_block (w := w) (hb.block a.block (by have := World.block_lt_of_cell? _ _ ha; omega))).trans ha
  have d0 := key hW c0
  have d7 := key hW hG.c7
  have hcl := hC.le
  gi_wp2
  clear d0 d7
  gi_loopw [12] (fun i wr => ∃ k : Nat, k ≤ cs.length ∧ i = .int .i64 (k : Int) ∧ J (cpr idx lf nx (cs.take k)) wr ∧ Below B0 w wr) (fun i _ => cs.length - (intOf i).toNat)
  case atStart => exact ⟨0, Nat.zero_le _, rfl, by simpa [cpr] using h0, hW⟩
  case round =>
    obtain ⟨k, hk, rfl, hJ, hB1⟩ := hrel
    by_cases hlt : k < cs.length
    · have hpm : cs[k] ∈ cs := List.getElem_mem hlt
      obtain ⟨hr1, hr2, hr3, hr4, hr5⟩ := hC.root _ hpm
      have hpn := hC.lt _ hpm
      have hqm := hC.hnx _ hpm
      have hqn := hC.lt _ hqm
      have hqi := hC.idx_lt hqm
      have x0 := key hB1 c0
      have x1 := key hB1 hG.c0
      have x2 := key hB1 (hG.cc k hlt)
      have x3 := key hB1 hG.g0
      have x4 := key hB1 (hG.pc _ hpn).1
      have x5 := key hB1 (hG.pc _ hpn).2
      rw [hr1] at x4
      rw [hr2] at x5
      have HJ := hid hJ
      have HB := hid hB1
      have hpre : Hid (cpr idx lf nx (cs.take k) ++ [(idx (nx cs[k]), lf cs[k])] <+: cpr idx lf nx cs) := by
        have := cpr_pref idx lf nx cs (k + 1); rw [cpr_take _ _ _ _ _ hlt] at this; exact this
      have hnext : Hid (cpr idx lf nx (cs.take (k + 1)) = cpr idx lf nx (cs.take k) ++ [(idx (nx cs[k]), lf cs[k])]) := cpr_take _ _ _ _ _ hlt
      have HR1 := hid hr1
      have HR2 := hid hr2
      clear hJ hB1 hr1 hr2 hr5
      obtain ⟨p, hpp⟩ : ∃ p, cs[k] = p := ⟨_, rfl⟩
      simp only [hpp] at *
      have b1 : (k : Int) < (cs.length : Int) := by omega
      have b2 : (p : Int) < (g.n : Int) := by omega
      gi_wp2
      clear x0 x1 x2 x3 x4 x5
      have y4 := (hG.pc _ hpn).1
      have y5 := (hG.pc _ hpn).2
      rw [HR1.out] at y4
      rw [HR2.out] at y5
      have hsq : sl (nx p) = (idx (nx p) : Int) := hsl _ hqm
      have HSQ := hid hsq
      clear hsq
      gi_loopw [5] (fun q wz => ∃ f : Nat, f ≤ 1 ∧ q = .int .i64 ((lf p : Int) + (f : Int)) ∧ J (cpr idx lf nx (cs.take (k + f))) wz ∧ Below B0 w wz) (fun q _ => (lf p + 1) - (intOf q).toNat)
      case atStart => exact ⟨0, by omega, by simp, HJ.out, HB.out⟩
      case round =>
        clear HJ HB
        obtain ⟨f, hf, rfl, hJ, hB2⟩ := hrel
        have x0 := key hB2 c0
        have x1 := key hB2 hG.c0
        have x3 := key hB2 hG.g0
        have x5 := key hB2 y5
        by_cases hf0 : f = 0
        · subst hf0
          rw [Nat.add_zero] at hJ
          have x6 := key hB2 hG.c1
          have x7 := key hB2 hG.r2
          have x8 := key hB2 (hG.tc _ hr3)
          rw [hr4] at x8
          have x8' : wr.cell? ⟨tb, lf p, none⟩ = some (.int .i64 (nx p : Int)) := x8
          have x9 := key hB2 hG.c8
          have x10 := key hB2 (hG.sc _ hqn)
          rw [HSQ.out] at x10
          clear x8
          obtain ⟨fn, tmps, assign, body, hy, hR⟩ := hY _ _ wr hJ hpre.out
          have hR2 : RoundIn Fence.wide (n - 1) Ybaz.prog l fn tmps assign body wr fun e W' => e = .returned (.bool true) ∧ Hid (J (cpr idx lf nx (cs.take k) ++ [(idx (nx p), lf p)]) W' ∧ Below B0 wr W') := hR
          have HB2 := hid hB2
          have HT := hid hr4
          clear hR hJ hB2 hr4
          have b3 : (lf p : Int) < (g.M : Int) := by omega
          have b4 : (nx p : Int) < (g.n : Int) := by omega
          have b5 : (lf p : Int) + ((0 : Nat) : Int) = (lf p : Int) := by simp
          rw [b5]
          gi_wp2_with fail
          refine ⟨fun h => (by cases h), hR2.mono ?_⟩
          rintro e W3 ⟨rfl, h3⟩
          gi_wp2
          go_roundw
          case rel => exact ⟨1, by omega, by go_num, by rw [hnext.out]; exact h3.out.1, HB2.out.trans h3.out.2⟩
          case measure => simp [intOf]
        · obtain rfl : f = 1 := by omega
          have b6 : ((lf p : Int) + ((1 : Nat) : Int)) = (lf p : Int) + 1 := by simp
          rw [b6]
          gi_wp2
          go_roundw
          case rel => exact ⟨k + 1, by omega, by go_num, hJ, hB2⟩
          case measure => simp [intOf]; omega
    · obtain rfl : k = cs.length := by omega
      gi_wp2
      go_end0
      rw [List.take_length] at hJ
      exact ⟨⟨_, rfl⟩, hJ⟩
end Go.Proofs.YbulkbmdoGreat
