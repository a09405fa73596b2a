import Derived.Test.YbulkbmdoGreatTake1
namespace Go.Proofs.YbulkbmdoGreat
open Go.RowKit Go.Shelf
set_option linter.unusedVariables false

set_option maxRecDepth 100000 in
set_option maxHeartbeats 4000000 in
/-- take$1: named(p, f) on a cycle: one call of f, with the slot of the process that p waits on. -/
theorem named_any (o : Nat → Nat) (W : World) (R S Bg Br Bs : Nat) (s : RS) (pv uv : Value) (h : RAt o W R s pv uv) (g : GS) (tgt : Nat → Option Nat) (v : VSt) (cs : List Nat) (idx lf nx : Nat → Nat) (sl : Nat → Int) (sb : Nat) (hC : Cyc g tgt cs idx lf nx) (hsl : ∀ p ∈ cs, sl p = (idx p : Int)) (hn : g.n ≤ 300) (hM : g.M ≤ 300)
    (hng : NG g tgt o W s) (ob : Ob o W 20 S 63 (vcells v)) (hslot : v.slot = .slice (some ⟨sb, 0, none⟩) g.n g.n) (slot : Ar o W 27 sb 3 g.n (fun i => .int .i64 (sl i)))
    (c1 : W.cell? ⟨Bg, 0, none⟩ = some (.pointer (some ⟨g.G, 0, none⟩))) (c2 : W.cell? ⟨Br, 0, none⟩ = some (.pointer (some ⟨R, 0, none⟩))) (c3 : W.cell? ⟨Bs, 0, none⟩ = some (.pointer (some ⟨S, 0, none⟩)))
    (p : Nat) (hp : p ∈ cs) (hne : (g.tid (lf p)).toList ≠ []) (gf : Nat) (lb : Array Value) (eg : ∀ args w, (callFunc gf args).run Ybaz.prog w = .ok (.enter gf args) w) (Q : (Nat → Nat) → World → World → Prop)
    (hf : ∀ o1 W1, Step [] o W o1 W1 → Calls Ybaz.prog gf (#[.int .i64 (idx (nx p) : Int)] ++ lb) W1 fun e w' => (∃ r, e = .returned r) ∧ (∃ T o2, 99 ∉ T ∧ Step T o1 W1 o2 w') ∧ Q o1 W1 w') :
    Calls Ybaz.prog 93 #[.int .i64 (p : Int), .func (.func gf) #[] lb, .pointer (some ⟨Bg, 0, none⟩), .pointer (some ⟨Br, 0, none⟩), .pointer (some ⟨Bs, 0, none⟩)] W fun e w' => (∃ r, e = .returned r) ∧ ∃ o1 W1, Step [] o W o1 W1 ∧ Q o1 W1 w' := by
  obtain ⟨hr1, hr2, hr3, hr4, hr5⟩ := hC.root p hp
  have hpn := hC.lt p hp
  have hqm := hC.hnx p hp
  have hqn := hC.lt _ hqm
  have hqi := hC.idx_lt hqm
  have hcl := hC.le
  have hnb : (g.tid (lf p)).toList.isEmpty = false := by simpa using hne
  have g0 : W.cell? ⟨g.G, 0, none⟩ = some (.slice (some ⟨g.pb, 0, none⟩) g.n g.pcap) := by rw [← (hng.gat.hpa (by omega)).1]; exact hng.gat.ob.cell 0
  have g2 : W.cell? ⟨g.G, 2, none⟩ = some (.slice (some ⟨g.nd, 0, none⟩) g.M g.ncap) := by rw [← (hng.gat.hna (by omega)).1]; exact hng.gat.ob.cell 2
  obtain ⟨p0, p1, p2⟩ := hng.gat.pc p hpn
  rw [hr1] at p1
  rw [hr2] at p2
  have b1 : (p : Int) < (g.n : Int) := by omega
  have st0 := Step.alloc [] o W (.cells #[.string (g.pid p), .int .i64 (lf p : Int), .int .i64 ((lf p : Int) + 1)] 36) 99
  have bx0 := Ob.new o W 99 36 #[.string (g.pid p), .int .i64 (lf p : Int), .int .i64 ((lf p : Int) + 1)]
  obtain ⟨W0, hW0⟩ : ∃ W0, W.alloc (.cells #[.string (g.pid p), .int .i64 (lf p : Int), .int .i64 ((lf p : Int) + 1)] 36) = W0 := ⟨_, rfl⟩
  rw [hW0] at st0 bx0
  have up : ∀ {a : Addr} {u : Value}, W.cell? a = some u → W0.cell? a = some u := fun {a} {u} ha => (st0.cell (p := a) (World.block_lt_of_cell? _ _ ha) (by simp)).trans ha
  have y1 := up c1
  have y2 := up c2
  have y3 := up c3
  have y4 := up g2
  have y5 := up (hng.gat.nc (lf p) hr3).1
  have y6 : W0.cell? ⟨R, 2, none⟩ = some (.slice (some ⟨s.tb, 0, none⟩) g.M g.M) := by rw [← hng.hM]; exact up (h.ob.cell 2)
  have y7 := up (hng.tg.cell (lf p) (by rw [hng.hM]; exact hr3))
  rw [hr4] at y7
  have y7' : W0.cell? ⟨s.tb, lf p, none⟩ = some (.int .i64 (nx p : Int)) := y7
  have y8 : W0.cell? ⟨S, 8, none⟩ = some (.slice (some ⟨sb, 0, none⟩) g.n g.n) := by rw [← hslot]; exact up (ob.cell 8)
  have y9 := up (slot.cell (nx p) hqn)
  rw [hsl _ hqm] at y9
  have y10 : W0.cell? ⟨W.heap.size, 1, none⟩ = some (.int .i64 (lf p : Int)) := bx0.cell 1
  have y11 : W0.cell? ⟨W.heap.size, 2, none⟩ = some (.int .i64 ((lf p : Int) + 1)) := bx0.cell 2
  have HF : Hid (∀ m, Calls Ybaz.prog gf (#[.int .i64 (idx (nx p) : Int)] ++ lb) (W0.drewN m) fun e w' => (∃ r, e = .returned r) ∧ (∃ T o2, 99 ∉ T ∧ Step T (tg o W.heap.size 99) (W0.drewN m) o2 w') ∧ Q (tg o W.heap.size 99) (W0.drewN m) w') := fun m => hf _ _ (st0.trans (Step.drewN [] _ W0 m))
  have HB := hid bx0
  have HS := hid st0
  have HT := hid hr4
  clear y7 bx0 st0 h hng ob slot c2 c3 hf hr4 hr1 hr2 up
  have b2 : (lf p : Int) < (g.M : Int) := by omega
  have b3 : (nx p : Int) < (g.n : Int) := by omega
  go_enter Ybaz.func93, Ybaz.ntmps93
  go_wp2
  go_loopw [8] (fun q wr => (q = .int .i64 (lf p : Int) ∧ wr = W0) ∨ (q = .int .i64 ((lf p : Int) + 1) ∧ wr.cell? ⟨W.heap.size, 2, none⟩ = some (.int .i64 ((lf p : Int) + 1)) ∧ ∃ m, Q (tg o W.heap.size 99) (W0.drewN m) wr)) (fun q _ => (lf p + 1) - (intOf q).toNat)
  case atStart => exact .inl ⟨rfl, rfl⟩
  case round =>
    rcases hrel with ⟨rfl, rfl⟩ | ⟨rfl, z1, m, hQ⟩
    · go_wp2
      go_quiet (fail)
      go_wp2_with fail
      refine (HF.out nq).mono ?_
      rintro e w2 ⟨⟨r, rfl⟩, ⟨T, o2, hT, st2⟩, hQ⟩
      have z2 : w2.cell? ⟨W.heap.size, 2, none⟩ = some (.int .i64 ((lf p : Int) + 1)) := ((HB.out.step (Step.drewN [] _ wr nq) (by simp)).step st2 hT).cell 2
      have HQ := hid hQ
      have HZ := hid z2
      clear hQ z2 st2
      go_wp2
      go_roundw
      case rel => exact .inr ⟨by go_num, HZ.out, nq, HQ.out⟩
      case measure => simp [intOf]
    · have b4 : ¬ ((lf p : Int) + 1) < ((lf p : Int) + 1) := by omega
      have HQ := hid hQ
      clear hQ
      go_wp2
      go_end0
      exact ⟨⟨_, rfl⟩, _, _, HS.out.trans (Step.drewN [] _ W0 m), HQ.out⟩
end Go.Proofs.YbulkbmdoGreat
