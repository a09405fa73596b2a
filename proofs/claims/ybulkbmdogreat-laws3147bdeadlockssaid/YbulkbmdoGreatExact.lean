import Derived.Test.YbulkbmdoGreatSearch
namespace Go.Proofs.YbulkbmdoGreat
open Go.RowKit Go.Shelf
set_option linter.unusedVariables false

/-- What exact(1) leaves. -/
def ExactR (o : Nat → Nat) (W : World) (R S : Nat) (s : RS) (g : GS) (tgt : Nat → Option Nat) (v : VSt) (cs : List Nat) (idx lf nx : Nat → Nat) (sl : Nat → Int) (sb cb ccap : Nat) (w' : World) : Prop :=
  ∃ (o' : Nat → Nat) (v' : VSt) (nf ni pv' uv' : Value), VG o' w' R S { s with nf := nf, ni := ni } pv' uv' g tgt v' cs idx lf nx sl sb ∧ VEq v v' ∧ Sl o' w' 98 3 (.slice (some ⟨cb, 0, none⟩) 1 ccap) [.int .i64 0] ∧ Step TS o W o' w'

set_option maxRecDepth 100000 in
set_option maxHeartbeats 2000000 in
/-- s.exact(1): [0]. -/
theorem exact_any (o : Nat → Nat) (W : World) (R S : Nat) (s : RS) (pv uv : Value) (g : GS) (tgt : Nat → Option Nat) (v : VSt) (cs : List Nat) (idx lf nx : Nat → Nat) (sl : Nat → Int) (sb : Nat) (hX : Cx g tgt cs idx lf nx sl) (h : VG o W R S s pv uv g tgt v cs idx lf nx sl sb)
    (hm : s.marks ≤ 100) (hu : s.und.length ≤ 100) (hp0 : s.pend = []) (hgr : ∀ q ∈ cs, s.gr q = false) :
    Calls Ybaz.prog 40 #[.pointer (some ⟨S, 0, none⟩), .int .i64 1] W fun e w' => ∃ cb ccap, e = .returned (.slice (some ⟨cb, 0, none⟩) 1 ccap) ∧ ExactR o W R S s g tgt v cs idx lf nx sl sb cb ccap w' := by
  have HF := hid (findCores_any o W R S s pv uv g tgt v cs idx lf nx sl sb hX h hm hu)
  have Hgr := hid hgr
  have Hp0 := hid hp0
  clear h hgr hp0
  have heq := eql_some
  go_enter Ybaz.func40, Ybaz.ntmps40
  go_wp2_with (go_at_call 63; refine HF.out.mono ?_; rintro e w1 ⟨⟨r, rfl⟩, o1, cov, a2, cap2, uv1, V1, hco, s1⟩; have c20 : w1.cell? ⟨S, 20, none⟩ = some (.slice a2 0 cap2) := V1.sa.ob.cell 20)
  have HS := hid (search_any o1 w1 R S s pv uv1 g tgt { v with coreOf := cov, coreLast := .slice a2 0 cap2 } cs idx lf nx sl sb hX V1 hm hu Hp0.out Hgr.out hco a2 cap2 rfl)
  have Hs1 := hid s1
  clear V1 hco s1 HF
  refine wp_loop_rounds 1 ?_
  rw [rounds_succ]
  go_wp2_with (go_at_call 64; refine HS.out.mono ?_; rintro e w2 ⟨cb, ccap, rfl, o2, nf, ni, pv2, uv2, lfv, liv, tv, V2, sl2, s2⟩)
  refine bodyPost_ret (results_tmp rfl _ _ _) rfl ?_
  exact ⟨cb, ccap, rfl, o2, _, nf, ni, pv2, uv2, V2, ⟨rfl, rfl, rfl, rfl, rfl, rfl, rfl, rfl, rfl, rfl, rfl, rfl⟩, sl2, (Hs1.out.mono (by decide)).trans s2⟩
end Go.Proofs.YbulkbmdoGreat
