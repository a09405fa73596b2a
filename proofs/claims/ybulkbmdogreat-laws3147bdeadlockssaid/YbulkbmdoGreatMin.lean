import Derived.Test.YbulkbmdoGreatLeave
namespace Go.Proofs.YbulkbmdoGreat
open Go.RowKit Go.Shelf
set_option linter.unusedVariables false

/-- What take is to do. -/
def TakeOk : Prop := ∀ (o : Nat → Nat) (W : World) (R S : Nat) (s : RS) (pv uv : Value) (g : GS) (tgt : Nat → Option Nat) (v : VSt) (cs : List Nat) (idx lf nx : Nat → Nat) (sl : Nat → Int) (sb : Nat), Cx g tgt cs idx lf nx sl → VG o W R S s pv uv g tgt v cs idx lf nx sl sb →
    s.marks ≤ 100 → s.und.length ≤ 100 → s.pend = [] → (∀ q ∈ cs, s.gr q = false) →
    Calls Ybaz.prog 62 #[.pointer (some ⟨S, 0, none⟩)] W fun e w' => ∃ (i tb cap : Nat) (o' : Nat → Nat) (v' : VSt) (nf ni pv' uv' : Value), e = .returned (.slice (some ⟨tb, 0, none⟩) 1 cap) ∧ i < cs.length ∧ w'.cell? ⟨tb, 0, none⟩ = some (.int .i64 (i : Int)) ∧ o' tb = 98 ∧ VG o' w' R S { s with nf := nf, ni := ni } pv' uv' g tgt v' cs idx lf nx sl sb ∧ VEq v v' ∧ Step TT o W o' w'

set_option maxRecDepth 100000 in
set_option maxHeartbeats 1000000 in
/-- s.minimal(steps): a set of one. -/
theorem minimal_any (htake : TakeOk) (o : Nat → Nat) (W : World) (R S : Nat) (s : RS) (pv uv : Value) (g : GS) (tgt : Nat → Option Nat) (v : VSt) (cs : List Nat) (idx lf nx : Nat → Nat) (sl : Nat → Int) (sb : Nat) (hX : Cx g tgt cs idx lf nx sl) (h : VG o W R S s pv uv g tgt v cs idx lf nx sl sb)
    (hm : s.marks ≤ 100) (hu : s.und.length ≤ 100) (hp0 : s.pend = []) (hgr : ∀ q ∈ cs, s.gr q = false) (steps : Nat) (hst : steps = 2 * cs.length) :
    Calls Ybaz.prog 38 #[.pointer (some ⟨S, 0, none⟩), .int .i64 (steps : Int)] W fun e w' => ∃ (a : Option Addr) (cap : Nat) (o' : Nat → Nat) (v' : VSt) (nf ni pv' uv' : Value), e = .returned (.slice a 1 cap) ∧ VG o' w' R S { s with nf := nf, ni := ni } pv' uv' g tgt v' cs idx lf nx sl sb ∧ VEq v v' ∧ Step TT o W o' w' := by
  have hne := hX.cyc.ne
  have hcl := hX.cyc.le
  have hn3 := hX.n
  obtain ⟨cb, cap, hcv, hc1, hc2, htc, hltc⟩ := h.sa.cands.some_of (by rw [ints_length]; exact hne)
  rw [ints_length] at hcv hc1
  have x7 : W.cell? ⟨S, 7, none⟩ = some (.slice (some ⟨cb, 0, none⟩) cs.length cap) := by rw [← hcv]; exact h.sa.ob.cell 7
  obtain ⟨lim, hlim⟩ : ∃ lim : Nat, 16777216 / steps = lim := ⟨_, rfl⟩
  have hq : Int.tdiv 16777216 (steps : Int) = (lim : Int) := by rw [Int.tdiv_eq_ediv_of_nonneg (by omega), ← hlim]; rfl
  have hl : cs.length ≤ lim := by
    rw [← hlim, Nat.le_div_iff_mul_le (by omega), hst]
    have : cs.length * (2 * cs.length) ≤ 300 * 600 := Nat.mul_le_mul (by omega) (by omega)
    omega
  have hl2 : lim ≤ 16777216 := by rw [← hlim]; exact Nat.div_le_self _ _
  have b0 : ¬ ((steps : Int) = 0) := by omega
  have b1 : ¬ (lim : Int) < (cs.length : Int) := by omega
  have HT := hid (htake o W R S s pv uv g tgt v cs idx lf nx sl sb hX h hm hu hp0 hgr)
  have Hgr := hid hgr
  clear h hgr hlim hst
  go_enter Ybaz.func38, Ybaz.ntmps38
  go_wp2_with (first | (go_at_call 62; refine HT.out.mono ?_; rintro e w1 ⟨i, tb, tcap, o1, v1, nf, ni, pv1, uv1, rfl, hi, ct, htb, V1, VE1, s1⟩; have HL := hid (leaveOut_any o1 w1 R S tb tcap i { s with nf := nf, ni := ni } pv1 uv1 g v1 cs sl sb V1.r V1.sa V1.ng.hN hX.n (by omega) hX.cyc.lt Hgr.out ct hi); have HV := hid V1; clear V1 ct) | (go_at_call 61; refine HL.out.mono ?_; rintro e w2 ⟨⟨a, cap2, rfl⟩, o2, s2⟩))
  go_ret
  exact ⟨a, cap2, o2, v1, nf, ni, pv1, uv1, rfl, HV.out.step hne s2 (by simp) (by simp), VE1, s1.trans (s2.mono (by simp))⟩
end Go.Proofs.YbulkbmdoGreat
