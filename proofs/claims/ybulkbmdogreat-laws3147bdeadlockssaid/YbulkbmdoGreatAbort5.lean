import Derived.Test.YbulkbmdoGreatAbort4
namespace Go.Proofs.YbulkbmdoGreat
open Go.RowKit Go.Shelf
set_option linter.unusedVariables false

theorem repeat_succ' (f : Nat → Nat) : ∀ (k q : Nat), Nat.repeat f (k + 1) q = Nat.repeat f k (f q)
  | 0, _ => rfl
  | k + 1, q => by show f (Nat.repeat f (k + 1) q) = f (Nat.repeat f k (f q)); rw [repeat_succ' f k q]

/-- The local lists are not made yet, or are those of the candidates. -/
def LcAt (o : Nat → Nat) (W : World) (v : VSt) (cs : List Nat) (idx lf nx : Nat → Nat) : Prop :=
  v.lf = .slice none 0 0 ∨ ∃ fb ib, LAt o W 29 30 cs.length (cpr idx lf nx cs) v.lf v.li fb ib

theorem settled_cycle {g : GS} {tgt : Nat → Option Nat} {cs : List Nat} {idx lf nx : Nat → Nat} (hC : Cyc g tgt cs idx lf nx) {s : RS} {p : Nat} (hp : p ∈ cs) (hgr : ∀ q ∈ cs, s.gr q = false) (hm : 0 < s.marks) (hp0 : s.pend = []) {nf ni : Value} {new : List Nat} (hS : SInv (s.grant p).gr g.n (s.grant p).pend (fun p => Pl.sel (cpr idx lf nx cs) (idx p)) g.wp [] new) :
    (s.grant p).ext nf ni [] new = { s with nf := nf, ni := ni, gr := grown s.gr (p :: new), pend := [], und := s.und ++ (p :: new).map fun p : Nat => -1 - (p : Int) } ∧ (p :: new).Nodup ∧ ∀ q, q ∈ p :: new ↔ q ∈ cs := by
  have e0 : s.grant p = { s with gr := fun j => if j = p then true else s.gr j, pend := [p], und := s.und ++ [-1 - (p : Int)] } := by
    unfold RS.grant
    simp only [hgr p hp, hp0, hm, if_true]
    simp
  rw [e0] at hS ⊢
  have hS' : SInv (fun j => if j = p then true else s.gr j) g.n [p] (fun p => Pl.sel (cpr idx lf nx cs) (idx p)) g.wp [] new := hS
  have hne : ∀ q ∈ new, q ≠ p := fun q hq e => by have := (hS'.fresh q hq).1; simp [e] at this
  have hsub : ∀ q ∈ new, q ∈ cs := hS'.sound (· ∈ cs) (by simpa using hp) (fun q l hq hl => by
    rw [sel_mem] at hl
    obtain ⟨q2, hq2, e⟩ := List.mem_map.1 hl
    have e2 : lf q2 = l := by simpa using congrArg Prod.snd e
    rw [← e2, (hC.root q2 hq2).2.2.2.2]; exact hq2)
  refine ⟨?_, List.nodup_cons.2 ⟨fun h => hne p h rfl, hS'.nd⟩, fun q => ⟨fun h => ?_, fun h => ?_⟩⟩
  · unfold RS.ext
    have e1 : grown (fun j => if j = p then true else s.gr j) new = grown s.gr (p :: new) := by
      funext j
      by_cases e : j = p <;> simp [grown, e]
    simp only [hm, if_true, e1, List.map_cons]
    simp
  · rcases List.mem_cons.1 h with h1 | h1
    · rw [h1]; exact hp
    · exact hsub q h1
  · have key : ∀ k q, q ∈ cs → Nat.repeat nx k q = p → q ∈ p :: new := by
      intro k
      induction k with
      | zero => intro q _ e; have e' : q = p := e; simp [e']
      | succ k ih =>
        intro q hq e
        rw [repeat_succ'] at e
        have h1 := ih (nx q) (hC.hnx q hq) e
        have h2 := hS'.closed (nx q) (by simpa using h1) (by simp) (lf q) (sel_mem.2 (List.mem_map.2 ⟨q, hq, rfl⟩))
        rw [(hC.root q hq).2.2.2.2] at h2
        by_cases e3 : q = p
        · simp [e3]
        · simp [grown, e3, hgr q hq] at h2
          exact List.mem_cons.2 (.inr h2)
    obtain ⟨k, hk⟩ := hC.con q h p hp
    exact key k q h hk

set_option maxRecDepth 100000 in
/-- s.abort(slots[i:i+1]) on a cycle: every candidate comes to be granted. -/
theorem abort_any (o : Nat → Nat) (W : World) (R S : Nat) (s : RS) (pv uv : Value) (h : RAt o W R s pv uv) (g : GS) (tgt : Nat → Option Nat) (v : VSt) (cs : List Nat) (idx lf nx : Nat → Nat) (sl : Nat → Int) (sb : Nat) (hC : Cyc g tgt cs idx lf nx) (hsl : ∀ p ∈ cs, sl p = (idx p : Int)) (hn : g.n ≤ 300) (hM : g.M ≤ 300)
    (hng : NG g tgt o W s) (hS : SAt o W S v g R cs sl sb) (hloc : LcAt o W v cs idx lf nx) (hwp : ∀ i, i < g.M → g.wp i < g.n) (hm0 : 0 < s.marks) (hm : s.marks ≤ 900) (hu : s.und.length ≤ 500) (hp0 : s.pend = []) (hgr : ∀ q ∈ cs, s.gr q = false)
    (slb cp i : Nat) (hi : i < cs.length) (hsc : W.cell? ⟨slb, i, none⟩ = some (.int .i64 (i : Int))) :
    Calls Ybaz.prog 99 #[.pointer (some ⟨S, 0, none⟩), .slice (some ⟨slb, i, none⟩) 1 cp] W fun e w' => (∃ r, e = .returned r) ∧
      ∃ o' pv' uv' nf ni new lfv liv, RAt o' w' R { s with nf := nf, ni := ni, gr := grown s.gr new, pend := [], und := s.und ++ new.map fun p : Nat => -1 - (p : Int) } pv' uv' ∧ new.Nodup ∧ (∀ q, q ∈ new ↔ q ∈ cs) ∧ NG g tgt o' w' { s with nf := nf, ni := ni, gr := grown s.gr new, pend := [], und := s.und ++ new.map fun p : Nat => -1 - (p : Int) } ∧
        SAt o' w' S { v with lf := lfv, li := liv } g R cs sl sb ∧ LcAt o' w' { v with lf := lfv, li := liv } cs idx lf nx ∧ Step [1, 2, 3, 4, 20] o W o' w' := by
  have hc : Calls Ybaz.prog 113 #[.pointer (some ⟨S, 0, none⟩), .slice (some ⟨slb, i, none⟩) 1 cp, .nilFunc] W fun e w' => e = .returned (.bool false) ∧
      ∃ o' pv' uv' nf ni new lfv liv, RAt o' w' R { s with nf := nf, ni := ni, gr := grown s.gr new, pend := [], und := s.und ++ new.map fun p : Nat => -1 - (p : Int) } pv' uv' ∧ new.Nodup ∧ (∀ q, q ∈ new ↔ q ∈ cs) ∧ NG g tgt o' w' { s with nf := nf, ni := ni, gr := grown s.gr new, pend := [], und := s.und ++ new.map fun p : Nat => -1 - (p : Int) } ∧
        SAt o' w' S { v with lf := lfv, li := liv } g R cs sl sb ∧ LcAt o' w' { v with lf := lfv, li := liv } cs idx lf nx ∧ Step [1, 2, 3, 4, 20] o W o' w' := by
    have hpm : cs[i] ∈ cs := List.getElem_mem hi
    rcases hloc with hl | ⟨fb, ib, hl⟩
    · refine (abortUntil_make o W R S s pv uv h g tgt v cs idx lf nx sl sb hC hsl hn hM hng hS hl hwp hm hu hp0 slb cp i hi hsc).mono ?_
      rintro e w' ⟨rfl, o', pv', uv', nf, ni, new, lfv, liv, fb, ib, R1, S1, N1, T1, L1, st⟩
      obtain ⟨e1, e2, e3⟩ := settled_cycle hC hpm hgr hm0 hp0 (nf := nf) (ni := ni) S1
      rw [e1] at R1 N1
      exact ⟨rfl, o', pv', uv', nf, ni, _, lfv, liv, R1, e2, e3, N1, T1, .inr ⟨fb, ib, L1⟩, st⟩
    · refine (abortUntil_made o W R S s pv uv h g tgt v cs idx lf nx sl sb fb ib hC hsl hn hM hng hS hl hwp hm hu hp0 slb cp i hi hsc).mono ?_
      rintro e w' ⟨rfl, o', pv', uv', nf, ni, new, R1, S1, N1, T1, L1, st⟩
      obtain ⟨e1, e2, e3⟩ := settled_cycle hC hpm hgr hm0 hp0 (nf := nf) (ni := ni) S1
      rw [e1] at R1 N1
      exact ⟨rfl, o', pv', uv', nf, ni, _, v.lf, v.li, R1, e2, e3, N1, T1, .inr ⟨fb, ib, L1⟩, st.mono (by simp)⟩
  have HC := hid hc
  clear hc h hng hS hloc
  go_enter Ybaz.func99, Ybaz.ntmps99
  go_wp2_with (go_at_call 113; refine HC.out.mono ?_; rintro e w1 ⟨rfl, hpost⟩)
  go_end0
  exact ⟨⟨_, rfl⟩, hpost⟩

set_option maxHeartbeats 1000000 in
/-- s.cleared(), where every candidate is granted. -/
theorem cleared_yes (o : Nat → Nat) (W : World) (R S : Nat) (s : RS) (pv uv : Value) (h : RAt o W R s pv uv) (g : GS) (v : VSt) (cs : List Nat) (sl : Nat → Int) (sb : Nat) (hS : SAt o W S v g R cs sl sb) (hsN : s.N = g.n) (hn : g.n ≤ 300) (hcs : ∀ q ∈ cs, q < g.n) (hc0 : 0 < cs.length) (hcl : cs.length ≤ 300) (hgr : ∀ q ∈ cs, s.gr q = true) :
    Calls Ybaz.prog 102 #[.pointer (some ⟨S, 0, none⟩)] W fun e w' => e = .returned (.bool true) ∧ w' = W := by
  obtain ⟨cb, cap, hcv, hc1, hc2, htc, hltc⟩ := hS.cands.some_of (by rw [ints_length]; exact hc0)
  rw [ints_length] at hcv hc1
  have hcc : ∀ i (hi : i < cs.length), W.cell? ⟨cb, i, none⟩ = some (.int .i64 (cs[i] : Int)) := by
    intro i hi
    have hh := hS.cands
    rw [hcv] at hh
    have e := ints_length cs
    rw [← e] at hh
    rw [hh.cell i (by rw [ints_length]; exact hi)]
    simp [ints]
  have x3 : W.cell? ⟨S, 7, none⟩ = some (.slice (some ⟨cb, 0, none⟩) cs.length cap) := by rw [← hcv]; exact hS.ob.cell 7
  have x2 : W.cell? ⟨S, 1, none⟩ = some (.pointer (some ⟨R, 0, none⟩)) := by rw [← hS.hR]; exact hS.ob.cell 1
  have x5 : W.cell? ⟨R, 5, none⟩ = some (.slice (some ⟨s.gb, 0, none⟩) s.N s.N) := h.ob.cell 5
  have hg := fun q (hq : q < s.N) => h.gr.cell q hq
  clear h hS
  go_enter Ybaz.func102, Ybaz.ntmps102
  go_wp2
  go_loopw [10] (fun j wr => ∃ k : Nat, k ≤ cs.length ∧ j = .int .i64 (k : Int) ∧ wr = W) (fun j _ => cs.length - (intOf j).toNat)
  case atStart => exact ⟨0, Nat.zero_le _, rfl, rfl⟩
  case round =>
    obtain ⟨k, hk, rfl, rfl⟩ := hrel
    by_cases hlt : k < cs.length
    · have hm := List.getElem_mem hlt
      have c1 := hcc k hlt
      have c2 := hg cs[k] (by rw [hsN]; exact hcs _ hm)
      rw [hgr _ hm] at c2
      have b1 : (k : Int) < (cs.length : Int) := by omega
      have b2 : (cs[k] : Int) < (s.N : Int) := by have := hcs _ hm; omega
      go_wp2
      go_roundw
      case rel => exact ⟨k + 1, by omega, by go_num, trivial⟩
      case measure => simp [intOf]; omega
    · have b1 : ¬ (k : Int) < (cs.length : Int) := by omega
      go_wp2
      go_ret
      exact ⟨rfl, rfl⟩
end Go.Proofs.YbulkbmdoGreat
