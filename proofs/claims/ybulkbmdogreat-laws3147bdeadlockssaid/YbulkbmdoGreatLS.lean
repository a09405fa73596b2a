/-
  What deadlocks answers is what the law wants.
-/
import Derived.Test.YbulkbmdoGreatLR
import Derived.Test.YbulkbmdoGreatSm
namespace Go.Proofs.YbulkbmdoGreat
open Go.RowKit
set_option linter.unusedVariables false

theorem vF_dead {n : Nat} {nxo : Nat → Option Nat} {j : Nat → Nat} {p : Nat} (h : dd n nxo p) : vF n nxo j p = (vic n (nxg nxo) j p : Int) := by unfold vF; rw [if_pos h]
theorem vF_not {n : Nat} {nxo : Nat → Option Nat} {j : Nat → Nat} {p : Nat} (h : ¬ dd n nxo p) : vF n nxo j p = -1 := by unfold vF; rw [if_neg h]
theorem t9_no {t : Nat} (h : 900 ≤ t) : t ∉ T9 := by unfold T9; simp; omega

/-- The dead in byte order: one list. -/
theorem dl_eq {sd n : Nat} {cd : Nat → Nat} {g : GS} {gr : Nat → Bool} (hn : n ≤ 300) (hc : ∀ i, cd i ≤ n + 1) (gn : g.n = n) (gM : g.M = ct cd n n) (gw : g.wp = wpF cd n) (gr0 : g.root = rtf cd n) (h : GRed g (tgF sd cd n) gr)
    {dl : List Nat} (hp : dl.Perm (fl g gr g.n)) (hs : dl.Pairwise fun a b => jof sd a ≤ jof sd b) :
    dl = wl (posF sd n) (vF n (nxoF cd n) (jof sd)) 676 ∧ dl.Nodup ∧ ∀ p, p ∈ dl ↔ dd n (nxoF cd n) p := by
  have hm : ∀ p, p ∈ dl ↔ dd n (nxoF cd n) p := fun p => by
    rw [hp.mem_iff, fl_mem]
    exact dead_iff hn hc gn gM gw gr0 h p
  have hnd : dl.Nodup := hp.nodup_iff.2 (List.nodup_range.filter _)
  refine ⟨sorted_eq (jof sd) _ _ ?_ (wl_sorted hn 676) fun x => ?_, hnd, hm⟩
  · refine (hs.and hnd).imp_of_mem fun {a b} ha hb hh => ?_
    have h1 := ((hm a).1 ha).1
    have h2 := ((hm b).1 hb).1
    have h3 : jof sd a ≠ jof sd b := fun e => hh.2 (jof_inj (by omega) (by omega) e)
    have := hh.1
    omega
  · rw [wl_mem hn, hm]
    constructor
    · intro hd
      refine ⟨hd.1, ?_, jof_lt _ _⟩
      rw [vF_dead hd]; omega
    · rintro ⟨_, h2, _⟩
      exact Classical.byContradiction fun hd => by rw [vF_not hd] at h2; omega

theorem ks_pos {f : Nat → Nat} {l : List Nat} (h : l ≠ []) : 0 < (ks f l).length := by
  obtain ⟨x, r, rfl⟩ := List.exists_cons_of_ne_nil h
  exact List.length_pos_of_mem ((ks_mem f (x :: r) (f x)).2 ⟨x, by simp, rfl⟩)
theorem mem_pos {f : Nat → Nat} {l : List Nat} {i : Nat} (hi : i < (ks f l).length) : 0 < (mem f (ks f l) i l).length := by
  obtain ⟨p, hp, he⟩ := (ks_mem f l (ks f l)[i]).1 (List.getElem_mem hi)
  refine List.length_pos_of_mem (a := p) ?_
  unfold mem
  rw [List.mem_filter, he, (ks_nodup f l).idxOf_getElem i hi]
  exact ⟨hp, by simp⟩
theorem str_at {o : Nat → Nat} {W : World} {t : Nat} {v : Value} {id : Nat → ByteArray} {L : List Nat} (h : Sl o W t 32 v (L.map fun p => .string (id p))) (hL : 0 < L.length) : ∃ b cap, v = .slice (some ⟨b, 0, none⟩) L.length cap ∧ ∀ q, q < L.length → W.cell? ⟨b, q, none⟩ = some (.string (id (L.getD q 0))) := by
  obtain ⟨b, cap, e, _⟩ := h.some_of (by simpa using hL)
  subst e
  refine ⟨b, cap, by simp, fun q hq => ?_⟩
  have := h.cell q (by simpa using hq)
  rw [this]
  simp [List.getElem?_eq_getElem hq]

theorem same_of {sd n : Nat} {cd : Nat → Nat} {g : GS} {s : RS} (hn : n ≤ 300) (hc : ∀ i, cd i ≤ n + 1) (gn : g.n = n) (gM : g.M = ct cd n n) (gp : g.pid = fun i => idb (jof sd i)) (gw : g.wp = wpF cd n) (gr0 : g.root = rtf cd n) (h : GRed g (tgF sd cd n) s.gr)
    {o : Nat → Nat} {w : World} {ab : Nat} {wv : Value} {mv vv : Nat → Value} (L : L15 o w (fun i => idb (jof sd i)) n ab (fun p => (vF n (nxoF cd n) (jof sd) p).toNat) wv (ks (fun p => (vF n (nxoF cd n) (jof sd) p).toNat) (wl (posF sd n) (vF n (nxoF cd n) (jof sd)) 676)) (wl (posF sd n) (vF n (nxoF cd n) (jof sd)) 676) mv vv)
    {rb rc K : Nat} {w' : World} (hne : fl g s.gr g.n ≠ []) (hD : DeadR g s (nxg (nxoF cd n)) (jof sd) o w rb rc K w') :
    ∃ wb wc, wv = .slice (some ⟨wb, 0, none⟩) K wc ∧ 0 < K ∧ K ≤ 1000 ∧ Same3 w' wb rb K := by
  obtain ⟨o', dl, rt, vq, mv', vv', hperm, hsort, hrt, hvq, hK, hS3, hmv, hvv, hst⟩ := hD
  obtain ⟨hdl, hnd, hm⟩ := dl_eq hn hc gn gM gw gr0 h hperm hsort
  have hdne : dl ≠ [] := fun e => hne (by rw [e] at hperm; exact hperm.nil_eq.symm)
  have hlen : dl.length ≤ 676 := by rw [hdl]; exact wl_len _ _ _
  rw [← hdl] at L
  have hdw := dd_dw (nxq cd n) (jof sd) (fun a b ha hb hj => jof_inj (by omega) (by omega) hj)
  obtain ⟨vn, hvn⟩ : ∃ vn, (fun p => (vF n (nxoF cd n) (jof sd) p).toNat) = vn := ⟨_, rfl⟩
  have hvd : ∀ p ∈ dl, vn p = vic n (nxg (nxoF cd n)) (jof sd) p := fun p hp => by
    rw [← hvn]
    show (vF n (nxoF cd n) (jof sd) p).toNat = _
    rw [vF_dead ((hm p).1 hp)]; simp
  rw [hvn] at L
  rw [gn] at hrt hvq
  have hpart : ∀ p ∈ dl, ∀ q ∈ dl, rt p = rt q ↔ vn p = vn q := fun p hp q hq => by rw [hrt p hp q hq, hvd p hp, hvd q hq]
  have hvc : ∀ p ∈ dl, vn p ∈ dl ∧ vn (vn p) = vn p := fun p hp => by
    have h1 := hdw.vic_dead ((hm p).1 hp)
    have h2 := (hm _).2 h1
    rw [hvd p hp]
    exact ⟨h2, by rw [hvd _ h2]; exact hdw.vic_vic ((hm p).1 hp)⟩
  have hKk : K = (ks vn dl).length := hK.trans (ks_same_len hpart)
  have hK0 : 0 < K := by rw [hKk]; exact ks_pos hdne
  have hK1 : K ≤ 676 := by rw [hKk]; exact Nat.le_trans (ks_len _ _) hlen
  have L' := L.step hst (t9_no (by omega)) (fun i _ => t9_no (by omega)) (t9_no (by omega)) (t9_no (by omega))
  have hds := L'.ds
  rw [← hKk] at hds
  obtain ⟨wb, wc, e, _⟩ := hds.some_of hK0
  subst e
  refine ⟨wb, wc, rfl, hK0, by omega, ⟨fun i hi => ?_⟩⟩
  have hi' : i < (ks vn dl).length := by omega
  obtain ⟨x1, x2, x3⟩ := D3_at mv vv K i hi
  obtain ⟨x4, x5, x6⟩ := D3_at mv' vv' K i hi
  have m1 : Sl o' w' (1100 + i) 32 (mv i) ((mem vn (ks vn dl) i dl).map fun p => .string (idb (jof sd p))) := L'.ms i hi'
  have m2 := hmv i hi
  rw [mem_same hpart (fun p hp => hp) i] at m2
  have m2' : Sl o' w' (200 + 2 * i) 32 (mv' i) ((mem vn (ks vn dl) i dl).map fun p => .string (idb (jof sd p))) := by
    unfold strs at m2; rw [gp] at m2; exact m2
  have v2 := hvv i hi
  rw [mem_same hpart (fun p hp => (List.mem_filter.1 hp).1) i, vics_one hnd (fun p hp => by rw [hvq p hp, hvd p hp]) hvc hi'] at v2
  have v2' : Sl o' w' (201 + 2 * i) 32 (vv' i) ([(ks vn dl).getD i 0].map fun p => .string (idb (jof sd p))) := by
    unfold strs at v2; rw [gp] at v2; exact v2
  obtain ⟨c, ec, obc⟩ := L'.vs i hi'
  obtain ⟨a, ca, ea, hca⟩ := str_at (id := fun p => idb (jof sd p)) m1 (mem_pos hi')
  obtain ⟨b, cb, eb, hcb⟩ := str_at (id := fun p => idb (jof sd p)) m2' (mem_pos hi')
  obtain ⟨d, cd', ed, hcd⟩ := str_at (id := fun p => idb (jof sd p)) v2' (by simp)
  rw [ea] at x1
  rw [ec] at x2
  rw [eb] at x4
  rw [ed] at x5
  have ml := mem_len vn (ks vn dl) i dl
  refine ⟨a, b, c, d, (mem vn (ks vn dl) i dl).length, 1, ca, cb, 1, cd', fun q => idb (jof sd ((mem vn (ks vn dl) i dl).getD q 0)), fun q => idb (jof sd ((ks vn dl).getD i 0)), by omega, by omega, (hds.cell _ (by omega)).trans x1, (hds.cell _ (by omega)).trans x2, (hds.cell _ (by omega)).trans x3, (hS3.cell _ (by omega)).trans x4, (hS3.cell _ (by omega)).trans x5, (hS3.cell _ (by omega)).trans x6, hca, hcb, fun q hq => ?_, fun q hq => ?_⟩
  · obtain rfl : q = 0 := by omega
    exact obc.cell 0
  · obtain rfl : q = 0 := by omega
    exact hcd 0 (by simp)

/-- Nobody dead: nothing is wanted. -/
theorem none_of {sd n : Nat} {cd : Nat → Nat} {g : GS} {gr : Nat → Bool} (hn : n ≤ 300) (hc : ∀ i, cd i ≤ n + 1) (gn : g.n = n) (gM : g.M = ct cd n n) (gw : g.wp = wpF cd n) (gr0 : g.root = rtf cd n) (h : GRed g (tgF sd cd n) gr)
    {o : Nat → Nat} {w : World} {ab : Nat} {wv : Value} {vn : Nat → Nat} {mv vv : Nat → Value} (L : L15 o w (fun i => idb (jof sd i)) n ab vn wv (ks vn (wl (posF sd n) (vF n (nxoF cd n) (jof sd)) 676)) (wl (posF sd n) (vF n (nxoF cd n) (jof sd)) 676) mv vv)
    (he : fl g gr g.n = []) : ∃ a cap, wv = .slice a 0 cap := by
  obtain ⟨hdl, -⟩ := dl_eq (dl := []) hn hc gn gM gw gr0 h (by rw [he]) List.Pairwise.nil
  have hds := L.ds
  rw [← hdl] at hds
  rcases hds.row.2 with ⟨rfl, _⟩ | ⟨b, cap, cur, rfl, _⟩
  · exact ⟨_, _, rfl⟩
  · exact ⟨_, _, rfl⟩
end Go.Proofs.YbulkbmdoGreat
