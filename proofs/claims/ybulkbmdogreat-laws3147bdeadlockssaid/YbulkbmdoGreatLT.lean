/-
  The law's two calls: the reduction, then deadlocks.
-/
import Derived.Test.YbulkbmdoGreatLS
import Derived.Test.YbulkbmdoGreatDead0
namespace Go.Proofs.YbulkbmdoGreat
open Go.RowKit
set_option linter.unusedVariables false

theorem both_calls {sd n : Nat} {cd : Nat → Nat} {g : GS} {o : Nat → Nat} {w : World} {ab : Nat} {wv : Value} {mv vv : Nat → Value} (hn : n ≤ 300) (hc : ∀ i, cd i ≤ n + 1)
    (gn : g.n = n) (gM : g.M = ct cd n n) (gp : g.pid = fun i => idb (jof sd i)) (gr0 : g.root = rtf cd n) (gf : g.fin = fnf cd n) (gt : g.tid = fun i => tdf cd (fun i => idb (jof sd i)) n (wpF cd n i)) (gw : g.wp = wpF cd n) (hnc : g.M ≤ g.ncap) (hncm : g.ncap ≤ 9223372036854775807)
    (ga : GAt o w g) (hm : MP w g.mb n (mapF sd n)) (tm : o g.mb = 13)
    (L : L15 o w (fun i => idb (jof sd i)) n ab (fun p => (vF n (nxoF cd n) (jof sd) p).toNat) wv (ks (fun p => (vF n (nxoF cd n) (jof sd) p).toNat) (wl (posF sd n) (vF n (nxoF cd n) (jof sd)) 676)) (wl (posF sd n) (vF n (nxoF cd n) (jof sd)) 676) mv vv) :
    Calls Ybaz.prog 6 #[.pointer (some ⟨g.G, 0, none⟩)] w fun e w1 => ∃ R, e = .returned (.pointer (some ⟨R, 0, none⟩)) ∧ Calls Ybaz.prog 7 #[.pointer (some ⟨R, 0, none⟩)] w1 fun e2 w2 => ∃ gv, e2 = .returned gv ∧ (∃ o', Step T9 o w o' w2) ∧
      (((∃ a cap, wv = .slice a 0 cap) ∧ gv = .slice none 0 0) ∨ ∃ wb wc rb rc K, wv = .slice (some ⟨wb, 0, none⟩) K wc ∧ gv = .slice (some ⟨rb, 0, none⟩) K rc ∧ 0 < K ∧ K ≤ 1000 ∧ Same3 w2 wb rb K) := by
  have hct := ct_le cd n n
  have hwp : ∀ i, i < g.M → g.wp i < g.n := fun i hi => by rw [gw, gn]; rw [gM] at hi; exact (wpF_mem hi).1
  have htn : ∀ i p, tgF sd cd n i = some p → p < g.n := fun i p h => by
    rw [gn]
    unfold tgF at h
    split at h
    · rename_i q hq
      split at h
      · cases h; exact mapF_lt hq
      · cases h
    · cases h
  refine (newRed_any o w g n (mapF sd n) (tgF sd cd n) ga (by omega) (by omega) hm tm (fun i hi => ?_) (fun i p hi h => by rw [gn]; exact mapF_lt h) (fun i hi => by rw [gt, gr0]; rfl) htn hwp).mono ?_
  · rw [gt]
    show (tdf cd (fun i => idb (jof sd i)) n (wpF cd n i)).size ≤ 2 ∧ (tdf cd (fun i => idb (jof sd i)) n (wpF cd n i)).toList ≠ []
    unfold tdf
    split
    · exact ⟨by rw [idb_size]; omega, idb_ne _⟩
    · exact ⟨by decide, tilde_ne⟩
  rintro e w1 ⟨o1, R, s, pv, uv, rfl, hC, hNG, hmk, hun, hpe, hred, st1⟩
  refine ⟨R, rfl, ?_⟩
  have L1 := L.step st1 (by simp) (fun i _ => by simp; omega) (by simp) (by simp)
  have st1' : Step T9 o w o1 w1 := st1.mono (by unfold T9; simp)
  by_cases hn0 : n = 0
  · refine (deadlocks_zero o1 w1 R g s pv uv hC (gn.trans hn0)).mono ?_
    rintro e w2 ⟨rfl, o2, st2⟩
    exact ⟨_, rfl, ⟨o2, st1'.trans st2⟩, .inl ⟨none_of hn hc gn gM gw gr0 hred L1 (by rw [gn, hn0]; rfl), rfl⟩⟩
  · refine (deadlocks_any o1 w1 R g s pv uv (tgF sd cd n) (nxg (nxoF cd n)) (fun p => ct cd n p) (jof sd) (kyF sd) hC hNG ⟨by omega, by omega, by omega, fun p hp => ?_, fun p hp h0 => ?_⟩ (sort_ok g (kyF sd) (jof sd) (by omega) (fun x y _ _ => kyF_lt sd x y) (fun x y _ _ h => by rw [gp]; show idb (jof sd x) = idb (jof sd y); rw [h])) (fun p hp => by rw [gp]; exact kyF_id sd p) (gp_of hn hc gn gM gw gr0 gf gt hred) hwp htn hnc hncm hmk hun hpe).mono ?_
    · rw [gr0]
      have := ct_le cd n p
      unfold rtf
      split <;> omega
    · rw [gr0] at h0 ⊢
      rw [gf]
      have := rtf_pos.1 h0
      unfold rtf fnf
      rw [if_neg this, if_neg this]
    · rintro e w2 (⟨he, rfl, o2, st2⟩ | ⟨hne, rb, rc, K, rfl, hD⟩)
      · exact ⟨_, rfl, ⟨o2, st1'.trans st2⟩, .inl ⟨none_of hn hc gn gM gw gr0 hred L1 he, rfl⟩⟩
      · obtain ⟨wb, wc, e1, e2, e3, e4⟩ := same_of hn hc gn gM gp gw gr0 hred L1 hne hD
        obtain ⟨o2, _, _, _, _, _, _, _, _, _, _, _, _, _, st2⟩ := hD
        exact ⟨_, rfl, ⟨o2, st1'.trans st2⟩, .inr ⟨wb, wc, rb, rc, K, e1, rfl, e2, e3, e4⟩⟩
end Go.Proofs.YbulkbmdoGreat
