/-
  Plain: the law's model against the reduction's.
-/
import Derived.Test.YbulkbmdoGreatL5
import Derived.Test.YbulkbmdoGreatN4
import Derived.Test.YbulkbmdoGreatSortB
import Derived.Test.YbulkbmdoGreatDead
namespace Go.Proofs.YbulkbmdoGreat
open Go.RowKit
set_option linter.unusedVariables false

/-! ### The ids -/
theorem jof_inj {sd a b : Nat} (ha : a ≤ 300) (hb : b ≤ 300) (h : jof sd a = jof sd b) : a = b := by
  unfold jof at h; omega
theorem idb_inj {a b : Nat} (ha : a < 676) (hb : b < 676) (h : idb a = idb b) : a = b := by
  unfold idb at h
  have h1 : (#[UInt8.ofNat (97 + a / 26), UInt8.ofNat (97 + a % 26)] : Array UInt8) = #[UInt8.ofNat (97 + b / 26), UInt8.ofNat (97 + b % 26)] := congrArg ByteArray.data h
  simp only [Array.mk.injEq, List.cons.injEq, and_true] at h1
  have h2 := congrArg UInt8.toNat h1.1
  have h3 := congrArg UInt8.toNat h1.2
  simp at h2 h3
  omega
theorem idb_ne (j : Nat) : (idb j).toList ≠ [] := by rw [ByteArray.toList_eq]; exact List.cons_ne_nil _ _
theorem tilde_ne : tilde.toList ≠ [] := by rw [ByteArray.toList_eq]; exact List.cons_ne_nil _ _
theorem mapF_lt {sd : Nat} {s : ByteArray} {p : Nat} : ∀ {k}, mapF sd k s = some p → p < k
  | 0, h => by simp [mapF] at h
  | k + 1, h => by
    simp only [mapF] at h
    split at h
    · cases h; omega
    · have := mapF_lt h; omega
theorem mapF_at {sd : Nat} {c : Nat} : ∀ {k}, k ≤ 300 → c < k → mapF sd k (idb (jof sd c)) = some c
  | k + 1, hk, h => by
    simp only [mapF]
    by_cases e : c = k
    · subst e; rw [if_pos rfl]
    · rw [if_neg (fun he => e (jof_inj (by omega) (by omega) (idb_inj (jof_lt _ _) (jof_lt _ _) he)))]
      exact mapF_at (by omega) (by omega)
theorem mapF_tilde {sd : Nat} : ∀ k, mapF sd k tilde = none
  | 0 => rfl
  | k + 1 => by
    simp only [mapF]
    rw [if_neg (fun he => by have := congrArg ByteArray.size he; rw [idb_size] at this; exact absurd this (by decide))]
    exact mapF_tilde k
theorem posF_at {sd c : Nat} : ∀ {k}, k ≤ 300 → c < k → posF sd k (jof sd c) = (c : Int)
  | k + 1, hk, h => by
    simp only [posF]
    by_cases e : c = k
    · subst e; rw [if_pos rfl]
    · rw [if_neg (fun he => e (jof_inj (by omega) (by omega) he))]
      exact posF_at (by omega) (by omega)
theorem posF_or {sd j : Nat} : ∀ k, posF sd k j < 0 ∨ ∃ p, p < k ∧ posF sd k j = (p : Int) ∧ jof sd p = j
  | 0 => .inl (by simp [posF])
  | k + 1 => by
    simp only [posF]
    by_cases e : j = jof sd k
    · rw [if_pos e]; exact .inr ⟨k, by omega, rfl, e.symm⟩
    · rw [if_neg e]
      rcases posF_or k with h | ⟨p, h1, h2, h3⟩
      · exact .inl h
      · exact .inr ⟨p, by omega, h2, h3⟩
def kyF (sd p : Nat) : Nat := kv (97 + jof sd p / 26) (97 + jof sd p % 26) 8
theorem kyF_lt (sd x y : Nat) : kyF sd x < kyF sd y ↔ jof sd x < jof sd y := by
  have h1 := jof_lt sd x
  have h2 := jof_lt sd y
  unfold kyF kv
  rw [Nat.mul_lt_mul_right (by decide)]
  omega
theorem kyF_id (sd p : Nat) : ∃ x y : UInt8, idb (jof sd p) = ⟨#[x, y]⟩ ∧ kyF sd p = kv x.toNat y.toNat 8 := by
  refine ⟨_, _, rfl, ?_⟩
  have h1 := jof_lt sd p
  have e1 : (UInt8.ofNat (97 + jof sd p / 26)).toNat = 97 + jof sd p / 26 := by simp; omega
  have e2 : (UInt8.ofNat (97 + jof sd p % 26)).toNat = 97 + jof sd p % 26 := by simp; omega
  rw [e1, e2]; rfl

/-! ### The leaves -/
def wpl (cd : Nat → Nat) (n : Nat) : List Nat := (List.range n).filter fun i => cd i != n
def wpF (cd : Nat → Nat) (n i : Nat) : Nat := (wpl cd n).getD i 0
theorem wpl_len (cd : Nat → Nat) (n : Nat) : (wpl cd n).length = ct cd n n := rfl
theorem wpF_get {cd : Nat → Nat} {n i : Nat} (h : i < ct cd n n) : ∃ h' : i < (wpl cd n).length, wpF cd n i = (wpl cd n)[i] :=
  ⟨h, by unfold wpF; rw [List.getD_eq_getElem?_getD, List.getElem?_eq_getElem (by rw [wpl_len]; exact h)]; rfl⟩
theorem wpF_mem {cd : Nat → Nat} {n i : Nat} (h : i < ct cd n n) : wpF cd n i < n ∧ cd (wpF cd n i) ≠ n := by
  obtain ⟨h', e⟩ := wpF_get h
  rw [e]
  have h2 : (wpl cd n)[i] ∈ (List.range n).filter fun i => cd i != n := List.getElem_mem h'
  have h3 := List.mem_filter.1 h2
  exact ⟨List.mem_range.1 h3.1, by simpa using h3.2⟩
theorem wpF_ct {cd : Nat → Nat} {n p : Nat} (hp : p < n) (hc : cd p ≠ n) : ct cd n p < ct cd n n ∧ wpF cd n (ct cd n p) = p := by
  have hs := ct_succ cd n p
  rw [if_neg hc] at hs
  have hpre : ((List.range (p + 1)).filter fun i => cd i != n) <+: wpl cd n := by
    unfold wpl
    have e : List.range n = List.range (p + 1) ++ (List.range (n - (p + 1))).map (fun x => p + 1 + x) := by
      rw [← List.range_add, Nat.add_sub_cancel' (by omega)]
    rw [e, List.filter_append]
    exact List.prefix_append _ _
  have hl : ct cd n p < ((List.range (p + 1)).filter fun i => cd i != n).length := by
    have : ((List.range (p + 1)).filter fun i => cd i != n).length = ct cd n (p + 1) := rfl
    rw [this, hs]; omega
  have h1 : ct cd n p < ct cd n n := Nat.lt_of_lt_of_le hl hpre.length_le
  refine ⟨h1, ?_⟩
  obtain ⟨h', e⟩ := wpF_get h1
  rw [e, ← hpre.getElem hl]
  have e2 : ((List.range (p + 1)).filter fun i => cd i != n) = ((List.range p).filter fun i => cd i != n) ++ [p] := by
    rw [List.range_succ, List.filter_append]; simp [hc]
  simp only [e2]
  have : ct cd n p = ((List.range p).filter fun i => cd i != n).length := rfl
  simp [this]

/-! ### What waits on what -/
def nxoF (cd : Nat → Nat) (n i : Nat) : Option Nat := if i < n ∧ cd i < n then some (cd i) else none
theorem nxo_some {cd : Nat → Nat} {n i q : Nat} : nxoF cd n i = some q ↔ i < n ∧ cd i < n ∧ cd i = q := by
  unfold nxoF
  split
  · rename_i h; simp [h]
  · rename_i h; simp; intro a b; exact absurd ⟨a, b⟩ h
theorem nxo_none {cd : Nat → Nat} {n i : Nat} (hi : i < n) : nxoF cd n i = none ↔ n ≤ cd i := by
  unfold nxoF
  split
  · rename_i h; simp; exact h.2
  · rename_i h; simp; exact Nat.le_of_not_lt fun h2 => h ⟨hi, h2⟩
theorem nxq (cd : Nat → Nat) (n : Nat) : NxQ n (nxf cd n) (nxoF cd n) := by
  refine ⟨fun i hi h => ?_, fun i q hi h => ?_, fun i q h => ?_⟩
  · have := (nxo_none hi).1 h
    unfold nxf
    split
    · omega
    · rw [if_neg (by omega)]; omega
  · obtain ⟨h1, h2, h3⟩ := nxo_some.1 h
    unfold nxf
    rw [if_neg (by omega), if_pos h2, h3]
  · obtain ⟨h1, h2, h3⟩ := nxo_some.1 h
    omega

/-- What the leaf i names, and what it comes to. -/
def tgF (sd : Nat) (cd : Nat → Nat) (n i : Nat) : Option Nat :=
  match mapF sd n (tdf cd (fun i => idb (jof sd i)) n (wpF cd n i)) with
  | some p => if 0 ≤ rtf cd n p then some p else none
  | none => none
theorem rtf_pos {cd : Nat → Nat} {n p : Nat} : 0 ≤ rtf cd n p ↔ cd p ≠ n := by
  unfold rtf
  split
  · rename_i h; simp [h]
  · rename_i h; simp [h]
theorem tgF_at {sd : Nat} {cd : Nat → Nat} {n i : Nat} (hn : n ≤ 300) : tgF sd cd n i = if cd (wpF cd n i) < n ∧ cd (cd (wpF cd n i)) ≠ n then some (cd (wpF cd n i)) else none := by
  unfold tgF tdf
  by_cases h : cd (wpF cd n i) < n
  · rw [if_pos h, mapF_at hn h]
    by_cases h2 : cd (cd (wpF cd n i)) ≠ n
    · rw [if_pos ⟨h, h2⟩]; simp only [rtf_pos.2 h2, if_true]
    · rw [if_neg (fun hh => h2 hh.2)]
      have : ¬ 0 ≤ rtf cd n (cd (wpF cd n i)) := fun hh => h2 (rtf_pos.1 hh)
      simp only [this, if_false]
  · rw [if_neg h, mapF_tilde, if_neg (fun hh => h hh.1)]

theorem chain_one {f : Nat → Option Nat} {p : Nat} (h : f p = none) : chain f 1 p = none := by
  rw [chain_succ, h]; rfl
/-- The reduction leaves exactly the deadlocked. -/
theorem dead_iff {sd n : Nat} {cd : Nat → Nat} {g : GS} {gr : Nat → Bool} (hn : n ≤ 300) (hc : ∀ i, cd i ≤ n + 1) (gn : g.n = n) (gM : g.M = ct cd n n) (gw : g.wp = wpF cd n) (gr0 : g.root = rtf cd n) (h : GRed g (tgF sd cd n) gr) (p : Nat) : (p < g.n ∧ dq g gr p = true) ↔ dd n (nxoF cd n) p := by
  have hq := nxq cd n
  have hs : gr p = true → ∃ k, chain (nxoF cd n) k p = none := fun hp => by
    refine h.sound (fun p => ∃ k, chain (nxoF cd n) k p = none) (fun i hi ht => ?_) (fun i q hi ht hq2 => ?_) p hp
    · rw [gM] at hi
      obtain ⟨w1, w2⟩ := wpF_mem hi
      rw [gw]
      rw [tgF_at hn] at ht
      by_cases h1 : cd (wpF cd n i) < n
      · have h2 : cd (cd (wpF cd n i)) = n := Classical.byContradiction fun h2 => by rw [if_pos ⟨h1, h2⟩] at ht; cases ht
        refine ⟨2, ?_⟩
        rw [chain_succ, nxo_some.2 ⟨w1, h1, rfl⟩]
        exact chain_one ((nxo_none h1).2 (by omega))
      · exact ⟨1, chain_one ((nxo_none w1).2 (by omega))⟩
    · rw [gM] at hi
      obtain ⟨w1, w2⟩ := wpF_mem hi
      rw [gw]
      rw [tgF_at hn] at ht
      obtain ⟨k, hk⟩ := hq2
      split at ht
      · rename_i hh
        cases ht
        refine ⟨k + 1, ?_⟩
        rw [chain_succ, nxo_some.2 ⟨w1, hh.1, rfl⟩]
        exact hk
      · cases ht
  have hc2 : ∀ k p, p < n → cd p ≠ n → chain (nxoF cd n) k p = none → gr p = true := by
    intro k
    induction k with
    | zero => intro p _ _ h0; simp [chain] at h0
    | succ k ih =>
      intro p hp hcp h0
      obtain ⟨l1, l2⟩ := wpF_ct hp hcp
      have hl : ct cd n p < g.M := by rw [gM]; exact l1
      have ew : g.wp (ct cd n p) = p := by rw [gw]; exact l2
      rw [chain_succ] at h0
      have et : tgF sd cd n (ct cd n p) = if cd p < n ∧ cd (cd p) ≠ n then some (cd p) else none := by rw [tgF_at hn, l2]
      by_cases h1 : cd p < n
      · rw [nxo_some.2 ⟨hp, h1, rfl⟩] at h0
        by_cases h2 : cd (cd p) ≠ n
        · rw [if_pos ⟨h1, h2⟩] at et
          have := h.up _ _ hl et (ih (cd p) h1 h2 h0)
          rwa [ew] at this
        · rw [if_neg (fun hh => h2 hh.2)] at et
          have := h.base _ hl et
          rwa [ew] at this
      · rw [if_neg (fun hh => h1 hh.1)] at et
        have := h.base _ hl et
        rwa [ew] at this
  constructor
  · rintro ⟨h1, h2⟩
    rw [gn] at h1
    unfold dq at h2
    rw [gr0] at h2
    simp at h2
    exact ⟨h1, fun he => by have := hc2 n p h1 (rtf_pos.1 h2.1) he; rw [this] at h2; simp at h2⟩
  · intro hd
    refine ⟨by rw [gn]; exact hd.1, ?_⟩
    unfold dq
    rw [gr0]
    have h1 := dd_all hq hd 1
    have h2 : cd p < n := Classical.byContradiction fun hh => h1 (chain_one ((nxo_none hd.1).2 (by omega)))
    have h3 : gr p ≠ true := fun hp => by
      obtain ⟨k, hk⟩ := hs hp
      exact dd_all hq hd k hk
    have h4 := rtf_pos.2 (show cd p ≠ n by omega)
    simp [h4, h3]
theorem gp_of {sd n : Nat} {cd : Nat → Nat} {g : GS} {gr : Nat → Bool} (hn : n ≤ 300) (hc : ∀ i, cd i ≤ n + 1) (gn : g.n = n) (gM : g.M = ct cd n n) (gw : g.wp = wpF cd n) (gr0 : g.root = rtf cd n) (gf : g.fin = fnf cd n) (gt : g.tid = fun i => tdf cd (fun i => idb (jof sd i)) n (wpF cd n i)) (h : GRed g (tgF sd cd n) gr) :
    GP g (tgF sd cd n) (fun p => p < g.n ∧ dq g gr p = true) (nxg (nxoF cd n)) (fun p => ct cd n p) (jof sd) := by
  have hq := nxq cd n
  have e : (fun p => p < g.n ∧ dq g gr p = true) = dd n (nxoF cd n) := by funext p; exact propext (dead_iff hn hc gn gM gw gr0 h p)
  rw [e]
  have hdw := dd_dw hq (jof sd) (fun a b ha hb hj => jof_inj (by omega) (by omega) hj)
  refine ⟨by rw [gn]; exact hdw, fun p hp => ?_, fun i q hi ht hd => ?_⟩
  · have h1 := dd_all hq hp 1
    have h2 : cd p < n := Classical.byContradiction fun hh => h1 (chain_one ((nxo_none hp.1).2 (by omega)))
    have hx : nxg (nxoF cd n) p = cd p := by unfold nxg; rw [nxo_some.2 ⟨hp.1, h2, rfl⟩]; rfl
    have hd2 := hdw.nx p hp
    rw [hx] at hd2
    have h3 := dd_all hq hd2 1
    have h4 : cd (cd p) < n := Classical.byContradiction fun hh => h3 (chain_one ((nxo_none hd2.1).2 (by omega)))
    obtain ⟨l1, l2⟩ := wpF_ct hp.1 (show cd p ≠ n by omega)
    refine ⟨⟨?_, ?_, by rw [gM]; exact l1, ?_, by rw [gw]; exact l2⟩, ?_⟩
    · rw [gr0]; unfold rtf; rw [if_neg (by omega)]
    · rw [gf]; unfold fnf; rw [if_neg (by omega)]
    · rw [tgF_at hn, l2, if_pos ⟨h2, by omega⟩, hx]
    · rw [gt]
      show (tdf cd (fun i => idb (jof sd i)) n (wpF cd n (ct cd n p))).toList ≠ []
      rw [l2]; unfold tdf; rw [if_pos h2]; exact idb_ne _
  · rw [gM] at hi
    rw [gw]
    obtain ⟨w1, w2⟩ := wpF_mem hi
    rw [tgF_at hn] at ht
    split at ht
    · rename_i hh
      cases ht
      have hx := nxo_some.2 ⟨w1, hh.1, rfl⟩
      refine ⟨⟨w1, fun he => ?_⟩, by unfold nxg; rw [hx]; rfl⟩
      have := chain_none he 1
      rw [chain_succ, hx] at this
      exact hd.2 this
    · cases ht
end Go.Proofs.YbulkbmdoGreat
