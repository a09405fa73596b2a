import Derived.Test.YbulkbmdoGreatReach
import Derived.Test.YbulkbmdoGreatOrb
namespace Go.Proofs.YbulkbmdoGreat
open Go.RowKit Go.Shelf
set_option linter.unusedVariables false

/-- What the walk hands out: a circle, or one that waits on what was handed out before. -/
structure VC (nx : Nat → Nat) (dead : Nat → Prop) (S comp : List Nat) : Prop where
  ne : 0 < comp.length
  nd : (S ++ comp).Nodup
  dd : ∀ v ∈ S ++ comp, dead v
  cl : ∀ v ∈ S, nx v ∈ S
  nxt : ∀ i (h : i + 1 < comp.length), comp[i + 1] = nx comp[i]
  last : (∃ h : 0 < comp.length, nx comp[comp.length - 1] = comp[0]) ∨ (∃ h : 0 < comp.length, comp.length = 1 ∧ nx comp[0] ∈ S)

/-- The path P that the walk stands on, S handed out. -/
structure Ph (n : Nat) (nx : Nat → Nat) (dead : Nat → Prop) (S P : List Nat) (m : CS) : Prop where
  nd : (S ++ P).Nodup
  dd : ∀ v ∈ S ++ P, dead v
  cl : ∀ v ∈ S, nx v ∈ S
  ne : 0 < P.length
  nxt : ∀ i (h : i + 1 < P.length), P[i + 1] = nx P[i]
  rc : m.rc = S.length + P.length
  ord : ∀ i (h : i < P.length), m.ord P[i] = S.length + i + 1
  vis : ∀ v, v < n → (m.ord v = 0 ↔ v ∉ S ++ P)

def gfr (fst : Nat → Nat) (l : List Nat) : List (Nat × Nat) := l.map fun v => (v, fst v + 1)

/-- On the way down: the last of the path has not been looked at. -/
structure P1 (n : Nat) (nx fst : Nat → Nat) (dead : Nat → Prop) (S Q : List Nat) (v : Nat) (m : CS) : Prop where
  ph : Ph n nx dead S (Q ++ [v]) m
  st : m.st = Q ++ [v]
  fr : m.fr = gfr fst Q ++ [(v, fst v)]
  on : ∀ x, x < n → m.on x = decide (x ∈ Q ++ [v])
  low : ∀ i (h : i < (Q ++ [v]).length), m.low (Q ++ [v])[i] = S.length + i + 1

/-- On the way up: c frames left, the circle begins at i. -/
structure P2 (n : Nat) (nx fst : Nat → Nat) (dead : Nat → Prop) (S P SS : List Nat) (i c : Nat) (m : CS) : Prop where
  ph : Ph n nx dead S P m
  fr : m.fr = gfr fst (P.take c)
  hc : c ≤ P.length
  hi : i < P.length
  low : ∀ j (h : j < P.length), j + 1 < c → m.low P[j] = S.length + j + 1
  down : c ≤ i → m.st = P.take c ∧ (∀ x, x < n → m.on x = decide (x ∈ P.take c)) ∧ (∀ h : c - 1 < P.length, 0 < c → m.low P[c - 1] = S.length + c) ∧ (∀ x, x ∈ SS ↔ x ∈ S ∨ x ∈ P.drop c) ∧ SS.length = S.length + (P.length - c) ∧ SS.Nodup
  up : i < c → m.st = P ∧ (∀ x, x < n → m.on x = decide (x ∈ P)) ∧ (∀ h : c - 1 < P.length, m.low P[c - 1] = S.length + i + 1) ∧ SS = S
  vc : VC nx dead S (P.drop i)

/-- Between two roots. -/
structure P0 (n : Nat) (nx : Nat → Nat) (dead : Nat → Prop) (S : List Nat) (m : CS) : Prop where
  nd : S.Nodup
  dd : ∀ v ∈ S, dead v
  cl : ∀ v ∈ S, nx v ∈ S
  st : m.st = []
  fr : m.fr = []
  rc : m.rc = S.length
  vis : ∀ v, v < n → (m.ord v = 0 ↔ v ∉ S)
  on : ∀ x, x < n → m.on x = false

variable {n : Nat} {nx fst : Nat → Nat} {dead : Nat → Prop} {S P SS Q : List Nat} {i c v : Nat} {m : CS}

def CS.reach (m : CS) (fst : Nat → Nat) (v : Nat) : CS := ⟨fun j => if j = v then m.rc + 1 else m.ord j, fun j => if j = v then m.rc + 1 else m.low j, fun j => if j = v then true else m.on j, m.st ++ [v], m.fr ++ [(v, fst v)], m.rc + 1⟩

theorem P0.reach (h : P0 n nx dead S m) (hv : dead v) (hvn : v < n) (hS : v ∉ S) : P1 n nx fst dead S [] v (m.reach fst v) := by
  refine ⟨⟨?_, ?_, h.cl, by simp, fun i hi => by simp at hi, by simp [CS.reach, h.rc], fun i hi => ?_, fun x hx => ?_⟩, ?_, ?_, fun x hx => ?_, fun i hi => ?_⟩
  · rw [List.nil_append, List.nodup_append]
    exact ⟨h.nd, by simp, fun a ha b hb => by rw [List.mem_singleton.1 hb]; exact fun e => hS (e ▸ ha)⟩
  · intro x hx
    rcases List.mem_append.1 hx with h1 | h1
    · exact h.dd x h1
    · have e : x = v := by simpa using h1
      rw [e]; exact hv
  · have : i = 0 := by simp at hi; omega
    subst this
    simp [CS.reach, h.rc]
  · show (if x = v then m.rc + 1 else m.ord x) = 0 ↔ _
    by_cases e : x = v
    · simp [e]
    · simp [e, h.vis x hx]
  · simp [CS.reach, h.st]
  · simp [CS.reach, h.fr, gfr]
  · show (if x = v then true else m.on x) = _
    by_cases e : x = v
    · simp [e]
    · simp [e, h.on x hx]
  · have : i = 0 := by simp at hi; omega
    subst this
    simp [CS.reach, h.rc]

theorem nodup_snoc {S P : List Nat} {w : Nat} (h : (S ++ P).Nodup) (hw : w ∉ S ++ P) : (S ++ (P ++ [w])).Nodup := by
  rw [← List.append_assoc, List.nodup_append]
  exact ⟨h, by simp, fun a ha b hb => by rw [List.mem_singleton.1 hb]; exact fun e => hw (e ▸ ha)⟩

/-- The frame's edge is taken, the next one is new. -/
theorem P1.reach (h : P1 n nx fst dead S Q v m) (hd : dead (nx v)) (hvn : nx v < n) (hw : nx v ∉ S ++ (Q ++ [v])) (hlt : ∀ x, dead x → x < n) : P1 n nx fst dead S (Q ++ [v]) (nx v) (CS.reach { m with fr := gfr fst (Q ++ [v]) } fst (nx v)) := by
  have hrc := h.ph.rc
  have hlen : (Q ++ [v]).length = Q.length + 1 := by simp
  refine ⟨⟨nodup_snoc h.ph.nd hw, ?_, h.ph.cl, by simp, fun i hi => ?_, ?_, fun i hi => ?_, fun x hx => ?_⟩, ?_, ?_, fun x hx => ?_, fun i hi => ?_⟩
  · intro x hx
    rw [← List.append_assoc] at hx
    rcases List.mem_append.1 hx with h1 | h1
    · exact h.ph.dd x h1
    · rw [List.mem_singleton.1 h1]; exact hd
  · by_cases e : i + 1 < (Q ++ [v]).length
    · rw [List.getElem_append_left e, List.getElem_append_left (show i < (Q ++ [v]).length by omega)]
      exact h.ph.nxt i e
    · have hi2 : i + 1 < Q.length + 2 := by simpa using hi
      have e2 : i = Q.length := by rw [hlen] at e; omega
      subst e2
      simp
  · show m.rc + 1 = _
    rw [hrc]; simp; omega
  · show (if (Q ++ [v] ++ [nx v])[i] = nx v then m.rc + 1 else m.ord (Q ++ [v] ++ [nx v])[i]) = _
    by_cases e : i < (Q ++ [v]).length
    · rw [List.getElem_append_left e]
      have hm : (Q ++ [v])[i] ∈ S ++ (Q ++ [v]) := List.mem_append.2 (.inr (List.getElem_mem e))
      rw [if_neg (fun e3 : (Q ++ [v])[i] = nx v => hw (by rw [← e3]; exact hm))]
      exact h.ph.ord i e
    · have e2 : i = (Q ++ [v]).length := by simp at hi e ⊢; omega
      have e4 : (Q ++ [v] ++ [nx v])[i] = nx v := by subst e2; simp
      rw [e4, if_pos rfl, hrc, e2]
  · show (if x = nx v then m.rc + 1 else m.ord x) = 0 ↔ _
    by_cases e : x = nx v
    · simp [e]
    · rw [if_neg e, h.ph.vis x hx]; simp [e]
  · show m.st ++ [nx v] = _; rw [h.st]
  · rfl
  · show (if x = nx v then true else m.on x) = _
    by_cases e : x = nx v
    · simp [e]
    · rw [if_neg e, h.on x hx]; simp [e]
  · show (if (Q ++ [v] ++ [nx v])[i] = nx v then m.rc + 1 else m.low (Q ++ [v] ++ [nx v])[i]) = _
    by_cases e : i < (Q ++ [v]).length
    · rw [List.getElem_append_left e]
      have hm : (Q ++ [v])[i] ∈ S ++ (Q ++ [v]) := List.mem_append.2 (.inr (List.getElem_mem e))
      rw [if_neg (fun e3 : (Q ++ [v])[i] = nx v => hw (by rw [← e3]; exact hm))]
      exact h.low i e
    · have e2 : i = (Q ++ [v]).length := by simp at hi e ⊢; omega
      have e4 : (Q ++ [v] ++ [nx v])[i] = nx v := by subst e2; simp
      rw [e4, if_pos rfl, hrc, e2]

theorem ph_vc (h : Ph n nx dead S P m) (i : Nat) (hi : i < P.length) (hl : (∃ h : 0 < (P.drop i).length, nx (P.drop i)[(P.drop i).length - 1] = (P.drop i)[0]) ∨ (∃ h : 0 < (P.drop i).length, (P.drop i).length = 1 ∧ nx (P.drop i)[0] ∈ S)) : VC nx dead S (P.drop i) := by
  refine ⟨by simp; omega, ?_, ?_, h.cl, fun j hj => ?_, hl⟩
  · have := h.nd
    rw [List.nodup_append] at this ⊢
    exact ⟨this.1, (List.drop_sublist i P).nodup this.2.1, fun a ha b hb => this.2.2 a ha b (List.mem_of_mem_drop hb)⟩
  · intro x hx
    refine h.dd x ?_
    rcases List.mem_append.1 hx with h1 | h1
    · exact List.mem_append.2 (.inl h1)
    · exact List.mem_append.2 (.inr (List.mem_of_mem_drop h1))
  · have hj2 : i + (j + 1) < P.length := by simp at hj; omega
    rw [List.getElem_drop, List.getElem_drop]
    exact h.nxt (i + j) hj2

/-- The edge leads to one on the path: the way up begins. -/
theorem P1.circle (h : P1 n nx fst dead S Q v m) (i : Nat) (hi : i < (Q ++ [v]).length) (e : (Q ++ [v])[i] = nx v) : P2 n nx fst dead S (Q ++ [v]) S i (Q ++ [v]).length { m with fr := gfr fst (Q ++ [v]), low := fun j => if j = v then S.length + i + 1 else m.low j } := by
  have hlen : (Q ++ [v]).length = Q.length + 1 := by simp
  have hph : Ph n nx dead S (Q ++ [v]) { m with fr := gfr fst (Q ++ [v]), low := fun j => if j = v then S.length + i + 1 else m.low j } := ⟨h.ph.nd, h.ph.dd, h.ph.cl, h.ph.ne, h.ph.nxt, h.ph.rc, h.ph.ord, h.ph.vis⟩
  have hnd : (Q ++ [v]).Nodup := (List.nodup_append.1 h.ph.nd).2.1
  refine ⟨hph, by rw [List.take_length], Nat.le_refl _, hi, fun j hj hj2 => ?_, fun h0 => by omega, fun _ => ⟨h.st, h.on, fun h1 => ?_, rfl⟩, ?_⟩
  · show (if (Q ++ [v])[j] = v then _ else m.low (Q ++ [v])[j]) = _
    have : (Q ++ [v])[j] ≠ v := by
      intro e2
      have e3 : (Q ++ [v])[j] = (Q ++ [v])[Q.length]'(by simp) := by rw [e2]; simp
      have := (List.getElem_inj hnd).1 e3
      rw [hlen] at hj2; omega
    rw [if_neg this]
    exact h.low j hj
  · have e2 : (Q ++ [v])[(Q ++ [v]).length - 1] = v := by simp
    show (if (Q ++ [v])[(Q ++ [v]).length - 1] = v then _ else _) = _
    rw [if_pos e2]
  · refine ph_vc hph i hi (.inl ⟨by simp; omega, ?_⟩)
    rw [List.getElem_drop, List.getElem_drop]
    have key : ∀ k (hk : k < (Q ++ [v]).length), k = Q.length → (Q ++ [v])[k] = v := by intro k hk e; subst e; simp
    have e5 : (Q ++ [v])[i + ((List.drop i (Q ++ [v])).length - 1)]'(by simp; omega) = v := key _ _ (by simp; omega)
    rw [e5]
    simpa using e.symm
/-- The edge leads to what was handed out before. -/
theorem P1.tail (h : P1 n nx fst dead S Q v m) (hw : nx v ∈ S) : P2 n nx fst dead S (Q ++ [v]) S Q.length (Q ++ [v]).length { m with fr := gfr fst (Q ++ [v]) } := by
  have hlen : (Q ++ [v]).length = Q.length + 1 := by simp
  have hph : Ph n nx dead S (Q ++ [v]) { m with fr := gfr fst (Q ++ [v]) } := ⟨h.ph.nd, h.ph.dd, h.ph.cl, h.ph.ne, h.ph.nxt, h.ph.rc, h.ph.ord, h.ph.vis⟩
  refine ⟨hph, by rw [List.take_length], Nat.le_refl _, by omega, fun j hj hj2 => h.low j hj, fun h0 => by omega, fun _ => ⟨h.st, h.on, fun h1 => ?_, rfl⟩, ?_⟩
  · have := h.low Q.length (by omega)
    simpa [hlen] using this
  · refine ph_vc hph Q.length (by omega) (.inr ⟨by simp, by simp, ?_⟩)
    simpa using hw

theorem Ph.with {m m' : CS} (h : Ph n nx dead S P m) (e1 : m'.rc = m.rc) (e2 : m'.ord = m.ord) : Ph n nx dead S P m' :=
  ⟨h.nd, h.dd, h.cl, h.ne, h.nxt, e1.trans h.rc, by rw [e2]; exact h.ord, by rw [e2]; exact h.vis⟩
theorem Ph.inj (h : Ph n nx dead S P m) {a b : Nat} (ha : a < P.length) (hb : b < P.length) (e : P[a] = P[b]) : a = b := (List.getElem_inj (List.nodup_append.1 h.nd).2.1).1 e

/-- A frame is left and nothing is handed out. -/
theorem P2.stay (h : P2 n nx fst dead S P SS i (c + 1) m) (hic : i < c) (low' : Nat → Nat) (h1 : ∀ j (h : j < P.length), j + 1 < c → low' P[j] = m.low P[j]) (h2 : ∀ (ha : c - 1 < P.length) (hb : c < P.length), low' P[c - 1] = min (m.low P[c - 1]) (m.low P[c])) :
    P2 n nx fst dead S P SS i c { m with fr := gfr fst (P.take c), low := low' } := by
  have hc := h.hc
  obtain ⟨u1, u2, u3, u4⟩ := h.up (by omega)
  refine ⟨h.ph.with rfl rfl, rfl, by omega, h.hi, fun j hj hj2 => ?_, fun h0 => by omega, fun _ => ⟨u1, u2, fun h3 => ?_, u4⟩, h.vc⟩
  · show low' P[j] = _
    rw [h1 j hj hj2]; exact h.low j hj (by omega)
  · show low' P[c - 1] = _
    rw [h2 h3 (by omega), h.low (c - 1) h3 (by omega)]
    have := u3 (by omega)
    simp only [Nat.add_sub_cancel] at this
    rw [this]; omega

/-- A frame is left and what lies on the stack from it on is handed out. -/
theorem P2.emit (h : P2 n nx fst dead S P SS i (c + 1) m) (hic : c ≤ i) (low' : Nat → Nat) (h1 : ∀ j (h : j < P.length), j + 1 < c → low' P[j] = m.low P[j]) (h2 : ∀ (ha : c - 1 < P.length) (hb : c < P.length), 0 < c → low' P[c - 1] = min (m.low P[c - 1]) (m.low P[c])) :
    VC nx dead SS (m.st.drop c) ∧ m.st = P.take c ++ m.st.drop c ∧ (∀ hb : c < P.length, m.low P[c] = m.ord P[c]) ∧
      P2 n nx fst dead S P (SS ++ m.st.drop c) i c { m with fr := gfr fst (P.take c), low := low', st := P.take c, on := fun x => if x ∈ m.st.drop c then false else m.on x } := by
  have hc := h.hc
  have hnd := h.ph.nd
  rw [List.nodup_append] at hnd
  have hlow : ∀ j (hj : j < P.length), j + 1 < c → low' P[j] = S.length + j + 1 := fun j hj hj2 => by rw [h1 j hj hj2]; exact h.low j hj (by omega)
  by_cases e : c = i
  · subst e
    obtain ⟨u1, u2, u3, rfl⟩ := h.up (by omega)
    have u3 := u3 (by omega)
    simp only [Nat.add_sub_cancel] at u3
    rw [u1]
    have hmem : ∀ x, x ∈ P → (x ∈ P.take c ↔ x ∉ P.drop c) := by
      intro x hx
      have hd : (P.take c ++ P.drop c).Nodup := by rw [List.take_append_drop]; exact hnd.2.1
      rw [List.nodup_append] at hd
      constructor
      · intro h3 h4; exact hd.2.2 x h3 x h4 rfl
      · intro h3
        rw [← List.take_append_drop c P] at hx
        rcases List.mem_append.1 hx with h4 | h4
        · exact h4
        · exact absurd h4 h3
    refine ⟨h.vc, (List.take_append_drop c P).symm, fun hb => ?_, ⟨h.ph.with rfl rfl, rfl, by omega, h.hi, hlow, fun _ => ⟨rfl, fun x hx => ?_, fun h3 h0 => ?_, fun x => by simp, ?_, h.vc.nd⟩, fun h0 => by omega, h.vc⟩⟩
    · rw [u3, h.ph.ord c hb]
    · show (if x ∈ P.drop c then false else m.on x) = _
      rw [u2 x hx]
      by_cases hxp : x ∈ P
      · by_cases hxd : x ∈ P.drop c
        · have : x ∉ P.take c := fun h5 => (hmem x hxp).1 h5 hxd
          simp [hxd, this]
        · have : x ∈ P.take c := (hmem x hxp).2 hxd
          simp [hxd, this, hxp]
      · have a1 : x ∉ P.take c := fun h5 => hxp (List.mem_of_mem_take h5)
        have a2 : x ∉ P.drop c := fun h5 => hxp (List.mem_of_mem_drop h5)
        simp [hxp, a1, a2]
    · show low' P[c - 1] = _
      rw [h2 h3 (by omega) h0, h.low (c - 1) h3 (by omega), u3]; omega
    · simp
  · obtain ⟨d1, d2, d3, d4, d5, d6⟩ := h.down (by omega)
    have hcp : c < P.length := by omega
    have d3 := d3 (by omega) (by omega)
    simp only [Nat.add_sub_cancel] at d3
    have et : P.take (c + 1) = P.take c ++ [P[c]] := by rw [List.take_add_one]; simp [List.getElem?_eq_getElem hcp]
    have hl : (P.take c).length = c := by simp; omega
    have ed : m.st.drop c = [P[c]] := by rw [d1, et, List.drop_append_of_le_length (by omega), List.drop_of_length_le (by omega)]; rfl
    rw [ed]
    have ed2 : P.drop c = P[c] :: P.drop (c + 1) := List.drop_eq_getElem_cons hcp
    have hnS : P[c] ∉ SS := by
      intro h3
      rcases (d4 _).1 h3 with h4 | h4
      · exact hnd.2.2 _ h4 _ (List.getElem_mem hcp) rfl
      · have hd : (P.drop c).Nodup := (List.drop_sublist c P).nodup hnd.2.1
        rw [ed2, List.nodup_cons] at hd
        exact hd.1 h4
    have hnd2 : (SS ++ [P[c]]).Nodup := by
      rw [List.nodup_append]
      exact ⟨d6, by simp, fun a ha b hb => by rw [List.mem_singleton.1 hb]; exact fun e => hnS (e ▸ ha)⟩
    have hnxc : nx P[c] ∈ SS := by
      rw [d4]
      refine .inr ?_
      have : c + 1 < P.length := by have := h.hi; omega
      rw [← h.ph.nxt c this]
      exact List.mem_iff_getElem.2 ⟨0, by simp; omega, by simp⟩
    refine ⟨⟨by simp, hnd2, ?_, ?_, fun j hj => by simp at hj, .inr ⟨by simp, by simp, by simpa using hnxc⟩⟩, by rw [d1, et], fun hb => by rw [d3, h.ph.ord c hb]; omega,
      ⟨h.ph.with rfl rfl, rfl, by omega, h.hi, hlow, fun _ => ⟨rfl, fun x hx => ?_, fun h3 h0 => ?_, fun x => ?_, ?_, hnd2⟩, fun h0 => by omega, h.vc⟩⟩
    · intro x hx
      rcases List.mem_append.1 hx with h3 | h3
      · rcases (d4 x).1 h3 with h4 | h4
        · exact h.ph.dd x (List.mem_append.2 (.inl h4))
        · exact h.ph.dd x (List.mem_append.2 (.inr (List.mem_of_mem_drop h4)))
      · rw [List.mem_singleton.1 h3]; exact h.ph.dd _ (List.mem_append.2 (.inr (List.getElem_mem hcp)))
    · intro x hx
      rcases (d4 x).1 hx with h4 | h4
      · exact (d4 _).2 (.inl (h.ph.cl x h4))
      · obtain ⟨j, hj, rfl⟩ := List.mem_iff_getElem.1 h4
        rw [List.getElem_drop]
        have hj2 : c + 1 + j < P.length := by simp at hj; omega
        by_cases h5 : c + 1 + j + 1 < P.length
        · rw [← h.ph.nxt _ h5]
          refine (d4 _).2 (.inr ?_)
          rw [List.mem_iff_getElem]
          exact ⟨j + 1, by simp; omega, by rw [List.getElem_drop]; congr 1⟩
        · have hj3 : c + 1 + j = P.length - 1 := by omega
          rcases h.vc.last with ⟨h6, h7⟩ | ⟨h6, h7, h8⟩
          · rw [List.getElem_drop, List.getElem_drop] at h7
            have e9 : i + ((P.drop i).length - 1) = c + 1 + j := by simp; have := h.hi; omega
            have e10 : P[i + ((P.drop i).length - 1)]'(by have := h.hi; simp; omega) = P[c + 1 + j] := by congr 1
            rw [e10] at h7
            rw [h7]
            refine (d4 _).2 (.inr ?_)
            rw [List.mem_iff_getElem]
            exact ⟨i - (c + 1), by have := h.hi; simp; omega, by rw [List.getElem_drop]; congr 1; omega⟩
          · rw [List.getElem_drop] at h8
            have hli : (P.drop i).length = P.length - i := by simp
            have e10 : P[i + 0]'(by have := h.hi; omega) = P[c + 1 + j] := by congr 1; omega
            rw [e10] at h8
            exact (d4 _).2 (.inl h8)
    · show (if x ∈ [P[c]] then false else m.on x) = _
      rw [d2 x hx, et]
      have hpn : P[c] ∉ P.take c := by
        have hd : (P.take (c + 1)).Nodup := (List.take_sublist _ P).nodup hnd.2.1
        rw [et, List.nodup_append] at hd
        exact fun h5 => hd.2.2 _ h5 _ (by simp) rfl
      by_cases hx2 : x = P[c]
      · rw [hx2]; simp [hpn]
      · have e7 : (x ∈ P.take c ++ [P[c]]) ↔ x ∈ P.take c := by rw [List.mem_append, List.mem_singleton]; exact ⟨fun h => h.resolve_right hx2, .inl⟩
        rw [if_neg (by rw [List.mem_singleton]; exact hx2)]
        simp only [e7]
    · show low' P[c - 1] = _
      rw [h2 h3 hcp h0, h.low (c - 1) h3 (by omega), d3]; omega
    · rw [List.mem_append, List.mem_singleton, d4, ed2, List.mem_cons]
      constructor
      · rintro ((h3 | h3) | h3)
        · exact .inl h3
        · exact .inr (.inr h3)
        · exact .inr (.inl h3)
      · rintro (h3 | h3 | h3)
        · exact .inl (.inl h3)
        · exact .inr h3
        · exact .inl (.inr h3)
    · simp [d5]; omega

theorem P2.done (h : P2 n nx fst dead S P SS i 0 m) : P0 n nx dead SS m ∧ ∀ x, x ∈ S ∨ x ∈ P → x ∈ SS := by
  obtain ⟨d1, d2, d3, d4, d5, d6⟩ := h.down (by omega)
  have hm : ∀ x, x ∈ SS ↔ x ∈ S ++ P := fun x => by rw [d4]; simp
  refine ⟨⟨d6, fun x hx => h.ph.dd x ((hm x).1 hx), fun x hx => ?_, by simpa using d1, by simpa [gfr] using h.fr, by rw [h.ph.rc, d5]; simp, fun x hx => by rw [h.ph.vis x hx, hm], fun x hx => by simpa using d2 x hx⟩, fun x hx => (hm x).2 (List.mem_append.2 hx)⟩
  rw [hm] at hx ⊢
  rcases List.mem_append.1 hx with h4 | h4
  · exact List.mem_append.2 (.inl (h.ph.cl x h4))
  · obtain ⟨j, hj, rfl⟩ := List.mem_iff_getElem.1 h4
    by_cases h5 : j + 1 < P.length
    · rw [← h.ph.nxt _ h5]; exact List.mem_append.2 (.inr (List.getElem_mem _))
    · rcases h.vc.last with ⟨h6, h7⟩ | ⟨h6, h7, h8⟩
      · rw [List.getElem_drop, List.getElem_drop] at h7
        have e10 : P[i + ((P.drop i).length - 1)]'(by have := h.hi; simp; omega) = P[j] := by congr 1; have := h.hi; simp; omega
        rw [e10] at h7
        rw [h7]
        exact List.mem_append.2 (.inr (List.getElem_mem _))
      · rw [List.getElem_drop] at h8
        have hli : (P.drop i).length = P.length - i := by simp
        have e10 : P[i + 0]'(by have := h.hi; omega) = P[j] := by congr 1; omega
        rw [e10] at h8
        exact List.mem_append.2 (.inl h8)
end Go.Proofs.YbulkbmdoGreat
