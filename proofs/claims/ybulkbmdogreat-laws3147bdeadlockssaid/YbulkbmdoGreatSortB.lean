import Derived.Test.YbulkbmdoGreatCmp
import Derived.Test.YbulkbmdoGreatSortI
namespace Go.Proofs.YbulkbmdoGreat
open Go.RowKit Go.Shelf Go.Sort
set_option linter.unusedVariables false
set_option linter.unusedSimpArgs false
attribute [local go_sem ↓] Go.wp_at_zero Go.wp_at_succ

/-- The two cells of a keyed process. -/
def encK (n : Nat) (ky : Nat → Nat) (x : Fin n) : List Value := [.int .u64 (ky x.1 : Int), .int .i64 (x.1 : Int)]

theorem flat_kc {n : Nat} [Inhabited (Fin n)] (ky : Nat → Nat) (d : Array (Fin n)) (t : Nat) (h : t < d.size * 2) : (flatK (encK n ky) 2 d)[t]? = (kc ky (d.toList.map (·.1)))[t]? := by
  have h1 : (flatK (encK n ky) 2 d)[t]? = some ((encK n ky d[t / 2]!)[t % 2]!) := by
    rw [← get_flatK _ _ _ _ h]
    rw [Array.getElem?_eq_getElem (by simpa using h)]
    simp [h]
  rw [h1]
  have ht2 : t / 2 < d.size := by omega
  have hl : t / 2 < (d.toList.map (·.1)).length := by simpa using ht2
  obtain ⟨a, b⟩ := kc_at ky (d.toList.map (·.1)) (t / 2) hl
  have e : d[t / 2]! = d[t / 2] := by simp [ht2]
  have e3 : (d.toList.map (·.1))[t / 2] = (d[t / 2]).1 := by simp
  rw [e3] at a b
  rcases Nat.mod_two_eq_zero_or_one t with h2 | h2
  · have ht : t = t / 2 * 2 := by omega
    rw [h2, e]
    conv => rhs; rw [ht]
    rw [a]; rfl
  · have ht : t = t / 2 * 2 + 1 := by omega
    rw [h2, e]
    conv => rhs; rw [ht]
    rw [b]; rfl

/-- A row's cells turned from its beginning, new blocks behind. -/
theorem put_cells {o : Nat → Nat} {W : World} {t b N : Nat} {e : TypeId} {xs : List Value} (h : Rw o W t b e N xs) (F : Array Value) (hF : F.size = xs.length) (n : Nat) (os : Array Obj) :
    Rw o (grow (putRow id (Sort.ahead W n) b 0 F) os) t b e N F.toList ∧ Step [t] o W o (grow (putRow id (Sort.ahead W n) b 0 F) os) ∧ ∀ k, k < W.heap.size → k ≠ b → (grow (putRow id (Sort.ahead W n) b 0 F) os).heap[k]? = W.heap[k]? := by
  obtain ⟨cur, hb, hs, hf⟩ := h.blk
  have hle := h.le
  have hlt := h.lt
  have hmod : (putRow id (Sort.ahead W n) b 0 F).heap[b]? = some (.cells (putCells id 0 F cur) e (0, 0)) := by
    show ((Sort.ahead W n).heap.modify b (onCells (putCells id 0 F)))[b]? = _
    rw [Array.getElem?_modify]
    simp only [if_true]
    show Option.map _ (W.heap[b]?) = _
    rw [hb]; rfl
  have hsz : (putRow id (Sort.ahead W n) b 0 F).heap.size = W.heap.size := by
    show ((Sort.ahead W n).heap.modify b _).size = _
    simp [Sort.ahead]
  have hfar : ∀ k, k < W.heap.size → k ≠ b → (grow (putRow id (Sort.ahead W n) b 0 F) os).heap[k]? = W.heap[k]? := fun k hk hne => by
    rw [heap_grow_old _ _ (by rw [hsz]; exact hk)]
    show ((Sort.ahead W n).heap.modify b _)[k]? = _
    rw [Array.getElem?_modify, if_neg (fun e => hne e.symm)]
    rfl
  refine ⟨⟨⟨_, (heap_grow_old _ _ (by rw [hsz]; exact hlt)).trans hmod, by simp [putCells, hs], fun j hj => ?_⟩, by simp [hF]; exact hle, h.tag⟩, ?_, hfar⟩
  · have hj2 : j < F.size := by simpa using hj
    have hjN : j < cur.size := by omega
    unfold putCells
    rw [Array.getElem?_mapIdx, Array.getElem?_eq_getElem hjN]
    simp only [Option.map_some]
    rw [if_pos (by simp; omega)]
    simp [hj2]
  · exact ⟨rfl, rfl, rfl, by simp [hsz], fun _ _ => rfl, fun k hk hn => hfar k hk (fun e => hn (by rw [e, h.tag]; simp))⟩

theorem cmpN_lt (x y : Nat) : cmpN x y < 0 ↔ x < y := by
  unfold cmpN
  split
  · simp; assumption
  · split <;> simp <;> omega
theorem swo_cmp {n : Nat} (j : Nat → Nat) : SWO (Go.Proofs.ltOf (fun x y : Fin n => cmpN (j x.1) (j y.1))) := by
  refine ⟨fun x => ?_, fun x y z h1 h2 => ?_, fun x y z h1 h2 => ?_⟩
  · simp [Go.Proofs.ltOf, cmpN]
  · simp only [Go.Proofs.ltOf, decide_eq_true_eq, cmpN_lt] at *; omega
  · simp only [Go.Proofs.ltOf, decide_eq_false_iff_not, cmpN_lt] at *; omega
theorem cmpBytes_self : ∀ l : List UInt8, Lib.compareBytes l l = 0
  | [] => by simp [Lib.compareBytes]
  | a :: l => by simp [Lib.compareBytes, cmpBytes_self l]

set_option maxRecDepth 100000 in
set_option maxHeartbeats 2000000 in
theorem sort_ok (g : GS) (ky j : Nat → Nat) (hn : g.n ≤ 300) (h1 : ∀ x y, x < g.n → y < g.n → (ky x < ky y ↔ j x < j y)) (h2 : ∀ x y, x < g.n → y < g.n → j x = j y → g.pid x = g.pid y) : SortOk g ky j := by
  intro o W kb L hg hL h0 hnd hK
  have hn0 : 0 < g.n := by
    obtain ⟨p, hp⟩ := List.exists_mem_of_length_pos h0
    have := hL p hp; omega
  haveI : Inhabited (Fin g.n) := ⟨⟨0, hn0⟩⟩
  have hcm : ∀ x y, x < g.n → y < g.n → (if cmpN (ky x) (ky y) = 0 then Lib.compareBytes (g.pid x).data.toList (g.pid y).data.toList else cmpN (ky x) (ky y)) = cmpN (j x) (j y) := fun x y hx hy => by
    have a := h1 x y hx hy
    have b := h1 y x hy hx
    by_cases e1 : j x < j y
    · rw [show cmpN (ky x) (ky y) = -1 from if_pos (a.2 e1), show cmpN (j x) (j y) = -1 from if_pos e1]; rfl
    · have n1 : ¬ ky x < ky y := fun h => e1 (a.1 h)
      by_cases e2 : j y < j x
      · rw [show cmpN (ky x) (ky y) = 1 from (if_neg n1).trans (if_pos (b.2 e2)), show cmpN (j x) (j y) = 1 from (if_neg e1).trans (if_pos e2)]; rfl
      · have n2 : ¬ ky y < ky x := fun h => e2 (b.1 h)
        have e3 : j x = j y := by omega
        rw [show cmpN (ky x) (ky y) = 0 from (if_neg n1).trans (if_neg n2), show cmpN (j x) (j y) = 0 from (if_neg e1).trans (if_neg e2), h2 x y hx hy e3, cmpBytes_self]; rfl
  obtain ⟨d, hd⟩ : ∃ d : Array (Fin g.n), d.toList.map (·.1) = L := ⟨(L.pmap (fun p h => (⟨p, h⟩ : Fin g.n)) hL).toArray, by simp [List.map_pmap]⟩
  have hds : d.size = L.length := by rw [← hd]; simp
  obtain ⟨X1, o1, B3, e1, z1, k1, t1, s1⟩ := alloc_step' o W 99 (.cells #[.pointer (some ⟨g.G, 0, none⟩)] 26)
  obtain ⟨X2, o2, B4, e2, z2, k2, t2, s2⟩ := alloc_step' o1 X1 99 (.cells #[.func (.func 25) #[] #[.pointer (some ⟨B3, 0, none⟩)]] 83)
  have ob3 : Ob o1 X1 99 B3 26 #[.pointer (some ⟨g.G, 0, none⟩)] := ⟨k1, t1⟩
  have ob4 : Ob o2 X2 99 B4 83 #[.func (.func 25) #[] #[.pointer (some ⟨B3, 0, none⟩)]] := ⟨k2, t2⟩
  have K2 := (hK.step s1 (by simp)).step s2 (by simp)
  have g2 := (hg.step s1 (by simp) (by simp) (by simp)).step s2 (by simp) (by simp) (by simp)
  have ob3' := ob3.step s2 (by simp)
  have hB3 : B3 ≠ kb := by intro e; have := ob3'.tag; rw [e, K2.tag] at this; simp at this
  have hB4 : B4 ≠ kb := by intro e; have := ob4.tag; rw [e, K2.tag] at this; simp at this
  have hGk : g.G ≠ kb := by intro e; have := g2.ob.tag; rw [e, K2.tag] at this; simp at this
  have hpk : g.pb ≠ kb := by intro e; have := (g2.hpa hn0).2; rw [e, K2.tag] at this; simp at this
  have hGc : X2.cell? ⟨g.G, 0, none⟩ = some (.slice (some ⟨g.pb, 0, none⟩) g.n g.pcap) := by rw [← (g2.hpa hn0).1]; exact g2.ob.cell 0
  have hcmp : CmpLays Ybaz.prog 28 #[.pointer (some ⟨B4, 0, none⟩)] (encK g.n ky) 2 (fun x y : Fin g.n => cmpN (j x.1) (j y.1)) kb 0 d.size X2 := by
    intro m os dk hdk x y
    have far : ∀ {a : Addr} {u : Value}, a.block ≠ kb → X2.cell? a = some u → (sortWorldK (encK g.n ky) 2 X2 kb 0 m dk os).cell? a = some u := fun {a u} hne hc => by
      rw [← hc]
      exact World.cell?_of_block ((put_cells K2 (flatK (encK g.n ky) 2 dk) (by rw [size_flatK, hdk, kc_length, hds]) m os).2.2 a.block (World.block_lt_of_cell? _ _ hc) hne)
    have := cmp28_any (sortWorldK (encK g.n ky) 2 X2 kb 0 m dk os) g B3 B4 (ky x.1) (ky y.1) x.1 y.1 (far hB4 (ob4.cell 0)) (far hB3 (ob3'.cell 0)) (far hGk hGc) x.2 y.2 (far hpk (g2.pc x.1 x.2).1) (far hpk (g2.pc y.1 y.2).1)
    refine this.mono ?_
    rintro e w' ⟨rfl, q, os', hw⟩
    exact ⟨by rw [hcm x.1 y.1 x.2 y.2], q, os', hw⟩
  have hH : HoldsK (encK g.n ky) 2 X2 kb 0 d := by
    intro t ht
    rw [size_flatK] at ht
    have e := flat_kc ky d t ht
    rw [hd] at e
    have hlen : t < (kc ky L).length := by rw [kc_length]; omega
    rw [Nat.zero_add]
    refine ⟨?_, K2.frozen _⟩
    rw [K2.cell t hlen, ← List.getElem?_eq_getElem, ← e, Array.getElem?_eq_getElem (by simpa using ht)]
    simp [ht]
  have hsf := AnyQ.slices_SortFunc Ybaz.sortK 2 Ybaz.isAgg68 Ybaz.sizeOf68 (encK g.n ky) (fun x => rfl) (fun x v hv => by simp [encK] at hv; rcases hv with rfl | rfl <;> rfl) (fun x y : Fin g.n => cmpN (j x.1) (j y.1)) (swo_cmp j) 28 #[.pointer (some ⟨B4, 0, none⟩)] kb 0 L.length d X2 (enters_of Ybaz.func28 (by kernel_rfl) rfl) hcmp hH K2.lt (by have := nodup_le hnd hL; omega)
  have hf27 : Ybaz.sortK_ren.f 6 = 27 := rfl
  rw [hf27, hds] at hsf
  have HSF := hid hsf
  have HF := hid (And.intro K2 (And.intro s1 s2))
  have hl4 : (L.length : Int) < 4096 := by have := nodup_le hnd hL; omega
  clear hsf hH hcmp hcm h1 h2 hg hK ob3 ob4 ob3' g2 K2 s1 s2 k1 t1 k2 t2 hGc
  go_enter Ybaz.func13, Ybaz.ntmps13
  go_wp2_with (go_at_call 27; refine HSF.out.mono ?_; rintro e w' ⟨rfl, d', n', os', hper, hsor, rfl⟩)
  refine bodyPost_ret (results_none rfl _ _ _) rfl ?_
  obtain ⟨K2, s1, s2⟩ := HF.out
  have hsz' : d'.size = d.size := hper.1
  obtain ⟨R1, st1, _⟩ := put_cells K2 (flatK (encK g.n ky) 2 d') (by rw [size_flatK, hsz', kc_length, hds]) n' os'
  refine ⟨⟨_, rfl⟩, o2, d'.toList.map (·.1), ?_, ?_, ?_, ((s1.trans s2).mono (by simp)).trans st1⟩
  · have hp := hper.2.2
    rw [Array.extract_eq_self_of_le (by omega), Array.extract_eq_self_of_le (by omega)] at hp
    rw [← hd]
    exact hp.map _
  · rw [List.pairwise_map]
    refine List.pairwise_iff_getElem.2 fun a b ha hb hab => ?_
    have ha' : a < d'.size := by simpa using ha
    have hb' : b < d'.size := by simpa using hb
    have := hsor a b (Nat.zero_le _) hab (by omega)
    simp only [Go.Proofs.ltOf, decide_eq_false_iff_not, cmpN_lt] at this
    simp [ha', hb'] at this
    simpa using this
  · have e : (flatK (encK g.n ky) 2 d').toList = kc ky (d'.toList.map (·.1)) := by
      refine List.ext_getElem? fun t => ?_
      by_cases ht : t < d'.size * 2
      · rw [← flat_kc ky d' t ht]; simp
      · rw [List.getElem?_eq_none (by simp; omega), List.getElem?_eq_none (by rw [kc_length]; simp; omega)]
    rw [e] at R1
    exact R1
end Go.Proofs.YbulkbmdoGreat
