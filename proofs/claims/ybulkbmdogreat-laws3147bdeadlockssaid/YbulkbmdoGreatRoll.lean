import Derived.Test.YbulkbmdoGreatSettle2
import Derived.RangeFuncCalls
import Derived.Shelf.RegionOpen
namespace Go.Proofs.YbulkbmdoGreat
open Go.RowKit Go.Shelf
set_option linter.unusedVariables false
attribute [local go_sem] Oper.semAt_some

/-- The first j pairs (index, number) of zs, from behind. -/
def bq (zs : List Int) : Nat → List (Nat × Int)
  | 0 => []
  | j + 1 => bq zs j ++ [(zs.length - 1 - j, zs.getD (zs.length - 1 - j) 0)]
theorem bq_pref (zs : List Int) {j k : Nat} (h : j ≤ k) : bq zs j <+: bq zs k := by
  induction h with
  | refl => exact List.prefix_rfl
  | step _ ih => exact ih.trans (List.prefix_append _ _)
theorem bq_mem (zs : List Int) : ∀ {k : Nat}, k ≤ zs.length → ∀ {x : Nat × Int}, x ∈ bq zs k → x.2 ∈ zs
  | 0, _, x, h => by simp [bq] at h
  | k + 1, hk, x, h => by
    rcases List.mem_append.1 h with h1 | h1
    · exact bq_mem zs (by omega) h1
    · simp at h1; subst h1
      have : zs.length - 1 - k < zs.length := by omega
      simp [List.getElem?_eq_getElem this]
theorem bq_all (zs : List Int) (z : Int) (h : z ∈ zs) : ∃ x ∈ bq zs zs.length, x.2 = z := by
  obtain ⟨i, hi, rfl⟩ := List.mem_iff_getElem.1 h
  have h1 : zs.length - 1 - i + 1 ≤ zs.length := by omega
  refine ⟨(i, zs[i]), (bq_pref zs h1).subset ?_, rfl⟩
  show _ ∈ bq zs (zs.length - 1 - i) ++ _
  have e : zs.length - 1 - (zs.length - 1 - i) = i := by omega
  rw [e]
  simp [List.getElem?_eq_getElem hi]

/-- All blocks below M but b lie as they lay. -/
def KpB (b M : Nat) (A B : World) : Prop := ∀ k, k < M → k ≠ b → B.heap[k]? = A.heap[k]?
theorem KpB.trans {b M : Nat} {A B C : World} (h : KpB b M A B) (k : KpB b M B C) : KpB b M A C := fun i h1 h2 => (k i h1 h2).trans (h i h1 h2)
theorem KpB.cell {b M : Nat} {A B : World} (h : KpB b M A B) {p : Addr} (h1 : p.block < M) (h2 : p.block ≠ b) : B.cell? p = A.cell? p := World.cell?_of_block (w := A) (h p.block h1 h2)
theorem KpB.put {b M : Nat} {w : World} (hM : M ≤ w.heap.size) (W : World) (l : Nat) (o o' : Obj) (hl : w.heap.size ≤ l) (h : W.heap[l]? = some o) (_ : o.isCells = false) (_ : o.isWalk = false) : KpB b M W (W.putObj l o') :=
  fun k hk _ => World.putObj_heap_other (by omega)

set_option maxRecDepth 100000 in
set_option maxHeartbeats 2000000 in
theorem back_in (n l Bx b M c : Nat) (ad : Option Addr) (zs : List Int) (hz : zs.length ≤ 1000) (J : List (Nat × Int) → World → Prop)
    (w : World) (hM : M ≤ w.heap.size) (hBx : Bx < M ∧ Bx ≠ b)
    (c0 : w.cell? ⟨Bx, 0, none⟩ = some (.slice ad zs.length c)) (c1 : 0 < zs.length → ∃ ib x, ad = some ⟨ib, x, none⟩ ∧ ib < M ∧ ib ≠ b ∧ ∀ j (hj : j < zs.length), w.cell? ⟨ib, x + j, none⟩ = some (.int .i64 zs[j]))
    (hY : ∀ pre x W1, J pre W1 → pre ++ [x] <+: bq zs zs.length → YieldAt Fence.wide (n - 1) Ybaz.prog l #[.int .i64 (x.1 : Int), .int .i64 x.2] W1 fun e W' => e = .returned (.bool true) ∧ J (pre ++ [x]) W' ∧ KpB b M W1 W')
    (W : World) (hW : KpB b M w W) (h0 : J [] W) :
    CallsIn Fence.wide n Ybaz.prog 134 #[.func (.yield l) #[] #[], .pointer (some ⟨Bx, 0, none⟩)] W fun e W' => (∃ v, e = .returned v) ∧ J (bq zs zs.length) W' := by
  refine callsIn_of_wp Ybaz.func134 rfl trivial ?_ rfl
  simp only [Ybaz.ntmps134, List.size_toArray, List.length_cons, List.length_nil, Nat.reduceAdd, Nat.reduceSub, Array.replicate_succ, Array.replicate_zero, List.push_toArray, List.append_toArray, List.nil_append, List.cons_append]
  have d0 : W.cell? ⟨Bx, 0, none⟩ = some (.slice ad zs.length c) := (hW.cell (p := ⟨Bx, 0, none⟩) hBx.1 hBx.2).trans c0
  gi_wp2
  clear d0
  gi_loopw [3] (fun i wr => ∃ k : Nat, k ≤ zs.length ∧ i = .int .i64 ((zs.length : Int) - 1 - (k : Int)) ∧ J (bq zs k) wr ∧ KpB b M w wr) (fun i _ => (intOf i + 1).toNat)
  case atStart => exact ⟨0, Nat.zero_le _, by simp, h0, hW⟩
  case round =>
    obtain ⟨k, hk, rfl, hJ, hB1⟩ := hrel
    by_cases hlt : k < zs.length
    · obtain ⟨ib, x, rfl, hib1, hib2, hcs⟩ := c1 (by omega)
      have hc := (hB1.cell (p := ⟨ib, x + (zs.length - 1 - k), none⟩) hib1 hib2).trans (hcs (zs.length - 1 - k) (by omega))
      have hcB := (hB1.cell (p := ⟨Bx, 0, none⟩) hBx.1 hBx.2).trans c0
      have b1 : (0 : Int) ≤ (zs.length : Int) - 1 - (k : Int) := by omega
      have b2 : (zs.length : Int) - 1 - (k : Int) < (zs.length : Int) := by omega
      have b3 : ((zs.length : Int) - 1 - (k : Int)).toNat = zs.length - 1 - k := by omega
      have b4 : ((zs.length - 1 - k : Nat) : Int) = (zs.length : Int) - 1 - (k : Int) := by omega
      have HJ := hid hJ
      have HB := hid hB1
      clear hJ hB1
      have eg : zs.getD (zs.length - 1 - k) 0 = zs[zs.length - 1 - k] := by simp [List.getD, List.getElem?_eq_getElem (show zs.length - 1 - k < zs.length by omega)]
      rw [← eg] at hc
      clear eg
      have hpre : bq zs k ++ [(zs.length - 1 - k, zs.getD (zs.length - 1 - k) 0)] <+: bq zs zs.length := bq_pref zs (show k + 1 ≤ zs.length from hlt)
      have hbs : bq zs (k + 1) = bq zs k ++ [(zs.length - 1 - k, zs.getD (zs.length - 1 - k) 0)] := rfl
      obtain ⟨z, hzz⟩ : ∃ z, zs.getD (zs.length - 1 - k) 0 = z := ⟨_, rfl⟩
      rw [hzz] at hc hpre hbs
      clear hzz
      obtain ⟨fn, tmps, assign, body, hy, hR⟩ := hY _ _ wr HJ.out hpre
      have hR2 : RoundIn Fence.wide (n - 1) Ybaz.prog l fn tmps assign body wr fun e W' => e = .returned (.bool true) ∧ Hid (J (bq zs k ++ [(zs.length - 1 - k, z)]) W' ∧ KpB b M wr W') := hR
      have hy2 : (Instr.yield l #[.int .i64 ((zs.length : Int) - 1 - (k : Int)), .int .i64 z]).run Ybaz.prog wr = .ok (.round l fn tmps assign body) wr := by rw [← b4]; exact hy
      have HBS := hid hbs
      clear hR hy hpre hbs b4
      gi_wp2_with fail
      refine ⟨fun h => (by cases h), hR2.mono ?_⟩
      rintro e W3 ⟨rfl, h3⟩
      gi_wp2
      go_roundw
      case rel => exact ⟨k + 1, by omega, by go_num, by rw [HBS.out]; exact h3.out.1, HB.out.trans h3.out.2⟩
      case measure => simp [intOf]; omega
    · obtain rfl : k = zs.length := by omega
      have b5 : ¬ (0 : Int) ≤ (zs.length : Int) - 1 - (zs.length : Int) := by omega
      gi_wp2
      go_end0
      exact ⟨⟨_, rfl⟩, hJ⟩

theorem back_seq (n Bx b M c : Nat) (ad : Option Addr) (zs : List Int) (hz : zs.length ≤ 1000)
    (w : World) (hM : M ≤ w.heap.size) (hBx : Bx < M ∧ Bx ≠ b)
    (c0 : w.cell? ⟨Bx, 0, none⟩ = some (.slice ad zs.length c)) (c1 : 0 < zs.length → ∃ ib x, ad = some ⟨ib, x, none⟩ ∧ ib < M ∧ ib ≠ b ∧ ∀ j (hj : j < zs.length), w.cell? ⟨ib, x + j, none⟩ = some (.int .i64 zs[j])) :
    SeqL n Ybaz.prog 134 #[.pointer (some ⟨Bx, 0, none⟩)] (fun x : Nat × Int => #[Value.int .i64 (x.1 : Int), Value.int .i64 x.2]) (KpB b M) (bq zs zs.length) w := by
  intro l J W hW hJ hY h0
  exact back_in n l Bx b M c ad zs hz J w hM hBx c0 c1 hY W (fun k hk _ => hW.block k (by omega)) h0

theorem backward_any (v : Value) (hv : ∃ a l c, v = .slice a l c) (W : World) : Calls Ybaz.prog 115 #[v] W fun e w' => e = .returned (.func (.func 134) #[] #[.pointer (some ⟨W.heap.size, 0, none⟩)]) ∧ w' = W.alloc (.cells #[v] 24) := by
  obtain ⟨a, l, c, rfl⟩ := hv
  go_enter Ybaz.func115, Ybaz.ntmps115
  go_wp2
  go_ret
  exact ⟨rfl, rfl⟩

theorem Ar.own {β : Type} (b : Nat) (e : TypeId) (N : Nat) (f : β → Nat → Value) : Own (fun (s : β) X => Ar (fun _ => 0) X 0 b e N (f s)) := by
  rintro s A B row ⟨⟨c, hc, r⟩, ht⟩ hg hr
  refine ⟨⟨c, ?_, r⟩, rfl⟩
  rw [hg.block b (Array.getElem?_eq_some_iff.1 hc).1 (fun e => ?_)]
  · exact hc
  · obtain ⟨o, ho, hn⟩ := hr b e.symm
    rw [hc] at ho; cases ho; cases hn
end Go.Proofs.YbulkbmdoGreat
