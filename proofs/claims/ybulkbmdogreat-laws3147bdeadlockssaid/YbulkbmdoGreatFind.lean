import Derived.Test.YbulkbmdoGreatHolds
import Derived.Test.YbulkbmdoGreatUf
import Derived.BigRegion
namespace Go.Proofs.YbulkbmdoGreat
open Go.RowKit
set_option linter.unusedVariables false

set_option maxRecDepth 100000 in
set_option maxHeartbeats 2000000 in
/-- find(p): the root of p's group; the array may have been halved on the way. -/
theorem find_any (o : Nat → Nat) (W : World) (B gb n : Nat) (gp rt d : Nat → Nat) (hU : Uf n gp rt d) (cB : W.cell? ⟨B, 0, none⟩ = some (.slice (some ⟨gb, 0, none⟩) n n)) (tB : o B ≠ 50) (hA : Ar o W 50 gb 3 n (fun j => .int .i64 (gp j : Int))) (hn : n ≤ 300) (p : Nat) (hp : p < n) :
    Calls Ybaz.prog 16 (#[.int .i64 (p : Int)] ++ #[.pointer (some ⟨B, 0, none⟩)]) W fun e w' => e = .returned (.int .i64 (rt p : Int)) ∧ ∃ gp', Uf n gp' rt d ∧ Ar o w' 50 gb 3 n (fun j => .int .i64 (gp' j : Int)) ∧ Step [50] o W o w' := by
  show Calls Ybaz.prog 16 #[.int .i64 (p : Int), .pointer (some ⟨B, 0, none⟩)] W _
  go_enter Ybaz.func16, Ybaz.ntmps16
  go_wp2
  go_loopw [0] (fun q wr => ∃ (k : Nat) (gp' : Nat → Nat), k < n ∧ rt k = rt p ∧ q = .int .i64 (k : Int) ∧ Uf n gp' rt d ∧ Ar o wr 50 gb 3 n (fun j => .int .i64 (gp' j : Int)) ∧ Step [50] o W o wr) (fun q _ => d (intOf q).toNat)
  case atStart => exact ⟨p, gp, hp, rfl, rfl, hU, hA, Step.refl _ _ _⟩
  case round =>
    obtain ⟨k, gp', hk, hr, rfl, U1, A1, st⟩ := hrel
    have c1 : wr.cell? ⟨B, 0, none⟩ = some (.slice (some ⟨gb, 0, none⟩) n n) := (st.cell (p := ⟨B, 0, none⟩) (World.block_lt_of_cell? _ _ cB) (by simpa using tB)).trans cB
    have c2 := A1.cell k hk
    have b1 : (k : Int) < (n : Int) := by omega
    by_cases he : gp' k = k
    · have hrt := U1.fix k hk he
      rw [he] at c2
      have e1 : rt p = k := by rw [← hr]; exact hrt
      clear hr hrt
      go_wp2
      go_ret
      exact ⟨by rw [e1]; rfl, gp', U1, A1, st⟩
    · have hg := U1.lt k hk
      have hg2 := U1.lt _ hg
      have c3 := A1.cell (gp' k) hg
      have c4 := A1.frozen k
      have b2 : (gp' k : Int) < (n : Int) := by omega
      have hne2 : ¬ ((gp' k : Int) = (k : Int)) := by omega
      have hne : ((gp' k : Int) == (k : Int)) = false := by simp [hne2]
      have U2 := U1.halve hk he
      have A2 : Ar o (wr.setCell ⟨gb, k, none⟩ (.int .i64 (gp' (gp' k) : Int))) 50 gb 3 n (fun j => .int .i64 ((if j = k then gp' (gp' k) else gp' j : Nat) : Int)) := (A1.set k _).congr fun j _ => by by_cases e : j = k <;> simp [e]
      have s1 := A1.sset k (.int .i64 (gp' (gp' k) : Int)) (T := [50]) (by simp)
      have s2 := (st.trans s1).trans (Step.drew [50] o _)
      have A3 := A2.step (Step.drew [] o _) (by simp)
      have c5 : (wr.setCell ⟨gb, k, none⟩ (.int .i64 (gp' (gp' k) : Int))).cell? ⟨B, 0, none⟩ = some (.slice (some ⟨gb, 0, none⟩) n n) := ((s1.cell (p := ⟨B, 0, none⟩) (World.block_lt_of_cell? _ _ c1) (by simpa using tB))).trans c1
      have c6 : (wr.setCell ⟨gb, k, none⟩ (.int .i64 (gp' (gp' k) : Int))).cell? ⟨gb, k, none⟩ = some (.int .i64 (gp' (gp' k) : Int)) := by have := A2.cell k hk; simpa using this
      have hd : d (gp' (gp' k)) < d k := by
        by_cases e : gp' (gp' k) = gp' k
        · rw [e]; exact U1.dec k hk he
        · have := U1.dec _ hg e; have := U1.dec k hk he; omega
      have hrr : rt (gp' (gp' k)) = rt p := by rw [U1.step _ hg, U1.step k hk, hr]
      clear A1 U1 s1 A2 st hr
      go_wp2
      go_region
      all_goals
        go_wp2
        go_roundw
        case rel => exact ⟨gp' (gp' k), _, hg2, hrr, rfl, U2, A3, s2⟩
        case measure => simpa [intOf] using hd
end Go.Proofs.YbulkbmdoGreat
