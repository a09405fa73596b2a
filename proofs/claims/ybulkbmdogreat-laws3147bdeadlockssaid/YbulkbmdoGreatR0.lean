/-
  The statements of a body, taken out of the translation by number.
-/
import Derived.Test.YbulkbmdoGreatPlan
import Derived.Test.YbulkbmdoGreatProg
import Derived.Test.YbulkbmdoGreatChecked
namespace Go.Proofs.YbulkbmdoGreat
open Go.RowKit

theorem cellUp {W : World} {a : Addr} {u : Value} (h : W.cell? a = some u) (x : Obj) : (W.alloc x).cell? a = some u :=
  (World.cell?_alloc_lt _ _ _ (World.block_lt_of_cell? _ _ h)).trans h

def nthC : Nat → Code → Code
  | 0, .seq a _ => a
  | k + 1, .seq _ b => nthC k b
  | _, c => c
def tlC : Nat → Code → Code
  | 0, c => c
  | k + 1, .seq _ b => tlC k b
  | _, c => c
noncomputable def b20 : Code := Ybaz.f20.body.getD .skip
noncomputable def s20 (k : Nat) : Code := nthC k b20
noncomputable def t20 (k : Nat) : Code := tlC k b20
end Go.Proofs.YbulkbmdoGreat
