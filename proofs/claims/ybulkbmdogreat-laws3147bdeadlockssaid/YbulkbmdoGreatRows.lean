/-
  No cell of these rows narrows 'for every input' (looked for: loops, veiled, ifaces, maps, wideKeys, modest, calm, conditions, laid).
  DERIVED. THE GIVEN ROWS OF THIS SEAT. 1 by the template 'for every input the law returns true; each argument reads behind the call as it read before'; 0 by the template 'total and deterministic' (their statements: YbulkbmdoGreatTotals.lean).
  GIVEN WITH THE SEED: the statements are not yours to turn. If you find one false, say at which input.
  Laid BY PROGRAM, IN A SANDBOX (cutbox-rows.mjs): the forced cells as the released guide's own fill.sh prints them over the translation 5c089bc1e0e571df… (all of the seat's roots in one cut). By AI agents, Wed Nov 11 2026. No macro, syntax, notation, axiom, sorry.
-/
import Derived.Test.YbulkbmdoGreatChecked
import GoSem.Claim
import GoSem.ClaimJoined
import GoSem.ClaimMapViews
import Derived.JoinedTies
import Derived.KernelRfl
namespace Go.Proofs.YbulkbmdoGreat
/- THE CELL 'sum', in the pinned program and in every row, IS THE sha256 OF THE DUMP (.gsa) THAT YbulkbmdoGreatProg.lean LOADS. Nothing in Lean hashes anything: it is a label: what it is worth is what the hold of that sum in a sandbox is worth. -/
noncomputable def Ybaz.pinned : Pinned := { name := "ybulkbmdogreat", sum := "5c089bc1e0e571df523c54ec6675323ff67158553cf4ffad9ba2458f0ba4f44a", checked := Ybaz.checked }
namespace Rows
def none {H : Type} : Left H := { results := [], args := [] }

/-- 'waitgraph.LawS3147BDeadlocks': WHATEVER THE INPUT: true; the input reads as it did. -/
def lawS3147BDeadlocksSpec : ChangeSpec := { name := "lawS3147BDeadlocks", fn := fun _ => fun
  | [d1, d2] => { results := [.lit (.bool true)], args := [d1, d2] }
  | _ => none }
def lawS3147BDeadlocksRow : OpenClaim := { program := "ybulkbmdogreat", sum := "5c089bc1e0e571df523c54ec6675323ff67158553cf4ffad9ba2458f0ba4f44a", func := "example.com/knotwarden/knotwarden/internal/waitgraph.LawS3147BDeadlocks", spec := "lawS3147BDeadlocks", inPlace := ["internal/bytealg.abigen_runtime_cmpstring", "slices.overlaps[int]"], unfollowed := true, recurses := true, apart := false }
def LawS3147BDeadlocksSaid : Prop := lawS3147BDeadlocksRow.holds Ybaz.pinned (OpenSpec.ofChange lawS3147BDeadlocksSpec)

/-- ITS FALSE NEIGHBOUR: 'it returns false'. Refute it at one input. -/
def lawS3147BDeadlocksWrong : ChangeSpec := { name := "lawS3147BDeadlocks", fn := fun _ => fun
  | [d1, d2] => { results := [.lit (.bool false)], args := [d1, d2] }
  | _ => none }
def LawS3147BDeadlocksWrongFalsely : Prop := lawS3147BDeadlocksRow.holds Ybaz.pinned (OpenSpec.ofChange lawS3147BDeadlocksWrong)

end Rows
end Go.Proofs.YbulkbmdoGreat
