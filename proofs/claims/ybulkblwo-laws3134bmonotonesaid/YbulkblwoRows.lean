/-
  No cell of these rows narrows 'for every input' (looked for: loops, veiled, ifaces, maps, wideKeys, modest, calm, conditions, laid).
  DERIVED. THE GIVEN ROWS OF THIS SEAT. 3 by the template 'for every input the law returns true; each argument reads behind the call as it read before'; 0 by the template 'total and deterministic' (their statements: YbulkblwoTotals.lean).
  GIVEN WITH THE SEED: the statements are not yours to turn. If you find one false, say at which input.
  Laid BY PROGRAM, IN A SANDBOX (cutbox-rows.mjs): the forced cells as the released guide's own fill.sh prints them over the translation cf053b54fa45a3cd… (all of the seat's roots in one cut). By AI agents, Wed Nov 11 2026. No macro, syntax, notation, axiom, sorry.
-/
import Derived.Test.YbulkblwoChecked
import GoSem.Claim
import GoSem.ClaimJoined
import GoSem.ClaimMapViews
import Derived.JoinedTies
import Derived.KernelRfl
namespace Go.Proofs.Ybulkblwo
/- THE CELL 'sum', in the pinned program and in every row, IS THE sha256 OF THE DUMP (.gsa) THAT YbulkblwoProg.lean LOADS. Nothing in Lean hashes anything: it is a label: what it is worth is what the hold of that sum in a sandbox is worth. -/
noncomputable def Yba.pinned : Pinned := { name := "ybulkblwo", sum := "cf053b54fa45a3cd4bf5aa36ba47cd95a1747b210be8537b808b2ff2231114ce", checked := Yba.checked }
namespace Rows
def none {H : Type} : Left H := { results := [], args := [] }

/-- 'memory.LawS3134BModel': WHATEVER THE INPUT: true; the input reads as it did. -/
def lawS3134BModelSpec : ChangeSpec := { name := "lawS3134BModel", fn := fun _ => fun
  | [d] => { results := [.lit (.bool true)], args := [d] }
  | _ => none }
def lawS3134BModelRow : OpenClaim := { program := "ybulkblwo", sum := "cf053b54fa45a3cd4bf5aa36ba47cd95a1747b210be8537b808b2ff2231114ce", func := "example.com/dumpglass/dumpglass/internal/memory.LawS3134BModel", spec := "lawS3134BModel", apart := false }
def LawS3134BModelSaid : Prop := lawS3134BModelRow.holds Yba.pinned (OpenSpec.ofChange lawS3134BModelSpec)

/-- ITS FALSE NEIGHBOUR: 'it returns false'. Refute it at one input. -/
def lawS3134BModelWrong : ChangeSpec := { name := "lawS3134BModel", fn := fun _ => fun
  | [d] => { results := [.lit (.bool false)], args := [d] }
  | _ => none }
def LawS3134BModelWrongFalsely : Prop := lawS3134BModelRow.holds Yba.pinned (OpenSpec.ofChange lawS3134BModelWrong)

/-- 'memory.LawS3134BEdges': WHATEVER THE INPUT: true; the input reads as it did. -/
def lawS3134BEdgesSpec : ChangeSpec := { name := "lawS3134BEdges", fn := fun _ => fun
  | [d1, d2] => { results := [.lit (.bool true)], args := [d1, d2] }
  | _ => none }
def lawS3134BEdgesRow : OpenClaim := { program := "ybulkblwo", sum := "cf053b54fa45a3cd4bf5aa36ba47cd95a1747b210be8537b808b2ff2231114ce", func := "example.com/dumpglass/dumpglass/internal/memory.LawS3134BEdges", spec := "lawS3134BEdges", apart := false }
def LawS3134BEdgesSaid : Prop := lawS3134BEdgesRow.holds Yba.pinned (OpenSpec.ofChange lawS3134BEdgesSpec)

/-- ITS FALSE NEIGHBOUR: 'it returns false'. Refute it at one input. -/
def lawS3134BEdgesWrong : ChangeSpec := { name := "lawS3134BEdges", fn := fun _ => fun
  | [d1, d2] => { results := [.lit (.bool false)], args := [d1, d2] }
  | _ => none }
def LawS3134BEdgesWrongFalsely : Prop := lawS3134BEdgesRow.holds Yba.pinned (OpenSpec.ofChange lawS3134BEdgesWrong)

/-- 'memory.LawS3134BMonotone': WHATEVER THE INPUT: true; the input reads as it did. -/
def lawS3134BMonotoneSpec : ChangeSpec := { name := "lawS3134BMonotone", fn := fun _ => fun
  | [d] => { results := [.lit (.bool true)], args := [d] }
  | _ => none }
def lawS3134BMonotoneRow : OpenClaim := { program := "ybulkblwo", sum := "cf053b54fa45a3cd4bf5aa36ba47cd95a1747b210be8537b808b2ff2231114ce", func := "example.com/dumpglass/dumpglass/internal/memory.LawS3134BMonotone", spec := "lawS3134BMonotone", apart := false }
def LawS3134BMonotoneSaid : Prop := lawS3134BMonotoneRow.holds Yba.pinned (OpenSpec.ofChange lawS3134BMonotoneSpec)

/-- ITS FALSE NEIGHBOUR: 'it returns false'. Refute it at one input. -/
def lawS3134BMonotoneWrong : ChangeSpec := { name := "lawS3134BMonotone", fn := fun _ => fun
  | [d] => { results := [.lit (.bool false)], args := [d] }
  | _ => none }
def LawS3134BMonotoneWrongFalsely : Prop := lawS3134BMonotoneRow.holds Yba.pinned (OpenSpec.ofChange lawS3134BMonotoneWrong)

end Rows
end Go.Proofs.Ybulkblwo
