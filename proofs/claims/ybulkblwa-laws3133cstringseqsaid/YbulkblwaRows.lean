/-
  No cell of these rows narrows 'for every input' (looked for: loops, veiled, ifaces, maps, wideKeys, modest, calm, conditions, laid).
  DERIVED. THE GIVEN ROWS OF THIS SEAT. 2 by the template 'for every input the law returns true; each argument reads behind the call as it read before'; 0 by the template 'total and deterministic' (their statements: YbulkblwaTotals.lean).
  GIVEN WITH THE SEED: the statements are not yours to turn. If you find one false, say at which input.
  Laid BY PROGRAM, IN A SANDBOX (cutbox-rows.mjs): the forced cells as the released guide's own fill.sh prints them over the translation f7315312baa943c8… (all of the seat's roots in one cut). By AI agents, Wed Nov 11 2026. No macro, syntax, notation, axiom, sorry.
-/
import Derived.Test.YbulkblwaChecked
import GoSem.Claim
import GoSem.ClaimJoined
import GoSem.ClaimMapViews
import Derived.JoinedTies
import Derived.KernelRfl
namespace Go.Proofs.Ybulkblwa
/- THE CELL 'sum', in the pinned program and in every row, IS THE sha256 OF THE DUMP (.gsa) THAT YbulkblwaProg.lean LOADS. Nothing in Lean hashes anything: it is a label: what it is worth is what the hold of that sum in a sandbox is worth. -/
noncomputable def Yba.pinned : Pinned := { name := "ybulkblwa", sum := "f7315312baa943c88d8ab1d23481125abe1591402e4150155108c9d828dbb8bd", checked := Yba.checked }
namespace Rows
def none {H : Type} : Left H := { results := [], args := [] }

/-- 'ijen.LawS3133CInt64': WHATEVER THE INPUT: true; the input reads as it did. -/
def lawS3133CInt64Spec : ChangeSpec := { name := "lawS3133CInt64", fn := fun _ => fun
  | [d1, d2, d3] => { results := [.lit (.bool true)], args := [d1, d2, d3] }
  | _ => none }
def lawS3133CInt64Row : OpenClaim := { program := "ybulkblwa", sum := "f7315312baa943c88d8ab1d23481125abe1591402e4150155108c9d828dbb8bd", func := "example.com/ijen/ijen.LawS3133CInt64", spec := "lawS3133CInt64", unfollowed := true, recurses := true, apart := false }
def LawS3133CInt64Said : Prop := lawS3133CInt64Row.holds Yba.pinned (OpenSpec.ofChange lawS3133CInt64Spec)

/-- ITS FALSE NEIGHBOUR: 'it returns false'. Refute it at one input. -/
def lawS3133CInt64Wrong : ChangeSpec := { name := "lawS3133CInt64", fn := fun _ => fun
  | [d1, d2, d3] => { results := [.lit (.bool false)], args := [d1, d2, d3] }
  | _ => none }
def LawS3133CInt64WrongFalsely : Prop := lawS3133CInt64Row.holds Yba.pinned (OpenSpec.ofChange lawS3133CInt64Wrong)

/-- 'ijen.LawS3133CStringSeq': WHATEVER THE INPUT: true; the input reads as it did. -/
def lawS3133CStringSeqSpec : ChangeSpec := { name := "lawS3133CStringSeq", fn := fun _ => fun
  | [d1, d2, d3] => { results := [.lit (.bool true)], args := [d1, d2, d3] }
  | _ => none }
def lawS3133CStringSeqRow : OpenClaim := { program := "ybulkblwa", sum := "f7315312baa943c88d8ab1d23481125abe1591402e4150155108c9d828dbb8bd", func := "example.com/ijen/ijen.LawS3133CStringSeq", spec := "lawS3133CStringSeq", unfollowed := true, recurses := true, apart := false }
def LawS3133CStringSeqSaid : Prop := lawS3133CStringSeqRow.holds Yba.pinned (OpenSpec.ofChange lawS3133CStringSeqSpec)

/-- ITS FALSE NEIGHBOUR: 'it returns false'. Refute it at one input. -/
def lawS3133CStringSeqWrong : ChangeSpec := { name := "lawS3133CStringSeq", fn := fun _ => fun
  | [d1, d2, d3] => { results := [.lit (.bool false)], args := [d1, d2, d3] }
  | _ => none }
def LawS3133CStringSeqWrongFalsely : Prop := lawS3133CStringSeqRow.holds Yba.pinned (OpenSpec.ofChange lawS3133CStringSeqWrong)

end Rows
end Go.Proofs.Ybulkblwa
