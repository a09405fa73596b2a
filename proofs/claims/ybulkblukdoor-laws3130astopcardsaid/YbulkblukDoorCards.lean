/-
  DERIVED. GIVEN WITH THE SEED: THE CARDS: each row of YbulkblukDoorRows.lean that lists a variable, with what it lists TIED to the program's text (the seventh form; the later family's looks); each row that meets fmt, with fmt's text TOLD by the authors' own Lean function (tested against real Go, not proved from fmt's source: count such statements apart). THE CARD IS WHAT COUNTS. Prove the row's statement (the work); the ties are given (YbulkblukDoorTie.lean); close each card by the builder's one call (the guide's Derived/Test/ToyasCard.lean, 'card_holds'). Laid BY PROGRAM, IN A SANDBOX (cutbox-door.mjs). By AI agents, Wed Nov 11 2026. No macro, syntax, notation, axiom, sorry.
-/
import Derived.Test.YbulkblukDoorRows
import GoSem.ClaimSeven
namespace Go.Proofs.YbulkblukDoor
namespace Rows

/-- THE TIED CARD OF 'antecede.LawS3130AAll'. -/
def lawS3130AAllCard : Claim7 := { stood := { row := lawS3130AAllRow, standIns := [], harness := (true, "6cabcfe58eebc56bafc242d1a6bd218a950cfdc345d7916052f27251e853dad0"), looks := false }, kinds := [], alts := [], laidByText := true, laidKinds := [.data], laidTests := true, laidLooks := .later }
def LawS3130AAllCardSaid : Prop := Claim7.holds Ybad.pinned (.plain (OpenSpec.ofChange lawS3130AAllSpec)) lawS3130AAllCard

/-- THE TIED CARD OF 'antecede.LawS3130AStop'. -/
def lawS3130AStopCard : Claim7 := { stood := { row := lawS3130AStopRow, standIns := [], harness := (true, "6cabcfe58eebc56bafc242d1a6bd218a950cfdc345d7916052f27251e853dad0"), looks := false }, kinds := [], alts := [], laidByText := true, laidKinds := [.data], laidTests := true, laidLooks := .later }
def LawS3130AStopCardSaid : Prop := Claim7.holds Ybad.pinned (.plain (OpenSpec.ofChange lawS3130AStopSpec)) lawS3130AStopCard
end Rows
end Go.Proofs.YbulkblukDoor
