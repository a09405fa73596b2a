import Derived.Test.YbulkblukDoorRows
import Derived.Test.YbulkblukDoorTie
import Derived.Test.YbulkblukDoorCards
import Derived.Test.YbulkblukDoorStopLift
import Derived.SevenTiedAt
namespace Go.Proofs.YbulkblukDoor
open Go

/-- THE CARD -/
theorem stop_card : Rows.LawS3130AStopCardSaid :=
  Claim7.holds_tied_plain_at .later [] [.data] true (true, "6cabcfe58eebc56bafc242d1a6bd218a950cfdc345d7916052f27251e853dad0") false
    lawStop.row_holds (fun _ h => by cases h) (by kernel_rfl) (fun _ h => by cases h) lawS3130AStop_row_tie rfl ⟨rfl, rfl⟩ (by kernel_rfl) rfl
    (fun f fn hf hfn => by
      obtain rfl : f = 4 := Option.some.inj ((show Ybad.prog.funcNamed Rows.lawS3130AStopRow.func = some 4 by kernel_rfl).symm.trans hf) |>.symm
      obtain rfl : fn = Ybad.f4 := (Option.some.inj (Ybad.func4.symm.trans hfn)).symm
      exact ⟨by kernel_rfl, fun j t ht => by
        rw [Ybad.params4] at ht
        have hm : t ∈ [22, 23, 5] := by simpa using Array.mem_of_getElem? ht
        have hall : ([22, 23, 5].all fun u => !Ybad.prog.wantsStandIn u) = true := by kernel_rfl
        exact (show Ybad.prog.wantsStandIn t = false by simpa using List.all_eq_true.1 hall t hm)⟩)
    (by kernel_rfl)
#print axioms stop_card
end Go.Proofs.YbulkblukDoor
