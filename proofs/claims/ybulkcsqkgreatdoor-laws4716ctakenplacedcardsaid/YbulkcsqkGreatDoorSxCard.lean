import Derived.Test.YbulkcsqkGreatDoorSxRowC
import Derived.Test.YbulkcsqkGreatDoorTie
import Derived.Test.YbulkcsqkGreatDoorCards
import Derived.SevenTiedAt
namespace Go.Proofs.YbulkcsqkGreatDoor
open Go

theorem lawS4716CTakenPlaced_card : Rows.LawS4716CTakenPlacedCardSaid :=
  Claim7.holds_tied_plain_at .later [] [.data] true Rows.lawS4716CTakenPlacedCard.stood.harness true
    lawS4716CTakenPlaced_holds (fun _ h => by cases h) (by kernel_rfl) (fun _ h => by cases h) lawS4716CTakenPlaced_row_tie rfl ⟨rfl, rfl⟩ (by kernel_rfl) rfl
    (fun f fn hf hfn => by
      obtain rfl : f = 3 := Option.some.inj ((show Ybaz.prog.funcNamed Rows.lawS4716CTakenPlacedRow.func = some 3 by kernel_rfl).symm.trans hf) |>.symm
      obtain rfl : fn = Ybaz.f3 := (Option.some.inj (Ybaz.func3.symm.trans hfn)).symm
      exact ⟨by kernel_rfl, fun j t ht => by
        rw [Ybaz.params3] at ht
        have hm : t ∈ [5, 22, 23] := by simpa using Array.mem_of_getElem? ht
        have hall : ([5, 22, 23].all fun u => !Ybaz.prog.wantsStandIn u) = true := by kernel_rfl
        exact (show Ybaz.prog.wantsStandIn t = false by simpa using List.all_eq_true.1 hall t hm)⟩)
    (by kernel_rfl)
end Go.Proofs.YbulkcsqkGreatDoor
