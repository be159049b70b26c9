/-
  Seat oeamD: THE TIED CARD 'Rows.FnBytesAddRefusesOtherTypesCardSaid': the row, proved, over the given tie of its three listed variables to the program's text.
-/
import Derived.Test.YoeamwDoorProof
import Derived.Test.YoeamwDoorTie
import Derived.Test.YoeamwDoorCards
import Derived.SevenTiedAt
namespace Go.Proofs.YoeamwDoor
open Go

/-- THE CARD. -/
theorem fnBytesAddRefusesOtherTypesCard_proved : Rows.FnBytesAddRefusesOtherTypesCardSaid :=
  Claim7.holds_tied_plain_at .later [] [.called, .called, .data] true Rows.fnBytesAddRefusesOtherTypesCard.stood.harness true
    refuses.over (fun _ h => by cases h) (by kernel_rfl) (fun _ h => by cases h) fnBytesAddRefusesOtherTypes_row_tie rfl ⟨rfl, rfl⟩ (by kernel_rfl) rfl
    (fun f fn hf hfn => by
      obtain rfl : f = 5 := Option.some.inj ((show Eamg.prog.funcNamed Rows.fnBytesAddRefusesOtherTypesRow.func = some 5 by kernel_rfl).symm.trans hf) |>.symm
      obtain rfl : fn = Eamg.f5 := (Option.some.inj (Eamg.func5.symm.trans hfn)).symm
      exact ⟨by kernel_rfl, fun j t ht => by
        rw [Eamg.params5] at ht
        have hm : t ∈ [22, 9, 2, 3] := by simpa using Array.mem_of_getElem? ht
        have hall : ([22, 9, 2, 3].all fun u => !Eamg.prog.wantsStandIn u) = true := by kernel_rfl
        exact (show Eamg.prog.wantsStandIn t = false by simpa using List.all_eq_true.1 hall t hm)⟩)
    (by kernel_rfl)
end Go.Proofs.YoeamwDoor
