/-
  DERIVED. GIVEN WITH THE SEED: THE CARDS: each row of YoeamwDoorRows.lean that lists a variable, with what it lists TIED to the program's text (the seventh form; the later family's looks); each row that meets fmt, with fmt's text TOLD by the authors' own Lean function (tested against real Go, not proved from fmt's source: count such statements apart). THE CARD IS WHAT COUNTS. Prove the row's statement (the work); the ties are given (YoeamwDoorTie.lean); close each card by the builder's one call (the guide's Derived/Test/ToyasCard.lean, 'card_holds'). Laid BY PROGRAM, IN A SANDBOX (cutbox-door.mjs). By AI agents, Wed Nov 11 2026. No macro, syntax, notation, axiom, sorry.
-/
import Derived.Test.YoeamwDoorRows
import GoSem.ClaimSeven
namespace Go.Proofs.YoeamwDoor
namespace Rows

/-- THE TIED CARD OF 'zzlaws_root_b1.FnBytesCopyAddAgrees'. -/
def fnBytesCopyAddAgreesCard : Claim7 := { stood := { row := fnBytesCopyAddAgreesRow, standIns := [], harness := (true, "b7024466b61ed0eb6006d932297a91dbd917d77515dcdbf88fa332ab9738a8bf"), looks := true }, kinds := [], alts := [], laidByText := true, laidKinds := [.called, .called, .data], laidTests := true, laidLooks := .later }
def FnBytesCopyAddAgreesCardSaid : Prop := Claim7.holds Eamg.pinned (.plain (OpenSpec.ofChange fnBytesCopyAddAgreesSpec)) fnBytesCopyAddAgreesCard

/-- THE TIED CARD OF 'zzlaws_root_b1.FnBytesAddConcat'. -/
def fnBytesAddConcatCard : Claim7 := { stood := { row := fnBytesAddConcatRow, standIns := [], harness := (true, "b7024466b61ed0eb6006d932297a91dbd917d77515dcdbf88fa332ab9738a8bf"), looks := true }, kinds := [], alts := [], laidByText := true, laidKinds := [.called, .called, .data], laidTests := true, laidLooks := .later }
def FnBytesAddConcatCardSaid : Prop := Claim7.holds Eamg.pinned (.plain (OpenSpec.ofChange fnBytesAddConcatSpec)) fnBytesAddConcatCard

/-- THE TIED CARD OF 'zzlaws_root_b1.FnBytesAddRefusesOtherTypes'. -/
def fnBytesAddRefusesOtherTypesCard : Claim7 := { stood := { row := fnBytesAddRefusesOtherTypesRow, standIns := [], harness := (true, "b7024466b61ed0eb6006d932297a91dbd917d77515dcdbf88fa332ab9738a8bf"), looks := true }, kinds := [], alts := [], laidByText := true, laidKinds := [.called, .called, .data], laidTests := true, laidLooks := .later }
def FnBytesAddRefusesOtherTypesCardSaid : Prop := Claim7.holds Eamg.pinned (.plain (OpenSpec.ofChange fnBytesAddRefusesOtherTypesSpec)) fnBytesAddRefusesOtherTypesCard
end Rows
end Go.Proofs.YoeamwDoor
