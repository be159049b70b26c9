/-
  NARROWER THAN 'FOR EVERY INPUT', by the rows' own cells (each row's printed sentence says how): FnBytesCopyAddAgrees: ifaces, laid · FnBytesAddConcat: ifaces, laid · FnBytesAddRefusesOtherTypes: ifaces, laid.
  DERIVED. THE GIVEN ROWS OF THIS SEAT. 3 by the template 'for every input the law returns true; each argument reads behind the call as it read before'; 0 by the template 'total and deterministic' (their statements: YoeamwDoorTotals.lean).
  GIVEN WITH THE SEED: the statements are not yours to turn. If you find one false, say at which input.
  Laid BY PROGRAM, IN A SANDBOX (cutbox-rows.mjs): the forced cells as the released guide's own fill.sh prints them over the translation 72b26fc935677b28… (all of the seat's roots in one cut). By AI agents, Wed Nov 11 2026. No macro, syntax, notation, axiom, sorry.
-/
import Derived.Test.YoeamwDoorChecked
import GoSem.Claim
import GoSem.ClaimJoined
import GoSem.ClaimMapViews
import Derived.JoinedTies
import Derived.KernelRfl
namespace Go.Proofs.YoeamwDoor
/- THE CELL 'sum', in the pinned program and in every row, IS THE sha256 OF THE DUMP (.gsa) THAT YoeamwDoorProg.lean LOADS. Nothing in Lean hashes anything: it is a label: what it is worth is what the hold of that sum in a sandbox is worth. -/
noncomputable def Eamg.pinned : Pinned := { name := "yoeamwdoor", sum := "72b26fc935677b2893c48d3a8380b892ec8b6d5747b140d7786b3852bacc1ab1", checked := Eamg.checked }
namespace Rows
def none {H : Type} : Left H := { results := [], args := [] }

/- WHAT THE LISTED PACKAGE-LEVEL VARIABLES READ AS WHEN THE CALL BEGINS. Each datum BY PROGRAM (the guide's laid-datum.mjs) off the statement by which the dump's own 'gosem.cut.vars' lays the variable. In a bare row this is a premise. The card (YoeamwDoorCards.lean) ties it to the program's text. -/
def laid_github_com_d5_tengo_v2_ErrInvalidOperator {H : Type} : DataW H := .iface "*errors.errorString" (.ptr (.agg [.lit (.string [105, 110, 118, 97, 108, 105, 100, 32, 111, 112, 101, 114, 97, 116, 111, 114])]))
def laid_github_com_d5_tengo_v2_ErrBytesLimit {H : Type} : DataW H := .iface "*errors.errorString" (.ptr (.agg [.lit (.string [101, 120, 99, 101, 101, 100, 105, 110, 103, 32, 98, 121, 116, 101, 115, 32, 115, 105, 122, 101, 32, 108, 105, 109, 105, 116])]))
def laid_github_com_d5_tengo_v2_MaxBytesLen {H : Type} : DataW H := .lit (.int .i64 2147483647)

/-- 'zzlaws_root_b1.FnBytesCopyAddAgrees': WHATEVER THE INPUT: true; the input reads as it did. -/
def fnBytesCopyAddAgreesSpec : ChangeSpec := { name := "fnBytesCopyAddAgrees", vars := ["github.com/d5/tengo/v2.MaxBytesLen", "github.com/d5/tengo/v2.ErrBytesLimit", "github.com/d5/tengo/v2.ErrInvalidOperator"], fn := fun _ => fun
  | [d1, d2, g1, g2, g3] => { results := [.lit (.bool true)], args := [d1, d2], vars := [g1, g2, g3] }
  | _ => none }
def fnBytesCopyAddAgreesRow : OpenClaim := { program := "yoeamwdoor", sum := "72b26fc935677b2893c48d3a8380b892ec8b6d5747b140d7786b3852bacc1ab1", func := "github.com/d5/tengo/v2/zzlaws_root_b1.FnBytesCopyAddAgrees", spec := "fnBytesCopyAddAgrees", unfollowed := true, recurses := true, named := ["github.com/d5/tengo/v2.MaxBytesLen", "github.com/d5/tengo/v2.ErrBytesLimit", "github.com/d5/tengo/v2.ErrInvalidOperator"], ifaces := true, apart := false, laid := [("github.com/d5/tengo/v2.ErrInvalidOperator", laid_github_com_d5_tengo_v2_ErrInvalidOperator), ("github.com/d5/tengo/v2.ErrBytesLimit", laid_github_com_d5_tengo_v2_ErrBytesLimit), ("github.com/d5/tengo/v2.MaxBytesLen", laid_github_com_d5_tengo_v2_MaxBytesLen)] }
def FnBytesCopyAddAgreesSaid : Prop := fnBytesCopyAddAgreesRow.holds Eamg.pinned (OpenSpec.ofChange fnBytesCopyAddAgreesSpec)

/-- ITS FALSE NEIGHBOUR: 'it returns false'. Refute it at one input. -/
def fnBytesCopyAddAgreesWrong : ChangeSpec := { name := "fnBytesCopyAddAgrees", vars := ["github.com/d5/tengo/v2.MaxBytesLen", "github.com/d5/tengo/v2.ErrBytesLimit", "github.com/d5/tengo/v2.ErrInvalidOperator"], fn := fun _ => fun
  | [d1, d2, g1, g2, g3] => { results := [.lit (.bool false)], args := [d1, d2], vars := [g1, g2, g3] }
  | _ => none }
def FnBytesCopyAddAgreesWrongFalsely : Prop := fnBytesCopyAddAgreesRow.holds Eamg.pinned (OpenSpec.ofChange fnBytesCopyAddAgreesWrong)

/-- 'zzlaws_root_b1.FnBytesAddConcat': WHATEVER THE INPUT: true; the input reads as it did. -/
def fnBytesAddConcatSpec : ChangeSpec := { name := "fnBytesAddConcat", vars := ["github.com/d5/tengo/v2.ErrInvalidOperator", "github.com/d5/tengo/v2.MaxBytesLen", "github.com/d5/tengo/v2.ErrBytesLimit"], fn := fun _ => fun
  | [d1, d2, d3, d4, g1, g2, g3] => { results := [.lit (.bool true)], args := [d1, d2, d3, d4], vars := [g1, g2, g3] }
  | _ => none }
def fnBytesAddConcatRow : OpenClaim := { program := "yoeamwdoor", sum := "72b26fc935677b2893c48d3a8380b892ec8b6d5747b140d7786b3852bacc1ab1", func := "github.com/d5/tengo/v2/zzlaws_root_b1.FnBytesAddConcat", spec := "fnBytesAddConcat", unfollowed := true, recurses := true, named := ["github.com/d5/tengo/v2.ErrInvalidOperator", "github.com/d5/tengo/v2.MaxBytesLen", "github.com/d5/tengo/v2.ErrBytesLimit"], ifaces := true, apart := false, laid := [("github.com/d5/tengo/v2.ErrInvalidOperator", laid_github_com_d5_tengo_v2_ErrInvalidOperator), ("github.com/d5/tengo/v2.ErrBytesLimit", laid_github_com_d5_tengo_v2_ErrBytesLimit), ("github.com/d5/tengo/v2.MaxBytesLen", laid_github_com_d5_tengo_v2_MaxBytesLen)] }
def FnBytesAddConcatSaid : Prop := fnBytesAddConcatRow.holds Eamg.pinned (OpenSpec.ofChange fnBytesAddConcatSpec)

/-- ITS FALSE NEIGHBOUR: 'it returns false'. Refute it at one input. -/
def fnBytesAddConcatWrong : ChangeSpec := { name := "fnBytesAddConcat", vars := ["github.com/d5/tengo/v2.ErrInvalidOperator", "github.com/d5/tengo/v2.MaxBytesLen", "github.com/d5/tengo/v2.ErrBytesLimit"], fn := fun _ => fun
  | [d1, d2, d3, d4, g1, g2, g3] => { results := [.lit (.bool false)], args := [d1, d2, d3, d4], vars := [g1, g2, g3] }
  | _ => none }
def FnBytesAddConcatWrongFalsely : Prop := fnBytesAddConcatRow.holds Eamg.pinned (OpenSpec.ofChange fnBytesAddConcatWrong)

/-- 'zzlaws_root_b1.FnBytesAddRefusesOtherTypes': WHATEVER THE INPUT: true; the input reads as it did. -/
def fnBytesAddRefusesOtherTypesSpec : ChangeSpec := { name := "fnBytesAddRefusesOtherTypes", vars := ["github.com/d5/tengo/v2.ErrInvalidOperator", "github.com/d5/tengo/v2.MaxBytesLen", "github.com/d5/tengo/v2.ErrBytesLimit"], fn := fun _ => fun
  | [d1, d2, d3, d4, g1, g2, g3] => { results := [.lit (.bool true)], args := [d1, d2, d3, d4], vars := [g1, g2, g3] }
  | _ => none }
def fnBytesAddRefusesOtherTypesRow : OpenClaim := { program := "yoeamwdoor", sum := "72b26fc935677b2893c48d3a8380b892ec8b6d5747b140d7786b3852bacc1ab1", func := "github.com/d5/tengo/v2/zzlaws_root_b1.FnBytesAddRefusesOtherTypes", spec := "fnBytesAddRefusesOtherTypes", named := ["github.com/d5/tengo/v2.ErrInvalidOperator", "github.com/d5/tengo/v2.MaxBytesLen", "github.com/d5/tengo/v2.ErrBytesLimit"], ifaces := true, apart := false, laid := [("github.com/d5/tengo/v2.ErrInvalidOperator", laid_github_com_d5_tengo_v2_ErrInvalidOperator), ("github.com/d5/tengo/v2.ErrBytesLimit", laid_github_com_d5_tengo_v2_ErrBytesLimit), ("github.com/d5/tengo/v2.MaxBytesLen", laid_github_com_d5_tengo_v2_MaxBytesLen)] }
def FnBytesAddRefusesOtherTypesSaid : Prop := fnBytesAddRefusesOtherTypesRow.holds Eamg.pinned (OpenSpec.ofChange fnBytesAddRefusesOtherTypesSpec)

/-- ITS FALSE NEIGHBOUR: 'it returns false'. Refute it at one input. -/
def fnBytesAddRefusesOtherTypesWrong : ChangeSpec := { name := "fnBytesAddRefusesOtherTypes", vars := ["github.com/d5/tengo/v2.ErrInvalidOperator", "github.com/d5/tengo/v2.MaxBytesLen", "github.com/d5/tengo/v2.ErrBytesLimit"], fn := fun _ => fun
  | [d1, d2, d3, d4, g1, g2, g3] => { results := [.lit (.bool false)], args := [d1, d2, d3, d4], vars := [g1, g2, g3] }
  | _ => none }
def FnBytesAddRefusesOtherTypesWrongFalsely : Prop := fnBytesAddRefusesOtherTypesRow.holds Eamg.pinned (OpenSpec.ofChange fnBytesAddRefusesOtherTypesWrong)

end Rows
end Go.Proofs.YoeamwDoor
