/-
  No cell of these rows narrows 'for every input' (looked for: loops, veiled, ifaces, maps, wideKeys, modest, calm, conditions, laid).
  DERIVED. THE GIVEN ROWS OF THIS SEAT. 4 by the template 'for every input the law returns true; each argument reads behind the call as it read before'; 0 by the template 'total and deterministic' (their statements: YoeamwTotals.lean).
  GIVEN WITH THE SEED: the statements are not yours to turn. If you find one false, say at which input.
  Laid BY PROGRAM, IN A SANDBOX (cutbox-rows.mjs): the forced cells as the released guide's own fill.sh prints them over the translation 071aed0c707e621c… (all of the seat's roots in one cut). By AI agents, Wed Nov 11 2026. No macro, syntax, notation, axiom, sorry.
-/
import Derived.Test.YoeamwChecked
import GoSem.Claim
import GoSem.ClaimJoined
import GoSem.ClaimMapViews
import Derived.JoinedTies
import Derived.KernelRfl
namespace Go.Proofs.Yoeamw
/- THE CELL 'sum', in the pinned program and in every row, IS THE sha256 OF THE DUMP (.gsa) THAT YoeamwProg.lean LOADS. Nothing in Lean hashes anything: it is a label: what it is worth is what the hold of that sum in a sandbox is worth. -/
noncomputable def Eamg.pinned : Pinned := { name := "yoeamw", sum := "071aed0c707e621cc27dfdaec14a0cfa1ccf6b5cd0cc85508a995030a00433c6", checked := Eamg.checked }
namespace Rows
def none {H : Type} : Left H := { results := [], args := [] }

/-- 'zzlaws_root_b1.FnBytesCopyEqualAndFresh': WHATEVER THE INPUT: true; the input reads as it did. -/
def fnBytesCopyEqualAndFreshSpec : ChangeSpec := { name := "fnBytesCopyEqualAndFresh", fn := fun _ => fun
  | [d] => { results := [.lit (.bool true)], args := [d] }
  | _ => none }
def fnBytesCopyEqualAndFreshRow : OpenClaim := { program := "yoeamw", sum := "071aed0c707e621cc27dfdaec14a0cfa1ccf6b5cd0cc85508a995030a00433c6", func := "github.com/d5/tengo/v2/zzlaws_root_b1.FnBytesCopyEqualAndFresh", spec := "fnBytesCopyEqualAndFresh", unfollowed := true, recurses := true, apart := false }
def FnBytesCopyEqualAndFreshSaid : Prop := fnBytesCopyEqualAndFreshRow.holds Eamg.pinned (OpenSpec.ofChange fnBytesCopyEqualAndFreshSpec)

/-- ITS FALSE NEIGHBOUR: 'it returns false'. Refute it at one input. -/
def fnBytesCopyEqualAndFreshWrong : ChangeSpec := { name := "fnBytesCopyEqualAndFresh", fn := fun _ => fun
  | [d] => { results := [.lit (.bool false)], args := [d] }
  | _ => none }
def FnBytesCopyEqualAndFreshWrongFalsely : Prop := fnBytesCopyEqualAndFreshRow.holds Eamg.pinned (OpenSpec.ofChange fnBytesCopyEqualAndFreshWrong)

/-- 'zzlaws_root_b1.FnBytesStringExact': WHATEVER THE INPUT: true; the input reads as it did. -/
def fnBytesStringExactSpec : ChangeSpec := { name := "fnBytesStringExact", fn := fun _ => fun
  | [d] => { results := [.lit (.bool true)], args := [d] }
  | _ => none }
def fnBytesStringExactRow : OpenClaim := { program := "yoeamw", sum := "071aed0c707e621cc27dfdaec14a0cfa1ccf6b5cd0cc85508a995030a00433c6", func := "github.com/d5/tengo/v2/zzlaws_root_b1.FnBytesStringExact", spec := "fnBytesStringExact", apart := false }
def FnBytesStringExactSaid : Prop := fnBytesStringExactRow.holds Eamg.pinned (OpenSpec.ofChange fnBytesStringExactSpec)

/-- ITS FALSE NEIGHBOUR: 'it returns false'. Refute it at one input. -/
def fnBytesStringExactWrong : ChangeSpec := { name := "fnBytesStringExact", fn := fun _ => fun
  | [d] => { results := [.lit (.bool false)], args := [d] }
  | _ => none }
def FnBytesStringExactWrongFalsely : Prop := fnBytesStringExactRow.holds Eamg.pinned (OpenSpec.ofChange fnBytesStringExactWrong)

/-- 'zzlaws_root_b1.FnBytesStringDecidesEquals': WHATEVER THE INPUT: true; the input reads as it did. -/
def fnBytesStringDecidesEqualsSpec : ChangeSpec := { name := "fnBytesStringDecidesEquals", fn := fun _ => fun
  | [d1, d2] => { results := [.lit (.bool true)], args := [d1, d2] }
  | _ => none }
def fnBytesStringDecidesEqualsRow : OpenClaim := { program := "yoeamw", sum := "071aed0c707e621cc27dfdaec14a0cfa1ccf6b5cd0cc85508a995030a00433c6", func := "github.com/d5/tengo/v2/zzlaws_root_b1.FnBytesStringDecidesEquals", spec := "fnBytesStringDecidesEquals", apart := false }
def FnBytesStringDecidesEqualsSaid : Prop := fnBytesStringDecidesEqualsRow.holds Eamg.pinned (OpenSpec.ofChange fnBytesStringDecidesEqualsSpec)

/-- ITS FALSE NEIGHBOUR: 'it returns false'. Refute it at one input. -/
def fnBytesStringDecidesEqualsWrong : ChangeSpec := { name := "fnBytesStringDecidesEquals", fn := fun _ => fun
  | [d1, d2] => { results := [.lit (.bool false)], args := [d1, d2] }
  | _ => none }
def FnBytesStringDecidesEqualsWrongFalsely : Prop := fnBytesStringDecidesEqualsRow.holds Eamg.pinned (OpenSpec.ofChange fnBytesStringDecidesEqualsWrong)

/-- 'zzlaws_root_b1.FnBytesTypeNameFixed': WHATEVER THE INPUT: true; the input reads as it did. -/
def fnBytesTypeNameFixedSpec : ChangeSpec := { name := "fnBytesTypeNameFixed", fn := fun _ => fun
  | [d] => { results := [.lit (.bool true)], args := [d] }
  | _ => none }
def fnBytesTypeNameFixedRow : OpenClaim := { program := "yoeamw", sum := "071aed0c707e621cc27dfdaec14a0cfa1ccf6b5cd0cc85508a995030a00433c6", func := "github.com/d5/tengo/v2/zzlaws_root_b1.FnBytesTypeNameFixed", spec := "fnBytesTypeNameFixed", unfollowed := true, recurses := true, apart := false }
def FnBytesTypeNameFixedSaid : Prop := fnBytesTypeNameFixedRow.holds Eamg.pinned (OpenSpec.ofChange fnBytesTypeNameFixedSpec)

/-- ITS FALSE NEIGHBOUR: 'it returns false'. Refute it at one input. -/
def fnBytesTypeNameFixedWrong : ChangeSpec := { name := "fnBytesTypeNameFixed", fn := fun _ => fun
  | [d] => { results := [.lit (.bool false)], args := [d] }
  | _ => none }
def FnBytesTypeNameFixedWrongFalsely : Prop := fnBytesTypeNameFixedRow.holds Eamg.pinned (OpenSpec.ofChange fnBytesTypeNameFixedWrong)

end Rows
end Go.Proofs.Yoeamw
