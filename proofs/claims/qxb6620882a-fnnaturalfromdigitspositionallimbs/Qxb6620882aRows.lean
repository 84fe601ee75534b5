/-
  No cell of these rows narrows 'for every input' (looked for: loops, veiled, ifaces, maps, wideKeys, modest, calm, conditions, laid).
  DERIVED. THE GIVEN ROWS OF THIS SEAT. 6 by the template 'for every input the law returns true; each argument reads behind the call as it read before'; 0 by the template 'total and deterministic' (their statements: Qxb6620882aTotals.lean).
  GIVEN WITH THE SEED: the statements are not yours to turn. If you find one false, say at which input.
  Laid BY PROGRAM, IN A SANDBOX (cutbox-rows.mjs): the forced cells as the released guide's own fill.sh prints them over the translation e4695958e4c5c30a… (all of the seat's roots in one cut). By AI agents, Wed Nov 11 2026. No macro, syntax, notation, axiom, sorry.
-/
import Derived.Test.Qxb6620882aChecked
import GoSem.Claim
import GoSem.ClaimJoined
import GoSem.ClaimMapViews
import Derived.JoinedTies
import Derived.KernelRfl
namespace Go.Proofs.Qxb6620882a
/- THE CELL 'sum', in the pinned program and in every row, IS THE sha256 OF THE DUMP (.gsa) THAT Qxb6620882aProg.lean LOADS. Nothing in Lean hashes anything: it is a label: what it is worth is what the hold of that sum in a sandbox is worth. -/
noncomputable def Try.pinned : Pinned := { name := "qxb6620882a", sum := "e4695958e4c5c30aa3a2ecd7daf12fed2b737665e64cb726a0a9d5eb1e526733", checked := Try.checked }
namespace Rows
def none {H : Type} : Left H := { results := [], args := [] }

/-- 'zzlaws_root_b1.FnComparePaddedMatchesPaddedOrder': WHATEVER THE INPUT: true; the input reads as it did. -/
def fnComparePaddedMatchesPaddedOrderSpec : ChangeSpec := { name := "fnComparePaddedMatchesPaddedOrder", fn := fun _ => fun
  | [d1, d2] => { results := [.lit (.bool true)], args := [d1, d2] }
  | _ => none }
def fnComparePaddedMatchesPaddedOrderRow : OpenClaim := { program := "qxb6620882a", sum := "e4695958e4c5c30aa3a2ecd7daf12fed2b737665e64cb726a0a9d5eb1e526733", func := "example.com/guarddigit/guarddigit/zzlaws_root_b1.FnComparePaddedMatchesPaddedOrder", spec := "fnComparePaddedMatchesPaddedOrder", apart := false }
def FnComparePaddedMatchesPaddedOrderSaid : Prop := fnComparePaddedMatchesPaddedOrderRow.holds Try.pinned (OpenSpec.ofChange fnComparePaddedMatchesPaddedOrderSpec)

/-- ITS FALSE NEIGHBOUR: 'it returns false'. Refute it at one input. -/
def fnComparePaddedMatchesPaddedOrderWrong : ChangeSpec := { name := "fnComparePaddedMatchesPaddedOrder", fn := fun _ => fun
  | [d1, d2] => { results := [.lit (.bool false)], args := [d1, d2] }
  | _ => none }
def FnComparePaddedMatchesPaddedOrderWrongFalsely : Prop := fnComparePaddedMatchesPaddedOrderRow.holds Try.pinned (OpenSpec.ofChange fnComparePaddedMatchesPaddedOrderWrong)

/-- 'zzlaws_root_b1.FnComparePaddedBlanksSwapAndZero': WHATEVER THE INPUT: true; the input reads as it did. -/
def fnComparePaddedBlanksSwapAndZeroSpec : ChangeSpec := { name := "fnComparePaddedBlanksSwapAndZero", fn := fun _ => fun
  | [d1, d2, d3] => { results := [.lit (.bool true)], args := [d1, d2, d3] }
  | _ => none }
def fnComparePaddedBlanksSwapAndZeroRow : OpenClaim := { program := "qxb6620882a", sum := "e4695958e4c5c30aa3a2ecd7daf12fed2b737665e64cb726a0a9d5eb1e526733", func := "example.com/guarddigit/guarddigit/zzlaws_root_b1.FnComparePaddedBlanksSwapAndZero", spec := "fnComparePaddedBlanksSwapAndZero", apart := false }
def FnComparePaddedBlanksSwapAndZeroSaid : Prop := fnComparePaddedBlanksSwapAndZeroRow.holds Try.pinned (OpenSpec.ofChange fnComparePaddedBlanksSwapAndZeroSpec)

/-- ITS FALSE NEIGHBOUR: 'it returns false'. Refute it at one input. -/
def fnComparePaddedBlanksSwapAndZeroWrong : ChangeSpec := { name := "fnComparePaddedBlanksSwapAndZero", fn := fun _ => fun
  | [d1, d2, d3] => { results := [.lit (.bool false)], args := [d1, d2, d3] }
  | _ => none }
def FnComparePaddedBlanksSwapAndZeroWrongFalsely : Prop := fnComparePaddedBlanksSwapAndZeroRow.holds Try.pinned (OpenSpec.ofChange fnComparePaddedBlanksSwapAndZeroWrong)

/-- 'zzlaws_root_b1.FnNaturalFromDigitsPositionalLimbs': WHATEVER THE INPUT: true; the input reads as it did. -/
def fnNaturalFromDigitsPositionalLimbsSpec : ChangeSpec := { name := "fnNaturalFromDigitsPositionalLimbs", fn := fun _ => fun
  | [d1, d2] => { results := [.lit (.bool true)], args := [d1, d2] }
  | _ => none }
def fnNaturalFromDigitsPositionalLimbsRow : OpenClaim := { program := "qxb6620882a", sum := "e4695958e4c5c30aa3a2ecd7daf12fed2b737665e64cb726a0a9d5eb1e526733", func := "example.com/guarddigit/guarddigit/zzlaws_root_b1.FnNaturalFromDigitsPositionalLimbs", spec := "fnNaturalFromDigitsPositionalLimbs", apart := false }
def FnNaturalFromDigitsPositionalLimbsSaid : Prop := fnNaturalFromDigitsPositionalLimbsRow.holds Try.pinned (OpenSpec.ofChange fnNaturalFromDigitsPositionalLimbsSpec)

/-- ITS FALSE NEIGHBOUR: 'it returns false'. Refute it at one input. -/
def fnNaturalFromDigitsPositionalLimbsWrong : ChangeSpec := { name := "fnNaturalFromDigitsPositionalLimbs", fn := fun _ => fun
  | [d1, d2] => { results := [.lit (.bool false)], args := [d1, d2] }
  | _ => none }
def FnNaturalFromDigitsPositionalLimbsWrongFalsely : Prop := fnNaturalFromDigitsPositionalLimbsRow.holds Try.pinned (OpenSpec.ofChange fnNaturalFromDigitsPositionalLimbsWrong)

/-- 'zzlaws_root_b1.FnValueStringSpellsEveryShape': WHATEVER THE INPUT: true; the input reads as it did. -/
def fnValueStringSpellsEveryShapeSpec : ChangeSpec := { name := "fnValueStringSpellsEveryShape", fn := fun _ => fun
  | [d1, d2] => { results := [.lit (.bool true)], args := [d1, d2] }
  | _ => none }
def fnValueStringSpellsEveryShapeRow : OpenClaim := { program := "qxb6620882a", sum := "e4695958e4c5c30aa3a2ecd7daf12fed2b737665e64cb726a0a9d5eb1e526733", func := "example.com/guarddigit/guarddigit/zzlaws_root_b1.FnValueStringSpellsEveryShape", spec := "fnValueStringSpellsEveryShape", recurses := true, apart := false }
def FnValueStringSpellsEveryShapeSaid : Prop := fnValueStringSpellsEveryShapeRow.holds Try.pinned (OpenSpec.ofChange fnValueStringSpellsEveryShapeSpec)

/-- ITS FALSE NEIGHBOUR: 'it returns false'. Refute it at one input. -/
def fnValueStringSpellsEveryShapeWrong : ChangeSpec := { name := "fnValueStringSpellsEveryShape", fn := fun _ => fun
  | [d1, d2] => { results := [.lit (.bool false)], args := [d1, d2] }
  | _ => none }
def FnValueStringSpellsEveryShapeWrongFalsely : Prop := fnValueStringSpellsEveryShapeRow.holds Try.pinned (OpenSpec.ofChange fnValueStringSpellsEveryShapeWrong)

/-- 'zzlaws_root_b1.FnNaturalFromDigitsZerosAndLeadingZerosAgree': WHATEVER THE INPUT: true; the input reads as it did. -/
def fnNaturalFromDigitsZerosAndLeadingZerosAgreeSpec : ChangeSpec := { name := "fnNaturalFromDigitsZerosAndLeadingZerosAgree", fn := fun _ => fun
  | [d1, d2, d3] => { results := [.lit (.bool true)], args := [d1, d2, d3] }
  | _ => none }
def fnNaturalFromDigitsZerosAndLeadingZerosAgreeRow : OpenClaim := { program := "qxb6620882a", sum := "e4695958e4c5c30aa3a2ecd7daf12fed2b737665e64cb726a0a9d5eb1e526733", func := "example.com/guarddigit/guarddigit/zzlaws_root_b1.FnNaturalFromDigitsZerosAndLeadingZerosAgree", spec := "fnNaturalFromDigitsZerosAndLeadingZerosAgree", apart := false }
def FnNaturalFromDigitsZerosAndLeadingZerosAgreeSaid : Prop := fnNaturalFromDigitsZerosAndLeadingZerosAgreeRow.holds Try.pinned (OpenSpec.ofChange fnNaturalFromDigitsZerosAndLeadingZerosAgreeSpec)

/-- ITS FALSE NEIGHBOUR: 'it returns false'. Refute it at one input. -/
def fnNaturalFromDigitsZerosAndLeadingZerosAgreeWrong : ChangeSpec := { name := "fnNaturalFromDigitsZerosAndLeadingZerosAgree", fn := fun _ => fun
  | [d1, d2, d3] => { results := [.lit (.bool false)], args := [d1, d2, d3] }
  | _ => none }
def FnNaturalFromDigitsZerosAndLeadingZerosAgreeWrongFalsely : Prop := fnNaturalFromDigitsZerosAndLeadingZerosAgreeRow.holds Try.pinned (OpenSpec.ofChange fnNaturalFromDigitsZerosAndLeadingZerosAgreeWrong)

/-- 'zzlaws_root_b1.FnValueStringJoinSpellsBothSides': WHATEVER THE INPUT: true; the input reads as it did. -/
def fnValueStringJoinSpellsBothSidesSpec : ChangeSpec := { name := "fnValueStringJoinSpellsBothSides", fn := fun _ => fun
  | [d1, d2, d3, d4, d5] => { results := [.lit (.bool true)], args := [d1, d2, d3, d4, d5] }
  | _ => none }
def fnValueStringJoinSpellsBothSidesRow : OpenClaim := { program := "qxb6620882a", sum := "e4695958e4c5c30aa3a2ecd7daf12fed2b737665e64cb726a0a9d5eb1e526733", func := "example.com/guarddigit/guarddigit/zzlaws_root_b1.FnValueStringJoinSpellsBothSides", spec := "fnValueStringJoinSpellsBothSides", apart := false }
def FnValueStringJoinSpellsBothSidesSaid : Prop := fnValueStringJoinSpellsBothSidesRow.holds Try.pinned (OpenSpec.ofChange fnValueStringJoinSpellsBothSidesSpec)

/-- ITS FALSE NEIGHBOUR: 'it returns false'. Refute it at one input. -/
def fnValueStringJoinSpellsBothSidesWrong : ChangeSpec := { name := "fnValueStringJoinSpellsBothSides", fn := fun _ => fun
  | [d1, d2, d3, d4, d5] => { results := [.lit (.bool false)], args := [d1, d2, d3, d4, d5] }
  | _ => none }
def FnValueStringJoinSpellsBothSidesWrongFalsely : Prop := fnValueStringJoinSpellsBothSidesRow.holds Try.pinned (OpenSpec.ofChange fnValueStringJoinSpellsBothSidesWrong)

end Rows
end Go.Proofs.Qxb6620882a
