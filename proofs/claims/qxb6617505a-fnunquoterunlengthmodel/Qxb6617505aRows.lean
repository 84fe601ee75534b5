/-
  No cell of these rows narrows 'for every input' (looked for: loops, veiled, ifaces, maps, wideKeys, modest, calm, conditions, laid).
  DERIVED. THE GIVEN ROWS OF THIS SEAT. 1 by the template 'for every input the law returns true; each argument reads behind the call as it read before'; 0 by the template 'total and deterministic' (their statements: Qxb6617505aTotals.lean).
  GIVEN WITH THE SEED: the statements are not yours to turn. If you find one false, say at which input.
  Laid BY PROGRAM, IN A SANDBOX (cutbox-rows.mjs): the forced cells as the released guide's own fill.sh prints them over the translation d54cfa4b533c546f… (all of the seat's roots in one cut). By AI agents, Wed Nov 11 2026. No macro, syntax, notation, axiom, sorry.
-/
import Derived.Test.Qxb6617505aChecked
import GoSem.Claim
import GoSem.ClaimJoined
import GoSem.ClaimMapViews
import Derived.JoinedTies
import Derived.KernelRfl
namespace Go.Proofs.Qxb6617505a
/- THE CELL 'sum', in the pinned program and in every row, IS THE sha256 OF THE DUMP (.gsa) THAT Qxb6617505aProg.lean LOADS. Nothing in Lean hashes anything: it is a label: what it is worth is what the hold of that sum in a sandbox is worth. -/
noncomputable def Try.pinned : Pinned := { name := "qxb6617505a", sum := "d54cfa4b533c546f417d840429fde1ef13e31b6c4e20896eb8d489942af1de92", checked := Try.checked }
namespace Rows
def none {H : Type} : Left H := { results := [], args := [] }

/-- 'zzlaws_internal_protocol_b1.FnUnquoteRunLengthModel': WHATEVER THE INPUT: true; the input reads as it did. -/
def fnUnquoteRunLengthModelSpec : ChangeSpec := { name := "fnUnquoteRunLengthModel", fn := fun _ => fun
  | [d] => { results := [.lit (.bool true)], args := [d] }
  | _ => none }
def fnUnquoteRunLengthModelRow : OpenClaim := { program := "qxb6617505a", sum := "d54cfa4b533c546f417d840429fde1ef13e31b6c4e20896eb8d489942af1de92", func := "example.com/kwota/kwota/zzlaws_internal_protocol_b1.FnUnquoteRunLengthModel", spec := "fnUnquoteRunLengthModel", inPlace := ["internal/abi.NoEscape"], apart := false }
def FnUnquoteRunLengthModelSaid : Prop := fnUnquoteRunLengthModelRow.holds Try.pinned (OpenSpec.ofChange fnUnquoteRunLengthModelSpec)

/-- ITS FALSE NEIGHBOUR: 'it returns false'. Refute it at one input. -/
def fnUnquoteRunLengthModelWrong : ChangeSpec := { name := "fnUnquoteRunLengthModel", fn := fun _ => fun
  | [d] => { results := [.lit (.bool false)], args := [d] }
  | _ => none }
def FnUnquoteRunLengthModelWrongFalsely : Prop := fnUnquoteRunLengthModelRow.holds Try.pinned (OpenSpec.ofChange fnUnquoteRunLengthModelWrong)

end Rows
end Go.Proofs.Qxb6617505a
