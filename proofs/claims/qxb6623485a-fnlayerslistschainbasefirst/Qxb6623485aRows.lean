/-
  No cell of these rows narrows 'for every input' (looked for: loops, veiled, ifaces, maps, wideKeys, modest, calm, conditions, laid).
  DERIVED. THE GIVEN ROWS OF THIS SEAT. 1 by the template 'for every input the law returns true; each argument reads behind the call as it read before'; 0 by the template 'total and deterministic' (their statements: Qxb6623485aTotals.lean).
  GIVEN WITH THE SEED: the statements are not yours to turn. If you find one false, say at which input.
  Laid BY PROGRAM, IN A SANDBOX (cutbox-rows.mjs): the forced cells as the released guide's own fill.sh prints them over the translation d0cd977b2186d0dc… (all of the seat's roots in one cut). By AI agents, Wed Nov 11 2026. No macro, syntax, notation, axiom, sorry.
-/
import Derived.Test.Qxb6623485aChecked
import GoSem.Claim
import GoSem.ClaimJoined
import GoSem.ClaimMapViews
import Derived.JoinedTies
import Derived.KernelRfl
namespace Go.Proofs.Qxb6623485a
/- THE CELL 'sum', in the pinned program and in every row, IS THE sha256 OF THE DUMP (.gsa) THAT Qxb6623485aProg.lean LOADS. Nothing in Lean hashes anything: it is a label: what it is worth is what the hold of that sum in a sandbox is worth. -/
noncomputable def Try.pinned : Pinned := { name := "qxb6623485a", sum := "d0cd977b2186d0dcaa4993f867e26d37bd0a49df7654aa96178e3328bc7f106f", checked := Try.checked }
namespace Rows
def none {H : Type} : Left H := { results := [], args := [] }

/-- 'zzlaws_root_b1.FnLayersListsChainBaseFirst': WHATEVER THE INPUT: true; the input reads as it did. -/
def fnLayersListsChainBaseFirstSpec : ChangeSpec := { name := "fnLayersListsChainBaseFirst", fn := fun _ => fun
  | [d] => { results := [.lit (.bool true)], args := [d] }
  | _ => none }
def fnLayersListsChainBaseFirstRow : OpenClaim := { program := "qxb6623485a", sum := "d0cd977b2186d0dcaa4993f867e26d37bd0a49df7654aa96178e3328bc7f106f", func := "example.com/forebear/forebear/zzlaws_root_b1.FnLayersListsChainBaseFirst", spec := "fnLayersListsChainBaseFirst", apart := false }
def FnLayersListsChainBaseFirstSaid : Prop := fnLayersListsChainBaseFirstRow.holds Try.pinned (OpenSpec.ofChange fnLayersListsChainBaseFirstSpec)

/-- ITS FALSE NEIGHBOUR: 'it returns false'. Refute it at one input. -/
def fnLayersListsChainBaseFirstWrong : ChangeSpec := { name := "fnLayersListsChainBaseFirst", fn := fun _ => fun
  | [d] => { results := [.lit (.bool false)], args := [d] }
  | _ => none }
def FnLayersListsChainBaseFirstWrongFalsely : Prop := fnLayersListsChainBaseFirstRow.holds Try.pinned (OpenSpec.ofChange fnLayersListsChainBaseFirstWrong)

end Rows
end Go.Proofs.Qxb6623485a
