/-
  No cell of these rows narrows 'for every input' (looked for: loops, veiled, ifaces, maps, wideKeys, modest, calm, conditions, laid).
  DERIVED. THE GIVEN ROWS OF THIS SEAT. 2 by the template 'for every input the law returns true; each argument reads behind the call as it read before'; 0 by the template 'total and deterministic' (their statements: Qxb6623444aTotals.lean).
  GIVEN WITH THE SEED: the statements are not yours to turn. If you find one false, say at which input.
  Laid BY PROGRAM, IN A SANDBOX (cutbox-rows.mjs): the forced cells as the released guide's own fill.sh prints them over the translation 80b180bc12c9a368… (all of the seat's roots in one cut). By AI agents, Wed Nov 11 2026. No macro, syntax, notation, axiom, sorry.
-/
import Derived.Test.Qxb6623444aChecked
import GoSem.Claim
import GoSem.ClaimJoined
import GoSem.ClaimMapViews
import Derived.JoinedTies
import Derived.KernelRfl
namespace Go.Proofs.Qxb6623444a
/- THE CELL 'sum', in the pinned program and in every row, IS THE sha256 OF THE DUMP (.gsa) THAT Qxb6623444aProg.lean LOADS. Nothing in Lean hashes anything: it is a label: what it is worth is what the hold of that sum in a sandbox is worth. -/
noncomputable def Try.pinned : Pinned := { name := "qxb6623444a", sum := "80b180bc12c9a3686a3073a9180d9df4434c001680dd33139e94519c19282e4c", checked := Try.checked }
namespace Rows
def none {H : Type} : Left H := { results := [], args := [] }

/-- 'zzlaws_frame_b1.FnCutFramesReassemble': WHATEVER THE INPUT: true; the input reads as it did. -/
def fnCutFramesReassembleSpec : ChangeSpec := { name := "fnCutFramesReassemble", fn := fun _ => fun
  | [d1, d2, d3] => { results := [.lit (.bool true)], args := [d1, d2, d3] }
  | _ => none }
def fnCutFramesReassembleRow : OpenClaim := { program := "qxb6623444a", sum := "80b180bc12c9a3686a3073a9180d9df4434c001680dd33139e94519c19282e4c", func := "example.com/rillway/rillway/zzlaws_frame_b1.FnCutFramesReassemble", spec := "fnCutFramesReassemble", apart := false }
def FnCutFramesReassembleSaid : Prop := fnCutFramesReassembleRow.holds Try.pinned (OpenSpec.ofChange fnCutFramesReassembleSpec)

/-- ITS FALSE NEIGHBOUR: 'it returns false'. Refute it at one input. -/
def fnCutFramesReassembleWrong : ChangeSpec := { name := "fnCutFramesReassemble", fn := fun _ => fun
  | [d1, d2, d3] => { results := [.lit (.bool false)], args := [d1, d2, d3] }
  | _ => none }
def FnCutFramesReassembleWrongFalsely : Prop := fnCutFramesReassembleRow.holds Try.pinned (OpenSpec.ofChange fnCutFramesReassembleWrong)

/-- 'zzlaws_frame_b1.FnCutMoreRoomTakesMore': WHATEVER THE INPUT: true; the input reads as it did. -/
def fnCutMoreRoomTakesMoreSpec : ChangeSpec := { name := "fnCutMoreRoomTakesMore", fn := fun _ => fun
  | [d1, d2, d3, d4] => { results := [.lit (.bool true)], args := [d1, d2, d3, d4] }
  | _ => none }
def fnCutMoreRoomTakesMoreRow : OpenClaim := { program := "qxb6623444a", sum := "80b180bc12c9a3686a3073a9180d9df4434c001680dd33139e94519c19282e4c", func := "example.com/rillway/rillway/zzlaws_frame_b1.FnCutMoreRoomTakesMore", spec := "fnCutMoreRoomTakesMore", apart := false }
def FnCutMoreRoomTakesMoreSaid : Prop := fnCutMoreRoomTakesMoreRow.holds Try.pinned (OpenSpec.ofChange fnCutMoreRoomTakesMoreSpec)

/-- ITS FALSE NEIGHBOUR: 'it returns false'. Refute it at one input. -/
def fnCutMoreRoomTakesMoreWrong : ChangeSpec := { name := "fnCutMoreRoomTakesMore", fn := fun _ => fun
  | [d1, d2, d3, d4] => { results := [.lit (.bool false)], args := [d1, d2, d3, d4] }
  | _ => none }
def FnCutMoreRoomTakesMoreWrongFalsely : Prop := fnCutMoreRoomTakesMoreRow.holds Try.pinned (OpenSpec.ofChange fnCutMoreRoomTakesMoreWrong)

end Rows
end Go.Proofs.Qxb6623444a
