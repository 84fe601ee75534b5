/-
  A builder's own address, turned to a bare pointer and back: the address as it is.
-/
import Derived.Test.Qxb6617505aProg
import Derived.WalkKit
import Derived.Lib.Builder
namespace Go.Proofs.Qxb6617505a
open Go.RowKit

theorem sizeB : (Try.prog.info? 27).map (·.size) = some 2 := by kernel_rfl
theorem liesB : liesAt Try.prog Try.prog.depth 27 (2 / Try.prog.cellsOf 27) 0 27 1 = true := by kernel_rfl

theorem same_run {α : Type} {P : Program} {w : World} {g h : Sem α} (e : g = h) : g.run P w = h.run P w := by rw [e]

theorem ptr_out (b : Nat) (w : World) (hsh : w.shape? b = some (27, 2)) :
    (convert 25 33 (.pointer (some ⟨b, 0, none⟩))).run Try.prog w = .ok (.pointer (some ⟨b, 0, none⟩)) w := by
  obtain ⟨j, hj, hjs⟩ := Option.map_eq_some_iff.1 sizeB
  simp only [convert, Sem.run_bind, run_underlying Try.underlying25, run_underlying Try.underlying33, Result.andThen]
  refine (same_run (h := _ >>= _) rfl).trans ?_
  simp [run_underlying Try.underlying25, run_underlying Try.underlying33, Conv.seenAt, viewAt, cellsIn, hsh, sizeOf, typeInfo, hj, hjs]

theorem ptr_back (b : Nat) (w : World) (hsh : w.shape? b = some (27, 2)) :
    (convert 33 25 (.pointer (some ⟨b, 0, none⟩))).run Try.prog w = .ok (.pointer (some ⟨b, 0, none⟩)) w := by
  obtain ⟨j, hj, hjs⟩ := Option.map_eq_some_iff.1 sizeB
  simp only [convert, Sem.run_bind, run_underlying Try.underlying25, run_underlying Try.underlying33, Result.andThen]
  refine (same_run (h := _ >>= _) rfl).trans ?_
  simp [run_underlying Try.underlying25, run_underlying Try.underlying33, Conv.seenAt, viewAt, hsh, variablesAt, liesB, sizeOf, typeInfo, hj]

end Go.Proofs.Qxb6617505a
