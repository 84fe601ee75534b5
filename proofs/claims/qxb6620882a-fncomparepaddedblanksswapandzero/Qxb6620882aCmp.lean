/-
  The walks of comparePadded, its shim, and the bounds on lengths.
-/
import Derived.Test.Qxb6620882aRows
import Derived.Test.Qxb6620882aPadMath
import Derived.WalkKit
import Derived.WalkSpells
import Derived.WalkLawsBesides
namespace Go.Proofs.Qxb6620882a
open Go.RowKit

theorem ret_int {k : IntKind} {a b : Int} (h : a = b) : Ending.returned (.int k a) = .returned (.int k b) := by rw [h]

set_option maxHeartbeats 400000 in
theorem cmp_any (x y : ByteArray) (r : Int) (w : World) (hx : x.size ≤ 2097152) (hy : y.size ≤ 2097152) (hr : CmpIs (pad x) (pad y) r) :
    Calls Try.prog 29 #[.string x, .string y] w fun e w' => e = .returned (.int .i64 r) ∧ w' = w := by
  go_enter Try.func29, Try.ntmps29
  go_wp2
  go_loop [5] (fun i => ∃ k : Nat, k ≤ 2097152 ∧ i = .int .i64 k ∧ Agree (pad x) (pad y) k) (fun i => x.size + y.size - (intOf i).toNat)
  case atStart => exact ⟨0, Nat.zero_le _, rfl, Agree.zero _ _⟩
  case round =>
    obtain ⟨k, hk, rfl, ha⟩ := hrel
    by_cases h0 : x.size < y.size
    all_goals by_cases h1 : k < x.size
    all_goals by_cases h2 : k < y.size
    all_goals first | omega | skip
    all_goals go_wp2
    all_goals first
      | (go_ret; refine ⟨ret_int ?_, rfl⟩; first
          | exact (hr.eq_neg ha (by simp only [pad, *, dite_true, dite_false] <;> omega)).symm
          | exact (hr.eq_pos ha (by simp only [pad, *, dite_true, dite_false] <;> omega)).symm
          | exact (hr.eq_zero ha (by omega) (by omega)).symm)
      | (go_round
         case rel => exact ⟨k + 1, by omega, by go_num, ha.succ (by simp only [pad, *, dite_true, dite_false] <;> omega)⟩
         case measure => simp [intOf]; omega)

theorem zcmp_any (x y : ByteArray) (r : Int) (w : World) (hx : x.size ≤ 2097152) (hy : y.size ≤ 2097152) (hr : CmpIs (pad x) (pad y) r) :
    Calls Try.prog 11 #[.string x, .string y] w fun e w' => e = .returned (.int .i64 r) ∧ w' = w := by
  go_enter Try.func11, Try.ntmps11
  go_wp2_with (go_at_call 29; refine (cmp_any x y r _ hx hy hr).mono ?_; rintro e w' ⟨rfl, rfl⟩)
  go_ret
  exact ⟨rfl, rfl⟩

theorem bytes9_any (x y : ByteArray) (w : World) (hx : x.size ≤ maxLen) (hy : y.size ≤ maxLen) :
    Calls Try.prog 9 #[.string x, .string y] w fun e w' => e = .returned (.bool (decide (x.size + y.size ≤ 1048576))) ∧ w' = w := by
  unfold maxLen at hx hy
  by_cases h1 : x.size ≤ 1048576
  · by_cases h2 : y.size ≤ 1048576
    · by_cases h3 : x.size + y.size ≤ 1048576
      all_goals
        go_enter Try.func9, Try.ntmps9
        go_wp2
        go_ret
        exact ⟨by simp [h3], rfl⟩
    · have h3 : ¬ x.size + y.size ≤ 1048576 := by omega
      go_enter Try.func9, Try.ntmps9
      go_wp2
      go_ret
      exact ⟨by simp [h3], rfl⟩
  · have h3 : ¬ x.size + y.size ≤ 1048576 := by omega
    go_enter Try.func9, Try.ntmps9
    go_wp2
    go_ret
    exact ⟨by simp [h3], rfl⟩

theorem bytes12_any (x y : ByteArray) (n : Int) (w : World) (hx : x.size ≤ maxLen) (hy : y.size ≤ maxLen) :
    Calls Try.prog 12 #[.string x, .string y, .int .i64 n] w fun e w' => e = .returned (.bool (decide (x.size + y.size ≤ 1048576))) ∧ w' = w := by
  unfold maxLen at hx hy
  by_cases h1 : x.size ≤ 1048576
  · by_cases h2 : y.size ≤ 1048576
    · by_cases h3 : x.size + y.size ≤ 1048576
      all_goals
        go_enter Try.func12, Try.ntmps12
        go_wp2
        go_ret
        exact ⟨by simp [h3], rfl⟩
    · have h3 : ¬ x.size + y.size ≤ 1048576 := by omega
      go_enter Try.func12, Try.ntmps12
      go_wp2
      go_ret
      exact ⟨by simp [h3], rfl⟩
  · have h3 : ¬ x.size + y.size ≤ 1048576 := by omega
    go_enter Try.func12, Try.ntmps12
    go_wp2
    go_ret
    exact ⟨by simp [h3], rfl⟩

end Go.Proofs.Qxb6620882a
