/-
  The walk of FnUnquoteRunLengthModel.
-/
import Derived.Test.Qxb6617505aModel
namespace Go.Proofs.Qxb6617505a.fnUnquoteRunLengthModel
open Go.RowKit

theorem bytes4_any (v : ByteArray) (w : World) (hv : v.size ≤ maxLen) :
    Calls Try.prog 4 #[.string v] w fun e w' => e = .returned (.bool (decide (v.size ≤ 1048576))) ∧ w' = w := by
  unfold maxLen at hv
  by_cases h1 : v.size ≤ 1048576
  all_goals
    go_enter Try.func4, Try.ntmps4
    go_wp2
    go_ret
    exact ⟨by simp [h1], rfl⟩
theorem bytes4_yes (v : ByteArray) (w : World) (hv : v.size ≤ maxLen) (h : v.size ≤ 1048576) :
    Calls Try.prog 4 #[.string v] w fun e w' => e = .returned (.bool true) ∧ w' = w := by
  have := bytes4_any v w hv
  simpa [h] using this
theorem bytes4_no (v : ByteArray) (w : World) (hv : v.size ≤ maxLen) (h : ¬ v.size ≤ 1048576) :
    Calls Try.prog 4 #[.string v] w fun e w' => e = .returned (.bool false) ∧ w' = w := by
  have := bytes4_any v w hv
  simpa [h] using this

/-- Both answer the same string. -/
theorem both (v : ByteArray) (hv : v.size ≤ 1048576) : ∃ r : ByteArray,
    (∀ w, Calls Try.prog 7 #[.string v] w fun e w' => e = .returned (.string r) ∧ Below w.heap.size w w') ∧
    (∀ w, Calls Try.prog 6 #[.string v] w fun e w' => e = .returned (.string r) ∧ Below w.heap.size w w') := by
  by_cases hq : Quoted v
  · obtain ⟨h2, h0, h1⟩ := hq
    exact ⟨_, fun w => unq_yes v _ w hv h2 h0 h1 rfl, fun w => model_yes v _ w hv h2 h0 h1 rfl⟩
  · exact ⟨v, fun w => (unq_no v w hv hq).mono fun e w' ⟨he, hw⟩ => ⟨he, hw ▸ Below.refl _ _⟩, fun w => (model_no v w hv hq).mono fun e w' ⟨he, hw⟩ => ⟨he, hw ▸ Below.refl _ _⟩⟩

theorem zunq (v r : ByteArray) (w : World) (HU : Hid (∀ w, Calls Try.prog 7 #[.string v] w fun e w' => e = .returned (.string r) ∧ Below w.heap.size w w')) :
    Calls Try.prog 5 #[.string v] w fun e w' => e = .returned (.string r) ∧ Below w.heap.size w w' := by
  go_enter Try.func5, Try.ntmps5
  go_wp2_with fail
  refine (HU.out _).mono ?_
  rintro e w1 ⟨rfl, hb⟩
  go_wp2
  go_ret
  exact ⟨rfl, hb⟩

set_option maxHeartbeats 400000 in
theorem walk (a0 : ByteArray) (w0 : a0.size ≤ maxLen) (w : World) :
    Calls Try.prog 3 #[.string a0] w fun e w' => e = .returned (.bool true) ∧ Below w.heap.size w w' := by
  by_cases h : a0.size ≤ 1048576
  · obtain ⟨r, h1, h2⟩ := both a0 h
    have H1 := hide h1
    have H2 := hide h2
    clear h1 h2
    go_enter Try.func3, Try.ntmps3
    go_wp2_with (go_at_call 4; refine (bytes4_yes a0 _ w0 h).mono ?_; rintro e w' ⟨rfl, hw⟩; rw [hw]; clear hw w')
    refine (zunq a0 r _ H1).mono ?_
    rintro e w1 ⟨rfl, hb1⟩
    go_wp2_with fail
    refine (H2.out _).mono ?_
    rintro e w2 ⟨rfl, hb2⟩
    go_wp2
    go_ret
    exact ⟨by simp, hb1.trans (hb2.mono hb1.size)⟩
  · go_enter Try.func3, Try.ntmps3
    go_wp2_with (go_at_call 4; refine (bytes4_no a0 _ w0 h).mono ?_; rintro e w' ⟨rfl, rfl⟩)
    go_ret
    exact ⟨rfl, Below.refl _ _⟩

end Go.Proofs.Qxb6617505a.fnUnquoteRunLengthModel
