/-
  The walk of FnComparePaddedBlanksSwapAndZero.
-/
import Derived.Test.Qxb6620882aTrim
namespace Go.Proofs.Qxb6620882a.fnComparePaddedBlanksSwapAndZero
open Go.RowKit

set_option maxHeartbeats 400000 in
theorem walk (a0 : ByteArray) (a1 : ByteArray) (a2 : Int) (w0 : a0.size ≤ maxLen) (w1 : a1.size ≤ maxLen) (w2 : (Lit.int .i64 a2).wf = true) (w : World) :
    Calls Try.prog 4 #[.string a0, .string a1, .int .i64 a2] w fun e w' => e = .returned (.bool true) ∧ Below w.heap.size w w' := by
  by_cases h : a0.size + a1.size ≤ 1048576
  · by_cases k0 : a2 < 0
    · go_enter Try.func4, Try.ntmps4
      go_wp2_with (go_at_call 12; refine (bytes12_yes a0 a1 a2 _ w0 w1 h).mono ?_; rintro e w' ⟨rfl, rfl⟩)
      go_ret
      exact ⟨rfl, Below.refl _ _⟩
    · by_cases k1 : 65536 < a2
      · go_enter Try.func4, Try.ntmps4
        go_wp2_with (go_at_call 12; refine (bytes12_yes a0 a1 a2 _ w0 w1 h).mono ?_; rintro e w' ⟨rfl, rfl⟩)
        go_ret
        exact ⟨rfl, Below.refl _ _⟩
      · obtain ⟨k, rfl⟩ : ∃ k : Nat, a2 = k := ⟨a2.toNat, by omega⟩
        obtain ⟨r, hr⟩ := cmp_exists a0 a1
        have hz := trim_eq hr
        have hb := cmp_blanks k hr
        have hr3 : r = -1 ∨ r = 0 ∨ r = 1 := by rcases hr with h | h | h <;> simp [h.1]
        obtain ⟨T0, hT0⟩ : ∃ T, T = a0.extract 0 (trimN a0 a0.size) := ⟨_, rfl⟩
        obtain ⟨T1, hT1⟩ : ∃ T, T = a1.extract 0 (trimN a1 a1.size) := ⟨_, rfl⟩
        obtain ⟨B, hB⟩ : ∃ B, B = strOf (fun _ => 32) k := ⟨_, rfl⟩
        have hBs : B.size = k := by rw [hB, strOf_size]
        rw [← hT0, ← hT1] at hz
        rw [← hB] at hb
        have HT0 : Hid (∀ w, Calls Try.prog 14 #[.string a0] w fun e w' => e = .returned (.string T0) ∧ w' = w) := fun w => hT0 ▸ trim_any a0 w (by omega)
        have HT1 : Hid (∀ w, Calls Try.prog 14 #[.string a1] w fun e w' => e = .returned (.string T1) ∧ w' = w) := fun w => hT1 ▸ trim_any a1 w (by omega)
        have HB : Hid (∀ w, Calls Try.prog 13 #[.int .i64 k] w fun e w' => e = .returned (.string B) ∧ Below w.heap.size w w') := fun w => hB ▸ blanks_any k w (by omega)
        have hBs1 : B.size ≤ 65536 := by omega
        clear hT0 hT1 hB hBs
        have hsz : (a0 ++ B).size ≤ 2097152 := by rw [ByteArray.size_append]; omega
        have HC0 : Hid (∀ w, Calls Try.prog 11 #[.string a0, .string a1] w fun e w' => e = .returned (.int .i64 r) ∧ w' = w) := fun w => zcmp_any a0 a1 r w (by omega) (by omega) hr
        have HC1 : Hid (∀ w, Calls Try.prog 11 #[.string (a0 ++ B), .string a1] w fun e w' => e = .returned (.int .i64 r) ∧ w' = w) := fun w => zcmp_any _ a1 r w hsz (by omega) hb
        have HC2 : Hid (∀ w, Calls Try.prog 11 #[.string a1, .string (a0 ++ B)] w fun e w' => e = .returned (.int .i64 (-r)) ∧ w' = w) := fun w => zcmp_any a1 _ (-r) w (by omega) hsz hb.swap
        have HC3 : Hid (∀ w, Calls Try.prog 11 #[.string a1, .string a0] w fun e w' => e = .returned (.int .i64 (-r)) ∧ w' = w) := fun w => zcmp_any a1 a0 (-r) w (by omega) (by omega) hr.swap
        clear hb hsz hr
        go_enter Try.func4, Try.ntmps4
        go_wp2_with (go_at_call 12; refine (bytes12_yes a0 a1 _ _ w0 w1 h).mono ?_; rintro e w' ⟨rfl, rfl⟩)
        refine (HC0.out _).mono ?_
        rintro e w' ⟨rfl, rfl⟩
        go_wp2_with fail
        refine (HB.out _).mono ?_
        rintro e w2 ⟨rfl, hbel⟩
        go_wp2_with fail
        refine (HT0.out _).mono ?_
        rintro e w' ⟨rfl, rfl⟩
        go_wp2_with fail
        refine (HT1.out _).mono ?_
        rintro e w' ⟨rfl, rfl⟩
        rcases hr3 with rfl | rfl | rfl
        all_goals
          try simp only [Int.neg_neg, Int.neg_zero] at HC2 HC3
          have hzz := hz
          clear hz
          first | rw [show decide ((-1 : Int) = 0) = false from rfl] at hzz | rw [show decide ((0 : Int) = 0) = true from rfl] at hzz | rw [show decide ((1 : Int) = 0) = false from rfl] at hzz
          go_wp2_with fail
          refine (HC1.out _).mono ?_
          rintro e w' ⟨rfl, rfl⟩
          go_wp2_with fail
          refine (HC2.out _).mono ?_
          rintro e w' ⟨rfl, rfl⟩
          go_wp2_with fail
          refine (HC3.out _).mono ?_
          rintro e w' ⟨rfl, rfl⟩
          go_wp2_with fail
          go_ret
          exact ⟨rfl, hbel⟩
  · go_enter Try.func4, Try.ntmps4
    go_wp2_with (go_at_call 12; refine (bytes12_no a0 a1 a2 _ w0 w1 h).mono ?_; rintro e w' ⟨rfl, rfl⟩)
    go_ret
    exact ⟨rfl, Below.refl _ _⟩

end Go.Proofs.Qxb6620882a.fnComparePaddedBlanksSwapAndZero
