/-
  The walk of FnComparePaddedMatchesPaddedOrder.
-/
import Derived.Test.Qxb6620882aPad
import Derived.Test.Qxb6620882aLess
namespace Go.Proofs.Qxb6620882a.fnComparePaddedMatchesPaddedOrder
open Go.RowKit

/-! ### THE WALK: the Go text returns true; nothing that was there has turned. -/
theorem bytes9_yes (x y : ByteArray) (w : World) (hx : x.size ≤ maxLen) (hy : y.size ≤ maxLen) (h : x.size + y.size ≤ 1048576) :
    Calls Try.prog 9 #[.string x, .string y] w fun e w' => e = .returned (.bool true) ∧ w' = w := by
  have := bytes9_any x y w hx hy
  simpa [h] using this
theorem bytes9_no (x y : ByteArray) (w : World) (hx : x.size ≤ maxLen) (hy : y.size ≤ maxLen) (h : ¬ x.size + y.size ≤ 1048576) :
    Calls Try.prog 9 #[.string x, .string y] w fun e w' => e = .returned (.bool false) ∧ w' = w := by
  have := bytes9_any x y w hx hy
  simpa [h] using this

set_option maxHeartbeats 400000 in
theorem walk (a0 : ByteArray) (a1 : ByteArray) (w0 : a0.size ≤ maxLen) (w1 : a1.size ≤ maxLen) (w : World) :
    Calls Try.prog 3 #[.string a0, .string a1] w fun e w' => e = .returned (.bool true) ∧ Below w.heap.size w w' := by
  by_cases h : a0.size + a1.size ≤ 1048576
  · obtain ⟨r, hr⟩ := cmp_exists a0 a1
    obtain ⟨n, hn, hn0, hn1⟩ : ∃ n : Nat, n = max a0.size a1.size ∧ a0.size ≤ n ∧ a1.size ≤ n := ⟨_, rfl, by omega, by omega⟩
    have hk := ranked hr hn0 hn1
    have hr3 : r = -1 ∨ r = 0 ∨ r = 1 := by rcases hr with h | h | h <;> simp [h.1]
    obtain ⟨P, hP⟩ : ∃ P, P = strOf (pad a0) n := ⟨_, rfl⟩
    obtain ⟨Q, hQ⟩ : ∃ Q, Q = strOf (pad a1) n := ⟨_, rfl⟩
    rw [← hP, ← hQ] at hk
    have c0 := fun w => hP ▸ padb_any a0 n w (by omega) (by omega)
    have c1 := fun w => hQ ▸ padb_any a1 n w (by omega) (by omega)
    have HC0 : Hid _ := c0
    have HC1 : Hid _ := c1
    clear c0 c1 hP hQ
    by_cases hm : a0.size < a1.size
    · obtain rfl : n = a1.size := by omega
      clear hn
      rcases hr3 with rfl | rfl | rfl
      · have q := hk.neg rfl
        clear hk
        go_enter Try.func3, Try.ntmps3
        go_wp2_with (go_at_call 9; refine (bytes9_yes a0 a1 _ w0 w1 h).mono ?_; rintro e w' ⟨rfl, rfl⟩)
        refine (HC0.out _).mono ?_
        rintro e w1 ⟨rfl, hb0⟩
        go_wp2_with fail
        refine (HC1.out _).mono ?_
        rintro e w2 ⟨rfl, hb1⟩
        go_wp2_with (go_at_call 11; refine (zcmp_any a0 a1 _ _ (by omega) (by omega) hr).mono ?_; rintro e w' ⟨rfl, rfl⟩)
        go_ret
        exact ⟨rfl, hb0.trans (hb1.mono hb0.size)⟩
      · have q := (hk.zero rfl).1
        have q' := (hk.zero rfl).2
        clear hk
        go_enter Try.func3, Try.ntmps3
        go_wp2_with (go_at_call 9; refine (bytes9_yes a0 a1 _ w0 w1 h).mono ?_; rintro e w' ⟨rfl, rfl⟩)
        refine (HC0.out _).mono ?_
        rintro e w1 ⟨rfl, hb0⟩
        go_wp2_with fail
        refine (HC1.out _).mono ?_
        rintro e w2 ⟨rfl, hb1⟩
        go_wp2_with (go_at_call 11; refine (zcmp_any a0 a1 _ _ (by omega) (by omega) hr).mono ?_; rintro e w' ⟨rfl, rfl⟩)
        go_ret
        exact ⟨rfl, hb0.trans (hb1.mono hb0.size)⟩
      · have q := (hk.pos rfl).1
        have q' := (hk.pos rfl).2
        clear hk
        go_enter Try.func3, Try.ntmps3
        go_wp2_with (go_at_call 9; refine (bytes9_yes a0 a1 _ w0 w1 h).mono ?_; rintro e w' ⟨rfl, rfl⟩)
        refine (HC0.out _).mono ?_
        rintro e w1 ⟨rfl, hb0⟩
        go_wp2_with fail
        refine (HC1.out _).mono ?_
        rintro e w2 ⟨rfl, hb1⟩
        go_wp2_with (go_at_call 11; refine (zcmp_any a0 a1 _ _ (by omega) (by omega) hr).mono ?_; rintro e w' ⟨rfl, rfl⟩)
        go_ret
        exact ⟨rfl, hb0.trans (hb1.mono hb0.size)⟩
    · obtain rfl : n = a0.size := by omega
      clear hn
      rcases hr3 with rfl | rfl | rfl
      · have q := hk.neg rfl
        clear hk
        go_enter Try.func3, Try.ntmps3
        go_wp2_with (go_at_call 9; refine (bytes9_yes a0 a1 _ w0 w1 h).mono ?_; rintro e w' ⟨rfl, rfl⟩)
        refine (HC0.out _).mono ?_
        rintro e w1 ⟨rfl, hb0⟩
        go_wp2_with fail
        refine (HC1.out _).mono ?_
        rintro e w2 ⟨rfl, hb1⟩
        go_wp2_with (go_at_call 11; refine (zcmp_any a0 a1 _ _ (by omega) (by omega) hr).mono ?_; rintro e w' ⟨rfl, rfl⟩)
        go_ret
        exact ⟨rfl, hb0.trans (hb1.mono hb0.size)⟩
      · have q := (hk.zero rfl).1
        have q' := (hk.zero rfl).2
        clear hk
        go_enter Try.func3, Try.ntmps3
        go_wp2_with (go_at_call 9; refine (bytes9_yes a0 a1 _ w0 w1 h).mono ?_; rintro e w' ⟨rfl, rfl⟩)
        refine (HC0.out _).mono ?_
        rintro e w1 ⟨rfl, hb0⟩
        go_wp2_with fail
        refine (HC1.out _).mono ?_
        rintro e w2 ⟨rfl, hb1⟩
        go_wp2_with (go_at_call 11; refine (zcmp_any a0 a1 _ _ (by omega) (by omega) hr).mono ?_; rintro e w' ⟨rfl, rfl⟩)
        go_ret
        exact ⟨rfl, hb0.trans (hb1.mono hb0.size)⟩
      · have q := (hk.pos rfl).1
        have q' := (hk.pos rfl).2
        clear hk
        go_enter Try.func3, Try.ntmps3
        go_wp2_with (go_at_call 9; refine (bytes9_yes a0 a1 _ w0 w1 h).mono ?_; rintro e w' ⟨rfl, rfl⟩)
        refine (HC0.out _).mono ?_
        rintro e w1 ⟨rfl, hb0⟩
        go_wp2_with fail
        refine (HC1.out _).mono ?_
        rintro e w2 ⟨rfl, hb1⟩
        go_wp2_with (go_at_call 11; refine (zcmp_any a0 a1 _ _ (by omega) (by omega) hr).mono ?_; rintro e w' ⟨rfl, rfl⟩)
        go_ret
        exact ⟨rfl, hb0.trans (hb1.mono hb0.size)⟩
  · go_enter Try.func3, Try.ntmps3
    go_wp2_with (go_at_call 9; refine (bytes9_no a0 a1 _ w0 w1 h).mono ?_; rintro e w' ⟨rfl, rfl⟩)
    go_ret
    exact ⟨rfl, Below.refl _ _⟩

end Go.Proofs.Qxb6620882a.fnComparePaddedMatchesPaddedOrder
