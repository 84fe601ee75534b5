/-
  The walk of zzCutIsGreatestSplit at what cut gives.
-/
import Derived.Test.Qxb6623444aRest
import Derived.Lib.SliceRun
namespace Go.Proofs.Qxb6623444a
open Go.RowKit

theorem ret_true {a : Bool} (h : a = true) : Ending.returned (.bool a) = .returned (.bool true) := by rw [h]

theorem nil_eq (w : World) (a : Option Addr) (n c : Nat) : (binOp .eql 22 (.slice a n c) (.slice none 0 0)).run Try.prog w = .ok (.bool a.isNone) w :=
  Lib.run_eql_slice_nil (P := Try.prog) w 22 5 a n c 0 0 Try.underlying22

theorem min_is (a b r : Int) (w : World) (H : Hid (r = if a < b then a else b)) : Calls Try.prog 12 #[.int .i64 a, .int .i64 b] w fun e w' => e = .returned (.int .i64 r) ∧ w' = w := by
  by_cases h : a < b
  · obtain rfl : r = a := by have := H.out; rw [if_pos h] at this; exact this
    clear H
    go_enter Try.func12, Try.ntmps12
    go_wp2
    go_ret
    exact ⟨rfl, rfl⟩
  · obtain rfl : r = b := by have := H.out; rw [if_neg h] at this; exact this
    clear H
    go_enter Try.func12, Try.ntmps12
    go_wp2
    go_ret
    exact ⟨rfl, rfl⟩

set_option maxHeartbeats 1000000 in
theorem split_none (da sa : Option Addr) (dl dc R d sn sc : Nat) (w wr : World) (hd : Came w da dl dc) (hb : Below w.heap.size w wr) (hM : dl ≤ 1048576) (HD : Hid (d = min dl R)) (h1 : d ≤ dl) (hs1 : d + sn ≤ dl) (hs2 : dl ≤ d + sn) (hrest : Rest da sa dl d) :
    Calls Try.prog 10 #[.slice none 0 0, .slice da dl dc, .int .i64 R, .slice none 0 0, .slice da d d, .slice none 0 0, .slice sa sn sc] wr fun e w' => e = .returned (.bool true) ∧ ∃ q, w' = wr.drewN q := by
  have keq := nil_eq
  have HF : Hid ((d : Int) = if (R : Int) < (dl : Int) then (R : Int) else (dl : Int)) := by
    show _ = _
    have := HD.out
    split <;> omega
  go_enter Try.func10, Try.ntmps10
  go_wp2_with fail
  refine (match_any none none 0 0 0 0 0 _ (by omega) (by omega) (.inl rfl)).mono ?_
  rintro e w2 ⟨rfl, q1, rfl⟩
  go_wp2_with fail
  refine (match_any da da d d dl dc 0 _ (by omega) (by omega) (match_rest hd (below_drewN hb _) (rest_start hd) (by omega))).mono ?_
  rintro e w2 ⟨rfl, q2, rfl⟩
  go_wp2_with fail
  refine (match_any sa da sn sc dl dc d _ (by omega) (by omega) (match_rest hd (below_drewN hb _) hrest (by omega))).mono ?_
  rintro e w2 ⟨rfl, q3, rfl⟩
  go_wp2_with fail
  refine (cost_none da d d _).mono ?_
  rintro e w2 ⟨rfl, rfl⟩
  go_wp2_with fail
  refine (cost_none da dl dc _).mono ?_
  rintro e w2 ⟨rfl, rfl⟩
  go_wp2_with fail
  refine (min_is (R : Int) (dl : Int) (d : Int) _ HF).mono ?_
  rintro e w2 ⟨rfl, rfl⟩
  go_wp2
  go_ret
  exact ⟨ret_true (by simp), _, rfl⟩

set_option maxHeartbeats 1000000 in
theorem split_all (x : Addr) (ml mc : Nat) (da sa : Option Addr) (dl dc R R' d sn sc : Nat) (w wr : World) (hm : Came w (some x) ml mc) (hd : Came w da dl dc) (hb : Below w.heap.size w wr) (hL : ml ≤ 1048576) (hM : dl ≤ 1048576) (HR : Hid (R = R' + 3 + ml)) (HD : Hid (d = min dl R')) (hs1 : d + sn ≤ dl) (hs2 : dl ≤ d + sn) (hrest : Rest da sa dl d) :
    Calls Try.prog 10 #[.slice (some x) ml mc, .slice da dl dc, .int .i64 R, .slice (some x) ml ml, .slice da d d, .slice none 0 0, .slice sa sn sc] wr fun e w' => e = .returned (.bool true) ∧ ∃ q, w' = wr.drewN q := by
  have keq := nil_eq
  have HF : Hid ((d : Int) + (3 + (ml : Int)) = if (R : Int) < (dl : Int) + (3 + (ml : Int)) then (R : Int) else (dl : Int) + (3 + (ml : Int))) := by
    show _ = _
    have := HD.out
    have := HR.out
    split <;> omega
  go_enter Try.func10, Try.ntmps10
  go_wp2_with fail
  refine (match_any (some x) (some x) ml ml ml mc 0 _ (by omega) (by omega) (match_rest hm hb (rest_start hm) (by omega))).mono ?_
  rintro e w2 ⟨rfl, q1, rfl⟩
  go_wp2_with fail
  refine (match_any da da d d dl dc 0 _ (by omega) (by omega) (match_rest hd (below_drewN hb _) (rest_start hd) (by omega))).mono ?_
  rintro e w2 ⟨rfl, q2, rfl⟩
  go_wp2_with fail
  refine (match_any sa da sn sc dl dc d _ (by omega) (by omega) (match_rest hd (below_drewN hb _) hrest (by omega))).mono ?_
  rintro e w2 ⟨rfl, q3, rfl⟩
  go_wp2_with fail
  refine (cost_some x ml ml da d d _ (by omega) (by omega)).mono ?_
  rintro e w2 ⟨rfl, rfl⟩
  go_wp2_with fail
  refine (cost_some x ml mc da dl dc _ (by omega) (by omega)).mono ?_
  rintro e w2 ⟨rfl, rfl⟩
  go_wp2_with fail
  refine (min_is (R : Int) _ _ _ HF).mono ?_
  rintro e w2 ⟨rfl, rfl⟩
  go_wp2
  go_ret
  exact ⟨ret_true (by simp), _, rfl⟩

set_option maxHeartbeats 1000000 in
theorem split_more (x y : Addr) (ml mc m rn rc : Nat) (da : Option Addr) (dl dc R : Nat) (w wr : World) (hm : Came w (some x) ml mc) (hd : Came w da dl dc) (hb : Below w.heap.size w wr) (hL : ml ≤ 1048576) (hM : dl ≤ 1048576) (HR : Hid (R = m + 3)) (hml : m < ml) (hs1 : m + rn ≤ ml) (hs2 : ml ≤ m + rn) (hrest : Rest (some x) (some y) ml m) :
    Calls Try.prog 10 #[.slice (some x) ml mc, .slice da dl dc, .int .i64 R, .slice (some x) m m, .slice da 0 0, .slice (some y) rn rc, .slice da dl dc] wr fun e w' => e = .returned (.bool true) ∧ ∃ q, w' = wr.drewN q := by
  have keq := nil_eq
  have HF : Hid (((0 : Nat) : Int) + (3 + (m : Int)) = if (R : Int) < (dl : Int) + (3 + (ml : Int)) then (R : Int) else (dl : Int) + (3 + (ml : Int))) := by
    show _ = _
    have := HR.out
    split <;> omega
  have hne : ((m : Int) == (ml : Int)) = false := by simp; omega
  go_enter Try.func10, Try.ntmps10
  go_wp2_with fail
  refine (match_any (some x) (some x) m m ml mc 0 _ (by omega) (by omega) (match_rest hm hb (rest_start hm) (by omega))).mono ?_
  rintro e w2 ⟨rfl, q1, rfl⟩
  go_wp2_with fail
  refine (match_any da da 0 0 dl dc 0 _ (by omega) (by omega) (.inl rfl)).mono ?_
  rintro e w2 ⟨rfl, q2, rfl⟩
  go_wp2_with fail
  refine (match_any (some y) (some x) rn rc ml mc m _ (by omega) (by omega) (match_rest hm (below_drewN hb _) hrest (by omega))).mono ?_
  rintro e w2 ⟨rfl, q3, rfl⟩
  go_wp2_with fail
  refine (match_any da da dl dc dl dc 0 _ (by omega) (by omega) (match_rest hd (below_drewN hb _) (rest_start hd) (by omega))).mono ?_
  rintro e w2 ⟨rfl, q4, rfl⟩
  go_wp2_with fail
  refine (cost_some x m m da 0 0 _ (by omega) (by omega)).mono ?_
  rintro e w2 ⟨rfl, rfl⟩
  go_wp2_with fail
  refine (cost_some x ml mc da dl dc _ (by omega) (by omega)).mono ?_
  rintro e w2 ⟨rfl, rfl⟩
  go_wp2_with fail
  refine (min_is (R : Int) _ _ _ HF).mono ?_
  rintro e w2 ⟨rfl, rfl⟩
  go_wp2
  go_ret
  exact ⟨ret_true (by simp), _, rfl⟩

/-- How much metadata, how much data a cut takes. -/
def takeM : Option Addr → Nat → Nat → Nat
  | none, _, _ => 0
  | some _, ml, R => min ml (R - 3)
def takeD : Option Addr → Nat → Nat → Nat → Nat
  | none, _, dl, R => min dl R
  | some _, ml, dl, R => min dl (R - 3 - ml)

theorem takeM_mono (ma : Option Addr) (ml A B : Nat) (h : A ≤ B) : takeM ma ml A ≤ takeM ma ml B := by
  cases ma
  · exact Nat.le_refl _
  · show min ml (A - 3) ≤ min ml (B - 3); omega
theorem takeD_mono (ma : Option Addr) (ml dl A B : Nat) (h : A ≤ B) : takeD ma ml dl A ≤ takeD ma ml dl B := by
  cases ma
  · show min dl A ≤ min dl B; omega
  · show min dl (A - 3 - ml) ≤ min dl (B - 3 - ml); omega

/-- Cut and its check, at one room. -/
theorem cut_facts {w : World} {ma da : Option Addr} {ml mc dl dc R : Nat} (hm : Came w ma ml mc) (hd : Came w da dl dc) (hL : ml ≤ 1048576) (hM : dl ≤ 1048576) (hR : R ≤ 9223372036854775807) (h3 : ma = none ∨ 3 ≤ R) :
    ∃ (pa ra sa : Option Addr) (pc rn rc sn sc : Nat),
      (∀ w', Calls Try.prog 6 #[.slice ma ml mc, .slice da dl dc, .int .i64 R] w' fun e w'' => e = .returned (.tuple #[.slice pa (takeM ma ml R) pc, .slice da (takeD ma ml dl R) (takeD ma ml dl R), .slice ra rn rc, .slice sa sn sc]) ∧ Below w'.heap.size w' w'') ∧
      (∀ wr, Below w.heap.size w wr → Calls Try.prog 10 #[.slice ma ml mc, .slice da dl dc, .int .i64 R, .slice pa (takeM ma ml R) pc, .slice da (takeD ma ml dl R) (takeD ma ml dl R), .slice ra rn rc, .slice sa sn sc] wr fun e w' => e = .returned (.bool true) ∧ ∃ q, w' = wr.drewN q) := by
  cases ma with
  | none =>
    obtain ⟨rfl, rfl⟩ := hm.nil rfl
    have hle : min dl R ≤ dl := by omega
    exact ⟨none, none, _, 0, 0, 0, _, _, fun w' => zcut_none da dl dc R _ w' hd.len hR rfl,
      fun wr hb => split_none da _ dl dc R _ _ _ w wr hd hb hM rfl hle (by simp only [takeD]; omega) (by simp only [takeD]; omega) (by have := rest_cut (d := min dl R) (rest_start hd) (show 0 + dl = dl by omega) hd.len; rw [Nat.zero_add] at this; exact this)⟩
  | some x =>
    have hR3 : 3 ≤ R := by rcases h3 with h | h; (· cases h); (· exact h)
    by_cases hmore : R < ml + 3
    · have e1 : takeM (some x) ml R = R - 3 := by simp only [takeM]; omega
      have e2 : takeD (some x) ml dl R = 0 := by simp only [takeD]; omega
      rw [e1, e2]
      exact ⟨some x, _, _, _, _, _, _, _, fun w' => zcut_more x ml mc (R - 3) da dl dc R w' hd.len (by omega) hm.len hR (show _ = _ by omega),
        fun wr hb => split_more x _ ml mc (R - 3) _ _ da dl dc R w wr hm hd hb hL hM (show _ = _ by omega) (by omega) (by omega) (by omega) (by have := rest_add (m := R - 3) (rest_start hm) (show 0 + (R - 3) < ml by omega); rw [Nat.zero_add] at this; exact this)⟩
    · have e1 : takeM (some x) ml R = ml := by simp only [takeM]; omega
      rw [e1]
      exact ⟨some x, none, _, _, 0, 0, _, _, fun w' => zcut_all x ml mc da dl dc R (R - 3 - ml) _ w' hd.len hm.len hm.top hR (show _ = _ by omega) rfl,
        fun wr hb => split_all x ml mc da _ dl dc R (R - 3 - ml) _ _ _ w wr hm hd hb hL hM (show _ = _ by omega) rfl (by simp only [takeD]; omega) (by simp only [takeD]; omega) (by have := rest_cut (d := min dl (R - 3 - ml)) (rest_start hd) (show 0 + dl = dl by omega) hd.len; rw [Nat.zero_add] at this; exact this)⟩

end Go.Proofs.Qxb6623444a
