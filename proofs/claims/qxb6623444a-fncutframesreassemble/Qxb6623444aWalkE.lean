/-
  The walk of FnCutFramesReassemble.
-/
import Derived.Test.Qxb6623444aRest
import Derived.Lib.SliceRun
namespace Go.Proofs.Qxb6623444a.fnCutFramesReassemble
open Go.RowKit

theorem bytes5_yes (ma da : Option Addr) (ml mc dl dc : Nat) (r : Int) (w : World) (hm : ml ≤ maxLen) (hd : dl ≤ maxLen) (h : ml + dl ≤ 1048576) :
    Calls Try.prog 5 #[.slice ma ml mc, .slice da dl dc, .int .i64 r] w fun e w' => e = .returned (.bool true) ∧ w' = w := by
  have := bytes5_any ma da ml mc dl dc r w hm hd
  simpa [h] using this
theorem bytes5_no (ma da : Option Addr) (ml mc dl dc : Nat) (r : Int) (w : World) (hm : ml ≤ maxLen) (hd : dl ≤ maxLen) (h : ¬ ml + dl ≤ 1048576) :
    Calls Try.prog 5 #[.slice ma ml mc, .slice da dl dc, .int .i64 r] w fun e w' => e = .returned (.bool false) ∧ w' = w := by
  have := bytes5_any ma da ml mc dl dc r w hm hd
  simpa [h] using this

theorem ret_bool {a b : Bool} (h : a = b) : Ending.returned (.bool a) = .returned (.bool b) := by rw [h]

theorem eq_nil (w : World) (a : Option Addr) (n c : Nat) : (binOp .eql 22 (.slice a n c) (.slice none 0 0)).run Try.prog w = .ok (.bool a.isNone) w :=
  Lib.run_eql_slice_nil (P := Try.prog) w 22 5 a n c 0 0 Try.underlying22

set_option maxRecDepth 100000 in
set_option maxHeartbeats 1000000 in
theorem reas_none (da : Option Addr) (M dc R : Nat) (w : World) (hd : Came w da M dc) (hM : M ≤ 524288) (hR : R ≤ 9223372036854775807) (hRM : 0 < M → 0 < R) :
    Calls Try.prog 3 #[.slice none 0 0, .slice da M dc, .int .i64 R] w fun e w' => e = .returned (.bool true) ∧ Below w.heap.size w w' := by
  have hdl := hd.len
  have hdt := hd.top
  have hR0 : M = 0 ∨ 0 < R := by omega
  have HR0 := hide hR0
  clear hR0 hRM
  rcases (show (0 < M ∧ 0 < R) ∨ M ≤ 0 by have := HR0.out; omega) with ⟨hM0, hRp⟩ | hM0
  · have hR1 : ((R : Int) == 0) = false := by simp; omega
    have keq := eq_nil
    go_enter Try.func3, Try.ntmps3
    go_wp2_with (go_at_call 5; refine (bytes5_yes _ _ 0 0 M dc _ _ (by unfold maxLen; omega) (by unfold maxLen; omega) (by omega)).mono ?_; rintro e w' ⟨rfl, hw⟩; rw [hw]; clear hw w')
    go_loopw [8, 9, 10, 11, 12, 13] (fun cm cd mo om od st wr => Below w.heap.size w wr ∧ ∃ (s q n nc : Nat) (a' : Option Addr), st = .int .i64 s ∧ om = .int .i64 0 ∧ od = .int .i64 q ∧ cm = .slice none 0 0 ∧ cd = .slice a' n nc ∧ mo = .bool false ∧
      s ≤ q + 1 ∧ q + n ≤ M ∧ M ≤ q + n ∧ n ≤ nc ∧ Rest da a' M q) (fun _ _ _ _ _ st _ => M + 3 - (intOf st).toNat)
    case atStart => exact ⟨Below.refl _ _, 0, 0, M, dc, da, rfl, rfl, rfl, rfl, rfl, rfl, by omega, by omega, by omega, hdl, rest_start hd⟩
    case round =>
      obtain ⟨hb, s, q, n, nc, a', rfl, rfl, rfl, rfl, rfl, rfl, hs, hq1, hq2, hnc, hrest⟩ := hrel
      obtain ⟨d, hdm⟩ : ∃ d, d = min n R := ⟨_, rfl⟩
      have HM := hide hdm
      have hdn : d ≤ n := by omega
      have hdR : d ≤ R := by omega
      clear hdm
      go_wp2_with fail
      refine (zcut_none a' n nc R d _ hnc hR HM).mono ?_
      rintro e w1 ⟨rfl, hb1⟩
      have HB1 := hide (hb.trans (hb1.mono hb.size))
      clear hb1
      go_wp2_with fail
      refine (match_any none none 0 0 0 0 0 _ (by omega) (by omega) (.inl rfl)).mono ?_
      rintro e w2 ⟨rfl, q1, rfl⟩
      go_wp2_with fail
      refine (match_any a' da d d M dc q _ (by omega) (by omega) (match_rest hd (below_drewN HB1.out _) hrest (by omega))).mono ?_
      rintro e w2 ⟨rfl, q2, rfl⟩
      go_wp2_with fail
      refine (cost_none a' d d _).mono ?_
      rintro e w2 ⟨rfl, rfl⟩
      by_cases hall : d = n
      · subst hall
        go_wp2
        go_ret
        exact ⟨ret_bool (by simp; omega), below_drewN HB1.out _⟩
      · have hRd : R ≤ d := by have := HM.out; omega
        have hlt : d < n := by omega
        have HD0 : Hid (0 < d) := by show _ < _; have := HR0.out; omega
        have hr2 := hide (rest_cut (d := d) hrest (show q + n = M by omega) hnc)
        clear hall HM hrest
        go_wp2
        go_roundw
        case rel => exact ⟨below_drewN HB1.out _, s + 1, q + d, n - d, nc - d, _, by go_num, rfl, by go_num, rfl, rfl, rfl, by have := HD0.out; omega, by omega, by omega, by omega, hr2.out⟩
        case measure => simp [intOf]; omega
  · have keq := eq_nil
    go_enter Try.func3, Try.ntmps3
    go_wp2_with (go_at_call 5; refine (bytes5_yes _ _ 0 0 M dc _ _ (by unfold maxLen; omega) (by unfold maxLen; omega) (by omega)).mono ?_; rintro e w' ⟨rfl, hw⟩; rw [hw]; clear hw w')
    go_loopw [8, 9, 10, 11, 12, 13] (fun cm cd mo om od st wr => Below w.heap.size w wr ∧ ∃ (s q n nc : Nat) (a' : Option Addr), st = .int .i64 s ∧ om = .int .i64 0 ∧ od = .int .i64 q ∧ cm = .slice none 0 0 ∧ cd = .slice a' n nc ∧ mo = .bool false ∧
      s ≤ q + 1 ∧ q + n ≤ M ∧ M ≤ q + n ∧ n ≤ nc ∧ Rest da a' M q) (fun _ _ _ _ _ st _ => M + 3 - (intOf st).toNat)
    case atStart => exact ⟨Below.refl _ _, 0, 0, M, dc, da, rfl, rfl, rfl, rfl, rfl, rfl, by omega, by omega, by omega, hdl, rest_start hd⟩
    case round =>
      obtain ⟨hb, s, q, n, nc, a', rfl, rfl, rfl, rfl, rfl, rfl, hs, hq1, hq2, hnc, hrest⟩ := hrel
      obtain ⟨d, hdm⟩ : ∃ d, d = min n R := ⟨_, rfl⟩
      have HM := hide hdm
      have hdn : d ≤ n := by omega
      have hdR : d ≤ R := by omega
      clear hdm
      go_wp2_with fail
      refine (zcut_none a' n nc R d _ hnc hR HM).mono ?_
      rintro e w1 ⟨rfl, hb1⟩
      have HB1 := hide (hb.trans (hb1.mono hb.size))
      clear hb1
      go_wp2_with fail
      refine (match_any none none 0 0 0 0 0 _ (by omega) (by omega) (.inl rfl)).mono ?_
      rintro e w2 ⟨rfl, q1, rfl⟩
      go_wp2_with fail
      refine (match_any a' da d d M dc q _ (by omega) (by omega) (match_rest hd (below_drewN HB1.out _) hrest (by omega))).mono ?_
      rintro e w2 ⟨rfl, q2, rfl⟩
      go_wp2_with fail
      refine (cost_none a' d d _).mono ?_
      rintro e w2 ⟨rfl, rfl⟩
      by_cases hall : d = n
      · subst hall
        go_wp2
        go_ret
        exact ⟨ret_bool (by simp; omega), below_drewN HB1.out _⟩
      · exact absurd hall (by omega)

end Go.Proofs.Qxb6623444a.fnCutFramesReassemble
