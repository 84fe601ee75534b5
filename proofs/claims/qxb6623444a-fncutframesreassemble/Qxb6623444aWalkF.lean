/-
  The walk of FnCutFramesReassemble where there is metadata.
-/
import Derived.Test.Qxb6623444aWalkE
namespace Go.Proofs.Qxb6623444a.fnCutFramesReassemble
open Go.RowKit

set_option maxRecDepth 100000 in
set_option maxHeartbeats 4000000 in
theorem reas_some (x : Addr) (L mc : Nat) (da : Option Addr) (M dc R : Nat) (w : World) (hm : Came w (some x) L mc) (hd : Came w da M dc) (hL : L ≤ 524288) (hM : M ≤ 524288) (hR : R ≤ 9223372036854775807) (hR3 : 3 ≤ R) (HRL : Hid (0 < L → 4 ≤ R)) (HR1 : L ≤ 0 ∨ 0 < L ∧ ((R : Int) == 3) = false) :
    Calls Try.prog 3 #[.slice (some x) L mc, .slice da M dc, .int .i64 R] w fun e w' => e = .returned (.bool true) ∧ Below w.heap.size w w' := by
  have hdl := hd.len
  have hdt := hd.top
  have hml := hm.len
  have hmt := hm.top
  rcases HR1 with hL0 | ⟨hL0, hR1⟩
  all_goals
    have keq := eq_nil
    go_enter Try.func3, Try.ntmps3
    go_wp2_with (go_at_call 5; refine (bytes5_yes _ _ L mc M dc _ _ (by unfold maxLen; omega) (by unfold maxLen; omega) (by omega)).mono ?_; rintro e w' ⟨rfl, hw⟩; rw [hw]; clear hw w')
    go_loopw [8, 9, 10, 11, 12, 13] (fun cm cd mo om od st wr => Below w.heap.size w wr ∧ ∃ (s p q : Nat), st = .int .i64 s ∧ om = .int .i64 p ∧ od = .int .i64 q ∧
      ((∃ (y : Addr) (n nc : Nat), cm = .slice (some y) n nc ∧ cd = .slice da M dc ∧ mo = .bool true ∧ q = 0 ∧ s ≤ p ∧ p + n ≤ L ∧ L ≤ p + n ∧ n ≤ nc ∧ nc ≤ 9223372036854775807 ∧ Rest (some x) (some y) L p) ∨
       (∃ (n nc : Nat) (a' : Option Addr), cm = .slice none 0 0 ∧ cd = .slice a' n nc ∧ mo = .bool false ∧ L = p ∧ s ≤ L + q + 1 ∧ q + n ≤ M ∧ M ≤ q + n ∧ n ≤ nc ∧ 0 < n ∧ Rest da a' M q))) (fun _ _ _ _ _ st _ => L + M + 3 - (intOf st).toNat)
    case atStart => exact ⟨Below.refl _ _, 0, 0, 0, rfl, rfl, rfl, .inl ⟨x, L, mc, rfl, rfl, rfl, rfl, by omega, by omega, by omega, hml, hmt, rest_start hm⟩⟩
    case round =>
      obtain ⟨hb, s, p, q, rfl, rfl, rfl, hph⟩ := hrel
      rcases hph with ⟨y, n, nc, rfl, rfl, rfl, rfl, hs, hp1, hp2, hnc, hnt, hrest⟩ | ⟨n, nc, a', rfl, rfl, rfl, rfl, hs, hq1, hq2, hnc, hn0, hrest⟩
      · by_cases hmore : R < n + 3
        · first
            | (exfalso; omega)
            | (obtain ⟨m, hm0⟩ : ∃ m, R = m + 3 := ⟨R - 3, by omega⟩
               have HM := hide hm0
               clear hm0
               have hmR : m + 3 ≤ R := by have := HM.out; omega
               have hRm : R ≤ m + 3 := by have := HM.out; omega
               have HM1 : Hid (1 ≤ m) := by show _ ≤ _; have := HRL.out; omega
               have hdec : decide ((p : Int) + (m : Int) < (L : Int)) = true := by simp; omega
               go_wp2_with fail
               refine (zcut_more y n nc m da M dc R _ hdl (by omega) hnc hR HM).mono ?_
               rintro e w1 ⟨rfl, hb1⟩
               have HB1 := hide (hb.trans (hb1.mono hb.size))
               clear hb1
               go_wp2_with fail
               refine (match_any (some y) (some x) m m L mc p _ (by omega) (by omega) (match_rest hm HB1.out hrest (by omega))).mono ?_
               rintro e w2 ⟨rfl, q1, rfl⟩
               go_wp2_with fail
               refine (match_any da da 0 0 M dc 0 _ (by omega) (by omega) (.inl rfl)).mono ?_
               rintro e w2 ⟨rfl, q2, rfl⟩
               go_wp2_with fail
               refine (cost_some y m m da 0 0 _ (by omega) (by omega)).mono ?_
               rintro e w2 ⟨rfl, rfl⟩
               have hr2 := hide (rest_add (m := m) hrest (by omega))
               clear hrest
               go_wp2
               go_roundw
               case rel => exact ⟨below_drewN HB1.out _, s + 1, p + m, 0, by go_num, by go_num, rfl, .inl ⟨y.add m, n - m, nc - m, rfl, rfl, rfl, rfl, by have := HM1.out; omega, by omega, by omega, by omega, by omega, hr2.out⟩⟩
               case measure => simp [intOf]; omega)
        · obtain ⟨R', hr0⟩ : ∃ R', R = R' + 3 + n := ⟨R - 3 - n, by omega⟩
          have HM := hide hr0
          have hRa : R' + 3 + n ≤ R := by omega
          have hRb : R ≤ R' + 3 + n := by omega
          clear hr0
          obtain ⟨d, hdm⟩ : ∃ d, d = min M R' := ⟨_, rfl⟩
          have HD := hide hdm
          have hdM : d ≤ M := by omega
          have hdR : d ≤ R' := by omega
          clear hdm
          have hdec : decide ((p : Int) + (n : Int) < (L : Int)) = false := by simp; omega
          go_wp2_with fail
          refine (zcut_all y n nc da M dc R R' d _ hdl hnc hnt hR HM HD).mono ?_
          rintro e w1 ⟨rfl, hb1⟩
          have HB1 := hide (hb.trans (hb1.mono hb.size))
          clear hb1
          go_wp2_with fail
          refine (match_any (some y) (some x) n n L mc p _ (by omega) (by omega) (match_rest hm HB1.out hrest (by omega))).mono ?_
          rintro e w2 ⟨rfl, q1, rfl⟩
          go_wp2_with fail
          refine (match_any da da d d M dc 0 _ (by omega) (by omega) (match_rest hd (below_drewN HB1.out _) (rest_start hd) (by omega))).mono ?_
          rintro e w2 ⟨rfl, q2, rfl⟩
          go_wp2_with fail
          refine (cost_some y n n da d d _ (by omega) (by omega)).mono ?_
          rintro e w2 ⟨rfl, rfl⟩
          by_cases hall : d = M
          · have hMd : M ≤ d := by omega
            clear hall HD
            go_wp2
            go_ret
            exact ⟨ret_bool (by simp; omega), below_drewN HB1.out _⟩
          · have hRd : R' ≤ d := by have := HD.out; omega
            have hlt : d < M := by omega
            have hr2 := hide (rest_cut (d := d) (rest_start hd) (show 0 + M = M by omega) hdl)
            clear hall HD hrest
            go_wp2
            go_roundw
            case rel => exact ⟨below_drewN HB1.out _, s + 1, L, d, by go_num, by go_num, by go_num, .inr ⟨M - d, dc - d, _, rfl, rfl, rfl, rfl, by omega, by omega, by omega, by omega, by omega, by have := hr2.out; rw [Nat.zero_add] at this; exact this⟩⟩
            case measure => simp [intOf]; omega
      · obtain ⟨d, hdm⟩ : ∃ d, d = min n R := ⟨_, rfl⟩
        have HM := hide hdm
        have hdn : d ≤ n := by omega
        have hdR : d ≤ R := by omega
        clear hdm
        have hdec : decide ((L : Int) < (L : Int)) = false := by simp
        go_wp2_with fail
        refine (zcut_none a' n nc R d _ hnc hR HM).mono ?_
        rintro e w1 ⟨rfl, hb1⟩
        have HB1 := hide (hb.trans (hb1.mono hb.size))
        clear hb1
        go_wp2_with fail
        refine (match_any none (some x) 0 0 L mc L _ (by omega) (by omega) (.inl rfl)).mono ?_
        rintro e w2 ⟨rfl, q1, rfl⟩
        go_wp2_with fail
        refine (match_any a' da d d M dc q _ (by omega) (by omega) (match_rest hd (below_drewN HB1.out _) hrest (by omega))).mono ?_
        rintro e w2 ⟨rfl, q2, rfl⟩
        go_wp2_with fail
        refine (cost_none a' d d _).mono ?_
        rintro e w2 ⟨rfl, rfl⟩
        by_cases hall : d = n
        · have hnd : n ≤ d := by omega
          clear hall HM
          go_wp2
          go_ret
          exact ⟨ret_bool (by simp; omega), below_drewN HB1.out _⟩
        · have hRd : R ≤ d := by have := HM.out; omega
          have hlt : d < n := by omega
          have hr2 := hide (rest_cut (d := d) hrest (show q + n = M by omega) hnc)
          clear hall HM hrest
          go_wp2
          go_roundw
          case rel => exact ⟨below_drewN HB1.out _, s + 1, L, q + d, by go_num, by go_num, by go_num, .inr ⟨n - d, nc - d, _, rfl, rfl, rfl, rfl, by omega, by omega, by omega, by omega, by omega, hr2.out⟩⟩
          case measure => simp [intOf]; omega

end Go.Proofs.Qxb6623444a.fnCutFramesReassemble
