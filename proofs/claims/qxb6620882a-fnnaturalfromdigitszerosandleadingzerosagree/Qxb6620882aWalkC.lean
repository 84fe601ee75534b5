/-
  The walk of FnNaturalFromDigitsZerosAndLeadingZerosAgree.
-/
import Derived.Test.Qxb6620882aRowStep
namespace Go.Proofs.Qxb6620882a.fnNaturalFromDigitsZerosAndLeadingZerosAgree
open Go.RowKit

set_option maxRecDepth 100000 in
set_option maxHeartbeats 2000000 in
theorem main_some (x : Addr) (L cap Z K lz T N N2 : Nat) (c l : Nat → Nat) (w : World) (h : Came w (some x) L cap c) (hL : L ≤ 1048576) (hZ : Z ≤ 65536) (hK : K ≤ 65536) (hd : Digs L c) (hlz : Leads c L lz)
    (HD : Hid (l = limb (dg c L Z))) (HN : Hid (N = (L + Z + 5) / 6)) (HN2 : Hid (N2 = (K + L + Z + 5) / 6)) (HT : Hid (T = topN l N)) (HT2 : Hid (T = topN l N2)) :
    Calls Try.prog 7 #[.slice (some x) L cap, .int .i64 Z, .int .i64 K] w fun e w' => e = .returned (.bool true) ∧ Below w.heap.size w w' := by
  obtain ⟨i0, hi, hz0, hz1, hz2⟩ := info_parts Try.info5b
  have hlen := h.len
  have HC := hide (fun i hi => h.cell x rfl i hi)
  go_enter Try.func7, Try.ntmps7
  go_wp2_with (first | (go_at_call 26; refine (bytes26_yes _ L cap _ _ _ hlen hL).mono ?_; rintro e w' ⟨rfl, hw⟩; rw [hw]; clear hw w') | (go_at_call 16; refine (digits_yes _ L cap c _ (by omega) h.src hd).mono ?_; rintro e w' ⟨rfl, hw⟩; rw [hw]; clear hw w') | (at_make; refine wpList_make_full _ rfl _ _ 28 rfl w.heap.size 5 i0 _ 1 Try.underlying28 hi hz0 hz1 _ _ _ _ L rfl rfl (by omega) (by omega) (by rw [hz2]; omega) (by unfold maxLen; omega) (Nat.le_refl _) ?_))
  intro w1 hown hgrow
  have hb1 : Below w.heap.size w w1 := (Below.refl _ _).grown hgrow (Nat.le_refl _) (by simp)
  obtain ⟨w2, hrun, hod, hsz2, hb2⟩ := copy_made (cap := cap) (x := x) (c := c) hown (fun i hi => (hb1.cell (lt_of_cell (HC.out i hi))).trans (HC.out i hi))
  clear hown hgrow
  have HB := hide (hb1.trans hb2)
  clear hb1 hb2
  clear HC h
  go_wp2_with (at_make; refine wpList_make_full _ rfl _ _ 28 rfl w2.heap.size 5 i0 _ 1 Try.underlying28 hi hz0 hz1 _ _ _ _ (L + Z) rfl rfl (by omega) (by omega) (by rw [hz2]; omega) (by unfold maxLen; omega) (Nat.le_refl _) ?_)
  intro w3 hown hgrow
  obtain ⟨hown3, hb3⟩ := made_row (cz c L) hown hgrow
  clear hown hgrow hrun
  go_wp2
  go_loopw [9] (fun i wr => ∃ k : Nat, k ≤ L + Z ∧ i = .int .i64 k ∧ wr.ownsRow w2.heap.size 5 1 (.slice (some ⟨w2.heap.size, 0, none⟩) (L + Z) (L + Z)) (L + Z) (brow (cz c L) (L + Z) k) ∧ Below w2.heap.size w2 wr) (fun i _ => L + Z - (intOf i).toNat)
  case atStart => exact ⟨0, Nat.zero_le _, rfl, hown3, hb3⟩
  case round =>
    clear hown3 hb3
    obtain ⟨k, hk, rfl, hown, hb⟩ := hrel
    by_cases hlt : k < L + Z
    · by_cases hkL : k < L
      · obtain ⟨r1, r2, R⟩ := row_step hlt hown hb (c k) (by simp [cz, hkL])
        have hc := (hod.below hb).cell k hkL
        clear hown hb
        go_wp2
        go_roundw
        case rel => exact ⟨k + 1, by omega, by go_num, R.out.1, R.out.2⟩
        case measure => simp [intOf]; omega
      · obtain ⟨r1, r2, R⟩ := row_step hlt hown hb 48 (by simp [cz, hkL])
        clear hown hb
        go_wp2
        go_roundw
        case rel => exact ⟨k + 1, by omega, by go_num, R.out.1, R.out.2⟩
        case measure => simp [intOf]; omega
    · obtain rfl : k = L + Z := by omega
      obtain ⟨ho1, hs1⟩ := row_own hown
      have hod1 := hod.below hb
      have HB1 := hide (HB.out.trans (hb.mono (by omega)))
      clear hown hb hod HB
      rename World => wa
      go_wp2_with (at_make; refine wpList_make_full _ rfl _ _ 28 rfl wa.heap.size 5 i0 _ 1 Try.underlying28 hi hz0 hz1 _ _ _ _ (K + L) rfl rfl (by omega) (by omega) (by rw [hz2]; omega) (by unfold maxLen; omega) (Nat.le_refl _) ?_)
      intro w4 hown hgrow
      obtain ⟨hown4, hb4⟩ := made_row (ck c K) hown hgrow
      clear hown hgrow hi hz0 hz1 hz2
      go_wp2
      go_loopw [11] (fun i ws => ∃ k : Nat, k ≤ K + L ∧ i = .int .i64 k ∧ ws.ownsRow wa.heap.size 5 1 (.slice (some ⟨wa.heap.size, 0, none⟩) (K + L) (K + L)) (K + L) (brow (ck c K) (K + L) k) ∧ Below wa.heap.size wa ws) (fun i _ => K + L - (intOf i).toNat)
      case atStart => exact ⟨0, Nat.zero_le _, rfl, hown4, hb4⟩
      case round =>
        clear hown4 hb4
        obtain ⟨k, hk, rfl, hown, hb⟩ := hrel
        by_cases hlt : k < K + L
        · by_cases hkL : k < K
          · obtain ⟨r1, r2, R⟩ := row_step hlt hown hb 48 (by simp [ck, hkL])
            clear hown hb
            go_wp2
            go_roundw
            case rel => exact ⟨k + 1, by omega, by go_num, R.out.1, R.out.2⟩
            case measure => simp [intOf]; omega
          · obtain ⟨j, rfl⟩ : ∃ j, k = K + j := ⟨k - K, by omega⟩
            obtain ⟨r1, r2, R⟩ := row_step hlt hown hb (c j) (ck_at c K j)
            have hc := (hod1.below hb).cell j (by omega)
            clear hown hb
            go_wp2
            go_roundw
            case rel => exact ⟨K + j + 1, by omega, by go_num, R.out.1, R.out.2⟩
            case measure => simp [intOf]; omega
        · obtain rfl : k = K + L := by omega
          obtain ⟨ho2, hs2⟩ := row_own hown
          have hod2 := hod1.below hb
          have ho1' := ho1.below hb
          have HB2 := hide (HB1.out.trans (hb.mono (by have := HB1.out.size; omega)))
          clear hown hb hod1 ho1 HB1
          rename World => wb
          go_wp2
          go_loop [12] (fun i => ∃ k : Nat, k ≤ lz ∧ i = .int .i64 k) (fun i => lz - (intOf i).toNat)
          case atStart => exact ⟨0, Nat.zero_le _, rfl⟩
          case round =>
            obtain ⟨k, hkz, rfl⟩ := hrel
            have hzL := hlz.1
            by_cases hkl : k < lz
            · have hc := hod2.cell k (by omega)
              rw [hlz.2.1 k hkl] at hc
              go_wp2
              go_round
              case rel => exact ⟨k + 1, by omega, by go_num⟩
              case measure => simp [intOf]; omega
            · obtain rfl : k = lz := by omega
              clear hkz hkl
              by_cases hs : k < L
              · have hc := hod2.cell k hs
                have hne := hlz.2.2 hs
                have hne' : ¬ ((c k : Int) = 48) := by omega
                have hT : T = (L - k + Z + 5) / 6 := by rw [HT.out, HD.out]; exact count_pos hd hlz hs (by rw [HN.out]; exact Nat.le_refl _)
                have e5 : ((L : Int) - (k : Int) + (Z : Int) + 6 - 1) / 6 = (T : Int) := by omega
                have hTpos : 0 < T := by omega
                clear hT hne
                go_wp2_with fail
                clear hc hne'
                refine (znat (some ⟨w.heap.size, 0, none⟩) w.heap.size L L Z N T c l _ (by omega) hZ hod2 hd HD HN HT).mono ?_
                rintro e wc ⟨rfl, la, sa, ba⟩
                have lb1 := hide (ho1'.below ba)
                have lc1 := hide (ho2.below ba)
                go_wp2_with fail
                refine (znat (some ⟨w2.heap.size, 0, none⟩) w2.heap.size (L + Z) (L + Z) 0 N T (cz c L) l _ (by omega) (by omega) lb1.out (digs_cz Z hd) (show _ = _ by rw [HD.out, dg_cz]) (show _ = _ by rw [HN.out]) HT).mono ?_
                rintro e wd ⟨rfl, lb, sb, bb⟩
                have lc2 := hide (lc1.out.below bb)
                have la2 := hide (la.below sa bb)
                clear la
                go_wp2_with fail
                refine (znat (some ⟨wa.heap.size, 0, none⟩) wa.heap.size (K + L) (K + L) Z N2 T (ck c K) l _ (by omega) hZ lc2.out (digs_ck K hd) (show _ = _ by rw [HD.out, dg_ck]) HN2 HT2).mono ?_
                rintro e we ⟨rfl, lc, sc, bc⟩
                have la3 := la2.out.below (by have := bb.size; omega) bc
                have lb3 := lb.below sb bc
                have HBe := hide (((HB2.out.trans (ba.mono (by have := HB2.out.size; omega))).trans (bb.mono (by have := HB2.out.size; have := ba.size; omega))).trans (bc.mono (by have := HB2.out.size; have := ba.size; have := bb.size; omega)))
                have hTN : T ≤ N := by rw [HT.out]; exact topN_le _ _
                have hTN2 : T ≤ N2 := by rw [HT2.out]; exact topN_le _ _
                have hN : N ≤ 1000000 := by have := HN.out; omega
                clear lb lb1 lc1 lc2 la2 ba bb bc
                go_wp2
                go_loop [18] (fun i => ∃ j : Nat, j ≤ T ∧ i = .int .i64 j) (fun i => T - (intOf i).toNat)
                case atStart => exact ⟨0, Nat.zero_le _, rfl⟩
                case round =>
                  obtain ⟨j, hjT, rfl⟩ := hrel
                  by_cases hj : j < T
                  · have hcj := la3 j (by omega)
                    have hlj := lj_lt hd HD j
                    obtain ⟨v, hv⟩ : ∃ v : Int, v = (l j : Int) := ⟨_, rfl⟩
                    rw [← hv] at hcj hlj
                    clear hv
                    go_wp2
                    go_round
                    case rel => exact ⟨j + 1, by omega, by go_num⟩
                    case measure => simp [intOf]; omega
                  · obtain rfl : j = T := by omega
                    clear hjT hj
                    obtain ⟨m, hm⟩ : ∃ m, j = m + 1 := ⟨j - 1, by omega⟩
                    have hne : l m ≠ 0 := topN_last l N m (by rw [← HT.out, hm])
                    have hcm := la3 m (by omega)
                    obtain ⟨v, hv⟩ : ∃ v : Int, v = (l m : Int) := ⟨_, rfl⟩
                    have hpos : 0 < v := by omega
                    rw [← hv] at hcm
                    clear hv hne
                    subst hm
                    go_wp2_with fail
                    refine (same_any wb.heap.size N wc.heap.size N (m + 1) l we (by omega) (la3.mono hTN) (lb3.mono hTN)).mono ?_
                    rintro e wf ⟨rfl, q, rfl⟩
                    go_wp2_with fail
                    refine (same_any wb.heap.size N wd.heap.size N2 (m + 1) l (we.drewN q) (by omega) (fun i hi => la3 i (by omega)) (fun i hi => lc i (by omega))).mono ?_
                    rintro e wf ⟨rfl, q', rfl⟩
                    go_wp2
                    go_ret
                    exact ⟨rfl, below_drewN HBe.out _⟩
              · have HT0 : Hid (T = 0) := by show _ = _; rw [HT.out, HD.out]; exact count_zero hlz hs
                have hT0 : T ≤ 0 := by rw [HT0.out]; exact Nat.le_refl _
                go_wp2_with fail
                refine (znat (some ⟨w.heap.size, 0, none⟩) w.heap.size L L Z N T c l _ (by omega) hZ hod2 hd HD HN HT).mono ?_
                rintro e wc ⟨rfl, la, sa, ba⟩
                have lb1 := hide (ho1'.below ba)
                have lc1 := hide (ho2.below ba)
                go_wp2_with fail
                refine (znat (some ⟨w2.heap.size, 0, none⟩) w2.heap.size (L + Z) (L + Z) 0 N T (cz c L) l _ (by omega) (by omega) lb1.out (digs_cz Z hd) (show _ = _ by rw [HD.out, dg_cz]) (show _ = _ by rw [HN.out]) HT).mono ?_
                rintro e wd ⟨rfl, lb, sb, bb⟩
                have lc2 := hide (lc1.out.below bb)
                have la2 := hide (la.below sa bb)
                clear la
                go_wp2_with fail
                refine (znat (some ⟨wa.heap.size, 0, none⟩) wa.heap.size (K + L) (K + L) Z N2 T (ck c K) l _ (by omega) hZ lc2.out (digs_ck K hd) (show _ = _ by rw [HD.out, dg_ck]) HN2 HT2).mono ?_
                rintro e we ⟨rfl, lc, sc, bc⟩
                have la3 := la2.out.below (by have := bb.size; omega) bc
                have lb3 := lb.below sb bc
                have HBe := hide (((HB2.out.trans (ba.mono (by have := HB2.out.size; omega))).trans (bb.mono (by have := HB2.out.size; have := ba.size; omega))).trans (bc.mono (by have := HB2.out.size; have := ba.size; have := bb.size; omega)))
                have hTN : T ≤ N := by rw [HT.out]; exact topN_le _ _
                have hTN2 : T ≤ N2 := by rw [HT2.out]; exact topN_le _ _
                have hN : N ≤ 1000000 := by have := HN.out; omega
                clear lb lb1 lc1 lc2 la2 ba bb bc
                go_wp2
                go_loop [18] (fun i => ∃ j : Nat, j ≤ T ∧ i = .int .i64 j) (fun i => T - (intOf i).toNat)
                case atStart => exact ⟨0, Nat.zero_le _, rfl⟩
                case round =>
                  obtain ⟨j, hjT, rfl⟩ := hrel
                  by_cases hj : j < T
                  · omega
                  · obtain rfl : j = T := by omega
                    clear hjT hj
                    go_wp2_with fail
                    refine (same_any wb.heap.size N wc.heap.size N (j) l we (by omega) (la3.mono hTN) (lb3.mono hTN)).mono ?_
                    rintro e wf ⟨rfl, q, rfl⟩
                    go_wp2_with fail
                    refine (same_any wb.heap.size N wd.heap.size N2 (j) l (we.drewN q) (by omega) (fun i hi => la3 i (by omega)) (fun i hi => lc i (by omega))).mono ?_
                    rintro e wf ⟨rfl, q', rfl⟩
                    go_wp2
                    go_ret
                    exact ⟨rfl, below_drewN HBe.out _⟩

set_option maxRecDepth 100000 in
set_option maxHeartbeats 2000000 in
theorem main_none (L cap Z K lz T N N2 : Nat) (c l : Nat → Nat) (w : World) (HL0 : Hid (L = 0)) (hL : L ≤ 1048576) (hZ : Z ≤ 65536) (hK : K ≤ 65536) (hd : Digs L c) (hlz : Leads c L lz)
    (HD : Hid (l = limb (dg c L Z))) (HN : Hid (N = (L + Z + 5) / 6)) (HN2 : Hid (N2 = (K + L + Z + 5) / 6)) (HT : Hid (T = topN l N)) (HT2 : Hid (T = topN l N2)) :
    Calls Try.prog 7 #[.slice none L cap, .int .i64 Z, .int .i64 K] w fun e w' => e = .returned (.bool true) ∧ Below w.heap.size w w' := by
  obtain ⟨i0, hi, hz0, hz1, hz2⟩ := info_parts Try.info5b
  have hlen : L ≤ maxLen := by rw [HL0.out]; exact Nat.zero_le _
  have hod : Own w none 0 L c := ⟨.inl HL0, .inl HL0.out, fun i hi => absurd (HL0.out ▸ hi) (Nat.not_lt_zero _)⟩
  have HB := hide (Below.refl w.heap.size w)
  go_enter Try.func7, Try.ntmps7
  go_wp2_with (first | (go_at_call 26; refine (bytes26_yes _ L cap _ _ _ hlen hL).mono ?_; rintro e w' ⟨rfl, hw⟩; rw [hw]; clear hw w') | (go_at_call 16; refine (digits_yes _ L cap c _ (by omega) (.inl HL0.out) hd).mono ?_; rintro e w' ⟨rfl, hw⟩; rw [hw]; clear hw w') | (at_make; refine wpList_make_full _ rfl _ _ 28 rfl w.heap.size 5 i0 _ 1 Try.underlying28 hi hz0 hz1 _ _ _ _ (L + Z) rfl rfl (by omega) (by omega) (by rw [hz2]; omega) (by unfold maxLen; omega) (Nat.le_refl _) ?_))
  intro w3 hown hgrow
  obtain ⟨hown3, hb3⟩ := made_row (cz c L) hown hgrow
  clear hown hgrow
  go_wp2
  go_loopw [9] (fun i wr => ∃ k : Nat, k ≤ L + Z ∧ i = .int .i64 k ∧ wr.ownsRow w.heap.size 5 1 (.slice (some ⟨w.heap.size, 0, none⟩) (L + Z) (L + Z)) (L + Z) (brow (cz c L) (L + Z) k) ∧ Below w.heap.size w wr) (fun i _ => L + Z - (intOf i).toNat)
  case atStart => exact ⟨0, Nat.zero_le _, rfl, hown3, hb3⟩
  case round =>
    clear hown3 hb3
    obtain ⟨k, hk, rfl, hown, hb⟩ := hrel
    by_cases hlt : k < L + Z
    · by_cases hkL : k < L
      · exact absurd (HL0.out ▸ hkL) (Nat.not_lt_zero _)
      · obtain ⟨r1, r2, R⟩ := row_step hlt hown hb 48 (by simp [cz, hkL])
        clear hown hb
        go_wp2
        go_roundw
        case rel => exact ⟨k + 1, by omega, by go_num, R.out.1, R.out.2⟩
        case measure => simp [intOf]; omega
    · obtain rfl : k = L + Z := by omega
      obtain ⟨ho1, hs1⟩ := row_own hown
      have hod1 := hod.below hb
      have HB1 := hide (HB.out.trans (hb.mono (by omega)))
      clear hown hb hod HB
      rename World => wa
      go_wp2_with (at_make; refine wpList_make_full _ rfl _ _ 28 rfl wa.heap.size 5 i0 _ 1 Try.underlying28 hi hz0 hz1 _ _ _ _ (K + L) rfl rfl (by omega) (by omega) (by rw [hz2]; omega) (by unfold maxLen; omega) (Nat.le_refl _) ?_)
      intro w4 hown hgrow
      obtain ⟨hown4, hb4⟩ := made_row (ck c K) hown hgrow
      clear hown hgrow hi hz0 hz1 hz2
      go_wp2
      go_loopw [11] (fun i ws => ∃ k : Nat, k ≤ K + L ∧ i = .int .i64 k ∧ ws.ownsRow wa.heap.size 5 1 (.slice (some ⟨wa.heap.size, 0, none⟩) (K + L) (K + L)) (K + L) (brow (ck c K) (K + L) k) ∧ Below wa.heap.size wa ws) (fun i _ => K + L - (intOf i).toNat)
      case atStart => exact ⟨0, Nat.zero_le _, rfl, hown4, hb4⟩
      case round =>
        clear hown4 hb4
        obtain ⟨k, hk, rfl, hown, hb⟩ := hrel
        by_cases hlt : k < K + L
        · by_cases hkL : k < K
          · obtain ⟨r1, r2, R⟩ := row_step hlt hown hb 48 (by simp [ck, hkL])
            clear hown hb
            go_wp2
            go_roundw
            case rel => exact ⟨k + 1, by omega, by go_num, R.out.1, R.out.2⟩
            case measure => simp [intOf]; omega
          · exact absurd hkL (by have := HL0.out; omega)
        · obtain rfl : k = K + L := by omega
          obtain ⟨ho2, hs2⟩ := row_own hown
          have hod2 := hod1.below hb
          have ho1' := ho1.below hb
          have HB2 := hide (HB1.out.trans (hb.mono (by have := HB1.out.size; omega)))
          clear hown hb hod1 ho1 HB1
          rename World => wb
          go_wp2
          go_loop [12] (fun i => ∃ k : Nat, k ≤ lz ∧ i = .int .i64 k) (fun i => lz - (intOf i).toNat)
          case atStart => exact ⟨0, Nat.zero_le _, rfl⟩
          case round =>
            obtain ⟨k, hkz, rfl⟩ := hrel
            have hzL := hlz.1
            by_cases hkl : k < lz
            · exact absurd hkl (by have := HL0.out; omega)
            · obtain rfl : k = lz := by omega
              clear hkz hkl
              by_cases hs : k < L
              · exact absurd (HL0.out ▸ hs) (Nat.not_lt_zero _)
              · have HT0 : Hid (T = 0) := by show _ = _; rw [HT.out, HD.out]; exact count_zero hlz hs
                have hT0 : T ≤ 0 := by rw [HT0.out]; exact Nat.le_refl _
                go_wp2_with fail
                refine (znat none 0 L cap Z N T c l _ (by omega) hZ hod2 hd HD HN HT).mono ?_
                rintro e wc ⟨rfl, la, sa, ba⟩
                have lb1 := hide (ho1'.below ba)
                have lc1 := hide (ho2.below ba)
                go_wp2_with fail
                refine (znat (some ⟨w.heap.size, 0, none⟩) w.heap.size (L + Z) (L + Z) 0 N T (cz c L) l _ (by omega) (by omega) lb1.out (digs_cz Z hd) (show _ = _ by rw [HD.out, dg_cz]) (show _ = _ by rw [HN.out]) HT).mono ?_
                rintro e wd ⟨rfl, lb, sb, bb⟩
                have lc2 := hide (lc1.out.below bb)
                have la2 := hide (la.below sa bb)
                clear la
                go_wp2_with fail
                refine (znat (some ⟨wa.heap.size, 0, none⟩) wa.heap.size (K + L) (K + L) Z N2 T (ck c K) l _ (by omega) hZ lc2.out (digs_ck K hd) (show _ = _ by rw [HD.out, dg_ck]) HN2 HT2).mono ?_
                rintro e we ⟨rfl, lc, sc, bc⟩
                have la3 := la2.out.below (by have := bb.size; omega) bc
                have lb3 := lb.below sb bc
                have HBe := hide (((HB2.out.trans (ba.mono (by have := HB2.out.size; omega))).trans (bb.mono (by have := HB2.out.size; have := ba.size; omega))).trans (bc.mono (by have := HB2.out.size; have := ba.size; have := bb.size; omega)))
                have hTN : T ≤ N := by rw [HT.out]; exact topN_le _ _
                have hTN2 : T ≤ N2 := by rw [HT2.out]; exact topN_le _ _
                have hN : N ≤ 1000000 := by have := HN.out; omega
                clear lb lb1 lc1 lc2 la2 ba bb bc
                go_wp2
                go_loop [18] (fun i => ∃ j : Nat, j ≤ T ∧ i = .int .i64 j) (fun i => T - (intOf i).toNat)
                case atStart => exact ⟨0, Nat.zero_le _, rfl⟩
                case round =>
                  obtain ⟨j, hjT, rfl⟩ := hrel
                  by_cases hj : j < T
                  · omega
                  · obtain rfl : j = T := by omega
                    clear hjT hj
                    go_wp2_with fail
                    refine (same_any wb.heap.size N wc.heap.size N (j) l we (by omega) (la3.mono hTN) (lb3.mono hTN)).mono ?_
                    rintro e wf ⟨rfl, q, rfl⟩
                    go_wp2_with fail
                    refine (same_any wb.heap.size N wd.heap.size N2 (j) l (we.drewN q) (by omega) (fun i hi => la3 i (by omega)) (fun i hi => lc i (by omega))).mono ?_
                    rintro e wf ⟨rfl, q', rfl⟩
                    go_wp2
                    go_ret
                    exact ⟨rfl, below_drewN HBe.out _⟩

end Go.Proofs.Qxb6620882a.fnNaturalFromDigitsZerosAndLeadingZerosAgree
