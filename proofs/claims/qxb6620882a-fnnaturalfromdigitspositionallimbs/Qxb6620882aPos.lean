/-
  The walk of zzPositionalLimbs.
-/
import Derived.Test.Qxb6620882aNatUse
import Derived.Test.Qxb6620882aPosMath
import Derived.Deep.RegionWith
namespace Go.Proofs.Qxb6620882a
open Go.RowKit

set_option maxHeartbeats 1000000 in
theorem pos_some (b L cap Z N : Nat) (c D l : Nat → Nat) (w : World) (hL : L ≤ 1048576) (hZ : Z ≤ 65536) (hbw : b < w.heap.size) (hc : ∀ i, i < L → w.cell? ⟨b, i, none⟩ = some (.int .u8 (c i))) (hd : Digs L c)
    (HD : Hid (D = dg c L Z)) (HLm : Hid (l = limb D)) (HN : Hid (N = (L + Z + 5) / 6)) :
    Calls Try.prog 18 #[.slice (some ⟨b, 0, none⟩) L cap, .int .i64 Z] w fun e w' => e = .returned (.slice (some ⟨w.heap.size, 0, none⟩) (topN l N) N) ∧ Limbs w' w.heap.size l N ∧ w.heap.size < w'.heap.size ∧ Below w.heap.size w w' := by
  obtain ⟨i0, hi, hz0, hz1, hz2⟩ := info_parts Try.info45
  have e3 : ((L : Int) + (Z : Int) + 6 - 1) / 6 = (N : Int) := by have := HN.out; omega
  have hN : N ≤ 400000 := by have := HN.out; omega
  have hD9 : ∀ q, D q ≤ 9 := fun q => by rw [HD.out]; exact dg_le (fun i hi => (hd i hi).2) q
  go_enter Try.func18, Try.ntmps18
  go_wp2_with (at_make; refine wpList_make_full _ rfl _ _ 31 rfl w.heap.size 45 i0 _ 1 Try.underlying31 hi hz0 hz1 _ _ _ _ N rfl rfl (by omega) (by omega) (by rw [hz2]; omega) (by unfold maxLen; omega) (Nat.le_refl _) ?_)
  intro w1 hown hgrow
  have hown1 : w1.ownsRow w.heap.size 45 1 (.slice (some ⟨w.heap.size, 0, none⟩) N N) N (zrow D N (0 + Z)) := by
    rw [Nat.zero_add, HD.out, ← zrow_start, ← toList_madeCells_one]; exact hown
  have hb1 : Below w.heap.size w w1 := (Below.refl _ _).grown hgrow (Nat.le_refl _) (by simp)
  clear hown hgrow hi hz0 hz1 hz2 e3
  go_wp2
  go_loopw [7] (fun i wr => ∃ p : Nat, p ≤ L ∧ i = .int .i64 p ∧ wr.ownsRow w.heap.size 45 1 (.slice (some ⟨w.heap.size, 0, none⟩) N N) N (zrow D N (p + Z)) ∧ Below w.heap.size w wr) (fun i _ => L - (intOf i).toNat)
  case atStart => exact ⟨0, Nat.zero_le _, rfl, hown1, hb1⟩
  case round =>
    clear hown1 hb1
    obtain ⟨p, hp, rfl, hown, hb⟩ := hrel
    by_cases hlt : p < L
    · obtain ⟨k, j, hkj, hj⟩ : ∃ k j, p + Z = 6 * k + j ∧ j < 6 := ⟨(p + Z) / 6, (p + Z) % 6, by omega, by omega⟩
      have e1 : ((p : Int) + (Z : Int)) / 6 = (k : Int) := by omega
      have e2 : ((p : Int) + (Z : Int)) % 6 = (j : Int) := by omega
      obtain ⟨i, hpi⟩ : ∃ i, p + i + 1 = L := ⟨L - 1 - p, by omega⟩
      have e3 : (L : Int) - 1 - (p : Int) = (i : Int) := by omega
      have hkN : k < N := by have := HN.out; omega
      have hkI : (k : Int) < (N : Int) := by omega
      have hk0 : 0 ≤ (k : Int) := by omega
      have hiI : (i : Int) < (L : Int) := by omega
      have hi0 : 0 ≤ (i : Int) := by omega
      have hci : wr.cell? ⟨b, i, none⟩ = some (.int .u8 (c i)) := (hb.cell (p := ⟨b, i, none⟩) hbw).trans (hc i (by omega))
      have h48 := (hd i (by omega)).1
      have h57 := (hd i (by omega)).2
      obtain ⟨v, hv⟩ : ∃ v, v = zv D (6 * k + j) k := ⟨_, rfl⟩
      have hvle : v ≤ 999999 := by rw [hv]; exact zv_le hD9 _ _
      have hcz : wr.cell? ⟨w.heap.size, k, none⟩ = some (.int .u64 v) := by
        rw [hown.cellAt k (by omega), hkj, zrow_get _ _ _ _ hkN, hv]
      have hf := hown.frozenAt k
      obtain ⟨R, hR⟩ : ∃ R : Nat, R = 10 ^ j := ⟨_, rfl⟩
      have hm : (c i - 48) * R ≤ 900000 := by
        have h1 : (10 : Nat) ^ j ≤ 10 ^ 5 := Nat.pow_le_pow_right (by omega) (by omega)
        have h2 : (c i - 48) * R ≤ 9 * R := Nat.mul_le_mul_right _ (by omega)
        rw [← hR] at h1
        omega
      have hm1 : 0 ≤ ((c i : Int) - 48) * (R : Int) := Int.mul_nonneg (by omega) (by omega)
      have hm2 : ((c i : Int) - 48) * (R : Int) ≤ 900000 := by
        have : (((c i - 48) * R : Nat) : Int) = ((c i : Int) - 48) * (R : Int) := by rw [Int.natCast_mul]; congr 1; omega
        omega
      have HP : Hid (∀ w, Calls Try.prog 31 #[.int .i64 j] w fun x w' => x = .returned (.int .u64 R) ∧ w' = w) := fun w => pow_any j R w (by omega) hR
      have t1 : ((p : Int) + (Z : Int)).tdiv 6 = (k : Int) := by rw [Int.tdiv_eq_ediv_of_nonneg (by omega)]; exact e1
      have t2 : ((p : Int) + (Z : Int)).tmod 6 = (j : Int) := by rw [Int.tmod_eq_emod_of_nonneg (by omega)]; exact e2
      have t3 : IntKind.i64.wrap (k : Int) = (k : Int) := IntWalk.i64_in _ (by omega)
      have t4 : IntKind.i64.wrap (j : Int) = (j : Int) := IntWalk.i64_in _ (by omega)
      have t5 : IntKind.i64.wrap ((L : Int) - 1) = (L : Int) - 1 := IntWalk.i64_in _ (by omega)
      have t6 : IntKind.i64.wrap (i : Int) = (i : Int) := IntWalk.i64_in _ (by omega)
      obtain ⟨g, hg⟩ : ∃ g : Nat, g = c i - 48 := ⟨_, rfl⟩
      have t7 : IntKind.u8.wrap ((c i : Int) - 48) = (g : Int) := by rw [show (c i : Int) - 48 = (g : Int) by omega]; exact IntWalk.u8_in _ (by omega)
      have t8 : IntKind.u64.wrap (g : Int) = (g : Int) := IntWalk.u64_in _ (by omega)
      obtain ⟨m, hmm⟩ : ∃ m : Nat, m = g * R := ⟨_, rfl⟩
      obtain ⟨s, hs⟩ : ∃ s : Nat, s = v + m := ⟨_, rfl⟩
      have hm9 : m ≤ 900000 := by rw [hmm, hg]; exact hm
      have t9 : IntKind.u64.wrap ((g : Int) * (R : Int)) = (m : Int) := by rw [← Int.natCast_mul, ← hmm]; exact IntWalk.u64_in _ (by omega)
      have t10 : IntKind.u64.wrap ((v : Int) + (m : Int)) = (s : Int) := by rw [← Int.natCast_add, ← hs]; exact IntWalk.u64_in _ (by omega)
      have hset : (zrow D N (6 * k + j)).set k (Value.int .u64 s) = zrow D N (6 * k + j + 1) := by
        refine zrow_step hj ?_
        have hD : D (6 * k + j) = c i - 48 := by
          rw [HD.out, ← hkj, show p + Z = Z + (L - 1 - i) by omega]
          exact dg_at (by omega)
        rw [hs, hmm, hg, hv, hD, hR]
      have RR : Hid ((wr.setCell ⟨w.heap.size, k, none⟩ (.int .u64 s)).ownsRow w.heap.size 45 1 (.slice (some ⟨w.heap.size, 0, none⟩) N N) N (zrow D N (p + 1 + Z)) ∧ Below w.heap.size w (wr.setCell ⟨w.heap.size, k, none⟩ (.int .u64 s))) := by
        refine ⟨?_, hb.setCell (Nat.le_refl _) _⟩
        have := (hown.stored k (.int .u64 s)).1
        rw [hkj, hset] at this
        rw [show p + 1 + Z = 6 * k + j + 1 by omega]
        exact this
      clear hm hR hkj hpi hv hown hc hN hb hd hD9 hm1 hm2 hg hset hs hmm
      go_wp2_with fail
      go_region_with (go_at_call 31; refine (HP.out _).mono ?_; rintro e w' ⟨rfl, rfl⟩)
      all_goals
        go_wp2
        go_roundw
        case rel => exact ⟨p + 1, by omega, by go_num, RR.out.1, RR.out.2.drew⟩
        case measure => simp [intOf]; omega
    · obtain rfl : p = L := by omega
      have hlim : Limbs wr w.heap.size l N := fun i hi => by
        rw [hown.cellAt i (by omega), zrow_get _ _ _ _ hi, HLm.out, HD.out, zv_end]
      have hsz := (hown.lt w.heap.size rfl).2
      clear hown
      go_wp2
      go_loop [9] (fun i => ∃ n : Nat, n ≤ N ∧ i = .int .i64 n ∧ Hid (topN l N = topN l n)) (fun i => (intOf i).toNat)
      case atStart => exact ⟨N, Nat.le_refl _, rfl, rfl⟩
      case round =>
        obtain ⟨n, hn, rfl, HT⟩ := hrel
        by_cases h0 : 0 < n
        · obtain ⟨m, rfl⟩ : ∃ m, n = m + 1 := ⟨n - 1, by omega⟩
          have hcm := hlim m (by omega)
          by_cases hb0 : l m = 0
          · have HT' : Hid (topN l N = topN l m) := by
              show _ = _
              rw [HT.out, topN, if_pos hb0]
            rw [hb0] at hcm
            clear HT hb0
            go_wp2
            go_round
            case rel => exact ⟨m, by omega, by go_num, HT'⟩
            case measure => simp [intOf]
          · have HT' : Hid (topN l N = m + 1) := by
              show _ = _
              rw [HT.out, topN, if_neg hb0]
            have hb' : 0 < l m := by omega
            clear HT hb0
            go_wp2
            go_ret
            exact ⟨ret_slice HT'.out.symm, hlim, hsz, hb⟩
        · obtain rfl : n = 0 := by omega
          go_wp2
          go_ret
          exact ⟨ret_slice HT.out.symm, hlim, hsz, hb⟩

set_option maxHeartbeats 1000000 in
theorem pos_none (ao : Option Addr) (L cap Z N : Nat) (c D l : Nat → Nat) (w : World) (hL : L ≤ 1048576) (hZ : Z ≤ 65536) (HL0 : Hid (L = 0))
    (HD : Hid (D = dg c L Z)) (HLm : Hid (l = limb D)) (HN : Hid (N = (L + Z + 5) / 6)) :
    Calls Try.prog 18 #[.slice ao L cap, .int .i64 Z] w fun e w' => e = .returned (.slice (some ⟨w.heap.size, 0, none⟩) (topN l N) N) ∧ Limbs w' w.heap.size l N ∧ w.heap.size < w'.heap.size ∧ Below w.heap.size w w' := by
  obtain ⟨i0, hi, hz0, hz1, hz2⟩ := info_parts Try.info45
  have e3 : ((L : Int) + (Z : Int) + 6 - 1) / 6 = (N : Int) := by have := HN.out; omega
  have hN : N ≤ 400000 := by have := HN.out; omega
  go_enter Try.func18, Try.ntmps18
  go_wp2_with (at_make; refine wpList_make_full _ rfl _ _ 31 rfl w.heap.size 45 i0 _ 1 Try.underlying31 hi hz0 hz1 _ _ _ _ N rfl rfl (by omega) (by omega) (by rw [hz2]; omega) (by unfold maxLen; omega) (Nat.le_refl _) ?_)
  intro w1 hown hgrow
  have hown1 : w1.ownsRow w.heap.size 45 1 (.slice (some ⟨w.heap.size, 0, none⟩) N N) N (zrow D N (0 + Z)) := by
    rw [Nat.zero_add, HD.out, ← zrow_start, ← toList_madeCells_one]; exact hown
  have hb1 : Below w.heap.size w w1 := (Below.refl _ _).grown hgrow (Nat.le_refl _) (by simp)
  clear hown hgrow hi hz0 hz1 hz2 e3
  go_wp2
  go_loopw [7] (fun i wr => ∃ p : Nat, p ≤ L ∧ i = .int .i64 p ∧ wr.ownsRow w.heap.size 45 1 (.slice (some ⟨w.heap.size, 0, none⟩) N N) N (zrow D N (p + Z)) ∧ Below w.heap.size w wr) (fun i _ => L - (intOf i).toNat)
  case atStart => exact ⟨0, Nat.zero_le _, rfl, hown1, hb1⟩
  case round =>
    clear hown1 hb1
    obtain ⟨p, hp, rfl, hown, hb⟩ := hrel
    by_cases hlt : p < L
    · exact absurd (HL0.out ▸ hlt) (Nat.not_lt_zero _)
    · obtain rfl : p = L := by omega
      have hlim : Limbs wr w.heap.size l N := fun i hi => by
        rw [hown.cellAt i (by omega), zrow_get _ _ _ _ hi, HLm.out, HD.out, zv_end]
      have hsz := (hown.lt w.heap.size rfl).2
      clear hown
      go_wp2
      go_loop [9] (fun i => ∃ n : Nat, n ≤ N ∧ i = .int .i64 n ∧ Hid (topN l N = topN l n)) (fun i => (intOf i).toNat)
      case atStart => exact ⟨N, Nat.le_refl _, rfl, rfl⟩
      case round =>
        obtain ⟨n, hn, rfl, HT⟩ := hrel
        by_cases h0 : 0 < n
        · obtain ⟨m, rfl⟩ : ∃ m, n = m + 1 := ⟨n - 1, by omega⟩
          have hcm := hlim m (by omega)
          by_cases hb0 : l m = 0
          · have HT' : Hid (topN l N = topN l m) := by
              show _ = _
              rw [HT.out, topN, if_pos hb0]
            rw [hb0] at hcm
            clear HT hb0
            go_wp2
            go_round
            case rel => exact ⟨m, by omega, by go_num, HT'⟩
            case measure => simp [intOf]
          · have HT' : Hid (topN l N = m + 1) := by
              show _ = _
              rw [HT.out, topN, if_neg hb0]
            have hb' : 0 < l m := by omega
            clear HT hb0
            go_wp2
            go_ret
            exact ⟨ret_slice HT'.out.symm, hlim, hsz, hb⟩
        · obtain rfl : n = 0 := by omega
          go_wp2
          go_ret
          exact ⟨ret_slice HT.out.symm, hlim, hsz, hb⟩


theorem zpos (ao : Option Addr) (b L cap Z N T : Nat) (c l : Nat → Nat) (w : World) (hL : L ≤ 1048576) (hZ : Z ≤ 65536) (ho : Own w ao b L c) (hd : Digs L c)
    (HD : Hid (l = limb (dg c L Z))) (HN : Hid (N = (L + Z + 5) / 6)) (HT : Hid (T = topN l N)) :
    Calls Try.prog 18 #[.slice ao L cap, .int .i64 Z] w fun e w' => e = .returned (.slice (some ⟨w.heap.size, 0, none⟩) T N) ∧ Limbs w' w.heap.size l N ∧ w.heap.size < w'.heap.size ∧ Below w.heap.size w w' := by
  rw [HT.out]
  rcases ho.at_ with H0 | rfl
  · exact pos_none ao L cap Z N c _ l w hL hZ H0 rfl HD HN
  · rcases ho.old with h | h
    · exact pos_none _ L cap Z N c _ l w hL hZ h rfl HD HN
    · exact pos_some b L cap Z N c _ l w hL hZ h ho.cell hd rfl HD HN

end Go.Proofs.Qxb6620882a
