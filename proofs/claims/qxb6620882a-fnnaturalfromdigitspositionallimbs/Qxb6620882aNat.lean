/-
  The walk of naturalFromDigits and its shim.
-/
import Derived.Test.Qxb6620882aNorm
namespace Go.Proofs.Qxb6620882a
open Go.RowKit

theorem Try.info45 : (Try.prog.info? 45).map (fun i => (i.zero, i.size, i.bytes)) = some (some (.int .u64 0), 1, 8) := by kernel_rfl

/-- A row of limbs, the first k of them written. -/
def lrow (D : Nat → Nat) (N k : Nat) : List Value := upTo (fun i => Value.int .u64 (limb D i)) (Value.int .u64 0) N k

theorem hs_in {c : Nat → Nat} {L Z whole rest t E j H : Nat} (HZ : Z = 6 * whole + rest) (HE : (E : Int) = (L : Int) + (rest : Int) - 6 * (t : Int)) (hj : j < E) (h6 : E ≤ j + 6) (hL : j < L)
    (HH : H = hor (dg c L Z) (whole + t) (j + 6 - E)) : H * 10 + (c j - 48) = hor (dg c L Z) (whole + t) (j + 1 + 6 - E) := by
  rw [show j + 1 + 6 - E = (j + 6 - E) + 1 by omega, hor, ← HH]
  rw [show 6 * (whole + t) + 5 - (j + 6 - E) = Z + (L - 1 - j) by omega, dg_at hL]

theorem hs_out {c : Nat → Nat} {L Z whole rest t E j H : Nat} (HZ : Z = 6 * whole + rest) (HE : (E : Int) = (L : Int) + (rest : Int) - 6 * (t : Int)) (hj : j < E) (h6 : E ≤ j + 6) (hL : ¬ j < L)
    (HH : H = hor (dg c L Z) (whole + t) (j + 6 - E)) : H * 10 = hor (dg c L Z) (whole + t) (j + 1 + 6 - E) := by
  rw [show j + 1 + 6 - E = (j + 6 - E) + 1 by omega, hor, ← HH, dg_low (by omega)]
  rfl

theorem hs_start {c : Nat → Nat} {L Z whole rest t E : Nat} (HZ : Z = 6 * whole + rest) (HE : (E : Int) = (L : Int) + (rest : Int) - 6 * (t : Int)) :
    0 = hor (dg c L Z) (whole + t) (0 + 6 - E) :=
  (hor_zero _ (by omega) fun q h1 h2 => dg_high (by omega)).symm

theorem lrow_start {c : Nat → Nat} {L Z whole rest N : Nat} (HZ : Z = 6 * whole + rest) : List.replicate N (Value.int .u64 0) = lrow (dg c L Z) N whole := by
  rw [upTo_zero (fun i => Value.int .u64 (limb (dg c L Z) i))]
  unfold lrow upTo
  apply List.map_congr_left
  intro i _
  by_cases h : i < whole
  · have e : limb (dg c L Z) i = 0 := limb_zero fun q h1 h2 => dg_low (by omega)
    simp [h, e]
  · rw [if_neg h, if_neg (by omega)]

theorem lrow_get (D : Nat → Nat) (N k j : Nat) (h : j < N) : (lrow D N k)[j]? = some (if j < k then Value.int .u64 (limb D j) else Value.int .u64 0) := upTo_get _ _ _ _ _ h
theorem lrow_set (D : Nat → Nat) (N k : Nat) : (lrow D N k).set k (Value.int .u64 (limb D k)) = lrow D N (k + 1) := upTo_set (fun i => Value.int .u64 (limb D i)) _ N k

theorem limbs_of {w : World} {B N : Nat} {D : Nat → Nat} (h : w.ownsRow B 45 1 (.slice (some ⟨B, 0, none⟩) N N) N (lrow D N N)) : Limbs w B (limb D) N := fun i hi => by
  rw [h.cellAt i (by omega), lrow_get _ _ _ _ hi, if_pos hi]

set_option maxHeartbeats 2000000 in
theorem nat_at (ao : Option Addr) (b L cap Z whole rest M : Nat) (c : Nat → Nat) (w : World) (hL : L ≤ 2097152) (hw : whole ≤ 65536) (hr : rest < 6) (HZ : Hid (Z = 6 * whole + rest)) (HM : Hid (M = (L + rest + 5) / 6))
    (hao : Hid (L = 0) ∨ ao = some ⟨b, 0, none⟩) (hbw : L = 0 ∨ b < w.heap.size) (hc : ∀ i, i < L → w.cell? ⟨b, i, none⟩ = some (.int .u8 (c i))) (hd : Digs L c) (D : Nat → Nat) (HD : Hid (D = dg c L Z)) :
    Calls Try.prog 30 #[.slice ao L cap, .int .i64 Z] w fun e w' => e = .returned (.slice (some ⟨w.heap.size, 0, none⟩) (topN (limb D) (whole + M)) (whole + M)) ∧ Limbs w' w.heap.size (limb D) (whole + M) ∧ w.heap.size < w'.heap.size ∧ Below w.heap.size w w' := by
  obtain ⟨i0, hi, hz0, hz1, hz2⟩ := info_parts Try.info45
  have hZ : Z ≤ 393222 := by have := HZ.out; omega
  have e1 : (Z : Int) / 6 = (whole : Int) := by have := HZ.out; omega
  have e2 : (Z : Int) % 6 = (rest : Int) := by have := HZ.out; omega
  have e3 : ((L : Int) + (rest : Int) + 6 - 1) / 6 = (M : Int) := by have := HM.out; omega
  have hM : M ≤ 400000 := by have := HM.out; omega
  have hD9 : ∀ q, D q ≤ 9 := fun q => by rw [HD.out]; exact dg_le (fun i hi => (hd i hi).2) q
  rcases hao with H0 | rfl
  all_goals
    go_enter Try.func30, Try.ntmps30
    go_wp2_with (at_make; refine wpList_make_full _ rfl _ _ 48 rfl w.heap.size 45 i0 _ 1 Try.underlying48 hi hz0 hz1 _ _ _ _ (whole + M) rfl rfl (by omega) (by omega) (by rw [hz2]; omega) (by unfold maxLen; omega) (Nat.le_refl _) ?_)
    intro w1 hown hgrow
    have hown1 : w1.ownsRow w.heap.size 45 1 (.slice (some ⟨w.heap.size, 0, none⟩) (whole + M) (whole + M)) (whole + M) (lrow D (whole + M) (whole + 0)) := by
      rw [Nat.add_zero, HD.out, ← lrow_start HZ.out, ← toList_madeCells_one]; simpa using hown
    have hb1 : Below w.heap.size w w1 := (Below.refl _ _).grown hgrow (Nat.le_refl _) (by simp)
    clear hown hgrow e1 e2 e3 hi hz0 hz1 hz2
    go_wp2
    go_loopw [9, 10] (fun k e wr => ∃ (t : Nat) (E : Int), t ≤ M ∧ k = .int .i64 ((whole + t : Nat) : Int) ∧ e = .int .i64 E ∧ -6 ≤ E ∧ E ≤ 2097158 ∧ Hid (E = (L : Int) + (rest : Int) - 6 * (t : Int)) ∧
        wr.ownsRow w.heap.size 45 1 (.slice (some ⟨w.heap.size, 0, none⟩) (whole + M) (whole + M)) (whole + M) (lrow D (whole + M) (whole + t)) ∧ Below w.heap.size w wr) (fun _ e _ => (intOf e).toNat)
    case atStart => exact ⟨0, _, Nat.zero_le _, rfl, rfl, by omega, by omega, by show _ = _; omega, hown1, hb1⟩
    case round =>
      clear hown1 hb1
      obtain ⟨t, E, ht, rfl, rfl, hE1, hE2, HE, hown, hb⟩ := hrel
      by_cases hgt : 0 < E
      · obtain ⟨E, rfl⟩ : ∃ e : Nat, E = e := ⟨E.toNat, by omega⟩
        have htM : t < M := by have := HM.out; have := HE.out; omega
        by_cases h6 : 6 < E
        all_goals
          go_wp2
          go_loop [11, 12] (fun v i => ∃ (j H : Nat), j ≤ E ∧ E ≤ j + 6 ∧ i = .int .i64 j ∧ v = .int .u64 H ∧ H ≤ 999999 ∧ Hid (H = hor (dg c L Z) (whole + t) (j + 6 - E))) (fun _ i => E - (intOf i).toNat)
          case atStart => first | exact ⟨E - 6, 0, by omega, by omega, by go_num, rfl, by omega, by show _ = _; rw [show E - 6 + 6 - E = 0 by omega]; rfl⟩ | exact ⟨0, 0, by omega, by omega, by go_num, rfl, by omega, hs_start HZ.out HE.out⟩
          case round =>
            obtain ⟨j, H, hj1, hj2, rfl, rfl, hH, HH⟩ := hrel
            by_cases hj : j < E
            · by_cases hjL : j < L
              · first
                  | exact absurd (H0.out ▸ hjL) (Nat.not_lt_zero _)
                  | (have hcj : wr.cell? ⟨b, j, none⟩ = some (.int .u8 (c j)) := (hb.cell (p := ⟨b, j, none⟩) (by show b < _; omega)).trans (hc j hjL)
                     have h48 := (hd j hjL).1
                     have h57 := (hd j hjL).2
                     have HH' := hs_in HZ.out HE.out hj hj2 hjL HH.out
                     have hH' : H * 10 + (c j - 48) ≤ 999999 := by rw [HH', ← HD.out]; exact hor_le hD9 _ _ (by omega)
                     have HR : Hid (H * 10 + (c j - 48) = hor (dg c L Z) (whole + t) (j + 1 + 6 - E)) := HH'
                     clear HH'
                     go_wp2
                     go_round
                     case rel => exact ⟨j + 1, H * 10 + (c j - 48), by omega, by omega, by go_num, by go_num, hH', HR⟩
                     case measure => simp [intOf]; omega)
              · have HH' := hs_out HZ.out HE.out hj hj2 hjL HH.out
                have hH' : H * 10 ≤ 999999 := by rw [HH', ← HD.out]; exact hor_le hD9 _ _ (by omega)
                have HR : Hid (H * 10 = hor (dg c L Z) (whole + t) (j + 1 + 6 - E)) := HH'
                clear HH'
                go_wp2
                go_round
                case rel => exact ⟨j + 1, H * 10, by omega, by omega, by go_num, by go_num, hH', HR⟩
                case measure => simp [intOf]; omega
            · obtain rfl : j = E := by omega
              have eH : H = limb D (whole + t) := by have := HH.out; rw [show j + 6 - j = 6 by omega, ← HD.out] at this; exact this
              have hst := hown.stored (whole + t) (.int .u64 (limb D (whole + t)))
              rw [lrow_set, ← eH] at hst
              have hcz : wr.cell? ⟨w.heap.size, whole + t, none⟩ = some (.int .u64 0) := by
                rw [hown.cellAt (whole + t) (by omega), lrow_get _ _ _ _ (by omega), if_neg (by omega)]
              have hf := hown.frozenAt (whole + t)
              have R : Hid ((wr.setCell ⟨w.heap.size, whole + t, none⟩ (.int .u64 H)).ownsRow w.heap.size 45 1 (.slice (some ⟨w.heap.size, 0, none⟩) (whole + M) (whole + M)) (whole + M) (lrow D (whole + M) (whole + t + 1)) ∧ Below w.heap.size w (wr.setCell ⟨w.heap.size, whole + t, none⟩ (.int .u64 H))) := ⟨hst.1, hb.setCell (Nat.le_refl _) _⟩
              clear hst eH
              go_wp2
              go_roundw
              case rel => exact ⟨t + 1, (j : Int) - 6, by omega, by go_num, rfl, by omega, by omega, by show _ = _; have := HE.out; omega, R.out.1, R.out.2⟩
              case measure => simp [intOf]; omega
      · have : whole + t = whole + M := by have := HM.out; have := HE.out; omega
        rw [this] at hown
        have hlim := limbs_of hown
        have hsz := (hown.lt w.heap.size rfl).2
        clear hown this
        go_wp2_with (go_at_call 33; refine (norm_any w.heap.size (whole + M) (limb D) wr (by omega) hlim).mono ?_; rintro e w' ⟨rfl, rfl⟩)
        go_ret
        exact ⟨rfl, hlim, hsz, hb⟩
end Go.Proofs.Qxb6620882a
