/-
  The walk of FnCutMoreRoomTakesMore.
-/
import Derived.Test.Qxb6623444aSplit
import Derived.Laws.CopyOwn
namespace Go.Proofs.Qxb6623444a.fnCutMoreRoomTakesMore
open Go.RowKit
set_option linter.unusedVariables false

theorem info5 : (Try.prog.info? 5).map (fun i => (i.zero, i.size, i.bytes)) = some (some (.int .u8 0), 1, 1) := by kernel_rfl
theorem size5 : (Try.prog.info? 5).map (·.size) = some 1 := by kernel_rfl

theorem bytes9_any (ma da : Option Addr) (ml mc dl dc : Nat) (r s : Int) (w : World) (hm : ml ≤ maxLen) (hd : dl ≤ maxLen) :
    Calls Try.prog 9 #[.slice ma ml mc, .slice da dl dc, .int .i64 r, .int .i64 s] w fun e w' => e = .returned (.bool (decide (ml + dl ≤ 1048576))) ∧ w' = w := by
  unfold maxLen at hm hd
  by_cases h1 : ml ≤ 1048576
  · by_cases h2 : dl ≤ 1048576
    · by_cases h3 : ml + dl ≤ 1048576
      all_goals
        go_enter Try.func9, Try.ntmps9
        go_wp2
        go_ret
        exact ⟨by simp [h3], rfl⟩
    · have h3 : ¬ ml + dl ≤ 1048576 := by omega
      go_enter Try.func9, Try.ntmps9
      go_wp2
      go_ret
      exact ⟨by simp [h3], rfl⟩
  · have h3 : ¬ ml + dl ≤ 1048576 := by omega
    go_enter Try.func9, Try.ntmps9
    go_wp2
    go_ret
    exact ⟨by simp [h3], rfl⟩
theorem bytes9_yes (ma da : Option Addr) (ml mc dl dc : Nat) (r s : Int) (w : World) (hm : ml ≤ maxLen) (hd : dl ≤ maxLen) (h : ml + dl ≤ 1048576) :
    Calls Try.prog 9 #[.slice ma ml mc, .slice da dl dc, .int .i64 r, .int .i64 s] w fun e w' => e = .returned (.bool true) ∧ w' = w := by
  have := bytes9_any ma da ml mc dl dc r s w hm hd
  simpa [h] using this
theorem bytes9_no (ma da : Option Addr) (ml mc dl dc : Nat) (r s : Int) (w : World) (hm : ml ≤ maxLen) (hd : dl ≤ maxLen) (h : ¬ ml + dl ≤ 1048576) :
    Calls Try.prog 9 #[.slice ma ml mc, .slice da dl dc, .int .i64 r, .int .i64 s] w fun e w' => e = .returned (.bool false) ∧ w' = w := by
  have := bytes9_any ma da ml mc dl dc r s w hm hd
  simpa [h] using this

/-- What came in still lies there behind new blocks. -/
theorem came_below {w w' : World} {a : Option Addr} {L cap : Nat} (h : Came w a L cap) (hb : Below w.heap.size w w') : Came w' a L cap := by
  refine ⟨h.len, h.top, h.nil, ?_⟩
  rcases h.row with h0 | ⟨b, off, c, rfl, hc⟩
  · exact .inl h0
  · exact .inr ⟨b, off, c, rfl, fun i hi => (hb.cell (p := ⟨b, off + i, none⟩) (lt_of_cell (hc i hi))).trans (hc i hi)⟩

/-- 'copy(zzc, x)' into a row of the same length that was just made. -/
theorem copy_made {w : World} {B L cap : Nat} {x : Addr} {xs : List Value} (hown : w.ownsRow B 5 1 (.slice (some ⟨B, 0, none⟩) L L) L xs) (hL : L ≤ 9223372036854775807) (h : Came w (some x) L cap) :
    ∃ w2, (∀ ty, (Builtin.copy_ #[22, 22] ty #[.slice (some ⟨B, 0, none⟩) L L, .slice (some x) L cap]).run Try.prog w = .ok (goInt L) w2) ∧ Came w2 (some ⟨B, 0, none⟩) L L ∧ B < w2.heap.size ∧ Below B w w2 := by
  obtain ⟨hlen, h'⟩ := hown
  rcases h' with ⟨h', _⟩ | ⟨g, cap', cur, h', hbg, hg, _, _, hcs, htake⟩
  · simp at h'
  · simp only [Value.slice.injEq, Option.some.injEq, Addr.mk.injEq, and_true, true_and] at h'
    obtain ⟨rfl, rfl⟩ := h'
    obtain ⟨c, hsrc⟩ : ∃ c : Nat → Nat, ∀ i, i < L → w.cell? (x.add i) = some (.int .u8 (c i)) := by
      rcases h.row with h0 | ⟨b, off, c, hx, hc⟩
      · exact ⟨fun _ => 0, fun i hi => by omega⟩
      · refine ⟨c, fun i hi => ?_⟩
        rw [Option.some.inj hx, Addr.add_lit]
        exact hc i hi
    have hcl : ((List.range L).map fun i => Value.int .u8 (c i)).length = L := by simp
    have hrun := fun ty => run_copy_row (P := Try.prog) w 22 22 ty 5 B 0 L L x L cap cur 5 ((List.range L).map fun i => Value.int .u8 (c i)) Try.underlying22 size5 hg
      (by rw [hcl]; exact (Nat.min_self L).symm)
      (fun j v hj => by
        have hjL : j < L := by
          rcases Nat.lt_or_ge j L with k | k
          · exact k
          · rw [List.getElem?_eq_none (by rw [hcl]; exact k)] at hj; cases hj
        simp [hjL] at hj
        rw [hsrc j hjL, ← hj])
      (by rw [hcl]; omega) (fun v hv => by obtain ⟨i, _, rfl⟩ := List.mem_map.1 hv; rfl)
    have hrow := setRow_heap w B cur ((cur.toList.take 0 ++ (List.range L).map (fun i => Value.int .u8 (c i)) ++ cur.toList.drop (0 + ((List.range L).map fun i => Value.int .u8 (c i)).length)).toArray) 5 _ hg
    have hsz : B < (w.setRow B (cur.toList.take 0 ++ (List.range L).map (fun i => Value.int .u8 (c i)) ++ cur.toList.drop (0 + ((List.range L).map fun i => Value.int .u8 (c i)).length)).toArray).heap.size := (Array.getElem?_eq_some_iff.1 hrow).1
    refine ⟨_, fun ty => (hrun ty).trans (by rw [hcl]), ⟨Nat.le_refl _, hL, fun h => (by cases h), .inr ⟨B, 0, c, rfl, fun i hi => ?_⟩⟩, hsz, ⟨rfl, rfl, rfl, by simp [World.setRow], fun k hk => setRow_other w B k _ (by omega)⟩⟩
    rw [show (⟨B, 0 + i, none⟩ : Addr) = ⟨B, i, none⟩ by rw [Nat.zero_add], cell_of_row _ B i _ 5 (0, 0) hrow]
    simp only [List.getElem?_toArray, List.take_zero, List.nil_append]
    rw [List.getElem?_append_left (by rw [hcl]; exact hi)]
    simp [hi]

set_option maxRecDepth 100000 in
set_option maxHeartbeats 2000000 in
theorem main_ss (x : Addr) (L mc : Nat) (y : Addr) (M dc : Nat) (A B : Nat) (w : World) (c0 : Came w (some x) L mc) (c1 : Came w (some y) M dc) (hL : L ≤ 524288) (hM : M ≤ 524288) (hA : A ≤ 9223372036854775807) (hB : B ≤ 9223372036854775807) (hA3 : 3 ≤ A) (hB3 : 3 ≤ B) :
    Calls Try.prog 4 #[.slice (some x) L mc, .slice (some y) M dc, .int .i64 A, .int .i64 B] w fun e w' => e = .returned (.bool true) ∧ Below w.heap.size w w' := by
  obtain ⟨i0, hi, hz0, hz1, hz2⟩ := info_parts info5
  have K0 := hide c0
  have K1 := hide c1
  have HB0 := hide (Below.refl w.heap.size w)
  clear c0 c1
  go_enter Try.func4, Try.ntmps4
  go_wp2_with (first | (go_at_call 9; refine (bytes9_yes (some x) (some y) L mc M dc _ _ _ (by unfold maxLen; omega) (by unfold maxLen; omega) (by omega)).mono ?_; rintro e w' ⟨rfl, hw⟩; rw [hw]; clear hw w') | (at_make; refine wpList_make_full _ rfl _ _ 22 rfl w.heap.size 5 i0 _ 1 Try.underlying22 hi hz0 hz1 _ _ _ _ L rfl rfl (by omega) (by omega) (by rw [hz2]; omega) (by unfold maxLen; omega) (Nat.le_refl _) ?_))
  intro w1 hown hgrow
  have hb1 : Below w.heap.size w w1 := (Below.refl _ _).grown hgrow (Nat.le_refl _) (by simp)
  obtain ⟨w2, hrun, hc0, hsz2, hb2⟩ := copy_made (x := x) (cap := mc) hown (by omega) (came_below K0.out hb1)
  have HB2 := hide (hb1.trans hb2)
  have P0 := hide hc0
  have P1 := hide (came_below K1.out HB2.out)
  clear hown hgrow hb1 hb2 hc0 K0 K1 HB0
  go_wp2_with (at_make; refine wpList_make_full _ rfl _ _ 22 rfl w2.heap.size 5 i0 _ 1 Try.underlying22 hi hz0 hz1 _ _ _ _ M rfl rfl (by omega) (by omega) (by rw [hz2]; omega) (by unfold maxLen; omega) (Nat.le_refl _) ?_)
  intro w3 hown hgrow
  have hb3 : Below w2.heap.size w2 w3 := (Below.refl _ _).grown hgrow (Nat.le_refl _) (by simp)
  obtain ⟨w4, hrun2, hc1, hsz4, hb4⟩ := copy_made (x := y) (cap := dc) hown (by omega) (came_below P1.out hb3)
  have Q1 := hide hc1
  have Q0 := hide (came_below P0.out (hb3.trans hb4))
  have HB4 := hide (HB2.out.trans ((hb3.trans hb4).mono HB2.out.size))
  clear hown hgrow hb3 hb4 hc1 P0 P1 HB2 hrun
  have C0 := Q0.out
  have C1 := Q1.out
  have HB := HB4
  have H3A : Hid (((some ⟨w.heap.size, 0, none⟩) : Option Addr) = none ∨ 3 ≤ A) := .inr hA3
  have H3B : Hid (((some ⟨w.heap.size, 0, none⟩) : Option Addr) = none ∨ 3 ≤ B) := .inr hB3
  clear Q0 Q1 HB4
  by_cases hab : B < A
  · obtain ⟨pa, ra, sa, pc, rn, rc, sn, sc, HZA, HGA⟩ := cut_facts (R := B) C0 C1 (by omega) (by omega) (by omega) H3B.out
    obtain ⟨pb, rb, sb, pd, rm, rd, sm, sd, HZB, HGB⟩ := cut_facts (R := A) C0 C1 (by omega) (by omega) (by omega) H3A.out
    have mM := takeM_mono (some ⟨w.heap.size, 0, none⟩) L B A (by omega)
    have mD := takeD_mono (some ⟨w.heap.size, 0, none⟩) L M B A (by omega)
    obtain ⟨mA, hmA⟩ : ∃ k, k = takeM (some ⟨w.heap.size, 0, none⟩) L B := ⟨_, rfl⟩
    obtain ⟨mB, hmB⟩ : ∃ k, k = takeM (some ⟨w.heap.size, 0, none⟩) L A := ⟨_, rfl⟩
    obtain ⟨dA, hdA⟩ : ∃ k, k = takeD (some ⟨w.heap.size, 0, none⟩) L M B := ⟨_, rfl⟩
    obtain ⟨dB, hdB⟩ : ∃ k, k = takeD (some ⟨w.heap.size, 0, none⟩) L M A := ⟨_, rfl⟩
    rw [← hmA, ← hdA] at HZA HGA
    rw [← hmB, ← hdB] at HZB HGB
    rw [← hmA, ← hmB] at mM
    rw [← hdA, ← hdB] at mD
    have ZA := hide HZA
    have ZB := hide HZB
    have GA := hide HGA
    have GB := hide HGB
    clear HZA HZB HGA HGB hmA hmB hdA hdB C0 C1
    go_wp2_with fail
    refine (ZA.out _).mono ?_
    rintro e w5 ⟨rfl, b5⟩
    have B5 := hide b5
    clear b5
    go_wp2_with fail
    refine (ZB.out _).mono ?_
    rintro e w6 ⟨rfl, b6⟩
    have B6 := hide (B5.out.trans (b6.mono B5.out.size))
    clear b6
    go_wp2_with fail
    refine (GA.out _ B6.out).mono ?_
    rintro e w7 ⟨rfl, q1, rfl⟩
    go_wp2_with fail
    refine (GB.out _ (below_drewN B6.out _)).mono ?_
    rintro e w7 ⟨rfl, q2, rfl⟩
    go_wp2
    go_ret
    exact ⟨ret_true (by simp <;> omega), below_drewN (HB.out.trans (B6.out.mono HB.out.size)) _⟩
  · obtain ⟨pa, ra, sa, pc, rn, rc, sn, sc, HZA, HGA⟩ := cut_facts (R := A) C0 C1 (by omega) (by omega) (by omega) H3A.out
    obtain ⟨pb, rb, sb, pd, rm, rd, sm, sd, HZB, HGB⟩ := cut_facts (R := B) C0 C1 (by omega) (by omega) (by omega) H3B.out
    have mM := takeM_mono (some ⟨w.heap.size, 0, none⟩) L A B (by omega)
    have mD := takeD_mono (some ⟨w.heap.size, 0, none⟩) L M A B (by omega)
    obtain ⟨mA, hmA⟩ : ∃ k, k = takeM (some ⟨w.heap.size, 0, none⟩) L A := ⟨_, rfl⟩
    obtain ⟨mB, hmB⟩ : ∃ k, k = takeM (some ⟨w.heap.size, 0, none⟩) L B := ⟨_, rfl⟩
    obtain ⟨dA, hdA⟩ : ∃ k, k = takeD (some ⟨w.heap.size, 0, none⟩) L M A := ⟨_, rfl⟩
    obtain ⟨dB, hdB⟩ : ∃ k, k = takeD (some ⟨w.heap.size, 0, none⟩) L M B := ⟨_, rfl⟩
    rw [← hmA, ← hdA] at HZA HGA
    rw [← hmB, ← hdB] at HZB HGB
    rw [← hmA, ← hmB] at mM
    rw [← hdA, ← hdB] at mD
    have ZA := hide HZA
    have ZB := hide HZB
    have GA := hide HGA
    have GB := hide HGB
    clear HZA HZB HGA HGB hmA hmB hdA hdB C0 C1
    go_wp2_with fail
    refine (ZA.out _).mono ?_
    rintro e w5 ⟨rfl, b5⟩
    have B5 := hide b5
    clear b5
    go_wp2_with fail
    refine (ZB.out _).mono ?_
    rintro e w6 ⟨rfl, b6⟩
    have B6 := hide (B5.out.trans (b6.mono B5.out.size))
    clear b6
    go_wp2_with fail
    refine (GA.out _ B6.out).mono ?_
    rintro e w7 ⟨rfl, q1, rfl⟩
    go_wp2_with fail
    refine (GB.out _ (below_drewN B6.out _)).mono ?_
    rintro e w7 ⟨rfl, q2, rfl⟩
    go_wp2
    go_ret
    exact ⟨ret_true (by simp <;> omega), below_drewN (HB.out.trans (B6.out.mono HB.out.size)) _⟩

set_option maxRecDepth 100000 in
set_option maxHeartbeats 2000000 in
theorem main_sn (x : Addr) (L mc : Nat) (A B : Nat) (w : World) (c0 : Came w (some x) L mc) (c1 : Came w none 0 0) (hL : L ≤ 524288) (hM : 0 ≤ 524288) (hA : A ≤ 9223372036854775807) (hB : B ≤ 9223372036854775807) (hA3 : 3 ≤ A) (hB3 : 3 ≤ B) :
    Calls Try.prog 4 #[.slice (some x) L mc, .slice none 0 0, .int .i64 A, .int .i64 B] w fun e w' => e = .returned (.bool true) ∧ Below w.heap.size w w' := by
  obtain ⟨i0, hi, hz0, hz1, hz2⟩ := info_parts info5
  have K0 := hide c0
  have K1 := hide c1
  have HB0 := hide (Below.refl w.heap.size w)
  clear c0 c1
  go_enter Try.func4, Try.ntmps4
  go_wp2_with (first | (go_at_call 9; refine (bytes9_yes (some x) none L mc 0 0 _ _ _ (by unfold maxLen; omega) (by unfold maxLen; omega) (by omega)).mono ?_; rintro e w' ⟨rfl, hw⟩; rw [hw]; clear hw w') | (at_make; refine wpList_make_full _ rfl _ _ 22 rfl w.heap.size 5 i0 _ 1 Try.underlying22 hi hz0 hz1 _ _ _ _ L rfl rfl (by omega) (by omega) (by rw [hz2]; omega) (by unfold maxLen; omega) (Nat.le_refl _) ?_))
  intro w1 hown hgrow
  have hb1 : Below w.heap.size w w1 := (Below.refl _ _).grown hgrow (Nat.le_refl _) (by simp)
  obtain ⟨w2, hrun, hc0, hsz2, hb2⟩ := copy_made (x := x) (cap := mc) hown (by omega) (came_below K0.out hb1)
  have HB2 := hide (hb1.trans hb2)
  have P0 := hide hc0
  have P1 := hide (came_below K1.out HB2.out)
  clear hown hgrow hb1 hb2 hc0 K0 K1 HB0
  have C0 := P0.out
  have C1 := P1.out
  have HB := HB2
  have H3A : Hid (((some ⟨w.heap.size, 0, none⟩) : Option Addr) = none ∨ 3 ≤ A) := .inr hA3
  have H3B : Hid (((some ⟨w.heap.size, 0, none⟩) : Option Addr) = none ∨ 3 ≤ B) := .inr hB3
  clear P0 P1 HB2
  by_cases hab : B < A
  · obtain ⟨pa, ra, sa, pc, rn, rc, sn, sc, HZA, HGA⟩ := cut_facts (R := B) C0 C1 (by omega) (by omega) (by omega) H3B.out
    obtain ⟨pb, rb, sb, pd, rm, rd, sm, sd, HZB, HGB⟩ := cut_facts (R := A) C0 C1 (by omega) (by omega) (by omega) H3A.out
    have mM := takeM_mono (some ⟨w.heap.size, 0, none⟩) L B A (by omega)
    have mD := takeD_mono (some ⟨w.heap.size, 0, none⟩) L 0 B A (by omega)
    obtain ⟨mA, hmA⟩ : ∃ k, k = takeM (some ⟨w.heap.size, 0, none⟩) L B := ⟨_, rfl⟩
    obtain ⟨mB, hmB⟩ : ∃ k, k = takeM (some ⟨w.heap.size, 0, none⟩) L A := ⟨_, rfl⟩
    obtain ⟨dA, hdA⟩ : ∃ k, k = takeD (some ⟨w.heap.size, 0, none⟩) L 0 B := ⟨_, rfl⟩
    obtain ⟨dB, hdB⟩ : ∃ k, k = takeD (some ⟨w.heap.size, 0, none⟩) L 0 A := ⟨_, rfl⟩
    rw [← hmA, ← hdA] at HZA HGA
    rw [← hmB, ← hdB] at HZB HGB
    rw [← hmA, ← hmB] at mM
    rw [← hdA, ← hdB] at mD
    have ZA := hide HZA
    have ZB := hide HZB
    have GA := hide HGA
    have GB := hide HGB
    clear HZA HZB HGA HGB hmA hmB hdA hdB C0 C1
    go_wp2_with fail
    refine (ZA.out _).mono ?_
    rintro e w5 ⟨rfl, b5⟩
    have B5 := hide b5
    clear b5
    go_wp2_with fail
    refine (ZB.out _).mono ?_
    rintro e w6 ⟨rfl, b6⟩
    have B6 := hide (B5.out.trans (b6.mono B5.out.size))
    clear b6
    go_wp2_with fail
    refine (GA.out _ B6.out).mono ?_
    rintro e w7 ⟨rfl, q1, rfl⟩
    go_wp2_with fail
    refine (GB.out _ (below_drewN B6.out _)).mono ?_
    rintro e w7 ⟨rfl, q2, rfl⟩
    go_wp2
    go_ret
    exact ⟨ret_true (by simp <;> omega), below_drewN (HB.out.trans (B6.out.mono HB.out.size)) _⟩
  · obtain ⟨pa, ra, sa, pc, rn, rc, sn, sc, HZA, HGA⟩ := cut_facts (R := A) C0 C1 (by omega) (by omega) (by omega) H3A.out
    obtain ⟨pb, rb, sb, pd, rm, rd, sm, sd, HZB, HGB⟩ := cut_facts (R := B) C0 C1 (by omega) (by omega) (by omega) H3B.out
    have mM := takeM_mono (some ⟨w.heap.size, 0, none⟩) L A B (by omega)
    have mD := takeD_mono (some ⟨w.heap.size, 0, none⟩) L 0 A B (by omega)
    obtain ⟨mA, hmA⟩ : ∃ k, k = takeM (some ⟨w.heap.size, 0, none⟩) L A := ⟨_, rfl⟩
    obtain ⟨mB, hmB⟩ : ∃ k, k = takeM (some ⟨w.heap.size, 0, none⟩) L B := ⟨_, rfl⟩
    obtain ⟨dA, hdA⟩ : ∃ k, k = takeD (some ⟨w.heap.size, 0, none⟩) L 0 A := ⟨_, rfl⟩
    obtain ⟨dB, hdB⟩ : ∃ k, k = takeD (some ⟨w.heap.size, 0, none⟩) L 0 B := ⟨_, rfl⟩
    rw [← hmA, ← hdA] at HZA HGA
    rw [← hmB, ← hdB] at HZB HGB
    rw [← hmA, ← hmB] at mM
    rw [← hdA, ← hdB] at mD
    have ZA := hide HZA
    have ZB := hide HZB
    have GA := hide HGA
    have GB := hide HGB
    clear HZA HZB HGA HGB hmA hmB hdA hdB C0 C1
    go_wp2_with fail
    refine (ZA.out _).mono ?_
    rintro e w5 ⟨rfl, b5⟩
    have B5 := hide b5
    clear b5
    go_wp2_with fail
    refine (ZB.out _).mono ?_
    rintro e w6 ⟨rfl, b6⟩
    have B6 := hide (B5.out.trans (b6.mono B5.out.size))
    clear b6
    go_wp2_with fail
    refine (GA.out _ B6.out).mono ?_
    rintro e w7 ⟨rfl, q1, rfl⟩
    go_wp2_with fail
    refine (GB.out _ (below_drewN B6.out _)).mono ?_
    rintro e w7 ⟨rfl, q2, rfl⟩
    go_wp2
    go_ret
    exact ⟨ret_true (by simp <;> omega), below_drewN (HB.out.trans (B6.out.mono HB.out.size)) _⟩

set_option maxRecDepth 100000 in
set_option maxHeartbeats 2000000 in
theorem main_ns (y : Addr) (M dc : Nat) (A B : Nat) (w : World) (c0 : Came w none 0 0) (c1 : Came w (some y) M dc) (hL : 0 ≤ 524288) (hM : M ≤ 524288) (hA : A ≤ 9223372036854775807) (hB : B ≤ 9223372036854775807) :
    Calls Try.prog 4 #[.slice none 0 0, .slice (some y) M dc, .int .i64 A, .int .i64 B] w fun e w' => e = .returned (.bool true) ∧ Below w.heap.size w w' := by
  obtain ⟨i0, hi, hz0, hz1, hz2⟩ := info_parts info5
  have K0 := hide c0
  have K1 := hide c1
  have HB0 := hide (Below.refl w.heap.size w)
  clear c0 c1
  go_enter Try.func4, Try.ntmps4
  go_wp2_with (first | (go_at_call 9; refine (bytes9_yes none (some y) 0 0 M dc _ _ _ (by unfold maxLen; omega) (by unfold maxLen; omega) (by omega)).mono ?_; rintro e w' ⟨rfl, hw⟩; rw [hw]; clear hw w') | (at_make; refine wpList_make_full _ rfl _ _ 22 rfl w.heap.size 5 i0 _ 1 Try.underlying22 hi hz0 hz1 _ _ _ _ M rfl rfl (by omega) (by omega) (by rw [hz2]; omega) (by unfold maxLen; omega) (Nat.le_refl _) ?_))
  intro w3 hown hgrow
  have hb3 : Below w.heap.size w w3 := (Below.refl _ _).grown hgrow (Nat.le_refl _) (by simp)
  obtain ⟨w4, hrun2, hc1, hsz4, hb4⟩ := copy_made (x := y) (cap := dc) hown (by omega) (came_below K1.out hb3)
  have Q1 := hide hc1
  have Q0 := hide (came_below K0.out (hb3.trans hb4))
  have HB4 := hide (HB0.out.trans ((hb3.trans hb4).mono HB0.out.size))
  clear hown hgrow hb3 hb4 hc1 K0 K1 HB0 
  have C0 := Q0.out
  have C1 := Q1.out
  have HB := HB4
  have H3A : Hid ((none : Option Addr) = none ∨ 3 ≤ A) := .inl rfl
  have H3B : Hid ((none : Option Addr) = none ∨ 3 ≤ B) := .inl rfl
  clear Q0 Q1 HB4
  by_cases hab : B < A
  · obtain ⟨pa, ra, sa, pc, rn, rc, sn, sc, HZA, HGA⟩ := cut_facts (R := B) C0 C1 (by omega) (by omega) (by omega) H3B.out
    obtain ⟨pb, rb, sb, pd, rm, rd, sm, sd, HZB, HGB⟩ := cut_facts (R := A) C0 C1 (by omega) (by omega) (by omega) H3A.out
    have mM := takeM_mono none 0 B A (by omega)
    have mD := takeD_mono none 0 M B A (by omega)
    obtain ⟨mA, hmA⟩ : ∃ k, k = takeM none 0 B := ⟨_, rfl⟩
    obtain ⟨mB, hmB⟩ : ∃ k, k = takeM none 0 A := ⟨_, rfl⟩
    obtain ⟨dA, hdA⟩ : ∃ k, k = takeD none 0 M B := ⟨_, rfl⟩
    obtain ⟨dB, hdB⟩ : ∃ k, k = takeD none 0 M A := ⟨_, rfl⟩
    rw [← hmA, ← hdA] at HZA HGA
    rw [← hmB, ← hdB] at HZB HGB
    rw [← hmA, ← hmB] at mM
    rw [← hdA, ← hdB] at mD
    have ZA := hide HZA
    have ZB := hide HZB
    have GA := hide HGA
    have GB := hide HGB
    clear HZA HZB HGA HGB hmA hmB hdA hdB C0 C1
    go_wp2_with fail
    refine (ZA.out _).mono ?_
    rintro e w5 ⟨rfl, b5⟩
    have B5 := hide b5
    clear b5
    go_wp2_with fail
    refine (ZB.out _).mono ?_
    rintro e w6 ⟨rfl, b6⟩
    have B6 := hide (B5.out.trans (b6.mono B5.out.size))
    clear b6
    go_wp2_with fail
    refine (GA.out _ B6.out).mono ?_
    rintro e w7 ⟨rfl, q1, rfl⟩
    go_wp2_with fail
    refine (GB.out _ (below_drewN B6.out _)).mono ?_
    rintro e w7 ⟨rfl, q2, rfl⟩
    go_wp2
    go_ret
    exact ⟨ret_true (by simp <;> omega), below_drewN (HB.out.trans (B6.out.mono HB.out.size)) _⟩
  · obtain ⟨pa, ra, sa, pc, rn, rc, sn, sc, HZA, HGA⟩ := cut_facts (R := A) C0 C1 (by omega) (by omega) (by omega) H3A.out
    obtain ⟨pb, rb, sb, pd, rm, rd, sm, sd, HZB, HGB⟩ := cut_facts (R := B) C0 C1 (by omega) (by omega) (by omega) H3B.out
    have mM := takeM_mono none 0 A B (by omega)
    have mD := takeD_mono none 0 M A B (by omega)
    obtain ⟨mA, hmA⟩ : ∃ k, k = takeM none 0 A := ⟨_, rfl⟩
    obtain ⟨mB, hmB⟩ : ∃ k, k = takeM none 0 B := ⟨_, rfl⟩
    obtain ⟨dA, hdA⟩ : ∃ k, k = takeD none 0 M A := ⟨_, rfl⟩
    obtain ⟨dB, hdB⟩ : ∃ k, k = takeD none 0 M B := ⟨_, rfl⟩
    rw [← hmA, ← hdA] at HZA HGA
    rw [← hmB, ← hdB] at HZB HGB
    rw [← hmA, ← hmB] at mM
    rw [← hdA, ← hdB] at mD
    have ZA := hide HZA
    have ZB := hide HZB
    have GA := hide HGA
    have GB := hide HGB
    clear HZA HZB HGA HGB hmA hmB hdA hdB C0 C1
    go_wp2_with fail
    refine (ZA.out _).mono ?_
    rintro e w5 ⟨rfl, b5⟩
    have B5 := hide b5
    clear b5
    go_wp2_with fail
    refine (ZB.out _).mono ?_
    rintro e w6 ⟨rfl, b6⟩
    have B6 := hide (B5.out.trans (b6.mono B5.out.size))
    clear b6
    go_wp2_with fail
    refine (GA.out _ B6.out).mono ?_
    rintro e w7 ⟨rfl, q1, rfl⟩
    go_wp2_with fail
    refine (GB.out _ (below_drewN B6.out _)).mono ?_
    rintro e w7 ⟨rfl, q2, rfl⟩
    go_wp2
    go_ret
    exact ⟨ret_true (by simp <;> omega), below_drewN (HB.out.trans (B6.out.mono HB.out.size)) _⟩

set_option maxRecDepth 100000 in
set_option maxHeartbeats 2000000 in
theorem main_nn (A B : Nat) (w : World) (c0 : Came w none 0 0) (c1 : Came w none 0 0) (hL : 0 ≤ 524288) (hM : 0 ≤ 524288) (hA : A ≤ 9223372036854775807) (hB : B ≤ 9223372036854775807) :
    Calls Try.prog 4 #[.slice none 0 0, .slice none 0 0, .int .i64 A, .int .i64 B] w fun e w' => e = .returned (.bool true) ∧ Below w.heap.size w w' := by
  obtain ⟨i0, hi, hz0, hz1, hz2⟩ := info_parts info5
  have K0 := hide c0
  have K1 := hide c1
  have HB0 := hide (Below.refl w.heap.size w)
  clear c0 c1
  go_enter Try.func4, Try.ntmps4
  have C0 := K0.out
  have C1 := K1.out
  have HB := HB0
  have H3A : Hid ((none : Option Addr) = none ∨ 3 ≤ A) := .inl rfl
  have H3B : Hid ((none : Option Addr) = none ∨ 3 ≤ B) := .inl rfl
  clear K0 K1 HB0
  by_cases hab : B < A
  · obtain ⟨pa, ra, sa, pc, rn, rc, sn, sc, HZA, HGA⟩ := cut_facts (R := B) C0 C1 (by omega) (by omega) (by omega) H3B.out
    obtain ⟨pb, rb, sb, pd, rm, rd, sm, sd, HZB, HGB⟩ := cut_facts (R := A) C0 C1 (by omega) (by omega) (by omega) H3A.out
    have mM := takeM_mono none 0 B A (by omega)
    have mD := takeD_mono none 0 0 B A (by omega)
    obtain ⟨mA, hmA⟩ : ∃ k, k = takeM none 0 B := ⟨_, rfl⟩
    obtain ⟨mB, hmB⟩ : ∃ k, k = takeM none 0 A := ⟨_, rfl⟩
    obtain ⟨dA, hdA⟩ : ∃ k, k = takeD none 0 0 B := ⟨_, rfl⟩
    obtain ⟨dB, hdB⟩ : ∃ k, k = takeD none 0 0 A := ⟨_, rfl⟩
    rw [← hmA, ← hdA] at HZA HGA
    rw [← hmB, ← hdB] at HZB HGB
    rw [← hmA, ← hmB] at mM
    rw [← hdA, ← hdB] at mD
    have ZA := hide HZA
    have ZB := hide HZB
    have GA := hide HGA
    have GB := hide HGB
    clear HZA HZB HGA HGB hmA hmB hdA hdB C0 C1
    go_wp2_with (go_at_call 9; refine (bytes9_yes none none 0 0 0 0 _ _ _ (by unfold maxLen; omega) (by unfold maxLen; omega) (by omega)).mono ?_; rintro e w' ⟨rfl, hw⟩; rw [hw]; clear hw w')
    refine (ZA.out _).mono ?_
    rintro e w5 ⟨rfl, b5⟩
    have B5 := hide b5
    clear b5
    go_wp2_with fail
    refine (ZB.out _).mono ?_
    rintro e w6 ⟨rfl, b6⟩
    have B6 := hide (B5.out.trans (b6.mono B5.out.size))
    clear b6
    go_wp2_with fail
    refine (GA.out _ B6.out).mono ?_
    rintro e w7 ⟨rfl, q1, rfl⟩
    go_wp2_with fail
    refine (GB.out _ (below_drewN B6.out _)).mono ?_
    rintro e w7 ⟨rfl, q2, rfl⟩
    go_wp2
    go_ret
    exact ⟨ret_true (by simp <;> omega), below_drewN (HB.out.trans (B6.out.mono HB.out.size)) _⟩
  · obtain ⟨pa, ra, sa, pc, rn, rc, sn, sc, HZA, HGA⟩ := cut_facts (R := A) C0 C1 (by omega) (by omega) (by omega) H3A.out
    obtain ⟨pb, rb, sb, pd, rm, rd, sm, sd, HZB, HGB⟩ := cut_facts (R := B) C0 C1 (by omega) (by omega) (by omega) H3B.out
    have mM := takeM_mono none 0 A B (by omega)
    have mD := takeD_mono none 0 0 A B (by omega)
    obtain ⟨mA, hmA⟩ : ∃ k, k = takeM none 0 A := ⟨_, rfl⟩
    obtain ⟨mB, hmB⟩ : ∃ k, k = takeM none 0 B := ⟨_, rfl⟩
    obtain ⟨dA, hdA⟩ : ∃ k, k = takeD none 0 0 A := ⟨_, rfl⟩
    obtain ⟨dB, hdB⟩ : ∃ k, k = takeD none 0 0 B := ⟨_, rfl⟩
    rw [← hmA, ← hdA] at HZA HGA
    rw [← hmB, ← hdB] at HZB HGB
    rw [← hmA, ← hmB] at mM
    rw [← hdA, ← hdB] at mD
    have ZA := hide HZA
    have ZB := hide HZB
    have GA := hide HGA
    have GB := hide HGB
    clear HZA HZB HGA HGB hmA hmB hdA hdB C0 C1
    go_wp2_with (go_at_call 9; refine (bytes9_yes none none 0 0 0 0 _ _ _ (by unfold maxLen; omega) (by unfold maxLen; omega) (by omega)).mono ?_; rintro e w' ⟨rfl, hw⟩; rw [hw]; clear hw w')
    refine (ZA.out _).mono ?_
    rintro e w5 ⟨rfl, b5⟩
    have B5 := hide b5
    clear b5
    go_wp2_with fail
    refine (ZB.out _).mono ?_
    rintro e w6 ⟨rfl, b6⟩
    have B6 := hide (B5.out.trans (b6.mono B5.out.size))
    clear b6
    go_wp2_with fail
    refine (GA.out _ B6.out).mono ?_
    rintro e w7 ⟨rfl, q1, rfl⟩
    go_wp2_with fail
    refine (GB.out _ (below_drewN B6.out _)).mono ?_
    rintro e w7 ⟨rfl, q2, rfl⟩
    go_wp2
    go_ret
    exact ⟨ret_true (by simp <;> omega), below_drewN (HB.out.trans (B6.out.mono HB.out.size)) _⟩

/-- WHAT THE WALK IS TOLD OF A SLICE OF INTEGERS THAT CAME IN: it is nil; or it leads to a row of 'cap' cells, the numbers 'zs' (the first 'len' are its elements, the rest its spare room), each fitting its kind. -/
def IsRow (k : IntKind) (w : World) (a : Option Addr) (len cap : Nat) (zs : List Int) : Prop :=
  (a = none ∧ len = 0 ∧ cap = 0 ∧ zs = []) ∨
  ∃ x, a = some x ∧ len ≤ cap ∧ cap ≤ maxLen ∧ zs.length = cap ∧ (∀ i, i < zs.length → w.cell? (x.add i) = some (.int k (zs.getD i 0))) ∧ ∀ n ∈ zs, (Lit.int k n).wf = true

theorem came_of {w : World} {a : Option Addr} {len cap : Nat} {zs : List Int} (h : IsRow .u8 w a len cap zs) : Came w a len cap := by
  rcases h with ⟨rfl, rfl, rfl, _⟩ | ⟨x, rfl, h1, h2, h3, h4, h5⟩
  · exact came_nil w
  · exact came_row h1 h2 h3 h4 h5

theorem max_len {n : Nat} (h : n ≤ 9223372036854775807) : n ≤ maxLen := by unfold maxLen; omega

set_option maxRecDepth 100000 in
set_option maxHeartbeats 1000000 in
theorem walk (a0 : Option Addr) (len0 cap0 : Nat) (z0 : List Int) (a1 : Option Addr) (len1 cap1 : Nat) (z1 : List Int) (a2 : Int) (a3 : Int) (w : World) (w0 : IsRow .u8 w a0 len0 cap0 z0) (w1 : IsRow .u8 w a1 len1 cap1 z1) (w2 : (Lit.int .i64 a2).wf = true) (w3 : (Lit.int .i64 a3).wf = true) :
    Calls Try.prog 4 #[.slice a0 len0 cap0, .slice a1 len1 cap1, .int .i64 a2, .int .i64 a3] w fun e w' => e = .returned (.bool true) ∧ Below w.heap.size w w' := by
  have c0 := came_of w0
  have c1 := came_of w1
  clear w0 w1
  have l0 := c0.len
  have t0 := c0.top
  have l1 := c1.len
  have t1 := c1.top
  have hw2 := bounds_i64 w2
  have hw3 := bounds_i64 w3
  by_cases hS : len0 + len1 ≤ 1048576
  · have HY := hide (fun w => bytes9_yes a0 a1 len0 cap0 len1 cap1 a2 a3 w (max_len (by omega)) (max_len (by omega)) hS)
    by_cases hL : 524288 < len0
    · go_enter Try.func4, Try.ntmps4
      go_wp2_with (go_at_call 9; refine (HY.out _).mono ?_; rintro e w' ⟨rfl, rfl⟩)
      go_ret
      exact ⟨rfl, Below.refl _ _⟩
    · by_cases hM : 524288 < len1
      · go_enter Try.func4, Try.ntmps4
        go_wp2_with (go_at_call 9; refine (HY.out _).mono ?_; rintro e w' ⟨rfl, rfl⟩)
        go_ret
        exact ⟨rfl, Below.refl _ _⟩
      · by_cases hneg : a2 < 0
        · go_enter Try.func4, Try.ntmps4
          go_wp2_with (go_at_call 9; refine (HY.out _).mono ?_; rintro e w' ⟨rfl, rfl⟩)
          go_ret
          exact ⟨rfl, Below.refl _ _⟩
        · by_cases hneg3 : a3 < 0
          · go_enter Try.func4, Try.ntmps4
            go_wp2_with (go_at_call 9; refine (HY.out _).mono ?_; rintro e w' ⟨rfl, rfl⟩)
            go_ret
            exact ⟨rfl, Below.refl _ _⟩
          · obtain ⟨A, rfl⟩ : ∃ R : Nat, a2 = R := ⟨a2.toNat, by omega⟩
            obtain ⟨B, rfl⟩ : ∃ R : Nat, a3 = R := ⟨a3.toNat, by omega⟩
            cases a0 with
            | none =>
              obtain ⟨rfl, rfl⟩ := c0.nil rfl
              cases a1 with
              | none =>
                obtain ⟨rfl, rfl⟩ := c1.nil rfl
                exact main_nn A B w c0 c1 (by omega) (by omega) (by omega) (by omega)
              | some y => exact main_ns y len1 cap1 A B w c0 c1 (by omega) (by omega) (by omega) (by omega)
            | some x =>
              by_cases hA3 : A < 3
              · go_enter Try.func4, Try.ntmps4
                go_wp2_with (go_at_call 9; refine (HY.out _).mono ?_; rintro e w' ⟨rfl, rfl⟩)
                go_ret
                exact ⟨rfl, Below.refl _ _⟩
              · by_cases hB3 : B < 3
                · go_enter Try.func4, Try.ntmps4
                  go_wp2_with (go_at_call 9; refine (HY.out _).mono ?_; rintro e w' ⟨rfl, rfl⟩)
                  go_ret
                  exact ⟨rfl, Below.refl _ _⟩
                · cases a1 with
                  | none =>
                    obtain ⟨rfl, rfl⟩ := c1.nil rfl
                    exact main_sn x len0 cap0 A B w c0 c1 (by omega) (by omega) (by omega) (by omega) (by omega) (by omega)
                  | some y => exact main_ss x len0 cap0 y len1 cap1 A B w c0 c1 (by omega) (by omega) (by omega) (by omega) (by omega) (by omega)
  · go_enter Try.func4, Try.ntmps4
    go_wp2_with (go_at_call 9; refine (bytes9_no a0 a1 len0 cap0 len1 cap1 a2 a3 _ (max_len (by omega)) (max_len (by omega)) hS).mono ?_; rintro e w' ⟨rfl, rfl⟩)
    go_ret
    exact ⟨rfl, Below.refl _ _⟩

end Go.Proofs.Qxb6623444a.fnCutMoreRoomTakesMore
