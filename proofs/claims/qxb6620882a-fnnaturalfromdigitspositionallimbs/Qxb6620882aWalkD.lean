/-
  The walk of FnNaturalFromDigitsPositionalLimbs.
-/
import Derived.Test.Qxb6620882aPos
import Derived.Test.Qxb6620882aRowStep
namespace Go.Proofs.Qxb6620882a.fnNaturalFromDigitsPositionalLimbs
open Go.RowKit

theorem bytes15_yes (ao : Option Addr) (L cap : Nat) (z : Int) (w : World) (hL : L ≤ maxLen) (h : L ≤ 1048576) :
    Calls Try.prog 15 #[.slice ao L cap, .int .i64 z] w fun e w' => e = .returned (.bool true) ∧ w' = w := by
  have := bytes15_any ao L cap z w hL
  simpa [h] using this
theorem bytes15_no (ao : Option Addr) (L cap : Nat) (z : Int) (w : World) (hL : L ≤ maxLen) (h : ¬ L ≤ 1048576) :
    Calls Try.prog 15 #[.slice ao L cap, .int .i64 z] w fun e w' => e = .returned (.bool false) ∧ w' = w := by
  have := bytes15_any ao L cap z w hL
  simpa [h] using this

/-- WHAT THE WALK IS TOLD OF A SLICE OF INTEGERS THAT CAME IN: it is nil; or it leads to a row of 'cap' cells, the numbers 'zs' (the first 'len' are its elements, the rest its spare room), each fitting its kind. -/
def IsRow (k : IntKind) (w : World) (a : Option Addr) (len cap : Nat) (zs : List Int) : Prop :=
  (a = none ∧ len = 0 ∧ cap = 0 ∧ zs = []) ∨
  ∃ x, a = some x ∧ len ≤ cap ∧ cap ≤ maxLen ∧ zs.length = cap ∧ (∀ i, i < zs.length → w.cell? (x.add i) = some (.int k (zs.getD i 0))) ∧ ∀ n ∈ zs, (Lit.int k n).wf = true

theorem came_of {w : World} {a : Option Addr} {len cap : Nat} {zs : List Int} (h : IsRow .u8 w a len cap zs) : ∃ c, Came w a len cap c := by
  rcases h with ⟨rfl, rfl, rfl, _⟩ | ⟨x, rfl, h1, h2, h3, h4, h5⟩
  · exact ⟨_, came_nil w⟩
  · exact ⟨_, came_row h1 h2 h3 h4 h5⟩

set_option maxHeartbeats 1000000 in
theorem main_some (x : Addr) (L cap Z T N : Nat) (c l : Nat → Nat) (w : World) (h : Came w (some x) L cap c) (hL : L ≤ 1048576) (hZ : Z ≤ 65536) (hd : Digs L c)
    (HD : Hid (l = limb (dg c L Z))) (HN : Hid (N = (L + Z + 5) / 6)) (HT : Hid (T = topN l N)) :
    Calls Try.prog 5 #[.slice (some x) L cap, .int .i64 Z] w fun e w' => e = .returned (.bool true) ∧ Below w.heap.size w w' := by
  obtain ⟨i0, hi, hz0, hz1, hz2⟩ := info_parts Try.info5b
  have hlen := h.len
  have HC := hide (fun i hi => h.cell x rfl i hi)
  go_enter Try.func5, Try.ntmps5
  go_wp2_with (first | (go_at_call 15; refine (bytes15_yes _ L cap _ _ hlen hL).mono ?_; rintro e w' ⟨rfl, hw⟩; rw [hw]; clear hw w') | (go_at_call 16; refine (digits_yes _ L cap c _ (by omega) h.src hd).mono ?_; rintro e w' ⟨rfl, hw⟩; rw [hw]; clear hw w') | (at_make; refine wpList_make_full _ rfl _ _ 28 rfl w.heap.size 5 i0 _ 1 Try.underlying28 hi hz0 hz1 _ _ _ _ L rfl rfl (by omega) (by omega) (by rw [hz2]; omega) (by unfold maxLen; omega) (Nat.le_refl _) ?_))
  intro w1 hown hgrow
  have hb1 : Below w.heap.size w w1 := (Below.refl _ _).grown hgrow (Nat.le_refl _) (by simp)
  obtain ⟨w2, hrun, hod, hsz2, hb2⟩ := copy_made (cap := cap) (x := x) (c := c) hown (fun i hi => (hb1.cell (lt_of_cell (HC.out i hi))).trans (HC.out i hi))
  clear hown hgrow
  have HB := hide (hb1.trans hb2)
  clear hb1 hb2 HC h
  go_wp2_with fail
  clear hrun
  refine (znat (some ⟨w.heap.size, 0, none⟩) w.heap.size L L Z N T c l _ (by omega) hZ hod hd HD HN HT).mono ?_
  rintro e wc ⟨rfl, la, sa, ba⟩
  have hod2 := hide (hod.below ba)
  go_wp2_with fail
  refine (zpos (some ⟨w.heap.size, 0, none⟩) w.heap.size L L Z N T c l _ hL hZ hod2.out hd HD HN HT).mono ?_
  rintro e wd ⟨rfl, lb, sb, bb⟩
  have la2 := la.below sa bb
  have HBe := hide ((HB.out.trans (ba.mono (by omega))).trans (bb.mono (by omega)))
  have hTN : T ≤ N := by rw [HT.out]; exact topN_le _ _
  have hN : N ≤ 1000000 := by have := HN.out; omega
  go_wp2_with fail
  refine (same_any w2.heap.size N wc.heap.size N T l wd (by omega) (la2.mono hTN) (lb.mono hTN)).mono ?_
  rintro e wf ⟨rfl, q, rfl⟩
  go_wp2
  go_ret
  exact ⟨rfl, below_drewN HBe.out _⟩

set_option maxHeartbeats 1000000 in
theorem main_none (L cap Z T N : Nat) (c l : Nat → Nat) (w : World) (HL0 : Hid (L = 0)) (hL : L ≤ 1048576) (hZ : Z ≤ 65536) (hd : Digs L c)
    (HD : Hid (l = limb (dg c L Z))) (HN : Hid (N = (L + Z + 5) / 6)) (HT : Hid (T = topN l N)) :
    Calls Try.prog 5 #[.slice none L cap, .int .i64 Z] w fun e w' => e = .returned (.bool true) ∧ Below w.heap.size w w' := by
  have hlen : L ≤ maxLen := by rw [HL0.out]; exact Nat.zero_le _
  have hod : Own w none 0 L c := ⟨.inl HL0, .inl HL0.out, fun i hi => absurd (HL0.out ▸ hi) (Nat.not_lt_zero _)⟩
  go_enter Try.func5, Try.ntmps5
  go_wp2_with (first | (go_at_call 15; refine (bytes15_yes _ L cap _ _ hlen hL).mono ?_; rintro e w' ⟨rfl, hw⟩; rw [hw]; clear hw w') | (go_at_call 16; refine (digits_yes _ L cap c _ (by omega) (.inl HL0.out) hd).mono ?_; rintro e w' ⟨rfl, hw⟩; rw [hw]; clear hw w'))
  refine (znat none 0 L cap Z N T c l _ (by omega) hZ hod hd HD HN HT).mono ?_
  rintro e wc ⟨rfl, la, sa, ba⟩
  have hod2 := hide (hod.below ba)
  go_wp2_with fail
  refine (zpos none 0 L cap Z N T c l _ hL hZ hod2.out hd HD HN HT).mono ?_
  rintro e wd ⟨rfl, lb, sb, bb⟩
  have la2 := la.below sa bb
  have HBe := hide (ba.trans (bb.mono (by omega)))
  have hTN : T ≤ N := by rw [HT.out]; exact topN_le _ _
  have hN : N ≤ 1000000 := by have := HN.out; omega
  go_wp2_with fail
  refine (same_any w.heap.size N wc.heap.size N T l wd (by omega) (la2.mono hTN) (lb.mono hTN)).mono ?_
  rintro e wf ⟨rfl, q, rfl⟩
  go_wp2
  go_ret
  exact ⟨rfl, below_drewN HBe.out _⟩

set_option maxHeartbeats 1000000 in
theorem walk (a0 : Option Addr) (len0 cap0 : Nat) (z0 : List Int) (a1 : Int) (w : World) (w0 : IsRow .u8 w a0 len0 cap0 z0) (w1 : (Lit.int .i64 a1).wf = true) :
    Calls Try.prog 5 #[.slice a0 len0 cap0, .int .i64 a1] w fun e w' => e = .returned (.bool true) ∧ Below w.heap.size w w' := by
  obtain ⟨c, h⟩ := came_of w0
  clear w0
  have hlen := h.len
  by_cases hL : len0 ≤ 1048576
  · by_cases hz : a1 < 0
    · go_enter Try.func5, Try.ntmps5
      go_wp2_with (go_at_call 15; refine (bytes15_yes _ len0 cap0 _ _ hlen hL).mono ?_; rintro e w' ⟨rfl, rfl⟩)
      go_ret
      exact ⟨rfl, Below.refl _ _⟩
    · by_cases hz2 : 65536 < a1
      · go_enter Try.func5, Try.ntmps5
        go_wp2_with (go_at_call 15; refine (bytes15_yes _ len0 cap0 _ _ hlen hL).mono ?_; rintro e w' ⟨rfl, rfl⟩)
        go_ret
        exact ⟨rfl, Below.refl _ _⟩
      · by_cases hd : Digs len0 c
        · obtain ⟨Z, rfl⟩ : ∃ Z : Nat, a1 = Z := ⟨a1.toNat, by omega⟩
          cases a0 with
          | none =>
            exact main_none len0 cap0 Z _ _ c _ w (h.nil rfl).1 hL (by omega) hd rfl rfl rfl
          | some x =>
            exact main_some x len0 cap0 Z _ _ c _ w h hL (by omega) hd rfl rfl rfl
        · go_enter Try.func5, Try.ntmps5
          go_wp2_with (first | (go_at_call 15; refine (bytes15_yes _ len0 cap0 _ _ hlen hL).mono ?_; rintro e w' ⟨rfl, rfl⟩) | (go_at_call 16; refine (digits_no _ len0 cap0 c _ (by omega) h.src hd).mono ?_; rintro e w' ⟨rfl, rfl⟩))
          go_ret
          exact ⟨rfl, Below.refl _ _⟩
  · go_enter Try.func5, Try.ntmps5
    go_wp2_with (go_at_call 15; refine (bytes15_no _ len0 cap0 _ _ hlen hL).mono ?_; rintro e w' ⟨rfl, rfl⟩)
    go_ret
    exact ⟨rfl, Below.refl _ _⟩

end Go.Proofs.Qxb6620882a.fnNaturalFromDigitsPositionalLimbs
