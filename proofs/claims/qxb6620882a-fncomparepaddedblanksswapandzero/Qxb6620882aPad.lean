/-
  The walks of zzPadBlanks, zzBlanks.
-/
import Derived.Test.Qxb6620882aCmp
import Derived.Test.Qxb6620882aFill
namespace Go.Proofs.Qxb6620882a
open Go.RowKit

theorem Try.info5 : (Try.prog.info? 5).map (fun i => (i.zero, i.size, i.bytes)) = some (some (.int .u8 0), 1, 1) := by kernel_rfl

/-- A row of bytes that the call made, as a string. -/
theorem conv_row {w : World} {B n : Nat} {f : Nat → Nat} (h : w.ownsRow B 5 1 (.slice (some ⟨B, 0, none⟩) n n) n (upTo (fun i => Value.int .u8 (f i)) (Value.int .u8 0) n n)) :
    (convert 28 9 (.slice (some ⟨B, 0, none⟩) n n)).run Try.prog w = .ok (.string (strOf f n)) w := by
  refine run_convert_bytes_arg (P := Try.prog) w 28 5 Try.underlying28 Try.underlying5 B 0 n n _ (by simp) (fun i hi => ?_) 9 Try.underlying9
  rw [Nat.zero_add, h.cellAt i (by omega), upTo_get _ _ _ _ _ hi]
  simp [hi]

set_option maxHeartbeats 400000 in
theorem padb_any (s : ByteArray) (n : Nat) (w : World) (hs : s.size ≤ 2097152) (hn : n ≤ 2097152) :
    Calls Try.prog 10 #[.string s, .int .i64 n] w fun e w' => e = .returned (.string (strOf (pad s) n)) ∧ Below w.heap.size w w' := by
  obtain ⟨i0, hi, hz0, hz1, hz2⟩ := info_parts Try.info5
  go_enter Try.func10, Try.ntmps10
  go_wp2_with (at_make; refine wpList_make_full _ rfl _ _ 28 rfl w.heap.size 5 i0 _ 1 Try.underlying28 hi hz0 hz1 _ _ _ _ n rfl rfl rfl rfl (by rw [hz2]; omega) (by unfold maxLen; omega) (Nat.le_refl _) ?_)
  intro w1 hown hgrow
  have hown1 : w1.ownsRow w.heap.size 5 1 (.slice (some ⟨w.heap.size, 0, none⟩) n n) n (upTo (fun i => Value.int .u8 (pad s i)) (Value.int .u8 0) n 0) := by
    rw [← upTo_zero, ← toList_madeCells_one]; simpa using hown
  have hb1 : Below w.heap.size w w1 := (Below.refl _ _).grown hgrow (Nat.le_refl _) (by simp)
  clear hown hgrow
  go_wp2
  go_loopw [6] (fun i wr => ∃ k : Nat, k ≤ n ∧ i = .int .i64 k ∧ wr.ownsRow w.heap.size 5 1 (.slice (some ⟨w.heap.size, 0, none⟩) n n) n (upTo (fun i => Value.int .u8 (pad s i)) (Value.int .u8 0) n k) ∧ Below w.heap.size w wr) (fun i _ => n - (intOf i).toNat)
  case atStart => exact ⟨0, Nat.zero_le _, rfl, hown1, hb1⟩
  case round =>
    clear hown1 hb1
    obtain ⟨k, hk, rfl, hown, hb⟩ := hrel
    by_cases hlt : k < n
    · have hst := hown.stored k (.int .u8 (pad s k))
      rw [upTo_set (fun i => Value.int .u8 (pad s i))] at hst
      have hc : wr.cell? ⟨w.heap.size, k, none⟩ = some (.int .u8 0) := by
        rw [hown.cellAt k (by omega), upTo_get _ _ _ _ _ hlt]; simp
      have hf := hown.frozenAt k
      have R : (wr.setCell ⟨w.heap.size, k, none⟩ (.int .u8 (pad s k))).ownsRow w.heap.size 5 1 (.slice (some ⟨w.heap.size, 0, none⟩) n n) n (upTo (fun i => Value.int .u8 (pad s i)) (Value.int .u8 0) n (k + 1)) ∧ Below w.heap.size w (wr.setCell ⟨w.heap.size, k, none⟩ (.int .u8 (pad s k))) := ⟨hst.1, hb.setCell (Nat.le_refl _) _⟩
      clear hst hown hb
      by_cases hs1 : k < s.size
      · have hp := pad_in hs1
        have HR : Hid _ := R
        clear R
        rw [hp] at HR
        clear hp
        go_wp2
        go_roundw
        case rel => exact ⟨k + 1, by omega, by go_num, HR.out.1, HR.out.2⟩
        case measure => simp [intOf]; omega
      · have hp := pad_out hs1
        have HR : Hid _ := R
        clear R
        rw [hp] at HR
        clear hp
        go_wp2
        go_roundw
        case rel => exact ⟨k + 1, by omega, by go_num, HR.out.1, HR.out.2⟩
        case measure => simp [intOf]; omega
    · have e : k = n := by omega
      rw [e] at hown
      have hcv := conv_row hown
      clear hown e
      go_wp2
      go_ret
      exact ⟨rfl, hb⟩

set_option maxHeartbeats 400000 in
theorem blanks_any (n : Nat) (w : World) (hn : n ≤ 2097152) :
    Calls Try.prog 13 #[.int .i64 n] w fun e w' => e = .returned (.string (strOf (fun _ => 32) n)) ∧ Below w.heap.size w w' := by
  obtain ⟨i0, hi, hz0, hz1, hz2⟩ := info_parts Try.info5
  go_enter Try.func13, Try.ntmps13
  go_wp2_with (at_make; refine wpList_make_full _ rfl _ _ 28 rfl w.heap.size 5 i0 _ 1 Try.underlying28 hi hz0 hz1 _ _ _ _ n rfl rfl rfl rfl (by rw [hz2]; omega) (by unfold maxLen; omega) (Nat.le_refl _) ?_)
  intro w1 hown hgrow
  have hown1 : w1.ownsRow w.heap.size 5 1 (.slice (some ⟨w.heap.size, 0, none⟩) n n) n (upTo (fun _ => Value.int .u8 32) (Value.int .u8 0) n 0) := by
    rw [← upTo_zero, ← toList_madeCells_one]; simpa using hown
  have hb1 : Below w.heap.size w w1 := (Below.refl _ _).grown hgrow (Nat.le_refl _) (by simp)
  clear hown hgrow
  go_wp2
  go_loopw [4] (fun i wr => ∃ k : Nat, k ≤ n ∧ i = .int .i64 k ∧ wr.ownsRow w.heap.size 5 1 (.slice (some ⟨w.heap.size, 0, none⟩) n n) n (upTo (fun _ => Value.int .u8 32) (Value.int .u8 0) n k) ∧ Below w.heap.size w wr) (fun i _ => n - (intOf i).toNat)
  case atStart => exact ⟨0, Nat.zero_le _, rfl, hown1, hb1⟩
  case round =>
    clear hown1 hb1
    obtain ⟨k, hk, rfl, hown, hb⟩ := hrel
    by_cases hlt : k < n
    · have hst := hown.stored k (.int .u8 32)
      rw [upTo_set (fun _ => Value.int .u8 32)] at hst
      have hc : wr.cell? ⟨w.heap.size, k, none⟩ = some (.int .u8 0) := by
        rw [hown.cellAt k (by omega), upTo_get _ _ _ _ _ hlt]; simp
      have hf := hown.frozenAt k
      have R : (wr.setCell ⟨w.heap.size, k, none⟩ (.int .u8 32)).ownsRow w.heap.size 5 1 (.slice (some ⟨w.heap.size, 0, none⟩) n n) n (upTo (fun _ => Value.int .u8 32) (Value.int .u8 0) n (k + 1)) ∧ Below w.heap.size w (wr.setCell ⟨w.heap.size, k, none⟩ (.int .u8 32)) := ⟨hst.1, hb.setCell (Nat.le_refl _) _⟩
      clear hst hown hb
      have HR : Hid _ := R
      clear R
      go_wp2
      go_roundw
      case rel => exact ⟨k + 1, by omega, by go_num, HR.out.1, HR.out.2⟩
      case measure => simp [intOf]; omega
    · have e : k = n := by omega
      rw [e] at hown
      have hcv := conv_row (f := fun _ => 32) hown
      clear hown e
      go_wp2
      go_ret
      exact ⟨rfl, hb⟩
end Go.Proofs.Qxb6620882a
