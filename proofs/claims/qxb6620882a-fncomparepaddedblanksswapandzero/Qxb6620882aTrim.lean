/-
  The walk of zzTrimBlanks.
-/
import Derived.Test.Qxb6620882aPad
import Derived.Test.Qxb6620882aTrimMath
namespace Go.Proofs.Qxb6620882a
open Go.RowKit

theorem ret_str {a b : ByteArray} (h : a = b) : Ending.returned (.string a) = .returned (.string b) := by rw [h]

theorem cut_none (s : ByteArray) : ByteArray.empty = s.extract 0 (trimN s 0) := by simp [trimN]

set_option maxHeartbeats 400000 in
theorem trim_any (s : ByteArray) (w : World) (hs : s.size ≤ 2097152) :
    Calls Try.prog 14 #[.string s] w fun e w' => e = .returned (.string (s.extract 0 (trimN s s.size))) ∧ w' = w := by
  go_enter Try.func14, Try.ntmps14
  go_wp2
  go_loop [3] (fun i => ∃ n : Nat, n ≤ s.size ∧ i = .int .i64 n ∧ Hid (trimN s s.size = trimN s n)) (fun i => (intOf i).toNat)
  case atStart => exact ⟨s.size, Nat.le_refl _, rfl, rfl⟩
  case round =>
    obtain ⟨n, hn, rfl, HT⟩ := hrel
    by_cases h0 : 0 < n
    · obtain ⟨m, rfl⟩ : ∃ m, n = m + 1 := ⟨n - 1, by omega⟩
      have hm : m < s.size := by omega
      have hp := pad_in hm
      by_cases hb : s[m].toNat = 32
      · have HT' : Hid (trimN s s.size = trimN s m) := by
          show _ = _
          rw [HT.out, trimN, if_pos (hp.trans hb)]
        clear HT hp
        go_wp2
        go_round
        case rel => exact ⟨m, by omega, by go_num, HT'⟩
        case measure => simp [intOf]
      · have HT' : Hid (trimN s s.size = m + 1) := by
          show _ = _
          rw [HT.out, trimN, if_neg (by rw [hp]; exact hb)]
        clear HT hp
        go_wp2
        go_ret
        exact ⟨by rw [HT'.out]; rfl, rfl⟩
    · obtain rfl : n = 0 := by omega
      go_wp2
      go_ret
      exact ⟨ret_str (by rw [HT.out]; exact cut_none s), rfl⟩


theorem bytes12_yes (x y : ByteArray) (n : Int) (w : World) (hx : x.size ≤ maxLen) (hy : y.size ≤ maxLen) (h : x.size + y.size ≤ 1048576) :
    Calls Try.prog 12 #[.string x, .string y, .int .i64 n] w fun e w' => e = .returned (.bool true) ∧ w' = w := by
  have := bytes12_any x y n w hx hy
  simpa [h] using this
theorem bytes12_no (x y : ByteArray) (n : Int) (w : World) (hx : x.size ≤ maxLen) (hy : y.size ≤ maxLen) (h : ¬ x.size + y.size ≤ 1048576) :
    Calls Try.prog 12 #[.string x, .string y, .int .i64 n] w fun e w' => e = .returned (.bool false) ∧ w' = w := by
  have := bytes12_any x y n w hx hy
  simpa [h] using this

end Go.Proofs.Qxb6620882a
