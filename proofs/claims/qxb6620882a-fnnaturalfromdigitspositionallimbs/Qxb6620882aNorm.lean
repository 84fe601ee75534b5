/-
  The walks of (natural).norm, zzSameLimbs, zzPow10, zzAllDigits, the bounds on lengths.
-/
import Derived.Test.Qxb6620882aRows
import Derived.Test.Qxb6620882aNatMath
import Derived.WalkKit
import Derived.WalkSpells
import Derived.WalkLawsBesides
import Derived.BigQuiet
import Derived.Deep.QuietTactic
namespace Go.Proofs.Qxb6620882a
open Go.RowKit

/-- n limbs lie at the head of block g. -/
def Limbs (w : World) (g : Nat) (l : Nat → Nat) (n : Nat) : Prop := ∀ i, i < n → w.cell? ⟨g, i, none⟩ = some (.int .u64 (l i))

theorem ret_int {k : IntKind} {a b : Int} (h : a = b) : Ending.returned (.int k a) = .returned (.int k b) := by rw [h]
theorem ret_slice {ao : Option Addr} {a b c : Nat} (h : a = b) : Ending.returned (.slice ao a c) = .returned (.slice ao b c) := by rw [h]

set_option maxHeartbeats 400000 in
theorem norm_any (g N : Nat) (l : Nat → Nat) (w : World) (hN : N ≤ 2097152) (hl : Limbs w g l N) :
    Calls Try.prog 33 #[.slice (some ⟨g, 0, none⟩) N N] w fun e w' => e = .returned (.slice (some ⟨g, 0, none⟩) (topN l N) N) ∧ w' = w := by
  go_enter Try.func33, Try.ntmps33
  go_wp2
  go_loop [3] (fun i => ∃ n : Nat, n ≤ N ∧ i = .int .i64 n ∧ Hid (topN l N = topN l n)) (fun i => (intOf i).toNat)
  case atStart => exact ⟨N, Nat.le_refl _, rfl, rfl⟩
  case round =>
    obtain ⟨n, hn, rfl, HT⟩ := hrel
    by_cases h0 : 0 < n
    · obtain ⟨m, rfl⟩ : ∃ m, n = m + 1 := ⟨n - 1, by omega⟩
      have hc := hl m (by omega)
      by_cases hb : l m = 0
      · have HT' : Hid (topN l N = topN l m) := by
          show _ = _
          rw [HT.out, topN, if_pos hb]
        rw [hb] at hc
        clear HT hb
        go_wp2
        go_round
        case rel => exact ⟨m, by omega, by go_num, HT'⟩
        case measure => simp [intOf]
      · have HT' : Hid (topN l N = m + 1) := by
          show _ = _
          rw [HT.out, topN, if_neg hb]
        have hb' : 0 < l m := by omega
        clear HT hb
        go_wp2
        go_ret
        exact ⟨ret_slice HT'.out.symm, rfl⟩
    · obtain rfl : n = 0 := by omega
      go_wp2
      go_ret
      exact ⟨ret_slice HT.out.symm, rfl⟩

set_option maxHeartbeats 400000 in
theorem same_any (g1 c1 g2 c2 n : Nat) (l : Nat → Nat) (w : World) (hn : n ≤ 2097152) (h1 : Limbs w g1 l n) (h2 : Limbs w g2 l n) :
    Calls Try.prog 19 #[.slice (some ⟨g1, 0, none⟩) n c1, .slice (some ⟨g2, 0, none⟩) n c2] w fun e w' => e = .returned (.bool true) ∧ ∃ q, w' = w.drewN q := by
  go_enter Try.func19, Try.ntmps19
  go_wp2
  go_loopw [5] (fun i wr => ∃ k : Nat, k ≤ n ∧ i = .int .i64 k ∧ ∃ q, wr = w.drewN q) (fun i _ => n - (intOf i).toNat)
  case atStart => exact ⟨0, Nat.zero_le _, rfl, 0, rfl⟩
  case round =>
    obtain ⟨k, hk, rfl, q, rfl⟩ := hrel
    by_cases hlt : k < n
    · have hc1 := h1 k hlt
      have hc2 := h2 k hlt
      go_wp2
      go_quiet (fail)
      go_wp2
      go_roundw
      case rel => exact ⟨k + 1, by omega, by go_num, _, rfl⟩
      case measure => simp [intOf]; omega
    · go_wp2
      go_ret
      exact ⟨rfl, q, rfl⟩

set_option maxHeartbeats 400000 in
theorem pow_any (e R : Nat) (w : World) (he : e ≤ 5) (HR : Hid (R = 10 ^ e)) :
    Calls Try.prog 31 #[.int .i64 e] w fun x w' => x = .returned (.int .u64 R) ∧ w' = w := by
  go_enter Try.func31, Try.ntmps31
  go_wp2
  go_loop [3, 4] (fun v i => ∃ k : Nat, k ≤ e ∧ i = .int .i64 k ∧ ∃ P : Nat, v = .int .u64 P ∧ P ≤ 100000 ∧ Hid (P = 10 ^ k)) (fun _ i => e - (intOf i).toNat)
  case atStart => exact ⟨0, Nat.zero_le _, rfl, 1, rfl, by omega, rfl⟩
  case round =>
    obtain ⟨k, hk, rfl, P, rfl, hP, HP⟩ := hrel
    by_cases hlt : k < e
    · go_wp2
      go_round
      case rel =>
        refine ⟨k + 1, by omega, by go_num, P * 10, by go_num, ?_, ?_⟩
        · have : (10 : Nat) ^ k ≤ 10 ^ 4 := Nat.pow_le_pow_right (by omega) (by omega)
          rw [HP.out]; omega
        · show _ = _
          rw [HP.out, Nat.pow_succ]
      case measure => simp [intOf]; omega
    · obtain rfl : k = e := by omega
      go_wp2
      go_ret
      exact ⟨ret_int (by rw [HP.out, HR.out]), rfl⟩

/-- L bytes lie where a slice points to (nothing is said of an empty one). -/
def Src (w : World) (ao : Option Addr) (L : Nat) (c : Nat → Nat) : Prop :=
  L = 0 ∨ ∃ b off, ao = some ⟨b, off, none⟩ ∧ ∀ i, i < L → w.cell? ⟨b, off + i, none⟩ = some (.int .u8 (c i))

def Digs (L : Nat) (c : Nat → Nat) : Prop := ∀ i, i < L → 48 ≤ c i ∧ c i ≤ 57

set_option maxHeartbeats 400000 in
theorem digits_yes (ao : Option Addr) (L cap : Nat) (c : Nat → Nat) (w : World) (hL : L ≤ 2097152) (hs : Src w ao L c) (hd : Digs L c) :
    Calls Try.prog 16 #[.slice ao L cap] w fun e w' => e = .returned (.bool true) ∧ w' = w := by
  rcases hs with rfl | ⟨b, off, rfl, hc⟩
  · go_enter Try.func16, Try.ntmps16
    go_wp2
    go_loop [3] (fun i => i = .int .i64 0) (fun _ => 0)
    case atStart => rfl
    case round =>
      subst hrel
      go_wp2
      go_ret
      exact ⟨rfl, rfl⟩
  · go_enter Try.func16, Try.ntmps16
    go_wp2
    go_loop [3] (fun i => ∃ k : Nat, k ≤ L ∧ i = .int .i64 k) (fun i => L - (intOf i).toNat)
    case atStart => exact ⟨0, Nat.zero_le _, rfl⟩
    case round =>
      obtain ⟨k, hk, rfl⟩ := hrel
      by_cases hlt : k < L
      · have h1 := hc k hlt
        have h2 := (hd k hlt).1
        have h3 := (hd k hlt).2
        go_wp2
        go_round
        case rel => exact ⟨k + 1, by omega, by go_num⟩
        case measure => simp [intOf]; omega
      · go_wp2
        go_ret
        exact ⟨rfl, rfl⟩

set_option maxHeartbeats 400000 in
theorem digits_no (ao : Option Addr) (L cap : Nat) (c : Nat → Nat) (w : World) (hL : L ≤ 2097152) (hs : Src w ao L c) (hd : ¬ Digs L c) :
    Calls Try.prog 16 #[.slice ao L cap] w fun e w' => e = .returned (.bool false) ∧ w' = w := by
  rcases hs with rfl | ⟨b, off, rfl, hc⟩
  · exact absurd (fun i hi => absurd hi (Nat.not_lt_zero _)) hd
  · go_enter Try.func16, Try.ntmps16
    go_wp2
    go_loop [3] (fun i => ∃ k : Nat, k ≤ L ∧ i = .int .i64 k ∧ Digs k c) (fun i => L - (intOf i).toNat)
    case atStart => exact ⟨0, Nat.zero_le _, rfl, fun i hi => absurd hi (Nat.not_lt_zero _)⟩
    case round =>
      obtain ⟨k, hk, rfl, hdk⟩ := hrel
      have hlt : k < L := by
        rcases Nat.lt_or_ge k L with h | h
        · exact h
        · exact absurd (by rw [show L = k by omega]; exact hdk) hd
      have h1 := hc k hlt
      by_cases h2 : c k < 48
      · go_wp2
        go_ret
        exact ⟨rfl, rfl⟩
      · by_cases h3 : 57 < c k
        · go_wp2
          go_ret
          exact ⟨rfl, rfl⟩
        · go_wp2
          go_round
          case rel =>
            refine ⟨k + 1, by omega, by go_num, fun i hi => ?_⟩
            rcases Nat.lt_or_ge i k with h | h
            · exact hdk i h
            · obtain rfl : i = k := by omega
              omega
          case measure => simp [intOf]; omega

theorem bytes15_any (ao : Option Addr) (L cap : Nat) (z : Int) (w : World) (hL : L ≤ maxLen) :
    Calls Try.prog 15 #[.slice ao L cap, .int .i64 z] w fun e w' => e = .returned (.bool (decide (L ≤ 1048576))) ∧ w' = w := by
  unfold maxLen at hL
  by_cases h1 : L ≤ 1048576
  all_goals
    go_enter Try.func15, Try.ntmps15
    go_wp2
    go_ret
    exact ⟨by simp [h1], rfl⟩

theorem bytes26_any (ao : Option Addr) (L cap : Nat) (z k : Int) (w : World) (hL : L ≤ maxLen) :
    Calls Try.prog 26 #[.slice ao L cap, .int .i64 z, .int .i64 k] w fun e w' => e = .returned (.bool (decide (L ≤ 1048576))) ∧ w' = w := by
  unfold maxLen at hL
  by_cases h1 : L ≤ 1048576
  all_goals
    go_enter Try.func26, Try.ntmps26
    go_wp2
    go_ret
    exact ⟨by simp [h1], rfl⟩

end Go.Proofs.Qxb6620882a
