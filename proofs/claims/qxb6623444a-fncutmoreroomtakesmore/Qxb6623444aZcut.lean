/-
  The walk of ZZcut.
-/
import Derived.Test.Qxb6623444aCut
namespace Go.Proofs.Qxb6623444a
open Go.RowKit

theorem hide {p : Prop} (h : p) : Hid p := h

set_option maxHeartbeats 400000 in
theorem zcut_of (ma da pa qa ra sa : Option Addr) (ml mc dl dc pn pc qn qc rn rc sn sc : Nat) (R : Int) (w : World)
    (HC : Hid (∀ w, Calls Try.prog 11 #[.agg #[.slice ma ml mc, .slice da dl dc], .int .i64 R] w fun e w' => e = .returned (.tuple #[.agg #[.slice pa pn pc, .slice qa qn qc], .agg #[.slice ra rn rc, .slice sa sn sc]]) ∧ Below w.heap.size w w')) :
    Calls Try.prog 6 #[.slice ma ml mc, .slice da dl dc, .int .i64 R] w fun e w' => e = .returned (.tuple #[.slice pa pn pc, .slice qa qn qc, .slice ra rn rc, .slice sa sn sc]) ∧ Below w.heap.size w w' := by
  go_enter Try.func6, Try.ntmps6
  go_wp2_with fail
  refine (HC.out _).mono ?_
  rintro e w1 ⟨rfl, hb⟩
  go_wp2
  go_quiet (fail)
  go_wp2
  refine bodyPost_ret (v := .tuple #[.slice pa pn pc, .slice qa qn qc, .slice ra rn rc, .slice sa sn sc]) (by simp [results, Try.results6]) rfl ⟨rfl, ?_⟩
  exact below_drewN ((hb.alloc hb.size _).alloc (by have := hb.size; simp; omega) _) _

theorem zcut_none (da : Option Addr) (dl dc R d : Nat) (w : World) (hdc : dl ≤ dc) (hR : R ≤ 9223372036854775807) (hd : Hid (d = min dl R)) :
    Calls Try.prog 6 #[.slice none 0 0, .slice da dl dc, .int .i64 R] w fun e w' => e = .returned (.tuple #[.slice none 0 0, .slice da d d, .slice none 0 0, .slice (cutA da dc d) (dl - d) (dc - d)]) ∧ Below w.heap.size w w' :=
  zcut_of _ _ _ _ _ _ _ _ _ _ _ _ _ _ _ _ _ _ _ _ (hide fun w => cut_none da dl dc R d w hdc hR hd)

theorem zcut_all (x : Addr) (ml mc : Nat) (da : Option Addr) (dl dc R R' d : Nat) (w : World) (hdc : dl ≤ dc) (hmc : ml ≤ mc) (hmm : mc ≤ 9223372036854775807) (hR : R ≤ 9223372036854775807) (HR : Hid (R = R' + 3 + ml)) (hd : Hid (d = min dl R')) :
    Calls Try.prog 6 #[.slice (some x) ml mc, .slice da dl dc, .int .i64 R] w fun e w' => e = .returned (.tuple #[.slice (some x) ml ml, .slice da d d, .slice none 0 0, .slice (cutA da dc d) (dl - d) (dc - d)]) ∧ Below w.heap.size w w' := by
  have e := HR.out
  subst e
  exact zcut_of _ _ _ _ _ _ _ _ _ _ _ _ _ _ _ _ _ _ _ _ (hide fun w => cut_all x ml mc da dl dc R' d w hdc hmc hmm hR hd)

theorem zcut_more (x : Addr) (ml mc m : Nat) (da : Option Addr) (dl dc R : Nat) (w : World) (hdc : dl ≤ dc) (hml : m < ml) (hmc : ml ≤ mc) (hR : R ≤ 9223372036854775807) (HR : Hid (R = m + 3)) :
    Calls Try.prog 6 #[.slice (some x) ml mc, .slice da dl dc, .int .i64 R] w fun e w' => e = .returned (.tuple #[.slice (some x) m m, .slice da 0 0, .slice (some (x.add m)) (ml - m) (mc - m), .slice da dl dc]) ∧ Below w.heap.size w w' := by
  have e := HR.out
  subst e
  exact zcut_of _ _ _ _ _ _ _ _ _ _ _ _ _ _ _ _ _ _ _ _ (hide fun w => cut_more x ml mc m da dl dc w hdc hml hmc hR)

/-- The n bytes at pa are those at wa from off on. -/
def Match (w : World) (pa : Option Addr) (n : Nat) (wa : Option Addr) (off : Nat) : Prop :=
  n = 0 ∨ ∃ b1 o1 b2 o2, pa = some ⟨b1, o1, none⟩ ∧ wa = some ⟨b2, o2, none⟩ ∧ ∀ i, i < n → ∃ v : Nat, w.cell? ⟨b1, o1 + i, none⟩ = some (.int .u8 v) ∧ w.cell? ⟨b2, o2 + (off + i), none⟩ = some (.int .u8 v)

set_option maxHeartbeats 400000 in
theorem match_any (pa wa : Option Addr) (n pc L wc off : Nat) (w : World) (hL : L ≤ 1048576) (ho : off + n ≤ L) (h : Match w pa n wa off) :
    Calls Try.prog 7 #[.slice pa n pc, .slice wa L wc, .int .i64 off] w fun e w' => e = .returned (.bool true) ∧ ∃ q, w' = w.drewN q := by
  rcases h with rfl | ⟨b1, o1, b2, o2, rfl, rfl, hc⟩
  · go_enter Try.func7, Try.ntmps7
    go_wp2
    go_loop [7] (fun i => i = .int .i64 0) (fun _ => 0)
    case atStart => rfl
    case round =>
      subst hrel
      go_wp2
      go_ret
      exact ⟨rfl, 0, rfl⟩
  · go_enter Try.func7, Try.ntmps7
    go_wp2
    go_loopw [7] (fun i wr => ∃ k : Nat, k ≤ n ∧ i = .int .i64 k ∧ ∃ q, wr = w.drewN q) (fun i _ => n - (intOf i).toNat)
    case atStart => exact ⟨0, Nat.zero_le _, rfl, 0, rfl⟩
    case round =>
      obtain ⟨k, hk, rfl, q, rfl⟩ := hrel
      by_cases hlt : k < n
      · obtain ⟨v, h1, h2⟩ := hc k hlt
        go_wp2
        go_quiet (fail)
        go_wp2
        go_roundw
        case rel => exact ⟨k + 1, by omega, by go_num, _, rfl⟩
        case measure => simp [intOf]; omega
      · go_wp2
        go_ret
        exact ⟨rfl, q, rfl⟩

theorem cost_none (da : Option Addr) (dl dc : Nat) (w : World) :
    Calls Try.prog 8 #[.slice none 0 0, .slice da dl dc] w fun e w' => e = .returned (.int .i64 dl) ∧ w' = w := by
  go_enter Try.func8, Try.ntmps8
  go_wp2
  go_ret
  exact ⟨rfl, rfl⟩

theorem cost_some (x : Addr) (ml mc : Nat) (da : Option Addr) (dl dc : Nat) (w : World) (hm : ml ≤ 1048576) (hd : dl ≤ 1048576) :
    Calls Try.prog 8 #[.slice (some x) ml mc, .slice da dl dc] w fun e w' => e = .returned (.int .i64 (dl + (3 + ml))) ∧ w' = w := by
  go_enter Try.func8, Try.ntmps8
  go_wp2
  go_ret
  exact ⟨rfl, rfl⟩

theorem bytes5_any (ma da : Option Addr) (ml mc dl dc : Nat) (r : Int) (w : World) (hm : ml ≤ maxLen) (hd : dl ≤ maxLen) :
    Calls Try.prog 5 #[.slice ma ml mc, .slice da dl dc, .int .i64 r] w fun e w' => e = .returned (.bool (decide (ml + dl ≤ 1048576))) ∧ w' = w := by
  unfold maxLen at hm hd
  by_cases h1 : ml ≤ 1048576
  · by_cases h2 : dl ≤ 1048576
    · by_cases h3 : ml + dl ≤ 1048576
      all_goals
        go_enter Try.func5, Try.ntmps5
        go_wp2
        go_ret
        exact ⟨by simp [h3], rfl⟩
    · have h3 : ¬ ml + dl ≤ 1048576 := by omega
      go_enter Try.func5, Try.ntmps5
      go_wp2
      go_ret
      exact ⟨by simp [h3], rfl⟩
  · have h3 : ¬ ml + dl ≤ 1048576 := by omega
    go_enter Try.func5, Try.ntmps5
    go_wp2
    go_ret
    exact ⟨by simp [h3], rfl⟩

end Go.Proofs.Qxb6623444a
