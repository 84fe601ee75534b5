/-
  The walk of cut and its shim.
-/
import Derived.Test.Qxb6623444aRows
import Derived.WalkKit
import Derived.WalkSpells
import Derived.WalkLawsBesides
import Derived.BigQuiet
import Derived.Deep.QuietTactic
namespace Go.Proofs.Qxb6623444a
open Go.RowKit

/-- Where 'x[d:]' begins. -/
def cutA (a : Option Addr) (cap d : Nat) : Option Addr := if cap = d then a else a.map (·.add d)

theorem map_add0 (a : Option Addr) : Option.map (fun x => x.add 0) a = a := by cases a <;> simp [Addr.add]

theorem below3 (w : World) (a b c : Obj) (q : Nat) : Below w.heap.size w ((((w.alloc a).alloc b).alloc c).drewN q) :=
  below_drewN ((((Below.refl _ _).alloc (Nat.le_refl _) _).alloc (by simp) _).alloc (by simp; omega) _) q

set_option maxHeartbeats 400000 in
theorem cut_none (da : Option Addr) (dl dc R d : Nat) (w : World) (hdc : dl ≤ dc) (hR : R ≤ 9223372036854775807) (hd : Hid (d = min dl R)) :
    Calls Try.prog 11 #[.agg #[.slice none 0 0, .slice da dl dc], .int .i64 R] w fun e w' => e = .returned (.tuple #[.agg #[.slice none 0 0, .slice da d d], .agg #[.slice none 0 0, .slice (cutA da dc d) (dl - d) (dc - d)]]) ∧ Below w.heap.size w w' := by
  by_cases hm : dl ≤ R
  · obtain rfl : d = dl := by have := hd.out; omega
    clear hd
    have b1 : (d : Int) ≤ (dc : Int) := by omega
    have b0 : 0 ≤ (d : Int) := by omega
    go_enter Try.func11, Try.ntmps11
    go_wp2
    go_region
    all_goals (try go_wp2)
    all_goals go_region
    all_goals (try go_wp2)
    all_goals refine bodyPost_ret (v := .tuple #[.agg #[.slice none 0 0, .slice da d d], .agg #[.slice none 0 0, .slice (cutA da dc d) (d - d) (dc - d)]]) (by simp [results, Try.results11, go_sem, cutA, *]) rfl ⟨rfl, below3 _ _ _ _ 2⟩
  · obtain rfl : d = R := by have := hd.out; omega
    clear hd
    have b1 : (d : Int) ≤ (dc : Int) := by omega
    have b0 : 0 ≤ (d : Int) := by omega
    have b2 : (d : Int) ≤ (dl : Int) := by omega
    have hne : ¬ dc = d := by omega
    go_enter Try.func11, Try.ntmps11
    go_wp2
    go_region
    all_goals (try go_wp2)
    all_goals go_region
    all_goals (try go_wp2)
    all_goals refine bodyPost_ret (v := .tuple #[.agg #[.slice none 0 0, .slice da d d], .agg #[.slice none 0 0, .slice (cutA da dc d) (dl - d) (dc - d)]]) (by simp [results, Try.results11, go_sem, cutA, *]) rfl ⟨rfl, below3 _ _ _ _ 2⟩

set_option maxHeartbeats 400000 in
theorem cut_all (x : Addr) (ml mc : Nat) (da : Option Addr) (dl dc R d : Nat) (w : World) (hdc : dl ≤ dc) (hmc : ml ≤ mc) (hmm : mc ≤ 9223372036854775807) (hR : R + 3 + ml ≤ 9223372036854775807) (hd : Hid (d = min dl R)) :
    Calls Try.prog 11 #[.agg #[.slice (some x) ml mc, .slice da dl dc], .int .i64 ((R + 3 + ml : Nat) : Int)] w fun e w' => e = .returned (.tuple #[.agg #[.slice (some x) ml ml, .slice da d d], .agg #[.slice none 0 0, .slice (cutA da dc d) (dl - d) (dc - d)]]) ∧ Below w.heap.size w w' := by
  by_cases hm : dl ≤ R
  · obtain rfl : d = dl := by have := hd.out; omega
    clear hd
    have c1 : (ml : Int) ≤ (mc : Int) := by omega
    have b1 : (d : Int) ≤ (dc : Int) := by omega
    have b0 : 0 ≤ (d : Int) := by omega
    go_enter Try.func11, Try.ntmps11
    go_wp2
    go_region
    all_goals (try go_wp2)
    all_goals go_region
    all_goals (try go_wp2)
    all_goals refine bodyPost_ret (v := .tuple #[.agg #[.slice (some x) ml ml, .slice da d d], .agg #[.slice none 0 0, .slice (cutA da dc d) (d - d) (dc - d)]]) (by simp [results, Try.results11, go_sem, cutA, *]) rfl ⟨rfl, below3 _ _ _ _ 2⟩
  · obtain rfl : d = R := by have := hd.out; omega
    clear hd
    have c1 : (ml : Int) ≤ (mc : Int) := by omega
    have b1 : (d : Int) ≤ (dc : Int) := by omega
    have b0 : 0 ≤ (d : Int) := by omega
    have b2 : (d : Int) ≤ (dl : Int) := by omega
    have hne : ¬ dc = d := by omega
    have ed : d + 3 + ml - (3 + ml) = d := by omega
    go_enter Try.func11, Try.ntmps11
    go_wp2
    go_region
    all_goals (try go_wp2)
    all_goals go_region
    all_goals (try go_wp2)
    all_goals refine bodyPost_ret (v := .tuple #[.agg #[.slice (some x) ml ml, .slice da d d], .agg #[.slice none 0 0, .slice (cutA da dc d) (dl - d) (dc - d)]]) (by simp [results, Try.results11, go_sem, cutA, *]) rfl ⟨rfl, below3 _ _ _ _ 2⟩

set_option maxHeartbeats 400000 in
theorem cut_more (x : Addr) (ml mc m : Nat) (da : Option Addr) (dl dc : Nat) (w : World) (hdc : dl ≤ dc) (hml : m < ml) (hmc : ml ≤ mc) (hR : m + 3 ≤ 9223372036854775807) :
    Calls Try.prog 11 #[.agg #[.slice (some x) ml mc, .slice da dl dc], .int .i64 ((m + 3 : Nat) : Int)] w fun e w' => e = .returned (.tuple #[.agg #[.slice (some x) m m, .slice da 0 0], .agg #[.slice (some (x.add m)) (ml - m) (mc - m), .slice da dl dc]]) ∧ Below w.heap.size w w' := by
  have b1 : (m : Int) ≤ (mc : Int) := by omega
  have b0 : 0 ≤ (m : Int) := by omega
  have b2 : (m : Int) ≤ (ml : Int) := by omega
  have hne : ¬ mc = m := by omega
  by_cases hdl : 0 < dl
  · go_enter Try.func11, Try.ntmps11
    go_wp2
    go_region
    all_goals (try go_wp2)
    all_goals go_region
    all_goals (try go_wp2)
    all_goals refine bodyPost_ret (v := .tuple #[.agg #[.slice (some x) m m, .slice da 0 0], .agg #[.slice (some (x.add m)) (ml - m) (mc - m), .slice da dl dc]]) (by have em : m + 3 - (3 + m) = 0 := (by omega); simp [results, Try.results11, go_sem, *]) rfl ⟨rfl, below3 _ _ _ _ 2⟩
  · obtain rfl : dl = 0 := by omega
    go_enter Try.func11, Try.ntmps11
    go_wp2
    go_region
    all_goals (try go_wp2)
    all_goals go_region
    all_goals (try go_wp2)
    all_goals refine bodyPost_ret (v := .tuple #[.agg #[.slice (some x) m m, .slice da 0 0], .agg #[.slice (some (x.add m)) (ml - m) (mc - m), .slice da 0 dc]]) (by have em : m + 3 - (3 + m) = 0 := (by omega); simp [results, Try.results11, go_sem, *]) rfl ⟨rfl, below3 _ _ _ _ 2⟩

end Go.Proofs.Qxb6623444a
