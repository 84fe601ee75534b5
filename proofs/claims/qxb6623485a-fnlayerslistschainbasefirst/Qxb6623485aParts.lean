/-
  The walks of ZZGraph, ZZLayer, slices.Reverse.
-/
import Derived.Test.Qxb6623485aRows
import Derived.WalkKit
import Derived.WalkSpells
import Derived.WalkLawsBesides
import Derived.BigQuiet
import Derived.Deep.QuietTactic
namespace Go.Proofs.Qxb6623485a
open Go.RowKit

theorem hide {p : Prop} (h : p) : Hid p := h

/-- A node: its layer number, what lies below it. -/
def Node (w : World) (b : Nat) (id : Int) (base : Option Addr) : Prop := w.cell? ⟨b, 4, none⟩ = some (.int .i64 id) ∧ w.cell? ⟨b, 5, none⟩ = some (.pointer base)

set_option maxHeartbeats 400000 in
theorem graph_any (id : Int) (base : Option Addr) (w : World) :
    Calls Try.prog 5 #[.int .i64 id, .pointer base] w fun e w' => e = .returned (.pointer (some ⟨w.heap.size, 0, none⟩)) ∧ w'.heap.size = w.heap.size + 1 ∧ Node w' w.heap.size id base ∧ Below w.heap.size w w' := by
  go_enter Try.func5, Try.ntmps5
  go_wp2
  go_ret
  refine ⟨rfl, by simp, ⟨?_, ?_⟩, (Below.refl _ _).alloc (Nat.le_refl _) _⟩
  · simp
  · simp

theorem layer_any (b : Nat) (id : Int) (base : Option Addr) (w : World) (h : Node w b id base) :
    Calls Try.prog 7 #[.pointer (some ⟨b, 0, none⟩)] w fun e w' => e = .returned (.int .i64 id) ∧ w' = w := by
  have hc := h.1
  go_enter Try.func7, Try.ntmps7
  go_wp2
  go_ret
  exact ⟨rfl, rfl⟩

/-- n pointers. -/
def ptrs (p : Nat → Option Addr) (n : Nat) : List Value := (List.range n).map fun t => Value.pointer (p t)
/-- The same once the first i and the last i have changed places. -/
def half (p : Nat → Option Addr) (n i : Nat) : List Value := (List.range n).map fun t => Value.pointer (if t < i ∨ n ≤ t + i then p (n - 1 - t) else p t)

theorem half_len (p : Nat → Option Addr) (n i : Nat) : (half p n i).length = n := by simp [half]
theorem half_get (p : Nat → Option Addr) (n i t : Nat) (h : t < n) : (half p n i)[t]? = some (Value.pointer (if t < i ∨ n ≤ t + i then p (n - 1 - t) else p t)) := by simp [half, h]
theorem half_zero (p : Nat → Option Addr) (n : Nat) : ptrs p n = half p n 0 := by
  apply List.map_congr_left
  intro t ht
  have : t < n := by simpa using ht
  rw [if_neg (by omega)]
theorem half_done (p : Nat → Option Addr) (n i : Nat) (h : n ≤ 2 * i + 1) : half p n i = ptrs (fun t => p (n - 1 - t)) n := by
  apply List.map_congr_left
  intro t ht
  have htn : t < n := by simpa using ht
  by_cases c : t < i ∨ n ≤ t + i
  · rw [if_pos c]
  · rw [if_neg c]
    congr 2
    omega
theorem half_step (p : Nat → Option Addr) (n i j : Nat) (hij : i < j) (hn : i + j + 1 = n) : ((half p n i).set i (Value.pointer (p j))).set j (Value.pointer (p i)) = half p n (i + 1) := by
  apply List.ext_getElem?
  intro t
  by_cases ht : t < n
  · rw [half_get _ _ _ _ ht, List.getElem?_set, List.getElem?_set, half_get _ _ _ _ ht]
    simp only [List.length_set, half_len]
    by_cases e1 : j = t
    · subst e1
      rw [if_pos rfl, if_pos ht, if_pos (by omega), show n - 1 - j = i by omega]
    · rw [if_neg e1]
      by_cases e2 : i = t
      · subst e2
        rw [if_pos rfl, if_pos ht, if_pos (by omega), show n - 1 - i = j by omega]
      · rw [if_neg e2]
        by_cases c : t < i ∨ n ≤ t + i
        · rw [if_pos c, if_pos (by omega)]
        · rw [if_neg c, if_neg (by omega)]
  · rw [List.getElem?_eq_none (by simp [half_len]; omega), List.getElem?_eq_none (by simp [half_len]; omega)]

set_option maxHeartbeats 1000000 in
theorem reverse_any (g n cap B : Nat) (p : Nat → Option Addr) (w : World) (hn : n ≤ 4096) (hown : w.ownsRow B 25 1 (.slice (some ⟨g, 0, none⟩) n cap) n (ptrs p n)) (hB : B ≤ g) :
    Calls Try.prog 8 #[.slice (some ⟨g, 0, none⟩) n cap] w fun e w' => e = .returned (.tuple #[]) ∧ w'.ownsRow B 25 1 (.slice (some ⟨g, 0, none⟩) n cap) n (ptrs (fun t => p (n - 1 - t)) n) ∧ Below B w w' := by
  go_enter Try.func8, Try.ntmps8
  go_wp2
  go_loopw [2, 3] (fun vi vj wr => ∃ (i : Nat) (j : Int), vi = .int .i64 i ∧ vj = .int .i64 j ∧ i + j ≤ n - 1 ∧ (n : Int) - 1 ≤ i + j ∧ -1 ≤ j ∧ i ≤ 4096 ∧ wr.ownsRow B 25 1 (.slice (some ⟨g, 0, none⟩) n cap) n (half p n i) ∧ Below B w wr) (fun _ vj _ => (intOf vj).toNat)
  case atStart => exact ⟨0, _, rfl, rfl, by omega, by omega, by omega, by omega, by rw [← half_zero]; exact hown, Below.refl _ _⟩
  case round =>
    clear hown
    obtain ⟨i, j, rfl, rfl, hij1, hij2, hj, hi, hown, hb⟩ := hrel
    by_cases hlt : (i : Int) < j
    · obtain ⟨j, rfl⟩ : ∃ k : Nat, j = k := ⟨j.toNat, by omega⟩
      have hjn : j < n := by omega
      have hci : wr.cell? ⟨g, i, none⟩ = some (.pointer (p i)) := by
        rw [hown.cellAt i (by omega), half_get _ _ _ _ (by omega), if_neg (by omega)]
      have hcj : wr.cell? ⟨g, j, none⟩ = some (.pointer (p j)) := by
        rw [hown.cellAt j (by omega), half_get _ _ _ _ (by omega), if_neg (by omega)]
      have hfi := hown.frozenAt i
      have hfj := hown.frozenAt j
      have b1 : (i : Int) < (n : Int) := by omega
      have b2 : (j : Int) < (n : Int) := by omega
      have b3 : 0 ≤ (i : Int) := by omega
      have b4 : 0 ≤ (j : Int) := by omega
      have hne : i ≠ j := by omega
      have hst := ((hown.stored i (.pointer (p j))).1.stored j (.pointer (p i))).1
      rw [half_step p n i j (by omega) (by omega)] at hst
      have HR := hide (And.intro hst ((hb.setCell (p := ⟨g, i, none⟩) hB (.pointer (p j))).setCell (p := ⟨g, j, none⟩) hB (.pointer (p i))))
      clear hst hown hb
      go_wp2
      go_region
      all_goals
        go_wp2
        go_roundw
        case rel => exact ⟨i + 1, (j : Int) - 1, by go_num, rfl, by omega, by omega, by omega, by omega, HR.out.1, HR.out.2.drew⟩
        case measure => simp [intOf]; omega
    · rw [half_done p n i (by omega)] at hown
      go_wp2
      go_end0
      exact ⟨rfl, hown, hb⟩
end Go.Proofs.Qxb6623485a
