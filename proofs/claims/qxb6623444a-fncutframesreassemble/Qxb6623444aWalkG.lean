/-
  The walk of FnCutFramesReassemble, every input.
-/
import Derived.Test.Qxb6623444aWalkF
namespace Go.Proofs.Qxb6623444a.fnCutFramesReassemble
open Go.RowKit

/-- WHAT THE WALK IS TOLD OF A SLICE OF INTEGERS THAT CAME IN: it is nil; or it leads to a row of 'cap' cells, the numbers 'zs' (the first 'len' are its elements, the rest its spare room), each fitting its kind. -/
def IsRow (k : IntKind) (w : World) (a : Option Addr) (len cap : Nat) (zs : List Int) : Prop :=
  (a = none ∧ len = 0 ∧ cap = 0 ∧ zs = []) ∨
  ∃ x, a = some x ∧ len ≤ cap ∧ cap ≤ maxLen ∧ zs.length = cap ∧ (∀ i, i < zs.length → w.cell? (x.add i) = some (.int k (zs.getD i 0))) ∧ ∀ n ∈ zs, (Lit.int k n).wf = true

theorem came_of {w : World} {a : Option Addr} {len cap : Nat} {zs : List Int} (h : IsRow .u8 w a len cap zs) : Came w a len cap := by
  rcases h with ⟨rfl, rfl, rfl, _⟩ | ⟨x, rfl, h1, h2, h3, h4, h5⟩
  · exact came_nil w
  · exact came_row h1 h2 h3 h4 h5

theorem max_len {n : Nat} (h : n ≤ 9223372036854775807) : n ≤ maxLen := by unfold maxLen; omega

set_option maxRecDepth 100000 in
set_option maxHeartbeats 1000000 in
theorem walk (a0 : Option Addr) (len0 cap0 : Nat) (z0 : List Int) (a1 : Option Addr) (len1 cap1 : Nat) (z1 : List Int) (a2 : Int) (w : World) (w0 : IsRow .u8 w a0 len0 cap0 z0) (w1 : IsRow .u8 w a1 len1 cap1 z1) (w2 : (Lit.int .i64 a2).wf = true) :
    Calls Try.prog 3 #[.slice a0 len0 cap0, .slice a1 len1 cap1, .int .i64 a2] w fun e w' => e = .returned (.bool true) ∧ Below w.heap.size w w' := by
  have c0 := came_of w0
  have c1 := came_of w1
  clear w0 w1
  have l0 := c0.len
  have t0 := c0.top
  have l1 := c1.len
  have t1 := c1.top
  have hw2 := bounds_i64 w2
  have keq := eq_nil
  by_cases hS : len0 + len1 ≤ 1048576
  · have HY := hide (fun w => bytes5_yes a0 a1 len0 cap0 len1 cap1 a2 w (max_len (by omega)) (max_len (by omega)) hS)
    by_cases hL : 524288 < len0
    · go_enter Try.func3, Try.ntmps3
      go_wp2_with (go_at_call 5; refine (HY.out _).mono ?_; rintro e w' ⟨rfl, rfl⟩)
      go_ret
      exact ⟨rfl, Below.refl _ _⟩
    · by_cases hM : 524288 < len1
      · go_enter Try.func3, Try.ntmps3
        go_wp2_with (go_at_call 5; refine (HY.out _).mono ?_; rintro e w' ⟨rfl, rfl⟩)
        go_ret
        exact ⟨rfl, Below.refl _ _⟩
      · by_cases hneg : a2 < 0
        · go_enter Try.func3, Try.ntmps3
          go_wp2_with (go_at_call 5; refine (HY.out _).mono ?_; rintro e w' ⟨rfl, rfl⟩)
          go_ret
          exact ⟨rfl, Below.refl _ _⟩
        · obtain ⟨R, rfl⟩ : ∃ R : Nat, a2 = R := ⟨a2.toNat, by omega⟩
          cases a0 with
          | none =>
            obtain ⟨rfl, rfl⟩ := c0.nil rfl
            by_cases hM0 : 0 < len1
            · by_cases hR0 : R = 0
              · subst hR0
                go_enter Try.func3, Try.ntmps3
                go_wp2_with (go_at_call 5; refine (HY.out _).mono ?_; rintro e w' ⟨rfl, rfl⟩)
                go_ret
                exact ⟨rfl, Below.refl _ _⟩
              · exact reas_none a1 len1 cap1 R w c1 (by omega) (by omega) (fun _ => by omega)
            · exact reas_none a1 len1 cap1 R w c1 (by omega) (by omega) (fun h => absurd h hM0)
          | some x =>
            by_cases hR3 : R < 3
            · go_enter Try.func3, Try.ntmps3
              go_wp2_with (go_at_call 5; refine (HY.out _).mono ?_; rintro e w' ⟨rfl, rfl⟩)
              go_ret
              exact ⟨rfl, Below.refl _ _⟩
            · by_cases hL0 : 0 < len0
              · by_cases hR4 : R = 3
                · subst hR4
                  go_enter Try.func3, Try.ntmps3
                  go_wp2_with (go_at_call 5; refine (HY.out _).mono ?_; rintro e w' ⟨rfl, rfl⟩)
                  go_ret
                  exact ⟨rfl, Below.refl _ _⟩
                · exact reas_some x len0 cap0 a1 len1 cap1 R w c0 c1 (by omega) (by omega) (by omega) (by omega) (fun _ => by omega) (.inr ⟨hL0, by simp; omega⟩)
              · exact reas_some x len0 cap0 a1 len1 cap1 R w c0 c1 (by omega) (by omega) (by omega) (by omega) (fun h => absurd h hL0) (.inl (by omega))
  · go_enter Try.func3, Try.ntmps3
    go_wp2_with (go_at_call 5; refine (bytes5_no a0 a1 len0 cap0 len1 cap1 a2 _ (max_len (by omega)) (max_len (by omega)) hS).mono ?_; rintro e w' ⟨rfl, rfl⟩)
    go_ret
    exact ⟨rfl, Below.refl _ _⟩

end Go.Proofs.Qxb6623444a.fnCutFramesReassemble
