/-
  The walk of FnNaturalFromDigitsZerosAndLeadingZerosAgree, every input.
-/
import Derived.Test.Qxb6620882aWalkC
namespace Go.Proofs.Qxb6620882a.fnNaturalFromDigitsZerosAndLeadingZerosAgree
open Go.RowKit

/-- WHAT THE WALK IS TOLD OF A SLICE OF INTEGERS THAT CAME IN: it is nil; or it leads to a row of 'cap' cells, the numbers 'zs' (the first 'len' are its elements, the rest its spare room), each fitting its kind. -/
def IsRow (k : IntKind) (w : World) (a : Option Addr) (len cap : Nat) (zs : List Int) : Prop :=
  (a = none ∧ len = 0 ∧ cap = 0 ∧ zs = []) ∨
  ∃ x, a = some x ∧ len ≤ cap ∧ cap ≤ maxLen ∧ zs.length = cap ∧ (∀ i, i < zs.length → w.cell? (x.add i) = some (.int k (zs.getD i 0))) ∧ ∀ n ∈ zs, (Lit.int k n).wf = true

theorem came_of {w : World} {a : Option Addr} {len cap : Nat} {zs : List Int} (h : IsRow .u8 w a len cap zs) : ∃ c, Came w a len cap c := by
  rcases h with ⟨rfl, rfl, rfl, _⟩ | ⟨x, rfl, h1, h2, h3, h4, h5⟩
  · exact ⟨_, came_nil w⟩
  · exact ⟨_, came_row h1 h2 h3 h4 h5⟩

set_option maxRecDepth 100000 in
set_option maxHeartbeats 1000000 in
theorem walk (a0 : Option Addr) (len0 cap0 : Nat) (z0 : List Int) (a1 : Int) (a2 : Int) (w : World) (w0 : IsRow .u8 w a0 len0 cap0 z0) (w1 : (Lit.int .i64 a1).wf = true) (w2 : (Lit.int .i64 a2).wf = true) :
    Calls Try.prog 7 #[.slice a0 len0 cap0, .int .i64 a1, .int .i64 a2] w fun e w' => e = .returned (.bool true) ∧ Below w.heap.size w w' := by
  obtain ⟨c, h⟩ := came_of w0
  clear w0
  have hlen := h.len
  by_cases hL : len0 ≤ 1048576
  · by_cases hz : a1 < 0
    · go_enter Try.func7, Try.ntmps7
      go_wp2_with (go_at_call 26; refine (bytes26_yes _ len0 cap0 _ _ _ hlen hL).mono ?_; rintro e w' ⟨rfl, rfl⟩)
      go_ret
      exact ⟨rfl, Below.refl _ _⟩
    · by_cases hz2 : 65536 < a1
      · go_enter Try.func7, Try.ntmps7
        go_wp2_with (go_at_call 26; refine (bytes26_yes _ len0 cap0 _ _ _ hlen hL).mono ?_; rintro e w' ⟨rfl, rfl⟩)
        go_ret
        exact ⟨rfl, Below.refl _ _⟩
      · by_cases hk : a2 < 0
        · go_enter Try.func7, Try.ntmps7
          go_wp2_with (go_at_call 26; refine (bytes26_yes _ len0 cap0 _ _ _ hlen hL).mono ?_; rintro e w' ⟨rfl, rfl⟩)
          go_ret
          exact ⟨rfl, Below.refl _ _⟩
        · by_cases hk2 : 65536 < a2
          · go_enter Try.func7, Try.ntmps7
            go_wp2_with (go_at_call 26; refine (bytes26_yes _ len0 cap0 _ _ _ hlen hL).mono ?_; rintro e w' ⟨rfl, rfl⟩)
            go_ret
            exact ⟨rfl, Below.refl _ _⟩
          · by_cases hd : Digs len0 c
            · obtain ⟨Z, rfl⟩ : ∃ Z : Nat, a1 = Z := ⟨a1.toNat, by omega⟩
              obtain ⟨K, rfl⟩ : ∃ K : Nat, a2 = K := ⟨a2.toNat, by omega⟩
              obtain ⟨lz, hlz⟩ := leads_exists c len0
              have hT2 : topN (limb (dg c len0 Z)) ((len0 + Z + 5) / 6) = topN (limb (dg c len0 Z)) ((K + len0 + Z + 5) / 6) := by
                obtain ⟨r, hr⟩ : ∃ r, (K + len0 + Z + 5) / 6 = (len0 + Z + 5) / 6 + r := ⟨(K + len0 + Z + 5) / 6 - (len0 + Z + 5) / 6, by omega⟩
                rw [hr]
                exact (topN_more _ _ r fun i h1 h2 => limb_zero fun q h3 h4 => dg_high (by omega)).symm
              cases a0 with
              | none =>
                exact main_none len0 cap0 Z K lz _ _ _ c _ w (h.nil rfl).1 hL (by omega) (by omega) hd hlz rfl rfl rfl rfl hT2
              | some x =>
                exact main_some x len0 cap0 Z K lz _ _ _ c _ w h hL (by omega) (by omega) hd hlz rfl rfl rfl rfl hT2
            · go_enter Try.func7, Try.ntmps7
              go_wp2_with (first | (go_at_call 26; refine (bytes26_yes _ len0 cap0 _ _ _ hlen hL).mono ?_; rintro e w' ⟨rfl, rfl⟩) | (go_at_call 16; refine (digits_no _ len0 cap0 c _ (by omega) h.src hd).mono ?_; rintro e w' ⟨rfl, rfl⟩))
              go_ret
              exact ⟨rfl, Below.refl _ _⟩
  · go_enter Try.func7, Try.ntmps7
    go_wp2_with (go_at_call 26; refine (bytes26_no _ len0 cap0 _ _ _ hlen hL).mono ?_; rintro e w' ⟨rfl, rfl⟩)
    go_ret
    exact ⟨rfl, Below.refl _ _⟩

end Go.Proofs.Qxb6620882a.fnNaturalFromDigitsZerosAndLeadingZerosAgree
