/-
  The plain law: zeros written out, zeros put ahead, the number of limbs.
-/
import Derived.Test.Qxb6620882aNatMath
namespace Go.Proofs.Qxb6620882a

/-- d followed by zeros. -/
def cz (c : Nat → Nat) (L : Nat) (i : Nat) : Nat := if i < L then c i else 48
/-- d behind k zeros. -/
def ck (c : Nat → Nat) (K : Nat) (i : Nat) : Nat := if i < K then 48 else c (i - K)

theorem dg_cz (c : Nat → Nat) (L Z : Nat) : dg c L Z = dg (cz c L) (L + Z) 0 := by
  funext q
  unfold dg cz
  by_cases h1 : q < Z
  · rw [if_pos h1, if_neg (by omega), if_pos (by omega), if_neg (by omega)]
  · rw [if_neg h1, if_neg (show ¬ q < 0 by omega)]
    by_cases h2 : q - Z < L
    · rw [if_pos h2, if_pos (by omega), if_pos (by omega)]
      congr 2
      omega
    · rw [if_neg h2, if_neg (by omega)]

theorem dg_ck (c : Nat → Nat) (L Z K : Nat) : dg c L Z = dg (ck c K) (K + L) Z := by
  funext q
  unfold dg ck
  by_cases h1 : q < Z
  · rw [if_pos h1, if_pos h1]
  · rw [if_neg h1, if_neg h1]
    by_cases h2 : q - Z < L
    · rw [if_pos h2, if_pos (by omega), if_neg (by omega)]
      congr 2
      omega
    · rw [if_neg h2]
      by_cases h3 : q - Z < K + L
      · rw [if_pos h3, if_pos (by omega)]
      · rw [if_neg h3]

/-- n leading zeros, no more. -/
def Leads (c : Nat → Nat) (L n : Nat) : Prop := n ≤ L ∧ (∀ i, i < n → c i = 48) ∧ (n < L → c n ≠ 48)

theorem leads_at (c : Nat → Nat) (L : Nat) : ∀ m, m ≤ L → (∃ n, Leads c L n) ∨ ∀ i, i < m → c i = 48
  | 0, _ => .inr fun i h => absurd h (Nat.not_lt_zero _)
  | m + 1, hm => by
    rcases leads_at c L m (by omega) with h | h
    · exact .inl h
    · by_cases e : c m = 48
      · exact .inr fun i hi => by
          rcases Nat.lt_or_ge i m with k | k
          · exact h i k
          · rw [show i = m by omega]; exact e
      · exact .inl ⟨m, by omega, h, fun _ => e⟩

theorem leads_exists (c : Nat → Nat) (L : Nat) : ∃ n, Leads c L n := by
  rcases leads_at c L L (Nat.le_refl _) with h | h
  · exact h
  · exact ⟨L, Nat.le_refl _, h, fun h => absurd h (Nat.lt_irrefl _)⟩

theorem limb_above {c : Nat → Nat} {L Z n k : Nat} (hn : Leads c L n) (hk : Z + (L - n) ≤ 6 * k) : limb (dg c L Z) k = 0 := by
  refine limb_zero fun q h1 h2 => ?_
  by_cases h : Z + L ≤ q
  · exact dg_high h
  · have hi : L - 1 - (q - Z) < n := by omega
    have := dg_at (c := c) (L := L) (Z := Z) (i := L - 1 - (q - Z)) (by have := hn.1; omega)
    rw [show Z + (L - 1 - (L - 1 - (q - Z))) = q by omega, hn.2.1 _ hi] at this
    exact this

theorem count_pos {c : Nat → Nat} {L Z n N : Nat} (hd : ∀ i, i < L → 48 ≤ c i ∧ c i ≤ 57) (hn : Leads c L n) (hs : n < L) (hN : (L + Z + 5) / 6 ≤ N) : topN (limb (dg c L Z)) N = (L - n + Z + 5) / 6 := by
  have e : (L - n + Z + 5) / 6 = (L - n + Z - 1) / 6 + 1 := by omega
  rw [e]
  refine topN_top _ _ _ (by omega) ?_ fun i h1 h2 => limb_above hn (by omega)
  refine limb_ne (q := Z + (L - 1 - n)) (by omega) (by omega) ?_
  rw [dg_at hs]
  have := hn.2.2 hs
  have := (hd n hs).1
  omega

theorem count_zero {c : Nat → Nat} {L Z n N : Nat} (hn : Leads c L n) (hs : ¬ n < L) : topN (limb (dg c L Z)) N = 0 := by
  refine topN_none _ _ fun i hi => limb_zero fun q h1 h2 => ?_
  by_cases h : Z + L ≤ q
  · exact dg_high h
  · by_cases h3 : q < Z
    · exact dg_low h3
    · have hi : L - 1 - (q - Z) < n := by omega
      have := dg_at (c := c) (L := L) (Z := Z) (i := L - 1 - (q - Z)) (by omega)
      rw [show Z + (L - 1 - (L - 1 - (q - Z))) = q by omega, hn.2.1 _ hi] at this
      exact this

end Go.Proofs.Qxb6620882a
