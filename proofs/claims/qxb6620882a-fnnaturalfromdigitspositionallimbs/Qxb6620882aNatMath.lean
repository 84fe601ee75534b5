/-
  Limbs of six digits: plain.
-/
import Derived.Test.Qxb6620882aFill
namespace Go.Proofs.Qxb6620882a

/-- The digit q places from the right of the L digits c (as ASCII bytes) followed by Z zeros. -/
def dg (c : Nat → Nat) (L Z q : Nat) : Nat := if q < Z then 0 else if q - Z < L then c (L - 1 - (q - Z)) - 48 else 0

/-- Horner over the digits 6k+5, 6k+4 ..: t of them. -/
def hor (D : Nat → Nat) (k : Nat) : Nat → Nat
  | 0 => 0
  | t + 1 => hor D k t * 10 + D (6 * k + 5 - t)

/-- The sum of the digits 6k, 6k+1 .. with their weights: t of them. -/
def pos (D : Nat → Nat) (k : Nat) : Nat → Nat
  | 0 => 0
  | t + 1 => pos D k t + D (6 * k + t) * 10 ^ t

def limb (D : Nat → Nat) (k : Nat) : Nat := hor D k 6

/-- How many limbs are left once the zero ones at the top are dropped. -/
def topN (l : Nat → Nat) : Nat → Nat
  | 0 => 0
  | n + 1 => if l n = 0 then topN l n else n + 1

theorem topN_le (l : Nat → Nat) : ∀ n, topN l n ≤ n
  | 0 => Nat.le_refl _
  | n + 1 => by
    unfold topN
    split
    · exact Nat.le_succ_of_le (topN_le l n)
    · exact Nat.le_refl _

theorem topN_last (l : Nat → Nat) : ∀ n m, topN l n = m + 1 → l m ≠ 0
  | 0, m, h => by simp [topN] at h
  | n + 1, m, h => by
    unfold topN at h
    split at h
    · exact topN_last l n m h
    · rename_i hb
      have : m = n := by omega
      rw [this]; exact hb

theorem topN_more (l : Nat → Nat) (n : Nat) : ∀ k, (∀ i, n ≤ i → i < n + k → l i = 0) → topN l (n + k) = topN l n
  | 0, _ => rfl
  | k + 1, h => by
    show topN l (n + k + 1) = _
    rw [topN, if_pos (h (n + k) (by omega) (by omega))]
    exact topN_more l n k fun i h1 h2 => h i h1 (by omega)

theorem topN_top (l : Nat → Nat) (n m : Nat) (hm : m < n) (h : l m ≠ 0) (hz : ∀ i, m < i → i < n → l i = 0) : topN l n = m + 1 := by
  obtain ⟨k, rfl⟩ : ∃ k, n = m + 1 + k := ⟨n - (m + 1), by omega⟩
  rw [topN_more l (m + 1) k fun i h1 h2 => hz i (by omega) h2, topN, if_neg h]

theorem topN_none (l : Nat → Nat) (n : Nat) (hz : ∀ i, i < n → l i = 0) : topN l n = 0 := by
  have := topN_more l 0 n fun i _ h => hz i (by omega)
  rw [Nat.zero_add] at this
  exact this

theorem dg_le {c : Nat → Nat} {L Z : Nat} (hc : ∀ i, i < L → c i ≤ 57) (q : Nat) : dg c L Z q ≤ 9 := by
  unfold dg
  split
  · omega
  · split
    · have := hc (L - 1 - (q - Z)) (by omega); omega
    · omega

theorem dg_low {c : Nat → Nat} {L Z q : Nat} (h : q < Z) : dg c L Z q = 0 := by simp [dg, h]
theorem dg_high {c : Nat → Nat} {L Z q : Nat} (h : Z + L ≤ q) : dg c L Z q = 0 := by
  unfold dg
  rw [if_neg (by omega), if_neg (by omega)]
theorem dg_at {c : Nat → Nat} {L Z i : Nat} (h : i < L) : dg c L Z (Z + (L - 1 - i)) = c i - 48 := by
  unfold dg
  rw [if_neg (by omega), if_pos (by omega)]
  congr 2
  omega

theorem hor_zero {D : Nat → Nat} {k : Nat} : ∀ t, t ≤ 6 → (∀ q, 6 * k + 6 - t ≤ q → q < 6 * k + 6 → D q = 0) → hor D k t = 0
  | 0, _, _ => rfl
  | t + 1, ht, h => by
    rw [hor, hor_zero t (by omega) fun q h1 h2 => h q (by omega) h2, h (6 * k + 5 - t) (by omega) (by omega)]

theorem hor_lt {D : Nat → Nat} (hD : ∀ q, D q ≤ 9) (k : Nat) : ∀ t, hor D k t < 10 ^ t
  | 0 => by simp [hor]
  | t + 1 => by
    have h1 := hor_lt hD k t
    have h2 := hD (6 * k + 5 - t)
    rw [hor, Nat.pow_succ]
    omega

theorem hor_le {D : Nat → Nat} (hD : ∀ q, D q ≤ 9) (k t : Nat) (ht : t ≤ 6) : hor D k t ≤ 999999 := by
  have h1 := hor_lt hD k t
  have h2 : 10 ^ t ≤ 10 ^ 6 := Nat.pow_le_pow_right (by omega) ht
  omega

theorem limb_eq (D : Nat → Nat) (k : Nat) : limb D k = D (6 * k) + D (6 * k + 1) * 10 + D (6 * k + 2) * 100 + D (6 * k + 3) * 1000 + D (6 * k + 4) * 10000 + D (6 * k + 5) * 100000 := by
  simp only [limb, hor, Nat.sub_zero, show 6 * k + 5 - 1 = 6 * k + 4 by omega, show 6 * k + 5 - 2 = 6 * k + 3 by omega, show 6 * k + 5 - 3 = 6 * k + 2 by omega, show 6 * k + 5 - 4 = 6 * k + 1 by omega, show 6 * k + 5 - 5 = 6 * k by omega]
  omega

theorem pos_eq (D : Nat → Nat) (k : Nat) : pos D k 6 = limb D k := by
  rw [limb_eq]
  simp only [pos, Nat.add_zero, show 10 ^ 0 = 1 by decide, show 10 ^ 1 = 10 by decide, show 10 ^ 2 = 100 by decide, show 10 ^ 3 = 1000 by decide, show 10 ^ 4 = 10000 by decide, show 10 ^ 5 = 100000 by decide]
  omega

theorem limb_lt {D : Nat → Nat} (hD : ∀ q, D q ≤ 9) (k : Nat) : limb D k < 1000000 := by
  have := hor_le hD k 6 (by omega)
  unfold limb; omega

theorem limb_zero {D : Nat → Nat} {k : Nat} (h : ∀ q, 6 * k ≤ q → q < 6 * k + 6 → D q = 0) : limb D k = 0 := by
  rw [limb_eq, h _ (by omega) (by omega), h _ (by omega) (by omega), h _ (by omega) (by omega), h _ (by omega) (by omega), h _ (by omega) (by omega), h _ (by omega) (by omega)]

theorem limb_ne {D : Nat → Nat} {k q : Nat} (h1 : 6 * k ≤ q) (h2 : q < 6 * k + 6) (h : D q ≠ 0) : limb D k ≠ 0 := by
  rw [limb_eq]
  rcases (show q = 6 * k ∨ q = 6 * k + 1 ∨ q = 6 * k + 2 ∨ q = 6 * k + 3 ∨ q = 6 * k + 4 ∨ q = 6 * k + 5 by omega) with e | e | e | e | e | e <;> rw [e] at h <;> omega

end Go.Proofs.Qxb6620882a
