/-
  Digits placed one by one: plain.
-/
import Derived.Test.Qxb6620882aNatMath
namespace Go.Proofs.Qxb6620882a

theorem pos_zero {D : Nat → Nat} {k : Nat} : ∀ t, (∀ q, 6 * k ≤ q → q < 6 * k + t → D q = 0) → pos D k t = 0
  | 0, _ => rfl
  | t + 1, h => by
    rw [pos, pos_zero t fun q h1 h2 => h q h1 (by omega), h (6 * k + t) (by omega) (by omega)]
    simp

theorem pos_more {D : Nat → Nat} {k t : Nat} : ∀ s, (∀ q, 6 * k + t ≤ q → q < 6 * k + t + s → D q = 0) → pos D k (t + s) = pos D k t
  | 0, _ => rfl
  | s + 1, h => by
    show pos D k (t + s + 1) = _
    rw [pos, pos_more s fun q h1 h2 => h q h1 (by omega), h (6 * k + (t + s)) (by omega) (by omega)]
    simp

/-- Limb k once the digits below place q are laid. -/
def zv (D : Nat → Nat) (q k : Nat) : Nat := pos D k (min 6 (q - 6 * k))

theorem zv_start {c : Nat → Nat} {L Z k : Nat} : zv (dg c L Z) Z k = 0 := by
  unfold zv
  exact pos_zero _ fun q h1 h2 => dg_low (by omega)

theorem zv_end {c : Nat → Nat} {L Z k : Nat} : zv (dg c L Z) (L + Z) k = limb (dg c L Z) k := by
  rw [← pos_eq]
  unfold zv
  have h := pos_more (D := dg c L Z) (k := k) (t := min 6 (L + Z - 6 * k)) (6 - min 6 (L + Z - 6 * k)) fun q h1 h2 => dg_high (by omega)
  rw [show min 6 (L + Z - 6 * k) + (6 - min 6 (L + Z - 6 * k)) = 6 by omega] at h
  exact h.symm

theorem zv_other {D : Nat → Nat} {q k : Nat} (h : k ≠ q / 6) : zv D (q + 1) k = zv D q k := by
  unfold zv
  rcases Nat.lt_or_ge k (q / 6) with c | c
  · rw [show min 6 (q + 1 - 6 * k) = 6 by omega, show min 6 (q - 6 * k) = 6 by omega]
  · rw [show min 6 (q + 1 - 6 * k) = 0 by omega, show min 6 (q - 6 * k) = 0 by omega]

theorem zv_here {D : Nat → Nat} {k j : Nat} (hj : j < 6) : zv D (6 * k + j + 1) k = zv D (6 * k + j) k + D (6 * k + j) * 10 ^ j := by
  unfold zv
  rw [show min 6 (6 * k + j + 1 - 6 * k) = j + 1 by omega, show min 6 (6 * k + j - 6 * k) = j by omega, pos]

theorem pos_lt {D : Nat → Nat} (hD : ∀ q, D q ≤ 9) (k : Nat) : ∀ t, pos D k t < 10 ^ t
  | 0 => by simp [pos]
  | t + 1 => by
    have h1 := pos_lt hD k t
    have h2 := Nat.mul_le_mul_right (10 ^ t) (hD (6 * k + t))
    rw [pos, Nat.pow_succ]
    omega

theorem zv_le {D : Nat → Nat} (hD : ∀ q, D q ≤ 9) (q k : Nat) : zv D q k ≤ 999999 := by
  have h1 := pos_lt hD k (min 6 (q - 6 * k))
  have h2 : 10 ^ (min 6 (q - 6 * k)) ≤ 10 ^ 6 := Nat.pow_le_pow_right (by omega) (by omega)
  unfold zv
  omega

/-- The row while the digits are laid. -/
def zrow (D : Nat → Nat) (N q : Nat) : List Value := (List.range N).map fun k => Value.int .u64 (zv D q k)

theorem zrow_get (D : Nat → Nat) (N q j : Nat) (h : j < N) : (zrow D N q)[j]? = some (Value.int .u64 (zv D q j)) := by simp [zrow, h]

theorem zrow_start {c : Nat → Nat} {L Z N : Nat} : List.replicate N (Value.int .u64 0) = zrow (dg c L Z) N Z := by
  apply List.ext_getElem?
  intro j
  by_cases hj : j < N
  · rw [zrow_get _ _ _ _ hj, zv_start]; simp [hj]
  · rw [List.getElem?_eq_none (by simp; omega), List.getElem?_eq_none (by simp [zrow]; omega)]

theorem zrow_step {D : Nat → Nat} {N k j v : Nat} (hj : j < 6) (hv : v = zv D (6 * k + j) k + D (6 * k + j) * 10 ^ j) : (zrow D N (6 * k + j)).set k (Value.int .u64 v) = zrow D N (6 * k + j + 1) := by
  apply List.ext_getElem?
  intro i
  by_cases hi : i < N
  · rw [List.getElem?_set, zrow_get _ _ _ _ hi, zrow_get _ _ _ _ hi]
    by_cases e : k = i
    · subst e
      rw [if_pos rfl, if_pos (by simpa [zrow] using hi), zv_here hj, hv]
    · rw [if_neg e, zv_other (by omega)]
  · rw [List.getElem?_eq_none (by simp [zrow]; omega), List.getElem?_eq_none (by simp [zrow]; omega)]

end Go.Proofs.Qxb6620882a
