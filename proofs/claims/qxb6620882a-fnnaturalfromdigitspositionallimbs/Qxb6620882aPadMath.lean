/-
  Plain mathematics: strings padded with blanks, compared byte by byte. No Go in sight.
-/
import GoSem.Core.Value
namespace Go.Proofs.Qxb6620882a

/-- The byte at place i of s, a blank behind its end. -/
def pad (s : ByteArray) (i : Nat) : Nat := if h : i < s.size then s[i].toNat else 32

/-- r tells how f stands to g, by the first place at which they part. -/
def CmpIs (f g : Nat → Nat) (r : Int) : Prop :=
  (r = 0 ∧ ∀ i, f i = g i) ∨
  (r = -1 ∧ ∃ k, (∀ i, i < k → f i = g i) ∧ f k < g k) ∨
  (r = 1 ∧ ∃ k, (∀ i, i < k → f i = g i) ∧ g k < f k)

theorem pad_in {s : ByteArray} {i : Nat} (h : i < s.size) : pad s i = s[i].toNat := by simp [pad, h]
theorem pad_out {s : ByteArray} {i : Nat} (h : ¬ i < s.size) : pad s i = 32 := by simp [pad, h]

theorem CmpIs.uniq {f g : Nat → Nat} {r r' : Int} (h : CmpIs f g r) (h' : CmpIs f g r') : r = r' := by
  rcases h with ⟨rfl, h⟩ | ⟨rfl, k, h, hk⟩ | ⟨rfl, k, h, hk⟩ <;> rcases h' with ⟨rfl, h'⟩ | ⟨rfl, k', h', hk'⟩ | ⟨rfl, k', h', hk'⟩
  · rfl
  · have := h k'; omega
  · have := h k'; omega
  · have := h' k; omega
  · rfl
  · rcases Nat.lt_trichotomy k k' with c | c | c
    · have := h' k c; omega
    · subst c; omega
    · have := h k' c; omega
  · have := h' k; omega
  · rcases Nat.lt_trichotomy k k' with c | c | c
    · have := h' k c; omega
    · subst c; omega
    · have := h k' c; omega
  · rfl

theorem CmpIs.swap {f g : Nat → Nat} {r : Int} (h : CmpIs f g r) : CmpIs g f (-r) := by
  rcases h with ⟨rfl, h⟩ | ⟨rfl, k, h, hk⟩ | ⟨rfl, k, h, hk⟩
  · exact .inl ⟨rfl, fun i => (h i).symm⟩
  · exact .inr (.inr ⟨rfl, k, fun i hi => (h i hi).symm, hk⟩)
  · exact .inr (.inl ⟨rfl, k, fun i hi => (h i hi).symm, hk⟩)

/-- The first k places agree. -/
def Agree (f g : Nat → Nat) (k : Nat) : Prop := ∀ i, i < k → f i = g i

theorem Agree.zero (f g : Nat → Nat) : Agree f g 0 := fun _ h => absurd h (Nat.not_lt_zero _)
theorem Agree.succ {f g : Nat → Nat} {k : Nat} (h : Agree f g k) (e : f k = g k) : Agree f g (k + 1) := fun i hi => by
  rcases Nat.lt_or_ge i k with c | c
  · exact h i c
  · have : i = k := by omega
    rw [this]; exact e

theorem Agree.all {x y : ByteArray} {k : Nat} (h : Agree (pad x) (pad y) k) (hx : x.size ≤ k) (hy : y.size ≤ k) : ∀ i, pad x i = pad y i := fun i => by
  rcases Nat.lt_or_ge i k with c | c
  · exact h i c
  · rw [pad_out (by omega), pad_out (by omega)]

theorem cmp_below (x y : ByteArray) : ∀ n : Nat, Agree (pad x) (pad y) n ∨ ∃ r, CmpIs (pad x) (pad y) r
  | 0 => .inl (Agree.zero _ _)
  | n + 1 => by
    rcases cmp_below x y n with h | h
    · rcases Nat.lt_trichotomy (pad x n) (pad y n) with c | c | c
      · exact .inr ⟨-1, .inr (.inl ⟨rfl, n, h, c⟩)⟩
      · exact .inl (h.succ c)
      · exact .inr ⟨1, .inr (.inr ⟨rfl, n, h, c⟩)⟩
    · exact .inr h

theorem cmp_exists (x y : ByteArray) : ∃ r, CmpIs (pad x) (pad y) r := by
  rcases cmp_below x y (max x.size y.size) with h | h
  · exact ⟨0, .inl ⟨rfl, h.all (by omega) (by omega)⟩⟩
  · exact h

theorem CmpIs.eq_zero {x y : ByteArray} {r : Int} {k : Nat} (h : CmpIs (pad x) (pad y) r) (ha : Agree (pad x) (pad y) k) (hx : x.size ≤ k) (hy : y.size ≤ k) : r = 0 :=
  h.uniq (.inl ⟨rfl, ha.all hx hy⟩)
theorem CmpIs.eq_neg {f g : Nat → Nat} {r : Int} {k : Nat} (h : CmpIs f g r) (ha : Agree f g k) (hk : f k < g k) : r = -1 :=
  h.uniq (.inr (.inl ⟨rfl, k, ha, hk⟩))
theorem CmpIs.eq_pos {f g : Nat → Nat} {r : Int} {k : Nat} (h : CmpIs f g r) (ha : Agree f g k) (hk : g k < f k) : r = 1 :=
  h.uniq (.inr (.inr ⟨rfl, k, ha, hk⟩))

end Go.Proofs.Qxb6620882a
