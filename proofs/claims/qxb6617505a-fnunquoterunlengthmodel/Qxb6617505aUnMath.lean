/-
  What an escaped text stands for: plain.
-/
import Derived.Laws.Strings
namespace Go.Proofs.Qxb6617505a

/-- A backslash (92) with a byte behind it stands for that byte. -/
def un : List UInt8 → List UInt8
  | [] => []
  | [c] => [c]
  | c :: d :: rest => if c = 92 then d :: un rest else c :: un (d :: rest)

theorem un_plain {c : UInt8} {rest : List UInt8} (h : c ≠ 92 ∨ rest = []) : un (c :: rest) = c :: un rest := by
  match rest, h with
  | [], _ => rfl
  | d :: r, h =>
    rcases h with h | h
    · rw [un, if_neg h]
    · cases h

theorem un_esc (d : UInt8) (rest : List UInt8) : un (92 :: d :: rest) = d :: un rest := by
  rw [un, if_pos rfl]

theorem un_run (rest : List UInt8) (h : ∀ d r, rest = d :: r → d ≠ 92) : ∀ k, un (List.replicate k 92 ++ rest) = List.replicate (if rest = [] then k - k / 2 else k / 2) 92 ++ un rest
  | 0 => by simp
  | 1 => by
    match rest, h with
    | [], _ => rfl
    | d :: r, h =>
      have e : un (d :: r) = d :: un r := un_plain (.inl (h d r rfl))
      show un (92 :: d :: r) = _
      rw [un_esc, if_neg (by simp), e]
      rfl
  | k + 2 => by
    have ih := un_run rest h k
    show un (92 :: 92 :: (List.replicate k 92 ++ rest)) = _
    rw [un_esc, ih]
    by_cases c : rest = []
    · rw [if_pos c, if_pos c, show k + 2 - (k + 2) / 2 = (k - k / 2) + 1 by omega]
      rfl
    · rw [if_neg c, if_neg c, show (k + 2) / 2 = k / 2 + 1 by omega]
      rfl

theorem un_len : ∀ l : List UInt8, (un l).length ≤ l.length
  | [] => Nat.le_refl _
  | [_] => Nat.le_refl _
  | c :: d :: rest => by
    rw [un]
    split
    · have := un_len rest; simp; omega
    · have := un_len (d :: rest); simp at this ⊢; omega

/-- out is what stands for the first i bytes: the rest is still to come. -/
def Sofar (s : ByteArray) (i : Nat) (out : List UInt8) : Prop := out ++ un (s.data.toList.drop i) = un s.data.toList

theorem sofar_zero (s : ByteArray) : Sofar s 0 [] := by simp [Sofar]

theorem drop_at (s : ByteArray) (i : Nat) (h : i < s.size) : s.data.toList.drop i = s[i] :: s.data.toList.drop (i + 1) := by
  rw [List.drop_eq_getElem_cons (by simpa using h)]
  rfl

theorem drop_end (s : ByteArray) (i : Nat) (h : s.size ≤ i) : s.data.toList.drop i = [] := by
  rw [List.drop_eq_nil_iff]; simpa using h

theorem sofar_end {s : ByteArray} {i : Nat} {out : List UInt8} (h : Sofar s i out) (hi : s.size ≤ i) : out = un s.data.toList := by
  unfold Sofar at h
  rw [drop_end s i hi] at h
  simpa [un] using h

theorem sofar_plain {s : ByteArray} {i : Nat} {out : List UInt8} (h : Sofar s i out) (hi : i < s.size) (hc : s[i] ≠ 92 ∨ s.size ≤ i + 1) : Sofar s (i + 1) (out ++ [s[i]]) := by
  unfold Sofar at h ⊢
  have hc' : s[i] ≠ 92 ∨ s.data.toList.drop (i + 1) = [] := by
    rcases hc with k | k
    · exact .inl k
    · exact .inr (drop_end s (i + 1) k)
  rw [drop_at s i hi, un_plain hc'] at h
  rw [List.append_assoc]
  exact h

theorem sofar_esc {s : ByteArray} {i : Nat} {out : List UInt8} (h : Sofar s i out) (hi : i + 1 < s.size) (hc : s[i] = 92) : Sofar s (i + 2) (out ++ [s[i + 1]]) := by
  unfold Sofar at h ⊢
  rw [drop_at s i (by omega), drop_at s (i + 1) hi, hc, un_esc] at h
  rw [List.append_assoc]
  exact h

theorem drop_run (s : ByteArray) (i : Nat) : ∀ k, i + k ≤ s.size → (∀ t, (ht : t < s.size) → i ≤ t → t < i + k → s[t] = 92) → s.data.toList.drop i = List.replicate k 92 ++ s.data.toList.drop (i + k)
  | 0, _, _ => by simp
  | k + 1, hk, h => by
    have ih := drop_run s i k (by omega) fun t ht h1 h2 => h t ht h1 (by omega)
    rw [ih, drop_at s (i + k) (by omega), h (i + k) (by omega) (by omega) (by omega), List.replicate_succ']
    simp [Nat.add_assoc]

theorem sofar_run {s : ByteArray} {i k : Nat} {out : List UInt8} (h : Sofar s i out) (hk : i + k ≤ s.size) (hr : ∀ t, (ht : t < s.size) → i ≤ t → t < i + k → s[t] = 92) (he : ∀ ht : i + k < s.size, s[i + k] ≠ 92) :
    Sofar s (i + k) (out ++ List.replicate (if s.size ≤ i + k then k - k / 2 else k / 2) 92) := by
  unfold Sofar at h ⊢
  rw [drop_run s i k hk hr, un_run _ (fun d r e => by
    rcases Nat.lt_or_ge (i + k) s.size with c | c
    · rw [drop_at s (i + k) c] at e
      have := he c
      injection e with e1 _
      rw [← e1]; exact this
    · rw [drop_end s (i + k) c] at e; cases e)] at h
  have e : (s.data.toList.drop (i + k) = []) ↔ s.size ≤ i + k := by rw [List.drop_eq_nil_iff]; simp
  rw [List.append_assoc]
  by_cases c : s.size ≤ i + k
  · rw [if_pos c]; rw [if_pos (e.2 c)] at h; exact h
  · rw [if_neg c]; rw [if_neg (fun x => c (e.1 x))] at h; exact h

theorem sofar_len {s : ByteArray} {i : Nat} {out : List UInt8} (h : Sofar s i out) : out.length ≤ s.size := by
  unfold Sofar at h
  have h1 := un_len s.data.toList
  rw [← h] at h1
  simp at h1
  omega

theorem inn_size {v s : ByteArray} (hs : s = v.extract 1 (v.size - 1)) : s.size = v.size - 1 - 1 := by
  rw [hs, ByteArray.size_extract]
  omega
theorem inn_get {v s : ByteArray} (hs : s = v.extract 1 (v.size - 1)) (p : Nat) (h : p < s.size) (h' : p + 1 < v.size) : s[p] = v[p + 1] := by
  subst hs
  rw [ByteArray.getElem_extract]
  congr 1
  omega

theorem nat92 {c : UInt8} : c.toNat = 92 ↔ c = 92 := by
  constructor
  · intro h; exact UInt8.toNat_inj.1 h
  · intro h; rw [h]; rfl

end Go.Proofs.Qxb6617505a
