/-
  A row that is filled from its head on: plain lists.
-/
import Derived.Laws.BytesArg
import Derived.Test.Qxb6620882aPadMath
namespace Go.Proofs.Qxb6620882a

/-- n places, the first k hold f's values, the others z. -/
def upTo {α : Type} (f : Nat → α) (z : α) (n k : Nat) : List α := (List.range n).map fun i => if i < k then f i else z

theorem upTo_len {α : Type} (f : Nat → α) (z : α) (n k : Nat) : (upTo f z n k).length = n := by simp [upTo]
theorem upTo_get {α : Type} (f : Nat → α) (z : α) (n k j : Nat) (h : j < n) : (upTo f z n k)[j]? = some (if j < k then f j else z) := by
  simp [upTo, h]
theorem upTo_set {α : Type} (f : Nat → α) (z : α) (n k : Nat) : (upTo f z n k).set k (f k) = upTo f z n (k + 1) := by
  apply List.ext_getElem?
  intro j
  by_cases hj : j < n
  · rw [List.getElem?_set, upTo_len, upTo_get _ _ _ _ _ hj, upTo_get _ _ _ _ _ hj]
    by_cases e : k = j
    · subst e; simp [hj]
    · simp only [e, if_false]
      by_cases c : j < k
      · simp [c, show j < k + 1 by omega]
      · simp [c, show ¬ j < k + 1 by omega]
  · rw [List.getElem?_eq_none (by simp [upTo_len]; omega), List.getElem?_eq_none (by simp [upTo_len]; omega)]
theorem upTo_zero {α : Type} (f : Nat → α) (z : α) (n : Nat) : List.replicate n z = upTo f z n 0 := by
  apply List.ext_getElem?
  intro j
  by_cases hj : j < n
  · rw [upTo_get _ _ _ _ _ hj]; simp [hj]
  · rw [List.getElem?_eq_none (by simp; omega), List.getElem?_eq_none (by simp [upTo_len]; omega)]

/-- The string of n bytes that f tells. -/
def strOf (f : Nat → Nat) (n : Nat) : ByteArray := strOfNums ((List.range n).map fun i => (f i : Int))

theorem strOf_size (f : Nat → Nat) (n : Nat) : (strOf f n).size = n := by simp [strOf, strOfNums_size]
theorem strOf_list (f : Nat → Nat) (n : Nat) : (strOf f n).data.toList = (List.range n).map fun i => UInt8.ofNat (f i) := by
  simp [strOf, strOfNums_data]
theorem strOf_get (f : Nat → Nat) (n i : Nat) (h : i < (strOf f n).size) : (strOf f n)[i] = UInt8.ofNat (f i) := by
  have hn : i < n := by simpa [strOf_size] using h
  have e : (strOf f n).data.toList[i]? = some (UInt8.ofNat (f i)) := by rw [strOf_list]; simp [hn]
  have hl : i < (strOf f n).data.toList.length := by simpa using h
  rw [List.getElem?_eq_getElem hl] at e
  have := Option.some.inj e
  rw [← this]
  simp [ByteArray.getElem_eq_getElem_data]

theorem pad_lt (s : ByteArray) (i : Nat) : pad s i < 256 := by
  unfold pad
  split
  · exact UInt8.toNat_lt _
  · omega

theorem pad_strOf {f : Nat → Nat} (hf : ∀ i, f i < 256) (n i : Nat) : pad (strOf f n) i = if i < n then f i else 32 := by
  by_cases h : i < n
  · rw [pad_in (by rw [strOf_size]; exact h), strOf_get, if_pos h]
    simp [Nat.mod_eq_of_lt (hf i)]
  · rw [pad_out (by rw [strOf_size]; exact h), if_neg h]

end Go.Proofs.Qxb6620882a
