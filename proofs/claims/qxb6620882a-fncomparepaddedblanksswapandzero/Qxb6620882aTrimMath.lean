/-
  Trailing blanks cut off; blanks put behind: plain.
-/
import Derived.Laws.Strings
import Derived.Test.Qxb6620882aFill
namespace Go.Proofs.Qxb6620882a

/-- How much of the first n bytes is left once trailing blanks are cut. -/
def trimN (s : ByteArray) : Nat → Nat
  | 0 => 0
  | n + 1 => if pad s n = 32 then trimN s n else n + 1

theorem trimN_le (s : ByteArray) : ∀ n, trimN s n ≤ n
  | 0 => Nat.le_refl _
  | n + 1 => by
    unfold trimN
    split
    · exact Nat.le_succ_of_le (trimN_le s n)
    · exact Nat.le_refl _

theorem trimN_blank (s : ByteArray) : ∀ n i, trimN s n ≤ i → i < n → pad s i = 32
  | 0, i, _, h => absurd h (Nat.not_lt_zero _)
  | n + 1, i, h1, h2 => by
    unfold trimN at h1
    split at h1
    · rename_i hb
      rcases Nat.lt_or_ge i n with c | c
      · exact trimN_blank s n i h1 c
      · have : i = n := by omega
        rw [this]; exact hb
    · omega

theorem trimN_last (s : ByteArray) : ∀ n m, trimN s n = m + 1 → pad s m ≠ 32
  | 0, m, h => by simp [trimN] at h
  | n + 1, m, h => by
    unfold trimN at h
    split at h
    · exact trimN_last s n m h
    · rename_i hb
      have : m = n := by omega
      rw [this]; exact hb

theorem trim_blank (s : ByteArray) (i : Nat) (h : trimN s s.size ≤ i) : pad s i = 32 := by
  rcases Nat.lt_or_ge i s.size with c | c
  · exact trimN_blank s s.size i h c
  · exact pad_out (by omega)

theorem trim_le_of {x y : ByteArray} (h : ∀ i, pad x i = pad y i) : trimN x x.size ≤ trimN y y.size := by
  rcases Nat.lt_or_ge (trimN y y.size) (trimN x x.size) with c | c
  · obtain ⟨m, hm⟩ : ∃ m, trimN x x.size = m + 1 := ⟨trimN x x.size - 1, by omega⟩
    have h1 := trimN_last x _ m hm
    rw [h m] at h1
    exact absurd (trim_blank y m (by omega)) h1
  · exact c

theorem list_get (s : ByteArray) (i : Nat) (h : i < s.size) : s.data.toList[i]? = some s[i] := by
  rw [List.getElem?_eq_getElem (by simpa using h)]
  simp [ByteArray.getElem_eq_getElem_data]

/-- s cut to n bytes. -/
theorem cut_list (s : ByteArray) (n : Nat) : (s.extract 0 n).data.toList = s.data.toList.take n := by
  simp [ByteArray.data_extract]

theorem trim_eq {x y : ByteArray} {r : Int} (hr : CmpIs (pad x) (pad y) r) :
    ((x.extract 0 (trimN x x.size)).toList == (y.extract 0 (trimN y y.size)).toList) = decide (r = 0) := by
  rw [ByteArray.toList_eq, ByteArray.toList_eq, cut_list, cut_list]
  have hx := trimN_le x x.size
  have hy := trimN_le y y.size
  by_cases h : ∀ i, pad x i = pad y i
  · have e : r = 0 := hr.uniq (.inl ⟨rfl, h⟩)
    have en : trimN x x.size = trimN y y.size := Nat.le_antisymm (trim_le_of h) (trim_le_of fun i => (h i).symm)
    have el : x.data.toList.take (trimN x x.size) = y.data.toList.take (trimN y y.size) := by
      rw [en]
      apply List.ext_getElem?
      intro i
      rw [List.getElem?_take, List.getElem?_take]
      split
      · rename_i hi
        have hix : i < x.size := by omega
        have hiy : i < y.size := by omega
        rw [list_get x i hix, list_get y i hiy]
        have := h i
        rw [pad_in hix, pad_in hiy] at this
        rw [UInt8.toNat_inj.1 this]
      · rfl
    simp [e, el]
  · have e : r ≠ 0 := by
      rcases hr with ⟨_, hr⟩ | ⟨rfl, _⟩ | ⟨rfl, _⟩
      · exact absurd hr h
      · decide
      · decide
    have ne : x.data.toList.take (trimN x x.size) ≠ y.data.toList.take (trimN y y.size) := by
      intro c
      apply h
      have lx : (x.data.toList.take (trimN x x.size)).length = trimN x x.size := by
        rw [List.length_take]; have : x.data.toList.length = x.size := by simp
        omega
      have ly : (y.data.toList.take (trimN y y.size)).length = trimN y y.size := by
        rw [List.length_take]; have : y.data.toList.length = y.size := by simp
        omega
      have en : trimN x x.size = trimN y y.size := by rw [← lx, ← ly, c]
      intro i
      rcases Nat.lt_or_ge i (trimN x x.size) with k | k
      · have hix : i < x.size := by omega
        have hiy : i < y.size := by omega
        have := congrArg (fun l : List UInt8 => l[i]?) c
        simp only [List.getElem?_take] at this
        rw [if_pos k, if_pos (by omega), list_get x i hix, list_get y i hiy] at this
        rw [pad_in hix, pad_in hiy, Option.some.inj this]
      · rw [trim_blank x i k, trim_blank y i (by omega)]
    simp [e, ne]

/-- Blanks behind a string turn nothing. -/
theorem pad_blanks (x : ByteArray) (k i : Nat) : pad (x ++ strOf (fun _ => 32) k) i = pad x i := by
  have hs : (x ++ strOf (fun _ => 32) k).size = x.size + k := by rw [ByteArray.size_append, strOf_size]
  by_cases h : i < x.size
  · have h' : i < (x ++ strOf (fun _ => 32) k).size := by omega
    rw [pad_in h', pad_in h, ByteArray.getElem_append_left h]
  · rw [pad_out h]
    by_cases h2 : i < x.size + k
    · have h' : i < (x ++ strOf (fun _ => 32) k).size := by omega
      rw [pad_in h', ByteArray.getElem_append_right (by omega), strOf_get]
      rfl
    · exact pad_out (by omega)

theorem cmp_blanks {x y : ByteArray} {r : Int} (k : Nat) (h : CmpIs (pad x) (pad y) r) : CmpIs (pad (x ++ strOf (fun _ => 32) k)) (pad y) r := by
  have e : pad (x ++ strOf (fun _ => 32) k) = pad x := funext (pad_blanks x k)
  rw [e]; exact h

end Go.Proofs.Qxb6620882a
