/-
  Go's order on strings of one length, told by the first place at which they part. Plain.
-/
import Derived.Laws.Strings
import Derived.Test.Qxb6620882aFill
namespace Go.Proofs.Qxb6620882a

theorem less_lt : ∀ (a b : List UInt8) (k : Nat) (x y : UInt8), (∀ i, i < k → a[i]? = b[i]?) → a[k]? = some x → b[k]? = some y → x < y → Op.bytesLess a b = true ∧ Op.bytesLess b a = false ∧ (a == b) = false ∧ (b == a) = false
  | [], _, k, x, y, _, h1, _, _ => by simp at h1
  | _ :: _, [], k, x, y, _, _, h2, _ => by simp at h2
  | p :: a, q :: b, 0, x, y, _, h1, h2, h => by
    simp at h1 h2
    subst h1 h2
    have n1 : ¬ q < p := fun c => absurd (UInt8.lt_trans h c) (by simp)
    have n2 : ¬ p = q := fun c => absurd (c ▸ h) (by simp)
    have n3 : ¬ q = p := fun c => n2 c.symm
    simp [Op.bytesLess, h, n1, n2, n3]
  | p :: a, q :: b, k + 1, x, y, he, h1, h2, h => by
    have e0 : p = q := by have := he 0 (by omega); simpa using this
    subst e0
    obtain ⟨r1, r2, r3, r4⟩ := less_lt a b k x y (fun i hi => by have := he (i + 1) (by omega); simpa using this) (by simpa using h1) (by simpa using h2) h
    have n1 : ¬ p < p := by simp
    simp [Op.bytesLess, r1, r2, n1]
    exact ⟨by simpa using r3, by simpa using r4⟩

theorem less_self : ∀ a : List UInt8, Op.bytesLess a a = false
  | [] => by simp [Op.bytesLess]
  | p :: a => by simp [Op.bytesLess, less_self a]


/-- What Go's order says of the two padded strings, by r. -/
structure Ranked (P Q : ByteArray) (r : Int) : Prop where
  neg : r = -1 → Op.bytesLess P.toList Q.toList = true
  zero : r = 0 → Op.bytesLess P.toList Q.toList = false ∧ (P.toList == Q.toList) = true
  pos : r = 1 → Op.bytesLess P.toList Q.toList = false ∧ (P.toList == Q.toList) = false

theorem ranked {x y : ByteArray} {r : Int} {n : Nat} (h : CmpIs (pad x) (pad y) r) (hx : x.size ≤ n) (hy : y.size ≤ n) : Ranked (strOf (pad x) n) (strOf (pad y) n) r := by
  have key : ∀ (x y : ByteArray) (k : Nat), x.size ≤ n → y.size ≤ n → (∀ i, i < k → pad x i = pad y i) → pad x k < pad y k →
      Op.bytesLess (strOf (pad x) n).toList (strOf (pad y) n).toList = true ∧ Op.bytesLess (strOf (pad y) n).toList (strOf (pad x) n).toList = false ∧ ((strOf (pad x) n).toList == (strOf (pad y) n).toList) = false ∧ ((strOf (pad y) n).toList == (strOf (pad x) n).toList) = false := by
    intro x y k hx hy ha hk
    have hkn : k < n := by
      rcases Nat.lt_or_ge k n with c | c
      · exact c
      · rw [pad_out (by omega), pad_out (by omega)] at hk; omega
    rw [ByteArray.toList_eq, ByteArray.toList_eq, strOf_list, strOf_list]
    refine less_lt _ _ k (UInt8.ofNat (pad x k)) (UInt8.ofNat (pad y k)) (fun i hi => ?_) (by simp [hkn]) (by simp [hkn]) ?_
    · simp [show i < n by omega, ha i hi]
    · rw [UInt8.lt_iff_toNat_lt]
      simp [Nat.mod_eq_of_lt (pad_lt x k), Nat.mod_eq_of_lt (pad_lt y k), hk]
  rcases h with ⟨rfl, h⟩ | ⟨rfl, k, h, hk⟩ | ⟨rfl, k, h, hk⟩
  · have e : pad x = pad y := funext h
    rw [e]
    exact ⟨fun c => absurd c (by decide), fun _ => ⟨less_self _, by simp⟩, fun c => absurd c (by decide)⟩
  · have := key x y k hx hy h hk
    exact ⟨fun _ => this.1, fun c => absurd c (by decide), fun c => absurd c (by decide)⟩
  · have := key y x k hy hx (fun i hi => (h i hi).symm) hk
    exact ⟨fun c => absurd c (by decide), fun c => absurd c (by decide), fun _ => ⟨this.2.1, this.2.2.2⟩⟩

end Go.Proofs.Qxb6620882a
