/-
  Rows of bytes in the making; the bound on lengths.
-/
import Derived.Test.Qxb6620882aNatUse
namespace Go.Proofs.Qxb6620882a
open Go.RowKit

theorem bytes26_yes (ao : Option Addr) (L cap : Nat) (z k : Int) (w : World) (hL : L ≤ maxLen) (h : L ≤ 1048576) :
    Calls Try.prog 26 #[.slice ao L cap, .int .i64 z, .int .i64 k] w fun e w' => e = .returned (.bool true) ∧ w' = w := by
  have := bytes26_any ao L cap z k w hL
  simpa [h] using this
theorem bytes26_no (ao : Option Addr) (L cap : Nat) (z k : Int) (w : World) (hL : L ≤ maxLen) (h : ¬ L ≤ 1048576) :
    Calls Try.prog 26 #[.slice ao L cap, .int .i64 z, .int .i64 k] w fun e w' => e = .returned (.bool false) ∧ w' = w := by
  have := bytes26_any ao L cap z k w hL
  simpa [h] using this

theorem ck_at (c : Nat → Nat) (K j : Nat) : c j = ck c K (K + j) := by
  unfold ck
  rw [if_neg (by omega)]
  congr 1
  omega

/-- A row of bytes in the making. -/
def brow (c : Nat → Nat) (n k : Nat) : List Value := upTo (fun i => Value.int .u8 (c i)) (Value.int .u8 0) n k
theorem brow_zero (c : Nat → Nat) (n : Nat) : List.replicate n (Value.int .u8 0) = brow c n 0 := upTo_zero _ _ _
theorem brow_get (c : Nat → Nat) (n k j : Nat) (h : j < n) : (brow c n k)[j]? = some (if j < k then Value.int .u8 (c j) else Value.int .u8 0) := upTo_get _ _ _ _ _ h
theorem brow_set (c : Nat → Nat) (n k : Nat) : (brow c n k).set k (Value.int .u8 (c k)) = brow c n (k + 1) := upTo_set (fun i => Value.int .u8 (c i)) _ n k

/-- Behind 'make': nothing is written yet. -/
theorem made_row {w w1 : World} {n : Nat} (c : Nat → Nat) (hown : w1.ownsRow w.heap.size 5 1 (.slice (some ⟨w.heap.size, 0, none⟩) n n) n (madeCells #[Value.int .u8 0] n).toList) (hg : w.grownBy w1 none) :
    w1.ownsRow w.heap.size 5 1 (.slice (some ⟨w.heap.size, 0, none⟩) n n) n (brow c n 0) ∧ Below w.heap.size w w1 := by
  refine ⟨?_, (Below.refl _ _).grown hg (Nat.le_refl _) (by simp)⟩
  rw [← brow_zero, ← toList_madeCells_one]; exact hown

/-- One byte more is written. -/
theorem row_step {w0 wr : World} {B n k : Nat} {c : Nat → Nat} (hk : k < n) (hown : wr.ownsRow B 5 1 (.slice (some ⟨B, 0, none⟩) n n) n (brow c n k)) (hb : Below B w0 wr) (v : Nat) (hv : v = c k) :
    wr.cell? ⟨B, k, none⟩ = some (.int .u8 0) ∧ wr.frozen? ⟨B, k, none⟩ = false ∧
      Hid ((wr.setCell ⟨B, k, none⟩ (.int .u8 v)).ownsRow B 5 1 (.slice (some ⟨B, 0, none⟩) n n) n (brow c n (k + 1)) ∧ Below B w0 (wr.setCell ⟨B, k, none⟩ (.int .u8 v))) := by
  subst hv
  refine ⟨?_, hown.frozenAt k, ?_, hb.setCell (Nat.le_refl _) _⟩
  · rw [hown.cellAt k (by omega), brow_get _ _ _ _ hk, if_neg (by omega)]
  · rw [← brow_set]; exact (hown.stored k _).1

theorem Limbs.below {w w' : World} {g n : Nat} {l : Nat → Nat} (h : Limbs w g l n) (hg : g < w.heap.size) (hb : Below w.heap.size w w') : Limbs w' g l n := fun i hi => (hb.cell (p := ⟨g, i, none⟩) hg).trans (h i hi)
theorem Limbs.mono {w : World} {g n m : Nat} {l : Nat → Nat} (h : Limbs w g l n) (hm : m ≤ n) : Limbs w g l m := fun i hi => h i (by omega)

theorem digs_cz {L : Nat} {c : Nat → Nat} (Z : Nat) (h : Digs L c) : Digs (L + Z) (cz c L) := fun i hi => by
  unfold cz
  split
  · rename_i k; exact h i k
  · omega
theorem digs_ck {L : Nat} {c : Nat → Nat} (K : Nat) (h : Digs L c) : Digs (K + L) (ck c K) := fun i hi => by
  unfold ck
  split
  · omega
  · exact h (i - K) (by omega)

theorem lj_lt {c l : Nat → Nat} {L Z : Nat} (hd : Digs L c) (HD : Hid (l = limb (dg c L Z))) (j : Nat) : (l j : Int) < 1000000 := by
  have : l j < 1000000 := by rw [HD.out]; exact limb_lt (dg_le fun i hi => (hd i hi).2) j
  omega

theorem row_own {w : World} {B n : Nat} {c : Nat → Nat} (hown : w.ownsRow B 5 1 (.slice (some ⟨B, 0, none⟩) n n) n (brow c n n)) : Own w (some ⟨B, 0, none⟩) B n c ∧ B < w.heap.size := by
  have hl := (hown.lt B rfl).2
  refine ⟨⟨.inr rfl, .inr hl, fun i hi => ?_⟩, hl⟩
  rw [hown.cellAt i (by omega), brow_get _ _ _ _ hi, if_pos hi]

end Go.Proofs.Qxb6620882a
