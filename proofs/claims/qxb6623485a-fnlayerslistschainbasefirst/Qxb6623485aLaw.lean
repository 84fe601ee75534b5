/-
  What the law's loops keep.
-/
import Derived.Test.Qxb6623485aLayers
import Derived.OpenShut
namespace Go.Proofs.Qxb6623485a
open Go.RowKit

/-- The row of nodes in the making. -/
def nrow (G n k : Nat) : List Value := (List.range n).map fun t => if t < k then Value.pointer (ptr G (t + 1)) else Value.pointer none

theorem nrow_len (G n k : Nat) : (nrow G n k).length = n := by simp [nrow]
theorem nrow_get (G n k t : Nat) (h : t < n) : (nrow G n k)[t]? = some (if t < k then Value.pointer (ptr G (t + 1)) else Value.pointer none) := by simp [nrow, h]
theorem nrow_zero (G n : Nat) : List.replicate n (Value.pointer none) = nrow G n 0 := by
  apply List.ext_getElem?
  intro j
  by_cases hj : j < n
  · rw [nrow_get _ _ _ _ hj]; simp [hj]
  · rw [List.getElem?_eq_none (by simp; omega), List.getElem?_eq_none (by simp [nrow_len]; omega)]
theorem nrow_set (G n k : Nat) : (nrow G n k).set k (Value.pointer (some ⟨G + k, 0, none⟩)) = nrow G n (k + 1) := by
  apply List.ext_getElem?
  intro t
  by_cases ht : t < n
  · rw [List.getElem?_set, nrow_len, nrow_get _ _ _ _ ht, nrow_get _ _ _ _ ht]
    by_cases e : k = t
    · subst e
      rw [if_pos rfl, if_pos ht, if_pos (by omega)]
      rfl
    · rw [if_neg e]
      by_cases c : t < k
      · rw [if_pos c, if_pos (by omega)]
      · rw [if_neg c, if_neg (by omega)]
  · rw [List.getElem?_eq_none (by simp [nrow_len]; omega), List.getElem?_eq_none (by simp [nrow_len]; omega)]

theorem owns_below {w w' : World} {B N : Nat} {g n cap : Nat} {xs : List Value} (h : w.ownsRow B 25 1 (.slice (some ⟨g, 0, none⟩) n cap) n xs) (hb : Below N w w') (hg : g < N) : w'.ownsRow B 25 1 (.slice (some ⟨g, 0, none⟩) n cap) n xs := by
  obtain ⟨h1, h2⟩ := h
  refine ⟨h1, ?_⟩
  rcases h2 with h2 | ⟨g', cap', cur, hv, hbg, hh, r⟩
  · exact .inl h2
  · obtain ⟨rfl, rfl⟩ : g = g' ∧ cap = cap' := by simpa using hv
    exact .inr ⟨g, cap, cur, rfl, hbg, by rw [hb.block g hg]; exact hh, r⟩

theorem cell_set {w : World} {a p : Addr} {u : Value} (h : p.block ≠ a.block) : (w.setCell a u).cell? p = w.cell? p := World.cell?_of_block (w := w) (Below.heap_setCell _ _ _ _ h)

/-- What holds of the nodes once k of them are made. -/
structure Made (w wr : World) (B G n k : Nat) (ids : Nat → Int) : Prop where
  row : wr.ownsRow B 25 1 (.slice (some ⟨B, 0, none⟩) n n) n (nrow G n k)
  chain : Chain wr G ids k
  size : wr.heap.size = G + k
  bel : Below B w wr

/-- One node more: made by ZZGraph, laid into the row. -/
theorem made_step {w wr w2 : World} {B G n k : Nat} {ids : Nat → Int} (h : Made w wr B G n k ids) (hk : k < n) (hBG : B < G) (hs : w2.heap.size = wr.heap.size + 1) (hn : Node w2 wr.heap.size (ids k) (ptr G k)) (hb : Below wr.heap.size wr w2) :
    w2.cell? ⟨B, k, none⟩ = some (.pointer none) ∧ w2.frozen? ⟨B, k, none⟩ = false ∧ wr.heap.size = G + k ∧ Made w (w2.setCell ⟨B, k, none⟩ (.pointer (some ⟨G + k, 0, none⟩))) B G n (k + 1) ids := by
  have hsz := h.size
  have hrow := owns_below h.row hb (show B < wr.heap.size by omega)
  refine ⟨?_, hrow.frozenAt k, hsz, ?_⟩
  · rw [hrow.cellAt k (by omega), nrow_get _ _ _ _ hk, if_neg (by omega)]
  · refine ⟨?_, ?_, ?_, ?_⟩
    · rw [← nrow_set]; exact (hrow.stored k _).1
    · intro i hi
      have hn2 : Node w2 (G + i) (ids i) (ptr G i) := by
        rcases Nat.lt_or_ge i k with c | c
        · exact node_below (h.chain i c) hb (by omega)
        · obtain rfl : i = k := by omega
          rw [← hsz]; exact hn
      exact ⟨(cell_set (by show G + i ≠ B; omega)).trans hn2.1, (cell_set (by show G + i ≠ B; omega)).trans hn2.2⟩
    · simp [World.setCell, hs, hsz]; omega
    · exact (h.bel.trans (hb.mono (by omega))).setCell (Nat.le_refl _) _

theorem chain_below {w w' : World} {G k n N : Nat} {ids : Nat → Int} (h : Chain w G ids n) (hk : k ≤ n) (hb : Below N w w') (hN : G + n ≤ N) : Chain w' G ids k := fun i hi => node_below (h i (by omega)) hb (by omega)

/-- What the walk is told of the slice of ints that came in. -/
structure Came (w : World) (a : Option Addr) (L : Nat) (ids : Nat → Int) : Prop where
  len : L ≤ 9223372036854775807
  row : L = 0 ∨ ∃ b off, a = some ⟨b, off, none⟩ ∧ ∀ i, i < L → w.cell? ⟨b, off + i, none⟩ = some (.int .i64 (ids i))

end Go.Proofs.Qxb6623485a
