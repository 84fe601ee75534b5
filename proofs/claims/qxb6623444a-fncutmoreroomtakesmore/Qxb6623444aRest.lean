/-
  Slices that came in, cut again and again: what is left of them.
-/
import Derived.Test.Qxb6623444aZcut
import Derived.OpenShut
namespace Go.Proofs.Qxb6623444a
open Go.RowKit

theorem lt_of_cell {w : World} {a : Addr} {v : Value} (h : w.cell? a = some v) : a.block < w.heap.size := World.block_lt_of_cell? w a h

/-- What the walks are told of a slice of bytes that came in. -/
structure Came (w : World) (a : Option Addr) (L cap : Nat) : Prop where
  len : L ≤ cap
  top : cap ≤ 9223372036854775807
  nil : a = none → L = 0 ∧ cap = 0
  row : L = 0 ∨ ∃ b off, ∃ c : Nat → Nat, a = some ⟨b, off, none⟩ ∧ ∀ i, i < L → w.cell? ⟨b, off + i, none⟩ = some (.int .u8 (c i))

theorem came_nil (w : World) : Came w none 0 0 := ⟨Nat.le_refl _, by omega, fun _ => ⟨rfl, rfl⟩, .inl rfl⟩

theorem came_row {w : World} {x : Addr} {L cap : Nat} {zs : List Int} (hl : L ≤ cap) (hm : cap ≤ maxLen) (hz : zs.length = cap) (hc : ∀ i, i < zs.length → w.cell? (x.add i) = some (.int .u8 (zs.getD i 0))) (hw : ∀ n ∈ zs, (Lit.int .u8 n).wf = true) :
    Came w (some x) L cap := by
  have hb : ∀ i, 0 ≤ zs.getD i 0 ∧ zs.getD i 0 ≤ 255 := fun i => by have := range_u8 hw i; simpa [List.getD] using this
  have he : ∀ i, ((zs.getD i 0).toNat : Int) = zs.getD i 0 := fun i => by have := hb i; omega
  refine ⟨hl, by unfold maxLen at hm; omega, fun h => (by cases h), ?_⟩
  by_cases h0 : L = 0
  · exact .inl h0
  · obtain ⟨b, off, rfl, hcell⟩ := ints_at hc (by omega)
    exact .inr ⟨b, off, fun i => (zs.getD i 0).toNat, rfl, fun i hi => by rw [hcell i (by omega), he]⟩

/-- a' is where what is left of a (M elements) begins once q are taken. -/
def Rest (a a' : Option Addr) (M q : Nat) : Prop := M ≤ q ∨ ∃ b off, a = some ⟨b, off, none⟩ ∧ a' = some ⟨b, off + q, none⟩

theorem rest_start {w : World} {a : Option Addr} {M cap : Nat} (h : Came w a M cap) : Rest a a M 0 := by
  rcases h.row with h | ⟨b, off, c, rfl, _⟩
  · exact .inl (by omega)
  · exact .inr ⟨b, off, rfl, rfl⟩

theorem rest_add {a : Option Addr} {y : Addr} {L p m : Nat} (h : Rest a (some y) L p) (hlt : p + m < L) : Rest a (some (y.add m)) L (p + m) := by
  rcases h with h | ⟨b, off, h1, h2⟩
  · omega
  · refine .inr ⟨b, off, h1, ?_⟩
    rw [Option.some.inj h2, Addr.add_lit, Nat.add_assoc]

theorem rest_cut {a a' : Option Addr} {M q n cap d : Nat} (h : Rest a a' M q) (hn : q + n = M) (hc : n ≤ cap) : Rest a (cutA a' cap d) M (q + d) := by
  rcases h with h | ⟨b, off, h1, rfl⟩
  · exact .inl (by omega)
  · by_cases e : M ≤ q + d
    · exact .inl e
    · refine .inr ⟨b, off, h1, ?_⟩
      unfold cutA
      rw [if_neg (by omega), Option.map_some, Addr.add_lit, Nat.add_assoc]

theorem match_rest {w wr : World} {a a' : Option Addr} {M cap q d : Nat} (h : Came w a M cap) (hb : Below w.heap.size w wr) (hr : Rest a a' M q) (hd : q + d ≤ M) : Match wr a' d a q := by
  by_cases h0 : d = 0
  · exact .inl h0
  · rcases hr with hr | ⟨b, off, h1, h2⟩
    · omega
    · rcases h.row with h | ⟨b', off', c, h3, hc⟩
      · omega
      · obtain ⟨rfl, rfl⟩ : b = b' ∧ off = off' := by have := h1.symm.trans h3; simpa using this
        refine .inr ⟨b, off + q, b, off, h2, h1, fun i hi => ⟨c (q + i), ?_, ?_⟩⟩
        · rw [Nat.add_assoc]
          exact (hb.cell (p := ⟨b, off + (q + i), none⟩) (lt_of_cell (hc (q + i) (by omega)))).trans (hc (q + i) (by omega))
        · exact (hb.cell (p := ⟨b, off + (q + i), none⟩) (lt_of_cell (hc (q + i) (by omega)))).trans (hc (q + i) (by omega))

end Go.Proofs.Qxb6623444a
