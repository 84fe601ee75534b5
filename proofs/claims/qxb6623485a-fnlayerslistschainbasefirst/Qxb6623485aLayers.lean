/-
  The walk of (*Graph).Layers.
-/
import Derived.Test.Qxb6623485aParts
namespace Go.Proofs.Qxb6623485a
open Go.RowKit

theorem Try.info25 : (Try.prog.info? 25).map (fun i => (i.zero, i.size, i.bytes)) = some (some (.pointer none), 1, 8) := by kernel_rfl

/-- The k-th layer of a chain whose nodes are the blocks from G on; the empty chain is nil. -/
def ptr (G : Nat) : Nat → Option Addr
  | 0 => none
  | k + 1 => some ⟨G + k, 0, none⟩

/-- k layers, base first. -/
def Chain (w : World) (G : Nat) (ids : Nat → Int) (k : Nat) : Prop := ∀ i, i < k → Node w (G + i) (ids i) (ptr G i)

theorem lt_of_cell {w : World} {a : Addr} {v : Value} (h : w.cell? a = some v) : a.block < w.heap.size := World.block_lt_of_cell? w a h

theorem node_below {w w' : World} {b : Nat} {id : Int} {base : Option Addr} {B : Nat} (h : Node w b id base) (hb : Below B w w') (hB : b < B) : Node w' b id base :=
  ⟨(hb.cell (p := ⟨b, 4, none⟩) hB).trans h.1, (hb.cell (p := ⟨b, 5, none⟩) hB).trans h.2⟩

theorem ptrs_snoc (p : Nat → Option Addr) (m : Nat) : ptrs p m ++ [Value.pointer (p m)] = ptrs p (m + 1) := by
  simp [ptrs, List.range_succ]

def lenOf : Value → Nat | .slice _ n _ => n | _ => 0

theorem own_shape {w : World} {B : Nat} {v : Value} {n : Nat} {xs : List Value} (h : w.ownsRow B 25 1 v n xs) : (v = .slice none 0 0 ∧ n = 0) ∨ ∃ g cap, v = .slice (some ⟨g, 0, none⟩) n cap ∧ B ≤ g := by
  rcases h.2 with h | ⟨g, cap, _, h, hb, _⟩
  · exact .inl h
  · exact .inr ⟨g, cap, h, hb⟩
theorem own_len {w : World} {B : Nat} {v : Value} {n : Nat} {xs : List Value} (h : w.ownsRow B 25 1 v n xs) : lenOf v = n := by
  rcases own_shape h with ⟨rfl, rfl⟩ | ⟨g, cap, rfl, _⟩
  · rfl
  · rfl

theorem reverse_nil (w : World) : Calls Try.prog 8 #[.slice none 0 0] w fun e w' => e = .returned (.tuple #[]) ∧ w' = w := by
  go_enter Try.func8, Try.ntmps8
  go_wp2
  go_loop [2, 3] (fun vi vj => vi = .int .i64 0 ∧ vj = .int .i64 (-1)) (fun _ _ => 0)
  case atStart => exact ⟨rfl, rfl⟩
  case round =>
    obtain ⟨rfl, rfl⟩ := hrel
    go_wp2
    go_end0
    exact ⟨rfl, rfl⟩

theorem ptrs_rev (G k : Nat) : ptrs (fun t => ptr G (k - (k - 1 - t))) k = ptrs (fun t => ptr G (t + 1)) k := by
  apply List.map_congr_left
  intro t ht
  have htn : t < k := by simpa using ht
  show Value.pointer (ptr G (k - (k - 1 - t))) = Value.pointer (ptr G (t + 1))
  rw [show k - (k - 1 - t) = t + 1 by omega]

set_option maxHeartbeats 1000000 in
theorem layers_any (G k : Nat) (ids : Nat → Int) (w : World) (hk : k ≤ 4096) (hc : Chain w G ids k) :
    Calls Try.prog 6 #[.pointer (ptr G k)] w fun e w' => ∃ v, e = .returned v ∧ w'.ownsRow w.heap.size 25 1 v k (ptrs (fun t => ptr G (t + 1)) k) ∧ Below w.heap.size w w' := by
  obtain ⟨i0, hi, hz0, hz1, hz2⟩ := info_parts Try.info25
  obtain ⟨top, htop⟩ : ∃ a, a = ptr G k := ⟨_, rfl⟩
  rw [← htop]
  have HTop := hide htop
  clear htop
  go_enter Try.func6, Try.ntmps6
  go_wp2
  go_loopw [3, 4] (fun v l wr => ∃ (m j : Nat) (a : Option Addr), m + j ≤ k ∧ k ≤ m + j ∧ l = .pointer a ∧ Hid (a = ptr G j) ∧ wr.ownsRow w.heap.size 25 1 v m (ptrs (fun t => ptr G (k - t)) m) ∧ Below w.heap.size w wr) (fun v _ _ => k - lenOf v)
  case atStart => exact ⟨0, k, top, by omega, by omega, rfl, HTop, World.ownsRow_nil _ _ _ _, Below.refl _ _⟩
  case round =>
    obtain ⟨m, j, a, hmj, hmj2, rfl, HA, hown, hb⟩ := hrel
    match j, HA with
    | 0, HA =>
      have ha : a = none := HA.out
      subst ha
      have hmk : m = k := by omega
      clear hmj hmj2
      subst hmk
      rcases own_shape hown with ⟨hv, hm0⟩ | ⟨g, cap, hv, hg⟩
      · rw [hv] at hown
        rw [hv]
        have HO := hide hown
        have HM := hide hm0
        clear hown hv hm0
        go_wp2_with (go_at_call 8; refine (reverse_nil _).mono ?_; rintro e w' ⟨rfl, rfl⟩)
        go_ret
        have e0 := HM.out
        subst e0
        exact ⟨_, rfl, HO.out, hb⟩
      · rw [hv] at hown
        rw [hv]
        have HO := hide hown
        clear hown hv
        go_wp2_with fail
        refine (reverse_any g m cap w.heap.size (fun t => ptr G (m - t)) _ hk HO.out hg).mono ?_
        rintro e w2 ⟨rfl, ho2, hb2⟩
        rw [ptrs_rev] at ho2
        go_wp2
        go_ret
        exact ⟨_, rfl, ho2, hb.trans hb2⟩
    | j + 1, HA =>
      have ha : a = some ⟨G + j, 0, none⟩ := HA.out
      subst ha
      clear HA
      have hnode := hc j (by omega)
      have hlt := lt_of_cell hnode.2
      have hl1 := own_len hown
      have hp : ptr G (k - m) = some ⟨G + j, 0, none⟩ := by rw [show k - m = j + 1 by omega]; rfl
      go_wp2_with (at_builtin; refine wpList_append_own _ rfl _ _ 24 rfl w.heap.size 25 i0 (.pointer none) 1 8 Try.underlying24 hi hz0 hz1 hz2 rfl (by decide) _ _ _ rfl (hown.alloc _) ⟨wr.heap.size, 0, none⟩ 1 1 [.pointer (some ⟨G + j, 0, none⟩)] rfl rfl ?c1 ?c2 ?c3 ?c4 ?c5 ?_)
      case c2 => first | rfl | (intro u hu; simp at hu; subst hu; rfl)
      case c3 => unfold maxLen; omega
      case c4 => omega
      case c5 => have := hb.size; simp; omega
      intro v' w1 hown' hgrow _
      rw [← hp] at hown'
      rw [ptrs_snoc (fun t => ptr G (k - t))] at hown'
      have hb1 : Below w.heap.size w w1 := (hb.alloc hb.size _).grown hgrow (by have := hb.size; simp; omega) (fun q hq => (hown.lt q hq).1)
      have hc5 : w1.cell? ⟨G + j, 5, none⟩ = some (.pointer (ptr G j)) := (hb1.cell (p := ⟨G + j, 5, none⟩) hlt).trans hnode.2
      have HL := hide (And.intro hl1 (own_len hown'))
      have HO := hide (And.intro hown' hb1)
      clear hown' hgrow hown hb1 hl1 hp hnode hb
      go_wp2
      go_roundw
      case rel => exact ⟨m + 1, j, ptr G j, by omega, by omega, rfl, rfl, HO.out.1, HO.out.2⟩
      case measure => simp only [HL.out.1, HL.out.2]; omega

end Go.Proofs.Qxb6623485a
