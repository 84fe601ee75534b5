/-
  naturalFromDigits as its callers meet it; a slice of bytes that came in; its copy.
-/
import Derived.Test.Qxb6620882aNat
import Derived.Test.Qxb6620882aNatLaw
import Derived.Laws.CopyOwn
import Derived.OpenShut
namespace Go.Proofs.Qxb6620882a
open Go.RowKit

theorem Try.info5b : (Try.prog.info? 5).map (fun i => (i.zero, i.size, i.bytes)) = some (some (.int .u8 0), 1, 1) := by kernel_rfl
theorem Try.size5 : (Try.prog.info? 5).map (·.size) = some 1 := by kernel_rfl

theorem hide {p : Prop} (h : p) : Hid p := h

/-- A slice of the call's own (or an empty one): its L bytes lie at the head of block b. -/
structure Own (w : World) (ao : Option Addr) (b L : Nat) (c : Nat → Nat) : Prop where
  at_ : Hid (L = 0) ∨ ao = some ⟨b, 0, none⟩
  old : L = 0 ∨ b < w.heap.size
  cell : ∀ i, i < L → w.cell? ⟨b, i, none⟩ = some (.int .u8 (c i))

theorem Own.below {w w' : World} {ao : Option Addr} {b L : Nat} {c : Nat → Nat} (h : Own w ao b L c) (hb : Below w.heap.size w w') : Own w' ao b L c := by
  refine ⟨h.at_, ?_, fun i hi => ?_⟩
  · have := hb.size
    rcases h.old with k | k
    · exact .inl k
    · exact .inr (by omega)
  · rcases h.old with k | k
    · omega
    · exact (hb.cell (p := ⟨b, i, none⟩) k).trans (h.cell i hi)

theorem znat (ao : Option Addr) (b L cap Z N T : Nat) (c l : Nat → Nat) (w : World) (hL : L ≤ 2097152) (hZ : Z ≤ 65536) (ho : Own w ao b L c) (hd : Digs L c)
    (HD : Hid (l = limb (dg c L Z))) (HN : Hid (N = (L + Z + 5) / 6)) (HT : Hid (T = topN l N)) :
    Calls Try.prog 17 #[.slice ao L cap, .int .i64 Z] w fun e w' => e = .returned (.slice (some ⟨w.heap.size, 0, none⟩) T N) ∧ Limbs w' w.heap.size l N ∧ w.heap.size < w'.heap.size ∧ Below w.heap.size w w' := by
  have eN : Z / 6 + (L + Z % 6 + 5) / 6 = N := by have := HN.out; omega
  have h := nat_at ao b L cap Z (Z / 6) (Z % 6) ((L + Z % 6 + 5) / 6) c w hL (by omega) (by omega) (show _ = _ by omega) rfl ho.at_ ho.old ho.cell hd (dg c L Z) rfl
  rw [eN, ← HD.out, ← HT.out] at h
  clear eN
  have HC := hide h
  clear h
  go_enter Try.func17, Try.ntmps17
  go_wp2_with fail
  refine HC.out.mono ?_
  rintro e w' ⟨rfl, h1, h2, h3⟩
  go_wp2
  go_ret
  exact ⟨rfl, h1, h2, h3⟩

theorem lt_of_cell {w : World} {a : Addr} {v : Value} (h : w.cell? a = some v) : a.block < w.heap.size := by
  rcases Nat.lt_or_ge a.block w.heap.size with k | k
  · exact k
  · have e : w.heap[a.block]? = none := Array.getElem?_eq_none k
    simp [World.cell?, e] at h

/-- What the walks are told of a slice of bytes that came in. -/
structure Came (w : World) (a : Option Addr) (L cap : Nat) (c : Nat → Nat) : Prop where
  src : Src w a L c
  len : L ≤ maxLen
  nil : a = none → L = 0 ∧ cap = 0
  cell : ∀ x, a = some x → ∀ i, i < L → w.cell? (x.add i) = some (.int .u8 (c i))
  byte : ∀ i, c i ≤ 255

theorem came_nil (w : World) : Came w none 0 0 fun _ => 0 :=
  ⟨.inl rfl, Nat.zero_le _, fun _ => ⟨rfl, rfl⟩, fun _ h => (by cases h), fun _ => Nat.zero_le _⟩

theorem came_row {w : World} {x : Addr} {L cap : Nat} {zs : List Int} (hl : L ≤ cap) (hm : cap ≤ maxLen) (hz : zs.length = cap) (hc : ∀ i, i < zs.length → w.cell? (x.add i) = some (.int .u8 (zs.getD i 0))) (hw : ∀ n ∈ zs, (Lit.int .u8 n).wf = true) :
    Came w (some x) L cap fun i => (zs.getD i 0).toNat := by
  have hb : ∀ i, 0 ≤ zs.getD i 0 ∧ zs.getD i 0 ≤ 255 := fun i => by have := range_u8 hw i; simpa [List.getD] using this
  have he : ∀ i, ((zs.getD i 0).toNat : Int) = zs.getD i 0 := fun i => by have := hb i; omega
  refine ⟨?_, by omega, fun h => (by cases h), fun y hy i hi => ?_, fun i => by have := hb i; omega⟩
  · by_cases h0 : L = 0
    · exact .inl h0
    · obtain ⟨b, off, rfl, hcell⟩ := ints_at hc (by omega)
      exact .inr ⟨b, off, rfl, fun i hi => by rw [hcell i (by omega), he]⟩
  · obtain rfl := Option.some.inj hy
    rw [hc i (by omega), he]

/-- 'copy(zzc, d)' into a row of the same length that was just made. -/
theorem copy_made {w : World} {B L cap : Nat} {x : Addr} {xs : List Value} {c : Nat → Nat} (hown : w.ownsRow B 5 1 (.slice (some ⟨B, 0, none⟩) L L) L xs) (hsrc : ∀ i, i < L → w.cell? (x.add i) = some (.int .u8 (c i))) :
    ∃ w2, (∀ ty, (Builtin.copy_ #[28, 28] ty #[.slice (some ⟨B, 0, none⟩) L L, .slice (some x) L cap]).run Try.prog w = .ok (goInt L) w2) ∧ Own w2 (some ⟨B, 0, none⟩) B L c ∧ B < w2.heap.size ∧ Below B w w2 := by
  obtain ⟨hlen, h⟩ := hown
  rcases h with ⟨h', _⟩ | ⟨g, cap', cur, h', hbg, hg, _, _, hcs, htake⟩
  · simp at h'
  · simp only [Value.slice.injEq, Option.some.injEq, Addr.mk.injEq, and_true, true_and] at h'
    obtain ⟨rfl, rfl⟩ := h'
    have hcl : ((List.range L).map fun i => Value.int .u8 (c i)).length = L := by simp
    have hrun := fun ty => run_copy_row (P := Try.prog) w 28 28 ty 5 B 0 L L x L cap cur 5 ((List.range L).map fun i => Value.int .u8 (c i)) Try.underlying28 Try.size5 hg
      (by rw [hcl]; exact (Nat.min_self L).symm)
      (fun j v hj => by
        have hjL : j < L := by
          rcases Nat.lt_or_ge j L with k | k
          · exact k
          · rw [List.getElem?_eq_none (by rw [hcl]; exact k)] at hj; cases hj
        simp [hjL] at hj
        rw [hsrc j hjL, ← hj])
      (by rw [hcl]; omega) (fun v hv => by obtain ⟨i, _, rfl⟩ := List.mem_map.1 hv; rfl)
    have hrow := setRow_heap w B cur ((cur.toList.take 0 ++ (List.range L).map (fun i => Value.int .u8 (c i)) ++ cur.toList.drop (0 + ((List.range L).map fun i => Value.int .u8 (c i)).length)).toArray) 5 _ hg
    have hsz : B < (w.setRow B (cur.toList.take 0 ++ (List.range L).map (fun i => Value.int .u8 (c i)) ++ cur.toList.drop (0 + ((List.range L).map fun i => Value.int .u8 (c i)).length)).toArray).heap.size := (Array.getElem?_eq_some_iff.1 hrow).1
    refine ⟨_, fun ty => (hrun ty).trans (by rw [hcl]), ⟨.inr rfl, .inr hsz, fun i hi => ?_⟩, hsz, ⟨rfl, rfl, rfl, by simp [World.setRow], fun k hk => setRow_other w B k _ (by omega)⟩⟩
    rw [cell_of_row _ B i _ 5 (0, 0) hrow]
    simp only [List.getElem?_toArray, List.take_zero, List.nil_append]
    rw [List.getElem?_append_left (by rw [hcl]; exact hi)]
    simp [hi]

end Go.Proofs.Qxb6620882a
