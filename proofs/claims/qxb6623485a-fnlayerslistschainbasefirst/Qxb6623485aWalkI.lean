/-
  The walk of FnLayersListsChainBaseFirst.
-/
import Derived.Test.Qxb6623485aLaw
import Derived.LaidEqlPtr
namespace Go.Proofs.Qxb6623485a.fnLayersListsChainBaseFirst
open Go.RowKit

theorem bytes4_any (ao : Option Addr) (L cap : Nat) (w : World) (hL : L ≤ 9223372036854775807) :
    Calls Try.prog 4 #[.slice ao L cap] w fun e w' => e = .returned (.bool (decide (L ≤ 1048576))) ∧ w' = w := by
  by_cases h1 : L ≤ 1048576
  all_goals
    go_enter Try.func4, Try.ntmps4
    go_wp2
    go_ret
    exact ⟨by simp [h1], rfl⟩
theorem bytes4_yes (ao : Option Addr) (L cap : Nat) (w : World) (h : L ≤ 1048576) :
    Calls Try.prog 4 #[.slice ao L cap] w fun e w' => e = .returned (.bool true) ∧ w' = w := by
  have := bytes4_any ao L cap w (by omega)
  simpa [h] using this
theorem bytes4_no (ao : Option Addr) (L cap : Nat) (w : World) (hL : L ≤ 9223372036854775807) (h : ¬ L ≤ 1048576) :
    Calls Try.prog 4 #[.slice ao L cap] w fun e w' => e = .returned (.bool false) ∧ w' = w := by
  have := bytes4_any ao L cap w hL
  simpa [h] using this

theorem info35 : (Try.prog.info? 35).isSome = true := by kernel_rfl

/-- One pointer does not differ from itself. -/
theorem ne_same (w : World) (a : Addr) : (binOp .neq 25 (.pointer (some a)) (.pointer (some a))).run Try.prog w = .ok (.bool false) w := by
  obtain ⟨j, hj⟩ := Option.isSome_iff_exists.1 info35
  have h : ∀ d : Nat, (Op.equalIn (d + 1) 25 (.pointer (some a)) (.pointer (some a))).run Try.prog w = .ok true w := fun d => by
    simp [Op.equalIn, run_underlying Try.underlying25, sizeOf, typeInfo, hj, run_sameAddr_same]
  simp only [binOp]
  simp [Op.equal, Op.maxDepth, h 9999]

set_option maxHeartbeats 2000000 in
theorem main_some (b off L cap : Nat) (ids : Nat → Int) (w : World) (hL : L ≤ 4096) (hc : ∀ i, i < L → w.cell? ⟨b, off + i, none⟩ = some (.int .i64 (ids i))) :
    Calls Try.prog 3 #[.slice (some ⟨b, off, none⟩) L cap] w fun e w' => e = .returned (.bool true) ∧ Below w.heap.size w w' := by
  obtain ⟨i0, hi, hz0, hz1, hz2⟩ := info_parts Try.info25
  go_enter Try.func3, Try.ntmps3
  go_wp2_with (first | (go_at_call 4; refine (bytes4_yes _ L cap _ (by omega)).mono ?_; rintro e w' ⟨rfl, hw⟩; rw [hw]; clear hw w') | (at_make; refine wpList_make_full _ rfl _ _ 24 rfl w.heap.size 25 i0 _ 1 Try.underlying24 hi hz0 hz1 _ _ _ _ L rfl rfl (by omega) (by omega) (by rw [hz2]; omega) (by unfold maxLen; omega) (Nat.le_refl _) ?_))
  intro w1 hown hgrow
  have hG : w.heap.size < w1.heap.size := (hown.lt w.heap.size rfl).2
  have hmade : Made w w1 w.heap.size w1.heap.size L 0 ids := by
    refine ⟨?_, fun i hi => absurd hi (Nat.not_lt_zero _), by omega, (Below.refl _ _).grown hgrow (Nat.le_refl _) (by simp)⟩
    rw [← nrow_zero, ← toList_madeCells_one]; exact hown
  obtain ⟨G, hGe⟩ : ∃ G, G = w1.heap.size := ⟨_, rfl⟩
  rw [← hGe] at hG hmade
  clear hown hgrow hGe hi hz0 hz1 hz2
  go_wp2
  go_loopw [4, 5] (fun be i wr => ∃ (k : Nat) (a : Option Addr), k ≤ L ∧ i = .int .i64 k ∧ be = .pointer a ∧ Hid (a = ptr G k) ∧ Made w wr w.heap.size G L k ids) (fun _ i _ => L - (intOf i).toNat)
  case atStart => exact ⟨0, none, Nat.zero_le _, rfl, rfl, rfl, hmade⟩
  case round =>
    clear hmade
    obtain ⟨k, a, hk, rfl, rfl, HA, hm⟩ := hrel
    by_cases hlt : k < L
    · have hck : wr.cell? ⟨b, off + k, none⟩ = some (.int .i64 (ids k)) := (hm.bel.cell (p := ⟨b, off + k, none⟩) (lt_of_cell (hc k hlt))).trans (hc k hlt)
      have HM := hide hm
      clear hm
      go_wp2_with fail
      refine (graph_any (ids k) a _).mono ?_
      rintro e w2 ⟨rfl, hs, hn, hb2⟩
      rw [HA.out] at hn
      obtain ⟨r1, r2, hsz, r3⟩ := made_step HM.out hlt hG hs hn hb2
      have R3 := hide r3
      rw [hsz]
      clear r3 hs hn hb2 hsz
      go_wp2
      go_roundw
      case rel => exact ⟨k + 1, _, by omega, by go_num, rfl, rfl, R3.out⟩
      case measure => simp [intOf]; omega
    · obtain rfl : L = k := by omega
      clear hlt hk HA
      rename World => wa
      have hsz := hm.size
      have HW := hide hm.bel
      have HCh := hide hm.chain
      have hnodes : ∀ t, t < L → wa.cell? ⟨w.heap.size, t, none⟩ = some (.pointer (some ⟨G + t, 0, none⟩)) := fun t ht => by
        rw [hm.row.cellAt t (by omega), nrow_get _ _ _ _ ht, if_pos ht]; rfl
      have HN := hide hnodes
      have HS := hide hsz
      have hwa : w.heap.size < wa.heap.size := by omega
      clear hnodes hm hsz
      go_wp2
      go_loopw [7] (fun i wr => ∃ k : Nat, k ≤ L + 1 ∧ i = .int .i64 k ∧ Below wa.heap.size wa wr) (fun i _ => L + 1 - (intOf i).toNat)
      case atStart => exact ⟨0, Nat.zero_le _, rfl, Below.refl _ _⟩
      case round =>
        obtain ⟨k, hk, rfl, hb⟩ := hrel
        by_cases hlt : k < L + 1
        · have HC2 := hide (chain_below (k := k) HCh.out (by omega) hb (by have := HS.out; omega))
          match k with
          | 0 =>
            have HLa : Hid (Calls Try.prog 6 #[.pointer none] wr fun e w' => ∃ v, e = .returned v ∧ w'.ownsRow wr.heap.size 25 1 v 0 (ptrs (fun t => ptr G (t + 1)) 0) ∧ Below wr.heap.size wr w') := layers_any G 0 ids wr (by omega) HC2.out
            go_wp2_with fail
            refine HLa.out.mono ?_
            rintro e w5 ⟨v, rfl, ho, hb5⟩
            have HB5 := hide (hb.trans (hb5.mono hb.size))
            rcases own_shape ho with ⟨hv, _⟩ | ⟨g, cap', hv, hg⟩
            all_goals
              rw [hv]
              clear ho hv hb5
              go_wp2
              go_loop [10] (fun i => i = .int .i64 0) (fun _ => 0)
              case atStart => rfl
              case round =>
                subst hrel
                go_wp2
                go_roundw
                case rel => exact ⟨1, by omega, rfl, HB5.out⟩
                case measure => simp [intOf]
          | k + 1 =>
            have hck : wr.cell? ⟨w.heap.size, k, none⟩ = some (.pointer (some ⟨G + k, 0, none⟩)) := (hb.cell (p := ⟨w.heap.size, k, none⟩) hwa).trans (HN.out k (by omega))
            have HLa : Hid (Calls Try.prog 6 #[.pointer (some ⟨G + k, 0, none⟩)] wr fun e w' => ∃ v, e = .returned v ∧ w'.ownsRow wr.heap.size 25 1 v (k + 1) (ptrs (fun t => ptr G (t + 1)) (k + 1)) ∧ Below wr.heap.size wr w') := layers_any G (k + 1) ids wr (by omega) HC2.out
            go_wp2_with fail
            refine HLa.out.mono ?_
            rintro e w5 ⟨v, rfl, ho, hb5⟩
            have HB5 := hide (hb.trans (hb5.mono hb.size))
            rcases own_shape ho with ⟨_, h0⟩ | ⟨g, cap', hv, hg⟩
            · omega
            · rw [hv] at ho
              rw [hv]
              have HG : Hid (∀ t, t < k + 1 → w5.cell? ⟨g, t, none⟩ = some (.pointer (some ⟨G + t, 0, none⟩))) := fun t ht => by
                rw [ho.cellAt t (by omega)]
                simp [ptrs, ht, ptr]
              clear ho hv hb5 hck
              go_wp2
              go_loopw [10] (fun i ws => ∃ t : Nat, t ≤ k + 1 ∧ i = .int .i64 t ∧ ∃ q, ws = w5.drewN q) (fun i _ => k + 1 - (intOf i).toNat)
              case atStart => exact ⟨0, Nat.zero_le _, rfl, 0, rfl⟩
              case round =>
                obtain ⟨t, ht, rfl, q, rfl⟩ := hrel
                by_cases htk : t < k + 1
                · have htL : (t : Int) < (L : Int) := by omega
                  have htk' : (t : Int) < (k : Int) + 1 := by omega
                  have ht0 : 0 ≤ (t : Int) := by omega
                  have c1 := HG.out t htk
                  have c2 : w5.cell? ⟨w.heap.size, t, none⟩ = some (.pointer (some ⟨G + t, 0, none⟩)) := (HB5.out.cell (p := ⟨w.heap.size, t, none⟩) hwa).trans (HN.out t (by omega))
                  have c3 : w5.cell? ⟨b, off + t, none⟩ = some (.int .i64 (ids t)) := ((HW.out.trans (HB5.out.mono (by omega))).cell (p := ⟨b, off + t, none⟩) (lt_of_cell (hc t (by omega)))).trans (hc t (by omega))
                  have HNode := hide (chain_below (k := k + 1) HCh.out (by omega) HB5.out (by have := HS.out; omega) t htk)
                  have kne := ne_same
                  go_wp2
                  go_quiet (fail)
                  go_wp2
                  obtain ⟨W, hW⟩ : ∃ W, W = (w5.drewN q).drewN nq := ⟨_, rfl⟩
                  rw [← hW]
                  have d1 : W.cell? ⟨g, t, none⟩ = some (.pointer (some ⟨G + t, 0, none⟩)) := by rw [hW]; exact c1
                  have d3 : W.cell? ⟨b, off + t, none⟩ = some (.int .i64 (ids t)) := by rw [hW]; exact c3
                  have HNodeW : Hid (Node W (G + t) (ids t) (ptr G t)) := by rw [hW]; exact HNode.out
                  have HWe := hide hW
                  clear hW c1 c2 c3 HNode
                  go_quiet ((go_at_call 7; exact Calls.quiet_of_same (layer_any (G + t) (ids t) (ptr G t) _ HNodeW.out)))
                  go_wp2
                  go_roundw
                  case rel => exact ⟨t + 1, by omega, by go_num, _, by rw [HWe.out, World.drewN_drewN, World.drewN_drewN]⟩
                  case measure => simp [intOf]; omega
                · go_wp2
                  go_roundw
                  case rel => exact ⟨k + 1 + 1, by omega, by go_num, below_drewN HB5.out _⟩
                  case measure => simp [intOf]; omega
        · go_wp2
          go_ret
          exact ⟨rfl, HW.out.trans (hb.mono (by omega))⟩
set_option maxHeartbeats 2000000 in
theorem main_zero (ao : Option Addr) (L cap : Nat) (ids : Nat → Int) (w : World) (hL : L ≤ 4096) (HL0 : Hid (L = 0)) :
    Calls Try.prog 3 #[.slice ao L cap] w fun e w' => e = .returned (.bool true) ∧ Below w.heap.size w w' := by
  obtain ⟨i0, hi, hz0, hz1, hz2⟩ := info_parts Try.info25
  go_enter Try.func3, Try.ntmps3
  go_wp2_with (first | (go_at_call 4; refine (bytes4_yes _ L cap _ (by omega)).mono ?_; rintro e w' ⟨rfl, hw⟩; rw [hw]; clear hw w') | (at_make; refine wpList_make_full _ rfl _ _ 24 rfl w.heap.size 25 i0 _ 1 Try.underlying24 hi hz0 hz1 _ _ _ _ L rfl rfl (by omega) (by omega) (by rw [hz2]; omega) (by unfold maxLen; omega) (Nat.le_refl _) ?_))
  intro w1 hown hgrow
  have hG : w.heap.size < w1.heap.size := (hown.lt w.heap.size rfl).2
  have hmade : Made w w1 w.heap.size w1.heap.size L 0 ids := by
    refine ⟨?_, fun i hi => absurd hi (Nat.not_lt_zero _), by omega, (Below.refl _ _).grown hgrow (Nat.le_refl _) (by simp)⟩
    rw [← nrow_zero, ← toList_madeCells_one]; exact hown
  obtain ⟨G, hGe⟩ : ∃ G, G = w1.heap.size := ⟨_, rfl⟩
  rw [← hGe] at hG hmade
  clear hown hgrow hGe hi hz0 hz1 hz2
  go_wp2
  go_loopw [4, 5] (fun be i wr => ∃ (k : Nat) (a : Option Addr), k ≤ L ∧ i = .int .i64 k ∧ be = .pointer a ∧ Hid (a = ptr G k) ∧ Made w wr w.heap.size G L k ids) (fun _ i _ => L - (intOf i).toNat)
  case atStart => exact ⟨0, none, Nat.zero_le _, rfl, rfl, rfl, hmade⟩
  case round =>
    clear hmade
    obtain ⟨k, a, hk, rfl, rfl, HA, hm⟩ := hrel
    by_cases hlt : k < L
    · exact absurd (HL0.out ▸ hlt) (Nat.not_lt_zero _)
    · obtain rfl : L = k := by omega
      clear hlt hk HA
      rename World => wa
      have hsz := hm.size
      have HW := hide hm.bel
      have HCh := hide hm.chain
      have hnodes : ∀ t, t < L → wa.cell? ⟨w.heap.size, t, none⟩ = some (.pointer (some ⟨G + t, 0, none⟩)) := fun t ht => by
        rw [hm.row.cellAt t (by omega), nrow_get _ _ _ _ ht, if_pos ht]; rfl
      have HN := hide hnodes
      have HS := hide hsz
      have hwa : w.heap.size < wa.heap.size := by omega
      clear hnodes hm hsz
      go_wp2
      go_loopw [7] (fun i wr => ∃ k : Nat, k ≤ L + 1 ∧ i = .int .i64 k ∧ Below wa.heap.size wa wr) (fun i _ => L + 1 - (intOf i).toNat)
      case atStart => exact ⟨0, Nat.zero_le _, rfl, Below.refl _ _⟩
      case round =>
        obtain ⟨k, hk, rfl, hb⟩ := hrel
        by_cases hlt : k < L + 1
        · have HC2 := hide (chain_below (k := k) HCh.out (by omega) hb (by have := HS.out; omega))
          match k with
          | 0 =>
            have HLa : Hid (Calls Try.prog 6 #[.pointer none] wr fun e w' => ∃ v, e = .returned v ∧ w'.ownsRow wr.heap.size 25 1 v 0 (ptrs (fun t => ptr G (t + 1)) 0) ∧ Below wr.heap.size wr w') := layers_any G 0 ids wr (by omega) HC2.out
            go_wp2_with fail
            refine HLa.out.mono ?_
            rintro e w5 ⟨v, rfl, ho, hb5⟩
            have HB5 := hide (hb.trans (hb5.mono hb.size))
            rcases own_shape ho with ⟨hv, _⟩ | ⟨g, cap', hv, hg⟩
            all_goals
              rw [hv]
              clear ho hv hb5
              go_wp2
              go_loop [10] (fun i => i = .int .i64 0) (fun _ => 0)
              case atStart => rfl
              case round =>
                subst hrel
                go_wp2
                go_roundw
                case rel => exact ⟨1, by omega, rfl, HB5.out⟩
                case measure => simp [intOf]
          | k + 1 => exact absurd (HL0.out ▸ hlt) (by omega)
        · go_wp2
          go_ret
          exact ⟨rfl, HW.out.trans (hb.mono (by omega))⟩

/-- WHAT THE WALK IS TOLD OF A SLICE OF INTEGERS THAT CAME IN: it is nil; or it leads to a row of 'cap' cells, the numbers 'zs' (the first 'len' are its elements, the rest its spare room), each fitting its kind. -/
def IsRow (k : IntKind) (w : World) (a : Option Addr) (len cap : Nat) (zs : List Int) : Prop :=
  (a = none ∧ len = 0 ∧ cap = 0 ∧ zs = []) ∨
  ∃ x, a = some x ∧ len ≤ cap ∧ cap ≤ maxLen ∧ zs.length = cap ∧ (∀ i, i < zs.length → w.cell? (x.add i) = some (.int k (zs.getD i 0))) ∧ ∀ n ∈ zs, (Lit.int k n).wf = true

theorem came_of {w : World} {a : Option Addr} {len cap : Nat} {zs : List Int} (h : IsRow .i64 w a len cap zs) : Came w a len fun i => zs.getD i 0 := by
  rcases h with ⟨rfl, rfl, rfl, _⟩ | ⟨x, rfl, h1, h2, h3, h4, h5⟩
  · exact ⟨by omega, .inl rfl⟩
  · refine ⟨by unfold maxLen at h2; omega, ?_⟩
    by_cases h0 : len = 0
    · exact .inl h0
    · obtain ⟨b, off, rfl, hcell⟩ := ints_at h4 (by omega)
      exact .inr ⟨b, off, rfl, fun i hi => hcell i (by omega)⟩

set_option maxHeartbeats 1000000 in
theorem walk (a0 : Option Addr) (len0 cap0 : Nat) (z0 : List Int) (w : World) (w0 : IsRow .i64 w a0 len0 cap0 z0) :
    Calls Try.prog 3 #[.slice a0 len0 cap0] w fun e w' => e = .returned (.bool true) ∧ Below w.heap.size w w' := by
  have c0 := came_of w0
  clear w0
  have hlen := c0.len
  by_cases hB : len0 ≤ 1048576
  · by_cases hL : len0 ≤ 4096
    · rcases c0.row with h0 | ⟨b, off, rfl, hc⟩
      · exact main_zero a0 len0 cap0 (fun _ => 0) w hL h0
      · exact main_some b off len0 cap0 _ w hL hc
    · go_enter Try.func3, Try.ntmps3
      go_wp2_with (go_at_call 4; refine (bytes4_yes _ len0 cap0 _ hB).mono ?_; rintro e w' ⟨rfl, rfl⟩)
      go_ret
      exact ⟨rfl, Below.refl _ _⟩
  · go_enter Try.func3, Try.ntmps3
    go_wp2_with (go_at_call 4; refine (bytes4_no _ len0 cap0 _ hlen hB).mono ?_; rintro e w' ⟨rfl, rfl⟩)
    go_ret
    exact ⟨rfl, Below.refl _ _⟩

end Go.Proofs.Qxb6623485a.fnLayersListsChainBaseFirst
