/-
  The walk of unquote and its shim.
-/
import Derived.Test.Qxb6617505aBuilder
import Derived.Test.Qxb6617505aUnMath
namespace Go.Proofs.Qxb6617505a
open Go.RowKit

theorem cells_snoc (l : List UInt8) (c : UInt8) : Lib.byteCells l ++ [Value.int .u8 (c.toNat : Int)] = Lib.byteCells (l ++ [c]) := by
  simp [Lib.byteCells]
theorem cells_len (l : List UInt8) : (Lib.byteCells l).length = l.length := by simp [Lib.byteCells]

theorem hide {p : Prop} (h : p) : Hid p := h
theorem ret_str {a b : ByteArray} (h : a = b) : Ending.returned (.string a) = .returned (.string b) := by rw [h]

theorem cells_back (l : List UInt8) : Lib.byteCells l ++ [Value.int .u8 92] = Lib.byteCells (l ++ [92]) := cells_snoc l 92

set_option maxHeartbeats 1000000 in
theorem unq_yes (v s : ByteArray) (w : World) (hv : v.size ≤ 1048576) (h2 : 2 ≤ v.size) (hq0 : v[0].toNat = 34) (hq1 : v[v.size - 1].toNat = 34) (hs : Hid (s = v.extract 1 (v.size - 1))) :
    Calls Try.prog 7 #[.string v] w fun e w' => e = .returned (.string ⟨(un s.data.toList).toArray⟩) ∧ Below w.heap.size w w' := by
  have hsz := inn_size hs.out
  have hB0 : Lib.IsBuilder 27 5 w.heap.size w.heap.size (Lib.byteCells []) (w.alloc (.cells #[.pointer none, .slice none 0 0] 27)) :=
    .inl ⟨Nat.le_refl _, .slice none 0 0, heap_alloc_new w _, World.ownsRow_nil _ _ _ _, by simp [Value.ownBlock]⟩
  have HS : Hid (s.size = v.size - 1 - 1) := hsz
  have hs1 : s.size + 2 ≤ v.size := by omega
  have hs2 : v.size ≤ s.size + 2 := by omega
  clear hsz
  have e1 : (((v[0]'(by omega)).toNat : Int) != 34) = false := by simp; omega
  have e2 : (((v[v.size - 1]'(by omega)).toNat : Int) != 34) = false := by simp; omega
  clear hq0 hq1
  go_enter Try.func7, Try.ntmps7
  go_wp2
  clear e1 e2
  go_loopw [4] (fun i wr => ∃ (p : Nat) (out : List UInt8), p ≤ s.size ∧ i = .int .i64 ((p + 1 : Nat) : Int) ∧ Lib.IsBuilder 27 5 w.heap.size w.heap.size (Lib.byteCells out) wr ∧ Hid (Sofar s p out) ∧ Below w.heap.size w wr) (fun i _ => v.size - (intOf i).toNat)
  case atStart => exact ⟨0, [], Nat.zero_le _, rfl, hB0, sofar_zero s, (Below.refl _ _).alloc (Nat.le_refl _) _⟩
  case round =>
    clear hB0
    obtain ⟨p, out, hp, rfl, hbd, HSo, hb⟩ := hrel
    have hol := sofar_len HSo.out
    have hbs := hb.size
    by_cases hlt : p < s.size
    · have hg := inn_get hs.out p hlt (by omega)
      by_cases hc : (v[p + 1]'(by omega)).toNat = 92
      · by_cases hn : p + 1 < s.size
        · have hg2 := inn_get hs.out (p + 1) hn (by omega)
          have HN : Hid (Sofar s (p + 2) (out ++ [v[p + 1 + 1]'(by omega)])) := by
            have := sofar_esc HSo.out hn (by rw [hg]; exact nat92.1 hc)
            rw [hg2] at this
            exact this
          clear hg hg2 HSo
          go_wp2_with fail
          refine (write_any w.heap.size w.heap.size (Lib.byteCells out) ((v[p + 1 + 1]'(by omega)).toNat : Int) _ hbd (by rw [cells_len]; omega) hbs).mono ?_
          rintro e w1 ⟨rfl, hb1, hbel⟩
          rw [cells_snoc] at hb1
          have R := hide (And.intro hb1 (hb.trans hbel))
          clear hb1 hbel hbd
          go_wp2
          go_roundw
          case rel => exact ⟨p + 2, out ++ [v[p + 1 + 1]'(by omega)], by omega, by go_num, .inr R.out.1, HN, R.out.2⟩
          case measure => simp [intOf]; omega
        · have HN : Hid (Sofar s (p + 1) (out ++ [92])) := by
            have := sofar_plain HSo.out hlt (.inr (by omega))
            rw [hg, nat92.1 hc] at this
            exact this
          clear hg HSo
          go_wp2_with fail
          refine (write_any w.heap.size w.heap.size (Lib.byteCells out) 92 _ hbd (by rw [cells_len]; omega) hbs).mono ?_
          rintro e w1 ⟨rfl, hb1, hbel⟩
          rw [cells_back] at hb1
          have R := hide (And.intro hb1 (hb.trans hbel))
          clear hb1 hbel hbd
          go_wp2
          go_roundw
          case rel => exact ⟨p + 1, out ++ [92], by omega, by go_num, .inr R.out.1, HN, R.out.2⟩
          case measure => simp [intOf]; omega
      · have HN : Hid (Sofar s (p + 1) (out ++ [v[p + 1]'(by omega)])) := by
          have := sofar_plain HSo.out hlt (.inl (by rw [hg]; exact fun k => hc (nat92.2 k)))
          rw [hg] at this
          exact this
        clear hg HSo
        go_wp2_with fail
        refine (write_any w.heap.size w.heap.size (Lib.byteCells out) ((v[p + 1]'(by omega)).toNat : Int) _ hbd (by rw [cells_len]; omega) hbs).mono ?_
        rintro e w1 ⟨rfl, hb1, hbel⟩
        rw [cells_snoc] at hb1
        have R := hide (And.intro hb1 (hb.trans hbel))
        clear hb1 hbel hbd
        go_wp2
        go_roundw
        case rel => exact ⟨p + 1, out ++ [v[p + 1]'(by omega)], by omega, by go_num, .inr R.out.1, HN, R.out.2⟩
        case measure => simp [intOf]; omega
    · have ho := sofar_end HSo.out (by omega)
      rw [ho] at hbd
      have HBd := hide hbd
      clear hbd ho HSo
      go_wp2_with fail
      refine (Try.Builder_String_any w.heap.size w.heap.size (un s.data.toList) _ HBd.out hbs).mono ?_
      rintro e w1 ⟨rfl, hbel⟩
      go_wp2
      go_ret
      exact ⟨rfl, hb.trans hbel⟩

end Go.Proofs.Qxb6617505a
