/-
  The walk of zzUnquoteModel; of both where v is not quoted.
-/
import Derived.Test.Qxb6617505aUnq
namespace Go.Proofs.Qxb6617505a
open Go.RowKit

/-- v is at least two bytes long and opens and closes with a double quote. -/
def Quoted (v : ByteArray) : Prop := ∃ h : 2 ≤ v.size, (v[0]'(by omega)).toNat = 34 ∧ (v[v.size - 1]'(by omega)).toNat = 34

theorem unq_no (v : ByteArray) (w : World) (hv : v.size ≤ 1048576) (hq : ¬ Quoted v) :
    Calls Try.prog 7 #[.string v] w fun e w' => e = .returned (.string v) ∧ w' = w := by
  by_cases h2 : v.size < 2
  · go_enter Try.func7, Try.ntmps7
    go_wp2
    go_ret
    exact ⟨rfl, rfl⟩
  · by_cases h0 : (v[0]'(by omega)).toNat = 34
    · have h1 : ¬ (v[v.size - 1]'(by omega)).toNat = 34 := fun k => hq ⟨by omega, h0, k⟩
      have e1 : (((v[0]'(by omega)).toNat : Int) != 34) = false := by simp; omega
      have e2 : (((v[v.size - 1]'(by omega)).toNat : Int) != 34) = true := by simp; omega
      clear h0 h1 hq
      go_enter Try.func7, Try.ntmps7
      go_wp2
      go_ret
      exact ⟨rfl, rfl⟩
    · have e1 : (((v[0]'(by omega)).toNat : Int) != 34) = true := by simp; omega
      clear h0 hq
      go_enter Try.func7, Try.ntmps7
      go_wp2
      go_ret
      exact ⟨rfl, rfl⟩

theorem model_no (v : ByteArray) (w : World) (hv : v.size ≤ 1048576) (hq : ¬ Quoted v) :
    Calls Try.prog 6 #[.string v] w fun e w' => e = .returned (.string v) ∧ w' = w := by
  by_cases h2 : v.size < 2
  · go_enter Try.func6, Try.ntmps6
    go_wp2
    go_ret
    exact ⟨rfl, rfl⟩
  · by_cases h0 : (v[0]'(by omega)).toNat = 34
    · have h1 : ¬ (v[v.size - 1]'(by omega)).toNat = 34 := fun k => hq ⟨by omega, h0, k⟩
      have e1 : (((v[0]'(by omega)).toNat : Int) != 34) = false := by simp; omega
      have e2 : (((v[v.size - 1]'(by omega)).toNat : Int) != 34) = true := by simp; omega
      clear h0 h1 hq
      go_enter Try.func6, Try.ntmps6
      go_wp2
      go_ret
      exact ⟨rfl, rfl⟩
    · have e1 : (((v[0]'(by omega)).toNat : Int) != 34) = true := by simp; omega
      clear h0 hq
      go_enter Try.func6, Try.ntmps6
      go_wp2
      go_ret
      exact ⟨rfl, rfl⟩

/-- A row of bytes that the call owns, as a string. -/
theorem conv_own {w : World} {B : Nat} {v : Value} {l : List UInt8} (h : w.ownsRow B 5 1 v l.length (Lib.byteCells l)) : (convert 24 9 v).run Try.prog w = .ok (.string ⟨l.toArray⟩) w := by
  rcases h.2 with ⟨rfl, h0⟩ | ⟨g, cap, _, rfl, _⟩
  · obtain rfl : l = [] := List.eq_nil_of_length_eq_zero h0
    exact run_convert_bytes_nil (P := Try.prog) w 24 5 Try.underlying24 Try.underlying5 0 0 9 Try.underlying9
  · rw [run_convert_bytes_arg (P := Try.prog) w 24 5 Try.underlying24 Try.underlying5 g 0 l.length cap (l.map fun c => (c.toNat : Int)) (by simp) (fun i hi => by
      rw [Nat.zero_add, h.cellAt i (by omega)]
      simp [Lib.byteCells, hi]) 9 Try.underlying9]
    simp [strOfNums, Function.comp_def]

/-- One byte more. -/
theorem own_snoc {w w0 w' : World} {B : Nat} {v v' : Value} {l : List UInt8} {c : UInt8} {o : Obj} (hown : w.ownsRow B 5 1 v l.length (Lib.byteCells l)) (hb : Below B w0 w) (hB : B ≤ w.heap.size)
    (h : w'.ownsRow B 5 1 v' (l.length + 1) (Lib.byteCells l ++ [Value.int .u8 (c.toNat : Int)])) (hg : (w.alloc o).grownBy w' v.ownBlock) :
    w'.ownsRow B 5 1 v' (l ++ [c]).length (Lib.byteCells (l ++ [c])) ∧ Below B w0 w' := by
  rw [cells_snoc] at h
  refine ⟨by simpa using h, (hb.alloc hB _).grown hg (by simp; omega) (fun q hq => (hown.lt q hq).1)⟩

set_option maxHeartbeats 2000000 in
theorem model_yes (v s : ByteArray) (w : World) (hv : v.size ≤ 1048576) (h2 : 2 ≤ v.size) (hq0 : v[0].toNat = 34) (hq1 : v[v.size - 1].toNat = 34) (hs : Hid (s = v.extract 1 (v.size - 1))) :
    Calls Try.prog 6 #[.string v] w fun e w' => e = .returned (.string ⟨(un s.data.toList).toArray⟩) ∧ Below w.heap.size w w' := by
  obtain ⟨i0, hi, hz0, hz1, hz2⟩ := info_parts info5
  have hsz := inn_size hs.out
  have HS : Hid (s.size = v.size - 1 - 1) := hsz
  have hs1 : s.size + 2 ≤ v.size := by omega
  have hs2 : v.size ≤ s.size + 2 := by omega
  clear hsz
  have e1 : (((v[0]'(by omega)).toNat : Int) != 34) = false := by simp; omega
  have e2 : (((v[v.size - 1]'(by omega)).toNat : Int) != 34) = false := by simp; omega
  have e3 : v.extract 1 (v.size - 1) = s := hs.out.symm
  clear hq0 hq1
  go_enter Try.func6, Try.ntmps6
  go_wp2_with (at_make; refine wpList_make_own _ rfl _ _ 24 rfl w.heap.size 5 i0 _ 1 Try.underlying24 hi hz0 hz1 _ _ _ s.size rfl rfl (by omega) (by rw [hz2]; omega) (by unfold maxLen; omega) (Nat.le_refl _) ?_)
  intro w1 hown hgrow
  have hb0 : Below w.heap.size w w1 := (Below.refl _ _).grown hgrow (Nat.le_refl _) (by simp)
  have hown0 : w1.ownsRow w.heap.size 5 1 (.slice (some ⟨w.heap.size, 0, none⟩) 0 s.size) ([] : List UInt8).length (Lib.byteCells []) := hown
  clear hown hgrow e1 e2 e3
  go_wp2
  go_loopw [5, 6] (fun v i wr => ∃ (p : Nat) (out : List UInt8), p ≤ s.size ∧ i = .int .i64 p ∧ wr.ownsRow w.heap.size 5 1 v out.length (Lib.byteCells out) ∧ Hid (Sofar s p out) ∧ Below w.heap.size w wr) (fun _ i _ => s.size - (intOf i).toNat)
  case atStart => exact ⟨0, [], Nat.zero_le _, rfl, hown0, sofar_zero s, hb0⟩
  case round =>
    clear hown0 hb0
    obtain ⟨p, out, hp, rfl, hown, HSo, hb⟩ := hrel
    have hol := sofar_len HSo.out
    have hbs := hb.size
    by_cases hlt : p < s.size
    · by_cases hc : s[p].toNat = 92
      · have HO := hide hown
        have HBe := hide hb
        clear hown hb
        go_wp2
        go_loop [7] (fun j => ∃ k : Nat, p + k ≤ s.size ∧ j = .int .i64 ((p + k : Nat) : Int) ∧ Hid (∀ t, (ht : t < s.size) → p ≤ t → t < p + k → s[t] = 92)) (fun j => s.size - (intOf j).toNat)
        case atStart => exact ⟨0, by omega, rfl, fun t ht h1 h2 => by omega⟩
        case round =>
          obtain ⟨k, hk, rfl, HR⟩ := hrel
          by_cases hmore : p + k < s.size
          · by_cases hc2 : s[p + k].toNat = 92
            · have HR' : Hid (∀ t, (ht : t < s.size) → p ≤ t → t < p + (k + 1) → s[t] = 92) := fun t ht h1 h2 => by
                rcases Nat.lt_or_ge t (p + k) with c | c
                · exact HR.out t ht h1 c
                · obtain rfl : t = p + k := by omega
                  exact nat92.1 hc2
              clear HR
              go_wp2
              go_round
              case rel => exact ⟨k + 1, by omega, by go_num, HR'⟩
              case measure => simp [intOf]; omega
            · have e7 : ((s[p + k].toNat : Int) == 92) = false := by simp; omega
              have e8 : ((p : Int) + (k : Int) == (s.size : Int)) = false := by simp; omega
              have hk1 : 1 ≤ k := by
                rcases Nat.eq_zero_or_pos k with c | c
                · subst c; exact absurd hc hc2
                · exact c
              obtain ⟨K, hKe⟩ : ∃ K, K = k / 2 := ⟨_, rfl⟩
              have HN : Hid (Sofar s (p + k) (out ++ List.replicate K 92)) := by
                have := sofar_run HSo.out hk HR.out (fun _ c => hc2 (nat92.2 c))
                rw [if_neg (by omega), ← hKe] at this
                exact this
              have hK1 : ((p : Int) + (k : Int) - (p : Int)) / 2 ≤ (K : Int) := by omega
              have hK2 : (K : Int) ≤ ((p : Int) + (k : Int) - (p : Int)) / 2 := by omega
              clear hKe HR HSo hc2
              go_wp2
              clear e7 e8
              go_loopw [5, 10] (fun v c ws => ∃ (t : Nat) (l : List UInt8), t ≤ K ∧ c = .int .i64 t ∧ ws.ownsRow w.heap.size 5 1 v l.length (Lib.byteCells l) ∧ Hid (l = out ++ List.replicate t 92) ∧ Below w.heap.size w ws) (fun _ c _ => K - (intOf c).toNat)
              case atStart => exact ⟨0, out, Nat.zero_le _, rfl, HO.out, by show _ = _; simp, HBe.out⟩
              case round =>
                obtain ⟨t, l, ht, rfl, hown, HLl, hb⟩ := hrel
                have hbs2 := hb.size
                have hll : l.length ≤ 2097152 := by rw [HLl.out]; simp; omega
                by_cases htK : t < K
                · have HL2 : Hid (l ++ [92] = out ++ List.replicate (t + 1) 92) := by
                    show _ = _
                    rw [HLl.out, List.replicate_succ', List.append_assoc]
                  clear HLl
                  go_wp2_with (at_builtin; refine wpList_append_own _ rfl _ _ 24 rfl w.heap.size 5 i0 (.int .u8 0) 1 1 Try.underlying24 hi hz0 hz1 hz2 rfl (by decide) _ _ _ rfl (hown.alloc _) ⟨wr.heap.size, 0, none⟩ 1 1 [.int .u8 92] rfl rfl ?f1 ?f2 ?f3 ?f4 ?f5 ?_)
                  case f1 =>
                    intro j u hj
                    match j, hj with
                    | 0, hj => simp at hj; subst hj; simp [Addr.add]
                  case f2 => intro u hu; simp at hu; subst hu; rfl
                  case f3 => unfold maxLen; omega
                  case f4 => omega
                  case f5 => simp; omega
                  intro v' w2 hown' hgrow _
                  have R := hide (own_snoc (c := 92) hown hb hbs2 hown' hgrow)
                  clear hown' hgrow hown
                  go_wp2
                  go_roundw
                  case rel => exact ⟨t + 1, l ++ [92], by omega, by go_num, R.out.1, HL2, R.out.2⟩
                  case measure => simp [intOf]; omega
                · obtain rfl : K = t := by omega
                  have HF : Hid (Sofar s (p + k) l) := by
                    show Sofar _ _ _
                    rw [HLl.out]
                    exact HN.out
                  have R := hide (And.intro hown hb)
                  clear HLl hown
                  go_wp2
                  go_roundw
                  case rel => exact ⟨p + k, l, hk, by go_num, R.out.1, HF, R.out.2⟩
                  case measure => simp [intOf]; omega
          · have hk1 : 1 ≤ k := by omega
            obtain ⟨K, hKe⟩ : ∃ K, K = k - k / 2 := ⟨_, rfl⟩
            have HN : Hid (Sofar s (p + k) (out ++ List.replicate K 92)) := by
              have := sofar_run HSo.out hk HR.out (fun c => absurd c hmore)
              rw [if_pos (by omega), ← hKe] at this
              exact this
            have hK1 : (p : Int) + (k : Int) - (p : Int) - ((p : Int) + (k : Int) - (p : Int)) / 2 ≤ (K : Int) := by omega
            have hK2 : (K : Int) ≤ (p : Int) + (k : Int) - (p : Int) - ((p : Int) + (k : Int) - (p : Int)) / 2 := by omega
            clear hKe HR HSo
            go_wp2
            go_loopw [5, 10] (fun v c ws => ∃ (t : Nat) (l : List UInt8), t ≤ K ∧ c = .int .i64 t ∧ ws.ownsRow w.heap.size 5 1 v l.length (Lib.byteCells l) ∧ Hid (l = out ++ List.replicate t 92) ∧ Below w.heap.size w ws) (fun _ c _ => K - (intOf c).toNat)
            case atStart => exact ⟨0, out, Nat.zero_le _, rfl, HO.out, by show _ = _; simp, HBe.out⟩
            case round =>
              obtain ⟨t, l, ht, rfl, hown, HLl, hb⟩ := hrel
              have hbs2 := hb.size
              have hll : l.length ≤ 2097152 := by rw [HLl.out]; simp; omega
              by_cases htK : t < K
              · have HL2 : Hid (l ++ [92] = out ++ List.replicate (t + 1) 92) := by
                  show _ = _
                  rw [HLl.out, List.replicate_succ', List.append_assoc]
                clear HLl
                go_wp2_with (at_builtin; refine wpList_append_own _ rfl _ _ 24 rfl w.heap.size 5 i0 (.int .u8 0) 1 1 Try.underlying24 hi hz0 hz1 hz2 rfl (by decide) _ _ _ rfl (hown.alloc _) ⟨wr.heap.size, 0, none⟩ 1 1 [.int .u8 92] rfl rfl ?f1 ?f2 ?f3 ?f4 ?f5 ?_)
                case f1 =>
                  intro j u hj
                  match j, hj with
                  | 0, hj => simp at hj; subst hj; simp [Addr.add]
                case f2 => intro u hu; simp at hu; subst hu; rfl
                case f3 => unfold maxLen; omega
                case f4 => omega
                case f5 => simp; omega
                intro v' w2 hown' hgrow _
                have R := hide (own_snoc (c := 92) hown hb hbs2 hown' hgrow)
                clear hown' hgrow hown
                go_wp2
                go_roundw
                case rel => exact ⟨t + 1, l ++ [92], by omega, by go_num, R.out.1, HL2, R.out.2⟩
                case measure => simp [intOf]; omega
              · obtain rfl : K = t := by omega
                have HF : Hid (Sofar s (p + k) l) := by
                  show Sofar _ _ _
                  rw [HLl.out]
                  exact HN.out
                have R := hide (And.intro hown hb)
                clear HLl hown
                go_wp2
                go_roundw
                case rel => exact ⟨p + k, l, hk, by go_num, R.out.1, HF, R.out.2⟩
                case measure => simp [intOf]; omega
      · have HN := hide (sofar_plain HSo.out hlt (.inl fun k => hc (nat92.2 k)))
        have e4 : ((s[p].toNat : Int) != 92) = true := by simp; omega
        clear HSo hc
        go_wp2_with (at_builtin; refine wpList_append_own _ rfl _ _ 24 rfl w.heap.size 5 i0 (.int .u8 0) 1 1 Try.underlying24 hi hz0 hz1 hz2 rfl (by decide) _ _ _ rfl (hown.alloc _) ⟨wr.heap.size, 0, none⟩ 1 1 [.int .u8 (s[p].toNat : Int)] rfl rfl ?d1 ?d2 ?d3 ?d4 ?d5 ?_)
        case d1 =>
          intro j u hj
          match j, hj with
          | 0, hj => simp at hj; subst hj; simp [Addr.add]
        case d2 => intro u hu; simp at hu; subst hu; rfl
        case d3 => unfold maxLen; omega
        case d4 => omega
        case d5 => simp; omega
        intro v' w2 hown' hgrow _
        have R := hide (own_snoc hown hb hbs hown' hgrow)
        clear hown' hgrow hown e4
        go_wp2
        go_roundw
        case rel => exact ⟨p + 1, out ++ [s[p]], by omega, by go_num, R.out.1, HN, R.out.2⟩
        case measure => simp [intOf]; omega
    · have ho := sofar_end HSo.out (by omega)
      rw [ho] at hown
      have hcv := conv_own hown
      clear hown ho HSo
      go_wp2
      go_ret
      exact ⟨rfl, hb⟩

end Go.Proofs.Qxb6617505a
