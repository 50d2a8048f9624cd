/-
  THE WALK OF schemeModel (20).
-/
import Derived.Test.Qxb6602120aWords
namespace Go.Proofs.Qxb6602120a
open Go.RowKit

theorem misp_none (l : List UInt8) (h : (58 : UInt8) ∉ l) : Pl.misp l = -1 := by
  unfold Pl.misp
  rw [idx_none l h, if_pos (by omega)]
theorem misp_dollar (l : List UInt8) (n : Nat) (h : Lib.indexByte l 58 = n) (hc : Lib.contains l [36, 123] = true) : Pl.misp l = -1 := by
  unfold Pl.misp
  rw [h, if_neg (by omega), if_pos hc]
theorem misp_scan (l : List UInt8) (n : Nat) (h : Lib.indexByte l 58 = n) (hc : Lib.contains l [36, 123] = false) : Pl.scan 0 (-1) (n + 1) (l.drop (n + 1)) = Pl.misp l := by
  unfold Pl.misp
  rw [h, if_neg (by omega), hc]
  simp

theorem no_more (s : ByteArray) (p : Nat) (hp : ¬ p + 1 < s.size) (h : ∀ q : Nat, q < p → ¬ (s.data.toList[q]? = some 36 ∧ s.data.toList[q + 1]? = some 123)) : Lib.contains s.data.toList [36, 123] = false := by
  refine contains_no _ fun q hq => ?_
  by_cases g : q < p
  · exact h q g hq
  · obtain ⟨hl, _⟩ := List.getElem?_eq_some_iff.1 hq.2
    rw [← size_list] at hl
    omega

theorem not_here {s : ByteArray} {p : Nat} (h0 : p < s.size) (h1 : p + 1 < s.size) (hn : ¬ (s[p] = 36 ∧ s[p + 1] = 123)) (h : ∀ q : Nat, q < p → ¬ (s.data.toList[q]? = some 36 ∧ s.data.toList[q + 1]? = some 123)) :
    ∀ q : Nat, q < p + 1 → ¬ (s.data.toList[q]? = some 36 ∧ s.data.toList[q + 1]? = some 123) := by
  intro q hq
  by_cases e : q = p
  · subst e
    rw [get_list s q h0, get_list s (q + 1) h1]
    intro g
    exact hn ⟨Option.some.inj g.1, Option.some.inj g.2⟩
  · exact h q (by omega)

/-- 'string([]byte{c})'. -/
theorem one_byte (c : UInt8) (W : World) : (convert 25 9 (.slice (some ⟨W.heap.size, 0, none⟩) 1 1)).run Try.prog (W.alloc (.cells #[.int .u8 (c.toNat : Int)] 5)) = .ok (.string ⟨#[c]⟩) (W.alloc (.cells #[.int .u8 (c.toNat : Int)] 5)) := by
  refine run_convert_bytes_back (P := Try.prog) (W.alloc (.cells #[.int .u8 (c.toNat : Int)] 5)) 25 9 5 ⟨W.heap.size, 0, none⟩ 1 [c] Try.underlying25 Try.underlying5 Try.underlying9 (fun j hj => ?_)
  obtain rfl : j = 0 := by simpa using hj
  simp [Addr.add]

theorem app_eq (l : List UInt8) (c : UInt8) : (⟨l.toArray⟩ ++ ⟨#[c]⟩ : ByteArray) = ⟨(l ++ [c]).toArray⟩ := by
  have h : (⟨l.toArray⟩ ++ ⟨#[c]⟩ : ByteArray).data.toList = l ++ [c] := by
    rw [ByteArray.data_append, Array.toList_append]
  rw [← Lib.mk_data (⟨l.toArray⟩ ++ ⟨#[c]⟩ : ByteArray), h]

theorem brk_is {c : UInt8} (h : ¬ Pl.brk c = -1) : c = 123 ∨ c = 125 ∨ c = 40 ∨ c = 41 := by
  unfold Pl.brk at h
  by_cases h1 : c = 123
  · exact Or.inl h1
  · by_cases h2 : c = 125
    · exact Or.inr (Or.inl h2)
    · by_cases h3 : c = 40
      · exact Or.inr (Or.inr (Or.inl h3))
      · by_cases h4 : c = 41
        · exact Or.inr (Or.inr (Or.inr h4))
        · rw [if_neg h1, if_neg h2, if_neg h3, if_neg h4] at h
          exact absurd rfl h

theorem word_yes {l : List UInt8} {nx : Int} {c : UInt8} (hw : Pl.word l nx) (hc : ¬ Pl.brk c = -1) (h : Pl.brk c = nx ∨ (Pl.brk c = 2 ∧ nx = 0)) : Pl.words.contains (l ++ [c]) = true ∧ Pl.word (l ++ [c]) (Pl.brk c + 1) := by
  unfold Pl.word at hw
  rcases brk_is hc with rfl | rfl | rfl | rfl <;> rcases hw with ⟨rfl, rfl⟩ | ⟨rfl, rfl⟩ | ⟨rfl, rfl⟩ | ⟨rfl, rfl⟩ | ⟨rfl, rfl⟩ | ⟨rfl, rfl⟩ | ⟨rfl, rfl⟩
  all_goals first
    | (exfalso; revert h; decide)
    | (refine ⟨by decide, ?_⟩; unfold Pl.word; decide)

theorem word_no {l : List UInt8} {nx : Int} {c : UInt8} (hw : Pl.word l nx) (hc : ¬ Pl.brk c = -1) (h : ¬ (Pl.brk c = nx ∨ (Pl.brk c = 2 ∧ nx = 0))) : Pl.words.contains (l ++ [c]) = false := by
  unfold Pl.word at hw
  rcases brk_is hc with rfl | rfl | rfl | rfl <;> rcases hw with ⟨rfl, rfl⟩ | ⟨rfl, rfl⟩ | ⟨rfl, rfl⟩ | ⟨rfl, rfl⟩ | ⟨rfl, rfl⟩ | ⟨rfl, rfl⟩ | ⟨rfl, rfl⟩
  all_goals first
    | (exfalso; revert h; decide)
    | decide

theorem word_len {l : List UInt8} {nx : Int} (hw : Pl.word l nx) : l.length ≤ 4 := by
  unfold Pl.word at hw
  rcases hw with ⟨rfl, rfl⟩ | ⟨rfl, rfl⟩ | ⟨rfl, rfl⟩ | ⟨rfl, rfl⟩ | ⟨rfl, rfl⟩ | ⟨rfl, rfl⟩ | ⟨rfl, rfl⟩ <;> decide

set_option maxHeartbeats 8000000 in
/-- schemeModel. -/
theorem schemeModel_any (s : ByteArray) (w : World) (hs : s.size ≤ 1048576) :
    Calls Try.prog 20 #[.string s] w fun e w' => e = .returned (.int .i64 (Pl.misp s.data.toList)) ∧ Below w.heap.size w w' := by
  go_enter Try.func20, Try.ntmps20
  go_wp2
  go_loop [3, 4] (fun cv i => ∃ k : Nat, k ≤ s.size ∧ cv = .int .i64 (-1) ∧ i = .int .i64 k ∧ (58 : UInt8) ∉ s.data.toList.take k) (fun _ i => s.size - (intOf i).toNat)
  case atStart => exact ⟨0, Nat.zero_le _, rfl, rfl, by simp⟩
  case round =>
    obtain ⟨k, hk, rfl, rfl, hn⟩ := hrel
    have HN : Hid ((58 : UInt8) ∉ s.data.toList.take k) := hn
    clear hn
    by_cases hlt : k < s.size
    case neg =>
      have HE : Hid _ := misp_none s.data.toList (by
        have := HN.out
        rw [List.take_of_length_le (by rw [← size_list]; omega)] at this
        exact this)
      go_wp2
      go_ret
      exact ⟨ret_int HE.out.symm, Below.refl _ _⟩
    case pos =>
      by_cases hc : s[k] = 58
      case neg =>
        have e58 : ((s[k].toNat : Int) == 58) = false := beq_no (n := 58) (by omega) hc
        have HC : Hid (s[k] ≠ 58) := hc
        clear hc
        go_wp2
        go_round
        case rel => exact ⟨k + 1, by omega, rfl, by go_num, mem_take hlt HN.out HC.out⟩
        case measure => simp [intOf]; omega
      case pos =>
        have HI : Hid _ := idx_at s k hlt HN.out hc
        have e58 : ((s[k].toNat : Int) == 58) = true := beq_yes (n := 58) (by omega) hc
        have hneg : decide ((k : Int) < 0) = false := decide_eq_false (by omega)
        clear hc HN
        go_wp2
        clear e58 hneg
        go_loop [5] (fun i => ∃ p : Nat, p ≤ s.size ∧ i = .int .i64 p ∧ ∀ q : Nat, q < p → ¬ (s.data.toList[q]? = some 36 ∧ s.data.toList[q + 1]? = some 123)) (fun i => s.size - (intOf i).toNat)
        case atStart => exact ⟨0, Nat.zero_le _, rfl, fun q hq => by omega⟩
        case round =>
          obtain ⟨p, hp, rfl, hq⟩ := hrel
          have HQ : Hid (∀ q : Nat, q < p → ¬ (s.data.toList[q]? = some 36 ∧ s.data.toList[q + 1]? = some 123)) := hq
          clear hq
          by_cases hpl : p + 1 < s.size
          case pos =>
            have hpi : (p : Int) + 1 < (s.size : Int) := by omega
            have hp0 : p < s.size := by omega
            by_cases h36 : s[p] = 36
            case pos =>
              have e36 : ((s[p].toNat : Int) == 36) = true := beq_yes (n := 36) (by omega) h36
              by_cases h123 : s[p + 1] = 123
              case pos =>
                have e123 : ((s[p + 1].toNat : Int) == 123) = true := beq_yes (n := 123) (by omega) h123
                have HE : Hid _ := misp_dollar s.data.toList k HI.out (contains_yes _ p (by rw [get_list s p hp0, h36]) (by rw [get_list s (p + 1) hpl, h123]))
                clear h36 h123
                go_wp2
                go_ret
                exact ⟨ret_int HE.out.symm, Below.refl _ _⟩
              case neg =>
                have e123 : ((s[p + 1].toNat : Int) == 123) = false := beq_no (n := 123) (by omega) h123
                have HX : Hid _ := not_here hp0 hpl (fun g => h123 g.2) HQ.out
                clear h36 h123
                go_wp2
                go_round
                case rel => exact ⟨p + 1, by omega, by go_num, HX.out⟩
                case measure => simp [intOf]; omega
            case neg =>
              have e36 : ((s[p].toNat : Int) == 36) = false := beq_no (n := 36) (by omega) h36
              have HX : Hid _ := not_here hp0 hpl (fun g => h36 g.1) HQ.out
              clear h36
              go_wp2
              go_round
              case rel => exact ⟨p + 1, by omega, by go_num, HX.out⟩
              case measure => simp [intOf]; omega
          case neg =>
            have HX : Hid _ := misp_scan s.data.toList k HI.out (no_more s p hpl HQ.out)
            have hpi : ¬ (p : Int) + 1 < (s.size : Int) := by omega
            have hpd : decide ((p : Int) + 1 < (s.size : Int)) = false := decide_eq_false hpi
            clear HI HQ hpl
            go_wp2
            go_loopw [6, 7, 8] (fun wv lv i wr => ∃ (l : List UInt8) (nx op : Int) (q : Nat), Pl.word l nx ∧ q ≤ s.size ∧ wv = .string ⟨l.toArray⟩ ∧ lv = .int .i64 op ∧ i = .int .i64 q ∧ Pl.scan nx op q (s.data.toList.drop q) = Pl.misp s.data.toList ∧ Below w.heap.size w wr) (fun _ _ i _ => s.size - (intOf i).toNat)
            case atStart => exact ⟨[], 0, -1, k + 1, Or.inl ⟨rfl, rfl⟩, by omega, rfl, rfl, by go_num, HX.out, Below.refl _ _⟩
            case round =>
              obtain ⟨l, nx, op, q, hwd, hq, rfl, rfl, rfl, hsc, hb⟩ := hrel
              have HS : Hid (Pl.scan nx op q (s.data.toList.drop q) = Pl.misp s.data.toList) := hsc
              have hz := hb.size
              clear hsc HX hpi hpd
              by_cases hql : q < s.size
              case neg =>
                have HE := scan_end hql HS.out
                unfold Pl.word at hwd
                rcases hwd with ⟨rfl, rfl⟩ | ⟨rfl, rfl⟩ | ⟨rfl, rfl⟩ | ⟨rfl, rfl⟩ | ⟨rfl, rfl⟩ | ⟨rfl, rfl⟩ | ⟨rfl, rfl⟩
                all_goals
                  simp only [Int.reduceMod, if_true, if_false, Int.zero_emod, Int.zero_ne_one, Int.emod_self] at HE
                  have HE2 : Hid (_ = Pl.misp s.data.toList) := HE
                  clear HE HS
                  go_wp2
                  go_ret
                  exact ⟨ret_int HE2.out, hb⟩
              case pos =>
                have cB := bracket_any s[q] wr
                by_cases hbr : Pl.brk s[q] = -1
                case pos =>
                  rw [hbr] at cB
                  have HB : Hid (Pl.brk s[q] = -1) := hbr
                  change Calls Try.prog 23 _ _ fun e w' => e = .returned (.bool false) ∧ w' = wr at cB
                  clear hbr
                  go_wp2_with fail
                  refine cB.mono ?_
                  rintro e wa ⟨rfl, hwa⟩
                  replace hwa := hwa.symm
                  subst hwa
                  go_wp2
                  go_roundw
                  case rel => exact ⟨l, nx, op, q + 1, hwd, by omega, rfl, rfl, by go_num, scan_none hql HS.out HB.out, hb⟩
                  case measure => simp [intOf]; omega
                case neg =>
                  have hbd : decide (0 ≤ Pl.brk s[q]) = true := decide_eq_true (by have := Pl.brk_ge s[q]; omega)
                  rw [hbd] at cB
                  clear hbd
                  have hcv := one_byte s[q] wr
                  have hl4 := word_len hwd
                  have cV := valid_any (⟨l.toArray⟩ ++ ⟨#[s[q]]⟩) (wr.alloc (.cells #[.int .u8 (s[q].toNat : Int)] 5))
                  rw [app_eq] at cV
                  change Calls Try.prog 32 _ _ fun e w' => e = .returned (.bool (Pl.words.contains (l ++ [s[q]]))) ∧ w' = _ at cV
                  have HW : Hid (Pl.word l nx) := hwd
                  have HBR : Hid (¬ Pl.brk s[q] = -1) := hbr
                  have h0b : 0 ≤ Pl.brk s[q] := by have := Pl.brk_ge s[q]; omega
                  by_cases hgo : Pl.brk s[q] = nx ∨ (Pl.brk s[q] = 2 ∧ nx = 0)
                  case pos =>
                    have hy := word_yes hwd hbr hgo
                    rw [hy.1] at cV
                    rw [← app_eq] at cV
                    have HY : Hid _ := hy.2
                    have HN : Hid _ := scan_yes hql HS.out rfl h0b hgo
                    clear hy hgo hwd hbr h0b
                    go_wp2_with fail
                    refine cB.mono ?_
                    rintro e wa ⟨rfl, hwa⟩
                    replace hwa := hwa.symm
                    subst hwa
                    go_wp2_with fail
                    refine cV.mono ?_
                    rintro e wa ⟨rfl, hwa⟩
                    subst hwa
                    go_wp2
                    go_roundw
                    case rel => exact ⟨l ++ [s[q]], Pl.brk s[q] + 1, (q : Int), q + 1, HY.out, by omega, congrArg Value.string (app_eq l s[q]), rfl, by go_num, HN.out, hb.alloc hz _⟩
                    case measure => simp [intOf]; omega
                  case neg =>
                    rw [word_no hwd hbr hgo] at cV
                    rw [← app_eq] at cV
                    have HN : Hid _ := scan_stop hql HS.out rfl h0b hgo
                    clear hgo hwd hbr h0b
                    go_wp2_with fail
                    refine cB.mono ?_
                    rintro e wa ⟨rfl, hwa⟩
                    replace hwa := hwa.symm
                    subst hwa
                    go_wp2_with fail
                    refine cV.mono ?_
                    rintro e wa ⟨rfl, hwa⟩
                    subst hwa
                    go_wp2
                    go_ret
                    exact ⟨ret_int HN.out, hb.alloc hz _⟩
end Go.Proofs.Qxb6602120a
