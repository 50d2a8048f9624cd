/-
  THE WALKS OF zzIsBlank (16), zzFreeFormModel (9), zzFreeFormState (10), THE BOUND (7).
-/
import Derived.Test.Qxb6601840aKeeps
namespace Go.Proofs.Qxb6601840a
open Go.RowKit

def blankI (n : Int) : Bool := n == 32 || n == 9 || n == 13 || n == 10

theorem blank_int (c : UInt8) : blankI (c.toNat : Int) = Pl.blank c := by
  unfold Pl.blank blankI
  rw [Bool.eq_iff_iff]
  simp [← UInt8.toNat_inj]
  omega

theorem isBlank_int (n : Int) (w : World) :
    Calls Try.prog 16 #[.int .u8 n] w fun e w' => e = .returned (.bool (blankI n)) ∧ w' = w := by
  go_enter Try.func16, Try.ntmps16
  go_wp2
  all_goals
    go_ret
    exact ⟨ret_bool (by simp_all [blankI]), rfl⟩

theorem isBlank_any (c : UInt8) (w : World) :
    Calls Try.prog 16 #[.int .u8 (c.toNat : Int)] w fun e w' => e = .returned (.bool (Pl.blank c)) ∧ w' = w := by
  rw [← blank_int]
  exact isBlank_int _ w

theorem size_list (s : ByteArray) : s.size = s.data.toList.length := by
  obtain ⟨⟨l⟩⟩ := s; rfl

theorem drop_at (s : ByteArray) (k : Nat) (h : k < s.size) : s.data.toList.drop k = s[k] :: s.data.toList.drop (k + 1) := by
  have h' : k < s.data.toList.length := by rw [← size_list]; exact h
  rw [List.drop_eq_getElem_cons h']
  rfl

theorem drop_end (s : ByteArray) (k : Nat) (h : ¬ k < s.size) : s.data.toList.drop k = [] := by
  rw [List.drop_eq_nil_iff, ← size_list]; omega

section
variable {s : ByteArray} {k j j' : Nat} {R : Nat × Bool × Nat}
theorem run_some (hk : k < s.size) (h : Pl.run j k (s.data.toList.drop k) = R) (hst : Pl.st j s[k] = some j') (hne : ¬ j' = 10) : Pl.run j' (k + 1) (s.data.toList.drop (k + 1)) = R := by
  rw [drop_at s k hk, Pl.run, hst] at h
  simp only [if_neg hne] at h
  exact h
theorem run_done (hk : k < s.size) (h : Pl.run j k (s.data.toList.drop k) = R) (hst : Pl.st j s[k] = some 10) : (k + 1, false, 10) = R := by
  rw [drop_at s k hk, Pl.run, hst] at h
  exact h
theorem run_none (hk : k < s.size) (h : Pl.run j k (s.data.toList.drop k) = R) (hst : Pl.st j s[k] = none) : (k, true, j) = R := by
  rw [drop_at s k hk, Pl.run, hst] at h
  exact h
theorem run_end (hk : ¬ k < s.size) (h : Pl.run j k (s.data.toList.drop k) = R) : (k, false, j) = R := by
  rw [drop_end s k hk, Pl.run] at h
  exact h
end

theorem ret3 {a c : Int} {b : Bool} {N J : Nat} {r : Bool} {x y : Nat} (h : (x, b, y) = (N, r, J)) (ha : a = (x : Int)) (hc : c = (y : Int)) :
    Ending.returned (.tuple #[.int .i64 a, .bool b, .int .i64 c]) = .returned (.tuple #[.int .i64 (N : Int), .bool r, .int .i64 (J : Int)]) := by
  simp only [Prod.mk.injEq] at h
  obtain ⟨rfl, rfl, rfl⟩ := h
  rw [ha, hc]

theorem bytes7 (s : ByteArray) (w : World) (h1 : s.size ≤ maxLen) :
    Calls Try.prog 7 #[.string s] w fun e w' => e = .returned (.bool (decide (s.size ≤ 1048576))) ∧ w' = w := by
  unfold maxLen at h1
  go_enter Try.func7, Try.ntmps7
  go_wp2
  all_goals
    go_ret
    exact ⟨ret_bool (by simp; omega), rfl⟩

/-- zzFreeFormState. -/
theorem state_any (j : Nat) (hj : j ≤ 11) (w : World) :
    Calls Try.prog 10 #[.int .i64 (j : Int)] w fun e w' => e = .returned (.tuple #[.int .i64 (Pl.atOf j), .int .i64 (Pl.krOf j)]) ∧ w' = w := by
  rcases (by omega : j = 0 ∨ j = 1 ∨ j = 2 ∨ j = 3 ∨ j = 4 ∨ j = 5 ∨ j = 6 ∨ j = 7 ∨ j = 8 ∨ j = 9 ∨ j = 10 ∨ j = 11) with rfl | rfl | rfl | rfl | rfl | rfl | rfl | rfl | rfl | rfl | rfl | rfl
  all_goals
    go_enter Try.func10, Try.ntmps10
    go_wp2
    go_ret2
    exact ⟨rfl, rfl⟩

set_option maxHeartbeats 8000000 in
/-- zzFreeFormModel. -/
theorem model_any (s : ByteArray) (w : World) (hs : s.size ≤ 1048576) (N J : Nat) (r : Bool) (hR : Pl.run 0 0 s.data.toList = (N, r, J)) :
    Calls Try.prog 9 #[.string s] w fun e w' => e = .returned (.tuple #[.int .i64 (N : Int), .bool r, .int .i64 (J : Int)]) ∧ w' = w := by
  have HR : Hid (Pl.run 0 0 s.data.toList = (N, r, J)) := hR
  clear hR
  go_enter Try.func9, Try.ntmps9
  go_wp2
  go_loop [5, 6] (fun jv i => ∃ j k : Nat, j ≤ 9 ∧ k ≤ s.size ∧ jv = .int .i64 j ∧ i = .int .i64 k ∧ Pl.run j k (s.data.toList.drop k) = (N, r, J)) (fun _ i => s.size - (intOf i).toNat)
  case atStart => exact ⟨0, 0, by omega, Nat.zero_le _, rfl, rfl, HR.out⟩
  case round =>
    obtain ⟨j, k, hj, hk, rfl, rfl, hrun⟩ := hrel
    have HS : Hid (Pl.run j k (s.data.toList.drop k) = (N, r, J)) := hrun
    clear hrun HR
    by_cases hlt : k < s.size
    case neg =>
      have HE : Hid _ := run_end hlt HS.out
      go_wp2
      go_ret3
      exact ⟨ret3 HE.out rfl rfl, rfl⟩
    case pos =>
      have cB := isBlank_any s[k] w
      rcases (by omega : j = 0 ∨ j = 1 ∨ j = 2 ∨ j = 3 ∨ j = 4 ∨ j = 5 ∨ j = 6 ∨ j = 7 ∨ j = 8 ∨ j = 9) with rfl | rfl | rfl | rfl | rfl | rfl | rfl | rfl | rfl | rfl
      · cases hb : Pl.blank s[k] with
        | true =>
          have HT : Hid _ := st_blank (j := 0) hb (by omega)
          rw [hb] at cB
          clear hb
          go_wp2_with fail
          refine cB.mono ?_
          rintro e wa ⟨rfl, hwa⟩
          replace hwa := hwa.symm
          subst hwa
          go_wp2
          go_round
          case rel => exact ⟨0, k + 1, by omega, by omega, rfl, by go_num, run_some hlt HS.out HT.out (by omega)⟩
          case measure => simp [intOf]; omega
        | false =>
          rw [hb] at cB
          by_cases hc : s[k] = 123
          case pos =>
            have HT : Hid _ := st_pat (j := 0) (Or.inl hb) (by omega) (by omega) hc
            have ec : ((s[k].toNat : Int) == (((⟨#[123, 34, 105, 110, 112, 117, 116, 34, 58, 34]⟩ : ByteArray)[0]'(by decide)).toNat : Int)) = true := beq_yes (n := 123) (by omega) hc
            clear hc hb
            go_wp2_with fail
            refine cB.mono ?_
            rintro e wa ⟨rfl, hwa⟩
            replace hwa := hwa.symm
            subst hwa
            go_wp2
            go_round
            case rel => exact ⟨1, k + 1, by omega, by omega, rfl, by go_num, run_some hlt HS.out HT.out (by omega)⟩
            case measure => simp [intOf]; omega
          case neg =>
            have HT : Hid _ := st_none (j := 0) (Or.inl hb) (by omega) (Or.inr hc)
            have HD : Hid _ := run_none hlt HS.out HT.out
            have ec : ((s[k].toNat : Int) == (((⟨#[123, 34, 105, 110, 112, 117, 116, 34, 58, 34]⟩ : ByteArray)[0]'(by decide)).toNat : Int)) = false := beq_no (n := 123) (by omega) hc
            clear hc hb
            go_wp2_with fail
            refine cB.mono ?_
            rintro e wa ⟨rfl, hwa⟩
            replace hwa := hwa.symm
            subst hwa
            go_wp2
            go_ret3
            exact ⟨ret3 HD.out rfl rfl, rfl⟩
      · cases hb : Pl.blank s[k] with
        | true =>
          have HT : Hid _ := st_blank (j := 1) hb (by omega)
          rw [hb] at cB
          clear hb
          go_wp2_with fail
          refine cB.mono ?_
          rintro e wa ⟨rfl, hwa⟩
          replace hwa := hwa.symm
          subst hwa
          go_wp2
          go_round
          case rel => exact ⟨1, k + 1, by omega, by omega, rfl, by go_num, run_some hlt HS.out HT.out (by omega)⟩
          case measure => simp [intOf]; omega
        | false =>
          rw [hb] at cB
          by_cases h125 : s[k] = 125
          case pos =>
            have HT : Hid (Pl.st 1 s[k] = some 11) := by show Pl.st 1 s[k] = some 11; rw [h125]; decide
            have HK : Hid _ := run_some hlt HS.out HT.out (by omega)
            have e125 : ((s[k].toNat : Int) == 125) = true := beq_yes (n := 125) (by omega) h125
            clear h125 hb
            go_wp2_with fail
            refine cB.mono ?_
            rintro e wa ⟨rfl, hwa⟩
            replace hwa := hwa.symm
            subst hwa
            clear cB
            go_wp2
            go_loop [6] (fun i => ∃ p : Nat, p ≤ s.size ∧ i = .int .i64 p ∧ Pl.run 11 p (s.data.toList.drop p) = (N, r, J)) (fun i => s.size - (intOf i).toNat)
            case atStart => exact ⟨k + 1, by omega, by go_num, HK.out⟩
            case round =>
              obtain ⟨p, hp, rfl, hrun⟩ := hrel
              have HP : Hid (Pl.run 11 p (s.data.toList.drop p) = (N, r, J)) := hrun
              clear hrun HK HS HT
              by_cases hpl : p < s.size
              case neg =>
                have HE : Hid _ := run_end hpl HP.out
                have hd : decide (p < s.size) = false := decide_eq_false hpl
                go_wp2
                go_ret3
                exact ⟨ret3 HE.out rfl rfl, rfl⟩
              case pos =>
                have hd : decide (p < s.size) = true := decide_eq_true hpl
                have cB := isBlank_any s[p] w
                cases hb : Pl.blank s[p] with
                | true =>
                  have HT : Hid _ := st_blank (j := 11) hb (by omega)
                  rw [hb] at cB
                  clear hb
                  go_wp2_with fail
                  refine cB.mono ?_
                  rintro e wa ⟨rfl, hwa⟩
                  replace hwa := hwa.symm
                  subst hwa
                  go_wp2
                  go_round
                  case rel => exact ⟨p + 1, by omega, by go_num, run_some hpl HP.out HT.out (by omega)⟩
                  case measure => simp [intOf]; omega
                | false =>
                  have HT : Hid _ := st_none (j := 11) (Or.inl hb) (by omega) (Or.inl rfl)
                  have HD : Hid _ := run_none hpl HP.out HT.out
                  rw [hb] at cB
                  clear hb
                  go_wp2_with fail
                  refine cB.mono ?_
                  rintro e wa ⟨rfl, hwa⟩
                  replace hwa := hwa.symm
                  subst hwa
                  go_wp2
                  go_ret3
                  exact ⟨ret3 HD.out rfl rfl, rfl⟩
          case neg =>
            have e125 : ((s[k].toNat : Int) == 125) = false := beq_no (n := 125) (by omega) h125
            by_cases hc : s[k] = 34
            case pos =>
              have HT : Hid _ := st_pat (j := 1) (Or.inl hb) (fun _ => h125) (by omega) hc
              have ec : ((s[k].toNat : Int) == (((⟨#[123, 34, 105, 110, 112, 117, 116, 34, 58, 34]⟩ : ByteArray)[1]'(by decide)).toNat : Int)) = true := beq_yes (n := 34) (by omega) hc
              clear hc hb h125
              go_wp2_with fail
              refine cB.mono ?_
              rintro e wa ⟨rfl, hwa⟩
              replace hwa := hwa.symm
              subst hwa
              go_wp2
              go_round
              case rel => exact ⟨2, k + 1, by omega, by omega, rfl, by go_num, run_some hlt HS.out HT.out (by omega)⟩
              case measure => simp [intOf]; omega
            case neg =>
              have HT : Hid _ := st_none (j := 1) (Or.inl hb) (fun _ => h125) (Or.inr hc)
              have HD : Hid _ := run_none hlt HS.out HT.out
              have ec : ((s[k].toNat : Int) == (((⟨#[123, 34, 105, 110, 112, 117, 116, 34, 58, 34]⟩ : ByteArray)[1]'(by decide)).toNat : Int)) = false := beq_no (n := 34) (by omega) hc
              clear hc hb h125
              go_wp2_with fail
              refine cB.mono ?_
              rintro e wa ⟨rfl, hwa⟩
              replace hwa := hwa.symm
              subst hwa
              go_wp2
              go_ret3
              exact ⟨ret3 HD.out rfl rfl, rfl⟩
      · by_cases hc : s[k] = 105
        case pos =>
          have HT : Hid _ := st_pat (j := 2) (Or.inr (by omega)) (by omega) (by omega) hc
          have ec : ((s[k].toNat : Int) == (((⟨#[123, 34, 105, 110, 112, 117, 116, 34, 58, 34]⟩ : ByteArray)[2]'(by decide)).toNat : Int)) = true := beq_yes (n := 105) (by omega) hc
          have hb : Pl.blank s[k] = false := by rw [hc]; decide
          rw [hb] at cB
          clear hc hb
          go_wp2_with fail
          refine cB.mono ?_
          rintro e wa ⟨rfl, hwa⟩
          replace hwa := hwa.symm
          subst hwa
          go_wp2
          go_round
          case rel => exact ⟨3, k + 1, by omega, by omega, rfl, by go_num, run_some hlt HS.out HT.out (by omega)⟩
          case measure => simp [intOf]; omega
        case neg =>
          have HT : Hid _ := st_none (j := 2) (Or.inr (by omega)) (by omega) (Or.inr hc)
          have HD : Hid _ := run_none hlt HS.out HT.out
          have ec : ((s[k].toNat : Int) == (((⟨#[123, 34, 105, 110, 112, 117, 116, 34, 58, 34]⟩ : ByteArray)[2]'(by decide)).toNat : Int)) = false := beq_no (n := 105) (by omega) hc
          clear hc
          cases hb : Pl.blank s[k] with
          | true =>
            rw [hb] at cB
            clear hb
            go_wp2_with fail
            refine cB.mono ?_
            rintro e wa ⟨rfl, hwa⟩
            replace hwa := hwa.symm
            subst hwa
            go_wp2
            go_ret3
            exact ⟨ret3 HD.out rfl rfl, rfl⟩
          | false =>
            rw [hb] at cB
            clear hb
            go_wp2_with fail
            refine cB.mono ?_
            rintro e wa ⟨rfl, hwa⟩
            replace hwa := hwa.symm
            subst hwa
            go_wp2
            go_ret3
            exact ⟨ret3 HD.out rfl rfl, rfl⟩
      · by_cases hc : s[k] = 110
        case pos =>
          have HT : Hid _ := st_pat (j := 3) (Or.inr (by omega)) (by omega) (by omega) hc
          have ec : ((s[k].toNat : Int) == (((⟨#[123, 34, 105, 110, 112, 117, 116, 34, 58, 34]⟩ : ByteArray)[3]'(by decide)).toNat : Int)) = true := beq_yes (n := 110) (by omega) hc
          have hb : Pl.blank s[k] = false := by rw [hc]; decide
          rw [hb] at cB
          clear hc hb
          go_wp2_with fail
          refine cB.mono ?_
          rintro e wa ⟨rfl, hwa⟩
          replace hwa := hwa.symm
          subst hwa
          go_wp2
          go_round
          case rel => exact ⟨4, k + 1, by omega, by omega, rfl, by go_num, run_some hlt HS.out HT.out (by omega)⟩
          case measure => simp [intOf]; omega
        case neg =>
          have HT : Hid _ := st_none (j := 3) (Or.inr (by omega)) (by omega) (Or.inr hc)
          have HD : Hid _ := run_none hlt HS.out HT.out
          have ec : ((s[k].toNat : Int) == (((⟨#[123, 34, 105, 110, 112, 117, 116, 34, 58, 34]⟩ : ByteArray)[3]'(by decide)).toNat : Int)) = false := beq_no (n := 110) (by omega) hc
          clear hc
          cases hb : Pl.blank s[k] with
          | true =>
            rw [hb] at cB
            clear hb
            go_wp2_with fail
            refine cB.mono ?_
            rintro e wa ⟨rfl, hwa⟩
            replace hwa := hwa.symm
            subst hwa
            go_wp2
            go_ret3
            exact ⟨ret3 HD.out rfl rfl, rfl⟩
          | false =>
            rw [hb] at cB
            clear hb
            go_wp2_with fail
            refine cB.mono ?_
            rintro e wa ⟨rfl, hwa⟩
            replace hwa := hwa.symm
            subst hwa
            go_wp2
            go_ret3
            exact ⟨ret3 HD.out rfl rfl, rfl⟩
      · by_cases hc : s[k] = 112
        case pos =>
          have HT : Hid _ := st_pat (j := 4) (Or.inr (by omega)) (by omega) (by omega) hc
          have ec : ((s[k].toNat : Int) == (((⟨#[123, 34, 105, 110, 112, 117, 116, 34, 58, 34]⟩ : ByteArray)[4]'(by decide)).toNat : Int)) = true := beq_yes (n := 112) (by omega) hc
          have hb : Pl.blank s[k] = false := by rw [hc]; decide
          rw [hb] at cB
          clear hc hb
          go_wp2_with fail
          refine cB.mono ?_
          rintro e wa ⟨rfl, hwa⟩
          replace hwa := hwa.symm
          subst hwa
          go_wp2
          go_round
          case rel => exact ⟨5, k + 1, by omega, by omega, rfl, by go_num, run_some hlt HS.out HT.out (by omega)⟩
          case measure => simp [intOf]; omega
        case neg =>
          have HT : Hid _ := st_none (j := 4) (Or.inr (by omega)) (by omega) (Or.inr hc)
          have HD : Hid _ := run_none hlt HS.out HT.out
          have ec : ((s[k].toNat : Int) == (((⟨#[123, 34, 105, 110, 112, 117, 116, 34, 58, 34]⟩ : ByteArray)[4]'(by decide)).toNat : Int)) = false := beq_no (n := 112) (by omega) hc
          clear hc
          cases hb : Pl.blank s[k] with
          | true =>
            rw [hb] at cB
            clear hb
            go_wp2_with fail
            refine cB.mono ?_
            rintro e wa ⟨rfl, hwa⟩
            replace hwa := hwa.symm
            subst hwa
            go_wp2
            go_ret3
            exact ⟨ret3 HD.out rfl rfl, rfl⟩
          | false =>
            rw [hb] at cB
            clear hb
            go_wp2_with fail
            refine cB.mono ?_
            rintro e wa ⟨rfl, hwa⟩
            replace hwa := hwa.symm
            subst hwa
            go_wp2
            go_ret3
            exact ⟨ret3 HD.out rfl rfl, rfl⟩
      · by_cases hc : s[k] = 117
        case pos =>
          have HT : Hid _ := st_pat (j := 5) (Or.inr (by omega)) (by omega) (by omega) hc
          have ec : ((s[k].toNat : Int) == (((⟨#[123, 34, 105, 110, 112, 117, 116, 34, 58, 34]⟩ : ByteArray)[5]'(by decide)).toNat : Int)) = true := beq_yes (n := 117) (by omega) hc
          have hb : Pl.blank s[k] = false := by rw [hc]; decide
          rw [hb] at cB
          clear hc hb
          go_wp2_with fail
          refine cB.mono ?_
          rintro e wa ⟨rfl, hwa⟩
          replace hwa := hwa.symm
          subst hwa
          go_wp2
          go_round
          case rel => exact ⟨6, k + 1, by omega, by omega, rfl, by go_num, run_some hlt HS.out HT.out (by omega)⟩
          case measure => simp [intOf]; omega
        case neg =>
          have HT : Hid _ := st_none (j := 5) (Or.inr (by omega)) (by omega) (Or.inr hc)
          have HD : Hid _ := run_none hlt HS.out HT.out
          have ec : ((s[k].toNat : Int) == (((⟨#[123, 34, 105, 110, 112, 117, 116, 34, 58, 34]⟩ : ByteArray)[5]'(by decide)).toNat : Int)) = false := beq_no (n := 117) (by omega) hc
          clear hc
          cases hb : Pl.blank s[k] with
          | true =>
            rw [hb] at cB
            clear hb
            go_wp2_with fail
            refine cB.mono ?_
            rintro e wa ⟨rfl, hwa⟩
            replace hwa := hwa.symm
            subst hwa
            go_wp2
            go_ret3
            exact ⟨ret3 HD.out rfl rfl, rfl⟩
          | false =>
            rw [hb] at cB
            clear hb
            go_wp2_with fail
            refine cB.mono ?_
            rintro e wa ⟨rfl, hwa⟩
            replace hwa := hwa.symm
            subst hwa
            go_wp2
            go_ret3
            exact ⟨ret3 HD.out rfl rfl, rfl⟩
      · by_cases hc : s[k] = 116
        case pos =>
          have HT : Hid _ := st_pat (j := 6) (Or.inr (by omega)) (by omega) (by omega) hc
          have ec : ((s[k].toNat : Int) == (((⟨#[123, 34, 105, 110, 112, 117, 116, 34, 58, 34]⟩ : ByteArray)[6]'(by decide)).toNat : Int)) = true := beq_yes (n := 116) (by omega) hc
          have hb : Pl.blank s[k] = false := by rw [hc]; decide
          rw [hb] at cB
          clear hc hb
          go_wp2_with fail
          refine cB.mono ?_
          rintro e wa ⟨rfl, hwa⟩
          replace hwa := hwa.symm
          subst hwa
          go_wp2
          go_round
          case rel => exact ⟨7, k + 1, by omega, by omega, rfl, by go_num, run_some hlt HS.out HT.out (by omega)⟩
          case measure => simp [intOf]; omega
        case neg =>
          have HT : Hid _ := st_none (j := 6) (Or.inr (by omega)) (by omega) (Or.inr hc)
          have HD : Hid _ := run_none hlt HS.out HT.out
          have ec : ((s[k].toNat : Int) == (((⟨#[123, 34, 105, 110, 112, 117, 116, 34, 58, 34]⟩ : ByteArray)[6]'(by decide)).toNat : Int)) = false := beq_no (n := 116) (by omega) hc
          clear hc
          cases hb : Pl.blank s[k] with
          | true =>
            rw [hb] at cB
            clear hb
            go_wp2_with fail
            refine cB.mono ?_
            rintro e wa ⟨rfl, hwa⟩
            replace hwa := hwa.symm
            subst hwa
            go_wp2
            go_ret3
            exact ⟨ret3 HD.out rfl rfl, rfl⟩
          | false =>
            rw [hb] at cB
            clear hb
            go_wp2_with fail
            refine cB.mono ?_
            rintro e wa ⟨rfl, hwa⟩
            replace hwa := hwa.symm
            subst hwa
            go_wp2
            go_ret3
            exact ⟨ret3 HD.out rfl rfl, rfl⟩
      · by_cases hc : s[k] = 34
        case pos =>
          have HT : Hid _ := st_pat (j := 7) (Or.inr (by omega)) (by omega) (by omega) hc
          have ec : ((s[k].toNat : Int) == (((⟨#[123, 34, 105, 110, 112, 117, 116, 34, 58, 34]⟩ : ByteArray)[7]'(by decide)).toNat : Int)) = true := beq_yes (n := 34) (by omega) hc
          have hb : Pl.blank s[k] = false := by rw [hc]; decide
          rw [hb] at cB
          clear hc hb
          go_wp2_with fail
          refine cB.mono ?_
          rintro e wa ⟨rfl, hwa⟩
          replace hwa := hwa.symm
          subst hwa
          go_wp2
          go_round
          case rel => exact ⟨8, k + 1, by omega, by omega, rfl, by go_num, run_some hlt HS.out HT.out (by omega)⟩
          case measure => simp [intOf]; omega
        case neg =>
          have HT : Hid _ := st_none (j := 7) (Or.inr (by omega)) (by omega) (Or.inr hc)
          have HD : Hid _ := run_none hlt HS.out HT.out
          have ec : ((s[k].toNat : Int) == (((⟨#[123, 34, 105, 110, 112, 117, 116, 34, 58, 34]⟩ : ByteArray)[7]'(by decide)).toNat : Int)) = false := beq_no (n := 34) (by omega) hc
          clear hc
          cases hb : Pl.blank s[k] with
          | true =>
            rw [hb] at cB
            clear hb
            go_wp2_with fail
            refine cB.mono ?_
            rintro e wa ⟨rfl, hwa⟩
            replace hwa := hwa.symm
            subst hwa
            go_wp2
            go_ret3
            exact ⟨ret3 HD.out rfl rfl, rfl⟩
          | false =>
            rw [hb] at cB
            clear hb
            go_wp2_with fail
            refine cB.mono ?_
            rintro e wa ⟨rfl, hwa⟩
            replace hwa := hwa.symm
            subst hwa
            go_wp2
            go_ret3
            exact ⟨ret3 HD.out rfl rfl, rfl⟩
      · cases hb : Pl.blank s[k] with
        | true =>
          have HT : Hid _ := st_blank (j := 8) hb (by omega)
          rw [hb] at cB
          clear hb
          go_wp2_with fail
          refine cB.mono ?_
          rintro e wa ⟨rfl, hwa⟩
          replace hwa := hwa.symm
          subst hwa
          go_wp2
          go_round
          case rel => exact ⟨8, k + 1, by omega, by omega, rfl, by go_num, run_some hlt HS.out HT.out (by omega)⟩
          case measure => simp [intOf]; omega
        | false =>
          rw [hb] at cB
          by_cases hc : s[k] = 58
          case pos =>
            have HT : Hid _ := st_pat (j := 8) (Or.inl hb) (by omega) (by omega) hc
            have ec : ((s[k].toNat : Int) == (((⟨#[123, 34, 105, 110, 112, 117, 116, 34, 58, 34]⟩ : ByteArray)[8]'(by decide)).toNat : Int)) = true := beq_yes (n := 58) (by omega) hc
            clear hc hb
            go_wp2_with fail
            refine cB.mono ?_
            rintro e wa ⟨rfl, hwa⟩
            replace hwa := hwa.symm
            subst hwa
            go_wp2
            go_round
            case rel => exact ⟨9, k + 1, by omega, by omega, rfl, by go_num, run_some hlt HS.out HT.out (by omega)⟩
            case measure => simp [intOf]; omega
          case neg =>
            have HT : Hid _ := st_none (j := 8) (Or.inl hb) (by omega) (Or.inr hc)
            have HD : Hid _ := run_none hlt HS.out HT.out
            have ec : ((s[k].toNat : Int) == (((⟨#[123, 34, 105, 110, 112, 117, 116, 34, 58, 34]⟩ : ByteArray)[8]'(by decide)).toNat : Int)) = false := beq_no (n := 58) (by omega) hc
            clear hc hb
            go_wp2_with fail
            refine cB.mono ?_
            rintro e wa ⟨rfl, hwa⟩
            replace hwa := hwa.symm
            subst hwa
            go_wp2
            go_ret3
            exact ⟨ret3 HD.out rfl rfl, rfl⟩
      · cases hb : Pl.blank s[k] with
        | true =>
          have HT : Hid _ := st_blank (j := 9) hb (by omega)
          rw [hb] at cB
          clear hb
          go_wp2_with fail
          refine cB.mono ?_
          rintro e wa ⟨rfl, hwa⟩
          replace hwa := hwa.symm
          subst hwa
          go_wp2
          go_round
          case rel => exact ⟨9, k + 1, by omega, by omega, rfl, by go_num, run_some hlt HS.out HT.out (by omega)⟩
          case measure => simp [intOf]; omega
        | false =>
          rw [hb] at cB
          by_cases hc : s[k] = 34
          case pos =>
            have HT : Hid _ := st_pat (j := 9) (Or.inl hb) (by omega) (by omega) hc
            have ec : ((s[k].toNat : Int) == (((⟨#[123, 34, 105, 110, 112, 117, 116, 34, 58, 34]⟩ : ByteArray)[9]'(by decide)).toNat : Int)) = true := beq_yes (n := 34) (by omega) hc
            clear hc hb
            have HD : Hid _ := run_done hlt HS.out HT.out
            go_wp2_with fail
            refine cB.mono ?_
            rintro e wa ⟨rfl, hwa⟩
            replace hwa := hwa.symm
            subst hwa
            go_wp2
            go_ret3
            exact ⟨ret3 HD.out (by omega) rfl, rfl⟩
          case neg =>
            have HT : Hid _ := st_none (j := 9) (Or.inl hb) (by omega) (Or.inr hc)
            have HD : Hid _ := run_none hlt HS.out HT.out
            have ec : ((s[k].toNat : Int) == (((⟨#[123, 34, 105, 110, 112, 117, 116, 34, 58, 34]⟩ : ByteArray)[9]'(by decide)).toNat : Int)) = false := beq_no (n := 34) (by omega) hc
            clear hc hb
            go_wp2_with fail
            refine cB.mono ?_
            rintro e wa ⟨rfl, hwa⟩
            replace hwa := hwa.symm
            subst hwa
            go_wp2
            go_ret3
            exact ⟨ret3 HD.out rfl rfl, rfl⟩
end Go.Proofs.Qxb6601840a
