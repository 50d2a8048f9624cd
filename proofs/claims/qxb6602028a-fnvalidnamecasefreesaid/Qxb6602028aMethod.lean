/-
  THE WALKS OF strings.IndexByte (31), validMethod (26), ZZValidMethod (11), lawMethodByte (27), lawModelMethod (12).
-/
import Derived.Test.Qxb6602028aName
import Derived.Lib.Bytealg
namespace Go.Proofs.Qxb6602028a
open Go.RowKit

theorem indexByte_any (s : ByteArray) (c : Int) (w : World) :
    Calls Try.prog 31 #[.string s, .int .u8 c] w fun e w' => e = .returned (.int .i64 (Lib.indexByte s.data.toList c.toNat.toUInt8)) ∧ w' = w := by
  go_enter Try.func31, Try.ntmps31
  go_wp2
  rw [run_callFunc_extern Try.func36 (by kernel_rfl) (by kernel_rfl) (by kernel_rfl) (e := Extern.BytealgIndexByte.indexByte) (by kernel_rfl), Lib.run_indexByteString]
  simp only [Result.andThen]
  rw [Oper.upon_value]
  go_wp2
  go_ret
  exact ⟨rfl, rfl⟩

def syms : List UInt8 := [33, 35, 36, 37, 38, 39, 42, 43, 45, 46, 94, 95, 96, 124, 126]

theorem sym_all : ∀ n, n < 256 → decide (0 ≤ Lib.indexByte syms (UInt8.ofNat n)) = Pl.symN n := by decide +kernel

theorem sym_any (c : UInt8) (w : World) :
    Calls Try.prog 31 #[.string { data := #[33, 35, 36, 37, 38, 39, 42, 43, 45, 46, 94, 95, 96, 124, 126] }, .int .u8 (c.toNat : Int)] w fun e w' => ∃ I : Int, e = .returned (.int .i64 I) ∧ decide (0 ≤ I) = Pl.symN c.toNat ∧ w' = w := by
  refine (indexByte_any _ _ w).mono ?_
  rintro e w' ⟨rfl, rfl⟩
  refine ⟨_, rfl, ?_, rfl⟩
  have h := sym_all c.toNat c.toNat_lt
  rw [UInt8.ofNat_toNat] at h
  rw [← h]
  have e1 : ((c.toNat : Int)).toNat.toUInt8 = c := by rw [Int.toNat_natCast]; exact UInt8.ofNat_toNat
  rw [e1]
  rfl

theorem vMeth_empty (s : ByteArray) (h : s.size = 0) : Pl.vMeth s.data.toList = false := by
  obtain ⟨⟨l⟩⟩ := s
  cases l with
  | nil => rfl
  | cons a t => simp [ByteArray.size] at h

theorem vMeth_whole {s : ByteArray} {k : Nat} (h0 : ¬ s.size = 0) (hk : ¬ k < s.size) (h : (s.data.toList.take k).all Pl.methB = true) : true = Pl.vMeth s.data.toList := by
  rw [List.take_of_length_le (by rw [← size_list]; omega)] at h
  unfold Pl.vMeth
  rw [h, isEmpty_false s (by omega)]
  rfl

theorem vMeth_no {s : ByteArray} {k : Nat} (hk : k < s.size) (h : Pl.methB s[k] = false) : false = Pl.vMeth s.data.toList := by
  unfold Pl.vMeth
  have : s.data.toList.all Pl.methB = false := by
    rw [List.all_eq_false]
    exact ⟨s[k], List.mem_of_getElem? (get_list s k hk), by rw [h]; simp⟩
  rw [this]
  simp

theorem meth_in {c : UInt8} (h : (65 ≤ c.toNat ∧ c.toNat ≤ 90) ∨ (48 ≤ c.toNat ∧ c.toNat ≤ 57)) : Pl.methB c = true := by
  unfold Pl.methB Pl.methN
  simp only [Bool.or_eq_true, decide_eq_true_eq]
  exact Or.inl h
theorem meth_out {c : UInt8} (h : ¬ ((65 ≤ c.toNat ∧ c.toNat ≤ 90) ∨ (48 ≤ c.toNat ∧ c.toNat ≤ 57))) : Pl.methB c = Pl.symN c.toNat := by
  unfold Pl.methB Pl.methN
  have h1 : decide (65 ≤ c.toNat ∧ c.toNat ≤ 90) = false := decide_eq_false (by omega)
  have h2 : decide (48 ≤ c.toNat ∧ c.toNat ≤ 57) = false := decide_eq_false (by omega)
  rw [h1, h2]
  rfl

theorem mclasses (n : Nat) : n < 48 ∨ (48 ≤ n ∧ n ≤ 57) ∨ (57 < n ∧ n < 65) ∨ (65 ≤ n ∧ n ≤ 90) ∨ 90 < n := by omega

set_option maxHeartbeats 1000000 in
/-- validMethod. -/
theorem validMethod_any (s : ByteArray) (w : World) (hs : s.size ≤ 1048576) :
    Calls Try.prog 26 #[.string s] w fun e w' => e = .returned (.bool (Pl.vMeth s.data.toList)) ∧ Below w.heap.size w w' := by
  by_cases h0 : s.size = 0
  · have he := toList_empty s h0
    have hv := vMeth_empty s h0
    go_enter Try.func26, Try.ntmps26
    go_wp2
    go_ret
    exact ⟨ret_bool hv.symm, Below.refl _ _⟩
  · obtain ⟨cap, W, hcv, hb, hcell⟩ := bytes_of s w
    have hne := toList_ne s h0
    go_enter Try.func26, Try.ntmps26
    go_wp2
    go_loop [10] (fun i => ∃ k : Nat, k ≤ s.size ∧ i = .int .i64 k ∧ (s.data.toList.take k).all Pl.methB = true) (fun i => s.size - (intOf i).toNat)
    case atStart => exact ⟨0, Nat.zero_le _, rfl, by simp⟩
    case round =>
      obtain ⟨k, hk, rfl, hall⟩ := hrel
      have HA : Hid ((s.data.toList.take k).all Pl.methB = true) := hall
      clear hall
      by_cases hlt : k < s.size
      · have hc := hcell k hlt
        clear hcell
        have cS := sym_any s[k]
        rcases mclasses s[k].toNat with h | h | h | h | h
        · have hm : Pl.methB s[k] = Pl.symN s[k].toNat := meth_out (by omega)
          have d0 : decide (65 ≤ (s[k].toNat : Int)) = false := decide_eq_false (by omega)
          have d1 : decide ((s[k].toNat : Int) ≤ 90) = true := decide_eq_true (by omega)
          have d2 : decide (48 ≤ (s[k].toNat : Int)) = false := decide_eq_false (by omega)
          have d3 : decide ((s[k].toNat : Int) ≤ 57) = true := decide_eq_true (by omega)
          clear h
          rw [← hm] at cS
          clear hm
          cases hn : Pl.methB s[k] with
          | true =>
            rw [hn] at cS
            have HN : Hid (Pl.methB s[k] = true) := hn
            clear hn
            go_wp2_with (go_at_call 31; refine (cS _).mono ?_; rintro e w' ⟨I, rfl, hI, rfl⟩)
            go_round
            case rel => exact ⟨k + 1, by omega, by go_num, by rw [take_snoc s k hlt]; exact all_snoc HA.out HN.out⟩
            case measure => simp [intOf]; omega
          | false =>
            rw [hn] at cS
            have HN : Hid (Pl.methB s[k] = false) := hn
            clear hn
            go_wp2_with (go_at_call 31; refine (cS _).mono ?_; rintro e w' ⟨I, rfl, hI, rfl⟩)
            go_ret
            exact ⟨ret_bool (vMeth_no hlt HN.out), hb⟩
        · have HN : Hid (Pl.methB s[k] = true) := meth_in (by omega)
          have d0 : decide (65 ≤ (s[k].toNat : Int)) = false := decide_eq_false (by omega)
          have d1 : decide ((s[k].toNat : Int) ≤ 90) = true := decide_eq_true (by omega)
          have d2 : decide (48 ≤ (s[k].toNat : Int)) = true := decide_eq_true (by omega)
          have d3 : decide ((s[k].toNat : Int) ≤ 57) = true := decide_eq_true (by omega)
          clear h cS
          go_wp2
          go_round
          case rel => exact ⟨k + 1, by omega, by go_num, by rw [take_snoc s k hlt]; exact all_snoc HA.out HN.out⟩
          case measure => simp [intOf]; omega
        · have hm : Pl.methB s[k] = Pl.symN s[k].toNat := meth_out (by omega)
          have d0 : decide (65 ≤ (s[k].toNat : Int)) = false := decide_eq_false (by omega)
          have d1 : decide ((s[k].toNat : Int) ≤ 90) = true := decide_eq_true (by omega)
          have d2 : decide (48 ≤ (s[k].toNat : Int)) = true := decide_eq_true (by omega)
          have d3 : decide ((s[k].toNat : Int) ≤ 57) = false := decide_eq_false (by omega)
          clear h
          rw [← hm] at cS
          clear hm
          cases hn : Pl.methB s[k] with
          | true =>
            rw [hn] at cS
            have HN : Hid (Pl.methB s[k] = true) := hn
            clear hn
            go_wp2_with (go_at_call 31; refine (cS _).mono ?_; rintro e w' ⟨I, rfl, hI, rfl⟩)
            go_round
            case rel => exact ⟨k + 1, by omega, by go_num, by rw [take_snoc s k hlt]; exact all_snoc HA.out HN.out⟩
            case measure => simp [intOf]; omega
          | false =>
            rw [hn] at cS
            have HN : Hid (Pl.methB s[k] = false) := hn
            clear hn
            go_wp2_with (go_at_call 31; refine (cS _).mono ?_; rintro e w' ⟨I, rfl, hI, rfl⟩)
            go_ret
            exact ⟨ret_bool (vMeth_no hlt HN.out), hb⟩
        · have HN : Hid (Pl.methB s[k] = true) := meth_in (by omega)
          have d0 : decide (65 ≤ (s[k].toNat : Int)) = true := decide_eq_true (by omega)
          have d1 : decide ((s[k].toNat : Int) ≤ 90) = true := decide_eq_true (by omega)
          have d2 : decide (48 ≤ (s[k].toNat : Int)) = true := decide_eq_true (by omega)
          have d3 : decide ((s[k].toNat : Int) ≤ 57) = false := decide_eq_false (by omega)
          clear h cS
          go_wp2
          go_round
          case rel => exact ⟨k + 1, by omega, by go_num, by rw [take_snoc s k hlt]; exact all_snoc HA.out HN.out⟩
          case measure => simp [intOf]; omega
        · have hm : Pl.methB s[k] = Pl.symN s[k].toNat := meth_out (by omega)
          have d0 : decide (65 ≤ (s[k].toNat : Int)) = true := decide_eq_true (by omega)
          have d1 : decide ((s[k].toNat : Int) ≤ 90) = false := decide_eq_false (by omega)
          have d2 : decide (48 ≤ (s[k].toNat : Int)) = true := decide_eq_true (by omega)
          have d3 : decide ((s[k].toNat : Int) ≤ 57) = false := decide_eq_false (by omega)
          clear h
          rw [← hm] at cS
          clear hm
          cases hn : Pl.methB s[k] with
          | true =>
            rw [hn] at cS
            have HN : Hid (Pl.methB s[k] = true) := hn
            clear hn
            go_wp2_with (go_at_call 31; refine (cS _).mono ?_; rintro e w' ⟨I, rfl, hI, rfl⟩)
            go_round
            case rel => exact ⟨k + 1, by omega, by go_num, by rw [take_snoc s k hlt]; exact all_snoc HA.out HN.out⟩
            case measure => simp [intOf]; omega
          | false =>
            rw [hn] at cS
            have HN : Hid (Pl.methB s[k] = false) := hn
            clear hn
            go_wp2_with (go_at_call 31; refine (cS _).mono ?_; rintro e w' ⟨I, rfl, hI, rfl⟩)
            go_ret
            exact ⟨ret_bool (vMeth_no hlt HN.out), hb⟩
      · go_wp2
        go_ret
        exact ⟨ret_bool (vMeth_whole h0 hlt HA.out), hb⟩

theorem zzMethod_any (s : ByteArray) (w : World) (hs : s.size ≤ 1048576) :
    Calls Try.prog 11 #[.string s] w fun e w' => e = .returned (.bool (Pl.vMeth s.data.toList)) ∧ Below w.heap.size w w' := by
  go_enter Try.func11, Try.ntmps11
  go_wp2_with (go_at_call 26; refine (validMethod_any s _ hs).mono ?_; rintro e w' ⟨rfl, hb⟩)
  go_ret
  exact ⟨rfl, hb⟩

theorem model_iff (n : Nat) : Pl.modelN n = true ↔ 33 ≤ n ∧ n ≤ 126 ∧ ¬ (97 ≤ n ∧ n ≤ 122) ∧ n ≠ 34 ∧ n ≠ 40 ∧ n ≠ 41 ∧ n ≠ 44 ∧ n ≠ 47 ∧ n ≠ 58 ∧ n ≠ 59 ∧ n ≠ 60 ∧ n ≠ 61 ∧ n ≠ 62 ∧ n ≠ 63 ∧ n ≠ 64 ∧ n ≠ 91 ∧ n ≠ 92 ∧ n ≠ 93 ∧ n ≠ 123 ∧ n ≠ 125 := by
  unfold Pl.modelN
  simp
  omega
theorem model_yes {n : Nat} (h : 33 ≤ n ∧ n ≤ 126 ∧ ¬ (97 ≤ n ∧ n ≤ 122) ∧ n ≠ 34 ∧ n ≠ 40 ∧ n ≠ 41 ∧ n ≠ 44 ∧ n ≠ 47 ∧ n ≠ 58 ∧ n ≠ 59 ∧ n ≠ 60 ∧ n ≠ 61 ∧ n ≠ 62 ∧ n ≠ 63 ∧ n ≠ 64 ∧ n ≠ 91 ∧ n ≠ 92 ∧ n ≠ 93 ∧ n ≠ 123 ∧ n ≠ 125) : true = Pl.modelN n :=
  ((model_iff n).2 h).symm
theorem model_no {n : Nat} (h : ¬ (33 ≤ n ∧ n ≤ 126 ∧ ¬ (97 ≤ n ∧ n ≤ 122) ∧ n ≠ 34 ∧ n ≠ 40 ∧ n ≠ 41 ∧ n ≠ 44 ∧ n ≠ 47 ∧ n ≠ 58 ∧ n ≠ 59 ∧ n ≠ 60 ∧ n ≠ 61 ∧ n ≠ 62 ∧ n ≠ 63 ∧ n ≠ 64 ∧ n ≠ 91 ∧ n ≠ 92 ∧ n ≠ 93 ∧ n ≠ 123 ∧ n ≠ 125)) : false = Pl.modelN n :=
  (Bool.eq_false_iff.2 fun e => h ((model_iff n).1 e)).symm

set_option maxHeartbeats 1000000 in
theorem methodByte_any (n : Nat) (w : World) :
    Calls Try.prog 27 #[.int .u8 (n : Int)] w fun e w' => e = .returned (.bool (Pl.modelN n)) ∧ w' = w := by
  go_enter Try.func27, Try.ntmps27
  go_wp2
  all_goals
    go_ret
    refine ⟨ret_bool ?_, rfl⟩
    try simp only [beq_iff_eq, beq_eq_false_iff_ne, ne_eq] at *
    first
      | (refine model_yes ?_; omega)
      | (refine model_no ?_; omega)

theorem modelByte_any (c : UInt8) (w : World) :
    Calls Try.prog 27 #[.int .u8 (c.toNat : Int)] w fun e w' => e = .returned (.bool (Pl.methB c)) ∧ w' = w := by
  have h := methodByte_any c.toNat w
  rw [Pl.model_meth _ c.toNat_lt] at h
  exact h

set_option maxHeartbeats 1000000 in
/-- lawModelMethod. -/
theorem modelMethod_any (s : ByteArray) (w : World) (hs : s.size ≤ 1048576) :
    Calls Try.prog 12 #[.string s] w fun e w' => e = .returned (.bool (Pl.vMeth s.data.toList)) ∧ w' = w := by
  by_cases h0 : s.size = 0
  · have hv := vMeth_empty s h0
    go_enter Try.func12, Try.ntmps12
    go_wp2
    go_ret
    exact ⟨ret_bool hv.symm, rfl⟩
  · have hz : ((s.size : Int) == 0) = false := beq_eq_false_iff_ne.2 (by omega)
    go_enter Try.func12, Try.ntmps12
    go_wp2
    go_loop [3] (fun i => ∃ k : Nat, k ≤ s.size ∧ i = .int .i64 k ∧ (s.data.toList.take k).all Pl.methB = true) (fun i => s.size - (intOf i).toNat)
    case atStart => exact ⟨0, Nat.zero_le _, rfl, by simp⟩
    case round =>
      obtain ⟨k, hk, rfl, hall⟩ := hrel
      have HA : Hid ((s.data.toList.take k).all Pl.methB = true) := hall
      clear hall
      by_cases hlt : k < s.size
      · have cS := modelByte_any s[k]
        cases hn : Pl.methB s[k] with
        | true =>
          rw [hn] at cS
          have HN : Hid (Pl.methB s[k] = true) := hn
          clear hn
          go_wp2_with (go_at_call 27; refine (cS _).mono ?_; rintro e w' ⟨rfl, rfl⟩)
          go_round
          case rel => exact ⟨k + 1, by omega, by go_num, by rw [take_snoc s k hlt]; exact all_snoc HA.out HN.out⟩
          case measure => simp [intOf]; omega
        | false =>
          rw [hn] at cS
          have HN : Hid (Pl.methB s[k] = false) := hn
          clear hn
          go_wp2_with (go_at_call 27; refine (cS _).mono ?_; rintro e w' ⟨rfl, rfl⟩)
          go_ret
          exact ⟨ret_bool (vMeth_no hlt HN.out), rfl⟩
      · go_wp2
        go_ret
        exact ⟨ret_bool (vMeth_whole h0 hlt HA.out), rfl⟩
end Go.Proofs.Qxb6602028a
