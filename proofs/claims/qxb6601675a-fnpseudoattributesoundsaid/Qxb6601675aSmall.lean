/-
  THE SMALL FUNCTIONS OF THE SEAT, WALKED: zzb1Space (8), zzb1AllSpace (9), isXMLSpace (14), the three bounds (6, 10, 11).
-/
import Derived.Test.Qxb6601675aRows
import Derived.Test.Qxb6601675aPlain
import Derived.WalkKit
namespace Go.Proofs.Qxb6601675a
open Go.RowKit

theorem ret_bool {a b : Bool} (h : a = b) : Ending.returned (.bool a) = .returned (.bool b) := by rw [h]

/-- White space among numbers. -/
def spI (n : Int) : Bool := n == 32 || n == 9 || n == 13 || n == 10

theorem sp_int (c : UInt8) : spI (c.toNat : Int) = Pl.sp c := by
  unfold Pl.sp spI
  rw [Bool.eq_iff_iff]
  simp [← UInt8.toNat_inj]
  omega

theorem space_int (n : Int) (w : World) :
    Calls Try.prog 8 #[.int .u8 n] w fun e w' => e = .returned (.bool (spI n)) ∧ w' = w := by
  go_enter Try.func8, Try.ntmps8
  go_wp2
  all_goals
    go_ret
    exact ⟨ret_bool (by simp_all [spI]), rfl⟩

theorem xml_int (n : Int) (w : World) :
    Calls Try.prog 14 #[.int .i32 n] w fun e w' => e = .returned (.bool (spI n)) ∧ w' = w := by
  go_enter Try.func14, Try.ntmps14
  go_wp2
  all_goals
    go_ret
    exact ⟨ret_bool (by simp_all [spI]), rfl⟩

theorem space_any (c : UInt8) (w : World) :
    Calls Try.prog 8 #[.int .u8 (c.toNat : Int)] w fun e w' => e = .returned (.bool (Pl.sp c)) ∧ w' = w := by
  rw [← sp_int]
  exact space_int _ w

theorem get_list (s : ByteArray) (k : Nat) (h : k < s.size) : s.data.toList[k]? = some s[k] := by
  obtain ⟨⟨l⟩⟩ := s
  have h' : k < l.length := h
  show l[k]? = some _
  rw [List.getElem?_eq_getElem h']
  rfl

theorem take_snoc (s : ByteArray) (k : Nat) (h : k < s.size) : s.data.toList.take (k + 1) = s.data.toList.take k ++ [s[k]] := by
  rw [List.take_succ_eq_append_getElem (by simpa using h)]; rfl

theorem size_list (s : ByteArray) : s.size = s.data.toList.length := by
  obtain ⟨⟨l⟩⟩ := s; rfl

theorem allSp_snoc {l : List UInt8} {c : UInt8} (h : Pl.allSp l = true) (hc : Pl.sp c = true) : Pl.allSp (l ++ [c]) = true := by
  unfold Pl.allSp at *
  rw [List.all_append, h]; simp [hc]

theorem allSp_no {l : List UInt8} {c : UInt8} (h : c ∈ l) (hc : Pl.sp c = false) : Pl.allSp l = false := by
  unfold Pl.allSp
  rw [List.all_eq_false]
  exact ⟨c, h, by rw [hc]; simp⟩

/-- zzb1AllSpace. -/
theorem allSpace_any (s : ByteArray) (w : World) (hs : s.size ≤ 9223372036854775806) :
    Calls Try.prog 9 #[.string s] w fun e w' => e = .returned (.bool (Pl.allSp s.data.toList)) ∧ w' = w := by
  go_enter Try.func9, Try.ntmps9
  go_wp2
  go_loop [3] (fun i => ∃ k : Nat, k ≤ s.size ∧ i = .int .i64 k ∧ Pl.allSp (s.data.toList.take k) = true) (fun i => s.size - (intOf i).toNat)
  case atStart => exact ⟨0, Nat.zero_le _, rfl, rfl⟩
  case round =>
    obtain ⟨k, hk, rfl, hall⟩ := hrel
    have HA : Hid (Pl.allSp (s.data.toList.take k) = true) := hall
    clear hall
    by_cases hlt : k < s.size
    · cases hsp : Pl.sp s[k] with
      | true =>
        have cS := space_any s[k]
        rw [hsp] at cS
        have HS : Hid (Pl.sp s[k] = true) := hsp
        clear hsp
        go_wp2_with (go_at_call 8; refine (cS _).mono ?_; rintro e w' ⟨rfl, rfl⟩)
        go_round
        case rel => exact ⟨k + 1, by omega, by go_num, by rw [take_snoc s k hlt]; exact allSp_snoc HA.out HS.out⟩
        case measure => simp [intOf]; omega
      | false =>
        have cS := space_any s[k]
        rw [hsp] at cS
        have HS : Hid (Pl.sp s[k] = false) := hsp
        clear hsp
        go_wp2_with (go_at_call 8; refine (cS _).mono ?_; rintro e w' ⟨rfl, rfl⟩)
        go_ret
        refine ⟨ret_bool ?_, rfl⟩
        symm
        exact allSp_no (List.mem_of_getElem? (get_list s k hlt)) HS.out
    · go_wp2
      go_ret
      refine ⟨ret_bool ?_, rfl⟩
      have := HA.out
      rw [List.take_of_length_le (by rw [← size_list]; omega)] at this
      exact this.symm

theorem bytes4 (s name : ByteArray) (w : World) (h1 : s.size ≤ maxLen) (h2 : name.size ≤ maxLen) :
    Calls Try.prog 10 #[.string s, .string name] w fun e w' => e = .returned (.bool (decide (s.size + name.size ≤ 1048576))) ∧ w' = w := by
  unfold maxLen at h1 h2
  go_enter Try.func10, Try.ntmps10
  go_wp2
  all_goals
    go_ret
    exact ⟨ret_bool (by simp; omega), rfl⟩
end Go.Proofs.Qxb6601675a
