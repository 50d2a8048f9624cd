/-
  THE WALKS OF strings.IndexByte (37), misplacedSchemeBracket (31), ZZMisplacedSchemeBracket (19), THE BOUNDS (18, 21).
-/
import Derived.Test.Qxb6602120aRows
import Derived.Test.Qxb6602120aPlain
import Derived.Test.Qxb6602120aShelf
import Derived.WalkKit
namespace Go.Proofs.Qxb6602120a
open Go.RowKit

theorem ret_bool {a b : Bool} (h : a = b) : Ending.returned (.bool a) = .returned (.bool b) := by rw [h]
theorem ret_int {k : IntKind} {a b : Int} (h : a = b) : Ending.returned (.int k a) = .returned (.int k b) := by rw [h]

theorem size_list (s : ByteArray) : s.size = s.data.toList.length := by
  obtain ⟨⟨l⟩⟩ := s; rfl

theorem drop_at (s : ByteArray) (k : Nat) (h : k < s.size) : s.data.toList.drop k = s[k] :: s.data.toList.drop (k + 1) := by
  have h' : k < s.data.toList.length := by rw [← size_list]; exact h
  rw [List.drop_eq_getElem_cons h']
  rfl

theorem drop_end (s : ByteArray) (k : Nat) (h : ¬ k < s.size) : s.data.toList.drop k = [] := by
  rw [List.drop_eq_nil_iff, ← size_list]; omega

theorem indexByte_any (s : ByteArray) (c : Int) (w : World) :
    Calls Try.prog 37 #[.string s, .int .u8 c] w fun e w' => e = .returned (.int .i64 (Lib.indexByte s.data.toList c.toNat.toUInt8)) ∧ w' = w := by
  go_enter Try.func37, Try.ntmps37
  go_wp2
  rw [run_callFunc_extern Try.func44 (by kernel_rfl) (by kernel_rfl) (by kernel_rfl) (e := Extern.BytealgIndexByte.indexByte) (by kernel_rfl), Lib.run_indexByteString]
  simp only [Result.andThen]
  rw [Oper.upon_value]
  go_wp2
  go_ret
  exact ⟨rfl, rfl⟩

theorem colon_any (s : ByteArray) (w : World) :
    Calls Try.prog 37 #[.string s, .int .u8 58] w fun e w' => e = .returned (.int .i64 (Lib.indexByte s.data.toList 58)) ∧ w' = w := indexByte_any s 58 w

theorem brk_all : ∀ n, n < 256 → Lib.indexByte [123, 125, 40, 41] (UInt8.ofNat n) = Pl.brk (UInt8.ofNat n) := by decide +kernel

theorem brk_any (c : UInt8) (w : World) :
    Calls Try.prog 37 #[.string { data := #[123, 125, 40, 41] }, .int .u8 (c.toNat : Int)] w fun e w' => e = .returned (.int .i64 (Pl.brk c)) ∧ w' = w := by
  refine (indexByte_any _ _ w).mono ?_
  rintro e w' ⟨rfl, rfl⟩
  refine ⟨?_, rfl⟩
  have h := brk_all c.toNat c.toNat_lt
  rw [UInt8.ofNat_toNat] at h
  have e1 : ((c.toNat : Int)).toNat.toUInt8 = c := by rw [Int.toNat_natCast]; exact UInt8.ofNat_toNat
  rw [e1, ← h]

theorem indexByte_lt : ∀ (l : List UInt8) (c : UInt8), Lib.indexByte l c < l.length
  | [], c => by simp [Lib.indexByte]
  | b :: l, c => by
    have := indexByte_lt l c
    rw [Pl.indexByte_cons, List.length_cons]
    split
    · omega
    · split <;> omega

/-- One step of the scan. -/
theorem scan_none {s : ByteArray} {k : Nat} {nx op R : Int} (hk : k < s.size) (h : Pl.scan nx op k (s.data.toList.drop k) = R) (hb : Pl.brk s[k] = -1) : Pl.scan nx op (k + 1) (s.data.toList.drop (k + 1)) = R := by
  rw [drop_at s k hk, Pl.scan, if_pos (by omega)] at h
  exact h
theorem scan_yes {s : ByteArray} {k : Nat} {nx op R b : Int} (hk : k < s.size) (h : Pl.scan nx op k (s.data.toList.drop k) = R) (hb : Pl.brk s[k] = b) (h0 : 0 ≤ b) (h1 : b = nx ∨ (b = 2 ∧ nx = 0)) : Pl.scan (b + 1) k (k + 1) (s.data.toList.drop (k + 1)) = R := by
  rw [drop_at s k hk, Pl.scan, if_neg (by omega), hb, if_pos h1] at h
  exact h
theorem scan_stop {s : ByteArray} {k : Nat} {nx op R b : Int} (hk : k < s.size) (h : Pl.scan nx op k (s.data.toList.drop k) = R) (hb : Pl.brk s[k] = b) (h0 : 0 ≤ b) (h1 : ¬ (b = nx ∨ (b = 2 ∧ nx = 0))) : (k : Int) = R := by
  rw [drop_at s k hk, Pl.scan, if_neg (by omega), hb, if_neg h1] at h
  exact h
theorem scan_end {s : ByteArray} {k : Nat} {nx op R : Int} (hk : ¬ k < s.size) (h : Pl.scan nx op k (s.data.toList.drop k) = R) : (if nx % 2 = 1 then op else -1) = R := by
  rw [drop_end s k hk, Pl.scan] at h
  exact h

theorem brk_cases (c : UInt8) : Pl.brk c = -1 ∨ Pl.brk c = 0 ∨ Pl.brk c = 1 ∨ Pl.brk c = 2 ∨ Pl.brk c = 3 := by
  have := Pl.brk_ge c; omega

set_option maxHeartbeats 4000000 in
/-- misplacedSchemeBracket. -/
theorem misp_any (s : ByteArray) (w : World) (hsh : w.ShapedOpen Try.prog) (hs : s.size ≤ 1048576) :
    Calls Try.prog 31 #[.string s] w fun e w' => e = .returned (.int .i64 (Pl.misp s.data.toList)) ∧ w' = w := by
  have cC := colon_any s w
  have cN := Try.strings_Contains_shaped s ⟨#[36, 123]⟩ w hsh (by omega)
  have hR : Pl.misp s.data.toList = Pl.misp s.data.toList := rfl
  conv at hR => lhs; unfold Pl.misp
  change Calls Try.prog 38 _ w fun e w' => e = .returned (.bool (Lib.contains s.data.toList [36, 123])) ∧ w' = w at cN
  have hge := Lib.indexByte_ge s.data.toList 58
  have hle : Lib.indexByte s.data.toList 58 < s.size := by
    rw [size_list]; exact indexByte_lt _ _
  generalize Lib.indexByte s.data.toList 58 = col at cC hR hge hle
  generalize Lib.contains s.data.toList [36, 123] = cont at cN hR
  generalize Pl.misp s.data.toList = R at hR ⊢
  by_cases hcol : col < 0
  · rw [if_pos hcol] at hR
    subst hR
    go_enter Try.func31, Try.ntmps31
    go_wp2_with (go_at_call 37; refine cC.mono ?_; rintro e w' ⟨rfl, rfl⟩)
    go_ret
    exact ⟨rfl, rfl⟩
  · rw [if_neg hcol] at hR
    have hd : decide (col < 0) = false := decide_eq_false hcol
    cases cont with
    | true =>
      rw [if_pos rfl] at hR
      subst hR
      go_enter Try.func31, Try.ntmps31
      go_wp2_with (first
        | (go_at_call 37; refine cC.mono ?_; rintro e w' ⟨rfl, rfl⟩)
        | (go_at_call 38; refine cN.mono ?_; rintro e w' ⟨rfl, rfl⟩))
      go_ret
      exact ⟨rfl, rfl⟩
    | false =>
      rw [if_neg (by simp)] at hR
      obtain ⟨n, rfl⟩ := Int.eq_ofNat_of_zero_le (show 0 ≤ col by omega)
      rw [Int.toNat_natCast] at hR
      have HR : Hid (Pl.scan 0 (-1) (n + 1) (s.data.toList.drop (n + 1)) = R) := hR
      clear hR
      go_enter Try.func31, Try.ntmps31
      go_wp2_with (first
        | (go_at_call 37; refine cC.mono ?_; rintro e w' ⟨rfl, rfl⟩)
        | (go_at_call 38; refine cN.mono ?_; rintro e w' ⟨rfl, rfl⟩))
      clear cC cN hsh
      go_loop [4, 5, 6] (fun nx op i => ∃ (a b : Int) (k : Nat), k ≤ s.size ∧ nx = .int .i64 a ∧ op = .int .i64 b ∧ i = .int .i64 k ∧ 0 ≤ a ∧ a ≤ 4 ∧ Pl.scan a b k (s.data.toList.drop k) = R) (fun _ _ i => s.size - (intOf i).toNat)
      case atStart => exact ⟨0, -1, n + 1, by omega, rfl, rfl, by go_num, by omega, by omega, HR.out⟩
      case round =>
        obtain ⟨a, b, k, hk, rfl, rfl, rfl, ha0, ha4, hsc⟩ := hrel
        have HS : Hid (Pl.scan a b k (s.data.toList.drop k) = R) := hsc
        clear hsc
        by_cases hlt : k < s.size
        · have cB := brk_any s[k]
          rcases brk_cases s[k] with hb | hb | hb | hb | hb
          · have HB : Hid (Pl.brk s[k] = -1) := hb
            rw [hb] at cB
            clear hb
            go_wp2_with (go_at_call 37; refine (cB _).mono ?_; rintro e w' ⟨rfl, rfl⟩)
            go_round
            case rel => exact ⟨a, b, k + 1, by omega, rfl, rfl, by go_num, ha0, ha4, scan_none hlt HS.out HB.out⟩
            case measure => simp [intOf]; omega
          · have HB : Hid (Pl.brk s[k] = 0) := hb
            rw [hb] at cB
            clear hb
            rcases (by omega : a = 0 ∨ a = 1 ∨ a = 2 ∨ a = 3 ∨ a = 4) with rfl | rfl | rfl | rfl | rfl
            · go_wp2_with (go_at_call 37; refine (cB _).mono ?_; rintro e w' ⟨rfl, rfl⟩)
              go_round
              case rel => exact ⟨1, (k : Int), k + 1, by omega, rfl, rfl, by go_num, by omega, by omega, scan_yes hlt HS.out HB.out (by omega) (by omega)⟩
              case measure => simp [intOf]; omega
            · go_wp2_with (go_at_call 37; refine (cB _).mono ?_; rintro e w' ⟨rfl, rfl⟩)
              go_ret
              exact ⟨ret_int (scan_stop hlt HS.out HB.out (by omega) (by omega)), rfl⟩
            · go_wp2_with (go_at_call 37; refine (cB _).mono ?_; rintro e w' ⟨rfl, rfl⟩)
              go_ret
              exact ⟨ret_int (scan_stop hlt HS.out HB.out (by omega) (by omega)), rfl⟩
            · go_wp2_with (go_at_call 37; refine (cB _).mono ?_; rintro e w' ⟨rfl, rfl⟩)
              go_ret
              exact ⟨ret_int (scan_stop hlt HS.out HB.out (by omega) (by omega)), rfl⟩
            · go_wp2_with (go_at_call 37; refine (cB _).mono ?_; rintro e w' ⟨rfl, rfl⟩)
              go_ret
              exact ⟨ret_int (scan_stop hlt HS.out HB.out (by omega) (by omega)), rfl⟩
          · have HB : Hid (Pl.brk s[k] = 1) := hb
            rw [hb] at cB
            clear hb
            rcases (by omega : a = 0 ∨ a = 1 ∨ a = 2 ∨ a = 3 ∨ a = 4) with rfl | rfl | rfl | rfl | rfl
            · go_wp2_with (go_at_call 37; refine (cB _).mono ?_; rintro e w' ⟨rfl, rfl⟩)
              go_ret
              exact ⟨ret_int (scan_stop hlt HS.out HB.out (by omega) (by omega)), rfl⟩
            · go_wp2_with (go_at_call 37; refine (cB _).mono ?_; rintro e w' ⟨rfl, rfl⟩)
              go_round
              case rel => exact ⟨2, (k : Int), k + 1, by omega, rfl, rfl, by go_num, by omega, by omega, scan_yes hlt HS.out HB.out (by omega) (by omega)⟩
              case measure => simp [intOf]; omega
            · go_wp2_with (go_at_call 37; refine (cB _).mono ?_; rintro e w' ⟨rfl, rfl⟩)
              go_ret
              exact ⟨ret_int (scan_stop hlt HS.out HB.out (by omega) (by omega)), rfl⟩
            · go_wp2_with (go_at_call 37; refine (cB _).mono ?_; rintro e w' ⟨rfl, rfl⟩)
              go_ret
              exact ⟨ret_int (scan_stop hlt HS.out HB.out (by omega) (by omega)), rfl⟩
            · go_wp2_with (go_at_call 37; refine (cB _).mono ?_; rintro e w' ⟨rfl, rfl⟩)
              go_ret
              exact ⟨ret_int (scan_stop hlt HS.out HB.out (by omega) (by omega)), rfl⟩
          · have HB : Hid (Pl.brk s[k] = 2) := hb
            rw [hb] at cB
            clear hb
            rcases (by omega : a = 0 ∨ a = 1 ∨ a = 2 ∨ a = 3 ∨ a = 4) with rfl | rfl | rfl | rfl | rfl
            · go_wp2_with (go_at_call 37; refine (cB _).mono ?_; rintro e w' ⟨rfl, rfl⟩)
              go_round
              case rel => exact ⟨3, (k : Int), k + 1, by omega, rfl, rfl, by go_num, by omega, by omega, scan_yes hlt HS.out HB.out (by omega) (by omega)⟩
              case measure => simp [intOf]; omega
            · go_wp2_with (go_at_call 37; refine (cB _).mono ?_; rintro e w' ⟨rfl, rfl⟩)
              go_ret
              exact ⟨ret_int (scan_stop hlt HS.out HB.out (by omega) (by omega)), rfl⟩
            · go_wp2_with (go_at_call 37; refine (cB _).mono ?_; rintro e w' ⟨rfl, rfl⟩)
              go_round
              case rel => exact ⟨3, (k : Int), k + 1, by omega, rfl, rfl, by go_num, by omega, by omega, scan_yes hlt HS.out HB.out (by omega) (by omega)⟩
              case measure => simp [intOf]; omega
            · go_wp2_with (go_at_call 37; refine (cB _).mono ?_; rintro e w' ⟨rfl, rfl⟩)
              go_ret
              exact ⟨ret_int (scan_stop hlt HS.out HB.out (by omega) (by omega)), rfl⟩
            · go_wp2_with (go_at_call 37; refine (cB _).mono ?_; rintro e w' ⟨rfl, rfl⟩)
              go_ret
              exact ⟨ret_int (scan_stop hlt HS.out HB.out (by omega) (by omega)), rfl⟩
          · have HB : Hid (Pl.brk s[k] = 3) := hb
            rw [hb] at cB
            clear hb
            rcases (by omega : a = 0 ∨ a = 1 ∨ a = 2 ∨ a = 3 ∨ a = 4) with rfl | rfl | rfl | rfl | rfl
            · go_wp2_with (go_at_call 37; refine (cB _).mono ?_; rintro e w' ⟨rfl, rfl⟩)
              go_ret
              exact ⟨ret_int (scan_stop hlt HS.out HB.out (by omega) (by omega)), rfl⟩
            · go_wp2_with (go_at_call 37; refine (cB _).mono ?_; rintro e w' ⟨rfl, rfl⟩)
              go_ret
              exact ⟨ret_int (scan_stop hlt HS.out HB.out (by omega) (by omega)), rfl⟩
            · go_wp2_with (go_at_call 37; refine (cB _).mono ?_; rintro e w' ⟨rfl, rfl⟩)
              go_ret
              exact ⟨ret_int (scan_stop hlt HS.out HB.out (by omega) (by omega)), rfl⟩
            · go_wp2_with (go_at_call 37; refine (cB _).mono ?_; rintro e w' ⟨rfl, rfl⟩)
              go_round
              case rel => exact ⟨4, (k : Int), k + 1, by omega, rfl, rfl, by go_num, by omega, by omega, scan_yes hlt HS.out HB.out (by omega) (by omega)⟩
              case measure => simp [intOf]; omega
            · go_wp2_with (go_at_call 37; refine (cB _).mono ?_; rintro e w' ⟨rfl, rfl⟩)
              go_ret
              exact ⟨ret_int (scan_stop hlt HS.out HB.out (by omega) (by omega)), rfl⟩
        · have HE := scan_end hlt HS.out
          rcases (by omega : a = 0 ∨ a = 1 ∨ a = 2 ∨ a = 3 ∨ a = 4) with rfl | rfl | rfl | rfl | rfl
          all_goals
            simp only [Int.reduceMod, if_true, if_false, Int.zero_emod, Int.zero_ne_one, Int.emod_self] at HE
            have HE2 : Hid (_ = R) := HE
            clear HE
            go_wp2
            go_ret
            exact ⟨ret_int HE2.out, rfl⟩

theorem zzMisp_any (s : ByteArray) (w : World) (hsh : w.ShapedOpen Try.prog) (hs : s.size ≤ 1048576) :
    Calls Try.prog 19 #[.string s] w fun e w' => e = .returned (.int .i64 (Pl.misp s.data.toList)) ∧ w' = w := by
  go_enter Try.func19, Try.ntmps19
  go_wp2_with (go_at_call 31; refine (misp_any s _ hsh hs).mono ?_; rintro e w' ⟨rfl, rfl⟩)
  go_ret
  exact ⟨rfl, rfl⟩

theorem bytes18 (s : ByteArray) (w : World) (h1 : s.size ≤ maxLen) :
    Calls Try.prog 18 #[.string s] w fun e w' => e = .returned (.bool (decide (s.size ≤ 1048576))) ∧ w' = w := by
  unfold maxLen at h1
  go_enter Try.func18, Try.ntmps18
  go_wp2
  all_goals
    go_ret
    exact ⟨ret_bool (by simp; omega), rfl⟩

theorem bytes21 (p s : ByteArray) (w : World) (h1 : p.size ≤ maxLen) (h2 : s.size ≤ maxLen) :
    Calls Try.prog 21 #[.string p, .string s] w fun e w' => e = .returned (.bool (decide (p.size + s.size ≤ 1048576))) ∧ w' = w := by
  unfold maxLen at h1 h2
  go_enter Try.func21, Try.ntmps21
  go_wp2
  all_goals
    go_ret
    exact ⟨ret_bool (by simp; omega), rfl⟩
end Go.Proofs.Qxb6602120a
