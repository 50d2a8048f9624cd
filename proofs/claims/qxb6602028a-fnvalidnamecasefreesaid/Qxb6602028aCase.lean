/-
  THE WALKS OF lawUpper (18), lawLower (19), ZZValidName (15), THE BOUNDS (10, 17).
-/
import Derived.Test.Qxb6602028aName
import Derived.Deep.OwnRows
namespace Go.Proofs.Qxb6602028a
open Go.RowKit

theorem info5 : (Try.prog.info? 5).map (fun i => (i.zero, i.size, i.bytes)) = some (some (.int .u8 0), 1, 1) := by kernel_rfl

/-- The first k cells hold the bytes of s under f. -/
def cellsAt (f : UInt8 → UInt8) (s : ByteArray) (k : Nat) (j : Nat) : Value :=
  if j < k then .int .u8 ((f (s.data.toList.getD j 0)).toNat : Int) else .int .u8 0

theorem getD_at (s : ByteArray) (k : Nat) (h : k < s.size) : s.data.toList.getD k 0 = s[k] := by
  rw [List.getD_eq_getElem?_getD, get_list s k h]; rfl

theorem row_next {f : UInt8 → UInt8} {s : ByteArray} {k b n : Nat} {w : World} (hk : k < s.size) (h : w.rowIs b 5 n (cellsAt f s k)) :
    (w.setCell ⟨b, k, none⟩ (.int .u8 ((f s[k]).toNat : Int))).rowIs b 5 n (cellsAt f s (k + 1)) := by
  refine (h.set k _).congr fun i _ => ?_
  unfold cellsAt
  by_cases e : i = k
  · subst e
    rw [if_pos rfl, if_pos (by omega), getD_at s i hk]
  · rw [if_neg e]
    by_cases hi : i < k
    · rw [if_pos hi, if_pos (by omega)]
    · rw [if_neg hi, if_neg (by omega)]

theorem back_of {f : UInt8 → UInt8} {s : ByteArray} {b : Nat} {w : World} (h : w.rowIs b 5 s.size (cellsAt f s s.size)) :
    (convert 32 9 (.slice (some ⟨b, 0, none⟩) s.size s.size)).run Try.prog w = .ok (.string ⟨(s.data.toList.map f).toArray⟩) w := by
  have hl : (s.data.toList.map f).length = s.size := by rw [List.length_map, ← size_list]
  have := run_convert_bytes_back (P := Try.prog) w 32 9 5 ⟨b, 0, none⟩ s.size (s.data.toList.map f) Try.underlying32 Try.underlying5 Try.underlying9 (fun j hj => by
    rw [hl] at hj
    have hc := h.cell hj
    have ea : (⟨b, 0, none⟩ : Addr).add j = ⟨b, j, none⟩ := by
      simp only [Addr.add, Nat.zero_add]
      split
      · rename_i e; subst e; rfl
      · rfl
    rw [ea, hc]
    unfold cellsAt
    rw [if_pos hj]
    have e : s.data.toList.getD j 0 = s.data.toList[j]'(by rw [← size_list]; exact hj) := by
      rw [List.getD_eq_getElem?_getD, List.getElem?_eq_getElem (by rw [← size_list]; exact hj)]; rfl
    rw [e, List.getElem_map])
  rw [hl] at this
  exact this

theorem up_int (c : UInt8) (h : 97 ≤ (c.toNat : Int) ∧ (c.toNat : Int) ≤ 122) : ((Pl.up c).toNat : Int) = (c.toNat : Int) - 32 := by
  rw [Pl.up_nat]; unfold Pl.upN; rw [if_pos (by omega)]; omega
theorem up_same (c : UInt8) (h : ¬ (97 ≤ (c.toNat : Int) ∧ (c.toNat : Int) ≤ 122)) : ((Pl.up c).toNat : Int) = (c.toNat : Int) := by
  rw [Pl.up_nat]; unfold Pl.upN; rw [if_neg (by omega)]
theorem low_int (c : UInt8) (h : 65 ≤ (c.toNat : Int) ∧ (c.toNat : Int) ≤ 90) : ((Pl.low c).toNat : Int) = (c.toNat : Int) + 32 := by
  rw [Pl.low_nat]; unfold Pl.lowN; rw [if_pos (by omega)]; omega
theorem low_same (c : UInt8) (h : ¬ (65 ≤ (c.toNat : Int) ∧ (c.toNat : Int) ≤ 90)) : ((Pl.low c).toNat : Int) = (c.toNat : Int) := by
  rw [Pl.low_nat]; unfold Pl.lowN; rw [if_neg (by omega)]

set_option maxHeartbeats 1000000 in
theorem upper_any (s : ByteArray) (w : World) (hs : s.size ≤ 1048576) :
    Calls Try.prog 18 #[.string s] w fun e w' => e = .returned (.string ⟨(s.data.toList.map Pl.up).toArray⟩) ∧ Below w.heap.size w w' := by
  have hmk := run_make_row' (P := Try.prog) 32 5 (.int .u8 0) 1 Try.underlying32 info5 rfl .i64 .i64 s.size (by omega) (by omega) w
  have hrow := World.rowIs_made w (.int .u8 0) s.size 5
  have hbel : Below w.heap.size w (w.alloc (.cells (madeCells #[.int .u8 0] s.size) 5)) := (Below.refl _ _).alloc (Nat.le_refl _) _
  generalize w.alloc (.cells (madeCells #[.int .u8 0] s.size) 5) = W at hmk hrow hbel
  have HR : Hid (W.rowIs w.heap.size 5 s.size fun _ => .int .u8 0) := hrow
  have HB : Hid (Below w.heap.size w W) := hbel
  clear hrow hbel
  go_enter Try.func18, Try.ntmps18
  go_wp2
  go_loopw [4] (fun i wr => ∃ k : Nat, k ≤ s.size ∧ i = .int .i64 k ∧ wr.rowIs w.heap.size 5 s.size (cellsAt Pl.up s k) ∧ Below w.heap.size w wr) (fun i _ => s.size - (intOf i).toNat)
  case atStart => exact ⟨0, Nat.zero_le _, rfl, HR.out.congr fun i _ => by unfold cellsAt; rw [if_neg (by omega)], HB.out⟩
  case round =>
    obtain ⟨k, hk, rfl, hrow, hbel⟩ := hrel
    have HR2 : Hid (wr.rowIs w.heap.size 5 s.size (cellsAt Pl.up s k)) := hrow
    have HB2 : Hid (Below w.heap.size w wr) := hbel
    clear hbel
    by_cases hlt : k < s.size
    · have hc := hrow.cell hlt
      have hf := hrow.frozen k
      rw [cellsAt, if_neg (by omega)] at hc
      clear hrow
      have HN := row_next hlt HR2.out
      have hub : (s[k].toNat : Int) < 256 := by have := s[k].toNat_lt; omega
      by_cases h1 : 97 ≤ (s[k].toNat : Int) ∧ (s[k].toNat : Int) ≤ 122
      · have d0 : decide (97 ≤ (s[k].toNat : Int)) = true := decide_eq_true h1.1
        have d1 : decide ((s[k].toNat : Int) ≤ 122) = true := decide_eq_true h1.2
        rw [up_int _ h1] at HN
        have HN2 : Hid _ := HN
        clear HN
        go_wp2
        go_roundw
        case rel => exact ⟨k + 1, by omega, by go_num, HN2.out, HB2.out.setCell (Nat.le_refl _) _⟩
        case measure => simp [intOf]; omega
      · rw [up_same _ h1] at HN
        have HN2 : Hid _ := HN
        clear HN
        by_cases h2 : 97 ≤ (s[k].toNat : Int)
        · have d0 : decide (97 ≤ (s[k].toNat : Int)) = true := decide_eq_true h2
          have d1 : decide ((s[k].toNat : Int) ≤ 122) = false := decide_eq_false (by omega)
          clear h1
          go_wp2
          go_roundw
          case rel => exact ⟨k + 1, by omega, by go_num, HN2.out, HB2.out.setCell (Nat.le_refl _) _⟩
          case measure => simp [intOf]; omega
        · have d0 : decide (97 ≤ (s[k].toNat : Int)) = false := decide_eq_false h2
          clear h1
          go_wp2
          go_roundw
          case rel => exact ⟨k + 1, by omega, by go_num, HN2.out, HB2.out.setCell (Nat.le_refl _) _⟩
          case measure => simp [intOf]; omega
    · have ek : k = s.size := by omega
      have hbk := HR2.out
      rw [ek] at hbk
      have hcv := back_of hbk
      clear hbk ek hrow
      go_wp2
      go_ret
      exact ⟨rfl, HB2.out⟩
set_option maxHeartbeats 1000000 in
theorem lower_any (s : ByteArray) (w : World) (hs : s.size ≤ 1048576) :
    Calls Try.prog 19 #[.string s] w fun e w' => e = .returned (.string ⟨(s.data.toList.map Pl.low).toArray⟩) ∧ Below w.heap.size w w' := by
  have hmk := run_make_row' (P := Try.prog) 32 5 (.int .u8 0) 1 Try.underlying32 info5 rfl .i64 .i64 s.size (by omega) (by omega) w
  have hrow := World.rowIs_made w (.int .u8 0) s.size 5
  have hbel : Below w.heap.size w (w.alloc (.cells (madeCells #[.int .u8 0] s.size) 5)) := (Below.refl _ _).alloc (Nat.le_refl _) _
  generalize w.alloc (.cells (madeCells #[.int .u8 0] s.size) 5) = W at hmk hrow hbel
  have HR : Hid (W.rowIs w.heap.size 5 s.size fun _ => .int .u8 0) := hrow
  have HB : Hid (Below w.heap.size w W) := hbel
  clear hrow hbel
  go_enter Try.func19, Try.ntmps19
  go_wp2
  go_loopw [4] (fun i wr => ∃ k : Nat, k ≤ s.size ∧ i = .int .i64 k ∧ wr.rowIs w.heap.size 5 s.size (cellsAt Pl.low s k) ∧ Below w.heap.size w wr) (fun i _ => s.size - (intOf i).toNat)
  case atStart => exact ⟨0, Nat.zero_le _, rfl, HR.out.congr fun i _ => by unfold cellsAt; rw [if_neg (by omega)], HB.out⟩
  case round =>
    obtain ⟨k, hk, rfl, hrow, hbel⟩ := hrel
    have HR2 : Hid (wr.rowIs w.heap.size 5 s.size (cellsAt Pl.low s k)) := hrow
    have HB2 : Hid (Below w.heap.size w wr) := hbel
    clear hbel
    by_cases hlt : k < s.size
    · have hc := hrow.cell hlt
      have hf := hrow.frozen k
      rw [cellsAt, if_neg (by omega)] at hc
      clear hrow
      have HN := row_next hlt HR2.out
      have hub : (s[k].toNat : Int) < 256 := by have := s[k].toNat_lt; omega
      by_cases h1 : 65 ≤ (s[k].toNat : Int) ∧ (s[k].toNat : Int) ≤ 90
      · have d0 : decide (65 ≤ (s[k].toNat : Int)) = true := decide_eq_true h1.1
        have d1 : decide ((s[k].toNat : Int) ≤ 90) = true := decide_eq_true h1.2
        rw [low_int _ h1] at HN
        have HN2 : Hid _ := HN
        clear HN
        go_wp2
        go_roundw
        case rel => exact ⟨k + 1, by omega, by go_num, HN2.out, HB2.out.setCell (Nat.le_refl _) _⟩
        case measure => simp [intOf]; omega
      · rw [low_same _ h1] at HN
        have HN2 : Hid _ := HN
        clear HN
        by_cases h2 : 65 ≤ (s[k].toNat : Int)
        · have d0 : decide (65 ≤ (s[k].toNat : Int)) = true := decide_eq_true h2
          have d1 : decide ((s[k].toNat : Int) ≤ 90) = false := decide_eq_false (by omega)
          clear h1
          go_wp2
          go_roundw
          case rel => exact ⟨k + 1, by omega, by go_num, HN2.out, HB2.out.setCell (Nat.le_refl _) _⟩
          case measure => simp [intOf]; omega
        · have d0 : decide (65 ≤ (s[k].toNat : Int)) = false := decide_eq_false h2
          clear h1
          go_wp2
          go_roundw
          case rel => exact ⟨k + 1, by omega, by go_num, HN2.out, HB2.out.setCell (Nat.le_refl _) _⟩
          case measure => simp [intOf]; omega
    · have ek : k = s.size := by omega
      have hbk := HR2.out
      rw [ek] at hbk
      have hcv := back_of hbk
      clear hbk ek hrow
      go_wp2
      go_ret
      exact ⟨rfl, HB2.out⟩

theorem zzName_any (s : ByteArray) (w : World) (hs : s.size ≤ 1048576) :
    Calls Try.prog 15 #[.string s] w fun e w' => e = .returned (.bool (Pl.vName s.data.toList)) ∧ Below w.heap.size w w' := by
  go_enter Try.func15, Try.ntmps15
  go_wp2_with (go_at_call 28; refine (validName_any s _ hs).mono ?_; rintro e w' ⟨rfl, hb⟩)
  go_ret
  exact ⟨rfl, hb⟩

theorem bytes10 (s : ByteArray) (w : World) (h1 : s.size ≤ maxLen) :
    Calls Try.prog 10 #[.string s] w fun e w' => e = .returned (.bool (decide (s.size ≤ 1048576))) ∧ w' = w := by
  unfold maxLen at h1
  go_enter Try.func10, Try.ntmps10
  go_wp2
  all_goals
    go_ret
    exact ⟨ret_bool (by simp; omega), rfl⟩

theorem bytes17 (s : ByteArray) (w : World) (h1 : s.size ≤ maxLen) :
    Calls Try.prog 17 #[.string s] w fun e w' => e = .returned (.bool (decide (s.size ≤ 1048576))) ∧ w' = w := by
  unfold maxLen at h1
  go_enter Try.func17, Try.ntmps17
  go_wp2
  all_goals
    go_ret
    exact ⟨ret_bool (by simp; omega), rfl⟩
end Go.Proofs.Qxb6602028a
