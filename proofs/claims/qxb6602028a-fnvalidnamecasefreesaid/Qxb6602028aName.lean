/-
  THE WALKS OF validName (28), ZZValidName (15) AND THE BOUNDS (10, 17).
-/
import Derived.Test.Qxb6602028aRows
import Derived.Test.Qxb6602028aPlain
import Derived.WalkKit
namespace Go.Proofs.Qxb6602028a
open Go.RowKit

theorem ret_bool {a b : Bool} (h : a = b) : Ending.returned (.bool a) = .returned (.bool b) := by rw [h]

theorem size_list (s : ByteArray) : s.size = s.data.toList.length := by
  obtain ⟨⟨l⟩⟩ := s; rfl

theorem get_list (s : ByteArray) (k : Nat) (h : k < s.size) : s.data.toList[k]? = some s[k] := by
  obtain ⟨⟨l⟩⟩ := s
  have h' : k < l.length := h
  show l[k]? = some _
  rw [List.getElem?_eq_getElem h']
  rfl

theorem take_snoc (s : ByteArray) (k : Nat) (h : k < s.size) : s.data.toList.take (k + 1) = s.data.toList.take k ++ [s[k]] := by
  rw [List.take_succ_eq_append_getElem (by simpa using h)]; rfl

theorem isEmpty_false (s : ByteArray) (h : 0 < s.size) : s.data.toList.isEmpty = false := by
  obtain ⟨⟨l⟩⟩ := s
  have h' : 0 < l.length := h
  cases l with
  | nil => simp at h'
  | cons a t => rfl

/-- '[]byte(s)': a new row that holds the bytes; of what was there nothing has turned. -/
theorem bytes_of (s : ByteArray) (w : World) : ∃ cap W, (convert 9 32 (.string s)).run Try.prog w = .ok (.slice (some ⟨w.heap.size, 0, none⟩) s.size cap) W ∧ Below w.heap.size w W
    ∧ ∀ j (h : j < s.size), W.cell? ⟨w.heap.size, j, none⟩ = some (.int .u8 (s[j].toNat : Int)) := by
  refine ⟨_, _, run_bytes_of_string w 9 32 5 s Try.underlying9 Try.underlying32 Try.underlying5, ?_, ?_⟩
  · exact ((Below.refl _ _).drew).alloc (Nat.le_refl _) _
  · intro j h
    rw [show (⟨w.heap.size, j, none⟩ : Addr) = ⟨w.drew.heap.size, j, none⟩ from rfl, World.cell?_alloc_mark]
    unfold bytesRow
    have h1 : j < (s.data.map fun b => Value.int .u8 (b.toNat : Int)).size := by simpa using h
    rw [Array.getElem?_append_left h1, Array.getElem?_map]
    have h2 : s.data[j]? = some s[j] := Array.getElem?_eq_getElem (by simpa using h)
    rw [h2]
    rfl

theorem all_snoc {p : UInt8 → Bool} {l : List UInt8} {c : UInt8} (h : l.all p = true) (hc : p c = true) : (l ++ [c]).all p = true := by
  rw [List.all_append, h]; simp [hc]

theorem toList_empty (s : ByteArray) (h : s.size = 0) : s.toList.isEmpty = true := by
  rw [ByteArray.toList_eq]
  obtain ⟨⟨l⟩⟩ := s
  cases l with
  | nil => rfl
  | cons a t => simp [ByteArray.size] at h

theorem toList_ne (s : ByteArray) (h : ¬ s.size = 0) : s.toList.isEmpty = false := by
  rw [ByteArray.toList_eq]
  exact isEmpty_false s (by omega)

theorem vName_empty (s : ByteArray) (h : s.size = 0) : Pl.vName s.data.toList = false := by
  obtain ⟨⟨l⟩⟩ := s
  cases l with
  | nil => rfl
  | cons a t => simp [ByteArray.size] at h

theorem vName_whole {s : ByteArray} {k : Nat} (h0 : ¬ s.size = 0) (hk : ¬ k < s.size) (h : (s.data.toList.take k).all Pl.nameB = true) : true = Pl.vName s.data.toList := by
  rw [List.take_of_length_le (by rw [← size_list]; omega)] at h
  unfold Pl.vName
  rw [h, isEmpty_false s (by omega)]
  rfl

theorem vName_no {s : ByteArray} {k : Nat} (hk : k < s.size) (h : Pl.nameB s[k] = false) : false = Pl.vName s.data.toList := by
  unfold Pl.vName
  have : s.data.toList.all Pl.nameB = false := by
    rw [List.all_eq_false]
    exact ⟨s[k], List.mem_of_getElem? (get_list s k hk), by rw [h]; simp⟩
  rw [this]
  simp

theorem name_yes {c : UInt8} (h : (65 ≤ (c.toNat : Int) ∧ (c.toNat : Int) ≤ 90) ∨ (97 ≤ (c.toNat : Int) ∧ (c.toNat : Int) ≤ 122) ∨ (48 ≤ (c.toNat : Int) ∧ (c.toNat : Int) ≤ 57) ∨ (c.toNat : Int) = 95) : Pl.nameB c = true := by
  unfold Pl.nameB Pl.nameN
  simp only [Bool.or_eq_true, decide_eq_true_eq, beq_iff_eq]
  omega
theorem name_not {c : UInt8} (h : ¬ ((65 ≤ (c.toNat : Int) ∧ (c.toNat : Int) ≤ 90) ∨ (97 ≤ (c.toNat : Int) ∧ (c.toNat : Int) ≤ 122) ∨ (48 ≤ (c.toNat : Int) ∧ (c.toNat : Int) ≤ 57) ∨ (c.toNat : Int) = 95)) : Pl.nameB c = false := by
  rw [Bool.eq_false_iff]
  unfold Pl.nameB Pl.nameN
  simp only [ne_eq, Bool.or_eq_true, decide_eq_true_eq, beq_iff_eq]
  omega

/-- The classes of bytes that the tests part. -/
theorem classes (n : Nat) : n < 48 ∨ (48 ≤ n ∧ n ≤ 57) ∨ (57 < n ∧ n < 65) ∨ (65 ≤ n ∧ n ≤ 90) ∨ (90 < n ∧ n < 95) ∨ n = 95 ∨ n = 96 ∨ (97 ≤ n ∧ n ≤ 122) ∨ 122 < n := by omega

/-- validName. -/
theorem validName_any (s : ByteArray) (w : World) (hs : s.size ≤ 1048576) :
    Calls Try.prog 28 #[.string s] w fun e w' => e = .returned (.bool (Pl.vName s.data.toList)) ∧ Below w.heap.size w w' := by
  by_cases h0 : s.size = 0
  · have he := toList_empty s h0
    have hv := vName_empty s h0
    go_enter Try.func28, Try.ntmps28
    go_wp2
    go_ret
    exact ⟨ret_bool hv.symm, Below.refl _ _⟩
  · obtain ⟨cap, W, hcv, hb, hcell⟩ := bytes_of s w
    have hne := toList_ne s h0
    go_enter Try.func28, Try.ntmps28
    go_wp2
    go_loop [10] (fun i => ∃ k : Nat, k ≤ s.size ∧ i = .int .i64 k ∧ (s.data.toList.take k).all Pl.nameB = true) (fun i => s.size - (intOf i).toNat)
    case atStart => exact ⟨0, Nat.zero_le _, rfl, by simp⟩
    case round =>
      obtain ⟨k, hk, rfl, hall⟩ := hrel
      have HA : Hid ((s.data.toList.take k).all Pl.nameB = true) := hall
      clear hall
      by_cases hlt : k < s.size
      · have hc := hcell k hlt
        clear hcell
        rcases classes s[k].toNat with h | h | h | h | h | h | h | h | h
        · have HN : Hid (Pl.nameB s[k] = false) := name_not (by omega)
          have d0 : decide (65 ≤ (s[k].toNat : Int)) = false := decide_eq_false (by omega)
          have d1 : decide ((s[k].toNat : Int) ≤ 90) = true := decide_eq_true (by omega)
          have d2 : decide (97 ≤ (s[k].toNat : Int)) = false := decide_eq_false (by omega)
          have d3 : decide ((s[k].toNat : Int) ≤ 122) = true := decide_eq_true (by omega)
          have d4 : decide (48 ≤ (s[k].toNat : Int)) = false := decide_eq_false (by omega)
          have d5 : decide ((s[k].toNat : Int) ≤ 57) = true := decide_eq_true (by omega)
          have d6 : ((s[k].toNat : Int) == 95) = false := beq_eq_false_iff_ne.2 (by omega)
          clear h
          go_wp2
          go_ret
          exact ⟨ret_bool (vName_no hlt HN.out), hb⟩
        · have HN : Hid (Pl.nameB s[k] = true) := name_yes (by omega)
          have d0 : decide (65 ≤ (s[k].toNat : Int)) = false := decide_eq_false (by omega)
          have d1 : decide ((s[k].toNat : Int) ≤ 90) = true := decide_eq_true (by omega)
          have d2 : decide (97 ≤ (s[k].toNat : Int)) = false := decide_eq_false (by omega)
          have d3 : decide ((s[k].toNat : Int) ≤ 122) = true := decide_eq_true (by omega)
          have d4 : decide (48 ≤ (s[k].toNat : Int)) = true := decide_eq_true (by omega)
          have d5 : decide ((s[k].toNat : Int) ≤ 57) = true := decide_eq_true (by omega)
          have d6 : ((s[k].toNat : Int) == 95) = false := beq_eq_false_iff_ne.2 (by omega)
          clear h
          go_wp2
          go_round
          case rel => exact ⟨k + 1, by omega, by go_num, by rw [take_snoc s k hlt]; exact all_snoc HA.out HN.out⟩
          case measure => simp [intOf]; omega
        · have HN : Hid (Pl.nameB s[k] = false) := name_not (by omega)
          have d0 : decide (65 ≤ (s[k].toNat : Int)) = false := decide_eq_false (by omega)
          have d1 : decide ((s[k].toNat : Int) ≤ 90) = true := decide_eq_true (by omega)
          have d2 : decide (97 ≤ (s[k].toNat : Int)) = false := decide_eq_false (by omega)
          have d3 : decide ((s[k].toNat : Int) ≤ 122) = true := decide_eq_true (by omega)
          have d4 : decide (48 ≤ (s[k].toNat : Int)) = true := decide_eq_true (by omega)
          have d5 : decide ((s[k].toNat : Int) ≤ 57) = false := decide_eq_false (by omega)
          have d6 : ((s[k].toNat : Int) == 95) = false := beq_eq_false_iff_ne.2 (by omega)
          clear h
          go_wp2
          go_ret
          exact ⟨ret_bool (vName_no hlt HN.out), hb⟩
        · have HN : Hid (Pl.nameB s[k] = true) := name_yes (by omega)
          have d0 : decide (65 ≤ (s[k].toNat : Int)) = true := decide_eq_true (by omega)
          have d1 : decide ((s[k].toNat : Int) ≤ 90) = true := decide_eq_true (by omega)
          have d2 : decide (97 ≤ (s[k].toNat : Int)) = false := decide_eq_false (by omega)
          have d3 : decide ((s[k].toNat : Int) ≤ 122) = true := decide_eq_true (by omega)
          have d4 : decide (48 ≤ (s[k].toNat : Int)) = true := decide_eq_true (by omega)
          have d5 : decide ((s[k].toNat : Int) ≤ 57) = false := decide_eq_false (by omega)
          have d6 : ((s[k].toNat : Int) == 95) = false := beq_eq_false_iff_ne.2 (by omega)
          clear h
          go_wp2
          go_round
          case rel => exact ⟨k + 1, by omega, by go_num, by rw [take_snoc s k hlt]; exact all_snoc HA.out HN.out⟩
          case measure => simp [intOf]; omega
        · have HN : Hid (Pl.nameB s[k] = false) := name_not (by omega)
          have d0 : decide (65 ≤ (s[k].toNat : Int)) = true := decide_eq_true (by omega)
          have d1 : decide ((s[k].toNat : Int) ≤ 90) = false := decide_eq_false (by omega)
          have d2 : decide (97 ≤ (s[k].toNat : Int)) = false := decide_eq_false (by omega)
          have d3 : decide ((s[k].toNat : Int) ≤ 122) = true := decide_eq_true (by omega)
          have d4 : decide (48 ≤ (s[k].toNat : Int)) = true := decide_eq_true (by omega)
          have d5 : decide ((s[k].toNat : Int) ≤ 57) = false := decide_eq_false (by omega)
          have d6 : ((s[k].toNat : Int) == 95) = false := beq_eq_false_iff_ne.2 (by omega)
          clear h
          go_wp2
          go_ret
          exact ⟨ret_bool (vName_no hlt HN.out), hb⟩
        · have HN : Hid (Pl.nameB s[k] = true) := name_yes (by omega)
          have d0 : decide (65 ≤ (s[k].toNat : Int)) = true := decide_eq_true (by omega)
          have d1 : decide ((s[k].toNat : Int) ≤ 90) = false := decide_eq_false (by omega)
          have d2 : decide (97 ≤ (s[k].toNat : Int)) = false := decide_eq_false (by omega)
          have d3 : decide ((s[k].toNat : Int) ≤ 122) = true := decide_eq_true (by omega)
          have d4 : decide (48 ≤ (s[k].toNat : Int)) = true := decide_eq_true (by omega)
          have d5 : decide ((s[k].toNat : Int) ≤ 57) = false := decide_eq_false (by omega)
          have d6 : ((s[k].toNat : Int) == 95) = true := beq_iff_eq.2 (by omega)
          clear h
          go_wp2
          go_round
          case rel => exact ⟨k + 1, by omega, by go_num, by rw [take_snoc s k hlt]; exact all_snoc HA.out HN.out⟩
          case measure => simp [intOf]; omega
        · have HN : Hid (Pl.nameB s[k] = false) := name_not (by omega)
          have d0 : decide (65 ≤ (s[k].toNat : Int)) = true := decide_eq_true (by omega)
          have d1 : decide ((s[k].toNat : Int) ≤ 90) = false := decide_eq_false (by omega)
          have d2 : decide (97 ≤ (s[k].toNat : Int)) = false := decide_eq_false (by omega)
          have d3 : decide ((s[k].toNat : Int) ≤ 122) = true := decide_eq_true (by omega)
          have d4 : decide (48 ≤ (s[k].toNat : Int)) = true := decide_eq_true (by omega)
          have d5 : decide ((s[k].toNat : Int) ≤ 57) = false := decide_eq_false (by omega)
          have d6 : ((s[k].toNat : Int) == 95) = false := beq_eq_false_iff_ne.2 (by omega)
          clear h
          go_wp2
          go_ret
          exact ⟨ret_bool (vName_no hlt HN.out), hb⟩
        · have HN : Hid (Pl.nameB s[k] = true) := name_yes (by omega)
          have d0 : decide (65 ≤ (s[k].toNat : Int)) = true := decide_eq_true (by omega)
          have d1 : decide ((s[k].toNat : Int) ≤ 90) = false := decide_eq_false (by omega)
          have d2 : decide (97 ≤ (s[k].toNat : Int)) = true := decide_eq_true (by omega)
          have d3 : decide ((s[k].toNat : Int) ≤ 122) = true := decide_eq_true (by omega)
          have d4 : decide (48 ≤ (s[k].toNat : Int)) = true := decide_eq_true (by omega)
          have d5 : decide ((s[k].toNat : Int) ≤ 57) = false := decide_eq_false (by omega)
          have d6 : ((s[k].toNat : Int) == 95) = false := beq_eq_false_iff_ne.2 (by omega)
          clear h
          go_wp2
          go_round
          case rel => exact ⟨k + 1, by omega, by go_num, by rw [take_snoc s k hlt]; exact all_snoc HA.out HN.out⟩
          case measure => simp [intOf]; omega
        · have HN : Hid (Pl.nameB s[k] = false) := name_not (by omega)
          have d0 : decide (65 ≤ (s[k].toNat : Int)) = true := decide_eq_true (by omega)
          have d1 : decide ((s[k].toNat : Int) ≤ 90) = false := decide_eq_false (by omega)
          have d2 : decide (97 ≤ (s[k].toNat : Int)) = true := decide_eq_true (by omega)
          have d3 : decide ((s[k].toNat : Int) ≤ 122) = false := decide_eq_false (by omega)
          have d4 : decide (48 ≤ (s[k].toNat : Int)) = true := decide_eq_true (by omega)
          have d5 : decide ((s[k].toNat : Int) ≤ 57) = false := decide_eq_false (by omega)
          have d6 : ((s[k].toNat : Int) == 95) = false := beq_eq_false_iff_ne.2 (by omega)
          clear h
          go_wp2
          go_ret
          exact ⟨ret_bool (vName_no hlt HN.out), hb⟩
      · go_wp2
        go_ret
        exact ⟨ret_bool (vName_whole h0 hlt HA.out), hb⟩
end Go.Proofs.Qxb6602028a
