/-
  THE WORD TABLE's SMALL FUNCTIONS: schemeIsBracket (23), schemeValidPrefix (32); the plain facts that schemeModel (20) leans on.
-/
import Derived.Test.Qxb6602120aMisp
namespace Go.Proofs.Qxb6602120a
open Go.RowKit

namespace Pl
/-- The words that may begin a well-ordered run. -/
def words : List (List UInt8) := [[], [123], [123, 125], [123, 125, 40], [123, 125, 40, 41], [40], [40, 41]]

/-- What may stand next behind a word. -/
def word (l : List UInt8) (nx : Int) : Prop :=
  (l = [] ∧ nx = 0) ∨ (l = [123] ∧ nx = 1) ∨ (l = [123, 125] ∧ nx = 2) ∨ (l = [123, 125, 40] ∧ nx = 3) ∨ (l = [123, 125, 40, 41] ∧ nx = 4) ∨ (l = [40] ∧ nx = 3) ∨ (l = [40, 41] ∧ nx = 4)

def isB (c : UInt8) : Bool := c == 40 || c == 41 || c == 123 || c == 125
end Pl

theorem isB_brk (c : UInt8) : Pl.isB c = decide (0 ≤ Pl.brk c) := by
  have : ∀ n, n < 256 → Pl.isB (UInt8.ofNat n) = decide (0 ≤ Pl.brk (UInt8.ofNat n)) := by decide +kernel
  have h := this c.toNat c.toNat_lt
  rw [UInt8.ofNat_toNat] at h
  exact h

def isBI (n : Int) : Bool := n == 40 || n == 41 || n == 123 || n == 125
theorem isB_int (c : UInt8) : isBI (c.toNat : Int) = Pl.isB c := by
  unfold isBI Pl.isB
  rw [Bool.eq_iff_iff]
  simp [← UInt8.toNat_inj]
  omega

theorem bracket_int (n : Int) (w : World) :
    Calls Try.prog 23 #[.int .u8 n] w fun e w' => e = .returned (.bool (isBI n)) ∧ w' = w := by
  go_enter Try.func23, Try.ntmps23
  go_wp2
  all_goals
    go_ret
    exact ⟨ret_bool (by simp_all [isBI]), rfl⟩

theorem bracket_any (c : UInt8) (w : World) :
    Calls Try.prog 23 #[.int .u8 (c.toNat : Int)] w fun e w' => e = .returned (.bool (decide (0 ≤ Pl.brk c))) ∧ w' = w := by
  rw [← isB_brk, ← isB_int]
  exact bracket_int _ w

theorem words_eq (l : List UInt8) : Pl.words.contains l = (l.isEmpty || (l == [123] || (l == [123, 125] || (l == [123, 125, 40] || (l == [123, 125, 40, 41] || (l == [40] || l == [40, 41])))))) := by
  have e : l.isEmpty = (l == []) := by cases l <;> rfl
  rw [e]
  rw [Bool.eq_iff_iff]
  simp only [Pl.words, List.contains_cons, List.contains_nil, Bool.or_eq_true, beq_iff_eq, Bool.or_false]

set_option maxHeartbeats 1000000 in
theorem valid_any (x : ByteArray) (w : World) :
    Calls Try.prog 32 #[.string x] w fun e w' => e = .returned (.bool (Pl.words.contains x.data.toList)) ∧ w' = w := by
  go_enter Try.func32, Try.ntmps32
  go_wp2
  all_goals
    go_ret
    refine ⟨ret_bool ?_, rfl⟩
    rw [words_eq, ← ByteArray.toList_eq]
    generalize x.toList = l at *
    simp_all

/-! ### The colon -/

theorem idx_none (l : List UInt8) (h : (58 : UInt8) ∉ l) : Lib.indexByte l 58 = -1 := by
  have := Pl.indexByte_app l [] 58 h
  rw [List.append_nil] at this
  rw [this]
  rfl

theorem idx_at (s : ByteArray) (k : Nat) (hk : k < s.size) (h : (58 : UInt8) ∉ s.data.toList.take k) (hc : s[k] = 58) : Lib.indexByte s.data.toList 58 = k := by
  have e : s.data.toList = s.data.toList.take k ++ s.data.toList.drop k := (List.take_append_drop k _).symm
  rw [e, Pl.indexByte_app _ _ 58 h, drop_at s k hk, hc, Pl.indexByte_cons]
  have hl : (s.data.toList.take k).length = k := by rw [List.length_take, ← size_list]; omega
  rw [hl]
  simp

/-! ### Dollar and brace -/

theorem occ_two (l : List UInt8) (p : Nat) : Lib.occAt l [36, 123] p = true ↔ l[p]? = some 36 ∧ l[p + 1]? = some 123 := by
  unfold Lib.occAt
  rw [List.isPrefixOf_iff_prefix]
  constructor
  · rintro ⟨t, ht⟩
    have h1 : (l.drop p)[0]? = some 36 := by rw [← ht]; rfl
    have h2 : (l.drop p)[1]? = some 123 := by rw [← ht]; rfl
    rw [List.getElem?_drop] at h1 h2
    exact ⟨by simpa using h1, h2⟩
  · rintro ⟨h1, h2⟩
    obtain ⟨hp, e1⟩ := List.getElem?_eq_some_iff.1 h1
    obtain ⟨hp2, e2⟩ := List.getElem?_eq_some_iff.1 h2
    rw [List.drop_eq_getElem_cons hp, e1, List.drop_eq_getElem_cons hp2, e2]
    exact ⟨_, rfl⟩

theorem contains_yes (l : List UInt8) (p : Nat) (h1 : l[p]? = some 36) (h2 : l[p + 1]? = some 123) : Lib.contains l [36, 123] = true := by
  unfold Lib.contains
  rcases Lib.index_spec l [36, 123] with ⟨_, h⟩ | ⟨i, h, _⟩
  · obtain ⟨hp, _⟩ := List.getElem?_eq_some_iff.1 h1
    have := h p (by omega)
    rw [(occ_two l p).2 ⟨h1, h2⟩] at this
    simp at this
  · rw [h]; simp

theorem contains_no (l : List UInt8) (h : ∀ p : Nat, ¬ (l[p]? = some 36 ∧ l[p + 1]? = some 123)) : Lib.contains l [36, 123] = false := by
  unfold Lib.contains
  rcases Lib.index_spec l [36, 123] with ⟨h1, _⟩ | ⟨i, _, _, h1, _⟩
  · rw [h1]; rfl
  · exact absurd ((occ_two l i).1 h1) (h i)

theorem get_list (s : ByteArray) (k : Nat) (h : k < s.size) : s.data.toList[k]? = some s[k] := by
  obtain ⟨⟨l⟩⟩ := s
  have h' : k < l.length := h
  show l[k]? = some _
  rw [List.getElem?_eq_getElem h']
  rfl

theorem mem_take {c : UInt8} {s : ByteArray} {k : Nat} (hk : k < s.size) (h : c ∉ s.data.toList.take k) (hc : s[k] ≠ c) : c ∉ s.data.toList.take (k + 1) := by
  rw [List.take_succ_eq_append_getElem (by rw [← size_list]; exact hk)]
  intro hm
  rcases List.mem_append.1 hm with h' | h'
  · exact h h'
  · rw [List.mem_singleton] at h'
    exact hc h'.symm

theorem beq_yes {c : UInt8} {n : Nat} (hn : n < 256) (h : c = UInt8.ofNat n) : ((c.toNat : Int) == (n : Int)) = true := by
  subst h
  rw [UInt8.toNat_ofNat', Nat.mod_eq_of_lt (by simpa using hn)]
  simp
theorem beq_no {c : UInt8} {n : Nat} (hn : n < 256) (h : ¬ c = UInt8.ofNat n) : ((c.toNat : Int) == (n : Int)) = false := by
  rw [beq_eq_false_iff_ne]
  intro e
  refine h (UInt8.toNat_inj.1 ?_)
  rw [UInt8.toNat_ofNat', Nat.mod_eq_of_lt (by simpa using hn)]
  omega
end Go.Proofs.Qxb6602120a
