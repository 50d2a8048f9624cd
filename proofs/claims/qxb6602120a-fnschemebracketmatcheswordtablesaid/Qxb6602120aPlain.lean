/-
  THE PLAIN PART: what misplacedSchemeBracket computes, over lists of bytes, and the plain laws on it. No program in this text.
-/
import Derived.Lib.IndexMore
namespace Go.Proofs.Qxb6602120a.Pl
open Go.Lib

/-- The place of a bracket in the order {}(); -1: no bracket. -/
def brk (c : UInt8) : Int := if c = 123 then 0 else if c = 125 then 1 else if c = 40 then 2 else if c = 41 then 3 else -1

/-- The scan behind the colon: nx is what may stand next, op the place of the latest bracket, i the place of the list's head. -/
def scan : Int → Int → Nat → List UInt8 → Int
  | nx, op, _, [] => if nx % 2 = 1 then op else -1
  | nx, op, i, c :: l =>
    if brk c < 0 then scan nx op (i + 1) l
    else if brk c = nx ∨ (brk c = 2 ∧ nx = 0) then scan (brk c + 1) i (i + 1) l
    else i

def misp (l : List UInt8) : Int :=
  if indexByte l 58 < 0 then -1
  else if contains l [36, 123] then -1
  else scan 0 (-1) ((indexByte l 58).toNat + 1) (l.drop ((indexByte l 58).toNat + 1))

theorem brk_ge (c : UInt8) : -1 ≤ brk c ∧ brk c ≤ 3 := by
  unfold brk; repeat' split
  all_goals omega

/-- A shift of the places. -/
theorem scan_shift (d : Nat) : ∀ (l : List UInt8) (nx op op' : Int) (i : Nat), (nx % 2 = 1 → 0 ≤ op ∧ op' = op + d) →
    (scan nx op i l = -1 ∧ scan nx op' (i + d) l = -1) ∨ (∃ k : Int, 0 ≤ k ∧ scan nx op i l = k ∧ scan nx op' (i + d) l = k + d)
  | [], nx, op, op', i, h => by
    unfold scan
    by_cases e : nx % 2 = 1
    · rw [if_pos e, if_pos e]
      exact Or.inr ⟨op, (h e).1, rfl, (h e).2⟩
    · rw [if_neg e, if_neg e]
      exact Or.inl ⟨rfl, rfl⟩
  | c :: l, nx, op, op', i, h => by
    unfold scan
    by_cases e : brk c < 0
    · rw [if_pos e, if_pos e]
      have := scan_shift d l nx op op' (i + 1) h
      rw [show i + 1 + d = i + d + 1 by omega] at this
      exact this
    · rw [if_neg e, if_neg e]
      by_cases g : brk c = nx ∨ (brk c = 2 ∧ nx = 0)
      · rw [if_pos g, if_pos g]
        have := scan_shift d l (brk c + 1) i ((i + d : Nat) : Int) (i + 1) (fun _ => ⟨by omega, by omega⟩)
        rw [show i + 1 + d = i + d + 1 by omega] at this
        exact this
      · rw [if_neg g, if_neg g]
        exact Or.inr ⟨i, by omega, rfl, by omega⟩

theorem indexByte_cons (b : UInt8) (l : List UInt8) (c : UInt8) : indexByte (b :: l) c = if b == c then 0 else if indexByte l c == -1 then -1 else indexByte l c + 1 := rfl
theorem index_cons (b : UInt8) (l sub : List UInt8) : index (b :: l) sub = if sub.isPrefixOf (b :: l) then 0 else if index l sub == -1 then -1 else index l sub + 1 := rfl

theorem indexByte_app (p l : List UInt8) (c : UInt8) (h : c ∉ p) : indexByte (p ++ l) c = if indexByte l c < 0 then -1 else indexByte l c + p.length := by
  induction p with
  | nil =>
    have := indexByte_ge l c
    rw [List.nil_append]
    split
    · omega
    · simp
  | cons a t ih =>
    have ha : (a == c) = false := by
      rw [beq_eq_false_iff_ne]
      rintro rfl
      exact h (by simp)
    have ih' := ih (fun hc => h (by simp [hc]))
    rw [List.cons_append, indexByte_cons, ha, ih']
    by_cases e : indexByte l c < 0
    · simp [e]
    · simp only [e, if_false]
      have : ((indexByte l c + (t.length : Int)) == -1) = false := by rw [beq_eq_false_iff_ne]; omega
      rw [this]
      simp only [Bool.false_eq_true, if_false, List.length_cons]
      omega

theorem index_app (p l : List UInt8) (h : (36 : UInt8) ∉ p) : index (p ++ l) [36, 123] = if index l [36, 123] < 0 then -1 else index l [36, 123] + p.length := by
  induction p with
  | nil =>
    have := index_ge l [36, 123]
    rw [List.nil_append]
    split
    · omega
    · simp
  | cons a t ih =>
    have ha : ((36 : UInt8) == a) = false := by
      rw [beq_eq_false_iff_ne]
      rintro rfl
      exact h (by simp)
    have ih' := ih (fun hc => h (by simp [hc]))
    rw [List.cons_append, index_cons]
    have hp : ([36, 123] : List UInt8).isPrefixOf (a :: (t ++ l)) = false := by
      simp only [List.isPrefixOf, ha, Bool.false_and]
    rw [hp, ih']
    by_cases e : index l [36, 123] < 0
    · simp [e]
    · simp only [e, if_false]
      have : ((index l [36, 123] + (t.length : Int)) == -1) = false := by rw [beq_eq_false_iff_ne]; omega
      rw [this]
      simp only [Bool.false_eq_true, if_false, List.length_cons]
      omega

theorem contains_app (p l : List UInt8) (h : (36 : UInt8) ∉ p) : contains (p ++ l) [36, 123] = contains l [36, 123] := by
  unfold contains
  rw [index_app p l h]
  by_cases e : index l [36, 123] < 0
  · simp [e]
  · simp only [e, if_false]
    rw [decide_eq_decide]
    omega

theorem misp_ge (l : List UInt8) : -1 ≤ misp l := by
  unfold misp
  split
  · omega
  · split
    · omega
    · rcases scan_shift 0 (l.drop ((indexByte l 58).toNat + 1)) 0 (-1) (-1) ((indexByte l 58).toNat + 1) (by omega) with ⟨h, _⟩ | ⟨k, h0, h, _⟩ <;> rw [h] <;> omega

/-- WHAT STANDS BEFORE THE NAME, without ':' and '$', changes nothing but the offset. -/
theorem misp_app (p l : List UInt8) (h1 : (58 : UInt8) ∉ p) (h2 : (36 : UInt8) ∉ p) : misp (p ++ l) = if misp l < 0 then -1 else misp l + p.length := by
  have hd : ∀ n, (p ++ l).drop (n + p.length) = l.drop n := fun n => by
    rw [Nat.add_comm, List.drop_append]; simp
  unfold misp
  rw [indexByte_app p l 58 h1, contains_app p l h2]
  by_cases e : indexByte l 58 < 0
  · simp [e]
  · simp only [e, if_false]
    have e2 : ¬ (indexByte l 58 + (p.length : Int) < 0) := by omega
    simp only [e2, if_false]
    by_cases g : contains l [36, 123] = true
    · simp [g]
    · have g' : contains l [36, 123] = false := by simpa using g
      simp only [g', Bool.false_eq_true, if_false]
      obtain ⟨n, hn⟩ := Int.eq_ofNat_of_zero_le (show 0 ≤ indexByte l 58 by omega)
      rw [hn]
      have e3 : ((n : Int) + (p.length : Int)).toNat + 1 = n + 1 + p.length := by omega
      rw [e3, hd, Int.toNat_natCast]
      rcases scan_shift p.length (l.drop (n + 1)) 0 (-1) (-1) (n + 1) (by omega) with ⟨a, b⟩ | ⟨k, h0, a, b⟩
      · rw [a, b]; simp
      · rw [a, b, if_neg (by omega)]
end Go.Proofs.Qxb6602120a.Pl
