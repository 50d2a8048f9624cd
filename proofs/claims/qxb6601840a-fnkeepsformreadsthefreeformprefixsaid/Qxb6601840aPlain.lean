/-
  THE PLAIN PART: the head of the free form as an automaton over the places 0 .. 10 of its ten bytes, 11: an empty object. No program in this text.
-/
namespace Go.Proofs.Qxb6601840a.Pl

def blank (c : UInt8) : Bool := c == 32 || c == 9 || c == 13 || c == 10

/-- The byte at place j of the pattern. -/
def pat : Nat → UInt8
  | 0 => 123 | 1 => 34 | 2 => 105 | 3 => 110 | 4 => 112 | 5 => 117 | 6 => 116 | 7 => 34 | 8 => 58 | 9 => 34 | _ => 0

/-- One byte. -/
def st (j : Nat) (c : UInt8) : Option Nat :=
  if blank c && (j ≤ 1 || 8 ≤ j) then some j
  else if j = 1 ∧ c = 125 then some 11
  else if j = 11 then none
  else if c = pat j then some (j + 1)
  else none

/-- From place j on, i bytes being taken: how many are taken, whether one is refused, how far it got. -/
def run : Nat → Nat → List UInt8 → Nat × Bool × Nat
  | j, i, [] => (i, false, j)
  | j, i, c :: l =>
    match st j c with
    | none => (i, true, j)
    | some j' => if j' = 10 then (i + 1, false, 10) else run j' (i + 1) l

/-- The reader's state at place j. -/
def atOf : Nat → Int
  | 0 => 0 | 1 => 1 | 2 => 2 | 3 => 2 | 4 => 2 | 5 => 2 | 6 => 2 | 7 => 2 | 8 => 3 | 9 => 4 | 10 => 5 | _ => 7
def krOf : Nat → Int
  | 0 => 0 | 1 => 0 | 2 => 0 | 3 => 1 | 4 => 2 | 5 => 3 | 6 => 4 | 7 => 5 | 8 => 6 | 9 => 6 | 10 => 6 | _ => 0

/-- The places at which the reading goes on. -/
def live (j : Nat) : Prop := j ≤ 9 ∨ j = 11

theorem st_live {j j' : Nat} {c : UInt8} (hj : live j) (h : st j c = some j') : live j' ∨ j' = 10 := by
  unfold live at *
  unfold st at h
  split at h
  · have := Option.some.inj h; omega
  · split at h
    · have := Option.some.inj h; omega
    · split at h
      · simp at h
      · split at h
        · have := Option.some.inj h; omega
        · simp at h

theorem run_le : ∀ (l : List UInt8) (j i : Nat), i ≤ (run j i l).1 ∧ (run j i l).1 ≤ i + l.length
  | [], j, i => by unfold run; simp
  | c :: l, j, i => by
    unfold run
    split
    · simp
    · split
      · simp
      · rename_i j' _ _
        have := run_le l j' (i + 1)
        rw [List.length_cons]
        omega

theorem run_live : ∀ (l : List UInt8) (j i : Nat), live j → (run j i l).2.1 = false → live (run j i l).2.2 ∨ (run j i l).2.2 = 10
  | [], j, i, hj, _ => by unfold run; exact Or.inl hj
  | c :: l, j, i, hj, h => by
    unfold run at h ⊢
    cases hs : st j c with
    | none => rw [hs] at h; simp at h
    | some j' =>
      rw [hs] at h
      simp only at h ⊢
      by_cases e : j' = 10
      · rw [if_pos e]; exact Or.inr rfl
      · rw [if_neg e] at h ⊢
        rcases st_live hj hs with g | g
        · exact run_live l j' (i + 1) g h
        · exact absurd g e
end Go.Proofs.Qxb6601840a.Pl
