/-
  THE WALKS OF strings.IndexByte (19), keepsForm (15) THROUGH ZZKeepsForm (8).
-/
import Derived.Test.Qxb6601840aRows
import Derived.Test.Qxb6601840aPlain
import Derived.WalkKit
import Derived.Lib.Bytealg
import Derived.Deep.QuietTactic
import Derived.BigQuiet
namespace Go.Proofs.Qxb6601840a
open Go.RowKit

theorem ret_bool {a b : Bool} (h : a = b) : Ending.returned (.bool a) = .returned (.bool b) := by rw [h]

theorem indexByte_any (s : ByteArray) (c : Int) (w : World) :
    Calls Try.prog 19 #[.string s, .int .u8 c] w fun e w' => e = .returned (.int .i64 (Lib.indexByte s.data.toList c.toNat.toUInt8)) ∧ w' = w := by
  go_enter Try.func19, Try.ntmps19
  go_wp2
  rw [run_callFunc_extern Try.func21 (by kernel_rfl) (by kernel_rfl) (by kernel_rfl) (e := Extern.BytealgIndexByte.indexByte) (by kernel_rfl), Lib.run_indexByteString]
  simp only [Result.andThen]
  rw [Oper.upon_value]
  go_wp2
  go_ret
  exact ⟨rfl, rfl⟩

theorem blank_all : ∀ n, n < 256 → decide (0 ≤ Lib.indexByte [32, 9, 13, 10] (UInt8.ofNat n)) = Pl.blank (UInt8.ofNat n) := by decide +kernel

theorem blankIdx_any (c : UInt8) (w : World) :
    Calls Try.prog 19 #[.string { data := #[32, 9, 13, 10] }, .int .u8 (c.toNat : Int)] w fun e w' => ∃ I : Int, e = .returned (.int .i64 I) ∧ decide (0 ≤ I) = Pl.blank c ∧ w' = w := by
  refine (indexByte_any _ _ w).mono ?_
  rintro e w' ⟨rfl, rfl⟩
  refine ⟨_, rfl, ?_, rfl⟩
  have h := blank_all c.toNat c.toNat_lt
  rw [UInt8.ofNat_toNat] at h
  rw [← h]
  have e1 : ((c.toNat : Int)).toNat.toUInt8 = c := by rw [Int.toNat_natCast]; exact UInt8.ofNat_toNat
  rw [e1]

/-- What ZZKeepsForm hands back. -/
def answer (x : Option Nat) (e : Ending) : Prop :=
  match x with
  | some j => e = .returned (.tuple #[.bool true, .int .i64 (Pl.atOf j), .int .i64 (Pl.krOf j)])
  | none => ∃ a k : Int, e = .returned (.tuple #[.bool false, .int .i64 a, .int .i64 k])

theorem below_drawn {B : Nat} {a w : World} (h : Below B a w) (q : Nat) : Below B a (w.drewN q) := ⟨h.os, h.tape, h.output, h.size, h.block⟩

theorem beq_yes {c : UInt8} {n : Nat} (hn : n < 256) (h : c = UInt8.ofNat n) : ((c.toNat : Int) == (n : Int)) = true := by
  subst h
  rw [UInt8.toNat_ofNat', Nat.mod_eq_of_lt (by simpa using hn)]
  simp
theorem beq_no {c : UInt8} {n : Nat} (hn : n < 256) (h : ¬ c = UInt8.ofNat n) : ((c.toNat : Int) == (n : Int)) = false := by
  rw [beq_eq_false_iff_ne]
  intro e
  refine h (UInt8.toNat_inj.1 ?_)
  rw [UInt8.toNat_ofNat', Nat.mod_eq_of_lt (by simpa using hn)]
  omega

theorem st_blank {j : Nat} {c : UInt8} (h : Pl.blank c = true) (hj : j ≤ 1 ∨ 8 ≤ j) : Pl.st j c = some j := by
  unfold Pl.st
  have : (decide (j ≤ 1) || decide (8 ≤ j)) = true := by simpa using hj
  rw [h, this]
  rfl
theorem st_pat {j : Nat} {c : UInt8} (h : Pl.blank c = false ∨ ¬ (j ≤ 1 ∨ 8 ≤ j)) (h1 : j = 1 → ¬ c = 125) (h2 : ¬ j = 11) (hc : c = Pl.pat j) : Pl.st j c = some (j + 1) := by
  unfold Pl.st
  have : (Pl.blank c && (decide (j ≤ 1) || decide (8 ≤ j))) = false := by
    rcases h with h | h
    · rw [h]; rfl
    · have : (decide (j ≤ 1) || decide (8 ≤ j)) = false := by rw [Bool.eq_false_iff]; simpa using h
      rw [this]; simp
  rw [this, if_neg (by simp), if_neg (fun g => h1 g.1 g.2), if_neg h2, if_pos hc]
theorem st_none {j : Nat} {c : UInt8} (h : Pl.blank c = false ∨ ¬ (j ≤ 1 ∨ 8 ≤ j)) (h1 : j = 1 → ¬ c = 125) (hc : j = 11 ∨ ¬ c = Pl.pat j) : Pl.st j c = none := by
  unfold Pl.st
  have : (Pl.blank c && (decide (j ≤ 1) || decide (8 ≤ j))) = false := by
    rcases h with h | h
    · rw [h]; rfl
    · have : (decide (j ≤ 1) || decide (8 ≤ j)) = false := by rw [Bool.eq_false_iff]; simpa using h
      rw [this]; simp
  rw [this, if_neg (by simp), if_neg (fun g => h1 g.1 g.2)]
  rcases hc with hc | hc
  · rw [if_pos hc]
  · by_cases e : j = 11
    · rw [if_pos e]
    · rw [if_neg e, if_neg hc]

set_option maxHeartbeats 1000000 in
theorem keeps0 (c : UInt8) (w : World) :
    Calls Try.prog 8 #[.int .i64 0, .int .i64 0, .int .u8 (c.toNat : Int)] w fun e w' => answer (Pl.st 0 c) e ∧ Below w.heap.size w w' := by
  have cI := blankIdx_any c
  cases hb : Pl.blank c with
  | true =>
    rw [st_blank hb (by omega)]
    rw [hb] at cI
    clear hb
    go_enter Try.func8, Try.ntmps8
    go_wp2_with (first
      | (go_at_call 19; refine (cI _).mono ?_; rintro e w' ⟨I, rfl, hI, rfl⟩)
      | go_in)
    go_quiet (fail)
    go_wp2
    go_ret3
    exact ⟨rfl, below_drawn ((Below.refl _ _).alloc (Nat.le_refl _) _) _⟩
  | false =>
    rw [hb] at cI
    by_cases hc : c = 123
    case pos =>
      rw [st_pat (j := 0) (Or.inl hb) (by omega) (by omega) hc]
      have ec : ((c.toNat : Int) == 123) = true := beq_yes (n := 123) (by omega) hc
      clear hc hb
      go_enter Try.func8, Try.ntmps8
      go_wp2_with (first
        | (go_at_call 19; refine (cI _).mono ?_; rintro e w' ⟨I, rfl, hI, rfl⟩)
        | go_in)
      go_quiet (fail)
      go_wp2
      go_ret3
      exact ⟨rfl, below_drawn ((Below.refl _ _).alloc (Nat.le_refl _) _) _⟩
    case neg =>
      rw [st_none (j := 0) (Or.inl hb) (by omega) (Or.inr hc)]
      have ec : ((c.toNat : Int) == 123) = false := beq_no (n := 123) (by omega) hc
      clear hc hb
      go_enter Try.func8, Try.ntmps8
      go_wp2_with (first
        | (go_at_call 19; refine (cI _).mono ?_; rintro e w' ⟨I, rfl, hI, rfl⟩)
        | go_in)
      go_quiet (fail)
      go_wp2
      go_ret3
      exact ⟨⟨_, _, rfl⟩, below_drawn ((Below.refl _ _).alloc (Nat.le_refl _) _) _⟩

set_option maxHeartbeats 1000000 in
theorem keeps1 (c : UInt8) (w : World) :
    Calls Try.prog 8 #[.int .i64 1, .int .i64 0, .int .u8 (c.toNat : Int)] w fun e w' => answer (Pl.st 1 c) e ∧ Below w.heap.size w w' := by
  have cI := blankIdx_any c
  cases hb : Pl.blank c with
  | true =>
    rw [st_blank hb (by omega)]
    rw [hb] at cI
    clear hb
    go_enter Try.func8, Try.ntmps8
    go_wp2_with (first
      | (go_at_call 19; refine (cI _).mono ?_; rintro e w' ⟨I, rfl, hI, rfl⟩)
      | go_in)
    go_quiet (fail)
    go_wp2
    go_ret3
    exact ⟨rfl, below_drawn ((Below.refl _ _).alloc (Nat.le_refl _) _) _⟩
  | false =>
    rw [hb] at cI
    by_cases h125 : c = 125
    case pos =>
      have hst : Pl.st 1 c = some 11 := by subst h125; decide
      rw [hst]
      have e125 : ((c.toNat : Int) == 125) = true := beq_yes (n := 125) (by omega) h125
      have e34 : ((c.toNat : Int) == 34) = false := beq_no (n := 34) (by omega) (by rw [h125]; decide)
      clear h125 hst hb
      go_enter Try.func8, Try.ntmps8
      go_wp2_with (first
        | (go_at_call 19; refine (cI _).mono ?_; rintro e w' ⟨I, rfl, hI, rfl⟩)
        | go_in)
      go_quiet (fail)
      go_wp2
      go_ret3
      exact ⟨rfl, below_drawn ((Below.refl _ _).alloc (Nat.le_refl _) _) _⟩
    case neg =>
      have e125 : ((c.toNat : Int) == 125) = false := beq_no (n := 125) (by omega) h125
      by_cases hc : c = 34
      case pos =>
        rw [st_pat (j := 1) (Or.inl hb) (fun _ => h125) (by omega) hc]
        have ec : ((c.toNat : Int) == 34) = true := beq_yes (n := 34) (by omega) hc
        clear hc hb h125
        go_enter Try.func8, Try.ntmps8
        go_wp2_with (first
          | (go_at_call 19; refine (cI _).mono ?_; rintro e w' ⟨I, rfl, hI, rfl⟩)
          | go_in)
        go_quiet (fail)
        go_wp2
        go_ret3
        exact ⟨rfl, below_drawn ((Below.refl _ _).alloc (Nat.le_refl _) _) _⟩
      case neg =>
        rw [st_none (j := 1) (Or.inl hb) (fun _ => h125) (Or.inr hc)]
        have ec : ((c.toNat : Int) == 34) = false := beq_no (n := 34) (by omega) hc
        clear hc hb h125
        go_enter Try.func8, Try.ntmps8
        go_wp2_with (first
          | (go_at_call 19; refine (cI _).mono ?_; rintro e w' ⟨I, rfl, hI, rfl⟩)
          | go_in)
        go_quiet (fail)
        go_wp2
        go_ret3
        exact ⟨⟨_, _, rfl⟩, below_drawn ((Below.refl _ _).alloc (Nat.le_refl _) _) _⟩

set_option maxHeartbeats 1000000 in
theorem keeps2 (c : UInt8) (w : World) :
    Calls Try.prog 8 #[.int .i64 2, .int .i64 0, .int .u8 (c.toNat : Int)] w fun e w' => answer (Pl.st 2 c) e ∧ Below w.heap.size w w' := by
  by_cases hc : c = 105
  case pos =>
    rw [st_pat (j := 2) (Or.inr (by omega)) (by omega) (by omega) hc]
    have ec : ((c.toNat : Int) == (((⟨#[105, 110, 112, 117, 116, 34]⟩ : ByteArray)[0]'(by decide)).toNat : Int)) = true := beq_yes (n := 105) (by omega) hc
    clear hc
    go_enter Try.func8, Try.ntmps8
    go_wp2
    go_quiet (fail)
    go_wp2
    go_ret3
    exact ⟨rfl, below_drawn ((Below.refl _ _).alloc (Nat.le_refl _) _) _⟩
  case neg =>
    rw [st_none (j := 2) (Or.inr (by omega)) (by omega) (Or.inr hc)]
    have ec : ((c.toNat : Int) == (((⟨#[105, 110, 112, 117, 116, 34]⟩ : ByteArray)[0]'(by decide)).toNat : Int)) = false := beq_no (n := 105) (by omega) hc
    clear hc
    go_enter Try.func8, Try.ntmps8
    go_wp2
    go_quiet (fail)
    go_wp2
    go_ret3
    exact ⟨⟨_, _, rfl⟩, below_drawn ((Below.refl _ _).alloc (Nat.le_refl _) _) _⟩

set_option maxHeartbeats 1000000 in
theorem keeps3 (c : UInt8) (w : World) :
    Calls Try.prog 8 #[.int .i64 2, .int .i64 1, .int .u8 (c.toNat : Int)] w fun e w' => answer (Pl.st 3 c) e ∧ Below w.heap.size w w' := by
  by_cases hc : c = 110
  case pos =>
    rw [st_pat (j := 3) (Or.inr (by omega)) (by omega) (by omega) hc]
    have ec : ((c.toNat : Int) == (((⟨#[105, 110, 112, 117, 116, 34]⟩ : ByteArray)[1]'(by decide)).toNat : Int)) = true := beq_yes (n := 110) (by omega) hc
    clear hc
    go_enter Try.func8, Try.ntmps8
    go_wp2
    go_quiet (fail)
    go_wp2
    go_ret3
    exact ⟨rfl, below_drawn ((Below.refl _ _).alloc (Nat.le_refl _) _) _⟩
  case neg =>
    rw [st_none (j := 3) (Or.inr (by omega)) (by omega) (Or.inr hc)]
    have ec : ((c.toNat : Int) == (((⟨#[105, 110, 112, 117, 116, 34]⟩ : ByteArray)[1]'(by decide)).toNat : Int)) = false := beq_no (n := 110) (by omega) hc
    clear hc
    go_enter Try.func8, Try.ntmps8
    go_wp2
    go_quiet (fail)
    go_wp2
    go_ret3
    exact ⟨⟨_, _, rfl⟩, below_drawn ((Below.refl _ _).alloc (Nat.le_refl _) _) _⟩

set_option maxHeartbeats 1000000 in
theorem keeps4 (c : UInt8) (w : World) :
    Calls Try.prog 8 #[.int .i64 2, .int .i64 2, .int .u8 (c.toNat : Int)] w fun e w' => answer (Pl.st 4 c) e ∧ Below w.heap.size w w' := by
  by_cases hc : c = 112
  case pos =>
    rw [st_pat (j := 4) (Or.inr (by omega)) (by omega) (by omega) hc]
    have ec : ((c.toNat : Int) == (((⟨#[105, 110, 112, 117, 116, 34]⟩ : ByteArray)[2]'(by decide)).toNat : Int)) = true := beq_yes (n := 112) (by omega) hc
    clear hc
    go_enter Try.func8, Try.ntmps8
    go_wp2
    go_quiet (fail)
    go_wp2
    go_ret3
    exact ⟨rfl, below_drawn ((Below.refl _ _).alloc (Nat.le_refl _) _) _⟩
  case neg =>
    rw [st_none (j := 4) (Or.inr (by omega)) (by omega) (Or.inr hc)]
    have ec : ((c.toNat : Int) == (((⟨#[105, 110, 112, 117, 116, 34]⟩ : ByteArray)[2]'(by decide)).toNat : Int)) = false := beq_no (n := 112) (by omega) hc
    clear hc
    go_enter Try.func8, Try.ntmps8
    go_wp2
    go_quiet (fail)
    go_wp2
    go_ret3
    exact ⟨⟨_, _, rfl⟩, below_drawn ((Below.refl _ _).alloc (Nat.le_refl _) _) _⟩

set_option maxHeartbeats 1000000 in
theorem keeps5 (c : UInt8) (w : World) :
    Calls Try.prog 8 #[.int .i64 2, .int .i64 3, .int .u8 (c.toNat : Int)] w fun e w' => answer (Pl.st 5 c) e ∧ Below w.heap.size w w' := by
  by_cases hc : c = 117
  case pos =>
    rw [st_pat (j := 5) (Or.inr (by omega)) (by omega) (by omega) hc]
    have ec : ((c.toNat : Int) == (((⟨#[105, 110, 112, 117, 116, 34]⟩ : ByteArray)[3]'(by decide)).toNat : Int)) = true := beq_yes (n := 117) (by omega) hc
    clear hc
    go_enter Try.func8, Try.ntmps8
    go_wp2
    go_quiet (fail)
    go_wp2
    go_ret3
    exact ⟨rfl, below_drawn ((Below.refl _ _).alloc (Nat.le_refl _) _) _⟩
  case neg =>
    rw [st_none (j := 5) (Or.inr (by omega)) (by omega) (Or.inr hc)]
    have ec : ((c.toNat : Int) == (((⟨#[105, 110, 112, 117, 116, 34]⟩ : ByteArray)[3]'(by decide)).toNat : Int)) = false := beq_no (n := 117) (by omega) hc
    clear hc
    go_enter Try.func8, Try.ntmps8
    go_wp2
    go_quiet (fail)
    go_wp2
    go_ret3
    exact ⟨⟨_, _, rfl⟩, below_drawn ((Below.refl _ _).alloc (Nat.le_refl _) _) _⟩

set_option maxHeartbeats 1000000 in
theorem keeps6 (c : UInt8) (w : World) :
    Calls Try.prog 8 #[.int .i64 2, .int .i64 4, .int .u8 (c.toNat : Int)] w fun e w' => answer (Pl.st 6 c) e ∧ Below w.heap.size w w' := by
  by_cases hc : c = 116
  case pos =>
    rw [st_pat (j := 6) (Or.inr (by omega)) (by omega) (by omega) hc]
    have ec : ((c.toNat : Int) == (((⟨#[105, 110, 112, 117, 116, 34]⟩ : ByteArray)[4]'(by decide)).toNat : Int)) = true := beq_yes (n := 116) (by omega) hc
    clear hc
    go_enter Try.func8, Try.ntmps8
    go_wp2
    go_quiet (fail)
    go_wp2
    go_ret3
    exact ⟨rfl, below_drawn ((Below.refl _ _).alloc (Nat.le_refl _) _) _⟩
  case neg =>
    rw [st_none (j := 6) (Or.inr (by omega)) (by omega) (Or.inr hc)]
    have ec : ((c.toNat : Int) == (((⟨#[105, 110, 112, 117, 116, 34]⟩ : ByteArray)[4]'(by decide)).toNat : Int)) = false := beq_no (n := 116) (by omega) hc
    clear hc
    go_enter Try.func8, Try.ntmps8
    go_wp2
    go_quiet (fail)
    go_wp2
    go_ret3
    exact ⟨⟨_, _, rfl⟩, below_drawn ((Below.refl _ _).alloc (Nat.le_refl _) _) _⟩

set_option maxHeartbeats 1000000 in
theorem keeps7 (c : UInt8) (w : World) :
    Calls Try.prog 8 #[.int .i64 2, .int .i64 5, .int .u8 (c.toNat : Int)] w fun e w' => answer (Pl.st 7 c) e ∧ Below w.heap.size w w' := by
  by_cases hc : c = 34
  case pos =>
    rw [st_pat (j := 7) (Or.inr (by omega)) (by omega) (by omega) hc]
    have ec : ((c.toNat : Int) == (((⟨#[105, 110, 112, 117, 116, 34]⟩ : ByteArray)[5]'(by decide)).toNat : Int)) = true := beq_yes (n := 34) (by omega) hc
    clear hc
    go_enter Try.func8, Try.ntmps8
    go_wp2
    go_quiet (fail)
    go_wp2
    go_ret3
    exact ⟨rfl, below_drawn ((Below.refl _ _).alloc (Nat.le_refl _) _) _⟩
  case neg =>
    rw [st_none (j := 7) (Or.inr (by omega)) (by omega) (Or.inr hc)]
    have ec : ((c.toNat : Int) == (((⟨#[105, 110, 112, 117, 116, 34]⟩ : ByteArray)[5]'(by decide)).toNat : Int)) = false := beq_no (n := 34) (by omega) hc
    clear hc
    go_enter Try.func8, Try.ntmps8
    go_wp2
    go_quiet (fail)
    go_wp2
    go_ret3
    exact ⟨⟨_, _, rfl⟩, below_drawn ((Below.refl _ _).alloc (Nat.le_refl _) _) _⟩

set_option maxHeartbeats 1000000 in
theorem keeps8 (c : UInt8) (w : World) :
    Calls Try.prog 8 #[.int .i64 3, .int .i64 6, .int .u8 (c.toNat : Int)] w fun e w' => answer (Pl.st 8 c) e ∧ Below w.heap.size w w' := by
  have cI := blankIdx_any c
  cases hb : Pl.blank c with
  | true =>
    rw [st_blank hb (by omega)]
    rw [hb] at cI
    clear hb
    go_enter Try.func8, Try.ntmps8
    go_wp2_with (first
      | (go_at_call 19; refine (cI _).mono ?_; rintro e w' ⟨I, rfl, hI, rfl⟩)
      | go_in)
    go_quiet (fail)
    go_wp2
    go_ret3
    exact ⟨rfl, below_drawn ((Below.refl _ _).alloc (Nat.le_refl _) _) _⟩
  | false =>
    rw [hb] at cI
    by_cases hc : c = 58
    case pos =>
      rw [st_pat (j := 8) (Or.inl hb) (by omega) (by omega) hc]
      have ec : ((c.toNat : Int) == 58) = true := beq_yes (n := 58) (by omega) hc
      clear hc hb
      go_enter Try.func8, Try.ntmps8
      go_wp2_with (first
        | (go_at_call 19; refine (cI _).mono ?_; rintro e w' ⟨I, rfl, hI, rfl⟩)
        | go_in)
      go_quiet (fail)
      go_wp2
      go_ret3
      exact ⟨rfl, below_drawn ((Below.refl _ _).alloc (Nat.le_refl _) _) _⟩
    case neg =>
      rw [st_none (j := 8) (Or.inl hb) (by omega) (Or.inr hc)]
      have ec : ((c.toNat : Int) == 58) = false := beq_no (n := 58) (by omega) hc
      clear hc hb
      go_enter Try.func8, Try.ntmps8
      go_wp2_with (first
        | (go_at_call 19; refine (cI _).mono ?_; rintro e w' ⟨I, rfl, hI, rfl⟩)
        | go_in)
      go_quiet (fail)
      go_wp2
      go_ret3
      exact ⟨⟨_, _, rfl⟩, below_drawn ((Below.refl _ _).alloc (Nat.le_refl _) _) _⟩

set_option maxHeartbeats 1000000 in
theorem keeps9 (c : UInt8) (w : World) :
    Calls Try.prog 8 #[.int .i64 4, .int .i64 6, .int .u8 (c.toNat : Int)] w fun e w' => answer (Pl.st 9 c) e ∧ Below w.heap.size w w' := by
  have cI := blankIdx_any c
  cases hb : Pl.blank c with
  | true =>
    rw [st_blank hb (by omega)]
    rw [hb] at cI
    clear hb
    go_enter Try.func8, Try.ntmps8
    go_wp2_with (first
      | (go_at_call 19; refine (cI _).mono ?_; rintro e w' ⟨I, rfl, hI, rfl⟩)
      | go_in)
    go_quiet (fail)
    go_wp2
    go_ret3
    exact ⟨rfl, below_drawn ((Below.refl _ _).alloc (Nat.le_refl _) _) _⟩
  | false =>
    rw [hb] at cI
    by_cases hc : c = 34
    case pos =>
      rw [st_pat (j := 9) (Or.inl hb) (by omega) (by omega) hc]
      have ec : ((c.toNat : Int) == 34) = true := beq_yes (n := 34) (by omega) hc
      clear hc hb
      go_enter Try.func8, Try.ntmps8
      go_wp2_with (first
        | (go_at_call 19; refine (cI _).mono ?_; rintro e w' ⟨I, rfl, hI, rfl⟩)
        | go_in)
      go_quiet (fail)
      go_wp2
      go_ret3
      exact ⟨rfl, below_drawn ((Below.refl _ _).alloc (Nat.le_refl _) _) _⟩
    case neg =>
      rw [st_none (j := 9) (Or.inl hb) (by omega) (Or.inr hc)]
      have ec : ((c.toNat : Int) == 34) = false := beq_no (n := 34) (by omega) hc
      clear hc hb
      go_enter Try.func8, Try.ntmps8
      go_wp2_with (first
        | (go_at_call 19; refine (cI _).mono ?_; rintro e w' ⟨I, rfl, hI, rfl⟩)
        | go_in)
      go_quiet (fail)
      go_wp2
      go_ret3
      exact ⟨⟨_, _, rfl⟩, below_drawn ((Below.refl _ _).alloc (Nat.le_refl _) _) _⟩

set_option maxHeartbeats 1000000 in
theorem keeps11 (c : UInt8) (w : World) :
    Calls Try.prog 8 #[.int .i64 7, .int .i64 0, .int .u8 (c.toNat : Int)] w fun e w' => answer (Pl.st 11 c) e ∧ Below w.heap.size w w' := by
  have cI := blankIdx_any c
  cases hb : Pl.blank c with
  | true =>
    rw [st_blank hb (by omega)]
    rw [hb] at cI
    clear hb
    go_enter Try.func8, Try.ntmps8
    go_wp2_with (first
      | (go_at_call 19; refine (cI _).mono ?_; rintro e w' ⟨I, rfl, hI, rfl⟩)
      | go_in)
    go_quiet (fail)
    go_wp2
    go_ret3
    exact ⟨rfl, below_drawn ((Below.refl _ _).alloc (Nat.le_refl _) _) _⟩
  | false =>
    rw [hb] at cI
    rw [st_none (j := 11) (Or.inl hb) (by omega) (Or.inl rfl)]
    clear hb
    go_enter Try.func8, Try.ntmps8
    go_wp2_with (first
      | (go_at_call 19; refine (cI _).mono ?_; rintro e w' ⟨I, rfl, hI, rfl⟩)
      | go_in)
    go_quiet (fail)
    go_wp2
    go_ret3
    exact ⟨⟨_, _, rfl⟩, below_drawn ((Below.refl _ _).alloc (Nat.le_refl _) _) _⟩
end Go.Proofs.Qxb6601840a
