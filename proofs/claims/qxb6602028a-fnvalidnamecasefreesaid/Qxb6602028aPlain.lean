/-
  THE PLAIN PART: valid names and methods over lists of bytes. No program in this text.
-/
namespace Go.Proofs.Qxb6602028a.Pl

def nameN (n : Nat) : Bool := decide (65 ≤ n ∧ n ≤ 90) || decide (97 ≤ n ∧ n ≤ 122) || decide (48 ≤ n ∧ n ≤ 57) || n == 95
def symN (n : Nat) : Bool := [33, 35, 36, 37, 38, 39, 42, 43, 45, 46, 94, 95, 96, 124, 126].contains n
def methN (n : Nat) : Bool := decide (65 ≤ n ∧ n ≤ 90) || decide (48 ≤ n ∧ n ≤ 57) || symN n
def modelN (n : Nat) : Bool := !(decide (n < 33 ∨ 126 < n)) && !(decide (97 ≤ n ∧ n ≤ 122)) && !([34, 40, 41, 44, 47, 58, 59, 60, 61, 62, 63, 64, 91, 92, 93, 123, 125].contains n)
def upN (n : Nat) : Nat := if 97 ≤ n ∧ n ≤ 122 then n - 32 else n
def lowN (n : Nat) : Nat := if 65 ≤ n ∧ n ≤ 90 then n + 32 else n

def nameB (c : UInt8) : Bool := nameN c.toNat
def methB (c : UInt8) : Bool := methN c.toNat
def up (c : UInt8) : UInt8 := UInt8.ofNat (upN c.toNat)
def low (c : UInt8) : UInt8 := UInt8.ofNat (lowN c.toNat)

def vName (l : List UInt8) : Bool := !l.isEmpty && l.all nameB
def vMeth (l : List UInt8) : Bool := !l.isEmpty && l.all methB

theorem model_meth : ∀ n, n < 256 → modelN n = methN n := by decide +kernel
theorem name_up : ∀ n, n < 256 → nameN (upN n) = nameN n := by decide +kernel
theorem name_low : ∀ n, n < 256 → nameN (lowN n) = nameN n := by decide +kernel
theorem name_meth : ∀ n, n < 256 → nameN n = true → methN (upN n) = true := by decide +kernel
theorem up_lt : ∀ n, n < 256 → upN n < 256 := by decide +kernel
theorem low_lt : ∀ n, n < 256 → lowN n < 256 := by decide +kernel

theorem up_nat (c : UInt8) : (up c).toNat = upN c.toNat := by
  unfold up
  rw [UInt8.toNat_ofNat', Nat.mod_eq_of_lt (up_lt _ c.toNat_lt)]
theorem low_nat (c : UInt8) : (low c).toNat = lowN c.toNat := by
  unfold low
  rw [UInt8.toNat_ofNat', Nat.mod_eq_of_lt (low_lt _ c.toNat_lt)]

theorem vName_map (f : UInt8 → UInt8) (h : ∀ c, nameB (f c) = nameB c) (l : List UInt8) : vName (l.map f) = vName l := by
  unfold vName
  rw [List.all_map]
  have : (nameB ∘ f) = nameB := funext h
  rw [this]
  cases l <;> rfl

theorem vName_up (l : List UInt8) : vName (l.map up) = vName l :=
  vName_map up (fun c => by unfold nameB; rw [up_nat, name_up _ c.toNat_lt]) l
theorem vName_low (l : List UInt8) : vName (l.map low) = vName l :=
  vName_map low (fun c => by unfold nameB; rw [low_nat, name_low _ c.toNat_lt]) l

theorem vMeth_up (l : List UInt8) (h : vName l = true) : vMeth (l.map up) = true := by
  unfold vName at h
  unfold vMeth
  rw [Bool.and_eq_true] at h ⊢
  obtain ⟨h1, h2⟩ := h
  refine ⟨by cases l with | nil => simp at h1 | cons a t => rfl, ?_⟩
  rw [List.all_map, List.all_eq_true]
  intro c hc
  rw [List.all_eq_true] at h2
  show methN (up c).toNat = true
  rw [up_nat]
  exact name_meth _ c.toNat_lt (h2 c hc)

end Go.Proofs.Qxb6602028a.Pl
