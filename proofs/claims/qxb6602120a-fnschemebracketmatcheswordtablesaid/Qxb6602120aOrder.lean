/-
  THE PROGRAM'S HEAD, READ WORD BY WORD: so that the row's closed facts on it need not split the whole line.
-/
import Derived.Test.Qxb6602120aRows
import Derived.JoinedOf
namespace Go.Proofs.Qxb6602120a

theorem words_app : ∀ (w r : List Char), (∀ c, c ∈ w → c ≠ ' ') → wordsSigns (w ++ ' ' :: r) = w :: wordsSigns r
  | [], r, _ => by simp [wordsSigns]
  | c :: w, r, h => by
    have ih := words_app w r (fun d hd => h d (by simp [hd]))
    have hc : c ≠ ' ' := h c (by simp)
    rw [List.cons_append, wordsSigns]
    · rw [ih]
    · exact hc

/-- The head's four parts, as the numbers of their signs. -/
def headA : List Char := [104, 97, 114, 110, 101, 115, 115].map Char.ofNat
def headB : List Char := [57, 50, 97, 98, 99, 56, 48, 57, 54, 48, 51, 56, 100, 57, 53, 57, 98, 50, 52, 99, 52, 54, 101, 100, 49, 52, 52, 97, 102, 48, 53, 102, 57, 55, 56, 55, 102, 98, 99, 97, 99, 54, 101, 54, 48, 50, 102, 49, 102, 49, 52, 56, 50, 101, 55, 97, 99, 48, 97, 101, 54, 102, 102, 50].map Char.ofNat
def headC : List Char := [99, 117, 116].map Char.ofNat
def headD : List Char := [97, 116, 32, 101, 120, 97, 109, 112, 108, 101, 46, 99, 111, 109, 47, 97, 110, 121, 45, 105, 110, 105, 47, 97, 110, 121, 45, 105, 110, 105, 47, 122, 122, 108, 97, 119, 115, 95, 114, 111, 111, 116, 95, 98, 49, 46, 70, 110, 81, 68, 76, 78, 117, 109, 98, 101, 114, 77, 97, 116, 99, 104, 101, 115, 65, 117, 116, 111, 109, 97, 116, 111, 110, 32, 101, 120, 97, 109, 112, 108, 101, 46, 99, 111, 109, 47, 97, 110, 121, 45, 105, 110, 105, 47, 97, 110, 121, 45, 105, 110, 105, 47, 122, 122, 108, 97, 119, 115, 95, 114, 111, 111, 116, 95, 98, 49, 46, 70, 110, 81, 68, 76, 78, 117, 109, 98, 101, 114, 79, 110, 101, 77, 105, 110, 117, 115, 83, 105, 103, 110, 32, 101, 120, 97, 109, 112, 108, 101, 46, 99, 111, 109, 47, 97, 110, 121, 45, 105, 110, 105, 47, 97, 110, 121, 45, 105, 110, 105, 47, 122, 122, 108, 97, 119, 115, 95, 114, 111, 111, 116, 95, 98, 49, 46, 70, 110, 81, 68, 76, 78, 117, 109, 98, 101, 114, 69, 110, 100, 115, 73, 110, 68, 105, 103, 105, 116, 65, 110, 100, 71, 114, 111, 119, 115, 66, 121, 68, 105, 103, 105, 116, 115, 65, 108, 111, 110, 101, 32, 101, 120, 97, 109, 112, 108, 101, 46, 99, 111, 109, 47, 97, 110, 121, 45, 105, 110, 105, 47, 97, 110, 121, 45, 105, 110, 105, 47, 122, 122, 108, 97, 119, 115, 95, 114, 111, 111, 116, 95, 98, 49, 46, 70, 110, 83, 99, 104, 101, 109, 101, 66, 114, 97, 99, 107, 101, 116, 77, 97, 116, 99, 104, 101, 115, 87, 111, 114, 100, 84, 97, 98, 108, 101, 32, 101, 120, 97, 109, 112, 108, 101, 46, 99, 111, 109, 47, 97, 110, 121, 45, 105, 110, 105, 47, 97, 110, 121, 45, 105, 110, 105, 47, 122, 122, 108, 97, 119, 115, 95, 114, 111, 111, 116, 95, 98, 49, 46, 70, 110, 83, 99, 104, 101, 109, 101, 66, 114, 97, 99, 107, 101, 116, 73, 103, 110, 111, 114, 101, 115, 80, 114, 101, 102, 105, 120, 66, 101, 102, 111, 114, 101, 67, 111, 108, 111, 110, 32, 101, 120, 97, 109, 112, 108, 101, 46, 99, 111, 109, 47, 97, 110, 121, 45, 105, 110, 105, 47, 97, 110, 121, 45, 105, 110, 105, 47, 122, 122, 108, 97, 119, 115, 95, 114, 111, 111, 116, 95, 98, 49, 46, 70, 110, 83, 99, 104, 101, 109, 101, 66, 114, 97, 99, 107, 101, 116, 73, 103, 110, 111, 114, 101, 115, 66, 114, 97, 99, 107, 101, 116, 70, 114, 101, 101, 83, 117, 102, 102, 105, 120, 32, 101, 120, 97, 109, 112, 108, 101, 46, 99, 111, 109, 47, 97, 110, 121, 45, 105, 110, 105, 47, 97, 110, 121, 45, 105, 110, 105, 47, 122, 122, 108, 97, 119, 115, 95, 114, 111, 111, 116, 95, 98, 49, 46, 70, 110, 72, 80, 88, 77, 97, 116, 99, 104, 101, 115, 73, 110, 110, 101, 114, 109, 111, 115, 116, 79, 102, 75, 105, 110, 100, 77, 111, 100, 101, 108, 32, 101, 120, 97, 109, 112, 108, 101, 46, 99, 111, 109, 47, 97, 110, 121, 45, 105, 110, 105, 47, 97, 110, 121, 45, 105, 110, 105, 47, 122, 122, 108, 97, 119, 115, 95, 114, 111, 111, 116, 95, 98, 49, 46, 70, 110, 72, 80, 88, 80, 97, 105, 114, 115, 78, 101, 115, 116, 65, 110, 100, 77, 97, 116, 99, 104, 32, 101, 120, 97, 109, 112, 108, 101, 46, 99, 111, 109, 47, 97, 110, 121, 45, 105, 110, 105, 47, 97, 110, 121, 45, 105, 110, 105, 47, 122, 122, 108, 97, 119, 115, 95, 114, 111, 111, 116, 95, 98, 49, 46, 70, 110, 72, 80, 88, 85, 110, 109, 111, 118, 101, 100, 66, 121, 68, 111, 108, 108, 97, 114, 70, 114, 101, 101, 80, 114, 101, 102, 105, 120, 65, 110, 100, 67, 108, 111, 115, 101, 114, 70, 114, 101, 101, 83, 117, 102, 102, 105, 120].map Char.ofNat

theorem order_is : Try.pinned.checked.prog.initOrder = String.ofList (headA ++ ' ' :: (headB ++ ' ' :: (headC ++ ' ' :: headD))) := by kernel_rfl
theorem order_list : Try.pinned.checked.prog.initOrder.toList = headA ++ ' ' :: (headB ++ ' ' :: (headC ++ ' ' :: headD)) := by rw [order_is]; exact String.toList_ofList

theorem noA : ∀ c, c ∈ headA → c ≠ ' ' := by decide +kernel
theorem noB : ∀ c, c ∈ headB → c ≠ ' ' := by decide +kernel
theorem noC : ∀ c, c ∈ headC → c ≠ ' ' := by decide +kernel
theorem sumB : ∀ X : List (List Char), behindMainWord (headA :: headB :: X) = X := fun X => by kernel_rfl

theorem order_head : ∃ X, behindMainWord (wordsSigns Try.pinned.checked.prog.initOrder.toList) = headC :: X := by
  refine ⟨wordsSigns headD, ?_⟩
  rw [order_list, words_app headA _ noA, words_app headB _ noB, words_app headC _ noC]
  exact sumB _

theorem strip_head : ∀ X, stripLifts liftWords (headC :: X) = ([], headC :: X) := fun X => by kernel_rfl
theorem head_a1 : ∀ X : List (List Char), (((headC == "gc".toList || headC == "spec".toList) && (X.isEmpty || X.head? == some "stop".toList))) = false := fun X => by kernel_rfl
theorem head_a2 : (headC == "carried".toList) = false := by kernel_rfl
theorem head_a3 : ∀ X : List (List Char), ((headC :: X).head? == some "cut".toList) = true := fun X => by kernel_rfl
theorem head_a4 : (headC == "gc".toList || headC == "spec".toList) = false := by kernel_rfl
theorem head_a5 : (headC == "cut".toList) = true := by kernel_rfl
theorem head_a6 : ∀ X : List (List Char), ((headC :: X).head? == some "carried".toList) = false := fun X => by kernel_rfl

/-- Over any program with such a head. -/
theorem enter_of (P : Program) (X : List (List Char)) (h : behindMainWord (wordsSigns P.initOrder.toList) = headC :: X) (h1 : P.laysLater = false) (h2 : P.bearsReflect = false) (h3 : P.doorFits [] = true) : P.mayEnter = true := by
  unfold Program.mayEnter
  rw [h]
  simp only [strip_head, head_a1, head_a2, head_a3, h1, h2, h3]
  rfl
theorem make_of (P : Program) (X : List (List Char)) (h : behindMainWord (wordsSigns P.initOrder.toList) = headC :: X) : P.make = some .cut := by
  unfold Program.make
  rw [h]
  simp only [head_a4, head_a5]
  rfl
theorem lifts_of (P : Program) (X : List (List Char)) (h : behindMainWord (wordsSigns P.initOrder.toList) = headC :: X) : P.liftsFinal = false := by
  unfold Program.liftsFinal Program.headLifts
  rw [h]
  simp only [strip_head, head_a3, head_a6]
  rfl

theorem lays_not : Try.pinned.checked.prog.laysLater = false := by kernel_rfl
theorem door_fits : Try.pinned.checked.prog.doorFits [] = true := by kernel_rfl
theorem reflect_not : Try.pinned.checked.prog.bearsReflect = false := by kernel_rfl

theorem head_enter : Try.pinned.checked.prog.mayEnter = true := by
  obtain ⟨X, hX⟩ := order_head
  exact enter_of _ X hX lays_not reflect_not door_fits
theorem head_make : Try.pinned.checked.prog.make = some .cut := by
  obtain ⟨X, hX⟩ := order_head
  exact make_of _ X hX
theorem head_lifts : Try.pinned.checked.prog.liftsFinal = false := by
  obtain ⟨X, hX⟩ := order_head
  exact lifts_of _ X hX
end Go.Proofs.Qxb6602120a
