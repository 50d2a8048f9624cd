/-
  THE PROGRAM'S HEAD, READ WORD BY WORD: so that the row's closed facts on it need not split the whole line.
-/
import Derived.Test.Qxb6602028aRows
import Derived.JoinedOf
namespace Go.Proofs.Qxb6602028a

theorem words_app : ∀ (w r : List Char), (∀ c, c ∈ w → c ≠ ' ') → wordsSigns (w ++ ' ' :: r) = w :: wordsSigns r
  | [], r, _ => by simp [wordsSigns]
  | c :: w, r, h => by
    have ih := words_app w r (fun d hd => h d (by simp [hd]))
    have hc : c ≠ ' ' := h c (by simp)
    rw [List.cons_append, wordsSigns]
    · rw [ih]
    · exact hc

/-- The head's four parts, as the numbers of their signs. -/
def headA : List Char := [104, 97, 114, 110, 101, 115, 115].map Char.ofNat
def headB : List Char := [56, 101, 52, 55, 57, 101, 56, 53, 51, 53, 53, 56, 52, 99, 98, 48, 100, 102, 51, 55, 55, 52, 51, 51, 101, 97, 55, 100, 54, 52, 48, 56, 51, 99, 97, 100, 98, 56, 54, 57, 48, 102, 101, 54, 98, 56, 102, 102, 54, 51, 54, 99, 51, 48, 54, 99, 49, 100, 50, 53, 51, 99, 54, 49].map Char.ofNat
def headC : List Char := [99, 117, 116].map Char.ofNat
def headD : List Char := [97, 116, 32, 101, 120, 97, 109, 112, 108, 101, 46, 99, 111, 109, 47, 112, 111, 114, 116, 99, 117, 108, 108, 105, 115, 47, 112, 111, 114, 116, 99, 117, 108, 108, 105, 115, 47, 122, 122, 108, 97, 119, 115, 95, 112, 111, 108, 105, 99, 121, 95, 98, 49, 46, 70, 110, 86, 97, 108, 105, 100, 77, 101, 116, 104, 111, 100, 83, 112, 101, 99, 32, 101, 120, 97, 109, 112, 108, 101, 46, 99, 111, 109, 47, 112, 111, 114, 116, 99, 117, 108, 108, 105, 115, 47, 112, 111, 114, 116, 99, 117, 108, 108, 105, 115, 47, 122, 122, 108, 97, 119, 115, 95, 112, 111, 108, 105, 99, 121, 95, 98, 49, 46, 70, 110, 86, 97, 108, 105, 100, 77, 101, 116, 104, 111, 100, 67, 111, 110, 99, 97, 116, 32, 101, 120, 97, 109, 112, 108, 101, 46, 99, 111, 109, 47, 112, 111, 114, 116, 99, 117, 108, 108, 105, 115, 47, 112, 111, 114, 116, 99, 117, 108, 108, 105, 115, 47, 122, 122, 108, 97, 119, 115, 95, 112, 111, 108, 105, 99, 121, 95, 98, 49, 46, 70, 110, 86, 97, 108, 105, 100, 78, 97, 109, 101, 83, 112, 101, 99, 32, 101, 120, 97, 109, 112, 108, 101, 46, 99, 111, 109, 47, 112, 111, 114, 116, 99, 117, 108, 108, 105, 115, 47, 112, 111, 114, 116, 99, 117, 108, 108, 105, 115, 47, 122, 122, 108, 97, 119, 115, 95, 112, 111, 108, 105, 99, 121, 95, 98, 49, 46, 70, 110, 86, 97, 108, 105, 100, 78, 97, 109, 101, 67, 97, 115, 101, 70, 114, 101, 101, 32, 101, 120, 97, 109, 112, 108, 101, 46, 99, 111, 109, 47, 112, 111, 114, 116, 99, 117, 108, 108, 105, 115, 47, 112, 111, 114, 116, 99, 117, 108, 108, 105, 115, 47, 122, 122, 108, 97, 119, 115, 95, 112, 111, 108, 105, 99, 121, 95, 98, 49, 46, 70, 110, 86, 97, 108, 105, 100, 78, 97, 109, 101, 67, 111, 110, 99, 97, 116, 32, 101, 120, 97, 109, 112, 108, 101, 46, 99, 111, 109, 47, 112, 111, 114, 116, 99, 117, 108, 108, 105, 115, 47, 112, 111, 114, 116, 99, 117, 108, 108, 105, 115, 47, 122, 122, 108, 97, 119, 115, 95, 112, 111, 108, 105, 99, 121, 95, 98, 49, 46, 70, 110, 77, 97, 116, 99, 104, 101, 115, 79, 119, 110, 80, 97, 116, 116, 101, 114, 110, 32, 101, 120, 97, 109, 112, 108, 101, 46, 99, 111, 109, 47, 112, 111, 114, 116, 99, 117, 108, 108, 105, 115, 47, 112, 111, 114, 116, 99, 117, 108, 108, 105, 115, 47, 122, 122, 108, 97, 119, 115, 95, 112, 111, 108, 105, 99, 121, 95, 98, 49, 46, 70, 110, 77, 97, 116, 99, 104, 101, 115, 80, 97, 114, 97, 109, 101, 116, 101, 114, 65, 115, 83, 101, 103, 109, 101, 110, 116].map Char.ofNat

theorem order_is : Try.pinned.checked.prog.initOrder = String.ofList (headA ++ ' ' :: (headB ++ ' ' :: (headC ++ ' ' :: headD))) := by kernel_rfl
theorem order_list : Try.pinned.checked.prog.initOrder.toList = headA ++ ' ' :: (headB ++ ' ' :: (headC ++ ' ' :: headD)) := by rw [order_is]; exact String.toList_ofList

theorem noA : ∀ c, c ∈ headA → c ≠ ' ' := by decide +kernel
theorem noB : ∀ c, c ∈ headB → c ≠ ' ' := by decide +kernel
theorem noC : ∀ c, c ∈ headC → c ≠ ' ' := by decide +kernel
theorem sumB : ∀ X : List (List Char), behindMainWord (headA :: headB :: X) = X := fun X => by kernel_rfl

theorem order_head : ∃ X, behindMainWord (wordsSigns Try.pinned.checked.prog.initOrder.toList) = headC :: X := by
  refine ⟨wordsSigns headD, ?_⟩
  rw [order_list, words_app headA _ noA, words_app headB _ noB, words_app headC _ noC]
  exact sumB _

theorem strip_head : ∀ X, stripLifts liftWords (headC :: X) = ([], headC :: X) := fun X => by kernel_rfl
theorem head_a1 : ∀ X : List (List Char), (((headC == "gc".toList || headC == "spec".toList) && (X.isEmpty || X.head? == some "stop".toList))) = false := fun X => by kernel_rfl
theorem head_a2 : (headC == "carried".toList) = false := by kernel_rfl
theorem head_a3 : ∀ X : List (List Char), ((headC :: X).head? == some "cut".toList) = true := fun X => by kernel_rfl
theorem head_a4 : (headC == "gc".toList || headC == "spec".toList) = false := by kernel_rfl
theorem head_a5 : (headC == "cut".toList) = true := by kernel_rfl
theorem head_a6 : ∀ X : List (List Char), ((headC :: X).head? == some "carried".toList) = false := fun X => by kernel_rfl

/-- Over any program with such a head. -/
theorem enter_of (P : Program) (X : List (List Char)) (h : behindMainWord (wordsSigns P.initOrder.toList) = headC :: X) (h1 : P.laysLater = false) (h2 : P.bearsReflect = false) (h3 : P.doorFits [] = true) : P.mayEnter = true := by
  unfold Program.mayEnter
  rw [h]
  simp only [strip_head, head_a1, head_a2, head_a3, h1, h2, h3]
  rfl
theorem make_of (P : Program) (X : List (List Char)) (h : behindMainWord (wordsSigns P.initOrder.toList) = headC :: X) : P.make = some .cut := by
  unfold Program.make
  rw [h]
  simp only [head_a4, head_a5]
  rfl
theorem lifts_of (P : Program) (X : List (List Char)) (h : behindMainWord (wordsSigns P.initOrder.toList) = headC :: X) : P.liftsFinal = false := by
  unfold Program.liftsFinal Program.headLifts
  rw [h]
  simp only [strip_head, head_a3, head_a6]
  rfl

theorem lays_not : Try.pinned.checked.prog.laysLater = false := by kernel_rfl
theorem door_fits : Try.pinned.checked.prog.doorFits [] = true := by kernel_rfl
theorem reflect_not : Try.pinned.checked.prog.bearsReflect = false := by kernel_rfl

theorem head_enter : Try.pinned.checked.prog.mayEnter = true := by
  obtain ⟨X, hX⟩ := order_head
  exact enter_of _ X hX lays_not reflect_not door_fits
theorem head_make : Try.pinned.checked.prog.make = some .cut := by
  obtain ⟨X, hX⟩ := order_head
  exact make_of _ X hX
theorem head_lifts : Try.pinned.checked.prog.liftsFinal = false := by
  obtain ⟨X, hX⟩ := order_head
  exact lifts_of _ X hX
end Go.Proofs.Qxb6602028a
