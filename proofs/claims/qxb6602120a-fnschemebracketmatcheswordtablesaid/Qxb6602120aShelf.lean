/-
  strings.Contains by the shelf's contract, laid at this program (plain words, written by the shelf's tools).
-/
import Derived.Shelf.Strings.Shaped
import Derived.Test.Qxb6602120aProg
namespace Go.Proofs
open Go.Shelf
def Try.laysM144_ren : Go.Shelf.Ren := ⟨fun | 144 => 38 | 143 => 42 | 219 => 45 | 217 => 41 | 225 => 46 | 224 => 47 | 267 => 48 | 266 => 44 | 314 => 49 | n => n, fun | 9 => 9 | 4 => 4 | 3 => 3 | 5 => 5 | 46 => 46 | 146 => 48 | 51 => 47 | n => n, fun | 1 => 0 | n => n⟩
theorem Try.laysM144 : Go.Proofs.LaysM.n144 Try.prog Try.laysM144_ren := {
  mixed := by kernel_rfl
  f143 := Try.func42.trans (congrArg some (by kernel_rfl))
  f144 := Try.func38.trans (congrArg some (by kernel_rfl))
  f217 := Try.func41.trans (congrArg some (by kernel_rfl))
  f219 := Try.func45.trans (congrArg some (by kernel_rfl))
  f224 := Try.func47.trans (congrArg some (by kernel_rfl))
  f225 := Try.func46.trans (congrArg some (by kernel_rfl))
  f266 := Try.func44.trans (congrArg some (by kernel_rfl))
  f267 := Try.func48.trans (congrArg some (by kernel_rfl))
  f314 := Try.func49.trans (congrArg some (by kernel_rfl))
  t3 := Try.underlying3
  a3 := Try.isAgg3
  z3 := Try.sizeOf3
  v3 := Try.zeroValue3
  t4 := Try.underlying4
  a4 := Try.isAgg4
  z4 := Try.sizeOf4
  v4 := Try.zeroValue4
  t5 := Try.underlying5
  a5 := Try.isAgg5
  z5 := Try.sizeOf5
  v5 := Try.zeroValue5
  t9 := Try.underlying9
  a9 := Try.isAgg9
  z9 := Try.sizeOf9
  v9 := Try.zeroValue9
  t46 := Try.underlying46
  a46 := Try.isAgg46
  z46 := Try.sizeOf46
  v46 := Try.zeroValue46
  t51 := Try.underlying47
  a51 := Try.isAgg47
  z51 := Try.sizeOf47
  v51 := Try.zeroValue47
  t146 := Try.underlying48
  a146 := Try.isAgg48
  z146 := Try.sizeOf48
  v146 := Try.zeroValue48
  g1 := by kernel_rfl
  i3 := by kernel_rfl
  i4 := by kernel_rfl
  i5 := by kernel_rfl
  i9 := by kernel_rfl
  i46 := by kernel_rfl
  i51 := by kernel_rfl
  i146 := by kernel_rfl
  m1 := by kernel_rfl
  s1_3 := fun w h => Go.Proofs.cell_of_shapedOpen_int (zero := #[.int .i64 0]) (t := 3) h (of_decide_eq_true (by kernel_rfl)) (by kernel_rfl) rfl (by kernel_rfl) (by kernel_rfl) Try.underlying3 }
open Go.RowKit Go.Lib in
theorem Try.strings_Contains_shaped (s sub : ByteArray) (w : World) (h : w.ShapedOpen Try.prog) (hs : s.size < 4294967281) :
    Calls Try.prog 38 #[.string s, .string sub] w fun e w' => e = .returned (.bool (Lib.contains s.data.toList sub.data.toList)) ∧ w' = w := Any.strings_Contains_shaped Try.laysM144 s sub w h hs
end Go.Proofs
