/-
  strings.CutPrefix, HasPrefix, Cut, TrimLeftFunc by the shelf's contracts, laid at this program (plain words, written by the shelf's tools).
-/
import Derived.Shelf.Small.Wraps
import Derived.Shelf.Strings.Prefix
import Derived.Shelf.Strings.Shaped
import Derived.Shelf.GgClosure.StringsRunes
import Derived.Test.Qxb6601675aProg
namespace Go.Proofs
open Go.Shelf
def Try.lays103_ren : Go.Shelf.Ren := ⟨fun | 103 => 15 | 210 => 19 | 206 => 20 | n => n, fun | 9 => 9 | 4 => 4 | 24 => 31 | 3 => 3 | n => n, fun | n => n⟩
theorem Try.lays103 : Go.Proofs.Lays.n103 Try.prog Try.lays103_ren := {
  mixed := by kernel_rfl
  f103 := Try.func15.trans (congrArg some (by kernel_rfl))
  f206 := Try.func20.trans (congrArg some (by kernel_rfl))
  f210 := Try.func19.trans (congrArg some (by kernel_rfl))
  t3 := Try.underlying3
  a3 := Try.isAgg3
  z3 := Try.sizeOf3
  v3 := Try.zeroValue3
  t4 := Try.underlying4
  a4 := Try.isAgg4
  z4 := Try.sizeOf4
  v4 := Try.zeroValue4
  t9 := Try.underlying9
  a9 := Try.isAgg9
  z9 := Try.sizeOf9
  v9 := Try.zeroValue9
  t24 := Try.underlying31
  a24 := Try.isAgg31
  z24 := Try.sizeOf31
  v24 := Try.zeroValue31 }
open Go.RowKit in
theorem Try.strings_CutPrefix (s p : ByteArray) (w : World) :
    Calls Try.prog 15 #[.string s, .string p] w fun e w' => e = .returned (.tuple #[.string ⟨(Lib.trimPrefix s.data.toList p.data.toList).toArray⟩, .bool (Lib.hasPrefix s.data.toList p.data.toList)]) ∧ w' = w := Any.strings_CutPrefix Try.lays103 s p w
def Try.lays145_ren : Go.Shelf.Ren := ⟨fun | 145 => 17 | 220 => 21 | 219 => 22 | 217 => 23 | 225 => 24 | 224 => 25 | 267 => 26 | 266 => 27 | 314 => 28 | n => n, fun | 9 => 9 | 4 => 4 | 59 => 23 | 3 => 3 | 5 => 5 | 46 => 38 | 146 => 40 | 51 => 39 | n => n, fun | 1 => 0 | n => n⟩
theorem Try.lays145 : Go.Proofs.Lays.n145 Try.prog Try.lays145_ren := {
  mixed := by kernel_rfl
  f145 := Try.func17.trans (congrArg some (by kernel_rfl))
  f217 := Try.func23.trans (congrArg some (by kernel_rfl))
  f219 := Try.func22.trans (congrArg some (by kernel_rfl))
  f220 := Try.func21.trans (congrArg some (by kernel_rfl))
  f224 := Try.func25.trans (congrArg some (by kernel_rfl))
  f225 := Try.func24.trans (congrArg some (by kernel_rfl))
  f266 := Try.func27.trans (congrArg some (by kernel_rfl))
  f267 := Try.func26.trans (congrArg some (by kernel_rfl))
  f314 := Try.func28.trans (congrArg some (by kernel_rfl))
  t3 := Try.underlying3
  a3 := Try.isAgg3
  z3 := Try.sizeOf3
  v3 := Try.zeroValue3
  t4 := Try.underlying4
  a4 := Try.isAgg4
  z4 := Try.sizeOf4
  v4 := Try.zeroValue4
  t5 := Try.underlying5
  a5 := Try.isAgg5
  z5 := Try.sizeOf5
  v5 := Try.zeroValue5
  t9 := Try.underlying9
  a9 := Try.isAgg9
  z9 := Try.sizeOf9
  v9 := Try.zeroValue9
  t46 := Try.underlying38
  a46 := Try.isAgg38
  z46 := Try.sizeOf38
  v46 := Try.zeroValue38
  t51 := Try.underlying39
  a51 := Try.isAgg39
  z51 := Try.sizeOf39
  v51 := Try.zeroValue39
  t59 := Try.underlying23
  a59 := Try.isAgg23
  z59 := Try.sizeOf23
  v59 := Try.zeroValue23
  t146 := Try.underlying40
  a146 := Try.isAgg40
  z146 := Try.sizeOf40
  v146 := Try.zeroValue40
  g1 := by kernel_rfl }
open Go.RowKit Go.Lib in
theorem Try.strings_Cut (s sep : ByteArray) (m : Int) (w : World) (hs : s.size < 4294967281) (hm : w.cell? ⟨0, 0, none⟩ = some (.int .i64 m)) :
    Calls Try.prog 17 #[.string s, .string sep] w fun e w' => e = .returned (.tuple #[.string ⟨(Lib.cut s.data.toList sep.data.toList).1.toArray⟩, .string ⟨(Lib.cut s.data.toList sep.data.toList).2.1.toArray⟩, .bool (Lib.cut s.data.toList sep.data.toList).2.2]) ∧ ∃ n, w' = w.drewN n := Any.strings_Cut Try.lays145 s sep m w hs hm
def Try.laysM145_ren : Go.Shelf.Ren := ⟨fun | 145 => 17 | 220 => 21 | 219 => 22 | 217 => 23 | 225 => 24 | 224 => 25 | 267 => 26 | 266 => 27 | 314 => 28 | n => n, fun | 9 => 9 | 4 => 4 | 59 => 23 | 3 => 3 | 5 => 5 | 46 => 38 | 146 => 40 | 51 => 39 | n => n, fun | 1 => 0 | n => n⟩
theorem Try.laysM145 : Go.Proofs.LaysM.n145 Try.prog Try.laysM145_ren := {
  mixed := by kernel_rfl
  f145 := Try.func17.trans (congrArg some (by kernel_rfl))
  f217 := Try.func23.trans (congrArg some (by kernel_rfl))
  f219 := Try.func22.trans (congrArg some (by kernel_rfl))
  f220 := Try.func21.trans (congrArg some (by kernel_rfl))
  f224 := Try.func25.trans (congrArg some (by kernel_rfl))
  f225 := Try.func24.trans (congrArg some (by kernel_rfl))
  f266 := Try.func27.trans (congrArg some (by kernel_rfl))
  f267 := Try.func26.trans (congrArg some (by kernel_rfl))
  f314 := Try.func28.trans (congrArg some (by kernel_rfl))
  t3 := Try.underlying3
  a3 := Try.isAgg3
  z3 := Try.sizeOf3
  v3 := Try.zeroValue3
  t4 := Try.underlying4
  a4 := Try.isAgg4
  z4 := Try.sizeOf4
  v4 := Try.zeroValue4
  t5 := Try.underlying5
  a5 := Try.isAgg5
  z5 := Try.sizeOf5
  v5 := Try.zeroValue5
  t9 := Try.underlying9
  a9 := Try.isAgg9
  z9 := Try.sizeOf9
  v9 := Try.zeroValue9
  t46 := Try.underlying38
  a46 := Try.isAgg38
  z46 := Try.sizeOf38
  v46 := Try.zeroValue38
  t51 := Try.underlying39
  a51 := Try.isAgg39
  z51 := Try.sizeOf39
  v51 := Try.zeroValue39
  t59 := Try.underlying23
  a59 := Try.isAgg23
  z59 := Try.sizeOf23
  v59 := Try.zeroValue23
  t146 := Try.underlying40
  a146 := Try.isAgg40
  z146 := Try.sizeOf40
  v146 := Try.zeroValue40
  g1 := by kernel_rfl
  i3 := by kernel_rfl
  i4 := by kernel_rfl
  i5 := by kernel_rfl
  i9 := by kernel_rfl
  i46 := by kernel_rfl
  i51 := by kernel_rfl
  i59 := by kernel_rfl
  i146 := by kernel_rfl
  m1 := by kernel_rfl
  s1_3 := fun w h => Go.Proofs.cell_of_shapedOpen_int (zero := #[.int .i64 0]) (t := 3) h (of_decide_eq_true (by kernel_rfl)) (by kernel_rfl) rfl (by kernel_rfl) (by kernel_rfl) Try.underlying3 }
def Try.lays272_ren : Go.Shelf.Ren := ⟨fun | 272 => 13 | 315 => 18 | n => n, fun | 9 => 9 | 40 => 30 | 4 => 4 | 3 => 3 | 0 => 0 | 21 => 21 | n => n, fun | n => n⟩
theorem Try.lays272 : Go.Proofs.Lays.n272 Try.prog Try.lays272_ren := {
  mixed := by kernel_rfl
  f272 := Try.func13.trans (congrArg some (by kernel_rfl))
  f315 := Try.func18.trans (congrArg some (by kernel_rfl))
  t0 := Try.underlying0
  a0 := Try.isAgg0
  z0 := Try.sizeOf0
  v0 := Try.zeroValue0
  t3 := Try.underlying3
  a3 := Try.isAgg3
  z3 := Try.sizeOf3
  v3 := Try.zeroValue3
  t4 := Try.underlying4
  a4 := Try.isAgg4
  z4 := Try.sizeOf4
  v4 := Try.zeroValue4
  t9 := Try.underlying9
  a9 := Try.isAgg9
  z9 := Try.sizeOf9
  v9 := Try.zeroValue9
  t21 := Try.underlying21
  a21 := Try.isAgg21
  z21 := Try.sizeOf21
  v21 := Try.zeroValue21
  t40 := Try.underlying30
  a40 := Try.isAgg30
  z40 := Try.sizeOf30
  v40 := Try.zeroValue30 }
open Go.RowKit Go.Lib in
theorem Try.strings_TrimLeftFunc_runes (g : Nat) (lb : Array Value) (eg : ∀ args w, (callFunc g args).run Try.prog w = .ok (.enter g args) w) (p : Nat → Bool) (s : ByteArray) (w : World) (hp : PredAtRunes Try.prog g lb p w) :
    Calls Try.prog 13 #[.string s, .func (.func g) #[] lb] w fun e w' => e = .returned (.string (Lib.trimLeftF p s)) ∧ Below w.heap.size w w' := Any.strings_TrimLeftFunc_runes Try.lays272 g lb eg p s w hp
def Try.lays99_ren : Go.Shelf.Ren := ⟨fun | 99 => 16 | 206 => 20 | n => n, fun | 9 => 9 | 4 => 4 | 3 => 3 | n => n, fun | n => n⟩
theorem Try.lays99 : Go.Proofs.Lays.n99 Try.prog Try.lays99_ren := {
  mixed := by kernel_rfl
  f99 := Try.func16.trans (congrArg some (by kernel_rfl))
  f206 := Try.func20.trans (congrArg some (by kernel_rfl))
  t3 := Try.underlying3
  a3 := Try.isAgg3
  z3 := Try.sizeOf3
  v3 := Try.zeroValue3
  t4 := Try.underlying4
  a4 := Try.isAgg4
  z4 := Try.sizeOf4
  v4 := Try.zeroValue4
  t9 := Try.underlying9
  a9 := Try.isAgg9
  z9 := Try.sizeOf9
  v9 := Try.zeroValue9 }
open Go.RowKit Go.Lib in
theorem Try.strings_HasPrefix (s p : ByteArray) (w : World) :
    Calls Try.prog 16 #[.string s, .string p] w fun e w' => e = .returned (.bool (Lib.hasPrefix s.data.toList p.data.toList)) ∧ w' = w := Any.strings_HasPrefix Try.lays99 s p w
end Go.Proofs
