/-
  THE PROOF, in the frame that the guide's tool wrote for this function; the world behind the call told by 'Below'.
-/
import Derived.Test.Qxb6602028aRows
import Derived.WalkKit
import Derived.ProofKit
import Derived.OpenShut
import Derived.ShutString
import Derived.Below
import Derived.Test.Qxb6602028aMethodSpecFacts
import Derived.Test.Qxb6602028aMethod
import Derived.Test.Qxb6602028aCase
namespace Go.Proofs.Qxb6602028a.fnValidMethodSpec
open Go.ChangeShapes Go.WideShapes Go.ChangeAt Go.RowKit
open Go.ChangeMaps (open_string shut_string)
set_option linter.unusedVariables false      -- a walk need not use every 'w<i>' (that an integer argument fits its kind)

theorem own : ownKnob Try.prog.godebug = none := by kernel_rfl

/-! ### THE WALK -/
theorem walk (a0 : ByteArray) (w0 : a0.size ≤ maxLen) (w : World) :
    Calls Try.prog 3 #[.string a0] w fun e w' => e = .returned (.bool true) ∧ Below w.heap.size w w' := by
  by_cases h0 : a0.size ≤ 1048576
  · have cB := bytes10 a0 w w0
    rw [decide_eq_true h0] at cB
    have hsz : ¬ (1048576 : Int) < (a0.size : Int) := by omega
    go_enter Try.func3, Try.ntmps3
    go_wp2_with (first
      | (go_at_call 10; refine cB.mono ?_; rintro e w' ⟨rfl, rfl⟩)
      | (go_at_call 11; refine (zzMethod_any a0 _ h0).mono ?_; rintro e w' ⟨rfl, hb⟩)
      | (go_at_call 12; refine (modelMethod_any a0 _ h0).mono ?_; rintro e w' ⟨rfl, rfl⟩))
    go_ret
    exact ⟨ret_bool (by simp), hb⟩
  · have cB := bytes10 a0 w w0
    rw [decide_eq_false h0] at cB
    go_enter Try.func3, Try.ntmps3
    go_wp2_with (go_at_call 10; refine cB.mono ?_; rintro e w' ⟨rfl, rfl⟩)
    go_ret
    exact ⟨rfl, Below.refl _ _⟩

/-! ### THE ROW's STEP -/
set_option maxRecDepth 100000 in
theorem lifted (os : Os) (started : os.Started) (H : Type) (enc : TypeId × Value → H) :
    ReturnsInHanded {} Try.checked os 3 .any (Rows.fnValidMethodSpecSpec.pre6 enc Try.prog Try.f3 Rows.fnValidMethodSpecRow.domain false) (Rows.fnValidMethodSpecSpec.post enc Try.prog Try.f3 false true false false) := by
  refine returnsInHanded_of_change (C := Try.checked) own started (by kernel_rfl) Try.func3
    (ChangeSpec.witness6 (enc := enc) (C := Try.checked) false ⟨#[], #[.string ByteArray.empty], []⟩ 8 (by kernel_rfl) (by kernel_rfl) (by kernel_rfl) (by kernel_rfl)) ?_
  intro W base args ds gs before hval0 hW hcnd _
  have hval : ∀ (j : Nat) t v, Try.f3.params[j]? = some t → args[j]? = some v → Value.okWide Try.prog W .any base t v := hval0
  have hW' := hW
  obtain ⟨p, q, hA0, hV, rfl, hfz, hnd⟩ := hW
  have hA : DataW.TrodAll enc Try.prog W 0 (fun _ => true) true Try.f3.params.toList args.toList ds p := hA0
  rw [Try.params3] at hA hval
  obtain ⟨v0, vs0, d0, ds0, p0, q0, hargs, rfl, rfl, h0, r0⟩ := trodAll_cons hA
  obtain ⟨rfl, rfl, rfl⟩ := trodAll_nil r0
  obtain rfl : args = #[v0] := by cases args; simp_all
  obtain ⟨rfl, rfl⟩ := trodVars_none hV
  obtain ⟨a0, rfl, rfl, rfl, w0⟩ := open_string Try.underlying9 (hval 0 9 v0 rfl rfl) h0
  clear hA0 hval0
  simp only [List.append_nil] at hW'
  refine (walk a0 w0 W).mono fun e W' ⟨he, bel⟩ => ?_
  subst he
  exact ⟨_, rfl, _, _, _, [], [], [], hW', (trodAll_cons_mk (shut_bool Try.underlying4 _) trodAll_mk0), (trodAll_cons_mk (shut_string Try.underlying9 w0) trodAll_mk0), rfl, bel.frame _, fun h => by cases h⟩

theorem over : Rows.fnValidMethodSpecRow.holds Try.pinned (OpenSpec.ofChange Rows.fnValidMethodSpecSpec) :=
  OpenClaim.holds_of_wide 3 Try.f3 rfl rfl rfl rfl rfl rfl rfl ⟨rfl, rfl, rfl, rfl, rfl⟩ rfl rfl rfl rfl rfl named Try.func3 closed instd wrapd
    (fun os started H enc _ => lifted os started H enc)

/-- ████ THE STATEMENT ████ -/
theorem proved : Rows.FnValidMethodSpecSaid :=
  over
end Go.Proofs.Qxb6602028a.fnValidMethodSpec
