/-
  THE PROOF, in the frame that the guide's tool wrote for this function; the world behind the call told by 'Below'.
-/
import Derived.Test.Qxb6602028aRows
import Derived.WalkKit
import Derived.ProofKit
import Derived.OpenShut
import Derived.ShutString
import Derived.Below
import Derived.Test.Qxb6602028aNameCaseFreeFacts
import Derived.Test.Qxb6602028aMethod
import Derived.Test.Qxb6602028aCase
namespace Go.Proofs.Qxb6602028a.fnValidNameCaseFree
open Go.ChangeShapes Go.WideShapes Go.ChangeAt Go.RowKit
open Go.ChangeMaps (open_string shut_string)
set_option linter.unusedVariables false      -- a walk need not use every 'w<i>' (that an integer argument fits its kind)

theorem own : ownKnob Try.prog.godebug = none := by kernel_rfl

theorem size_map (f : UInt8 → UInt8) (s : ByteArray) : (⟨(s.data.toList.map f).toArray⟩ : ByteArray).size = s.size := by
  obtain ⟨⟨l⟩⟩ := s
  show (l.map f).length = l.length
  simp

/-! ### THE WALK -/
set_option maxHeartbeats 1000000 in
theorem walk (a0 : ByteArray) (w0 : a0.size ≤ maxLen) (w : World) :
    Calls Try.prog 6 #[.string a0] w fun e w' => e = .returned (.bool true) ∧ Below w.heap.size w w' := by
  by_cases h0 : a0.size ≤ 1048576
  · have cB := bytes17 a0 w w0
    rw [decide_eq_true h0] at cB
    have hsz : ¬ (1048576 : Int) < (a0.size : Int) := by omega
    have cV := fun w => zzName_any a0 w h0
    have cU := fun w => upper_any a0 w h0
    have cL := fun w => lower_any a0 w h0
    have cVU := fun w => zzName_any ⟨(a0.data.toList.map Pl.up).toArray⟩ w (by rw [size_map]; exact h0)
    have cVL := fun w => zzName_any ⟨(a0.data.toList.map Pl.low).toArray⟩ w (by rw [size_map]; exact h0)
    have cM := fun w => zzMethod_any ⟨(a0.data.toList.map Pl.up).toArray⟩ w (by rw [size_map]; exact h0)
    simp only [Pl.vName_up] at cVU
    simp only [Pl.vName_low] at cVL
    simp only at cM
    have hM := Pl.vMeth_up a0.data.toList
    generalize (⟨(a0.data.toList.map Pl.up).toArray⟩ : ByteArray) = U at *
    generalize (⟨(a0.data.toList.map Pl.low).toArray⟩ : ByteArray) = L at *
    generalize Pl.vMeth (a0.data.toList.map Pl.up) = mU at *
    generalize Pl.vName a0.data.toList = v at *
    go_enter Try.func6, Try.ntmps6
    go_wp2_with (go_at_call 17; refine cB.mono ?_; rintro e w' ⟨rfl, rfl⟩)
    refine (cV _).mono ?_
    rintro e w1 ⟨rfl, hb1⟩
    go_wp2_with fail
    refine (cU _).mono ?_
    rintro e w2 ⟨rfl, hb2⟩
    go_wp2_with fail
    refine (cVU _).mono ?_
    rintro e w3 ⟨rfl, hb3⟩
    go_wp2_with fail
    refine (cL _).mono ?_
    rintro e w4 ⟨rfl, hb4⟩
    go_wp2_with fail
    refine (cVL _).mono ?_
    rintro e w5 ⟨rfl, hb5⟩
    have h5 : Below w'.heap.size w' w5 := (((hb1.trans (hb2.mono hb1.size)).trans (hb3.mono (by have := hb1.size; have := hb2.size; omega))).trans (hb4.mono (by have := hb1.size; have := hb2.size; have := hb3.size; omega))).trans (hb5.mono (by have := hb1.size; have := hb2.size; have := hb3.size; have := hb4.size; omega))
    have z5 := h5.size
    cases v with
    | false =>
      go_wp2
      go_ret
      exact ⟨rfl, h5⟩
    | true =>
      have hm := hM rfl
      clear hM
      subst hm
      go_wp2_with fail
      refine (cM _).mono ?_
      rintro e w6 ⟨rfl, hb6⟩
      go_wp2
      go_ret
      exact ⟨rfl, h5.trans (hb6.mono z5)⟩
  · have cB := bytes17 a0 w w0
    rw [decide_eq_false h0] at cB
    go_enter Try.func6, Try.ntmps6
    go_wp2_with (go_at_call 17; refine cB.mono ?_; rintro e w' ⟨rfl, rfl⟩)
    go_ret
    exact ⟨rfl, Below.refl _ _⟩

/-! ### THE ROW's STEP -/
set_option maxRecDepth 100000 in
theorem lifted (os : Os) (started : os.Started) (H : Type) (enc : TypeId × Value → H) :
    ReturnsInHanded {} Try.checked os 6 .any (Rows.fnValidNameCaseFreeSpec.pre6 enc Try.prog Try.f6 Rows.fnValidNameCaseFreeRow.domain false) (Rows.fnValidNameCaseFreeSpec.post enc Try.prog Try.f6 false true false false) := by
  refine returnsInHanded_of_change (C := Try.checked) own started (by kernel_rfl) Try.func6
    (ChangeSpec.witness6 (enc := enc) (C := Try.checked) false ⟨#[], #[.string ByteArray.empty], []⟩ 8 (by kernel_rfl) (by kernel_rfl) (by kernel_rfl) (by kernel_rfl)) ?_
  intro W base args ds gs before hval0 hW hcnd _
  have hval : ∀ (j : Nat) t v, Try.f6.params[j]? = some t → args[j]? = some v → Value.okWide Try.prog W .any base t v := hval0
  have hW' := hW
  obtain ⟨p, q, hA0, hV, rfl, hfz, hnd⟩ := hW
  have hA : DataW.TrodAll enc Try.prog W 0 (fun _ => true) true Try.f6.params.toList args.toList ds p := hA0
  rw [Try.params6] at hA hval
  obtain ⟨v0, vs0, d0, ds0, p0, q0, hargs, rfl, rfl, h0, r0⟩ := trodAll_cons hA
  obtain ⟨rfl, rfl, rfl⟩ := trodAll_nil r0
  obtain rfl : args = #[v0] := by cases args; simp_all
  obtain ⟨rfl, rfl⟩ := trodVars_none hV
  obtain ⟨a0, rfl, rfl, rfl, w0⟩ := open_string Try.underlying9 (hval 0 9 v0 rfl rfl) h0
  clear hA0 hval0
  simp only [List.append_nil] at hW'
  refine (walk a0 w0 W).mono fun e W' ⟨he, bel⟩ => ?_
  subst he
  exact ⟨_, rfl, _, _, _, [], [], [], hW', (trodAll_cons_mk (shut_bool Try.underlying4 _) trodAll_mk0), (trodAll_cons_mk (shut_string Try.underlying9 w0) trodAll_mk0), rfl, bel.frame _, fun h => by cases h⟩

theorem over : Rows.fnValidNameCaseFreeRow.holds Try.pinned (OpenSpec.ofChange Rows.fnValidNameCaseFreeSpec) :=
  OpenClaim.holds_of_wide 6 Try.f6 rfl rfl rfl rfl rfl rfl rfl ⟨rfl, rfl, rfl, rfl, rfl⟩ rfl rfl rfl rfl rfl named Try.func6 closed instd wrapd
    (fun os started H enc _ => lifted os started H enc)

/-- ████ THE STATEMENT ████ -/
theorem proved : Rows.FnValidNameCaseFreeSaid :=
  over
end Go.Proofs.Qxb6602028a.fnValidNameCaseFree
