/-
  THE PROOF, in the frame that the guide's tool wrote for this function; the world behind the call told by 'Below'.
-/
import Derived.Test.Qxb6601675aRows
import Derived.WalkKit
import Derived.ProofKit
import Derived.OpenShut
import Derived.ShutString
import Derived.Below
import Derived.Test.Qxb6601675aSoundFacts
import Derived.Test.Qxb6601675aSoundMain
import Derived.HandedShaped
namespace Go.Proofs.Qxb6601675a.fnPseudoAttributeSound
open Go.ChangeShapes Go.WideShapes Go.ChangeAt Go.RowKit
open Go.ChangeMaps (open_string shut_string)
set_option linter.unusedVariables false      -- a walk need not use every 'w<i>' (that an integer argument fits its kind)

theorem own : ownKnob Try.prog.godebug = none := by kernel_rfl

/-! ### THE WALK -/
set_option maxHeartbeats 4000000 in
set_option maxRecDepth 100000 in
theorem walk (a0 : ByteArray) (a1 : ByteArray) (a2 : Bool) (w0 : a0.size ≤ maxLen) (w1 : a1.size ≤ maxLen) (w : World) (hsh : w.ShapedOpen Try.prog) :
    Calls Try.prog 3 #[.string a0, .string a1, .bool a2] w fun e w' => e = .returned (.bool true) ∧ Below w.heap.size w w' := by
  obtain ⟨m, hm⟩ := Try.laysM145.s1_3 w hsh
  change w.cell? ⟨0, 0, none⟩ = some (.int .i64 m) at hm
  have h0 := size_of_cell hm
  have cB := bytes6 a0 a1 a2 w w0 w1
  clear hsh
  by_cases hA : a0.size + a1.size ≤ 1048576
  · rw [decide_eq_true hA] at cB
    by_cases gS : a0.size ≤ 524288
    · by_cases gN : a1.size ≤ 524288
      · cases hok : (Pl.psa a0.data.toList a1.data.toList a2).2.2 with
        | false => exact refused a0 a1 a2 m w hm h0 hA gS gN (Pl.psa_no _ _ _ hok)
        | true =>
          obtain ⟨v, r, ok⟩ : ∃ v r, Pl.psa a0.data.toList a1.data.toList a2 = (v, r, true) := ⟨_, _, by rw [← hok]⟩
          obtain ⟨Pb, Mb, q, E, E1, O, O1, J, K, P, PN, X⟩ := split_of a0 a1 ⟨v.toArray⟩ ⟨r.toArray⟩ a2 ok
          rcases X.hq with rfl | rfl
          · exact yes_34 a0 a1 a2 m w hm h0 hA gS gN _ _ _ _ E E1 O O1 J K P PN ok X
          · exact yes_39 a0 a1 a2 m w hm h0 hA gS gN _ _ _ _ E E1 O O1 J K P PN ok X
      · have d0 : decide ((524288 : Int) < (a0.size : Int)) = false := decide_eq_false (by omega)
        have d1 : decide ((524288 : Int) < (a1.size : Int)) = true := decide_eq_true (by omega)
        clear hA gS gN hm
        go_enter Try.func3, Try.ntmps3
        go_wp2_with (go_at_call 6; refine cB.mono ?_; rintro e w' ⟨rfl, rfl⟩)
        go_ret
        exact ⟨rfl, Below.refl _ _⟩
    · have d0 : decide ((524288 : Int) < (a0.size : Int)) = true := decide_eq_true (by omega)
      clear hA gS hm
      go_enter Try.func3, Try.ntmps3
      go_wp2_with (go_at_call 6; refine cB.mono ?_; rintro e w' ⟨rfl, rfl⟩)
      go_ret
      exact ⟨rfl, Below.refl _ _⟩
  · rw [decide_eq_false hA] at cB
    clear hA hm
    go_enter Try.func3, Try.ntmps3
    go_wp2_with (go_at_call 6; refine cB.mono ?_; rintro e w' ⟨rfl, rfl⟩)
    go_ret
    exact ⟨rfl, Below.refl _ _⟩

/-! ### THE ROW's STEP -/
set_option maxRecDepth 100000 in
theorem lifted (os : Os) (started : os.Started) (H : Type) (enc : TypeId × Value → H) :
    ReturnsInHanded {} Try.checked os 3 .any (Rows.fnPseudoAttributeSoundSpec.pre6 enc Try.prog Try.f3 Rows.fnPseudoAttributeSoundRow.domain false) (Rows.fnPseudoAttributeSoundSpec.post enc Try.prog Try.f3 false true false false) := by
  refine returnsInHanded_of_change_shaped (C := Try.checked) own started (by kernel_rfl) Try.func3
    (ChangeSpec.witness6 (enc := enc) (C := Try.checked) false ⟨#[], #[.string ByteArray.empty, .string ByteArray.empty, .bool false], []⟩ 8 (by kernel_rfl) (by kernel_rfl) (by kernel_rfl) (by kernel_rfl)) ?_
  intro W base args ds gs before hval0 hW hcnd _ hsh _
  have hval : ∀ (j : Nat) t v, Try.f3.params[j]? = some t → args[j]? = some v → Value.okWide Try.prog W .any base t v := hval0
  have hW' := hW
  obtain ⟨p, q, hA0, hV, rfl, hfz, hnd⟩ := hW
  have hA : DataW.TrodAll enc Try.prog W 0 (fun _ => true) true Try.f3.params.toList args.toList ds p := hA0
  rw [Try.params3] at hA hval
  obtain ⟨v0, vs0, d0, ds0, p0, q0, hargs, rfl, rfl, h0, r0⟩ := trodAll_cons hA
  obtain ⟨v1, vs1, d1, ds1, p1, q1, rfl, rfl, rfl, h1, r1⟩ := trodAll_cons r0
  obtain ⟨v2, vs2, d2, ds2, p2, q2, rfl, rfl, rfl, h2, r2⟩ := trodAll_cons r1
  obtain ⟨rfl, rfl, rfl⟩ := trodAll_nil r2
  obtain rfl : args = #[v0, v1, v2] := by cases args; simp_all
  obtain ⟨rfl, rfl⟩ := trodVars_none hV
  obtain ⟨a0, rfl, rfl, rfl, w0⟩ := open_string Try.underlying9 (hval 0 9 v0 rfl rfl) h0
  obtain ⟨a1, rfl, rfl, rfl, w1⟩ := open_string Try.underlying9 (hval 1 9 v1 rfl rfl) h1
  obtain ⟨a2, rfl, rfl, rfl⟩ := open_bool Try.underlying4 (hval 2 4 v2 rfl rfl) h2
  clear hA0 hval0
  simp only [List.append_nil] at hW'
  refine (walk a0 a1 a2 w0 w1 W hsh).mono fun e W' ⟨he, bel⟩ => ?_
  subst he
  exact ⟨_, rfl, _, _, _, [], [], [], hW', (trodAll_cons_mk (shut_bool Try.underlying4 _) trodAll_mk0), (trodAll_cons_mk (shut_string Try.underlying9 w0) (trodAll_cons_mk (shut_string Try.underlying9 w1) (trodAll_cons_mk (shut_bool Try.underlying4 _) trodAll_mk0))), rfl, bel.frame _, fun h => by cases h⟩

theorem over : Rows.fnPseudoAttributeSoundRow.holds Try.pinned (OpenSpec.ofChange Rows.fnPseudoAttributeSoundSpec) :=
  OpenClaim.holds_of_wide 3 Try.f3 rfl rfl rfl rfl rfl rfl rfl ⟨rfl, rfl, rfl, rfl, rfl⟩ rfl rfl rfl rfl rfl named Try.func3 closed instd wrapd
    (fun os started H enc _ => lifted os started H enc)

/-- ████ THE STATEMENT ████ -/
theorem proved : Rows.FnPseudoAttributeSoundSaid :=
  over
end Go.Proofs.Qxb6601675a.fnPseudoAttributeSound
