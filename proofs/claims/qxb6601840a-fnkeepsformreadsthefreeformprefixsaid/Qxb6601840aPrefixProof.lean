/-
  THE PROOF, in the frame that the guide's tool wrote for this function; the world behind the call told by 'Below'.
-/
import Derived.Test.Qxb6601840aRows
import Derived.WalkKit
import Derived.ProofKit
import Derived.OpenShut
import Derived.ShutString
import Derived.Below
import Derived.Test.Qxb6601840aFacts
import Derived.Test.Qxb6601840aModel
namespace Go.Proofs.Qxb6601840a.fnKeepsFormReadsTheFreeFormPrefix
open Go.ChangeShapes Go.WideShapes Go.ChangeAt Go.RowKit
open Go.ChangeMaps (open_string shut_string)
set_option linter.unusedVariables false      -- a walk need not use every 'w<i>' (that an integer argument fits its kind)

theorem own : ownKnob Try.prog.godebug = none := by kernel_rfl

theorem keeps_any (j : Nat) (hj : Pl.live j) (c : UInt8) (w : World) :
    Calls Try.prog 8 #[.int .i64 (Pl.atOf j), .int .i64 (Pl.krOf j), .int .u8 (c.toNat : Int)] w fun e w' => answer (Pl.st j c) e ∧ Below w.heap.size w w' := by
  unfold Pl.live at hj
  rcases (by omega : j = 0 ∨ j = 1 ∨ j = 2 ∨ j = 3 ∨ j = 4 ∨ j = 5 ∨ j = 6 ∨ j = 7 ∨ j = 8 ∨ j = 9 ∨ j = 11) with rfl | rfl | rfl | rfl | rfl | rfl | rfl | rfl | rfl | rfl | rfl
  · exact keeps0 c w
  · exact keeps1 c w
  · exact keeps2 c w
  · exact keeps3 c w
  · exact keeps4 c w
  · exact keeps5 c w
  · exact keeps6 c w
  · exact keeps7 c w
  · exact keeps8 c w
  · exact keeps9 c w
  · exact keeps11 c w

theorem at_five {j : Nat} (hj : Pl.live j) : ((Pl.atOf j : Int) == 5) = false := by
  unfold Pl.live at hj
  rcases (by omega : j = 0 ∨ j = 1 ∨ j = 2 ∨ j = 3 ∨ j = 4 ∨ j = 5 ∨ j = 6 ∨ j = 7 ∨ j = 8 ∨ j = 9 ∨ j = 11) with rfl | rfl | rfl | rfl | rfl | rfl | rfl | rfl | rfl | rfl | rfl <;> rfl

/-! ### THE WALK -/
set_option maxHeartbeats 8000000 in
theorem walk (a0 : ByteArray) (w0 : a0.size ≤ maxLen) (w : World) :
    Calls Try.prog 3 #[.string a0] w fun e w' => e = .returned (.bool true) ∧ Below w.heap.size w w' := by
  by_cases h0 : a0.size ≤ 1048576
  case neg =>
    have cB := bytes7 a0 w w0
    rw [decide_eq_false h0] at cB
    go_enter Try.func3, Try.ntmps3
    go_wp2_with (go_at_call 7; refine cB.mono ?_; rintro e w' ⟨rfl, rfl⟩)
    go_ret
    exact ⟨rfl, Below.refl _ _⟩
  case pos =>
    have cB := bytes7 a0 w w0
    rw [decide_eq_true h0] at cB
    have d0 : decide ((1048576 : Int) < (a0.size : Int)) = false := decide_eq_false (by omega)
    obtain ⟨N, r, J, hR⟩ : ∃ N r J, Pl.run 0 0 a0.data.toList = (N, r, J) := ⟨_, _, _, rfl⟩
    have cM := fun W => model_any a0 W h0 N J r hR
    have HR : Hid (Pl.run 0 0 a0.data.toList = (N, r, J)) := hR
    have hJ : r = false → J ≤ 11 := by
      intro e
      have := Pl.run_live a0.data.toList 0 0 (Or.inl (by omega))
      rw [hR] at this
      have hl := this e
      change Pl.live J ∨ J = 10 at hl
      unfold Pl.live at hl
      omega
    have HJ : Hid (r = false → J ≤ 11) := hJ
    clear hR hJ w0
    go_enter Try.func3, Try.ntmps3
    go_wp2_with (go_at_call 7; refine cB.mono ?_; rintro e wa ⟨rfl, hwa⟩; replace hwa := hwa.symm; subst hwa)
    clear cB d0
    go_loopw [3, 4, 5, 6, 7] (fun av kv nv rv i wr => ∃ j k : Nat, Pl.live j ∧ k ≤ a0.size ∧ av = .int .i64 (Pl.atOf j) ∧ kv = .int .i64 (Pl.krOf j) ∧ nv = .int .i64 k ∧ rv = .bool false ∧ i = .int .i64 k ∧ Pl.run j k (a0.data.toList.drop k) = (N, r, J) ∧ Below w.heap.size w wr) (fun _ _ _ _ i _ => a0.size - (intOf i).toNat)
    case atStart => exact ⟨0, 0, Or.inl (by omega), Nat.zero_le _, rfl, rfl, rfl, rfl, rfl, HR.out, Below.refl _ _⟩
    case round =>
      obtain ⟨j, k, hj, hk, rfl, rfl, rfl, rfl, rfl, hrun, hb⟩ := hrel
      have HS : Hid (Pl.run j k (a0.data.toList.drop k) = (N, r, J)) := hrun
      have hz := hb.size
      clear hrun HR
      by_cases hlt : k < a0.size
      case neg =>
        have hE := run_end hlt HS.out
        simp only [Prod.mk.injEq] at hE
        obtain ⟨rfl, rfl, rfl⟩ := hE
        have hj11 : j ≤ 11 := HJ.out rfl
        clear HS HJ
        go_wp2_with fail
        refine (cM _).mono ?_
        rintro e w2 ⟨rfl, hw2⟩
        replace hw2 := hw2.symm
        subst hw2
        go_wp2_with fail
        refine (state_any j (hj11) _).mono ?_
        rintro e w3 ⟨rfl, hw3⟩
        replace hw3 := hw3.symm
        subst hw3
        go_wp2
        go_ret
        exact ⟨ret_bool (by simp), hb⟩
      case pos =>
        have cK := keeps_any j hj a0[k] wr
        cases hst : Pl.st j a0[k] with
        | none =>
          rw [hst] at cK
          have hD := run_none hlt HS.out hst
          simp only [Prod.mk.injEq] at hD
          obtain ⟨rfl, rfl, rfl⟩ := hD
          clear hst HS HJ
          go_wp2_with fail
          refine cK.mono ?_
          rintro e w1 ⟨⟨a, b, rfl⟩, hb1⟩
          clear cK
          go_wp2_with fail
          refine (cM _).mono ?_
          rintro e w2 ⟨rfl, hw2⟩
          replace hw2 := hw2.symm
          subst hw2
          go_wp2
          go_ret
          exact ⟨rfl, hb.trans (hb1.mono hz)⟩
        | some j' =>
          rw [hst] at cK
          have HT : Hid _ := hst
          have HL : Hid _ := Pl.st_live hj hst
          clear hst
          by_cases h10 : j' = 10
          case pos =>
            subst h10
            have hD := run_done hlt HS.out HT.out
            simp only [Prod.mk.injEq] at hD
            obtain ⟨rfl, rfl, rfl⟩ := hD
            have cT := fun W => state_any 10 (by omega) W
            change ∀ W, Calls Try.prog 10 #[.int .i64 10] W fun e w' => e = .returned (.tuple #[.int .i64 5, .int .i64 6]) ∧ w' = W at cT
            clear HS HT HL HJ
            go_wp2_with fail
            refine cK.mono ?_
            rintro e w1 ⟨he, hb1⟩
            change e = .returned (.tuple #[.bool true, .int .i64 5, .int .i64 6]) at he
            subst he
            clear cK
            go_wp2_with fail
            refine (cM _).mono ?_
            rintro e w2 ⟨rfl, hw2⟩
            replace hw2 := hw2.symm
            subst hw2
            go_wp2_with fail
            refine (cT _).mono ?_
            rintro e w3 ⟨rfl, hw3⟩
            replace hw3 := hw3.symm
            subst hw3
            go_wp2
            go_ret
            exact ⟨ret_bool (by simp), hb.trans (hb1.mono hz)⟩
          case neg =>
            have hl' : Pl.live j' := by
              rcases HL.out with g | g
              · exact g
              · exact absurd g h10
            have HK : Hid _ := run_some hlt HS.out HT.out h10
            have h5 := at_five hl'
            clear h10
            go_wp2_with fail
            refine cK.mono ?_
            rintro e w1 ⟨he, hb1⟩
            change e = .returned (.tuple #[.bool true, .int .i64 (Pl.atOf j'), .int .i64 (Pl.krOf j')]) at he
            subst he
            clear cK
            go_wp2
            go_roundw
            case rel => exact ⟨j', k + 1, hl', by omega, rfl, rfl, by go_num, rfl, by go_num, HK.out, hb.trans (hb1.mono hz)⟩
            case measure => simp [intOf]; omega

/-! ### THE ROW's STEP -/
set_option maxRecDepth 100000 in
theorem lifted (os : Os) (started : os.Started) (H : Type) (enc : TypeId × Value → H) :
    ReturnsInHanded {} Try.checked os 3 .any (Rows.fnKeepsFormReadsTheFreeFormPrefixSpec.pre6 enc Try.prog Try.f3 Rows.fnKeepsFormReadsTheFreeFormPrefixRow.domain false) (Rows.fnKeepsFormReadsTheFreeFormPrefixSpec.post enc Try.prog Try.f3 false true false false) := by
  refine returnsInHanded_of_change (C := Try.checked) own started (by kernel_rfl) Try.func3
    (ChangeSpec.witness6 (enc := enc) (C := Try.checked) false ⟨#[], #[.string ByteArray.empty], []⟩ 8 (by kernel_rfl) (by kernel_rfl) (by kernel_rfl) (by kernel_rfl)) ?_
  intro W base args ds gs before hval0 hW hcnd _
  have hval : ∀ (j : Nat) t v, Try.f3.params[j]? = some t → args[j]? = some v → Value.okWide Try.prog W .any base t v := hval0
  have hW' := hW
  obtain ⟨p, q, hA0, hV, rfl, hfz, hnd⟩ := hW
  have hA : DataW.TrodAll enc Try.prog W 0 (fun _ => true) true Try.f3.params.toList args.toList ds p := hA0
  rw [Try.params3] at hA hval
  obtain ⟨v0, vs0, d0, ds0, p0, q0, hargs, rfl, rfl, h0, r0⟩ := trodAll_cons hA
  obtain ⟨rfl, rfl, rfl⟩ := trodAll_nil r0
  obtain rfl : args = #[v0] := by cases args; simp_all
  obtain ⟨rfl, rfl⟩ := trodVars_none hV
  obtain ⟨a0, rfl, rfl, rfl, w0⟩ := open_string Try.underlying9 (hval 0 9 v0 rfl rfl) h0
  clear hA0 hval0
  simp only [List.append_nil] at hW'
  refine (walk a0 w0 W).mono fun e W' ⟨he, bel⟩ => ?_
  subst he
  exact ⟨_, rfl, _, _, _, [], [], [], hW', (trodAll_cons_mk (shut_bool Try.underlying4 _) trodAll_mk0), (trodAll_cons_mk (shut_string Try.underlying9 w0) trodAll_mk0), rfl, bel.frame _, fun h => by cases h⟩

theorem over : Rows.fnKeepsFormReadsTheFreeFormPrefixRow.holds Try.pinned (OpenSpec.ofChange Rows.fnKeepsFormReadsTheFreeFormPrefixSpec) :=
  OpenClaim.holds_of_wide 3 Try.f3 rfl rfl rfl rfl rfl rfl rfl ⟨rfl, rfl, rfl, rfl, rfl⟩ rfl rfl rfl rfl rfl named Try.func3 closed instd wrapd
    (fun os started H enc _ => lifted os started H enc)

/-- ████ THE STATEMENT ████ -/
theorem proved : Rows.FnKeepsFormReadsTheFreeFormPrefixSaid :=
  over
end Go.Proofs.Qxb6601840a.fnKeepsFormReadsTheFreeFormPrefix
