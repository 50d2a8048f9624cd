/-
  THE PROOF, in the frame that the guide's tool wrote for this function; the world behind the call told by 'Below'.
-/
import Derived.Test.Qxb6601675aRows
import Derived.WalkKit
import Derived.ProofKit
import Derived.OpenShut
import Derived.ShutString
import Derived.Below
import Derived.Test.Qxb6601675aReadsFacts
import Derived.Test.Qxb6601675aReadsMain
import Derived.HandedShaped
namespace Go.Proofs.Qxb6601675a.fnPseudoAttributeReadsWhatIsWritten
open Go.ChangeShapes Go.WideShapes Go.ChangeAt Go.RowKit
open Go.ChangeMaps (open_string shut_string)
set_option linter.unusedVariables false      -- a walk need not use every 'w<i>' (that an integer argument fits its kind)

theorem own : ownKnob Try.prog.godebug = none := by kernel_rfl

/-! ### THE WALK -/
set_option maxHeartbeats 4000000 in
theorem walk (a0 : ByteArray) (a1 : ByteArray) (a2 : ByteArray) (a3 : ByteArray) (a4 : ByteArray) (a5 : ByteArray) (a6 : Bool) (a7 : Bool) (w0 : a0.size ≤ maxLen) (w1 : a1.size ≤ maxLen) (w2 : a2.size ≤ maxLen) (w3 : a3.size ≤ maxLen) (w4 : a4.size ≤ maxLen) (w5 : a5.size ≤ maxLen) (w : World) (hsh : w.ShapedOpen Try.prog) :
    Calls Try.prog 5 #[.string a0, .string a1, .string a2, .string a3, .string a4, .string a5, .bool a6, .bool a7] w fun e w' => e = .returned (.bool true) ∧ Below w.heap.size w w' := by
  obtain ⟨m, hm⟩ := Try.laysM145.s1_3 w hsh
  change w.cell? ⟨0, 0, none⟩ = some (.int .i64 m) at hm
  have h0 := size_of_cell hm
  have cB := bytes11 a0 a1 a2 a3 a4 a5 a6 a7 w w0 w1 w2 w3 w4 w5
  clear hsh
  by_cases hA : a0.size + a1.size + a2.size + a3.size + a4.size + a5.size ≤ 1048576
  case neg =>
    rw [decide_eq_false hA] at cB
    clear hA hm
    go_enter Try.func5, Try.ntmps5
    go_wp2_with (go_at_call 11; refine cB.mono ?_; rintro e wa ⟨rfl, hwa⟩; replace hwa := hwa.symm; subst hwa)
    go_ret
    exact ⟨rfl, Below.refl _ _⟩
  case pos =>
    rw [decide_eq_true hA] at cB
    by_cases g0 : a0.size ≤ 131072
    case neg =>
      have d0 : decide ((131072 : Int) < (a0.size : Int)) = true := decide_eq_true (by omega)
      clear hm hA
      go_enter Try.func5, Try.ntmps5
      go_wp2_with (go_at_call 11; refine cB.mono ?_; rintro e wa ⟨rfl, hwa⟩; replace hwa := hwa.symm; subst hwa)
      go_ret
      exact ⟨rfl, Below.refl _ _⟩
    case pos =>
      by_cases g1 : a1.size ≤ 131072
      case neg =>
        have d0 : decide ((131072 : Int) < (a0.size : Int)) = false := decide_eq_false (by omega)
        have d1 : decide ((131072 : Int) < (a1.size : Int)) = true := decide_eq_true (by omega)
        clear hm hA
        go_enter Try.func5, Try.ntmps5
        go_wp2_with (go_at_call 11; refine cB.mono ?_; rintro e wa ⟨rfl, hwa⟩; replace hwa := hwa.symm; subst hwa)
        go_ret
        exact ⟨rfl, Below.refl _ _⟩
      case pos =>
        by_cases g2 : a2.size ≤ 131072
        case neg =>
          have d0 : decide ((131072 : Int) < (a0.size : Int)) = false := decide_eq_false (by omega)
          have d1 : decide ((131072 : Int) < (a1.size : Int)) = false := decide_eq_false (by omega)
          have d2 : decide ((131072 : Int) < (a2.size : Int)) = true := decide_eq_true (by omega)
          clear hm hA
          go_enter Try.func5, Try.ntmps5
          go_wp2_with (go_at_call 11; refine cB.mono ?_; rintro e wa ⟨rfl, hwa⟩; replace hwa := hwa.symm; subst hwa)
          go_ret
          exact ⟨rfl, Below.refl _ _⟩
        case pos =>
          by_cases g3 : a3.size ≤ 131072
          case neg =>
            have d0 : decide ((131072 : Int) < (a0.size : Int)) = false := decide_eq_false (by omega)
            have d1 : decide ((131072 : Int) < (a1.size : Int)) = false := decide_eq_false (by omega)
            have d2 : decide ((131072 : Int) < (a2.size : Int)) = false := decide_eq_false (by omega)
            have d3 : decide ((131072 : Int) < (a3.size : Int)) = true := decide_eq_true (by omega)
            clear hm hA
            go_enter Try.func5, Try.ntmps5
            go_wp2_with (go_at_call 11; refine cB.mono ?_; rintro e wa ⟨rfl, hwa⟩; replace hwa := hwa.symm; subst hwa)
            go_ret
            exact ⟨rfl, Below.refl _ _⟩
          case pos =>
            by_cases g4 : a4.size ≤ 131072
            case neg =>
              have d0 : decide ((131072 : Int) < (a0.size : Int)) = false := decide_eq_false (by omega)
              have d1 : decide ((131072 : Int) < (a1.size : Int)) = false := decide_eq_false (by omega)
              have d2 : decide ((131072 : Int) < (a2.size : Int)) = false := decide_eq_false (by omega)
              have d3 : decide ((131072 : Int) < (a3.size : Int)) = false := decide_eq_false (by omega)
              have d4 : decide ((131072 : Int) < (a4.size : Int)) = true := decide_eq_true (by omega)
              clear hm hA
              go_enter Try.func5, Try.ntmps5
              go_wp2_with (go_at_call 11; refine cB.mono ?_; rintro e wa ⟨rfl, hwa⟩; replace hwa := hwa.symm; subst hwa)
              go_ret
              exact ⟨rfl, Below.refl _ _⟩
            case pos =>
              by_cases g5 : a5.size ≤ 131072
              case neg =>
                have d0 : decide ((131072 : Int) < (a0.size : Int)) = false := decide_eq_false (by omega)
                have d1 : decide ((131072 : Int) < (a1.size : Int)) = false := decide_eq_false (by omega)
                have d2 : decide ((131072 : Int) < (a2.size : Int)) = false := decide_eq_false (by omega)
                have d3 : decide ((131072 : Int) < (a3.size : Int)) = false := decide_eq_false (by omega)
                have d4 : decide ((131072 : Int) < (a4.size : Int)) = false := decide_eq_false (by omega)
                have d5 : decide ((131072 : Int) < (a5.size : Int)) = true := decide_eq_true (by omega)
                clear hm hA
                go_enter Try.func5, Try.ntmps5
                go_wp2_with (go_at_call 11; refine cB.mono ?_; rintro e wa ⟨rfl, hwa⟩; replace hwa := hwa.symm; subst hwa)
                go_ret
                exact ⟨rfl, Below.refl _ _⟩
              case pos =>
                have d0 : decide ((131072 : Int) < (a0.size : Int)) = false := decide_eq_false (by omega)
                have d1 : decide ((131072 : Int) < (a1.size : Int)) = false := decide_eq_false (by omega)
                have d2 : decide ((131072 : Int) < (a2.size : Int)) = false := decide_eq_false (by omega)
                have d3 : decide ((131072 : Int) < (a3.size : Int)) = false := decide_eq_false (by omega)
                have d4 : decide ((131072 : Int) < (a4.size : Int)) = false := decide_eq_false (by omega)
                have d5 : decide ((131072 : Int) < (a5.size : Int)) = false := decide_eq_false (by omega)
                have c0 := allSpace_any a0 w (by omega)
                have c2 := allSpace_any a2 w (by omega)
                have c3 := allSpace_any a3 w (by omega)
                by_cases b0 : Pl.allSp a0.data.toList = true
                case neg =>
                  have b0f : Pl.allSp a0.data.toList = false := by simpa using b0
                  rw [b0f] at c0
                  clear hm hA b0 b0f
                  go_enter Try.func5, Try.ntmps5
                  go_wp2_with (go_at_call 11; refine cB.mono ?_; rintro e wa ⟨rfl, hwa⟩; replace hwa := hwa.symm; subst hwa)
                  refine c0.mono ?_
                  rintro e wa ⟨rfl, hwa⟩
                  replace hwa := hwa.symm
                  subst hwa
                  go_wp2
                  go_ret
                  exact ⟨rfl, Below.refl _ _⟩
                case pos =>
                  rw [b0] at c0
                  by_cases b2 : Pl.allSp a2.data.toList = true
                  case neg =>
                    have b2f : Pl.allSp a2.data.toList = false := by simpa using b2
                    rw [b2f] at c2
                    clear hm hA b2 b2f b0
                    go_enter Try.func5, Try.ntmps5
                    go_wp2_with (go_at_call 11; refine cB.mono ?_; rintro e wa ⟨rfl, hwa⟩; replace hwa := hwa.symm; subst hwa)
                    refine c0.mono ?_
                    rintro e wa ⟨rfl, hwa⟩
                    replace hwa := hwa.symm
                    subst hwa
                    go_wp2_with fail
                    refine c2.mono ?_
                    rintro e wa ⟨rfl, hwa⟩
                    replace hwa := hwa.symm
                    subst hwa
                    go_wp2
                    go_ret
                    exact ⟨rfl, Below.refl _ _⟩
                  case pos =>
                    rw [b2] at c2
                    by_cases b3 : Pl.allSp a3.data.toList = true
                    case neg =>
                      have b3f : Pl.allSp a3.data.toList = false := by simpa using b3
                      rw [b3f] at c3
                      clear hm hA b3 b3f b0 b2
                      go_enter Try.func5, Try.ntmps5
                      go_wp2_with (go_at_call 11; refine cB.mono ?_; rintro e wa ⟨rfl, hwa⟩; replace hwa := hwa.symm; subst hwa)
                      refine c0.mono ?_
                      rintro e wa ⟨rfl, hwa⟩
                      replace hwa := hwa.symm
                      subst hwa
                      go_wp2_with fail
                      refine c2.mono ?_
                      rintro e wa ⟨rfl, hwa⟩
                      replace hwa := hwa.symm
                      subst hwa
                      go_wp2_with fail
                      refine c3.mono ?_
                      rintro e wa ⟨rfl, hwa⟩
                      replace hwa := hwa.symm
                      subst hwa
                      go_wp2
                      go_ret
                      exact ⟨rfl, Below.refl _ _⟩
                    case pos =>
                      rw [b3] at c3
                      by_cases hN : a1.size = 0
                      case pos =>
                        cases a7 with
                        | false =>
                          cases a6 with
                          | false => exact main_none_free_sgl a0 a1 a2 a3 a4 a5 m w hm h0 hA g0 g1 g2 g3 g4 g5 b0 b2 b3 hN
                          | true => exact main_none_free_dbl a0 a1 a2 a3 a4 a5 m w hm h0 hA g0 g1 g2 g3 g4 g5 b0 b2 b3 hN
                        | true =>
                          by_cases hS : a0.size = 0
                          case neg =>
                            cases a6 with
                            | false => exact main_none_sp_sgl a0 a1 a2 a3 a4 a5 m w hm h0 hA g0 g1 g2 g3 g4 g5 b0 b2 b3 hN (by omega)
                            | true => exact main_none_sp_dbl a0 a1 a2 a3 a4 a5 m w hm h0 hA g0 g1 g2 g3 g4 g5 b0 b2 b3 hN (by omega)
                          case pos =>
                            have hpz : ((a0.size : Int) == 0) = true := beq_iff_eq.2 (by omega)
                            have hz : decide ((0 : Int) < (a1.size : Int)) = false := decide_eq_false (by omega)
                            clear hm hA b0 b2 b3 hS
                            go_enter Try.func5, Try.ntmps5
                            go_wp2_with (go_at_call 11; refine cB.mono ?_; rintro e wa ⟨rfl, hwa⟩; replace hwa := hwa.symm; subst hwa)
                            refine c0.mono ?_
                            rintro e wa ⟨rfl, hwa⟩
                            replace hwa := hwa.symm
                            subst hwa
                            go_wp2_with fail
                            refine c2.mono ?_
                            rintro e wa ⟨rfl, hwa⟩
                            replace hwa := hwa.symm
                            subst hwa
                            go_wp2_with fail
                            refine c3.mono ?_
                            rintro e wa ⟨rfl, hwa⟩
                            replace hwa := hwa.symm
                            subst hwa
                            go_wp2_with fail
                            go_wp2
                            go_ret
                            exact ⟨rfl, Below.refl _ _⟩
                      case neg =>
                        have hNp : 0 < a1.size := by omega
                        have cS := space_any a1[0] w
                        cases hsp : Pl.sp a1[0] with
                        | false =>
                          cases a7 with
                          | false =>
                            cases a6 with
                            | false => exact main_some_free_sgl a0 a1 a2 a3 a4 a5 m w hm h0 hA g0 g1 g2 g3 g4 g5 b0 b2 b3 hNp hsp
                            | true => exact main_some_free_dbl a0 a1 a2 a3 a4 a5 m w hm h0 hA g0 g1 g2 g3 g4 g5 b0 b2 b3 hNp hsp
                          | true =>
                            by_cases hS : a0.size = 0
                            case neg =>
                              cases a6 with
                              | false => exact main_some_sp_sgl a0 a1 a2 a3 a4 a5 m w hm h0 hA g0 g1 g2 g3 g4 g5 b0 b2 b3 hNp hsp (by omega)
                              | true => exact main_some_sp_dbl a0 a1 a2 a3 a4 a5 m w hm h0 hA g0 g1 g2 g3 g4 g5 b0 b2 b3 hNp hsp (by omega)
                            case pos =>
                              have hpz : ((a0.size : Int) == 0) = true := beq_iff_eq.2 (by omega)
                              have hpos : (0 : Int) < (a1.size : Int) := by omega
                              rw [hsp] at cS
                              clear hsp
                              clear hm hA b0 b2 b3 hS
                              go_enter Try.func5, Try.ntmps5
                              go_wp2_with (go_at_call 11; refine cB.mono ?_; rintro e wa ⟨rfl, hwa⟩; replace hwa := hwa.symm; subst hwa)
                              refine c0.mono ?_
                              rintro e wa ⟨rfl, hwa⟩
                              replace hwa := hwa.symm
                              subst hwa
                              go_wp2_with fail
                              refine c2.mono ?_
                              rintro e wa ⟨rfl, hwa⟩
                              replace hwa := hwa.symm
                              subst hwa
                              go_wp2_with fail
                              refine c3.mono ?_
                              rintro e wa ⟨rfl, hwa⟩
                              replace hwa := hwa.symm
                              subst hwa
                              go_wp2_with fail
                              refine cS.mono ?_
                              rintro e wa ⟨rfl, hwa⟩
                              replace hwa := hwa.symm
                              subst hwa
                              go_wp2
                              go_ret
                              exact ⟨rfl, Below.refl _ _⟩
                        | true =>
                          rw [hsp] at cS
                          clear hsp
                          have hpos : (0 : Int) < (a1.size : Int) := by omega
                          clear hm hA b0 b2 b3
                          go_enter Try.func5, Try.ntmps5
                          go_wp2_with (go_at_call 11; refine cB.mono ?_; rintro e wa ⟨rfl, hwa⟩; replace hwa := hwa.symm; subst hwa)
                          refine c0.mono ?_
                          rintro e wa ⟨rfl, hwa⟩
                          replace hwa := hwa.symm
                          subst hwa
                          go_wp2_with fail
                          refine c2.mono ?_
                          rintro e wa ⟨rfl, hwa⟩
                          replace hwa := hwa.symm
                          subst hwa
                          go_wp2_with fail
                          refine c3.mono ?_
                          rintro e wa ⟨rfl, hwa⟩
                          replace hwa := hwa.symm
                          subst hwa
                          go_wp2_with fail
                          refine cS.mono ?_
                          rintro e wa ⟨rfl, hwa⟩
                          replace hwa := hwa.symm
                          subst hwa
                          go_wp2
                          go_ret
                          exact ⟨rfl, Below.refl _ _⟩

/-! ### THE ROW's STEP -/
set_option maxRecDepth 100000 in
theorem lifted (os : Os) (started : os.Started) (H : Type) (enc : TypeId × Value → H) :
    ReturnsInHanded {} Try.checked os 5 .any (Rows.fnPseudoAttributeReadsWhatIsWrittenSpec.pre6 enc Try.prog Try.f5 Rows.fnPseudoAttributeReadsWhatIsWrittenRow.domain false) (Rows.fnPseudoAttributeReadsWhatIsWrittenSpec.post enc Try.prog Try.f5 false true false false) := by
  refine returnsInHanded_of_change_shaped (C := Try.checked) own started (by kernel_rfl) Try.func5
    (ChangeSpec.witness6 (enc := enc) (C := Try.checked) false ⟨#[], #[.string ByteArray.empty, .string ByteArray.empty, .string ByteArray.empty, .string ByteArray.empty, .string ByteArray.empty, .string ByteArray.empty, .bool false, .bool false], []⟩ 8 (by kernel_rfl) (by kernel_rfl) (by kernel_rfl) (by kernel_rfl)) ?_
  intro W base args ds gs before hval0 hW hcnd _ hsh _
  have hval : ∀ (j : Nat) t v, Try.f5.params[j]? = some t → args[j]? = some v → Value.okWide Try.prog W .any base t v := hval0
  have hW' := hW
  obtain ⟨p, q, hA0, hV, rfl, hfz, hnd⟩ := hW
  have hA : DataW.TrodAll enc Try.prog W 0 (fun _ => true) true Try.f5.params.toList args.toList ds p := hA0
  rw [Try.params5] at hA hval
  obtain ⟨v0, vs0, d0, ds0, p0, q0, hargs, rfl, rfl, h0, r0⟩ := trodAll_cons hA
  obtain ⟨v1, vs1, d1, ds1, p1, q1, rfl, rfl, rfl, h1, r1⟩ := trodAll_cons r0
  obtain ⟨v2, vs2, d2, ds2, p2, q2, rfl, rfl, rfl, h2, r2⟩ := trodAll_cons r1
  obtain ⟨v3, vs3, d3, ds3, p3, q3, rfl, rfl, rfl, h3, r3⟩ := trodAll_cons r2
  obtain ⟨v4, vs4, d4, ds4, p4, q4, rfl, rfl, rfl, h4, r4⟩ := trodAll_cons r3
  obtain ⟨v5, vs5, d5, ds5, p5, q5, rfl, rfl, rfl, h5, r5⟩ := trodAll_cons r4
  obtain ⟨v6, vs6, d6, ds6, p6, q6, rfl, rfl, rfl, h6, r6⟩ := trodAll_cons r5
  obtain ⟨v7, vs7, d7, ds7, p7, q7, rfl, rfl, rfl, h7, r7⟩ := trodAll_cons r6
  obtain ⟨rfl, rfl, rfl⟩ := trodAll_nil r7
  obtain rfl : args = #[v0, v1, v2, v3, v4, v5, v6, v7] := by cases args; simp_all
  obtain ⟨rfl, rfl⟩ := trodVars_none hV
  obtain ⟨a0, rfl, rfl, rfl, w0⟩ := open_string Try.underlying9 (hval 0 9 v0 rfl rfl) h0
  obtain ⟨a1, rfl, rfl, rfl, w1⟩ := open_string Try.underlying9 (hval 1 9 v1 rfl rfl) h1
  obtain ⟨a2, rfl, rfl, rfl, w2⟩ := open_string Try.underlying9 (hval 2 9 v2 rfl rfl) h2
  obtain ⟨a3, rfl, rfl, rfl, w3⟩ := open_string Try.underlying9 (hval 3 9 v3 rfl rfl) h3
  obtain ⟨a4, rfl, rfl, rfl, w4⟩ := open_string Try.underlying9 (hval 4 9 v4 rfl rfl) h4
  obtain ⟨a5, rfl, rfl, rfl, w5⟩ := open_string Try.underlying9 (hval 5 9 v5 rfl rfl) h5
  obtain ⟨a6, rfl, rfl, rfl⟩ := open_bool Try.underlying4 (hval 6 4 v6 rfl rfl) h6
  obtain ⟨a7, rfl, rfl, rfl⟩ := open_bool Try.underlying4 (hval 7 4 v7 rfl rfl) h7
  clear hA0 hval0
  simp only [List.append_nil] at hW'
  refine (walk a0 a1 a2 a3 a4 a5 a6 a7 w0 w1 w2 w3 w4 w5 W hsh).mono fun e W' ⟨he, bel⟩ => ?_
  subst he
  exact ⟨_, rfl, _, _, _, [], [], [], hW', (trodAll_cons_mk (shut_bool Try.underlying4 _) trodAll_mk0), (trodAll_cons_mk (shut_string Try.underlying9 w0) (trodAll_cons_mk (shut_string Try.underlying9 w1) (trodAll_cons_mk (shut_string Try.underlying9 w2) (trodAll_cons_mk (shut_string Try.underlying9 w3) (trodAll_cons_mk (shut_string Try.underlying9 w4) (trodAll_cons_mk (shut_string Try.underlying9 w5) (trodAll_cons_mk (shut_bool Try.underlying4 _) (trodAll_cons_mk (shut_bool Try.underlying4 _) trodAll_mk0)))))))), rfl, bel.frame _, fun h => by cases h⟩

theorem over : Rows.fnPseudoAttributeReadsWhatIsWrittenRow.holds Try.pinned (OpenSpec.ofChange Rows.fnPseudoAttributeReadsWhatIsWrittenSpec) :=
  OpenClaim.holds_of_wide 5 Try.f5 rfl rfl rfl rfl rfl rfl rfl ⟨rfl, rfl, rfl, rfl, rfl⟩ rfl rfl rfl rfl rfl named Try.func5 closed instd wrapd
    (fun os started H enc _ => lifted os started H enc)

/-- ████ THE STATEMENT ████ -/
theorem proved : Rows.FnPseudoAttributeReadsWhatIsWrittenSaid :=
  over
end Go.Proofs.Qxb6601675a.fnPseudoAttributeReadsWhatIsWritten
