/-
  THE PROOF, in the frame that the guide's tool wrote for this function; the world behind the call told by 'Below'.
-/
import Derived.Test.Qxb6601675aRows
import Derived.WalkKit
import Derived.ProofKit
import Derived.OpenShut
import Derived.ShutString
import Derived.Below
import Derived.Test.Qxb6601675aSpacedFacts
import Derived.Test.Qxb6601675aPseudo
import Derived.HandedShaped
namespace Go.Proofs.Qxb6601675a.fnPseudoAttributeSpacedAgreement
open Go.ChangeShapes Go.WideShapes Go.ChangeAt Go.RowKit
open Go.ChangeMaps (open_string shut_string)
set_option linter.unusedVariables false      -- a walk need not use every 'w<i>' (that an integer argument fits its kind)

theorem own : ownKnob Try.prog.godebug = none := by kernel_rfl

theorem to_list (a : ByteArray) : ∃ l : List UInt8, a = ⟨l.toArray⟩ := ⟨a.data.toList, (Lib.mk_data a).symm⟩

theorem size_of_cell {w : World} {v : Value} (h : w.cell? ⟨0, 0, none⟩ = some v) : 0 < w.heap.size := by
  rcases Nat.eq_zero_or_pos w.heap.size with e | e
  · have hn : w.heap[0]? = none := Array.getElem?_eq_none (by omega)
    unfold World.cell? at h
    rw [hn] at h
    simp at h
  · exact e

/-! ### THE WALK -/
set_option maxHeartbeats 1000000 in
theorem walk (a0 : ByteArray) (a1 : ByteArray) (w0 : a0.size ≤ maxLen) (w1 : a1.size ≤ maxLen) (w : World) (hsh : w.ShapedOpen Try.prog) :
    Calls Try.prog 4 #[.string a0, .string a1] w fun e w' => e = .returned (.bool true) ∧ Below w.heap.size w w' := by
  obtain ⟨m, hm⟩ := Try.laysM145.s1_3 w hsh
  change w.cell? ⟨0, 0, none⟩ = some (.int .i64 m) at hm
  have h0 := size_of_cell hm
  have cB := bytes4 a0 a1 w w0 w1
  by_cases hA : a0.size + a1.size ≤ 1048576
  · rw [decide_eq_true hA] at cB
    by_cases hS : a0.size ≤ 524288
    · by_cases hN : a1.size ≤ 524288
      · have d0 : decide ((524288 : Int) < (a0.size : Int)) = false := decide_eq_false (by omega)
        have d1 : decide ((524288 : Int) < (a1.size : Int)) = false := decide_eq_false (by omega)
        obtain ⟨s, rfl⟩ := to_list a0
        obtain ⟨n, rfl⟩ := to_list a1
        have hs : s.length ≤ 524288 := hS
        change decide ((524288 : Int) < (s.length : Int)) = false at d0
        change decide ((524288 : Int) < (n.length : Int)) = false at d1
        have cT := zzPseudo_any s n true m w hm h0 (by omega)
        have cF := fun W hW hz => zzPseudo_any s n false m W hW hz (by omega)
        have HM : Hid (w.cell? ⟨0, 0, none⟩ = some (.int .i64 m)) := hm
        clear hm hsh hA hS hN w0 w1
        by_cases hz : s.length = 0
        · obtain rfl : s = [] := List.length_eq_zero_iff.1 hz
          have HP : Hid _ := Pl.psa_bare [] n (by simp)
          clear hz
          go_enter Try.func4, Try.ntmps4
          go_wp2_with (go_at_call 10; refine cB.mono ?_; rintro e w' ⟨rfl, rfl⟩)
          refine cT.mono ?_
          rintro e w1 ⟨v, r, ok, rfl, hp, hb⟩
          rw [HP.out] at hp
          simp only [Prod.mk.injEq] at hp
          obtain ⟨rfl, rfl, rfl⟩ := hp
          go_wp2
          go_ret
          exact ⟨ret_bool (by simp), hb⟩
        · have hpos : 0 < s.length := by omega
          have cS := space_any s[0]
          have hcons : s = s[0] :: s.drop 1 := by
            cases s with
            | nil => simp at hpos
            | cons c t => rfl
          cases hsp : Pl.sp s[0] with
          | false =>
            rw [hsp] at cS
            have HP : Hid _ := Pl.psa_bare s n (fun d u h => by rw [hcons] at h; injection h with h1 _; rw [← h1]; exact hsp)
            clear hsp hcons
            go_enter Try.func4, Try.ntmps4
            go_wp2_with (go_at_call 10; refine cB.mono ?_; rintro e w' ⟨rfl, rfl⟩)
            refine cT.mono ?_
            rintro e w1 ⟨v, r, ok, rfl, hp, hb⟩
            rw [HP.out] at hp
            simp only [Prod.mk.injEq] at hp
            obtain ⟨rfl, rfl, rfl⟩ := hp
            go_wp2_with fail
            refine (cS _).mono ?_
            rintro e w2 ⟨rfl, hw2⟩
            subst hw2
            go_wp2
            go_ret
            exact ⟨ret_bool (by simp), hb⟩
          | true =>
            rw [hsp] at cS
            have HP : Hid (Pl.psa s n true = Pl.psa s n false) := by
              have := Pl.psa_spaced s[0] (s.drop 1) n hsp
              rw [← hcons] at this
              exact this
            clear hsp hcons
            go_enter Try.func4, Try.ntmps4
            go_wp2_with (go_at_call 10; refine cB.mono ?_; rintro e w' ⟨rfl, rfl⟩)
            refine cT.mono ?_
            rintro e w1 ⟨v, r, ok, rfl, hp, hb⟩
            have HV : Hid (Pl.psa s n true = (v, r, ok)) := hp
            clear hp
            go_wp2_with fail
            refine (cS _).mono ?_
            rintro e w2 ⟨rfl, hw2⟩
            subst hw2
            go_wp2_with fail
            have hz2 := hb.size
            refine (cF _ ((hb.cell (p := ⟨0, 0, none⟩) h0).trans HM.out) (by omega)).mono ?_
            rintro e w3 ⟨v', r', ok', rfl, hp, hb3⟩
            rw [← HP.out, HV.out] at hp
            simp only [Prod.mk.injEq] at hp
            obtain ⟨rfl, rfl, rfl⟩ := hp
            go_wp2
            go_ret
            exact ⟨ret_bool (by simp), hb.trans (hb3.mono hz2)⟩
      · have d0 : decide ((524288 : Int) < (a0.size : Int)) = false := decide_eq_false (by omega)
        have d1 : decide ((524288 : Int) < (a1.size : Int)) = true := decide_eq_true (by omega)
        clear hA hS hN hm hsh
        go_enter Try.func4, Try.ntmps4
        go_wp2_with (go_at_call 10; refine cB.mono ?_; rintro e w' ⟨rfl, rfl⟩)
        go_ret
        exact ⟨rfl, Below.refl _ _⟩
    · have d0 : decide ((524288 : Int) < (a0.size : Int)) = true := decide_eq_true (by omega)
      clear hA hS hm hsh
      go_enter Try.func4, Try.ntmps4
      go_wp2_with (go_at_call 10; refine cB.mono ?_; rintro e w' ⟨rfl, rfl⟩)
      go_ret
      exact ⟨rfl, Below.refl _ _⟩
  · rw [decide_eq_false hA] at cB
    go_enter Try.func4, Try.ntmps4
    go_wp2_with (go_at_call 10; refine cB.mono ?_; rintro e w' ⟨rfl, rfl⟩)
    go_ret
    exact ⟨rfl, Below.refl _ _⟩

/-! ### THE ROW's STEP -/
set_option maxRecDepth 100000 in
theorem lifted (os : Os) (started : os.Started) (H : Type) (enc : TypeId × Value → H) :
    ReturnsInHanded {} Try.checked os 4 .any (Rows.fnPseudoAttributeSpacedAgreementSpec.pre6 enc Try.prog Try.f4 Rows.fnPseudoAttributeSpacedAgreementRow.domain false) (Rows.fnPseudoAttributeSpacedAgreementSpec.post enc Try.prog Try.f4 false true false false) := by
  refine returnsInHanded_of_change_shaped (C := Try.checked) own started (by kernel_rfl) Try.func4
    (ChangeSpec.witness6 (enc := enc) (C := Try.checked) false ⟨#[], #[.string ByteArray.empty, .string ByteArray.empty], []⟩ 8 (by kernel_rfl) (by kernel_rfl) (by kernel_rfl) (by kernel_rfl)) ?_
  intro W base args ds gs before hval0 hW hcnd _ hsh _
  have hval : ∀ (j : Nat) t v, Try.f4.params[j]? = some t → args[j]? = some v → Value.okWide Try.prog W .any base t v := hval0
  have hW' := hW
  obtain ⟨p, q, hA0, hV, rfl, hfz, hnd⟩ := hW
  have hA : DataW.TrodAll enc Try.prog W 0 (fun _ => true) true Try.f4.params.toList args.toList ds p := hA0
  rw [Try.params4] at hA hval
  obtain ⟨v0, vs0, d0, ds0, p0, q0, hargs, rfl, rfl, h0, r0⟩ := trodAll_cons hA
  obtain ⟨v1, vs1, d1, ds1, p1, q1, rfl, rfl, rfl, h1, r1⟩ := trodAll_cons r0
  obtain ⟨rfl, rfl, rfl⟩ := trodAll_nil r1
  obtain rfl : args = #[v0, v1] := by cases args; simp_all
  obtain ⟨rfl, rfl⟩ := trodVars_none hV
  obtain ⟨a0, rfl, rfl, rfl, w0⟩ := open_string Try.underlying9 (hval 0 9 v0 rfl rfl) h0
  obtain ⟨a1, rfl, rfl, rfl, w1⟩ := open_string Try.underlying9 (hval 1 9 v1 rfl rfl) h1
  clear hA0 hval0
  simp only [List.append_nil] at hW'
  refine (walk a0 a1 w0 w1 W hsh).mono fun e W' ⟨he, bel⟩ => ?_
  subst he
  exact ⟨_, rfl, _, _, _, [], [], [], hW', (trodAll_cons_mk (shut_bool Try.underlying4 _) trodAll_mk0), (trodAll_cons_mk (shut_string Try.underlying9 w0) (trodAll_cons_mk (shut_string Try.underlying9 w1) trodAll_mk0)), rfl, bel.frame _, fun h => by cases h⟩

theorem over : Rows.fnPseudoAttributeSpacedAgreementRow.holds Try.pinned (OpenSpec.ofChange Rows.fnPseudoAttributeSpacedAgreementSpec) :=
  OpenClaim.holds_of_wide 4 Try.f4 rfl rfl rfl rfl rfl rfl rfl ⟨rfl, rfl, rfl, rfl, rfl⟩ rfl rfl rfl rfl rfl named Try.func4 closed instd wrapd
    (fun os started H enc _ => lifted os started H enc)

/-- ████ THE STATEMENT ████ -/
theorem proved : Rows.FnPseudoAttributeSpacedAgreementSaid :=
  over
end Go.Proofs.Qxb6601675a.fnPseudoAttributeSpacedAgreement
