/-
  THE WALK OF pseudoAttribute (12) AND ZZPseudoAttribute (7).
-/
import Derived.Test.Qxb6601675aSmall
import Derived.Test.Qxb6601675aShelf
import Derived.Test.Qxb6601675aTrim
import Derived.Deep.QuietTactic
import Derived.BigQuiet
namespace Go.Proofs.Qxb6601675a
open Go.RowKit

theorem spI_spR (x : Nat) : spI (x : Int) = spR x := by
  unfold spI spR
  rw [Bool.eq_iff_iff]
  simp
  omega

theorem xml_pays (w : World) : PredAtRunes Try.prog 14 #[] spR w := fun W x _ _ => by
  unfold FnGives
  refine (xml_int (x : Int) W).mono ?_
  rintro e w' ⟨rfl, rfl⟩
  rw [spI_spR]
  exact ⟨rfl, 0, rfl⟩

theorem trim_any (l : List UInt8) (w : World) :
    Calls Try.prog 13 #[.string ⟨l.toArray⟩, .func (.func 14) #[] #[]] w fun e w' => ∃ l', e = .returned (.string ⟨l'.toArray⟩) ∧ l' = l.dropWhile Pl.sp ∧ Below w.heap.size w w' := by
  refine (Try.strings_TrimLeftFunc_runes 14 #[] (enters_of Try.func14 (by kernel_rfl) rfl) spR ⟨l.toArray⟩ w (xml_pays w)).mono ?_
  rintro e w' ⟨rfl, hb⟩
  exact ⟨_, congrArg Ending.returned (congrArg Value.string (trimLeft_sp _)), rfl, hb⟩

theorem prefix_any (l p : List UInt8) (w : World) :
    Calls Try.prog 15 #[.string ⟨l.toArray⟩, .string ⟨p.toArray⟩] w fun e w' => ∃ l', e = .returned (.tuple #[.string ⟨l'.toArray⟩, .bool (p.isPrefixOf l)]) ∧ (p.isPrefixOf l = true → l' = l.drop p.length) ∧ l'.length ≤ l.length ∧ w' = w := by
  refine (Try.strings_CutPrefix ⟨l.toArray⟩ ⟨p.toArray⟩ w).mono ?_
  rintro e w' ⟨rfl, rfl⟩
  refine ⟨_, rfl, ?_, ?_, rfl⟩
  · intro h
    show Lib.trimPrefix l p = _
    unfold Lib.trimPrefix Lib.hasPrefix
    rw [if_pos h]
  · show (Lib.trimPrefix l p).length ≤ l.length
    unfold Lib.trimPrefix
    split
    · rw [List.length_drop]; omega
    · exact Nat.le_refl _

theorem has_any (l p : List UInt8) (w : World) :
    Calls Try.prog 16 #[.string ⟨l.toArray⟩, .string ⟨p.toArray⟩] w fun e w' => e = .returned (.bool (p.isPrefixOf l)) ∧ w' = w :=
  Try.strings_HasPrefix ⟨l.toArray⟩ ⟨p.toArray⟩ w

theorem cutq_any (l : List UInt8) (q : UInt8) (m : Int) (w : World) (hs : l.length < 4294967281) (hm : w.cell? ⟨0, 0, none⟩ = some (.int .i64 m)) :
    Calls Try.prog 17 #[.string ⟨l.toArray⟩, .string ⟨[q].toArray⟩] w fun e w' => e = .returned (.tuple #[.string ⟨(Pl.cutq q l).1.toArray⟩, .string ⟨(Pl.cutq q l).2.1.toArray⟩, .bool (Pl.cutq q l).2.2]) ∧ ∃ n, w' = w.drewN n := by
  have h := Try.strings_Cut ⟨l.toArray⟩ ⟨[q].toArray⟩ m w hs hm
  have e : Lib.cut (⟨l.toArray⟩ : ByteArray).data.toList (⟨[q].toArray⟩ : ByteArray).data.toList = Pl.cutq q l := cut_one q l
  rw [e] at h
  exact h

/-- The three results as one value. -/
def psaV (x : List UInt8 × List UInt8 × Bool) : Value := .tuple #[.string ⟨x.1.toArray⟩, .string ⟨x.2.1.toArray⟩, .bool x.2.2]

theorem ret_psa {x : List UInt8 × List UInt8 × Bool} {s : List UInt8} (h : x = ([], s, false)) : Ending.returned (.tuple #[.string ⟨#[]⟩, .string ⟨s.toArray⟩, .bool false]) = .returned (psaV x) := by
  rw [h]; rfl

theorem ext_tail (q : UInt8) (t : List UInt8) : (⟨(q :: t).toArray⟩ : ByteArray).extract 1 (⟨(q :: t).toArray⟩ : ByteArray).size = ⟨t.toArray⟩ := by
  rw [Lib.extract_eq]
  congr 2
  show ((q :: t).drop 1).take ((q :: t).length - 1) = t
  simp

theorem ext_head (q : UInt8) (t : List UInt8) : (⟨(q :: t).toArray⟩ : ByteArray).extract 0 1 = ⟨[q].toArray⟩ := by
  rw [Lib.extract_eq]
  rfl

set_option maxHeartbeats 4000000 in
theorem pseudo_any (s name : List UInt8) (spaced : Bool) (m : Int) (w : World) (hm : w.cell? ⟨0, 0, none⟩ = some (.int .i64 m)) (h0 : 0 < w.heap.size) (hs : s.length ≤ 1048576) :
    Calls Try.prog 12 #[.string ⟨s.toArray⟩, .string ⟨name.toArray⟩, .bool spaced] w fun e w' => e = .returned (psaV (Pl.psa s name spaced)) ∧ Below w.heap.size w w' := by
  have HM : Hid (w.cell? ⟨0, 0, none⟩ = some (.int .i64 m)) := hm
  clear hm
  go_enter Try.func12, Try.ntmps12
  go_wp2_with fail
  refine (trim_any s _).mono ?_
  rintro e w1 ⟨l1, rfl, e1, hb1⟩
  have hl1 : l1.length ≤ s.length := by rw [e1]; exact Pl.dw_len _ _
  by_cases hA : spaced = true ∧ l1.length = s.length
  · obtain ⟨rfl, hlen⟩ := hA
    have hP := Pl.psa_len s name (by rw [← e1]; exact hlen)
    have HP : Hid _ := hP
    have hq : ((l1.length : Int) == (s.length : Int)) = true := beq_iff_eq.2 (by omega)
    clear e1 hP hlen
    go_wp2
    go_ret3
    exact ⟨ret_psa HP.out, hb1⟩
  · have hg : spaced = true → (s.dropWhile Pl.sp).length ≠ s.length := fun h1 h2 => hA ⟨h1, by rw [e1]; exact h2⟩
    have HPre : Hid (name.isPrefixOf (s.dropWhile Pl.sp) = false → Pl.psa s name spaced = ([], s, false)) := Pl.psa_pre s name spaced hg
    have HVal : Hid (name.isPrefixOf (s.dropWhile Pl.sp) = true → Pl.psa s name spaced = Pl.psaVal s ((s.dropWhile Pl.sp).drop name.length)) := Pl.psa_val s name spaced hg
    have E1 : Hid (l1 = s.dropWhile Pl.sp) := e1
    have hq : spaced = false ∨ (spaced = true ∧ ((l1.length : Int) == (s.length : Int)) = false) := by
      cases spaced with
      | false => exact Or.inl rfl
      | true => exact Or.inr ⟨rfl, beq_eq_false_iff_ne.2 (fun h => hA ⟨rfl, by omega⟩)⟩
    clear e1 hg hA
    rcases hq with rfl | ⟨rfl, hq⟩
    all_goals
      go_wp2_with fail
      have cP := prefix_any l1 name w1
      cases hp : name.isPrefixOf l1 with
      | false =>
        rw [hp] at cP
        have HP : Hid _ := HPre.out (by rw [← E1.out]; exact hp)
        clear hp
        refine cP.mono ?_
        rintro e w2 ⟨l2, rfl, _, _, hw2⟩
        subst hw2
        go_wp2
        go_ret3
        exact ⟨ret_psa HP.out, hb1⟩
      | true =>
        rw [hp] at cP
        have HP : Hid _ := HVal.out (by rw [← E1.out]; exact hp)
        clear hp
        refine cP.mono ?_
        rintro e w2 ⟨l2, rfl, e2, hl2, hw2⟩
        subst hw2
        have E2 : Hid (l2 = l1.drop name.length) := e2 rfl
        clear e2 cP HPre HVal
        go_wp2_with fail
        refine (trim_any l2 _).mono ?_
        rintro e w3 ⟨l3, rfl, e3, hb3⟩
        have hl3 : l3.length ≤ l2.length := by rw [e3]; exact Pl.dw_len _ _
        have E3 : Hid (l3 = l2.dropWhile Pl.sp) := e3
        have hz1 := hb1.size
        have hB3 : Below w.heap.size w w3 := hb1.trans (hb3.mono hz1)
        clear e3 hb1 hb3
        go_wp2_with fail
        have cQ := prefix_any l3 [61] w3
        cases hq1 : ([61] : List UInt8).isPrefixOf l3 with
        | false =>
          rw [hq1] at cQ
          have HV : Hid _ := Pl.psaVal_no1 s l2 (by rw [← E3.out]; exact hq1)
          clear hq1
          refine cQ.mono ?_
          rintro e w4 ⟨l4, rfl, _, _, hw4⟩
          subst hw4
          go_wp2
          go_ret3
          exact ⟨ret_psa (by rw [HP.out, ← E1.out, ← E2.out, HV.out]), hB3⟩
        | true =>
          rw [hq1] at cQ
          have HV : Hid _ := Pl.psaVal_q s l2 (by rw [← E3.out]; exact hq1)
          clear hq1
          refine cQ.mono ?_
          rintro e w4 ⟨l4, rfl, e4, hl4, hw4⟩
          subst hw4
          have E4 : Hid (l4 = l3.drop 1) := e4 rfl
          clear e4 cQ
          go_wp2_with fail
          refine (trim_any l4 _).mono ?_
          rintro e w5 ⟨l5, rfl, e5, hb5⟩
          have hl5 : l5.length ≤ l4.length := by rw [e5]; exact Pl.dw_len _ _
          have E5 : Hid (l5 = l4.dropWhile Pl.sp) := e5
          have hz3 := hB3.size
          have hB5 : Below w.heap.size w w5 := hB3.trans (hb5.mono hz3)
          have HPQ : Hid _ := HP.out.trans (show Pl.psaVal s ((s.dropWhile Pl.sp).drop name.length) = Pl.psaQ s l5 by rw [← E1.out, ← E2.out, HV.out, ← E3.out, ← E4.out, ← E5.out])
          have HM5 : Hid (w5.cell? ⟨0, 0, none⟩ = some (.int .i64 m)) := (hB5.cell (p := ⟨0, 0, none⟩) h0).trans HM.out
          clear e5 hB3 hb5
          clear HP HV E1 E2 E3 E4 E5 HM
          have cD := has_any l5 [34] w5
          go_wp2_with fail
          cases h34 : ([34] : List UInt8).isPrefixOf l5 with
          | true =>
            rw [h34] at cD
            obtain ⟨t, ht⟩ := Pl.pre_cons 34 l5 h34
            have HY : Hid ((Pl.cutq 34 t).2.2 = true → Pl.psaQ s l5 = Pl.cutq 34 t) := fun h => by rw [ht]; exact Pl.psaQ_yes s t 34 (Or.inl rfl) h
            have HN : Hid ((Pl.cutq 34 t).2.2 = false → Pl.psaQ s l5 = ([], s, false)) := fun h => by rw [ht]; exact Pl.psaQ_cut s t 34 (Or.inl rfl) h
            have cC := fun W hW => cutq_any t 34 m W (by have := congrArg List.length ht; rw [List.length_cons] at this; omega) hW
            have hBs : (1 : Int) ≤ ((⟨l5.toArray⟩ : ByteArray).size : Int) := by
              show (1 : Int) ≤ (l5.length : Int)
              rw [ht, List.length_cons]; omega
            rw [← ext_tail 34 t, ← ext_head 34 t, ← ht] at cC
            clear h34 ht
            generalize Pl.cutq 34 t = c at HY HN cC
            obtain ⟨v, r, ok⟩ := c
            generalize (⟨l5.toArray⟩ : ByteArray) = B at *
            refine cD.mono ?_
            rintro e w6 ⟨rfl, hw6⟩
            subst hw6
            clear cD
            go_wp2_with fail
            go_quiet ((go_at_call 17; exact Calls.quiet_of (cC _ HM5.out)))
            cases ok with
            | true =>
              have HR : Hid _ := HY.out rfl
              clear HY HN cC
              go_wp2
              go_ret3
              exact ⟨by rw [HPQ.out, HR.out]; rfl, below_drewN' hB5 _⟩
            | false =>
              have HR : Hid _ := HN.out rfl
              clear HY HN cC
              go_wp2
              go_ret3
              exact ⟨ret_psa (by rw [HPQ.out, HR.out]), below_drewN' hB5 _⟩
          | false =>
            rw [h34] at cD
            have cS := has_any l5 [39] w5
            refine cD.mono ?_
            rintro e w6 ⟨rfl, hw6⟩
            subst hw6
            clear cD
            go_wp2_with fail
            cases h39 : ([39] : List UInt8).isPrefixOf l5 with
            | false =>
              rw [h39] at cS
              have HN : Hid _ := Pl.psaQ_no s l5 h34 h39
              clear h34 h39
              refine cS.mono ?_
              rintro e w7 ⟨rfl, hw7⟩
              subst hw7
              clear cS
              go_wp2
              go_ret3
              exact ⟨ret_psa (by rw [HPQ.out, HN.out]), hB5⟩
            | true =>
              rw [h39] at cS
              clear h34
              obtain ⟨t, ht⟩ := Pl.pre_cons 39 l5 h39
              have HY : Hid ((Pl.cutq 39 t).2.2 = true → Pl.psaQ s l5 = Pl.cutq 39 t) := fun h => by rw [ht]; exact Pl.psaQ_yes s t 39 (Or.inr rfl) h
              have HN : Hid ((Pl.cutq 39 t).2.2 = false → Pl.psaQ s l5 = ([], s, false)) := fun h => by rw [ht]; exact Pl.psaQ_cut s t 39 (Or.inr rfl) h
              have cC := fun W hW => cutq_any t 39 m W (by have := congrArg List.length ht; rw [List.length_cons] at this; omega) hW
              have hBs : (1 : Int) ≤ ((⟨l5.toArray⟩ : ByteArray).size : Int) := by
                show (1 : Int) ≤ (l5.length : Int)
                rw [ht, List.length_cons]; omega
              rw [← ext_tail 39 t, ← ext_head 39 t, ← ht] at cC
              clear h39 ht
              generalize Pl.cutq 39 t = c at HY HN cC
              obtain ⟨v, r, ok⟩ := c
              generalize (⟨l5.toArray⟩ : ByteArray) = B at *
              refine cS.mono ?_
              rintro e w7 ⟨rfl, hw7⟩
              subst hw7
              clear cS
              go_wp2_with fail
              go_quiet ((go_at_call 17; exact Calls.quiet_of (cC _ HM5.out)))
              cases ok with
              | true =>
                have HR : Hid _ := HY.out rfl
                clear HY HN cC
                go_wp2
                go_ret3
                exact ⟨by rw [HPQ.out, HR.out]; rfl, below_drewN' hB5 _⟩
              | false =>
                have HR : Hid _ := HN.out rfl
                clear HY HN cC
                go_wp2
                go_ret3
                exact ⟨ret_psa (by rw [HPQ.out, HR.out]), below_drewN' hB5 _⟩

theorem zzPseudo_any (s name : List UInt8) (spaced : Bool) (m : Int) (w : World) (hm : w.cell? ⟨0, 0, none⟩ = some (.int .i64 m)) (h0 : 0 < w.heap.size) (hs : s.length ≤ 1048576) :
    Calls Try.prog 7 #[.string ⟨s.toArray⟩, .string ⟨name.toArray⟩, .bool spaced] w fun e w' => ∃ v r ok, e = .returned (.tuple #[.string ⟨v.toArray⟩, .string ⟨r.toArray⟩, .bool ok]) ∧ Pl.psa s name spaced = (v, r, ok) ∧ Below w.heap.size w w' := by
  have c := pseudo_any s name spaced m w hm h0 hs
  unfold psaV at c
  generalize Pl.psa s name spaced = x at c
  obtain ⟨v, r, ok⟩ := x
  clear hm
  go_enter Try.func7, Try.ntmps7
  go_wp2_with (go_at_call 12; refine c.mono ?_; rintro e w' ⟨rfl, hb⟩)
  go_ret3
  exact ⟨v, r, ok, rfl, rfl, hb⟩
end Go.Proofs.Qxb6601675a
