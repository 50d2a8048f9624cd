/-
  FnPseudoAttributeSound (3): the ways of an answer and of a refusal, and the helpers.
-/
import Derived.Test.Qxb6601675aPseudo
import Derived.Test.Qxb6601675aSplit
namespace Go.Proofs.Qxb6601675a.fnPseudoAttributeSound
open Go.RowKit
theorem mk_list (a : ByteArray) : (⟨a.data.toList.toArray⟩ : ByteArray) = a := Lib.mk_data a

theorem size_of_cell {w : World} {v : Value} (h : w.cell? ⟨0, 0, none⟩ = some v) : 0 < w.heap.size := by
  rcases Nat.eq_zero_or_pos w.heap.size with e | e
  · have hn : w.heap[0]? = none := Array.getElem?_eq_none (by omega)
    unfold World.cell? at h
    rw [hn] at h
    simp at h
  · exact e

/-- ZZPseudoAttribute, said of byte arrays. -/
theorem zzPseudo_b (A B : ByteArray) (spaced : Bool) (m : Int) (w : World) (hm : w.cell? ⟨0, 0, none⟩ = some (.int .i64 m)) (h0 : 0 < w.heap.size) (hs : A.size ≤ 1048576) :
    Calls Try.prog 7 #[.string A, .string B, .bool spaced] w fun e w' => ∃ (v r : ByteArray) (ok : Bool), e = .returned (.tuple #[.string v, .string r, .bool ok]) ∧ Pl.psa A.data.toList B.data.toList spaced = (v.data.toList, r.data.toList, ok) ∧ Below w.heap.size w w' := by
  have c := zzPseudo_any A.data.toList B.data.toList spaced m w hm h0 (by rw [← size_list]; exact hs)
  rw [mk_list A, mk_list B] at c
  refine c.mono ?_
  rintro e w' ⟨v', r', ok', rfl, hp', hb⟩
  exact ⟨_, _, _, rfl, hp', hb⟩

theorem bytes6 (s name : ByteArray) (b : Bool) (w : World) (h1 : s.size ≤ maxLen) (h2 : name.size ≤ maxLen) :
    Calls Try.prog 6 #[.string s, .string name, .bool b] w fun e w' => e = .returned (.bool (decide (s.size + name.size ≤ 1048576))) ∧ w' = w := by
  unfold maxLen at h1 h2
  go_enter Try.func6, Try.ntmps6
  go_wp2
  all_goals
    go_ret
    exact ⟨ret_bool (by simp; omega), rfl⟩

theorem empty_of {v : ByteArray} (h : v.data.toList = []) : v = ⟨#[]⟩ := by
  rw [← mk_list v, h]
theorem same_of {v u : ByteArray} (h : v.data.toList = u.data.toList) : v = u := by
  rw [← mk_list v, h, mk_list u]

theorem int_of {c : UInt8} {n : Nat} (hn : n < 256) (h : c = UInt8.ofNat n) : (c.toNat : Int) = (n : Int) := by
  subst h
  rw [UInt8.toNat_ofNat', Nat.mod_eq_of_lt (by simpa using hn)]
theorem int_ne {c d : UInt8} {n : Nat} (hn : n < 256) (hd : d = UInt8.ofNat n) (h : c ≠ d) : ((c.toNat : Int) == (n : Int)) = false := by
  rw [beq_eq_false_iff_ne]
  intro e
  subst hd
  refine h (UInt8.toNat_inj.1 ?_)
  rw [UInt8.toNat_ofNat', Nat.mod_eq_of_lt (by simpa using hn)]
  omega

set_option maxHeartbeats 8000000 in
set_option maxRecDepth 100000 in
theorem yes_34 (S Nm : ByteArray) (spaced : Bool) (m : Int) (w : World) (hm : w.cell? ⟨0, 0, none⟩ = some (.int .i64 m)) (h0 : 0 < w.heap.size) (hA : S.size + Nm.size ≤ 1048576) (gS : S.size ≤ 524288) (gN : Nm.size ≤ 524288)
    (Vb Rb Pb Mb : ByteArray) (E E1 O O1 J K P PN : Nat) (hp : Pl.psa S.data.toList Nm.data.toList spaced = (Vb.data.toList, Rb.data.toList, true)) (X : Split S Nm Vb Rb Pb Mb spaced 34 E E1 O O1 J K P PN) :
    Calls Try.prog 3 #[.string S, .string Nm, .bool spaced] w fun e w' => e = .returned (.bool true) ∧ Below w.heap.size w w' := by
  have cB := bytes6 S Nm spaced w (by unfold maxLen; omega) (by unfold maxLen; omega)
  rw [decide_eq_true hA] at cB
  have d0 : decide ((524288 : Int) < (S.size : Int)) = false := decide_eq_false (by omega)
  have d1 : decide ((524288 : Int) < (Nm.size : Int)) = false := decide_eq_false (by omega)
  have cP : Calls Try.prog 7 #[.string S, .string Nm, .bool spaced] w fun e w' => e = .returned (.tuple #[.string Vb, .string Rb, .bool true]) ∧ Below w.heap.size w w' := by
    refine (zzPseudo_b S Nm spaced m w hm h0 (by omega)).mono ?_
    rintro e w' ⟨v, r, ok, rfl, hp', hb⟩
    rw [hp] at hp'
    simp only [Prod.mk.injEq] at hp'
    obtain ⟨e1, e2, rfl⟩ := hp'
    rw [same_of e1, same_of e2]
    exact ⟨rfl, hb⟩
  have hE := X.hE
  have hE1 := X.hE1
  have hO := X.hO
  have hO1 := X.hO1
  have hJ := X.hJ
  have hJO := X.hJO
  have hPN := X.hPN
  have hPK := X.hPK
  have iE1 : E1 < S.size := by omega
  have iO : O < S.size := by omega
  have iK : K < S.size := by omega
  have HX : Hid (Split S Nm Vb Rb Pb Mb spaced 34 E E1 O O1 J K P PN) := X
  have HS : Hid (E + Rb.size = S.size ∧ E1 + 1 = E ∧ O + 2 + Vb.size = E ∧ O + 1 = O1 ∧ K + 1 = J ∧ J ≤ O ∧ P + Nm.size = PN ∧ PN ≤ K) := ⟨hE, hE1, hO, hO1, hJ, hJO, hPN, hPK⟩
  have r1 : (S.size : Int) - (Rb.size : Int) = (E : Int) := by omega
  have r2 : (E : Int) - 1 = (E1 : Int) := by omega
  have r3 : (E : Int) - 2 - (Vb.size : Int) = (O : Int) := by omega
  have r4 : (O : Int) + 1 = (O1 : Int) := by omega
  have l1 : ¬ (S.size : Int) < (Rb.size : Int) + (Vb.size : Int) + 2 := by omega
  have d2 : decide ((S.size : Int) < (Rb.size : Int) + (Vb.size : Int) + 2) = false := decide_eq_false l1
  have b1 : (E : Int) ≤ (S.size : Int) := by omega
  have b2 : (E1 : Int) < (S.size : Int) := by omega
  have b3 : (O : Int) < (S.size : Int) := by omega
  have b4 : (O1 : Int) ≤ (E1 : Int) := by omega
  have b5 : (E1 : Int) ≤ (S.size : Int) := by omega
  have x1 := X.rest
  have x2 := X.val
  have q1 : (S[E1].toNat : Int) = 34 := int_of (n := 34) (by omega) (X.atE1 iE1)
  have q2 : (S[O].toNat : Int) = 34 := int_of (n := 34) (by omega) (X.atO iO)
  clear hE hE1 hO hO1 hJ hJO hPN hPK X hp hm
  go_enter Try.func3, Try.ntmps3
  go_wp2_with (go_at_call 6; refine cB.mono ?_; rintro e wa ⟨rfl, hwa⟩; replace hwa := hwa.symm; subst hwa)
  refine cP.mono ?_
  rintro e w1 ⟨rfl, hb⟩
  clear cB cP
  go_wp2_with fail
  clear r1 r2 r3 r4 l1 d2 b1 b2 b4 b5 x1 x2 q1 q2 d0 d1
  go_loop [13] (fun i => ∃ k : Nat, k ≤ Vb.size ∧ i = .int .i64 k) (fun i => Vb.size - (intOf i).toNat)
  case atStart => exact ⟨0, Nat.zero_le _, rfl⟩
  case round =>
    obtain ⟨k, hk, rfl⟩ := hrel
    have hvs : (Vb.size : Int) ≤ 1048576 := by have := HS.out; omega
    by_cases hlt : k < Vb.size
    · have hv : ((Vb[k].toNat : Int) == 34) = false := int_ne (n := 34) (by omega) rfl (HX.out.noq k hlt)
      go_wp2
      go_round
      case rel => exact ⟨k + 1, by omega, by go_num⟩
      case measure => simp [intOf]; omega
    · go_wp2
      go_loop [14] (fun i => ∃ j : Nat, J ≤ j ∧ j ≤ O ∧ i = .int .i64 j) (fun i => (intOf i).toNat)
      case atStart => exact ⟨O, by have := HS.out; omega, Nat.le_refl _, rfl⟩
      case round =>
        obtain ⟨j, hj1, hj2, rfl⟩ := hrel
        obtain ⟨i, hi⟩ : ∃ i, i + 1 = j := ⟨j - 1, by have := HS.out; omega⟩
        have hjp : (0 : Int) < (j : Int) := by omega
        have hji : (j : Int) - 1 = (i : Int) := by omega
        have hij : (i : Int) < (S.size : Int) := by omega
        have iS : i < S.size := by omega
        have cS := space_any S[i] w1
        by_cases hend : j = J
        · have hiK : i = K := by have := HS.out; omega
          have h61 : S[i] = 61 := by subst hiK; exact HX.out.atK iS
          have h61i : (S[i].toNat : Int) = 61 := int_of (n := 61) (by omega) h61
          have hsp : Pl.sp S[i] = false := by rw [h61]; decide
          rw [hsp, h61i] at cS
          have hjz : ((j : Int) == 0) = false := beq_eq_false_iff_ne.2 (by omega)
          have hpb : S.extract 0 i = Pb := by rw [hiK]; exact HX.out.pre
          have hps : Pb.size = i := by rw [hiK]; exact HX.out.preSize
          have HS2 : Hid (E + Rb.size = S.size ∧ E1 + 1 = E ∧ O + 2 + Vb.size = E ∧ O + 1 = O1 ∧ i + 1 = J ∧ J ≤ O ∧ P + Nm.size = PN ∧ PN ≤ i) := by
            rw [hiK]; exact HS.out
          have HI : Hid (i = K) := hiK
          clear hi hend hiK h61 hsp HS hj1 hj2
          go_wp2_with fail
          refine cS.mono ?_
          rintro e wa ⟨rfl, hwa⟩
          replace hwa := hwa.symm
          subst hwa
          clear cS
          go_wp2_with fail
          clear h61i hjz hji hpb hjp
          go_loop [16] (fun i => ∃ k : Nat, k ≤ P ∧ i = .int .i64 k) (fun i => P - (intOf i).toNat)
          case atStart => exact ⟨0, Nat.zero_le _, rfl⟩
          case round =>
            obtain ⟨p, hp, rfl⟩ := hrel
            by_cases hpl : p < P
            · have hpi : p < Pb.size := by have := HS2.out; omega
              have cS := space_any Pb[p] w1
              have hsp : Pl.sp Pb[p] = true := HX.out.spP p hpi hpl
              rw [hsp] at cS
              have hpI : (p : Int) < (i : Int) := by omega
              clear hsp
              go_wp2_with fail
              refine cS.mono ?_
              rintro e wa ⟨rfl, hwa⟩
              replace hwa := hwa.symm
              subst hwa
              clear cS
              go_wp2
              go_round
              case rel => exact ⟨p + 1, by omega, by go_num⟩
              case measure => simp [intOf]; omega
            · have hpP : p = P := by omega
              have hsub : decide ((i : Int) - (p : Int) < (Nm.size : Int)) = false := decide_eq_false (by have := HS2.out; omega)
              have hadd : (p : Int) + (Nm.size : Int) = (PN : Int) := by have := HS2.out; omega
              have hnm : Pb.extract p PN = Nm := by rw [hpP]; exact HX.out.nam
              have hmd : Pb.extract PN i = Mb := by rw [HI.out]; exact HX.out.mid
              have bp1 : (p : Int) ≤ (PN : Int) := by have := HS2.out; omega
              have bp2 : (PN : Int) ≤ (i : Int) := by have := HS2.out; omega
              have cM := allSpace_any Mb w1 (by rw [← hmd, ByteArray.size_extract]; omega)
              rw [HX.out.midSp] at cM
              have hspc : spaced = false ∨ (spaced = true ∧ ((p : Int) == 0) = false) := by
                cases spaced with
                | false => exact Or.inl rfl
                | true => exact Or.inr ⟨rfl, beq_eq_false_iff_ne.2 (by have := HX.out.spc rfl; omega)⟩
              have hgo : (decide (p < i) = false) ∨ (p < i ∧ ∃ h : p < Pb.size, Pl.sp Pb[p] = false) := by
                by_cases g : p < i
                · exact Or.inr ⟨g, by omega, by subst hpP; exact HX.out.nsP (by omega)⟩
                · exact Or.inl (decide_eq_false (by omega))
              clear hpP hpl hp
              rcases hgo with hgo | ⟨hgo, hpi, hsp⟩
              · rcases hspc with rfl | ⟨rfl, hspc⟩
                all_goals
                  go_wp2_with fail
                  refine cM.mono ?_
                  rintro e wa ⟨rfl, hwa⟩
                  replace hwa := hwa.symm
                  subst hwa
                  go_wp2
                  go_ret
                  exact ⟨rfl, hb⟩
              · have cS := space_any Pb[p] w1
                rw [hsp] at cS
                have hpI : (p : Int) < (i : Int) := by omega
                clear hsp
                rcases hspc with rfl | ⟨rfl, hspc⟩
                all_goals
                  go_wp2_with fail
                  refine cS.mono ?_
                  rintro e wa ⟨rfl, hwa⟩
                  replace hwa := hwa.symm
                  subst hwa
                  go_wp2_with fail
                  refine cM.mono ?_
                  rintro e wa ⟨rfl, hwa⟩
                  replace hwa := hwa.symm
                  subst hwa
                  go_wp2
                  go_ret
                  exact ⟨rfl, hb⟩
        · have hsp : Pl.sp S[i] = true := HX.out.post i iS (by omega) (by omega)
          rw [hsp] at cS
          clear hsp
          have HII : Hid (i + 1 = j) := hi
          have hJj : J < j := by omega
          clear hi hend
          go_wp2_with fail
          refine cS.mono ?_
          rintro e wa ⟨rfl, hwa⟩
          replace hwa := hwa.symm
          subst hwa
          clear cS
          go_wp2
          go_round
          case rel => exact ⟨i, by have := HII.out; have := HS.out; omega, by have := HII.out; omega, rfl⟩
          case measure => have := HII.out; simp [intOf]; omega

set_option maxHeartbeats 8000000 in
set_option maxRecDepth 100000 in
theorem yes_39 (S Nm : ByteArray) (spaced : Bool) (m : Int) (w : World) (hm : w.cell? ⟨0, 0, none⟩ = some (.int .i64 m)) (h0 : 0 < w.heap.size) (hA : S.size + Nm.size ≤ 1048576) (gS : S.size ≤ 524288) (gN : Nm.size ≤ 524288)
    (Vb Rb Pb Mb : ByteArray) (E E1 O O1 J K P PN : Nat) (hp : Pl.psa S.data.toList Nm.data.toList spaced = (Vb.data.toList, Rb.data.toList, true)) (X : Split S Nm Vb Rb Pb Mb spaced 39 E E1 O O1 J K P PN) :
    Calls Try.prog 3 #[.string S, .string Nm, .bool spaced] w fun e w' => e = .returned (.bool true) ∧ Below w.heap.size w w' := by
  have cB := bytes6 S Nm spaced w (by unfold maxLen; omega) (by unfold maxLen; omega)
  rw [decide_eq_true hA] at cB
  have d0 : decide ((524288 : Int) < (S.size : Int)) = false := decide_eq_false (by omega)
  have d1 : decide ((524288 : Int) < (Nm.size : Int)) = false := decide_eq_false (by omega)
  have cP : Calls Try.prog 7 #[.string S, .string Nm, .bool spaced] w fun e w' => e = .returned (.tuple #[.string Vb, .string Rb, .bool true]) ∧ Below w.heap.size w w' := by
    refine (zzPseudo_b S Nm spaced m w hm h0 (by omega)).mono ?_
    rintro e w' ⟨v, r, ok, rfl, hp', hb⟩
    rw [hp] at hp'
    simp only [Prod.mk.injEq] at hp'
    obtain ⟨e1, e2, rfl⟩ := hp'
    rw [same_of e1, same_of e2]
    exact ⟨rfl, hb⟩
  have hE := X.hE
  have hE1 := X.hE1
  have hO := X.hO
  have hO1 := X.hO1
  have hJ := X.hJ
  have hJO := X.hJO
  have hPN := X.hPN
  have hPK := X.hPK
  have iE1 : E1 < S.size := by omega
  have iO : O < S.size := by omega
  have iK : K < S.size := by omega
  have HX : Hid (Split S Nm Vb Rb Pb Mb spaced 39 E E1 O O1 J K P PN) := X
  have HS : Hid (E + Rb.size = S.size ∧ E1 + 1 = E ∧ O + 2 + Vb.size = E ∧ O + 1 = O1 ∧ K + 1 = J ∧ J ≤ O ∧ P + Nm.size = PN ∧ PN ≤ K) := ⟨hE, hE1, hO, hO1, hJ, hJO, hPN, hPK⟩
  have r1 : (S.size : Int) - (Rb.size : Int) = (E : Int) := by omega
  have r2 : (E : Int) - 1 = (E1 : Int) := by omega
  have r3 : (E : Int) - 2 - (Vb.size : Int) = (O : Int) := by omega
  have r4 : (O : Int) + 1 = (O1 : Int) := by omega
  have l1 : ¬ (S.size : Int) < (Rb.size : Int) + (Vb.size : Int) + 2 := by omega
  have d2 : decide ((S.size : Int) < (Rb.size : Int) + (Vb.size : Int) + 2) = false := decide_eq_false l1
  have b1 : (E : Int) ≤ (S.size : Int) := by omega
  have b2 : (E1 : Int) < (S.size : Int) := by omega
  have b3 : (O : Int) < (S.size : Int) := by omega
  have b4 : (O1 : Int) ≤ (E1 : Int) := by omega
  have b5 : (E1 : Int) ≤ (S.size : Int) := by omega
  have x1 := X.rest
  have x2 := X.val
  have q1 : (S[E1].toNat : Int) = 39 := int_of (n := 39) (by omega) (X.atE1 iE1)
  have q2 : (S[O].toNat : Int) = 39 := int_of (n := 39) (by omega) (X.atO iO)
  clear hE hE1 hO hO1 hJ hJO hPN hPK X hp hm
  go_enter Try.func3, Try.ntmps3
  go_wp2_with (go_at_call 6; refine cB.mono ?_; rintro e wa ⟨rfl, hwa⟩; replace hwa := hwa.symm; subst hwa)
  refine cP.mono ?_
  rintro e w1 ⟨rfl, hb⟩
  clear cB cP
  go_wp2_with fail
  clear r1 r2 r3 r4 l1 d2 b1 b2 b4 b5 x1 x2 q1 q2 d0 d1
  go_loop [13] (fun i => ∃ k : Nat, k ≤ Vb.size ∧ i = .int .i64 k) (fun i => Vb.size - (intOf i).toNat)
  case atStart => exact ⟨0, Nat.zero_le _, rfl⟩
  case round =>
    obtain ⟨k, hk, rfl⟩ := hrel
    have hvs : (Vb.size : Int) ≤ 1048576 := by have := HS.out; omega
    by_cases hlt : k < Vb.size
    · have hv : ((Vb[k].toNat : Int) == 39) = false := int_ne (n := 39) (by omega) rfl (HX.out.noq k hlt)
      go_wp2
      go_round
      case rel => exact ⟨k + 1, by omega, by go_num⟩
      case measure => simp [intOf]; omega
    · go_wp2
      go_loop [14] (fun i => ∃ j : Nat, J ≤ j ∧ j ≤ O ∧ i = .int .i64 j) (fun i => (intOf i).toNat)
      case atStart => exact ⟨O, by have := HS.out; omega, Nat.le_refl _, rfl⟩
      case round =>
        obtain ⟨j, hj1, hj2, rfl⟩ := hrel
        obtain ⟨i, hi⟩ : ∃ i, i + 1 = j := ⟨j - 1, by have := HS.out; omega⟩
        have hjp : (0 : Int) < (j : Int) := by omega
        have hji : (j : Int) - 1 = (i : Int) := by omega
        have hij : (i : Int) < (S.size : Int) := by omega
        have iS : i < S.size := by omega
        have cS := space_any S[i] w1
        by_cases hend : j = J
        · have hiK : i = K := by have := HS.out; omega
          have h61 : S[i] = 61 := by subst hiK; exact HX.out.atK iS
          have h61i : (S[i].toNat : Int) = 61 := int_of (n := 61) (by omega) h61
          have hsp : Pl.sp S[i] = false := by rw [h61]; decide
          rw [hsp, h61i] at cS
          have hjz : ((j : Int) == 0) = false := beq_eq_false_iff_ne.2 (by omega)
          have hpb : S.extract 0 i = Pb := by rw [hiK]; exact HX.out.pre
          have hps : Pb.size = i := by rw [hiK]; exact HX.out.preSize
          have HS2 : Hid (E + Rb.size = S.size ∧ E1 + 1 = E ∧ O + 2 + Vb.size = E ∧ O + 1 = O1 ∧ i + 1 = J ∧ J ≤ O ∧ P + Nm.size = PN ∧ PN ≤ i) := by
            rw [hiK]; exact HS.out
          have HI : Hid (i = K) := hiK
          clear hi hend hiK h61 hsp HS hj1 hj2
          go_wp2_with fail
          refine cS.mono ?_
          rintro e wa ⟨rfl, hwa⟩
          replace hwa := hwa.symm
          subst hwa
          clear cS
          go_wp2_with fail
          clear h61i hjz hji hpb hjp
          go_loop [16] (fun i => ∃ k : Nat, k ≤ P ∧ i = .int .i64 k) (fun i => P - (intOf i).toNat)
          case atStart => exact ⟨0, Nat.zero_le _, rfl⟩
          case round =>
            obtain ⟨p, hp, rfl⟩ := hrel
            by_cases hpl : p < P
            · have hpi : p < Pb.size := by have := HS2.out; omega
              have cS := space_any Pb[p] w1
              have hsp : Pl.sp Pb[p] = true := HX.out.spP p hpi hpl
              rw [hsp] at cS
              have hpI : (p : Int) < (i : Int) := by omega
              clear hsp
              go_wp2_with fail
              refine cS.mono ?_
              rintro e wa ⟨rfl, hwa⟩
              replace hwa := hwa.symm
              subst hwa
              clear cS
              go_wp2
              go_round
              case rel => exact ⟨p + 1, by omega, by go_num⟩
              case measure => simp [intOf]; omega
            · have hpP : p = P := by omega
              have hsub : decide ((i : Int) - (p : Int) < (Nm.size : Int)) = false := decide_eq_false (by have := HS2.out; omega)
              have hadd : (p : Int) + (Nm.size : Int) = (PN : Int) := by have := HS2.out; omega
              have hnm : Pb.extract p PN = Nm := by rw [hpP]; exact HX.out.nam
              have hmd : Pb.extract PN i = Mb := by rw [HI.out]; exact HX.out.mid
              have bp1 : (p : Int) ≤ (PN : Int) := by have := HS2.out; omega
              have bp2 : (PN : Int) ≤ (i : Int) := by have := HS2.out; omega
              have cM := allSpace_any Mb w1 (by rw [← hmd, ByteArray.size_extract]; omega)
              rw [HX.out.midSp] at cM
              have hspc : spaced = false ∨ (spaced = true ∧ ((p : Int) == 0) = false) := by
                cases spaced with
                | false => exact Or.inl rfl
                | true => exact Or.inr ⟨rfl, beq_eq_false_iff_ne.2 (by have := HX.out.spc rfl; omega)⟩
              have hgo : (decide (p < i) = false) ∨ (p < i ∧ ∃ h : p < Pb.size, Pl.sp Pb[p] = false) := by
                by_cases g : p < i
                · exact Or.inr ⟨g, by omega, by subst hpP; exact HX.out.nsP (by omega)⟩
                · exact Or.inl (decide_eq_false (by omega))
              clear hpP hpl hp
              rcases hgo with hgo | ⟨hgo, hpi, hsp⟩
              · rcases hspc with rfl | ⟨rfl, hspc⟩
                all_goals
                  go_wp2_with fail
                  refine cM.mono ?_
                  rintro e wa ⟨rfl, hwa⟩
                  replace hwa := hwa.symm
                  subst hwa
                  go_wp2
                  go_ret
                  exact ⟨rfl, hb⟩
              · have cS := space_any Pb[p] w1
                rw [hsp] at cS
                have hpI : (p : Int) < (i : Int) := by omega
                clear hsp
                rcases hspc with rfl | ⟨rfl, hspc⟩
                all_goals
                  go_wp2_with fail
                  refine cS.mono ?_
                  rintro e wa ⟨rfl, hwa⟩
                  replace hwa := hwa.symm
                  subst hwa
                  go_wp2_with fail
                  refine cM.mono ?_
                  rintro e wa ⟨rfl, hwa⟩
                  replace hwa := hwa.symm
                  subst hwa
                  go_wp2
                  go_ret
                  exact ⟨rfl, hb⟩
        · have hsp : Pl.sp S[i] = true := HX.out.post i iS (by omega) (by omega)
          rw [hsp] at cS
          clear hsp
          have HII : Hid (i + 1 = j) := hi
          have hJj : J < j := by omega
          clear hi hend
          go_wp2_with fail
          refine cS.mono ?_
          rintro e wa ⟨rfl, hwa⟩
          replace hwa := hwa.symm
          subst hwa
          clear cS
          go_wp2
          go_round
          case rel => exact ⟨i, by have := HII.out; have := HS.out; omega, by have := HII.out; omega, rfl⟩
          case measure => have := HII.out; simp [intOf]; omega

set_option maxHeartbeats 4000000 in
set_option maxRecDepth 100000 in
theorem refused (S Nm : ByteArray) (spaced : Bool) (m : Int) (w : World) (hm : w.cell? ⟨0, 0, none⟩ = some (.int .i64 m)) (h0 : 0 < w.heap.size) (hA : S.size + Nm.size ≤ 1048576) (gS : S.size ≤ 524288) (gN : Nm.size ≤ 524288)
    (hp : Pl.psa S.data.toList Nm.data.toList spaced = ([], S.data.toList, false)) :
    Calls Try.prog 3 #[.string S, .string Nm, .bool spaced] w fun e w' => e = .returned (.bool true) ∧ Below w.heap.size w w' := by
  have cB := bytes6 S Nm spaced w (by unfold maxLen; omega) (by unfold maxLen; omega)
  rw [decide_eq_true hA] at cB
  have d0 : decide ((524288 : Int) < (S.size : Int)) = false := decide_eq_false (by omega)
  have d1 : decide ((524288 : Int) < (Nm.size : Int)) = false := decide_eq_false (by omega)
  have cP : Calls Try.prog 7 #[.string S, .string Nm, .bool spaced] w fun e w' => e = .returned (.tuple #[.string ⟨#[]⟩, .string S, .bool false]) ∧ Below w.heap.size w w' := by
    refine (zzPseudo_b S Nm spaced m w hm h0 (by omega)).mono ?_
    rintro e w' ⟨v, r, ok, rfl, hp', hb⟩
    rw [hp] at hp'
    simp only [Prod.mk.injEq] at hp'
    obtain ⟨e1, e2, rfl⟩ := hp'
    rw [empty_of e1.symm, same_of e2.symm]
    exact ⟨rfl, hb⟩
  clear hp hm hA gS gN
  go_enter Try.func3, Try.ntmps3
  go_wp2_with (go_at_call 6; refine cB.mono ?_; rintro e wa ⟨rfl, hwa⟩; replace hwa := hwa.symm; subst hwa)
  refine cP.mono ?_
  rintro e w1 ⟨rfl, hb⟩
  go_wp2
  go_ret
  exact ⟨ret_bool (by simp), hb⟩

end Go.Proofs.Qxb6601675a.fnPseudoAttributeSound
