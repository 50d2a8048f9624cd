/-
  THE PROOF, in the frame that the guide's tool wrote for this function; the world behind the call told by 'Below'.
-/
import Derived.Test.Qxb6602120aRows
import Derived.WalkKit
import Derived.ProofKit
import Derived.OpenShut
import Derived.ShutString
import Derived.Below
import Derived.Test.Qxb6602120aPrefixFacts
import Derived.Test.Qxb6602120aMisp
import Derived.HandedShaped
namespace Go.Proofs.Qxb6602120a.fnSchemeBracketIgnoresPrefixBeforeColon
open Go.ChangeShapes Go.WideShapes Go.ChangeAt Go.RowKit
open Go.ChangeMaps (open_string shut_string)
set_option linter.unusedVariables false      -- a walk need not use every 'w<i>' (that an integer argument fits its kind)

theorem own : ownKnob Try.prog.godebug = none := by kernel_rfl

theorem mem_take {l : List UInt8} {c : UInt8} {s : ByteArray} {k : Nat} (hk : k < s.size) (hl : l = s.data.toList) (h : c ∉ l.take k) (hc : s[k] ≠ c) : c ∉ l.take (k + 1) := by
  subst hl
  rw [List.take_succ_eq_append_getElem (by rw [← size_list]; exact hk)]
  intro hm
  rcases List.mem_append.1 hm with h' | h'
  · exact h h'
  · rw [List.mem_singleton] at h'
    exact hc h'.symm

theorem ne_of_int {c : UInt8} {n : Nat} (hn : n < 256) (h : ((c.toNat : Int) == (n : Int)) = false) : c ≠ UInt8.ofNat n := by
  rintro rfl
  rw [UInt8.toNat_ofNat', Nat.mod_eq_of_lt (by simpa using hn)] at h
  simp at h

theorem app_list (a b : ByteArray) : (a ++ b).data.toList = a.data.toList ++ b.data.toList := by
  rw [ByteArray.data_append, Array.toList_append]

theorem scan_lt : ∀ (l : List UInt8) (nx op : Int) (i : Nat), op < i → Pl.scan nx op i l < (i : Int) + l.length ∨ Pl.scan nx op i l = -1
  | [], nx, op, i, h => by
    unfold Pl.scan
    split
    · left; simp; omega
    · right; rfl
  | c :: l, nx, op, i, h => by
    unfold Pl.scan
    split
    · rcases scan_lt l nx op (i + 1) (by omega) with g | g
      · left; rw [List.length_cons]; omega
      · right; exact g
    · split
      · rcases scan_lt l (Pl.brk c + 1) i (i + 1) (by omega) with g | g
        · left; rw [List.length_cons]; omega
        · right; exact g
      · left; rw [List.length_cons]; omega

theorem misp_lt (s : ByteArray) : Pl.misp s.data.toList < (s.size : Int) + 1 := by
  unfold Pl.misp
  split
  · omega
  · split
    · omega
    · have h1 := indexByte_lt s.data.toList 58
      rw [← size_list] at h1
      rcases scan_lt (s.data.toList.drop ((Lib.indexByte s.data.toList 58).toNat + 1)) 0 (-1) ((Lib.indexByte s.data.toList 58).toNat + 1) (by omega) with g | g
      · rw [List.length_drop, ← size_list] at g
        omega
      · omega

/-! ### THE WALK -/
set_option maxHeartbeats 1000000 in
theorem walk (a0 : ByteArray) (a1 : ByteArray) (w0 : a0.size ≤ maxLen) (w1 : a1.size ≤ maxLen) (w : World) (hsh : w.ShapedOpen Try.prog) :
    Calls Try.prog 7 #[.string a0, .string a1] w fun e w' => e = .returned (.bool true) ∧ Below w.heap.size w w' := by
  by_cases h0 : a0.size + a1.size ≤ 1048576
  · have cB := bytes21 a0 a1 w w0 w1
    rw [decide_eq_true h0] at cB
    have hs0 : ¬ (1048576 : Int) < (a0.size : Int) := by omega
    have hs1 : ¬ (1048576 : Int) < (a1.size : Int) := by omega
    have hs2 : ¬ (1048576 : Int) < (a0.size : Int) + (a1.size : Int) := by omega
    have d0 : decide ((1048576 : Int) < (a0.size : Int)) = false := decide_eq_false hs0
    have d1 : decide ((1048576 : Int) < (a1.size : Int)) = false := decide_eq_false hs1
    have d2 : decide ((1048576 : Int) < (a0.size : Int) + (a1.size : Int)) = false := decide_eq_false hs2
    have HSH : Hid (w.ShapedOpen Try.prog) := hsh
    clear hsh
    go_enter Try.func7, Try.ntmps7
    go_wp2_with (go_at_call 21; refine cB.mono ?_; rintro e w' ⟨rfl, hw⟩; subst hw)
    clear cB
    go_loop [5] (fun i => ∃ k : Nat, k ≤ a0.size ∧ i = .int .i64 k ∧ (58 : UInt8) ∉ a0.data.toList.take k ∧ (36 : UInt8) ∉ a0.data.toList.take k) (fun i => a0.size - (intOf i).toNat)
    case atStart => exact ⟨0, Nat.zero_le _, rfl, by simp, by simp⟩
    case round =>
      obtain ⟨k, hk, rfl, hn1, hn2⟩ := hrel
      have H1 : Hid ((58 : UInt8) ∉ a0.data.toList.take k) := hn1
      have H2 : Hid ((36 : UInt8) ∉ a0.data.toList.take k) := hn2
      clear hn1 hn2
      by_cases hlt : k < a0.size
      · cases hc : ((a0[k].toNat : Int) == 58) with
        | true =>
          go_wp2
          go_ret
          exact ⟨rfl, Below.refl _ _⟩
        | false =>
          cases hd : ((a0[k].toNat : Int) == 36) with
          | true =>
            go_wp2
            go_ret
            exact ⟨rfl, Below.refl _ _⟩
          | false =>
            have HC : Hid (a0[k] ≠ 58) := ne_of_int (n := 58) (by omega) hc
            have HD : Hid (a0[k] ≠ 36) := ne_of_int (n := 36) (by omega) hd
            go_wp2
            go_round
            case rel => exact ⟨k + 1, by omega, by go_num, mem_take hlt rfl H1.out HC.out, mem_take hlt rfl H2.out HD.out⟩
            case measure => simp [intOf]; omega
      · go_wp2_with fail
        have hP : Pl.misp (a0 ++ a1).data.toList = if Pl.misp a1.data.toList < 0 then -1 else Pl.misp a1.data.toList + a0.size := by
          have ht : a0.data.toList.take k = a0.data.toList := List.take_of_length_le (by rw [← size_list]; omega)
          have e1 := H1.out
          have e2 := H2.out
          rw [ht] at e1 e2
          rw [app_list, Pl.misp_app _ _ e1 e2, ← size_list]
        have hge := Pl.misp_ge a1.data.toList
        have hlt2 := misp_lt a1
        have c1 := zzMisp_any (a0 ++ a1) w' HSH.out (by rw [ByteArray.size_append]; omega)
        have c2 := zzMisp_any a1 w' HSH.out (by omega)
        rw [hP] at c1
        clear hP
        generalize Pl.misp a1.data.toList = R at c1 c2 hge hlt2
        by_cases hneg : R < 0
        · rw [if_pos hneg] at c1
          refine c1.mono ?_
          rintro e wa ⟨rfl, hwa⟩
          subst hwa
          go_wp2_with fail
          refine c2.mono ?_
          rintro e wa ⟨rfl, hwa⟩
          subst hwa
          go_wp2
          go_ret
          exact ⟨rfl, Below.refl _ _⟩
        · rw [if_neg hneg] at c1
          refine c1.mono ?_
          rintro e wa ⟨rfl, hwa⟩
          subst hwa
          go_wp2_with fail
          refine c2.mono ?_
          rintro e wa ⟨rfl, hwa⟩
          subst hwa
          go_wp2
          go_ret
          exact ⟨ret_bool (by simp), Below.refl _ _⟩
  · have cB := bytes21 a0 a1 w w0 w1
    rw [decide_eq_false h0] at cB
    go_enter Try.func7, Try.ntmps7
    go_wp2_with (go_at_call 21; refine cB.mono ?_; rintro e w' ⟨rfl, rfl⟩)
    go_ret
    exact ⟨rfl, Below.refl _ _⟩

/-! ### THE ROW's STEP -/
set_option maxRecDepth 100000 in
theorem lifted (os : Os) (started : os.Started) (H : Type) (enc : TypeId × Value → H) :
    ReturnsInHanded {} Try.checked os 7 .any (Rows.fnSchemeBracketIgnoresPrefixBeforeColonSpec.pre6 enc Try.prog Try.f7 Rows.fnSchemeBracketIgnoresPrefixBeforeColonRow.domain false) (Rows.fnSchemeBracketIgnoresPrefixBeforeColonSpec.post enc Try.prog Try.f7 false true false false) := by
  refine returnsInHanded_of_change_shaped (C := Try.checked) own started (by kernel_rfl) Try.func7
    (ChangeSpec.witness6 (enc := enc) (C := Try.checked) false ⟨#[], #[.string ByteArray.empty, .string ByteArray.empty], []⟩ 8 (by kernel_rfl) (by kernel_rfl) (by kernel_rfl) (by kernel_rfl)) ?_
  intro W base args ds gs before hval0 hW hcnd _ hsh _
  have hval : ∀ (j : Nat) t v, Try.f7.params[j]? = some t → args[j]? = some v → Value.okWide Try.prog W .any base t v := hval0
  have hW' := hW
  obtain ⟨p, q, hA0, hV, rfl, hfz, hnd⟩ := hW
  have hA : DataW.TrodAll enc Try.prog W 0 (fun _ => true) true Try.f7.params.toList args.toList ds p := hA0
  rw [Try.params7] at hA hval
  obtain ⟨v0, vs0, d0, ds0, p0, q0, hargs, rfl, rfl, h0, r0⟩ := trodAll_cons hA
  obtain ⟨v1, vs1, d1, ds1, p1, q1, rfl, rfl, rfl, h1, r1⟩ := trodAll_cons r0
  obtain ⟨rfl, rfl, rfl⟩ := trodAll_nil r1
  obtain rfl : args = #[v0, v1] := by cases args; simp_all
  obtain ⟨rfl, rfl⟩ := trodVars_none hV
  obtain ⟨a0, rfl, rfl, rfl, w0⟩ := open_string Try.underlying9 (hval 0 9 v0 rfl rfl) h0
  obtain ⟨a1, rfl, rfl, rfl, w1⟩ := open_string Try.underlying9 (hval 1 9 v1 rfl rfl) h1
  clear hA0 hval0
  simp only [List.append_nil] at hW'
  refine (walk a0 a1 w0 w1 W hsh).mono fun e W' ⟨he, bel⟩ => ?_
  subst he
  exact ⟨_, rfl, _, _, _, [], [], [], hW', (trodAll_cons_mk (shut_bool Try.underlying4 _) trodAll_mk0), (trodAll_cons_mk (shut_string Try.underlying9 w0) (trodAll_cons_mk (shut_string Try.underlying9 w1) trodAll_mk0)), rfl, bel.frame _, fun h => by cases h⟩

theorem over : Rows.fnSchemeBracketIgnoresPrefixBeforeColonRow.holds Try.pinned (OpenSpec.ofChange Rows.fnSchemeBracketIgnoresPrefixBeforeColonSpec) :=
  OpenClaim.holds_of_wide 7 Try.f7 rfl rfl rfl rfl rfl rfl rfl ⟨rfl, rfl, rfl, rfl, rfl⟩ rfl rfl rfl rfl rfl named Try.func7 closed instd wrapd
    (fun os started H enc _ => lifted os started H enc)

/-- ████ THE STATEMENT ████ -/
theorem proved : Rows.FnSchemeBracketIgnoresPrefixBeforeColonSaid :=
  over
end Go.Proofs.Qxb6602120a.fnSchemeBracketIgnoresPrefixBeforeColon
