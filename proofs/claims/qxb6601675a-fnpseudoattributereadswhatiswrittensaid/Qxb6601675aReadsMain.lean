/-
  FnPseudoAttributeReadsWhatIsWritten (5): the ways on which the written text is read back, and the helpers.
-/
import Derived.Test.Qxb6601675aPseudo
namespace Go.Proofs.Qxb6601675a.fnPseudoAttributeReadsWhatIsWritten
open Go.RowKit
theorem mk_list (a : ByteArray) : (⟨a.data.toList.toArray⟩ : ByteArray) = a := Lib.mk_data a

theorem app_list (a b : ByteArray) : (a ++ b).data.toList = a.data.toList ++ b.data.toList := by
  rw [ByteArray.data_append, Array.toList_append]

theorem size_of_cell {w : World} {v : Value} (h : w.cell? ⟨0, 0, none⟩ = some v) : 0 < w.heap.size := by
  rcases Nat.eq_zero_or_pos w.heap.size with e | e
  · have hn : w.heap[0]? = none := Array.getElem?_eq_none (by omega)
    unfold World.cell? at h
    rw [hn] at h
    simp at h
  · exact e

/-- ZZPseudoAttribute, said of byte arrays, where the answer is known. -/
theorem zzPseudo_b (A B v r : ByteArray) (ok spaced : Bool) (m : Int) (w : World) (hm : w.cell? ⟨0, 0, none⟩ = some (.int .i64 m)) (h0 : 0 < w.heap.size) (hs : A.size ≤ 1048576)
    (hp : Pl.psa A.data.toList B.data.toList spaced = (v.data.toList, r.data.toList, ok)) :
    Calls Try.prog 7 #[.string A, .string B, .bool spaced] w fun e w' => e = .returned (.tuple #[.string v, .string r, .bool ok]) ∧ Below w.heap.size w w' := by
  have c := zzPseudo_any A.data.toList B.data.toList spaced m w hm h0 (by rw [← size_list]; exact hs)
  rw [mk_list A, mk_list B] at c
  refine c.mono ?_
  rintro e w' ⟨v', r', ok', rfl, hp', hb⟩
  rw [hp] at hp'
  simp only [Prod.mk.injEq] at hp'
  obtain ⟨rfl, rfl, rfl⟩ := hp'
  rw [mk_list v, mk_list r]
  exact ⟨rfl, hb⟩

set_option maxHeartbeats 1000000 in
theorem bytes11 (a0 a1 a2 a3 a4 a5 : ByteArray) (b c : Bool) (w : World) (h0 : a0.size ≤ maxLen) (h1 : a1.size ≤ maxLen) (h2 : a2.size ≤ maxLen) (h3 : a3.size ≤ maxLen) (h4 : a4.size ≤ maxLen) (h5 : a5.size ≤ maxLen) :
    Calls Try.prog 11 #[.string a0, .string a1, .string a2, .string a3, .string a4, .string a5, .bool b, .bool c] w fun e w' => e = .returned (.bool (decide (a0.size + a1.size + a2.size + a3.size + a4.size + a5.size ≤ 1048576))) ∧ w' = w := by
  unfold maxLen at h0 h1 h2 h3 h4 h5
  go_enter Try.func11, Try.ntmps11
  go_wp2
  all_goals
    go_ret
    exact ⟨ret_bool (by simp; omega), rfl⟩

theorem mem_take {l : List UInt8} {c : UInt8} {s : ByteArray} {k : Nat} (hk : k < s.size) (hl : l = s.data.toList) (h : c ∉ l.take k) (hc : s[k] ≠ c) : c ∉ l.take (k + 1) := by
  subst hl
  rw [List.take_succ_eq_append_getElem (by rw [← size_list]; exact hk)]
  intro hm
  rcases List.mem_append.1 hm with h' | h'
  · exact h h'
  · rw [List.mem_singleton] at h'
    exact hc h'.symm

theorem ne_of_int {c : UInt8} {n : Nat} (hn : n < 256) (h : ((c.toNat : Int) == (n : Int)) = false) : c ≠ UInt8.ofNat n := by
  rintro rfl
  rw [UInt8.toNat_ofNat', Nat.mod_eq_of_lt (by simpa using hn)] at h
  simp at h

theorem whole_list (a0 a1 a2 a3 a4 a5 : ByteArray) (q : UInt8) : (a0 ++ a1 ++ a2 ++ ⟨#[61]⟩ ++ a3 ++ ⟨#[q]⟩ ++ a4 ++ ⟨#[q]⟩ ++ a5).data.toList =
    a0.data.toList ++ (a1.data.toList ++ (a2.data.toList ++ 61 :: (a3.data.toList ++ q :: (a4.data.toList ++ q :: a5.data.toList)))) := by
  simp only [app_list, List.append_assoc]
  rfl

theorem whole_size (a0 a1 a2 a3 a4 a5 : ByteArray) (q : UInt8) (hA : a0.size + a1.size + a2.size + a3.size + a4.size + a5.size ≤ 1048576)
    (g0 : a0.size ≤ 131072) (g1 : a1.size ≤ 131072) (g2 : a2.size ≤ 131072) (g3 : a3.size ≤ 131072) (g4 : a4.size ≤ 131072) (g5 : a5.size ≤ 131072) :
    (a0 ++ a1 ++ a2 ++ ⟨#[61]⟩ ++ a3 ++ ⟨#[q]⟩ ++ a4 ++ ⟨#[q]⟩ ++ a5 : ByteArray).size ≤ 1048576 := by
  have e1 : ∀ x : UInt8, (⟨#[x]⟩ : ByteArray).size = 1 := fun x => rfl
  simp only [ByteArray.size_append, e1]
  omega

theorem head_none (a : ByteArray) (h : a.size = 0) : ∀ c u, a.data.toList = c :: u → Pl.sp c = false := by
  intro c u hc
  rw [size_list, hc] at h
  simp at h

theorem head_not (a : ByteArray) (h : 0 < a.size) (hsp : Pl.sp a[0] = false) : ∀ c u, a.data.toList = c :: u → Pl.sp c = false := by
  intro c u hc
  have := get_list a 0 h
  rw [hc] at this
  simp at this
  rw [this]; exact hsp

theorem ne_nil (a : ByteArray) (h : 0 < a.size) : a.data.toList ≠ [] := by
  intro hc
  rw [size_list, hc] at h
  simp at h

set_option maxHeartbeats 4000000 in
theorem main_none_free_sgl (a0 a1 a2 a3 a4 a5 : ByteArray) (m : Int) (w : World) (hm : w.cell? ⟨0, 0, none⟩ = some (.int .i64 m)) (h0 : 0 < w.heap.size) (hA : a0.size + a1.size + a2.size + a3.size + a4.size + a5.size ≤ 1048576)
    (g0 : a0.size ≤ 131072) (g1 : a1.size ≤ 131072) (g2 : a2.size ≤ 131072) (g3 : a3.size ≤ 131072) (g4 : a4.size ≤ 131072) (g5 : a5.size ≤ 131072)
    (b0 : Pl.allSp a0.data.toList = true) (b2 : Pl.allSp a2.data.toList = true) (b3 : Pl.allSp a3.data.toList = true) (hN : a1.size = 0) :
    Calls Try.prog 5 #[.string a0, .string a1, .string a2, .string a3, .string a4, .string a5, .bool false, .bool false] w fun e w' => e = .returned (.bool true) ∧ Below w.heap.size w w' := by
  have cB := bytes11 a0 a1 a2 a3 a4 a5 false false w (by unfold maxLen; omega) (by unfold maxLen; omega) (by unfold maxLen; omega) (by unfold maxLen; omega) (by unfold maxLen; omega) (by unfold maxLen; omega)
  rw [decide_eq_true hA] at cB
  have d0 : decide ((131072 : Int) < (a0.size : Int)) = false := decide_eq_false (by omega)
  have d1 : decide ((131072 : Int) < (a1.size : Int)) = false := decide_eq_false (by omega)
  have d2 : decide ((131072 : Int) < (a2.size : Int)) = false := decide_eq_false (by omega)
  have d3 : decide ((131072 : Int) < (a3.size : Int)) = false := decide_eq_false (by omega)
  have d4 : decide ((131072 : Int) < (a4.size : Int)) = false := decide_eq_false (by omega)
  have d5 : decide ((131072 : Int) < (a5.size : Int)) = false := decide_eq_false (by omega)
  have c0 := allSpace_any a0 w (by omega)
  rw [b0] at c0
  have c2 := allSpace_any a2 w (by omega)
  rw [b2] at c2
  have c3 := allSpace_any a3 w (by omega)
  rw [b3] at c3
  have HP : Hid ((39 : UInt8) ∉ a4.data.toList → Pl.psa (a0 ++ a1 ++ a2 ++ ⟨#[61]⟩ ++ a3 ++ ⟨#[39]⟩ ++ a4 ++ ⟨#[39]⟩ ++ a5).data.toList a1.data.toList false = (a4.data.toList, a5.data.toList, true)) := fun hq => by
    rw [whole_list]
    exact Pl.psa_reads _ _ _ _ _ _ 39 false ((Pl.allSp_iff _).1 b0) ((Pl.allSp_iff _).1 b2) ((Pl.allSp_iff _).1 b3) (head_none a1 hN) (fun h => by simp at h) (Or.inr rfl) hq
  have HM : Hid (w.cell? ⟨0, 0, none⟩ = some (.int .i64 m)) := hm
  have hz : decide ((0 : Int) < (a1.size : Int)) = false := decide_eq_false (by omega)
  clear b0 b2 b3 hm
  go_enter Try.func5, Try.ntmps5
  go_wp2_with (go_at_call 11; refine cB.mono ?_; rintro e wa ⟨rfl, hwa⟩; replace hwa := hwa.symm; subst hwa)
  refine c0.mono ?_
  rintro e wa ⟨rfl, hwa⟩
  replace hwa := hwa.symm
  subst hwa
  go_wp2_with fail
  refine c2.mono ?_
  rintro e wa ⟨rfl, hwa⟩
  replace hwa := hwa.symm
  subst hwa
  go_wp2_with fail
  refine c3.mono ?_
  rintro e wa ⟨rfl, hwa⟩
  replace hwa := hwa.symm
  subst hwa
  go_wp2_with fail
  clear cB c0 c2 c3
  go_loopw [18] (fun i wr => ∃ k : Nat, k ≤ a4.size ∧ i = .int .i64 k ∧ (39 : UInt8) ∉ a4.data.toList.take k ∧ Below w.heap.size w wr) (fun i _ => a4.size - (intOf i).toNat)
  case atStart => exact ⟨0, Nat.zero_le _, rfl, by simp, Below.refl _ _⟩
  case round =>
    obtain ⟨k, hk, rfl, hn1, hb⟩ := hrel
    have H1 : Hid ((39 : UInt8) ∉ a4.data.toList.take k) := hn1
    clear hn1
    by_cases hlt : k < a4.size
    · have hki : (k : Int) < (a4.size : Int) := by omega
      cases hc : ((a4[k].toNat : Int) == 39) with
      | true =>
        have hcq : ((a4[k].toNat : Int) == (((⟨#[39]⟩ : ByteArray)[0]'(by decide)).toNat : Int)) = true := hc
        clear hc
        go_wp2_with fail
        go_quiet (fail)
        go_wp2
        go_ret
        exact ⟨rfl, below_drewN' hb _⟩
      | false =>
        have hcq : ((a4[k].toNat : Int) == (((⟨#[39]⟩ : ByteArray)[0]'(by decide)).toNat : Int)) = false := hc
        have HC : Hid (a4[k] ≠ 39) := ne_of_int (n := 39) (by omega) hc
        clear hc
        go_wp2_with fail
        go_quiet (fail)
        go_wp2
        go_roundw
        case rel => exact ⟨k + 1, by omega, by go_num, mem_take hlt rfl H1.out HC.out, below_drewN' hb _⟩
        case measure => simp [intOf]; omega
    · have HPk : Hid _ := HP.out (by
        have := H1.out
        rw [List.take_of_length_le (by rw [← size_list]; omega)] at this
        exact this)
      have HMr : Hid (wr.cell? ⟨0, 0, none⟩ = some (.int .i64 m)) := (hb.cell (p := ⟨0, 0, none⟩) h0).trans HM.out
      have hz1 := hb.size
      clear HP H1 HM
      go_wp2_with fail
      refine (zzPseudo_b _ a1 a4 a5 true false m wr HMr.out (by omega) (whole_size _ _ _ _ _ _ _ hA g0 g1 g2 g3 g4 g5) HPk.out).mono ?_
      rintro e w3 ⟨rfl, hb3⟩
      go_wp2
      go_ret
      exact ⟨ret_bool (by simp), hb.trans (hb3.mono hz1)⟩

set_option maxHeartbeats 4000000 in
theorem main_none_free_dbl (a0 a1 a2 a3 a4 a5 : ByteArray) (m : Int) (w : World) (hm : w.cell? ⟨0, 0, none⟩ = some (.int .i64 m)) (h0 : 0 < w.heap.size) (hA : a0.size + a1.size + a2.size + a3.size + a4.size + a5.size ≤ 1048576)
    (g0 : a0.size ≤ 131072) (g1 : a1.size ≤ 131072) (g2 : a2.size ≤ 131072) (g3 : a3.size ≤ 131072) (g4 : a4.size ≤ 131072) (g5 : a5.size ≤ 131072)
    (b0 : Pl.allSp a0.data.toList = true) (b2 : Pl.allSp a2.data.toList = true) (b3 : Pl.allSp a3.data.toList = true) (hN : a1.size = 0) :
    Calls Try.prog 5 #[.string a0, .string a1, .string a2, .string a3, .string a4, .string a5, .bool true, .bool false] w fun e w' => e = .returned (.bool true) ∧ Below w.heap.size w w' := by
  have cB := bytes11 a0 a1 a2 a3 a4 a5 true false w (by unfold maxLen; omega) (by unfold maxLen; omega) (by unfold maxLen; omega) (by unfold maxLen; omega) (by unfold maxLen; omega) (by unfold maxLen; omega)
  rw [decide_eq_true hA] at cB
  have d0 : decide ((131072 : Int) < (a0.size : Int)) = false := decide_eq_false (by omega)
  have d1 : decide ((131072 : Int) < (a1.size : Int)) = false := decide_eq_false (by omega)
  have d2 : decide ((131072 : Int) < (a2.size : Int)) = false := decide_eq_false (by omega)
  have d3 : decide ((131072 : Int) < (a3.size : Int)) = false := decide_eq_false (by omega)
  have d4 : decide ((131072 : Int) < (a4.size : Int)) = false := decide_eq_false (by omega)
  have d5 : decide ((131072 : Int) < (a5.size : Int)) = false := decide_eq_false (by omega)
  have c0 := allSpace_any a0 w (by omega)
  rw [b0] at c0
  have c2 := allSpace_any a2 w (by omega)
  rw [b2] at c2
  have c3 := allSpace_any a3 w (by omega)
  rw [b3] at c3
  have HP : Hid ((34 : UInt8) ∉ a4.data.toList → Pl.psa (a0 ++ a1 ++ a2 ++ ⟨#[61]⟩ ++ a3 ++ ⟨#[34]⟩ ++ a4 ++ ⟨#[34]⟩ ++ a5).data.toList a1.data.toList false = (a4.data.toList, a5.data.toList, true)) := fun hq => by
    rw [whole_list]
    exact Pl.psa_reads _ _ _ _ _ _ 34 false ((Pl.allSp_iff _).1 b0) ((Pl.allSp_iff _).1 b2) ((Pl.allSp_iff _).1 b3) (head_none a1 hN) (fun h => by simp at h) (Or.inl rfl) hq
  have HM : Hid (w.cell? ⟨0, 0, none⟩ = some (.int .i64 m)) := hm
  have hz : decide ((0 : Int) < (a1.size : Int)) = false := decide_eq_false (by omega)
  clear b0 b2 b3 hm
  go_enter Try.func5, Try.ntmps5
  go_wp2_with (go_at_call 11; refine cB.mono ?_; rintro e wa ⟨rfl, hwa⟩; replace hwa := hwa.symm; subst hwa)
  refine c0.mono ?_
  rintro e wa ⟨rfl, hwa⟩
  replace hwa := hwa.symm
  subst hwa
  go_wp2_with fail
  refine c2.mono ?_
  rintro e wa ⟨rfl, hwa⟩
  replace hwa := hwa.symm
  subst hwa
  go_wp2_with fail
  refine c3.mono ?_
  rintro e wa ⟨rfl, hwa⟩
  replace hwa := hwa.symm
  subst hwa
  go_wp2_with fail
  clear cB c0 c2 c3
  go_loopw [18] (fun i wr => ∃ k : Nat, k ≤ a4.size ∧ i = .int .i64 k ∧ (34 : UInt8) ∉ a4.data.toList.take k ∧ Below w.heap.size w wr) (fun i _ => a4.size - (intOf i).toNat)
  case atStart => exact ⟨0, Nat.zero_le _, rfl, by simp, Below.refl _ _⟩
  case round =>
    obtain ⟨k, hk, rfl, hn1, hb⟩ := hrel
    have H1 : Hid ((34 : UInt8) ∉ a4.data.toList.take k) := hn1
    clear hn1
    by_cases hlt : k < a4.size
    · have hki : (k : Int) < (a4.size : Int) := by omega
      cases hc : ((a4[k].toNat : Int) == 34) with
      | true =>
        have hcq : ((a4[k].toNat : Int) == (((⟨#[34]⟩ : ByteArray)[0]'(by decide)).toNat : Int)) = true := hc
        clear hc
        go_wp2_with fail
        go_quiet (fail)
        go_wp2
        go_ret
        exact ⟨rfl, below_drewN' hb _⟩
      | false =>
        have hcq : ((a4[k].toNat : Int) == (((⟨#[34]⟩ : ByteArray)[0]'(by decide)).toNat : Int)) = false := hc
        have HC : Hid (a4[k] ≠ 34) := ne_of_int (n := 34) (by omega) hc
        clear hc
        go_wp2_with fail
        go_quiet (fail)
        go_wp2
        go_roundw
        case rel => exact ⟨k + 1, by omega, by go_num, mem_take hlt rfl H1.out HC.out, below_drewN' hb _⟩
        case measure => simp [intOf]; omega
    · have HPk : Hid _ := HP.out (by
        have := H1.out
        rw [List.take_of_length_le (by rw [← size_list]; omega)] at this
        exact this)
      have HMr : Hid (wr.cell? ⟨0, 0, none⟩ = some (.int .i64 m)) := (hb.cell (p := ⟨0, 0, none⟩) h0).trans HM.out
      have hz1 := hb.size
      clear HP H1 HM
      go_wp2_with fail
      refine (zzPseudo_b _ a1 a4 a5 true false m wr HMr.out (by omega) (whole_size _ _ _ _ _ _ _ hA g0 g1 g2 g3 g4 g5) HPk.out).mono ?_
      rintro e w3 ⟨rfl, hb3⟩
      go_wp2
      go_ret
      exact ⟨ret_bool (by simp), hb.trans (hb3.mono hz1)⟩

set_option maxHeartbeats 4000000 in
theorem main_none_sp_sgl (a0 a1 a2 a3 a4 a5 : ByteArray) (m : Int) (w : World) (hm : w.cell? ⟨0, 0, none⟩ = some (.int .i64 m)) (h0 : 0 < w.heap.size) (hA : a0.size + a1.size + a2.size + a3.size + a4.size + a5.size ≤ 1048576)
    (g0 : a0.size ≤ 131072) (g1 : a1.size ≤ 131072) (g2 : a2.size ≤ 131072) (g3 : a3.size ≤ 131072) (g4 : a4.size ≤ 131072) (g5 : a5.size ≤ 131072)
    (b0 : Pl.allSp a0.data.toList = true) (b2 : Pl.allSp a2.data.toList = true) (b3 : Pl.allSp a3.data.toList = true) (hN : a1.size = 0) (hS : 0 < a0.size) :
    Calls Try.prog 5 #[.string a0, .string a1, .string a2, .string a3, .string a4, .string a5, .bool false, .bool true] w fun e w' => e = .returned (.bool true) ∧ Below w.heap.size w w' := by
  have cB := bytes11 a0 a1 a2 a3 a4 a5 false true w (by unfold maxLen; omega) (by unfold maxLen; omega) (by unfold maxLen; omega) (by unfold maxLen; omega) (by unfold maxLen; omega) (by unfold maxLen; omega)
  rw [decide_eq_true hA] at cB
  have d0 : decide ((131072 : Int) < (a0.size : Int)) = false := decide_eq_false (by omega)
  have d1 : decide ((131072 : Int) < (a1.size : Int)) = false := decide_eq_false (by omega)
  have d2 : decide ((131072 : Int) < (a2.size : Int)) = false := decide_eq_false (by omega)
  have d3 : decide ((131072 : Int) < (a3.size : Int)) = false := decide_eq_false (by omega)
  have d4 : decide ((131072 : Int) < (a4.size : Int)) = false := decide_eq_false (by omega)
  have d5 : decide ((131072 : Int) < (a5.size : Int)) = false := decide_eq_false (by omega)
  have c0 := allSpace_any a0 w (by omega)
  rw [b0] at c0
  have c2 := allSpace_any a2 w (by omega)
  rw [b2] at c2
  have c3 := allSpace_any a3 w (by omega)
  rw [b3] at c3
  have HP : Hid ((39 : UInt8) ∉ a4.data.toList → Pl.psa (a0 ++ a1 ++ a2 ++ ⟨#[61]⟩ ++ a3 ++ ⟨#[39]⟩ ++ a4 ++ ⟨#[39]⟩ ++ a5).data.toList a1.data.toList true = (a4.data.toList, a5.data.toList, true)) := fun hq => by
    rw [whole_list]
    exact Pl.psa_reads _ _ _ _ _ _ 39 true ((Pl.allSp_iff _).1 b0) ((Pl.allSp_iff _).1 b2) ((Pl.allSp_iff _).1 b3) (head_none a1 hN) (fun _ => ne_nil a0 hS) (Or.inr rfl) hq
  have HM : Hid (w.cell? ⟨0, 0, none⟩ = some (.int .i64 m)) := hm
  have hz : decide ((0 : Int) < (a1.size : Int)) = false := decide_eq_false (by omega)
  have hpz : ((a0.size : Int) == 0) = false := beq_eq_false_iff_ne.2 (by omega)
  clear b0 b2 b3 hm
  go_enter Try.func5, Try.ntmps5
  go_wp2_with (go_at_call 11; refine cB.mono ?_; rintro e wa ⟨rfl, hwa⟩; replace hwa := hwa.symm; subst hwa)
  refine c0.mono ?_
  rintro e wa ⟨rfl, hwa⟩
  replace hwa := hwa.symm
  subst hwa
  go_wp2_with fail
  refine c2.mono ?_
  rintro e wa ⟨rfl, hwa⟩
  replace hwa := hwa.symm
  subst hwa
  go_wp2_with fail
  refine c3.mono ?_
  rintro e wa ⟨rfl, hwa⟩
  replace hwa := hwa.symm
  subst hwa
  go_wp2_with fail
  clear cB c0 c2 c3
  go_loopw [18] (fun i wr => ∃ k : Nat, k ≤ a4.size ∧ i = .int .i64 k ∧ (39 : UInt8) ∉ a4.data.toList.take k ∧ Below w.heap.size w wr) (fun i _ => a4.size - (intOf i).toNat)
  case atStart => exact ⟨0, Nat.zero_le _, rfl, by simp, Below.refl _ _⟩
  case round =>
    obtain ⟨k, hk, rfl, hn1, hb⟩ := hrel
    have H1 : Hid ((39 : UInt8) ∉ a4.data.toList.take k) := hn1
    clear hn1
    by_cases hlt : k < a4.size
    · have hki : (k : Int) < (a4.size : Int) := by omega
      cases hc : ((a4[k].toNat : Int) == 39) with
      | true =>
        have hcq : ((a4[k].toNat : Int) == (((⟨#[39]⟩ : ByteArray)[0]'(by decide)).toNat : Int)) = true := hc
        clear hc
        go_wp2_with fail
        go_quiet (fail)
        go_wp2
        go_ret
        exact ⟨rfl, below_drewN' hb _⟩
      | false =>
        have hcq : ((a4[k].toNat : Int) == (((⟨#[39]⟩ : ByteArray)[0]'(by decide)).toNat : Int)) = false := hc
        have HC : Hid (a4[k] ≠ 39) := ne_of_int (n := 39) (by omega) hc
        clear hc
        go_wp2_with fail
        go_quiet (fail)
        go_wp2
        go_roundw
        case rel => exact ⟨k + 1, by omega, by go_num, mem_take hlt rfl H1.out HC.out, below_drewN' hb _⟩
        case measure => simp [intOf]; omega
    · have HPk : Hid _ := HP.out (by
        have := H1.out
        rw [List.take_of_length_le (by rw [← size_list]; omega)] at this
        exact this)
      have HMr : Hid (wr.cell? ⟨0, 0, none⟩ = some (.int .i64 m)) := (hb.cell (p := ⟨0, 0, none⟩) h0).trans HM.out
      have hz1 := hb.size
      clear HP H1 HM
      go_wp2_with fail
      refine (zzPseudo_b _ a1 a4 a5 true true m wr HMr.out (by omega) (whole_size _ _ _ _ _ _ _ hA g0 g1 g2 g3 g4 g5) HPk.out).mono ?_
      rintro e w3 ⟨rfl, hb3⟩
      go_wp2
      go_ret
      exact ⟨ret_bool (by simp), hb.trans (hb3.mono hz1)⟩

set_option maxHeartbeats 4000000 in
theorem main_none_sp_dbl (a0 a1 a2 a3 a4 a5 : ByteArray) (m : Int) (w : World) (hm : w.cell? ⟨0, 0, none⟩ = some (.int .i64 m)) (h0 : 0 < w.heap.size) (hA : a0.size + a1.size + a2.size + a3.size + a4.size + a5.size ≤ 1048576)
    (g0 : a0.size ≤ 131072) (g1 : a1.size ≤ 131072) (g2 : a2.size ≤ 131072) (g3 : a3.size ≤ 131072) (g4 : a4.size ≤ 131072) (g5 : a5.size ≤ 131072)
    (b0 : Pl.allSp a0.data.toList = true) (b2 : Pl.allSp a2.data.toList = true) (b3 : Pl.allSp a3.data.toList = true) (hN : a1.size = 0) (hS : 0 < a0.size) :
    Calls Try.prog 5 #[.string a0, .string a1, .string a2, .string a3, .string a4, .string a5, .bool true, .bool true] w fun e w' => e = .returned (.bool true) ∧ Below w.heap.size w w' := by
  have cB := bytes11 a0 a1 a2 a3 a4 a5 true true w (by unfold maxLen; omega) (by unfold maxLen; omega) (by unfold maxLen; omega) (by unfold maxLen; omega) (by unfold maxLen; omega) (by unfold maxLen; omega)
  rw [decide_eq_true hA] at cB
  have d0 : decide ((131072 : Int) < (a0.size : Int)) = false := decide_eq_false (by omega)
  have d1 : decide ((131072 : Int) < (a1.size : Int)) = false := decide_eq_false (by omega)
  have d2 : decide ((131072 : Int) < (a2.size : Int)) = false := decide_eq_false (by omega)
  have d3 : decide ((131072 : Int) < (a3.size : Int)) = false := decide_eq_false (by omega)
  have d4 : decide ((131072 : Int) < (a4.size : Int)) = false := decide_eq_false (by omega)
  have d5 : decide ((131072 : Int) < (a5.size : Int)) = false := decide_eq_false (by omega)
  have c0 := allSpace_any a0 w (by omega)
  rw [b0] at c0
  have c2 := allSpace_any a2 w (by omega)
  rw [b2] at c2
  have c3 := allSpace_any a3 w (by omega)
  rw [b3] at c3
  have HP : Hid ((34 : UInt8) ∉ a4.data.toList → Pl.psa (a0 ++ a1 ++ a2 ++ ⟨#[61]⟩ ++ a3 ++ ⟨#[34]⟩ ++ a4 ++ ⟨#[34]⟩ ++ a5).data.toList a1.data.toList true = (a4.data.toList, a5.data.toList, true)) := fun hq => by
    rw [whole_list]
    exact Pl.psa_reads _ _ _ _ _ _ 34 true ((Pl.allSp_iff _).1 b0) ((Pl.allSp_iff _).1 b2) ((Pl.allSp_iff _).1 b3) (head_none a1 hN) (fun _ => ne_nil a0 hS) (Or.inl rfl) hq
  have HM : Hid (w.cell? ⟨0, 0, none⟩ = some (.int .i64 m)) := hm
  have hz : decide ((0 : Int) < (a1.size : Int)) = false := decide_eq_false (by omega)
  have hpz : ((a0.size : Int) == 0) = false := beq_eq_false_iff_ne.2 (by omega)
  clear b0 b2 b3 hm
  go_enter Try.func5, Try.ntmps5
  go_wp2_with (go_at_call 11; refine cB.mono ?_; rintro e wa ⟨rfl, hwa⟩; replace hwa := hwa.symm; subst hwa)
  refine c0.mono ?_
  rintro e wa ⟨rfl, hwa⟩
  replace hwa := hwa.symm
  subst hwa
  go_wp2_with fail
  refine c2.mono ?_
  rintro e wa ⟨rfl, hwa⟩
  replace hwa := hwa.symm
  subst hwa
  go_wp2_with fail
  refine c3.mono ?_
  rintro e wa ⟨rfl, hwa⟩
  replace hwa := hwa.symm
  subst hwa
  go_wp2_with fail
  clear cB c0 c2 c3
  go_loopw [18] (fun i wr => ∃ k : Nat, k ≤ a4.size ∧ i = .int .i64 k ∧ (34 : UInt8) ∉ a4.data.toList.take k ∧ Below w.heap.size w wr) (fun i _ => a4.size - (intOf i).toNat)
  case atStart => exact ⟨0, Nat.zero_le _, rfl, by simp, Below.refl _ _⟩
  case round =>
    obtain ⟨k, hk, rfl, hn1, hb⟩ := hrel
    have H1 : Hid ((34 : UInt8) ∉ a4.data.toList.take k) := hn1
    clear hn1
    by_cases hlt : k < a4.size
    · have hki : (k : Int) < (a4.size : Int) := by omega
      cases hc : ((a4[k].toNat : Int) == 34) with
      | true =>
        have hcq : ((a4[k].toNat : Int) == (((⟨#[34]⟩ : ByteArray)[0]'(by decide)).toNat : Int)) = true := hc
        clear hc
        go_wp2_with fail
        go_quiet (fail)
        go_wp2
        go_ret
        exact ⟨rfl, below_drewN' hb _⟩
      | false =>
        have hcq : ((a4[k].toNat : Int) == (((⟨#[34]⟩ : ByteArray)[0]'(by decide)).toNat : Int)) = false := hc
        have HC : Hid (a4[k] ≠ 34) := ne_of_int (n := 34) (by omega) hc
        clear hc
        go_wp2_with fail
        go_quiet (fail)
        go_wp2
        go_roundw
        case rel => exact ⟨k + 1, by omega, by go_num, mem_take hlt rfl H1.out HC.out, below_drewN' hb _⟩
        case measure => simp [intOf]; omega
    · have HPk : Hid _ := HP.out (by
        have := H1.out
        rw [List.take_of_length_le (by rw [← size_list]; omega)] at this
        exact this)
      have HMr : Hid (wr.cell? ⟨0, 0, none⟩ = some (.int .i64 m)) := (hb.cell (p := ⟨0, 0, none⟩) h0).trans HM.out
      have hz1 := hb.size
      clear HP H1 HM
      go_wp2_with fail
      refine (zzPseudo_b _ a1 a4 a5 true true m wr HMr.out (by omega) (whole_size _ _ _ _ _ _ _ hA g0 g1 g2 g3 g4 g5) HPk.out).mono ?_
      rintro e w3 ⟨rfl, hb3⟩
      go_wp2
      go_ret
      exact ⟨ret_bool (by simp), hb.trans (hb3.mono hz1)⟩

set_option maxHeartbeats 4000000 in
theorem main_some_free_sgl (a0 a1 a2 a3 a4 a5 : ByteArray) (m : Int) (w : World) (hm : w.cell? ⟨0, 0, none⟩ = some (.int .i64 m)) (h0 : 0 < w.heap.size) (hA : a0.size + a1.size + a2.size + a3.size + a4.size + a5.size ≤ 1048576)
    (g0 : a0.size ≤ 131072) (g1 : a1.size ≤ 131072) (g2 : a2.size ≤ 131072) (g3 : a3.size ≤ 131072) (g4 : a4.size ≤ 131072) (g5 : a5.size ≤ 131072)
    (b0 : Pl.allSp a0.data.toList = true) (b2 : Pl.allSp a2.data.toList = true) (b3 : Pl.allSp a3.data.toList = true) (hN : 0 < a1.size) (hsp : Pl.sp a1[0] = false) :
    Calls Try.prog 5 #[.string a0, .string a1, .string a2, .string a3, .string a4, .string a5, .bool false, .bool false] w fun e w' => e = .returned (.bool true) ∧ Below w.heap.size w w' := by
  have cB := bytes11 a0 a1 a2 a3 a4 a5 false false w (by unfold maxLen; omega) (by unfold maxLen; omega) (by unfold maxLen; omega) (by unfold maxLen; omega) (by unfold maxLen; omega) (by unfold maxLen; omega)
  rw [decide_eq_true hA] at cB
  have d0 : decide ((131072 : Int) < (a0.size : Int)) = false := decide_eq_false (by omega)
  have d1 : decide ((131072 : Int) < (a1.size : Int)) = false := decide_eq_false (by omega)
  have d2 : decide ((131072 : Int) < (a2.size : Int)) = false := decide_eq_false (by omega)
  have d3 : decide ((131072 : Int) < (a3.size : Int)) = false := decide_eq_false (by omega)
  have d4 : decide ((131072 : Int) < (a4.size : Int)) = false := decide_eq_false (by omega)
  have d5 : decide ((131072 : Int) < (a5.size : Int)) = false := decide_eq_false (by omega)
  have c0 := allSpace_any a0 w (by omega)
  rw [b0] at c0
  have c2 := allSpace_any a2 w (by omega)
  rw [b2] at c2
  have c3 := allSpace_any a3 w (by omega)
  rw [b3] at c3
  have HP : Hid ((39 : UInt8) ∉ a4.data.toList → Pl.psa (a0 ++ a1 ++ a2 ++ ⟨#[61]⟩ ++ a3 ++ ⟨#[39]⟩ ++ a4 ++ ⟨#[39]⟩ ++ a5).data.toList a1.data.toList false = (a4.data.toList, a5.data.toList, true)) := fun hq => by
    rw [whole_list]
    exact Pl.psa_reads _ _ _ _ _ _ 39 false ((Pl.allSp_iff _).1 b0) ((Pl.allSp_iff _).1 b2) ((Pl.allSp_iff _).1 b3) (head_not a1 hN hsp) (fun h => by simp at h) (Or.inr rfl) hq
  have HM : Hid (w.cell? ⟨0, 0, none⟩ = some (.int .i64 m)) := hm
  have cS := space_any a1[0] w
  rw [hsp] at cS
  have hpos : (0 : Int) < (a1.size : Int) := by omega
  clear hsp
  clear b0 b2 b3 hm
  go_enter Try.func5, Try.ntmps5
  go_wp2_with (go_at_call 11; refine cB.mono ?_; rintro e wa ⟨rfl, hwa⟩; replace hwa := hwa.symm; subst hwa)
  refine c0.mono ?_
  rintro e wa ⟨rfl, hwa⟩
  replace hwa := hwa.symm
  subst hwa
  go_wp2_with fail
  refine c2.mono ?_
  rintro e wa ⟨rfl, hwa⟩
  replace hwa := hwa.symm
  subst hwa
  go_wp2_with fail
  refine c3.mono ?_
  rintro e wa ⟨rfl, hwa⟩
  replace hwa := hwa.symm
  subst hwa
  go_wp2_with fail
  refine cS.mono ?_
  rintro e wa ⟨rfl, hwa⟩
  replace hwa := hwa.symm
  subst hwa
  go_wp2_with fail
  clear cS
  clear cB c0 c2 c3
  go_loopw [18] (fun i wr => ∃ k : Nat, k ≤ a4.size ∧ i = .int .i64 k ∧ (39 : UInt8) ∉ a4.data.toList.take k ∧ Below w.heap.size w wr) (fun i _ => a4.size - (intOf i).toNat)
  case atStart => exact ⟨0, Nat.zero_le _, rfl, by simp, Below.refl _ _⟩
  case round =>
    obtain ⟨k, hk, rfl, hn1, hb⟩ := hrel
    have H1 : Hid ((39 : UInt8) ∉ a4.data.toList.take k) := hn1
    clear hn1
    by_cases hlt : k < a4.size
    · have hki : (k : Int) < (a4.size : Int) := by omega
      cases hc : ((a4[k].toNat : Int) == 39) with
      | true =>
        have hcq : ((a4[k].toNat : Int) == (((⟨#[39]⟩ : ByteArray)[0]'(by decide)).toNat : Int)) = true := hc
        clear hc
        go_wp2_with fail
        go_quiet (fail)
        go_wp2
        go_ret
        exact ⟨rfl, below_drewN' hb _⟩
      | false =>
        have hcq : ((a4[k].toNat : Int) == (((⟨#[39]⟩ : ByteArray)[0]'(by decide)).toNat : Int)) = false := hc
        have HC : Hid (a4[k] ≠ 39) := ne_of_int (n := 39) (by omega) hc
        clear hc
        go_wp2_with fail
        go_quiet (fail)
        go_wp2
        go_roundw
        case rel => exact ⟨k + 1, by omega, by go_num, mem_take hlt rfl H1.out HC.out, below_drewN' hb _⟩
        case measure => simp [intOf]; omega
    · have HPk : Hid _ := HP.out (by
        have := H1.out
        rw [List.take_of_length_le (by rw [← size_list]; omega)] at this
        exact this)
      have HMr : Hid (wr.cell? ⟨0, 0, none⟩ = some (.int .i64 m)) := (hb.cell (p := ⟨0, 0, none⟩) h0).trans HM.out
      have hz1 := hb.size
      clear HP H1 HM
      go_wp2_with fail
      refine (zzPseudo_b _ a1 a4 a5 true false m wr HMr.out (by omega) (whole_size _ _ _ _ _ _ _ hA g0 g1 g2 g3 g4 g5) HPk.out).mono ?_
      rintro e w3 ⟨rfl, hb3⟩
      go_wp2
      go_ret
      exact ⟨ret_bool (by simp), hb.trans (hb3.mono hz1)⟩

set_option maxHeartbeats 4000000 in
theorem main_some_free_dbl (a0 a1 a2 a3 a4 a5 : ByteArray) (m : Int) (w : World) (hm : w.cell? ⟨0, 0, none⟩ = some (.int .i64 m)) (h0 : 0 < w.heap.size) (hA : a0.size + a1.size + a2.size + a3.size + a4.size + a5.size ≤ 1048576)
    (g0 : a0.size ≤ 131072) (g1 : a1.size ≤ 131072) (g2 : a2.size ≤ 131072) (g3 : a3.size ≤ 131072) (g4 : a4.size ≤ 131072) (g5 : a5.size ≤ 131072)
    (b0 : Pl.allSp a0.data.toList = true) (b2 : Pl.allSp a2.data.toList = true) (b3 : Pl.allSp a3.data.toList = true) (hN : 0 < a1.size) (hsp : Pl.sp a1[0] = false) :
    Calls Try.prog 5 #[.string a0, .string a1, .string a2, .string a3, .string a4, .string a5, .bool true, .bool false] w fun e w' => e = .returned (.bool true) ∧ Below w.heap.size w w' := by
  have cB := bytes11 a0 a1 a2 a3 a4 a5 true false w (by unfold maxLen; omega) (by unfold maxLen; omega) (by unfold maxLen; omega) (by unfold maxLen; omega) (by unfold maxLen; omega) (by unfold maxLen; omega)
  rw [decide_eq_true hA] at cB
  have d0 : decide ((131072 : Int) < (a0.size : Int)) = false := decide_eq_false (by omega)
  have d1 : decide ((131072 : Int) < (a1.size : Int)) = false := decide_eq_false (by omega)
  have d2 : decide ((131072 : Int) < (a2.size : Int)) = false := decide_eq_false (by omega)
  have d3 : decide ((131072 : Int) < (a3.size : Int)) = false := decide_eq_false (by omega)
  have d4 : decide ((131072 : Int) < (a4.size : Int)) = false := decide_eq_false (by omega)
  have d5 : decide ((131072 : Int) < (a5.size : Int)) = false := decide_eq_false (by omega)
  have c0 := allSpace_any a0 w (by omega)
  rw [b0] at c0
  have c2 := allSpace_any a2 w (by omega)
  rw [b2] at c2
  have c3 := allSpace_any a3 w (by omega)
  rw [b3] at c3
  have HP : Hid ((34 : UInt8) ∉ a4.data.toList → Pl.psa (a0 ++ a1 ++ a2 ++ ⟨#[61]⟩ ++ a3 ++ ⟨#[34]⟩ ++ a4 ++ ⟨#[34]⟩ ++ a5).data.toList a1.data.toList false = (a4.data.toList, a5.data.toList, true)) := fun hq => by
    rw [whole_list]
    exact Pl.psa_reads _ _ _ _ _ _ 34 false ((Pl.allSp_iff _).1 b0) ((Pl.allSp_iff _).1 b2) ((Pl.allSp_iff _).1 b3) (head_not a1 hN hsp) (fun h => by simp at h) (Or.inl rfl) hq
  have HM : Hid (w.cell? ⟨0, 0, none⟩ = some (.int .i64 m)) := hm
  have cS := space_any a1[0] w
  rw [hsp] at cS
  have hpos : (0 : Int) < (a1.size : Int) := by omega
  clear hsp
  clear b0 b2 b3 hm
  go_enter Try.func5, Try.ntmps5
  go_wp2_with (go_at_call 11; refine cB.mono ?_; rintro e wa ⟨rfl, hwa⟩; replace hwa := hwa.symm; subst hwa)
  refine c0.mono ?_
  rintro e wa ⟨rfl, hwa⟩
  replace hwa := hwa.symm
  subst hwa
  go_wp2_with fail
  refine c2.mono ?_
  rintro e wa ⟨rfl, hwa⟩
  replace hwa := hwa.symm
  subst hwa
  go_wp2_with fail
  refine c3.mono ?_
  rintro e wa ⟨rfl, hwa⟩
  replace hwa := hwa.symm
  subst hwa
  go_wp2_with fail
  refine cS.mono ?_
  rintro e wa ⟨rfl, hwa⟩
  replace hwa := hwa.symm
  subst hwa
  go_wp2_with fail
  clear cS
  clear cB c0 c2 c3
  go_loopw [18] (fun i wr => ∃ k : Nat, k ≤ a4.size ∧ i = .int .i64 k ∧ (34 : UInt8) ∉ a4.data.toList.take k ∧ Below w.heap.size w wr) (fun i _ => a4.size - (intOf i).toNat)
  case atStart => exact ⟨0, Nat.zero_le _, rfl, by simp, Below.refl _ _⟩
  case round =>
    obtain ⟨k, hk, rfl, hn1, hb⟩ := hrel
    have H1 : Hid ((34 : UInt8) ∉ a4.data.toList.take k) := hn1
    clear hn1
    by_cases hlt : k < a4.size
    · have hki : (k : Int) < (a4.size : Int) := by omega
      cases hc : ((a4[k].toNat : Int) == 34) with
      | true =>
        have hcq : ((a4[k].toNat : Int) == (((⟨#[34]⟩ : ByteArray)[0]'(by decide)).toNat : Int)) = true := hc
        clear hc
        go_wp2_with fail
        go_quiet (fail)
        go_wp2
        go_ret
        exact ⟨rfl, below_drewN' hb _⟩
      | false =>
        have hcq : ((a4[k].toNat : Int) == (((⟨#[34]⟩ : ByteArray)[0]'(by decide)).toNat : Int)) = false := hc
        have HC : Hid (a4[k] ≠ 34) := ne_of_int (n := 34) (by omega) hc
        clear hc
        go_wp2_with fail
        go_quiet (fail)
        go_wp2
        go_roundw
        case rel => exact ⟨k + 1, by omega, by go_num, mem_take hlt rfl H1.out HC.out, below_drewN' hb _⟩
        case measure => simp [intOf]; omega
    · have HPk : Hid _ := HP.out (by
        have := H1.out
        rw [List.take_of_length_le (by rw [← size_list]; omega)] at this
        exact this)
      have HMr : Hid (wr.cell? ⟨0, 0, none⟩ = some (.int .i64 m)) := (hb.cell (p := ⟨0, 0, none⟩) h0).trans HM.out
      have hz1 := hb.size
      clear HP H1 HM
      go_wp2_with fail
      refine (zzPseudo_b _ a1 a4 a5 true false m wr HMr.out (by omega) (whole_size _ _ _ _ _ _ _ hA g0 g1 g2 g3 g4 g5) HPk.out).mono ?_
      rintro e w3 ⟨rfl, hb3⟩
      go_wp2
      go_ret
      exact ⟨ret_bool (by simp), hb.trans (hb3.mono hz1)⟩

set_option maxHeartbeats 4000000 in
theorem main_some_sp_sgl (a0 a1 a2 a3 a4 a5 : ByteArray) (m : Int) (w : World) (hm : w.cell? ⟨0, 0, none⟩ = some (.int .i64 m)) (h0 : 0 < w.heap.size) (hA : a0.size + a1.size + a2.size + a3.size + a4.size + a5.size ≤ 1048576)
    (g0 : a0.size ≤ 131072) (g1 : a1.size ≤ 131072) (g2 : a2.size ≤ 131072) (g3 : a3.size ≤ 131072) (g4 : a4.size ≤ 131072) (g5 : a5.size ≤ 131072)
    (b0 : Pl.allSp a0.data.toList = true) (b2 : Pl.allSp a2.data.toList = true) (b3 : Pl.allSp a3.data.toList = true) (hN : 0 < a1.size) (hsp : Pl.sp a1[0] = false) (hS : 0 < a0.size) :
    Calls Try.prog 5 #[.string a0, .string a1, .string a2, .string a3, .string a4, .string a5, .bool false, .bool true] w fun e w' => e = .returned (.bool true) ∧ Below w.heap.size w w' := by
  have cB := bytes11 a0 a1 a2 a3 a4 a5 false true w (by unfold maxLen; omega) (by unfold maxLen; omega) (by unfold maxLen; omega) (by unfold maxLen; omega) (by unfold maxLen; omega) (by unfold maxLen; omega)
  rw [decide_eq_true hA] at cB
  have d0 : decide ((131072 : Int) < (a0.size : Int)) = false := decide_eq_false (by omega)
  have d1 : decide ((131072 : Int) < (a1.size : Int)) = false := decide_eq_false (by omega)
  have d2 : decide ((131072 : Int) < (a2.size : Int)) = false := decide_eq_false (by omega)
  have d3 : decide ((131072 : Int) < (a3.size : Int)) = false := decide_eq_false (by omega)
  have d4 : decide ((131072 : Int) < (a4.size : Int)) = false := decide_eq_false (by omega)
  have d5 : decide ((131072 : Int) < (a5.size : Int)) = false := decide_eq_false (by omega)
  have c0 := allSpace_any a0 w (by omega)
  rw [b0] at c0
  have c2 := allSpace_any a2 w (by omega)
  rw [b2] at c2
  have c3 := allSpace_any a3 w (by omega)
  rw [b3] at c3
  have HP : Hid ((39 : UInt8) ∉ a4.data.toList → Pl.psa (a0 ++ a1 ++ a2 ++ ⟨#[61]⟩ ++ a3 ++ ⟨#[39]⟩ ++ a4 ++ ⟨#[39]⟩ ++ a5).data.toList a1.data.toList true = (a4.data.toList, a5.data.toList, true)) := fun hq => by
    rw [whole_list]
    exact Pl.psa_reads _ _ _ _ _ _ 39 true ((Pl.allSp_iff _).1 b0) ((Pl.allSp_iff _).1 b2) ((Pl.allSp_iff _).1 b3) (head_not a1 hN hsp) (fun _ => ne_nil a0 hS) (Or.inr rfl) hq
  have HM : Hid (w.cell? ⟨0, 0, none⟩ = some (.int .i64 m)) := hm
  have cS := space_any a1[0] w
  rw [hsp] at cS
  have hpos : (0 : Int) < (a1.size : Int) := by omega
  clear hsp
  have hpz : ((a0.size : Int) == 0) = false := beq_eq_false_iff_ne.2 (by omega)
  clear b0 b2 b3 hm
  go_enter Try.func5, Try.ntmps5
  go_wp2_with (go_at_call 11; refine cB.mono ?_; rintro e wa ⟨rfl, hwa⟩; replace hwa := hwa.symm; subst hwa)
  refine c0.mono ?_
  rintro e wa ⟨rfl, hwa⟩
  replace hwa := hwa.symm
  subst hwa
  go_wp2_with fail
  refine c2.mono ?_
  rintro e wa ⟨rfl, hwa⟩
  replace hwa := hwa.symm
  subst hwa
  go_wp2_with fail
  refine c3.mono ?_
  rintro e wa ⟨rfl, hwa⟩
  replace hwa := hwa.symm
  subst hwa
  go_wp2_with fail
  refine cS.mono ?_
  rintro e wa ⟨rfl, hwa⟩
  replace hwa := hwa.symm
  subst hwa
  go_wp2_with fail
  clear cS
  clear cB c0 c2 c3
  go_loopw [18] (fun i wr => ∃ k : Nat, k ≤ a4.size ∧ i = .int .i64 k ∧ (39 : UInt8) ∉ a4.data.toList.take k ∧ Below w.heap.size w wr) (fun i _ => a4.size - (intOf i).toNat)
  case atStart => exact ⟨0, Nat.zero_le _, rfl, by simp, Below.refl _ _⟩
  case round =>
    obtain ⟨k, hk, rfl, hn1, hb⟩ := hrel
    have H1 : Hid ((39 : UInt8) ∉ a4.data.toList.take k) := hn1
    clear hn1
    by_cases hlt : k < a4.size
    · have hki : (k : Int) < (a4.size : Int) := by omega
      cases hc : ((a4[k].toNat : Int) == 39) with
      | true =>
        have hcq : ((a4[k].toNat : Int) == (((⟨#[39]⟩ : ByteArray)[0]'(by decide)).toNat : Int)) = true := hc
        clear hc
        go_wp2_with fail
        go_quiet (fail)
        go_wp2
        go_ret
        exact ⟨rfl, below_drewN' hb _⟩
      | false =>
        have hcq : ((a4[k].toNat : Int) == (((⟨#[39]⟩ : ByteArray)[0]'(by decide)).toNat : Int)) = false := hc
        have HC : Hid (a4[k] ≠ 39) := ne_of_int (n := 39) (by omega) hc
        clear hc
        go_wp2_with fail
        go_quiet (fail)
        go_wp2
        go_roundw
        case rel => exact ⟨k + 1, by omega, by go_num, mem_take hlt rfl H1.out HC.out, below_drewN' hb _⟩
        case measure => simp [intOf]; omega
    · have HPk : Hid _ := HP.out (by
        have := H1.out
        rw [List.take_of_length_le (by rw [← size_list]; omega)] at this
        exact this)
      have HMr : Hid (wr.cell? ⟨0, 0, none⟩ = some (.int .i64 m)) := (hb.cell (p := ⟨0, 0, none⟩) h0).trans HM.out
      have hz1 := hb.size
      clear HP H1 HM
      go_wp2_with fail
      refine (zzPseudo_b _ a1 a4 a5 true true m wr HMr.out (by omega) (whole_size _ _ _ _ _ _ _ hA g0 g1 g2 g3 g4 g5) HPk.out).mono ?_
      rintro e w3 ⟨rfl, hb3⟩
      go_wp2
      go_ret
      exact ⟨ret_bool (by simp), hb.trans (hb3.mono hz1)⟩

set_option maxHeartbeats 4000000 in
theorem main_some_sp_dbl (a0 a1 a2 a3 a4 a5 : ByteArray) (m : Int) (w : World) (hm : w.cell? ⟨0, 0, none⟩ = some (.int .i64 m)) (h0 : 0 < w.heap.size) (hA : a0.size + a1.size + a2.size + a3.size + a4.size + a5.size ≤ 1048576)
    (g0 : a0.size ≤ 131072) (g1 : a1.size ≤ 131072) (g2 : a2.size ≤ 131072) (g3 : a3.size ≤ 131072) (g4 : a4.size ≤ 131072) (g5 : a5.size ≤ 131072)
    (b0 : Pl.allSp a0.data.toList = true) (b2 : Pl.allSp a2.data.toList = true) (b3 : Pl.allSp a3.data.toList = true) (hN : 0 < a1.size) (hsp : Pl.sp a1[0] = false) (hS : 0 < a0.size) :
    Calls Try.prog 5 #[.string a0, .string a1, .string a2, .string a3, .string a4, .string a5, .bool true, .bool true] w fun e w' => e = .returned (.bool true) ∧ Below w.heap.size w w' := by
  have cB := bytes11 a0 a1 a2 a3 a4 a5 true true w (by unfold maxLen; omega) (by unfold maxLen; omega) (by unfold maxLen; omega) (by unfold maxLen; omega) (by unfold maxLen; omega) (by unfold maxLen; omega)
  rw [decide_eq_true hA] at cB
  have d0 : decide ((131072 : Int) < (a0.size : Int)) = false := decide_eq_false (by omega)
  have d1 : decide ((131072 : Int) < (a1.size : Int)) = false := decide_eq_false (by omega)
  have d2 : decide ((131072 : Int) < (a2.size : Int)) = false := decide_eq_false (by omega)
  have d3 : decide ((131072 : Int) < (a3.size : Int)) = false := decide_eq_false (by omega)
  have d4 : decide ((131072 : Int) < (a4.size : Int)) = false := decide_eq_false (by omega)
  have d5 : decide ((131072 : Int) < (a5.size : Int)) = false := decide_eq_false (by omega)
  have c0 := allSpace_any a0 w (by omega)
  rw [b0] at c0
  have c2 := allSpace_any a2 w (by omega)
  rw [b2] at c2
  have c3 := allSpace_any a3 w (by omega)
  rw [b3] at c3
  have HP : Hid ((34 : UInt8) ∉ a4.data.toList → Pl.psa (a0 ++ a1 ++ a2 ++ ⟨#[61]⟩ ++ a3 ++ ⟨#[34]⟩ ++ a4 ++ ⟨#[34]⟩ ++ a5).data.toList a1.data.toList true = (a4.data.toList, a5.data.toList, true)) := fun hq => by
    rw [whole_list]
    exact Pl.psa_reads _ _ _ _ _ _ 34 true ((Pl.allSp_iff _).1 b0) ((Pl.allSp_iff _).1 b2) ((Pl.allSp_iff _).1 b3) (head_not a1 hN hsp) (fun _ => ne_nil a0 hS) (Or.inl rfl) hq
  have HM : Hid (w.cell? ⟨0, 0, none⟩ = some (.int .i64 m)) := hm
  have cS := space_any a1[0] w
  rw [hsp] at cS
  have hpos : (0 : Int) < (a1.size : Int) := by omega
  clear hsp
  have hpz : ((a0.size : Int) == 0) = false := beq_eq_false_iff_ne.2 (by omega)
  clear b0 b2 b3 hm
  go_enter Try.func5, Try.ntmps5
  go_wp2_with (go_at_call 11; refine cB.mono ?_; rintro e wa ⟨rfl, hwa⟩; replace hwa := hwa.symm; subst hwa)
  refine c0.mono ?_
  rintro e wa ⟨rfl, hwa⟩
  replace hwa := hwa.symm
  subst hwa
  go_wp2_with fail
  refine c2.mono ?_
  rintro e wa ⟨rfl, hwa⟩
  replace hwa := hwa.symm
  subst hwa
  go_wp2_with fail
  refine c3.mono ?_
  rintro e wa ⟨rfl, hwa⟩
  replace hwa := hwa.symm
  subst hwa
  go_wp2_with fail
  refine cS.mono ?_
  rintro e wa ⟨rfl, hwa⟩
  replace hwa := hwa.symm
  subst hwa
  go_wp2_with fail
  clear cS
  clear cB c0 c2 c3
  go_loopw [18] (fun i wr => ∃ k : Nat, k ≤ a4.size ∧ i = .int .i64 k ∧ (34 : UInt8) ∉ a4.data.toList.take k ∧ Below w.heap.size w wr) (fun i _ => a4.size - (intOf i).toNat)
  case atStart => exact ⟨0, Nat.zero_le _, rfl, by simp, Below.refl _ _⟩
  case round =>
    obtain ⟨k, hk, rfl, hn1, hb⟩ := hrel
    have H1 : Hid ((34 : UInt8) ∉ a4.data.toList.take k) := hn1
    clear hn1
    by_cases hlt : k < a4.size
    · have hki : (k : Int) < (a4.size : Int) := by omega
      cases hc : ((a4[k].toNat : Int) == 34) with
      | true =>
        have hcq : ((a4[k].toNat : Int) == (((⟨#[34]⟩ : ByteArray)[0]'(by decide)).toNat : Int)) = true := hc
        clear hc
        go_wp2_with fail
        go_quiet (fail)
        go_wp2
        go_ret
        exact ⟨rfl, below_drewN' hb _⟩
      | false =>
        have hcq : ((a4[k].toNat : Int) == (((⟨#[34]⟩ : ByteArray)[0]'(by decide)).toNat : Int)) = false := hc
        have HC : Hid (a4[k] ≠ 34) := ne_of_int (n := 34) (by omega) hc
        clear hc
        go_wp2_with fail
        go_quiet (fail)
        go_wp2
        go_roundw
        case rel => exact ⟨k + 1, by omega, by go_num, mem_take hlt rfl H1.out HC.out, below_drewN' hb _⟩
        case measure => simp [intOf]; omega
    · have HPk : Hid _ := HP.out (by
        have := H1.out
        rw [List.take_of_length_le (by rw [← size_list]; omega)] at this
        exact this)
      have HMr : Hid (wr.cell? ⟨0, 0, none⟩ = some (.int .i64 m)) := (hb.cell (p := ⟨0, 0, none⟩) h0).trans HM.out
      have hz1 := hb.size
      clear HP H1 HM
      go_wp2_with fail
      refine (zzPseudo_b _ a1 a4 a5 true true m wr HMr.out (by omega) (whole_size _ _ _ _ _ _ _ hA g0 g1 g2 g3 g4 g5) HPk.out).mono ?_
      rintro e w3 ⟨rfl, hb3⟩
      go_wp2
      go_ret
      exact ⟨ret_bool (by simp), hb.trans (hb3.mono hz1)⟩

end Go.Proofs.Qxb6601675a.fnPseudoAttributeReadsWhatIsWritten
