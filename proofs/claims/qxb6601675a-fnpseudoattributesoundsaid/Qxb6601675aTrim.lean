/-
  THE BRIDGE FROM THE LIBRARY'S OWN WORDS (trimLeftF, cut) TO THE PLAIN LISTS.
-/
import Derived.Shelf.GgClosure.StringsTrimFunc
import Derived.Laws.RangeAny
import Derived.Lib.IndexMore
import Derived.Test.Qxb6601675aPlain
namespace Go.Proofs.Qxb6601675a
open Go.Lib

/-- White space among runes. -/
def spR (r : Nat) : Bool := r == 32 || r == 9 || r == 13 || r == 10

theorem spR_byte (c : UInt8) : spR c.toNat = Pl.sp c := by
  unfold Pl.sp spR
  rw [Bool.eq_iff_iff]
  simp [← UInt8.toNat_inj]

theorem spR_high (n : Nat) (h : 128 ≤ n) : spR n = false := by
  unfold spR
  rw [Bool.eq_false_iff]
  simp
  omega

theorem drop_at' (s : ByteArray) (k : Nat) (h : k < s.size) : s.data.toList.drop k = s[k] :: s.data.toList.drop (k + 1) := by
  have h' : k < s.data.toList.length := by rw [← Lib.size_eq]; exact h
  rw [List.drop_eq_getElem_cons h']
  rfl

theorem idx_sp (s : ByteArray) : ∀ (f pos : Nat), s.size ≤ pos + f →
    (idxFuncFrom spR false s f pos = -1 ∧ (s.data.toList.drop pos).dropWhile Pl.sp = []) ∨ (∃ i : Nat, idxFuncFrom spR false s f pos = i ∧ i < s.size ∧ (s.data.toList.drop pos).dropWhile Pl.sp = s.data.toList.drop i)
  | 0, pos, h => by
    left
    refine ⟨rfl, ?_⟩
    rw [List.drop_eq_nil_iff.2 (by rw [← Lib.size_eq]; omega)]
    rfl
  | f + 1, pos, h => by
    by_cases hp : pos < s.size
    · have hd := drop_at' s pos hp
      by_cases ha : s[pos].toNat < 128
      · have hdec := decode_ascii s pos hp ha
        unfold idxFuncFrom
        rw [if_pos hp, hdec]
        simp only [spR_byte]
        by_cases hsp : Pl.sp s[pos] = true
        · rw [if_neg (by rw [hsp]; simp), hd, List.dropWhile_cons, if_pos hsp]
          exact idx_sp s f (pos + 1) (by omega)
        · have hsp' : Pl.sp s[pos] = false := by simpa using hsp
          rw [if_pos hsp']
          right
          refine ⟨pos, rfl, hp, ?_⟩
          rw [hd, List.dropWhile_cons, hsp']
          rfl
      · have hdec := decode_high s pos hp (by omega)
        have hsp' : Pl.sp s[pos] = false := by rw [← spR_byte]; exact spR_high _ (by omega)
        unfold idxFuncFrom
        rw [if_pos hp, if_pos (spR_high _ hdec.1)]
        right
        refine ⟨pos, rfl, hp, ?_⟩
        rw [hd, List.dropWhile_cons, hsp']
        rfl
    · left
      refine ⟨idxFuncFrom_end _ _ _ _ _ hp, ?_⟩
      rw [List.drop_eq_nil_iff.2 (by rw [← Lib.size_eq]; omega)]
      rfl

/-- strings.TrimLeftFunc(s, isXMLSpace), in plain words. -/
theorem trimLeft_sp (s : ByteArray) : trimLeftF spR s = ⟨(s.data.toList.dropWhile Pl.sp).toArray⟩ := by
  have h := idx_sp s s.size 0 (by omega)
  rw [List.drop_zero] at h
  unfold trimLeftF idxFunc
  rcases h with ⟨h1, h2⟩ | ⟨i, h1, h2, h3⟩
  · rw [h1, if_pos rfl, h2]
  · rw [h1, if_neg (by omega), h3, Lib.extract_eq, Int.toNat_natCast]
    congr 2
    rw [List.take_of_length_le]
    rw [List.length_drop, ← Lib.size_eq]
    omega

theorem occ_one (q : UInt8) (l : List UInt8) (j : Nat) : occAt l [q] j = true ↔ l[j]? = some q := by
  unfold occAt
  rw [List.isPrefixOf_iff_prefix]
  constructor
  · rintro ⟨t, ht⟩
    have : (l.drop j)[0]? = some q := by rw [← ht]; rfl
    rw [List.getElem?_drop] at this
    simpa using this
  · intro h
    obtain ⟨hj, e⟩ := List.getElem?_eq_some_iff.1 h
    rw [List.drop_eq_getElem_cons hj, e]
    exact ⟨_, rfl⟩

/-- strings.Cut at a separator of one byte. -/
theorem cut_one (q : UInt8) (l : List UInt8) : cut l [q] = Pl.cutq q l := by
  obtain ⟨pre, h1, h2, h3⟩ := Pl.dw_split (fun c => c != q) l
  cases hd : l.dropWhile (fun c => c != q) with
  | nil =>
    rw [hd, List.append_nil] at h1
    have hno : ∀ j, occAt l [q] j = false := by
      intro j
      rw [Bool.eq_false_iff, ne_eq, occ_one]
      intro hj
      have := h2 q (by rw [← h1]; exact List.mem_of_getElem? hj)
      simp at this
    unfold Pl.cutq cut
    rw [hd]
    rcases index_spec l [q] with ⟨h, _⟩ | ⟨i, _, _, h, _⟩
    · rw [h, if_neg (by omega)]
    · rw [hno i] at h; simp at h
  | cons a r =>
    have ha : a = q := by simpa using h3 a r hd
    subst ha
    have hq : a ∉ pre := fun hc => by simpa using h2 a hc
    rw [hd] at h1
    rw [h1, Pl.cutq_hit a pre r hq]
    have hi : index (pre ++ a :: r) [a] = pre.length := by
      refine index_first (by simp) ?_ ?_
      · rw [occ_one]; simp
      · intro j hj
        rw [Bool.eq_false_iff, ne_eq, occ_one, List.getElem?_append_left hj]
        intro e
        exact hq (List.mem_of_getElem? e)
    unfold cut
    rw [hi, if_pos (by omega), Int.toNat_natCast]
    simp

end Go.Proofs.Qxb6601675a
