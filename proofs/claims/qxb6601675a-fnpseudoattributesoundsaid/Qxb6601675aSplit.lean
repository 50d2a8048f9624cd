/-
  AN ANSWER OF pseudoAttribute, SAID OF THE PLACES IN s: what the law FnPseudoAttributeSound looks up.
-/
import Derived.Test.Qxb6601675aSmall
import Derived.Lib.Strings
namespace Go.Proofs.Qxb6601675a

theorem at_len {x y : List UInt8} {c : UInt8} : (x ++ c :: y)[x.length]? = some c := by
  rw [List.getElem?_append_right (Nat.le_refl _)]; simp

theorem get_of {S : ByteArray} {k : Nat} {c : UInt8} (h : k < S.size) (e : S.data.toList[k]? = some c) : S[k] = c := by
  have := get_list S k h
  rw [this] at e
  exact Option.some.inj e

theorem ext_of {S : ByteArray} {a b : Nat} {x y z : List UInt8} (h : S.data.toList = x ++ (y ++ z)) (ha : a = x.length) (hb : b = a + y.length) : S.extract a b = ⟨y.toArray⟩ := by
  rw [Lib.extract_eq, h]
  congr 2
  subst ha
  subst hb
  rw [List.drop_left]
  have : x.length + y.length - x.length = y.length := by omega
  rw [this, List.take_left]

theorem head_sp {l : List UInt8} {c : UInt8} (h : ∀ a u, l = a :: u → Pl.sp a = false) (e : l[0]? = some c) : Pl.sp c = false := by
  cases l with
  | nil => simp at e
  | cons a u =>
    have ea : a = c := Option.some.inj e
    rw [← ea]
    exact h a u rfl

/-- What the law looks up, at numbers that stand for the places. -/
structure Split (S Nm Vb Rb Pb Mb : ByteArray) (spaced : Bool) (q : UInt8) (E E1 O O1 J K P PN : Nat) : Prop where
  hE : E + Rb.size = S.size
  hE1 : E1 + 1 = E
  hO : O + 2 + Vb.size = E
  hO1 : O + 1 = O1
  hJ : K + 1 = J
  hJO : J ≤ O
  hPN : P + Nm.size = PN
  hPK : PN ≤ K
  rest : S.extract E S.size = Rb
  val : S.extract O1 E1 = Vb
  hq : q = 34 ∨ q = 39
  atE1 : ∀ h : E1 < S.size, S[E1] = q
  atO : ∀ h : O < S.size, S[O] = q
  noq : ∀ k (h : k < Vb.size), Vb[k] ≠ q
  post : ∀ j (h : j < S.size), J ≤ j → j < O → Pl.sp S[j] = true
  atK : ∀ h : K < S.size, S[K] = 61
  pre : S.extract 0 K = Pb
  preSize : Pb.size = K
  spP : ∀ k (h : k < Pb.size), k < P → Pl.sp Pb[k] = true
  nsP : ∀ h : P < Pb.size, Pl.sp Pb[P] = false
  spc : spaced = true → 0 < P
  nam : Pb.extract P PN = Nm
  mid : Pb.extract PN K = Mb
  midSp : Pl.allSp Mb.data.toList = true

theorem split_of (S Nm Vb Rb : ByteArray) (spaced : Bool) (h : Pl.psa S.data.toList Nm.data.toList spaced = (Vb.data.toList, Rb.data.toList, true)) :
    ∃ Pb Mb q E E1 O O1 J K P PN, Split S Nm Vb Rb Pb Mb spaced q E E1 O O1 J K P PN := by
  obtain ⟨pre, mid, post, q, hs, h1, h2, h3, hq, hv, hsp, hhd⟩ := Pl.psa_ok _ _ _ _ _ h
  have zS := size_list S
  have zN := size_list Nm
  have zV := size_list Vb
  have zR := size_list Rb
  have hlen := congrArg List.length hs
  simp only [List.length_append, List.length_cons] at hlen
  have s1 : S.data.toList = (pre ++ (Nm.data.toList ++ mid)) ++ 61 :: (post ++ q :: (Vb.data.toList ++ q :: Rb.data.toList)) := by rw [hs]; simp
  have s2 : S.data.toList = (pre ++ (Nm.data.toList ++ mid) ++ 61 :: post) ++ q :: (Vb.data.toList ++ q :: Rb.data.toList) := by rw [hs]; simp
  have s3 : S.data.toList = (pre ++ (Nm.data.toList ++ mid) ++ 61 :: (post ++ q :: Vb.data.toList)) ++ q :: Rb.data.toList := by rw [hs]; simp
  have z1 : (pre ++ (Nm.data.toList ++ mid)).length = pre.length + Nm.data.toList.length + mid.length := by simp; omega
  have z2 : (pre ++ (Nm.data.toList ++ mid) ++ 61 :: post).length = pre.length + Nm.data.toList.length + mid.length + 1 + post.length := by simp; omega
  have z3 : (pre ++ (Nm.data.toList ++ mid) ++ 61 :: (post ++ q :: Vb.data.toList)).length = pre.length + Nm.data.toList.length + mid.length + 1 + post.length + 1 + Vb.data.toList.length := by simp; omega
  have pS : S.extract 0 (pre.length + Nm.data.toList.length + mid.length) = ⟨(pre ++ (Nm.data.toList ++ mid)).toArray⟩ :=
    ext_of (x := []) (z := 61 :: (post ++ q :: (Vb.data.toList ++ q :: Rb.data.toList))) (by rw [s1]; simp) rfl (by rw [z1]; omega)
  refine ⟨⟨(pre ++ (Nm.data.toList ++ mid)).toArray⟩, ⟨mid.toArray⟩, q, pre.length + Nm.data.toList.length + mid.length + 1 + post.length + 1 + Vb.data.toList.length + 1,
    pre.length + Nm.data.toList.length + mid.length + 1 + post.length + 1 + Vb.data.toList.length, pre.length + Nm.data.toList.length + mid.length + 1 + post.length, pre.length + Nm.data.toList.length + mid.length + 1 + post.length + 1,
    pre.length + Nm.data.toList.length + mid.length + 1, pre.length + Nm.data.toList.length + mid.length, pre.length, pre.length + Nm.data.toList.length, ?_⟩
  exact {
    hE := by omega
    hE1 := rfl
    hO := by omega
    hO1 := rfl
    hJ := rfl
    hJO := by omega
    hPN := by omega
    hPK := by omega
    rest := by
      have e := ext_of (S := S) (a := pre.length + Nm.data.toList.length + mid.length + 1 + post.length + 1 + Vb.data.toList.length + 1) (b := S.size)
        (x := pre ++ (Nm.data.toList ++ mid) ++ 61 :: (post ++ q :: (Vb.data.toList ++ [q]))) (y := Rb.data.toList) (z := []) (by rw [hs]; simp) (by simp; omega) (by omega)
      exact e.trans (Lib.mk_data Rb)
    val := by
      have e := ext_of (S := S) (a := pre.length + Nm.data.toList.length + mid.length + 1 + post.length + 1) (b := pre.length + Nm.data.toList.length + mid.length + 1 + post.length + 1 + Vb.data.toList.length)
        (x := pre ++ (Nm.data.toList ++ mid) ++ 61 :: (post ++ [q])) (y := Vb.data.toList) (z := q :: Rb.data.toList) (by rw [hs]; simp) (by simp; omega) rfl
      exact e.trans (Lib.mk_data Vb)
    hq := hq
    atE1 := fun hk => get_of hk (by rw [s3, ← z3]; exact at_len)
    atO := fun hk => get_of hk (by rw [s2, ← z2]; exact at_len)
    noq := fun k hk e => hv (by rw [← e]; exact List.mem_of_getElem? (get_list Vb k hk))
    post := fun j hj h4 h5 => by
      have e := get_list S j hj
      rw [s1, List.getElem?_append_right (by omega), z1] at e
      have ej : j - (pre.length + Nm.data.toList.length + mid.length) = (j - (pre.length + Nm.data.toList.length + mid.length) - 1) + 1 := by omega
      rw [ej, List.getElem?_cons_succ, List.getElem?_append_left (by omega)] at e
      exact h3 _ (List.mem_of_getElem? e)
    atK := fun hk => get_of hk (by rw [s1, ← z1]; exact at_len)
    pre := pS
    preSize := z1
    spP := fun k hk h4 => by
      have e := get_list _ k hk
      have e' : (pre ++ (Nm.data.toList ++ mid))[k]? = some _ := e
      rw [List.getElem?_append_left h4] at e'
      exact h1 _ (List.mem_of_getElem? e')
    nsP := fun hk => by
      have e := get_list _ _ hk
      have e' : (pre ++ (Nm.data.toList ++ mid))[pre.length]? = some _ := e
      rw [List.getElem?_append_right (Nat.le_refl _), Nat.sub_self] at e'
      exact head_sp hhd e'
    spc := fun hsx => List.length_pos_iff.2 (hsp hsx)
    nam := by
      have e := ext_of (S := ⟨(pre ++ (Nm.data.toList ++ mid)).toArray⟩) (a := pre.length) (b := pre.length + Nm.data.toList.length) (x := pre) (y := Nm.data.toList) (z := mid) rfl rfl rfl
      exact e.trans (Lib.mk_data Nm)
    mid := ext_of (S := ⟨(pre ++ (Nm.data.toList ++ mid)).toArray⟩) (a := pre.length + Nm.data.toList.length) (b := pre.length + Nm.data.toList.length + mid.length) (x := pre ++ Nm.data.toList) (y := mid) (z := []) (by simp) (by simp) rfl
    midSp := (Pl.allSp_iff _).2 h2 }

end Go.Proofs.Qxb6601675a
