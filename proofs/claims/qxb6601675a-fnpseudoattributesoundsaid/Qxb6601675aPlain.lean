/-
  THE PLAIN PART: what pseudoAttribute computes, over lists of bytes, and the plain laws on it. No program in this text.
-/
namespace Go.Proofs.Qxb6601675a.Pl

/-- XML white space. -/
def sp (c : UInt8) : Bool := c == 32 || c == 9 || c == 13 || c == 10

/-- All of it is white space. -/
def allSp (l : List UInt8) : Bool := l.all sp

theorem allSp_iff (l : List UInt8) : allSp l = true ↔ ∀ c, c ∈ l → sp c = true := by
  unfold allSp; simp

/-- The text before the first q, the text behind it, and whether there is one. -/
def cutq (q : UInt8) (l : List UInt8) : List UInt8 × List UInt8 × Bool :=
  match l.dropWhile (fun c => c != q) with
  | [] => (l, [], false)
  | _ :: r => (l.takeWhile (fun c => c != q), r, true)

/-- What stands behind the name: white space, '=', white space, a quoted text. -/
def psaVal (s r : List UInt8) : List UInt8 × List UInt8 × Bool :=
  match r.dropWhile sp with
  | [] => ([], s, false)
  | e :: r2 =>
    if e == 61 then
      match r2.dropWhile sp with
      | [] => ([], s, false)
      | q :: r4 =>
        if q == 34 || q == 39 then
          match cutq q r4 with
          | (v, t, true) => (v, t, true)
          | (_, _, false) => ([], s, false)
        else ([], s, false)
    else ([], s, false)

/-- pseudoAttribute. -/
def psa (s name : List UInt8) (spaced : Bool) : List UInt8 × List UInt8 × Bool :=
  if spaced && (s.dropWhile sp).length == s.length then ([], s, false)
  else if name.isPrefixOf (s.dropWhile sp) then psaVal s ((s.dropWhile sp).drop name.length)
  else ([], s, false)

theorem dw_len (p : UInt8 → Bool) (l : List UInt8) : (l.dropWhile p).length ≤ l.length := by
  induction l with
  | nil => simp
  | cons a t ih =>
    rw [List.dropWhile_cons]
    split
    · simp only [List.length_cons]; omega
    · exact Nat.le_refl _

theorem dw_all (p : UInt8 → Bool) (l t : List UInt8) (h : ∀ c, c ∈ l → p c = true) : (l ++ t).dropWhile p = t.dropWhile p := by
  induction l with
  | nil => rfl
  | cons a u ih =>
    rw [List.cons_append, List.dropWhile_cons, if_pos (h a (by simp))]
    exact ih fun c hc => h c (by simp [hc])

theorem dw_stop (p : UInt8 → Bool) (a : UInt8) (t : List UInt8) (h : p a = false) : (a :: t).dropWhile p = a :: t := by
  rw [List.dropWhile_cons, h]; rfl

/-- A list is what was dropped and what is left; what is left does not begin with one more. -/
theorem dw_split (p : UInt8 → Bool) (l : List UInt8) : ∃ pre, l = pre ++ l.dropWhile p ∧ (∀ c, c ∈ pre → p c = true) ∧ ∀ a t, l.dropWhile p = a :: t → p a = false := by
  induction l with
  | nil => exact ⟨[], rfl, by simp, by simp⟩
  | cons a u ih =>
    obtain ⟨pre, h1, h2, h3⟩ := ih
    by_cases ha : p a = true
    · refine ⟨a :: pre, ?_, ?_, ?_⟩
      · rw [List.dropWhile_cons, if_pos ha, List.cons_append, ← h1]
      · intro c hc
        rcases List.mem_cons.1 hc with rfl | hc
        · exact ha
        · exact h2 c hc
      · intro b t hb
        rw [List.dropWhile_cons, if_pos ha] at hb
        exact h3 b t hb
    · have ha' : p a = false := by simpa using ha
      refine ⟨[], ?_, by simp, ?_⟩
      · rw [dw_stop p a u ha']; rfl
      · intro b t hb
        rw [dw_stop p a u ha'] at hb
        injection hb with e _
        rw [← e]; exact ha'

theorem tw_all (p : UInt8 → Bool) (l : List UInt8) (a : UInt8) (t : List UInt8) (h : ∀ c, c ∈ l → p c = true) (ha : p a = false) : (l ++ a :: t).takeWhile p = l := by
  induction l with
  | nil => simp [ha]
  | cons b u ih =>
    rw [List.cons_append, List.takeWhile_cons, if_pos (h b (by simp)), ih fun c hc => h c (by simp [hc])]

theorem cutq_hit (q : UInt8) (v r : List UInt8) (h : q ∉ v) : cutq q (v ++ q :: r) = (v, r, true) := by
  have hv : ∀ c, c ∈ v → (fun c => c != q) c = true := by
    intro c hc
    show (c != q) = true
    rw [bne_iff_ne]
    rintro rfl
    exact h hc
  have hq : (fun c => c != q) q = false := by simp
  unfold cutq
  rw [dw_all _ v (q :: r) hv, dw_stop (fun c => c != q) q r hq]
  show (List.takeWhile (fun c => c != q) (v ++ q :: r), r, true) = _
  rw [tw_all _ v q r hv hq]

theorem cutq_of (q : UInt8) (l v r : List UInt8) (h : cutq q l = (v, r, true)) : l = v ++ q :: r ∧ q ∉ v := by
  obtain ⟨pre, h1, h2, h3⟩ := dw_split (fun c => c != q) l
  unfold cutq at h
  generalize hd : l.dropWhile (fun c => c != q) = d at h h1 h3
  cases d with
  | nil => simp at h
  | cons a t =>
    have ha : a = q := by simpa using h3 a t rfl
    subst ha
    simp only [Prod.mk.injEq] at h
    obtain ⟨e1, e2, _⟩ := h
    subst e2
    have hq : a ∉ pre := fun hc => by simpa using h2 a hc
    have : l.takeWhile (fun c => c != a) = pre := by
      rw [h1]
      exact tw_all _ pre a t h2 (by simp)
    rw [this] at e1
    subst e1
    exact ⟨h1, hq⟩

theorem psaVal_no (s r : List UInt8) : (psaVal s r).2.2 = false → psaVal s r = ([], s, false) := by
  unfold psaVal
  split
  · intro _; rfl
  · split
    · split
      · intro _; rfl
      · split
        · split
          · intro h; simp at h
          · intro _; rfl
        · intro _; rfl
    · intro _; rfl

/-- A refusal is just the empty text, s and false. -/
theorem psa_no (s name : List UInt8) (spaced : Bool) (h : (psa s name spaced).2.2 = false) : psa s name spaced = ([], s, false) := by
  unfold psa at h ⊢
  by_cases h1 : (spaced && (s.dropWhile sp).length == s.length) = true
  · rw [if_pos h1]
  · rw [if_neg h1] at h ⊢
    by_cases h2 : name.isPrefixOf (s.dropWhile sp) = true
    · rw [if_pos h2] at h ⊢
      exact psaVal_no _ _ h
    · rw [if_neg h2]

theorem psaVal_ok (s r v t : List UInt8) (h : psaVal s r = (v, t, true)) :
    ∃ mid post q, r = mid ++ 61 :: (post ++ q :: (v ++ q :: t)) ∧ (∀ c, c ∈ mid → sp c = true) ∧ (∀ c, c ∈ post → sp c = true) ∧ (q = 34 ∨ q = 39) ∧ q ∉ v ∧ (∀ a u, r = a :: u → sp a = false → mid = []) := by
  obtain ⟨mid, h1, h2, _⟩ := dw_split sp r
  unfold psaVal at h
  generalize hd : r.dropWhile sp = d at h h1
  cases d with
  | nil => simp at h
  | cons e r2 =>
    by_cases he : e = 61
    · subst he
      obtain ⟨post, g1, g2, _⟩ := dw_split sp r2
      simp only [beq_self_eq_true, if_true] at h
      generalize hd2 : r2.dropWhile sp = d2 at h g1
      cases d2 with
      | nil => simp at h
      | cons q r4 =>
        by_cases hq : (q == 34 || q == 39) = true
        · simp only [hq, if_true] at h
          have hq' : q = 34 ∨ q = 39 := by simpa using hq
          generalize hc : cutq q r4 = c at h
          obtain ⟨c1, c2, c3⟩ := c
          cases c3 with
          | false => simp at h
          | true =>
            simp only [Prod.mk.injEq, and_true] at h
            obtain ⟨rfl, rfl⟩ := h
            obtain ⟨k1, k2⟩ := cutq_of q r4 c1 c2 hc
            refine ⟨mid, post, q, ?_, h2, g2, hq', k2, ?_⟩
            · rw [h1, g1, k1]
            · intro a u hr ha
              cases mid with
              | nil => rfl
              | cons b m =>
                rw [hr, List.cons_append] at h1
                injection h1 with e1 _
                have := h2 b (by simp)
                rw [← e1, ha] at this
                simp at this
        · simp only [hq] at h
          simp at h
    · have : (e == 61) = false := by simpa using he
      simp only [this] at h
      simp at h

/-- WHAT AN ANSWER MEANS. -/
theorem psa_ok (s name v t : List UInt8) (spaced : Bool) (h : psa s name spaced = (v, t, true)) :
    ∃ pre mid post q, s = pre ++ (name ++ (mid ++ 61 :: (post ++ q :: (v ++ q :: t)))) ∧ (∀ c, c ∈ pre → sp c = true) ∧ (∀ c, c ∈ mid → sp c = true) ∧ (∀ c, c ∈ post → sp c = true)
      ∧ (q = 34 ∨ q = 39) ∧ q ∉ v ∧ (spaced = true → pre ≠ []) ∧ (∀ a u, name ++ mid = a :: u → sp a = false) := by
  obtain ⟨pre, h1, h2, h3⟩ := dw_split sp s
  unfold psa at h
  by_cases g1 : (spaced && (s.dropWhile sp).length == s.length) = true
  · rw [if_pos g1] at h; simp at h
  · rw [if_neg g1] at h
    by_cases g2 : name.isPrefixOf (s.dropWhile sp) = true
    · rw [if_pos g2] at h
      generalize hd : s.dropWhile sp = d at h g1 g2 h1 h3
      rw [List.isPrefixOf_iff_prefix] at g2
      obtain ⟨u, rfl⟩ := g2
      rw [List.drop_left] at h
      obtain ⟨mid, post, q, k1, k2, k3, k4, k5, k6⟩ := psaVal_ok s u v t h
      refine ⟨pre, mid, post, q, ?_, h2, k2, k3, k4, k5, ?_, ?_⟩
      · rw [h1, k1]
      · intro hs hp
        subst hp
        subst hs
        rw [List.nil_append] at h1
        rw [← h1] at g1
        simp at g1
      · intro a w haw
        cases name with
        | nil =>
          rw [List.nil_append] at haw
          subst haw
          have hu : ([] ++ u : List UInt8) = a :: (w ++ 61 :: (post ++ q :: (v ++ q :: t))) := by rw [k1]; rfl
          exact h3 a _ hu
        | cons b n =>
          rw [List.cons_append] at haw
          injection haw with e _
          rw [← e]
          exact h3 b (n ++ u) rfl
    · rw [if_neg g2] at h; simp at h

/-- s begins with white space: spaced or not is one. -/
theorem psa_spaced (c : UInt8) (t name : List UInt8) (h : sp c = true) : psa (c :: t) name true = psa (c :: t) name false := by
  have : ((c :: t).dropWhile sp).length ≤ t.length := by
    rw [List.dropWhile_cons, if_pos h]; exact dw_len sp t
  have e : (((c :: t).dropWhile sp).length == (c :: t).length) = false := by
    rw [beq_eq_false_iff_ne, List.length_cons]; omega
  unfold psa
  rw [e]
  rfl

/-- s does not: the spaced call refuses. -/
theorem psa_bare (s name : List UInt8) (h : ∀ c t, s = c :: t → sp c = false) : psa s name true = ([], s, false) := by
  have : s.dropWhile sp = s := by
    cases s with
    | nil => rfl
    | cons c t => exact dw_stop sp c t (h c t rfl)
  unfold psa
  simp [this]

theorem psaVal_reads (s mid post v t : List UInt8) (q : UInt8) (h2 : ∀ c, c ∈ mid → sp c = true) (h3 : ∀ c, c ∈ post → sp c = true) (hq : q = 34 ∨ q = 39) (hv : q ∉ v) :
    psaVal s (mid ++ 61 :: (post ++ q :: (v ++ q :: t))) = (v, t, true) := by
  have hsq : sp q = false := by rcases hq with rfl | rfl <;> decide
  have hqq : (q == 34 || q == 39) = true := by simpa using hq
  unfold psaVal
  rw [dw_all sp mid _ h2, dw_stop sp 61 _ (by decide)]
  simp only [beq_self_eq_true, if_true]
  rw [dw_all sp post _ h3, dw_stop sp q _ hsq]
  simp only [hqq, if_true, cutq_hit q v t hv]

/-- WHAT IS WRITTEN IS READ. -/
theorem psa_reads (pre name mid post v t : List UInt8) (q : UInt8) (spaced : Bool) (h1 : ∀ c, c ∈ pre → sp c = true) (h2 : ∀ c, c ∈ mid → sp c = true) (h3 : ∀ c, c ∈ post → sp c = true)
    (hn : ∀ c u, name = c :: u → sp c = false) (hs : spaced = true → pre ≠ []) (hq : q = 34 ∨ q = 39) (hv : q ∉ v) :
    psa (pre ++ (name ++ (mid ++ 61 :: (post ++ q :: (v ++ q :: t))))) name spaced = (v, t, true) := by
  have hdrop : (pre ++ (name ++ (mid ++ 61 :: (post ++ q :: (v ++ q :: t))))).dropWhile sp = (name ++ (mid ++ 61 :: (post ++ q :: (v ++ q :: t)))).dropWhile sp := dw_all sp pre _ h1
  cases name with
  | nil =>
    have hd2 : ([] ++ (mid ++ 61 :: (post ++ q :: (v ++ q :: t)))).dropWhile sp = 61 :: (post ++ q :: (v ++ q :: t)) := by
      rw [List.nil_append, dw_all sp mid _ h2, dw_stop sp 61 _ (by decide)]
    have hlen : (spaced && (61 :: (post ++ q :: (v ++ q :: t))).length == (pre ++ ([] ++ (mid ++ 61 :: (post ++ q :: (v ++ q :: t))))).length) = false := by
      cases spaced with
      | false => rfl
      | true =>
        have : 0 < pre.length := List.length_pos_iff.2 (hs rfl)
        rw [Bool.true_and, beq_eq_false_iff_ne]
        simp only [List.length_append, List.length_cons, List.length_nil]
        omega
    unfold psa
    rw [hdrop, hd2, hlen]
    simp only [Bool.false_eq_true, if_false, List.isPrefixOf, if_true, List.length_nil, List.drop_zero]
    exact psaVal_reads _ [] post v t q (by simp) h3 hq hv
  | cons c u =>
    have hd2 : ((c :: u) ++ (mid ++ 61 :: (post ++ q :: (v ++ q :: t)))).dropWhile sp = (c :: u) ++ (mid ++ 61 :: (post ++ q :: (v ++ q :: t))) := by
      rw [List.cons_append]; exact dw_stop sp c _ (hn c u rfl)
    have hlen : (spaced && ((c :: u) ++ (mid ++ 61 :: (post ++ q :: (v ++ q :: t)))).length == (pre ++ ((c :: u) ++ (mid ++ 61 :: (post ++ q :: (v ++ q :: t))))).length) = false := by
      cases spaced with
      | false => rfl
      | true =>
        have : 0 < pre.length := List.length_pos_iff.2 (hs rfl)
        rw [Bool.true_and, beq_eq_false_iff_ne]
        simp only [List.length_append]
        omega
    have hpre : (c :: u).isPrefixOf ((c :: u) ++ (mid ++ 61 :: (post ++ q :: (v ++ q :: t)))) = true := by
      rw [List.isPrefixOf_iff_prefix]; exact List.prefix_append _ _
    unfold psa
    rw [hdrop, hd2, hlen, hpre, List.drop_left]
    simp only [Bool.false_eq_true, if_false, if_true]
    exact psaVal_reads _ mid post v t q h2 h3 hq hv

/-! ### The steps of psa, as the program takes them -/

theorem psa_len (s name : List UInt8) (hl : (s.dropWhile sp).length = s.length) : psa s name true = ([], s, false) := by
  unfold psa
  rw [hl]
  simp

theorem psa_guard (s : List UInt8) (spaced : Bool) (hl : spaced = true → (s.dropWhile sp).length ≠ s.length) : (spaced && (s.dropWhile sp).length == s.length) = false := by
  cases spaced with
  | false => rfl
  | true => rw [Bool.true_and, beq_eq_false_iff_ne]; exact hl rfl

theorem psa_pre (s name : List UInt8) (spaced : Bool) (hl : spaced = true → (s.dropWhile sp).length ≠ s.length) (hp : name.isPrefixOf (s.dropWhile sp) = false) : psa s name spaced = ([], s, false) := by
  unfold psa
  rw [psa_guard s spaced hl, hp]
  rfl

theorem psa_val (s name : List UInt8) (spaced : Bool) (hl : spaced = true → (s.dropWhile sp).length ≠ s.length) (hp : name.isPrefixOf (s.dropWhile sp) = true) : psa s name spaced = psaVal s ((s.dropWhile sp).drop name.length) := by
  unfold psa
  rw [psa_guard s spaced hl, hp]
  rfl

/-- What stands behind '=' and white space. -/
def psaQ (s r : List UInt8) : List UInt8 × List UInt8 × Bool :=
  match r with
  | [] => ([], s, false)
  | q :: r4 =>
    if q == 34 || q == 39 then
      match cutq q r4 with
      | (v, t, true) => (v, t, true)
      | (_, _, false) => ([], s, false)
    else ([], s, false)

theorem pre_cons (q : UInt8) (r : List UInt8) (h : [q].isPrefixOf r = true) : ∃ t, r = q :: t := by
  rw [List.isPrefixOf_iff_prefix] at h
  obtain ⟨t, ht⟩ := h
  exact ⟨t, ht.symm⟩

theorem psaVal_no1 (s r : List UInt8) (h : [61].isPrefixOf (r.dropWhile sp) = false) : psaVal s r = ([], s, false) := by
  unfold psaVal
  cases hd : r.dropWhile sp with
  | nil => rfl
  | cons e t =>
    rw [hd] at h
    have : (e == 61) = false := by
      rw [beq_eq_false_iff_ne]
      rintro rfl
      simp [List.isPrefixOf] at h
    simp only [this]
    rfl

theorem psaVal_q (s r : List UInt8) (h : [61].isPrefixOf (r.dropWhile sp) = true) : psaVal s r = psaQ s (((r.dropWhile sp).drop 1).dropWhile sp) := by
  obtain ⟨t, ht⟩ := pre_cons 61 _ h
  unfold psaVal psaQ
  rw [ht]
  rfl

theorem psaQ_no (s r : List UInt8) (h1 : [34].isPrefixOf r = false) (h2 : [39].isPrefixOf r = false) : psaQ s r = ([], s, false) := by
  unfold psaQ
  cases r with
  | nil => rfl
  | cons q t =>
    have : (q == 34 || q == 39) = false := by
      rw [Bool.eq_false_iff]
      intro hq
      have hq' : q = 34 ∨ q = 39 := by simpa using hq
      rcases hq' with rfl | rfl
      · simp [List.isPrefixOf] at h1
      · simp [List.isPrefixOf] at h2
    simp only [this]
    rfl

theorem psaQ_yes (s t : List UInt8) (q : UInt8) (hq : q = 34 ∨ q = 39) (h : (cutq q t).2.2 = true) : psaQ s (q :: t) = cutq q t := by
  have : (q == 34 || q == 39) = true := by simpa using hq
  unfold psaQ
  simp only [this, if_true]
  generalize cutq q t = c at h
  obtain ⟨c1, c2, c3⟩ := c
  simp only at h
  subst h
  rfl

theorem psaQ_cut (s t : List UInt8) (q : UInt8) (hq : q = 34 ∨ q = 39) (h : (cutq q t).2.2 = false) : psaQ s (q :: t) = ([], s, false) := by
  have : (q == 34 || q == 39) = true := by simpa using hq
  unfold psaQ
  simp only [this, if_true]
  generalize cutq q t = c at h
  obtain ⟨c1, c2, c3⟩ := c
  simp only at h
  subst h
  rfl

end Go.Proofs.Qxb6601675a.Pl
