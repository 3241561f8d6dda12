import Derived.Test.Qxb6605488aPm
namespace Go.Proofs.Qxb6605488a
set_option linter.unusedVariables false
set_option linter.unusedSimpArgs false

/-- The lines joined. -/
def jn : List ByteArray → List Int
  | [] => []
  | [x] => bts x
  | x :: y :: r => bts x ++ 10 :: jn (y :: r)

theorem jn_cons (x : ByteArray) (r : List ByteArray) : jn (x :: r) = bts x ++ (if r = [] then [] else 10 :: jn r) := by
  cases r with
  | nil => simp [jn]
  | cons y r => simp [jn]

/-- 'strings.Join' gives these bytes. -/
theorem jn_join : ∀ (xs : List ByteArray), bts ⟨(Lib.join (xs.map (·.data.toList)) (⟨#[10]⟩ : ByteArray).data.toList).toArray⟩ = jn xs := by
  have key : ∀ (xs : List ByteArray), (Lib.join (xs.map (·.data.toList)) [10]).map (fun b => (b.toNat : Int)) = jn xs := by
    intro xs
    induction xs with
    | nil => simp [Lib.join_nil, jn]
    | cons x r ih =>
      rw [jn_cons]
      cases r with
      | nil => simp [Lib.join_one, bts]
      | cons y r =>
        rw [← ih]
        simp only [List.map_cons, Lib.join_cons, Lib.joinTail]
        simp [bts]
  intro xs
  have := key xs
  unfold bts
  simp only []
  exact this

theorem jn_len : ∀ (xs : List ByteArray), (jn xs).length ≤ (xs.map (fun s => s.size + 16)).sum := by
  intro xs
  induction xs with
  | nil => simp [jn]
  | cons x r ih =>
    rw [jn_cons]
    by_cases h : r = []
    · subst h; simp [bts_len]
    · simp [h, bts_len]
      omega

/-- Where line j begins. -/
def off (l : List ByteArray) (j : Nat) : Nat := ((l.take j).map (fun s => s.size + 1)).sum
theorem off_zero (l : List ByteArray) : off l 0 = 0 := by simp [off]
theorem off_succ (l : List ByteArray) (j : Nat) (h : j < l.length) : off l (j + 1) = off l j + ((l.getD j ByteArray.empty).size + 1) := by
  unfold off
  rw [List.take_succ_eq_append_getElem h, List.map_append, List.sum_append]
  simp [List.getD, h]
theorem off_drop : ∀ (l : List ByteArray) (j : Nat), j < l.length → off l j ≤ (jn l).length ∧ (jn l).drop (off l j) = jn (l.drop j) := by
  intro l
  induction l with
  | nil => intro j h; simp at h
  | cons x r ih =>
    intro j h
    cases j with
    | zero => simp [off]
    | succ j =>
      have hr : r ≠ [] := by intro e; subst e; simp at h
      have hj : j < r.length := by simpa using h
      have e : off (x :: r) (j + 1) = (x.size + 1) + off r j := by simp [off]
      obtain ⟨h1, h2⟩ := ih j hj
      rw [jn_cons, if_neg hr, e]
      constructor
      · simp [bts_len]; omega
      · rw [← List.drop_drop]
        have e2 : (bts x ++ 10 :: jn r).drop (x.size + 1) = jn r := by
          rw [List.drop_append, bts_len, List.drop_of_length_le (by rw [bts_len]; omega)]
          simp
        rw [e2, h2, List.drop_succ_cons]

theorem hid_pos (T : List Int) (h : 0 ≤ hid T) : hid T = run isMk T ∧ run isMk T < T.length ∧ (T.getD (run isMk T) 0 = 126 ∨ T.getD (run isMk T) 0 = 96 ∨ T.getD (run isMk T) 0 = 91) := by
  have hp : ∀ (p l : List Int), pf p l = true → 0 < p.length → l.getD 0 0 = p.getD 0 0 := by
    intro p l h hp
    unfold pf at h
    have := of_decide_eq_true h
    rw [← this]
    simp only [List.getD]
    rw [List.getElem?_take, if_pos hp]
  have hlt : ∀ c : Int, c ≠ 0 → (T.drop (run isMk T)).getD 0 0 = c → run isMk T < T.length := by
    intro c hc h
    rcases Nat.lt_or_ge (run isMk T) T.length with h1 | h1
    · exact h1
    · rw [List.drop_of_length_le h1] at h
      simp at h
      exact absurd h.symm hc
  unfold hid hidR at h ⊢
  by_cases h1 : pf [126, 126, 126] (T.drop (run isMk T)) = true
  · have e := hp _ _ h1 (by decide)
    rw [if_pos h1]
    refine ⟨rfl, hlt 126 (by decide) e, Or.inl ?_⟩
    rw [getD_drop, Nat.add_zero] at e
    exact e
  · rw [if_neg h1] at h ⊢
    by_cases h2 : pf [96, 96, 96] (T.drop (run isMk T)) = true
    · rw [if_pos h2] at h ⊢
      have e := hp _ _ h2 (by decide)
      by_cases h3 : tick (T.drop (run isMk T)) = true
      · rw [if_pos h3]
        refine ⟨rfl, hlt 96 (by decide) e, Or.inr (Or.inl ?_)⟩
        rw [getD_drop, Nat.add_zero] at e
        exact e
      · rw [if_neg h3] at h; omega
    · rw [if_neg h2] at h ⊢
      by_cases h3 : pf [91] (T.drop (run isMk T)) = true
      · rw [if_pos h3] at h ⊢
        have e := hp _ _ h3 (by decide)
        by_cases h4 : brk false ((T.drop (run isMk T)).drop 1) = true
        · rw [if_pos h4]
          refine ⟨rfl, hlt 91 (by decide) e, Or.inr (Or.inr ?_)⟩
          rw [getD_drop, Nat.add_zero] at e
          exact e
        · rw [if_neg h4] at h; omega
      · rw [if_neg h3] at h; omega

/-- A mark in a line: markers ahead of it, one of the three at it. -/
def MkAt (s : ByteArray) (m : Nat) : Prop := m < s.size ∧ (∀ k, k < m → isMk ((bts s).getD k 0) = true) ∧ ((bts s).getD m 0 = 126 ∨ (bts s).getD m 0 = 96 ∨ (bts s).getD m 0 = 91)

theorem getD_app (a b : List Int) (k : Nat) (h : k < a.length) : (a ++ b).getD k 0 = a.getD k 0 := by
  simp only [List.getD]
  rw [List.getElem?_append_left h]

theorem hid_app (s : ByteArray) (r : List Int) (hr : r = [] ∨ ∃ r', r = 10 :: r') (h : 0 ≤ hid (bts s ++ r)) : ∃ m : Nat, hid (bts s ++ r) = m ∧ MkAt s m := by
  obtain ⟨h1, h2, h3⟩ := hid_pos _ h
  obtain ⟨m, hm⟩ : ∃ m, m = run isMk (bts s ++ r) := ⟨_, rfl⟩
  have hl := run_lt isMk (bts s ++ r)
  rw [← hm] at h1 h2 h3 hl
  have hle : m < s.size := by
    rcases Nat.lt_trichotomy m s.size with hq | hq | hq
    · exact hq
    · rcases hr with rfl | ⟨r', rfl⟩
      · simp [bts_len] at h2; omega
      · have e : (bts s ++ 10 :: r').getD m 0 = 10 := by
          simp only [List.getD]
          rw [List.getElem?_append_right (by rw [bts_len]; omega), bts_len, hq]
          simp
        rw [e] at h3
        omega
    · rcases hr with rfl | ⟨r', rfl⟩
      · simp [bts_len] at h2; omega
      · have e : (bts s ++ 10 :: r').getD s.size 0 = 10 := by
          simp only [List.getD]
          rw [List.getElem?_append_right (by rw [bts_len]; omega), bts_len]
          simp
        have := (hl s.size hq).2
        rw [e] at this
        simp [isMk] at this
  refine ⟨m, h1, hle, fun k hk => ?_, ?_⟩
  · have := (hl k hk).2
    rw [getD_app _ _ _ (by rw [bts_len]; omega)] at this
    exact this
  · rw [getD_app _ _ _ (by rw [bts_len]; omega)] at h3
    exact h3

/-- The mark of line j in block bi (-1: none). -/
def mrk (st nb : Bool) (bi : Nat) (l : List ByteArray) (j : Nat) : Int :=
  if bi = 0 ∧ j = 0 ∧ st = false then -1
  else if nb = true ∨ j = 0 then hid (jn (l.drop j))
  else if fence (bts (l.getD j ByteArray.empty)) then hid (bts (l.getD j ByteArray.empty)) else -1

theorem mrk_at (st nb : Bool) (bi : Nat) (l : List ByteArray) (j : Nat) (hj : j < l.length) (h : 0 ≤ mrk st nb bi l j) : ∃ m : Nat, mrk st nb bi l j = m ∧ MkAt (l.getD j ByteArray.empty) m := by
  unfold mrk at h ⊢
  split at h
  · omega
  · rename_i h0
    rw [if_neg h0]
    split at h
    · rename_i h1
      rw [if_pos h1]
      have e : l.drop j = l.getD j ByteArray.empty :: l.drop (j + 1) := by
        rw [List.drop_eq_getElem_cons hj]
        simp [List.getD, hj]
      rw [e, jn_cons] at h ⊢
      refine hid_app _ _ ?_ h
      split
      · exact Or.inl rfl
      · exact Or.inr ⟨_, rfl⟩
    · rename_i h1
      rw [if_neg h1]
      split at h
      · rename_i h2
        rw [if_pos h2]
        have := hid_app (l.getD j ByteArray.empty) [] (Or.inl rfl)
        rw [List.append_nil] at this
        exact this h
      · omega

/-- The line with a backslash put in. -/
def bsl (s : ByteArray) (m : Nat) : ByteArray := s.extract 0 m ++ ⟨#[92]⟩ ++ s.extract m s.size
def eln (st nb : Bool) (bi : Nat) (l : List ByteArray) (j : Nat) : ByteArray :=
  if 0 ≤ mrk st nb bi l j then bsl (l.getD j ByteArray.empty) (mrk st nb bi l j).toNat else l.getD j ByteArray.empty
def erow (st : Bool) (k : Int) (nb : Bool) (bi : Nat) (l : List ByteArray) : List ByteArray :=
  if k = 0 then (List.range l.length).map (eln st nb bi l) else l
def eall (st : Bool) (ks : List Int) (ns : List Bool) (L : List (List ByteArray)) : List (List ByteArray) :=
  (List.range L.length).map (fun i => erow st (ks.getD i 0) (ns.getD i false) i (L.getD i []))

theorem erow_len (st : Bool) (k : Int) (nb : Bool) (bi : Nat) (l : List ByteArray) : (erow st k nb bi l).length = l.length := by
  unfold erow; split <;> simp
theorem eall_len (st : Bool) (ks : List Int) (ns : List Bool) (L : List (List ByteArray)) : (eall st ks ns L).length = L.length := by simp [eall]
theorem eall_at (st : Bool) (ks : List Int) (ns : List Bool) (L : List (List ByteArray)) (i : Nat) (h : i < L.length) : (eall st ks ns L).getD i [] = erow st (ks.getD i 0) (ns.getD i false) i (L.getD i []) := by
  simp [eall, List.getD, h]
theorem erow_at (st : Bool) (nb : Bool) (bi : Nat) (l : List ByteArray) (j : Nat) (h : j < l.length) : (erow st 0 nb bi l).getD j ByteArray.empty = eln st nb bi l j := by
  simp [erow, List.getD, h]
end Go.Proofs.Qxb6605488a
