import Derived.Test.Qxb6606374aPm
namespace Go.Proofs.Qxb6606374a
open Go.RowKit
set_option linter.unusedVariables false
set_option linter.unusedSimpArgs false

theorem word_le (l : List Int) : word l ≤ l.length := by
  unfold word
  exact (List.takeWhile_sublist _).length_le

theorem word_take (l : List Int) : word (l.take (word l)) = word l := by
  unfold word
  induction l with
  | nil => rfl
  | cons c r ih =>
    by_cases h : isDl c = true
    · simp [List.takeWhile_cons, h]
    · have h' : isDl c = false := by simpa using h
      simp only [List.takeWhile_cons, h', Bool.not_false, if_true, List.length_cons, List.take_succ_cons]
      rw [ih]

theorem valEnd_le {T : List Int} {P E : Nat} {f : Bool} (h : valEnd T P f = (E, false)) : P < T.length ∧ P < E ∧ E ≤ T.length ∧ f = false := by
  unfold valEnd at h
  by_cases h0 : hd0 (T.drop P) = 0
  · rw [if_pos h0] at h; simp at h
  · have hP := hd0_lt h0
    rw [if_neg h0] at h
    refine ⟨hP, ?_⟩
    by_cases h1 : hd0 (T.drop P) = 34
    · rw [if_pos h1] at h
      cases hx : lex false (T.drop (P + 1)) with
      | none => rw [hx] at h; simp at h
      | some n =>
        rw [hx] at h
        have := (lex_le _ _ _ hx).2
        rw [List.length_drop] at this
        simp at h
        exact ⟨by omega, by omega, h.2⟩
    · rw [if_neg h1] at h
      by_cases h2 : isOpen (hd0 (T.drop P)) = true
      · rw [if_pos h2] at h
        cases hx : tgt T P f with
        | none => rw [hx] at h; simp at h
        | some q =>
          obtain ⟨n, z⟩ := q
          rw [hx] at h
          have := tgt_le hx hP
          simp at h
          exact ⟨by omega, by omega, h.2⟩
      · rw [if_neg h2] at h
        by_cases h3 : word (T.drop P) = 0
        · rw [if_pos h3] at h; simp at h
        · rw [if_neg h3] at h
          have := word_le (T.drop P)
          rw [List.length_drop] at this
          simp at h
          exact ⟨by omega, by omega, h.2⟩

theorem sp_lt : ∀ (l : List Int) (k : Nat), k < sp l → k < l.length ∧ isSp (l.getD k 0) = true := by
  intro l
  induction l with
  | nil => intro k h; simp [sp] at h
  | cons c r ih =>
    intro k h
    unfold sp at h
    rw [List.takeWhile_cons] at h
    by_cases hc : isSp c = true
    · rw [if_pos hc, List.length_cons] at h
      cases k with
      | zero => simp [hc]
      | succ k => have := ih k (by unfold sp; omega); simpa using this
    · rw [if_neg hc] at h; simp at h

theorem sp_eq : ∀ (l : List Int), sp l < l.length → isSp (l.getD (sp l) 0) = false := by
  intro l
  induction l with
  | nil => intro h; simp at h
  | cons c r ih =>
    intro h
    by_cases hc : isSp c = true
    · have e : sp (c :: r) = sp r + 1 := by simp [sp, List.takeWhile_cons, hc]
      rw [e] at h ⊢
      have := ih (by simp at h; omega)
      simpa using this
    · have e : sp (c :: r) = 0 := by simp [sp, List.takeWhile_cons, hc]
      rw [e]
      simpa using hc

theorem getD_drop (T : List Int) (p k : Nat) : (T.drop p).getD k 0 = T.getD (p + k) 0 := by simp [List.getD]

theorem skip_sp {T : List Int} {p k : Nat} (h1 : p ≤ k) (h2 : k < skip T p) : k < T.length ∧ isSp (T.getD k 0) = true := by
  have := sp_lt (T.drop p) (k - p) (by unfold skip at h2; omega)
  rw [getD_drop, List.length_drop] at this
  rw [show p + (k - p) = k by omega] at this
  exact ⟨by omega, this.2⟩

theorem skip_nosp {T : List Int} {p : Nat} (h : skip T p < T.length) : isSp (T.getD (skip T p) 0) = false := by
  have := sp_eq (T.drop p) (by rw [List.length_drop]; unfold skip at h; omega)
  rw [getD_drop] at this
  exact this

theorem hd0_take (l : List Int) (n : Nat) (hn : 0 < n) : hd0 (l.take n) = hd0 l := by
  cases l with
  | nil => simp
  | cons c r =>
    obtain ⟨m, rfl⟩ : ∃ m, n = m + 1 := ⟨n - 1, by omega⟩
    rfl

/-- A value's own bytes, alone, read as one value, whole. -/
theorem alone {T : List Int} {P E : Nat} (h : valEnd T P false = (E, false)) (hs : isSp (T.getD P 0) = false) :
    skip ((T.drop P).take (E - P)) 0 = 0 ∧ valEnd ((T.drop P).take (E - P)) 0 false = (E - P, false) := by
  obtain ⟨hP, h1, h2, _⟩ := valEnd_le h
  obtain ⟨n, rfl⟩ : ∃ n, E = P + (n + 1) := ⟨E - P - 1, by omega⟩
  have e0 : P + (n + 1) - P = n + 1 := by omega
  rw [e0]
  have eT : (T.drop P).take (n + 1) = T.getD P 0 :: (T.drop (P + 1)).take n := by rw [drop_at T P hP, List.take_succ_cons]
  constructor
  · rw [eT]
    simp only [skip, sp, List.drop_zero, List.takeWhile_cons, hs]
    rfl
  · unfold valEnd at h ⊢
    rw [List.drop_zero, hd0_take _ _ (by omega)]
    by_cases h0 : hd0 (T.drop P) = 0
    · rw [if_pos h0] at h; simp at h
    · rw [if_neg h0] at h ⊢
      have eD : ((T.drop P).take (n + 1)).drop (0 + 1) = (T.drop (P + 1)).take n := by rw [eT]; rfl
      by_cases h3 : hd0 (T.drop P) = 34
      · rw [if_pos h3] at h ⊢
        cases hx : lex false (T.drop (P + 1)) with
        | none => rw [hx] at h; simp at h
        | some m =>
          rw [hx] at h
          simp at h
          obtain rfl : m = n := by omega
          rw [eD, lex_take _ _ _ hx]
          simp; omega
      · rw [if_neg h3] at h ⊢
        by_cases h4 : isOpen (hd0 (T.drop P)) = true
        · rw [if_pos h4] at h ⊢
          unfold tgt at h ⊢
          cases hx : scan false 0 .out (T.drop (P + 1)) with
          | none => rw [hx] at h; simp [up] at h
          | some q =>
            obtain ⟨m, z⟩ := q
            rw [hx] at h
            simp [up] at h
            obtain rfl : m = n := by omega
            rw [eD, scan_take _ _ _ _ _ _ hx]
            simp [up]
        · rw [if_neg h4] at h ⊢
          by_cases h5 : word (T.drop P) = 0
          · rw [if_pos h5] at h; simp at h
          · rw [if_neg h5] at h
            simp at h
            have e5 : word (T.drop P) = n + 1 := by omega
            have := word_take (T.drop P)
            rw [e5] at this
            rw [this, if_neg (by omega)]
            simp
end Go.Proofs.Qxb6606374a
