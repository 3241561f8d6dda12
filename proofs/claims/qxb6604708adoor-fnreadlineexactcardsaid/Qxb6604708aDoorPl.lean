import Derived.Lib.Bytealg
namespace Go.Proofs.Qxb6604708aDoor
open Go

theorem ix_none (l : List UInt8) (c : UInt8) (h : Lib.indexByte l c < 0) : c ∉ l := by
  induction l with
  | nil => simp
  | cons b l ih =>
    unfold Lib.indexByte at h
    by_cases hb : (b == c) = true
    · rw [if_pos hb] at h; omega
    · rw [if_neg hb] at h
      have hne : ¬ c = b := fun e => hb (by simp [e])
      by_cases h1 : (Lib.indexByte l c == -1) = true
      · have h2 : Lib.indexByte l c = -1 := by simpa using h1
        have := ih (by omega)
        simp [hne, this]
      · rw [if_neg h1] at h
        have h2 := Lib.indexByte_ge l c
        have h3 : ¬ Lib.indexByte l c = -1 := by simpa using h1
        omega

theorem ix_some (l : List UInt8) (c : UInt8) (j : Nat) (h : Lib.indexByte l c = j) : j < l.length ∧ l.take (j + 1) = l.take j ++ [c] ∧ c ∉ l.take j := by
  induction l generalizing j with
  | nil => unfold Lib.indexByte at h; omega
  | cons b l ih =>
    unfold Lib.indexByte at h
    by_cases hb : (b == c) = true
    · rw [if_pos hb] at h
      have : j = 0 := by omega
      subst this
      have : b = c := by simpa using hb
      subst this
      simp
    · rw [if_neg hb] at h
      have hne : ¬ c = b := fun e => hb (by simp [e])
      by_cases h1 : (Lib.indexByte l c == -1) = true
      · rw [if_pos h1] at h; omega
      · rw [if_neg h1] at h
        have h2 := Lib.indexByte_ge l c
        have h3 : ¬ Lib.indexByte l c = -1 := by simpa using h1
        obtain ⟨j', rfl⟩ : ∃ j', j = j' + 1 := ⟨j - 1, by omega⟩
        obtain ⟨a1, a2, a3⟩ := ih j' (by omega)
        refine ⟨by simp; omega, ?_, ?_⟩
        · rw [List.take_succ_cons, List.take_succ_cons, a2]; rfl
        · rw [List.take_succ_cons]; simp [hne, a3]

theorem win (bs : List UInt8) (r k q : Nat) : (bs.drop (r + k)).take (q - (r + k)) = ((bs.take q).drop r).drop k := by
  rw [List.drop_drop, List.drop_take]

theorem win2 (bs : List UInt8) (r q n : Nat) (h : r + n ≤ q) : (bs.drop r).take n = ((bs.take q).drop r).take n := by
  rw [List.drop_take, List.take_take]
  congr 1
  omega

theorem win3 (bs : List UInt8) (r q n : Nat) : (bs.take q).drop (r + n) = ((bs.take q).drop r).drop n := by rw [List.drop_drop]

/-- what the search says, when it finds -/
theorem find_law (av : List UInt8) (k j : Nat) (hk : k ≤ av.length) (hno : (10 : UInt8) ∉ av.take k) (h : Lib.indexByte (av.drop k) 10 = j) :
    k + j + 1 ≤ av.length ∧ av.take (k + j + 1) = av.take (k + j) ++ [10] ∧ (10 : UInt8) ∉ av.take (k + j) := by
  obtain ⟨a1, a2, a3⟩ := ix_some _ _ _ h
  have e1 : ∀ n, av.take (k + n) = av.take k ++ (av.drop k).take n := fun n => by rw [List.take_add]
  refine ⟨by simp at a1; omega, ?_, ?_⟩
  · rw [show k + j + 1 = k + (j + 1) by omega, e1, e1, a2, List.append_assoc]
  · rw [e1]; simp [hno, a3]

theorem none_law (av : List UInt8) (k : Nat) (hno : (10 : UInt8) ∉ av.take k) (h : Lib.indexByte (av.drop k) 10 < 0) : (10 : UInt8) ∉ av := by
  have := ix_none _ _ h
  rw [← List.take_append_drop k av]
  simp only [List.mem_append, not_or]
  exact ⟨hno, this⟩

end Go.Proofs.Qxb6604708aDoor
