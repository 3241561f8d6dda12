import Derived.Test.Qxb6605488aPl
import Derived.Lib.IndexBytes
namespace Go.Proofs.Qxb6605488a
set_option linter.unusedVariables false
set_option linter.unusedSimpArgs false

theorem ib_all : ∀ n : Fin 256, decide (0 ≤ Lib.indexByte [32, 9, 48, 49, 50, 51, 52, 53, 54, 55, 56, 57, 62, 45, 43, 42, 46, 41] (UInt8.ofNat n.val)) = isMk (n.val : Int) := by decide +kernel

theorem ib (c : Int) (h : 0 ≤ c ∧ c < 256) : decide (0 ≤ Lib.indexByte (⟨#[32, 9, 48, 49, 50, 51, 52, 53, 54, 55, 56, 57, 62, 45, 43, 42, 46, 41]⟩ : ByteArray).data.toList c.toNat.toUInt8) = isMk c := by
  have := ib_all ⟨c.toNat, by omega⟩
  have e : ((c.toNat : Nat) : Int) = c := by omega
  simp only [e] at this
  exact this

theorem hp_pf (s p : ByteArray) : Lib.hasPrefix s.data.toList p.data.toList = pf (bts p) (bts s) := by
  unfold Lib.hasPrefix pf
  have hl : (bts p).length = p.data.toList.length := by simp [bts]
  rw [hl, Bool.eq_iff_iff, List.isPrefixOf_iff_prefix, List.prefix_iff_eq_take, decide_eq_true_eq]
  constructor
  · intro h
    unfold bts
    rw [← List.map_take, ← h]
  · intro h
    unfold bts at h
    rw [← List.map_take] at h
    exact (map_inj _ _ h).symm

theorem ix_mem : ∀ (l : List UInt8) (c : UInt8), decide (0 ≤ Lib.indexByte l c) = decide (c ∈ l) := by
  intro l c
  induction l with
  | nil => simp [Lib.indexByte]
  | cons b r ih =>
    unfold Lib.indexByte
    by_cases h : b = c
    · subst h; simp
    · have h' : (b == c) = false := by simpa using h
      have hge := Lib.indexByte_ge r c
      rw [h']
      simp only [Bool.false_eq_true, if_false, List.mem_cons]
      rw [Bool.eq_iff_iff, decide_eq_true_eq, decide_eq_true_eq] at ih ⊢
      by_cases h2 : Lib.indexByte r c = -1
      · rw [h2] at ih
        have : ¬ c ∈ r := fun hm => by have := ih.2 hm; omega
        simp only [h2, beq_self_eq_true, if_true]
        constructor
        · intro hx; omega
        · rintro (hx | hx)
          · exact absurd hx.symm h
          · exact absurd hx this
      · have h3 : (Lib.indexByte r c == -1) = false := by simpa using h2
        rw [h3]
        simp only [Bool.false_eq_true, if_false]
        constructor
        · intro _; exact Or.inr (ih.1 (by omega))
        · intro _; omega

theorem mem_bts (l : List UInt8) (c : UInt8) : (c.toNat : Int) ∈ l.map (fun b => (b.toNat : Int)) ↔ c ∈ l := by
  rw [List.mem_map]
  constructor
  · rintro ⟨x, hx, he⟩
    rw [← u8_inj he]; exact hx
  · intro h; exact ⟨c, h, rfl⟩

/-- 'Contains' of the backtick. -/
theorem has_tick (s : ByteArray) : decide (0 ≤ Lib.indexByte s.data.toList 96) = decide ((96 : Int) ∈ bts s) := by
  rw [ix_mem]
  have := mem_bts s.data.toList 96
  unfold bts
  rw [Bool.eq_iff_iff, decide_eq_true_eq, decide_eq_true_eq]
  exact this.symm

theorem cut_ix : ∀ (l : List UInt8), (if 0 ≤ Lib.indexByte l 10 then l.take (Lib.indexByte l 10).toNat else l) = l.takeWhile (fun b => decide (b ≠ 10)) := by
  intro l
  induction l with
  | nil => simp [Lib.indexByte]
  | cons b r ih =>
    unfold Lib.indexByte
    by_cases h : b = 10
    · subst h; simp
    · have h' : (b == 10) = false := by simpa using h
      have hge := Lib.indexByte_ge r 10
      rw [h']
      simp only [Bool.false_eq_true, if_false]
      rw [List.takeWhile_cons]
      simp only [h, ne_eq, not_false_eq_true, decide_true, if_true]
      rw [← ih]
      by_cases h2 : Lib.indexByte r 10 = -1
      · simp [h2]
      · have h3 : (Lib.indexByte r 10 == -1) = false := by simpa using h2
        rw [h3]
        simp only [Bool.false_eq_true, if_false]
        have e : (Lib.indexByte r 10 + 1).toNat = (Lib.indexByte r 10).toNat + 1 := by omega
        rw [if_pos (by omega), if_pos (by omega), e, List.take_succ_cons]

theorem tw_map : ∀ (l : List UInt8), (l.takeWhile (fun b => decide (b ≠ 10))).map (fun b => (b.toNat : Int)) = (l.map (fun b => (b.toNat : Int))).takeWhile (fun c => decide (c ≠ 10)) := by
  intro l
  induction l with
  | nil => rfl
  | cons b r ih =>
    rw [List.takeWhile_cons, List.map_cons, List.takeWhile_cons]
    by_cases h : b = 10
    · subst h; simp
    · have h2 : ¬ ((b.toNat : Int) = 10) := fun e => h (u8_inj (a := b) (b := 10) e)
      rw [if_pos (by simpa using h), if_pos (decide_eq_true h2), List.map_cons, ih]

/-- 'Cut' at the line's end. -/
theorem cut_line (s : ByteArray) : bts ⟨(Lib.cut s.data.toList (⟨#[10]⟩ : ByteArray).data.toList).1.toArray⟩ = (bts s).takeWhile (fun c => decide (c ≠ 10)) := by
  have e : (Lib.cut s.data.toList (⟨#[10]⟩ : ByteArray).data.toList).1 = s.data.toList.takeWhile (fun b => decide (b ≠ 10)) := by
    rw [← cut_ix]
    unfold Lib.cut
    have : (⟨#[10]⟩ : ByteArray).data.toList = [10] := rfl
    rw [this, Lib.index_one]
    split <;> rfl
  rw [e]
  unfold bts
  simp only []
  exact tw_map _
end Go.Proofs.Qxb6605488a
