import Derived.Test.Qxb6605488aBase
namespace Go.Proofs.Qxb6605488a
open Go.RowKit
set_option linter.unusedVariables false
set_option linter.unusedSimpArgs false

set_option maxHeartbeats 1000000 in
theorem mark_any (c : Int) (w : World) : Calls Try.prog 11 #[.int .u8 c] w fun e w' => e = .returned (.bool (isMk c)) ∧ w' = w := by
  have hb : ∀ n : Int, (c == n) = decide (c = n) := fun n => rfl
  have q : ∀ n, c = n ∨ ¬ c = n := fun n => Classical.em _
  by_cases h1 : c = 32
  · subst h1; go_enter Try.func11, Try.ntmps11; go_wp2; go_ret; exact ⟨rfl, rfl⟩
  by_cases h2 : c = 9
  · subst h2; go_enter Try.func11, Try.ntmps11; go_wp2; go_ret; exact ⟨rfl, rfl⟩
  by_cases h3 : c = 62
  · subst h3; go_enter Try.func11, Try.ntmps11; go_wp2; go_ret; exact ⟨rfl, rfl⟩
  by_cases h4 : c = 45
  · subst h4; go_enter Try.func11, Try.ntmps11; go_wp2; go_ret; exact ⟨rfl, rfl⟩
  by_cases h5 : c = 43
  · subst h5; go_enter Try.func11, Try.ntmps11; go_wp2; go_ret; exact ⟨rfl, rfl⟩
  by_cases h6 : c = 42
  · subst h6; go_enter Try.func11, Try.ntmps11; go_wp2; go_ret; exact ⟨rfl, rfl⟩
  by_cases h7 : c = 46
  · subst h7; go_enter Try.func11, Try.ntmps11; go_wp2; go_ret; exact ⟨rfl, rfl⟩
  by_cases h8 : c = 41
  · subst h8; go_enter Try.func11, Try.ntmps11; go_wp2; go_ret; exact ⟨rfl, rfl⟩
  have e : isMk c = (decide (48 ≤ c) && decide (c ≤ 57)) := by simp [isMk, h1, h2, h3, h4, h5, h6, h7, h8]
  rw [e]
  have g1 : (c == 32) = false := by simpa using h1
  have g2 : (c == 9) = false := by simpa using h2
  have g3 : (c == 62) = false := by simpa using h3
  have g4 : (c == 45) = false := by simpa using h4
  have g5 : (c == 43) = false := by simpa using h5
  have g6 : (c == 42) = false := by simpa using h6
  have g7 : (c == 46) = false := by simpa using h7
  have g8 : (c == 41) = false := by simpa using h8
  clear h1 h2 h3 h4 h5 h6 h7 h8 e hb q
  by_cases k1 : 48 ≤ c
  · by_cases k2 : c ≤ 57
    · go_enter Try.func11, Try.ntmps11; go_wp2; go_ret; refine ⟨?_, rfl⟩; simp [k1, k2]
    · go_enter Try.func11, Try.ntmps11; go_wp2; go_ret; refine ⟨?_, rfl⟩; simp [k1]; omega
  · go_enter Try.func11, Try.ntmps11; go_wp2; go_ret; refine ⟨?_, rfl⟩; simp; omega

theorem pf_step (p l : List Int) (m : Nat) (hm : m < p.length) (hl : m < l.length) (h : l.take m = p.take m) (hc : l.getD m 0 = p.getD m 0) : l.take (m + 1) = p.take (m + 1) := by
  rw [List.take_succ_eq_append_getElem hl, List.take_succ_eq_append_getElem hm, h]
  simp only [List.getD, List.getElem?_eq_getElem hl, List.getElem?_eq_getElem hm, Option.getD_some] at hc
  rw [hc]
theorem pf_no (p l : List Int) (m : Nat) (hm : m < p.length) (hl : m < l.length) (hc : ¬ l.getD m 0 = p.getD m 0) : pf p l = false := by
  unfold pf
  rw [decide_eq_false_iff_not]
  intro h
  apply hc
  have := congrArg (fun x : List Int => x.getD m 0) h
  simp only [List.getD] at this ⊢
  rw [List.getElem?_take, if_pos hm] at this
  exact this
theorem pf_yes (p l : List Int) (h : l.take p.length = p.take p.length) : pf p l = true := by
  unfold pf
  rw [List.take_of_length_le (Nat.le_refl p.length)] at h
  exact decide_eq_true h
theorem pf_short (p l : List Int) (h : l.length < p.length) : pf p l = false := by
  unfold pf
  rw [decide_eq_false_iff_not]
  intro e
  have := congrArg List.length e
  simp at this
  omega

set_option maxHeartbeats 1000000 in
theorem pre_any (s p : ByteArray) (i : Nat) (w : World) (hi : i ≤ s.size) (hs : s.size ≤ 4000000) :
    Calls Try.prog 22 #[.string s, .int .i64 i, .string p] w fun e w' => e = .returned (.bool (pf (bts p) ((bts s).drop i))) ∧ Kept [] w w' := by
  have b1 : (i : Int) ≤ (s.size : Int) := by omega
  have b0 : (0 : Int) ≤ (i : Int) := by omega
  have bs : (s.size : Int) ≤ 4000000 := by omega
  have hw := wr64 ((s.size : Int) - (i : Int)) (by omega) (by omega)
  by_cases hsh : s.size - i < p.size
  · have b2 : (s.size : Int) - (i : Int) < (p.size : Int) := by omega
    have e := pf_short (bts p) ((bts s).drop i) (by rw [List.length_drop, bts_len, bts_len]; exact hsh)
    rw [e]
    clear e
    go_enter Try.func22, Try.ntmps22
    go_wp2
    go_ret
    exact ⟨rfl, Kept.refl _ _⟩
  · have b2 : (p.size : Int) ≤ (s.size : Int) - (i : Int) := by omega
    obtain ⟨r, hr⟩ : ∃ r, r = pf (bts p) ((bts s).drop i) := ⟨_, rfl⟩
    have HR : Hid (r = pf (bts p) ((bts s).drop i)) := hr
    rw [← hr]
    clear hr
    go_enter Try.func22, Try.ntmps22
    go_wp2
    go_loopw [7] (fun v wr => ∃ m : Nat, v = .int .i64 m ∧ m ≤ p.size ∧ Kept [] w wr ∧ Hid (((bts s).drop i).take m = (bts p).take m)) (fun v _ => p.size - (intOf v).toNat)
    case atStart => exact ⟨0, rfl, Nat.zero_le _, Kept.refl _ _, rfl⟩
    case round =>
      obtain ⟨m, rfl, hm, hK, HM⟩ := hrel
      have HK : Hid (Kept [] w wr) := hK
      clear hK hw
      by_cases hlt : m < p.size
      · have him : i + m < s.size := by omega
        have e1 := bts_at s (i + m) him
        have e2 := bts_at p m hlt
        have HST : Hid ((bts s).getD (i + m) 0 = (bts p).getD m 0 → ((bts s).drop i).take (m + 1) = (bts p).take (m + 1)) := fun h => pf_step _ _ _ (by rw [bts_len]; exact hlt) (by rw [List.length_drop, bts_len]; omega) HM.out (by rw [getD_drop]; exact h)
        have HNO : Hid (¬ (bts s).getD (i + m) 0 = (bts p).getD m 0 → r = false) := fun h => by rw [HR.out]; exact pf_no _ _ m (by rw [bts_len]; exact hlt) (by rw [List.length_drop, bts_len]; omega) (by rw [getD_drop]; exact h)
        obtain ⟨c, hc⟩ : ∃ c, c = (bts s).getD (i + m) 0 := ⟨_, rfl⟩
        obtain ⟨d, hd⟩ : ∃ d, d = (bts p).getD m 0 := ⟨_, rfl⟩
        rw [← hc] at e1 HST HNO
        rw [← hd] at e2 HST HNO
        clear hc hd
        have d1 : (0 : Int) ≤ (i : Int) + (m : Int) := by omega
        have d2 : (i : Int) + (m : Int) < (s.size : Int) := by omega
        have d3 : (0 : Int) ≤ (m : Int) := by omega
        have d4 : (m : Int) < (p.size : Int) := by omega
        have hw1 := wr64 ((i : Int) + (m : Int)) (by omega) (by omega)
        have hw2 := wr64 ((m : Int) + 1) (by omega) (by omega)
        have ht : ((i : Int) + (m : Int)).toNat = i + m := by omega
        by_cases hcd : c = d
        · have HN : Hid (((bts s).drop i).take (m + 1) = (bts p).take (m + 1)) := HST.out hcd
          subst hcd
          clear HST HNO
          go_wp2
          go_region
          go_wp2
          exact ⟨⟨m + 1, by go_num, by omega, HK.out.drew, HN.out⟩, by simp [intOf]; omega⟩
        · have HN : Hid (r = false) := HNO.out hcd
          have hne : (c != d) = true := by simpa using hcd
          clear HST HNO
          go_wp2
          go_region
          go_wp2
          go_ret
          exact ⟨by rw [HN.out]; rfl, HK.out.drew⟩
      · have hme : m = p.size := by omega
        have HN : Hid (r = true) := by
          rw [HR.out]
          exact pf_yes _ _ (by rw [bts_len, ← hme]; exact HM.out)
        have b3 : (p.size : Int) ≤ (m : Int) := by omega
        go_wp2
        go_ret
        exact ⟨by rw [HN.out]; rfl, HK.out⟩
end Go.Proofs.Qxb6605488a
