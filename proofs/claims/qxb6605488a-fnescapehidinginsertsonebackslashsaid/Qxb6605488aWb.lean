import Derived.Test.Qxb6605488aWa
namespace Go.Proofs.Qxb6605488a
open Go.RowKit
set_option linter.unusedVariables false
set_option linter.unusedSimpArgs false

def tl3 : ByteArray := ⟨#[126, 126, 126]⟩
def bt3 : ByteArray := ⟨#[96, 96, 96]⟩
theorem bts_tl3 : bts ⟨#[126, 126, 126]⟩ = [126, 126, 126] := rfl
theorem bts_bt3 : bts ⟨#[96, 96, 96]⟩ = [96, 96, 96] := rfl

set_option maxHeartbeats 1000000 in
theorem fence_any (s : ByteArray) (w : World) (hs : s.size ≤ 4000000) :
    Calls Try.prog 23 #[.string s] w fun e w' => e = .returned (.bool (fence (bts s))) ∧ Kept [] w w' := by
  have bs : (s.size : Int) ≤ 4000000 := by omega
  obtain ⟨n, hn⟩ : ∃ n, n = run (fun c => decide (c = 32)) (bts s) := ⟨_, rfl⟩
  have hnl : n ≤ s.size := by rw [hn, ← bts_len]; exact run_le _ _
  have HF : Hid (fence (bts s) = (decide (n ≤ 3) && (pf [96, 96, 96] ((bts s).drop n) || pf [126, 126, 126] ((bts s).drop n)))) := by show _ = _; rw [hn]; rfl
  have HN : Hid (n = run (fun c => decide (c = 32)) (bts s)) := hn
  obtain ⟨r, hr⟩ : ∃ r, r = fence (bts s) := ⟨_, rfl⟩
  rw [← hr] at HF ⊢
  clear hn hr
  obtain ⟨t1, ht1⟩ : ∃ t, t = pf [96, 96, 96] ((bts s).drop n) := ⟨_, rfl⟩
  obtain ⟨t2, ht2⟩ : ∃ t, t = pf [126, 126, 126] ((bts s).drop n) := ⟨_, rfl⟩
  rw [← ht1, ← ht2] at HF
  have P1 : Hid (∀ w, Calls Try.prog 22 #[.string s, .int .i64 n, .string ⟨#[96, 96, 96]⟩] w fun e w' => e = .returned (.bool t1) ∧ Kept [] w w') := fun w => by
    have := pre_any s ⟨#[96, 96, 96]⟩ n w hnl hs
    rw [bts_bt3, ← ht1] at this
    exact this
  have P2 : Hid (∀ w, Calls Try.prog 22 #[.string s, .int .i64 n, .string ⟨#[126, 126, 126]⟩] w fun e w' => e = .returned (.bool t2) ∧ Kept [] w w') := fun w => by
    have := pre_any s ⟨#[126, 126, 126]⟩ n w hnl hs
    rw [bts_tl3, ← ht2] at this
    exact this
  clear ht1 ht2
  go_enter Try.func23, Try.ntmps23
  go_wp2
  go_loopw [3] (fun v wr => ∃ i : Nat, v = .int .i64 i ∧ i ≤ s.size ∧ Hid (n = i + run (fun c => decide (c = 32)) ((bts s).drop i)) ∧ wr = w) (fun v _ => s.size - (intOf v).toNat)
  case atStart => exact ⟨0, rfl, Nat.zero_le _, by show _ = _; rw [HN.out]; simp, rfl⟩
  case round =>
    obtain ⟨i, rfl, hi, HI, rfl⟩ := hrel
    have d3 : (0 : Int) ≤ (i : Int) := by omega
    by_cases hlt : i < s.size
    · have e1 := bts_at s i hlt
      have HY : Hid (decide ((bts s).getD i 0 = 32) = true → n = i + 1 + run (fun c => decide (c = 32)) ((bts s).drop (i + 1))) := fun h => by
        have := run_yes (fun c => decide (c = 32)) (bts s) i (by rw [bts_len]; exact hlt) h
        rw [HI.out, this]; omega
      have HO : Hid (decide ((bts s).getD i 0 = 32) = false → n = i) := fun h => by
        have := run_no (fun c => decide (c = 32)) (bts s) i (by rw [bts_len]; exact hlt) h
        rw [HI.out, this]; omega
      obtain ⟨c, hc⟩ : ∃ c, c = (bts s).getD i 0 := ⟨_, rfl⟩
      rw [← hc] at e1 HY HO
      clear hc
      have d4 : (i : Int) < (s.size : Int) := by omega
      have hw2 := wr64 ((i : Int) + 1) (by omega) (by omega)
      by_cases h32 : c = 32
      · have HZ : Hid (n = i + 1 + run (fun c => decide (c = 32)) ((bts s).drop (i + 1))) := HY.out (decide_eq_true h32)
        clear HY HO
        subst h32
        go_wp2
        exact ⟨⟨i + 1, by go_num, by omega, HZ.out, by trivial⟩, by simp [intOf]; omega⟩
      · have hni : n = i := HO.out (decide_eq_false h32)
        have h32' : (c == 32) = false := by simpa using h32
        clear HY HO
        subst hni
        by_cases h3 : n ≤ 3
        · have d5 : (n : Int) ≤ 3 := by omega
          have HF2 : Hid (r = (t1 || t2)) := by show _ = _; rw [HF.out, decide_eq_true h3, Bool.true_and]
          cases t1 with
          | true =>
            go_wp2_with (first | (go_at_call 22; refine (P1.out _).mono ?_; rintro e w1 ⟨rfl, hK⟩; have HK1 : Hid (Kept [] wr w1) := hK; clear hK))
            go_ret
            exact ⟨by rw [HF2.out]; rfl, HK1.out⟩
          | false =>
            go_wp2_with (first | (have hq := HK1; go_at_call 22; refine (P2.out _).mono ?_; rintro e w2 ⟨rfl, hK⟩; have HK2 : Hid (Kept [] wr w2) := HK1.out.trans hK; clear hK hq) | (go_at_call 22; refine (P1.out _).mono ?_; rintro e w1 ⟨rfl, hK⟩; have HK1 : Hid (Kept [] wr w1) := hK; clear hK))
            go_ret
            exact ⟨by rw [HF2.out]; rfl, HK2.out⟩
        · have d5 : 3 < (n : Int) := by omega
          have HF2 : Hid (r = false) := by show _ = _; rw [HF.out, decide_eq_false h3, Bool.false_and]
          go_wp2
          go_ret
          exact ⟨by rw [HF2.out]; rfl, Kept.refl _ _⟩
    · have hni : n = i := by
        have := run_end (fun c => decide (c = 32)) (bts s) i (by rw [bts_len]; omega)
        rw [HI.out, this]; omega
      subst hni
      have d4 : (s.size : Int) ≤ (n : Int) := by omega
      by_cases h3 : n ≤ 3
      · have d5 : (n : Int) ≤ 3 := by omega
        have HF2 : Hid (r = (t1 || t2)) := by show _ = _; rw [HF.out, decide_eq_true h3, Bool.true_and]
        cases t1 with
        | true =>
          go_wp2_with (first | (go_at_call 22; refine (P1.out _).mono ?_; rintro e w1 ⟨rfl, hK⟩; have HK1 : Hid (Kept [] wr w1) := hK; clear hK))
          go_ret
          exact ⟨by rw [HF2.out]; rfl, HK1.out⟩
        | false =>
          go_wp2_with (first | (have hq := HK1; go_at_call 22; refine (P2.out _).mono ?_; rintro e w2 ⟨rfl, hK⟩; have HK2 : Hid (Kept [] wr w2) := HK1.out.trans hK; clear hK hq) | (go_at_call 22; refine (P1.out _).mono ?_; rintro e w1 ⟨rfl, hK⟩; have HK1 : Hid (Kept [] wr w1) := hK; clear hK))
          go_ret
          exact ⟨by rw [HF2.out]; rfl, HK2.out⟩
      · have d5 : 3 < (n : Int) := by omega
        have HF2 : Hid (r = false) := by show _ = _; rw [HF.out, decide_eq_false h3, Bool.false_and]
        go_wp2
        go_ret
        exact ⟨by rw [HF2.out]; rfl, Kept.refl _ _⟩

/-- 'nextColumn'. -/
def nxt (k c : Int) : Int := if c = 9 then k + 4 - k % 4 else k + 1

theorem next_any (k c : Int) (w : World) (h0 : 0 ≤ k) (h1 : k ≤ 100000000) : Calls Try.prog 39 #[.int .i64 k, .int .u8 c] w fun e w' => e = .returned (.int .i64 (nxt k c)) ∧ w' = w := by
  have hw1 := wr64 (k + 4) (by omega) (by omega)
  have hw2 := wr64 (k + 4 - k % 4) (by omega) (by omega)
  have hw3 := wr64 (k + 1) (by omega) (by omega)
  have ht : k.tmod 4 = k % 4 := Int.tmod_eq_emod_of_nonneg h0
  by_cases h : c = 9
  · have e : nxt k c = k + 4 - k % 4 := by simp [nxt, h]
    rw [e]
    subst h
    clear e
    go_enter Try.func39, Try.ntmps39
    go_wp2
    go_ret
    exact ⟨rfl, rfl⟩
  · have e : nxt k c = k + 1 := by simp [nxt, h]
    rw [e]
    clear e
    have h' : (c == 9) = false := by simpa using h
    go_enter Try.func39, Try.ntmps39
    go_wp2
    go_ret
    exact ⟨rfl, rfl⟩
end Go.Proofs.Qxb6605488a
