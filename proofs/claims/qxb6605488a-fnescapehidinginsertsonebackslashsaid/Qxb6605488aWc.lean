import Derived.Test.Qxb6605488aWb
namespace Go.Proofs.Qxb6605488a
open Go.RowKit
set_option linter.unusedVariables false
set_option linter.unusedSimpArgs false

/-- The indent's columns behind 'i' bytes. -/
def Ind (l : List Int) (i : Nat) (c : Int) : Prop :=
  (∀ k, k < i → k < l.length ∧ (l.getD k 0 = 32 ∨ l.getD k 0 = 9)) ∧ 0 ≤ c ∧ c ≤ 4 * i ∧ (((∀ k, k < i → l.getD k 0 = 32) ∧ c = i) ∨ (4 ≤ c ∧ ∃ k, k < i ∧ l.getD k 0 = 9 ∧ ∀ m, m < k → l.getD m 0 = 32))

theorem ind_zero (l : List Int) : Ind l 0 0 := ⟨fun k h => by omega, by omega, by omega, Or.inl ⟨fun k h => by omega, rfl⟩⟩
theorem ind_sp {l : List Int} {i : Nat} {c : Int} (h : Ind l i c) (hi : i < l.length) (hc : l.getD i 0 = 32) : Ind l (i + 1) (nxt c 32) := by
  obtain ⟨h1, h2, h3, h4⟩ := h
  have e : nxt c 32 = c + 1 := by simp [nxt]
  rw [e]
  refine ⟨?_, by omega, by omega, ?_⟩
  · intro k hk
    rcases Nat.lt_or_ge k i with h | h
    · exact h1 k h
    · obtain rfl : k = i := by omega
      exact ⟨hi, Or.inl hc⟩
  · rcases h4 with ⟨h5, h6⟩ | ⟨h5, k, h6, h7, h8⟩
    · left
      refine ⟨?_, by omega⟩
      intro k hk
      rcases Nat.lt_or_ge k i with h | h
      · exact h5 k h
      · obtain rfl : k = i := by omega
        exact hc
    · right
      exact ⟨by omega, k, by omega, h7, h8⟩
theorem ind_tab {l : List Int} {i : Nat} {c : Int} (h : Ind l i c) (hi : i < l.length) (hc : l.getD i 0 = 9) : Ind l (i + 1) (nxt c 9) := by
  obtain ⟨h1, h2, h3, h4⟩ := h
  have e : nxt c 9 = c + 4 - c % 4 := by simp [nxt]
  rw [e]
  refine ⟨?_, by omega, by omega, ?_⟩
  · intro k hk
    rcases Nat.lt_or_ge k i with h | h
    · exact h1 k h
    · obtain rfl : k = i := by omega
      exact ⟨hi, Or.inr hc⟩
  · right
    refine ⟨by omega, ?_⟩
    rcases h4 with ⟨h5, h6⟩ | ⟨h5, k, h6, h7, h8⟩
    · exact ⟨i, by omega, hc, h5⟩
    · exact ⟨k, by omega, h7, h8⟩

theorem pf_hd {p l : List Int} (h : pf p l = true) (hp : 0 < p.length) : l.getD 0 0 = p.getD 0 0 := by
  unfold pf at h
  have := of_decide_eq_true h
  rw [← this]
  simp only [List.getD]
  rw [List.getElem?_take, if_pos hp]

theorem ind_end {l : List Int} {i : Nat} {c : Int} (h : Ind l i c) (hn : i < l.length → l.getD i 0 ≠ 32) :
    fence l = (decide (c ≤ 3) && (pf [96, 96, 96] (l.drop i) || pf [126, 126, 126] (l.drop i))) := by
  obtain ⟨h1, h2, h3, h4⟩ := h
  rcases h4 with ⟨h5, h6⟩ | ⟨h5, k, h6, h7, h8⟩
  · have e : run (fun c => decide (c = 32)) l = i := by
      refine run_is _ _ _ (fun k hk => ⟨(h1 k hk).1, by simpa using h5 k hk⟩) (fun hi => by simpa using hn hi)
    unfold fence
    rw [e]
    congr 1
    by_cases hh : i ≤ 3
    · rw [decide_eq_true hh, decide_eq_true (by omega)]
    · rw [decide_eq_false hh, decide_eq_false (by omega)]
  · have e : run (fun c => decide (c = 32)) l = k := by
      refine run_is _ _ _ (fun m hm => ⟨(h1 m (by omega)).1, by simpa using h8 m hm⟩) (fun hi => by rw [h7]; rfl)
    have p1 : ∀ p : List Int, 0 < p.length → p.getD 0 0 ≠ 9 → pf p (l.drop k) = false := by
      intro p hp hq
      cases hx : pf p (l.drop k) with
      | false => rfl
      | true =>
        have := pf_hd hx hp
        rw [getD_drop, Nat.add_zero, h7] at this
        exact absurd this.symm hq
    unfold fence
    rw [e, p1 [96, 96, 96] (by decide) (by decide), p1 [126, 126, 126] (by decide) (by decide), decide_eq_false (by omega : ¬ c ≤ 3)]
    simp

set_option maxHeartbeats 1000000 in
theorem indent_any (s : ByteArray) (w : World) (hs : s.size ≤ 4000000) :
    Calls Try.prog 31 #[.string s] w fun e w' => ∃ (c : Int) (i : Nat), e = .returned (.tuple #[.int .i64 c, .string (s.extract i s.size)]) ∧ fence (bts s) = (decide (c ≤ 3) && (pf [96, 96, 96] ((bts s).drop i) || pf [126, 126, 126] ((bts s).drop i))) ∧ Kept [] w w' := by
  have bs : (s.size : Int) ≤ 4000000 := by omega
  go_enter Try.func31, Try.ntmps31
  go_wp2
  go_loopw [4, 5] (fun u v wr => ∃ (c : Int) (i : Nat), u = .int .i64 c ∧ v = .int .i64 i ∧ i ≤ s.size ∧ Hid (Ind (bts s) i c) ∧ wr = w) (fun _ v _ => s.size - (intOf v).toNat)
  case atStart => exact ⟨0, 0, rfl, rfl, Nat.zero_le _, ind_zero _, rfl⟩
  case round =>
    obtain ⟨k, i, rfl, rfl, hi, HI, rfl⟩ := hrel
    have d3 : (0 : Int) ≤ (i : Int) := by omega
    have k0 : 0 ≤ k := HI.out.2.1
    have k1 : k ≤ 4 * i := HI.out.2.2.1
    by_cases hlt : i < s.size
    · have e1 := bts_at s i hlt
      have hl : i < (bts s).length := by rw [bts_len]; exact hlt
      have H1 : Hid ((bts s).getD i 0 = 32 → Ind (bts s) (i + 1) (nxt k 32)) := fun h => ind_sp HI.out hl h
      have H2 : Hid ((bts s).getD i 0 = 9 → Ind (bts s) (i + 1) (nxt k 9)) := fun h => ind_tab HI.out hl h
      have H3 : Hid (¬ (bts s).getD i 0 = 32 → fence (bts s) = (decide (k ≤ 3) && (pf [96, 96, 96] ((bts s).drop i) || pf [126, 126, 126] ((bts s).drop i)))) := fun h => ind_end HI.out (fun _ => h)
      obtain ⟨c, hc⟩ : ∃ c, c = (bts s).getD i 0 := ⟨_, rfl⟩
      rw [← hc] at e1 H1 H2 H3
      clear hc hl
      have d4 : (i : Int) < (s.size : Int) := by omega
      have hw2 := wr64 ((i : Int) + 1) (by omega) (by omega)
      by_cases h32 : c = 32
      · have HZ : Hid (Ind (bts s) (i + 1) (nxt k 32)) := H1.out h32
        clear H1 H2 H3
        subst h32
        go_wp2_with (go_at_call 39; refine (next_any k 32 _ k0 (by omega)).mono ?_; rintro e w' ⟨rfl, rfl⟩)
        exact ⟨⟨nxt k 32, i + 1, rfl, by go_num, by omega, HZ.out, by trivial⟩, by simp [intOf]; omega⟩
      · by_cases h9 : c = 9
        · have HZ : Hid (Ind (bts s) (i + 1) (nxt k 9)) := H2.out h9
          clear H1 H2 H3
          subst h9
          go_wp2_with (go_at_call 39; refine (next_any k 9 _ k0 (by omega)).mono ?_; rintro e w' ⟨rfl, rfl⟩)
          exact ⟨⟨nxt k 9, i + 1, rfl, by go_num, by omega, HZ.out, by trivial⟩, by simp [intOf]; omega⟩
        · have HZ : Hid _ := H3.out h32
          have g1 : (c == 32) = false := by simpa using h32
          have g2 : (c == 9) = false := by simpa using h9
          clear H1 H2 H3
          go_wp2
          go_region
          go_wp2
          go_ret2
          exact ⟨k, i, rfl, HZ.out, (Kept.refl _ _).drew⟩
    · have hie : i = s.size := by omega
      have HZ : Hid (fence (bts s) = (decide (k ≤ 3) && (pf [96, 96, 96] ((bts s).drop i) || pf [126, 126, 126] ((bts s).drop i)))) := ind_end HI.out (fun h => by rw [bts_len] at h; omega)
      have d4 : (s.size : Int) ≤ (i : Int) := by omega
      have d5 : (i : Int) ≤ (s.size : Int) := by omega
      have HX : Hid (s.extract i s.size = ByteArray.empty) := by
        show _ = _
        apply bts_inj
        rw [bts_from, List.drop_of_length_le (by rw [bts_len]; omega)]
        rfl
      clear HI
      go_wp2
      go_region
      go_wp2
      go_ret2
      exact ⟨k, i, by rw [HX.out]; rfl, HZ.out, (Kept.refl _ _).drew⟩

set_option maxHeartbeats 1000000 in
theorem runlen_any (s : ByteArray) (w : World) (hs : s.size ≤ 4000000) (h0 : 0 < s.size) (hc0 : (bts s).getD 0 0 = 96) :
    Calls Try.prog 29 #[.string s, .int .i64 0] w fun e w' => e = .returned (.int .i64 (run (fun c => decide (c = 96)) (bts s))) ∧ Kept [] w w' := by
  have bs : (s.size : Int) ≤ 4000000 := by omega
  obtain ⟨n, hn⟩ : ∃ n, n = run (fun c => decide (c = 96)) (bts s) := ⟨_, rfl⟩
  have HN : Hid (n = run (fun c => decide (c = 96)) (bts s)) := hn
  rw [← hn]
  clear hn
  have e0 := bts_at s 0 h0
  have HC0 : Hid ((bts s).getD 0 0 = 96) := hc0
  rw [hc0] at e0
  clear hc0
  go_enter Try.func29, Try.ntmps29
  go_wp2
  go_loopw [5] (fun v wr => ∃ i : Nat, v = .int .i64 i ∧ 1 ≤ i ∧ i ≤ s.size ∧ Hid (n = i + run (fun c => decide (c = 96)) ((bts s).drop i)) ∧ Kept [] w wr) (fun v _ => s.size - (intOf v).toNat)
  case atStart =>
    refine ⟨1, rfl, Nat.le_refl _, h0, ?_, Kept.refl _ _⟩
    show _ = _
    have := run_yes (fun c => decide (c = 96)) (bts s) 0 (by rw [bts_len]; exact h0) (by rw [HC0.out]; rfl)
    rw [HN.out]
    rw [List.drop_zero, Nat.zero_add] at this
    omega
  case round =>
    obtain ⟨i, rfl, h1, hi, HI, hK⟩ := hrel
    have HK : Hid (Kept [] w wr) := hK
    clear hK
    have d3 : (0 : Int) ≤ (i : Int) := by omega
    have d0 : (0 : Int) < (s.size : Int) := by omega
    by_cases hlt : i < s.size
    · have e1 := bts_at s i hlt
      have HY : Hid (decide ((bts s).getD i 0 = 96) = true → n = i + 1 + run (fun c => decide (c = 96)) ((bts s).drop (i + 1))) := fun h => by
        have := run_yes (fun c => decide (c = 96)) (bts s) i (by rw [bts_len]; exact hlt) h
        rw [HI.out, this]; omega
      have HO : Hid (decide ((bts s).getD i 0 = 96) = false → n = i) := fun h => by
        have := run_no (fun c => decide (c = 96)) (bts s) i (by rw [bts_len]; exact hlt) h
        rw [HI.out, this]; omega
      obtain ⟨c, hc⟩ : ∃ c, c = (bts s).getD i 0 := ⟨_, rfl⟩
      rw [← hc] at e1 HY HO
      clear hc
      have d4 : (i : Int) < (s.size : Int) := by omega
      have hw2 := wr64 ((i : Int) + 1) (by omega) (by omega)
      have hw3 := wr64 (0 + (i : Int)) (by omega) (by omega)
      have hz : (0 : Int) + (i : Int) = (i : Int) := by omega
      have hw4 := wr64 ((i : Int)) (by omega) (by omega)
      have hdt : decide ((i : Int) < (s.size : Int)) = true := decide_eq_true d4
      by_cases h96 : c = 96
      · have HZ : Hid (n = i + 1 + run (fun c => decide (c = 96)) ((bts s).drop (i + 1))) := HY.out (decide_eq_true h96)
        clear HY HO
        subst h96
        go_wp2
        go_quiet (fail)
        go_wp2
        exact ⟨⟨i + 1, by go_num, by omega, by omega, HZ.out, HK.out.drewN _⟩, by simp [intOf]; omega⟩
      · have HZ : Hid (n = i) := HO.out (decide_eq_false h96)
        have g1 : (c == 96) = false := by simpa using h96
        clear HY HO
        go_wp2
        go_quiet (fail)
        go_wp2
        go_ret
        exact ⟨by rw [HZ.out]; rfl, HK.out.drewN _⟩
    · have HZ : Hid (n = i) := by
        have := run_end (fun c => decide (c = 96)) (bts s) i (by rw [bts_len]; omega)
        rw [HI.out, this]; exact Nat.add_zero i
      have d4 : (s.size : Int) ≤ (i : Int) := by omega
      have hw3 := wr64 (0 + (i : Int)) (by omega) (by omega)
      have hz : (0 : Int) + (i : Int) = (i : Int) := by omega
      have hw4 := wr64 ((i : Int)) (by omega) (by omega)
      have hdf : decide ((i : Int) < (s.size : Int)) = false := by simp; omega
      go_wp2
      go_quiet (fail)
      go_wp2
      go_ret
      exact ⟨by rw [HZ.out]; rfl, HK.out.drewN _⟩
end Go.Proofs.Qxb6605488a
