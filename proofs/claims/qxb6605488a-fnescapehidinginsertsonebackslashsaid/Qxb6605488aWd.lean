import Derived.Test.Qxb6605488aWc
import Derived.Test.Qxb6605488aPm
namespace Go.Proofs.Qxb6605488a
open Go.RowKit
set_option linter.unusedVariables false
set_option linter.unusedSimpArgs false

theorem hp_any (s p : ByteArray) (q : List Int) (hq : bts p = q) (w : World) : Calls Try.prog 26 #[.string s, .string p] w fun e w' => e = .returned (.bool (pf q (bts s))) ∧ w = w' := by
  refine (Try.strings_HasPrefix s p w).mono ?_
  rintro e w' ⟨rfl, rfl⟩
  rw [hp_pf, hq]
  exact ⟨rfl, rfl⟩

theorem mk_ix (c : Int) (h : 0 ≤ c ∧ c < 256) (w : World) : Calls Try.prog 25 #[.string ⟨#[32, 9, 48, 49, 50, 51, 52, 53, 54, 55, 56, 57, 62, 45, 43, 42, 46, 41]⟩, .int .u8 c] w fun e w' => ∃ ix : Int, e = .returned (.int .i64 ix) ∧ decide (0 ≤ ix) = isMk c ∧ w = w' := by
  refine (Try.strings_IndexByte _ c w).mono ?_
  rintro e w' ⟨rfl, rfl⟩
  exact ⟨_, rfl, ib c h, rfl⟩

theorem cut_any (s : ByteArray) (w : World) (hs : s.size ≤ 4000000) (hz : Zc w) : Calls Try.prog 27 #[.string s, .string ⟨#[10]⟩] w fun e w' => ∃ ln r : ByteArray, ∃ b, e = .returned (.tuple #[.string ln, .string r, .bool b]) ∧ bts ln = (bts s).takeWhile (fun c => decide (c ≠ 10)) ∧ Kept [] w w' := by
  obtain ⟨m, hm⟩ := hz
  refine (Try.strings_Cut s ⟨#[10]⟩ m w (by omega) hm).mono ?_
  rintro e w' ⟨rfl, n, rfl⟩
  exact ⟨_, _, _, rfl, cut_line s, (Kept.refl _ _).drewN n⟩

theorem tick_any (s : ByteArray) (w : World) : Calls Try.prog 28 #[.string s, .string ⟨#[96]⟩] w fun e w' => e = .returned (.bool (decide ((96 : Int) ∈ bts s))) ∧ w = w' := by
  refine (Try.strings_Contains_one s 96 w).mono ?_
  rintro e w' ⟨rfl, rfl⟩
  rw [has_tick]
  exact ⟨rfl, rfl⟩

/-- The bracket's loop: what it will find from j on. -/
theorem brk_esc (T : List Int) (j : Nat) (h : j < T.length) (hc : T.getD j 0 = 92) : brk false (T.drop j) = brk false (T.drop (j + 2)) := by
  rw [drop_at T j h, hc]
  simp only [brk, if_true]
  rcases Nat.lt_or_ge (j + 1) T.length with h1 | h1
  · rw [drop_at T (j + 1) h1]
    simp only [brk]
  · rw [List.drop_of_length_le h1, List.drop_of_length_le (by omega : T.length ≤ j + 2)]
    simp [brk]
theorem brk_open (T : List Int) (j : Nat) (h : j < T.length) (hc : T.getD j 0 = 91) : brk false (T.drop j) = false := by
  rw [drop_at T j h, hc]
  simp [brk]
theorem brk_close (T : List Int) (j : Nat) (h : j < T.length) (hc : T.getD j 0 = 93) : brk false (T.drop j) = decide (T.getD (j + 1) 0 = 58) := by
  rw [drop_at T j h, hc]
  simp only [brk, getD_drop, Nat.add_zero]
  simp
theorem brk_on (T : List Int) (j : Nat) (h : j < T.length) (h1 : T.getD j 0 ≠ 92) (h2 : T.getD j 0 ≠ 91) (h3 : T.getD j 0 ≠ 93) : brk false (T.drop j) = brk false (T.drop (j + 1)) := by
  rw [drop_at T j h]
  simp only [brk, h1, h2, h3, if_false]
theorem brk_end (T : List Int) (j : Nat) (h : T.length ≤ j) : brk false (T.drop j) = false := by
  rw [List.drop_of_length_le h]; rfl

theorem pf_empty (p : List Int) (h : 0 < p.length) : pf p (bts ByteArray.empty) = false := pf_short _ _ h

set_option maxRecDepth 100000 in
set_option maxHeartbeats 4000000 in
theorem hiding_any (s : ByteArray) (w : World) (hs : s.size ≤ 4000000) (hz : Zc w) :
    Calls Try.prog 21 #[.string s] w fun e w' => e = .returned (.int .i64 (hid (bts s))) ∧ Kept [] w w' := by
  have bs : (s.size : Int) ≤ 4000000 := by omega
  have HZ : Hid (Zc w) := hz
  clear hz
  obtain ⟨P, hP⟩ : ∃ P, P = run isMk (bts s) := ⟨_, rfl⟩
  have hPl : P ≤ s.size := by rw [hP, ← bts_len]; exact run_le _ _
  have HH : Hid (hid (bts s) = hidR P ((bts s).drop P)) := by show _ = _; rw [hP]; rfl
  have HP : Hid (P = run isMk (bts s)) := hP
  clear hP
  obtain ⟨r, hr⟩ : ∃ r, r = hid (bts s) := ⟨_, rfl⟩
  rw [← hr] at HH ⊢
  clear hr
  have hP0 : (0 : Int) ≤ (P : Int) := by omega
  go_enter Try.func21, Try.ntmps21
  go_wp2_with fail
  go_loopw [3] (fun v wr => ∃ i : Nat, v = .int .i64 i ∧ i ≤ s.size ∧ Hid (P = i + run isMk ((bts s).drop i)) ∧ w = wr) (fun v _ => s.size - (intOf v).toNat)
  case atStart => exact ⟨0, rfl, Nat.zero_le _, by show _ = _; rw [HP.out]; simp, rfl⟩
  case round =>
    obtain ⟨i, rfl, hi, HI, rfl⟩ := hrel
    have d3 : (0 : Int) ≤ (i : Int) := by omega
    by_cases hlt : i < s.size
    · have d4 : (i : Int) < (s.size : Int) := by omega
      have e1 := bts_at s i hlt
      have HBY : Hid _ := bts_byte s i
      have HY : Hid (isMk ((bts s).getD i 0) = true → P = i + 1 + run isMk ((bts s).drop (i + 1))) := fun h => by
        have := run_yes isMk (bts s) i (by rw [bts_len]; exact hlt) h
        rw [HI.out, this]; omega
      have HO : Hid (isMk ((bts s).getD i 0) = false → P = i) := fun h => by
        have := run_no isMk (bts s) i (by rw [bts_len]; exact hlt) h
        rw [HI.out, this]; omega
      obtain ⟨c, hc⟩ : ∃ c, c = (bts s).getD i 0 := ⟨_, rfl⟩
      have HCC : Hid (c = (bts s).getD i 0) := hc
      rw [← hc] at e1 HY HO HBY
      clear hc
      have hw2 := wr64 ((i : Int) + 1) (by omega) (by omega)
      by_cases hmk : isMk c = true
      · have HZ2 : Hid (P = i + 1 + run isMk ((bts s).drop (i + 1))) := HY.out hmk
        have HMK : Hid (isMk c = true) := hmk
        clear HY HO hmk
        go_wp2_with (go_at_call 25; refine (mk_ix c HBY.out _).mono ?_; rintro e w' ⟨ix, rfl, hix, rfl⟩; rw [HMK.out] at hix; have hix2 : 0 ≤ ix := of_decide_eq_true hix; clear hix)
        exact ⟨⟨i + 1, by go_num, by omega, HZ2.out, by trivial⟩, by simp [intOf]; omega⟩
      · have hmk' : isMk c = false := by simpa using hmk
        have hPi : P = i := HO.out hmk'
        have HMK : Hid (isMk c = false) := hmk'
        clear HY HO hmk hmk' HI
        subst hPi
        have hbR : Hid (bts (s.extract P s.size) = (bts s).drop P) := bts_from s P
        have hRs : (s.extract P s.size).size = s.size - P := by rw [← bts_len, bts_from, List.length_drop, bts_len]
        obtain ⟨R, hR⟩ : ∃ R, R = s.extract P s.size := ⟨_, rfl⟩
        rw [← hR] at hbR hRs
        have HRT : Hid (s.extract P s.size = R) := hR.symm
        have HH2 : Hid (r = hidR P (bts R)) := by show _ = _; rw [HH.out, hbR.out]
        clear hR
        have hR0 : 0 < R.size := by omega
        have HC0 : Hid ((bts R).getD 0 0 = c) := by show _ = _; rw [hbR.out, getD_drop, Nat.add_zero]; exact HCC.out.symm
        have hR4 : R.size ≤ 4000000 := by omega
        clear HP HH hbR
        go_wp2_with (go_at_call 25; refine (mk_ix c HBY.out _).mono ?_; rintro e w' ⟨ix, rfl, hix, rfl⟩; rw [HMK.out] at hix; have hix2 : ¬ 0 ≤ ix := of_decide_eq_false hix; clear hix)
        rw [HRT.out]
        obtain ⟨t1, ht1⟩ : ∃ t, t = pf [126, 126, 126] (bts R) := ⟨_, rfl⟩
        obtain ⟨t2, ht2⟩ : ∃ t, t = pf [96, 96, 96] (bts R) := ⟨_, rfl⟩
        obtain ⟨t3, ht3⟩ : ∃ t, t = pf [91] (bts R) := ⟨_, rfl⟩
        have HT1 : Hid (pf [126, 126, 126] (bts R) = t1) := ht1.symm
        have HT2 : Hid (pf [96, 96, 96] (bts R) = t2) := ht2.symm
        have HT3 : Hid (pf [91] (bts R) = t3) := ht3.symm
        have HH3 : Hid (r = if t1 then (P : Int) else if t2 then (if tick (bts R) then (P : Int) else -1) else if t3 then (if brk false ((bts R).drop 1) then (P : Int) else -1) else -1) := by
          show _ = _
          rw [HH2.out, hidR, HT1.out, HT2.out, HT3.out]
        clear ht1 ht2 ht3 HH2
        go_at_call 26
        refine (hp_any R ⟨#[126, 126, 126]⟩ [126, 126, 126] bts_tl3 _).mono ?_
        rintro e w' ⟨rfl, rfl⟩
        rw [HT1.out]
        cases t1 with
        | true =>
          have HE : Hid (r = (P : Int)) := HH3.out
          clear HH3
          go_wp2_with fail
          go_ret
          exact ⟨by rw [HE.out]; rfl, Kept.refl _ _⟩
        | false =>
          go_wp2_with fail
          go_at_call 26
          refine (hp_any R ⟨#[96, 96, 96]⟩ [96, 96, 96] bts_bt3 _).mono ?_
          rintro e w' ⟨rfl, rfl⟩
          rw [HT2.out]
          cases t2 with
          | true =>
            have HE : Hid (r = if tick (bts R) then (P : Int) else -1) := HH3.out
            clear HH3
            go_wp2_with fail
            go_at_call 27
            refine (cut_any R _ hR4 HZ.out).mono ?_
            rintro e w1 ⟨ln, rs, b, rfl, hln, hK⟩
            have HK1 : Hid (Kept [] w w1) := hK
            have HLN : Hid (bts ln = (bts R).takeWhile (fun c => decide (c ≠ 10))) := hln
            have h96 : c = 96 := by
              have := pf_hd HT2.out (by decide)
              rw [HC0.out] at this
              exact this
            have hd0 : (bts R) = 96 :: (bts R).drop 1 := by
              have := drop_at (bts R) 0 (by rw [bts_len]; exact hR0)
              rw [List.drop_zero, HC0.out, h96, Nat.zero_add] at this
              exact this
            have hln0 : bts ln = 96 :: ((bts R).drop 1).takeWhile (fun c => decide (c ≠ 10)) := by
              rw [hln]
              conv => lhs; rw [hd0]
              rw [List.takeWhile_cons]
              simp
            have hls : ln.size ≤ R.size := by
              rw [← bts_len, ← bts_len, hln]
              exact (List.takeWhile_sublist _).length_le
            have hls0 : 0 < ln.size := by rw [← bts_len, hln0]; simp
            have hlc : (bts ln).getD 0 0 = 96 := by rw [hln0]; rfl
            have HLC : Hid ((bts ln).getD 0 0 = 96) := hlc
            obtain ⟨n, hn⟩ : ∃ n, n = run (fun c => decide (c = 96)) (bts ln) := ⟨_, rfl⟩
            have hnl : n ≤ ln.size := by rw [hn, ← bts_len]; exact run_le _ _
            have HN : Hid (run (fun c => decide (c = 96)) (bts ln) = n) := hn.symm
            have HTK : Hid (tick (bts R) = !decide ((96 : Int) ∈ bts (ln.extract n ln.size))) := by
              show _ = _
              rw [bts_from]
              unfold tick
              simp only []
              rw [← hln, ← hn]
              simp
            clear hn hln hln0 hd0 hlc hK h96
            obtain ⟨z, hz⟩ : ∃ z, z = decide ((96 : Int) ∈ bts (ln.extract n ln.size)) := ⟨_, rfl⟩
            have HZZ : Hid (decide ((96 : Int) ∈ bts (ln.extract n ln.size)) = z) := hz.symm
            rw [← hz] at HTK
            clear hz
            have q1 : (n : Int) ≤ (ln.size : Int) := by omega
            have q2 : (0 : Int) ≤ (n : Int) := by omega
            go_wp2_with fail
            go_at_call 29
            refine (runlen_any ln _ (by omega) hls0 HLC.out).mono ?_
            rintro e w2 ⟨rfl, hK⟩
            have HK2 : Hid (Kept [] w w2) := HK1.out.trans hK
            clear hK
            rw [HN.out]
            go_wp2_with fail
            go_at_call 28
            refine (tick_any (ln.extract n ln.size) _).mono ?_
            rintro e w' ⟨rfl, rfl⟩
            rw [HZZ.out]
            cases z with
            | true =>
              have HE2 : Hid (r = -1) := by show _ = _; rw [HE.out, HTK.out]; rfl
              clear HE HTK
              go_wp2_with fail
              go_ret
              exact ⟨by rw [HE2.out]; rfl, HK2.out⟩
            | false =>
              have HE2 : Hid (r = (P : Int)) := by show _ = _; rw [HE.out, HTK.out]; rfl
              clear HE HTK
              go_wp2_with fail
              go_ret
              exact ⟨by rw [HE2.out]; rfl, HK2.out⟩
          | false =>
            go_wp2_with fail
            go_at_call 26
            refine (hp_any R ⟨#[91]⟩ [91] rfl _).mono ?_
            rintro e w' ⟨rfl, rfl⟩
            rw [HT3.out]
            cases t3 with
            | false =>
              have HE : Hid (r = -1) := HH3.out
              clear HH3
              go_wp2_with fail
              go_ret
              exact ⟨by rw [HE.out]; rfl, Kept.refl _ _⟩
            | true =>
              have HE : Hid (r = if brk false ((bts R).drop 1) then (P : Int) else -1) := HH3.out
              clear HH3
              have bR : (R.size : Int) ≤ 4000000 := by omega
              go_wp2_with fail
              go_loopw [8] (fun v wr => ∃ j : Nat, v = .int .i64 j ∧ j ≤ R.size + 1 ∧ Hid (r = if brk false ((bts R).drop j) then (P : Int) else -1) ∧ w = wr) (fun v _ => R.size + 2 - (intOf v).toNat)
              case atStart => exact ⟨1, rfl, by omega, HE.out, rfl⟩
              case round =>
                clear HE
                obtain ⟨j, rfl, hj, HJ, rfl⟩ := hrel
                by_cases hjl : j < R.size
                · have f4 : (j : Int) < (R.size : Int) := by omega
                  have f3 : (0 : Int) ≤ (j : Int) := by omega
                  have f1 := bts_at R j hjl
                  have hl : j < (bts R).length := by rw [bts_len]; exact hjl
                  have A1 : Hid ((bts R).getD j 0 = 92 → r = if brk false ((bts R).drop (j + 2)) then (P : Int) else -1) := fun h => by rw [HJ.out, brk_esc _ _ hl h]
                  have A2 : Hid ((bts R).getD j 0 = 91 → r = -1) := fun h => by rw [HJ.out, brk_open _ _ hl h]; rfl
                  have A3 : Hid ((bts R).getD j 0 = 93 → r = if decide ((bts R).getD (j + 1) 0 = 58) then (P : Int) else -1) := fun h => by rw [HJ.out, brk_close _ _ hl h]
                  have A4 : Hid (¬ (bts R).getD j 0 = 92 → ¬ (bts R).getD j 0 = 91 → ¬ (bts R).getD j 0 = 93 → r = if brk false ((bts R).drop (j + 1)) then (P : Int) else -1) := fun h h' h'' => by rw [HJ.out, brk_on _ _ hl h h' h'']
                  obtain ⟨x, hx⟩ : ∃ x, x = (bts R).getD j 0 := ⟨_, rfl⟩
                  rw [← hx] at f1 A1 A2 A3 A4
                  clear hx hl
                  have hw3 := wr64 ((j : Int) + 1) (by omega) (by omega)
                  have hw4 := wr64 ((j : Int) + 1 + 1) (by omega) (by omega)
                  by_cases x92 : x = 92
                  · have NX : Hid _ := A1.out x92
                    clear A1 A2 A3 A4
                    subst x92
                    go_wp2_with fail
                    exact ⟨⟨j + 2, by go_num, by omega, NX.out, by trivial⟩, by simp [intOf]; omega⟩
                  · have g92 : (x == 92) = false := by simpa using x92
                    by_cases x91 : x = 91
                    · have NX : Hid (r = -1) := A2.out x91
                      clear A1 A2 A3 A4
                      subst x91
                      go_wp2_with fail
                      go_ret
                      exact ⟨by rw [NX.out]; rfl, Kept.refl _ _⟩
                    · have g91 : (x == 91) = false := by simpa using x91
                      by_cases x93 : x = 93
                      · have NX : Hid (r = if decide ((bts R).getD (j + 1) 0 = 58) then (P : Int) else -1) := A3.out x93
                        clear A1 A2 A3 A4
                        subst x93
                        by_cases hj1 : j + 1 < R.size
                        · have f5 : (j : Int) + 1 < (R.size : Int) := by omega
                          have f6 : ((j : Int) + 1).toNat = j + 1 := by omega
                          have f7 := bts_at R (j + 1) hj1
                          obtain ⟨y, hy⟩ : ∃ y, y = (bts R).getD (j + 1) 0 := ⟨_, rfl⟩
                          rw [← hy] at f7 NX
                          clear hy
                          by_cases y58 : y = 58
                          · have NX2 : Hid (r = (P : Int)) := by show _ = _; rw [NX.out, decide_eq_true y58]; rfl
                            clear NX
                            subst y58
                            go_wp2_with fail
                            go_ret
                            exact ⟨by rw [NX2.out]; rfl, Kept.refl _ _⟩
                          · have NX2 : Hid (r = -1) := by show _ = _; rw [NX.out, decide_eq_false y58]; rfl
                            have g58 : (y == 58) = false := by simpa using y58
                            clear NX
                            go_wp2_with fail
                            go_ret
                            exact ⟨by rw [NX2.out]; rfl, Kept.refl _ _⟩
                        · have f5 : (R.size : Int) ≤ (j : Int) + 1 := by omega
                          have hnone : (bts R)[j + 1]? = none := by rw [List.getElem?_eq_none]; rw [bts_len]; omega
                          have NX2 : Hid (r = -1) := by
                            show _ = _
                            have e0 : (bts R).getD (j + 1) 0 = 0 := by simp [List.getD, hnone]
                            rw [NX.out, e0]; rfl
                          clear NX hnone
                          go_wp2_with fail
                          go_ret
                          exact ⟨by rw [NX2.out]; rfl, Kept.refl _ _⟩
                      · have g93 : (x == 93) = false := by simpa using x93
                        have NX : Hid _ := A4.out x92 x91 x93
                        clear A1 A2 A3 A4
                        go_wp2_with fail
                        exact ⟨⟨j + 1, by go_num, by omega, NX.out, by trivial⟩, by simp [intOf]; omega⟩
                · have f4 : (R.size : Int) ≤ (j : Int) := by omega
                  have NX : Hid (r = -1) := by show _ = _; rw [HJ.out, brk_end _ _ (by rw [bts_len]; omega)]; rfl
                  go_wp2_with fail
                  go_ret
                  exact ⟨by rw [NX.out]; rfl, Kept.refl _ _⟩
    · have hie : i = s.size := by omega
      have hPi : P = i := by
        have := run_end isMk (bts s) i (by rw [bts_len]; omega)
        rw [HI.out, this]; omega
      have NX : Hid (r = -1) := by
        show _ = _
        rw [HH.out, List.drop_of_length_le (by rw [bts_len]; omega)]
        rfl
      subst hPi
      have d4 : (s.size : Int) ≤ (P : Int) := by omega
      have d5 : (P : Int) ≤ (s.size : Int) := by omega
      clear HI HP HH
      go_wp2_with fail
      go_at_call 26
      refine (hp_any _ ⟨#[126, 126, 126]⟩ [126, 126, 126] bts_tl3 _).mono ?_
      rintro e w' ⟨rfl, rfl⟩
      rw [pf_empty _ (by decide)]
      go_wp2_with fail
      go_at_call 26
      refine (hp_any _ ⟨#[96, 96, 96]⟩ [96, 96, 96] bts_bt3 _).mono ?_
      rintro e w' ⟨rfl, rfl⟩
      rw [pf_empty _ (by decide)]
      go_wp2_with fail
      go_at_call 26
      refine (hp_any _ ⟨#[91]⟩ [91] rfl _).mono ?_
      rintro e w' ⟨rfl, rfl⟩
      rw [pf_empty _ (by decide)]
      go_wp2_with fail
      go_ret
      exact ⟨by rw [NX.out]; rfl, Kept.refl _ _⟩

theorem zzhiding_any (s : ByteArray) (w : World) (hs : s.size ≤ 4000000) (hz : Zc w) :
    Calls Try.prog 8 #[.string s] w fun e w' => e = .returned (.int .i64 (hid (bts s))) ∧ Kept [] w w' := by
  have HZ : Hid (Zc w) := hz
  clear hz
  obtain ⟨r, hr⟩ : ∃ r, r = hid (bts s) := ⟨_, rfl⟩
  have HR : Hid (hid (bts s) = r) := hr.symm
  rw [← hr]
  clear hr
  go_enter Try.func8, Try.ntmps8
  go_wp2_with (go_at_call 21; refine (hiding_any s _ hs HZ.out).mono ?_; rintro e w1 ⟨rfl, hK⟩; rw [HR.out])
  go_ret
  exact ⟨rfl, hK⟩
end Go.Proofs.Qxb6605488a
