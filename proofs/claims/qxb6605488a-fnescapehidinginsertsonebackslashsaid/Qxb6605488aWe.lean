import Derived.Test.Qxb6605488aWd
namespace Go.Proofs.Qxb6605488a
open Go.RowKit
set_option linter.unusedVariables false
set_option linter.unusedSimpArgs false

theorem count_run (l : List Int) : l.count 96 = run (fun c => decide (c = 96)) l + (l.drop (run (fun c => decide (c = 96)) l)).count 96 := by
  induction l with
  | nil => simp [run]
  | cons c r ih =>
    by_cases h : c = 96
    · subst h
      have e : run (fun c => decide (c = 96)) (96 :: r) = run (fun c => decide (c = 96)) r + 1 := by simp [run, List.takeWhile_cons]
      rw [e, List.drop_succ_cons, List.count_cons, ih]
      simp
      omega
    · have e : run (fun c => decide (c = 96)) (c :: r) = 0 := by simp [run, List.takeWhile_cons, h]
      rw [e]
      simp

theorem tick_count (l : List Int) : tick l = decide ((l.takeWhile (fun c => decide (c ≠ 10))).count 96 = run (fun c => decide (c = 96)) (l.takeWhile (fun c => decide (c ≠ 10)))) := by
  unfold tick
  simp only []
  rw [count_run, Bool.eq_iff_iff, decide_eq_true_eq, decide_eq_true_eq]
  rw [← List.count_eq_zero]
  constructor
  · intro h; rw [h]; rfl
  · intro h; omega

theorem brk_step (t : Bool) (c : Int) (r : List Int) (h : t = true ∨ (c ≠ 91 ∧ c ≠ 93)) : brk t (c :: r) = brk (!t && decide (c = 92)) r := by
  cases t with
  | true => simp [brk]
  | false =>
    rcases h with h | ⟨h1, h2⟩
    · cases h
    · by_cases h3 : c = 92
      · simp [brk, h3]
      · simp [brk, h1, h2, h3]

theorem seg_next (T : List Int) (a j : Nat) (h1 : a ≤ j) (h2 : j < T.length) : (T.drop a).take (j + 1 - a) = (T.drop a).take (j - a) ++ [T.getD j 0] := by
  have hl : j - a < (T.drop a).length := by rw [List.length_drop]; omega
  have e : j + 1 - a = (j - a) + 1 := by omega
  rw [e, List.take_succ_eq_append_getElem hl]
  congr 2
  have := getD_drop T a (j - a)
  rw [show a + (j - a) = j by omega] at this
  rw [← this]
  simp [List.getD, List.getElem?_eq_getElem hl]

/-- The bracket's loop in the model. -/
def BrI (T : List Int) (P : Nat) (r : Int) (j : Nat) : Prop := r = if brk (st false ((T.drop (P + 1)).take (j - (P + 1)))) (T.drop j) then (P : Int) else -1

theorem bri_step {T : List Int} {P : Nat} {r : Int} {j : Nat} (h : BrI T P r j) (hP : P + 1 ≤ j) (hj : j < T.length) (hc : st false ((T.drop (P + 1)).take (j - (P + 1))) = true ∨ (T.getD j 0 ≠ 91 ∧ T.getD j 0 ≠ 93)) : BrI T P r (j + 1) := by
  unfold BrI at h ⊢
  rw [h, drop_at T j hj, brk_step _ _ _ hc, seg_next T (P + 1) j hP hj, st_snoc]

set_option maxRecDepth 100000 in
set_option maxHeartbeats 4000000 in
theorem model_any (s : ByteArray) (w : World) (hs : s.size ≤ 4000000) :
    Calls Try.prog 9 #[.string s] w fun e w' => e = .returned (.int .i64 (hid (bts s))) ∧ Kept [] w w' := by
  have bs : (s.size : Int) ≤ 4000000 := by omega
  obtain ⟨P, hP⟩ : ∃ P, P = run isMk (bts s) := ⟨_, rfl⟩
  have hPl : P ≤ s.size := by rw [hP, ← bts_len]; exact run_le _ _
  have HH : Hid (hid (bts s) = hidR P ((bts s).drop P)) := by show _ = _; rw [hP]; rfl
  have HP : Hid (P = run isMk (bts s)) := hP
  clear hP
  obtain ⟨r, hr⟩ : ∃ r, r = hid (bts s) := ⟨_, rfl⟩
  rw [← hr] at HH ⊢
  clear hr
  have hP0 : (0 : Int) ≤ (P : Int) := by omega
  have hPs : (P : Int) ≤ (s.size : Int) := by omega
  obtain ⟨t1, ht1⟩ : ∃ t, t = pf [126, 126, 126] ((bts s).drop P) := ⟨_, rfl⟩
  obtain ⟨t2, ht2⟩ : ∃ t, t = pf [96, 96, 96] ((bts s).drop P) := ⟨_, rfl⟩
  obtain ⟨t3, ht3⟩ : ∃ t, t = pf [91] ((bts s).drop P) := ⟨_, rfl⟩
  have HT3 : Hid (pf [91] ((bts s).drop P) = t3) := ht3.symm
  have HH3 : Hid (r = if t1 then (P : Int) else if t2 then (if tick ((bts s).drop P) then (P : Int) else -1) else if t3 then (if brk false (((bts s).drop P).drop 1) then (P : Int) else -1) else -1) := by
    show _ = _
    rw [HH.out, hidR, ← ht1, ← ht2, ← ht3]
  have P1 : Hid (∀ w, Calls Try.prog 22 #[.string s, .int .i64 P, .string ⟨#[126, 126, 126]⟩] w fun e w' => e = .returned (.bool t1) ∧ Kept [] w w') := fun w => by
    have := pre_any s ⟨#[126, 126, 126]⟩ P w hPl hs
    rw [bts_tl3, ← ht1] at this
    exact this
  have P2 : Hid (∀ w, Calls Try.prog 22 #[.string s, .int .i64 P, .string ⟨#[96, 96, 96]⟩] w fun e w' => e = .returned (.bool t2) ∧ Kept [] w w') := fun w => by
    have := pre_any s ⟨#[96, 96, 96]⟩ P w hPl hs
    rw [bts_bt3, ← ht2] at this
    exact this
  have HTT : Hid (t2 = true → P < s.size) := by
    intro h
    rw [h] at ht2
    rcases Nat.lt_or_ge P s.size with h1 | h1
    · exact h1
    · rw [List.drop_of_length_le (by rw [bts_len]; exact h1)] at ht2
      cases ht2
  clear ht1 ht2 ht3 HH
  go_enter Try.func9, Try.ntmps9
  go_wp2_with fail
  go_loopw [3] (fun v wr => ∃ i : Nat, v = .int .i64 i ∧ i ≤ s.size ∧ Hid (P = i + run isMk ((bts s).drop i)) ∧ w = wr) (fun v _ => s.size - (intOf v).toNat)
  case atStart => exact ⟨0, rfl, Nat.zero_le _, by show _ = _; rw [HP.out]; simp, rfl⟩
  case round =>
    obtain ⟨i, rfl, hi, HI, rfl⟩ := hrel
    have d3 : (0 : Int) ≤ (i : Int) := by omega
    by_cases hlt : i < s.size
    · have d4 : (i : Int) < (s.size : Int) := by omega
      have e1 := bts_at s i hlt
      have HY : Hid (isMk ((bts s).getD i 0) = true → P = i + 1 + run isMk ((bts s).drop (i + 1))) := fun h => by
        have := run_yes isMk (bts s) i (by rw [bts_len]; exact hlt) h
        rw [HI.out, this]; omega
      have HO : Hid (isMk ((bts s).getD i 0) = false → P = i) := fun h => by
        have := run_no isMk (bts s) i (by rw [bts_len]; exact hlt) h
        rw [HI.out, this]; omega
      obtain ⟨c, hc⟩ : ∃ c, c = (bts s).getD i 0 := ⟨_, rfl⟩
      rw [← hc] at e1 HY HO
      clear hc
      have hw2 := wr64 ((i : Int) + 1) (by omega) (by omega)
      by_cases hmk : isMk c = true
      · have HZ2 : Hid (P = i + 1 + run isMk ((bts s).drop (i + 1))) := HY.out hmk
        have HMK : Hid (isMk c = true) := hmk
        clear HY HO hmk HH3
        go_wp2_with (go_at_call 11; refine (mark_any c _).mono ?_; rintro e w' ⟨rfl, hq⟩; obtain rfl := hq.symm; rw [HMK.out])
        exact ⟨⟨i + 1, by go_num, by omega, HZ2.out, by trivial⟩, by simp [intOf]; omega⟩
      · have hmk' : isMk c = false := by simpa using hmk
        have hPi : P = i := HO.out hmk'
        have HMK : Hid (isMk c = false) := hmk'
        clear HY HO hmk hmk' HI HP hw2
        subst hPi
        go_wp2_with (go_at_call 11; refine (mark_any c _).mono ?_; rintro e w' ⟨rfl, hq⟩; obtain rfl := hq.symm; rw [HMK.out])
        clear e1 d4 hlt
        go_at_call 22
        refine (P1.out _).mono ?_
        rintro e w1 ⟨rfl, hK⟩
        have HK1 : Hid (Kept [] w w1) := hK
        clear hK
        cases t1 with
        | true =>
          have HE : Hid (r = (P : Int)) := HH3.out
          clear HH3
          go_wp2_with fail
          go_ret
          exact ⟨by rw [HE.out]; rfl, HK1.out⟩
        | false =>
          go_wp2_with fail
          go_at_call 22
          refine (P2.out _).mono ?_
          rintro e w2 ⟨rfl, hK⟩
          have HK2 : Hid (Kept [] w w2) := HK1.out.trans hK
          clear hK
          cases t2 with
          | true =>
            have HE : Hid (r = if tick ((bts s).drop P) then (P : Int) else -1) := HH3.out
            have hPlt : P < s.size := HTT.out rfl
            clear HH3
            obtain ⟨L, hL⟩ : ∃ L, L = ((bts s).drop P).takeWhile (fun c => decide (c ≠ 10)) := ⟨_, rfl⟩
            have hLl : L.length = run (fun c => decide (c ≠ 10)) ((bts s).drop P) := by rw [hL]; rfl
            have hLs : P + L.length ≤ s.size := by
              have := run_le (fun c => decide (c ≠ 10)) ((bts s).drop P)
              rw [← hLl, List.length_drop, bts_len] at this
              omega
            have HLT : Hid (L = ((bts s).drop P).take L.length) := by
              show _ = _
              have := List.takeWhile_prefix (l := (bts s).drop P) (p := fun c => decide (c ≠ 10))
              rw [← hL] at this
              exact List.prefix_iff_eq_take.1 this
            have HLG : Hid (∀ k, k < L.length → L.getD k 0 = (bts s).getD (P + k) 0) := by
              intro k hk
              rw [HLT.out, getD_seg _ _ _ _ hk]
            have HE2 : Hid (r = if decide (L.count 96 = run (fun c => decide (c = 96)) L) then (P : Int) else -1) := by
              show _ = _
              rw [HE.out, tick_count, hL]
            obtain ⟨E, hE⟩ : ∃ E, E = P + L.length := ⟨_, rfl⟩
            have HER : Hid (E = P + run (fun c => decide (c ≠ 10)) ((bts s).drop P)) := by show _ = _; rw [hE, hLl]
            have hE1 : E ≤ P + L.length := by omega
            have hE2 : P + L.length ≤ E := by omega
            clear HE hL hLl HLT hE
            have hEs : (E : Int) ≤ (s.size : Int) := by omega
            go_wp2_with fail
            go_loopw [4] (fun v wr => ∃ j : Nat, v = .int .i64 j ∧ P ≤ j ∧ j ≤ s.size ∧ Hid (E = j + run (fun c => decide (c ≠ 10)) ((bts s).drop j)) ∧ w2 = wr) (fun v _ => s.size - (intOf v).toNat)
            case atStart => exact ⟨P, rfl, Nat.le_refl _, by omega, HER.out, rfl⟩
            case round =>
              obtain ⟨j, rfl, hj0, hj, HJ, rfl⟩ := hrel
              clear HER
              have f3 : (0 : Int) ≤ (j : Int) := by omega
              have HSTOP : Hid ((j < s.size → (bts s).getD j 0 = 10) → j = E) := by
                intro h
                rcases Nat.lt_or_ge j s.size with h1 | h1
                · have := run_no (fun c => decide (c ≠ 10)) (bts s) j (by rw [bts_len]; exact h1) (by rw [h h1]; rfl)
                  have := HJ.out
                  omega
                · have := run_end (fun c => decide (c ≠ 10)) (bts s) j (by rw [bts_len]; exact h1)
                  have := HJ.out
                  omega
              have HGO : Hid (j < s.size → (bts s).getD j 0 ≠ 10 → E = j + 1 + run (fun c => decide (c ≠ 10)) ((bts s).drop (j + 1))) := by
                intro h1 h2
                have := run_yes (fun c => decide (c ≠ 10)) (bts s) j (by rw [bts_len]; exact h1) (by simpa using h2)
                have := HJ.out
                omega
              clear HJ
              by_cases hjl : j < s.size
              · have f4 : (j : Int) < (s.size : Int) := by omega
                have f1 := bts_at s j hjl
                obtain ⟨x, hx⟩ : ∃ x, x = (bts s).getD j 0 := ⟨_, rfl⟩
                rw [← hx] at f1 HSTOP HGO
                clear hx
                have hw5 := wr64 ((j : Int) + 1) (by omega) (by omega)
                by_cases h10 : x = 10
                · have hjE : j = E := HSTOP.out (fun _ => h10)
                  clear HSTOP HGO
                  subst h10
                  subst hjE
                  go_wp2_with fail
                  have START : Hid (run (fun c => decide (c = 96)) L = 0 + run (fun c => decide (c = 96)) (L.drop 0)) := by show _ = _; simp
                  obtain ⟨n, hn⟩ : ∃ n, n = run (fun c => decide (c = 96)) L := ⟨_, rfl⟩
                  have hnL : n ≤ L.length := by rw [hn]; exact run_le _ _
                  rw [← hn] at START HE2
                  clear hn
                  go_loopw [5] (fun v wr => ∃ k : Nat, v = .int .i64 k ∧ k ≤ L.length ∧ Hid (n = k + run (fun c => decide (c = 96)) (L.drop k)) ∧ w2 = wr) (fun v _ => L.length - (intOf v).toNat)
                  case atStart => exact ⟨0, rfl, Nat.zero_le _, START.out, rfl⟩
                  case round =>
                    clear START
                    obtain ⟨k, rfl, hk, HJ, rfl⟩ := hrel
                    have k3 : (0 : Int) ≤ (P : Int) + (k : Int) := by omega
                    have hw5 := wr64 ((P : Int) + (k : Int)) (by omega) (by omega)
                    have HNX : Hid (k < L.length → L.getD k 0 = 96 → n = k + 1 + run (fun c => decide (c = 96)) (L.drop (k + 1))) := by
                      intro h1 h2
                      have := run_yes (fun c => decide (c = 96)) L k h1 (by simpa using h2)
                      have := HJ.out
                      omega
                    have HSTP : Hid ((k < L.length → L.getD k 0 ≠ 96) → n = k) := by
                      intro h
                      rcases Nat.lt_or_ge k L.length with h1 | h1
                      · have := run_no (fun c => decide (c = 96)) L k h1 (by simpa using h h1)
                        have := HJ.out
                        omega
                      · have := run_end (fun c => decide (c = 96)) L k h1
                        have := HJ.out
                        omega
                    clear HJ
                    by_cases hkl : k < L.length
                    · have k4 : (P : Int) + (k : Int) < (j : Int) := by omega
                      have k5 : (P : Int) + (k : Int) < (s.size : Int) := by omega
                      have k6 : ((P : Int) + (k : Int)).toNat = P + k := by omega
                      have k1 := bts_at s (P + k) (by omega)
                      rw [HLG.out k hkl] at HNX HSTP
                      obtain ⟨y, hy⟩ : ∃ y, y = (bts s).getD (P + k) 0 := ⟨_, rfl⟩
                      rw [← hy] at k1 HNX HSTP
                      clear hy
                      have hw6 := wr64 ((k : Int) + 1) (by omega) (by omega)
                      by_cases h96 : y = 96
                      · have NX : Hid (n = k + 1 + run (fun c => decide (c = 96)) (L.drop (k + 1))) := HNX.out hkl h96
                        clear HNX HSTP
                        subst h96
                        go_wp2_with fail
                        exact ⟨⟨k + 1, by go_num, by omega, NX.out, by trivial⟩, by simp [intOf]; omega⟩
                      · have hnk : n = k := HSTP.out (fun _ => h96)
                        have g96 : (y == 96) = false := by simpa using h96
                        clear HNX HSTP
                        subst hnk
                        go_wp2_with fail
                        go_loopw [6, 7] (fun u v wr => ∃ (t q : Nat), u = .int .i64 t ∧ v = .int .i64 q ∧ P ≤ q ∧ q ≤ j ∧ Hid (t = (L.take (q - P)).count 96) ∧ t ≤ q ∧ w2 = wr) (fun _ v _ => j - (intOf v).toNat)
                        case atStart => exact ⟨0, P, rfl, rfl, Nat.le_refl _, by omega, by show _ = _; simp, by omega, rfl⟩
                        case round =>
                          obtain ⟨t, q, rfl, rfl, hq0, hq, HJ, htq, rfl⟩ := hrel
                          have q3 : (0 : Int) ≤ (q : Int) := by omega
                          by_cases hql : q < j
                          · have q4 : (q : Int) < (j : Int) := by omega
                            have q5 : (q : Int) < (s.size : Int) := by omega
                            have q1 := bts_at s q (by omega)
                            have HNX : Hid ((L.take (q + 1 - P)).count 96 = (L.take (q - P)).count 96 + if (bts s).getD q 0 = 96 then 1 else 0) := by
                              show _ = _
                              have e1 : q + 1 - P = (q - P) + 1 := by omega
                              have e2 : q - P < L.length := by omega
                              have e3 := HLG.out (q - P) e2
                              rw [show P + (q - P) = q by omega] at e3
                              simp only [List.getD, List.getElem?_eq_getElem e2, Option.getD_some] at e3
                              rw [e1, List.take_succ_eq_append_getElem e2, List.count_append, e3]
                              simp only [List.getD, List.count_singleton, beq_iff_eq]
                              rfl
                            obtain ⟨v, hv⟩ : ∃ v, v = (bts s).getD q 0 := ⟨_, rfl⟩
                            rw [← hv] at q1 HNX
                            clear hv
                            have hw7 := wr64 ((q : Int) + 1) (by omega) (by omega)
                            have hw8 := wr64 ((t : Int) + 1) (by omega) (by omega)
                            by_cases h96 : v = 96
                            · have NX : Hid (t + 1 = (L.take (q + 1 - P)).count 96) := by show _ = _; rw [HNX.out, if_pos h96, HJ.out]
                              clear HNX HJ
                              subst h96
                              go_wp2_with fail
                              exact ⟨⟨t + 1, q + 1, by go_num, by go_num, by omega, by omega, NX.out, by omega, by trivial⟩, by simp [intOf]; omega⟩
                            · have NX : Hid (t = (L.take (q + 1 - P)).count 96) := by show _ = _; rw [HNX.out, if_neg h96, HJ.out]; rfl
                              have g96 : (v == 96) = false := by simpa using h96
                              clear HNX HJ
                              go_wp2_with fail
                              exact ⟨⟨t, q + 1, rfl, by go_num, by omega, by omega, NX.out, by omega, by trivial⟩, by simp [intOf]; omega⟩
                          · have q4 : (j : Int) ≤ (q : Int) := by omega
                            have HTT2 : Hid (t = L.count 96) := by
                              show _ = _
                              have := HJ.out
                              rw [List.take_of_length_le (by omega)] at this
                              exact this
                            have HE3 : Hid (r = if decide (t = n) then (P : Int) else -1) := by show _ = _; rw [HE2.out, HTT2.out]
                            clear HJ HTT2
                            by_cases htn : t = n
                            · have HE4 : Hid (r = (P : Int)) := by show _ = _; rw [HE3.out, decide_eq_true htn]; rfl
                              clear HE3
                              subst htn
                              go_wp2_with fail
                              go_ret
                              exact ⟨by rw [HE4.out]; rfl, HK2.out⟩
                            · have HE4 : Hid (r = -1) := by show _ = _; rw [HE3.out, decide_eq_false htn]; rfl
                              have gtn : ((t : Int) == (n : Int)) = false := by simp; omega
                              clear HE3
                              go_wp2_with fail
                              go_ret
                              exact ⟨by rw [HE4.out]; rfl, HK2.out⟩
                    · have k4 : (j : Int) ≤ (P : Int) + (k : Int) := by omega
                      have hnk : n = k := HSTP.out (fun h => absurd h hkl)
                      clear HNX HSTP
                      subst hnk
                      go_wp2_with fail
                      go_loopw [6, 7] (fun u v wr => ∃ (t q : Nat), u = .int .i64 t ∧ v = .int .i64 q ∧ P ≤ q ∧ q ≤ j ∧ Hid (t = (L.take (q - P)).count 96) ∧ t ≤ q ∧ w2 = wr) (fun _ v _ => j - (intOf v).toNat)
                      case atStart => exact ⟨0, P, rfl, rfl, Nat.le_refl _, by omega, by show _ = _; simp, by omega, rfl⟩
                      case round =>
                        obtain ⟨t, q, rfl, rfl, hq0, hq, HJ, htq, rfl⟩ := hrel
                        have q3 : (0 : Int) ≤ (q : Int) := by omega
                        by_cases hql : q < j
                        · have q4 : (q : Int) < (j : Int) := by omega
                          have q5 : (q : Int) < (s.size : Int) := by omega
                          have q1 := bts_at s q (by omega)
                          have HNX : Hid ((L.take (q + 1 - P)).count 96 = (L.take (q - P)).count 96 + if (bts s).getD q 0 = 96 then 1 else 0) := by
                            show _ = _
                            have e1 : q + 1 - P = (q - P) + 1 := by omega
                            have e2 : q - P < L.length := by omega
                            have e3 := HLG.out (q - P) e2
                            rw [show P + (q - P) = q by omega] at e3
                            simp only [List.getD, List.getElem?_eq_getElem e2, Option.getD_some] at e3
                            rw [e1, List.take_succ_eq_append_getElem e2, List.count_append, e3]
                            simp only [List.getD, List.count_singleton, beq_iff_eq]
                            rfl
                          obtain ⟨v, hv⟩ : ∃ v, v = (bts s).getD q 0 := ⟨_, rfl⟩
                          rw [← hv] at q1 HNX
                          clear hv
                          have hw7 := wr64 ((q : Int) + 1) (by omega) (by omega)
                          have hw8 := wr64 ((t : Int) + 1) (by omega) (by omega)
                          by_cases h96 : v = 96
                          · have NX : Hid (t + 1 = (L.take (q + 1 - P)).count 96) := by show _ = _; rw [HNX.out, if_pos h96, HJ.out]
                            clear HNX HJ
                            subst h96
                            go_wp2_with fail
                            exact ⟨⟨t + 1, q + 1, by go_num, by go_num, by omega, by omega, NX.out, by omega, by trivial⟩, by simp [intOf]; omega⟩
                          · have NX : Hid (t = (L.take (q + 1 - P)).count 96) := by show _ = _; rw [HNX.out, if_neg h96, HJ.out]; rfl
                            have g96 : (v == 96) = false := by simpa using h96
                            clear HNX HJ
                            go_wp2_with fail
                            exact ⟨⟨t, q + 1, rfl, by go_num, by omega, by omega, NX.out, by omega, by trivial⟩, by simp [intOf]; omega⟩
                        · have q4 : (j : Int) ≤ (q : Int) := by omega
                          have HTT2 : Hid (t = L.count 96) := by
                            show _ = _
                            have := HJ.out
                            rw [List.take_of_length_le (by omega)] at this
                            exact this
                          have HE3 : Hid (r = if decide (t = n) then (P : Int) else -1) := by show _ = _; rw [HE2.out, HTT2.out]
                          clear HJ HTT2
                          by_cases htn : t = n
                          · have HE4 : Hid (r = (P : Int)) := by show _ = _; rw [HE3.out, decide_eq_true htn]; rfl
                            clear HE3
                            subst htn
                            go_wp2_with fail
                            go_ret
                            exact ⟨by rw [HE4.out]; rfl, HK2.out⟩
                          · have HE4 : Hid (r = -1) := by show _ = _; rw [HE3.out, decide_eq_false htn]; rfl
                            have gtn : ((t : Int) == (n : Int)) = false := by simp; omega
                            clear HE3
                            go_wp2_with fail
                            go_ret
                            exact ⟨by rw [HE4.out]; rfl, HK2.out⟩
                · have NX : Hid (E = j + 1 + run (fun c => decide (c ≠ 10)) ((bts s).drop (j + 1))) := HGO.out hjl h10
                  have g10 : (x != 10) = true := by simpa using h10
                  clear HSTOP HGO
                  go_wp2_with fail
                  exact ⟨⟨j + 1, by go_num, by omega, by omega, NX.out, by trivial⟩, by simp [intOf]; omega⟩
              · have hjE : j = E := HSTOP.out (fun h => absurd h hjl)
                clear HSTOP HGO
                subst hjE
                have f4 : (s.size : Int) ≤ (j : Int) := by omega
                go_wp2_with fail
                have START : Hid (run (fun c => decide (c = 96)) L = 0 + run (fun c => decide (c = 96)) (L.drop 0)) := by show _ = _; simp
                obtain ⟨n, hn⟩ : ∃ n, n = run (fun c => decide (c = 96)) L := ⟨_, rfl⟩
                have hnL : n ≤ L.length := by rw [hn]; exact run_le _ _
                rw [← hn] at START HE2
                clear hn
                go_loopw [5] (fun v wr => ∃ k : Nat, v = .int .i64 k ∧ k ≤ L.length ∧ Hid (n = k + run (fun c => decide (c = 96)) (L.drop k)) ∧ w2 = wr) (fun v _ => L.length - (intOf v).toNat)
                case atStart => exact ⟨0, rfl, Nat.zero_le _, START.out, rfl⟩
                case round =>
                  clear START
                  obtain ⟨k, rfl, hk, HJ, rfl⟩ := hrel
                  have k3 : (0 : Int) ≤ (P : Int) + (k : Int) := by omega
                  have hw5 := wr64 ((P : Int) + (k : Int)) (by omega) (by omega)
                  have HNX : Hid (k < L.length → L.getD k 0 = 96 → n = k + 1 + run (fun c => decide (c = 96)) (L.drop (k + 1))) := by
                    intro h1 h2
                    have := run_yes (fun c => decide (c = 96)) L k h1 (by simpa using h2)
                    have := HJ.out
                    omega
                  have HSTP : Hid ((k < L.length → L.getD k 0 ≠ 96) → n = k) := by
                    intro h
                    rcases Nat.lt_or_ge k L.length with h1 | h1
                    · have := run_no (fun c => decide (c = 96)) L k h1 (by simpa using h h1)
                      have := HJ.out
                      omega
                    · have := run_end (fun c => decide (c = 96)) L k h1
                      have := HJ.out
                      omega
                  clear HJ
                  by_cases hkl : k < L.length
                  · have k4 : (P : Int) + (k : Int) < (j : Int) := by omega
                    have k5 : (P : Int) + (k : Int) < (s.size : Int) := by omega
                    have k6 : ((P : Int) + (k : Int)).toNat = P + k := by omega
                    have k1 := bts_at s (P + k) (by omega)
                    rw [HLG.out k hkl] at HNX HSTP
                    obtain ⟨y, hy⟩ : ∃ y, y = (bts s).getD (P + k) 0 := ⟨_, rfl⟩
                    rw [← hy] at k1 HNX HSTP
                    clear hy
                    have hw6 := wr64 ((k : Int) + 1) (by omega) (by omega)
                    by_cases h96 : y = 96
                    · have NX : Hid (n = k + 1 + run (fun c => decide (c = 96)) (L.drop (k + 1))) := HNX.out hkl h96
                      clear HNX HSTP
                      subst h96
                      go_wp2_with fail
                      exact ⟨⟨k + 1, by go_num, by omega, NX.out, by trivial⟩, by simp [intOf]; omega⟩
                    · have hnk : n = k := HSTP.out (fun _ => h96)
                      have g96 : (y == 96) = false := by simpa using h96
                      clear HNX HSTP
                      subst hnk
                      go_wp2_with fail
                      go_loopw [6, 7] (fun u v wr => ∃ (t q : Nat), u = .int .i64 t ∧ v = .int .i64 q ∧ P ≤ q ∧ q ≤ j ∧ Hid (t = (L.take (q - P)).count 96) ∧ t ≤ q ∧ w2 = wr) (fun _ v _ => j - (intOf v).toNat)
                      case atStart => exact ⟨0, P, rfl, rfl, Nat.le_refl _, by omega, by show _ = _; simp, by omega, rfl⟩
                      case round =>
                        obtain ⟨t, q, rfl, rfl, hq0, hq, HJ, htq, rfl⟩ := hrel
                        have q3 : (0 : Int) ≤ (q : Int) := by omega
                        by_cases hql : q < j
                        · have q4 : (q : Int) < (j : Int) := by omega
                          have q5 : (q : Int) < (s.size : Int) := by omega
                          have q1 := bts_at s q (by omega)
                          have HNX : Hid ((L.take (q + 1 - P)).count 96 = (L.take (q - P)).count 96 + if (bts s).getD q 0 = 96 then 1 else 0) := by
                            show _ = _
                            have e1 : q + 1 - P = (q - P) + 1 := by omega
                            have e2 : q - P < L.length := by omega
                            have e3 := HLG.out (q - P) e2
                            rw [show P + (q - P) = q by omega] at e3
                            simp only [List.getD, List.getElem?_eq_getElem e2, Option.getD_some] at e3
                            rw [e1, List.take_succ_eq_append_getElem e2, List.count_append, e3]
                            simp only [List.getD, List.count_singleton, beq_iff_eq]
                            rfl
                          obtain ⟨v, hv⟩ : ∃ v, v = (bts s).getD q 0 := ⟨_, rfl⟩
                          rw [← hv] at q1 HNX
                          clear hv
                          have hw7 := wr64 ((q : Int) + 1) (by omega) (by omega)
                          have hw8 := wr64 ((t : Int) + 1) (by omega) (by omega)
                          by_cases h96 : v = 96
                          · have NX : Hid (t + 1 = (L.take (q + 1 - P)).count 96) := by show _ = _; rw [HNX.out, if_pos h96, HJ.out]
                            clear HNX HJ
                            subst h96
                            go_wp2_with fail
                            exact ⟨⟨t + 1, q + 1, by go_num, by go_num, by omega, by omega, NX.out, by omega, by trivial⟩, by simp [intOf]; omega⟩
                          · have NX : Hid (t = (L.take (q + 1 - P)).count 96) := by show _ = _; rw [HNX.out, if_neg h96, HJ.out]; rfl
                            have g96 : (v == 96) = false := by simpa using h96
                            clear HNX HJ
                            go_wp2_with fail
                            exact ⟨⟨t, q + 1, rfl, by go_num, by omega, by omega, NX.out, by omega, by trivial⟩, by simp [intOf]; omega⟩
                        · have q4 : (j : Int) ≤ (q : Int) := by omega
                          have HTT2 : Hid (t = L.count 96) := by
                            show _ = _
                            have := HJ.out
                            rw [List.take_of_length_le (by omega)] at this
                            exact this
                          have HE3 : Hid (r = if decide (t = n) then (P : Int) else -1) := by show _ = _; rw [HE2.out, HTT2.out]
                          clear HJ HTT2
                          by_cases htn : t = n
                          · have HE4 : Hid (r = (P : Int)) := by show _ = _; rw [HE3.out, decide_eq_true htn]; rfl
                            clear HE3
                            subst htn
                            go_wp2_with fail
                            go_ret
                            exact ⟨by rw [HE4.out]; rfl, HK2.out⟩
                          · have HE4 : Hid (r = -1) := by show _ = _; rw [HE3.out, decide_eq_false htn]; rfl
                            have gtn : ((t : Int) == (n : Int)) = false := by simp; omega
                            clear HE3
                            go_wp2_with fail
                            go_ret
                            exact ⟨by rw [HE4.out]; rfl, HK2.out⟩
                  · have k4 : (j : Int) ≤ (P : Int) + (k : Int) := by omega
                    have hnk : n = k := HSTP.out (fun h => absurd h hkl)
                    clear HNX HSTP
                    subst hnk
                    go_wp2_with fail
                    go_loopw [6, 7] (fun u v wr => ∃ (t q : Nat), u = .int .i64 t ∧ v = .int .i64 q ∧ P ≤ q ∧ q ≤ j ∧ Hid (t = (L.take (q - P)).count 96) ∧ t ≤ q ∧ w2 = wr) (fun _ v _ => j - (intOf v).toNat)
                    case atStart => exact ⟨0, P, rfl, rfl, Nat.le_refl _, by omega, by show _ = _; simp, by omega, rfl⟩
                    case round =>
                      obtain ⟨t, q, rfl, rfl, hq0, hq, HJ, htq, rfl⟩ := hrel
                      have q3 : (0 : Int) ≤ (q : Int) := by omega
                      by_cases hql : q < j
                      · have q4 : (q : Int) < (j : Int) := by omega
                        have q5 : (q : Int) < (s.size : Int) := by omega
                        have q1 := bts_at s q (by omega)
                        have HNX : Hid ((L.take (q + 1 - P)).count 96 = (L.take (q - P)).count 96 + if (bts s).getD q 0 = 96 then 1 else 0) := by
                          show _ = _
                          have e1 : q + 1 - P = (q - P) + 1 := by omega
                          have e2 : q - P < L.length := by omega
                          have e3 := HLG.out (q - P) e2
                          rw [show P + (q - P) = q by omega] at e3
                          simp only [List.getD, List.getElem?_eq_getElem e2, Option.getD_some] at e3
                          rw [e1, List.take_succ_eq_append_getElem e2, List.count_append, e3]
                          simp only [List.getD, List.count_singleton, beq_iff_eq]
                          rfl
                        obtain ⟨v, hv⟩ : ∃ v, v = (bts s).getD q 0 := ⟨_, rfl⟩
                        rw [← hv] at q1 HNX
                        clear hv
                        have hw7 := wr64 ((q : Int) + 1) (by omega) (by omega)
                        have hw8 := wr64 ((t : Int) + 1) (by omega) (by omega)
                        by_cases h96 : v = 96
                        · have NX : Hid (t + 1 = (L.take (q + 1 - P)).count 96) := by show _ = _; rw [HNX.out, if_pos h96, HJ.out]
                          clear HNX HJ
                          subst h96
                          go_wp2_with fail
                          exact ⟨⟨t + 1, q + 1, by go_num, by go_num, by omega, by omega, NX.out, by omega, by trivial⟩, by simp [intOf]; omega⟩
                        · have NX : Hid (t = (L.take (q + 1 - P)).count 96) := by show _ = _; rw [HNX.out, if_neg h96, HJ.out]; rfl
                          have g96 : (v == 96) = false := by simpa using h96
                          clear HNX HJ
                          go_wp2_with fail
                          exact ⟨⟨t, q + 1, rfl, by go_num, by omega, by omega, NX.out, by omega, by trivial⟩, by simp [intOf]; omega⟩
                      · have q4 : (j : Int) ≤ (q : Int) := by omega
                        have HTT2 : Hid (t = L.count 96) := by
                          show _ = _
                          have := HJ.out
                          rw [List.take_of_length_le (by omega)] at this
                          exact this
                        have HE3 : Hid (r = if decide (t = n) then (P : Int) else -1) := by show _ = _; rw [HE2.out, HTT2.out]
                        clear HJ HTT2
                        by_cases htn : t = n
                        · have HE4 : Hid (r = (P : Int)) := by show _ = _; rw [HE3.out, decide_eq_true htn]; rfl
                          clear HE3
                          subst htn
                          go_wp2_with fail
                          go_ret
                          exact ⟨by rw [HE4.out]; rfl, HK2.out⟩
                        · have HE4 : Hid (r = -1) := by show _ = _; rw [HE3.out, decide_eq_false htn]; rfl
                          have gtn : ((t : Int) == (n : Int)) = false := by simp; omega
                          clear HE3
                          go_wp2_with fail
                          go_ret
                          exact ⟨by rw [HE4.out]; rfl, HK2.out⟩
          | false =>
            cases t3 with
            | false =>
              have HE : Hid (r = -1) := HH3.out
              clear HH3
              by_cases hPlt : P < s.size
              · have f4 : (P : Int) < (s.size : Int) := by omega
                have f1 := bts_at s P hPlt
                have h91 : ¬ (bts s).getD P 0 = 91 := by
                  intro h
                  have := HT3.out
                  rw [drop_at (bts s) P (by rw [bts_len]; exact hPlt), h] at this
                  cases this
                obtain ⟨x, hx⟩ : ∃ x, x = (bts s).getD P 0 := ⟨_, rfl⟩
                rw [← hx] at f1 h91
                have g91 : (x == 91) = false := by simpa using h91
                clear hx h91
                go_wp2_with fail
                go_ret
                exact ⟨by rw [HE.out]; rfl, HK2.out⟩
              · have f4 : (s.size : Int) ≤ (P : Int) := by omega
                go_wp2_with fail
                go_ret
                exact ⟨by rw [HE.out]; rfl, HK2.out⟩
            | true =>
              have HE : Hid (r = if brk false (((bts s).drop P).drop 1) then (P : Int) else -1) := HH3.out
              clear HH3
              have hPlt : P < s.size := by
                rcases Nat.lt_or_ge P s.size with h1 | h1
                · exact h1
                · have := HT3.out
                  rw [List.drop_of_length_le (by rw [bts_len]; exact h1)] at this
                  cases this
              have f4 : (P : Int) < (s.size : Int) := by omega
              have f1 := bts_at s P hPlt
              have h91 : (bts s).getD P 0 = 91 := by
                have := pf_hd HT3.out (by decide)
                rw [getD_drop, Nat.add_zero] at this
                exact this
              rw [h91] at f1
              clear h91
              have START : Hid (BrI (bts s) P r (P + 1)) := by
                show _ = _
                rw [HE.out, Nat.sub_self, List.take_zero, List.drop_drop]
                rfl
              clear HE
              have hw6 := wr64 ((P : Int) + 1) (by omega) (by omega)
              go_wp2_with fail
              go_loopw [8] (fun v wr => ∃ j : Nat, v = .int .i64 j ∧ P + 1 ≤ j ∧ j ≤ s.size ∧ Hid (BrI (bts s) P r j) ∧ w2 = wr) (fun v _ => s.size - (intOf v).toNat)
              case atStart => exact ⟨P + 1, by go_num, Nat.le_refl _, by omega, START.out, rfl⟩
              case round =>
                obtain ⟨j, rfl, hj0, hj, HJ, rfl⟩ := hrel
                clear START hw6
                have j3 : (0 : Int) ≤ (j : Int) := by omega
                have jP : (P : Int) + 1 ≤ (j : Int) := by omega
                by_cases hjl : j < s.size
                · have j4 : (j : Int) < (s.size : Int) := by omega
                  have j1 := bts_at s j hjl
                  have hl : j < (bts s).length := by rw [bts_len]; exact hjl
                  have HST : Hid (st false (((bts s).drop (P + 1)).take (j - (P + 1))) = true ∨ ((bts s).getD j 0 ≠ 91 ∧ (bts s).getD j 0 ≠ 93) → BrI (bts s) P r (j + 1)) := fun h => bri_step HJ.out hj0 hl h
                  have hw7 := wr64 ((j : Int) + 1) (by omega) (by omega)
                  have hw8 := wr64 ((j : Int) - 1) (by omega) (by omega)
                  obtain ⟨x, hx⟩ : ∃ x, x = (bts s).getD j 0 := ⟨_, rfl⟩
                  have HXX : Hid (x = (bts s).getD j 0) := hx
                  rw [← hx] at j1 HST
                  clear hx
                  by_cases hbr : x = 91 ∨ x = 93
                  · obtain ⟨tr, htr⟩ : ∃ tr, tr = trail (((bts s).drop (P + 1)).take (j - (P + 1))) := ⟨_, rfl⟩
                    have HSTT : Hid (st false (((bts s).drop (P + 1)).take (j - (P + 1))) = decide (tr % 2 = 1)) := by show _ = _; rw [htr]; exact st_trail _
                    have HYE : Hid (∀ y, y < tr → y < j - (P + 1) ∧ (bts s).getD (j - y - 1) 0 = 92) := by
                      intro y hy
                      have := esc_yes (bts s) (P + 1) (j - (P + 1)) y (by rw [bts_len]; omega) (by rw [← htr]; exact hy)
                      rw [show P + 1 + (j - (P + 1)) = j by omega] at this
                      exact this
                    have HNE : Hid (j - tr - 1 ≤ P ∨ (bts s).getD (j - tr - 1) 0 ≠ 92) := by
                      have := esc_no (bts s) P (P + 1) (j - (P + 1)) (by rw [bts_len]; omega) (by omega) (Or.inr (by omega))
                      rw [← htr, show P + 1 + (j - (P + 1)) = j by omega] at this
                      exact this
                    have htl : tr ≤ j - (P + 1) := by
                      have := trail_le (((bts s).drop (P + 1)).take (j - (P + 1)))
                      rw [← htr] at this
                      simp at this
                      omega
                    have FEV : Hid (tr % 2 = 0 → x = 91 → r = -1) := by
                      intro he h91
                      have := HJ.out
                      unfold BrI at this
                      rw [HSTT.out, decide_eq_false (by omega), brk_open _ _ hl (by rw [← HXX.out]; exact h91)] at this
                      exact this
                    have FCL : Hid (tr % 2 = 0 → x = 93 → r = if decide ((bts s).getD (j + 1) 0 = 58) then (P : Int) else -1) := by
                      intro he h93
                      have := HJ.out
                      unfold BrI at this
                      rw [HSTT.out, decide_eq_false (by omega), brk_close _ _ hl (by rw [← HXX.out]; exact h93)] at this
                      exact this
                    have FOD : Hid (tr % 2 = 1 → BrI (bts s) P r (j + 1)) := fun h => HST.out (Or.inl (by rw [HSTT.out]; exact decide_eq_true h))
                    clear HST HSTT HJ htr hl
                    rcases hbr with hbr | hbr
                    · subst hbr
                      have NE : Hid (tr % 2 = 0 → r = -1) := fun h => FEV.out h rfl
                      clear FEV FCL
                      go_wp2_with fail
                      go_loopw [10, 11] (fun u v wr => ∃ y : Nat, u = .int .i64 y ∧ v = .int .i64 ((j : Int) - 1 - y) ∧ y ≤ tr ∧ w2 = wr) (fun u _ _ => tr - (intOf u).toNat)
                      case atStart => exact ⟨0, rfl, by go_num, Nat.zero_le _, rfl⟩
                      case round =>
                        obtain ⟨y, rfl, rfl, hy, rfl⟩ := hrel
                        have hw9 := wr64 ((y : Int) + 1) (by omega) (by omega)
                        have hw10 := wr64 ((j : Int) - 1 - (y : Int) - 1) (by omega) (by omega)
                        by_cases hyl : y < tr
                        · obtain ⟨hyj, hy92⟩ := HYE.out y hyl
                          have y1 : (P : Int) < (j : Int) - 1 - (y : Int) := by omega
                          have y2 : (0 : Int) ≤ (j : Int) - 1 - (y : Int) := by omega
                          have y3 : (j : Int) - 1 - (y : Int) < (s.size : Int) := by omega
                          have y4 : ((j : Int) - 1 - (y : Int)).toNat = j - y - 1 := by omega
                          have y5 := bts_at s (j - y - 1) (by omega)
                          rw [hy92] at y5
                          clear hy92
                          go_wp2_with fail
                          exact ⟨⟨y + 1, by go_num, by go_num, by omega, by trivial⟩, by simp [intOf]; omega⟩
                        · have hye : y = tr := by omega
                          subst hye
                          clear HYE
                          by_cases hpos : j - y - 1 ≤ P
                          · have y1 : (j : Int) - 1 - (y : Int) ≤ (P : Int) := by omega
                            by_cases hod : y % 2 = 1
                            · have hm : (y : Int) % 2 = 1 := by omega
                              have NX : Hid (BrI (bts s) P r (j + 1)) := FOD.out hod
                              clear FOD
                              go_wp2_with fail
                              exact ⟨⟨j + 1, by go_num, by omega, by omega, NX.out, by trivial⟩, by simp [intOf]; omega⟩
                            · have hm : (y : Int) % 2 = 0 := by omega
                              have he : y % 2 = 0 := by omega
                              have NX : Hid (r = -1) := NE.out he
                              clear NE FOD
                              go_wp2_with fail
                              go_ret
                              exact ⟨by rw [NX.out]; rfl, HK2.out⟩
                          · have y1 : (P : Int) < (j : Int) - 1 - (y : Int) := by omega
                            have y2 : (0 : Int) ≤ (j : Int) - 1 - (y : Int) := by omega
                            have y3 : (j : Int) - 1 - (y : Int) < (s.size : Int) := by omega
                            have y4 : ((j : Int) - 1 - (y : Int)).toNat = j - y - 1 := by omega
                            have y5 := bts_at s (j - y - 1) (by omega)
                            have y6 : ¬ (bts s).getD (j - y - 1) 0 = 92 := by
                              rcases HNE.out with h | h
                              · exact absurd h hpos
                              · exact h
                            obtain ⟨z, hz⟩ : ∃ z, z = (bts s).getD (j - y - 1) 0 := ⟨_, rfl⟩
                            rw [← hz] at y5 y6
                            have g92 : (z == 92) = false := by simpa using y6
                            clear hz y6
                            by_cases hod : y % 2 = 1
                            · have hm : (y : Int) % 2 = 1 := by omega
                              have NX : Hid (BrI (bts s) P r (j + 1)) := FOD.out hod
                              clear FOD
                              go_wp2_with fail
                              exact ⟨⟨j + 1, by go_num, by omega, by omega, NX.out, by trivial⟩, by simp [intOf]; omega⟩
                            · have hm : (y : Int) % 2 = 0 := by omega
                              have he : y % 2 = 0 := by omega
                              have NX : Hid (r = -1) := NE.out he
                              clear NE FOD
                              go_wp2_with fail
                              go_ret
                              exact ⟨by rw [NX.out]; rfl, HK2.out⟩
                    · subst hbr
                      have NC : Hid (tr % 2 = 0 → r = if decide ((bts s).getD (j + 1) 0 = 58) then (P : Int) else -1) := fun h => FCL.out h rfl
                      clear FEV FCL
                      go_wp2_with fail
                      go_loopw [10, 11] (fun u v wr => ∃ y : Nat, u = .int .i64 y ∧ v = .int .i64 ((j : Int) - 1 - y) ∧ y ≤ tr ∧ w2 = wr) (fun u _ _ => tr - (intOf u).toNat)
                      case atStart => exact ⟨0, rfl, by go_num, Nat.zero_le _, rfl⟩
                      case round =>
                        obtain ⟨y, rfl, rfl, hy, rfl⟩ := hrel
                        have hw9 := wr64 ((y : Int) + 1) (by omega) (by omega)
                        have hw10 := wr64 ((j : Int) - 1 - (y : Int) - 1) (by omega) (by omega)
                        by_cases hyl : y < tr
                        · obtain ⟨hyj, hy92⟩ := HYE.out y hyl
                          have y1 : (P : Int) < (j : Int) - 1 - (y : Int) := by omega
                          have y2 : (0 : Int) ≤ (j : Int) - 1 - (y : Int) := by omega
                          have y3 : (j : Int) - 1 - (y : Int) < (s.size : Int) := by omega
                          have y4 : ((j : Int) - 1 - (y : Int)).toNat = j - y - 1 := by omega
                          have y5 := bts_at s (j - y - 1) (by omega)
                          rw [hy92] at y5
                          clear hy92
                          go_wp2_with fail
                          exact ⟨⟨y + 1, by go_num, by go_num, by omega, by trivial⟩, by simp [intOf]; omega⟩
                        · have hye : y = tr := by omega
                          subst hye
                          clear HYE
                          by_cases hpos : j - y - 1 ≤ P
                          · have y1 : (j : Int) - 1 - (y : Int) ≤ (P : Int) := by omega
                            by_cases hod : y % 2 = 1
                            · have hm : (y : Int) % 2 = 1 := by omega
                              have NX : Hid (BrI (bts s) P r (j + 1)) := FOD.out hod
                              clear FOD
                              go_wp2_with fail
                              exact ⟨⟨j + 1, by go_num, by omega, by omega, NX.out, by trivial⟩, by simp [intOf]; omega⟩
                            · have hm : (y : Int) % 2 = 0 := by omega
                              have he : y % 2 = 0 := by omega
                              have NX : Hid (r = if decide ((bts s).getD (j + 1) 0 = 58) then (P : Int) else -1) := NC.out he
                              clear NC FOD
                              by_cases hj1 : j + 1 < s.size
                              · have k5 : (j : Int) + 1 < (s.size : Int) := by omega
                                have k6 : ((j : Int) + 1).toNat = j + 1 := by omega
                                have k7 := bts_at s (j + 1) hj1
                                obtain ⟨v, hv⟩ : ∃ v, v = (bts s).getD (j + 1) 0 := ⟨_, rfl⟩
                                rw [← hv] at k7 NX
                                clear hv
                                by_cases v58 : v = 58
                                · have NX2 : Hid (r = (P : Int)) := by show _ = _; rw [NX.out, decide_eq_true v58]; rfl
                                  clear NX
                                  subst v58
                                  go_wp2_with fail
                                  go_ret
                                  exact ⟨by rw [NX2.out]; rfl, HK2.out⟩
                                · have NX2 : Hid (r = -1) := by show _ = _; rw [NX.out, decide_eq_false v58]; rfl
                                  have g58 : (v == 58) = false := by simpa using v58
                                  clear NX
                                  go_wp2_with fail
                                  go_ret
                                  exact ⟨by rw [NX2.out]; rfl, HK2.out⟩
                              · have k5 : (s.size : Int) ≤ (j : Int) + 1 := by omega
                                have hnone : (bts s)[j + 1]? = none := by rw [List.getElem?_eq_none]; rw [bts_len]; omega
                                have NX2 : Hid (r = -1) := by
                                  show _ = _
                                  have e0 : (bts s).getD (j + 1) 0 = 0 := by simp [List.getD, hnone]
                                  rw [NX.out, e0]; rfl
                                clear NX hnone
                                go_wp2_with fail
                                go_ret
                                exact ⟨by rw [NX2.out]; rfl, HK2.out⟩
                          · have y1 : (P : Int) < (j : Int) - 1 - (y : Int) := by omega
                            have y2 : (0 : Int) ≤ (j : Int) - 1 - (y : Int) := by omega
                            have y3 : (j : Int) - 1 - (y : Int) < (s.size : Int) := by omega
                            have y4 : ((j : Int) - 1 - (y : Int)).toNat = j - y - 1 := by omega
                            have y5 := bts_at s (j - y - 1) (by omega)
                            have y6 : ¬ (bts s).getD (j - y - 1) 0 = 92 := by
                              rcases HNE.out with h | h
                              · exact absurd h hpos
                              · exact h
                            obtain ⟨z, hz⟩ : ∃ z, z = (bts s).getD (j - y - 1) 0 := ⟨_, rfl⟩
                            rw [← hz] at y5 y6
                            have g92 : (z == 92) = false := by simpa using y6
                            clear hz y6
                            by_cases hod : y % 2 = 1
                            · have hm : (y : Int) % 2 = 1 := by omega
                              have NX : Hid (BrI (bts s) P r (j + 1)) := FOD.out hod
                              clear FOD
                              go_wp2_with fail
                              exact ⟨⟨j + 1, by go_num, by omega, by omega, NX.out, by trivial⟩, by simp [intOf]; omega⟩
                            · have hm : (y : Int) % 2 = 0 := by omega
                              have he : y % 2 = 0 := by omega
                              have NX : Hid (r = if decide ((bts s).getD (j + 1) 0 = 58) then (P : Int) else -1) := NC.out he
                              clear NC FOD
                              by_cases hj1 : j + 1 < s.size
                              · have k5 : (j : Int) + 1 < (s.size : Int) := by omega
                                have k6 : ((j : Int) + 1).toNat = j + 1 := by omega
                                have k7 := bts_at s (j + 1) hj1
                                obtain ⟨v, hv⟩ : ∃ v, v = (bts s).getD (j + 1) 0 := ⟨_, rfl⟩
                                rw [← hv] at k7 NX
                                clear hv
                                by_cases v58 : v = 58
                                · have NX2 : Hid (r = (P : Int)) := by show _ = _; rw [NX.out, decide_eq_true v58]; rfl
                                  clear NX
                                  subst v58
                                  go_wp2_with fail
                                  go_ret
                                  exact ⟨by rw [NX2.out]; rfl, HK2.out⟩
                                · have NX2 : Hid (r = -1) := by show _ = _; rw [NX.out, decide_eq_false v58]; rfl
                                  have g58 : (v == 58) = false := by simpa using v58
                                  clear NX
                                  go_wp2_with fail
                                  go_ret
                                  exact ⟨by rw [NX2.out]; rfl, HK2.out⟩
                              · have k5 : (s.size : Int) ≤ (j : Int) + 1 := by omega
                                have hnone : (bts s)[j + 1]? = none := by rw [List.getElem?_eq_none]; rw [bts_len]; omega
                                have NX2 : Hid (r = -1) := by
                                  show _ = _
                                  have e0 : (bts s).getD (j + 1) 0 = 0 := by simp [List.getD, hnone]
                                  rw [NX.out, e0]; rfl
                                clear NX hnone
                                go_wp2_with fail
                                go_ret
                                exact ⟨by rw [NX2.out]; rfl, HK2.out⟩
                  · have NX : Hid (BrI (bts s) P r (j + 1)) := HST.out (Or.inr ⟨fun h => hbr (Or.inl h), fun h => hbr (Or.inr h)⟩)
                    have g91 : (x != 91) = true := by simp; exact fun h => hbr (Or.inl h)
                    have g93 : (x != 93) = true := by simp; exact fun h => hbr (Or.inr h)
                    clear hbr HST HJ hl
                    go_wp2_with fail
                    exact ⟨⟨j + 1, by go_num, by omega, by omega, NX.out, by trivial⟩, by simp [intOf]; omega⟩
                · have j4 : (s.size : Int) ≤ (j : Int) := by omega
                  have NX : Hid (r = -1) := by
                    have := HJ.out
                    unfold BrI at this
                    have hd : (bts s).drop j = [] := List.drop_of_length_le (by rw [bts_len]; omega)
                    rw [hd] at this
                    cases hq : st false (((bts s).drop (P + 1)).take (j - (P + 1))) with
                    | true => rw [hq] at this; exact this
                    | false => rw [hq] at this; exact this
                  clear HJ
                  go_wp2_with fail
                  go_ret
                  exact ⟨by rw [NX.out]; rfl, HK2.out⟩
    · have hPi : P = i := by
        have := run_end isMk (bts s) i (by rw [bts_len]; omega)
        rw [HI.out, this]; omega
      have d4 : (s.size : Int) ≤ (i : Int) := by omega
      clear HI HP
      subst hPi
      go_wp2_with fail
      clear d4 hlt
      go_at_call 22
      refine (P1.out _).mono ?_
      rintro e w1 ⟨rfl, hK⟩
      have HK1 : Hid (Kept [] w w1) := hK
      clear hK
      cases t1 with
      | true =>
        have HE : Hid (r = (P : Int)) := HH3.out
        clear HH3
        go_wp2_with fail
        go_ret
        exact ⟨by rw [HE.out]; rfl, HK1.out⟩
      | false =>
        go_wp2_with fail
        go_at_call 22
        refine (P2.out _).mono ?_
        rintro e w2 ⟨rfl, hK⟩
        have HK2 : Hid (Kept [] w w2) := HK1.out.trans hK
        clear hK
        cases t2 with
        | true =>
          have HE : Hid (r = if tick ((bts s).drop P) then (P : Int) else -1) := HH3.out
          have hPlt : P < s.size := HTT.out rfl
          clear HH3
          obtain ⟨L, hL⟩ : ∃ L, L = ((bts s).drop P).takeWhile (fun c => decide (c ≠ 10)) := ⟨_, rfl⟩
          have hLl : L.length = run (fun c => decide (c ≠ 10)) ((bts s).drop P) := by rw [hL]; rfl
          have hLs : P + L.length ≤ s.size := by
            have := run_le (fun c => decide (c ≠ 10)) ((bts s).drop P)
            rw [← hLl, List.length_drop, bts_len] at this
            omega
          have HLT : Hid (L = ((bts s).drop P).take L.length) := by
            show _ = _
            have := List.takeWhile_prefix (l := (bts s).drop P) (p := fun c => decide (c ≠ 10))
            rw [← hL] at this
            exact List.prefix_iff_eq_take.1 this
          have HLG : Hid (∀ k, k < L.length → L.getD k 0 = (bts s).getD (P + k) 0) := by
            intro k hk
            rw [HLT.out, getD_seg _ _ _ _ hk]
          have HE2 : Hid (r = if decide (L.count 96 = run (fun c => decide (c = 96)) L) then (P : Int) else -1) := by
            show _ = _
            rw [HE.out, tick_count, hL]
          obtain ⟨E, hE⟩ : ∃ E, E = P + L.length := ⟨_, rfl⟩
          have HER : Hid (E = P + run (fun c => decide (c ≠ 10)) ((bts s).drop P)) := by show _ = _; rw [hE, hLl]
          have hE1 : E ≤ P + L.length := by omega
          have hE2 : P + L.length ≤ E := by omega
          clear HE hL hLl HLT hE
          have hEs : (E : Int) ≤ (s.size : Int) := by omega
          go_wp2_with fail
          go_loopw [4] (fun v wr => ∃ j : Nat, v = .int .i64 j ∧ P ≤ j ∧ j ≤ s.size ∧ Hid (E = j + run (fun c => decide (c ≠ 10)) ((bts s).drop j)) ∧ w2 = wr) (fun v _ => s.size - (intOf v).toNat)
          case atStart => exact ⟨P, rfl, Nat.le_refl _, by omega, HER.out, rfl⟩
          case round =>
            obtain ⟨j, rfl, hj0, hj, HJ, rfl⟩ := hrel
            clear HER
            have f3 : (0 : Int) ≤ (j : Int) := by omega
            have HSTOP : Hid ((j < s.size → (bts s).getD j 0 = 10) → j = E) := by
              intro h
              rcases Nat.lt_or_ge j s.size with h1 | h1
              · have := run_no (fun c => decide (c ≠ 10)) (bts s) j (by rw [bts_len]; exact h1) (by rw [h h1]; rfl)
                have := HJ.out
                omega
              · have := run_end (fun c => decide (c ≠ 10)) (bts s) j (by rw [bts_len]; exact h1)
                have := HJ.out
                omega
            have HGO : Hid (j < s.size → (bts s).getD j 0 ≠ 10 → E = j + 1 + run (fun c => decide (c ≠ 10)) ((bts s).drop (j + 1))) := by
              intro h1 h2
              have := run_yes (fun c => decide (c ≠ 10)) (bts s) j (by rw [bts_len]; exact h1) (by simpa using h2)
              have := HJ.out
              omega
            clear HJ
            by_cases hjl : j < s.size
            · have f4 : (j : Int) < (s.size : Int) := by omega
              have f1 := bts_at s j hjl
              obtain ⟨x, hx⟩ : ∃ x, x = (bts s).getD j 0 := ⟨_, rfl⟩
              rw [← hx] at f1 HSTOP HGO
              clear hx
              have hw5 := wr64 ((j : Int) + 1) (by omega) (by omega)
              by_cases h10 : x = 10
              · have hjE : j = E := HSTOP.out (fun _ => h10)
                clear HSTOP HGO
                subst h10
                subst hjE
                go_wp2_with fail
                have START : Hid (run (fun c => decide (c = 96)) L = 0 + run (fun c => decide (c = 96)) (L.drop 0)) := by show _ = _; simp
                obtain ⟨n, hn⟩ : ∃ n, n = run (fun c => decide (c = 96)) L := ⟨_, rfl⟩
                have hnL : n ≤ L.length := by rw [hn]; exact run_le _ _
                rw [← hn] at START HE2
                clear hn
                go_loopw [5] (fun v wr => ∃ k : Nat, v = .int .i64 k ∧ k ≤ L.length ∧ Hid (n = k + run (fun c => decide (c = 96)) (L.drop k)) ∧ w2 = wr) (fun v _ => L.length - (intOf v).toNat)
                case atStart => exact ⟨0, rfl, Nat.zero_le _, START.out, rfl⟩
                case round =>
                  clear START
                  obtain ⟨k, rfl, hk, HJ, rfl⟩ := hrel
                  have k3 : (0 : Int) ≤ (P : Int) + (k : Int) := by omega
                  have hw5 := wr64 ((P : Int) + (k : Int)) (by omega) (by omega)
                  have HNX : Hid (k < L.length → L.getD k 0 = 96 → n = k + 1 + run (fun c => decide (c = 96)) (L.drop (k + 1))) := by
                    intro h1 h2
                    have := run_yes (fun c => decide (c = 96)) L k h1 (by simpa using h2)
                    have := HJ.out
                    omega
                  have HSTP : Hid ((k < L.length → L.getD k 0 ≠ 96) → n = k) := by
                    intro h
                    rcases Nat.lt_or_ge k L.length with h1 | h1
                    · have := run_no (fun c => decide (c = 96)) L k h1 (by simpa using h h1)
                      have := HJ.out
                      omega
                    · have := run_end (fun c => decide (c = 96)) L k h1
                      have := HJ.out
                      omega
                  clear HJ
                  by_cases hkl : k < L.length
                  · have k4 : (P : Int) + (k : Int) < (j : Int) := by omega
                    have k5 : (P : Int) + (k : Int) < (s.size : Int) := by omega
                    have k6 : ((P : Int) + (k : Int)).toNat = P + k := by omega
                    have k1 := bts_at s (P + k) (by omega)
                    rw [HLG.out k hkl] at HNX HSTP
                    obtain ⟨y, hy⟩ : ∃ y, y = (bts s).getD (P + k) 0 := ⟨_, rfl⟩
                    rw [← hy] at k1 HNX HSTP
                    clear hy
                    have hw6 := wr64 ((k : Int) + 1) (by omega) (by omega)
                    by_cases h96 : y = 96
                    · have NX : Hid (n = k + 1 + run (fun c => decide (c = 96)) (L.drop (k + 1))) := HNX.out hkl h96
                      clear HNX HSTP
                      subst h96
                      go_wp2_with fail
                      exact ⟨⟨k + 1, by go_num, by omega, NX.out, by trivial⟩, by simp [intOf]; omega⟩
                    · have hnk : n = k := HSTP.out (fun _ => h96)
                      have g96 : (y == 96) = false := by simpa using h96
                      clear HNX HSTP
                      subst hnk
                      go_wp2_with fail
                      go_loopw [6, 7] (fun u v wr => ∃ (t q : Nat), u = .int .i64 t ∧ v = .int .i64 q ∧ P ≤ q ∧ q ≤ j ∧ Hid (t = (L.take (q - P)).count 96) ∧ t ≤ q ∧ w2 = wr) (fun _ v _ => j - (intOf v).toNat)
                      case atStart => exact ⟨0, P, rfl, rfl, Nat.le_refl _, by omega, by show _ = _; simp, by omega, rfl⟩
                      case round =>
                        obtain ⟨t, q, rfl, rfl, hq0, hq, HJ, htq, rfl⟩ := hrel
                        have q3 : (0 : Int) ≤ (q : Int) := by omega
                        by_cases hql : q < j
                        · have q4 : (q : Int) < (j : Int) := by omega
                          have q5 : (q : Int) < (s.size : Int) := by omega
                          have q1 := bts_at s q (by omega)
                          have HNX : Hid ((L.take (q + 1 - P)).count 96 = (L.take (q - P)).count 96 + if (bts s).getD q 0 = 96 then 1 else 0) := by
                            show _ = _
                            have e1 : q + 1 - P = (q - P) + 1 := by omega
                            have e2 : q - P < L.length := by omega
                            have e3 := HLG.out (q - P) e2
                            rw [show P + (q - P) = q by omega] at e3
                            simp only [List.getD, List.getElem?_eq_getElem e2, Option.getD_some] at e3
                            rw [e1, List.take_succ_eq_append_getElem e2, List.count_append, e3]
                            simp only [List.getD, List.count_singleton, beq_iff_eq]
                            rfl
                          obtain ⟨v, hv⟩ : ∃ v, v = (bts s).getD q 0 := ⟨_, rfl⟩
                          rw [← hv] at q1 HNX
                          clear hv
                          have hw7 := wr64 ((q : Int) + 1) (by omega) (by omega)
                          have hw8 := wr64 ((t : Int) + 1) (by omega) (by omega)
                          by_cases h96 : v = 96
                          · have NX : Hid (t + 1 = (L.take (q + 1 - P)).count 96) := by show _ = _; rw [HNX.out, if_pos h96, HJ.out]
                            clear HNX HJ
                            subst h96
                            go_wp2_with fail
                            exact ⟨⟨t + 1, q + 1, by go_num, by go_num, by omega, by omega, NX.out, by omega, by trivial⟩, by simp [intOf]; omega⟩
                          · have NX : Hid (t = (L.take (q + 1 - P)).count 96) := by show _ = _; rw [HNX.out, if_neg h96, HJ.out]; rfl
                            have g96 : (v == 96) = false := by simpa using h96
                            clear HNX HJ
                            go_wp2_with fail
                            exact ⟨⟨t, q + 1, rfl, by go_num, by omega, by omega, NX.out, by omega, by trivial⟩, by simp [intOf]; omega⟩
                        · have q4 : (j : Int) ≤ (q : Int) := by omega
                          have HTT2 : Hid (t = L.count 96) := by
                            show _ = _
                            have := HJ.out
                            rw [List.take_of_length_le (by omega)] at this
                            exact this
                          have HE3 : Hid (r = if decide (t = n) then (P : Int) else -1) := by show _ = _; rw [HE2.out, HTT2.out]
                          clear HJ HTT2
                          by_cases htn : t = n
                          · have HE4 : Hid (r = (P : Int)) := by show _ = _; rw [HE3.out, decide_eq_true htn]; rfl
                            clear HE3
                            subst htn
                            go_wp2_with fail
                            go_ret
                            exact ⟨by rw [HE4.out]; rfl, HK2.out⟩
                          · have HE4 : Hid (r = -1) := by show _ = _; rw [HE3.out, decide_eq_false htn]; rfl
                            have gtn : ((t : Int) == (n : Int)) = false := by simp; omega
                            clear HE3
                            go_wp2_with fail
                            go_ret
                            exact ⟨by rw [HE4.out]; rfl, HK2.out⟩
                  · have k4 : (j : Int) ≤ (P : Int) + (k : Int) := by omega
                    have hnk : n = k := HSTP.out (fun h => absurd h hkl)
                    clear HNX HSTP
                    subst hnk
                    go_wp2_with fail
                    go_loopw [6, 7] (fun u v wr => ∃ (t q : Nat), u = .int .i64 t ∧ v = .int .i64 q ∧ P ≤ q ∧ q ≤ j ∧ Hid (t = (L.take (q - P)).count 96) ∧ t ≤ q ∧ w2 = wr) (fun _ v _ => j - (intOf v).toNat)
                    case atStart => exact ⟨0, P, rfl, rfl, Nat.le_refl _, by omega, by show _ = _; simp, by omega, rfl⟩
                    case round =>
                      obtain ⟨t, q, rfl, rfl, hq0, hq, HJ, htq, rfl⟩ := hrel
                      have q3 : (0 : Int) ≤ (q : Int) := by omega
                      by_cases hql : q < j
                      · have q4 : (q : Int) < (j : Int) := by omega
                        have q5 : (q : Int) < (s.size : Int) := by omega
                        have q1 := bts_at s q (by omega)
                        have HNX : Hid ((L.take (q + 1 - P)).count 96 = (L.take (q - P)).count 96 + if (bts s).getD q 0 = 96 then 1 else 0) := by
                          show _ = _
                          have e1 : q + 1 - P = (q - P) + 1 := by omega
                          have e2 : q - P < L.length := by omega
                          have e3 := HLG.out (q - P) e2
                          rw [show P + (q - P) = q by omega] at e3
                          simp only [List.getD, List.getElem?_eq_getElem e2, Option.getD_some] at e3
                          rw [e1, List.take_succ_eq_append_getElem e2, List.count_append, e3]
                          simp only [List.getD, List.count_singleton, beq_iff_eq]
                          rfl
                        obtain ⟨v, hv⟩ : ∃ v, v = (bts s).getD q 0 := ⟨_, rfl⟩
                        rw [← hv] at q1 HNX
                        clear hv
                        have hw7 := wr64 ((q : Int) + 1) (by omega) (by omega)
                        have hw8 := wr64 ((t : Int) + 1) (by omega) (by omega)
                        by_cases h96 : v = 96
                        · have NX : Hid (t + 1 = (L.take (q + 1 - P)).count 96) := by show _ = _; rw [HNX.out, if_pos h96, HJ.out]
                          clear HNX HJ
                          subst h96
                          go_wp2_with fail
                          exact ⟨⟨t + 1, q + 1, by go_num, by go_num, by omega, by omega, NX.out, by omega, by trivial⟩, by simp [intOf]; omega⟩
                        · have NX : Hid (t = (L.take (q + 1 - P)).count 96) := by show _ = _; rw [HNX.out, if_neg h96, HJ.out]; rfl
                          have g96 : (v == 96) = false := by simpa using h96
                          clear HNX HJ
                          go_wp2_with fail
                          exact ⟨⟨t, q + 1, rfl, by go_num, by omega, by omega, NX.out, by omega, by trivial⟩, by simp [intOf]; omega⟩
                      · have q4 : (j : Int) ≤ (q : Int) := by omega
                        have HTT2 : Hid (t = L.count 96) := by
                          show _ = _
                          have := HJ.out
                          rw [List.take_of_length_le (by omega)] at this
                          exact this
                        have HE3 : Hid (r = if decide (t = n) then (P : Int) else -1) := by show _ = _; rw [HE2.out, HTT2.out]
                        clear HJ HTT2
                        by_cases htn : t = n
                        · have HE4 : Hid (r = (P : Int)) := by show _ = _; rw [HE3.out, decide_eq_true htn]; rfl
                          clear HE3
                          subst htn
                          go_wp2_with fail
                          go_ret
                          exact ⟨by rw [HE4.out]; rfl, HK2.out⟩
                        · have HE4 : Hid (r = -1) := by show _ = _; rw [HE3.out, decide_eq_false htn]; rfl
                          have gtn : ((t : Int) == (n : Int)) = false := by simp; omega
                          clear HE3
                          go_wp2_with fail
                          go_ret
                          exact ⟨by rw [HE4.out]; rfl, HK2.out⟩
              · have NX : Hid (E = j + 1 + run (fun c => decide (c ≠ 10)) ((bts s).drop (j + 1))) := HGO.out hjl h10
                have g10 : (x != 10) = true := by simpa using h10
                clear HSTOP HGO
                go_wp2_with fail
                exact ⟨⟨j + 1, by go_num, by omega, by omega, NX.out, by trivial⟩, by simp [intOf]; omega⟩
            · have hjE : j = E := HSTOP.out (fun h => absurd h hjl)
              clear HSTOP HGO
              subst hjE
              have f4 : (s.size : Int) ≤ (j : Int) := by omega
              go_wp2_with fail
              have START : Hid (run (fun c => decide (c = 96)) L = 0 + run (fun c => decide (c = 96)) (L.drop 0)) := by show _ = _; simp
              obtain ⟨n, hn⟩ : ∃ n, n = run (fun c => decide (c = 96)) L := ⟨_, rfl⟩
              have hnL : n ≤ L.length := by rw [hn]; exact run_le _ _
              rw [← hn] at START HE2
              clear hn
              go_loopw [5] (fun v wr => ∃ k : Nat, v = .int .i64 k ∧ k ≤ L.length ∧ Hid (n = k + run (fun c => decide (c = 96)) (L.drop k)) ∧ w2 = wr) (fun v _ => L.length - (intOf v).toNat)
              case atStart => exact ⟨0, rfl, Nat.zero_le _, START.out, rfl⟩
              case round =>
                clear START
                obtain ⟨k, rfl, hk, HJ, rfl⟩ := hrel
                have k3 : (0 : Int) ≤ (P : Int) + (k : Int) := by omega
                have hw5 := wr64 ((P : Int) + (k : Int)) (by omega) (by omega)
                have HNX : Hid (k < L.length → L.getD k 0 = 96 → n = k + 1 + run (fun c => decide (c = 96)) (L.drop (k + 1))) := by
                  intro h1 h2
                  have := run_yes (fun c => decide (c = 96)) L k h1 (by simpa using h2)
                  have := HJ.out
                  omega
                have HSTP : Hid ((k < L.length → L.getD k 0 ≠ 96) → n = k) := by
                  intro h
                  rcases Nat.lt_or_ge k L.length with h1 | h1
                  · have := run_no (fun c => decide (c = 96)) L k h1 (by simpa using h h1)
                    have := HJ.out
                    omega
                  · have := run_end (fun c => decide (c = 96)) L k h1
                    have := HJ.out
                    omega
                clear HJ
                by_cases hkl : k < L.length
                · have k4 : (P : Int) + (k : Int) < (j : Int) := by omega
                  have k5 : (P : Int) + (k : Int) < (s.size : Int) := by omega
                  have k6 : ((P : Int) + (k : Int)).toNat = P + k := by omega
                  have k1 := bts_at s (P + k) (by omega)
                  rw [HLG.out k hkl] at HNX HSTP
                  obtain ⟨y, hy⟩ : ∃ y, y = (bts s).getD (P + k) 0 := ⟨_, rfl⟩
                  rw [← hy] at k1 HNX HSTP
                  clear hy
                  have hw6 := wr64 ((k : Int) + 1) (by omega) (by omega)
                  by_cases h96 : y = 96
                  · have NX : Hid (n = k + 1 + run (fun c => decide (c = 96)) (L.drop (k + 1))) := HNX.out hkl h96
                    clear HNX HSTP
                    subst h96
                    go_wp2_with fail
                    exact ⟨⟨k + 1, by go_num, by omega, NX.out, by trivial⟩, by simp [intOf]; omega⟩
                  · have hnk : n = k := HSTP.out (fun _ => h96)
                    have g96 : (y == 96) = false := by simpa using h96
                    clear HNX HSTP
                    subst hnk
                    go_wp2_with fail
                    go_loopw [6, 7] (fun u v wr => ∃ (t q : Nat), u = .int .i64 t ∧ v = .int .i64 q ∧ P ≤ q ∧ q ≤ j ∧ Hid (t = (L.take (q - P)).count 96) ∧ t ≤ q ∧ w2 = wr) (fun _ v _ => j - (intOf v).toNat)
                    case atStart => exact ⟨0, P, rfl, rfl, Nat.le_refl _, by omega, by show _ = _; simp, by omega, rfl⟩
                    case round =>
                      obtain ⟨t, q, rfl, rfl, hq0, hq, HJ, htq, rfl⟩ := hrel
                      have q3 : (0 : Int) ≤ (q : Int) := by omega
                      by_cases hql : q < j
                      · have q4 : (q : Int) < (j : Int) := by omega
                        have q5 : (q : Int) < (s.size : Int) := by omega
                        have q1 := bts_at s q (by omega)
                        have HNX : Hid ((L.take (q + 1 - P)).count 96 = (L.take (q - P)).count 96 + if (bts s).getD q 0 = 96 then 1 else 0) := by
                          show _ = _
                          have e1 : q + 1 - P = (q - P) + 1 := by omega
                          have e2 : q - P < L.length := by omega
                          have e3 := HLG.out (q - P) e2
                          rw [show P + (q - P) = q by omega] at e3
                          simp only [List.getD, List.getElem?_eq_getElem e2, Option.getD_some] at e3
                          rw [e1, List.take_succ_eq_append_getElem e2, List.count_append, e3]
                          simp only [List.getD, List.count_singleton, beq_iff_eq]
                          rfl
                        obtain ⟨v, hv⟩ : ∃ v, v = (bts s).getD q 0 := ⟨_, rfl⟩
                        rw [← hv] at q1 HNX
                        clear hv
                        have hw7 := wr64 ((q : Int) + 1) (by omega) (by omega)
                        have hw8 := wr64 ((t : Int) + 1) (by omega) (by omega)
                        by_cases h96 : v = 96
                        · have NX : Hid (t + 1 = (L.take (q + 1 - P)).count 96) := by show _ = _; rw [HNX.out, if_pos h96, HJ.out]
                          clear HNX HJ
                          subst h96
                          go_wp2_with fail
                          exact ⟨⟨t + 1, q + 1, by go_num, by go_num, by omega, by omega, NX.out, by omega, by trivial⟩, by simp [intOf]; omega⟩
                        · have NX : Hid (t = (L.take (q + 1 - P)).count 96) := by show _ = _; rw [HNX.out, if_neg h96, HJ.out]; rfl
                          have g96 : (v == 96) = false := by simpa using h96
                          clear HNX HJ
                          go_wp2_with fail
                          exact ⟨⟨t, q + 1, rfl, by go_num, by omega, by omega, NX.out, by omega, by trivial⟩, by simp [intOf]; omega⟩
                      · have q4 : (j : Int) ≤ (q : Int) := by omega
                        have HTT2 : Hid (t = L.count 96) := by
                          show _ = _
                          have := HJ.out
                          rw [List.take_of_length_le (by omega)] at this
                          exact this
                        have HE3 : Hid (r = if decide (t = n) then (P : Int) else -1) := by show _ = _; rw [HE2.out, HTT2.out]
                        clear HJ HTT2
                        by_cases htn : t = n
                        · have HE4 : Hid (r = (P : Int)) := by show _ = _; rw [HE3.out, decide_eq_true htn]; rfl
                          clear HE3
                          subst htn
                          go_wp2_with fail
                          go_ret
                          exact ⟨by rw [HE4.out]; rfl, HK2.out⟩
                        · have HE4 : Hid (r = -1) := by show _ = _; rw [HE3.out, decide_eq_false htn]; rfl
                          have gtn : ((t : Int) == (n : Int)) = false := by simp; omega
                          clear HE3
                          go_wp2_with fail
                          go_ret
                          exact ⟨by rw [HE4.out]; rfl, HK2.out⟩
                · have k4 : (j : Int) ≤ (P : Int) + (k : Int) := by omega
                  have hnk : n = k := HSTP.out (fun h => absurd h hkl)
                  clear HNX HSTP
                  subst hnk
                  go_wp2_with fail
                  go_loopw [6, 7] (fun u v wr => ∃ (t q : Nat), u = .int .i64 t ∧ v = .int .i64 q ∧ P ≤ q ∧ q ≤ j ∧ Hid (t = (L.take (q - P)).count 96) ∧ t ≤ q ∧ w2 = wr) (fun _ v _ => j - (intOf v).toNat)
                  case atStart => exact ⟨0, P, rfl, rfl, Nat.le_refl _, by omega, by show _ = _; simp, by omega, rfl⟩
                  case round =>
                    obtain ⟨t, q, rfl, rfl, hq0, hq, HJ, htq, rfl⟩ := hrel
                    have q3 : (0 : Int) ≤ (q : Int) := by omega
                    by_cases hql : q < j
                    · have q4 : (q : Int) < (j : Int) := by omega
                      have q5 : (q : Int) < (s.size : Int) := by omega
                      have q1 := bts_at s q (by omega)
                      have HNX : Hid ((L.take (q + 1 - P)).count 96 = (L.take (q - P)).count 96 + if (bts s).getD q 0 = 96 then 1 else 0) := by
                        show _ = _
                        have e1 : q + 1 - P = (q - P) + 1 := by omega
                        have e2 : q - P < L.length := by omega
                        have e3 := HLG.out (q - P) e2
                        rw [show P + (q - P) = q by omega] at e3
                        simp only [List.getD, List.getElem?_eq_getElem e2, Option.getD_some] at e3
                        rw [e1, List.take_succ_eq_append_getElem e2, List.count_append, e3]
                        simp only [List.getD, List.count_singleton, beq_iff_eq]
                        rfl
                      obtain ⟨v, hv⟩ : ∃ v, v = (bts s).getD q 0 := ⟨_, rfl⟩
                      rw [← hv] at q1 HNX
                      clear hv
                      have hw7 := wr64 ((q : Int) + 1) (by omega) (by omega)
                      have hw8 := wr64 ((t : Int) + 1) (by omega) (by omega)
                      by_cases h96 : v = 96
                      · have NX : Hid (t + 1 = (L.take (q + 1 - P)).count 96) := by show _ = _; rw [HNX.out, if_pos h96, HJ.out]
                        clear HNX HJ
                        subst h96
                        go_wp2_with fail
                        exact ⟨⟨t + 1, q + 1, by go_num, by go_num, by omega, by omega, NX.out, by omega, by trivial⟩, by simp [intOf]; omega⟩
                      · have NX : Hid (t = (L.take (q + 1 - P)).count 96) := by show _ = _; rw [HNX.out, if_neg h96, HJ.out]; rfl
                        have g96 : (v == 96) = false := by simpa using h96
                        clear HNX HJ
                        go_wp2_with fail
                        exact ⟨⟨t, q + 1, rfl, by go_num, by omega, by omega, NX.out, by omega, by trivial⟩, by simp [intOf]; omega⟩
                    · have q4 : (j : Int) ≤ (q : Int) := by omega
                      have HTT2 : Hid (t = L.count 96) := by
                        show _ = _
                        have := HJ.out
                        rw [List.take_of_length_le (by omega)] at this
                        exact this
                      have HE3 : Hid (r = if decide (t = n) then (P : Int) else -1) := by show _ = _; rw [HE2.out, HTT2.out]
                      clear HJ HTT2
                      by_cases htn : t = n
                      · have HE4 : Hid (r = (P : Int)) := by show _ = _; rw [HE3.out, decide_eq_true htn]; rfl
                        clear HE3
                        subst htn
                        go_wp2_with fail
                        go_ret
                        exact ⟨by rw [HE4.out]; rfl, HK2.out⟩
                      · have HE4 : Hid (r = -1) := by show _ = _; rw [HE3.out, decide_eq_false htn]; rfl
                        have gtn : ((t : Int) == (n : Int)) = false := by simp; omega
                        clear HE3
                        go_wp2_with fail
                        go_ret
                        exact ⟨by rw [HE4.out]; rfl, HK2.out⟩
        | false =>
          cases t3 with
          | false =>
            have HE : Hid (r = -1) := HH3.out
            clear HH3
            by_cases hPlt : P < s.size
            · have f4 : (P : Int) < (s.size : Int) := by omega
              have f1 := bts_at s P hPlt
              have h91 : ¬ (bts s).getD P 0 = 91 := by
                intro h
                have := HT3.out
                rw [drop_at (bts s) P (by rw [bts_len]; exact hPlt), h] at this
                cases this
              obtain ⟨x, hx⟩ : ∃ x, x = (bts s).getD P 0 := ⟨_, rfl⟩
              rw [← hx] at f1 h91
              have g91 : (x == 91) = false := by simpa using h91
              clear hx h91
              go_wp2_with fail
              go_ret
              exact ⟨by rw [HE.out]; rfl, HK2.out⟩
            · have f4 : (s.size : Int) ≤ (P : Int) := by omega
              go_wp2_with fail
              go_ret
              exact ⟨by rw [HE.out]; rfl, HK2.out⟩
          | true =>
            have HE : Hid (r = if brk false (((bts s).drop P).drop 1) then (P : Int) else -1) := HH3.out
            clear HH3
            have hPlt : P < s.size := by
              rcases Nat.lt_or_ge P s.size with h1 | h1
              · exact h1
              · have := HT3.out
                rw [List.drop_of_length_le (by rw [bts_len]; exact h1)] at this
                cases this
            have f4 : (P : Int) < (s.size : Int) := by omega
            have f1 := bts_at s P hPlt
            have h91 : (bts s).getD P 0 = 91 := by
              have := pf_hd HT3.out (by decide)
              rw [getD_drop, Nat.add_zero] at this
              exact this
            rw [h91] at f1
            clear h91
            have START : Hid (BrI (bts s) P r (P + 1)) := by
              show _ = _
              rw [HE.out, Nat.sub_self, List.take_zero, List.drop_drop]
              rfl
            clear HE
            have hw6 := wr64 ((P : Int) + 1) (by omega) (by omega)
            go_wp2_with fail
            go_loopw [8] (fun v wr => ∃ j : Nat, v = .int .i64 j ∧ P + 1 ≤ j ∧ j ≤ s.size ∧ Hid (BrI (bts s) P r j) ∧ w2 = wr) (fun v _ => s.size - (intOf v).toNat)
            case atStart => exact ⟨P + 1, by go_num, Nat.le_refl _, by omega, START.out, rfl⟩
            case round =>
              obtain ⟨j, rfl, hj0, hj, HJ, rfl⟩ := hrel
              clear START hw6
              have j3 : (0 : Int) ≤ (j : Int) := by omega
              have jP : (P : Int) + 1 ≤ (j : Int) := by omega
              by_cases hjl : j < s.size
              · have j4 : (j : Int) < (s.size : Int) := by omega
                have j1 := bts_at s j hjl
                have hl : j < (bts s).length := by rw [bts_len]; exact hjl
                have HST : Hid (st false (((bts s).drop (P + 1)).take (j - (P + 1))) = true ∨ ((bts s).getD j 0 ≠ 91 ∧ (bts s).getD j 0 ≠ 93) → BrI (bts s) P r (j + 1)) := fun h => bri_step HJ.out hj0 hl h
                have hw7 := wr64 ((j : Int) + 1) (by omega) (by omega)
                have hw8 := wr64 ((j : Int) - 1) (by omega) (by omega)
                obtain ⟨x, hx⟩ : ∃ x, x = (bts s).getD j 0 := ⟨_, rfl⟩
                have HXX : Hid (x = (bts s).getD j 0) := hx
                rw [← hx] at j1 HST
                clear hx
                by_cases hbr : x = 91 ∨ x = 93
                · obtain ⟨tr, htr⟩ : ∃ tr, tr = trail (((bts s).drop (P + 1)).take (j - (P + 1))) := ⟨_, rfl⟩
                  have HSTT : Hid (st false (((bts s).drop (P + 1)).take (j - (P + 1))) = decide (tr % 2 = 1)) := by show _ = _; rw [htr]; exact st_trail _
                  have HYE : Hid (∀ y, y < tr → y < j - (P + 1) ∧ (bts s).getD (j - y - 1) 0 = 92) := by
                    intro y hy
                    have := esc_yes (bts s) (P + 1) (j - (P + 1)) y (by rw [bts_len]; omega) (by rw [← htr]; exact hy)
                    rw [show P + 1 + (j - (P + 1)) = j by omega] at this
                    exact this
                  have HNE : Hid (j - tr - 1 ≤ P ∨ (bts s).getD (j - tr - 1) 0 ≠ 92) := by
                    have := esc_no (bts s) P (P + 1) (j - (P + 1)) (by rw [bts_len]; omega) (by omega) (Or.inr (by omega))
                    rw [← htr, show P + 1 + (j - (P + 1)) = j by omega] at this
                    exact this
                  have htl : tr ≤ j - (P + 1) := by
                    have := trail_le (((bts s).drop (P + 1)).take (j - (P + 1)))
                    rw [← htr] at this
                    simp at this
                    omega
                  have FEV : Hid (tr % 2 = 0 → x = 91 → r = -1) := by
                    intro he h91
                    have := HJ.out
                    unfold BrI at this
                    rw [HSTT.out, decide_eq_false (by omega), brk_open _ _ hl (by rw [← HXX.out]; exact h91)] at this
                    exact this
                  have FCL : Hid (tr % 2 = 0 → x = 93 → r = if decide ((bts s).getD (j + 1) 0 = 58) then (P : Int) else -1) := by
                    intro he h93
                    have := HJ.out
                    unfold BrI at this
                    rw [HSTT.out, decide_eq_false (by omega), brk_close _ _ hl (by rw [← HXX.out]; exact h93)] at this
                    exact this
                  have FOD : Hid (tr % 2 = 1 → BrI (bts s) P r (j + 1)) := fun h => HST.out (Or.inl (by rw [HSTT.out]; exact decide_eq_true h))
                  clear HST HSTT HJ htr hl
                  rcases hbr with hbr | hbr
                  · subst hbr
                    have NE : Hid (tr % 2 = 0 → r = -1) := fun h => FEV.out h rfl
                    clear FEV FCL
                    go_wp2_with fail
                    go_loopw [10, 11] (fun u v wr => ∃ y : Nat, u = .int .i64 y ∧ v = .int .i64 ((j : Int) - 1 - y) ∧ y ≤ tr ∧ w2 = wr) (fun u _ _ => tr - (intOf u).toNat)
                    case atStart => exact ⟨0, rfl, by go_num, Nat.zero_le _, rfl⟩
                    case round =>
                      obtain ⟨y, rfl, rfl, hy, rfl⟩ := hrel
                      have hw9 := wr64 ((y : Int) + 1) (by omega) (by omega)
                      have hw10 := wr64 ((j : Int) - 1 - (y : Int) - 1) (by omega) (by omega)
                      by_cases hyl : y < tr
                      · obtain ⟨hyj, hy92⟩ := HYE.out y hyl
                        have y1 : (P : Int) < (j : Int) - 1 - (y : Int) := by omega
                        have y2 : (0 : Int) ≤ (j : Int) - 1 - (y : Int) := by omega
                        have y3 : (j : Int) - 1 - (y : Int) < (s.size : Int) := by omega
                        have y4 : ((j : Int) - 1 - (y : Int)).toNat = j - y - 1 := by omega
                        have y5 := bts_at s (j - y - 1) (by omega)
                        rw [hy92] at y5
                        clear hy92
                        go_wp2_with fail
                        exact ⟨⟨y + 1, by go_num, by go_num, by omega, by trivial⟩, by simp [intOf]; omega⟩
                      · have hye : y = tr := by omega
                        subst hye
                        clear HYE
                        by_cases hpos : j - y - 1 ≤ P
                        · have y1 : (j : Int) - 1 - (y : Int) ≤ (P : Int) := by omega
                          by_cases hod : y % 2 = 1
                          · have hm : (y : Int) % 2 = 1 := by omega
                            have NX : Hid (BrI (bts s) P r (j + 1)) := FOD.out hod
                            clear FOD
                            go_wp2_with fail
                            exact ⟨⟨j + 1, by go_num, by omega, by omega, NX.out, by trivial⟩, by simp [intOf]; omega⟩
                          · have hm : (y : Int) % 2 = 0 := by omega
                            have he : y % 2 = 0 := by omega
                            have NX : Hid (r = -1) := NE.out he
                            clear NE FOD
                            go_wp2_with fail
                            go_ret
                            exact ⟨by rw [NX.out]; rfl, HK2.out⟩
                        · have y1 : (P : Int) < (j : Int) - 1 - (y : Int) := by omega
                          have y2 : (0 : Int) ≤ (j : Int) - 1 - (y : Int) := by omega
                          have y3 : (j : Int) - 1 - (y : Int) < (s.size : Int) := by omega
                          have y4 : ((j : Int) - 1 - (y : Int)).toNat = j - y - 1 := by omega
                          have y5 := bts_at s (j - y - 1) (by omega)
                          have y6 : ¬ (bts s).getD (j - y - 1) 0 = 92 := by
                            rcases HNE.out with h | h
                            · exact absurd h hpos
                            · exact h
                          obtain ⟨z, hz⟩ : ∃ z, z = (bts s).getD (j - y - 1) 0 := ⟨_, rfl⟩
                          rw [← hz] at y5 y6
                          have g92 : (z == 92) = false := by simpa using y6
                          clear hz y6
                          by_cases hod : y % 2 = 1
                          · have hm : (y : Int) % 2 = 1 := by omega
                            have NX : Hid (BrI (bts s) P r (j + 1)) := FOD.out hod
                            clear FOD
                            go_wp2_with fail
                            exact ⟨⟨j + 1, by go_num, by omega, by omega, NX.out, by trivial⟩, by simp [intOf]; omega⟩
                          · have hm : (y : Int) % 2 = 0 := by omega
                            have he : y % 2 = 0 := by omega
                            have NX : Hid (r = -1) := NE.out he
                            clear NE FOD
                            go_wp2_with fail
                            go_ret
                            exact ⟨by rw [NX.out]; rfl, HK2.out⟩
                  · subst hbr
                    have NC : Hid (tr % 2 = 0 → r = if decide ((bts s).getD (j + 1) 0 = 58) then (P : Int) else -1) := fun h => FCL.out h rfl
                    clear FEV FCL
                    go_wp2_with fail
                    go_loopw [10, 11] (fun u v wr => ∃ y : Nat, u = .int .i64 y ∧ v = .int .i64 ((j : Int) - 1 - y) ∧ y ≤ tr ∧ w2 = wr) (fun u _ _ => tr - (intOf u).toNat)
                    case atStart => exact ⟨0, rfl, by go_num, Nat.zero_le _, rfl⟩
                    case round =>
                      obtain ⟨y, rfl, rfl, hy, rfl⟩ := hrel
                      have hw9 := wr64 ((y : Int) + 1) (by omega) (by omega)
                      have hw10 := wr64 ((j : Int) - 1 - (y : Int) - 1) (by omega) (by omega)
                      by_cases hyl : y < tr
                      · obtain ⟨hyj, hy92⟩ := HYE.out y hyl
                        have y1 : (P : Int) < (j : Int) - 1 - (y : Int) := by omega
                        have y2 : (0 : Int) ≤ (j : Int) - 1 - (y : Int) := by omega
                        have y3 : (j : Int) - 1 - (y : Int) < (s.size : Int) := by omega
                        have y4 : ((j : Int) - 1 - (y : Int)).toNat = j - y - 1 := by omega
                        have y5 := bts_at s (j - y - 1) (by omega)
                        rw [hy92] at y5
                        clear hy92
                        go_wp2_with fail
                        exact ⟨⟨y + 1, by go_num, by go_num, by omega, by trivial⟩, by simp [intOf]; omega⟩
                      · have hye : y = tr := by omega
                        subst hye
                        clear HYE
                        by_cases hpos : j - y - 1 ≤ P
                        · have y1 : (j : Int) - 1 - (y : Int) ≤ (P : Int) := by omega
                          by_cases hod : y % 2 = 1
                          · have hm : (y : Int) % 2 = 1 := by omega
                            have NX : Hid (BrI (bts s) P r (j + 1)) := FOD.out hod
                            clear FOD
                            go_wp2_with fail
                            exact ⟨⟨j + 1, by go_num, by omega, by omega, NX.out, by trivial⟩, by simp [intOf]; omega⟩
                          · have hm : (y : Int) % 2 = 0 := by omega
                            have he : y % 2 = 0 := by omega
                            have NX : Hid (r = if decide ((bts s).getD (j + 1) 0 = 58) then (P : Int) else -1) := NC.out he
                            clear NC FOD
                            by_cases hj1 : j + 1 < s.size
                            · have k5 : (j : Int) + 1 < (s.size : Int) := by omega
                              have k6 : ((j : Int) + 1).toNat = j + 1 := by omega
                              have k7 := bts_at s (j + 1) hj1
                              obtain ⟨v, hv⟩ : ∃ v, v = (bts s).getD (j + 1) 0 := ⟨_, rfl⟩
                              rw [← hv] at k7 NX
                              clear hv
                              by_cases v58 : v = 58
                              · have NX2 : Hid (r = (P : Int)) := by show _ = _; rw [NX.out, decide_eq_true v58]; rfl
                                clear NX
                                subst v58
                                go_wp2_with fail
                                go_ret
                                exact ⟨by rw [NX2.out]; rfl, HK2.out⟩
                              · have NX2 : Hid (r = -1) := by show _ = _; rw [NX.out, decide_eq_false v58]; rfl
                                have g58 : (v == 58) = false := by simpa using v58
                                clear NX
                                go_wp2_with fail
                                go_ret
                                exact ⟨by rw [NX2.out]; rfl, HK2.out⟩
                            · have k5 : (s.size : Int) ≤ (j : Int) + 1 := by omega
                              have hnone : (bts s)[j + 1]? = none := by rw [List.getElem?_eq_none]; rw [bts_len]; omega
                              have NX2 : Hid (r = -1) := by
                                show _ = _
                                have e0 : (bts s).getD (j + 1) 0 = 0 := by simp [List.getD, hnone]
                                rw [NX.out, e0]; rfl
                              clear NX hnone
                              go_wp2_with fail
                              go_ret
                              exact ⟨by rw [NX2.out]; rfl, HK2.out⟩
                        · have y1 : (P : Int) < (j : Int) - 1 - (y : Int) := by omega
                          have y2 : (0 : Int) ≤ (j : Int) - 1 - (y : Int) := by omega
                          have y3 : (j : Int) - 1 - (y : Int) < (s.size : Int) := by omega
                          have y4 : ((j : Int) - 1 - (y : Int)).toNat = j - y - 1 := by omega
                          have y5 := bts_at s (j - y - 1) (by omega)
                          have y6 : ¬ (bts s).getD (j - y - 1) 0 = 92 := by
                            rcases HNE.out with h | h
                            · exact absurd h hpos
                            · exact h
                          obtain ⟨z, hz⟩ : ∃ z, z = (bts s).getD (j - y - 1) 0 := ⟨_, rfl⟩
                          rw [← hz] at y5 y6
                          have g92 : (z == 92) = false := by simpa using y6
                          clear hz y6
                          by_cases hod : y % 2 = 1
                          · have hm : (y : Int) % 2 = 1 := by omega
                            have NX : Hid (BrI (bts s) P r (j + 1)) := FOD.out hod
                            clear FOD
                            go_wp2_with fail
                            exact ⟨⟨j + 1, by go_num, by omega, by omega, NX.out, by trivial⟩, by simp [intOf]; omega⟩
                          · have hm : (y : Int) % 2 = 0 := by omega
                            have he : y % 2 = 0 := by omega
                            have NX : Hid (r = if decide ((bts s).getD (j + 1) 0 = 58) then (P : Int) else -1) := NC.out he
                            clear NC FOD
                            by_cases hj1 : j + 1 < s.size
                            · have k5 : (j : Int) + 1 < (s.size : Int) := by omega
                              have k6 : ((j : Int) + 1).toNat = j + 1 := by omega
                              have k7 := bts_at s (j + 1) hj1
                              obtain ⟨v, hv⟩ : ∃ v, v = (bts s).getD (j + 1) 0 := ⟨_, rfl⟩
                              rw [← hv] at k7 NX
                              clear hv
                              by_cases v58 : v = 58
                              · have NX2 : Hid (r = (P : Int)) := by show _ = _; rw [NX.out, decide_eq_true v58]; rfl
                                clear NX
                                subst v58
                                go_wp2_with fail
                                go_ret
                                exact ⟨by rw [NX2.out]; rfl, HK2.out⟩
                              · have NX2 : Hid (r = -1) := by show _ = _; rw [NX.out, decide_eq_false v58]; rfl
                                have g58 : (v == 58) = false := by simpa using v58
                                clear NX
                                go_wp2_with fail
                                go_ret
                                exact ⟨by rw [NX2.out]; rfl, HK2.out⟩
                            · have k5 : (s.size : Int) ≤ (j : Int) + 1 := by omega
                              have hnone : (bts s)[j + 1]? = none := by rw [List.getElem?_eq_none]; rw [bts_len]; omega
                              have NX2 : Hid (r = -1) := by
                                show _ = _
                                have e0 : (bts s).getD (j + 1) 0 = 0 := by simp [List.getD, hnone]
                                rw [NX.out, e0]; rfl
                              clear NX hnone
                              go_wp2_with fail
                              go_ret
                              exact ⟨by rw [NX2.out]; rfl, HK2.out⟩
                · have NX : Hid (BrI (bts s) P r (j + 1)) := HST.out (Or.inr ⟨fun h => hbr (Or.inl h), fun h => hbr (Or.inr h)⟩)
                  have g91 : (x != 91) = true := by simp; exact fun h => hbr (Or.inl h)
                  have g93 : (x != 93) = true := by simp; exact fun h => hbr (Or.inr h)
                  clear hbr HST HJ hl
                  go_wp2_with fail
                  exact ⟨⟨j + 1, by go_num, by omega, by omega, NX.out, by trivial⟩, by simp [intOf]; omega⟩
              · have j4 : (s.size : Int) ≤ (j : Int) := by omega
                have NX : Hid (r = -1) := by
                  have := HJ.out
                  unfold BrI at this
                  have hd : (bts s).drop j = [] := List.drop_of_length_le (by rw [bts_len]; omega)
                  rw [hd] at this
                  cases hq : st false (((bts s).drop (P + 1)).take (j - (P + 1))) with
                  | true => rw [hq] at this; exact this
                  | false => rw [hq] at this; exact this
                clear HJ
                go_wp2_with fail
                go_ret
                exact ⟨by rw [NX.out]; rfl, HK2.out⟩
end Go.Proofs.Qxb6605488a
