import Derived.Test.Qxb6606374aWg
namespace Go.Proofs.Qxb6606374a
open Go.RowKit
set_option linter.unusedVariables false

theorem mvalue_end (q : Option Addr) (n cap p : Nat) (f : Bool) (w : World) (hp : n ≤ p) :
    Calls Try.prog 9 #[.slice q n cap, .int .i64 p, .bool f] w fun e w' => e = .returned (.tuple #[.slice none 0 0, .int .i64 n, .bool true]) ∧ w' = w := by
  have b3 : (n : Int) ≤ (p : Int) := by omega
  go_enter Try.func9, Try.ntmps9
  go_wp2_with (go_at_call 17; refine (skipsp_end q n cap p _ hp).mono ?_; rintro e w' ⟨rfl, rfl⟩)
  go_ret3
  exact ⟨rfl, rfl⟩

set_option maxRecDepth 100000 in
set_option maxHeartbeats 4000000 in
theorem mvalue_any (g o cap : Nat) (T : List Int) (p : Nat) (f : Bool) (w : World) (hT : Rw w g o T) (hl : T.length ≤ 1048576) (hcap : T.length ≤ cap) :
    Calls Try.prog 9 #[.slice (some ⟨g, o, none⟩) T.length cap, .int .i64 p, .bool f] w fun e w' => e = .returned (.tuple #[vout g o cap (skip T p) (valEnd T (skip T p) f), .int .i64 (valEnd T (skip T p) f).1, .bool (valEnd T (skip T p) f).2]) ∧ w = w' := by
  have HT : Hid (Rw w g o T) := hT
  clear hT
  have bl : (T.length : Int) ≤ 1048576 := by omega
  obtain ⟨P, hP⟩ : ∃ P, P = skip T p := ⟨_, rfl⟩
  have HPS : Hid (P = skip T p) := hP
  rw [← hP]
  clear hP
  obtain ⟨r, hr⟩ : ∃ r, r = valEnd T P f := ⟨_, rfl⟩
  have HR : Hid (r = valEnd T P f) := hr
  rw [← hr]
  clear hr
  have S17 : Hid (Calls Try.prog 17 #[.slice (some ⟨g, o, none⟩) T.length cap, .int .i64 p] w fun e w' => e = .returned (.int .i64 P) ∧ w' = w) := by
    have := skipsp_any g o cap T p w HT.out hl
    rw [← HPS.out] at this
    exact this
  by_cases hlt : P < T.length
  · have hc := HT.out P (by omega)
    have HG : Hid (hd0 (T.drop P) = T.getD P 0) := hd0_at T P hlt
    obtain ⟨c, hcc⟩ : ∃ c, c = T.getD P 0 := ⟨_, rfl⟩
    have HX : Hid (c = T.getD P 0) := hcc
    rw [← hcc] at hc HG
    clear hcc
    have b1 : (P : Int) < (T.length : Int) := by omega
    have b2 : (0 : Int) ≤ (P : Int) := by omega
    have hcp : ¬ cap = P := by omega
    by_cases q0 : c = 0
    · have HE : Hid (r = (T.length, true)) := by rw [HR.out, valEnd, HG.out, if_pos q0]; exact rfl
      subst q0
      clear HG
      go_enter Try.func9, Try.ntmps9
      go_wp2_with (go_at_call 17; refine (S17.out).mono ?_; rintro e w' ⟨rfl, rfl⟩)
      go_ret3
      exact ⟨by rw [HE.out]; rfl, rfl⟩
    · by_cases q34 : c = 34
      · cases hlx : lex false (T.drop (P + 1)) with
        | none =>
          have HE : Hid (r = (T.length, true)) := by rw [HR.out, valEnd, HG.out, if_neg q0, if_pos q34, hlx]; exact rfl
          have HM : Hid (mstr T P = (T.length, false)) := by unfold mstr; show _ = _; rw [hlx]
          clear hlx HG
          subst q34
          go_enter Try.func9, Try.ntmps9
          go_wp2_with (first | (go_at_call 17; refine (S17.out).mono ?_; rintro e w' ⟨rfl, rfl⟩) | (go_at_call 18; refine (mstring_any g o cap T P _ HT.out hl hlt).mono ?_; rintro e w' ⟨rfl, rfl⟩; rw [HM.out]))
          go_ret3
          exact ⟨by rw [HE.out]; rfl, rfl⟩
        | some n =>
          have hle := (lex_le _ _ _ hlx).2
          rw [List.length_drop] at hle
          have HE : Hid (r = (P + 1 + n, f)) := by rw [HR.out, valEnd, HG.out, if_neg q0, if_pos q34, hlx]; exact rfl
          have HM : Hid (mstr T P = (P + 1 + n, true)) := by unfold mstr; show _ = _; rw [hlx]
          clear hlx HG
          obtain ⟨E, hE⟩ : ∃ E, E = P + 1 + n := ⟨_, rfl⟩
          rw [← hE] at HM HE
          have e1 : (P : Int) ≤ (E : Int) := by omega
          have e2 : (E : Int) ≤ (cap : Int) := by omega
          clear hE hle
          subst q34
          cases f with
          | true =>
            go_enter Try.func9, Try.ntmps9
            go_wp2_with (first | (go_at_call 17; refine (S17.out).mono ?_; rintro e w' ⟨rfl, rfl⟩) | (go_at_call 18; refine (mstring_any g o cap T P _ HT.out hl hlt).mono ?_; rintro e w' ⟨rfl, rfl⟩; rw [HM.out]))
            go_ret3
            exact ⟨by rw [HE.out]; rfl, rfl⟩
          | false =>
            go_enter Try.func9, Try.ntmps9
            go_wp2_with (first | (go_at_call 17; refine (S17.out).mono ?_; rintro e w' ⟨rfl, rfl⟩) | (go_at_call 18; refine (mstring_any g o cap T P _ HT.out hl hlt).mono ?_; rintro e w' ⟨rfl, rfl⟩; rw [HM.out]))
            go_ret3
            exact ⟨by rw [HE.out]; rfl, rfl⟩
      · by_cases ho : isOpen c = true
        · have HO : Hid (isOpen c = true) := ho
          have HE : Hid (r = mnes T P f) := by rw [HR.out, valEnd, HG.out, if_neg q0, if_neg q34, if_pos ho]; exact rfl
          have e00 : (c == 0) = false := by simpa using q0
          have e11 : (c == 34) = false := by simpa using q34
          clear ho HG q0 q34
          have BD : Hid ((mnes T P f).2 = false → P ≤ (mnes T P f).1 ∧ (mnes T P f).1 ≤ T.length) := by
            show _ → _
            unfold mnes
            cases htg : tgt T P f with
            | none => intro h; cases h
            | some q =>
              obtain ⟨n, z⟩ := q
              have := tgt_le htg hlt
              intro _
              exact ⟨by show P ≤ n; omega, this.2⟩
          obtain ⟨rr, hrr⟩ : ∃ rr, rr = mnes T P f := ⟨_, rfl⟩
          have HRR : Hid (mnes T P f = rr) := hrr.symm
          rw [← hrr] at HE BD
          clear hrr
          obtain ⟨E, z⟩ := rr
          cases z with
          | true =>
            clear BD
            go_enter Try.func9, Try.ntmps9
            go_wp2_with (first | (go_at_call 17; refine (S17.out).mono ?_; rintro e w' ⟨rfl, rfl⟩) | (go_at_call 19; refine (open_any c _).mono ?_; rintro e w' ⟨rfl, rfl⟩; rw [HO.out]) | (go_at_call 20; refine (mnested_any g o cap T P f _ HT.out hl hlt).mono ?_; rintro e w' ⟨rfl, rfl⟩; rw [HRR.out]))
            go_ret3
            exact ⟨by rw [HE.out]; rfl, rfl⟩
          | false =>
            obtain ⟨u1, u2⟩ := BD.out rfl
            clear BD
            have u1' : P ≤ E := u1
            have u2' : E ≤ T.length := u2
            have e1 : (P : Int) ≤ (E : Int) := by omega
            have e2 : (E : Int) ≤ (cap : Int) := by omega
            clear u1 u2 u1' u2'
            go_enter Try.func9, Try.ntmps9
            go_wp2_with (first | (go_at_call 17; refine (S17.out).mono ?_; rintro e w' ⟨rfl, rfl⟩) | (go_at_call 19; refine (open_any c _).mono ?_; rintro e w' ⟨rfl, rfl⟩; rw [HO.out]) | (go_at_call 20; refine (mnested_any g o cap T P f _ HT.out hl hlt).mono ?_; rintro e w' ⟨rfl, rfl⟩; rw [HRR.out]))
            go_ret3
            exact ⟨by rw [HE.out]; rfl, rfl⟩
        · have HO : Hid (isOpen c = false) := by show _ = _; simpa using ho
          have HE : Hid (r = if word (T.drop P) = 0 then (T.length, true) else (P + word (T.drop P), f)) := by rw [HR.out, valEnd, HG.out, if_neg q0, if_neg q34, if_neg ho]; exact rfl
          clear ho HG
          have e0 : (c == 0) = false := by simpa using q0
          have e1 : (c == 34) = false := by simpa using q34
          clear q0 q34
          go_enter Try.func9, Try.ntmps9
          go_wp2_with (first | (go_at_call 17; refine (S17.out).mono ?_; rintro e w' ⟨rfl, hq⟩; obtain rfl := hq.symm) | (go_at_call 19; refine (open_any c _).mono ?_; rintro e w' ⟨rfl, hq⟩; obtain rfl := hq.symm; rw [HO.out]))
          go_loopw [15] (fun v wr => ∃ j : Nat, v = .int .i64 j ∧ P ≤ j ∧ j ≤ T.length ∧ j + word (T.drop j) = P + word (T.drop P) ∧ wr = w) (fun v _ => T.length - (intOf v).toNat)
          case atStart => exact ⟨P, by go_num, by omega, by omega, rfl, rfl⟩
          case round =>
            obtain ⟨j, rfl, h0, h1, h2, rfl⟩ := hrel
            have H2 : Hid (j + word (T.drop j) = P + word (T.drop P)) := h2
            clear h2
            have bj : (0 : Int) ≤ (j : Int) := by omega
            have bP : (P : Int) ≤ (j : Int) := by omega
            have bc : (j : Int) ≤ (cap : Int) := by omega
            have HFIN : Hid (word (T.drop j) = 0 → (j = P → r = (T.length, true)) ∧ (j ≠ P → r = (j, f))) := by
              intro hz
              have e := H2.out
              rw [hz, Nat.add_zero] at e
              refine ⟨fun h => ?_, fun h => ?_⟩
              · rw [HE.out, if_pos (by omega)]
              · rw [HE.out, if_neg (by omega), e]
            by_cases hj : j < T.length
            · have hcj := HT.out j hj
              have HY : Hid (isDl (T.getD j 0) = false → word (T.drop j) = word (T.drop (j + 1)) + 1) := fun h => word_yes T j hj h
              have HN : Hid (isDl (T.getD j 0) = true → word (T.drop j) = 0) := fun h => word_no T j hj h
              obtain ⟨x, hx⟩ : ∃ x, x = T.getD j 0 := ⟨_, rfl⟩
              rw [← hx] at hcj HY HN
              clear hx
              have b5 : (j : Int) < (T.length : Int) := by omega
              have hw := wr64 ((j : Int) + 1) (by omega) (by omega)
              by_cases hd : isDl x = false
              · have HD : Hid (isDl x = false) := hd
                have NXT : Hid (j + 1 + word (T.drop (j + 1)) = P + word (T.drop P)) := by
                  have := HY.out hd
                  have := H2.out
                  show _ = _
                  omega
                clear hd H2 HY HN HFIN
                go_wp2_with (go_at_call 14; refine (delim_any x _).mono ?_; rintro e w' ⟨rfl, rfl⟩; rw [HD.out])
                exact ⟨⟨j + 1, by go_num, by omega, by omega, NXT.out, by trivial⟩, by simp [intOf]; omega⟩
              · have HD : Hid (isDl x = true) := by show _ = _; simpa using hd
                have F := HFIN.out (HN.out HD.out)
                clear hd H2 HY HN HFIN
                by_cases hjp : j = P
                · have HZ : Hid (r = (T.length, true)) := F.1 hjp
                  clear F
                  subst hjp
                  go_wp2_with (go_at_call 14; refine (delim_any x _).mono ?_; rintro e w' ⟨rfl, rfl⟩; rw [HD.out])
                  go_ret3
                  exact ⟨by rw [HZ.out]; rfl, rfl⟩
                · have HZ : Hid (r = (j, f)) := F.2 hjp
                  clear F
                  have hjq : ¬ (j : Int) = (P : Int) := by omega
                  cases f with
                  | true =>
                    go_wp2_with (go_at_call 14; refine (delim_any x _).mono ?_; rintro e w' ⟨rfl, rfl⟩; rw [HD.out])
                    go_ret3
                    exact ⟨by rw [HZ.out]; rfl, rfl⟩
                  | false =>
                    go_wp2_with (go_at_call 14; refine (delim_any x _).mono ?_; rintro e w' ⟨rfl, rfl⟩; rw [HD.out])
                    go_ret3
                    exact ⟨by rw [HZ.out]; rfl, rfl⟩
            · have b5 : (T.length : Int) ≤ (j : Int) := by omega
              have hdf : decide ((j : Int) < (T.length : Int)) = false := by simp; omega
              have F := HFIN.out (word_end T j (by omega))
              have hjp : ¬ j = P := by omega
              have HZ : Hid (r = (j, f)) := F.2 hjp
              have hjq : ¬ (j : Int) = (P : Int) := by omega
              clear F H2 HFIN
              cases f with
              | true =>
                go_wp2_with fail
                go_ret3
                exact ⟨by rw [HZ.out]; rfl, rfl⟩
              | false =>
                go_wp2_with fail
                go_ret3
                exact ⟨by rw [HZ.out]; rfl, rfl⟩
  · have b3 : (T.length : Int) ≤ (P : Int) := by omega
    have HE : Hid (r = (T.length, true)) := by rw [HR.out, valEnd, hd0_end T P (by omega), if_pos rfl]; exact rfl
    go_enter Try.func9, Try.ntmps9
    go_wp2_with (go_at_call 17; refine (S17.out).mono ?_; rintro e w' ⟨rfl, rfl⟩)
    go_ret3
    exact ⟨by rw [HE.out]; rfl, rfl⟩
end Go.Proofs.Qxb6606374a
