import Derived.Test.Qxb6606374aWc
namespace Go.Proofs.Qxb6606374a
open Go.RowKit
set_option linter.unusedVariables false

/-- What 'value' leaves. -/
def ValPost (b g o cap : Nat) (T : List Int) (p : Nat) (f : Bool) (w : World) (e : Ending) (w' : World) : Prop :=
  e = .returned (vout g o cap p (valEnd T p f)) ∧ Wk w' b (.slice (some ⟨g, o, none⟩) T.length cap) (valEnd T p f).1 (valEnd T p f).2 ∧ Kept [b] w w'

/-- The loop over a bare word. -/
def WrdI (b : Nat) (tv : Value) (T : List Int) (P : Nat) (f : Bool) (w : World) (gk p' : Nat) (wr : World) : Prop :=
  Wk wr b tv p' f ∧ Kept [b] w wr ∧ gk = T.length - p' ∧ P ≤ p' ∧ p' ≤ T.length ∧ p' + word (T.drop p') = P + word (T.drop P)

theorem val_mk {b g o cap : Nat} {T : List Int} {P E : Nat} {f z : Bool} {w w' : World} (he : valEnd T P f = (E, z)) (hW : Wk w' b (.slice (some ⟨g, o, none⟩) T.length cap) E z) (hK : Kept [b] w w') : ∀ v, v = (if z then Value.slice none 0 0 else .slice (some ⟨g, o + P, none⟩) (E - P) (cap - P)) → ValPost b g o cap T P f w (.returned v) w' := by
  intro v hv
  refine ⟨?_, by rw [he]; exact hW, hK⟩
  rw [he, hv]; rfl

set_option maxRecDepth 100000 in
set_option maxHeartbeats 4000000 in
theorem value_any (b g o cap : Nat) (T : List Int) (p : Nat) (f : Bool) (w : World) (hW : Wk w b (.slice (some ⟨g, o, none⟩) T.length cap) p f) (hT : Rw w g o T) (hB : Byt T) (hgb : g ≠ b) (hl : T.length ≤ 1048576) (hcap : T.length ≤ cap) :
    Calls Try.prog 16 #[.pointer (some ⟨b, 0, none⟩)] w fun e w' => ValPost b g o cap T (skip T p) f w e w' := by
  have HW : Hid (Wk w b (.slice (some ⟨g, o, none⟩) T.length cap) p f) := hW
  have HT : Hid (Rw w g o T) := hT
  have HB : Hid (Byt T) := hB
  clear hW hT hB
  have bl : (T.length : Int) ≤ 1048576 := by omega
  obtain ⟨P, hP⟩ : ∃ P, P = skip T p := ⟨_, rfl⟩
  have HPS : Hid (P = skip T p) := hP
  rw [← hP]
  clear hP
  go_enter Try.func16, Try.ntmps16
  go_wp2_with fail
  go_at_call 22
  refine (peek_any b g o cap T p f w HW.out HT.out hgb hl).mono ?_
  rintro e w1 ⟨rfl, hW1, hK1⟩
  rw [← HPS.out] at hW1 ⊢
  clear HPS
  obtain ⟨c, hc⟩ : ∃ c, c = hd0 (T.drop P) := ⟨_, rfl⟩
  rw [← hc]
  have HC : Hid (c = hd0 (T.drop P)) := hc
  have HW1 : Hid (Wk w1 b (.slice (some ⟨g, o, none⟩) T.length cap) P f) := hW1
  have HK1 : Hid (Kept [b] w w1) := hK1
  have HT1 : Hid (Rw w1 g o T) := HT.out.kept hK1 (by simpa using hgb)
  obtain ⟨c0, c1, c2, hf⟩ := hW1.facts
  clear hc hW1 hK1 hf
  by_cases q0 : c = 0
  · subst q0
    have HE : Hid (valEnd T P f = (T.length, true)) := by
      show _ = _
      rw [valEnd, ← HC.out, if_pos rfl]
    go_wp2_with (go_at_call 23; refine (fail_any b (some ⟨g, o, none⟩) T.length cap P f _ (by exact HW1.out)).mono ?_; rintro e w3 ⟨rfl, hW3, hK3⟩; obtain ⟨c0', c1', c2', hf'⟩ := hW3.facts; have HW3 : Hid (Wk w3 b (.slice (some ⟨g, o, none⟩) T.length cap) T.length true) := hW3; have HK3 : Hid (Kept [b] w w3) := HK1.out.trans hK3; clear hW3 hK3 hf')
    go_ret
    exact val_mk HE.out HW3.out HK3.out _ rfl
  · have hP : P < T.length := hd0_lt (by rw [← HC.out]; exact q0)
    have HG : Hid (T.getD P 0 = c) := by show _ = _; rw [HC.out, hd0_at T P hP]
    have hcP : ¬ cap = P := by omega
    have b0 : (0 : Int) ≤ (P : Int) := by omega
    have b1 : (T.length : Int) ≤ (cap : Int) := by omega
    by_cases q34 : c = 34
    · subst q34
      go_wp2_with fail
      go_at_call 24
      refine (str_any b g o cap T P f _ (by exact HW1.out) (by exact HT1.out) HB.out hgb hl hcap hP HG.out).mono ?_
      rintro e w3 ⟨⟨v, rfl⟩, hK3, hh⟩
      have HK3 : Hid (Kept [b] w w3) := HK1.out.trans hK3
      clear hK3
      rcases hh with ⟨hl0, hW3⟩ | ⟨n, hl0, hW3⟩
      · have HE : Hid (valEnd T P f = (T.length, true)) := by
          show _ = _
          rw [valEnd, ← HC.out, if_neg (by decide), if_pos rfl, hl0]
        obtain ⟨c0', c1', c2', hf'⟩ := hW3.facts
        have HW3 : Hid (Wk w3 b (.slice (some ⟨g, o, none⟩) T.length cap) T.length true) := hW3
        clear hl0 hW3 hf'
        go_wp2
        go_ret
        exact val_mk HE.out HW3.out HK3.out _ rfl
      · have HE : Hid (valEnd T P f = (P + 1 + n, f)) := by
          show _ = _
          rw [valEnd, ← HC.out, if_neg (by decide), if_pos rfl, hl0]
        have hle := (lex_le _ _ _ hl0).2
        rw [List.length_drop] at hle
        obtain ⟨c0', c1', c2', hf'⟩ := hW3.facts
        have HW3 : Hid (Wk w3 b (.slice (some ⟨g, o, none⟩) T.length cap) (P + 1 + n) f) := hW3
        clear hl0 hW3 hf'
        cases f with
        | true =>
          go_wp2
          go_ret
          exact val_mk HE.out HW3.out HK3.out _ rfl
        | false =>
          obtain ⟨E, hE⟩ : ∃ E, E = P + 1 + n := ⟨_, rfl⟩
          rw [← hE] at c1' HW3 HE
          have b2 : (P : Int) ≤ (E : Int) := by omega
          have b3 : (E : Int) ≤ (cap : Int) := by omega
          clear hE hle
          go_wp2
          go_region_held3 (fun w' => w'.cell? ⟨b, 0, none⟩ = some (.slice (some ⟨g, o, none⟩) T.length cap) ∧ w'.cell? ⟨b, 1, none⟩ = some (.int .i64 E)) (simp [c0', c1']) (fail)
          go_wp2
          go_ret
          exact val_mk HE.out (Wk.drew HW3.out) HK3.out.drew _ rfl
    · by_cases ho : isOpen c = true
      · have hd : c = 123 ∨ c = 91 := by
          simp only [isOpen, Bool.or_eq_true, decide_eq_true_eq] at ho
          exact ho
        clear ho
        rcases hd with rfl | rfl
        all_goals
          go_wp2_with fail
          go_at_call 25
          refine (nested_any b g o cap T P f _ (by exact HW1.out) (by exact HT1.out) HB.out hgb hl hcap hP (by rw [HG.out]; rfl)).mono ?_
          rintro e w3 ⟨rfl, hK3, hh⟩
          have HK3 : Hid (Kept [b] w w3) := HK1.out.trans hK3
          clear hK3
          rcases hh with ⟨hl0, hW3⟩ | ⟨E, z, hl0, hW3⟩
          · have HE : Hid (valEnd T P f = (T.length, true)) := by
              show _ = _
              rw [valEnd, ← HC.out, if_neg (by decide), if_neg (by decide), if_pos (by rfl), hl0]
            obtain ⟨c0', c1', c2', hf'⟩ := hW3.facts
            have HW3 : Hid (Wk w3 b (.slice (some ⟨g, o, none⟩) T.length cap) T.length true) := hW3
            clear hl0 hW3 hf'
            go_wp2
            go_ret
            exact val_mk HE.out HW3.out HK3.out _ rfl
          · have HE : Hid (valEnd T P f = (E, f)) := by
              show _ = _
              rw [valEnd, ← HC.out, if_neg (by decide), if_neg (by decide), if_pos (by rfl), hl0]
            have hle := tgt_le hl0 hP
            obtain ⟨c0', c1', c2', hf'⟩ := hW3.facts
            have HW3 : Hid (Wk w3 b (.slice (some ⟨g, o, none⟩) T.length cap) E f) := hW3
            clear hl0 hW3 hf'
            cases f with
            | true =>
              go_wp2
              go_ret
              exact val_mk HE.out HW3.out HK3.out _ rfl
            | false =>
              have b2 : (P : Int) ≤ (E : Int) := by omega
              have b3 : (E : Int) ≤ (cap : Int) := by omega
              clear hle
              go_wp2
              go_region_held3 (fun w' => w'.cell? ⟨b, 0, none⟩ = some (.slice (some ⟨g, o, none⟩) T.length cap) ∧ w'.cell? ⟨b, 1, none⟩ = some (.int .i64 E)) (simp [c0', c1']) (fail)
              go_wp2
              go_ret
              exact val_mk HE.out (Wk.drew HW3.out) HK3.out.drew _ rfl
      · have ho' : isOpen c = false := by simpa using ho
        have d1 : ¬ c = 123 := by rintro rfl; simp [isOpen] at ho'
        have d2 : ¬ c = 91 := by rintro rfl; simp [isOpen] at ho'
        have HE : Hid (valEnd T P f = if word (T.drop P) = 0 then (T.length, true) else (P + word (T.drop P), f)) := by
          show _ = _
          rw [valEnd, ← HC.out, if_neg q0, if_neg q34, if_neg ho]
        clear ho ho'
        have e0 : (c == 0) = false := by simpa using q0
        have e1 : (c == 34) = false := by simpa using q34
        have e2 : (c == 123) = false := by simpa using d1
        have e3 : (c == 91) = false := by simpa using d2
        clear q0 q34 d1 d2
        have START : Hid (WrdI b (.slice (some ⟨g, o, none⟩) T.length cap) T P f w (T.length - P) P w1) := ⟨HW1.out, HK1.out, rfl, Nat.le_refl _, by omega, rfl⟩
        go_wp2
        go_loopg [12] (T.length - P) (fun gk v wr => ∃ p', WrdI b (.slice (some ⟨g, o, none⟩) T.length cap) T P f w gk p' wr)
        case atStart => exact ⟨P, START.out⟩
        case round =>
          clear START c0 c1 c2
          obtain ⟨p', hW, hK, hg, h1, h2, h3⟩ := hrel
          obtain ⟨c0, c1, c2, hf⟩ := hW.facts
          have hf1 := hf 1
          have HW2 : Hid (Wk wr b (.slice (some ⟨g, o, none⟩) T.length cap) p' f) := hW
          have HK2 : Hid (Kept [b] w wr) := hK
          have HGK : Hid (gk = T.length - p') := hg
          have HT2 : Hid (Rw wr g o T) := HT.out.kept hK (by simpa using hgb)
          have H3 : Hid (p' + word (T.drop p') = P + word (T.drop P)) := h3
          clear hW hK hg h3 hf
          have b2 : (P : Int) ≤ (p' : Int) := by omega
          have b4 : (0 : Int) ≤ (p' : Int) := by omega
          by_cases hlt : p' < T.length
          · have hcell := HT2.out p' hlt
            have HY : Hid (isDl (T.getD p' 0) = false → word (T.drop p') = word (T.drop (p' + 1)) + 1) := fun h => word_yes T p' hlt h
            have HN : Hid (isDl (T.getD p' 0) = true → word (T.drop p') = 0) := fun h => word_no T p' hlt h
            obtain ⟨x, hx⟩ : ∃ x, x = T.getD p' 0 := ⟨_, rfl⟩
            rw [← hx] at hcell HY HN
            clear hx
            have b5 : (p' : Int) < (T.length : Int) := by omega
            have hw1 := wr64 ((p' : Int) + 1) (by omega) (by omega)
            by_cases hdl : isDl x = false
            · have NXT : Hid (WrdI b (.slice (some ⟨g, o, none⟩) T.length cap) T P f w (T.length - (p' + 1)) (p' + 1) (wr.setCell ⟨b, 1, none⟩ (.int .i64 ((p' : Int) + 1))).drew) :=
                ⟨HW2.out.set1 (p' + 1), (HK2.out.setCell (p := ⟨b, 1, none⟩) (by simp) _).drew, rfl, by omega, by omega, by have := HY.out hdl; have := H3.out; omega⟩
              have HDL : Hid (isDl x = false) := hdl
              clear hdl
              go_wp2
              go_region_held3 (fun w' => w'.cell? ⟨b, 0, none⟩ = some (.slice (some ⟨g, o, none⟩) T.length cap) ∧ w'.cell? ⟨b, 1, none⟩ = some (.int .i64 p') ∧ w'.cell? ⟨g, o + p', none⟩ = some (.int .u8 x)) (simp [c0, c1, hcell]) ((go_at_call 26; refine (delimiter_any x _).mono ?_; rintro e w' ⟨rfl, rfl⟩; rw [HDL.out]))
              go_wp2
              go_roundg (T.length - (p' + 1))
              case measure => rw [HGK.out]; omega
              case rel => exact ⟨p' + 1, NXT.out⟩
            · have hdl' : isDl x = true := by simpa using hdl
              have HZ : Hid (word (T.drop p') = 0) := HN.out hdl'
              have HDL : Hid (isDl x = true) := hdl'
              clear hdl hdl' HY HN
              have HEND : Hid (p' = P + word (T.drop P)) := by have := H3.out; have := HZ.out; show _ = _; omega
              clear H3 HZ
              by_cases hpp : p' = P
              · subst hpp
                have HE2 : Hid (valEnd T p' f = (T.length, true)) := by
                  show _ = _
                  rw [HE.out, if_pos (by have := HEND.out; omega)]
                go_wp2
                go_region_held3 (fun w' => w'.cell? ⟨b, 0, none⟩ = some (.slice (some ⟨g, o, none⟩) T.length cap) ∧ w'.cell? ⟨b, 1, none⟩ = some (.int .i64 p') ∧ w'.cell? ⟨g, o + p', none⟩ = some (.int .u8 x)) (simp [c0, c1, hcell]) ((go_at_call 26; refine (delimiter_any x _).mono ?_; rintro e w' ⟨rfl, rfl⟩; rw [HDL.out]))
                go_wp2_with (go_at_call 23; refine (fail_any b (some ⟨g, o, none⟩) T.length cap p' f _ (by exact HW2.out)).mono ?_; rintro e w3 ⟨rfl, hW3, hK3⟩; obtain ⟨c0', c1', c2', hf'⟩ := hW3.facts; have HW3 : Hid (Wk w3 b (.slice (some ⟨g, o, none⟩) T.length cap) T.length true) := hW3; have HK3 : Hid (Kept [b] w w3) := HK2.out.drew.trans hK3; clear hW3 hK3 hf')
                go_ret
                exact val_mk HE2.out HW3.out HK3.out _ rfl
              · have HE2 : Hid (valEnd T P f = (p', f)) := by
                  show _ = _
                  rw [HE.out, if_neg (by have := HEND.out; omega), ← HEND.out]
                have hpq : ¬ (p' : Int) = (P : Int) := by omega
                have b3 : (p' : Int) ≤ (cap : Int) := by omega
                clear HEND
                cases f with
                | true =>
                  go_wp2
                  go_region_held3 (fun w' => w'.cell? ⟨b, 0, none⟩ = some (.slice (some ⟨g, o, none⟩) T.length cap) ∧ w'.cell? ⟨b, 1, none⟩ = some (.int .i64 p') ∧ w'.cell? ⟨g, o + p', none⟩ = some (.int .u8 x)) (simp [c0, c1, hcell]) ((go_at_call 26; refine (delimiter_any x _).mono ?_; rintro e w' ⟨rfl, rfl⟩; rw [HDL.out]))
                  go_wp2
                  go_ret
                  exact val_mk HE2.out (Wk.drew HW2.out) HK2.out.drew _ rfl
                | false =>
                  go_wp2
                  go_region_held3 (fun w' => w'.cell? ⟨b, 0, none⟩ = some (.slice (some ⟨g, o, none⟩) T.length cap) ∧ w'.cell? ⟨b, 1, none⟩ = some (.int .i64 p') ∧ w'.cell? ⟨g, o + p', none⟩ = some (.int .u8 x)) (simp [c0, c1, hcell]) ((go_at_call 26; refine (delimiter_any x _).mono ?_; rintro e w' ⟨rfl, rfl⟩; rw [HDL.out]))
                  go_wp2
                  go_region_held3 (fun w' => w'.cell? ⟨b, 0, none⟩ = some (.slice (some ⟨g, o, none⟩) T.length cap) ∧ w'.cell? ⟨b, 1, none⟩ = some (.int .i64 p')) (simp [c0, c1]) (fail)
                  go_wp2
                  go_ret
                  exact val_mk HE2.out (Wk.drew (Wk.drew HW2.out)) HK2.out.drew.drew _ rfl
          · have b5 : (T.length : Int) ≤ (p' : Int) := by omega
            have HZ : Hid (word (T.drop p') = 0) := word_end T p' (by omega)
            have HEND : Hid (p' = P + word (T.drop P)) := by have := H3.out; have := HZ.out; show _ = _; omega
            clear H3 HZ
            by_cases hpp : p' = P
            · omega
            · have HE2 : Hid (valEnd T P f = (p', f)) := by
                show _ = _
                rw [HE.out, if_neg (by have := HEND.out; omega), ← HEND.out]
              have hpq : ¬ (p' : Int) = (P : Int) := by omega
              have b3 : (p' : Int) ≤ (cap : Int) := by omega
              clear HEND
              cases f with
              | true =>
                go_wp2
                have hdf : decide ((p' : Int) < (T.length : Int)) = false := by simp; omega
                go_region
                go_wp2
                go_ret
                exact val_mk HE2.out (Wk.drew HW2.out) HK2.out.drew _ rfl
              | false =>
                go_wp2
                have hdf : decide ((p' : Int) < (T.length : Int)) = false := by simp; omega
                go_region
                go_wp2
                go_region_held3 (fun w' => w'.cell? ⟨b, 0, none⟩ = some (.slice (some ⟨g, o, none⟩) T.length cap) ∧ w'.cell? ⟨b, 1, none⟩ = some (.int .i64 p')) (simp [c0, c1]) (fail)
                go_wp2
                go_ret
                exact val_mk HE2.out (Wk.drew (Wk.drew HW2.out)) HK2.out.drew.drew _ rfl
end Go.Proofs.Qxb6606374a
