import Derived.Test.Qxb6606374aWb
import Derived.Test.Qxb6606374aPm
namespace Go.Proofs.Qxb6606374a
open Go.RowKit
set_option linter.unusedVariables false

/-- What 'nested' leaves. -/
def NesPost (b : Nat) (tv : Value) (T : List Int) (p : Nat) (f : Bool) (w : World) (e : Ending) (w' : World) : Prop :=
  e = .returned (.tuple #[]) ∧ Kept [b] w w' ∧ ((tgt T p f = none ∧ Wk w' b tv T.length true) ∨ ∃ n z, tgt T p f = some (n, z) ∧ Wk w' b tv n f)

/-- The loop of 'nested'. -/
def NesI (b : Nat) (tv : Value) (T : List Int) (p : Nat) (f : Bool) (w : World) (gk d p' : Nat) (wr : World) : Prop :=
  Wk wr b tv p' f ∧ Kept [b] w wr ∧ gk = T.length - p' ∧ p ≤ p' ∧ p' ≤ T.length ∧ d ≤ p' ∧ ((d = 0 ∧ p' = p) ∨ ∃ k, d = k + 1 ∧ up p' (scan f k .out (T.drop p')) = tgt T p f)

set_option maxRecDepth 100000 in
set_option maxHeartbeats 2000000 in
theorem nested_any (b g o cap : Nat) (T : List Int) (p : Nat) (f : Bool) (w : World) (hW : Wk w b (.slice (some ⟨g, o, none⟩) T.length cap) p f) (hT : Rw w g o T) (hB : Byt T) (hgb : g ≠ b) (hl : T.length ≤ 1048576) (hcap : T.length ≤ cap) (hp : p < T.length) (hq : isOpen (T.getD p 0) = true) :
    Calls Try.prog 25 #[.pointer (some ⟨b, 0, none⟩)] w fun e w' => NesPost b (.slice (some ⟨g, o, none⟩) T.length cap) T p f w e w' := by
  have START : Hid (NesI b (.slice (some ⟨g, o, none⟩) T.length cap) T p f w (T.length - p) 0 p w) := ⟨hW, Kept.refl _ _, rfl, Nat.le_refl _, by omega, by omega, Or.inl ⟨rfl, rfl⟩⟩
  have HT : Hid (Rw w g o T) := hT
  have HB : Hid (Byt T) := hB
  have HQ : Hid (isOpen (T.getD p 0) = true) := hq
  clear hW hT hB hq
  have bl : (T.length : Int) ≤ 1048576 := by omega
  go_enter Try.func25, Try.ntmps25
  go_wp2
  go_loopg [2] (T.length - p) (fun gk v wr => ∃ d p' : Nat, v = .int .i64 d ∧ NesI b (.slice (some ⟨g, o, none⟩) T.length cap) T p f w gk d p' wr)
  case atStart => exact ⟨0, p, rfl, START.out⟩
  case round =>
    clear START
    obtain ⟨d, p', rfl, hW, hK, hg, h1, h2, h3, h4⟩ := hrel
    obtain ⟨c0, c1, c2, hf⟩ := hW.facts
    have hf1 := hf 1
    have HW1 : Hid (Wk wr b (.slice (some ⟨g, o, none⟩) T.length cap) p' f) := hW
    have HK1 : Hid (Kept [b] w wr) := hK
    have HG : Hid (gk = T.length - p') := hg
    have HT1 : Hid (Rw wr g o T) := HT.out.kept hK (by simpa using hgb)
    have H4 : Hid ((d = 0 ∧ p' = p) ∨ ∃ k, d = k + 1 ∧ up p' (scan f k .out (T.drop p')) = tgt T p f) := h4
    clear hW hK hg h4 hf
    by_cases hlt : p' < T.length
    · have hc : wr.cell? ⟨g, o + p', none⟩ = some (.int .u8 (T.getD p' 0)) := HT1.out p' hlt
      obtain ⟨c, hcc⟩ : ∃ c, c = T.getD p' 0 := ⟨_, rfl⟩
      rw [← hcc] at hc
      have HCC : Hid (c = T.getD p' 0) := hcc
      clear hcc
      have b1 : (p' : Int) < (T.length : Int) := by omega
      have b2 : (0 : Int) ≤ (p' : Int) := by omega
      have b3 : (d : Int) ≤ (p' : Int) := by omega
      have b4 : (0 : Int) ≤ (d : Int) := by omega
      have hw1 := wr64 ((p' : Int) + 1) (by omega) (by omega)
      have hw2 := wr64 ((d : Int) + 1) (by omega) (by omega)
      have hw3 := wr64 ((d : Int) - 1) (by omega) (by omega)
      have SET : Hid (Wk (wr.setCell ⟨b, 1, none⟩ (.int .i64 ((p' : Int) + 1))).drew.drew b (.slice (some ⟨g, o, none⟩) T.length cap) (p' + 1) f ∧ Kept [b] w (wr.setCell ⟨b, 1, none⟩ (.int .i64 ((p' : Int) + 1))).drew.drew) :=
        ⟨HW1.out.set1 (p' + 1), (HK1.out.setCell (p := ⟨b, 1, none⟩) (by simp) _).drew.drew⟩
      go_wp2
      go_region_held3 (fun w' => w'.cell? ⟨b, 0, none⟩ = some (.slice (some ⟨g, o, none⟩) T.length cap) ∧ w'.cell? ⟨b, 1, none⟩ = some (.int .i64 p')) (simp [c0, c1]) (fail)
      go_wp2
      go_region_held3 (fun w' => w'.cell? ⟨b, 0, none⟩ = some (.slice (some ⟨g, o, none⟩) T.length cap) ∧ w'.cell? ⟨b, 1, none⟩ = some (.int .i64 p') ∧ w'.cell? ⟨g, o + p', none⟩ = some (.int .u8 c)) (simp [c0, c1, hc]) (fail)
      by_cases q34 : c = 34
      · subst q34
        have H5 : Hid (∃ k, d = k + 1 ∧ up p' (scan f k .out (T.drop p')) = tgt T p f) := by
          rcases H4.out with ⟨rfl, rfl⟩ | h5
          · have := HQ.out
            rw [← HCC.out] at this
            simp [isOpen] at this
          · exact h5
        go_wp2_with fail
        go_at_call 24
        refine (str_any b g o cap T p' f _ (by exact HW1.out) (by exact HT1.out) HB.out hgb hl hcap hlt HCC.out.symm).mono ?_
        rintro e w3 ⟨⟨v, rfl⟩, hK3, hh⟩
        have HK3 : Hid (Kept [b] w w3) := HK1.out.drew.drew.trans hK3
        obtain ⟨k, hdk, h5⟩ := H5.out
        rcases hh with ⟨hl0, hW3⟩ | ⟨n, hl0, hW3⟩
        · have FIN : Hid (tgt T p f = none) := nes_q0 h5 hlt HCC.out.symm hl0
          have HW3 : Hid (Wk w3 b (.slice (some ⟨g, o, none⟩) T.length cap) T.length true) := hW3
          obtain ⟨c0', c1', c2', hf'⟩ := hW3.facts
          clear h5 H5 H4 hK3 hl0 hW3 hf'
          go_wp2
          go_end0
          exact ⟨rfl, HK3.out, Or.inl ⟨FIN.out, HW3.out⟩⟩
        · have hle := (lex_le _ _ _ hl0).2
          rw [List.length_drop] at hle
          have HW3 : Hid (Wk w3 b (.slice (some ⟨g, o, none⟩) T.length cap) (p' + 1 + n) f) := hW3
          obtain ⟨c0', c1', c2', hf'⟩ := hW3.facts
          cases f with
          | true =>
            have FIN : Hid (tgt T p true = some (p' + 1 + n, true)) := nes_q1 h5 hlt HCC.out.symm hl0
            clear h5 H5 H4 hK3 hl0 hW3 hf'
            go_wp2
            go_end0
            exact ⟨rfl, HK3.out, Or.inr ⟨_, _, FIN.out, HW3.out⟩⟩
          | false =>
            have NXT : Hid (NesI b (.slice (some ⟨g, o, none⟩) T.length cap) T p false w (T.length - (p' + 1 + n)) d (p' + 1 + n) w3) :=
              ⟨HW3.out, HK3.out, rfl, by omega, by omega, by omega, Or.inr ⟨k, hdk, nes_q2 h5 hlt HCC.out.symm hl0⟩⟩
            clear h5 H5 H4 hK3 hl0 hW3 hf' hdk
            go_wp2
            go_roundg (T.length - (p' + 1 + n))
            case measure => rw [HG.out]; omega
            case rel => exact ⟨d, p' + 1 + n, by go_num, NXT.out⟩
      · by_cases ho : isOpen c = true
        · have hd : c = 123 ∨ c = 91 := by
            simp only [isOpen, Bool.or_eq_true, decide_eq_true_eq] at ho
            exact ho
          have NXT : Hid (NesI b (.slice (some ⟨g, o, none⟩) T.length cap) T p f w (T.length - (p' + 1)) (d + 1) (p' + 1) (wr.setCell ⟨b, 1, none⟩ (.int .i64 ((p' : Int) + 1))).drew.drew) := by
            refine ⟨SET.out.1, SET.out.2, rfl, by omega, by omega, by omega, Or.inr ?_⟩
            rcases H4.out with ⟨rfl, rfl⟩ | ⟨k, rfl, h5⟩
            · exact ⟨0, rfl, rfl⟩
            · exact ⟨k + 1, rfl, nes_open h5 hlt (by rw [← HCC.out]; exact ho)⟩
          rcases hd with rfl | rfl
          all_goals
            go_wp2
            go_roundg (T.length - (p' + 1))
            case measure => rw [HG.out]; omega
            case rel => exact ⟨d + 1, p' + 1, by go_num, NXT.out⟩
        · have ho' : isOpen c = false := by simpa using ho
          have H5 : Hid (∃ k, d = k + 1 ∧ up p' (scan f k .out (T.drop p')) = tgt T p f) := by
            rcases H4.out with ⟨rfl, rfl⟩ | h5
            · have := HQ.out
              rw [← HCC.out, ho'] at this
              cases this
            · exact h5
          by_cases hcl : isClose c = true
          · have hd : c = 125 ∨ c = 93 := by
              simp only [isClose, Bool.or_eq_true, decide_eq_true_eq] at hcl
              exact hcl
            obtain ⟨k, rfl, h5⟩ := H5.out
            cases k with
            | zero =>
              have FIN : Hid (tgt T p f = some (p' + 1, false)) := nes_close0 h5 hlt (by rw [← HCC.out]; exact hcl)
              clear h5 H5 H4 hcl ho ho' q34
              rcases hd with rfl | rfl
              all_goals
                go_wp2
                go_end0
                exact ⟨rfl, SET.out.2, Or.inr ⟨_, _, FIN.out, SET.out.1⟩⟩
            | succ k =>
              have NXT : Hid (NesI b (.slice (some ⟨g, o, none⟩) T.length cap) T p f w (T.length - (p' + 1)) (k + 1) (p' + 1) (wr.setCell ⟨b, 1, none⟩ (.int .i64 ((p' : Int) + 1))).drew.drew) :=
                ⟨SET.out.1, SET.out.2, rfl, by omega, by omega, by omega, Or.inr ⟨k, rfl, nes_close h5 hlt (by rw [← HCC.out]; exact hcl)⟩⟩
              clear h5 H5 H4 hcl ho ho' q34
              have hne : ¬ ((k : Int) + 1 + 1 - 1 = 0) := by omega
              rcases hd with rfl | rfl
              all_goals
                go_wp2
                go_roundg (T.length - (p' + 1))
                case measure => rw [HG.out]; omega
                case rel => exact ⟨k + 1, p' + 1, by go_num, NXT.out⟩
          · have hcl' : isClose c = false := by simpa using hcl
            obtain ⟨k, hk, h5⟩ := H5.out
            have NXT : Hid (NesI b (.slice (some ⟨g, o, none⟩) T.length cap) T p f w (T.length - (p' + 1)) d (p' + 1) (wr.setCell ⟨b, 1, none⟩ (.int .i64 ((p' : Int) + 1))).drew.drew) :=
              ⟨SET.out.1, SET.out.2, rfl, by omega, by omega, by omega, Or.inr ⟨k, hk, nes_plain h5 hlt (by rw [← HCC.out]; exact q34) (by rw [← HCC.out]; exact ho') (by rw [← HCC.out]; exact hcl')⟩⟩
            have d1 : ¬ c = 123 := by rintro rfl; simp [isOpen] at ho'
            have d2 : ¬ c = 91 := by rintro rfl; simp [isOpen] at ho'
            have d3 : ¬ c = 125 := by rintro rfl; simp [isClose] at hcl'
            have d4 : ¬ c = 93 := by rintro rfl; simp [isClose] at hcl'
            clear h5 H5 H4 hcl hcl' ho ho' hk
            go_wp2
            go_roundg (T.length - (p' + 1))
            case measure => rw [HG.out]; omega
            case rel => exact ⟨d, p' + 1, by go_num, NXT.out⟩
    · have b1 : (T.length : Int) ≤ (p' : Int) := by omega
      have HN : Hid (tgt T p f = none) := by
        rcases H4.out with ⟨rfl, rfl⟩ | ⟨k, rfl, h5⟩
        · omega
        · exact nes_end h5 (by omega)
      go_wp2
      go_region_held3 (fun w' => w'.cell? ⟨b, 0, none⟩ = some (.slice (some ⟨g, o, none⟩) T.length cap) ∧ w'.cell? ⟨b, 1, none⟩ = some (.int .i64 p')) (simp [c0, c1]) (fail)
      go_wp2_with (go_at_call 23; refine (fail_any b (some ⟨g, o, none⟩) T.length cap p' f _ (by exact HW1.out)).mono ?_; rintro e w3 ⟨rfl, hW3, hK3⟩)
      go_end0
      exact ⟨rfl, HK1.out.drew.trans hK3, Or.inl ⟨HN.out, hW3⟩⟩
end Go.Proofs.Qxb6606374a
