import Derived.Test.Qxb6606374aBase
import Derived.Deep.LoopGhost
namespace Go.Proofs.Qxb6606374a
open Go.RowKit
set_option linter.unusedVariables false

/-- 'peek' at the end of the text (also of a nil one). -/
theorem peek_end (b : Nat) (q : Option Addr) (n cap p : Nat) (f : Bool) (w : World) (hW : Wk w b (.slice q n cap) p f) (hp : n ≤ p) :
    Calls Try.prog 22 #[.pointer (some ⟨b, 0, none⟩)] w fun e w' => e = .returned (.int .u8 0) ∧ w' = w.drew := by
  obtain ⟨c0, c1, c2, hf⟩ := hW.facts
  clear hW hf
  have h1 : (n : Int) ≤ (p : Int) := by omega
  go_enter Try.func22, Try.ntmps22
  go_wp2
  go_loopw [2] (fun v wr => v = .int .u8 0 ∧ wr = w) (fun _ _ => 0)
  case atStart => exact ⟨rfl, rfl⟩
  case round =>
    obtain ⟨rfl, rfl⟩ := hrel
    go_wp2
    go_region_held3 (fun w' => w'.cell? ⟨b, 0, none⟩ = some (.slice q n cap) ∧ w'.cell? ⟨b, 1, none⟩ = some (.int .i64 p)) (simp [c0, c1]) (fail)
    go_wp2
    go_ret
    exact ⟨rfl, rfl⟩

set_option maxHeartbeats 2000000 in
theorem peek_any (b g o cap : Nat) (T : List Int) (p : Nat) (f : Bool) (w : World) (hW : Wk w b (.slice (some ⟨g, o, none⟩) T.length cap) p f) (hT : Rw w g o T) (hgb : g ≠ b) (hl : T.length ≤ 1048576) :
    Calls Try.prog 22 #[.pointer (some ⟨b, 0, none⟩)] w fun e w' => e = .returned (.int .u8 (hd0 (T.drop (skip T p)))) ∧ Wk w' b (.slice (some ⟨g, o, none⟩) T.length cap) (skip T p) f ∧ Kept [b] w w' := by
  have START : Hid (∃ p', Wk w b (.slice (some ⟨g, o, none⟩) T.length cap) p' f ∧ T.length - p = T.length - p' ∧ skip T p' = skip T p ∧ Kept [b] w w) := ⟨p, hW, rfl, rfl, Kept.refl _ _⟩
  have HT : Hid (Rw w g o T) := hT
  clear hW hT
  go_enter Try.func22, Try.ntmps22
  go_wp2
  go_loopg [2] (T.length - p) (fun m v wr => v = .int .u8 0 ∧ ∃ p', Wk wr b (.slice (some ⟨g, o, none⟩) T.length cap) p' f ∧ m = T.length - p' ∧ skip T p' = skip T p ∧ Kept [b] w wr)
  case atStart => exact ⟨rfl, START.out⟩
  case round =>
    clear START
    obtain ⟨rfl, p', hW, hm, hsk, hK⟩ := hrel
    obtain ⟨c0, c1, c2, hf⟩ := hW.facts
    have HW : Hid (Wk wr b (.slice (some ⟨g, o, none⟩) T.length cap) p' f) := hW
    have HK : Hid (Kept [b] w wr) := hK
    have HS : Hid (skip T p' = skip T p) := hsk
    have HM : Hid (gk = T.length - p') := hm
    clear hW hK hsk hm
    by_cases hlt : p' < T.length
    · have hc : wr.cell? ⟨g, o + p', none⟩ = some (.int .u8 (T.getD p' 0)) := (HT.out.kept HK.out (by simpa using hgb)) p' hlt
      have HSP : Hid (isSp (T.getD p' 0) = true → skip T p' = skip T (p' + 1)) := fun h => skip_yes T p' hlt h
      have HNO : Hid (isSp (T.getD p' 0) = false → skip T p' = p') := fun h => skip_no T p' hlt h
      have HH : Hid (hd0 (T.drop p') = T.getD p' 0) := hd0_at T p' hlt
      obtain ⟨c, hcc⟩ : ∃ c, c = T.getD p' 0 := ⟨_, rfl⟩
      rw [← hcc] at hc HSP HNO HH
      clear hcc
      have b1 : (p' : Int) < (T.length : Int) := by omega
      have b2 : (0 : Int) ≤ (p' : Int) := by omega
      have b3 : (T.length : Int) ≤ 1048576 := by omega
      have hw1 := wr64 ((p' : Int) + 1) (by omega) (by omega)
      have HE : Hid (IntKind.i64.wrap ((p' : Int) + 1) = ((p' + 1 : Nat) : Int)) := by show _ = _; rw [hw1]; omega
      go_wp2
      go_region_held3 (fun w' => w'.cell? ⟨b, 0, none⟩ = some (.slice (some ⟨g, o, none⟩) T.length cap) ∧ w'.cell? ⟨b, 1, none⟩ = some (.int .i64 p')) (simp [c0, c1]) (fail)
      go_wp2
      go_region_held3 (fun w' => w'.cell? ⟨b, 0, none⟩ = some (.slice (some ⟨g, o, none⟩) T.length cap) ∧ w'.cell? ⟨b, 1, none⟩ = some (.int .i64 p') ∧ w'.cell? ⟨g, o + p', none⟩ = some (.int .u8 c)) (simp [c0, c1, hc]) (fail)
      by_cases hs : isSp c = true
      · have H1 : Hid (skip T p' = skip T (p' + 1)) := HSP.out hs
        have hd : c = 32 ∨ c = 9 ∨ c = 13 ∨ c = 10 := by
          simp only [isSp, Bool.or_eq_true, decide_eq_true_eq] at hs
          omega
        clear HSP HNO HH hs
        rcases hd with rfl | rfl | rfl | rfl
        all_goals
          go_wp2
          go_roundg (T.length - (p' + 1))
          case measure => have := HM.out; omega
          case rel =>
            refine ⟨rfl, p' + 1, ?_, rfl, by rw [← H1.out]; exact HS.out, ?_⟩
            · have := (HW.out.set1 (p' + 1)).drew.drew
              simpa using this
            · have := (HK.out.setCell (p := ⟨b, 1, none⟩) (by simp) (.int .i64 (p' + 1 : Nat))).drew.drew
              simpa using this
      · have hs' : isSp c = false := by simpa using hs
        have H1 : Hid (skip T p' = p') := HNO.out hs'
        have d1 : ¬ c = 32 := by rintro rfl; simp [isSp] at hs'
        have d2 : ¬ c = 9 := by rintro rfl; simp [isSp] at hs'
        have d3 : ¬ c = 13 := by rintro rfl; simp [isSp] at hs'
        have d4 : ¬ c = 10 := by rintro rfl; simp [isSp] at hs'
        clear HSP HNO hs hs'
        go_wp2
        go_ret
        refine ⟨?_, ?_, ?_⟩
        · rw [← HS.out, H1.out, HH.out]; rfl
        · rw [← HS.out, H1.out]; exact HW.out
        · exact HK.out.drew.drew
    · have b1 : (T.length : Int) ≤ (p' : Int) := by omega
      have H1 : Hid (skip T p' = p') := skip_end T p' (by omega)
      have HH : Hid (hd0 (T.drop p') = 0) := hd0_end T p' (by omega)
      go_wp2
      go_region_held3 (fun w' => w'.cell? ⟨b, 0, none⟩ = some (.slice (some ⟨g, o, none⟩) T.length cap) ∧ w'.cell? ⟨b, 1, none⟩ = some (.int .i64 p')) (simp [c0, c1]) (fail)
      go_wp2
      go_ret
      refine ⟨?_, ?_, ?_⟩
      · rw [← HS.out, H1.out, HH.out]; rfl
      · rw [← HS.out, H1.out]; exact HW.out
      · exact HK.out.drew

theorem fail_any (b : Nat) (q : Option Addr) (n cap p : Nat) (f : Bool) (w : World) (hW : Wk w b (.slice q n cap) p f) :
    Calls Try.prog 23 #[.pointer (some ⟨b, 0, none⟩)] w fun e w' => e = .returned (.tuple #[]) ∧ Wk w' b (.slice q n cap) n true ∧ Kept [b] w w' := by
  obtain ⟨c0, c1, c2, hf⟩ := hW.facts
  have f1 := hf 1
  have f2 := hf 2
  have HW : Hid (Wk w b (.slice q n cap) p f) := hW
  clear hW hf
  go_enter Try.func23, Try.ntmps23
  go_wp2
  go_end0
  refine ⟨rfl, ?_, ?_⟩
  · exact (HW.out.set2 true).set1 n
  · exact ((Kept.refl [b] w).setCell (p := ⟨b, 2, none⟩) (by simp) (.bool true)).setCell (p := ⟨b, 1, none⟩) (by simp) (.int .i64 n)

theorem space_any (c : Int) (w : World) : Calls Try.prog 21 #[.int .u8 c] w fun e w' => e = .returned (.bool (isSp c)) ∧ w' = w := by
  go_enter Try.func21, Try.ntmps21
  go_wp2
  all_goals
    go_ret
    refine ⟨?_, rfl⟩
    have hb : ∀ n : Int, (c == n) = decide (c = n) := fun n => rfl
    simp_all [isSp]

theorem open_any (c : Int) (w : World) : Calls Try.prog 19 #[.int .u8 c] w fun e w' => e = .returned (.bool (isOpen c)) ∧ w' = w := by
  go_enter Try.func19, Try.ntmps19
  go_wp2
  all_goals
    go_ret
    refine ⟨?_, rfl⟩
    have hb : ∀ n : Int, (c == n) = decide (c = n) := fun n => rfl
    simp_all [isOpen]

theorem close_any (c : Int) (w : World) : Calls Try.prog 29 #[.int .u8 c] w fun e w' => e = .returned (.bool (isClose c)) ∧ w' = w := by
  go_enter Try.func29, Try.ntmps29
  go_wp2
  all_goals
    go_ret
    refine ⟨?_, rfl⟩
    have hb : ∀ n : Int, (c == n) = decide (c = n) := fun n => rfl
    simp_all [isClose]

theorem delim_any (c : Int) (w : World) : Calls Try.prog 14 #[.int .u8 c] w fun e w' => e = .returned (.bool (isDl c)) ∧ w' = w := by
  go_enter Try.func14, Try.ntmps14
  go_wp2_with (go_at_call 21; refine (space_any c _).mono ?_; rintro e w' ⟨rfl, rfl⟩)
  all_goals
    go_ret
    refine ⟨?_, rfl⟩
    simp_all [isDl]

theorem delimiter_any (c : Int) (w : World) : Calls Try.prog 26 #[.int .u8 c] w fun e w' => e = .returned (.bool (isDl c)) ∧ w' = w := by
  go_enter Try.func26, Try.ntmps26
  go_wp2
  all_goals
    go_ret
    refine ⟨?_, rfl⟩
    simp_all [isDl, isSp]
end Go.Proofs.Qxb6606374a
