import Derived.Test.Qxb6605488aWi
namespace Go.Proofs.Qxb6605488a
open Go.RowKit
set_option linter.unusedVariables false
set_option linter.unusedSimpArgs false

theorem RowAt.kept {w w' : World} {v : Value} {l : List ByteArray} (h : RowAt w v l) (hK : Kept [] w w') : RowAt w' v l := by
  obtain ⟨a, c, h1, h2, h3⟩ := h
  refine ⟨a, c, h1, h2, fun j hj => ?_⟩
  obtain ⟨x, e, hc⟩ := h3 j hj
  exact ⟨x, e, cell_kept hK hc (by simp)⟩

set_option maxRecDepth 100000 in
set_option maxHeartbeats 4000000 in
theorem same19_any (va vb : Value) (L : List (List ByteArray)) (w : World) (hA : Lns (fun _ => True) w va L) (hB : Lns (fun _ => True) w vb L) (hll : L.length ≤ 65536) (hsm : ∀ i, i < L.length → (L.getD i []).length ≤ 65536) :
    Calls Try.prog 19 #[va, vb] w fun e w' => e = .returned (.bool true) ∧ Kept [] w w' := by
  obtain ⟨a, ca, rfl, hca, hra⟩ := hA.open
  obtain ⟨b, cb, rfl, hcb, hrb⟩ := hB.open
  have HA : Hid (∀ i, i < L.length → ∃ x rv, a = some x ∧ w.cell? (x.add i) = some rv ∧ RowAt w rv (L.getD i [])) := hra
  have HB : Hid (∀ i, i < L.length → ∃ x rv, b = some x ∧ w.cell? (x.add i) = some rv ∧ RowAt w rv (L.getD i [])) := hrb
  have HSM : Hid (∀ i, i < L.length → (L.getD i []).length ≤ 65536) := hsm
  clear hra hrb hsm hA hB
  have bl : (L.length : Int) ≤ 65536 := by omega
  go_enter Try.func19, Try.ntmps19
  go_wp2
  go_loopw [5] (fun v wr => ∃ i : Nat, v = .int .i64 i ∧ i ≤ L.length ∧ Kept [] w wr) (fun v _ => L.length - (intOf v).toNat)
  case atStart => exact ⟨0, rfl, Nat.zero_le _, Kept.refl _ _⟩
  case round =>
    obtain ⟨w1, hw1⟩ : ∃ w1, w1 = wr := ⟨wr, rfl⟩
    subst hw1
    obtain ⟨i, rfl, hi, hK⟩ := hrel
    have HK : Hid (Kept [] w w1) := hK
    clear hK
    have d0 : (0 : Int) ≤ (i : Int) := by omega
    by_cases hlt : i < L.length
    · have d1 : (i : Int) < (L.length : Int) := by omega
      have hwi := wr64 ((i : Int) + 1) (by omega) (by omega)
      obtain ⟨x, _, rfl, hxc0, hra0⟩ := HA.out i hlt
      obtain ⟨y, _, rfl, hyc0, hrb0⟩ := HB.out i hlt
      have hxc := cell_kept HK.out hxc0 (by simp)
      have hyc := cell_kept HK.out hyc0 (by simp)
      obtain ⟨a2, c2, rfl, hac, hstra⟩ := hra0.kept HK.out
      obtain ⟨b2, c3, rfl, hbc, hstrb⟩ := hrb0.kept HK.out
      have hsl := HSM.out i hlt
      clear hxc0 hyc0 hra0 hrb0
      have HSA : Hid (∀ j, j < (L.getD i []).length → ∃ z, a2 = some z ∧ w1.cell? (z.add j) = some (.string ((L.getD i []).getD j ByteArray.empty))) := hstra
      have HSB : Hid (∀ j, j < (L.getD i []).length → ∃ z, b2 = some z ∧ w1.cell? (z.add j) = some (.string ((L.getD i []).getD j ByteArray.empty))) := hstrb
      clear hstra hstrb
      obtain ⟨l, hl⟩ : ∃ l, l = L.getD i [] := ⟨_, rfl⟩
      rw [← hl] at hxc hyc hac hbc HSA HSB hsl
      clear hl
      have bl2 : (l.length : Int) ≤ 65536 := by omega
      go_wp2
      go_region_held3 (fun w' => w'.cell? (x.add i) = some (.slice a2 l.length c2) ∧ w'.cell? (y.add i) = some (.slice b2 l.length c3)) (simp [hxc, hyc]) (fail)
      go_wp2
      go_loopw [6] (fun v w2 => ∃ j : Nat, v = .int .i64 j ∧ j ≤ l.length ∧ Kept [] w1 w2) (fun v _ => l.length - (intOf v).toNat)
      case atStart => exact ⟨0, rfl, Nat.zero_le _, (Kept.refl _ _).drew⟩
      case round =>
        obtain ⟨j, rfl, hj, hK⟩ := hrel
        have HK2 : Hid (Kept [] w1 wr) := hK
        have hxc' := cell_kept hK hxc (by simp)
        have hyc' := cell_kept hK hyc (by simp)
        have HX : Hid (w1.cell? (x.add i) = some (.slice a2 l.length c2)) := hxc
        have HY : Hid (w1.cell? (y.add i) = some (.slice b2 l.length c3)) := hyc
        clear hK hxc hyc
        have j2 : (0 : Int) ≤ (j : Int) := by omega
        by_cases hjl : j < l.length
        · have j1 : (j : Int) < (l.length : Int) := by omega
          have hwj := wr64 ((j : Int) + 1) (by omega) (by omega)
          obtain ⟨z1, rfl, hz1⟩ := HSA.out j hjl
          obtain ⟨z2, rfl, hz2⟩ := HSB.out j hjl
          have hz1' := cell_kept HK2.out hz1 (by simp)
          have hz2' := cell_kept HK2.out hz2 (by simp)
          clear hz1 hz2
          obtain ⟨s, hs⟩ : ∃ s, s = l.getD j ByteArray.empty := ⟨_, rfl⟩
          rw [← hs] at hz1' hz2'
          clear hs
          go_wp2
          go_region_held3 (fun w' => w'.cell? (x.add i) = some (.slice (some z1) l.length c2) ∧ w'.cell? (y.add i) = some (.slice (some z2) l.length c3) ∧ w'.cell? (z1.add j) = some (.string s) ∧ w'.cell? (z2.add j) = some (.string s)) (simp [hxc', hyc', hz1', hz2']) (fail)
          go_wp2
          exact ⟨⟨j + 1, by go_num, by omega, HK2.out.drew⟩, by simp [intOf]; omega⟩
        · have j1 : (l.length : Int) ≤ (j : Int) := by omega
          go_wp2
          exact ⟨⟨i + 1, by go_num, by omega, HK.out.trans HK2.out⟩, by simp [intOf]; omega⟩
    · have d1 : (L.length : Int) ≤ (i : Int) := by omega
      go_wp2
      go_ret
      exact ⟨rfl, HK.out⟩
end Go.Proofs.Qxb6605488a
