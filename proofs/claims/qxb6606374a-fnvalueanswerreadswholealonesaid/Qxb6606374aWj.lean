import Derived.Test.Qxb6606374aWi
namespace Go.Proofs.Qxb6606374a
open Go.RowKit
set_option linter.unusedVariables false

theorem law4_nil (a1 : Int) (w : World) (h1 : a1 ≤ 9223372036854775807) :
    Calls Try.prog 4 #[.slice none 0 0, .int .i64 a1] w fun e w' => e = .returned (.bool true) ∧ Kept [] w w' := by
  by_cases hneg : a1 < 0
  · go_enter Try.func4, Try.ntmps4
    go_wp2_with (go_at_call 11; refine (bytes4_ok none 0 0 a1 _ (by omega)).mono ?_; rintro e w' ⟨rfl, rfl⟩)
    go_ret
    exact ⟨rfl, Kept.refl _ _⟩
  · obtain ⟨p, rfl⟩ : ∃ p : Nat, a1 = p := ⟨a1.toNat, by omega⟩
    have b0 : (0 : Int) ≤ (p : Int) := by omega
    go_enter Try.func4, Try.ntmps4
    go_wp2_with (first | (go_at_call 11; refine (bytes4_ok none 0 0 p _ (by omega)).mono ?_; rintro e w' ⟨rfl, rfl⟩) | (go_at_call 7; refine (clone_nil _).mono ?_; rintro e w' ⟨rfl, hq⟩; obtain rfl := hq.symm) | (go_at_call 8; refine (zz_end none 0 0 p false _ (by omega)).mono ?_; rintro e w1 ⟨rfl, hK⟩; have HK1 : Hid (Kept [] w w1) := hK; clear hK))
    go_ret
    exact ⟨rfl, HK1.out⟩

/-- The value alone. -/
theorem zz_alone (g cap : Nat) (T : List Int) (P E : Nat) (w : World) (hT : Rw w g 0 T) (hB : Byt T) (hg : g < w.heap.size) (hl : T.length ≤ 1048576) (hcap : T.length ≤ cap) (hv : valEnd T P false = (E, false)) (hs : isSp (T.getD P 0) = false) :
    Calls Try.prog 8 #[.slice (some ⟨g, P, none⟩) (E - P) (cap - P), .int .i64 0, .bool false] w fun e w' => e = .returned (.tuple #[.slice (some ⟨g, P, none⟩) (E - P) (cap - P), .int .i64 ((E - P : Nat) : Int), .bool false]) ∧ Kept [] w w' := by
  obtain ⟨h0, h1, h2, _⟩ := valEnd_le hv
  obtain ⟨k1, k2⟩ := alone hv hs
  have hlen : ((T.drop P).take (E - P)).length = E - P := by simp; omega
  have hB2 : Byt ((T.drop P).take (E - P)) := fun c hc => hB c (List.mem_of_mem_drop (List.mem_of_mem_take hc))
  have hR := hT.sub P (E - P)
  rw [Nat.zero_add] at hR
  have := zz_any g P (cap - P) ((T.drop P).take (E - P)) 0 false w hR hB2 hg (by rw [hlen]; omega) (by rw [hlen]; omega)
  rw [hlen, k1, k2] at this
  exact this

set_option maxRecDepth 100000 in
set_option maxHeartbeats 2000000 in
theorem law4_row (x : Addr) (cap : Nat) (T : List Int) (a1 : Int) (w : World) (hx : ∀ i, i < T.length → w.cell? (x.add i) = some (.int .u8 (T.getD i 0))) (hB : Byt T) (hcap : T.length ≤ cap) (h1 : a1 ≤ 9223372036854775807) :
    Calls Try.prog 4 #[.slice (some x) T.length cap, .int .i64 a1] w fun e w' => e = .returned (.bool true) ∧ Kept [] w w' := by
  have HX : Hid (∀ i, i < T.length → w.cell? (x.add i) = some (.int .u8 (T.getD i 0))) := hx
  have HB : Hid (Byt T) := hB
  clear hx hB
  by_cases hl : T.length ≤ 1048576
  · have bl : (T.length : Int) ≤ 1048576 := by omega
    by_cases hneg : a1 < 0
    · go_enter Try.func4, Try.ntmps4
      go_wp2_with (go_at_call 11; refine (bytes4_ok _ T.length _ a1 _ hl).mono ?_; rintro e w' ⟨rfl, rfl⟩)
      go_ret
      exact ⟨rfl, Kept.refl _ _⟩
    · obtain ⟨p, rfl⟩ : ∃ p : Nat, a1 = p := ⟨a1.toNat, by omega⟩
      have b0 : (0 : Int) ≤ (p : Int) := by omega
      obtain ⟨P, hP⟩ : ∃ P, P = skip T p := ⟨_, rfl⟩
      have HP : Hid (skip T p = P) := hP.symm
      clear hP
      obtain ⟨r, hr⟩ : ∃ r, r = valEnd T P false := ⟨_, rfl⟩
      have HR : Hid (valEnd T P false = r) := hr.symm
      clear hr
      obtain ⟨E, z⟩ := r
      cases z with
      | true =>
        have HV : Hid (vout w.heap.size 0 T.length P (E, true) = .slice none 0 0) := rfl
        go_enter Try.func4, Try.ntmps4
        go_wp2_with (first | (go_at_call 11; refine (bytes4_ok _ T.length _ p _ hl).mono ?_; rintro e w' ⟨rfl, rfl⟩) | (go_at_call 7; refine (clone_any x cap T _ HX.out hl hcap).mono ?_; rintro e w1 ⟨rfl, hq⟩; obtain ⟨hR1, hS1, hK1⟩ := cln_row hq; have HR1 : Hid (Rw w1 w.heap.size 0 T) := hR1; have HK1 : Hid (Kept [] w w1) := hK1; clear hR1 hK1 hq) | (go_at_call 8; refine (zz_any w.heap.size 0 T.length T p false _ HR1.out HB.out hS1 hl (Nat.le_refl _)).mono ?_; rintro e w2 ⟨rfl, hK⟩; rw [HP.out, HR.out, HV.out]; have HK2 : Hid (Kept [] w w2) := HK1.out.trans hK; clear hK))
        go_ret
        exact ⟨rfl, HK2.out⟩
      | false =>
        obtain ⟨v0, v1, v2, _⟩ := valEnd_le HR.out
        have HS : Hid (isSp (T.getD P 0) = false) := by
          have := skip_nosp (T := T) (p := p) (by rw [HP.out]; exact v0)
          rw [HP.out] at this
          exact this
        have HSP : Hid (∀ k, p ≤ k → k < P → isSp (T.getD k 0) = true) := fun k k1 k2 => (skip_sp k1 (by rw [HP.out]; exact k2)).2
        have hpP : p ≤ P := by
          have := HP.out
          unfold skip at this
          omega
        have HV : Hid (vout w.heap.size 0 T.length P (E, false) = .slice (some ⟨w.heap.size, P, none⟩) (E - P) (T.length - P)) := by
          show _ = _
          simp [vout]
        obtain ⟨L, hL⟩ : ∃ L, L = E - P := ⟨_, rfl⟩
        have HL : Hid (E - P = L) := hL.symm
        rw [← hL] at HV
        have c1 : (E : Int) ≤ (T.length : Int) := by omega
        have c2 : (E : Int) - (L : Int) = (P : Int) := by omega
        have c3 : (p : Int) ≤ (P : Int) := by omega
        have c4 : (P : Int) ≤ (E : Int) := by omega
        have c5 : ((L : Int) == 0) = false := by simp; omega
        have c8 : ¬ T.length < E := by omega
        have c9 : ¬ P < p := by omega
        have c6 : ¬ T.length = P := by omega
        have c7 : (0 : Int) ≤ (P : Int) := by omega
        have hw := wr64 ((E : Int) - (L : Int)) (by omega) (by omega)
        have S1 : Hid (∀ wq, Rw wq w.heap.size 0 T → Calls Try.prog 10 #[.slice (some ⟨w.heap.size, P, none⟩) L (T.length - P), .slice (some ⟨w.heap.size, P, none⟩) L (T.length - P)] wq fun e w' => e = .returned (.bool true) ∧ Kept [] wq w') := by
          intro wq hq
          have := same_vout w.heap.size 0 T.length T P false wq hq hl
          rw [HR.out, HV.out] at this
          exact this
        have S2 : Hid (∀ wq, Rw wq w.heap.size 0 T → w.heap.size < wq.heap.size → Calls Try.prog 8 #[.slice (some ⟨w.heap.size, P, none⟩) L (T.length - P), .int .i64 0, .bool false] wq fun e w' => e = .returned (.tuple #[.slice (some ⟨w.heap.size, P, none⟩) L (T.length - P), .int .i64 (L : Int), .bool false]) ∧ Kept [] wq w') := by
          intro wq hq hz
          have := zz_alone w.heap.size T.length T P E wq hq HB.out hz hl (Nat.le_refl _) HR.out HS.out
          rw [HL.out] at this
          exact this
        have hEP : E - P = L := hL.symm
        clear hL
        go_enter Try.func4, Try.ntmps4
        go_wp2_with (first | (go_at_call 11; refine (bytes4_ok _ T.length _ p _ hl).mono ?_; rintro e w' ⟨rfl, rfl⟩) | (go_at_call 7; refine (clone_any x cap T _ HX.out hl hcap).mono ?_; rintro e w1 ⟨rfl, hq⟩; obtain ⟨hR1, hS1, hK1⟩ := cln_row hq; have HR1 : Hid (Rw w1 w.heap.size 0 T) := hR1; have HS1 : Hid (w.heap.size < w1.heap.size) := hS1; have HK1 : Hid (Kept [] w w1) := hK1; clear hR1 hK1 hS1 hq) | (go_at_call 8; refine (S2.out _ HR3.out HS3.out).mono ?_; rintro e w4 ⟨rfl, hK⟩; have HR4 : Hid (Rw w4 w.heap.size 0 T) := HR3.out.kept hK (by simp); have HK4 : Hid (Kept [] w w4) := HK3.out.trans hK; clear hK) | (go_at_call 8; refine (zz_any w.heap.size 0 T.length T p false _ HR1.out HB.out HS1.out hl (Nat.le_refl _)).mono ?_; rintro e w2 ⟨rfl, hK⟩; rw [HP.out, HR.out, HV.out]; have HR2 : Hid (Rw w2 w.heap.size 0 T) := HR1.out.kept hK (by simp); have HS2 : Hid (w.heap.size < w2.heap.size) := Nat.lt_of_lt_of_le HS1.out hK.size; have HK2 : Hid (Kept [] w w2) := HK1.out.trans hK; clear hK) | (go_at_call 12; refine (allspace_any w.heap.size 0 T.length T p P _ HR2.out hl hpP (by omega) HSP.out).mono ?_; rintro e w' ⟨rfl, hq⟩; obtain rfl := hq.symm) | (go_at_call 10; refine (S1.out _ HR4.out).mono ?_; rintro e w5 ⟨rfl, hK⟩; have HK5 : Hid (Kept [] w w5) := HK4.out.trans hK; clear hK) | (go_at_call 10; refine (S1.out _ HR2.out).mono ?_; rintro e w3 ⟨rfl, hK⟩; have HR3 : Hid (Rw w3 w.heap.size 0 T) := HR2.out.kept hK (by simp); have HS3 : Hid (w.heap.size < w3.heap.size) := Nat.lt_of_lt_of_le HS2.out hK.size; have HK3 : Hid (Kept [] w w3) := HK2.out.trans hK; clear hK))
        go_ret
        exact ⟨rfl, HK5.out⟩
  · go_enter Try.func4, Try.ntmps4
    go_wp2_with (go_at_call 11; refine (bytes4_no _ T.length _ a1 _ (by omega)).mono ?_; rintro e w' ⟨rfl, rfl⟩)
    go_ret
    exact ⟨rfl, Kept.refl _ _⟩
end Go.Proofs.Qxb6606374a
