import Derived.Test.Qxb6606374aWe
import Derived.Test.Qxb6606374aWh
import Derived.Test.Qxb6606374aPn
namespace Go.Proofs.Qxb6606374a
open Go.RowKit
set_option linter.unusedVariables false

theorem bytes3_ok (q : Option Addr) (n cap : Nat) (p : Int) (f : Bool) (w : World) (hn : n ≤ 1048576) :
    Calls Try.prog 6 #[.slice q n cap, .int .i64 p, .bool f] w fun e w' => e = .returned (.bool true) ∧ w = w' := by
  have b1 : (n : Int) ≤ 1048576 := by omega
  have hw := wr64 (0 + (n : Int)) (by omega) (by omega)
  have hw' := wr64 ((n : Int)) (by omega) (by omega)
  go_enter Try.func6, Try.ntmps6
  go_wp2
  go_ret
  exact ⟨rfl, rfl⟩

theorem bytes3_no (q : Option Addr) (n cap : Nat) (p : Int) (f : Bool) (w : World) (hn : 1048576 < n) :
    Calls Try.prog 6 #[.slice q n cap, .int .i64 p, .bool f] w fun e w' => e = .returned (.bool false) ∧ w = w' := by
  have b1 : 1048576 < (n : Int) := by omega
  go_enter Try.func6, Try.ntmps6
  go_wp2
  go_ret
  exact ⟨rfl, rfl⟩

theorem bytes4_ok (q : Option Addr) (n cap : Nat) (p : Int) (w : World) (hn : n ≤ 1048576) :
    Calls Try.prog 11 #[.slice q n cap, .int .i64 p] w fun e w' => e = .returned (.bool true) ∧ w = w' := by
  have b1 : (n : Int) ≤ 1048576 := by omega
  have hw := wr64 (0 + (n : Int)) (by omega) (by omega)
  have hw' := wr64 ((n : Int)) (by omega) (by omega)
  go_enter Try.func11, Try.ntmps11
  go_wp2
  go_ret
  exact ⟨rfl, rfl⟩

theorem bytes4_no (q : Option Addr) (n cap : Nat) (p : Int) (w : World) (hn : 1048576 < n) :
    Calls Try.prog 11 #[.slice q n cap, .int .i64 p] w fun e w' => e = .returned (.bool false) ∧ w = w' := by
  have b1 : 1048576 < (n : Int) := by omega
  go_enter Try.func11, Try.ntmps11
  go_wp2
  go_ret
  exact ⟨rfl, rfl⟩

theorem cln_row {w wr : World} {T : List Int} (h : Cln w T T.length wr) : Rw wr w.heap.size 0 T ∧ w.heap.size < wr.heap.size ∧ Kept [] w wr := by
  obtain ⟨h1, h2, cs, h3, h4, h5⟩ := h
  refine ⟨?_, lt_of h3, h2⟩
  intro i hi
  rw [Nat.zero_add]
  exact cell_of h3 (h5 i hi)

theorem same_vout (g o cap : Nat) (T : List Int) (P : Nat) (f : Bool) (w : World) (hT : Rw w g o T) (hl : T.length ≤ 1048576) :
    Calls Try.prog 10 #[vout g o cap P (valEnd T P f), vout g o cap P (valEnd T P f)] w fun e w' => e = .returned (.bool true) ∧ Kept [] w w' := by
  cases hv : valEnd T P f with
  | mk E z =>
    cases z with
    | true => exact same_nil w
    | false =>
      obtain ⟨h0, h1, h2, _⟩ := valEnd_le hv
      have hlen : ((T.drop P).take (E - P)).length = E - P := by simp; omega
      have := same_any g (o + P) (cap - P) (cap - P) ((T.drop P).take (E - P)) w (hT.sub P (E - P)) (by rw [hlen]; omega)
      rw [hlen] at this
      exact this

/-- The first law's last part: 'out' and the others are what ZZValue and the model have answered. -/
theorem law3_nil (a1 : Int) (f : Bool) (w : World) (h1 : a1 ≤ 9223372036854775807) :
    Calls Try.prog 3 #[.slice none 0 0, .int .i64 a1, .bool f] w fun e w' => e = .returned (.bool true) ∧ Kept [] w w' := by
  by_cases hneg : a1 < 0
  · go_enter Try.func3, Try.ntmps3
    go_wp2_with (go_at_call 6; refine (bytes3_ok none 0 0 a1 f _ (by omega)).mono ?_; rintro e w' ⟨rfl, rfl⟩)
    go_ret
    exact ⟨rfl, Kept.refl _ _⟩
  · obtain ⟨p, rfl⟩ : ∃ p : Nat, a1 = p := ⟨a1.toNat, by omega⟩
    have b0 : (0 : Int) ≤ (p : Int) := by omega
    go_enter Try.func3, Try.ntmps3
    go_wp2_with (first | (go_at_call 6; refine (bytes3_ok none 0 0 p f _ (by omega)).mono ?_; rintro e w' ⟨rfl, rfl⟩) | (go_at_call 7; refine (clone_nil _).mono ?_; rintro e w' ⟨rfl, hq⟩; obtain rfl := hq.symm) | (go_at_call 8; refine (zz_end none 0 0 p f _ (by omega)).mono ?_; rintro e w1 ⟨rfl, hK⟩; have HK1 : Hid (Kept [] w w1) := hK; clear hK) | (go_at_call 9; refine (mvalue_end none 0 0 p f _ (by omega)).mono ?_; rintro e w' ⟨rfl, hq⟩; obtain rfl := hq.symm) | (go_at_call 10; refine (same_nil _).mono ?_; rintro e w2 ⟨rfl, hK⟩; have HK2 : Hid (Kept [] w w2) := HK1.out.trans hK; clear hK))
    go_ret
    exact ⟨rfl, HK2.out⟩

set_option maxHeartbeats 1000000 in
theorem law3_row (x : Addr) (cap : Nat) (T : List Int) (a1 : Int) (f : Bool) (w : World) (hx : ∀ i, i < T.length → w.cell? (x.add i) = some (.int .u8 (T.getD i 0))) (hB : Byt T) (hcap : T.length ≤ cap) (h1 : a1 ≤ 9223372036854775807) :
    Calls Try.prog 3 #[.slice (some x) T.length cap, .int .i64 a1, .bool f] w fun e w' => e = .returned (.bool true) ∧ Kept [] w w' := by
  have HX : Hid (∀ i, i < T.length → w.cell? (x.add i) = some (.int .u8 (T.getD i 0))) := hx
  have HB : Hid (Byt T) := hB
  clear hx hB
  by_cases hl : T.length ≤ 1048576
  · have bl : (T.length : Int) ≤ 1048576 := by omega
    by_cases hneg : a1 < 0
    · go_enter Try.func3, Try.ntmps3
      go_wp2_with (go_at_call 6; refine (bytes3_ok _ T.length _ a1 f _ hl).mono ?_; rintro e w' ⟨rfl, rfl⟩)
      go_ret
      exact ⟨rfl, Kept.refl _ _⟩
    · obtain ⟨p, rfl⟩ : ∃ p : Nat, a1 = p := ⟨a1.toNat, by omega⟩
      have b0 : (0 : Int) ≤ (p : Int) := by omega
      obtain ⟨P, hP⟩ : ∃ P, P = skip T p := ⟨_, rfl⟩
      have HP : Hid (skip T p = P) := hP.symm
      clear hP
      obtain ⟨r, hr⟩ : ∃ r, r = valEnd T P f := ⟨_, rfl⟩
      have HR : Hid (valEnd T P f = r) := hr.symm
      clear hr
      obtain ⟨E, z⟩ := r
      obtain ⟨V, hV⟩ : ∃ V, V = vout w.heap.size 0 T.length P (E, z) := ⟨_, rfl⟩
      have HV : Hid (vout w.heap.size 0 T.length P (E, z) = V) := hV.symm
      clear hV
      go_enter Try.func3, Try.ntmps3
      go_wp2_with (first | (go_at_call 6; refine (bytes3_ok _ T.length _ p f _ hl).mono ?_; rintro e w' ⟨rfl, rfl⟩) | (go_at_call 7; refine (clone_any x cap T _ HX.out hl hcap).mono ?_; rintro e w1 ⟨rfl, hq⟩; obtain ⟨hR1, hS1, hK1⟩ := cln_row hq; have HR1 : Hid (Rw w1 w.heap.size 0 T) := hR1; have HK1 : Hid (Kept [] w w1) := hK1; clear hR1 hK1 hq) | (go_at_call 8; refine (zz_any w.heap.size 0 T.length T p f _ HR1.out HB.out hS1 hl (Nat.le_refl _)).mono ?_; rintro e w2 ⟨rfl, hK⟩; rw [HP.out, HR.out, HV.out]; have HR2 : Hid (Rw w2 w.heap.size 0 T) := HR1.out.kept hK (by simp); have HK2 : Hid (Kept [] w w2) := HK1.out.trans hK; clear hK) | (go_at_call 9; refine (mvalue_any w.heap.size 0 T.length T p f _ HR2.out hl (Nat.le_refl _)).mono ?_; rintro e w' ⟨rfl, rfl⟩; rw [HP.out, HR.out, HV.out]) | (go_at_call 10; rw [← HV.out, ← HR.out]; refine (same_vout w.heap.size 0 T.length T P f _ HR2.out hl).mono ?_; rintro e w3 ⟨rfl, hK⟩; have HK3 : Hid (Kept [] w w3) := HK2.out.trans hK; clear hK))
      go_ret
      exact ⟨rfl, HK3.out⟩
  · go_enter Try.func3, Try.ntmps3
    go_wp2_with (go_at_call 6; refine (bytes3_no _ T.length _ a1 f _ (by omega)).mono ?_; rintro e w' ⟨rfl, rfl⟩)
    go_ret
    exact ⟨rfl, Kept.refl _ _⟩
end Go.Proofs.Qxb6606374a
