import Derived.Test.Qxb6605488aRows
import Derived.Test.Qxb6605488aWr
import Derived.Test.Qxb6605488aWq
import Derived.HandedShaped
import Derived.WalkKit
import Derived.ProofKit
import Derived.OpenShut
import Derived.ShutString
import Derived.ChangeOld
import Derived.Below
namespace Go.Proofs.Qxb6605488a
open Go.ChangeShapes Go.WideShapes Go.ChangeAt Go.RowKit
open Go.ChangeMaps (open_string shut_string)
set_option linter.unusedVariables false

theorem own : ownKnob Try.prog.godebug = none := by kernel_rfl
theorem laidOut : laidOutB Try.prog = true := by kernel_rfl

set_option maxRecDepth 100000 in
theorem lifted6 (os : Os) (started : os.Started) (H : Type) (enc : TypeId × Value → H) :
    ReturnsInHanded {} Try.checked os 6 .any (Rows.fnEscapeHidingInsertsOneBackslashSpec.pre6 enc Try.prog Try.f6 Rows.fnEscapeHidingInsertsOneBackslashRow.domain false) (Rows.fnEscapeHidingInsertsOneBackslashSpec.post enc Try.prog Try.f6 false true false false) := by
  refine returnsInHanded_of_change_shaped (C := Try.checked) own started (by kernel_rfl) Try.func6
    (ChangeSpec.witness6 (enc := enc) (C := Try.checked) false ⟨#[], #[.slice none 0 0, .slice none 0 0, .slice none 0 0, .bool false], []⟩ 8 (by kernel_rfl) (by kernel_rfl) (by kernel_rfl) (by kernel_rfl)) ?_
  intro W base args ds gs before hval0 hW hcnd _ hsh _
  have hval : ∀ (j : Nat) t v, Try.f6.params[j]? = some t → args[j]? = some v → Value.okWide Try.prog W .any base t v := hval0
  have hW' := hW
  obtain ⟨p, q, hA0, hV, rfl, hfz, hnd⟩ := hW
  have hA : DataW.TrodAll enc Try.prog W 0 (fun _ => true) true Try.f6.params.toList args.toList ds p := hA0
  rw [Try.params6] at hA hval
  obtain ⟨v0, vs0, d0, ds0, p0, q0, hargs, rfl, rfl, h0, r0⟩ := trodAll_cons hA
  obtain ⟨v1, vs1, d1, ds1, p1, q1, rfl, rfl, rfl, h1, r1⟩ := trodAll_cons r0
  obtain ⟨v2, vs2, d2, ds2, p2, q2, rfl, rfl, rfl, h2, r2⟩ := trodAll_cons r1
  obtain ⟨v3, vs3, d3, ds3, p3, q3, rfl, rfl, rfl, h3, r3⟩ := trodAll_cons r2
  obtain ⟨rfl, rfl, rfl⟩ := trodAll_nil r3
  obtain rfl : args = #[v0, v1, v2, v3] := by cases args; simp_all
  obtain ⟨rfl, rfl⟩ := trodVars_none hV
  obtain ⟨a0, len0, cap0, rfl⟩ := okWide_slice Try.underlying25 (hval 0 25 v0 rfl rfl)
  obtain ⟨a1, len1, cap1, rfl⟩ := okWide_slice Try.underlying26 (hval 1 26 v1 rfl rfl)
  obtain ⟨a2, len2, cap2, rfl⟩ := okWide_slice Try.underlying27 (hval 2 27 v2 rfl rfl)
  obtain ⟨a3, rfl, rfl, rfl⟩ := open_bool Try.underlying4 (hval 3 4 v3 rfl rfl) h3
  have k0 := h0
  have k1 := h1
  have k2 := h2
  have lt0 : ∀ x ∈ p0, x.block < W.heap.size := by obtain ⟨m, hm⟩ := k0; exact DataW.trod_lt m _ _ _ hm
  have lt1 : ∀ x ∈ p1, x.block < W.heap.size := by obtain ⟨m, hm⟩ := k1; exact DataW.trod_lt m _ _ _ hm
  have lt2 : ∀ x ∈ p2, x.block < W.heap.size := by obtain ⟨m, hm⟩ := k2; exact DataW.trod_lt m _ _ _ hm
  obtain ⟨ks, hks, hks2⟩ : ∃ ks : List Int, Sl (fun _ => True) W (.slice a0 len0 cap0) (ks.map (Value.int .i64)) ∧ ks.length ≤ maxLen := by
    obtain ⟨fuel, hf⟩ := h0
    exact sl_ints hf
  obtain ⟨ns, hns, hns2⟩ : ∃ ns : List Bool, Sl (fun _ => True) W (.slice a1 len1 cap1) (ns.map Value.bool) ∧ ns.length ≤ maxLen := by
    obtain ⟨fuel, hf⟩ := h1
    exact sl_bools hf
  obtain ⟨L, hL, hL2, hL3⟩ : ∃ L : List (List ByteArray), Lns (fun _ => True) W (.slice a2 len2 cap2) L ∧ L.length ≤ maxLen ∧ ∀ i, i < L.length → (L.getD i []).length ≤ maxLen ∧ ∀ j, j < (L.getD i []).length → ((L.getD i []).getD j ByteArray.empty).size ≤ maxLen := by
    obtain ⟨fuel, hf⟩ := h2
    exact lns_rows hf
  clear hA0 hval0
  simp only [List.append_nil] at hW'
  have hz : Zc W := Try.laysM143.s1_3 W hsh
  have e63 : maxLen = 9223372036854775807 := by unfold maxLen; rfl
  rw [e63] at hks2 hns2 hL2 hL3
  refine (law6 _ _ _ ks ns L a3 W hks hns hL hz hks2 hns2 hL2 hL3).mono fun e W' ⟨he, hK⟩ => ?_
  have bel : Below W.heap.size W W' := hK.below (Nat.le_refl _) (by simp)
  subst he
  exact ⟨_, rfl, _, _, _, [], _, [], hW', trodAll_mk1 (shut_bool Try.underlying4 _), (trodAll_cons_mk (Below.trod laidOut (by kernel_rfl) (of_decide_eq_true (by kernel_rfl)) k0 bel lt0) (trodAll_cons_mk (Below.trod laidOut (by kernel_rfl) (of_decide_eq_true (by kernel_rfl)) k1 bel lt1) (trodAll_cons_mk (Below.trod laidOut (by kernel_rfl) (of_decide_eq_true (by kernel_rfl)) k2 bel lt2) (trodAll_cons_mk (shut_bool Try.underlying4 _) trodAll_mk0)))), rfl, bel.frame _, fun h => by cases h⟩

theorem over6 : Rows.fnEscapeHidingInsertsOneBackslashRow.holds Try.pinned (OpenSpec.ofChange Rows.fnEscapeHidingInsertsOneBackslashSpec) :=
  OpenClaim.holds_of_wide 6 Try.f6 rfl rfl rfl rfl rfl rfl rfl ⟨rfl, rfl, rfl, rfl, rfl⟩ rfl rfl rfl rfl rfl (by kernel_rfl) Try.func6 (by kernel_rfl)
    (of_decide_eq_true (by kernel_rfl)) (by unfold Func.isWrapper; first | (rw [if_pos (by decide +kernel)]; kernel_rfl) | (rw [if_neg (by decide +kernel)]; exact ⟨rfl, rfl⟩))
    (fun os started H enc _ => lifted6 os started H enc)

theorem escape_one_proved : Rows.FnEscapeHidingInsertsOneBackslashSaid := over6
end Go.Proofs.Qxb6605488a
