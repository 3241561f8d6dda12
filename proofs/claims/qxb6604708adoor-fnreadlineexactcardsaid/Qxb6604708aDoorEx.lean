import Derived.Test.Qxb6604708aDoorCards
import Derived.Test.Qxb6604708aDoorLift
import Derived.Test.Qxb6604708aDoorWm
import Derived.SevenTiedAt
namespace Go.Proofs.Qxb6604708aDoor
open Go.ChangeShapes Go.WideShapes Go.ChangeAt Go.RowKit
open Go.ChangeMaps (open_string shut_string)
set_option linter.unusedVariables false

theorem ex_walk (s : ByteArray) (limit : Int) (hs : s.size ≤ maxLen) (wl : (Lit.int .i64 limit).wf = true) (fa ea : Addr) (w : World) (h2 : 2 ≤ w.heap.size) (st : Sent w.heap.size fa ea w) :
    Calls Tryd.prog 4 #[.string s, .int .i64 limit] w fun e w' => e = .returned (.bool true) ∧ Below w.heap.size w w' := by
  have same : ∀ {e : Ending} {w' : World}, e = .returned (.bool true) ∧ w' = w → e = .returned (.bool true) ∧ Below w.heap.size w w' := fun h => ⟨h.1, h.2 ▸ Below.refl _ _⟩
  have hb := bounds_i64 wl
  by_cases h1 : s.size ≤ 1048576
  · by_cases h3 : limit = 9223372036854775807
    · subst h3
      exact (ex_max s w h1).mono fun e w' h => same h
    · have hl : (limit == 9223372036854775807) = false := by simpa using h3
      exact ex_main s limit fa ea w h2 st h1 hl (by omega) (by omega)
  · exact (ex_big s limit w (by omega) hs).mono fun e w' h => same h

set_option maxRecDepth 100000 in
theorem ex_lifted (os : Os) (started : os.Started) (H : Type) (enc : TypeId × Value → H) :
    ReturnsInHanded {} Tryd.checked os 4 .any (fun w args => (Rows.fnReadLineExactSpec.pre enc Tryd.prog Tryd.f4 [] false w args ∧ laidMetH Tryd.prog laid4 w) ∧ sizedMet enc Tryd.prog Tryd.f4 (OpenSpec.ofChange Rows.fnReadLineExactSpec) false w args)
      (Rows.fnReadLineExactSpec.post enc Tryd.prog Tryd.f4 false true false false) := by
  refine returnsInHanded_of_change_and (C := Tryd.checked) (X := fun w _ => laidMetH Tryd.prog laid4 w) (fun _ _ _ hh h => h.of_heap hh) own started (by kernel_rfl) Tryd.func4
    (ChangeSpec.witness_shaped (enc := enc) (C := Tryd.checked) (os := os) (X := fun w _ => laidMetH Tryd.prog laid4 w) false (World.doorLaid Tryd.prog 95 os) #[.string ByteArray.empty, .int .i64 0] 8 rfl (World.shaped_of_RefB (by kernel_rfl) (by kernel_rfl)) (by kernel_rfl) (by kernel_rfl) (by kernel_rfl) (door_met os _)) ?_
  intro W base args ds gs before hval0 hW _ _ hL _
  have hval : ∀ (j : Nat) t v, Tryd.f4.params[j]? = some t → args[j]? = some v → Value.okWide Tryd.prog W .any base t v := hval0
  have hW' := hW
  obtain ⟨p, q, hA0, hV, rfl, hfz, hnd⟩ := hW
  have hA : DataW.TrodAll enc Tryd.prog W 0 (fun _ => true) true Tryd.f4.params.toList args.toList ds p := hA0
  rw [Tryd.params4] at hA hval
  obtain ⟨v0, v1, d0, d1, p0, p1, rfl, rfl, rfl, h0, h1⟩ := trodAll_two hA
  obtain ⟨rfl, rfl⟩ := trodVars_none hV
  obtain ⟨a0, rfl, rfl, rfl, w0⟩ := open_string Tryd.underlying9 (hval 0 9 v0 rfl rfl) h0
  obtain ⟨a1, rfl, rfl, rfl, w1⟩ := open_int Tryd.underlying3 (hval 1 3 v1 rfl rfl) h1
  obtain ⟨hsz, fa, ea, st⟩ := sent_of_laid hL
  clear hA0 hval0
  simp only [List.append_nil] at hW'
  refine (ex_walk a0 a1 w0 w1 fa ea W hsz st).mono fun e W' ⟨he, hg⟩ => ?_
  subst he
  exact ⟨_, rfl, _, _, _, [], [], [], hW', trodAll_mk1 (shut_bool Tryd.underlying4 _), trodAll_mk2 (shut_string Tryd.underlying9 w0) (shut_int Tryd.underlying3 w1), rfl, hg.frame _, fun h => by cases h⟩

theorem ex_over : Rows.FnReadLineExactSaid :=
  OpenClaim.holds_of_wide 4 Tryd.f4 rfl rfl rfl rfl rfl rfl rfl ⟨rfl, rfl, rfl, rfl, rfl⟩ rfl rfl rfl rfl rfl (by kernel_rfl) Tryd.func4 (by kernel_rfl)
    (of_decide_eq_true (by kernel_rfl)) (by unfold Func.isWrapper; first | (rw [if_pos (by decide +kernel)]; kernel_rfl) | (rw [if_neg (by decide +kernel)]; exact ⟨rfl, rfl⟩))
    (fun os started H enc _ => ex_lifted os started H enc)

theorem ex_card : Rows.FnReadLineExactCardSaid :=
  Claim7.holds_tied_plain_at .later [] [.sentinel, .sentinel, .sentinel, .sentinel] true (true, "1926c899112e70ae2020ee924cb85764bd15e7395942214723ace67391746839") true
    ex_over (fun _ h => by cases h) (by kernel_rfl) (fun _ h => by cases h) fnReadLineExact_row_tie rfl ⟨rfl, rfl⟩ (by kernel_rfl) rfl
    (fun f fn hf hfn => by
      obtain rfl : f = 4 := Option.some.inj ((show Tryd.prog.funcNamed Rows.fnReadLineExactRow.func = some 4 by kernel_rfl).symm.trans hf) |>.symm
      obtain rfl : fn = Tryd.f4 := (Option.some.inj (Tryd.func4.symm.trans hfn)).symm
      exact ⟨by kernel_rfl, fun j t ht => by
        rw [Tryd.params4] at ht
        have h3 : t = 9 ∨ t = 3 := by
          rcases j with _ | _ | j
          · left; simpa using ht.symm
          · right; simpa using ht.symm
          · simp at ht
        rcases h3 with rfl | rfl
        · exact (show Tryd.prog.wantsStandIn 9 = false by kernel_rfl)
        · exact (show Tryd.prog.wantsStandIn 3 = false by kernel_rfl)⟩)
    (by kernel_rfl)

end Go.Proofs.Qxb6604708aDoor
