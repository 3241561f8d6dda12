import Derived.Test.Qxb6606374aWf
import Derived.Test.Qxb6606374aPm
namespace Go.Proofs.Qxb6606374a
open Go.RowKit
set_option linter.unusedVariables false

/-- What 'mGroup' answers. -/
def mgr (T : List Int) (i : Nat) (f : Bool) : Nat × Bool × Bool :=
  match tgt T i f with
  | none => (T.length, false, false)
  | some (n, z) => (n, true, z)

/-- A group that opens within the group. -/
theorem nes_in {T : List Int} {p j : Nat} {f : Bool} (h : up j (scan f 0 .out (T.drop j)) = tgt T p f) (hj : j < T.length) (hc : isOpen (T.getD j 0) = true) :
    (tgt T j f = none → tgt T p f = none) ∧ (∀ n, tgt T j f = some (n, true) → tgt T p f = some (n, true)) ∧ (∀ n, tgt T j f = some (n, false) → up n (scan f 0 .out (T.drop n)) = tgt T p f) := by
  have e := nes_open h hj hc
  have e2 := scan_nest f (T.drop (j + 1)) .out 0 0
  simp only [Nat.zero_add, Nat.add_zero] at e2
  rw [Nat.zero_add, e2] at e
  unfold tgt at e ⊢
  rw [← e]
  cases hx : scan f 0 .out (T.drop (j + 1)) with
  | none => simp [up, thn]
  | some q =>
    obtain ⟨m, z⟩ := q
    cases z with
    | true =>
      refine ⟨fun h => by simp [up] at h, fun n h => ?_, fun n h => by simp [up] at h⟩
      exact h
    | false =>
      refine ⟨fun h => by simp [up] at h, fun n h => by simp [up] at h, fun n h => ?_⟩
      simp only [up_some, Option.some.injEq, Prod.mk.injEq, and_true] at h
      subst h
      simp only [thn, up_up, List.drop_drop]
      rw [show j + 1 + m = m + (j + 1) by omega]

theorem mgr_none {T : List Int} {p : Nat} {f : Bool} (h : tgt T p f = none) : mgr T p f = (T.length, false, false) := by unfold mgr; rw [h]
theorem mgr_some {T : List Int} {p n : Nat} {f z : Bool} (h : tgt T p f = some (n, z)) : mgr T p f = (n, true, z) := by unfold mgr; rw [h]

set_option maxRecDepth 100000 in
set_option maxHeartbeats 4000000 in
theorem mgroup_all (g o cap : Nat) (T : List Int) (f : Bool) (w : World) (hT : Rw w g o T) (hl : T.length ≤ 1048576) : ∀ (m p : Nat), T.length - p ≤ m → p < T.length →
    Calls Try.prog 27 #[.slice (some ⟨g, o, none⟩) T.length cap, .int .i64 p, .bool f] w fun e w' => e = .returned (.tuple #[.int .i64 (mgr T p f).1, .bool (mgr T p f).2.1, .bool (mgr T p f).2.2]) ∧ w = w' := by
  intro m
  induction m with
  | zero => intro p h1 h2; omega
  | succ m ih =>
    intro p hm hp
    have IH : Hid (∀ (p : Nat), T.length - p ≤ m → p < T.length → Calls Try.prog 27 #[.slice (some ⟨g, o, none⟩) T.length cap, .int .i64 p, .bool f] w fun e w' => e = .returned (.tuple #[.int .i64 (mgr T p f).1, .bool (mgr T p f).2.1, .bool (mgr T p f).2.2]) ∧ w = w') := ih
    clear ih
    have HT : Hid (Rw w g o T) := hT
    clear hT
    have bl : (T.length : Int) ≤ 1048576 := by omega
    obtain ⟨r, hr⟩ : ∃ r, r = mgr T p f := ⟨_, rfl⟩
    have HR : Hid (r = mgr T p f) := hr
    rw [← hr]
    clear hr
    have hw1 := wr64 ((p : Int) + 1) (by omega) (by omega)
    go_enter Try.func27, Try.ntmps27
    go_wp2_with fail
    go_loopw [9] (fun v wr => ∃ j : Nat, v = .int .i64 j ∧ p < j ∧ j ≤ T.length ∧ up j (scan f 0 .out (T.drop j)) = tgt T p f ∧ wr = w) (fun v _ => T.length - (intOf v).toNat)
    case atStart => exact ⟨p + 1, by go_num, by omega, by omega, rfl, rfl⟩
    case round =>
      clear hw1
      obtain ⟨j, rfl, h0, h1, h2, rfl⟩ := hrel
      have H2 : Hid (up j (scan f 0 .out (T.drop j)) = tgt T p f) := h2
      clear h2
      by_cases hlt : j < T.length
      · have hc := HT.out j (by omega)
        obtain ⟨x, hx⟩ : ∃ x, x = T.getD j 0 := ⟨_, rfl⟩
        have HX : Hid (x = T.getD j 0) := hx
        rw [← hx] at hc
        clear hx
        have b1 : (j : Int) < (T.length : Int) := by omega
        have b2 : (0 : Int) ≤ (j : Int) := by omega
        have hw := wr64 ((j : Int) + 1) (by omega) (by omega)
        by_cases h34 : x = 34
        · subst h34
          cases hlx : lex false (T.drop (j + 1)) with
          | none =>
            have HE : Hid (r = (T.length, false, false)) := by rw [HR.out]; exact mgr_none (nes_q0 H2.out hlt HX.out.symm hlx)
            have HM : Hid (mstr T j = (T.length, false)) := by unfold mstr; show _ = _; rw [hlx]
            clear hlx H2
            go_wp2_with (go_at_call 18; refine (mstring_any g o cap T j _ HT.out hl hlt).mono ?_; rintro e w' ⟨rfl, rfl⟩; rw [HM.out])
            go_ret3
            exact ⟨by rw [HE.out]; rfl, rfl⟩
          | some n =>
            have hle := (lex_le _ _ _ hlx).2
            rw [List.length_drop] at hle
            have HM : Hid (mstr T j = (j + 1 + n, true)) := by unfold mstr; show _ = _; rw [hlx]
            cases f with
            | true =>
              have HE : Hid (r = (j + 1 + n, true, true)) := by rw [HR.out]; exact mgr_some (nes_q1 H2.out hlt HX.out.symm hlx)
              clear hlx H2
              obtain ⟨E, hE⟩ : ∃ E, E = j + 1 + n := ⟨_, rfl⟩
              rw [← hE] at HM HE
              clear hE
              go_wp2_with (go_at_call 18; refine (mstring_any g o cap T j _ HT.out hl hlt).mono ?_; rintro e w' ⟨rfl, rfl⟩; rw [HM.out])
              go_ret3
              exact ⟨by rw [HE.out]; rfl, rfl⟩
            | false =>
              have NXT : Hid (up (j + 1 + n) (scan false 0 .out (T.drop (j + 1 + n))) = tgt T p false) := nes_q2 H2.out hlt HX.out.symm hlx
              clear hlx H2
              obtain ⟨E, hE⟩ : ∃ E, E = j + 1 + n := ⟨_, rfl⟩
              rw [← hE] at HM NXT
              have e1 : j < E := by omega
              have e2 : E ≤ T.length := by omega
              clear hE hle
              go_wp2_with (go_at_call 18; refine (mstring_any g o cap T j _ HT.out hl hlt).mono ?_; rintro e w' ⟨rfl, rfl⟩; rw [HM.out])
              exact ⟨⟨E, by go_num, by omega, by omega, NXT.out, by trivial⟩, by simp [intOf]; omega⟩
        · have h34' : (x == 34) = false := by simpa using h34
          by_cases ho : isOpen x = true
          · have HO : Hid (isOpen x = true) := ho
            obtain ⟨n1, n2, n3⟩ := nes_in H2.out hlt (by rw [← HX.out]; exact ho)
            clear ho H2 h34
            cases htg : tgt T j f with
            | none =>
              have HE : Hid (r = (T.length, false, false)) := by rw [HR.out]; exact mgr_none (n1 htg)
              have HM : Hid (mgr T j f = (T.length, false, false)) := mgr_none htg
              clear htg n1 n2 n3
              go_wp2_with (first | (go_at_call 19; refine (open_any x _).mono ?_; rintro e w' ⟨rfl, rfl⟩; rw [HO.out]) | (go_at_call 27; refine (IH.out j (by omega) hlt).mono ?_; rintro e w' ⟨rfl, rfl⟩; rw [HM.out]))
              go_ret3
              exact ⟨by rw [HE.out]; rfl, rfl⟩
            | some q =>
              obtain ⟨E, z⟩ := q
              have hle := tgt_le htg hlt
              have HM : Hid (mgr T j f = (E, true, z)) := mgr_some htg
              cases z with
              | true =>
                have HE : Hid (r = (E, true, true)) := by rw [HR.out]; exact mgr_some (n2 _ htg)
                clear htg n1 n2 n3
                go_wp2_with (first | (go_at_call 19; refine (open_any x _).mono ?_; rintro e w' ⟨rfl, rfl⟩; rw [HO.out]) | (go_at_call 27; refine (IH.out j (by omega) hlt).mono ?_; rintro e w' ⟨rfl, rfl⟩; rw [HM.out]))
                go_ret3
                exact ⟨by rw [HE.out]; rfl, rfl⟩
              | false =>
                have NXT : Hid (up E (scan f 0 .out (T.drop E)) = tgt T p f) := n3 _ htg
                clear htg n1 n2 n3
                go_wp2_with (first | (go_at_call 19; refine (open_any x _).mono ?_; rintro e w' ⟨rfl, rfl⟩; rw [HO.out]) | (go_at_call 27; refine (IH.out j (by omega) hlt).mono ?_; rintro e w' ⟨rfl, rfl⟩; rw [HM.out]))
                exact ⟨⟨E, by go_num, by omega, by omega, NXT.out, by trivial⟩, by simp [intOf]; omega⟩
          · have HO : Hid (isOpen x = false) := by show _ = _; simpa using ho
            clear ho
            by_cases hcl : isClose x = true
            · have HCL : Hid (isClose x = true) := hcl
              have HE : Hid (r = (j + 1, true, false)) := by rw [HR.out]; exact mgr_some (nes_close0 H2.out hlt (by rw [← HX.out]; exact hcl))
              clear hcl H2 h34
              go_wp2_with (first | (go_at_call 19; refine (open_any x _).mono ?_; rintro e w' ⟨rfl, rfl⟩; rw [HO.out]) | (go_at_call 29; refine (close_any x _).mono ?_; rintro e w' ⟨rfl, rfl⟩; rw [HCL.out]))
              go_ret3
              exact ⟨by rw [HE.out]; rfl, rfl⟩
            · have HCL : Hid (isClose x = false) := by show _ = _; simpa using hcl
              have NXT : Hid (up (j + 1) (scan f 0 .out (T.drop (j + 1))) = tgt T p f) := nes_plain H2.out hlt (by rw [← HX.out]; exact h34) (by rw [← HX.out]; exact HO.out) (by rw [← HX.out]; exact HCL.out)
              clear hcl H2 h34
              go_wp2_with (first | (go_at_call 19; refine (open_any x _).mono ?_; rintro e w' ⟨rfl, rfl⟩; rw [HO.out]) | (go_at_call 29; refine (close_any x _).mono ?_; rintro e w' ⟨rfl, rfl⟩; rw [HCL.out]))
              exact ⟨⟨j + 1, by go_num, by omega, by omega, NXT.out, by trivial⟩, by simp [intOf]; omega⟩
      · have b3 : (T.length : Int) ≤ (j : Int) := by omega
        have HE : Hid (r = (T.length, false, false)) := by rw [HR.out]; exact mgr_none (nes_end H2.out (by omega))
        clear H2
        go_wp2_with fail
        go_ret3
        exact ⟨by rw [HE.out]; rfl, rfl⟩

theorem mgroup_any (g o cap : Nat) (T : List Int) (p : Nat) (f : Bool) (w : World) (hT : Rw w g o T) (hl : T.length ≤ 1048576) (hp : p < T.length) :
    Calls Try.prog 27 #[.slice (some ⟨g, o, none⟩) T.length cap, .int .i64 p, .bool f] w fun e w' => e = .returned (.tuple #[.int .i64 (mgr T p f).1, .bool (mgr T p f).2.1, .bool (mgr T p f).2.2]) ∧ w = w' :=
  mgroup_all g o cap T f w hT hl _ p (Nat.le_refl _) hp

/-- What 'mNested' answers. -/
def mnes (T : List Int) (p : Nat) (f : Bool) : Nat × Bool :=
  match tgt T p f with
  | none => (T.length, true)
  | some (n, _) => (n, f)

set_option maxHeartbeats 1000000 in
theorem mnested_any (g o cap : Nat) (T : List Int) (p : Nat) (f : Bool) (w : World) (hT : Rw w g o T) (hl : T.length ≤ 1048576) (hp : p < T.length) :
    Calls Try.prog 20 #[.slice (some ⟨g, o, none⟩) T.length cap, .int .i64 p, .bool f] w fun e w' => e = .returned (.tuple #[.int .i64 (mnes T p f).1, .bool (mnes T p f).2]) ∧ w = w' := by
  have HT : Hid (Rw w g o T) := hT
  clear hT
  have b1 : (p : Int) < (T.length : Int) := by omega
  cases htg : tgt T p f with
  | none =>
    have HM : Hid (mgr T p f = (T.length, false, false)) := mgr_none htg
    have e : mnes T p f = (T.length, true) := by unfold mnes; rw [htg]
    rw [e]
    clear htg e
    go_enter Try.func20, Try.ntmps20
    go_wp2_with (go_at_call 27; refine (mgroup_any g o cap T p f _ HT.out hl hp).mono ?_; rintro e w' ⟨rfl, rfl⟩; rw [HM.out])
    go_ret2
    exact ⟨rfl, rfl⟩
  | some q =>
    obtain ⟨E, z⟩ := q
    have HM : Hid (mgr T p f = (E, true, z)) := mgr_some htg
    have e : mnes T p f = (E, f) := by unfold mnes; rw [htg]
    rw [e]
    clear htg e
    go_enter Try.func20, Try.ntmps20
    go_wp2_with (go_at_call 27; refine (mgroup_any g o cap T p f _ HT.out hl hp).mono ?_; rintro e w' ⟨rfl, rfl⟩; rw [HM.out])
    go_ret2
    exact ⟨rfl, rfl⟩
end Go.Proofs.Qxb6606374a
