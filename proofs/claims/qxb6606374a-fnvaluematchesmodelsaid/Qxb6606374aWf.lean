import Derived.Test.Qxb6606374aWa
import Derived.OwnWalk
namespace Go.Proofs.Qxb6606374a
open Go.RowKit
set_option linter.unusedVariables false

theorem Try.info5 : (Try.prog.info? 5).map (fun i => (i.zero, i.size, i.bytes)) = some (some (.int .u8 0), 1, 1) := by kernel_rfl

theorem mk_row (n : Nat) (hn : n ≤ 2000000) (w : World) : (Instr.makeSlice 22 (.int .i64 (n : Int)) (.int .i64 (n : Int))).run Try.prog w = .ok (.slice (some ⟨w.heap.size, 0, none⟩) n n) (w.alloc (.cells (madeCells #[.int .u8 0] n) 5)) := by
  obtain ⟨i, hi, hzz⟩ := Option.map_eq_some_iff.1 Try.info5
  simp only [Prod.mk.injEq] at hzz
  obtain ⟨hz, hs, hb⟩ := hzz
  have hr := run_make (P := Try.prog) w 22 5 i (.int .u8 0) Try.underlying22 hi hz .i64 .i64 (n : Int) (n : Int) (by omega) (by omega) (by rw [hb]; omega) (by omega)
  rw [hs] at hr
  have e : (n : Int).toNat = n := by omega
  rw [e, Nat.mul_one] at hr
  exact hr

/-- A new row of which the first 'i' cells bear T's bytes. -/
def Cln (w : World) (T : List Int) (i : Nat) (wr : World) : Prop :=
  i ≤ T.length ∧ Kept [] w wr ∧ ∃ cs : Array Value, wr.heap[w.heap.size]? = some (.cells cs 5 (0, 0)) ∧ cs.size = T.length ∧ ∀ k, k < i → cs[k]? = some (.int .u8 (T.getD k 0))

theorem cln_start (w : World) (T : List Int) : Cln w T 0 (w.alloc (.cells (madeCells #[.int .u8 0] T.length) 5)) :=
  ⟨Nat.zero_le _, (Kept.refl [] w).alloc _, _, heap_alloc_new w _, size_madeCells _ _, fun k hk => by omega⟩

theorem cln_step {w : World} {T : List Int} {i : Nat} {wr : World} (h : Cln w T i wr) (hi : i < T.length) : Cln w T (i + 1) (wr.setCell ⟨w.heap.size, i, none⟩ (.int .u8 (T.getD i 0))) := by
  obtain ⟨h1, h2, cs, h3, h4, h5⟩ := h
  refine ⟨hi, ?_, cs.setIfInBounds i (.int .u8 (T.getD i 0)), ?_, by simpa using h4, ?_⟩
  · have := (Kept.refl [w.heap.size] wr).setCell (p := ⟨w.heap.size, i, none⟩) (by simp) (.int .u8 (T.getD i 0))
    exact h2.trans_new this (by simp)
  · exact Lib.heap_setCell_same (i := i) h3 _
  · intro k hk
    by_cases e : k = i
    · subst e
      simp [h4, hi]
    · rw [Array.getElem?_setIfInBounds, if_neg (by omega)]
      exact h5 k (by omega)

theorem eq_nil (w : World) : (binOp .eql 22 (.slice none 0 0) (.slice none 0 0)).run Try.prog w = .ok (.bool true) w := Lib.run_eql_slice_nil w 22 5 none 0 0 0 0 Try.underlying22
theorem eq_some (a : Addr) (n c : Nat) (w : World) : (binOp .eql 22 (.slice (some a) n c) (.slice none 0 0)).run Try.prog w = .ok (.bool false) w := Lib.run_eql_slice_nil w 22 5 (some a) n c 0 0 Try.underlying22

theorem clone_nil (w : World) : Calls Try.prog 7 #[.slice none 0 0] w fun e w' => e = .returned (.slice none 0 0) ∧ w' = w := by
  have hn := eq_nil
  go_enter Try.func7, Try.ntmps7
  go_wp2
  go_ret
  exact ⟨rfl, rfl⟩

set_option maxHeartbeats 2000000 in
theorem clone_any (x : Addr) (cap : Nat) (T : List Int) (w : World) (hx : ∀ i, i < T.length → w.cell? (x.add i) = some (.int .u8 (T.getD i 0))) (hl : T.length ≤ 1048576) (hcap : T.length ≤ cap) :
    Calls Try.prog 7 #[.slice (some x) T.length cap] w fun e w' => e = .returned (.slice (some ⟨w.heap.size, 0, none⟩) T.length T.length) ∧ Cln w T T.length w' := by
  have HX : Hid (∀ i, i < T.length → w.cell? (x.add i) = some (.int .u8 (T.getD i 0))) := hx
  clear hx
  have hmk := mk_row T.length (by omega)
  have hn := eq_some x T.length cap
  have START : Hid (Cln w T 0 (w.alloc (.cells (madeCells #[.int .u8 0] T.length) 5))) := cln_start w T
  have bl : (T.length : Int) ≤ 1048576 := by omega
  go_enter Try.func7, Try.ntmps7
  go_wp2
  go_loopw [4] (fun v wr => ∃ i : Nat, v = .int .i64 i ∧ Cln w T i wr) (fun v _ => T.length - (intOf v).toNat)
  case atStart => exact ⟨0, rfl, START.out⟩
  case round =>
    clear START hmk
    obtain ⟨i, rfl, hC⟩ := hrel
    have HC : Hid (Cln w T i wr) := hC
    obtain ⟨h1, h2, cs, h3, h4, h5⟩ := hC
    by_cases hlt : i < T.length
    · have hfz := frozen_of h3 i
      have hc1 : wr.cell? ⟨w.heap.size, i, none⟩ = some cs[i] := cell_of h3 (by simp)
      have hcell : wr.cell? (x.add i) = some (.int .u8 (T.getD i 0)) := by
        have h0 := HX.out i hlt
        have hs := World.cell?_spot h0
        have hb : (x.add i).block < w.heap.size := by
          rcases Nat.lt_or_ge (x.add i).block w.heap.size with h | h
          · exact h
          · simp [World.cell?, Array.getElem?_eq_none h] at h0
        have e : x.add i = ⟨(x.add i).block, (x.add i).off, none⟩ := by
          cases hh : x.add i
          simp [hh] at hs
          simp [hs]
        rw [e, h2.cell hb (by simp), ← e]
        exact h0
      have NXT : Hid (Cln w T (i + 1) (wr.setCell ⟨w.heap.size, i, none⟩ (.int .u8 (T.getD i 0)))) := cln_step HC.out hlt
      obtain ⟨c, hc⟩ : ∃ c, c = T.getD i 0 := ⟨_, rfl⟩
      rw [← hc] at hcell NXT
      clear hc h2 h3 h5
      have b1 : (i : Int) < (T.length : Int) := by omega
      have b2 : (0 : Int) ≤ (i : Int) := by omega
      have hw := wr64 ((i : Int) + 1) (by omega) (by omega)
      go_wp2
      exact ⟨⟨i + 1, by go_num, NXT.out⟩, by simp [intOf]; omega⟩
    · have hie : i = T.length := by omega
      subst hie
      clear h2 h3 h5
      go_wp2
      go_ret
      exact ⟨rfl, HC.out⟩

theorem same_nil (w : World) : Calls Try.prog 10 #[.slice none 0 0, .slice none 0 0] w fun e w' => e = .returned (.bool true) ∧ Kept [] w w' := by
  have hn := eq_nil
  go_enter Try.func10, Try.ntmps10
  go_wp2
  go_loopw [5] (fun v wr => v = .int .i64 0 ∧ wr = w) (fun _ _ => 0)
  case atStart => exact ⟨rfl, rfl⟩
  case round =>
    obtain ⟨rfl, rfl⟩ := hrel
    go_wp2
    go_ret
    exact ⟨rfl, Kept.refl _ _⟩

set_option maxHeartbeats 2000000 in
theorem same_any (g o c c' : Nat) (T : List Int) (w : World) (hT : Rw w g o T) (hl : T.length ≤ 1048576) :
    Calls Try.prog 10 #[.slice (some ⟨g, o, none⟩) T.length c, .slice (some ⟨g, o, none⟩) T.length c'] w fun e w' => e = .returned (.bool true) ∧ Kept [] w w' := by
  have HT : Hid (Rw w g o T) := hT
  clear hT
  have hn := eq_some ⟨g, o, none⟩ T.length c
  have hn' := eq_some ⟨g, o, none⟩ T.length c'
  have bl : (T.length : Int) ≤ 1048576 := by omega
  go_enter Try.func10, Try.ntmps10
  go_wp2
  go_loopw [5] (fun v wr => ∃ i : Nat, v = .int .i64 i ∧ i ≤ T.length ∧ Kept [] w wr) (fun v _ => T.length - (intOf v).toNat)
  case atStart => exact ⟨0, rfl, by omega, Kept.refl _ _⟩
  case round =>
    clear hn hn'
    obtain ⟨i, rfl, hi, hK⟩ := hrel
    have HK : Hid (Kept [] w wr) := hK
    clear hK
    by_cases hlt : i < T.length
    · have hc := (HT.out.kept HK.out (by simp)) i hlt
      obtain ⟨x, hx⟩ : ∃ x, x = T.getD i 0 := ⟨_, rfl⟩
      rw [← hx] at hc
      clear hx
      have b1 : (i : Int) < (T.length : Int) := by omega
      have b2 : (0 : Int) ≤ (i : Int) := by omega
      have hw := wr64 ((i : Int) + 1) (by omega) (by omega)
      go_wp2
      go_region_held3 (fun w' => w'.cell? ⟨g, o + i, none⟩ = some (.int .u8 x)) (simp [hc]) (fail)
      go_wp2
      exact ⟨⟨i + 1, by go_num, by omega, HK.out.drew⟩, by simp [intOf]; omega⟩
    · have b1 : (T.length : Int) ≤ (i : Int) := by omega
      go_wp2
      go_ret
      exact ⟨rfl, HK.out⟩

set_option maxHeartbeats 2000000 in
theorem allspace_any (g o cap : Nat) (T : List Int) (p q : Nat) (w : World) (hT : Rw w g o T) (hl : T.length ≤ 1048576) (hpq : p ≤ q) (hq : q ≤ T.length) (hs : ∀ k, p ≤ k → k < q → isSp (T.getD k 0) = true) :
    Calls Try.prog 12 #[.slice (some ⟨g, o, none⟩) T.length cap, .int .i64 p, .int .i64 q] w fun e w' => e = .returned (.bool true) ∧ w' = w := by
  have HT : Hid (Rw w g o T) := hT
  have HS : Hid (∀ k, p ≤ k → k < q → isSp (T.getD k 0) = true) := hs
  clear hT hs
  have bl : (T.length : Int) ≤ 1048576 := by omega
  go_enter Try.func12, Try.ntmps12
  go_wp2
  go_loopw [7] (fun v wr => ∃ i : Nat, v = .int .i64 i ∧ p ≤ i ∧ i ≤ q ∧ wr = w) (fun v _ => q - (intOf v).toNat)
  case atStart => exact ⟨p, rfl, by omega, by omega, rfl⟩
  case round =>
    obtain ⟨i, rfl, h1, h2, rfl⟩ := hrel
    by_cases hlt : i < q
    · have hc := HT.out i (by omega)
      have HC : Hid (isSp (T.getD i 0) = true) := HS.out i h1 hlt
      obtain ⟨x, hx⟩ : ∃ x, x = T.getD i 0 := ⟨_, rfl⟩
      rw [← hx] at hc HC
      clear hx
      have b1 : (i : Int) < (T.length : Int) := by omega
      have b2 : (0 : Int) ≤ (i : Int) := by omega
      have b3 : (i : Int) < (q : Int) := by omega
      have hw := wr64 ((i : Int) + 1) (by omega) (by omega)
      go_wp2_with (go_at_call 21; refine (space_any x _).mono ?_; rintro e w' ⟨rfl, rfl⟩; rw [HC.out])
      exact ⟨⟨i + 1, by go_num, by omega, by omega, by trivial⟩, by simp [intOf]; omega⟩
    · have b3 : (q : Int) ≤ (i : Int) := by omega
      go_wp2
      go_ret
      exact ⟨rfl, rfl⟩

theorem skipsp_end (q : Option Addr) (n cap p : Nat) (w : World) (hp : n ≤ p) :
    Calls Try.prog 17 #[.slice q n cap, .int .i64 p] w fun e w' => e = .returned (.int .i64 p) ∧ w' = w := by
  have b3 : (n : Int) ≤ (p : Int) := by omega
  go_enter Try.func17, Try.ntmps17
  go_wp2
  go_loopw [5] (fun v wr => v = .int .i64 p ∧ wr = w) (fun _ _ => 0)
  case atStart => exact ⟨rfl, rfl⟩
  case round =>
    obtain ⟨rfl, rfl⟩ := hrel
    go_wp2
    go_ret
    exact ⟨rfl, rfl⟩

set_option maxHeartbeats 2000000 in
theorem skipsp_any (g o cap : Nat) (T : List Int) (p : Nat) (w : World) (hT : Rw w g o T) (hl : T.length ≤ 1048576) :
    Calls Try.prog 17 #[.slice (some ⟨g, o, none⟩) T.length cap, .int .i64 p] w fun e w' => e = .returned (.int .i64 (skip T p)) ∧ w' = w := by
  have HT : Hid (Rw w g o T) := hT
  clear hT
  have bl : (T.length : Int) ≤ 1048576 := by omega
  obtain ⟨P, hP⟩ : ∃ P, P = skip T p := ⟨_, rfl⟩
  have HP : Hid (P = skip T p) := hP
  rw [← hP]
  clear hP
  go_enter Try.func17, Try.ntmps17
  go_wp2
  go_loopw [5] (fun v wr => ∃ i : Nat, v = .int .i64 i ∧ P = skip T i ∧ wr = w) (fun v _ => T.length - (intOf v).toNat)
  case atStart => exact ⟨p, rfl, HP.out, rfl⟩
  case round =>
    obtain ⟨i, rfl, h1, rfl⟩ := hrel
    have H1 : Hid (P = skip T i) := h1
    clear h1
    by_cases hlt : i < T.length
    · have hc := HT.out i (by omega)
      have HY : Hid (isSp (T.getD i 0) = true → P = skip T (i + 1)) := fun h => by rw [H1.out]; exact skip_yes T i hlt h
      have HN : Hid (isSp (T.getD i 0) = false → P = i) := fun h => by rw [H1.out]; exact skip_no T i hlt h
      obtain ⟨x, hx⟩ : ∃ x, x = T.getD i 0 := ⟨_, rfl⟩
      rw [← hx] at hc HY HN
      clear hx
      have b1 : (i : Int) < (T.length : Int) := by omega
      have b2 : (0 : Int) ≤ (i : Int) := by omega
      have hw := wr64 ((i : Int) + 1) (by omega) (by omega)
      by_cases hs : isSp x = true
      · have HSX : Hid (isSp x = true) := hs
        clear hs
        go_wp2_with (go_at_call 21; refine (space_any x _).mono ?_; rintro e w' ⟨rfl, rfl⟩; rw [HSX.out])
        exact ⟨⟨i + 1, by go_num, HY.out HSX.out, by trivial⟩, by simp [intOf]; omega⟩
      · have HSX : Hid (isSp x = false) := by show _ = _; simpa using hs
        clear hs
        go_wp2_with (go_at_call 21; refine (space_any x _).mono ?_; rintro e w' ⟨rfl, rfl⟩; rw [HSX.out])
        go_ret
        exact ⟨by rw [HN.out HSX.out]; rfl, rfl⟩
    · have b3 : (T.length : Int) ≤ (i : Int) := by omega
      have HE : Hid (P = i) := by rw [H1.out]; exact skip_end T i (by omega)
      go_wp2
      go_ret
      exact ⟨by rw [HE.out]; rfl, rfl⟩

theorem lex_tak (r : List Int) : lex true r = (lex false (r.drop 1)).map (· + 1) := by
  cases r with
  | nil => simp [lex]
  | cons c r => simp [lex]

/-- What 'mString' answers: 'p' is the place of the opening quote. -/
def mstr (T : List Int) (p : Nat) : Nat × Bool :=
  match lex false (T.drop (p + 1)) with
  | none => (T.length, false)
  | some n => (p + 1 + n, true)

/-- The same, from within. -/
def mstrAt (T : List Int) (j : Nat) : Nat × Bool :=
  match lex false (T.drop j) with
  | none => (T.length, false)
  | some n => (j + n, true)

theorem ms_start (T : List Int) (p : Nat) : mstrAt T (p + 1) = mstr T p := rfl
theorem ms_esc (T : List Int) (j : Nat) (h : j < T.length) (hc : T.getD j 0 = 92) : mstrAt T j = mstrAt T (j + 2) := by
  unfold mstrAt
  rw [drop_at T j h, hc]
  simp only [lex, if_true, lex_tak, List.drop_drop]
  cases lex false (T.drop (j + 2)) with
  | none => rfl
  | some n => simp [Option.map]; omega
theorem ms_end (T : List Int) (j : Nat) (h : j < T.length) (hc : T.getD j 0 = 34) : mstrAt T j = (j + 1, true) := by
  unfold mstrAt
  rw [drop_at T j h, hc]
  simp [lex]
theorem ms_on (T : List Int) (j : Nat) (h : j < T.length) (h1 : T.getD j 0 ≠ 92) (h2 : T.getD j 0 ≠ 34) : mstrAt T j = mstrAt T (j + 1) := by
  unfold mstrAt
  rw [drop_at T j h]
  simp only [lex, h1, h2, if_false]
  cases lex false (T.drop (j + 1)) with
  | none => rfl
  | some n => simp [Option.map]; omega
theorem ms_out (T : List Int) (j : Nat) (h : T.length ≤ j) : mstrAt T j = (T.length, false) := by
  unfold mstrAt
  rw [List.drop_of_length_le h]
  simp [lex]

set_option maxHeartbeats 2000000 in
theorem mstring_any (g o cap : Nat) (T : List Int) (p : Nat) (w : World) (hT : Rw w g o T) (hl : T.length ≤ 1048576) (hp : p < T.length) :
    Calls Try.prog 18 #[.slice (some ⟨g, o, none⟩) T.length cap, .int .i64 p] w fun e w' => e = .returned (.tuple #[.int .i64 (mstr T p).1, .bool (mstr T p).2]) ∧ w' = w := by
  have HT : Hid (Rw w g o T) := hT
  clear hT
  have bl : (T.length : Int) ≤ 1048576 := by omega
  obtain ⟨r, hr⟩ : ∃ r, r = mstr T p := ⟨_, rfl⟩
  have HR : Hid (r = mstr T p) := hr
  rw [← hr]
  clear hr
  have hw1 := wr64 ((p : Int) + 1) (by omega) (by omega)
  go_enter Try.func18, Try.ntmps18
  go_wp2
  go_loopw [6] (fun v wr => ∃ i : Nat, v = .int .i64 i ∧ i ≤ T.length + 1 ∧ r = mstrAt T i ∧ wr = w) (fun v _ => T.length + 2 - (intOf v).toNat)
  case atStart => exact ⟨p + 1, by go_num, by omega, HR.out, rfl⟩
  case round =>
    clear hw1
    obtain ⟨i, rfl, h0, h1, rfl⟩ := hrel
    have H1 : Hid (r = mstrAt T i) := h1
    clear h1
    by_cases hlt : i < T.length
    · have hc := HT.out i (by omega)
      have HA : Hid (T.getD i 0 = 92 → r = mstrAt T (i + 2)) := fun h => by rw [H1.out]; exact ms_esc T i hlt h
      have HB : Hid (T.getD i 0 = 34 → r = (i + 1, true)) := fun h => by rw [H1.out]; exact ms_end T i hlt h
      have HC : Hid (T.getD i 0 ≠ 92 → T.getD i 0 ≠ 34 → r = mstrAt T (i + 1)) := fun h h' => by rw [H1.out]; exact ms_on T i hlt h h'
      obtain ⟨x, hx⟩ : ∃ x, x = T.getD i 0 := ⟨_, rfl⟩
      rw [← hx] at hc HA HB HC
      clear hx
      have b1 : (i : Int) < (T.length : Int) := by omega
      have b2 : (0 : Int) ≤ (i : Int) := by omega
      have hw := wr64 ((i : Int) + 1) (by omega) (by omega)
      have hw2 := wr64 ((i : Int) + 2) (by omega) (by omega)
      by_cases h92 : x = 92
      · have HZ : Hid (r = mstrAt T (i + 2)) := HA.out h92
        clear HA HB HC
        subst h92
        go_wp2
        exact ⟨⟨i + 2, by go_num, by omega, HZ.out, by trivial⟩, by simp [intOf]; omega⟩
      · by_cases h34 : x = 34
        · have HZ : Hid (r = (i + 1, true)) := HB.out h34
          clear HA HB HC
          subst h34
          go_wp2
          go_ret2
          exact ⟨by rw [HZ.out]; rfl, rfl⟩
        · go_wp2
          exact ⟨⟨i + 1, by go_num, by omega, HC.out h92 h34, by trivial⟩, by simp [intOf]; omega⟩
    · have b3 : (T.length : Int) ≤ (i : Int) := by omega
      have HE : Hid (r = (T.length, false)) := by rw [H1.out]; exact ms_out T i (by omega)
      go_wp2
      go_ret2
      exact ⟨by rw [HE.out]; rfl, rfl⟩
end Go.Proofs.Qxb6606374a
