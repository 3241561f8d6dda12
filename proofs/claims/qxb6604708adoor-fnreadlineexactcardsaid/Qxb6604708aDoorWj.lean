import Derived.Test.Qxb6604708aDoorWi
namespace Go.Proofs.Qxb6604708aDoor
open Go.RowKit
set_option linter.unusedVariables false

/-- the number of lines in closed form -/
def cl (X : List UInt8) : Nat := X.count 10 + (if X.getLast? = none ∨ X.getLast? = some 10 then 0 else 1)
theorem cl_nil : cl [] = 0 := rfl
theorem cl_next (X : List UInt8) (hX : X ≠ []) : cl X = 1 + cl (rst X) := by
  obtain ⟨D, h1, h2, h3⟩ := next_law X hX
  rcases h3 with h3 | ⟨h3, h4, h5, h6⟩
  · have hc : X.count 10 = 1 + (rst X).count 10 := by
      conv => lhs; rw [h1, h3]
      rw [List.count_append, List.count_append, List.count_eq_zero.2 (ln_no X)]
      simp
    unfold cl
    rw [hc]
    cases hr : rst X with
    | nil =>
      rw [hr, List.append_nil] at h1
      have : X.getLast? = some 10 := by rw [h1, h3]; simp
      rw [this]; simp
    | cons b T =>
      have : X.getLast? = (b :: T).getLast? := by
        conv => lhs; rw [h1, hr]
        rw [List.getLast?_append]
        cases hl : (b :: T).getLast? with
        | none => simp at hl
        | some x => rfl
      rw [this]; omega
  · have hx : X = ln X := by rw [h4, List.append_nil, h3] at h1; exact h1
    have hc : X.count 10 = 0 := by rw [hx]; exact List.count_eq_zero.2 h6
    have hl : X.getLast? ≠ some 10 := by
      rw [hx]
      have := last_no (C := []) h5 h6
      simpa using this
    have hn : X.getLast? ≠ none := by simp [hX]
    unfold cl
    rw [hc, h4, if_neg (by rintro (h | h); exact hn h; exact hl h)]
    simp
theorem cl_le (X : List UInt8) : cl X ≤ X.length := by
  unfold cl
  split
  · have := List.count_le_length (a := (10 : UInt8)) (l := X); omega
  · rename_i h
    rcases List.eq_nil_or_concat X with rfl | ⟨T, b, rfl⟩
    · simp at h
    · have h2 : b ≠ 10 := fun e => h (Or.inr (by rw [e]; simp))
      have := List.count_le_length (a := (10 : UInt8)) (l := T)
      simp [List.count_append, h2]
      omega

set_option maxHeartbeats 400000 in
theorem zzNum_any (lb : Nat) (v0 v1 v3 : Value) (num : Int) (w : World) (h : w.heap[lb]? = some (.cells #[v0, v1, .int .i64 num, v3] 47 (0, 0))) :
    Calls Tryd.prog 14 #[.pointer (some ⟨lb, 0, none⟩)] w fun e w' => e = .returned (.int .i64 num) ∧ w = w' := by
  have c2 : w.cell? ⟨lb, 2, none⟩ = some (.int .i64 num) := cell_of h rfl
  clear h
  go_enter Tryd.func14, Tryd.ntmps14
  go_wp2
  go_ret
  exact ⟨rfl, rfl⟩

theorem take_snoc (s : ByteArray) (k : Nat) (h : k < s.size) : s.data.toList.take (k + 1) = s.data.toList.take k ++ [s[k]] := by
  rw [List.take_succ_eq_append_getElem (by simpa using h)]; rfl

set_option maxHeartbeats 800000 in
theorem countLines_any (s : ByteArray) (w : World) (hs : s.size ≤ 1048576) : Calls Tryd.prog 17 #[.string s] w fun e w' => e = .returned (.int .i64 (cl s.data.toList)) ∧ w = w' := by
  go_enter Tryd.func17, Tryd.ntmps17
  go_wp2
  go_loop [3, 4] (fun n i => ∃ k : Nat, k ≤ s.size ∧ i = .int .i64 k ∧ n = .int .i64 ((s.data.toList.take k).count 10 : Nat)) (fun _ i => s.size - (intOf i).toNat)
  case atStart => exact ⟨0, Nat.zero_le _, rfl, rfl⟩
  case round =>
    obtain ⟨k, hk, rfl, rfl⟩ := hrel
    have hc : (s.data.toList.take k).count 10 ≤ k := Nat.le_trans List.count_le_length (List.length_take_le _ _)
    by_cases hlt : k < s.size
    · have HT : Hid _ := take_snoc s k hlt
      cases hb : ((s[k].toNat : Int) == 10)
      · have HB : Hid _ := hb
        go_wp2
        go_round
        case rel => exact ⟨k + 1, by omega, by go_num, by
          rw [HT.out, List.count_append]
          have h1 : ¬ s[k] = 10 := fun e => by have := HB.out; rw [e] at this; simp at this
          simp [h1]⟩
        case measure => simp [intOf]; omega
      · have HB : Hid _ := hb
        go_wp2
        go_round
        case rel => exact ⟨k + 1, by omega, by go_num, by
          rw [HT.out, List.count_append]
          have h1 : s[k] = 10 := by
            apply UInt8.toNat.inj
            have := HB.out
            simp only [beq_iff_eq] at this
            show _ = 10
            omega
          rw [h1]
          simp⟩
        case measure => simp [intOf]; omega
    · have hkk : k = s.size := by omega
      subst hkk
      have ht : s.data.toList.take s.size = s.data.toList := List.take_of_length_le (by simp)
      obtain ⟨cn, hcn⟩ : ∃ cn, cn = s.data.toList.count 10 := ⟨_, rfl⟩
      rw [ht, ← hcn] at hc ⊢
      have HCN : Hid _ := hcn
      clear ht hcn
      by_cases h0 : 0 < s.size
      · have hgl : s.data.toList.getLast? = some s[s.size - 1] := by
          rw [List.getLast?_eq_getElem?]
          have e : s.data.toList.length - 1 = s.size - 1 := by simp
          rw [e]; exact str_at s _ (by omega)
        have HGL : Hid _ := hgl
        clear hgl
        cases hb : ((s[s.size - 1].toNat : Int) == 10)
        · have hb2 : ((s[s.size - 1].toNat : Int) != 10) = true := by simpa using hb
          have HB : Hid _ := hb
          clear hb
          go_wp2
          go_ret
          refine ⟨ret_int ?_, rfl⟩
          unfold cl
          rw [HGL.out, if_neg (by
            rintro (h | h)
            · simp at h
            · have h3 := HB.out
              rw [Option.some.inj h] at h3
              simp at h3), ← HCN.out]
          omega
        · have hb2 : ((s[s.size - 1].toNat : Int) != 10) = false := by simpa using hb
          have HB : Hid _ := hb
          clear hb
          go_wp2
          go_ret
          refine ⟨ret_int ?_, rfl⟩
          unfold cl
          rw [HGL.out, if_pos (by
            right
            have h3 := HB.out
            congr 1
            apply UInt8.toNat.inj
            simp only [beq_iff_eq] at h3
            show _ = 10
            omega), ← HCN.out]
          omega
      · have hs0 : s.size = 0 := by omega
        have hnl : s.data.toList = [] := List.eq_nil_of_length_eq_zero (by simpa using hs0)
        have HNL : Hid _ := hnl
        clear hnl
        go_wp2
        go_ret
        refine ⟨ret_int ?_, rfl⟩
        rw [HCN.out, HNL.out]; rfl

end Go.Proofs.Qxb6604708aDoor
