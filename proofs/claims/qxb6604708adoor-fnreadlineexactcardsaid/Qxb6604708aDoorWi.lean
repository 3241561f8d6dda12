import Derived.Test.Qxb6604708aDoorWh
namespace Go.Proofs.Qxb6604708aDoor
open Go.RowKit
set_option linter.unusedVariables false

set_option maxHeartbeats 800000 in
theorem rt_big (s : ByteArray) (limit : Int) (w : World) (h : 1048576 < s.size) (hs : s.size ≤ maxLen) : Calls Tryd.prog 3 #[.string s, .int .i64 limit] w fun e w' => e = .returned (.bool true) ∧ w' = w := by
  unfold maxLen at hs
  go_enter Tryd.func3, Tryd.ntmps3
  go_wp2
  go_ret
  exact ⟨rfl, rfl⟩

set_option maxHeartbeats 800000 in
theorem rt_max (s : ByteArray) (w : World) (h : s.size ≤ 1048576) : Calls Tryd.prog 3 #[.string s, .int .i64 9223372036854775807] w fun e w' => e = .returned (.bool true) ∧ w' = w := by
  have h' : ¬ 1048576 < s.size := by omega
  go_enter Tryd.func3, Tryd.ntmps3
  go_wp2
  go_ret
  exact ⟨rfl, rfl⟩

set_option maxHeartbeats 800000 in
theorem rt_less (s : ByteArray) (limit : Int) (w : World) (h : s.size ≤ 1048576) (hl : (limit == 9223372036854775807) = false) (hls : limit < s.size) : Calls Tryd.prog 3 #[.string s, .int .i64 limit] w fun e w' => e = .returned (.bool true) ∧ w' = w := by
  have h' : ¬ 1048576 < s.size := by omega
  go_enter Tryd.func3, Tryd.ntmps3
  go_wp2
  go_ret
  exact ⟨rfl, rfl⟩

theorem bytes8 (s : ByteArray) (limit : Int) (w : World) (h : s.size ≤ 1048576) : Calls Tryd.prog 8 #[.string s, .int .i64 limit] w fun e w' => e = .returned (.bool true) ∧ w = w' := by
  have h' : ¬ 1048576 < s.size := by omega
  go_enter Tryd.func8, Tryd.ntmps8
  go_wp2
  go_ret
  exact ⟨rfl, rfl⟩

theorem rt_src {B lb rb sb bb N : Nat} {s : ByteArray} {limit num : Int} {l X : List UInt8} {p : Option Addr} {cap : Nat} {w : World} (h : Lr B lb rb sb bb N s limit num l X p cap w) : 0 < l.length → ∃ ad, p = some ad ∧ ∀ j u, (bv l)[j]? = some u → w.cell? (ad.add j) = some u := by
  obtain ⟨r, q, i, bs, pr, l1, l2, a1, a2, a3⟩ := h
  exact owns_src a2

theorem last_no {C l : List UInt8} (h1 : l ≠ []) (h2 : (10 : UInt8) ∉ l) : (C ++ l).getLast? ≠ some 10 := by
  intro h
  rw [List.getLast?_append] at h
  cases hl : l.getLast? with
  | none => exact h1 (List.getLast?_eq_none_iff.1 hl)
  | some b =>
    rw [hl] at h
    simp at h
    subst h
    exact h2 (List.mem_of_getLast? hl)

theorem nil_eq (w : World) : (binOp .eql 25 (.slice none 0 0) (.slice none 0 0)).run Tryd.prog w = .ok (.bool true) w := Lib.run_eql_slice_nil w 25 5 none 0 0 0 0 Tryd.underlying25

theorem str_at (s : ByteArray) (i : Nat) (h : i < s.size) : s.data.toList[i]? = some s[i] := by
  rw [List.getElem?_eq_getElem (by simpa using h)]
  rfl
theorem str_last {s : ByteArray} {C : List UInt8} (h : s.data.toList = C) (hl : C.getLast? = some 10) (h0 : 0 < s.size) : s[s.size - 1] = 10 := by
  have h1 := str_at s (s.size - 1) (by omega)
  rw [List.getLast?_eq_getElem?, ← h] at hl
  have e : s.data.toList.length - 1 = s.size - 1 := by simp
  rw [e, h1] at hl
  exact Option.some.inj hl
theorem str_nlast {s : ByteArray} {C : List UInt8} (h : s.data.toList = C) (hl : C.getLast? ≠ some 10) (h0 : 0 < s.size) : (s[s.size - 1].toNat : Int) ≠ 10 := by
  intro e
  apply hl
  have h1 := str_at s (s.size - 1) (by omega)
  rw [List.getLast?_eq_getElem?, ← h]
  have e2 : s.data.toList.length - 1 = s.size - 1 := by simp
  rw [e2, h1]
  congr 1
  apply UInt8.toNat.inj
  show _ = 10
  omega

set_option maxRecDepth 100000 in
set_option maxHeartbeats 2000000 in
theorem rt_main (s : ByteArray) (limit : Int) (fa ea : Addr) (w : World) (h2 : 2 ≤ w.heap.size) (st : Sent w.heap.size fa ea w) (h : s.size ≤ 1048576) (hl : (limit == 9223372036854775807) = false) (hls : ¬ limit < s.size) (hl2 : limit ≤ 9223372036854775806) :
    Calls Tryd.prog 3 #[.string s, .int .i64 limit] w fun e w' => e = .returned (.bool true) ∧ Below w.heap.size w w' := by
  have h' : ¬ 1048576 < s.size := by omega
  have ST : Hid _ := rt_start s limit w fa ea h2 (by omega) st
  have hmk := mk_out s.size (by omega)
  clear st
  go_enter Tryd.func3, Tryd.ntmps3
  go_wp2_with (first | (go_at_call 8; refine (bytes8 s limit _ h).mono ?_; rintro e w' ⟨rfl, rfl⟩) | (go_at_call 9; refine (newReader_any s limit _).mono ?_; rintro e w' ⟨rfl, rfl⟩))
  have ST2 : Hid _ := ST.out _ rfl
  clear ST
  go_loopg [6, 7, 8] (s.size + 1) (fun g out n step wr => ∃ (k : Nat) (X O : List UInt8) (po : Option Addr) (capo : Nat), g = X.length + 1 ∧ out = .slice po O.length capo ∧ n = .int .i64 k ∧ step = .int .i64 k ∧ RtI w.heap.size (w.heap.size + 3) (w.heap.size + 1) w.heap.size (w.heap.size + 2) 65536 s limit fa ea w k X O po capo wr)
  case atStart => exact ⟨0, s.data.toList, [], _, _, by simp, rfl, rfl, rfl, ST2.out⟩
  case round =>
    clear ST2 hmk
    obtain ⟨k, X, O, po, capo, rfl, rfl, rfl, rfl, C, p, cap, l, hT, hC, hk, hinv⟩ := hrel
    have hlen : C.length + X.length = s.size := by have := congrArg List.length hC; simpa using this.symm
    have hOl : O.length ≤ C.length := by
      rcases hinv with ⟨_, h1, _⟩ | ⟨_, h1⟩ | ⟨_, h1, _⟩
      · rw [h1]; simp
      · rw [h1]; simp
      · rw [h1]; exact Nat.le_refl _
    have HLEN : Hid _ := hlen
    have k1 : (k : Int) ≤ (s.size : Int) := by omega
    have hOl2 : O.length ≤ 1048576 := by omega
    have HT : Hid _ := hT
    have HC : Hid _ := hC
    have HINV : Hid _ := hinv
    have HKC : Hid _ := hk
    have hmr : limit + 1 > X.length := by omega
    clear hT hC hinv hlen hOl hk
    have FXX : Hid (Fx w.heap.size (w.heap.size + 3) (w.heap.size + 1) w.heap.size (w.heap.size + 2) 65536 s) := (lr_new s limit w h2 (by omega) _ rfl).1
    go_wp2_with fail
    refine (zzReadLine_any w.heap.size (w.heap.size + 3) (w.heap.size + 1) w.heap.size (w.heap.size + 2) 65536 s limit k l X p cap fa ea wr FXX.out HT.out.2.2.2.2 HT.out.1 (by omega) (by omega) (by omega) hl2).mono ?_
    rintro e w1 ⟨p1, cap1, hk1, hpb1, hh⟩
    rcases hh with ⟨rfl, rfl, l1, hL1⟩ | ⟨hX, rfl, hL1⟩
    · have HT1 : Hid _ := two_read FXX.out HT.out hk1 hpb1 hL1
      clear hk1 hpb1 hL1
      have hCL : s.data.toList = C := by have := HC.out; simpa using this
      have HCL : Hid _ := hCL
      clear hCL
      have hnil := nil_eq
      rcases HINV.out with ⟨rfl, rfl, rfl⟩ | ⟨hk0, hCO⟩ | ⟨hk0, hCO, _, hne, hlast⟩
      · have hs0 : s.size = 0 := by have := HLEN.out; simpa using this.symm
        go_wp2_with (first | (go_at_call 11; refine (eqBS_true w.heap.size po [] capo s _ (by exact HT1.out.2.1) HCL.out (by simp)).mono ?_; rintro e w' ⟨rfl, n, rfl⟩))
        go_ret
        exact ⟨rfl, HT1.out.2.2.2.1.trans ⟨rfl, rfl, rfl, Nat.le_refl _, fun _ _ => rfl⟩⟩
      · have HCO : Hid _ := hCO
        have kp0 : (0 : Int) < (k : Int) := by omega
        have hsz : 0 < s.size := by have := HLEN.out; rw [hCO] at this; simp at this; omega
        have hb : s[s.size - 1] = 10 := str_last HCL.out (by rw [hCO]; simp) hsz
        have hCl : C.length ≤ 1048576 := by have := HLEN.out; omega
        clear hCO hk0
        go_wp2_with (first | (at_builtin; refine wpList_app rfl (.tmp 61) (.tmp 62) rfl w.heap.size po O [10] capo rfl ?hown (some ⟨w1.heap.size, 0, none⟩) 1 1 rfl rfl ?hsrc C HCO.out (by omega) ?hB (w1.heap.size + 1) ?hH ?next))
        case hown => exact ((Kept.refl [] w1).alloc _).owns HT1.out.2.1 (by simp)
        case hsrc => exact fun _ => ⟨_, rfl, World.news_of_block (heap_alloc_new w1 _)⟩
        case hB => exact Nat.le_trans HT1.out.2.2.2.2.size (by simp)
        case hH => simp
        case next =>
          intro p' cap' w' h1 h2 h3
          have FIN : Hid _ := two_app FXX.out (two_kept FXX.out HT1.out ((Kept.refl [] w1).alloc (.cells #[.int .u8 10] 5))) h1 h2 (by simpa using h3)
          clear h1 h2 h3
          go_wp2_with (first | (go_at_call 11; refine (eqBS_true w.heap.size p' C cap' s _ (by exact FIN.out.2.1) HCL.out (by omega)).mono ?_; rintro e w'' ⟨rfl, n, rfl⟩))
          go_ret
          exact ⟨rfl, FIN.out.2.2.2.1.trans ⟨rfl, rfl, rfl, Nat.le_refl _, fun _ _ => rfl⟩⟩
      · have kp0 : (0 : Int) < (k : Int) := by omega
        have hsz : 0 < s.size := by have := HLEN.out; rw [hCO] at this; have h5 := List.length_pos_iff.2 hne; simp at this; omega
        have hCl : C.length ≤ 1048576 := by have := HLEN.out; omega
        have hb : (s[s.size - 1].toNat : Int) ≠ 10 := str_nlast HCL.out (by rw [hCO]; exact hlast) hsz
        have hb2 : ((s[s.size - 1].toNat : Int) == 10) = false := by simpa using hb
        obtain rfl := hCO
        clear hne hlast hk0
        go_wp2_with (first | (go_at_call 11; refine (eqBS_true w.heap.size po C capo s _ (by exact HT1.out.2.1) HCL.out (by omega)).mono ?_; rintro e w' ⟨rfl, n, rfl⟩))
        go_ret
        exact ⟨rfl, HT1.out.2.2.2.1.trans ⟨rfl, rfl, rfl, Nat.le_refl _, fun _ _ => rfl⟩⟩
    · have HT1 : Hid _ := two_read FXX.out HT.out hk1 hpb1 hL1
      obtain ⟨D, hD⟩ := next_law X hX
      have HD : Hid _ := hD
      have HX : Hid _ := hX
      have hlX : (ln X).length ≤ X.length := by rcases hD.2.2 with h | h
                                                · have := congrArg List.length hD.1; rw [h] at this; simp at this; omega
                                                · have := congrArg List.length hD.1; rw [h.1] at this; simp at this; omega
      have HKP : Hid (kp limit (ln X) = ln X) := List.take_of_length_le (by omega)
      clear hk1 hpb1 hL1 hX hD
      rw [HKP.out]
      go_upto_if 72 with fail
      go_cut [6] (fun out w2 => ∃ po2 capo2, out = .slice po2 C.length capo2 ∧ Two w.heap.size (w.heap.size + 3) (w.heap.size + 1) w.heap.size (w.heap.size + 2) 65536 s limit fa ea w (k + 1) (kp limit (ln X)) (rst X) p1 cap1 C po2 capo2 w2)
      case first =>
        rcases HINV.out with ⟨rfl, rfl, rfl⟩ | ⟨hk0, hCO⟩ | ⟨_, _, hX0, _⟩
        · go_wp2
          go_meet
          case rel => exact ⟨po, capo, rfl, HT1.out⟩
        · have HCO : Hid _ := hCO
          have kp0 : (0 : Int) < (k : Int) := by omega
          clear hCO hk0
          go_wp2_with (first | (at_builtin; refine wpList_app rfl (.tmp 73) (.tmp 74) rfl w.heap.size po O [10] capo rfl ?hown (some ⟨w1.heap.size, 0, none⟩) 1 1 rfl rfl ?hsrc C HCO.out (by omega) ?hB (w1.heap.size + 1) ?hH ?next))
          case hown => exact ((Kept.refl [] w1).alloc _).owns HT1.out.2.1 (by simp)
          case hsrc => exact fun _ => ⟨_, rfl, World.news_of_block (heap_alloc_new w1 _)⟩
          case hB => exact Nat.le_trans HT1.out.2.2.2.2.size (by simp)
          case hH => simp
          case next =>
            intro p' cap' w' h1 h2 h3
            have FIN : Hid _ := two_app FXX.out (two_kept FXX.out HT1.out ((Kept.refl [] w1).alloc (.cells #[.int .u8 10] 5))) h1 h2 (by simpa using h3)
            clear h1 h2 h3
            go_wp2
            go_meet
            case rel => exact ⟨p', cap', rfl, FIN.out⟩
        · exact absurd hX0 HX.out
      case rest =>
        obtain ⟨po2, capo2, rfl, hT2⟩ := hcut
        have HT2 : Hid _ := hT2
        have hll : C.length + (ln X).length ≤ 1048576 := by have := HLEN.out; omega
        clear hT2
        obtain ⟨O2, hO2⟩ : ∃ O2, O2 = C ++ ln X := ⟨_, rfl⟩
        have HO2 : Hid _ := hO2
        clear hO2
        go_wp2_with (first | (at_builtin; refine wpList_app rfl (.tmp 76) (.tmp 77) rfl w.heap.size po2 C (ln X) capo2 rfl ?hown p1 (ln X).length cap1 rfl rfl ?hsrc O2 HO2.out (by omega) ?hB wc.heap.size rfl ?next))
        case hown => exact HT2.out.2.1
        case hsrc => exact rt_src (by rw [← HKP.out]; exact HT2.out.1)
        case hB => exact HT2.out.2.2.2.2.size
        case next =>
          intro p' cap' w' h1 h2 h3
          have FIN : Hid _ := two_app FXX.out HT2.out h1 h2 h3
          clear h1 h2 h3
          go_wp2
          go_roundg ((rst X).length + 1)
          case measure =>
            have h1 := congrArg List.length HD.out.1
            have h2 := HD.out.2.1
            simp at h1
            omega
          case rel =>
            refine ⟨k + 1, rst X, O2, p', cap', rfl, rfl, by go_num, by go_num, C ++ D, p1, cap1, kp limit (ln X), ?_, ?_, ?_, ?_⟩
            · exact FIN.out
            · rw [HC.out, List.append_assoc, ← HD.out.1]
            · have := HKC.out; have := HD.out.2.1; simp; omega
            · rcases HD.out.2.2 with hd | ⟨hd1, hd2, hd3, hd4⟩
              · exact Or.inr (Or.inl ⟨by omega, by rw [hd, HO2.out]; simp⟩)
              · refine Or.inr (Or.inr ⟨by omega, by rw [hd1, HO2.out], hd2, ?_, ?_⟩)
                · rw [HO2.out]; simp [hd3]
                · rw [HO2.out]; exact last_no hd3 hd4

end Go.Proofs.Qxb6604708aDoor
