import Derived.Test.Qxb6604708aDoorWj
namespace Go.Proofs.Qxb6604708aDoor
open Go.RowKit
set_option linter.unusedVariables false

set_option maxHeartbeats 800000 in
theorem es_big (s : ByteArray) (limit : Int) (w : World) (h : 1048576 < s.size) (hs : s.size ≤ maxLen) : Calls Tryd.prog 5 #[.string s, .int .i64 limit] w fun e w' => e = .returned (.bool true) ∧ w' = w := by
  unfold maxLen at hs
  go_enter Tryd.func5, Tryd.ntmps5
  go_wp2
  go_ret
  exact ⟨rfl, rfl⟩

set_option maxHeartbeats 800000 in
theorem es_max (s : ByteArray) (w : World) (h : s.size ≤ 1048576) : Calls Tryd.prog 5 #[.string s, .int .i64 9223372036854775807] w fun e w' => e = .returned (.bool true) ∧ w' = w := by
  have h' : ¬ 1048576 < s.size := by omega
  go_enter Tryd.func5, Tryd.ntmps5
  go_wp2
  go_ret
  exact ⟨rfl, rfl⟩

theorem bytes16 (s : ByteArray) (limit : Int) (w : World) (h : s.size ≤ 1048576) : Calls Tryd.prog 16 #[.string s, .int .i64 limit] w fun e w' => e = .returned (.bool true) ∧ w = w' := by
  have h' : ¬ 1048576 < s.size := by omega
  go_enter Tryd.func16, Tryd.ntmps16
  go_wp2
  go_ret
  exact ⟨rfl, rfl⟩

theorem lr_blk {B lb rb sb bb N : Nat} {s : ByteArray} {limit num : Int} {l X : List UInt8} {p : Option Addr} {cap : Nat} {w : World} (h : Lr B lb rb sb bb N s limit num l X p cap w) : w.heap[lb]? = some (.cells #[.pointer (some ⟨rb, 0, none⟩), .int .i64 limit, .int .i64 num, .slice p l.length cap] 47 (0, 0)) := by
  obtain ⟨r, q, i, bs, pr, l1, l2, a1, _⟩ := h
  exact a1

theorem two_new (s : ByteArray) (limit : Int) (w : World) (fa ea : Addr) (h2 : 2 ≤ w.heap.size) (hs : s.size ≤ 1100000) (st : Sent w.heap.size fa ea w) (W : World)
    (hW : W = (((w.alloc (.cells #[.string s, .int .i64 0, .int .i64 (-1)] 53)).alloc (.cells #[.slice (some ⟨w.heap.size + 2, 0, none⟩) 65536 65536, .iface 42 (.pointer (some ⟨w.heap.size, 0, none⟩)), .int .i64 0, .int .i64 0, .nilIface, .int .i64 (-1), .int .i64 (-1)] 65)).alloc (.cells (buf0 65536) 5)).alloc (.cells #[.pointer (some ⟨w.heap.size + 1, 0, none⟩), .int .i64 limit, .int .i64 0, .slice none 0 0] 47)) :
    Two w.heap.size (w.heap.size + 3) (w.heap.size + 1) w.heap.size (w.heap.size + 2) 65536 s limit fa ea w 0 [] s.data.toList none 0 [] none 0 W := by
  obtain ⟨fx, hL, hK, hsz⟩ := lr_new s limit w h2 hs W hW
  exact ⟨hL, ⟨rfl, Or.inl ⟨rfl, rfl⟩⟩, by simp [pblk], hK.below (Nat.le_refl _) (by simp), st.kept h2 hK (by simp)⟩

theorem nil_neq (w : World) : (binOp .neq 25 (.slice none 0 0) (.slice none 0 0)).run Tryd.prog w = .ok (.bool false) w := run_neq_slice_nil_any w 25 5 none 0 0 0 0 Tryd.underlying25

set_option maxRecDepth 100000 in
set_option maxHeartbeats 2000000 in
theorem es_main (s : ByteArray) (limit : Int) (fa ea : Addr) (w : World) (h2 : 2 ≤ w.heap.size) (st : Sent w.heap.size fa ea w) (h : s.size ≤ 1048576) (hl : (limit == 9223372036854775807) = false) (hl1 : -9223372036854775808 ≤ limit) (hl2 : limit ≤ 9223372036854775806) :
    Calls Tryd.prog 5 #[.string s, .int .i64 limit] w fun e w' => e = .returned (.bool true) ∧ Below w.heap.size w w' := by
  have h' : decide ((1048576 : Int) < (s.size : Int)) = false := decide_eq_false (by omega)
  have ST : Hid _ := two_new s limit w fa ea h2 (by omega) st
  have FXX : Hid (Fx w.heap.size (w.heap.size + 3) (w.heap.size + 1) w.heap.size (w.heap.size + 2) 65536 s) := (lr_new s limit w h2 (by omega) _ rfl).1
  obtain ⟨c0, hc0⟩ : ∃ c0, c0 = cl s.data.toList := ⟨_, rfl⟩
  have HC0 : Hid _ := hc0
  have c0l : c0 ≤ 1048576 := by
    have := cl_le s.data.toList
    rw [← hc0] at this
    simp at this
    omega
  clear st hc0
  go_enter Tryd.func5, Tryd.ntmps5
  go_wp2_with (first | (go_at_call 16; refine (bytes16 s limit _ h).mono ?_; rintro e w' ⟨rfl, rfl⟩) | (go_at_call 9; refine (newReader_any s limit _).mono ?_; rintro e w' ⟨rfl, rfl⟩) | (go_at_call 17; refine (countLines_any s _ h).mono ?_; rw [← HC0.out]; rintro e w' ⟨rfl, rfl⟩))
  have ST2 : Hid _ := ST.out _ rfl
  clear ST
  go_loopg [7, 8] (s.size + 1) (fun g got step wr => ∃ (k : Nat) (X : List UInt8) (p : Option Addr) (cap : Nat) (l : List UInt8), g = X.length + 1 ∧ got = .int .i64 k ∧ step = .int .i64 k ∧ k + X.length ≤ s.size ∧ Hid (c0 = k + cl X) ∧ Hid (Two w.heap.size (w.heap.size + 3) (w.heap.size + 1) w.heap.size (w.heap.size + 2) 65536 s limit fa ea w k l X p cap [] none 0 wr))
  case atStart => exact ⟨0, s.data.toList, none, 0, [], by simp, rfl, rfl, by simp, by show c0 = _; rw [HC0.out]; simp, ST2.out⟩
  case round =>
    clear ST2
    obtain ⟨k, X, p, cap, l, rfl, rfl, rfl, hk, HCL, HT⟩ := hrel
    have k1 : (k : Int) ≤ (s.size : Int) := by omega
    go_wp2_with fail
    refine (zzReadLine_any w.heap.size (w.heap.size + 3) (w.heap.size + 1) w.heap.size (w.heap.size + 2) 65536 s limit k l X p cap fa ea wr FXX.out HT.out.2.2.2.2 HT.out.1 (by omega) (by omega) hl1 hl2).mono ?_
    rintro e w1 ⟨p1, cap1, hk1, hpb1, hh⟩
    rcases hh with ⟨rfl, rfl, l1, hL1⟩ | ⟨hX, rfl, hL1⟩
    · have HT1 : Hid _ := two_read FXX.out HT.out hk1 hpb1 hL1
      have hck : c0 = k := by have := HCL.out; rw [cl_nil] at this; omega
      clear hk1 hpb1 hL1 HCL
      subst hck
      have hnil := nil_neq
      go_wp2_with (first | (go_at_call 14; refine (zzNum_any (w.heap.size + 3) _ _ _ c0 _ (by exact lr_blk HT1.out.1)).mono ?_; rintro e w' ⟨rfl, rfl⟩))
      go_loopg [11] 3 (fun g j wr => ∃ (m : Nat) (p : Option Addr) (cap : Nat) (l : List UInt8), g = 3 - m ∧ m ≤ 3 ∧ j = .int .i64 m ∧ Hid (Two w.heap.size (w.heap.size + 3) (w.heap.size + 1) w.heap.size (w.heap.size + 2) 65536 s limit fa ea w c0 l [] p cap [] none 0 wr))
      case atStart => exact ⟨0, p1, cap1, l1, rfl, by omega, rfl, HT1.out⟩
      case round =>
        clear HT1 HT
        obtain ⟨m, p2, cap2, l2, rfl, hm, rfl, HT2⟩ := hrel
        by_cases hm3 : m < 3
        · go_wp2_with fail
          refine (zzReadLine_any w.heap.size (w.heap.size + 3) (w.heap.size + 1) w.heap.size (w.heap.size + 2) 65536 s limit c0 l2 [] p2 cap2 fa ea wr FXX.out HT2.out.2.2.2.2 HT2.out.1 (by omega) (by omega) hl1 hl2).mono ?_
          rintro e w2 ⟨p3, cap3, hk3, hpb3, hh3⟩
          rcases hh3 with ⟨_, rfl, l3, hL3⟩ | ⟨hX, _, _⟩
          · have HT3 : Hid _ := two_read FXX.out HT2.out hk3 hpb3 hL3
            clear hk3 hpb3 hL3
            go_wp2_with (first | (go_at_call 14; refine (zzNum_any (w.heap.size + 3) _ _ _ c0 _ (by exact lr_blk HT3.out.1)).mono ?_; rintro e w' ⟨rfl, rfl⟩))
            go_roundg (3 - (m + 1))
            case measure => omega
            case rel => exact ⟨m + 1, p3, cap3, l3, rfl, by omega, by go_num, HT3.out⟩
          · exact absurd rfl hX
        · go_wp2
          go_ret
          exact ⟨rfl, HT2.out.2.2.2.1⟩
    · have HT1 : Hid _ := two_read FXX.out HT.out hk1 hpb1 hL1
      have HX : Hid _ := hX
      have hcl := cl_next X hX
      have HCN : Hid (c0 = (k + 1 : Nat) + cl (rst X)) := by have := HCL.out; rw [hcl] at this; show _ = _; omega
      obtain ⟨D, hD⟩ := next_law X hX
      have hr : (rst X).length < X.length := by have h1 := congrArg List.length hD.1; have h2 := hD.2.1; simp at h1; omega
      have hkl : (kp limit (ln X)).length ≤ (limit + 1).toNat := by simp [kp]; omega
      clear hk1 hpb1 hL1 hX hD hcl
      obtain ⟨n, hn⟩ : ∃ n, n = (kp limit (ln X)).length := ⟨_, rfl⟩
      rw [← hn] at hkl ⊢
      clear hn
      by_cases hneg : limit < 0
      · have hn0 : n = 0 := by omega
        subst hn0
        go_wp2_with (first | (go_at_call 14; refine (zzNum_any (w.heap.size + 3) _ _ _ (k + 1) _ (by exact lr_blk HT1.out.1)).mono ?_; rintro e w' ⟨rfl, rfl⟩))
        go_roundg ((rst X).length + 1)
        case measure => omega
        case rel => exact ⟨k + 1, rst X, p1, cap1, kp limit (ln X), rfl, by go_num, by go_num, by omega, HCN.out, HT1.out⟩
      · have hn1 : ¬ (limit + 1 < (n : Int)) := by omega
        go_wp2_with (first | (go_at_call 14; refine (zzNum_any (w.heap.size + 3) _ _ _ (k + 1) _ (by exact lr_blk HT1.out.1)).mono ?_; rintro e w' ⟨rfl, rfl⟩))
        go_roundg ((rst X).length + 1)
        case measure => omega
        case rel => exact ⟨k + 1, rst X, p1, cap1, kp limit (ln X), rfl, by go_num, by go_num, by omega, HCN.out, HT1.out⟩

end Go.Proofs.Qxb6604708aDoor
