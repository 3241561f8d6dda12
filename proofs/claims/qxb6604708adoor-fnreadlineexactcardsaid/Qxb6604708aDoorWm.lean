import Derived.Test.Qxb6604708aDoorWl
namespace Go.Proofs.Qxb6604708aDoor
open Go.RowKit
set_option linter.unusedVariables false

set_option maxHeartbeats 800000 in
theorem ex_big (s : ByteArray) (limit : Int) (w : World) (h : 1048576 < s.size) (hs : s.size ≤ maxLen) : Calls Tryd.prog 4 #[.string s, .int .i64 limit] w fun e w' => e = .returned (.bool true) ∧ w' = w := by
  unfold maxLen at hs
  go_enter Tryd.func4, Tryd.ntmps4
  go_wp2
  go_ret
  exact ⟨rfl, rfl⟩

set_option maxHeartbeats 800000 in
theorem ex_max (s : ByteArray) (w : World) (h : s.size ≤ 1048576) : Calls Tryd.prog 4 #[.string s, .int .i64 9223372036854775807] w fun e w' => e = .returned (.bool true) ∧ w' = w := by
  have h' : ¬ 1048576 < s.size := by omega
  go_enter Tryd.func4, Tryd.ntmps4
  go_wp2
  go_ret
  exact ⟨rfl, rfl⟩

theorem bytes12 (s : ByteArray) (limit : Int) (w : World) (h : s.size ≤ 1048576) : Calls Tryd.prog 12 #[.string s, .int .i64 limit] w fun e w' => e = .returned (.bool true) ∧ w = w' := by
  have h' : ¬ 1048576 < s.size := by omega
  go_enter Tryd.func12, Tryd.ntmps12
  go_wp2
  go_ret
  exact ⟨rfl, rfl⟩

/-- the reader, and the caller's row of strings beside it -/
def Three (B lb rb sb bb N : Nat) (s : ByteArray) (limit : Int) (fa ea : Addr) (w0 : World) (num : Int) (l X : List UInt8) (p : Option Addr) (cap : Nat) (ps : List ByteArray) (pp : Option Addr) (capp : Nat) (wr : World) : Prop :=
  Lr B lb rb sb bb N s limit num l X p cap wr ∧ wr.ownsRow B 9 1 (.slice pp ps.length capp) ps.length (sv ps) ∧ (∀ q, q ∈ pblk pp → q ∉ [lb, rb, sb, bb] ++ pblk p) ∧ Below B w0 wr ∧ Sent B fa ea wr

theorem three_read {B lb rb sb bb N : Nat} {s : ByteArray} {limit num num' : Int} {fa ea : Addr} {w0 w w' : World} {l X l' X' : List UInt8} {ps : List ByteArray} {p pp p' : Option Addr} {cap capp cap' : Nat} (fx : Fx B lb rb sb bb N s) (h : Three B lb rb sb bb N s limit fa ea w0 num l X p cap ps pp capp w)
    (hk : Kept ([lb, rb, sb, bb] ++ pblk p) w w') (hpb : ∀ k, k ∈ pblk p' → k ∈ pblk p ∨ w.heap.size ≤ k) (hL : Lr B lb rb sb bb N s limit num' l' X' p' cap' w') : Three B lb rb sb bb N s limit fa ea w0 num' l' X' p' cap' ps pp capp w' := by
  obtain ⟨h1, h2, h3, h4, h5⟩ := h
  have hB := lr_foot fx h1
  refine ⟨hL, hk.owns h2 h3, ?_, h4.trans (hk.below h5.size hB), h5.kept fx.b2 hk hB⟩
  intro q hq hq2
  rcases List.mem_append.1 hq2 with h | h
  · exact h3 q hq (by simp at h ⊢; omega)
  · rcases hpb q h with h | h
    · exact h3 q hq (by simp [h])
    · have := (owns_lt h2 q hq).2; omega

theorem three_drew {B lb rb sb bb N : Nat} {s : ByteArray} {limit num : Int} {fa ea : Addr} {w0 w : World} {l X : List UInt8} {ps : List ByteArray} {p pp : Option Addr} {cap capp : Nat} (fx : Fx B lb rb sb bb N s) (h : Three B lb rb sb bb N s limit fa ea w0 num l X p cap ps pp capp w) (n : Nat) : Three B lb rb sb bb N s limit fa ea w0 num l X p cap ps pp capp (w.drewN n) := by
  obtain ⟨h1, h2, h3, h4, h5⟩ := h
  have hk : Kept [] w (w.drewN n) := (Kept.refl [] w).drewN n
  exact ⟨lr_kept h1 hk (by simp), hk.owns h2 (by simp), h3, h4.trans (hk.below h5.size (by simp)), h5.kept fx.b2 hk (by simp)⟩

theorem three_start (s : ByteArray) (limit : Int) (w : World) (fa ea : Addr) (h2 : 2 ≤ w.heap.size) (hs : s.size ≤ 1100000) (st : Sent w.heap.size fa ea w) (W : World)
    (hW : W = (((w.alloc (.cells #[.string s, .int .i64 0, .int .i64 (-1)] 53)).alloc (.cells #[.slice (some ⟨w.heap.size + 2, 0, none⟩) 65536 65536, .iface 42 (.pointer (some ⟨w.heap.size, 0, none⟩)), .int .i64 0, .int .i64 0, .nilIface, .int .i64 (-1), .int .i64 (-1)] 65)).alloc (.cells (buf0 65536) 5)).alloc (.cells #[.pointer (some ⟨w.heap.size + 1, 0, none⟩), .int .i64 limit, .int .i64 0, .slice none 0 0] 47))
    (w' : World) (ps : List ByteArray) (pp : Option Addr) (capp : Nat) (ho : w'.ownsRow W.heap.size 9 1 (.slice pp ps.length capp) ps.length (sv ps)) (hb : Below W.heap.size W w') :
    Three w.heap.size (w.heap.size + 3) (w.heap.size + 1) w.heap.size (w.heap.size + 2) 65536 s limit fa ea w 0 [] s.data.toList none 0 ps pp capp w' := by
  obtain ⟨fx, hL, hK, hsz⟩ := lr_new s limit w h2 hs W hW
  have hk2 : Kept [] W w' := Kept.ofBelow hb []
  have hk3 := hK.trans hk2
  refine ⟨lr_kept hL hk2 (by simp), ⟨ho.1, ?_⟩, ?_, hk3.below (Nat.le_refl _) (by simp), st.kept h2 hk3 (by simp)⟩
  · rcases ho.2 with h | ⟨g, c, cur, e1, e2, e3⟩
    · exact Or.inl h
    · exact Or.inr ⟨g, c, cur, e1, by omega, e3⟩
  · intro q hq hq2
    have h1 := (owns_lt ho q hq).1
    simp [pblk] at hq2
    omega

set_option maxRecDepth 100000 in
set_option maxHeartbeats 2000000 in
theorem ex_main (s : ByteArray) (limit : Int) (fa ea : Addr) (w : World) (h2 : 2 ≤ w.heap.size) (st : Sent w.heap.size fa ea w) (h : s.size ≤ 1048576) (hl : (limit == 9223372036854775807) = false) (hl1 : -9223372036854775808 ≤ limit) (hl2 : limit ≤ 9223372036854775806) :
    Calls Tryd.prog 4 #[.string s, .int .i64 limit] w fun e w' => e = .returned (.bool true) ∧ Below w.heap.size w w' := by
  have h' : decide ((1048576 : Int) < (s.size : Int)) = false := decide_eq_false (by omega)
  have ST : Hid _ := three_start s limit w fa ea h2 (by omega) st
  have FXX : Hid (Fx w.heap.size (w.heap.size + 3) (w.heap.size + 1) w.heap.size (w.heap.size + 2) 65536 s) := (lr_new s limit w h2 (by omega) _ rfl).1
  clear st
  go_enter Tryd.func4, Tryd.ntmps4
  go_wp2_with (first | (go_at_call 12; refine (bytes12 s limit _ h).mono ?_; rintro e w' ⟨rfl, rfl⟩) | (go_at_call 9; refine (newReader_any s limit _).mono ?_; rintro e w' ⟨rfl, rfl⟩) | (go_at_call 13; refine (phys_any s _ h).mono ?_; rintro e w' ⟨ps, pp, capp, rfl, hps, hown, hbel⟩))
  have ST2 : Hid _ := ST.out _ rfl _ ps pp capp hown hbel
  have HPS : Hid _ := hps
  have npl : ps.length ≤ 1048576 := by
    have h1 := congrArg List.length hps
    have h2 := phl_len s.data.toList
    simp at h1 h2
    omega
  clear ST hps hown hbel
  go_loopg [7] (s.size + 1) (fun g iv wr => ∃ (k : Nat) (X : List UInt8) (p : Option Addr) (cap : Nat) (l : List UInt8), g = X.length + 1 ∧ iv = .int .i64 k ∧ k ≤ ps.length ∧ Hid ((ps.drop k).map (·.data.toList) = phl X) ∧ Hid (Three w.heap.size (w.heap.size + 3) (w.heap.size + 1) w.heap.size (w.heap.size + 2) 65536 s limit fa ea w k l X p cap ps pp capp wr))
  case atStart => exact ⟨0, s.data.toList, none, 0, [], by simp, rfl, Nat.zero_le _, HPS.out, ST2.out⟩
  case round =>
    clear ST2
    obtain ⟨k, X, p, cap, l, rfl, rfl, hk, HPH, HT⟩ := hrel
    have k1 : (k : Int) ≤ (ps.length : Int) := by omega
    go_wp2_with fail
    refine (zzReadLine_any w.heap.size (w.heap.size + 3) (w.heap.size + 1) w.heap.size (w.heap.size + 2) 65536 s limit k l X p cap fa ea wr FXX.out HT.out.2.2.2.2 HT.out.1 (by omega) (by omega) hl1 hl2).mono ?_
    rintro e w1 ⟨p1, cap1, hk1, hpb1, hh⟩
    rcases hh with ⟨rfl, rfl, l1, hL1⟩ | ⟨hX, rfl, hL1⟩
    · have HT1 : Hid _ := three_read FXX.out HT.out hk1 hpb1 hL1
      have hkk : k = ps.length := by
        have h1 := congrArg List.length HPH.out
        rw [phl_nil] at h1
        simp at h1
        omega
      clear hk1 hpb1 hL1 HPH HT
      subst hkk
      have hnil := nil_eq
      go_wp2_with (first | (go_at_call 14; refine (zzNum_any (w.heap.size + 3) _ _ _ ps.length _ (by exact lr_blk HT1.out.1)).mono ?_; rintro e w' ⟨rfl, rfl⟩))
      go_ret
      exact ⟨rfl, HT1.out.2.2.2.1⟩
    · have HT1 : Hid _ := three_read FXX.out HT.out hk1 hpb1 hL1
      have hph := phl_next X hX
      have hlt : k < ps.length := by
        have h1 := congrArg List.length HPH.out
        rw [hph] at h1
        simp at h1
        omega
      have hpk : ps[k].data.toList = ln X ∧ (ps.drop (k + 1)).map (·.data.toList) = phl (rst X) := by
        have h1 := HPH.out
        rw [List.drop_eq_getElem_cons hlt, hph, List.map_cons] at h1
        exact ⟨(List.cons.inj h1).1, (List.cons.inj h1).2⟩
      have HPK : Hid _ := hpk
      have hr : (rst X).length < X.length := rst_lt X hX
      have hXl : X.length ≤ 1200000 := lr_len FXX.out HT.out.1
      have hlX : (ln X).length ≤ X.length := List.Sublist.length_le (List.takeWhile_sublist _)
      have hpz : ps[k].size ≤ 2000000 := by
        have h1 := congrArg List.length HPK.out.1
        simp at h1
        omega
      have hkpl : (kp limit (ln X)).length ≤ 2000000 := by simp [kp]; omega
      obtain ⟨hcap, g, rfl, hcell⟩ := owns_ats HT1.out.2.1 (by omega)
      have hc := hcell k hlt
      have hne : ¬ ((k : Int) = (ps.length : Int)) := by omega
      have hne2 : ((k : Int) == (ps.length : Int)) = false := by simpa using hne
      have b1 : (0 : Int) ≤ (k : Int) := by omega
      have b2 : (k : Int) < (ps.length : Int) := by omega
      clear hk1 hpb1 hL1 hX hph hpk hcell HPH hne
      obtain ⟨tk, htk⟩ : ∃ tk, tk = ps[k] := ⟨_, rfl⟩
      have HTK : Hid (tk.data.toList = ln X) := by show _ = _; rw [htk]; exact HPK.out.1
      rw [← htk] at hc hpz
      clear htk
      go_wp2_with (first | (go_at_call 14; refine (zzNum_any (w.heap.size + 3) _ _ _ (k + 1) _ (by exact lr_blk HT1.out.1)).mono ?_; rintro e w' ⟨rfl, rfl⟩) | (go_at_call 15; refine (keep_any tk limit _ hpz hl1 hl2).mono ?_; rintro e w' ⟨u, rfl, hu, rfl⟩; have HU : Hid (u.data.toList = kp limit (ln X)) := (by rw [← HTK.out]; exact hu); clear hu) | (go_at_call 11; refine (eqBS_true w.heap.size p1 (kp limit (ln X)) cap1 u _ (by exact (HT1.out.1).choose_spec.choose_spec.choose_spec.choose_spec.choose_spec.choose_spec.choose_spec.2.1) HU.out (by omega)).mono ?_; rintro e w' ⟨rfl, n, rfl⟩))
      go_roundg ((rst X).length + 1)
      case measure => omega
      case rel => exact ⟨k + 1, rst X, p1, cap1, kp limit (ln X), rfl, by go_num, by omega, HPK.out.2, three_drew FXX.out HT1.out n⟩

end Go.Proofs.Qxb6604708aDoor
