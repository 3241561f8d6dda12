import Derived.Test.Qxb6606374aWa
import Derived.Test.Qxb6606374aShelf
import Derived.Deep.DeepCutAuto
namespace Go.Proofs.Qxb6606374a
open Go.RowKit
set_option linter.unusedVariables false

theorem byte34 (c : Int) (h : 0 ≤ c ∧ c < 256) : (UInt8.ofNat c.toNat == (34 : Int).toNat.toUInt8) = decide (c = 34) := by
  by_cases h1 : c = 34
  · subst h1; rfl
  · simp only [h1, decide_false]
    rw [beq_eq_false_iff_ne]
    intro e
    apply h1
    have := congrArg UInt8.toNat e
    simp at this
    omega

theorem ix_ints : ∀ (xs : List Int), (∀ c ∈ xs, 0 ≤ c ∧ c < 256) →
    (Lib.indexByte (Lib.bytesOf xs) (34 : Int).toNat.toUInt8 = -1 ∧ ∀ c ∈ xs, c ≠ 34) ∨ ∃ k : Nat, Lib.indexByte (Lib.bytesOf xs) (34 : Int).toNat.toUInt8 = k ∧ k < xs.length ∧ xs = xs.take k ++ 34 :: xs.drop (k + 1) ∧ ∀ c ∈ xs.take k, c ≠ 34 := by
  intro xs
  induction xs with
  | nil => intro _; exact Or.inl ⟨rfl, by simp⟩
  | cons c r ih =>
    intro h
    have hc := byte34 c (h c (by simp))
    have hu : Lib.indexByte (Lib.bytesOf (c :: r)) (34 : Int).toNat.toUInt8 = if UInt8.ofNat c.toNat == (34 : Int).toNat.toUInt8 then 0 else if Lib.indexByte (Lib.bytesOf r) (34 : Int).toNat.toUInt8 == -1 then -1 else Lib.indexByte (Lib.bytesOf r) (34 : Int).toNat.toUInt8 + 1 := rfl
    rw [hu, hc]
    by_cases h1 : c = 34
    · subst h1
      exact Or.inr ⟨0, by simp, by simp, by simp, by simp⟩
    · rcases ih (fun x hx => h x (by simp [hx])) with ⟨e1, e2⟩ | ⟨k, e1, e2, e3, e4⟩
      · refine Or.inl ⟨by rw [e1]; simp [h1], ?_⟩
        intro x hx
        rcases List.mem_cons.1 hx with rfl | hx
        · exact h1
        · exact e2 x hx
      · refine Or.inr ⟨k + 1, ?_, by simp; omega, ?_, ?_⟩
        · rw [e1]; simp [h1]
        · simp only [List.take_succ_cons, List.drop_succ_cons, List.cons_append]
          rw [← e3]
        · intro x hx
          rw [List.take_succ_cons] at hx
          rcases List.mem_cons.1 hx with rfl | hx
          · exact h1
          · exact e4 x hx

theorem tw_lt : ∀ (r : List Int) (k : Nat), k < (r.takeWhile (fun c => decide (c = 92))).length → k < r.length ∧ r.getD k 0 = 92 := by
  intro r
  induction r with
  | nil => intro k h; simp at h
  | cons c r ih =>
    intro k h
    rw [List.takeWhile_cons] at h
    by_cases hc : c = 92
    · simp only [hc, decide_true, if_true, List.length_cons] at h
      cases k with
      | zero => simp [hc]
      | succ k => have := ih k (by omega); simpa using this
    · simp [hc] at h

theorem tw_eq : ∀ (r : List Int), (r.takeWhile (fun c => decide (c = 92))).length < r.length → r.getD (r.takeWhile (fun c => decide (c = 92))).length 0 ≠ 92 := by
  intro r
  induction r with
  | nil => intro h; simp at h
  | cons c r ih =>
    intro h
    rw [List.takeWhile_cons] at h ⊢
    by_cases hc : c = 92
    · simp only [hc, decide_true, if_true, List.length_cons] at h ⊢
      have := ih (by omega)
      simpa using this
    · simp [hc]

theorem getD_rev (a : List Int) (k : Nat) (h : k < a.length) : a.reverse.getD k 0 = a.getD (a.length - 1 - k) 0 := by
  simp only [List.getD, List.getElem?_reverse h]

theorem getD_seg (T : List Int) (en i j : Nat) (h : j < i) : ((T.drop en).take i).getD j 0 = T.getD (en + j) 0 := by
  simp [List.getD, h]

theorem esc_yes (T : List Int) (en i k : Nat) (h : en + i ≤ T.length) (hk : k < trail ((T.drop en).take i)) : k < i ∧ T.getD (en + i - k - 1) 0 = 92 := by
  have hl : ((T.drop en).take i).length = i := by simp; omega
  have := tw_lt _ _ hk
  rw [List.length_reverse, hl] at this
  refine ⟨this.1, ?_⟩
  have h2 := this.2
  rw [getD_rev _ _ (by omega), hl, getD_seg _ _ _ _ (by omega)] at h2
  rw [← h2]; congr 1; omega

theorem trail_le (a : List Int) : trail a ≤ a.length := by
  rcases Nat.lt_or_ge a.length (trail a) with h | h
  · have := tw_lt _ _ h
    simp at this
  · exact h

theorem esc_no (T : List Int) (p en i : Nat) (h : en + i ≤ T.length) (hp : p < en) (hb : T.getD (en - 1) 0 = 34 ∨ en - 1 = p) : en + i - trail ((T.drop en).take i) - 1 ≤ p ∨ T.getD (en + i - trail ((T.drop en).take i) - 1) 0 ≠ 92 := by
  have hl : ((T.drop en).take i).length = i := by simp; omega
  have hle := trail_le ((T.drop en).take i)
  rw [hl] at hle
  rcases Nat.lt_or_ge (trail ((T.drop en).take i)) i with h1 | h1
  · right
    have := tw_eq ((T.drop en).take i).reverse (by rw [List.length_reverse, hl]; exact h1)
    have e : (((T.drop en).take i).reverse.takeWhile (fun c => decide (c = 92))).length = trail ((T.drop en).take i) := rfl
    rw [e, getD_rev _ _ (by omega), hl, getD_seg _ _ _ _ (by omega)] at this
    intro h2
    apply this
    rw [← h2]; congr 1; omega
  · have e : trail ((T.drop en).take i) = i := by omega
    rw [e]
    rcases hb with hb | hb
    · right
      have e2 : en + i - i - 1 = en - 1 := by omega
      rw [e2, hb]; decide
    · left; omega

/-- Bytes. -/
def Byt (T : List Int) : Prop := ∀ c ∈ T, 0 ≤ c ∧ c < 256

theorem idx_any (a : Addr) (g o n c : Nat) (xs : List Int) (w : World) (hT : Rw w g o xs) (hn : n = xs.length) (ha : 0 < n → a = ⟨g, o, none⟩) :
    Calls Try.prog 28 #[.slice (some a) n c, .int .u8 34] w fun e w' => e = .returned (.int .i64 (Lib.indexByte (Lib.bytesOf xs) (34 : Int).toNat.toUInt8)) ∧ w = w' := by
  subst hn
  refine (Try.bytes_IndexByte_at a xs.length c xs 34 w rfl ?_).mono (fun e w' h => ⟨h.1, h.2.symm⟩)
  intro i hi
  obtain rfl := ha (by omega)
  have hadd : (⟨g, o, none⟩ : Addr).add i = ⟨g, o + i, none⟩ := by unfold Addr.add; split <;> simp_all
  rw [hadd]
  exact hT i hi

/-- What 'str' leaves: 'p' is the place of the opening quote. -/
def StrPost (b : Nat) (tv : Value) (T : List Int) (p : Nat) (f : Bool) (w : World) (e : Ending) (w' : World) : Prop :=
  (∃ v, e = .returned v) ∧ Kept [b] w w' ∧ ((lex false (T.drop (p + 1)) = none ∧ Wk w' b tv T.length true) ∨ ∃ n, lex false (T.drop (p + 1)) = some n ∧ Wk w' b tv (p + 1 + n) f)

theorem peek_at (b g o cap : Nat) (T : List Int) (p : Nat) (f : Bool) (c : Int) (w : World) (hW : Wk w b (.slice (some ⟨g, o, none⟩) T.length cap) p f) (hT : Rw w g o T) (hgb : g ≠ b) (hl : T.length ≤ 1048576) (hp : p < T.length) (hc : T.getD p 0 = c) (hs : isSp c = false) :
    Calls Try.prog 22 #[.pointer (some ⟨b, 0, none⟩)] w fun e w' => e = .returned (.int .u8 c) ∧ Wk w' b (.slice (some ⟨g, o, none⟩) T.length cap) p f ∧ Kept [b] w w' := by
  refine (peek_any b g o cap T p f w hW hT hgb hl).mono ?_
  intro e w' h
  rw [skip_no T p hp (by rw [hc]; exact hs), hd0_at T p hp, hc] at h
  exact h

/-- The loop of 'str': 'en' lies behind the opening quote, or behind a quote that a backslash took. -/
def StrI (b : Nat) (tv : Value) (T : List Int) (p : Nat) (f : Bool) (w : World) (gk en : Nat) (wr : World) : Prop :=
  Wk wr b tv p f ∧ Kept [b] w wr ∧ gk = T.length - en ∧ p < en ∧ en ≤ T.length ∧ (T.getD (en - 1) 0 = 34 ∨ en - 1 = p) ∧ lex false (T.drop (p + 1)) = (lex false (T.drop en)).map (· + (en - (p + 1)))

theorem str_step (T : List Int) (p en k : Nat) (h1 : p < en) (hk : en + k < T.length) (hno : ∀ c ∈ (T.drop en).take k, c ≠ 34) (hsp : T.drop en = (T.drop en).take k ++ 34 :: (T.drop en).drop (k + 1))
    (h4 : lex false (T.drop (p + 1)) = (lex false (T.drop en)).map (· + (en - (p + 1)))) :
    (trail ((T.drop en).take k) % 2 = 0 → lex false (T.drop (p + 1)) = some (en + k + 1 - (p + 1))) ∧
    (trail ((T.drop en).take k) % 2 = 1 → lex false (T.drop (p + 1)) = (lex false (T.drop (en + k + 1))).map (· + (en + k + 1 - (p + 1)))) ∧ T.getD (en + k) 0 = 34 := by
  have e := congrArg (lex false) hsp
  rw [lex_quote _ _ hno] at e
  have hl : ((T.drop en).take k).length = k := by simp; omega
  rw [hl, List.drop_drop] at e
  refine ⟨fun h => ?_, fun h => ?_, ?_⟩
  · rw [h4, e, if_pos h]
    simp; omega
  · rw [h4, e, if_neg (by omega), Option.map_map]
    have : en + (k + 1) = en + k + 1 := by omega
    rw [this]
    congr 1
    funext y
    simp; omega
  · have h2 := congrArg (fun l : List Int => l.getD k 0) hsp
    have h3 : (List.take k (List.drop en T) ++ 34 :: List.drop (k + 1) (List.drop en T)).getD k 0 = 34 := by
      simp only [List.getD]
      rw [List.getElem?_append_right (by omega), hl]
      simp
    simp only [h3] at h2
    rw [← h2]
    simp [List.getD]

set_option maxRecDepth 100000 in
set_option maxHeartbeats 2000000 in
theorem str_any (b g o cap : Nat) (T : List Int) (p : Nat) (f : Bool) (w : World) (hW : Wk w b (.slice (some ⟨g, o, none⟩) T.length cap) p f) (hT : Rw w g o T) (hB : Byt T) (hgb : g ≠ b) (hl : T.length ≤ 1048576) (hcap : T.length ≤ cap) (hp : p < T.length) (hq : T.getD p 0 = 34) :
    Calls Try.prog 24 #[.pointer (some ⟨b, 0, none⟩)] w fun e w' => StrPost b (.slice (some ⟨g, o, none⟩) T.length cap) T p f w e w' := by
  have HW : Hid (Wk w b (.slice (some ⟨g, o, none⟩) T.length cap) p f) := hW
  have HT : Hid (Rw w g o T) := hT
  have HB : Hid (Byt T) := hB
  have HQ : Hid (T.getD p 0 = 34) := hq
  clear hW hT hB hq
  have bp : (p : Int) < (T.length : Int) := by omega
  have bl : (T.length : Int) ≤ 1048576 := by omega
  have hw1 := wr64 ((p : Int) + 1) (by omega) (by omega)
  go_enter Try.func24, Try.ntmps24
  go_wp2_with (go_at_call 22; refine (peek_at b g o cap T p f 34 w HW.out HT.out hgb hl hp HQ.out rfl).mono ?_; rintro e w1 ⟨rfl, hW1, hK1⟩; obtain ⟨c0, c1, c2, hf⟩ := hW1.facts; have HW1 : Hid (Wk w1 b (.slice (some ⟨g, o, none⟩) T.length cap) p f) := hW1; have HK1 : Hid (Kept [b] w w1) := hK1; clear hW1 hK1)
  go_loopg [4] (T.length - (p + 1)) (fun gk v wr => ∃ en : Nat, v = .int .i64 en ∧ StrI b (.slice (some ⟨g, o, none⟩) T.length cap) T p f w gk en wr)
  case atStart => exact ⟨p + 1, by go_num, HW1.out, HK1.out, rfl, by omega, by omega, Or.inr (by omega), by simp⟩
  case round =>
    clear HW1 HK1 c0 c1 c2 hf
    obtain ⟨en, rfl, hW, hK, hg, h1, h2, h3, h4⟩ := hrel
    obtain ⟨c0, c1, c2, hf⟩ := hW.facts
    have HW1 : Hid (Wk wr b (.slice (some ⟨g, o, none⟩) T.length cap) p f) := hW
    have HK1 : Hid (Kept [b] w wr) := hK
    have HG : Hid (gk = T.length - en) := hg
    have H3 : Hid (T.getD (en - 1) 0 = 34 ∨ en - 1 = p) := h3
    have H4 : Hid (lex false (T.drop (p + 1)) = (lex false (T.drop en)).map (· + (en - (p + 1)))) := h4
    have HT1 : Hid (Rw wr g o T) := HT.out.kept hK (by simpa using hgb)
    clear hW hK hg h3 h4
    have b1 : (0 : Int) ≤ (en : Int) := by omega
    have b2 : (en : Int) ≤ (T.length : Int) := by omega
    have b3 : (T.length : Int) ≤ (cap : Int) := by omega
    obtain ⟨ix, hix⟩ : ∃ ix, ix = Lib.indexByte (Lib.bytesOf (T.drop en)) (34 : Int).toNat.toUInt8 := ⟨_, rfl⟩
    have HIX : Hid (ix = Lib.indexByte (Lib.bytesOf (T.drop en)) (34 : Int).toNat.toUInt8) := hix
    have HC := ix_ints (T.drop en) (fun c hc => HB.out c (List.mem_of_mem_drop hc))
    rw [← hix] at HC
    have HCH : Hid _ := HC
    clear HC hix
    have HSUB : Hid (Rw wr g (o + en) (T.drop en)) := by
      have := HT1.out.sub en (T.length - en)
      rw [List.take_of_length_le (by simp)] at this
      exact this
    rcases HCH.out with ⟨rfl, hno⟩ | ⟨k, rfl, hk, hsp, hno⟩
    · have HN : Hid (lex false (T.drop (p + 1)) = none) := by
        have := H4.out
        rw [lex_noquote _ _ hno] at this
        exact this
      clear hno HCH
      by_cases hce : cap = en
      · subst hce
        have hTc : T.length = cap := by omega
        go_wp2_with (first | (go_at_call 28; refine (idx_any _ g (o + cap) _ _ (T.drop cap) _ (by exact HSUB.out) (by simp [hTc]) (by intro h; omega)).mono ?_; rintro e w2 ⟨rfl, rfl⟩; rw [← HIX.out]) | (go_at_call 23; refine (fail_any b (some ⟨g, o, none⟩) T.length cap p f _ (by exact HW1.out)).mono ?_; rintro e w3 ⟨rfl, hW3, hK3⟩))
        go_ret
        exact ⟨⟨_, rfl⟩, HK1.out.trans hK3, Or.inl ⟨HN.out, hW3⟩⟩
      · go_wp2_with (first | (go_at_call 28; refine (idx_any _ g (o + en) _ _ (T.drop en) _ (by exact HSUB.out) (by simp) (by intro h; simp)).mono ?_; rintro e w2 ⟨rfl, rfl⟩; rw [← HIX.out]) | (go_at_call 23; refine (fail_any b (some ⟨g, o, none⟩) T.length cap p f _ (by exact HW1.out)).mono ?_; rintro e w3 ⟨rfl, hW3, hK3⟩))
        go_ret
        exact ⟨⟨_, rfl⟩, HK1.out.trans hK3, Or.inl ⟨HN.out, hW3⟩⟩
    · have hk' : en + k < T.length := by simp at hk; omega
      have hce : ¬ cap = en := by omega
      have HNO : Hid (∀ c ∈ (T.drop en).take k, c ≠ 34) := hno
      have HSP : Hid (T.drop en = (T.drop en).take k ++ 34 :: (T.drop en).drop (k + 1)) := hsp
      clear hno hsp HCH hk
      have b4 : (en : Int) + (k : Int) < (T.length : Int) := by omega
      have hw2 := wr64 ((en : Int) + (k : Int)) (by omega) (by omega)
      go_wp2_with (go_at_call 28; refine (idx_any _ g (o + en) _ _ (T.drop en) _ (by exact HSUB.out) (by simp) (by intro h; simp)).mono ?_; rintro e w2 ⟨rfl, rfl⟩; rw [← HIX.out])
      obtain ⟨tr, htr⟩ : ∃ tr, tr = trail ((T.drop en).take k) := ⟨_, rfl⟩
      have HY : Hid (∀ x, x < tr → x < k ∧ T.getD (en + k - x - 1) 0 = 92) := fun x hx => esc_yes T en k x (by omega) (by rw [← htr]; exact hx)
      have HNE : Hid (en + k - tr - 1 ≤ p ∨ T.getD (en + k - tr - 1) 0 ≠ 92) := by
        have := esc_no T p en k (by omega) h1 H3.out
        rw [← htr] at this
        exact this
      have htk : tr ≤ k := by
        have := trail_le ((T.drop en).take k)
        rw [← htr] at this
        simp at this; omega
      have HTR : Hid (tr = trail ((T.drop en).take k)) := htr
      clear htr
      go_loopw [6] (fun v w2 => ∃ x : Nat, v = .int .i64 x ∧ x ≤ tr ∧ w2 = wr) (fun v _ => tr - (intOf v).toNat)
      case atStart => exact ⟨0, rfl, Nat.zero_le _, rfl⟩
      case round =>
        obtain ⟨x, rfl, hx, rfl⟩ := hrel
        have hw3 := wr64 ((en : Int) + (k : Int) - (x : Int)) (by omega) (by omega)
        have hw4 := wr64 ((en : Int) + (k : Int) - (x : Int) - 1) (by omega) (by omega)
        have ht : ((en : Int) + (k : Int) - (x : Int) - 1).toNat = en + k - x - 1 := by omega
        by_cases hlt : x < tr
        · obtain ⟨hxk, hc9⟩ := HY.out x hlt
          have g1 : (p : Int) < (en : Int) + (k : Int) - (x : Int) - 1 := by omega
          have g2 : (0 : Int) ≤ (en : Int) + (k : Int) - (x : Int) - 1 := by omega
          have g3 : (en : Int) + (k : Int) - (x : Int) - 1 < (T.length : Int) := by omega
          have hc := HT1.out (en + k - x - 1) (by omega)
          rw [hc9] at hc
          have HC9 : Hid _ := hc9
          clear hc9
          go_wp2
          exact ⟨⟨x + 1, by go_num, by omega, by trivial⟩, by simp [intOf]; omega⟩
        · have hxe : x = tr := by omega
          subst hxe
          have hw5 := wr64 ((en : Int) + (k : Int) + 1) (by omega) (by omega)
          have b5 : (0 : Int) ≤ (p : Int) := by omega
          have b6 : (p : Int) ≤ (en : Int) + (k : Int) + 1 := by omega
          have b7 : (en : Int) + (k : Int) + 1 ≤ (cap : Int) := by omega
          have hf1 := hf 1
          have hcp : ¬ cap = p := by omega
          have HSTEP : Hid _ := str_step T p en k h1 hk' HNO.out HSP.out H4.out
          have EV : Hid (x % 2 = 0 → lex false (T.drop (p + 1)) = some (en + k + 1 - (p + 1))) := fun h => HSTEP.out.1 (by rw [← HTR.out]; exact h)
          have OD : Hid (x % 2 = 1 → lex false (T.drop (p + 1)) = (lex false (T.drop (en + k + 1))).map (· + (en + k + 1 - (p + 1)))) := fun h => HSTEP.out.2.1 (by rw [← HTR.out]; exact h)
          have QU : Hid (T.getD (en + k) 0 = 34) := HSTEP.out.2.2
          have FIN : Hid (x % 2 = 0 → StrPost b (.slice (some ⟨g, o, none⟩) T.length cap) T p f w (.returned (.slice (some ⟨g, o + p, none⟩) (en + k + 1 - p) (cap - p))) (wr.setCell ⟨b, 1, none⟩ (.int .i64 ((en : Int) + (k : Int) + 1)))) := by
            intro h
            refine ⟨⟨_, rfl⟩, HK1.out.setCell (p := ⟨b, 1, none⟩) (by simp) _, Or.inr ⟨_, EV.out h, ?_⟩⟩
            have e : p + 1 + (en + k + 1 - (p + 1)) = en + k + 1 := by omega
            rw [e]
            exact HW1.out.set1 (en + k + 1)
          have NXT : Hid (x % 2 = 1 → StrI b (.slice (some ⟨g, o, none⟩) T.length cap) T p f w (T.length - (en + k + 1)) (en + k + 1) wr) := by
            intro h
            exact ⟨HW1.out, HK1.out, rfl, by omega, by omega, Or.inl (by rw [show en + k + 1 - 1 = en + k from by omega]; exact QU.out), OD.out h⟩
          clear HSTEP EV OD QU
          rcases HNE.out with hpos | hne
          · have g1 : (en : Int) + (k : Int) - (x : Int) - 1 ≤ (p : Int) := by omega
            by_cases hev : x % 2 = 0
            · have hm : (x : Int) % 2 = 0 := by omega
              go_wp2
              go_ret
              exact FIN.out hev
            · have hm : (x : Int) % 2 = 1 := by omega
              go_wp2
              go_roundg (T.length - (en + k + 1))
              case measure => rw [HG.out]; omega
              case rel => exact ⟨en + k + 1, by go_num, NXT.out (by omega)⟩
          · by_cases hpos : en + k - x - 1 ≤ p
            · have g1 : (en : Int) + (k : Int) - (x : Int) - 1 ≤ (p : Int) := by omega
              by_cases hev : x % 2 = 0
              · have hm : (x : Int) % 2 = 0 := by omega
                go_wp2
                go_ret
                exact FIN.out hev
              · have hm : (x : Int) % 2 = 1 := by omega
                go_wp2
                go_roundg (T.length - (en + k + 1))
                case measure => rw [HG.out]; omega
                case rel => exact ⟨en + k + 1, by go_num, NXT.out (by omega)⟩
            · have g1 : (p : Int) < (en : Int) + (k : Int) - (x : Int) - 1 := by omega
              have g2 : (0 : Int) ≤ (en : Int) + (k : Int) - (x : Int) - 1 := by omega
              have g3 : (en : Int) + (k : Int) - (x : Int) - 1 < (T.length : Int) := by omega
              have hc := HT1.out (en + k - x - 1) (by omega)
              obtain ⟨cc, hcc⟩ : ∃ cc, cc = T.getD (en + k - x - 1) 0 := ⟨_, rfl⟩
              rw [← hcc] at hc hne
              clear hcc HNE
              by_cases hev : x % 2 = 0
              · have hm : (x : Int) % 2 = 0 := by omega
                go_wp2
                go_ret
                exact FIN.out hev
              · have hm : (x : Int) % 2 = 1 := by omega
                go_wp2
                go_roundg (T.length - (en + k + 1))
                case measure => rw [HG.out]; omega
                case rel => exact ⟨en + k + 1, by go_num, NXT.out (by omega)⟩
end Go.Proofs.Qxb6606374a
