import Derived.Test.Qxb6605488aWo
namespace Go.Proofs.Qxb6605488a
open Go.RowKit
set_option linter.unusedVariables false
set_option linter.unusedSimpArgs false

theorem toList_inj {a b : ByteArray} (h : a.toList = b.toList) : a = b := by
  rw [Lib.toList_data, Lib.toList_data] at h
  apply ByteArray.ext
  exact Array.toList_inj.1 h

theorem Sl.lt {Q : Nat → Prop} {w : World} {v : Value} {l : List Value} (h : Sl Q w v l) : Sl (fun k => k < w.heap.size) w v l := by
  obtain ⟨a, c, h1, h2, h3⟩ := h
  refine ⟨a, c, h1, h2, fun i hi => ?_⟩
  obtain ⟨x, e, q, hc⟩ := h3 i hi
  refine ⟨x, e, ?_, hc⟩
  rcases Nat.lt_or_ge x.block w.heap.size with h | h
  · exact h
  · have : (x.add i).block = x.block := add_block x i
    simp [World.cell?, this, Array.getElem?_eq_none h] at hc

theorem bsl_bts (s : ByteArray) (m : Nat) (hm : m ≤ s.size) : bts (bsl s m) = (bts s).take m ++ 92 :: (bts s).drop m := by
  unfold bsl
  rw [bts_app, bts_app, bts_ext, bts_from]
  simp only [List.drop_zero, Nat.sub_zero]
  rw [List.append_assoc]
  rfl
theorem bsl_size (s : ByteArray) (m : Nat) (hm : m ≤ s.size) : (bsl s m).size = s.size + 1 := by
  rw [← bts_len, bsl_bts s m hm, List.length_append, List.length_take, List.length_cons, List.length_drop, bts_len]
  omega
theorem bsl_lt (s : ByteArray) (m k : Nat) (hm : m ≤ s.size) (hk : k < m) : (bts (bsl s m)).getD k 0 = (bts s).getD k 0 := by
  rw [bsl_bts s m hm, getD_app _ _ _ (by rw [List.length_take, bts_len]; omega)]
  simp only [List.getD]
  rw [List.getElem?_take, if_pos hk]
theorem bsl_at (s : ByteArray) (m : Nat) (hm : m ≤ s.size) : (bts (bsl s m)).getD m 0 = 92 := by
  have hl : ((bts s).take m).length = m := by rw [List.length_take, bts_len]; omega
  rw [bsl_bts s m hm]
  simp only [List.getD]
  rw [List.getElem?_append_right (by omega), hl]
  simp
theorem bsl_from (s : ByteArray) (m : Nat) (hm : m ≤ s.size) : (bsl s m).extract (m + 1) (bsl s m).size = s.extract m s.size := by
  apply bts_inj
  have hl : ((bts s).take m).length = m := by rw [List.length_take, bts_len]; omega
  rw [bts_from, bts_from, bsl_bts s m hm, List.drop_append, hl, List.drop_of_length_le (by omega)]
  simp
theorem bsl_ne (s : ByteArray) (m : Nat) (hm : m ≤ s.size) : bsl s m ≠ s := by
  intro e
  have := bsl_size s m hm
  rw [e] at this
  omega
theorem bsl_hid (s : ByteArray) (m : Nat) (h : MkAt s m) : hid (bts (bsl s m)) = -1 := by
  have hm : m ≤ s.size := Nat.le_of_lt h.1
  have hrun : run isMk (bts (bsl s m)) = m := by
    refine run_is isMk _ m (fun k hk => ⟨?_, ?_⟩) (fun _ => ?_)
    · rw [bts_len, bsl_size s m hm]; omega
    · rw [bsl_lt s m k hm hk]; exact h.2.1 k hk
    · rw [bsl_at s m hm]; rfl
  have hd : (bts (bsl s m)).drop m = 92 :: (bts s).drop m := by
    have hl : ((bts s).take m).length = m := by rw [List.length_take, bts_len]; omega
    rw [bsl_bts s m hm, List.drop_append, hl, List.drop_of_length_le (by omega)]
    simp
  have hp : ∀ (p r : List Int), 0 < p.length → p.getD 0 0 ≠ 92 → pf p (92 :: r) = false := by
    intro p r hp hq
    cases hx : pf p (92 :: r) with
    | false => rfl
    | true =>
      have := pf_hd hx hp
      exact absurd this.symm hq
  unfold hid hidR
  rw [hrun, hd, hp [126, 126, 126] _ (by decide) (by decide), hp [96, 96, 96] _ (by decide) (by decide), hp [91] _ (by decide) (by decide)]
  rfl

/-- A line behind the escape: as it was, or with one backslash put in. -/
theorem line_kind (st : Bool) (kk : Int) (nb : Bool) (i : Nat) (l : List ByteArray) (j : Nat) (hj : j < l.length) :
    (erow st kk nb i l).getD j ByteArray.empty = l.getD j ByteArray.empty ∨ (kk = 0 ∧ ¬ exA st i j ∧ ∃ m, MkAt (l.getD j ByteArray.empty) m ∧ (erow st kk nb i l).getD j ByteArray.empty = bsl (l.getD j ByteArray.empty) m) := by
  by_cases hk : kk = 0
  · subst hk
    rw [erow_at st nb i l j hj]
    unfold eln
    by_cases hm : 0 ≤ mrk st nb i l j
    · right
      rw [if_pos hm]
      obtain ⟨m, e, h⟩ := mrk_at st nb i l j hj hm
      refine ⟨rfl, fun hA => ?_, m, h, ?_⟩
      · rw [mrk_a hA] at hm; omega
      · rw [e]; rfl
    · left
      rw [if_neg hm]
  · left
    unfold erow
    rw [if_neg hk]

theorem Lns.row {Q : Nat → Prop} {w : World} {v : Value} {L : List (List ByteArray)} (h : Lns Q w v L) (i : Nat) (hi : i < L.length) :
    ∃ a c x ra rc, v = .slice a L.length c ∧ a = some x ∧ w.cell? (x.add i) = some (.slice ra (L.getD i []).length rc) ∧ ∀ j, j < (L.getD i []).length → ∃ y, ra = some y ∧ w.cell? (y.add j) = some (.string ((L.getD i []).getD j ByteArray.empty)) := by
  obtain ⟨a, c, h1, h2, h3⟩ := h.open
  obtain ⟨x, rvv, e1, e2, ra, rc, e3, e4, e5⟩ := h3 i hi
  subst e3
  exact ⟨a, c, x, ra, rc, h1, e1, e2, e5⟩

set_option maxRecDepth 100000 in
set_option maxHeartbeats 16000000 in
theorem law6 (vk vn vl : Value) (ks : List Int) (ns : List Bool) (L : List (List ByteArray)) (st : Bool) (w : World) (hk : Sl (fun _ => True) w vk (ks.map (Value.int .i64))) (hn : Sl (fun _ => True) w vn (ns.map Value.bool)) (hL : Lns (fun _ => True) w vl L) (hz : Zc w)
    (hkl : ks.length ≤ 9223372036854775807) (hnl : ns.length ≤ 9223372036854775807) (hll : L.length ≤ 9223372036854775807) (hmax : ∀ i, i < L.length → (L.getD i []).length ≤ 9223372036854775807 ∧ ∀ j, j < (L.getD i []).length → ((L.getD i []).getD j ByteArray.empty).size ≤ 9223372036854775807) :
    Calls Try.prog 6 #[vk, vn, vl, .bool st] w fun e w' => e = .returned (.bool true) ∧ Kept [] w w' := by
  have HK : Hid (Sl (fun _ => True) w vk (ks.map (Value.int .i64))) := hk
  have HN : Hid (Sl (fun _ => True) w vn (ns.map Value.bool)) := hn
  have HL : Hid (Lns (fun _ => True) w vl L) := hL
  have HZ : Hid (Zc w) := hz
  have HMAX : Hid (∀ i, i < L.length → (L.getD i []).length ≤ 9223372036854775807 ∧ ∀ j, j < (L.getD i []).length → ((L.getD i []).getD j ByteArray.empty).size ≤ 9223372036854775807) := hmax
  obtain ⟨ak, ck, rfl, hck, _⟩ := hk.at 0
  obtain ⟨an, cn, rfl, hcn, _⟩ := hn.at false
  obtain ⟨al, cl, rfl, hcl, _⟩ := hL.open
  clear hk hn hL hz hmax
  go_enter Try.func6, Try.ntmps6
  go_wp2_with fail
  go_at_call 20
  refine (bytes20_any ak an ks.length ns.length ck cn _ L st _ HL.out hkl hnl hll HMAX.out).mono ?_
  rintro e w' ⟨b, rfl, rfl⟩
  cases b with
  | false =>
    go_wp2_with fail
    go_ret
    exact ⟨rfl, Kept.refl _ _⟩
  | true =>
    go_wp2_with fail
    go_at_call 13
    refine (toobig2_any ak an ks.length ns.length ck cn _ L _ HL.out hkl hnl hll HMAX.out).mono ?_
    rintro e w' ⟨b, rfl, hsm, rfl⟩
    cases b with
    | true =>
      go_wp2_with fail
      go_ret
      exact ⟨rfl, Kept.refl _ _⟩
    | false =>
      have HSM : Hid (Small L) := hsm rfl
      clear hsm
      by_cases h1 : ks.length = L.length
      · have g1 : ((ks.length : Int) != (L.length : Int)) = false := by simp; omega
        by_cases h2 : ns.length = L.length
        · have g2 : ((ns.length : Int) != (L.length : Int)) = false := by simp; omega
          have H1 : Hid (ks.length = L.length) := h1
          have H2 : Hid (ns.length = L.length) := h2
          have hsmall := HSM.out.1
          have HS2 : Hid (∀ i, i < L.length → (L.getD i []).length ≤ 65536 ∧ rsum (L.getD i []) ≤ 1048576) := HSM.out.2
          clear h1 h2
          go_wp2_with fail
          go_at_call 14
          refine (clone14_any _ ks _ HK.out (by rw [H1.out]; omega)).mono ?_
          rintro e w1 ⟨vk1, rfl, hk1, hK1⟩
          have HK1 : Hid (Sl (fun _ => True) w1 vk1 (ks.map (Value.int .i64))) := hk1.any
          have K1 : Hid (Kept [] w w1) := hK1
          clear hk1 hK1
          go_wp2_with fail
          go_at_call 15
          refine (clone15_any _ ns _ (HN.out.kept K1.out (by simp)) (by rw [H2.out]; omega)).mono ?_
          rintro e w2 ⟨vn1, rfl, hn1, hK2⟩
          have HN2 : Hid (Sl (fun _ => True) w2 vn1 (ns.map Value.bool)) := hn1.any
          have HK2 : Hid (Sl (fun k => k < w2.heap.size) w2 vk1 (ks.map (Value.int .i64))) := (HK1.out.kept hK2 (by simp)).lt
          have K2 : Hid (Kept [] w w2) := K1.out.trans hK2
          clear hn1 hK2
          go_wp2_with fail
          go_at_call 16
          refine (clone16_any _ L _ (HL.out.kept K2.out (by simp)) hsmall (fun i hi => (HS2.out i hi).1)).mono ?_
          rintro e w3 ⟨vl1, rfl, hl1, hK3⟩
          have HL3 : Hid (OwnV w2.heap.size w3 vl1 L) := hl1
          have HN3 : Hid (Sl (fun _ => True) w3 vn1 (ns.map Value.bool)) := HN2.out.kept hK3 (by simp)
          have HK3 : Hid (Sl (fun k => k < w2.heap.size) w3 vk1 (ks.map (Value.int .i64))) := HK2.out.kept hK3 (by simp)
          have K3 : Hid (Kept [] w w3) := K2.out.trans hK3
          clear hl1 hK3
          go_wp2_with fail
          go_at_call 16
          refine (clone16_any _ L _ HL3.out.lns.any hsmall (fun i hi => (HS2.out i hi).1)).mono ?_
          rintro e w4 ⟨vb, rfl, hb4, hK4⟩
          have HB4 : Hid (OwnV w3.heap.size w4 vb L) := hb4
          have HN4 : Hid (Sl (fun _ => True) w4 vn1 (ns.map Value.bool)) := HN3.out.kept hK4 (by simp)
          have HK4 : Hid (Sl (fun k => k < w2.heap.size) w4 vk1 (ks.map (Value.int .i64))) := HK3.out.kept hK4 (by simp)
          have HL4 : Hid (OwnU w2.heap.size w3.heap.size w4 vl1 L) := HL3.out.up.kept hK4
          have K4 : Hid (Kept [] w w4) := K3.out.trans hK4
          have Z34 : Hid (w3.heap.size ≤ w4.heap.size) := hK4.size
          clear hb4 hK4
          go_wp2_with fail
          go_at_call 17
          refine (mesc_any vk1 vn1 vb ks ns L st _ hsmall H1.out H2.out HK4.out.any HN4.out HB4.out.lns.any HS2.out).mono ?_
          rintro e w5 ⟨vw, rfl, hw, hK5⟩
          have HW5 : Hid (Lns (fun q => w3.heap.size ≤ q) w5 vw (eall st ks ns L)) := hw.mono (fun q hq => Nat.le_trans Z34.out hq)
          have HB5 : Hid (Lns (fun q => w3.heap.size ≤ q) w5 vb L) := HB4.out.lns.kept hK5 (by simp)
          have HN5 : Hid (Sl (fun _ => True) w5 vn1 (ns.map Value.bool)) := HN4.out.kept hK5 (by simp)
          have HK5 : Hid (Sl (fun k => k < w2.heap.size) w5 vk1 (ks.map (Value.int .i64))) := HK4.out.kept hK5 (by simp)
          have HL5 : Hid (OwnU w2.heap.size w3.heap.size w5 vl1 L) := HL4.out.kept hK5
          have K5 : Hid (Kept [] w w5) := K4.out.trans hK5
          clear hw hK5
          go_wp2_with fail
          go_at_call 18
          refine (zzesc_all vk1 vn1 vl1 ks ns L st _ w2.heap.size w3.heap.size hsmall H1.out H2.out HK5.out.any HN5.out HL5.out (HZ.out.kept K5.out (by simp)) HS2.out).mono ?_
          rintro e w6 ⟨rfl, hl6, S, hK6, hS⟩
          have HL6 : Hid (Lns (fun _ => True) w6 vl1 (eall st ks ns L)) := hl6.lns.any
          have HW6 : Hid (Lns (fun _ => True) w6 vw (eall st ks ns L)) := (HW5.out.kept hK6 (fun k hk hm => by have := (hS k hm).2; omega)).any
          have HB6 : Hid (Lns (fun _ => True) w6 vb L) := (HB5.out.kept hK6 (fun k hk hm => by have := (hS k hm).2; omega)).any
          have HK6 : Hid (Sl (fun _ => True) w6 vk1 (ks.map (Value.int .i64))) := (HK5.out.kept hK6 (fun k hk hm => by have := (hS k hm).1; omega)).any
          have K6 : Hid (Kept [] w w6) := K5.out.trans_new hK6 (fun k hk => Or.inr (by have := (hS k hk).1; have := K2.out.size; omega))
          have HZ6 : Hid (Zc w6) := HZ.out.kept K6.out (by simp)
          clear hl6 hK6 hS HK1 HK2 HK3 HK4 HK5 HN2 HN3 HN4 HN5 HL3 HL4 HL5 HB4 HB5 HW5 K1 K2 K3 K4 K5
          obtain ⟨ak6, ck6, rfl, hck6, hkc6⟩ := HK6.out.at 0
          obtain ⟨al6, cl6, rfl, hcl6, hrl6⟩ := HL6.out.open
          obtain ⟨ab6, cb6, rfl, hcb6, hrb6⟩ := HB6.out.open
          obtain ⟨aw6, cw6, rfl, hcw6, hrw6⟩ := HW6.out.open
          rw [eall_len] at hcl6 hrl6 hcw6 hrw6 ⊢
          rw [H1.out] at hck6 hkc6 ⊢
          have HKC : Hid (∀ i, i < L.length → ∃ x, ak6 = some x ∧ True ∧ w6.cell? (x.add i) = some (.int .i64 (ks.getD i 0))) := hkc6
          have HRL : Hid (∀ i, i < L.length → ∃ x rv, al6 = some x ∧ w6.cell? (x.add i) = some rv ∧ RowAt w6 rv ((eall st ks ns L).getD i [])) := hrl6
          have HRB : Hid (∀ i, i < L.length → ∃ x rv, ab6 = some x ∧ w6.cell? (x.add i) = some rv ∧ RowAt w6 rv (L.getD i [])) := hrb6
          have HRW : Hid (∀ i, i < L.length → ∃ x rv, aw6 = some x ∧ w6.cell? (x.add i) = some rv ∧ RowAt w6 rv ((eall st ks ns L).getD i [])) := hrw6
          clear hkc6 hrl6 hrb6 hrw6 HK6 HL6 HB6 HW6
          go_wp2_with fail
          go_loopw [11, 12, 13] (fun t u v wx => ∃ i cc : Nat, t = .int .i64 cc ∧ u = .int .i64 cc ∧ v = .int .i64 i ∧ i ≤ L.length ∧ cc ≤ i * 65536 ∧ Kept [] w6 wx) (fun _ _ v _ => L.length - (intOf v).toNat)
          case atStart => exact ⟨0, 0, rfl, rfl, rfl, Nat.zero_le _, Nat.zero_le _, Kept.refl _ _⟩
          case round =>
            obtain ⟨w7, hw7⟩ : ∃ w7, w7 = wr := ⟨wr, rfl⟩
            subst hw7
            obtain ⟨i, cc, rfl, rfl, rfl, hi, hcc, hK⟩ := hrel
            have HK7 : Hid (Kept [] w6 w7) := hK
            clear hK
            have d0 : (0 : Int) ≤ (i : Int) := by omega
            by_cases hlt : i < L.length
            · have d1 : (i : Int) < (L.length : Int) := by omega
              have hwi := wr64 ((i : Int) + 1) (by omega) (by omega)
              have HC0 : Hid (cc ≤ i * 65536 + 0) := by show _ ≤ _; rw [Nat.add_zero]; exact hcc
              obtain ⟨xk, rfl, _, hxk⟩ := HKC.out i hlt
              obtain ⟨xl, _, rfl, hxl, rl, cl7, rfl, hcl7, hyl⟩ := HRL.out i hlt
              obtain ⟨xb, _, rfl, hxb, rb, cb7, rfl, hcb7, hyb⟩ := HRB.out i hlt
              obtain ⟨xw, _, rfl, hxw, rw', cw7, rfl, hcw7, hyw⟩ := HRW.out i hlt
              rw [eall_at _ _ _ _ _ hlt] at hxl hcl7 hyl hxw hcw7 hyw
              rw [erow_len] at hxl hcl7 hyl hxw hcw7 hyw
              obtain ⟨hs1, hs2⟩ := HS2.out i hlt
              obtain ⟨kk, hkk⟩ : ∃ kk, kk = ks.getD i 0 := ⟨_, rfl⟩
              obtain ⟨nb, hnb⟩ : ∃ nb, nb = ns.getD i false := ⟨_, rfl⟩
              obtain ⟨l, hl⟩ : ∃ l, l = L.getD i [] := ⟨_, rfl⟩
              rw [← hkk] at hxk hyl hyw
              rw [← hnb] at hyl hyw
              rw [← hl] at hxl hcl7 hyl hxw hcw7 hyw hxb hcb7 hyb hs1 hs2
              clear hkk hnb hl
              have HYL : Hid (∀ j, j < l.length → ∃ y, rl = some y ∧ w6.cell? (y.add j) = some (.string ((erow st kk nb i l).getD j ByteArray.empty))) := hyl
              have HYB : Hid (∀ j, j < l.length → ∃ y, rb = some y ∧ w6.cell? (y.add j) = some (.string (l.getD j ByteArray.empty))) := hyb
              have HYW : Hid (∀ j, j < l.length → ∃ y, rw' = some y ∧ w6.cell? (y.add j) = some (.string ((erow st kk nb i l).getD j ByteArray.empty))) := hyw
              have HXK : Hid (w6.cell? (xk.add i) = some (.int .i64 kk)) := hxk
              have HXL : Hid (w6.cell? (xl.add i) = some (.slice rl l.length cl7)) := hxl
              have HXB : Hid (w6.cell? (xb.add i) = some (.slice rb l.length cb7)) := hxb
              have HXW : Hid (w6.cell? (xw.add i) = some (.slice rw' l.length cw7)) := hxw
              have hxl7 := cell_kept HK7.out hxl (by simp)
              have hxb7 := cell_kept HK7.out hxb (by simp)
              clear hyl hyb hyw hxk hxl hxb hxw
              have ls : (l.length : Int) ≤ 65536 := by omega
              go_wp2_with fail
              go_region_held3 (fun w' => w'.cell? (xl.add i) = some (.slice rl l.length cl7) ∧ w'.cell? (xb.add i) = some (.slice rb l.length cb7)) (simp [hxl7, hxb7]) (fail)
              go_wp2_with fail
              clear hxl7 hxb7
              go_loopw [11, 12, 14] (fun t u v wx => ∃ j c2 : Nat, t = .int .i64 c2 ∧ u = .int .i64 c2 ∧ v = .int .i64 j ∧ j ≤ l.length ∧ c2 ≤ i * 65536 + j ∧ Kept [] w6 wx) (fun _ _ v _ => l.length - (intOf v).toNat)
              case atStart => exact ⟨0, cc, rfl, rfl, rfl, Nat.zero_le _, HC0.out, HK7.out.drew⟩
              case round =>
                obtain ⟨w8, hw8⟩ : ∃ w8, w8 = wr := ⟨wr, rfl⟩
                subst hw8
                clear HK7
                obtain ⟨j, c2, rfl, rfl, rfl, hj, hc2, hK⟩ := hrel
                have HK7 : Hid (Kept [] w6 w8) := hK
                have hxl' := cell_kept hK HXL.out (by simp)
                have hxb' := cell_kept hK HXB.out (by simp)
                have hxw' := cell_kept hK HXW.out (by simp)
                have hxk' := cell_kept hK HXK.out (by simp)
                have j0 : (0 : Int) ≤ (j : Int) := by omega
                by_cases hjl : j < l.length
                · have j1 : (j : Int) < (l.length : Int) := by omega
                  have hwj := wr64 ((j : Int) + 1) (by omega) (by omega)
                  obtain ⟨yl, rfl, hyl⟩ := HYL.out j hjl
                  obtain ⟨yb, rfl, hyb⟩ := HYB.out j hjl
                  obtain ⟨yw, rfl, hyw⟩ := HYW.out j hjl
                  have hyl' := cell_kept hK hyl (by simp)
                  have hyb' := cell_kept hK hyb (by simp)
                  have hyw' := cell_kept hK hyw (by simp)
                  have hsz := (size_le l j hjl).1
                  clear hyl hyb hyw hK
                  rcases line_kind st kk nb i l j hjl with hsame | ⟨hk0, hnA, m, hmk, hbs⟩
                  · rw [hsame] at hyl' hyw'
                    clear hsame
                    obtain ⟨s, hs⟩ : ∃ s, s = l.getD j ByteArray.empty := ⟨_, rfl⟩
                    rw [← hs] at hyl' hyb' hyw'
                    clear hs
                    go_wp2_with fail
                    exact ⟨⟨j + 1, c2, rfl, rfl, by go_num, by omega, by omega, HK7.out⟩, by simp [intOf]; omega⟩
                  · rw [hbs] at hyl' hyw'
                    clear hbs
                    subst hk0
                    have HNA : Hid (¬ exA st i j) := hnA
                    clear hnA
                    obtain ⟨s, hs⟩ : ∃ s, s = l.getD j ByteArray.empty := ⟨_, rfl⟩
                    rw [← hs] at hyl' hyb' hyw' hmk hsz
                    clear hs
                    have hms : m ≤ s.size := Nat.le_of_lt hmk.1
                    have hmlt := hmk.1
                    have HMKS : Hid (∀ k, k < m → isMk ((bts s).getD k 0) = true) := hmk.2.1
                    have HSET : Hid ((bts s).getD m 0 = 126 ∨ (bts s).getD m 0 = 96 ∨ (bts s).getD m 0 = 91) := hmk.2.2
                    have HLT : Hid (∀ k, k < m → (bts (bsl s m)).getD k 0 = (bts s).getD k 0) := fun k hk => bsl_lt s m k hms hk
                    have HAT : Hid ((bts (bsl s m)).getD m 0 = 92) := bsl_at s m hms
                    have HEX : Hid ((bsl s m).extract (m + 1) (bsl s m).size = s.extract m s.size) := bsl_from s m hms
                    have HHID : Hid (hid (bts (bsl s m)) = -1) := bsl_hid s m hmk
                    have hosz := bsl_size s m hms
                    have hone := bsl_ne s m hms
                    obtain ⟨o, ho⟩ : ∃ o, o = bsl s m := ⟨_, rfl⟩
                    rw [← ho] at hyl' hyw' HLT HAT HEX HHID hosz hone
                    clear ho hmk hms
                    have hss : s.size ≤ 1048576 := by omega
                    have hss' : (s.size : Int) ≤ 1048576 := by omega
                    have os1 : (o.size : Int) ≤ (s.size : Int) + 1 := by omega
                    have os2 : (s.size : Int) + 1 ≤ (o.size : Int) := by omega
                    have gos : ((o.size : Int) != (s.size : Int) + 1) = false := by simp; omega
                    have gne : (o.toList != s.toList) = true := by simpa using (fun e => hone (toList_inj e))
                    have gne2 : (o.toList == s.toList) = false := by simpa using (fun e => hone (toList_inj e))
                    have hsb : o.size ≤ 4000000 := by omega
                    clear hosz hone hsz
                    have hcb : (c2 : Int) ≤ 4295032832 := by omega
                    have hwc := wr64 ((c2 : Int) + 1) (by omega) (by omega)
                    have hws := wr64 ((s.size : Int) + 1) (by omega) (by omega)
                    have gi1 := isz_eq i
                    have gj1 := isz_eq j
                    obtain ⟨cc, hcc'⟩ : ∃ cc, cc = c2 := ⟨_, rfl⟩
                    subst hcc'
                    by_cases hi0 : i = 0
                    · have gi2 := isz_t hi0
                      by_cases hj0 : j = 0
                      · have gj2 := isz_t hj0
                        cases st with
                        | false => exact absurd ⟨hi0, hj0, rfl⟩ HNA.out
                        | true =>
                          clear hi0 hj0
                          go_wp2_with fail
                          go_loopw [17] (fun v wx => ∃ k : Nat, v = .int .i64 k ∧ k ≤ m ∧ Kept [] w6 wx) (fun v _ => m - (intOf v).toNat)
                          case atStart => exact ⟨0, rfl, Nat.zero_le _, HK7.out⟩
                          case round =>
                            obtain ⟨k, rfl, hkm, hKx⟩ := hrel
                            have HKx : Hid (Kept [] w6 wr) := hKx
                            clear hKx hxl' hxb' hxw' hyl' hyb' hyw' hxk' HK7
                            have k0 : (0 : Int) ≤ (k : Int) := by omega
                            have k1 : (k : Int) < (s.size : Int) := by omega
                            have k2 : (k : Int) < (o.size : Int) := by omega
                            have hdk : decide ((k : Int) < (s.size : Int)) = true := decide_eq_true k1
                            have hks : k < s.size := by omega
                            have hko : k < o.size := by omega
                            have e1 := bts_at s k hks
                            have e2 := bts_at o k hko
                            by_cases hkl : k < m
                            · have HQ := HLT.out k hkl
                              rw [HQ] at e2
                              clear HQ
                              obtain ⟨c0, hc0⟩ : ∃ c0, c0 = (bts s).getD k 0 := ⟨_, rfl⟩
                              rw [← hc0] at e1 e2
                              clear hc0
                              have hwk := wr64 ((k : Int) + 1) (by omega) (by omega)
                              go_wp2_with fail
                              go_quiet (fail)
                              go_wp2_with fail
                              exact ⟨⟨k + 1, by go_num, by omega, HKx.out.drewN _⟩, by simp [intOf]; omega⟩
                            · have hke : k = m := by omega
                              subst hke
                              rw [HAT.out] at e2
                              rcases HSET.out with hset | hset | hset
                              all_goals
                                rw [hset] at e1
                                clear hset
                                have hwk := wr64 ((k : Int) + 1) (by omega) (by omega)
                                have kz : (k : Int) + 1 ≤ (o.size : Int) := by omega
                                have kz0 : (0 : Int) ≤ (k : Int) + 1 := by omega
                                have kzs : (k : Int) ≤ (s.size : Int) := by omega
                                have kt : ((k : Int) + 1).toNat = k + 1 := by omega
                                have hex := HEX.out
                                have hdg : decide ((s.size : Int) ≤ (k : Int)) = false := decide_eq_false (by omega)
                                have hdg2 : decide (s.size ≤ k) = false := decide_eq_false (by omega)
                                go_wp2_with fail
                                go_quiet (fail)
                                go_wp2_with fail
                                go_quiet (fail)
                                go_wp2_with fail
                                clear hex
                                go_loopw [18] (fun v wx => ∃ p : Nat, v = .int .i64 p ∧ p ≤ k ∧ Kept [] w6 wx) (fun v _ => k - (intOf v).toNat)
                                case atStart => exact ⟨0, rfl, Nat.zero_le _, (HKx.out.drewN _).drewN _⟩
                                case round =>
                                  obtain ⟨p, rfl, hpm, hKy⟩ := hrel
                                  have HKy : Hid (Kept [] w6 wr) := hKy
                                  clear hKy HKx
                                  have p0 : (0 : Int) ≤ (p : Int) := by omega
                                  by_cases hpl : p < k
                                  · have p1 : (p : Int) < (k : Int) := by omega
                                    have p2 : (p : Int) < (s.size : Int) := by omega
                                    have hps : p < s.size := by omega
                                    have f1 := bts_at s p hps
                                    have HMK : Hid (isMk ((bts s).getD p 0) = true) := HMKS.out p hpl
                                    obtain ⟨c0, hc0⟩ : ∃ c0, c0 = (bts s).getD p 0 := ⟨_, rfl⟩
                                    rw [← hc0] at f1 HMK
                                    clear hc0
                                    have hwp := wr64 ((p : Int) + 1) (by omega) (by omega)
                                    go_wp2_with (go_at_call 11; refine (mark_any c0 _).mono ?_; rintro e w' ⟨rfl, hq⟩; obtain rfl := hq.symm; rw [HMK.out])
                                    exact ⟨⟨p + 1, by go_num, by omega, HKy.out⟩, by simp [intOf]; omega⟩
                                  · have p1 : (k : Int) ≤ (p : Int) := by omega
                                    go_wp2_with fail
                                    go_at_call 8
                                    refine (zzhiding_any o _ (by omega) (HZ6.out.kept HKy.out (by simp))).mono ?_
                                    rintro e wz ⟨rfl, hKz⟩
                                    rw [HHID.out]
                                    have HKz : Hid (Kept [] w6 wz) := HKy.out.trans hKz
                                    clear hKz
                                    go_wp2_with fail
                                    exact ⟨⟨j + 1, cc + 1, by go_num, by go_num, by go_num, by omega, by omega, HKz.out⟩, by simp [intOf]; omega⟩
                      · have gj2 := isz_f hj0
                        clear hi0 hj0
                        go_wp2_with fail
                        go_loopw [17] (fun v wx => ∃ k : Nat, v = .int .i64 k ∧ k ≤ m ∧ Kept [] w6 wx) (fun v _ => m - (intOf v).toNat)
                        case atStart => exact ⟨0, rfl, Nat.zero_le _, HK7.out⟩
                        case round =>
                          obtain ⟨k, rfl, hkm, hKx⟩ := hrel
                          have HKx : Hid (Kept [] w6 wr) := hKx
                          clear hKx hxl' hxb' hxw' hyl' hyb' hyw' hxk' HK7
                          have k0 : (0 : Int) ≤ (k : Int) := by omega
                          have k1 : (k : Int) < (s.size : Int) := by omega
                          have k2 : (k : Int) < (o.size : Int) := by omega
                          have hdk : decide ((k : Int) < (s.size : Int)) = true := decide_eq_true k1
                          have hks : k < s.size := by omega
                          have hko : k < o.size := by omega
                          have e1 := bts_at s k hks
                          have e2 := bts_at o k hko
                          by_cases hkl : k < m
                          · have HQ := HLT.out k hkl
                            rw [HQ] at e2
                            clear HQ
                            obtain ⟨c0, hc0⟩ : ∃ c0, c0 = (bts s).getD k 0 := ⟨_, rfl⟩
                            rw [← hc0] at e1 e2
                            clear hc0
                            have hwk := wr64 ((k : Int) + 1) (by omega) (by omega)
                            go_wp2_with fail
                            go_quiet (fail)
                            go_wp2_with fail
                            exact ⟨⟨k + 1, by go_num, by omega, HKx.out.drewN _⟩, by simp [intOf]; omega⟩
                          · have hke : k = m := by omega
                            subst hke
                            rw [HAT.out] at e2
                            rcases HSET.out with hset | hset | hset
                            all_goals
                              rw [hset] at e1
                              clear hset
                              have hwk := wr64 ((k : Int) + 1) (by omega) (by omega)
                              have kz : (k : Int) + 1 ≤ (o.size : Int) := by omega
                              have kz0 : (0 : Int) ≤ (k : Int) + 1 := by omega
                              have kzs : (k : Int) ≤ (s.size : Int) := by omega
                              have kt : ((k : Int) + 1).toNat = k + 1 := by omega
                              have hex := HEX.out
                              have hdg : decide ((s.size : Int) ≤ (k : Int)) = false := decide_eq_false (by omega)
                              have hdg2 : decide (s.size ≤ k) = false := decide_eq_false (by omega)
                              go_wp2_with fail
                              go_quiet (fail)
                              go_wp2_with fail
                              go_quiet (fail)
                              go_wp2_with fail
                              clear hex
                              go_loopw [18] (fun v wx => ∃ p : Nat, v = .int .i64 p ∧ p ≤ k ∧ Kept [] w6 wx) (fun v _ => k - (intOf v).toNat)
                              case atStart => exact ⟨0, rfl, Nat.zero_le _, (HKx.out.drewN _).drewN _⟩
                              case round =>
                                obtain ⟨p, rfl, hpm, hKy⟩ := hrel
                                have HKy : Hid (Kept [] w6 wr) := hKy
                                clear hKy HKx
                                have p0 : (0 : Int) ≤ (p : Int) := by omega
                                by_cases hpl : p < k
                                · have p1 : (p : Int) < (k : Int) := by omega
                                  have p2 : (p : Int) < (s.size : Int) := by omega
                                  have hps : p < s.size := by omega
                                  have f1 := bts_at s p hps
                                  have HMK : Hid (isMk ((bts s).getD p 0) = true) := HMKS.out p hpl
                                  obtain ⟨c0, hc0⟩ : ∃ c0, c0 = (bts s).getD p 0 := ⟨_, rfl⟩
                                  rw [← hc0] at f1 HMK
                                  clear hc0
                                  have hwp := wr64 ((p : Int) + 1) (by omega) (by omega)
                                  go_wp2_with (go_at_call 11; refine (mark_any c0 _).mono ?_; rintro e w' ⟨rfl, hq⟩; obtain rfl := hq.symm; rw [HMK.out])
                                  exact ⟨⟨p + 1, by go_num, by omega, HKy.out⟩, by simp [intOf]; omega⟩
                                · have p1 : (k : Int) ≤ (p : Int) := by omega
                                  go_wp2_with fail
                                  go_at_call 8
                                  refine (zzhiding_any o _ (by omega) (HZ6.out.kept HKy.out (by simp))).mono ?_
                                  rintro e wz ⟨rfl, hKz⟩
                                  rw [HHID.out]
                                  have HKz : Hid (Kept [] w6 wz) := HKy.out.trans hKz
                                  clear hKz
                                  go_wp2_with fail
                                  exact ⟨⟨j + 1, cc + 1, by go_num, by go_num, by go_num, by omega, by omega, HKz.out⟩, by simp [intOf]; omega⟩
                    · have gi2 := isz_f hi0
                      clear hi0
                      go_wp2_with fail
                      go_loopw [17] (fun v wx => ∃ k : Nat, v = .int .i64 k ∧ k ≤ m ∧ Kept [] w6 wx) (fun v _ => m - (intOf v).toNat)
                      case atStart => exact ⟨0, rfl, Nat.zero_le _, HK7.out⟩
                      case round =>
                        obtain ⟨k, rfl, hkm, hKx⟩ := hrel
                        have HKx : Hid (Kept [] w6 wr) := hKx
                        clear hKx hxl' hxb' hxw' hyl' hyb' hyw' hxk' HK7
                        have k0 : (0 : Int) ≤ (k : Int) := by omega
                        have k1 : (k : Int) < (s.size : Int) := by omega
                        have k2 : (k : Int) < (o.size : Int) := by omega
                        have hdk : decide ((k : Int) < (s.size : Int)) = true := decide_eq_true k1
                        have hks : k < s.size := by omega
                        have hko : k < o.size := by omega
                        have e1 := bts_at s k hks
                        have e2 := bts_at o k hko
                        by_cases hkl : k < m
                        · have HQ := HLT.out k hkl
                          rw [HQ] at e2
                          clear HQ
                          obtain ⟨c0, hc0⟩ : ∃ c0, c0 = (bts s).getD k 0 := ⟨_, rfl⟩
                          rw [← hc0] at e1 e2
                          clear hc0
                          have hwk := wr64 ((k : Int) + 1) (by omega) (by omega)
                          go_wp2_with fail
                          go_quiet (fail)
                          go_wp2_with fail
                          exact ⟨⟨k + 1, by go_num, by omega, HKx.out.drewN _⟩, by simp [intOf]; omega⟩
                        · have hke : k = m := by omega
                          subst hke
                          rw [HAT.out] at e2
                          rcases HSET.out with hset | hset | hset
                          all_goals
                            rw [hset] at e1
                            clear hset
                            have hwk := wr64 ((k : Int) + 1) (by omega) (by omega)
                            have kz : (k : Int) + 1 ≤ (o.size : Int) := by omega
                            have kz0 : (0 : Int) ≤ (k : Int) + 1 := by omega
                            have kzs : (k : Int) ≤ (s.size : Int) := by omega
                            have kt : ((k : Int) + 1).toNat = k + 1 := by omega
                            have hex := HEX.out
                            have hdg : decide ((s.size : Int) ≤ (k : Int)) = false := decide_eq_false (by omega)
                            have hdg2 : decide (s.size ≤ k) = false := decide_eq_false (by omega)
                            go_wp2_with fail
                            go_quiet (fail)
                            go_wp2_with fail
                            go_quiet (fail)
                            go_wp2_with fail
                            clear hex
                            go_loopw [18] (fun v wx => ∃ p : Nat, v = .int .i64 p ∧ p ≤ k ∧ Kept [] w6 wx) (fun v _ => k - (intOf v).toNat)
                            case atStart => exact ⟨0, rfl, Nat.zero_le _, (HKx.out.drewN _).drewN _⟩
                            case round =>
                              obtain ⟨p, rfl, hpm, hKy⟩ := hrel
                              have HKy : Hid (Kept [] w6 wr) := hKy
                              clear hKy HKx
                              have p0 : (0 : Int) ≤ (p : Int) := by omega
                              by_cases hpl : p < k
                              · have p1 : (p : Int) < (k : Int) := by omega
                                have p2 : (p : Int) < (s.size : Int) := by omega
                                have hps : p < s.size := by omega
                                have f1 := bts_at s p hps
                                have HMK : Hid (isMk ((bts s).getD p 0) = true) := HMKS.out p hpl
                                obtain ⟨c0, hc0⟩ : ∃ c0, c0 = (bts s).getD p 0 := ⟨_, rfl⟩
                                rw [← hc0] at f1 HMK
                                clear hc0
                                have hwp := wr64 ((p : Int) + 1) (by omega) (by omega)
                                go_wp2_with (go_at_call 11; refine (mark_any c0 _).mono ?_; rintro e w' ⟨rfl, hq⟩; obtain rfl := hq.symm; rw [HMK.out])
                                exact ⟨⟨p + 1, by go_num, by omega, HKy.out⟩, by simp [intOf]; omega⟩
                              · have p1 : (k : Int) ≤ (p : Int) := by omega
                                go_wp2_with fail
                                go_at_call 8
                                refine (zzhiding_any o _ (by omega) (HZ6.out.kept HKy.out (by simp))).mono ?_
                                rintro e wz ⟨rfl, hKz⟩
                                rw [HHID.out]
                                have HKz : Hid (Kept [] w6 wz) := HKy.out.trans hKz
                                clear hKz
                                go_wp2_with fail
                                exact ⟨⟨j + 1, cc + 1, by go_num, by go_num, by go_num, by omega, by omega, HKz.out⟩, by simp [intOf]; omega⟩
                · have j1 : (l.length : Int) ≤ (j : Int) := by omega
                  clear hK
                  go_wp2_with fail
                  exact ⟨⟨i + 1, c2, rfl, rfl, by go_num, by omega, by rw [Nat.succ_mul]; omega, HK7.out⟩, by simp [intOf]; omega⟩
            · have d1 : (L.length : Int) ≤ (i : Int) := by omega
              go_wp2_with fail
              go_ret
              exact ⟨rfl, K6.out.trans HK7.out⟩
        · have g2 : ((ns.length : Int) != (L.length : Int)) = true := by simp; omega
          clear h1 h2
          go_wp2_with fail
          go_ret
          exact ⟨rfl, Kept.refl _ _⟩
      · have g1 : ((ks.length : Int) != (L.length : Int)) = true := by simp; omega
        clear h1
        go_wp2_with fail
        go_ret
        exact ⟨rfl, Kept.refl _ _⟩
end Go.Proofs.Qxb6605488a
