import Derived.Test.Qxb6605488aWg
import Derived.Test.Qxb6605488aWj
import Derived.Test.Qxb6605488aWl
import Derived.Test.Qxb6605488aWn
namespace Go.Proofs.Qxb6605488a
open Go.RowKit
set_option linter.unusedVariables false
set_option linter.unusedSimpArgs false

theorem eall_small {L : List (List ByteArray)} (h : Small L) (st : Bool) (ks : List Int) (ns : List Bool) : (eall st ks ns L).length ≤ 65536 ∧ ∀ i, i < (eall st ks ns L).length → ((eall st ks ns L).getD i []).length ≤ 65536 := by
  rw [eall_len]
  refine ⟨h.1, fun i hi => ?_⟩
  rw [eall_at _ _ _ _ _ hi, erow_len]
  exact (h.2 i hi).1

theorem Sl.any {Q : Nat → Prop} {w : World} {v : Value} {l : List Value} (h : Sl Q w v l) : Sl (fun _ => True) w v l := h.mono (fun _ _ => trivial)
theorem Lns.any {Q : Nat → Prop} {w : World} {v : Value} {L : List (List ByteArray)} (h : Lns Q w v L) : Lns (fun _ => True) w v L := h.mono (fun _ _ => trivial)

set_option maxRecDepth 100000 in
set_option maxHeartbeats 4000000 in
theorem law5 (vk vn vl : Value) (ks : List Int) (ns : List Bool) (L : List (List ByteArray)) (st : Bool) (w : World) (hk : Sl (fun _ => True) w vk (ks.map (Value.int .i64))) (hn : Sl (fun _ => True) w vn (ns.map Value.bool)) (hL : Lns (fun _ => True) w vl L) (hz : Zc w)
    (hkl : ks.length ≤ 9223372036854775807) (hnl : ns.length ≤ 9223372036854775807) (hll : L.length ≤ 9223372036854775807) (hmax : ∀ i, i < L.length → (L.getD i []).length ≤ 9223372036854775807 ∧ ∀ j, j < (L.getD i []).length → ((L.getD i []).getD j ByteArray.empty).size ≤ 9223372036854775807) :
    Calls Try.prog 5 #[vk, vn, vl, .bool st] w fun e w' => e = .returned (.bool true) ∧ Kept [] w w' := by
  have HK : Hid (Sl (fun _ => True) w vk (ks.map (Value.int .i64))) := hk
  have HN : Hid (Sl (fun _ => True) w vn (ns.map Value.bool)) := hn
  have HL : Hid (Lns (fun _ => True) w vl L) := hL
  have HZ : Hid (Zc w) := hz
  have HMAX : Hid (∀ i, i < L.length → (L.getD i []).length ≤ 9223372036854775807 ∧ ∀ j, j < (L.getD i []).length → ((L.getD i []).getD j ByteArray.empty).size ≤ 9223372036854775807) := hmax
  obtain ⟨ak, ck, rfl, hck, _⟩ := hk.at 0
  obtain ⟨an, cn, rfl, hcn, _⟩ := hn.at false
  obtain ⟨al, cl, rfl, hcl, _⟩ := hL.open
  clear hk hn hL hz hmax
  go_enter Try.func5, Try.ntmps5
  go_wp2_with fail
  go_at_call 12
  refine (bytes12_any ak an ks.length ns.length ck cn _ L st _ HL.out hkl hnl hll HMAX.out).mono ?_
  rintro e w' ⟨b, rfl, rfl⟩
  cases b with
  | false =>
    go_wp2_with fail
    go_ret
    exact ⟨rfl, Kept.refl _ _⟩
  | true =>
    go_wp2_with fail
    go_at_call 13
    refine (toobig2_any ak an ks.length ns.length ck cn _ L _ HL.out hkl hnl hll HMAX.out).mono ?_
    rintro e w' ⟨b, rfl, hsm, rfl⟩
    cases b with
    | true =>
      go_wp2_with fail
      go_ret
      exact ⟨rfl, Kept.refl _ _⟩
    | false =>
      have HSM : Hid (Small L) := hsm rfl
      clear hsm
      by_cases h1 : ks.length = L.length
      · have g1 : ((ks.length : Int) != (L.length : Int)) = false := by simp; omega
        by_cases h2 : ns.length = L.length
        · have g2 : ((ns.length : Int) != (L.length : Int)) = false := by simp; omega
          have H1 : Hid (ks.length = L.length) := h1
          have H2 : Hid (ns.length = L.length) := h2
          have hsmall := HSM.out.1
          have HS2 : Hid (∀ i, i < L.length → (L.getD i []).length ≤ 65536 ∧ rsum (L.getD i []) ≤ 1048576) := HSM.out.2
          clear h1 h2
          go_wp2_with fail
          go_at_call 14
          refine (clone14_any _ ks _ HK.out (by rw [H1.out]; omega)).mono ?_
          rintro e w1 ⟨vk1, rfl, hk1, hK1⟩
          have HK1 : Hid (Sl (fun _ => True) w1 vk1 (ks.map (Value.int .i64))) := hk1.any
          have K1 : Hid (Kept [] w w1) := hK1
          clear hk1 hK1
          go_wp2_with fail
          go_at_call 15
          refine (clone15_any _ ns _ (HN.out.kept K1.out (by simp)) (by rw [H2.out]; omega)).mono ?_
          rintro e w2 ⟨vn1, rfl, hn1, hK2⟩
          have HN2 : Hid (Sl (fun _ => True) w2 vn1 (ns.map Value.bool)) := hn1.any
          have HK2 : Hid (Sl (fun _ => True) w2 vk1 (ks.map (Value.int .i64))) := HK1.out.kept hK2 (by simp)
          have K2 : Hid (Kept [] w w2) := K1.out.trans hK2
          clear hn1 hK2
          go_wp2_with fail
          go_at_call 16
          refine (clone16_any _ L _ (HL.out.kept K2.out (by simp)) hsmall (fun i hi => (HS2.out i hi).1)).mono ?_
          rintro e w3 ⟨vl1, rfl, hl1, hK3⟩
          have HL3 : Hid (OwnV w2.heap.size w3 vl1 L) := hl1
          have HN3 : Hid (Sl (fun _ => True) w3 vn1 (ns.map Value.bool)) := HN2.out.kept hK3 (by simp)
          have HK3 : Hid (Sl (fun _ => True) w3 vk1 (ks.map (Value.int .i64))) := HK2.out.kept hK3 (by simp)
          have K3 : Hid (Kept [] w w3) := K2.out.trans hK3
          clear hl1 hK3
          go_wp2_with fail
          go_at_call 17
          refine (mesc_any vk1 vn1 vl1 ks ns L st _ hsmall H1.out H2.out HK3.out HN3.out HL3.out.lns.any HS2.out).mono ?_
          rintro e w4 ⟨vw, rfl, hw, hK4⟩
          have HW4 : Hid (Lns (fun q => w3.heap.size ≤ q) w4 vw (eall st ks ns L)) := hw
          have HN4 : Hid (Sl (fun _ => True) w4 vn1 (ns.map Value.bool)) := HN3.out.kept hK4 (by simp)
          have HK4 : Hid (Sl (fun _ => True) w4 vk1 (ks.map (Value.int .i64))) := HK3.out.kept hK4 (by simp)
          have HL4 : Hid (OwnU w2.heap.size w3.heap.size w4 vl1 L) := HL3.out.up.kept hK4
          have K4 : Hid (Kept [] w w4) := K3.out.trans hK4
          clear hw hK4
          go_wp2_with fail
          go_at_call 18
          refine (zzesc_all vk1 vn1 vl1 ks ns L st _ w2.heap.size w3.heap.size hsmall H1.out H2.out HK4.out HN4.out HL4.out (HZ.out.kept K4.out (by simp)) HS2.out).mono ?_
          rintro e w5 ⟨rfl, hl5, S, hK5, hS⟩
          have HL5 : Hid (Lns (fun _ => True) w5 vl1 (eall st ks ns L)) := hl5.lns.any
          have HW5 : Hid (Lns (fun _ => True) w5 vw (eall st ks ns L)) := (HW4.out.kept hK5 (fun k hk hm => by have := (hS k hm).2; omega)).any
          have K5 : Hid (Kept [] w w5) := K4.out.trans_new hK5 (fun k hk => Or.inr (by have := (hS k hk).1; have := K2.out.size; omega))
          clear hl5 hK5 hS
          go_wp2_with fail
          go_at_call 19
          refine (same19_any vl1 vw (eall st ks ns L) _ HL5.out HW5.out (eall_small HSM.out st ks ns).1 (eall_small HSM.out st ks ns).2).mono ?_
          rintro e w6 ⟨rfl, hK6⟩
          have K6 : Hid (Kept [] w w6) := K5.out.trans hK6
          clear hK6
          go_wp2_with fail
          go_ret
          exact ⟨rfl, K6.out⟩
        · have g2 : ((ns.length : Int) != (L.length : Int)) = true := by simp; omega
          clear h1 h2
          go_wp2_with fail
          go_ret
          exact ⟨rfl, Kept.refl _ _⟩
      · have g1 : ((ks.length : Int) != (L.length : Int)) = true := by simp; omega
        clear h1
        go_wp2_with fail
        go_ret
        exact ⟨rfl, Kept.refl _ _⟩
end Go.Proofs.Qxb6605488a
