import Derived.Test.Qxb6605488aWm
import Derived.BigRegion
namespace Go.Proofs.Qxb6605488a
open Go.RowKit
set_option linter.unusedVariables false
set_option linter.unusedSimpArgs false

/-- What 'zzModelEscape' leaves. -/
def MePost (st : Bool) (ks : List Int) (ns : List Bool) (L : List (List ByteArray)) (w : World) (e : Ending) (w' : World) : Prop :=
  ∃ v, e = .returned v ∧ Lns (fun q => w.heap.size ≤ q) w' v (eall st ks ns L) ∧ Kept [] w w'

/-- The starts. -/
def sts (l : List ByteArray) : List Value := (List.range l.length).map (fun k => Value.int .i64 ((off l k : Nat) : Int))
theorem sts_len (l : List ByteArray) : (sts l).length = l.length := by simp [sts]
theorem sts_at (l : List ByteArray) (j : Nat) (h : j < l.length) : (sts l).getD j undef = Value.int .i64 ((off l j : Nat) : Int) := by simp [sts, List.getD, h]

theorem rsum_off (l : List ByteArray) : off l l.length ≤ rsum l := by
  unfold off rsum
  rw [List.take_of_length_le (Nat.le_refl _)]
  induction l with
  | nil => simp
  | cons x r ih => simp; omega
theorem off_le (l : List ByteArray) (j : Nat) (hj : j ≤ l.length) : off l j ≤ off l l.length := by
  have key : ∀ (q : List ByteArray) (n : Nat), ((q.take n).map (fun s => s.size + 1)).sum ≤ (q.map (fun s => s.size + 1)).sum := by
    intro q
    induction q with
    | nil => intro n; simp
    | cons x r ih =>
      intro n
      cases n with
      | zero => simp
      | succ n => have := ih n; simp at this ⊢; omega
  unfold off
  rw [List.take_of_length_le (Nat.le_refl l.length)]
  exact key l j

set_option maxRecDepth 100000 in
set_option maxHeartbeats 16000000 in
theorem mesc_any (vk vn vl : Value) (ks : List Int) (ns : List Bool) (L : List (List ByteArray)) (st : Bool) (w : World) (hll : L.length ≤ 65536) (hkl : ks.length = L.length) (hnl : ns.length = L.length)
    (hk : Sl (fun _ => True) w vk (ks.map (Value.int .i64))) (hn : Sl (fun _ => True) w vn (ns.map Value.bool)) (hL : Lns (fun _ => True) w vl L) (hsm : ∀ i, i < L.length → (L.getD i []).length ≤ 65536 ∧ rsum (L.getD i []) ≤ 1048576) :
    Calls Try.prog 17 #[vk, vn, vl, .bool st] w fun e w' => MePost st ks ns L w e w' := by
  obtain ⟨ak, ck, rfl, hck, hkc⟩ := hk.at 0
  obtain ⟨an, cn, rfl, hcn, hnc⟩ := hn.at false
  obtain ⟨al, cl, rfl, hcl, hrow⟩ := hL.open
  have HKC : Hid (∀ i, i < L.length → ∃ x, ak = some x ∧ w.cell? (x.add i) = some (.int .i64 (ks.getD i 0))) := fun i hi => by
    obtain ⟨x, e, _, h⟩ := hkc i (by rw [hkl]; exact hi)
    exact ⟨x, e, h⟩
  have HNC : Hid (∀ i, i < L.length → ∃ x, an = some x ∧ w.cell? (x.add i) = some (.bool (ns.getD i false))) := fun i hi => by
    obtain ⟨x, e, _, h⟩ := hnc i (by rw [hnl]; exact hi)
    exact ⟨x, e, h⟩
  have HROW : Hid (∀ i, i < L.length → ∃ x rv, al = some x ∧ w.cell? (x.add i) = some rv ∧ RowAt w rv (L.getD i [])) := hrow
  have HSM : Hid (∀ i, i < L.length → (L.getD i []).length ≤ 65536 ∧ rsum (L.getD i []) ≤ 1048576) := hsm
  rw [hkl] at hck ⊢
  rw [hnl] at hcn ⊢
  clear hk hn hL hkc hnc hrow hsm hkl hnl
  have bl : (L.length : Int) ≤ 65536 := by omega
  obtain ⟨E, hE⟩ : ∃ E, E = eall st ks ns L := ⟨_, rfl⟩
  have HEE : Hid (E = eall st ks ns L) := hE
  have hEl : E.length = L.length := by rw [hE]; exact eall_len _ _ _ _
  have HEL : Hid (E.length = L.length) := hEl
  have HEA : Hid (∀ i, i < L.length → E.getD i [] = erow st (ks.getD i 0) (ns.getD i false) i (L.getD i [])) := fun i hi => by rw [hE]; exact eall_at _ _ _ _ _ hi
  have hmk := mk_row 27 36 (.slice none 0 0) 24 Try.underlying27 Try.info36 rfl (by omega) L.length (by omega)
  have START : Hid (MdI w.heap.size E 0 (w.alloc (.cells (madeCells #[.slice none 0 0] L.length) 36))) := by
    have := MdI.start w E
    rw [hEl] at this
    exact this
  clear hE hEl
  obtain ⟨b, hb⟩ : ∃ b, b = w.heap.size := ⟨_, rfl⟩
  have HB : Hid (w.heap.size = b) := hb.symm
  rw [← hb] at START
  clear hb
  go_enter Try.func17, Try.ntmps17
  go_wp2_with fail
  rw [HB.out]
  go_loopw [10] (fun v wr => ∃ i : Nat, v = .int .i64 i ∧ i ≤ L.length ∧ MdI b E i wr ∧ Kept [] w wr) (fun v _ => L.length - (intOf v).toNat)
  case atStart => exact ⟨0, rfl, Nat.zero_le _, START.out, (Kept.refl [] w).alloc _⟩
  case round =>
    clear START hmk
    obtain ⟨w1, hw1⟩ : ∃ w1, w1 = wr := ⟨wr, rfl⟩
    subst hw1
    obtain ⟨i, rfl, hi, hM, hK⟩ := hrel
    have HM : Hid (MdI b E i w1) := hM
    have HK : Hid (Kept [] w w1) := hK
    clear hM hK
    have d0 : (0 : Int) ≤ (i : Int) := by omega
    by_cases hlt : i < L.length
    · have d1 : (i : Int) < (L.length : Int) := by omega
      have hwi := wr64 ((i : Int) + 1) (by omega) (by omega)
      obtain ⟨xk, rfl, hkc0⟩ := HKC.out i hlt
      obtain ⟨xn, rfl, hnc0⟩ := HNC.out i hlt
      obtain ⟨xl, _, rfl, hlc0, a, c, rfl, hac, hstr⟩ := HROW.out i hlt
      have hlc := cell_kept HK.out hlc0 (by simp)
      have HKC0 : Hid (w.cell? (xk.add i) = some (.int .i64 (ks.getD i 0))) := hkc0
      have HNC0 : Hid (w.cell? (xn.add i) = some (.bool (ns.getD i false))) := hnc0
      have HSTR : Hid (∀ j, j < (L.getD i []).length → ∃ y, a = some y ∧ w.cell? (y.add j) = some (.string ((L.getD i []).getD j ByteArray.empty))) := hstr
      have HEI : Hid (E.getD i [] = erow st (ks.getD i 0) (ns.getD i false) i (L.getD i [])) := HEA.out i hlt
      obtain ⟨hsm1, hsm2⟩ := HSM.out i hlt
      clear hkc0 hnc0 hlc0 hstr
      obtain ⟨kk, hkk⟩ : ∃ kk, kk = ks.getD i 0 := ⟨_, rfl⟩
      obtain ⟨nb, hnb⟩ : ∃ nb, nb = ns.getD i false := ⟨_, rfl⟩
      obtain ⟨l, hl⟩ : ∃ l, l = L.getD i [] := ⟨_, rfl⟩
      rw [← hkk] at HKC0 HEI
      rw [← hnb] at HNC0 HEI
      rw [← hl] at hlc HSTR HEI hsm1 hsm2 hac
      clear hkk hnb hl
      have ls : (l.length : Int) ≤ 65536 := by omega
      have hmk := mk_row 36 9 (.string ByteArray.empty) 16 Try.underlying36 Try.info9 rfl (by omega) l.length (by omega)
      obtain ⟨r, hr⟩ : ∃ r, r = w1.heap.size := ⟨_, rfl⟩
      have HR : Hid (w1.heap.size = r) := hr.symm
      have START : Hid (Cln w1 r 9 (l.map .string) 0 (w1.alloc (.cells (madeCells #[.string ByteArray.empty] l.length) 9))) := by
        have := cln_start w1 9 (.string ByteArray.empty) (l.map .string)
        rw [List.length_map, ← hr] at this
        exact this
      have hbr : b < r := by
        obtain ⟨rows, ⟨cs, h1, _⟩, _⟩ := HM.out
        rw [hr]
        exact lt_of h1
      have HBW : Hid (w.heap.size = b) := HB.out
      clear hr
      go_wp2_with fail
      rw [HR.out]
      go_loopw [13] (fun v wx => ∃ j : Nat, v = .int .i64 j ∧ j ≤ l.length ∧ Cln w1 r 9 (l.map .string) j wx ∧ Kept [] w1 wx) (fun v _ => l.length - (intOf v).toNat)
      case atStart => exact ⟨0, rfl, Nat.zero_le _, START.out, (Kept.refl [] w1).alloc _⟩
      case round =>
        clear START hmk
        obtain ⟨j, rfl, hj, hC, hK2⟩ := hrel
        have HC : Hid (Cln w1 r 9 (l.map .string) j wr) := hC
        have HK2 : Hid (Kept [] w1 wr) := hK2
        have e0 : (0 : Int) ≤ (j : Int) := by omega
        by_cases hjl : j < l.length
        · have e1 : (j : Int) < (l.length : Int) := by omega
          have hwj := wr64 ((j : Int) + 1) (by omega) (by omega)
          obtain ⟨y, rfl, hyc0⟩ := HSTR.out j hjl
          have hyc := cell_kept (HK.out.trans hK2) hyc0 (by simp)
          obtain ⟨⟨u, hu⟩, hfz⟩ := cln_cell hC j (by rw [List.length_map]; exact hjl)
          have NXT : Hid (Cln w1 r 9 (l.map .string) (j + 1) (wr.setCell ⟨r, j, none⟩ (.string (l.getD j ByteArray.empty)))) := by
            have := cln_step hC (by rw [List.length_map]; exact hjl)
            rw [getD_map _ l ByteArray.empty j hjl] at this
            exact this
          have NK : Hid (∀ u, Kept [] w1 (wr.setCell ⟨r, j, none⟩ u)) := fun u => hK2.trans_new ((Kept.refl [r] wr).setCell (p := ⟨r, j, none⟩) (by simp) u) (fun k hk => by simp at hk; subst hk; exact Or.inr (by rw [HR.out]; exact Nat.le_refl _))
          obtain ⟨q, hq⟩ : ∃ q, q = l.getD j ByteArray.empty := ⟨_, rfl⟩
          rw [← hq] at hyc NXT
          clear hq hC hK2 hyc0
          go_wp2_with fail
          exact ⟨⟨j + 1, by go_num, by omega, NXT.out, NK.out _⟩, by simp [intOf]; omega⟩
        · have e1 : (l.length : Int) ≤ (j : Int) := by omega
          have hje : j = l.length := by omega
          obtain ⟨w2, hw2⟩ : ∃ w2, w2 = wr := ⟨wr, rfl⟩
          subst hw2
          have HROW2 : Hid (w2.heap[r]? = some (.cells (strs l) 9 (0, 0))) := by
            have h1 := hC
            rw [hje, ← List.length_map (f := Value.string)] at h1
            exact cln_end h1
          obtain ⟨hcb, hfb⟩ : w2.cell? ⟨b, i, none⟩ = some (.slice none 0 0) ∧ w2.frozen? ⟨b, i, none⟩ = false := by
            obtain ⟨rows, h1, _⟩ := HM.out
            have := (h1.kept hK2 (by simp)).cell i (by rw [HEL.out]; exact hlt)
            rw [if_neg (Nat.lt_irrefl _)] at this
            exact this
          have HW3 : Hid (∀ u, Kept [b] w1 (w2.setCell ⟨b, i, none⟩ u)) := fun u => ((hK2.mono (by simp)).setCell (p := ⟨b, i, none⟩) (by simp) u)
          clear hC hK2 hje HC
          go_upto_region 12 with fail
          obtain ⟨w3, hw3⟩ : ∃ w3, w2.setCell ⟨b, i, none⟩ (.slice (some ⟨r, 0, none⟩) l.length l.length) = w3 := ⟨_, rfl⟩
          rw [hw3]
          have HK13 : Hid (Kept [b] w1 w3) := by rw [← hw3]; exact HW3.out _
          have HKW3 : Hid (Kept [] w w3) := HK.out.trans_new HK13.out (fun k hk => by simp at hk; subst hk; exact Or.inr (by rw [HBW.out]; exact Nat.le_refl _))
          have HROW3 : Hid (w3.heap[r]? = some (.cells (strs l) 9 (0, 0))) := by rw [← hw3]; exact ((Kept.refl [b] w2).setCell (p := ⟨b, i, none⟩) (by simp) _).at HROW2.out (by simp; omega)
          have hkc3 := cell_kept HKW3.out HKC0.out (by simp)
          have hlc3 : True := trivial
          have HFIN : Hid (∀ w9 S, Kept S w3 w9 → b ∉ S → (∀ k, k ∈ S → r ≤ k) → w9.heap[r]? = some (.cells (strs (E.getD i [])) 9 (0, 0)) → (E.getD i []).length = l.length → MdI b E (i + 1) w9 ∧ Kept [] w w9) := by
            intro w9 S h39 hbS hS hrow hlen
            have h19 : Kept [b] w1 w9 := HK13.out.trans_new h39 (fun k hk => Or.inr (by rw [HR.out]; exact hS k hk))
            refine ⟨HM.out.step (by rw [HEL.out]; exact hlt) HK2.out h19 (by rw [hw3]; exact h39) hbS hbr hrow hlen.symm, ?_⟩
            exact HK.out.trans_new h19 (fun k hk => by simp at hk; subst hk; exact Or.inr (by rw [HBW.out]; exact Nat.le_refl _))
          clear hw3 hcb hfb HW3 HROW2 hlc
          by_cases hk0 : kk = 0
          · subst hk0
            obtain ⟨el, hel⟩ : ∃ el, el = eln st nb i l := ⟨_, rfl⟩
            have HELD : Hid (el = eln st nb i l) := hel
            have HRS3 : Hid (r < w3.heap.size) := lt_of HROW3.out
            clear hel
            go_wp2_with fail
            go_loopw [14, 15] (fun u v wx => ∃ j : Nat, u = .int .i64 ((off l j : Nat) : Int) ∧ v = .int .i64 j ∧ j ≤ l.length ∧ w3 = wx) (fun _ v _ => l.length - (intOf v).toNat)
            case atStart => exact ⟨0, by rw [off_zero]; rfl, rfl, Nat.zero_le _, rfl⟩
            case round =>
              clear hkc3
              obtain ⟨j, rfl, rfl, hj, rfl⟩ := hrel
              have e0' : (0 : Int) ≤ (j : Int) := by omega
              have hoj := off_le l j hj
              have hol := rsum_off l
              by_cases hjl : j < l.length
              · have e1' : (j : Int) < (l.length : Int) := by omega
                have hwj := wr64 ((j : Int) + 1) (by omega) (by omega)
                obtain ⟨y, rfl, hyc0⟩ := HSTR.out j hjl
                have hyc := cell_kept HKW3.out hyc0 (by simp)
                have HOS : Hid (off l (j + 1) = off l j + ((l.getD j ByteArray.empty).size + 1)) := off_succ l j hjl
                have hoj1 := off_le l (j + 1) (by omega)
                rw [HOS.out] at hoj1
                obtain ⟨s, hs⟩ : ∃ s, s = l.getD j ByteArray.empty := ⟨_, rfl⟩
                rw [← hs] at hyc HOS hoj1
                clear hs hyc0
                obtain ⟨o, ho⟩ : ∃ o, o = off l j := ⟨_, rfl⟩
                rw [← ho] at HOS hoj1 hoj ⊢
                clear ho
                have hws1 := wr64 ((s.size : Int) + 1) (by omega) (by omega)
                have hws2 := wr64 ((o : Int) + ((s.size : Int) + 1)) (by omega) (by omega)
                go_wp2_with fail
                exact ⟨⟨j + 1, by rw [HOS.out]; go_num, by go_num, by omega, by trivial⟩, by simp [intOf]; omega⟩
              · have e1' : (l.length : Int) ≤ (j : Int) := by omega
                have hje : j = l.length := by omega
                have HSZ0 : Hid (off l j = off l l.length) := by show _ = _; rw [hje]
                obtain ⟨sz, hsz⟩ : ∃ sz, sz = off l j := ⟨_, rfl⟩
                have HSZ : Hid (sz = off l l.length) := by show _ = _; rw [hsz]; exact HSZ0.out
                rw [← hsz] at hoj ⊢
                clear hsz hje
                have hszb : sz ≤ 1048576 := by omega
                have hszi : (sz : Int) ≤ 1048576 := by omega
                have hmb := mk_buf sz (by omega)
                have hms := mk_row 25 3 (.int .i64 0) 8 Try.underlying25 Try.info3 rfl (by omega) l.length (by omega)
                obtain ⟨bf, hbf⟩ : ∃ bf, bf = w3.heap.size := ⟨_, rfl⟩
                have HBF : Hid (w3.heap.size = bf) := hbf.symm
                have hrbf : r < bf := by rw [hbf]; exact HRS3.out
                have hbbf : b < bf := by omega
                have SB : Hid (Bf ((w3.alloc (.cells (madeCells #[.int .u8 0] sz) 5)).alloc (.cells (madeCells #[.int .i64 0] l.length) 3)) bf sz []) := by
                  rw [hbf]
                  refine ⟨madeCells #[.int .u8 0] sz, ?_, size_madeCells _ _, by simp, by simp⟩
                  rw [Below.heap_alloc _ _ _ (by simp)]
                  exact heap_alloc_new w3 _
                have SC : Hid (Cln w3 (bf + 1) 3 (sts l) 0 ((w3.alloc (.cells (madeCells #[.int .u8 0] sz) 5)).alloc (.cells (madeCells #[.int .i64 0] l.length) 3))) := by
                  have := cln_start (w3.alloc (.cells (madeCells #[.int .u8 0] sz) 5)) 3 (.int .i64 0) (sts l)
                  rw [sts_len] at this
                  have e : (w3.alloc (.cells (madeCells #[.int .u8 0] sz) 5)).heap.size = bf + 1 := by rw [hbf]; simp
                  rw [e] at this
                  exact this
                clear hbf HSZ0
                go_wp2_with fail
                rw [HBF.out]
                go_loopw [16, 18] (fun u v wx => ∃ j : Nat, u = .slice (some ⟨bf, 0, none⟩) (jn (l.take j)).length sz ∧ v = .int .i64 j ∧ j ≤ l.length ∧ Bf wx bf sz (jn (l.take j)) ∧ Cln w3 (bf + 1) 3 (sts l) j wx ∧ Kept [] w3 wx) (fun _ v _ => l.length - (intOf v).toNat)
                case atStart => exact ⟨0, by rfl, rfl, Nat.zero_le _, SB.out, SC.out, ((Kept.refl [] w3).alloc _).alloc _⟩
                case round =>
                  clear SB SC hmb hms
                  obtain ⟨j, rfl, rfl, hj, hBf, hCs, hK3⟩ := hrel
                  have HBf : Hid (Bf wr bf sz (jn (l.take j))) := hBf
                  have HCs : Hid (Cln w3 (bf + 1) 3 (sts l) j wr) := hCs
                  have HK3 : Hid (Kept [] w3 wr) := hK3
                  have f0 : (0 : Int) ≤ (j : Int) := by omega
                  by_cases hjl : j < l.length
                  · have f1 : (j : Int) < (l.length : Int) := by omega
                    have hwj := wr64 ((j : Int) + 1) (by omega) (by omega)
                    obtain ⟨y, rfl, hyc0⟩ := HSTR.out j hjl
                    have hoj1 := off_le l (j + 1) (by omega)
                    rw [off_succ l j hjl, ← HSZ.out] at hoj1
                    obtain ⟨s, hs⟩ : ∃ s, s = l.getD j ByteArray.empty := ⟨_, rfl⟩
                    have HS : Hid (s = l.getD j ByteArray.empty) := hs
                    rw [← hs] at hoj1
                    clear hs
                    obtain ⟨o, ho⟩ : ∃ o, o = off l j := ⟨_, rfl⟩
                    have HOO : Hid (off l j = o) := ho.symm
                    rw [← ho] at hoj1
                    clear ho
                    have hp1 := isp_eq j
                    have hp2 := isp_eq2 j
                    by_cases hj0 : 0 < j
                    · have hp3 := isp_t hj0
                      obtain ⟨TX, hTX⟩ : ∃ TX, TX = jn (l.take j) ++ [10] := ⟨_, rfl⟩
                      have HTX' : Hid ((if j = 0 then [] else jn (l.take j) ++ [10]) = TX) := by show _ = _; rw [hTX, if_neg (by omega)]
                      have hlen1 := jn_take_len l j hj0 hj
                      rw [HOO.out] at hlen1
                      have HTL : Hid (TX.length = o) := by show _ = _; rw [hTX, List.length_append]; simp; omega
                      obtain ⟨hcl1, hfl1, hBX0, hKX0⟩ := hBf.nl2 (by omega)
                      obtain ⟨wX, hwX⟩ : ∃ wX, (wr.alloc (.cells #[.int .u8 10] 5)).setCell ⟨bf, (jn (l.take j)).length, none⟩ (.int .u8 10) = wX := ⟨_, rfl⟩
                      have HWX : Hid ((wr.alloc (.cells #[.int .u8 10] 5)).setCell ⟨bf, (jn (l.take j)).length, none⟩ (.int .u8 10) = wX) := hwX
                      rw [hwX] at hBX0 hKX0
                      have hBX := hBX0
                      have hKX := hKX0
                      clear hwX hBX0 hKX0
                      rw [← hTX] at hBX
                      have HBX : Hid (Bf wX bf sz TX) := hBX
                      have HCX : Hid (Cln w3 (bf + 1) 3 (sts l) j wX) := by
                        obtain ⟨q1, cs, q2, q3, q4⟩ := hCs
                        exact ⟨q1, cs, hKX.at q2 (by simp), q3, q4⟩
                      have HK3X : Hid (Kept [] w3 wX) := hK3.trans_new hKX (fun k hk => by simp at hk; subst hk; exact Or.inr (by rw [HBF.out]; exact Nat.le_refl _))
                      clear hBf hCs hK3 hBX hKX hTX hj0
                      obtain ⟨tl, htl⟩ : ∃ tl, tl = (jn (l.take j)).length := ⟨_, rfl⟩
                      rw [← htl] at hcl1 hfl1 HWX hlen1 ⊢
                      have HL1 : Hid (tl + 1 = o) := hlen1
                      have hroom : tl + 1 ≤ sz := by omega
                      clear htl hlen1
                      obtain ⟨ul, hul⟩ := hcl1
                      go_upto_region 25 with fail
                      rw [HWX.out, HL1.out]
                      have HSC := HCX.out
                      obtain ⟨⟨uu, huu⟩, hfs⟩ := cln_cell HSC j (by rw [sts_len]; exact hjl)
                      have NC : Hid (Cln w3 (bf + 1) 3 (sts l) (j + 1) (wX.setCell ⟨bf + 1, j, none⟩ (.int .i64 ((o : Nat) : Int)))) := by
                        have := cln_step HSC (by rw [sts_len]; exact hjl)
                        rw [sts_at l j hjl, HOO.out] at this
                        exact this
                      clear HSC
                      go_upto_region 26 with fail
                      obtain ⟨w5, hw5⟩ : ∃ w5, wX.setCell ⟨bf + 1, j, none⟩ (.int .i64 ((o : Nat) : Int)) = w5 := ⟨_, rfl⟩
                      rw [hw5]
                      have HKX5 : Hid (Kept [bf + 1] wX w5) := by rw [← hw5]; exact (Kept.refl [bf + 1] wX).setCell (p := ⟨bf + 1, j, none⟩) (by simp) _
                      rw [hw5] at NC
                      clear hw5 huu hfs
                      have HK35 : Hid (Kept [] w3 w5) := HK3X.out.trans_new HKX5.out (fun k hk => by simp at hk; subst hk; exact Or.inr (by rw [HBF.out]; omega))
                      have hyc5 := cell_kept (HKW3.out.trans HK35.out) hyc0 (by simp)
                      rw [← HS.out] at hyc5
                      obtain ⟨w6, hrun6, hB6, hK6⟩ := (HBX.out.kept HKX5.out (by simp)).str s (by rw [HTL.out]; omega)
                      rw [HTL.out] at hrun6
                      have HB6 : Hid (Bf w6 bf sz (jn (l.take (j + 1)))) := by
                        have e : TX ++ bts s = jn (l.take (j + 1)) := by rw [jn_snoc l j hjl, ← HS.out, HTX'.out]
                        rw [← e]; exact hB6
                      have HC6 : Hid (Cln w3 (bf + 1) 3 (sts l) (j + 1) w6) := by
                        obtain ⟨q1, cs, q2, q3, q4⟩ := NC.out
                        exact ⟨q1, cs, hK6.at q2 (by simp), q3, q4⟩
                      have HK36 : Hid (Kept [] w3 w6) := HK35.out.trans_new hK6 (fun k hk => by simp at hk; subst hk; exact Or.inr (by rw [HBF.out]; exact Nat.le_refl _))
                      have HL6 : Hid ((jn (l.take (j + 1))).length = o + s.size) := by
                        have e : TX ++ bts s = jn (l.take (j + 1)) := by rw [jn_snoc l j hjl, ← HS.out, HTX'.out]
                        show _ = _
                        rw [← e, List.length_append, bts_len, HTL.out]
                      clear hB6 hK6 hyc0
                      go_wp2_with fail
                      exact ⟨⟨j + 1, by rw [HL6.out], by go_num, by omega, HB6.out, HC6.out, HK36.out⟩, by simp [intOf]; omega⟩
                    · have hp3 := isp_f hj0
                      have hjz : j = 0 := by omega
                      have HT0 : Hid ((jn (l.take j)).length = 0) := by show _ = _; rw [hjz]; rfl
                      have ho0 : Hid (o = 0) := by show _ = _; rw [← HOO.out, hjz]; exact off_zero l
                      obtain ⟨TX, hTX⟩ : ∃ TX : List Int, TX = [] := ⟨_, rfl⟩
                      have HTL : Hid (TX.length = o) := by show _ = _; rw [hTX, ho0.out]; rfl
                      have HTX' : Hid ((if j = 0 then [] else jn (l.take j) ++ [10]) = TX) := by show _ = _; rw [if_pos hjz, hTX]
                      have HBX : Hid (Bf wr bf sz TX) := by
                        have := hBf
                        rw [hjz] at this
                        rw [hTX]; exact this
                      have HTO : Hid ((jn (l.take j)).length = o) := by show _ = _; rw [HT0.out, ho0.out]
                      rw [HTO.out]
                      have HCX : Hid (Cln w3 (bf + 1) 3 (sts l) j wr) := hCs
                      have HK3X : Hid (Kept [] w3 wr) := hK3
                      clear hBf hCs hK3 hTX hj0 hjz
                      obtain ⟨wX, hwX⟩ : ∃ wX, wX = wr := ⟨wr, rfl⟩
                      subst hwX
                      go_upto_region 25 with fail
                      have HSC := HCX.out
                      obtain ⟨⟨uu, huu⟩, hfs⟩ := cln_cell HSC j (by rw [sts_len]; exact hjl)
                      have NC : Hid (Cln w3 (bf + 1) 3 (sts l) (j + 1) (wX.setCell ⟨bf + 1, j, none⟩ (.int .i64 ((o : Nat) : Int)))) := by
                        have := cln_step HSC (by rw [sts_len]; exact hjl)
                        rw [sts_at l j hjl, HOO.out] at this
                        exact this
                      clear HSC
                      go_upto_region 26 with fail
                      obtain ⟨w5, hw5⟩ : ∃ w5, wX.setCell ⟨bf + 1, j, none⟩ (.int .i64 ((o : Nat) : Int)) = w5 := ⟨_, rfl⟩
                      rw [hw5]
                      have HKX5 : Hid (Kept [bf + 1] wX w5) := by rw [← hw5]; exact (Kept.refl [bf + 1] wX).setCell (p := ⟨bf + 1, j, none⟩) (by simp) _
                      rw [hw5] at NC
                      clear hw5 huu hfs
                      have HK35 : Hid (Kept [] w3 w5) := HK3X.out.trans_new HKX5.out (fun k hk => by simp at hk; subst hk; exact Or.inr (by rw [HBF.out]; omega))
                      have hyc5 := cell_kept (HKW3.out.trans HK35.out) hyc0 (by simp)
                      rw [← HS.out] at hyc5
                      obtain ⟨w6, hrun6, hB6, hK6⟩ := (HBX.out.kept HKX5.out (by simp)).str s (by rw [HTL.out]; omega)
                      rw [HTL.out] at hrun6
                      have HB6 : Hid (Bf w6 bf sz (jn (l.take (j + 1)))) := by
                        have e : TX ++ bts s = jn (l.take (j + 1)) := by rw [jn_snoc l j hjl, ← HS.out, HTX'.out]
                        rw [← e]; exact hB6
                      have HC6 : Hid (Cln w3 (bf + 1) 3 (sts l) (j + 1) w6) := by
                        obtain ⟨q1, cs, q2, q3, q4⟩ := NC.out
                        exact ⟨q1, cs, hK6.at q2 (by simp), q3, q4⟩
                      have HK36 : Hid (Kept [] w3 w6) := HK35.out.trans_new hK6 (fun k hk => by simp at hk; subst hk; exact Or.inr (by rw [HBF.out]; exact Nat.le_refl _))
                      have HL6 : Hid ((jn (l.take (j + 1))).length = o + s.size) := by
                        have e : TX ++ bts s = jn (l.take (j + 1)) := by rw [jn_snoc l j hjl, ← HS.out, HTX'.out]
                        show _ = _
                        rw [← e, List.length_append, bts_len, HTL.out]
                      clear hB6 hK6 hyc0
                      go_wp2_with fail
                      exact ⟨⟨j + 1, by rw [HL6.out], by go_num, by omega, HB6.out, HC6.out, HK36.out⟩, by simp [intOf]; omega⟩
                  · have f1 : (l.length : Int) ≤ (j : Int) := by omega
                    have hje : j = l.length := by omega
                    have hT : jn (l.take j) = jn l := by rw [hje, List.take_of_length_le (Nat.le_refl _)]
                    obtain ⟨w7, hw7⟩ : ∃ w7, w7 = wr := ⟨wr, rfl⟩
                    subst hw7
                    rw [hT] at hBf ⊢
                    have hconv := run_convert_bytes_arg (P := Try.prog) w7 38 5 Try.underlying38 Try.underlying5 bf 0 (jn l).length sz (jn l) rfl (fun i hi => hBf.cell i hi) 9 Try.underlying9
                    obtain ⟨tx, htx⟩ : ∃ tx, tx = strOfNums (jn l) := ⟨_, rfl⟩
                    have HTX : Hid (bts tx = jn l) := by show _ = _; rw [htx]; exact bts_nums _ (jn_byte l)
                    rw [← htx] at hconv
                    have HST7 : Hid (∀ k, k < l.length → w7.cell? ⟨bf + 1, k, none⟩ = some (.int .i64 ((off l k : Nat) : Int))) := by
                      intro k hk
                      obtain ⟨q1, cs, q2, q3, q4⟩ := hCs
                      have := q4 k (by omega)
                      rw [sts_at l k hk] at this
                      exact cell_of q2 this
                    have HK37 : Hid (Kept [] w3 w7) := hK3
                    clear htx hT hje hBf hCs hK3 HBf HCs HK3
                    obtain ⟨tl, htl⟩ : ∃ tl, tl = (jn l).length := ⟨_, rfl⟩
                    rw [← htl] at hconv ⊢
                    clear htl
                    go_wp2_with fail
                    have START5 : Hid (RowI w7 r l el 0) := RowI.start el (HK37.out.at HROW3.out (by simp))
                    go_loopw [20] (fun v wx => ∃ j : Nat, v = .int .i64 j ∧ j ≤ l.length ∧ RowI wx r l el j ∧ Kept [r] w7 wx) (fun v _ => l.length - (intOf v).toNat)
                    case atStart => exact ⟨0, rfl, Nat.zero_le _, START5.out, Kept.refl _ _⟩
                    case round =>
                      clear START5
                      obtain ⟨j, rfl, hj, hI, hK7⟩ := hrel
                      have HII : Hid (RowI wr r l el j) := hI
                      have HK7 : Hid (Kept [r] w7 wr) := hK7
                      have HKWr : Hid (Kept [] w wr) := (HKW3.out.trans HK37.out).trans_new hK7 (fun k hk => by simp at hk; subst hk; exact Or.inr (by rw [HBW.out]; omega))
                      have j0 : (0 : Int) ≤ (j : Int) := by omega
                      by_cases hjl : j < l.length
                      · have j1 : (j : Int) < (l.length : Int) := by omega
                        have hwj := wr64 ((j : Int) + 1) (by omega) (by omega)
                        obtain ⟨y, rfl, hyc0⟩ := HSTR.out j hjl
                        have hyc := cell_kept HKWr.out hyc0 (by simp)
                        have hnc := cell_kept HKWr.out HNC0.out (by simp)
                        obtain ⟨hcr, hfr⟩ := hI.cell j hjl
                        rw [if_neg (Nat.lt_irrefl _)] at hcr
                        have hst : wr.cell? ⟨bf + 1, j, none⟩ = some (.int .i64 ((off l j : Nat) : Int)) := by
                          have h1 := HST7.out j hjl
                          exact cell_kept hK7 h1 (by simp; omega)
                        obtain ⟨s, hs⟩ : ∃ s, s = l.getD j ByteArray.empty := ⟨_, rfl⟩
                        have HS : Hid (s = l.getD j ByteArray.empty) := hs
                        rw [← hs] at hyc hcr
                        clear hs hyc0 hI hK7
                        obtain ⟨hsz1, hsz2⟩ := size_le l j hjl
                        rw [← HS.out] at hsz1
                        have htxs : (jn l).length = tx.size := by rw [← HTX.out, bts_len]
                        have hoff1 : ((off l j : Nat) : Int) ≤ (tx.size : Int) := by omega
                        have hoff0 : (0 : Int) ≤ ((off l j : Nat) : Int) := by omega
                        have hss : s.size ≤ 1048576 := by omega
                        have hss' : (s.size : Int) ≤ 1048576 := by omega
                        have htxl : tx.size ≤ 4000000 := by
                          have := jn_len l
                          unfold rsum at hsm2
                          omega
                        clear htxs hsz1 hsz2
                        have HTD : Hid (bts (tx.extract (off l j) tx.size) = jn (l.drop j)) := by show _ = _; rw [bts_from, HTX.out]; exact (off_drop l j hjl).2
                        have HKIND : Hid (mrk st nb i l j = -1 ∨ ∃ m : Nat, mrk st nb i l j = m ∧ MkAt s m) := by show _ ∨ _; rw [HS.out]; exact mrk_kind st nb i l j hjl
                        have HELJ : Hid (el j = if 0 ≤ mrk st nb i l j then bsl s (mrk st nb i l j).toNat else s) := by show _ = _; rw [HELD.out, HS.out]; rfl
                        have HMA : Hid (exA st i j → mrk st nb i l j = -1) := fun h => mrk_a h
                        have HMB : Hid (¬ exA st i j → nb = true ∨ j = 0 → hid (bts (tx.extract (off l j) tx.size)) = mrk st nb i l j) := fun h h2 => by rw [mrk_b h h2, HTD.out]
                        have HMC : Hid (¬ exA st i j → ¬ (nb = true ∨ j = 0) → mrk st nb i l j = if fence (bts s) then hid (bts s) else -1) := fun h h2 => by rw [mrk_c h h2, ← HS.out]
                        obtain ⟨m0, hm0⟩ : ∃ m0, m0 = mrk st nb i l j := ⟨_, rfl⟩
                        rw [← hm0] at HKIND HELJ HMA HMB HMC
                        clear hm0 HTD
                        obtain ⟨o, ho⟩ : ∃ o, o = off l j := ⟨_, rfl⟩
                        rw [← ho] at hoff1 hoff0 HMB hst
                        clear ho
                        have htxe : (tx.extract o tx.size).size ≤ 4000000 := by rw [← bts_len, bts_from, List.length_drop, bts_len]; omega
                        have HKX : Hid (Kept [] wr wr) := Kept.refl _ _
                        have gi1 := isz_eq i
                        have gj1 := isz_eq j
                        by_cases hi0 : i = 0
                        · have gi2 := isz_t hi0
                          by_cases hj0 : j = 0
                          · have gj2 := isz_t hj0
                            cases st with
                            | false =>
                              have hm := HMA.out ⟨hi0, hj0, rfl⟩
                              clear hi0 hj0
                              subst hm
                              have HELV : Hid (el j = s) := by show _ = _; rw [HELJ.out, if_neg (by omega)]
                              clear HKIND HMA HMB HMC
                              have NXT : Hid (RowI wr r l el (j + 1)) := HII.out.same (by rw [HELV.out, HS.out])
                              have NK : Hid (Kept [r] w7 wr) := HK7.out.trans (HKX.out.mono (by simp))
                              go_wp2_with fail
                              exact ⟨⟨j + 1, by go_num, by omega, NXT.out, NK.out⟩, by simp [intOf]; omega⟩
                            | true =>
                              have hnA : ¬ exA true i j := fun h => by cases h.2.2
                              cases nb with
                              | true =>
                                have hB : true = true ∨ j = 0 := Or.inl rfl
                                have HEQ : Hid (hid (bts (tx.extract o tx.size)) = m0) := HMB.out hnA hB
                                clear hi0 hj0 hnA hB
                                go_wp2_with fail
                                go_at_call 9
                                refine (model_any (tx.extract o tx.size) _ htxe).mono ?_
                                rintro e w8 ⟨rfl, hKc⟩
                                rw [HEQ.out]
                                have HKX' : Hid (Kept [] wr w8) := HKX.out.trans hKc
                                have hycW := cell_kept hKc hyc (by simp)
                                have HIX := HII.out.kept hKc (by simp)
                                have hcW := (HIX.cell j hjl).1
                                have hfW := (HIX.cell j hjl).2
                                rw [if_neg (Nat.lt_irrefl _), ← HS.out] at hcW
                                clear HKX HII hKc hyc hnc hst hcr hfr
                                have HKX : Hid (Kept [] wr w8) := HKX'.out
                                have HII : Hid (RowI w8 r l el j) := HIX
                                have hyc := hycW
                                have hcr := hcW
                                have hfr := hfW
                                clear HKX' HIX hycW hcW hfW
                                rcases HKIND.out with hm | ⟨m, hm, hmk⟩
                                · subst hm
                                  clear HKIND HMA HMB HMC
                                  have HELV : Hid (el j = s) := by show _ = _; rw [HELJ.out, if_neg (by omega)]
                                  have NXT : Hid (RowI w8 r l el (j + 1)) := HII.out.same (by rw [HELV.out, HS.out])
                                  have NK : Hid (Kept [r] w7 w8) := HK7.out.trans (HKX.out.mono (by simp))
                                  go_wp2_with fail
                                  exact ⟨⟨j + 1, by go_num, by omega, NXT.out, NK.out⟩, by simp [intOf]; omega⟩
                                · subst hm
                                  have HELV : Hid (el j = bsl s m) := by show _ = _; rw [HELJ.out, if_pos (by omega)]; rfl
                                  have q1 : (m : Int) ≤ (s.size : Int) := by have := hmk.1; omega
                                  have q0 : (0 : Int) ≤ (m : Int) := by omega
                                  clear hmk
                                  clear HKIND HMA HMB HMC
                                  have NXT : Hid (RowI (w8.setCell ⟨r, j, none⟩ (.string (bsl s m))) r l el (j + 1)) := by
                                    have := HII.out.set hjl
                                    rw [HELV.out] at this
                                    exact this
                                  have NK : Hid (∀ u, Kept [r] w7 (w8.setCell ⟨r, j, none⟩ u)) := fun u => (HK7.out.trans (HKX.out.mono (by simp))).setCell (p := ⟨r, j, none⟩) (by simp) u
                                  go_wp2_with fail
                                  go_region
                                  go_wp2_with fail
                                  exact ⟨⟨j + 1, by go_num, by omega, NXT.out, (NK.out _).drew⟩, by simp [intOf]; omega⟩
                              | false =>
                                have hB : false = true ∨ j = 0 := Or.inr hj0
                                have HEQ : Hid (hid (bts (tx.extract o tx.size)) = m0) := HMB.out hnA hB
                                clear hi0 hj0 hnA hB
                                go_wp2_with fail
                                go_at_call 9
                                refine (model_any (tx.extract o tx.size) _ htxe).mono ?_
                                rintro e w8 ⟨rfl, hKc⟩
                                rw [HEQ.out]
                                have HKX' : Hid (Kept [] wr w8) := HKX.out.trans hKc
                                have hycW := cell_kept hKc hyc (by simp)
                                have HIX := HII.out.kept hKc (by simp)
                                have hcW := (HIX.cell j hjl).1
                                have hfW := (HIX.cell j hjl).2
                                rw [if_neg (Nat.lt_irrefl _), ← HS.out] at hcW
                                clear HKX HII hKc hyc hnc hst hcr hfr
                                have HKX : Hid (Kept [] wr w8) := HKX'.out
                                have HII : Hid (RowI w8 r l el j) := HIX
                                have hyc := hycW
                                have hcr := hcW
                                have hfr := hfW
                                clear HKX' HIX hycW hcW hfW
                                rcases HKIND.out with hm | ⟨m, hm, hmk⟩
                                · subst hm
                                  clear HKIND HMA HMB HMC
                                  have HELV : Hid (el j = s) := by show _ = _; rw [HELJ.out, if_neg (by omega)]
                                  have NXT : Hid (RowI w8 r l el (j + 1)) := HII.out.same (by rw [HELV.out, HS.out])
                                  have NK : Hid (Kept [r] w7 w8) := HK7.out.trans (HKX.out.mono (by simp))
                                  go_wp2_with fail
                                  exact ⟨⟨j + 1, by go_num, by omega, NXT.out, NK.out⟩, by simp [intOf]; omega⟩
                                · subst hm
                                  have HELV : Hid (el j = bsl s m) := by show _ = _; rw [HELJ.out, if_pos (by omega)]; rfl
                                  have q1 : (m : Int) ≤ (s.size : Int) := by have := hmk.1; omega
                                  have q0 : (0 : Int) ≤ (m : Int) := by omega
                                  clear hmk
                                  clear HKIND HMA HMB HMC
                                  have NXT : Hid (RowI (w8.setCell ⟨r, j, none⟩ (.string (bsl s m))) r l el (j + 1)) := by
                                    have := HII.out.set hjl
                                    rw [HELV.out] at this
                                    exact this
                                  have NK : Hid (∀ u, Kept [r] w7 (w8.setCell ⟨r, j, none⟩ u)) := fun u => (HK7.out.trans (HKX.out.mono (by simp))).setCell (p := ⟨r, j, none⟩) (by simp) u
                                  go_wp2_with fail
                                  go_region
                                  go_wp2_with fail
                                  exact ⟨⟨j + 1, by go_num, by omega, NXT.out, (NK.out _).drew⟩, by simp [intOf]; omega⟩
                          · have gj2 := isz_f hj0
                            have hnA : ¬ exA st i j := fun h => hj0 h.2.1
                            cases nb with
                            | true =>
                              have hB : true = true ∨ j = 0 := Or.inl rfl
                              have HEQ : Hid (hid (bts (tx.extract o tx.size)) = m0) := HMB.out hnA hB
                              clear hi0 hj0 hnA hB
                              go_wp2_with fail
                              go_at_call 9
                              refine (model_any (tx.extract o tx.size) _ htxe).mono ?_
                              rintro e w8 ⟨rfl, hKc⟩
                              rw [HEQ.out]
                              have HKX' : Hid (Kept [] wr w8) := HKX.out.trans hKc
                              have hycW := cell_kept hKc hyc (by simp)
                              have HIX := HII.out.kept hKc (by simp)
                              have hcW := (HIX.cell j hjl).1
                              have hfW := (HIX.cell j hjl).2
                              rw [if_neg (Nat.lt_irrefl _), ← HS.out] at hcW
                              clear HKX HII hKc hyc hnc hst hcr hfr
                              have HKX : Hid (Kept [] wr w8) := HKX'.out
                              have HII : Hid (RowI w8 r l el j) := HIX
                              have hyc := hycW
                              have hcr := hcW
                              have hfr := hfW
                              clear HKX' HIX hycW hcW hfW
                              rcases HKIND.out with hm | ⟨m, hm, hmk⟩
                              · subst hm
                                clear HKIND HMA HMB HMC
                                have HELV : Hid (el j = s) := by show _ = _; rw [HELJ.out, if_neg (by omega)]
                                have NXT : Hid (RowI w8 r l el (j + 1)) := HII.out.same (by rw [HELV.out, HS.out])
                                have NK : Hid (Kept [r] w7 w8) := HK7.out.trans (HKX.out.mono (by simp))
                                go_wp2_with fail
                                exact ⟨⟨j + 1, by go_num, by omega, NXT.out, NK.out⟩, by simp [intOf]; omega⟩
                              · subst hm
                                have HELV : Hid (el j = bsl s m) := by show _ = _; rw [HELJ.out, if_pos (by omega)]; rfl
                                have q1 : (m : Int) ≤ (s.size : Int) := by have := hmk.1; omega
                                have q0 : (0 : Int) ≤ (m : Int) := by omega
                                clear hmk
                                clear HKIND HMA HMB HMC
                                have NXT : Hid (RowI (w8.setCell ⟨r, j, none⟩ (.string (bsl s m))) r l el (j + 1)) := by
                                  have := HII.out.set hjl
                                  rw [HELV.out] at this
                                  exact this
                                have NK : Hid (∀ u, Kept [r] w7 (w8.setCell ⟨r, j, none⟩ u)) := fun u => (HK7.out.trans (HKX.out.mono (by simp))).setCell (p := ⟨r, j, none⟩) (by simp) u
                                go_wp2_with fail
                                go_region
                                go_wp2_with fail
                                exact ⟨⟨j + 1, by go_num, by omega, NXT.out, (NK.out _).drew⟩, by simp [intOf]; omega⟩
                            | false =>
                              have hnB : ¬ (false = true ∨ j = 0) := fun h => by rcases h with h | h; cases h; exact hj0 h
                              cases hfe : fence (bts s) with
                              | true =>
                                have HEQ : Hid (hid (bts s) = m0) := by
                                  show _ = _
                                  rw [HMC.out hnA hnB, hfe]
                                  rfl
                                have HFE : Hid (fence (bts s) = true) := hfe
                                clear hi0 hj0 hnA hnB hfe
                                go_wp2_with fail
                                go_at_call 23
                                refine (fence_any s _ (by omega)).mono ?_
                                rintro e w8 ⟨rfl, hKc⟩
                                rw [HFE.out]
                                have HKX' : Hid (Kept [] wr w8) := HKX.out.trans hKc
                                have hycW := cell_kept hKc hyc (by simp)
                                have HIX := HII.out.kept hKc (by simp)
                                have hcW := (HIX.cell j hjl).1
                                have hfW := (HIX.cell j hjl).2
                                rw [if_neg (Nat.lt_irrefl _), ← HS.out] at hcW
                                clear HKX HII hKc hyc hnc hst hcr hfr
                                have HKX : Hid (Kept [] wr w8) := HKX'.out
                                have HII : Hid (RowI w8 r l el j) := HIX
                                have hyc := hycW
                                have hcr := hcW
                                have hfr := hfW
                                clear HKX' HIX hycW hcW hfW
                                go_wp2_with fail
                                go_at_call 9
                                refine (model_any s _ (by omega)).mono ?_
                                rintro e w9 ⟨rfl, hKc⟩
                                rw [HEQ.out]
                                have HKX' : Hid (Kept [] wr w9) := HKX.out.trans hKc
                                have hycW := cell_kept hKc hyc (by simp)
                                have HIX := HII.out.kept hKc (by simp)
                                have hcW := (HIX.cell j hjl).1
                                have hfW := (HIX.cell j hjl).2
                                rw [if_neg (Nat.lt_irrefl _), ← HS.out] at hcW
                                clear HKX HII hKc hyc hcr hfr
                                have HKX : Hid (Kept [] wr w9) := HKX'.out
                                have HII : Hid (RowI w9 r l el j) := HIX
                                have hyc := hycW
                                have hcr := hcW
                                have hfr := hfW
                                clear HKX' HIX hycW hcW hfW
                                rcases HKIND.out with hm | ⟨m, hm, hmk⟩
                                · subst hm
                                  clear HKIND HMA HMB HMC
                                  have HELV : Hid (el j = s) := by show _ = _; rw [HELJ.out, if_neg (by omega)]
                                  have NXT : Hid (RowI w9 r l el (j + 1)) := HII.out.same (by rw [HELV.out, HS.out])
                                  have NK : Hid (Kept [r] w7 w9) := HK7.out.trans (HKX.out.mono (by simp))
                                  go_wp2_with fail
                                  exact ⟨⟨j + 1, by go_num, by omega, NXT.out, NK.out⟩, by simp [intOf]; omega⟩
                                · subst hm
                                  have HELV : Hid (el j = bsl s m) := by show _ = _; rw [HELJ.out, if_pos (by omega)]; rfl
                                  have q1 : (m : Int) ≤ (s.size : Int) := by have := hmk.1; omega
                                  have q0 : (0 : Int) ≤ (m : Int) := by omega
                                  clear hmk
                                  clear HKIND HMA HMB HMC
                                  have NXT : Hid (RowI (w9.setCell ⟨r, j, none⟩ (.string (bsl s m))) r l el (j + 1)) := by
                                    have := HII.out.set hjl
                                    rw [HELV.out] at this
                                    exact this
                                  have NK : Hid (∀ u, Kept [r] w7 (w9.setCell ⟨r, j, none⟩ u)) := fun u => (HK7.out.trans (HKX.out.mono (by simp))).setCell (p := ⟨r, j, none⟩) (by simp) u
                                  go_wp2_with fail
                                  go_region
                                  go_wp2_with fail
                                  exact ⟨⟨j + 1, by go_num, by omega, NXT.out, (NK.out _).drew⟩, by simp [intOf]; omega⟩
                              | false =>
                                have hm : m0 = -1 := by rw [HMC.out hnA hnB, hfe]; rfl
                                have HFE : Hid (fence (bts s) = false) := hfe
                                clear hi0 hj0 hnA hnB hfe
                                subst hm
                                have HELV : Hid (el j = s) := by show _ = _; rw [HELJ.out, if_neg (by omega)]
                                clear HKIND HMA HMB HMC
                                go_wp2_with fail
                                go_at_call 23
                                refine (fence_any s _ (by omega)).mono ?_
                                rintro e w8 ⟨rfl, hKc⟩
                                rw [HFE.out]
                                have HKX' : Hid (Kept [] wr w8) := HKX.out.trans hKc
                                have hycW := cell_kept hKc hyc (by simp)
                                have HIX := HII.out.kept hKc (by simp)
                                have hcW := (HIX.cell j hjl).1
                                have hfW := (HIX.cell j hjl).2
                                rw [if_neg (Nat.lt_irrefl _), ← HS.out] at hcW
                                clear HKX HII hKc hyc hnc hst hcr hfr
                                have HKX : Hid (Kept [] wr w8) := HKX'.out
                                have HII : Hid (RowI w8 r l el j) := HIX
                                have hyc := hycW
                                have hcr := hcW
                                have hfr := hfW
                                clear HKX' HIX hycW hcW hfW
                                have NXT : Hid (RowI w8 r l el (j + 1)) := HII.out.same (by rw [HELV.out, HS.out])
                                have NK : Hid (Kept [r] w7 w8) := HK7.out.trans (HKX.out.mono (by simp))
                                go_wp2_with fail
                                exact ⟨⟨j + 1, by go_num, by omega, NXT.out, NK.out⟩, by simp [intOf]; omega⟩
                        · have gi2 := isz_f hi0
                          have hnA : ¬ exA st i j := fun h => hi0 h.1
                          by_cases hj0 : j = 0
                          · have gj2 := isz_t hj0
                            cases nb with
                            | true =>
                              have hB : true = true ∨ j = 0 := Or.inl rfl
                              have HEQ : Hid (hid (bts (tx.extract o tx.size)) = m0) := HMB.out hnA hB
                              clear hi0 hj0 hnA hB
                              go_wp2_with fail
                              go_at_call 9
                              refine (model_any (tx.extract o tx.size) _ htxe).mono ?_
                              rintro e w8 ⟨rfl, hKc⟩
                              rw [HEQ.out]
                              have HKX' : Hid (Kept [] wr w8) := HKX.out.trans hKc
                              have hycW := cell_kept hKc hyc (by simp)
                              have HIX := HII.out.kept hKc (by simp)
                              have hcW := (HIX.cell j hjl).1
                              have hfW := (HIX.cell j hjl).2
                              rw [if_neg (Nat.lt_irrefl _), ← HS.out] at hcW
                              clear HKX HII hKc hyc hnc hst hcr hfr
                              have HKX : Hid (Kept [] wr w8) := HKX'.out
                              have HII : Hid (RowI w8 r l el j) := HIX
                              have hyc := hycW
                              have hcr := hcW
                              have hfr := hfW
                              clear HKX' HIX hycW hcW hfW
                              rcases HKIND.out with hm | ⟨m, hm, hmk⟩
                              · subst hm
                                clear HKIND HMA HMB HMC
                                have HELV : Hid (el j = s) := by show _ = _; rw [HELJ.out, if_neg (by omega)]
                                have NXT : Hid (RowI w8 r l el (j + 1)) := HII.out.same (by rw [HELV.out, HS.out])
                                have NK : Hid (Kept [r] w7 w8) := HK7.out.trans (HKX.out.mono (by simp))
                                go_wp2_with fail
                                exact ⟨⟨j + 1, by go_num, by omega, NXT.out, NK.out⟩, by simp [intOf]; omega⟩
                              · subst hm
                                have HELV : Hid (el j = bsl s m) := by show _ = _; rw [HELJ.out, if_pos (by omega)]; rfl
                                have q1 : (m : Int) ≤ (s.size : Int) := by have := hmk.1; omega
                                have q0 : (0 : Int) ≤ (m : Int) := by omega
                                clear hmk
                                clear HKIND HMA HMB HMC
                                have NXT : Hid (RowI (w8.setCell ⟨r, j, none⟩ (.string (bsl s m))) r l el (j + 1)) := by
                                  have := HII.out.set hjl
                                  rw [HELV.out] at this
                                  exact this
                                have NK : Hid (∀ u, Kept [r] w7 (w8.setCell ⟨r, j, none⟩ u)) := fun u => (HK7.out.trans (HKX.out.mono (by simp))).setCell (p := ⟨r, j, none⟩) (by simp) u
                                go_wp2_with fail
                                go_region
                                go_wp2_with fail
                                exact ⟨⟨j + 1, by go_num, by omega, NXT.out, (NK.out _).drew⟩, by simp [intOf]; omega⟩
                            | false =>
                              have hB : false = true ∨ j = 0 := Or.inr hj0
                              have HEQ : Hid (hid (bts (tx.extract o tx.size)) = m0) := HMB.out hnA hB
                              clear hi0 hj0 hnA hB
                              go_wp2_with fail
                              go_at_call 9
                              refine (model_any (tx.extract o tx.size) _ htxe).mono ?_
                              rintro e w8 ⟨rfl, hKc⟩
                              rw [HEQ.out]
                              have HKX' : Hid (Kept [] wr w8) := HKX.out.trans hKc
                              have hycW := cell_kept hKc hyc (by simp)
                              have HIX := HII.out.kept hKc (by simp)
                              have hcW := (HIX.cell j hjl).1
                              have hfW := (HIX.cell j hjl).2
                              rw [if_neg (Nat.lt_irrefl _), ← HS.out] at hcW
                              clear HKX HII hKc hyc hnc hst hcr hfr
                              have HKX : Hid (Kept [] wr w8) := HKX'.out
                              have HII : Hid (RowI w8 r l el j) := HIX
                              have hyc := hycW
                              have hcr := hcW
                              have hfr := hfW
                              clear HKX' HIX hycW hcW hfW
                              rcases HKIND.out with hm | ⟨m, hm, hmk⟩
                              · subst hm
                                clear HKIND HMA HMB HMC
                                have HELV : Hid (el j = s) := by show _ = _; rw [HELJ.out, if_neg (by omega)]
                                have NXT : Hid (RowI w8 r l el (j + 1)) := HII.out.same (by rw [HELV.out, HS.out])
                                have NK : Hid (Kept [r] w7 w8) := HK7.out.trans (HKX.out.mono (by simp))
                                go_wp2_with fail
                                exact ⟨⟨j + 1, by go_num, by omega, NXT.out, NK.out⟩, by simp [intOf]; omega⟩
                              · subst hm
                                have HELV : Hid (el j = bsl s m) := by show _ = _; rw [HELJ.out, if_pos (by omega)]; rfl
                                have q1 : (m : Int) ≤ (s.size : Int) := by have := hmk.1; omega
                                have q0 : (0 : Int) ≤ (m : Int) := by omega
                                clear hmk
                                clear HKIND HMA HMB HMC
                                have NXT : Hid (RowI (w8.setCell ⟨r, j, none⟩ (.string (bsl s m))) r l el (j + 1)) := by
                                  have := HII.out.set hjl
                                  rw [HELV.out] at this
                                  exact this
                                have NK : Hid (∀ u, Kept [r] w7 (w8.setCell ⟨r, j, none⟩ u)) := fun u => (HK7.out.trans (HKX.out.mono (by simp))).setCell (p := ⟨r, j, none⟩) (by simp) u
                                go_wp2_with fail
                                go_region
                                go_wp2_with fail
                                exact ⟨⟨j + 1, by go_num, by omega, NXT.out, (NK.out _).drew⟩, by simp [intOf]; omega⟩
                          · have gj2 := isz_f hj0
                            cases nb with
                            | true =>
                              have hB : true = true ∨ j = 0 := Or.inl rfl
                              have HEQ : Hid (hid (bts (tx.extract o tx.size)) = m0) := HMB.out hnA hB
                              clear hi0 hj0 hnA hB
                              go_wp2_with fail
                              go_at_call 9
                              refine (model_any (tx.extract o tx.size) _ htxe).mono ?_
                              rintro e w8 ⟨rfl, hKc⟩
                              rw [HEQ.out]
                              have HKX' : Hid (Kept [] wr w8) := HKX.out.trans hKc
                              have hycW := cell_kept hKc hyc (by simp)
                              have HIX := HII.out.kept hKc (by simp)
                              have hcW := (HIX.cell j hjl).1
                              have hfW := (HIX.cell j hjl).2
                              rw [if_neg (Nat.lt_irrefl _), ← HS.out] at hcW
                              clear HKX HII hKc hyc hnc hst hcr hfr
                              have HKX : Hid (Kept [] wr w8) := HKX'.out
                              have HII : Hid (RowI w8 r l el j) := HIX
                              have hyc := hycW
                              have hcr := hcW
                              have hfr := hfW
                              clear HKX' HIX hycW hcW hfW
                              rcases HKIND.out with hm | ⟨m, hm, hmk⟩
                              · subst hm
                                clear HKIND HMA HMB HMC
                                have HELV : Hid (el j = s) := by show _ = _; rw [HELJ.out, if_neg (by omega)]
                                have NXT : Hid (RowI w8 r l el (j + 1)) := HII.out.same (by rw [HELV.out, HS.out])
                                have NK : Hid (Kept [r] w7 w8) := HK7.out.trans (HKX.out.mono (by simp))
                                go_wp2_with fail
                                exact ⟨⟨j + 1, by go_num, by omega, NXT.out, NK.out⟩, by simp [intOf]; omega⟩
                              · subst hm
                                have HELV : Hid (el j = bsl s m) := by show _ = _; rw [HELJ.out, if_pos (by omega)]; rfl
                                have q1 : (m : Int) ≤ (s.size : Int) := by have := hmk.1; omega
                                have q0 : (0 : Int) ≤ (m : Int) := by omega
                                clear hmk
                                clear HKIND HMA HMB HMC
                                have NXT : Hid (RowI (w8.setCell ⟨r, j, none⟩ (.string (bsl s m))) r l el (j + 1)) := by
                                  have := HII.out.set hjl
                                  rw [HELV.out] at this
                                  exact this
                                have NK : Hid (∀ u, Kept [r] w7 (w8.setCell ⟨r, j, none⟩ u)) := fun u => (HK7.out.trans (HKX.out.mono (by simp))).setCell (p := ⟨r, j, none⟩) (by simp) u
                                go_wp2_with fail
                                go_region
                                go_wp2_with fail
                                exact ⟨⟨j + 1, by go_num, by omega, NXT.out, (NK.out _).drew⟩, by simp [intOf]; omega⟩
                            | false =>
                              have hnB : ¬ (false = true ∨ j = 0) := fun h => by rcases h with h | h; cases h; exact hj0 h
                              cases hfe : fence (bts s) with
                              | true =>
                                have HEQ : Hid (hid (bts s) = m0) := by
                                  show _ = _
                                  rw [HMC.out hnA hnB, hfe]
                                  rfl
                                have HFE : Hid (fence (bts s) = true) := hfe
                                clear hi0 hj0 hnA hnB hfe
                                go_wp2_with fail
                                go_at_call 23
                                refine (fence_any s _ (by omega)).mono ?_
                                rintro e w8 ⟨rfl, hKc⟩
                                rw [HFE.out]
                                have HKX' : Hid (Kept [] wr w8) := HKX.out.trans hKc
                                have hycW := cell_kept hKc hyc (by simp)
                                have HIX := HII.out.kept hKc (by simp)
                                have hcW := (HIX.cell j hjl).1
                                have hfW := (HIX.cell j hjl).2
                                rw [if_neg (Nat.lt_irrefl _), ← HS.out] at hcW
                                clear HKX HII hKc hyc hnc hst hcr hfr
                                have HKX : Hid (Kept [] wr w8) := HKX'.out
                                have HII : Hid (RowI w8 r l el j) := HIX
                                have hyc := hycW
                                have hcr := hcW
                                have hfr := hfW
                                clear HKX' HIX hycW hcW hfW
                                go_wp2_with fail
                                go_at_call 9
                                refine (model_any s _ (by omega)).mono ?_
                                rintro e w9 ⟨rfl, hKc⟩
                                rw [HEQ.out]
                                have HKX' : Hid (Kept [] wr w9) := HKX.out.trans hKc
                                have hycW := cell_kept hKc hyc (by simp)
                                have HIX := HII.out.kept hKc (by simp)
                                have hcW := (HIX.cell j hjl).1
                                have hfW := (HIX.cell j hjl).2
                                rw [if_neg (Nat.lt_irrefl _), ← HS.out] at hcW
                                clear HKX HII hKc hyc hcr hfr
                                have HKX : Hid (Kept [] wr w9) := HKX'.out
                                have HII : Hid (RowI w9 r l el j) := HIX
                                have hyc := hycW
                                have hcr := hcW
                                have hfr := hfW
                                clear HKX' HIX hycW hcW hfW
                                rcases HKIND.out with hm | ⟨m, hm, hmk⟩
                                · subst hm
                                  clear HKIND HMA HMB HMC
                                  have HELV : Hid (el j = s) := by show _ = _; rw [HELJ.out, if_neg (by omega)]
                                  have NXT : Hid (RowI w9 r l el (j + 1)) := HII.out.same (by rw [HELV.out, HS.out])
                                  have NK : Hid (Kept [r] w7 w9) := HK7.out.trans (HKX.out.mono (by simp))
                                  go_wp2_with fail
                                  exact ⟨⟨j + 1, by go_num, by omega, NXT.out, NK.out⟩, by simp [intOf]; omega⟩
                                · subst hm
                                  have HELV : Hid (el j = bsl s m) := by show _ = _; rw [HELJ.out, if_pos (by omega)]; rfl
                                  have q1 : (m : Int) ≤ (s.size : Int) := by have := hmk.1; omega
                                  have q0 : (0 : Int) ≤ (m : Int) := by omega
                                  clear hmk
                                  clear HKIND HMA HMB HMC
                                  have NXT : Hid (RowI (w9.setCell ⟨r, j, none⟩ (.string (bsl s m))) r l el (j + 1)) := by
                                    have := HII.out.set hjl
                                    rw [HELV.out] at this
                                    exact this
                                  have NK : Hid (∀ u, Kept [r] w7 (w9.setCell ⟨r, j, none⟩ u)) := fun u => (HK7.out.trans (HKX.out.mono (by simp))).setCell (p := ⟨r, j, none⟩) (by simp) u
                                  go_wp2_with fail
                                  go_region
                                  go_wp2_with fail
                                  exact ⟨⟨j + 1, by go_num, by omega, NXT.out, (NK.out _).drew⟩, by simp [intOf]; omega⟩
                              | false =>
                                have hm : m0 = -1 := by rw [HMC.out hnA hnB, hfe]; rfl
                                have HFE : Hid (fence (bts s) = false) := hfe
                                clear hi0 hj0 hnA hnB hfe
                                subst hm
                                have HELV : Hid (el j = s) := by show _ = _; rw [HELJ.out, if_neg (by omega)]
                                clear HKIND HMA HMB HMC
                                go_wp2_with fail
                                go_at_call 23
                                refine (fence_any s _ (by omega)).mono ?_
                                rintro e w8 ⟨rfl, hKc⟩
                                rw [HFE.out]
                                have HKX' : Hid (Kept [] wr w8) := HKX.out.trans hKc
                                have hycW := cell_kept hKc hyc (by simp)
                                have HIX := HII.out.kept hKc (by simp)
                                have hcW := (HIX.cell j hjl).1
                                have hfW := (HIX.cell j hjl).2
                                rw [if_neg (Nat.lt_irrefl _), ← HS.out] at hcW
                                clear HKX HII hKc hyc hnc hst hcr hfr
                                have HKX : Hid (Kept [] wr w8) := HKX'.out
                                have HII : Hid (RowI w8 r l el j) := HIX
                                have hyc := hycW
                                have hcr := hcW
                                have hfr := hfW
                                clear HKX' HIX hycW hcW hfW
                                have NXT : Hid (RowI w8 r l el (j + 1)) := HII.out.same (by rw [HELV.out, HS.out])
                                have NK : Hid (Kept [r] w7 w8) := HK7.out.trans (HKX.out.mono (by simp))
                                go_wp2_with fail
                                exact ⟨⟨j + 1, by go_num, by omega, NXT.out, NK.out⟩, by simp [intOf]; omega⟩
                      · have j1 : (l.length : Int) ≤ (j : Int) := by omega
                        have hje : j = l.length := by omega
                        have NX : Hid (MdI b E (i + 1) wr ∧ Kept [] w wr) := by
                          have h := hI
                          rw [hje] at h
                          have h2 := h.done
                          rw [HELD.out] at h2
                          have e : (List.range l.length).map (eln st nb i l) = E.getD i [] := by rw [HEI.out]; unfold erow; rw [if_pos rfl]
                          rw [e] at h2
                          refine HFIN.out wr [r] ((HK37.out.mono (by simp)).trans hK7) (by simp; omega) (by simp) h2 ?_
                          rw [HEI.out, erow_len]
                        clear hje hI hK7
                        go_wp2_with fail
                        exact ⟨⟨i + 1, by go_num, by omega, NX.out.1, NX.out.2⟩, by simp [intOf]; omega⟩
          · have g0 : (kk != 0) = true := by simpa using hk0
            have NX : Hid (MdI b E (i + 1) w3 ∧ Kept [] w w3) := by
              have e : E.getD i [] = l := by rw [HEI.out]; unfold erow; rw [if_neg hk0]
              refine HFIN.out w3 [] (Kept.refl _ _) (by simp) (by simp) ?_ (by rw [e])
              rw [e]; exact HROW3.out
            clear HFIN
            go_wp2_with fail
            exact ⟨⟨i + 1, by go_num, by omega, NX.out.1, NX.out.2⟩, by simp [intOf]; omega⟩
    · have d1 : (L.length : Int) ≤ (i : Int) := by omega
      have hie : i = L.length := by omega
      have FIN : Hid (Lns (fun q => b ≤ q) w1 (.slice (some ⟨b, 0, none⟩) L.length L.length) E) := by
        have h := HM.out
        rw [hie, ← HEL.out] at h
        have := h.end
        rw [HEL.out] at this
        exact this
      clear hie
      go_wp2_with fail
      go_ret
      exact ⟨_, rfl, by rw [← HEE.out, HB.out]; exact FIN.out, HK.out⟩
end Go.Proofs.Qxb6605488a
