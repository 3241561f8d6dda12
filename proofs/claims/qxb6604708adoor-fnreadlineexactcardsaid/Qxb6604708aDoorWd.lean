import Derived.Test.Qxb6604708aDoorWc
import Derived.Test.Qxb6604708aDoorShelf
import Derived.Deep.LoopGhost
import Derived.Test.Qxb6604708aDoorPl
namespace Go.Proofs.Qxb6604708aDoor
open Go.RowKit
set_option linter.unusedVariables false

theorem bytesOf_ints (l : List UInt8) : Lib.bytesOf (l.map fun b => (b.toNat : Int)) = l := by
  induction l with
  | nil => rfl
  | cons b l ih =>
    have : Lib.bytesOf ((b.toNat : Int) :: l.map fun b => (b.toNat : Int)) = b :: Lib.bytesOf (l.map fun b => (b.toNat : Int)) := by simp [Lib.bytesOf]
    rw [List.map_cons, this, ih]

theorem idx_any (a : Addr) (bb off n c : Nat) (bs : List UInt8) (w : World) (hb : w.heap[bb]? = some (.cells (bc bs) 5 (0, 0))) (ha : 0 < n → a = ⟨bb, off, none⟩) (hle : off + n ≤ bs.length) :
    Calls Tryd.prog 39 #[.slice (some a) n c, .int .u8 10] w fun e w' => e = .returned (.int .i64 (Lib.indexByte ((bs.drop off).take n) 10)) ∧ w' = w := by
  have := Tryd.bytes_IndexByte_at a n c (((bs.drop off).take n).map fun b => (b.toNat : Int)) 10 w (by simp; omega) (by
    intro i hi
    obtain rfl := ha (by omega)
    have hadd : (⟨bb, off, none⟩ : Addr).add i = ⟨bb, off + i, none⟩ := by unfold Addr.add; split <;> simp_all
    rw [hadd]
    refine cell_of hb ?_
    rw [bc_get]
    have hlt : off + i < bs.length := by omega
    simp [List.getD, hi, hlt])
  rw [bytesOf_ints] at this
  exact this

theorem byte_at {w : World} {bb o : Nat} {bs : List UInt8} {t : TypeId} (h : w.heap[bb]? = some (.cells (bc bs) t (0, 0))) (ho : o < bs.length) : ∃ b : UInt8, w.cell? ⟨bb, o, none⟩ = some (.int .u8 b.toNat) :=
  ⟨bs[o], cell_of h (by rw [bc_get, List.getElem?_eq_getElem ho]; rfl)⟩

/-- the loop of ReadSlice -/
def RsI (rb sb bb N : Nat) (s : ByteArray) (X : List UInt8) (eofv : Value) (w0 : World) (g k : Nat) (wr : World) : Prop :=
  ∃ (r w i : Nat) (bs : List UInt8) (pr lb lrs : Int) (err : Value), wr.heap[rb]? = some (.cells (rdr bb N sb r w err lb lrs) 65 (0, 0)) ∧ wr.heap[sb]? = some (.cells #[.string s, .int .i64 i, .int .i64 pr] 53 (0, 0)) ∧ wr.heap[bb]? = some (.cells (bc bs) 5 (0, 0)) ∧
    bs.length = N ∧ r ≤ w ∧ w ≤ N ∧ i ≤ s.size ∧ X = (bs.take w).drop r ++ s.data.toList.drop i ∧ r + k ≤ w ∧ (10 : UInt8) ∉ ((bs.take w).drop r).take k ∧
    ((err = .nilIface ∧ g = (s.size - i) + 1) ∨ (err = eofv ∧ i = s.size ∧ r = 0 ∧ k = w ∧ g = 0)) ∧ Kept [rb, sb, bb] w0 wr

/-- what ReadSlice leaves and hands back: a chunk Y of the unread X -/
def RsPost (rb sb bb N : Nat) (s : ByteArray) (X : List UInt8) (fullv eofv : Value) (w0 : World) (e : Ending) (w' : World) : Prop :=
  ∃ (o n c : Nat) (errv : Value) (Y X' : List UInt8) (r q i : Nat) (bs : List UInt8) (pr lb lrs : Int),
    e = .returned (.tuple #[.slice (some ⟨bb, o, none⟩) n c, errv]) ∧ n ≤ c ∧ c ≤ N ∧ Y.length = n ∧ Y = (bs.drop o).take n ∧ o + n ≤ N ∧ X = Y ++ X' ∧
    w'.heap[rb]? = some (.cells (rdr bb N sb r q .nilIface lb lrs) 65 (0, 0)) ∧ w'.heap[sb]? = some (.cells #[.string s, .int .i64 i, .int .i64 pr] 53 (0, 0)) ∧ w'.heap[bb]? = some (.cells (bc bs) 5 (0, 0)) ∧
    bs.length = N ∧ r ≤ q ∧ q ≤ N ∧ i ≤ s.size ∧ X' = (bs.take q).drop r ++ s.data.toList.drop i ∧ Kept [rb, sb, bb] w0 w' ∧
    ((errv = .nilIface ∧ ∃ Z, Y = Z ++ [10] ∧ (10 : UInt8) ∉ Z) ∨ (errv = fullv ∧ (10 : UInt8) ∉ Y ∧ 0 < n) ∨ (errv = eofv ∧ (10 : UInt8) ∉ Y ∧ X' = []))

theorem rs_mk {rb sb bb N : Nat} {s : ByteArray} {X : List UInt8} {fullv eofv : Value} {w0 wr w' : World} {r q i n c r' : Nat} {bs Y : List UInt8} {pr lb lrs : Int} {errv : Value} (hrs : rb ≠ sb) (hrb : rb ≠ bb)
    (hS : wr.heap[sb]? = some (.cells #[.string s, .int .i64 i, .int .i64 pr] 53 (0, 0))) (hB : wr.heap[bb]? = some (.cells (bc bs) 5 (0, 0))) (hN : bs.length = N) (h1 : r ≤ q) (h2 : q ≤ N) (hi2 : i ≤ s.size) (hX : X = (bs.take q).drop r ++ s.data.toList.drop i)
    (hK : Kept [rb, sb, bb] w0 wr) (hR' : w'.heap[rb]? = some (.cells (rdr bb N sb r' q .nilIface lb lrs) 65 (0, 0))) (hk : Kept [rb] wr w') (hr' : r' = r + n) (hnq : r + n ≤ q) (hY : Y = ((bs.take q).drop r).take n) (hc1 : n ≤ c) (hc2 : c ≤ N)
    (hE : (errv = .nilIface ∧ ∃ Z, Y = Z ++ [10] ∧ (10 : UInt8) ∉ Z) ∨ (errv = fullv ∧ (10 : UInt8) ∉ Y ∧ 0 < n) ∨ (errv = eofv ∧ (10 : UInt8) ∉ Y ∧ r + n = q ∧ i = s.size)) :
    RsPost rb sb bb N s X fullv eofv w0 (.returned (.tuple #[.slice (some ⟨bb, r, none⟩) n c, errv])) w' := by
  subst hr'
  refine ⟨r, n, c, errv, Y, (bs.take q).drop (r + n) ++ s.data.toList.drop i, r + n, q, i, bs, pr, lb, lrs, rfl, hc1, hc2, by rw [hY]; simp; omega, by rw [hY]; exact (win2 bs r q n hnq).symm, by omega, ?_, hR', ?_, ?_, hN, by omega, h2, hi2, rfl, ?_, ?_⟩
  · rw [hX, hY, win3, ← List.append_assoc, List.take_append_drop]
  · exact hk.at hS (by simp [Ne.symm hrs])
  · exact hk.at hB (by simp [Ne.symm hrb])
  · exact hK.trans (hk.mono (by intro k hk; simp at hk ⊢; omega))
  · rcases hE with h | h | ⟨e1, e2, e3, e4⟩
    · exact Or.inl h
    · exact Or.inr (Or.inl h)
    · refine Or.inr (Or.inr ⟨e1, e2, ?_⟩)
      rw [e3, e4]
      simp

theorem filled_from {rb sb bb N i : Nat} {s : ByteArray} {av : List UInt8} {eofv : Value} {lb lrs : Int} {w0 w w' : World} (h : Filled rb sb bb N i s av eofv lb lrs w0 w') (e1 : w0.heap = w.heap) (e2 : w0.os = w.os) (e3 : w0.tape = w.tape) (e4 : w0.output = w.output) : Filled rb sb bb N i s av eofv lb lrs w w' := by
  obtain ⟨bs', x, pr', err', a1, a2, a3, a4, a5, a6, a7, a8, a9, a10⟩ := h
  exact ⟨bs', x, pr', err', a1, a2, a3, a4, a5, a6, a7, a8, a9.from e1 e2 e3 e4, a10⟩

theorem rs_next {rb sb bb N : Nat} {s : ByteArray} {X : List UInt8} {eofv : Value} {w wr w' : World} {r q i gk : Nat} {bs : List UInt8} {lb lrs : Int}
    (h1 : r ≤ q) (h2 : q ≤ N) (hN : bs.length = N) (hi2 : i ≤ s.size) (hX : X = (bs.take q).drop r ++ s.data.toList.drop i) (hno : (10 : UInt8) ∉ (bs.take q).drop r) (hg : gk = (s.size - i) + 1) (hK : Kept [rb, sb, bb] w wr)
    (h : Filled rb sb bb N i s ((bs.take q).drop r) eofv lb lrs wr w') : ∃ g', g' < gk ∧ RsI rb sb bb N s X eofv w g' (q - r) w' := by
  obtain ⟨bs', x, pr', err', a1, a2, a3, a4, a5, a6, a7, a8, a9, a10⟩ := h
  have hal : ((bs.take q).drop r).length = q - r := by simp; omega
  obtain ⟨av, hav⟩ : ∃ av, av = (bs.take q).drop r := ⟨_, rfl⟩
  rw [← hav] at hX hno hal a2 a3 a6
  have eL : s.data.toList.drop i = x ++ s.data.toList.drop (i + x.length) := by
    have : s.data.toList.drop i = (s.data.toList.drop i).take x.length ++ (s.data.toList.drop i).drop x.length := (List.take_append_drop _ _).symm
    rw [← a4, List.drop_drop] at this
    exact this
  have eX : X = (bs'.take (av.length + x.length)).drop 0 ++ s.data.toList.drop (i + x.length) := by
    rw [a2, hX, eL]; simp
  have eN : (10 : UInt8) ∉ ((bs'.take (av.length + x.length)).drop 0).take (q - r) := by
    rw [a2, ← hal]; simpa using hno
  rcases a10 with ⟨b1, b2, b3⟩ | ⟨b1, b2, b3⟩
  · exact ⟨(s.size - (i + x.length)) + 1, by omega, 0, av.length + x.length, i + x.length, bs', pr', lb, lrs, err', a6, a7, a8, a1, Nat.zero_le _, a3, a5, eX, by omega, eN, Or.inl ⟨b2, rfl⟩, hK.trans a9⟩
  · refine ⟨0, by omega, 0, av.length + x.length, i + x.length, bs', pr', lb, lrs, err', a6, a7, a8, a1, Nat.zero_le _, a3, a5, eX, by omega, eN, Or.inr ⟨b3, ?_, rfl, ?_, rfl⟩, hK.trans a9⟩
    · rw [b2]; simpa using b1
    · rw [b2]; simp; omega

set_option maxRecDepth 100000 in
set_option maxHeartbeats 2000000 in
theorem readSlice_any (rb sb bb N i r wr : Nat) (s : ByteArray) (bs X : List UInt8) (pr lb lrs : Int) (ty : TypeId) (ea : Addr) (ty0 : TypeId) (fa : Addr) (w : World)
    (hR : w.heap[rb]? = some (.cells (rdr bb N sb r wr .nilIface lb lrs) 65 (0, 0))) (hS : w.heap[sb]? = some (.cells #[.string s, .int .i64 i, .int .i64 pr] 53 (0, 0))) (hB : w.heap[bb]? = some (.cells (bc bs) 5 (0, 0)))
    (hE : w.cell? ⟨1, 0, none⟩ = some (.iface ty (.pointer (some ea)))) (hF : w.cell? ⟨0, 0, none⟩ = some (.iface ty0 (.pointer (some fa)))) (n1 : 1 < w.heap.size) (n2 : 1 ∉ [rb, sb, bb]) (n3 : 0 ∉ [rb, sb, bb])
    (hrs : rb ≠ sb) (hrb : rb ≠ bb) (hsb : sb ≠ bb) (hN : bs.length = N) (hN0 : 0 < N) (hN2 : N ≤ 100000) (h1 : r ≤ wr) (h2 : wr ≤ N) (hs2 : s.size ≤ 2000000) (hi2 : i ≤ s.size) (hX : X = (bs.take wr).drop r ++ s.data.toList.drop i) :
    Calls Tryd.prog 29 #[.pointer (some ⟨rb, 0, none⟩), .int .u8 10] w fun e w' => RsPost rb sb bb N s X (.iface ty0 (.pointer (some fa))) (.iface ty (.pointer (some ea))) w e w' := by
  have START : Hid (RsI rb sb bb N s X (.iface ty (.pointer (some ea))) w ((s.size - i) + 1) 0 w) := ⟨r, wr, i, bs, pr, lb, lrs, .nilIface, hR, hS, hB, hN, h1, h2, hi2, hX, by omega, by simp, Or.inl ⟨rfl, rfl⟩, Kept.refl _ _⟩
  have HE : Hid (w.cell? ⟨1, 0, none⟩ = some (.iface ty (.pointer (some ea)))) := hE
  have HF : Hid (w.cell? ⟨0, 0, none⟩ = some (.iface ty0 (.pointer (some fa)))) := hF
  clear hF
  clear hR hS hB hE hN h1 h2 hi2 hX
  go_enter Tryd.func29, Tryd.ntmps29
  go_wp2
  go_loopg [5, 6] ((s.size - i) + 1) (fun g ev t wr => ev = .nilIface ∧ ∃ k : Nat, t = .int .i64 k ∧ RsI rb sb bb N s X (.iface ty (.pointer (some ea))) w g k wr)
  case atStart => exact ⟨rfl, 0, rfl, START.out⟩
  case round =>
    clear START
    obtain ⟨rfl, k, rfl, r, q, i, bs, pr, lb, lrs, err, hR, hS, hB, hN, h1, h2, hi2, hX, hk, hno, herr, hK⟩ := hrel
    obtain ⟨c0, c1, c2, c3, c4, c5, c6, hf⟩ := rdr_cells hR
    have HR : Hid (_ = _) := hR
    have HS : Hid (_ = _) := hS
    have HB : Hid (_ = _) := hB
    have HN : Hid (_ = _) := hN
    have HX : Hid (_ = _) := hX
    have HNO : Hid (_) := hno
    have HERR : Hid (_) := herr
    have HK : Hid (_) := hK
    clear hR hS hB hN hX hno herr hK
    have b1 : (0 : Int) ≤ (r : Int) + (k : Int) := by omega
    have b2 : (r : Int) + (k : Int) ≤ (q : Int) := by omega
    have b3 : (q : Int) ≤ (N : Int) := by omega
    have b4 : (N : Int) ≤ 100000 := by omega
    have hwr := wr64 ((r : Int) + (k : Int)) (by omega) (by omega)
    have htn : ((r : Int) + (k : Int)).toNat = r + k := by omega
    obtain ⟨ix, hix⟩ : ∃ ix, ix = Lib.indexByte ((bs.drop (r + k)).take (q - (r + k))) 10 := ⟨_, rfl⟩
    have HIX : Hid (ix = _) := hix
    clear hix
    go_wp2
    go_cut [7] (fun v w1 => v = .int .i64 ix ∧ w1 = wr.drew)
    case first =>
      by_cases hkn : N = r + k
      · have hq : q = r + k := by omega
        subst hq
        subst hkn
        go_region_held3 (fun w' => w'.cell? ⟨rb, 0, none⟩ = some (.slice (some ⟨bb, 0, none⟩) (r + k) (r + k)) ∧ w'.cell? ⟨rb, 2, none⟩ = some (.int .i64 r) ∧ w'.cell? ⟨rb, 3, none⟩ = some (.int .i64 (r + k : Nat))) (simp [c0, c2, c3])
          ((go_at_call 39; refine (idx_any _ bb (r + k) 0 0 bs _ (by exact HB.out) (fun h => absurd h (Nat.lt_irrefl 0)) (by rw [HN.out]; omega)).mono ?_; rintro e w' ⟨rfl, rfl⟩))
        go_wp2
        go_meet
        case rel => exact ⟨by rw [HIX.out, Nat.sub_self, List.take_zero], rfl⟩
      · go_region_held3 (fun w' => w'.cell? ⟨rb, 0, none⟩ = some (.slice (some ⟨bb, 0, none⟩) N N) ∧ w'.cell? ⟨rb, 2, none⟩ = some (.int .i64 r) ∧ w'.cell? ⟨rb, 3, none⟩ = some (.int .i64 q)) (simp [c0, c2, c3])
          ((go_at_call 39; refine (idx_any _ bb (r + k) (q - (r + k)) (N - (r + k)) bs _ (by exact HB.out) (fun _ => rfl) (by rw [HN.out]; omega)).mono ?_; rintro e w' ⟨rfl, rfl⟩))
        go_wp2
        go_meet
        case rel => exact ⟨by rw [HIX.out], rfl⟩
    case rest =>
      obtain ⟨rfl, rfl⟩ := hcut
      by_cases h0 : 0 ≤ ix
      · obtain ⟨j, rfl⟩ : ∃ j : Nat, ix = j := ⟨ix.toNat, by omega⟩
        have hav : ((bs.take q).drop r).length = q - r := by simp; have := HN.out; omega
        have HFL := find_law ((bs.take q).drop r) k j (by omega) HNO.out (by rw [← win]; exact HIX.out.symm)
        have hj : j < q - (r + k) := by omega
        obtain ⟨lastb, hlastb⟩ : ∃ b : UInt8, wr.cell? ⟨bb, r + (j + k), none⟩ = some (.int .u8 b.toNat) := byte_at HB.out (by rw [HN.out]; omega)
        have FIN : Hid (∀ w', w'.heap = (((wr.setCell ⟨rb, 2, none⟩ (.int .i64 ((r : Int) + ((j : Int) + (k : Int) + 1)))).setCell ⟨rb, 5, none⟩ (.int .i64 lastb.toNat)).setCell ⟨rb, 6, none⟩ (.int .i64 (-1))).heap → w'.os = wr.os → w'.tape = wr.tape → w'.output = wr.output →
            RsPost rb sb bb N s X (.iface ty0 (.pointer (some fa))) (.iface ty (.pointer (some ea))) w (.returned (.tuple #[.slice (some ⟨bb, r, none⟩) (j + k + 1) (N - r), .nilIface])) w') := by
          intro w' e1 e2 e3 e4
          have herr : err = .nilIface := by
            rcases HERR.out with ⟨h, _⟩ | ⟨_, _, h3, h4, _⟩
            · exact h
            · omega
          subst herr
          refine rs_mk (r' := r + (j + k + 1)) (lb := lastb.toNat) (lrs := -1) hrs hrb HS.out HB.out HN.out h1 h2 hi2 HX.out HK.out ?_ ?_ rfl (by omega) rfl (by omega) (by omega) (Or.inl ⟨rfl, _, by rw [show j + k + 1 = k + j + 1 by omega]; exact HFL.2.1, HFL.2.2⟩)
          · rw [e1, Lib.heap_setCell_same (i := 6) (Lib.heap_setCell_same (i := 5) (Lib.heap_setCell_same (i := 2) HR.out _) _) _, show ((r : Int) + ((j : Int) + (k : Int) + 1)) = ((r + (j + k + 1) : Nat) : Int) by omega]
            rfl
          · exact ((((Kept.refl [rb] wr).setCell (p := ⟨rb, 2, none⟩) (by simp) _).setCell (p := ⟨rb, 5, none⟩) (by simp) _).setCell (p := ⟨rb, 6, none⟩) (by simp) _).same e1 e2 e3 e4
        clear HFL hav
        have d1 : (0 : Int) ≤ (j : Int) := by omega
        have d2 : (r : Int) + ((j : Int) + (k : Int)) + 1 ≤ (q : Int) := by omega
        have hnr : ¬ N = r := by omega
        have hw2 := wr64 ((j : Int) + (k : Int)) (by omega) (by omega)
        have hw3 := wr64 ((r : Int) + ((j : Int) + (k : Int))) (by omega) (by omega)
        have hw4 := wr64 ((r : Int) + ((j : Int) + (k : Int)) + 1) (by omega) (by omega)
        have ht2 : ((r : Int) + ((j : Int) + (k : Int)) + 1).toNat = r + (j + k + 1) := by omega
        have ht3 : ((j : Int) + (k : Int)).toNat = j + k := by omega
        have d3 : (0 : Int) ≤ (r : Int) := by omega
        have d4 : (r : Int) ≤ (r : Int) + ((j : Int) + (k : Int)) + 1 := by omega
        have d5 : (r : Int) + ((j : Int) + (k : Int)) + 1 ≤ (N : Int) := by omega
        have hlast : ∀ v, (wr.setCell ⟨rb, 2, none⟩ v).cell? ⟨bb, r + (j + k), none⟩ = some (.int .u8 lastb.toNat) := fun v => (World.cell?_setCell_far wr _ _ _ hrb).trans hlastb
        have l1 : (0 : Int) ≤ (lastb.toNat : Int) := by omega
        have l2 : (lastb.toNat : Int) ≤ 255 := by have := lastb.toNat_lt; omega
        clear hlastb
        go_wp2
        go_region_held3 (fun w' => w'.cell? ⟨rb, 0, none⟩ = some (.slice (some ⟨bb, 0, none⟩) N N) ∧ w'.cell? ⟨rb, 2, none⟩ = some (.int .i64 r)) (simp [c0, c2]) (fail)
        go_wp2
        go_ret2
        exact FIN.out _ rfl rfl rfl rfl
      · have hix : ix < 0 := by omega
        have HNL : Hid ((10 : UInt8) ∉ (bs.take q).drop r) := none_law _ k HNO.out (by rw [← win]; have := HIX.out; omega)
        have d3 : (0 : Int) ≤ (r : Int) := by omega
        have d4 : (r : Int) ≤ (q : Int) := by omega
        rcases HERR.out with ⟨rfl, hg⟩ | ⟨rfl, rfl, rfl, rfl, rfl⟩
        · have hcb : q - r ≤ 100000 := by omega
          by_cases hfull : N ≤ q - r
          · obtain rfl : r = 0 := by omega
            obtain rfl : q = N := by omega
            have hF1 : wr.cell? ⟨0, 0, none⟩ = some (.iface ty0 (.pointer (some fa))) := (HK.out.cell (Nat.lt_trans (by omega) n1) n3 0).trans HF.out
            have hr0 : ¬ 0 = rb := fun e => n3 (by simp [← e])
            have hF2 : ∀ v, (wr.setCell ⟨rb, 2, none⟩ v).cell? ⟨0, 0, none⟩ = some (.iface ty0 (.pointer (some fa))) := fun v => (World.cell?_setCell_far wr _ _ _ (Ne.symm hr0)).trans hF1
            have FIN : Hid (∀ lb' lrs' w', w'.heap[rb]? = some (.cells (rdr bb q sb q q .nilIface lb' lrs') 65 (0, 0)) → Kept [rb] wr w' →
                RsPost rb sb bb q s X (.iface ty0 (.pointer (some fa))) (.iface ty (.pointer (some ea))) w (.returned (.tuple #[.slice (some ⟨bb, 0, none⟩) q q, .iface ty0 (.pointer (some fa))])) w') := by
              intro lb' lrs' w' e1 e2
              exact rs_mk (r' := q) (r := 0) hrs hrb HS.out HB.out HN.out h1 h2 hi2 HX.out HK.out e1 e2 (by omega) (by omega) rfl (by omega) (by omega)
                (Or.inr (Or.inl ⟨rfl, by rw [List.take_of_length_le (by rw [List.length_drop, List.length_take]; omega)]; exact HNL.out, by omega⟩))
            have ht3 : ((q : Int) - 1).toNat = q - 1 := by omega
            obtain ⟨lastb, hlastb⟩ : ∃ b : UInt8, wr.cell? ⟨bb, q - 1, none⟩ = some (.int .u8 b.toNat) := byte_at HB.out (by rw [HN.out]; omega)
            have hlast : ∀ n v, ((wr.drewN n).setCell ⟨rb, 2, none⟩ v).cell? ⟨bb, q - 1, none⟩ = some (.int .u8 lastb.toNat) := fun n v => (World.cell?_setCell_far _ _ _ _ hrb).trans hlastb
            have l1 : (0 : Int) ≤ (lastb.toNat : Int) := by omega
            have l2 : (lastb.toNat : Int) ≤ 255 := by have := lastb.toNat_lt; omega
            have l3 : (0 : Int) ≤ (q : Int) - 1 := by omega
            clear hlastb
            go_wp2
            go_region_held3 (fun w' => w'.cell? ⟨rb, 0, none⟩ = some (.slice (some ⟨bb, 0, none⟩) q q)) (simp [c0])
              ((go_at_call 41; refine (buffered_any rb bb q sb 0 q .nilIface lb lrs _ (by exact HR.out) h1 (by omega)).mono ?_; rintro e w' ⟨rfl, n, rfl⟩))
            go_wp2
            go_ret2
            refine FIN.out lastb.toNat (-1) _ ?_ ?_
            · exact Lib.heap_setCell_same (i := 6) (Lib.heap_setCell_same (i := 5) (Lib.heap_setCell_same (i := 2) HR.out _) _) _
            · exact ((((Kept.refl [rb] wr).setCell (p := ⟨rb, 2, none⟩) (by simp) (.int .i64 q)).setCell (p := ⟨rb, 5, none⟩) (by simp) _).setCell (p := ⟨rb, 6, none⟩) (by simp) _).same rfl rfl rfl rfl
          · have hE1 : wr.cell? ⟨1, 0, none⟩ = some (.iface ty (.pointer (some ea))) := (HK.out.cell n1 n2 0).trans HE.out
            have n1w : 1 < wr.heap.size := Nat.lt_of_lt_of_le n1 HK.out.size
            have hw5 := wr64 ((q : Int) - r) (by omega) (by omega)
            have NXT : Hid (∀ lb' lrs' w', Filled rb sb bb N i s ((bs.take q).drop r) (.iface ty (.pointer (some ea))) lb' lrs' wr w' → ∃ g', g' < gk ∧ RsI rb sb bb N s X (.iface ty (.pointer (some ea))) w g' (q - r) w') := by
              intro lb' lrs' w' hfl
              exact rs_next h1 h2 HN.out hi2 HX.out HNL.out hg HK.out hfl
            go_wp2
            go_region_held3 (fun w' => w'.cell? ⟨rb, 0, none⟩ = some (.slice (some ⟨bb, 0, none⟩) N N)) (simp [c0])
              ((go_at_call 41; refine (buffered_any rb bb N sb r q .nilIface lb lrs _ (by exact HR.out) h1 (by omega)).mono ?_; rintro e w' ⟨rfl, n, rfl⟩))
            go_wp2
            go_region_held3 (fun w' => w'.cell? ⟨rb, 2, none⟩ = some (.int .i64 r) ∧ w'.cell? ⟨rb, 3, none⟩ = some (.int .i64 q)) (simp [c2, c3]) (fail)
            go_wp2_with (go_at_call 42; refine (fill_any rb sb bb N i r q s bs _ pr lb lrs ty ea _ (by exact HR.out) (by exact HS.out) (by exact HB.out) (by exact hE1) (by exact n1w) n2 hrs hrb hsb HN.out hN2 h1 h2 (by omega) hs2 hi2 rfl).mono ?_; rintro e w' ⟨rfl, hfl⟩)
            obtain ⟨g', hg1, hg2⟩ := NXT.out lb lrs w' (filled_from hfl rfl rfl rfl rfl)
            go_roundg g'
            case measure => exact hg1
            case rel => exact ⟨rfl, q - r, by go_num, hg2⟩
        · have hn0 : ¬ N = 0 := by omega
          have FIN : Hid (∀ lb' lrs' w', w'.heap[rb]? = some (.cells (rdr bb N sb k k .nilIface lb' lrs') 65 (0, 0)) → Kept [rb] wr w' →
              RsPost rb sb bb N s X (.iface ty0 (.pointer (some fa))) (.iface ty (.pointer (some ea))) w (.returned (.tuple #[.slice (some ⟨bb, 0, none⟩) k N, .iface ty (.pointer (some ea))])) w') := by
            intro lb' lrs' w' e1 e2
            exact rs_mk (r' := k) (r := 0) hrs hrb HS.out HB.out HN.out h1 h2 hi2 HX.out HK.out e1 e2 (by omega) (by omega) rfl (by omega) (by omega)
              (Or.inr (Or.inr ⟨rfl, by rw [List.take_of_length_le (by rw [List.length_drop, List.length_take]; omega)]; exact HNL.out, by omega, rfl⟩))
          rcases Nat.eq_zero_or_pos k with hk0 | hk0
          · subst hk0
            go_wp2
            go_region_held3 (fun w' => w'.cell? ⟨rb, 0, none⟩ = some (.slice (some ⟨bb, 0, none⟩) N N) ∧ w'.cell? ⟨rb, 2, none⟩ = some (.int .i64 (0 : Nat)) ∧ w'.cell? ⟨rb, 3, none⟩ = some (.int .i64 (0 : Nat))) (simp [c0, c2, c3]) (fail)
            go_wp2
            go_ret2
            refine FIN.out lb lrs _ ?_ ?_
            · exact Lib.heap_setCell_same (i := 4) (Lib.heap_setCell_same (i := 2) HR.out _) _
            · exact ((((Kept.refl [rb] wr).setCell (p := ⟨rb, 2, none⟩) (by simp) (.int .i64 (0 : Nat))).setCell (p := ⟨rb, 4, none⟩) (by simp) .nilIface)).same rfl rfl rfl rfl
          · have ht3 : ((k : Int) - 1).toNat = k - 1 := by omega
            obtain ⟨lastb, hlastb⟩ : ∃ b : UInt8, wr.cell? ⟨bb, k - 1, none⟩ = some (.int .u8 b.toNat) := byte_at HB.out (by rw [HN.out]; omega)
            have hlast : ∀ v v', ((wr.setCell ⟨rb, 2, none⟩ v).setCell ⟨rb, 4, none⟩ v').cell? ⟨bb, k - 1, none⟩ = some (.int .u8 lastb.toNat) := fun v v' => (World.cell?_setCell_far _ _ _ _ hrb).trans ((World.cell?_setCell_far wr _ _ _ hrb).trans hlastb)
            have l1 : (0 : Int) ≤ (lastb.toNat : Int) := by omega
            have l2 : (lastb.toNat : Int) ≤ 255 := by have := lastb.toNat_lt; omega
            have l3 : (0 : Int) ≤ (k : Int) - 1 := by omega
            clear hlastb
            go_wp2
            go_region_held3 (fun w' => w'.cell? ⟨rb, 0, none⟩ = some (.slice (some ⟨bb, 0, none⟩) N N) ∧ w'.cell? ⟨rb, 2, none⟩ = some (.int .i64 (0 : Nat)) ∧ w'.cell? ⟨rb, 3, none⟩ = some (.int .i64 k)) (simp [c0, c2, c3]) (fail)
            go_wp2
            go_ret2
            refine FIN.out lastb.toNat (-1) _ ?_ ?_
            · exact Lib.heap_setCell_same (i := 6) (Lib.heap_setCell_same (i := 5) (Lib.heap_setCell_same (i := 4) (Lib.heap_setCell_same (i := 2) HR.out _) _) _) _
            · exact (((((Kept.refl [rb] wr).setCell (p := ⟨rb, 2, none⟩) (by simp) (.int .i64 k)).setCell (p := ⟨rb, 4, none⟩) (by simp) .nilIface).setCell (p := ⟨rb, 5, none⟩) (by simp) _).setCell (p := ⟨rb, 6, none⟩) (by simp) _).same rfl rfl rfl rfl

end Go.Proofs.Qxb6604708aDoor
