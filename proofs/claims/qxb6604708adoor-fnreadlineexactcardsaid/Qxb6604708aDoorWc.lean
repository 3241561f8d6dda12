import Derived.Test.Qxb6604708aDoorProg
import Derived.Test.Qxb6604708aDoorWb
import Derived.Deep.DeepCutAuto
import Derived.Deep.QuietTactic
import Derived.BigQuiet
namespace Go.Proofs.Qxb6604708aDoor
open Go.RowKit

set_option linter.unusedVariables false

/-- the cells of a bufio.Reader -/
def rdr (bb N sb : Nat) (r wr : Nat) (err : Value) (lb lrs : Int) : Array Value :=
  #[.slice (some ⟨bb, 0, none⟩) N N, .iface 42 (.pointer (some ⟨sb, 0, none⟩)), .int .i64 r, .int .i64 wr, err, .int .i64 lb, .int .i64 lrs]

theorem rdr_cells {w : World} {rb bb N sb r wr : Nat} {err : Value} {lb lrs : Int} (h : w.heap[rb]? = some (.cells (rdr bb N sb r wr err lb lrs) 65 (0, 0))) :
    w.cell? ⟨rb, 0, none⟩ = some (.slice (some ⟨bb, 0, none⟩) N N) ∧ w.cell? ⟨rb, 1, none⟩ = some (.iface 42 (.pointer (some ⟨sb, 0, none⟩))) ∧ w.cell? ⟨rb, 2, none⟩ = some (.int .i64 r) ∧ w.cell? ⟨rb, 3, none⟩ = some (.int .i64 wr) ∧
      w.cell? ⟨rb, 4, none⟩ = some err ∧ w.cell? ⟨rb, 5, none⟩ = some (.int .i64 lb) ∧ w.cell? ⟨rb, 6, none⟩ = some (.int .i64 lrs) ∧ ∀ i, w.frozen? ⟨rb, i, none⟩ = false :=
  ⟨cell_of h rfl, cell_of h rfl, cell_of h rfl, cell_of h rfl, cell_of h rfl, cell_of h rfl, cell_of h rfl, frozen_of h⟩

theorem method_read (a : Addr) (w : World) : (method 201 42 (.pointer (some a)) "Read").run Tryd.prog w = .ok (68, .pointer (some a)) w := by kernel_rfl

set_option maxHeartbeats 400000 in
theorem buffered_any (rb bb N sb r wr : Nat) (err : Value) (lb lrs : Int) (w : World) (h : w.heap[rb]? = some (.cells (rdr bb N sb r wr err lb lrs) 65 (0, 0))) (h1 : r ≤ wr) (h2 : wr ≤ 100000) :
    Calls Tryd.prog 41 #[.pointer (some ⟨rb, 0, none⟩)] w fun e w' => e = .returned (.int .i64 (wr - r : Nat)) ∧ ∃ n, w' = w.drewN n := by
  obtain ⟨c0, c1, c2, c3, c4, c5, c6, hf⟩ := rdr_cells h
  clear h
  have b0 : (0 : Int) ≤ (r : Int) := by omega
  have b1 : (r : Int) ≤ (wr : Int) := by omega
  have b2 : (wr : Int) ≤ 100000 := by omega
  have hw := wr64 ((wr : Int) - r) (by omega) (by omega)
  go_enter Tryd.func41, Tryd.ntmps41
  go_wp2
  go_region_held3 (fun w' => w'.cell? ⟨rb, 2, none⟩ = some (.int .i64 r) ∧ w'.cell? ⟨rb, 3, none⟩ = some (.int .i64 wr)) (simp [*]) (fail)
  go_wp2
  go_ret
  exact ⟨ret_int (by omega), 1, rfl⟩

set_option maxHeartbeats 400000 in
theorem readErr_any (rb bb N sb r wr : Nat) (err : Value) (ht : err = .nilIface ∨ ∃ t v, err = .iface t v) (lb lrs : Int) (w : World) (h : w.heap[rb]? = some (.cells (rdr bb N sb r wr err lb lrs) 65 (0, 0))) :
    Calls Tryd.prog 40 #[.pointer (some ⟨rb, 0, none⟩)] w fun e w' => e = .returned err ∧ w' = w.setCell ⟨rb, 4, none⟩ .nilIface := by
  obtain ⟨c0, c1, c2, c3, c4, c5, c6, hf⟩ := rdr_cells h
  clear h
  rcases ht with rfl | ⟨t, v, rfl⟩
  all_goals
    go_enter Tryd.func40, Tryd.ntmps40
    go_wp2
    go_ret
    exact ⟨rfl, rfl⟩


/-- what the first half of fill leaves -/
def Slid (rb sb bb N i r wr : Nat) (s : ByteArray) (bs : List UInt8) (pr lb lrs : Int) (w w1 : World) : Prop :=
  ∃ bs1 : List UInt8, bs1.length = N ∧ bs1.take (wr - r) = (bs.take wr).drop r ∧ w1.heap[rb]? = some (.cells (rdr bb N sb 0 (wr - r) .nilIface lb lrs) 65 (0, 0)) ∧ w1.heap[sb]? = some (.cells #[.string s, .int .i64 i, .int .i64 pr] 53 (0, 0)) ∧ w1.heap[bb]? = some (.cells (bc bs1) 5 (0, 0)) ∧ Kept [rb, sb, bb] w w1

theorem slid_end {rb sb bb N i r wr : Nat} {s : ByteArray} {bs x : List UInt8} {pr lb lrs : Int} {w : World}
    (hR : w.heap[rb]? = some (.cells (rdr bb N sb r wr .nilIface lb lrs) 65 (0, 0))) (hS : w.heap[sb]? = some (.cells #[.string s, .int .i64 i, .int .i64 pr] 53 (0, 0))) (hB : w.heap[bb]? = some (.cells (bc bs) 5 (0, 0)))
    (hrs : rb ≠ sb) (hrb : rb ≠ bb) (hsb : sb ≠ bb) (hN : bs.length = N) (h1 : r ≤ wr) (h2 : wr ≤ N) (hx : x = (bs.take wr).drop r) (w' : World)
    (e1 : w'.heap = (((w.setRow bb (bc (over bs 0 x))).setCell ⟨rb, 3, none⟩ (.int .i64 ((wr : Int) - r))).setCell ⟨rb, 2, none⟩ (.int .i64 0)).heap) (e2 : w'.os = w.os) (e3 : w'.tape = w.tape) (e4 : w'.output = w.output) : Slid rb sb bb N i r wr s bs pr lb lrs w w' := by
  have hxl : x.length = wr - r := by rw [hx]; simp; omega
  refine ⟨over bs 0 x, by rw [over_length _ _ _ (by omega)]; exact hN, ?_, ?_, ?_, ?_, ?_⟩
  · rw [← hx]; simp [over, ← hxl]
  · rw [e1]
    have a1 : (w.setRow bb (bc (over bs 0 x))).heap[rb]? = _ := (setRow_other _ _ _ _ hrb).trans hR
    have a2 := Lib.heap_setCell_same (i := 2) (Lib.heap_setCell_same (i := 3) a1 (.int .i64 ((wr : Int) - r))) (.int .i64 0)
    rw [a2, show ((wr : Int) - r) = ((wr - r : Nat) : Int) by omega]
    rfl
  · rw [e1, Below.heap_setCell _ _ _ _ (Ne.symm hrs), Below.heap_setCell _ _ _ _ (Ne.symm hrs), setRow_other _ _ _ _ hsb]; exact hS
  · rw [e1, Below.heap_setCell _ _ _ _ (Ne.symm hrb), Below.heap_setCell _ _ _ _ (Ne.symm hrb)]; exact setRow_heap _ _ _ _ _ _ hB
  · exact ((((Kept.refl [rb, sb, bb] w).setRow (g := bb) (by simp) _).setCell (p := ⟨rb, 3, none⟩) (by simp) _).setCell (p := ⟨rb, 2, none⟩) (by simp) _).same e1 e2 e3 e4

/-- what fill leaves: 'av' was there unread, 'x' has come -/
def Filled (rb sb bb N i : Nat) (s : ByteArray) (av : List UInt8) (eofv : Value) (lb lrs : Int) (w w' : World) : Prop :=
  ∃ (bs' x : List UInt8) (pr' : Int) (err' : Value), bs'.length = N ∧ bs'.take (av.length + x.length) = av ++ x ∧ av.length + x.length ≤ N ∧ x = (s.data.toList.drop i).take x.length ∧ i + x.length ≤ s.size ∧
    w'.heap[rb]? = some (.cells (rdr bb N sb 0 (av.length + x.length) err' lb lrs) 65 (0, 0)) ∧ w'.heap[sb]? = some (.cells #[.string s, .int .i64 (i + x.length : Nat), .int .i64 pr'] 53 (0, 0)) ∧ w'.heap[bb]? = some (.cells (bc bs') 5 (0, 0)) ∧
    Kept [rb, sb, bb] w w' ∧ ((i < s.size ∧ err' = .nilIface ∧ 0 < x.length) ∨ (i = s.size ∧ x = [] ∧ err' = eofv))

theorem filled_some {rb sb bb N i q : Nat} {s : ByteArray} {bs1 av x : List UInt8} {lb lrs : Int} {eofv : Value} {w wc w1 : World} (hrs : rb ≠ sb) (hrb : rb ≠ bb)
    (hN1 : bs1.length = N) (ht1 : bs1.take q = av) (hq : q = av.length) (hqN : q < N) (hR1 : wc.heap[rb]? = some (.cells (rdr bb N sb 0 q .nilIface lb lrs) 65 (0, 0))) (hK : Kept [rb, sb, bb] w wc)
    (hx : x = (s.data.toList.drop i).take (N - q)) (hi : i < s.size)
    (hs1 : w1.heap[sb]? = some (.cells #[.string s, .int .i64 (i + x.length : Nat), .int .i64 (-1)] 53 (0, 0))) (hb1 : w1.heap[bb]? = some (.cells (bc (over bs1 q x)) 5 (0, 0))) (hk1 : Kept [sb, bb] wc w1) (w' : World)
    (e1 : w'.heap = (w1.setCell ⟨rb, 3, none⟩ (.int .i64 ((q : Int) + x.length))).heap) (e2 : w'.os = w1.os) (e3 : w'.tape = w1.tape) (e4 : w'.output = w1.output) : Filled rb sb bb N i s av eofv lb lrs w w' := by
  have hsz : s.data.toList.length = s.size := by simp
  have hxl : x.length = min (N - q) (s.size - i) := by rw [hx]; simp
  have hxx : x = (s.data.toList.drop i).take x.length := by
    rw [hxl]
    conv => lhs; rw [hx]
    rw [List.take_eq_take_min]; simp
  subst hq
  refine ⟨over bs1 av.length x, x, -1, .nilIface, ?_, ?_, by omega, hxx, by omega, ?_, ?_, ?_, ?_, Or.inl ⟨hi, rfl, by omega⟩⟩
  · rw [over_length _ _ _ (by omega)]; exact hN1
  · have : (bs1.take av.length).length = av.length := by rw [ht1]
    unfold over
    rw [ht1, ← List.append_assoc, List.take_append_of_le_length (by simp), List.take_of_length_le (by simp)]
  · rw [e1]
    have a1 : w1.heap[rb]? = _ := (hk1.block rb (lt_of hR1) (by simp [hrs, hrb])).trans hR1
    rw [Lib.heap_setCell_same (i := 3) a1 _, show ((av.length : Int) + x.length) = ((av.length + x.length : Nat) : Int) by omega]
    rfl
  · rw [e1, Below.heap_setCell _ _ _ _ (Ne.symm hrs)]; exact hs1
  · rw [e1, Below.heap_setCell _ _ _ _ (Ne.symm hrb)]; exact hb1
  · exact ((hK.trans (hk1.mono (by intro k hk; simp at hk ⊢; omega))).setCell (p := ⟨rb, 3, none⟩) (by simp) _).same e1 e2 e3 e4

theorem filled_end {rb sb bb N q : Nat} {s : ByteArray} {bs1 av : List UInt8} {pr lb lrs : Int} {eofv : Value} {w wc : World} (hrs : rb ≠ sb) (hrb : rb ≠ bb)
    (hN1 : bs1.length = N) (ht1 : bs1.take q = av) (hq : q = av.length) (hqN : q < N) (hR1 : wc.heap[rb]? = some (.cells (rdr bb N sb 0 q .nilIface lb lrs) 65 (0, 0))) (hK : Kept [rb, sb, bb] w wc)
    (hs1 : wc.heap[sb]? = some (.cells #[.string s, .int .i64 s.size, .int .i64 pr] 53 (0, 0))) (hb1 : wc.heap[bb]? = some (.cells (bc bs1) 5 (0, 0))) (w' : World)
    (e1 : w'.heap = ((wc.setCell ⟨rb, 3, none⟩ (.int .i64 (q : Int))).setCell ⟨rb, 4, none⟩ eofv).heap) (e2 : w'.os = wc.os) (e3 : w'.tape = wc.tape) (e4 : w'.output = wc.output) : Filled rb sb bb N s.size s av eofv lb lrs w w' := by
  subst hq
  refine ⟨bs1, [], pr, eofv, hN1, by simpa using ht1, by simp; omega, by simp, by simp, ?_, ?_, ?_, ?_, Or.inr ⟨rfl, rfl, rfl⟩⟩
  · rw [e1, Lib.heap_setCell_same (i := 4) (Lib.heap_setCell_same (i := 3) hR1 _) _]; rfl
  · rw [e1, Below.heap_setCell _ _ _ _ (Ne.symm hrs), Below.heap_setCell _ _ _ _ (Ne.symm hrs)]; exact hs1
  · rw [e1, Below.heap_setCell _ _ _ _ (Ne.symm hrb), Below.heap_setCell _ _ _ _ (Ne.symm hrb)]; exact hb1
  · exact ((hK.setCell (p := ⟨rb, 3, none⟩) (by simp) _).setCell (p := ⟨rb, 4, none⟩) (by simp) _).same e1 e2 e3 e4

set_option maxRecDepth 100000 in
set_option maxHeartbeats 2000000 in
theorem fill_any (rb sb bb N i r wr : Nat) (s : ByteArray) (bs av : List UInt8) (pr lb lrs : Int) (ty : TypeId) (ea : Addr) (w : World)
    (hR : w.heap[rb]? = some (.cells (rdr bb N sb r wr .nilIface lb lrs) 65 (0, 0))) (hS : w.heap[sb]? = some (.cells #[.string s, .int .i64 i, .int .i64 pr] 53 (0, 0))) (hB : w.heap[bb]? = some (.cells (bc bs) 5 (0, 0)))
    (hE : w.cell? ⟨1, 0, none⟩ = some (.iface ty (.pointer (some ea)))) (n1 : 1 < w.heap.size) (n2 : 1 ∉ [rb, sb, bb])
    (hrs : rb ≠ sb) (hrb : rb ≠ bb) (hsb : sb ≠ bb) (hN : bs.length = N) (hN2 : N ≤ 100000) (h1 : r ≤ wr) (h2 : wr ≤ N) (h3 : wr - r < N) (hs2 : s.size ≤ 2000000) (hi2 : i ≤ s.size) (hav : av = (bs.take wr).drop r) :
    Calls Tryd.prog 42 #[.pointer (some ⟨rb, 0, none⟩)] w fun e w' => e = .returned (.tuple #[]) ∧ Filled rb sb bb N i s av (.iface ty (.pointer (some ea))) lb lrs w w' := by
  have HAV : Hid (av = (bs.take wr).drop r) := hav
  have HE : Hid (w.cell? ⟨1, 0, none⟩ = some (.iface ty (.pointer (some ea)))) := hE
  clear hav hE
  obtain ⟨c0, c1, c2, c3, c4, c5, c6, hf⟩ := rdr_cells hR
  have HR : Hid (w.heap[rb]? = _) := hR
  have HS : Hid (w.heap[sb]? = _) := hS
  have HB : Hid (w.heap[bb]? = _) := hB
  clear hR hS hB
  go_enter Tryd.func42, Tryd.ntmps42
  go_upto_if 9 with fail
  go_cut [] (fun w1 => Slid rb sb bb N i r wr s bs pr lb lrs w w1)
  case first =>
    by_cases h0 : 0 < r
    · obtain ⟨x, hx⟩ : ∃ x, x = (bs.take wr).drop r := ⟨_, rfl⟩
      have HX : Hid (x = (bs.drop r).take (Nat.min (wr - r) N) ∧ x.length = Nat.min (wr - r) N ∧ 0 + x.length ≤ bs.length) := by
        have e : Nat.min (wr - r) N = wr - r := Nat.min_eq_left (by omega)
        rw [hx, e]
        exact ⟨by rw [List.drop_take], by simp; omega, by simp; omega⟩
      have HX2 : Hid (x = (bs.take wr).drop r) := hx
      have hk := cell_setRow hrb
      have hfr := frozen_setRow hrb
      have b1 : (0 : Int) ≤ (r : Int) := by omega
      have b4 : (N : Int) ≤ 100000 := by omega
      have hw := wr64 ((wr : Int) - r) (by omega) (by omega)
      have HN : Hid (bs.length = N) := hN
      have b2 : (r : Int) ≤ (wr : Int) := by omega
      have b3 : (wr : Int) ≤ (N : Int) := by omega
      clear hx hN h3
      have FIN : Hid (∀ w', w'.heap = (((w.setRow bb (bc (over bs 0 x))).setCell ⟨rb, 3, none⟩ (.int .i64 ((wr : Int) - r))).setCell ⟨rb, 2, none⟩ (.int .i64 0)).heap → w'.os = w.os → w'.tape = w.tape → w'.output = w.output → Slid rb sb bb N i r wr s bs pr lb lrs w w') :=
        slid_end HR.out HS.out HB.out hrs hrb hsb HN.out h1 h2 HX2.out
      rcases Nat.lt_or_ge r N with hlt | hge
      · have hnr : ¬ N = r := by omega
        go_wp2
        go_region_held3 (fun w' => w'.cell? ⟨rb, 0, none⟩ = some (.slice (some ⟨bb, 0, none⟩) N N) ∧ w'.cell? ⟨rb, 2, none⟩ = some (.int .i64 r) ∧ w'.cell? ⟨rb, 3, none⟩ = some (.int .i64 wr)) (simp [*])
          (refine step_copy_bc (by rfl) (.tmp 13) (.tmp 26) 25 25 (by rfl) 5 Tryd.underlying25 Tryd.sz5 bb 0 N N bb r (wr - r) (N - r) _ (by rfl) (by rfl) (fun _ => by first | rfl | exact if_neg (by omega)) bs bs 5 5 HB.out HB.out x HX.out.1 HX.out.2.1 HX.out.2.2 ?_)
        go_wp2
        go_region
        all_goals
          go_wp2
          go_meet
          case rel => exact FIN.out _ rfl rfl rfl rfl
      · obtain rfl : r = N := by omega
        obtain rfl : wr = r := by omega
        have HX3 : Hid (x = (bs.drop wr).take (Nat.min 0 wr) ∧ x.length = Nat.min 0 wr ∧ 0 + x.length ≤ bs.length) := by
          have := HX.out
          rw [Nat.sub_self] at this
          exact this
        go_wp2
        go_region_held3 (fun w' => w'.cell? ⟨rb, 0, none⟩ = some (.slice (some ⟨bb, 0, none⟩) wr wr) ∧ w'.cell? ⟨rb, 2, none⟩ = some (.int .i64 wr) ∧ w'.cell? ⟨rb, 3, none⟩ = some (.int .i64 wr)) (simp [*])
          (refine step_copy_bc (by rfl) (.tmp 13) (.tmp 26) 25 25 (by rfl) 5 Tryd.underlying25 Tryd.sz5 bb 0 wr wr bb wr 0 0 _ (by rfl) (by rfl) (fun h => by omega) bs bs 5 5 HB.out HB.out x HX3.out.1 HX3.out.2.1 HX3.out.2.2 ?_)
        go_wp2
        go_region
        all_goals
          go_wp2
          go_meet
          case rel => exact FIN.out _ (by rw [show ((wr : Int) - wr) = 0 by omega]; rfl) rfl rfl rfl
    · have hr0 : r = 0 := by omega
      subst hr0
      have FIN : Hid (Slid rb sb bb N i 0 wr s bs pr lb lrs w w) := ⟨bs, hN, by simp, HR.out, HS.out, HB.out, Kept.refl _ _⟩
      go_wp2
      go_meet
      case rel => exact FIN.out
  case rest =>
    obtain ⟨bs1, hN1, ht1, hR1, hS1, hB1, hK1⟩ := hcut
    clear c0 c1 c2 c3 c4 c5 c6 hf HR HS HB
    obtain ⟨q, hq⟩ : ∃ q, q = wr - r := ⟨_, rfl⟩
    have HQ : Hid (q = av.length) := by
      show q = _
      rw [HAV.out, hq]; simp; omega
    have hE : wc.cell? ⟨1, 0, none⟩ = some (.iface ty (.pointer (some ea))) := (hK1.cell n1 n2 0).trans HE.out
    rw [← hq, ← HAV.out] at ht1
    rw [← hq] at hR1 h3
    obtain ⟨c0, c1, c2, c3, c4, c5, c6, hf⟩ := rdr_cells hR1
    have HR : Hid (wc.heap[rb]? = _) := hR1
    have HS : Hid (wc.heap[sb]? = _) := hS1
    have HB : Hid (wc.heap[bb]? = _) := hB1
    have HT : Hid (bs1.take q = _) := ht1
    have HK : Hid (Kept _ w wc) := hK1
    have HN : Hid (bs1.length = N) := hN1
    clear hR1 hS1 hB1 ht1 hq hK1 hN1 hN
    have b4 : (N : Int) ≤ 100000 := by omega
    have b5 : (0 : Int) ≤ (q : Int) := by omega
    have b6 : (q : Int) < (N : Int) := by omega
    have b7 : (q : Int) ≤ (N : Int) := by omega
    have nn : ¬ N ≤ q := by omega
    have nn2 : ¬ N = q := by omega
    go_wp2
    go_region_held3 (fun w' => w'.cell? ⟨rb, 0, none⟩ = some (.slice (some ⟨bb, 0, none⟩) N N) ∧ w'.cell? ⟨rb, 3, none⟩ = some (.int .i64 q)) (simp [*]) (fail)
    go_wp2
    have hmr := method_read
    go_loop [2] (fun i => i = .int .i64 100) (fun _ => 0)
    case atStart => rfl
    case round =>
      subst hrel
      by_cases hi : i < s.size
      · obtain ⟨x, hx⟩ : ∃ x, x = (s.data.toList.drop i).take (N - q) := ⟨_, rfl⟩
        have HX : Hid (x = (s.data.toList.drop i).take (N - q)) := hx
        have hlt : rb < wc.heap.size := lt_of HR.out
        have hnot : rb ∉ [sb, bb] := by simp [hrs, hrb]
        clear hx
        go_wp2
        go_region_held3 (fun w' => w'.cell? ⟨rb, 0, none⟩ = some (.slice (some ⟨bb, 0, none⟩) N N) ∧ w'.cell? ⟨rb, 1, none⟩ = some (.iface 42 (.pointer (some ⟨sb, 0, none⟩))) ∧ w'.cell? ⟨rb, 3, none⟩ = some (.int .i64 q)) (first | (simp [c0, c1, c3]; done) | (simp [hk2, c0, c1, c3]; done))
          ((go_at_call 68; refine (read_some sb bb q (N - q) (N - q) s i pr bs1 x _ (by exact HS.out) (by exact HB.out) hsb hi hs2 (by rw [HN.out]; omega) HX.out).mono ?_; rintro e w1 ⟨rfl, hs1, hb1, hk1⟩; have hk2 := hk1.cell (b := rb) hlt hnot; have hf2 := hk1.frozen (b := rb) hlt hnot; have HS1 : Hid _ := hs1; have HB1 : Hid _ := hb1; have HK1 : Hid _ := hk1; clear hs1 hb1 hk1))
        have hxl : x.length = min (N - q) (s.size - i) := by rw [HX.out]; simp
        have p1 : (0 : Int) < (x.length : Int) := by omega
        have p2 : (q : Int) + (x.length : Int) ≤ 100000 := by omega
        have p3 : ¬ ((x.length : Int) < 0) := by omega
        have FIN : Hid _ := filled_some (eofv := .iface ty (.pointer (some ea))) hrs hrb HN.out HT.out HQ.out h3 HR.out HK.out HX.out hi HS1.out HB1.out (HK1.out.from rfl rfl rfl rfl)
        clear hxl
        go_wp2
        exact bodyPost_ret (results_none rfl _ _ _) rfl ⟨rfl, FIN.out _ rfl rfl rfl rfl⟩
      · obtain rfl : i = s.size := by omega
        have FIN : Hid _ := filled_end (eofv := .iface ty (.pointer (some ea))) hrs hrb HN.out HT.out HQ.out h3 HR.out HK.out HS.out HB.out
        go_wp2
        go_region_held3 (fun w' => w'.cell? ⟨rb, 0, none⟩ = some (.slice (some ⟨bb, 0, none⟩) N N) ∧ w'.cell? ⟨rb, 1, none⟩ = some (.iface 42 (.pointer (some ⟨sb, 0, none⟩))) ∧ w'.cell? ⟨rb, 3, none⟩ = some (.int .i64 q)) (simp [c0, c1, c3])
          ((go_at_call 68; refine (read_end sb s s.size pr _ _ _ (by exact HS.out) ty ea rfl (by exact hE) (Nat.le_refl _) (by omega)).mono ?_; rintro e w1 ⟨rfl, n, rfl⟩))
        go_wp2
        exact bodyPost_ret (results_none rfl _ _ _) rfl ⟨rfl, FIN.out _ rfl rfl rfl rfl⟩

end Go.Proofs.Qxb6604708aDoor
