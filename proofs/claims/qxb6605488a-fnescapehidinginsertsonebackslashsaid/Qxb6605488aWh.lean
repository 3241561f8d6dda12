import Derived.Test.Qxb6605488aWf
namespace Go.Proofs.Qxb6605488a
open Go.RowKit
set_option linter.unusedVariables false
set_option linter.unusedSimpArgs false

theorem Try.info3 : (Try.prog.info? 3).map (fun i => (i.zero, i.size, i.bytes)) = some (some (.int .i64 0), 1, 8) := by kernel_rfl
theorem Try.info4 : (Try.prog.info? 4).map (fun i => (i.zero, i.size, i.bytes)) = some (some (.bool false), 1, 1) := by kernel_rfl
theorem Try.info9 : (Try.prog.info? 9).map (fun i => (i.zero, i.size, i.bytes)) = some (some (.string ByteArray.empty), 1, 16) := by kernel_rfl
theorem Try.info36 : (Try.prog.info? 36).map (fun i => (i.zero, i.size, i.bytes)) = some (some (.slice none 0 0), 1, 24) := by kernel_rfl
theorem Try.info5 : (Try.prog.info? 5).map (fun i => (i.zero, i.size, i.bytes)) = some (some (.int .u8 0), 1, 1) := by kernel_rfl

/-- 'make' of a row of one-cell elements. -/
theorem mk_row (t e : TypeId) (z : Value) (by' : Nat) (ht : Try.prog.underlying t = some (.slice e)) (hi : (Try.prog.info? e).map (fun i => (i.zero, i.size, i.bytes)) = some (some z, 1, by')) (hz1 : z.cells = #[z]) (hb' : by' ≤ 40) (n : Nat) (hn : n ≤ 4000000) (w : World) :
    (Instr.makeSlice t (.int .i64 (n : Int)) (.int .i64 (n : Int))).run Try.prog w = .ok (.slice (some ⟨w.heap.size, 0, none⟩) n n) (w.alloc (.cells (madeCells #[z] n) e)) := by
  obtain ⟨i, hi, hzz⟩ := Option.map_eq_some_iff.1 hi
  simp only [Prod.mk.injEq] at hzz
  obtain ⟨hz, hs, hb⟩ := hzz
  have hmul : by' * n ≤ 40 * 4000000 := Nat.mul_le_mul hb' hn
  have hbb : (i.bytes : Int) * (n : Int) ≤ 281474976710656 := by
    have h2 : by' * n ≤ 281474976710656 := by omega
    have h3 := Int.ofNat_le.2 h2
    rw [Int.natCast_mul] at h3
    rw [hb]
    exact h3
  have hr := run_make (P := Try.prog) w t e i z ht hi hz .i64 .i64 (n : Int) (n : Int) (by omega) (by omega) hbb (by omega)
  rw [hs] at hr
  have e : (n : Int).toNat = n := by omega
  rw [e, Nat.mul_one, hz1] at hr
  exact hr

theorem made_at (z : Value) (n k : Nat) (h : k < n) : (madeCells #[z] n)[k]? = some z := by
  unfold madeCells
  simp [h, Nat.mod_one]

/-- A new row (of block b, element type t) of which the first 'i' cells bear l's values. -/
def Cln (w : World) (b : Nat) (t : TypeId) (l : List Value) (i : Nat) (wr : World) : Prop :=
  i ≤ l.length ∧ ∃ cs : Array Value, wr.heap[b]? = some (.cells cs t (0, 0)) ∧ cs.size = l.length ∧ ∀ k, k < i → cs[k]? = some (l.getD k undef)

theorem cln_start (w : World) (t : TypeId) (z : Value) (l : List Value) : Cln w w.heap.size t l 0 (w.alloc (.cells (madeCells #[z] l.length) t)) :=
  ⟨Nat.zero_le _, _, heap_alloc_new w _, size_madeCells _ _, fun k hk => by omega⟩

theorem cln_step {w : World} {b : Nat} {t : TypeId} {l : List Value} {i : Nat} {wr : World} (h : Cln w b t l i wr) (hi : i < l.length) : Cln w b t l (i + 1) (wr.setCell ⟨b, i, none⟩ (l.getD i undef)) := by
  obtain ⟨h1, cs, h3, h4, h5⟩ := h
  refine ⟨hi, cs.setIfInBounds i (l.getD i undef), ?_, by simpa using h4, ?_⟩
  · exact Lib.heap_setCell_same (i := i) h3 _
  · intro k hk
    by_cases e : k = i
    · subst e
      simp [h4, hi]
    · rw [Array.getElem?_setIfInBounds, if_neg (by omega)]
      exact h5 k (by omega)

theorem cln_end {w : World} {b : Nat} {t : TypeId} {l : List Value} {wr : World} (h : Cln w b t l l.length wr) : wr.heap[b]? = some (.cells l.toArray t (0, 0)) := by
  obtain ⟨h1, cs, h3, h4, h5⟩ := h
  have e : cs = l.toArray := by
    apply Array.ext
    · simp [h4]
    · intro i hi1 hi2
      have := h5 i (by omega)
      rw [Array.getElem?_eq_getElem hi1] at this
      have hil : i < l.length := by omega
      simp only [List.getD, List.getElem?_eq_getElem hil, Option.getD_some, Option.some.injEq] at this
      rw [this]
      simp
  rw [← e]
  exact h3

theorem cln_cell {w : World} {b : Nat} {t : TypeId} {l : List Value} {i : Nat} {wr : World} (h : Cln w b t l i wr) (k : Nat) (hk : k < l.length) : (∃ v, wr.cell? ⟨b, k, none⟩ = some v) ∧ wr.frozen? ⟨b, k, none⟩ = false := by
  obtain ⟨h1, cs, h3, h4, h5⟩ := h
  exact ⟨⟨cs[k]'(by omega), cell_of h3 (by simp [h4, hk])⟩, frozen_of h3 k⟩

/-- A row of which the block is known, as a slice. -/
theorem sl_of_blk {w : World} {b : Nat} {t : TypeId} {l : List Value} (h : w.heap[b]? = some (.cells l.toArray t (0, 0))) (Q : Nat → Prop) (hQ : Q b) : Sl Q w (.slice (some ⟨b, 0, none⟩) l.length l.length) l := by
  refine ⟨_, _, rfl, Nat.le_refl _, fun i hi => ⟨_, rfl, hQ, ?_⟩⟩
  have e : (⟨b, 0, none⟩ : Addr).add i = ⟨b, i, none⟩ := by unfold Addr.add; split <;> simp_all
  rw [e]
  exact cell_of h (by simp [List.getD, hi])


/-- What the clone of a row leaves. -/
def ClPost14 (l : List Int) (w : World) (e : Ending) (w' : World) : Prop := ∃ v, e = .returned v ∧ Sl (fun k => k = w.heap.size) w' v (l.map (Value.int .i64)) ∧ Kept [] w w'

set_option maxHeartbeats 2000000 in
theorem clone14_any (v : Value) (l : List Int) (w : World) (hS : Sl (fun _ => True) w v (l.map (Value.int .i64))) (hl : l.length ≤ 1048576) :
    Calls Try.prog 14 #[v] w fun e w' => ClPost14 l w e w' := by
  obtain ⟨a, c, rfl, hc, hcell⟩ := hS.at 0
  cases a with
  | none =>
    have hl0 : l = [] := by
      cases l with
      | nil => rfl
      | cons x r =>
        obtain ⟨y, hy, _⟩ := hcell 0 (by simp)
        cases hy
    subst hl0
    have hn := Lib.run_eql_slice_nil (P := Try.prog) w 25 3 none 0 c 0 0 Try.underlying25
    clear hcell hS
    go_enter Try.func14, Try.ntmps14
    go_wp2
    go_ret
    exact ⟨_, rfl, ⟨none, 0, rfl, Nat.le_refl _, fun i hi => by simp at hi⟩, Kept.refl _ _⟩
  | some x =>
    have hn := Lib.run_eql_slice_nil (P := Try.prog) w 25 3 (some x) l.length c 0 0 Try.underlying25
    have HC : Hid (∀ i, i < l.length → w.cell? (x.add i) = some ((Value.int .i64) (l.getD i 0))) := fun i hi => by
      obtain ⟨y, hy, _, h⟩ := hcell i hi
      cases hy
      exact h
    clear hcell hS
    have hmk := mk_row 25 3 (Value.int .i64 0) 8 Try.underlying25 Try.info3 rfl (by omega) l.length (by omega)
    have bl : (l.length : Int) ≤ 1048576 := by omega
    have START : Hid (Cln w w.heap.size 3 (l.map (Value.int .i64)) 0 (w.alloc (.cells (madeCells #[(Value.int .i64 0)] l.length) 3))) := by
      have := cln_start w 3 (Value.int .i64 0) (l.map (Value.int .i64))
      rw [List.length_map] at this
      exact this
    go_enter Try.func14, Try.ntmps14
    go_wp2
    go_loopw [4] (fun v wr => ∃ i : Nat, v = .int .i64 i ∧ i ≤ l.length ∧ Cln w w.heap.size 3 (l.map (Value.int .i64)) i wr ∧ Kept [] w wr) (fun v _ => l.length - (intOf v).toNat)
    case atStart => exact ⟨0, rfl, Nat.zero_le _, START.out, (Kept.refl [] w).alloc _⟩
    case round =>
      clear START hmk hn
      obtain ⟨i, rfl, hi, hC, hK⟩ := hrel
      have HCL : Hid (Cln w w.heap.size 3 (l.map (Value.int .i64)) i wr) := hC
      have HK : Hid (Kept [] w wr) := hK
      by_cases hlt : i < l.length
      · obtain ⟨⟨u, hu⟩, hfz⟩ := cln_cell hC i (by rw [List.length_map]; exact hlt)
        have hx : wr.cell? (x.add i) = some ((Value.int .i64) (l.getD i 0)) := cell_kept hK (HC.out i hlt) (by simp)
        have NXT : Hid (Cln w w.heap.size 3 (l.map (Value.int .i64)) (i + 1) (wr.setCell ⟨w.heap.size, i, none⟩ ((Value.int .i64) (l.getD i 0)))) := by
          have := cln_step hC (by rw [List.length_map]; exact hlt)
          rw [getD_map _ l 0 i hlt] at this
          exact this
        have NK : Hid (∀ u, Kept [] w (wr.setCell ⟨w.heap.size, i, none⟩ u)) := fun u => hK.trans_new ((Kept.refl [w.heap.size] wr).setCell (p := ⟨w.heap.size, i, none⟩) (by simp) u) (by simp)
        obtain ⟨q, hq⟩ : ∃ q, q = l.getD i 0 := ⟨_, rfl⟩
        rw [← hq] at hx NXT
        clear hq hC hK
        have b1 : (i : Int) < (l.length : Int) := by omega
        have b2 : (0 : Int) ≤ (i : Int) := by omega
        have hw := wr64 ((i : Int) + 1) (by omega) (by omega)
        go_wp2
        exact ⟨⟨i + 1, by go_num, by omega, NXT.out, NK.out _⟩, by simp [intOf]; omega⟩
      · have hie : i = l.length := by omega
        subst hie
        clear hC hK
        go_wp2
        go_ret
        refine ⟨_, rfl, ?_, HK.out⟩
        have h1 := HCL.out
        rw [← List.length_map (f := (Value.int .i64))] at h1
        have := sl_of_blk (cln_end h1) (fun k => k = w.heap.size) rfl
        rw [List.length_map] at this
        exact this

/-- What the clone of a row leaves. -/
def ClPost15 (l : List Bool) (w : World) (e : Ending) (w' : World) : Prop := ∃ v, e = .returned v ∧ Sl (fun k => k = w.heap.size) w' v (l.map Value.bool) ∧ Kept [] w w'

set_option maxHeartbeats 2000000 in
theorem clone15_any (v : Value) (l : List Bool) (w : World) (hS : Sl (fun _ => True) w v (l.map Value.bool)) (hl : l.length ≤ 1048576) :
    Calls Try.prog 15 #[v] w fun e w' => ClPost15 l w e w' := by
  obtain ⟨a, c, rfl, hc, hcell⟩ := hS.at false
  cases a with
  | none =>
    have hl0 : l = [] := by
      cases l with
      | nil => rfl
      | cons x r =>
        obtain ⟨y, hy, _⟩ := hcell 0 (by simp)
        cases hy
    subst hl0
    have hn := Lib.run_eql_slice_nil (P := Try.prog) w 26 4 none 0 c 0 0 Try.underlying26
    clear hcell hS
    go_enter Try.func15, Try.ntmps15
    go_wp2
    go_ret
    exact ⟨_, rfl, ⟨none, 0, rfl, Nat.le_refl _, fun i hi => by simp at hi⟩, Kept.refl _ _⟩
  | some x =>
    have hn := Lib.run_eql_slice_nil (P := Try.prog) w 26 4 (some x) l.length c 0 0 Try.underlying26
    have HC : Hid (∀ i, i < l.length → w.cell? (x.add i) = some (Value.bool (l.getD i false))) := fun i hi => by
      obtain ⟨y, hy, _, h⟩ := hcell i hi
      cases hy
      exact h
    clear hcell hS
    have hmk := mk_row 26 4 (Value.bool false) 1 Try.underlying26 Try.info4 rfl (by omega) l.length (by omega)
    have bl : (l.length : Int) ≤ 1048576 := by omega
    have START : Hid (Cln w w.heap.size 4 (l.map Value.bool) 0 (w.alloc (.cells (madeCells #[(Value.bool false)] l.length) 4))) := by
      have := cln_start w 4 (Value.bool false) (l.map Value.bool)
      rw [List.length_map] at this
      exact this
    go_enter Try.func15, Try.ntmps15
    go_wp2
    go_loopw [4] (fun v wr => ∃ i : Nat, v = .int .i64 i ∧ i ≤ l.length ∧ Cln w w.heap.size 4 (l.map Value.bool) i wr ∧ Kept [] w wr) (fun v _ => l.length - (intOf v).toNat)
    case atStart => exact ⟨0, rfl, Nat.zero_le _, START.out, (Kept.refl [] w).alloc _⟩
    case round =>
      clear START hmk hn
      obtain ⟨i, rfl, hi, hC, hK⟩ := hrel
      have HCL : Hid (Cln w w.heap.size 4 (l.map Value.bool) i wr) := hC
      have HK : Hid (Kept [] w wr) := hK
      by_cases hlt : i < l.length
      · obtain ⟨⟨u, hu⟩, hfz⟩ := cln_cell hC i (by rw [List.length_map]; exact hlt)
        have hx : wr.cell? (x.add i) = some (Value.bool (l.getD i false)) := cell_kept hK (HC.out i hlt) (by simp)
        have NXT : Hid (Cln w w.heap.size 4 (l.map Value.bool) (i + 1) (wr.setCell ⟨w.heap.size, i, none⟩ (Value.bool (l.getD i false)))) := by
          have := cln_step hC (by rw [List.length_map]; exact hlt)
          rw [getD_map _ l false i hlt] at this
          exact this
        have NK : Hid (∀ u, Kept [] w (wr.setCell ⟨w.heap.size, i, none⟩ u)) := fun u => hK.trans_new ((Kept.refl [w.heap.size] wr).setCell (p := ⟨w.heap.size, i, none⟩) (by simp) u) (by simp)
        obtain ⟨q, hq⟩ : ∃ q, q = l.getD i false := ⟨_, rfl⟩
        rw [← hq] at hx NXT
        clear hq hC hK
        have b1 : (i : Int) < (l.length : Int) := by omega
        have b2 : (0 : Int) ≤ (i : Int) := by omega
        have hw := wr64 ((i : Int) + 1) (by omega) (by omega)
        go_wp2
        exact ⟨⟨i + 1, by go_num, by omega, NXT.out, NK.out _⟩, by simp [intOf]; omega⟩
      · have hie : i = l.length := by omega
        subst hie
        clear hC hK
        go_wp2
        go_ret
        refine ⟨_, rfl, ?_, HK.out⟩
        have h1 := HCL.out
        rw [← List.length_map (f := Value.bool)] at h1
        have := sl_of_blk (cln_end h1) (fun k => k = w.heap.size) rfl
        rw [List.length_map] at this
        exact this
end Go.Proofs.Qxb6605488a
