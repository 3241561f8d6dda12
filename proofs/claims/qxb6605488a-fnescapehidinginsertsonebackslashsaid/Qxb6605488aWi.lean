import Derived.Test.Qxb6605488aWh
namespace Go.Proofs.Qxb6605488a
open Go.RowKit
set_option linter.unusedVariables false
set_option linter.unusedSimpArgs false

/-- A row's value: nil, or a block of its own. -/
def rv (o : Option Nat) (n : Nat) : Value := match o with
  | none => .slice none 0 0
  | some r => .slice (some ⟨r, 0, none⟩) n n

def strs (l : List ByteArray) : Array Value := (l.map Value.string).toArray

/-- Lines in blocks of their own: 'b' the outer row, 'rb k' the block of row k; the first i rows are laid. -/
structure Own (w : World) (b : Nat) (rb : Nat → Option Nat) (L : List (List ByteArray)) (i : Nat) : Prop where
  outer : ∃ cs : Array Value, w.heap[b]? = some (.cells cs 36 (0, 0)) ∧ cs.size = L.length ∧ ∀ k, k < L.length → cs[k]? = some (if k < i then rv (rb k) (L.getD k []).length else .slice none 0 0)
  rows : ∀ k, k < i → (rb k = none ∧ L.getD k [] = []) ∨ ∃ r, rb k = some r ∧ b < r ∧ w.heap[r]? = some (.cells (strs (L.getD k [])) 9 (0, 0))
  mono : ∀ j k r r', j < k → k < i → rb j = some r → rb k = some r' → r < r'

theorem Own.kept {S : List Nat} {w w' : World} {b : Nat} {rb : Nat → Option Nat} {L : List (List ByteArray)} {i : Nat} (h : Own w b rb L i) (hK : Kept S w w') (hb : b ∉ S) (hr : ∀ k r, k < i → rb k = some r → r ∉ S) : Own w' b rb L i := by
  obtain ⟨⟨cs, h1, h2, h3⟩, h4, h5⟩ := h
  refine ⟨⟨cs, hK.at h1 hb, h2, h3⟩, fun k hk => ?_, h5⟩
  rcases h4 k hk with h | ⟨r, e, hlt, hh⟩
  · exact Or.inl h
  · exact Or.inr ⟨r, e, hlt, hK.at hh (hr k r hk e)⟩

theorem Own.start (w : World) (L : List (List ByteArray)) : Own (w.alloc (.cells (madeCells #[.slice none 0 0] L.length) 36)) w.heap.size (fun _ => none) L 0 := by
  refine ⟨⟨_, heap_alloc_new w _, size_madeCells _ _, fun k hk => ?_⟩, fun k hk => by omega, fun j k r r' _ hk => by omega⟩
  rw [made_at _ _ _ hk, if_neg (by omega)]

/-- A nil row: nothing is written. -/
theorem Own.nil {w : World} {b : Nat} {rb : Nat → Option Nat} {L : List (List ByteArray)} {i : Nat} (h : Own w b rb L i) (hl : L.getD i [] = []) : Own w b (fun k => if k = i then none else rb k) L (i + 1) := by
  obtain ⟨⟨cs, h1, h2, h3⟩, h4, h5⟩ := h
  refine ⟨⟨cs, h1, h2, fun k hk => ?_⟩, fun k hk => ?_, fun j k r r' hjk hk hj hkr => ?_⟩
  · rw [h3 k hk]
    by_cases e : k = i
    · subst e; simp [rv]
    · by_cases h : k < i
      · rw [if_pos h, if_pos (by omega), if_neg e]
      · rw [if_neg h, if_neg (by omega)]
  · by_cases e : k = i
    · subst e; exact Or.inl ⟨by simp, hl⟩
    · simp only [e, if_false]; exact h4 k (by omega)
  · by_cases e : k = i
    · rw [if_pos e] at hkr; cases hkr
    · rw [if_neg e] at hkr
      rw [if_neg (by omega)] at hj
      exact h5 j k r r' hjk (by omega) hj hkr

/-- A row laid in block r, and its value stored. -/
theorem Own.row {w : World} {b : Nat} {rb : Nat → Option Nat} {L : List (List ByteArray)} {i r : Nat} (h : Own w b rb L i) (hi : i < L.length) (hr : b < r) (hnew : ∀ k s, k < i → rb k = some s → s < r) (hrow : w.heap[r]? = some (.cells (strs (L.getD i [])) 9 (0, 0))) :
    Own (w.setCell ⟨b, i, none⟩ (.slice (some ⟨r, 0, none⟩) (L.getD i []).length (L.getD i []).length)) b (fun k => if k = i then some r else rb k) L (i + 1) := by
  obtain ⟨⟨cs, h1, h2, h3⟩, h4, h5⟩ := h
  have hK : Kept [b] w (w.setCell ⟨b, i, none⟩ (.slice (some ⟨r, 0, none⟩) (L.getD i []).length (L.getD i []).length)) := (Kept.refl [b] w).setCell (p := ⟨b, i, none⟩) (by simp) _
  refine ⟨⟨cs.setIfInBounds i (.slice (some ⟨r, 0, none⟩) (L.getD i []).length (L.getD i []).length), Lib.heap_setCell_same (i := i) h1 _, by simpa using h2, fun k hk => ?_⟩, fun k hk => ?_, fun j k s s' hjk hk hj hkr => ?_⟩
  · by_cases e : k = i
    · subst e
      rw [if_pos (by omega)]
      simp [h2, hk, rv]
    · rw [Array.getElem?_setIfInBounds, if_neg (by omega), h3 k hk]
      by_cases h : k < i
      · rw [if_pos h, if_pos (by omega), if_neg e]
      · rw [if_neg h, if_neg (by omega)]
  · by_cases e : k = i
    · subst e
      exact Or.inr ⟨r, by simp, hr, hK.at hrow (by simp; omega)⟩
    · simp only [e, if_false]
      rcases h4 k (by omega) with h | ⟨s, e1, e2, e3⟩
      · exact Or.inl h
      · exact Or.inr ⟨s, e1, e2, hK.at e3 (by simp; omega)⟩
  · by_cases e : k = i
    · rw [if_pos e] at hkr
      cases hkr
      rw [if_neg (by omega)] at hj
      exact hnew j s (by omega) hj
    · rw [if_neg e] at hkr
      rw [if_neg (by omega)] at hj
      exact h5 j k s s' hjk (by omega) hj hkr

theorem Own.cell {w : World} {b : Nat} {rb : Nat → Option Nat} {L : List (List ByteArray)} {i : Nat} (h : Own w b rb L i) (k : Nat) (hk : k < L.length) : w.cell? ⟨b, k, none⟩ = some (if k < i then rv (rb k) (L.getD k []).length else .slice none 0 0) ∧ w.frozen? ⟨b, k, none⟩ = false := by
  obtain ⟨⟨cs, h1, h2, h3⟩, h4, h5⟩ := h
  exact ⟨cell_of h1 (h3 k hk), frozen_of h1 k⟩

theorem Own.lt {w : World} {b : Nat} {rb : Nat → Option Nat} {L : List (List ByteArray)} {i : Nat} (h : Own w b rb L i) : b < w.heap.size ∧ ∀ k r, k < i → rb k = some r → r < w.heap.size ∧ b < r := by
  obtain ⟨⟨cs, h1, h2, h3⟩, h4, h5⟩ := h
  refine ⟨lt_of h1, fun k r hk e => ?_⟩
  rcases h4 k hk with ⟨h, _⟩ | ⟨s, e1, e2, e3⟩
  · rw [h] at e; cases e
  · rw [e1] at e
    cases e
    exact ⟨lt_of e3, e2⟩

/-- The whole, read as lines. -/
theorem Own.lns {w : World} {b : Nat} {rb : Nat → Option Nat} {L : List (List ByteArray)} (h : Own w b rb L L.length) : Lns (fun k => b ≤ k) w (.slice (some ⟨b, 0, none⟩) L.length L.length) L := by
  obtain ⟨⟨cs, h1, h2, h3⟩, h4, h5⟩ := h
  refine ⟨cs.toList, by simpa using h2, ?_, fun i hi => ?_⟩
  · have := sl_of_blk (w := w) (b := b) (t := 36) (l := cs.toList) (by simpa using h1) (fun k => b ≤ k) (Nat.le_refl _)
    rw [Array.length_toList, h2] at this
    exact this
  · have hc := h3 i hi
    rw [if_pos hi] at hc
    have e : cs.toList.getD i undef = rv (rb i) (L.getD i []).length := by
      simp [List.getD, hc]
    rw [e]
    rcases h4 i hi with ⟨e1, e2⟩ | ⟨r, e1, e2, e3⟩
    · rw [e1, e2]
      exact ⟨none, 0, rfl, Nat.le_refl _, fun j hj => by simp at hj⟩
    · rw [e1]
      have := sl_of_blk e3 (fun k => b ≤ k) (Nat.le_of_lt e2)
      rw [List.length_map] at this
      exact this

/-- Lines of one's own, or nil. -/
def OwnV (B : Nat) (w : World) (v : Value) (L : List (List ByteArray)) : Prop :=
  (v = .slice none 0 0 ∧ L = []) ∨ ∃ b rb, v = .slice (some ⟨b, 0, none⟩) L.length L.length ∧ B ≤ b ∧ Own w b rb L L.length

theorem OwnV.lns {B : Nat} {w : World} {v : Value} {L : List (List ByteArray)} (h : OwnV B w v L) : Lns (fun k => B ≤ k) w v L := by
  rcases h with ⟨rfl, rfl⟩ | ⟨b, rb, rfl, hb, h⟩
  · exact ⟨[], rfl, ⟨none, 0, rfl, Nat.le_refl _, fun j hj => by simp at hj⟩, fun i hi => by simp at hi⟩
  · exact h.lns.mono (fun k hk => Nat.le_trans hb hk)

theorem OwnV.kept {S : List Nat} {B : Nat} {w w' : World} {v : Value} {L : List (List ByteArray)} (h : OwnV B w v L) (hK : Kept S w w') (hS : ∀ k, k ∈ S → k < B) : OwnV B w' v L := by
  rcases h with h | ⟨b, rb, e, hb, h⟩
  · exact Or.inl h
  · refine Or.inr ⟨b, rb, e, hb, h.kept hK (fun hm => by have := hS _ hm; omega) (fun k r hk er hm => ?_)⟩
    have := hS _ hm
    have := (h.lt.2 k r hk er).2
    omega

def ClPost16 (L : List (List ByteArray)) (w : World) (e : Ending) (w' : World) : Prop := ∃ v, e = .returned v ∧ OwnV w.heap.size w' v L ∧ Kept [] w w'

set_option maxRecDepth 100000 in
set_option maxHeartbeats 4000000 in
theorem clone16_any (v : Value) (L : List (List ByteArray)) (w : World) (hL : Lns (fun _ => True) w v L) (hll : L.length ≤ 65536) (hsm : ∀ i, i < L.length → (L.getD i []).length ≤ 65536) :
    Calls Try.prog 16 #[v] w fun e w' => ClPost16 L w e w' := by
  obtain ⟨a, c, rfl, hc, hrow⟩ := hL.open
  cases a with
  | none =>
    have hl0 : L = [] := by
      cases L with
      | nil => rfl
      | cons x r =>
        obtain ⟨y, _, hy, _⟩ := hrow 0 (by simp)
        cases hy
    subst hl0
    have hn := Lib.run_eql_slice_nil (P := Try.prog) w 27 36 none 0 c 0 0 Try.underlying27
    clear hrow hL hsm
    go_enter Try.func16, Try.ntmps16
    go_wp2
    go_ret
    exact ⟨_, rfl, Or.inl ⟨rfl, rfl⟩, Kept.refl _ _⟩
  | some x =>
    have hn := Lib.run_eql_slice_nil (P := Try.prog) w 27 36 (some x) L.length c 0 0 Try.underlying27
    have HROW : Hid (∀ i, i < L.length → ∃ rv, w.cell? (x.add i) = some rv ∧ RowAt w rv (L.getD i [])) := fun i hi => by
      obtain ⟨y, rv, hy, h⟩ := hrow i hi
      cases hy
      exact ⟨rv, h⟩
    have HSM : Hid (∀ i, i < L.length → (L.getD i []).length ≤ 65536) := hsm
    clear hrow hL hsm
    have hmk := mk_row 27 36 (.slice none 0 0) 24 Try.underlying27 Try.info36 rfl (by omega) L.length (by omega)
    have bl : (L.length : Int) ≤ 65536 := by omega
    have START : Hid (Own (w.alloc (.cells (madeCells #[.slice none 0 0] L.length) 36)) w.heap.size (fun _ => none) L 0) := Own.start w L
    go_enter Try.func16, Try.ntmps16
    go_wp2
    go_loopw [4] (fun v wr => ∃ i : Nat, v = .int .i64 i ∧ i ≤ L.length ∧ (∃ rb, Own wr w.heap.size rb L i) ∧ Kept [] w wr) (fun v _ => L.length - (intOf v).toNat)
    case atStart => exact ⟨0, rfl, Nat.zero_le _, ⟨_, START.out⟩, (Kept.refl [] w).alloc _⟩
    case round =>
      clear START hmk hn
      obtain ⟨w1, hw1⟩ : ∃ w1, w1 = wr := ⟨wr, rfl⟩
      subst hw1
      obtain ⟨i, rfl, hi, ⟨rb, hO⟩, hK⟩ := hrel
      have HO : Hid (Own w1 w.heap.size rb L i) := hO
      have HK : Hid (Kept [] w w1) := hK
      clear hO hK
      have b2 : (0 : Int) ≤ (i : Int) := by omega
      by_cases hlt : i < L.length
      · have b1 : (i : Int) < (L.length : Int) := by omega
        have hw := wr64 ((i : Int) + 1) (by omega) (by omega)
        obtain ⟨rw', hcell0, a, c', rfl, hac, hstr⟩ := HROW.out i hlt
        have hcell := cell_kept HK.out hcell0 (by simp)
        have hsl := HSM.out i hlt
        clear hcell0
        cases a with
        | none =>
          have hl0 : L.getD i [] = [] := by
            cases hq : L.getD i [] with
            | nil => rfl
            | cons y r =>
              rw [hq] at hstr
              obtain ⟨z, hz, _⟩ := hstr 0 (by simp)
              cases hz
          have NXT : Hid (Own w1 w.heap.size (fun k => if k = i then none else rb k) L (i + 1)) := HO.out.nil hl0
          rw [hl0] at hcell
          have hn := Lib.run_eql_slice_nil (P := Try.prog) w1 36 9 none 0 c' 0 0 Try.underlying36
          clear hstr hl0 hac
          go_wp2
          exact ⟨⟨i + 1, by go_num, by omega, ⟨_, NXT.out⟩, HK.out⟩, by simp [intOf]; omega⟩
        | some y =>
          have HSTR : Hid (∀ j, j < (L.getD i []).length → w.cell? (y.add j) = some (.string ((L.getD i []).getD j ByteArray.empty))) := fun j hj => by
            obtain ⟨z, hz, h⟩ := hstr j hj
            cases hz
            exact h
          clear hstr
          obtain ⟨l, hl⟩ : ∃ l, l = L.getD i [] := ⟨_, rfl⟩
          have HLL : Hid (L.getD i [] = l) := hl.symm
          rw [← hl] at hcell HSTR hac hsl
          clear hl
          have hn := Lib.run_eql_slice_nil (P := Try.prog) w1 36 9 (some y) l.length c' 0 0 Try.underlying36
          have hmk := mk_row 36 9 (.string ByteArray.empty) 16 Try.underlying36 Try.info9 rfl (by omega) l.length (by omega)
          have hsl' : (l.length : Int) ≤ 65536 := by omega
          have START : Hid (Cln w1 w1.heap.size 9 (l.map .string) 0 (w1.alloc (.cells (madeCells #[.string ByteArray.empty] l.length) 9))) := by
            have := cln_start w1 9 (.string ByteArray.empty) (l.map .string)
            rw [List.length_map] at this
            exact this
          obtain ⟨r, hr⟩ : ∃ r, r = w1.heap.size := ⟨_, rfl⟩
          have HRS : Hid (w1.heap.size = r) := hr.symm
          have hbr : w.heap.size < r := by rw [hr]; exact HO.out.lt.1
          have HNEW : Hid (∀ k s, k < i → rb k = some s → s < r) := fun k s hk hs => by rw [hr]; exact (HO.out.lt.2 k s hk hs).1
          have HK0 : Hid (Kept [] w (w1.alloc (.cells (madeCells #[.string ByteArray.empty] l.length) 9))) := HK.out.alloc _
          have HO0 : Hid (Own (w1.alloc (.cells (madeCells #[.string ByteArray.empty] l.length) 9)) w.heap.size rb L i) := HO.out.kept ((Kept.refl [] w1).alloc _) (by simp) (by simp)
          rw [← hr] at START
          clear hr
          go_wp2
          rw [HRS.out]
          go_loopw [6] (fun v w2 => ∃ j : Nat, v = .int .i64 j ∧ j ≤ l.length ∧ Cln w1 r 9 (l.map .string) j w2 ∧ Own w2 w.heap.size rb L i ∧ Kept [] w w2 ∧ w2.cell? (x.add i) = some (.slice (some y) l.length c')) (fun v _ => l.length - (intOf v).toNat)
          case atStart => exact ⟨0, rfl, Nat.zero_le _, START.out, HO0.out, HK0.out, cell_kept ((Kept.refl [] w1).alloc _) hcell (by simp)⟩
          case round =>
            clear START hn hmk HO0 HK0 hcell
            obtain ⟨j, rfl, hj, hC, hO, hK, hcell⟩ := hrel
            have HC2 : Hid (Cln w1 r 9 (l.map .string) j wr) := hC
            have HO2 : Hid (Own wr w.heap.size rb L i) := hO
            have HK2 : Hid (Kept [] w wr) := hK
            have j2 : (0 : Int) ≤ (j : Int) := by omega
            by_cases hjl : j < l.length
            · have j1 : (j : Int) < (l.length : Int) := by omega
              have hwj := wr64 ((j : Int) + 1) (by omega) (by omega)
              obtain ⟨⟨u, hu⟩, hfz⟩ := cln_cell hC j (by rw [List.length_map]; exact hjl)
              have hsc : wr.cell? (y.add j) = some (.string (l.getD j ByteArray.empty)) := cell_kept hK (HSTR.out j hjl) (by simp)
              have NXT : Hid (Cln w1 r 9 (l.map .string) (j + 1) (wr.setCell ⟨r, j, none⟩ (.string (l.getD j ByteArray.empty)))) := by
                have := cln_step hC (by rw [List.length_map]; exact hjl)
                rw [getD_map _ l ByteArray.empty j hjl] at this
                exact this
              have NK : Hid (∀ u, Kept [r] wr (wr.setCell ⟨r, j, none⟩ u)) := fun u => (Kept.refl [r] wr).setCell (p := ⟨r, j, none⟩) (by simp) u
              have NO : Hid (∀ u, Own (wr.setCell ⟨r, j, none⟩ u) w.heap.size rb L i) := fun u => hO.kept (NK.out u) (by simp; omega) (fun k s hk hs => by have := HNEW.out k s hk hs; simp; omega)
              have NKW : Hid (∀ u, Kept [] w (wr.setCell ⟨r, j, none⟩ u)) := fun u => hK.trans_new (NK.out u) (by simp; omega)
              have NC : Hid (∀ u, (wr.setCell ⟨r, j, none⟩ u).cell? (x.add i) = some (.slice (some y) l.length c')) := by
                intro u
                refine cell_kept (NK.out u) hcell ?_
                have : (x.add i).block < w.heap.size := by
                  obtain ⟨q, hq, _⟩ := HROW.out i hlt
                  rcases Nat.lt_or_ge (x.add i).block w.heap.size with h | h
                  · exact h
                  · simp [World.cell?, Array.getElem?_eq_none h] at hq
                simp; omega
              obtain ⟨q, hq⟩ : ∃ q, q = l.getD j ByteArray.empty := ⟨_, rfl⟩
              rw [← hq] at hsc NXT
              clear hq hC hK hO NK
              go_wp2
              exact ⟨⟨j + 1, by go_num, by omega, NXT.out, NO.out _, NKW.out _, NC.out _⟩, by simp [intOf]; omega⟩
            · have j1 : (l.length : Int) ≤ (j : Int) := by omega
              have hje : j = l.length := by omega
              obtain ⟨hcb, hfb⟩ := hO.cell i hlt
              rw [if_neg (by omega)] at hcb
              have NXT : Hid (Own (wr.setCell ⟨w.heap.size, i, none⟩ (.slice (some ⟨r, 0, none⟩) l.length l.length)) w.heap.size (fun k => if k = i then some r else rb k) L (i + 1)) := by
                have h1 := HC2.out
                rw [hje, ← List.length_map (f := Value.string)] at h1
                have h2 := cln_end h1
                have h3 : wr.heap[r]? = some (.cells (strs (L.getD i [])) 9 (0, 0)) := by rw [HLL.out]; exact h2
                have := hO.row hlt hbr HNEW.out h3
                rw [HLL.out] at this
                exact this
              have NK : Hid (∀ u, Kept [] w (wr.setCell ⟨w.heap.size, i, none⟩ u)) := fun u => hK.trans_new ((Kept.refl [w.heap.size] wr).setCell (p := ⟨w.heap.size, i, none⟩) (by simp) u) (by simp)
              clear hC hK hO hje
              go_wp2
              exact ⟨⟨i + 1, by go_num, by omega, ⟨_, NXT.out⟩, NK.out _⟩, by simp [intOf]; omega⟩
      · have b1 : (L.length : Int) ≤ (i : Int) := by omega
        have hie : i = L.length := by omega
        have FIN : Hid (Own w1 w.heap.size rb L L.length) := by have := HO.out; rw [hie] at this; exact this
        clear hie
        go_wp2
        go_ret
        exact ⟨_, rfl, Or.inr ⟨_, rb, rfl, Nat.le_refl _, FIN.out⟩, HK.out⟩
end Go.Proofs.Qxb6605488a
