import Derived.Test.Qxb6604708aDoorWg
namespace Go.Proofs.Qxb6604708aDoor
open Go.RowKit
set_option linter.unusedVariables false

theorem buf0_bc (n : Nat) : buf0 n = bc (List.replicate n 0) := by
  unfold buf0 bc madeCells
  apply Array.ext
  · simp
  · intro i h1 h2
    simp [Nat.mod_one]

theorem heap_new_at (w : World) (o : Obj) (k : Nat) (h : k = w.heap.size) : (w.alloc o).heap[k]? = some o := by rw [h]; exact heap_alloc_new w o

/-- the reader just made -/
theorem lr_new (s : ByteArray) (limit : Int) (w : World) (h2 : 2 ≤ w.heap.size) (hs : s.size ≤ 1100000) (W : World)
    (hW : W = (((w.alloc (.cells #[.string s, .int .i64 0, .int .i64 (-1)] 53)).alloc (.cells #[.slice (some ⟨w.heap.size + 2, 0, none⟩) 65536 65536, .iface 42 (.pointer (some ⟨w.heap.size, 0, none⟩)), .int .i64 0, .int .i64 0, .nilIface, .int .i64 (-1), .int .i64 (-1)] 65)).alloc (.cells (buf0 65536) 5)).alloc (.cells #[.pointer (some ⟨w.heap.size + 1, 0, none⟩), .int .i64 limit, .int .i64 0, .slice none 0 0] 47)) :
    Fx w.heap.size (w.heap.size + 3) (w.heap.size + 1) w.heap.size (w.heap.size + 2) 65536 s ∧ Lr w.heap.size (w.heap.size + 3) (w.heap.size + 1) w.heap.size (w.heap.size + 2) 65536 s limit 0 [] s.data.toList none 0 W ∧ Kept [] w W ∧ W.heap.size = w.heap.size + 4 := by
  refine ⟨⟨h2, by omega, by omega, by omega, by omega, by omega, by omega, by omega, by omega, by omega, by omega, by omega, by omega, hs⟩, ?_, ?_, ?_⟩
  · refine ⟨0, 0, 0, List.replicate 65536 0, -1, -1, -1, ?_, ⟨rfl, Or.inl ⟨rfl, rfl⟩⟩, by simp [pblk], ?_, ?_, ?_, by rw [List.length_replicate], Nat.le_refl _, Nat.zero_le _, Nat.zero_le _, by simp⟩
    · rw [hW]; exact heap_new_at _ _ _ (by simp)
    · rw [hW, Below.heap_alloc _ _ _ (by simp), Below.heap_alloc _ _ _ (by simp)]; exact heap_new_at _ _ _ (by simp)
    · rw [hW, Below.heap_alloc _ _ _ (by simp; omega), Below.heap_alloc _ _ _ (by simp; omega), Below.heap_alloc _ _ _ (by simp)]; exact heap_alloc_new _ _
    · rw [hW, Below.heap_alloc _ _ _ (by simp), ← buf0_bc]; exact heap_new_at _ _ _ (by simp)
  · rw [hW]; exact ((((Kept.refl [] w).alloc _).alloc _).alloc _).alloc _
  · rw [hW]; simp

/-- the reader, and a row of the caller's own beside it -/
def Two (B lb rb sb bb N : Nat) (s : ByteArray) (limit : Int) (fa ea : Addr) (w0 : World) (num : Int) (l X : List UInt8) (p : Option Addr) (cap : Nat) (O : List UInt8) (po : Option Addr) (capo : Nat) (wr : World) : Prop :=
  Lr B lb rb sb bb N s limit num l X p cap wr ∧ wr.ownsRow B 5 1 (.slice po O.length capo) O.length (bv O) ∧ (∀ q, q ∈ pblk po → q ∉ [lb, rb, sb, bb] ++ pblk p) ∧ Below B w0 wr ∧ Sent B fa ea wr

theorem lr_lt {B lb rb sb bb N : Nat} {s : ByteArray} {limit num : Int} {l X : List UInt8} {p : Option Addr} {cap : Nat} {w : World} (h : Lr B lb rb sb bb N s limit num l X p cap w) : ∀ k, k ∈ [lb, rb, sb, bb] ++ pblk p → k < w.heap.size := by
  obtain ⟨r, q, i, bs, pr, l1, l2, a1, a2, a3, a4, a5, a6, a7⟩ := h
  intro k hk
  rcases List.mem_append.1 hk with h | h
  · have := lt_of a1; have := lt_of a4; have := lt_of a5; have := lt_of a6
    simp at h; omega
  · exact (owns_lt a2 k h).2

theorem two_kept {B lb rb sb bb N : Nat} {s : ByteArray} {limit num : Int} {fa ea : Addr} {w0 w w' : World} {l X O : List UInt8} {p po : Option Addr} {cap capo : Nat} (fx : Fx B lb rb sb bb N s) (h : Two B lb rb sb bb N s limit fa ea w0 num l X p cap O po capo w) (hk : Kept [] w w') : Two B lb rb sb bb N s limit fa ea w0 num l X p cap O po capo w' :=
  ⟨lr_kept h.1 hk (by simp), hk.owns h.2.1 (by simp), h.2.2.1, h.2.2.2.1.trans (hk.below h.2.2.2.2.size (by simp)), h.2.2.2.2.kept fx.b2 hk (by simp)⟩

theorem two_app {B lb rb sb bb N : Nat} {s : ByteArray} {limit num : Int} {fa ea : Addr} {w0 w w' : World} {l X O O' : List UInt8} {p po po' : Option Addr} {cap capo capo' : Nat} (fx : Fx B lb rb sb bb N s) (h : Two B lb rb sb bb N s limit fa ea w0 num l X p cap O po capo w)
    (hown : w'.ownsRow B 5 1 (.slice po' O'.length capo') O'.length (bv O')) (hk : Kept (pblk po) w w') (hpb : ∀ k, k ∈ pblk po' → k ∈ pblk po ∨ k = w.heap.size) : Two B lb rb sb bb N s limit fa ea w0 num l X p cap O' po' capo' w' := by
  obtain ⟨h1, h2, h3, h4, h5⟩ := h
  have hB : ∀ k, k ∈ pblk po → B ≤ k := fun k hk => (owns_lt h2 k hk).1
  refine ⟨lr_kept h1 hk h3, hown, ?_, h4.trans (hk.below h5.size hB), h5.kept fx.b2 hk hB⟩
  intro q hq hq2
  rcases hpb q hq with h | h
  · exact h3 q h hq2
  · have := lr_lt h1 q hq2; omega

theorem two_read {B lb rb sb bb N : Nat} {s : ByteArray} {limit num num' : Int} {fa ea : Addr} {w0 w w' : World} {l X O l' X' : List UInt8} {p po p' : Option Addr} {cap capo cap' : Nat} (fx : Fx B lb rb sb bb N s) (h : Two B lb rb sb bb N s limit fa ea w0 num l X p cap O po capo w)
    (hk : Kept ([lb, rb, sb, bb] ++ pblk p) w w') (hpb : ∀ k, k ∈ pblk p' → k ∈ pblk p ∨ w.heap.size ≤ k) (hL : Lr B lb rb sb bb N s limit num' l' X' p' cap' w') : Two B lb rb sb bb N s limit fa ea w0 num' l' X' p' cap' O po capo w' := by
  obtain ⟨h1, h2, h3, h4, h5⟩ := h
  have hB := lr_foot fx h1
  refine ⟨hL, hk.owns h2 h3, ?_, h4.trans (hk.below h5.size hB), h5.kept fx.b2 hk hB⟩
  intro q hq hq2
  rcases List.mem_append.1 hq2 with h | h
  · exact h3 q hq (by simp at h ⊢; omega)
  · rcases hpb q h with h | h
    · exact h3 q hq (by simp [h])
    · have := (owns_lt h2 q hq).2; omega

theorem ln_no (X : List UInt8) : (10 : UInt8) ∉ ln X := by
  unfold ln
  induction X with
  | nil => simp
  | cons b X ih =>
    rw [List.takeWhile_cons]
    split
    · rename_i hb
      have : ¬ (10 : UInt8) = b := fun e => by subst e; simp at hb
      simp only [List.mem_cons, not_or]
      exact ⟨this, ih⟩
    · simp

theorem next_law (X : List UInt8) (hX : X ≠ []) : ∃ D, X = D ++ rst X ∧ 0 < D.length ∧ (D = ln X ++ [10] ∨ (D = ln X ∧ rst X = [] ∧ ln X ≠ [] ∧ (10 : UInt8) ∉ ln X)) := by
  have h1 : X = ln X ++ X.dropWhile (· != 10) := (List.takeWhile_append_dropWhile).symm
  have hno : (10 : UInt8) ∉ ln X := ln_no X
  cases hd : X.dropWhile (· != 10) with
  | nil =>
    have e : X = ln X := by rw [hd, List.append_nil] at h1; exact h1
    have e2 : rst X = [] := by unfold rst; rw [hd]; rfl
    exact ⟨ln X, by rw [e2, List.append_nil]; exact e, by rw [← e]; exact List.length_pos_iff.2 hX, Or.inr ⟨rfl, e2, by rw [← e]; exact hX, hno⟩⟩
  | cons b T =>
    have hb : b = 10 := by
      have := List.head_dropWhile_not (p := (· != (10 : UInt8))) (l := X) (by rw [hd]; simp)
      simp only [hd] at this
      simpa using this
    subst hb
    have e2 : rst X = T := by unfold rst; rw [hd]; rfl
    refine ⟨ln X ++ [10], ?_, by simp, Or.inl rfl⟩
    rw [e2]
    conv => lhs; rw [h1, hd]
    simp

/-- the loop of FnNewReaderRoundTrip -/
def RtI (B lb rb sb bb N : Nat) (s : ByteArray) (limit : Int) (fa ea : Addr) (w0 : World) (k : Nat) (X O : List UInt8) (po : Option Addr) (capo : Nat) (wr : World) : Prop :=
  ∃ (C : List UInt8) (p : Option Addr) (cap : Nat) (l : List UInt8), Two B lb rb sb bb N s limit fa ea w0 k l X p cap O po capo wr ∧
    s.data.toList = C ++ X ∧ k ≤ C.length ∧ ((k = 0 ∧ O = [] ∧ C = []) ∨ (0 < k ∧ C = O ++ [10]) ∨ (0 < k ∧ C = O ∧ X = [] ∧ O ≠ [] ∧ O.getLast? ≠ some 10))

theorem mk_out (n : Nat) (hn : n ≤ 2000000) (w : World) : (Instr.makeSlice 25 (.int .i64 0) (.int .i64 ((n : Int) + 1))).run Tryd.prog w = .ok (.slice (some ⟨w.heap.size, 0, none⟩) 0 (n + 1)) (w.alloc (.cells (buf0 (n + 1)) 5)) := by
  obtain ⟨i, hi, hzz⟩ := Option.map_eq_some_iff.1 Tryd.info5
  simp only [Prod.mk.injEq] at hzz
  obtain ⟨hz, hs, hb⟩ := hzz
  have hr := run_make (P := Tryd.prog) w 25 5 i (.int .u8 0) Tryd.underlying25 hi hz .i64 .i64 0 ((n : Int) + 1) (by omega) (by omega) (by rw [hb]; omega) (by omega)
  rw [hs] at hr
  have e : ((n : Int) + 1).toNat = n + 1 := by omega
  rw [e, Nat.mul_one] at hr
  exact hr

theorem rt_start (s : ByteArray) (limit : Int) (w : World) (fa ea : Addr) (h2 : 2 ≤ w.heap.size) (hs : s.size ≤ 1100000) (st : Sent w.heap.size fa ea w) (W : World)
    (hW : W = ((((w.alloc (.cells #[.string s, .int .i64 0, .int .i64 (-1)] 53)).alloc (.cells #[.slice (some ⟨w.heap.size + 2, 0, none⟩) 65536 65536, .iface 42 (.pointer (some ⟨w.heap.size, 0, none⟩)), .int .i64 0, .int .i64 0, .nilIface, .int .i64 (-1), .int .i64 (-1)] 65)).alloc (.cells (buf0 65536) 5)).alloc (.cells #[.pointer (some ⟨w.heap.size + 1, 0, none⟩), .int .i64 limit, .int .i64 0, .slice none 0 0] 47)).alloc (.cells (buf0 (s.size + 1)) 5)) :
    RtI w.heap.size (w.heap.size + 3) (w.heap.size + 1) w.heap.size (w.heap.size + 2) 65536 s limit fa ea w 0 s.data.toList [] (some ⟨w.heap.size + 4, 0, none⟩) (s.size + 1) W := by
  obtain ⟨fx, hL, hK, hsz⟩ := lr_new s limit w h2 hs _ rfl
  have hK2 : Kept [] _ W := hW ▸ (Kept.refl [] _).alloc (.cells (buf0 (s.size + 1)) 5)
  have hK3 := hK.trans hK2
  refine ⟨[], none, 0, [], ⟨lr_kept hL hK2 (by simp), ?_, ?_, hK3.below (Nat.le_refl _) (by simp), st.kept h2 hK3 (by simp)⟩, by simp, Nat.zero_le _, Or.inl ⟨rfl, rfl, rfl⟩⟩
  · refine ⟨rfl, Or.inr ⟨w.heap.size + 4, s.size + 1, buf0 (s.size + 1), rfl, by omega, ?_, Nat.zero_le _, by unfold maxLen; omega, by simp [buf0, size_madeCells], by simp [bv]⟩⟩
    rw [hW, ← hsz]; exact heap_alloc_new _ _
  · simp [pblk]

end Go.Proofs.Qxb6604708aDoor
