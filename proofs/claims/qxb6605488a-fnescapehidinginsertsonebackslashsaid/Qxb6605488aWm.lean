import Derived.Test.Qxb6605488aWk
import Derived.Test.Qxb6605488aWe
import Derived.Lib.AppendStr
import Derived.Laws.BytesArg
namespace Go.Proofs.Qxb6605488a
open Go.RowKit
set_option linter.unusedVariables false
set_option linter.unusedSimpArgs false

def isz (i : Nat) : Bool := ((i : Int) == 0)
theorem isz_eq (i : Nat) : ((i : Int) == 0) = isz i := rfl
theorem isz_t {i : Nat} (h : i = 0) : isz i = true := by subst h; rfl
theorem isz_f {i : Nat} (h : ¬ i = 0) : isz i = false := by unfold isz; simp; omega
def isp (i : Nat) : Bool := decide ((0 : Int) < (i : Int))
theorem isp_eq (i : Nat) : decide ((0 : Int) < (i : Int)) = isp i := rfl
theorem isp_eq2 (i : Nat) : decide (0 < i) = isp i := by
  unfold isp
  by_cases h : 0 < i
  · rw [decide_eq_true h, decide_eq_true (by omega)]
  · rw [decide_eq_false h, decide_eq_false (by omega)]
theorem isp_t {i : Nat} (h : 0 < i) : isp i = true := decide_eq_true (by omega)
theorem isp_f {i : Nat} (h : ¬ 0 < i) : isp i = false := decide_eq_false (by omega)

/-- The outer row of the result. -/
def Out (w : World) (b n : Nat) (f : Nat → Value) : Prop := ∃ cs : Array Value, w.heap[b]? = some (.cells cs 36 (0, 0)) ∧ cs.size = n ∧ ∀ k, k < n → cs[k]? = some (f k)
theorem Out.kept {S : List Nat} {w w' : World} {b n : Nat} {f : Nat → Value} (h : Out w b n f) (hK : Kept S w w') (hb : b ∉ S) : Out w' b n f := by
  obtain ⟨cs, h1, h2, h3⟩ := h
  exact ⟨cs, hK.at h1 hb, h2, h3⟩
theorem Out.set {w : World} {b n i : Nat} {f : Nat → Value} (h : Out w b n f) (hi : i < n) (v : Value) : Out (w.setCell ⟨b, i, none⟩ v) b n (fun k => if k = i then v else f k) := by
  obtain ⟨cs, h1, h2, h3⟩ := h
  refine ⟨cs.setIfInBounds i v, Lib.heap_setCell_same (i := i) h1 _, by simpa using h2, fun k hk => ?_⟩
  by_cases e : k = i
  · subst e; simp [h2, hk]
  · rw [Array.getElem?_setIfInBounds, if_neg (by omega)]
    show cs[k]? = some (if k = i then v else f k)
    rw [if_neg e]
    exact h3 k hk
theorem Out.cell {w : World} {b n : Nat} {f : Nat → Value} (h : Out w b n f) (k : Nat) (hk : k < n) : w.cell? ⟨b, k, none⟩ = some (f k) ∧ w.frozen? ⟨b, k, none⟩ = false := by
  obtain ⟨cs, h1, h2, h3⟩ := h
  exact ⟨cell_of h1 (h3 k hk), frozen_of h1 k⟩

/-- The result so far: the first i rows stand. -/
def MdI (b : Nat) (E : List (List ByteArray)) (i : Nat) (wr : World) : Prop :=
  ∃ rows : Nat → Value, Out wr b E.length (fun k => if k < i then rows k else .slice none 0 0) ∧ ∀ k, k < i → Sl (fun q => b < q) wr (rows k) ((E.getD k []).map .string)

theorem MdI.start (w : World) (E : List (List ByteArray)) : MdI w.heap.size E 0 (w.alloc (.cells (madeCells #[.slice none 0 0] E.length) 36)) := by
  refine ⟨fun _ => undef, ⟨_, heap_alloc_new w _, size_madeCells _ _, fun k hk => ?_⟩, fun k hk => by omega⟩
  rw [made_at _ _ _ hk]
  rfl

/-- One row more: its value is stored in W3; in W9 it bears what it shall. -/
theorem MdI.step {b : Nat} {E : List (List ByteArray)} {i r n : Nat} {w1 w2 w9 : World} {S : List Nat} (h : MdI b E i w1) (hi : i < E.length) (h12 : Kept [] w1 w2) (h19 : Kept [b] w1 w9) (h39 : Kept S (w2.setCell ⟨b, i, none⟩ (.slice (some ⟨r, 0, none⟩) n n)) w9) (hbS : b ∉ S) (hbr : b < r) (hrow : w9.heap[r]? = some (.cells (strs (E.getD i [])) 9 (0, 0))) (hn : n = (E.getD i []).length) : MdI b E (i + 1) w9 := by
  obtain ⟨rows, h1, h2⟩ := h
  refine ⟨fun k => if k = i then .slice (some ⟨r, 0, none⟩) n n else rows k, ?_, fun k hk => ?_⟩
  · have := ((h1.kept h12 (by simp)).set hi (.slice (some ⟨r, 0, none⟩) n n)).kept h39 hbS
    obtain ⟨cs, c1, c2, c3⟩ := this
    refine ⟨cs, c1, c2, fun k hk => ?_⟩
    rw [c3 k hk]
    by_cases e : k = i
    · subst e; simp
    · by_cases h : k < i
      · simp [e, h, Nat.lt_succ_of_lt h]
      · have h' : ¬ k < i + 1 := by omega
        simp [e, h, h']
  · by_cases e : k = i
    · subst e
      simp only [if_true]
      have := sl_of_blk hrow (fun q => b < q) hbr
      rw [List.length_map, ← hn] at this
      exact this
    · simp only [e, if_false]
      exact (h2 k (by omega)).kept h19 (fun q hq => by simp; omega)

theorem MdI.end {b : Nat} {E : List (List ByteArray)} {wr : World} (h : MdI b E E.length wr) : Lns (fun q => b ≤ q) wr (.slice (some ⟨b, 0, none⟩) E.length E.length) E := by
  obtain ⟨rows, ⟨cs, h1, h2, h3⟩, h4⟩ := h
  refine ⟨cs.toList, by simpa using h2, ?_, fun i hi => ?_⟩
  · have := sl_of_blk (w := wr) (b := b) (t := 36) (l := cs.toList) (by simpa using h1) (fun k => b ≤ k) (Nat.le_refl _)
    rw [Array.length_toList, h2] at this
    exact this
  · have hc := h3 i hi
    simp only [hi, if_true] at hc
    have e : cs.toList.getD i undef = rows i := by simp [List.getD, hc]
    rw [e]
    exact (h4 i hi).mono (fun q hq => by omega)

/-- The buffer: T stands in it. -/
def Bf (w : World) (bf sz : Nat) (T : List Int) : Prop := ∃ cur : Array Value, w.heap[bf]? = some (.cells cur 5 (0, 0)) ∧ cur.size = sz ∧ T.length ≤ sz ∧ cur.toList.take T.length = T.map (Value.int .u8)

theorem Bf.kept {S : List Nat} {w w' : World} {bf sz : Nat} {T : List Int} (h : Bf w bf sz T) (hK : Kept S w w') (hb : bf ∉ S) : Bf w' bf sz T := by
  obtain ⟨cur, h1, h2, h3, h4⟩ := h
  exact ⟨cur, hK.at h1 hb, h2, h3, h4⟩
theorem Bf.cell {w : World} {bf sz : Nat} {T : List Int} (h : Bf w bf sz T) (i : Nat) (hi : i < T.length) : w.cell? ⟨bf, 0 + i, none⟩ = some (.int .u8 (T.getD i 0)) := by
  obtain ⟨cur, h1, h2, h3, h4⟩ := h
  rw [Nat.zero_add]
  refine cell_of h1 ?_
  have := congrArg (fun l : List Value => l[i]?) h4
  simp only [List.getElem?_take, if_pos hi, List.getElem?_map] at this
  rw [Array.getElem?_toList] at this
  rw [this]
  simp [List.getD, hi]

theorem kept_setRow (w : World) (g : Nat) (cs : Array Value) : Kept [g] w (w.setRow g cs) :=
  ⟨rfl, rfl, rfl, by simp [World.setRow], fun k hk hs => setRow_other w g k cs (by simpa using hs)⟩

theorem strCells_bts (s : ByteArray) : Lib.strCells s = (bts s).map (Value.int .u8) := by
  unfold Lib.strCells bts
  rw [List.map_map]
  rfl

theorem take3 (a b c : List Value) (n : Nat) (h : n = a.length + b.length) : (a ++ b ++ c).take n = a ++ b := by
  rw [List.take_append_of_le_length (by rw [List.length_append]; omega), List.take_of_length_le (by rw [List.length_append]; omega)]

theorem Bf.str {w : World} {bf sz : Nat} {T : List Int} (h : Bf w bf sz T) (s : ByteArray) (hs : T.length + s.size ≤ sz) :
    ∃ w', (storeCells ⟨bf, T.length, none⟩ (List.take s.size (List.map (fun b => Value.int IntKind.u8 b.toNat) s.data.toList))).run Try.prog w = .ok () w' ∧ Bf w' bf sz (T ++ bts s) ∧ Kept [bf] w w' := by
  obtain ⟨cur, h1, h2, h3, h4⟩ := h
  have e : List.take s.size (List.map (fun b => Value.int IntKind.u8 b.toNat) s.data.toList) = Lib.strCells s := by
    unfold Lib.strCells
    exact List.take_of_length_le (by simp)
  rw [e]
  have hst := run_storeCells_at Try.prog bf T.length 5 (Lib.strCells s) 0 cur w h1 (by rw [Lib.strCells_length]; omega) (Lib.strCells_oneCell s)
  simp only [Nat.add_zero] at hst
  refine ⟨_, hst, ?_, kept_setRow _ _ _⟩
  refine ⟨_, setRow_heap w bf cur _ 5 _ h1, ?_, ?_, ?_⟩
  · simp [Lib.strCells_length]; omega
  · rw [List.length_append, bts_len]; omega
  · rw [List.length_append, bts_len, List.map_append, ← h4, ← strCells_bts]
    simp only [List.toList_toArray]
    exact take3 _ _ _ _ (by simp [Lib.strCells_length]; omega)

theorem Bf.nl {w : World} {bf sz : Nat} {T : List Int} (h : Bf w bf sz T) (hs : T.length + 1 ≤ sz) :
    ∃ w', (∀ ty, (Builtin.append_ #[38, 38] ty #[.slice (some ⟨bf, 0, none⟩) T.length sz, .slice (some ⟨w.heap.size, 0, none⟩) 1 1]).run Try.prog (w.alloc (.cells #[.int .u8 10] 5)) = .ok (.slice (some ⟨bf, 0, none⟩) (T.length + 1) sz) w') ∧ Bf w' bf sz (T ++ [10]) ∧ Kept [bf] w w' := by
  have hK : Kept [bf] w (w.alloc (.cells #[.int .u8 10] 5)) := (Kept.refl [bf] w).alloc _
  have hK0 : Kept [] w (w.alloc (.cells #[.int .u8 10] 5)) := (Kept.refl [] w).alloc _
  obtain ⟨cur, h1, h2, h3, h4⟩ := h.kept hK0 (by simp)
  obtain ⟨i, hi, hzz⟩ := Option.map_eq_some_iff.1 Try.info5
  simp only [Prod.mk.injEq] at hzz
  obtain ⟨hz, hsz, hby⟩ := hzz
  have hr := fun ty => run_append_room (P := Try.prog) (w.alloc (.cells #[.int .u8 10] 5)) 38 ty 5 i Try.underlying38 hi bf T.length sz cur h1 ⟨w.heap.size, 0, none⟩ 1 1 [.int .u8 10] (by rw [hsz]; rfl) (fun j u hu => by
    have hj : j = 0 := by
      rcases Nat.eq_zero_or_pos j with h | h
      · exact h
      · rw [List.getElem?_eq_none (by simp; omega)] at hu; cases hu
    subst hj
    simp at hu
    subst hu
    exact cell_of (heap_alloc_new w _) rfl) (fun u hu => by simp at hu; subst hu; rfl) hs (by rw [hsz]; simp; omega)
  refine ⟨_, hr, ?_, hK.trans (kept_setRow _ _ _)⟩
  refine ⟨_, setRow_heap _ bf cur _ 5 _ h1, ?_, by simp; omega, ?_⟩
  · rw [hsz]; simp; omega
  · rw [hsz, List.length_append, List.map_append, ← h4, Nat.mul_one]
    simp only [List.toList_toArray]
    exact take3 _ _ _ _ (by simp; omega)

theorem Bf.nl2 {w : World} {bf sz : Nat} {T : List Int} (h : Bf w bf sz T) (hs : T.length + 1 ≤ sz) :
    (∃ u, (w.alloc (.cells #[.int .u8 10] 5)).cell? ⟨bf, T.length, none⟩ = some u) ∧ (w.alloc (.cells #[.int .u8 10] 5)).frozen? ⟨bf, T.length, none⟩ = false ∧ Bf ((w.alloc (.cells #[.int .u8 10] 5)).setCell ⟨bf, T.length, none⟩ (.int .u8 10)) bf sz (T ++ [10]) ∧ Kept [bf] w ((w.alloc (.cells #[.int .u8 10] 5)).setCell ⟨bf, T.length, none⟩ (.int .u8 10)) := by
  have hK : Kept [bf] w (w.alloc (.cells #[.int .u8 10] 5)) := (Kept.refl [bf] w).alloc _
  have hK0 : Kept [] w (w.alloc (.cells #[.int .u8 10] 5)) := (Kept.refl [] w).alloc _
  obtain ⟨cur, h1, h2, h3, h4⟩ := h.kept hK0 (by simp)
  refine ⟨⟨cur[T.length]'(by omega), cell_of h1 (by simp)⟩, frozen_of h1 _, ?_, hK.setCell (p := ⟨bf, T.length, none⟩) (by simp) _⟩
  refine ⟨cur.setIfInBounds T.length (.int .u8 10), Lib.heap_setCell_same (i := T.length) h1 _, by simpa using h2, by simp; omega, ?_⟩
  have hlt : T.length < cur.toList.length := by simp; omega
  rw [Array.toList_setIfInBounds, List.length_append, List.map_append, ← h4]
  simp only [List.length_singleton]
  rw [List.take_succ_eq_append_getElem (by rw [List.length_set]; exact hlt)]
  simp
  rw [List.take_set_of_le (Nat.le_refl _)]

theorem mk_buf (n : Nat) (hn : n ≤ 4000000) (w : World) : (Instr.makeSlice 38 (.int .i64 0) (.int .i64 (n : Int))).run Try.prog w = .ok (.slice (some ⟨w.heap.size, 0, none⟩) 0 n) (w.alloc (.cells (madeCells #[.int .u8 0] n) 5)) := by
  obtain ⟨i, hi, hzz⟩ := Option.map_eq_some_iff.1 Try.info5
  simp only [Prod.mk.injEq] at hzz
  obtain ⟨hz, hs, hb⟩ := hzz
  have hr := run_make (P := Try.prog) w 38 5 i (.int .u8 0) Try.underlying38 hi hz .i64 .i64 0 (n : Int) (by omega) (by omega) (by rw [hb]; omega) (by omega)
  rw [hs] at hr
  have e : (n : Int).toNat = n := by omega
  rw [e, Nat.mul_one] at hr
  exact hr

theorem jn_snoc : ∀ (l : List ByteArray) (j : Nat), j < l.length → jn (l.take (j + 1)) = (if j = 0 then [] else jn (l.take j) ++ [10]) ++ bts (l.getD j ByteArray.empty) := by
  intro l
  induction l with
  | nil => intro j h; simp at h
  | cons x r ih =>
    intro j h
    cases j with
    | zero => simp [jn]
    | succ j =>
      have hj : j < r.length := by simpa using h
      have hne : (r.take (j + 1)) ≠ [] := by
        intro e
        have hlen : (r.take (j + 1)).length = j + 1 := by rw [List.length_take]; omega
        rw [e] at hlen
        simp at hlen
      have ihj := ih j hj
      rw [List.take_succ_cons, jn_cons, if_neg hne, ihj]
      simp only [Nat.succ_ne_zero, if_false, List.getD_cons_succ]
      rw [List.take_succ_cons, jn_cons]
      cases j with
      | zero => simp
      | succ k =>
        have hne2 : (r.take (k + 1)) ≠ [] := by
          intro e
          have hlen : (r.take (k + 1)).length = k + 1 := by rw [List.length_take]; omega
          rw [e] at hlen
          simp at hlen
        rw [if_neg hne2, if_neg (by omega)]
        simp

theorem jn_take_len : ∀ (l : List ByteArray) (j : Nat), 0 < j → j ≤ l.length → (jn (l.take j)).length + 1 = off l j := by
  intro l j h0 hj
  induction j with
  | zero => omega
  | succ j ih =>
    rw [jn_snoc l j (by omega), off_succ l j (by omega), List.length_append, bts_len]
    by_cases h : j = 0
    · subst h; simp [off_zero]
    · have := ih (by omega) (by omega)
      rw [if_neg h, List.length_append]
      simp
      omega

theorem jn_byte : ∀ (l : List ByteArray), ∀ c ∈ jn l, 0 ≤ c ∧ c < 256 := by
  intro l
  induction l with
  | nil => intro c hc; simp [jn] at hc
  | cons x r ih =>
    intro c hc
    rw [jn_cons] at hc
    rcases List.mem_append.1 hc with h | h
    · unfold bts at h
      obtain ⟨b, _, rfl⟩ := List.mem_map.1 h
      have := b.toNat_lt
      omega
    · split at h
      · simp at h
      · rcases List.mem_cons.1 h with h | h
        · omega
        · exact ih c h

theorem bts_nums : ∀ (T : List Int), (∀ c ∈ T, 0 ≤ c ∧ c < 256) → bts (strOfNums T) = T := by
  intro T h
  unfold bts
  rw [strOfNums_data, List.map_map]
  have : ∀ c ∈ T, ((fun b : UInt8 => (b.toNat : Int)) ∘ fun n : Int => UInt8.ofNat n.toNat) c = c := by
    intro c hc
    have := h c hc
    simp only [Function.comp]
    rw [UInt8.toNat_ofNat']
    omega
  rw [List.map_congr_left this]
  simp
end Go.Proofs.Qxb6605488a
