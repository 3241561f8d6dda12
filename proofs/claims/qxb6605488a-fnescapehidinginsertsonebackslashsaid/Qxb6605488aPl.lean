import Derived.Test.Qxb6605488aProg
import Derived.Lib.SmallJoins
import Derived.Lib.Join
import Derived.Lib.IndexMore
import Derived.Lib.IndexLaws
namespace Go.Proofs.Qxb6605488a
set_option linter.unusedVariables false
set_option linter.unusedSimpArgs false

/-- The lexer's state behind bytes that hold no quote. -/
def st : Bool → List Int → Bool
  | t, [] => t
  | true, _ :: r => st false r
  | false, c :: r => st (decide (c = 92)) r

theorem st_snoc : ∀ (a : List Int) (t : Bool) (c : Int), st t (a ++ [c]) = (!(st t a) && decide (c = 92)) := by
  intro a
  induction a with
  | nil => intro t c; cases t <;> simp [st]
  | cons x r ih =>
    intro t c
    cases t with
    | true => simp only [List.cons_append, st, ih]
    | false => simp only [List.cons_append, st, ih]

/-- How many backslashes end 'a'. -/
def trail (a : List Int) : Nat := (a.reverse.takeWhile (fun c => decide (c = 92))).length

theorem trail_nil : trail [] = 0 := rfl

theorem trail_snoc (a : List Int) (c : Int) : trail (a ++ [c]) = if c = 92 then trail a + 1 else 0 := by
  simp only [trail, List.reverse_append, List.reverse_cons, List.reverse_nil, List.nil_append, List.singleton_append, List.takeWhile_cons]
  by_cases h : c = 92
  · simp [h]
  · simp [h]

theorem st_trail (a : List Int) : st false a = decide (trail a % 2 = 1) := by
  suffices H : ∀ (n : Nat) (a : List Int), a.length = n → st false a = decide (trail a % 2 = 1) from H _ a rfl
  intro n
  induction n with
  | zero => intro a h; cases a <;> simp_all [st, trail]
  | succ n ih =>
    intro a h
    obtain ⟨b, c, rfl⟩ : ∃ b c, a = b ++ [c] := by
      rcases List.eq_nil_or_concat a with rfl | ⟨b, c, e⟩
      · simp at h
      · exact ⟨b, c, by simpa using e⟩
    have hb := ih b (by simp at h; omega)
    rw [st_snoc, hb, trail_snoc]
    by_cases hc : c = 92
    · simp only [hc, if_true, decide_true, Bool.and_true]
      by_cases h2 : trail b % 2 = 1
      · simp [h2]; omega
      · simp [h2]; omega
    · simp [hc]

theorem tw_lt : ∀ (r : List Int) (k : Nat), k < (r.takeWhile (fun c => decide (c = 92))).length → k < r.length ∧ r.getD k 0 = 92 := by
  intro r
  induction r with
  | nil => intro k h; simp at h
  | cons c r ih =>
    intro k h
    rw [List.takeWhile_cons] at h
    by_cases hc : c = 92
    · simp only [hc, decide_true, if_true, List.length_cons] at h
      cases k with
      | zero => simp [hc]
      | succ k => have := ih k (by omega); simpa using this
    · simp [hc] at h

theorem tw_eq : ∀ (r : List Int), (r.takeWhile (fun c => decide (c = 92))).length < r.length → r.getD (r.takeWhile (fun c => decide (c = 92))).length 0 ≠ 92 := by
  intro r
  induction r with
  | nil => intro h; simp at h
  | cons c r ih =>
    intro h
    rw [List.takeWhile_cons] at h ⊢
    by_cases hc : c = 92
    · simp only [hc, decide_true, if_true, List.length_cons] at h ⊢
      have := ih (by omega)
      simpa using this
    · simp [hc]

theorem getD_rev (a : List Int) (k : Nat) (h : k < a.length) : a.reverse.getD k 0 = a.getD (a.length - 1 - k) 0 := by
  simp only [List.getD, List.getElem?_reverse h]

theorem getD_seg (T : List Int) (en i j : Nat) (h : j < i) : ((T.drop en).take i).getD j 0 = T.getD (en + j) 0 := by
  simp [List.getD, h]

theorem esc_yes (T : List Int) (en i k : Nat) (h : en + i ≤ T.length) (hk : k < trail ((T.drop en).take i)) : k < i ∧ T.getD (en + i - k - 1) 0 = 92 := by
  have hl : ((T.drop en).take i).length = i := by simp; omega
  have := tw_lt _ _ hk
  rw [List.length_reverse, hl] at this
  refine ⟨this.1, ?_⟩
  have h2 := this.2
  rw [getD_rev _ _ (by omega), hl, getD_seg _ _ _ _ (by omega)] at h2
  rw [← h2]; congr 1; omega

theorem trail_le (a : List Int) : trail a ≤ a.length := by
  rcases Nat.lt_or_ge a.length (trail a) with h | h
  · have := tw_lt _ _ h
    simp at this
  · exact h

theorem esc_no (T : List Int) (p en i : Nat) (h : en + i ≤ T.length) (hp : p < en) (hb : T.getD (en - 1) 0 = 34 ∨ en - 1 = p) : en + i - trail ((T.drop en).take i) - 1 ≤ p ∨ T.getD (en + i - trail ((T.drop en).take i) - 1) 0 ≠ 92 := by
  have hl : ((T.drop en).take i).length = i := by simp; omega
  have hle := trail_le ((T.drop en).take i)
  rw [hl] at hle
  rcases Nat.lt_or_ge (trail ((T.drop en).take i)) i with h1 | h1
  · right
    have := tw_eq ((T.drop en).take i).reverse (by rw [List.length_reverse, hl]; exact h1)
    have e : (((T.drop en).take i).reverse.takeWhile (fun c => decide (c = 92))).length = trail ((T.drop en).take i) := rfl
    rw [e, getD_rev _ _ (by omega), hl, getD_seg _ _ _ _ (by omega)] at this
    intro h2
    apply this
    rw [← h2]; congr 1; omega
  · have e : trail ((T.drop en).take i) = i := by omega
    rw [e]
    rcases hb with hb | hb
    · right
      have e2 : en + i - i - 1 = en - 1 := by omega
      rw [e2, hb]; decide
    · left; omega


/-- A string's bytes. -/
def bts (s : ByteArray) : List Int := s.data.toList.map (fun b => (b.toNat : Int))

theorem bts_len (s : ByteArray) : (bts s).length = s.size := by simp [bts]
theorem bts_at (s : ByteArray) (i : Nat) (h : i < s.size) : (s[i].toNat : Int) = (bts s).getD i 0 := by
  have e : s.data.toList[i]? = some s[i] := by
    rw [List.getElem?_eq_getElem (by simpa using h)]
    rfl
  simp [bts, List.getD, e]
theorem bts_ext (s : ByteArray) (a b : Nat) : bts (s.extract a b) = ((bts s).drop a).take (b - a) := by
  unfold bts
  rw [Lib.extract_data]
  simp [List.map_take, List.map_drop]
theorem bts_from (s : ByteArray) (a : Nat) : bts (s.extract a s.size) = (bts s).drop a := by
  rw [bts_ext, List.take_of_length_le]
  rw [List.length_drop, bts_len]
  omega
theorem bts_app (a b : ByteArray) : bts (a ++ b) = bts a ++ bts b := by
  unfold bts
  rw [ByteArray.data_append]
  simp
theorem u8_inj {a b : UInt8} (h : (a.toNat : Int) = (b.toNat : Int)) : a = b := UInt8.toNat.inj (by omega)
theorem map_inj : ∀ (a b : List UInt8), a.map (fun x => (x.toNat : Int)) = b.map (fun x => (x.toNat : Int)) → a = b := by
  intro a
  induction a with
  | nil => intro b h; cases b with
    | nil => rfl
    | cons c r => simp at h
  | cons x r ih => intro b h; cases b with
    | nil => simp at h
    | cons c r' =>
      simp only [List.map_cons, List.cons.injEq] at h
      rw [u8_inj h.1, ih _ h.2]
theorem bts_inj {a b : ByteArray} (h : bts a = bts b) : a = b := by
  have := map_inj _ _ h
  apply ByteArray.ext
  exact Array.toList_inj.1 this
theorem bts_byte (s : ByteArray) (i : Nat) : 0 ≤ (bts s).getD i 0 ∧ (bts s).getD i 0 < 256 := by
  by_cases h : i < s.size
  · rw [← bts_at s i h]
    have := s[i].toNat_lt
    omega
  · have : (bts s)[i]? = none := by rw [List.getElem?_eq_none]; rw [bts_len]; omega
    simp [List.getD, this]

theorem drop_at (T : List Int) (p : Nat) (h : p < T.length) : T.drop p = T.getD p 0 :: T.drop (p + 1) := by
  rw [List.drop_eq_getElem_cons h]
  simp [List.getD, h]
theorem getD_drop (T : List Int) (p k : Nat) : (T.drop p).getD k 0 = T.getD (p + k) 0 := by simp [List.getD]

/-- The bytes of markers. -/
def isMk (c : Int) : Bool := decide (c = 32) || decide (c = 9) || decide (c = 62) || decide (c = 45) || decide (c = 43) || decide (c = 42) || decide (c = 46) || decide (c = 41) || (decide (48 ≤ c) && decide (c ≤ 57))

/-- How many bytes ahead fulfil q. -/
def run (q : Int → Bool) (l : List Int) : Nat := (l.takeWhile q).length

theorem run_yes (q : Int → Bool) (T : List Int) (p : Nat) (h : p < T.length) (hs : q (T.getD p 0) = true) : run q (T.drop p) = run q (T.drop (p + 1)) + 1 := by
  rw [drop_at T p h]
  simp only [run, List.takeWhile_cons, hs, if_true, List.length_cons]
theorem run_no (q : Int → Bool) (T : List Int) (p : Nat) (h : p < T.length) (hs : q (T.getD p 0) = false) : run q (T.drop p) = 0 := by
  rw [drop_at T p h]
  simp only [run, List.takeWhile_cons, hs]
  rfl
theorem run_end (q : Int → Bool) (T : List Int) (p : Nat) (h : T.length ≤ p) : run q (T.drop p) = 0 := by
  rw [List.drop_of_length_le h]; rfl
theorem run_le (q : Int → Bool) (l : List Int) : run q l ≤ l.length := (List.takeWhile_sublist _).length_le
theorem run_lt : ∀ (q : Int → Bool) (l : List Int) (k : Nat), k < run q l → k < l.length ∧ q (l.getD k 0) = true := by
  intro q l
  induction l with
  | nil => intro k h; simp [run] at h
  | cons c r ih =>
    intro k h
    by_cases hc : q c = true
    · have e : run q (c :: r) = run q r + 1 := by simp [run, List.takeWhile_cons, hc]
      rw [e] at h
      cases k with
      | zero => simp [hc]
      | succ k => have := ih k (by omega); simpa using this
    · have e : run q (c :: r) = 0 := by simp [run, List.takeWhile_cons, hc]
      omega
theorem run_stop : ∀ (q : Int → Bool) (l : List Int), run q l < l.length → q (l.getD (run q l) 0) = false := by
  intro q l
  induction l with
  | nil => intro h; simp at h
  | cons c r ih =>
    intro h
    by_cases hc : q c = true
    · have e : run q (c :: r) = run q r + 1 := by simp [run, List.takeWhile_cons, hc]
      rw [e] at h ⊢
      have := ih (by simp at h; omega)
      simpa using this
    · have e : run q (c :: r) = 0 := by simp [run, List.takeWhile_cons, hc]
      rw [e]
      simpa using hc
/-- What the run is, by its two marks. -/
theorem run_is (q : Int → Bool) (l : List Int) (n : Nat) (h1 : ∀ k, k < n → k < l.length ∧ q (l.getD k 0) = true) (h2 : n < l.length → q (l.getD n 0) = false) : run q l = n := by
  rcases Nat.lt_trichotomy (run q l) n with h | h | h
  · have a := h1 _ h
    have b := run_stop q l a.1
    rw [a.2] at b; cases b
  · exact h
  · have a := run_lt q l _ h
    rw [h2 a.1] at a
    exact absurd a.2 (by simp)

/-- 'p' opens the text. -/
def pf (p l : List Int) : Bool := decide (l.take p.length = p)

/-- A bracket's end: does a definition open? -/
def brk : Bool → List Int → Bool
  | _, [] => false
  | true, _ :: r => brk false r
  | false, c :: r => if c = 92 then brk true r else if c = 91 then false else if c = 93 then decide (r.getD 0 0 = 58) else brk false r

/-- No backtick behind the first run of the line. -/
def tick (l : List Int) : Bool :=
  let ln := l.takeWhile (fun c => decide (c ≠ 10))
  decide (96 ∉ ln.drop (run (fun c => decide (c = 96)) ln))

def hidR (p : Nat) (r : List Int) : Int :=
  if pf [126, 126, 126] r then p
  else if pf [96, 96, 96] r then (if tick r then p else -1)
  else if pf [91] r then (if brk false (r.drop 1) then p else -1)
  else -1

/-- What 'hidingBlock' answers. -/
def hid (l : List Int) : Int := hidR (run isMk l) (l.drop (run isMk l))

/-- A fence opens the line. -/
def fence (l : List Int) : Bool :=
  decide (run (fun c => decide (c = 32)) l ≤ 3) && (pf [96, 96, 96] (l.drop (run (fun c => decide (c = 32)) l)) || pf [126, 126, 126] (l.drop (run (fun c => decide (c = 32)) l)))

end Go.Proofs.Qxb6605488a
