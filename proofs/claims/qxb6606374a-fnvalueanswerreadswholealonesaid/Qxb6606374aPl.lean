/-
  THE PLAIN LAWS, no Go in sight: a JSON string's end by a lexer of two states; a group's end by one machine; their laws.
-/
import Derived.Lib.SmallJoins
namespace Go.Proofs.Qxb6606374a
set_option linter.unusedVariables false
set_option linter.unusedSimpArgs false

/-- How many bytes of 's' the string takes whose opening quote lies just ahead of 's' ('t': the next byte is taken). -/
def lex : Bool → List Int → Option Nat
  | _, [] => none
  | true, _ :: r => (lex false r).map (· + 1)
  | false, c :: r => if c = 92 then (lex true r).map (· + 1) else if c = 34 then some 1 else (lex false r).map (· + 1)

theorem lex_le : ∀ (s : List Int) (t : Bool) (n : Nat), lex t s = some n → 1 ≤ n ∧ n ≤ s.length := by
  intro s
  induction s with
  | nil => intro t n h; cases t <;> simp [lex] at h
  | cons c r ih =>
    intro t n h
    cases t with
    | true =>
      simp only [lex, Option.map_eq_some_iff] at h
      obtain ⟨m, hm, rfl⟩ := h
      have := ih _ _ hm
      simp only [List.length_cons]; omega
    | false =>
      simp only [lex] at h
      by_cases h1 : c = 92
      · rw [if_pos h1] at h
        simp only [Option.map_eq_some_iff] at h
        obtain ⟨m, hm, rfl⟩ := h
        have := ih _ _ hm
        simp only [List.length_cons]; omega
      · rw [if_neg h1] at h
        by_cases h2 : c = 34
        · rw [if_pos h2] at h
          cases h
          simp only [List.length_cons]; omega
        · rw [if_neg h2] at h
          simp only [Option.map_eq_some_iff] at h
          obtain ⟨m, hm, rfl⟩ := h
          have := ih _ _ hm
          simp only [List.length_cons]; omega

/-- Read over its own bytes alone, the string ends where it ended. -/
theorem lex_take : ∀ (s : List Int) (t : Bool) (n : Nat), lex t s = some n → lex t (s.take n) = some n := by
  intro s
  induction s with
  | nil => intro t n h; cases t <;> simp [lex] at h
  | cons c r ih =>
    intro t n h
    cases t with
    | true =>
      simp only [lex, Option.map_eq_some_iff] at h
      obtain ⟨m, hm, rfl⟩ := h
      simp [List.take_succ_cons, lex, ih _ _ hm]
    | false =>
      simp only [lex] at h
      by_cases h1 : c = 92
      · rw [if_pos h1] at h
        simp only [Option.map_eq_some_iff] at h
        obtain ⟨m, hm, rfl⟩ := h
        simp [List.take_succ_cons, lex, h1, ih _ _ hm]
      · rw [if_neg h1] at h
        by_cases h2 : c = 34
        · rw [if_pos h2] at h
          cases h
          simp [List.take_succ_cons, lex, h1, h2]
        · rw [if_neg h2] at h
          simp only [Option.map_eq_some_iff] at h
          obtain ⟨m, hm, rfl⟩ := h
          simp [List.take_succ_cons, lex, h1, h2, ih _ _ hm]

/-- The lexer's state behind bytes that hold no quote. -/
def st : Bool → List Int → Bool
  | t, [] => t
  | true, _ :: r => st false r
  | false, c :: r => st (decide (c = 92)) r

theorem lex_app : ∀ (a : List Int) (t : Bool) (b : List Int), (∀ c ∈ a, c ≠ 34) → lex t (a ++ b) = (lex (st t a) b).map (· + a.length) := by
  intro a
  induction a with
  | nil => intro t b _; cases t <;> simp [st]
  | cons c r ih =>
    intro t b h
    have hr : ∀ c ∈ r, c ≠ 34 := fun x hx => h x (by simp [hx])
    have hc : c ≠ 34 := h c (by simp)
    cases t with
    | true =>
      simp only [List.cons_append, lex, st, ih _ _ hr, Option.map_map, List.length_cons]
      rfl
    | false =>
      simp only [List.cons_append, lex, st, List.length_cons]
      by_cases h1 : c = 92
      · simp only [h1, if_true, ih _ _ hr, Option.map_map, decide_true]
        rfl
      · simp only [h1, hc, if_false, ih _ _ hr, Option.map_map, decide_false]
        rfl

theorem st_snoc : ∀ (a : List Int) (t : Bool) (c : Int), st t (a ++ [c]) = (!(st t a) && decide (c = 92)) := by
  intro a
  induction a with
  | nil => intro t c; cases t <;> simp [st]
  | cons x r ih =>
    intro t c
    cases t with
    | true => simp only [List.cons_append, st, ih]
    | false => simp only [List.cons_append, st, ih]

/-- How many backslashes end 'a'. -/
def trail (a : List Int) : Nat := (a.reverse.takeWhile (fun c => decide (c = 92))).length

theorem trail_nil : trail [] = 0 := rfl

theorem trail_snoc (a : List Int) (c : Int) : trail (a ++ [c]) = if c = 92 then trail a + 1 else 0 := by
  simp only [trail, List.reverse_append, List.reverse_cons, List.reverse_nil, List.nil_append, List.singleton_append, List.takeWhile_cons]
  by_cases h : c = 92
  · simp [h]
  · simp [h]

theorem st_trail (a : List Int) : st false a = decide (trail a % 2 = 1) := by
  suffices H : ∀ (n : Nat) (a : List Int), a.length = n → st false a = decide (trail a % 2 = 1) from H _ a rfl
  intro n
  induction n with
  | zero => intro a h; cases a <;> simp_all [st, trail]
  | succ n ih =>
    intro a h
    obtain ⟨b, c, rfl⟩ : ∃ b c, a = b ++ [c] := by
      rcases List.eq_nil_or_concat a with rfl | ⟨b, c, e⟩
      · simp at h
      · exact ⟨b, c, by simpa using e⟩
    have hb := ih b (by simp at h; omega)
    rw [st_snoc, hb, trail_snoc]
    by_cases hc : c = 92
    · simp only [hc, if_true, decide_true, Bool.and_true]
      by_cases h2 : trail b % 2 = 1
      · simp [h2]; omega
      · simp [h2]; omega
    · simp [hc]

/-- One candidate of 'str': the first quote behind 'a', with as many backslashes ahead of it as 'a' ends in. -/
theorem lex_quote (a r : List Int) (h : ∀ c ∈ a, c ≠ 34) :
    lex false (a ++ 34 :: r) = if trail a % 2 = 0 then some (a.length + 1) else (lex false r).map (· + (a.length + 1)) := by
  rw [lex_app a false _ h, st_trail]
  by_cases h2 : trail a % 2 = 0
  · have : ¬ trail a % 2 = 1 := by omega
    simp [h2, this, lex]; omega
  · have : trail a % 2 = 1 := by omega
    simp only [this, decide_true, lex, Option.map_map]
    simp
    congr 1
    funext x
    simp; omega

theorem lex_noquote (a : List Int) (t : Bool) (h : ∀ c ∈ a, c ≠ 34) : lex t a = none := by
  have := lex_app a t [] h
  simp only [List.append_nil] at this
  rw [this]; cases st t a <;> simp [lex]

/-- Brackets. -/
def isOpen (c : Int) : Bool := decide (c = 123) || decide (c = 91)
def isClose (c : Int) : Bool := decide (c = 125) || decide (c = 93)
def isSp (c : Int) : Bool := decide (c = 32) || decide (c = 9) || decide (c = 13) || decide (c = 10)
def isDl (c : Int) : Bool := decide (c = 44) || decide (c = 58) || decide (c = 93) || decide (c = 125) || isSp c

/-- The machine of groups. 'k': groups that stand open around the innermost one; 'm': outside a string, in one, in one with the next byte taken. It gives the bytes taken, and whether it stopped behind a string ('stop'). -/
inductive Md | out | str | tak
def up (n : Nat) (x : Option (Nat × Bool)) : Option (Nat × Bool) := x.map fun p => (p.1 + n, p.2)

def scan (stop : Bool) : Nat → Md → List Int → Option (Nat × Bool)
  | _, _, [] => none
  | k, .tak, _ :: r => up 1 (scan stop k .str r)
  | k, .str, c :: r => if c = 92 then up 1 (scan stop k .tak r) else if c = 34 then (if stop then some (1, true) else up 1 (scan stop k .out r)) else up 1 (scan stop k .str r)
  | k, .out, c :: r => if c = 34 then up 1 (scan stop k .str r) else if isOpen c then up 1 (scan stop (k + 1) .out r) else if isClose c then (match k with | 0 => some (1, false) | k + 1 => up 1 (scan stop k .out r)) else up 1 (scan stop k .out r)

theorem up_up (a b : Nat) (x : Option (Nat × Bool)) : up a (up b x) = up (b + a) x := by
  cases x with
  | none => rfl
  | some p => simp [up]; omega

theorem up_none (a : Nat) : up a none = none := rfl
theorem up_some (a n : Nat) (b : Bool) : up a (some (n, b)) = some (n + a, b) := rfl
theorem up_zero (x : Option (Nat × Bool)) : up 0 x = x := by cases x <;> rfl

/-- Inside a string the machine does what the lexer does. -/
theorem scan_str (stop : Bool) : ∀ (s : List Int) (t : Bool) (k : Nat), scan stop k (if t then .tak else .str) s =
    match lex t s with
    | none => none
    | some n => if stop then some (n, true) else up n (scan stop k .out (s.drop n)) := by
  intro s
  induction s with
  | nil => intro t k; cases t <;> simp [scan, lex]
  | cons c r ih =>
    intro t k
    cases t with
    | true =>
      have h := ih false k
      simp only [Bool.false_eq_true, if_false] at h
      simp only [if_true, scan, lex, h]
      cases hl : lex false r with
      | none => simp [up]
      | some n =>
        cases stop
        · simp [up_up]
        · simp [up_some]
    | false =>
      simp only [Bool.false_eq_true, if_false, scan, lex]
      by_cases h1 : c = 92
      · have h := ih true k
        simp only [if_true] at h
        simp only [h1, if_true, h]
        cases hl : lex true r with
        | none => simp [up]
        | some n =>
          cases stop
          · simp [up_up]
          · simp [up_some]
      · by_cases h2 : c = 34
        · simp only [h1, h2, if_true, if_false]
          cases stop <;> simp [h2]
        · have h := ih false k
          simp only [Bool.false_eq_true, if_false] at h
          simp only [h1, h2, if_false, h]
          cases hl : lex false r with
          | none => simp [up]
          | some n =>
            cases stop
            · simp [up_up]
            · simp [up_some]

theorem scan_quote (stop : Bool) (k : Nat) (r : List Int) : scan stop k .out (34 :: r) =
    match lex false r with
    | none => none
    | some n => if stop then some (n + 1, true) else up (n + 1) (scan stop k .out (r.drop n)) := by
  have h := scan_str stop r false k
  simp only [Bool.false_eq_true, if_false] at h
  simp only [scan, if_true, h]
  cases lex false r with
  | none => rfl
  | some n =>
    cases stop
    · simp [up_up]
    · simp [up_some]

theorem scan_open (stop : Bool) (k : Nat) (c : Int) (r : List Int) (h : isOpen c = true) : scan stop k .out (c :: r) = up 1 (scan stop (k + 1) .out r) := by
  have h1 : c ≠ 34 := by rintro rfl; simp [isOpen] at h
  simp [scan, h1, h]

theorem scan_close0 (stop : Bool) (c : Int) (r : List Int) (h : isClose c = true) : scan stop 0 .out (c :: r) = some (1, false) := by
  have h1 : c ≠ 34 := by rintro rfl; simp [isClose] at h
  have h2 : isOpen c = false := by
    simp only [isClose, Bool.or_eq_true, decide_eq_true_eq] at h
    rcases h with rfl | rfl <;> rfl
  simp [scan, h1, h2, h]

theorem scan_close (stop : Bool) (k : Nat) (c : Int) (r : List Int) (h : isClose c = true) : scan stop (k + 1) .out (c :: r) = up 1 (scan stop k .out r) := by
  have h1 : c ≠ 34 := by rintro rfl; simp [isClose] at h
  have h2 : isOpen c = false := by
    simp only [isClose, Bool.or_eq_true, decide_eq_true_eq] at h
    rcases h with rfl | rfl <;> rfl
  simp [scan, h1, h2, h]

theorem scan_plain (stop : Bool) (k : Nat) (c : Int) (r : List Int) (h1 : c ≠ 34) (h2 : isOpen c = false) (h3 : isClose c = false) : scan stop k .out (c :: r) = up 1 (scan stop k .out r) := by
  simp [scan, h1, h2, h3]

/-- What goes on behind a group that has closed. -/
def thn (x : Option (Nat × Bool)) (f : Nat → Option (Nat × Bool)) : Option (Nat × Bool) :=
  match x with
  | none => none
  | some (n, true) => some (n, true)
  | some (n, false) => up n (f n)

theorem thn_up (n : Nat) (x : Option (Nat × Bool)) (f g : Nat → Option (Nat × Bool)) (h : ∀ m, g (m + n) = f m) : thn (up n x) g = up n (thn x f) := by
  rcases x with _ | ⟨m, _ | _⟩
  · rfl
  · simp [up_some, thn, h, up_up]
  · rfl

/-- A group within groups: first the inner one, then, behind it, the rest. -/
theorem scan_nest (stop : Bool) : ∀ (s : List Int) (m : Md) (a b : Nat), scan stop (a + 1 + b) m s = thn (scan stop a m s) (fun n => scan stop b .out (s.drop n)) := by
  intro s
  induction s with
  | nil => intro m a b; cases m <;> simp [scan, thn]
  | cons c r ih =>
    intro m a b
    have step : ∀ (m' : Md) (a' : Nat), up 1 (scan stop (a' + 1 + b) m' r) = thn (up 1 (scan stop a' m' r)) (fun n => scan stop b .out ((c :: r).drop n)) := by
      intro m' a'
      rw [thn_up 1 _ (fun n => scan stop b .out (r.drop n)) _ (fun n => by simp), ih m' a' b]
    cases m with
    | tak => simp only [scan]; exact step .str a
    | str =>
      simp only [scan]
      by_cases h1 : c = 92
      · simp only [h1, if_true]; subst h1; exact step .tak a
      · by_cases h2 : c = 34
        · subst h2
          simp only [h1, if_true, if_false]
          cases stop
          · simp only [Bool.false_eq_true, if_false]; exact step .out a
          · simp [thn]
        · simp only [h1, h2, if_false]; exact step .str a
    | out =>
      simp only [scan]
      by_cases h1 : c = 34
      · subst h1; simp only [if_true]; exact step .str a
      · simp only [h1, if_false]
        by_cases h2 : isOpen c = true
        · simp only [h2, if_true]
          have e : a + 1 + b + 1 = (a + 1) + 1 + b := by omega
          rw [e]; exact step .out (a + 1)
        · simp only [h2, if_false, Bool.false_eq_true]
          by_cases h3 : isClose c = true
          · simp only [h3, if_true]
            cases a with
            | zero =>
              have e : 0 + 1 + b = b + 1 := by omega
              rw [e]
              simp [thn]
            | succ a =>
              have e : a + 1 + 1 + b = (a + 1 + b) + 1 := by omega
              rw [e]
              exact step .out a
          · simp only [h3, if_false, Bool.false_eq_true]; exact step .out a

theorem scan_le (stop : Bool) : ∀ (s : List Int) (m : Md) (k n : Nat) (z : Bool), scan stop k m s = some (n, z) → 1 ≤ n ∧ n ≤ s.length := by
  intro s
  induction s with
  | nil => intro m k n z h; cases m <;> simp [scan] at h
  | cons c r ih =>
    intro m k n z h
    have step : ∀ (m' : Md) (k' : Nat), up 1 (scan stop k' m' r) = some (n, z) → 1 ≤ n ∧ n ≤ (c :: r).length := by
      intro m' k' h'
      cases hx : scan stop k' m' r with
      | none => rw [hx] at h'; simp [up] at h'
      | some p =>
        obtain ⟨n', z'⟩ := p
        rw [hx, up_some] at h'
        have := ih _ _ _ _ hx
        simp at h'
        simp only [List.length_cons]; omega
    cases m with
    | tak => exact step .str k h
    | str =>
      simp only [scan] at h
      split at h
      · exact step _ _ h
      · split at h
        · split at h
          · simp at h; simp only [List.length_cons]; omega
          · exact step _ _ h
        · exact step _ _ h
    | out =>
      simp only [scan] at h
      split at h
      · exact step _ _ h
      · split at h
        · exact step _ _ h
        · split at h
          · cases k with
            | zero => simp at h; simp only [List.length_cons]; omega
            | succ k => exact step _ _ h
          · exact step _ _ h

theorem scan_take (stop : Bool) : ∀ (s : List Int) (m : Md) (k n : Nat) (z : Bool), scan stop k m s = some (n, z) → scan stop k m (s.take n) = some (n, z) := by
  intro s
  induction s with
  | nil => intro m k n z h; cases m <;> simp [scan] at h
  | cons c r ih =>
    intro m k n z h
    have n1 := (scan_le stop _ _ _ _ _ h).1
    obtain ⟨n, rfl⟩ : ∃ n', n = n' + 1 := ⟨n - 1, by omega⟩
    have step : ∀ (m' : Md) (k' : Nat), up 1 (scan stop k' m' r) = some (n + 1, z) → up 1 (scan stop k' m' (r.take n)) = some (n + 1, z) := by
      intro m' k' h'
      cases hx : scan stop k' m' r with
      | none => rw [hx] at h'; simp [up] at h'
      | some p =>
        obtain ⟨n', z'⟩ := p
        rw [hx, up_some] at h'
        simp at h'
        obtain ⟨rfl, rfl⟩ := h'
        rw [ih _ _ _ _ hx, up_some]
    rw [List.take_succ_cons]
    cases m with
    | tak => exact step .str k h
    | str =>
      simp only [scan] at h ⊢
      split at h
      · rename_i h1; rw [if_pos h1]; exact step _ _ h
      · rename_i h1
        rw [if_neg h1]
        split at h
        · rename_i h2
          rw [if_pos h2]
          split at h
          · rename_i h3; rw [if_pos h3]; exact h
          · rename_i h3; rw [if_neg h3]; exact step _ _ h
        · rename_i h2; rw [if_neg h2]; exact step _ _ h
    | out =>
      simp only [scan] at h ⊢
      split at h
      · rename_i h1; rw [if_pos h1]; exact step _ _ h
      · rename_i h1
        rw [if_neg h1]
        split at h
        · rename_i h2; rw [if_pos h2]; exact step _ _ h
        · rename_i h2
          rw [if_neg h2]
          split at h
          · rename_i h3
            rw [if_pos h3]
            cases k with
            | zero => exact h
            | succ k => exact step _ _ h
          · rename_i h3; rw [if_neg h3]; exact step _ _ h
end Go.Proofs.Qxb6606374a
