import Derived.Test.Qxb6606374aBase
namespace Go.Proofs.Qxb6606374a
open Go.RowKit
set_option linter.unusedVariables false

/-- Where the group ends that opens at 'p': its place in the whole text. -/
def tgt (T : List Int) (p : Nat) (f : Bool) : Option (Nat × Bool) := up (p + 1) (scan f 0 .out (T.drop (p + 1)))

theorem nes_end {T : List Int} {p p' k : Nat} {f : Bool} (h : up p' (scan f k .out (T.drop p')) = tgt T p f) (hp : T.length ≤ p') : tgt T p f = none := by
  rw [← h, List.drop_of_length_le hp]; rfl
theorem nes_q0 {T : List Int} {p p' k : Nat} {f : Bool} (h : up p' (scan f k .out (T.drop p')) = tgt T p f) (hp : p' < T.length) (hc : T.getD p' 0 = 34) (hl : lex false (T.drop (p' + 1)) = none) : tgt T p f = none := by
  rw [← h, drop_at T p' hp, hc, scan_quote, hl]; rfl
theorem nes_q1 {T : List Int} {p p' k n : Nat} (h : up p' (scan true k .out (T.drop p')) = tgt T p true) (hp : p' < T.length) (hc : T.getD p' 0 = 34) (hl : lex false (T.drop (p' + 1)) = some n) : tgt T p true = some (p' + 1 + n, true) := by
  rw [← h, drop_at T p' hp, hc, scan_quote, hl]
  simp [up]; omega
theorem nes_q2 {T : List Int} {p p' k n : Nat} (h : up p' (scan false k .out (T.drop p')) = tgt T p false) (hp : p' < T.length) (hc : T.getD p' 0 = 34) (hl : lex false (T.drop (p' + 1)) = some n) : up (p' + 1 + n) (scan false k .out (T.drop (p' + 1 + n))) = tgt T p false := by
  rw [← h, drop_at T p' hp, hc, scan_quote, hl]
  simp only [Bool.false_eq_true, if_false, up_up, List.drop_drop]
  congr 1
  omega
theorem nes_open {T : List Int} {p p' k : Nat} {f : Bool} (h : up p' (scan f k .out (T.drop p')) = tgt T p f) (hp : p' < T.length) (hc : isOpen (T.getD p' 0) = true) : up (p' + 1) (scan f (k + 1) .out (T.drop (p' + 1))) = tgt T p f := by
  rw [← h, drop_at T p' hp, scan_open _ _ _ _ hc, up_up]
  congr 1
  omega
theorem nes_close0 {T : List Int} {p p' : Nat} {f : Bool} (h : up p' (scan f 0 .out (T.drop p')) = tgt T p f) (hp : p' < T.length) (hc : isClose (T.getD p' 0) = true) : tgt T p f = some (p' + 1, false) := by
  rw [← h, drop_at T p' hp, scan_close0 _ _ _ hc, up_some]
  congr 2
  omega
theorem nes_close {T : List Int} {p p' k : Nat} {f : Bool} (h : up p' (scan f (k + 1) .out (T.drop p')) = tgt T p f) (hp : p' < T.length) (hc : isClose (T.getD p' 0) = true) : up (p' + 1) (scan f k .out (T.drop (p' + 1))) = tgt T p f := by
  rw [← h, drop_at T p' hp, scan_close _ _ _ _ hc, up_up]
  congr 1
  omega
theorem nes_plain {T : List Int} {p p' k : Nat} {f : Bool} (h : up p' (scan f k .out (T.drop p')) = tgt T p f) (hp : p' < T.length) (h1 : T.getD p' 0 ≠ 34) (h2 : isOpen (T.getD p' 0) = false) (h3 : isClose (T.getD p' 0) = false) : up (p' + 1) (scan f k .out (T.drop (p' + 1))) = tgt T p f := by
  rw [← h, drop_at T p' hp, scan_plain _ _ _ _ h1 h2 h3, up_up]
  congr 1
  omega

/-- How many bytes ahead are no delimiter. -/
def word (l : List Int) : Nat := (l.takeWhile (fun c => !isDl c)).length

theorem word_yes (T : List Int) (p : Nat) (h : p < T.length) (hs : isDl (T.getD p 0) = false) : word (T.drop p) = word (T.drop (p + 1)) + 1 := by
  rw [drop_at T p h]
  simp only [word, List.takeWhile_cons, hs, Bool.not_false, if_true, List.length_cons]
theorem word_no (T : List Int) (p : Nat) (h : p < T.length) (hs : isDl (T.getD p 0) = true) : word (T.drop p) = 0 := by
  rw [drop_at T p h]
  simp only [word, List.takeWhile_cons, hs, Bool.not_true]
  rfl
theorem word_end (T : List Int) (p : Nat) (h : T.length ≤ p) : word (T.drop p) = 0 := by
  rw [List.drop_of_length_le h]; rfl

/-- Where the value ends that begins at 'p' (no white space there), and the mark 'failed'. -/
def valEnd (T : List Int) (p : Nat) (f : Bool) : Nat × Bool :=
  if hd0 (T.drop p) = 0 then (T.length, true)
  else if hd0 (T.drop p) = 34 then
    match lex false (T.drop (p + 1)) with
    | none => (T.length, true)
    | some n => (p + 1 + n, f)
  else if isOpen (hd0 (T.drop p)) then
    match tgt T p f with
    | none => (T.length, true)
    | some (n, _) => (n, f)
  else if word (T.drop p) = 0 then (T.length, true)
  else (p + word (T.drop p), f)

/-- The text cut out. -/
def vout (g o cap p : Nat) (r : Nat × Bool) : Value := if r.2 then .slice none 0 0 else .slice (some ⟨g, o + p, none⟩) (r.1 - p) (cap - p)

theorem hd0_lt {T : List Int} {p : Nat} (h : hd0 (T.drop p) ≠ 0) : p < T.length := by
  rcases Nat.lt_or_ge p T.length with h1 | h1
  · exact h1
  · rw [hd0_end T p h1] at h; exact absurd rfl h

theorem tgt_le {T : List Int} {p n : Nat} {f z : Bool} (h : tgt T p f = some (n, z)) (hp : p < T.length) : p + 1 < n ∧ n ≤ T.length := by
  unfold tgt at h
  cases hx : scan f 0 .out (T.drop (p + 1)) with
  | none => rw [hx] at h; simp [up] at h
  | some q =>
    obtain ⟨m, z'⟩ := q
    have := scan_le _ _ _ _ _ _ hx
    rw [List.length_drop] at this
    rw [hx, up_some] at h
    simp at h
    omega
end Go.Proofs.Qxb6606374a
