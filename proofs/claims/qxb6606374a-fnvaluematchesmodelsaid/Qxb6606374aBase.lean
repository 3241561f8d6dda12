import Derived.Test.Qxb6606374aPl
import Derived.Test.Qxb6606374aProg
import Derived.WalkKit
import Derived.WalkSpells
import Derived.WalkLawsBesides
import Derived.Laws.CopyOwn
import Derived.Lib.BufferWrite
import Derived.Deep.RegionHeld3
namespace Go.Proofs.Qxb6606374a
open Go.RowKit
set_option linter.unusedVariables false

/-- The world has turned in the blocks of S alone; blocks may have been added. -/
structure Kept (S : List Nat) (w w' : World) : Prop where
  os : w'.os = w.os
  tape : w'.tape = w.tape
  output : w'.output = w.output
  size : w.heap.size ≤ w'.heap.size
  block : ∀ k, k < w.heap.size → k ∉ S → w'.heap[k]? = w.heap[k]?

theorem Kept.refl (S : List Nat) (w : World) : Kept S w w := ⟨rfl, rfl, rfl, Nat.le_refl _, fun _ _ _ => rfl⟩
theorem Kept.trans {S : List Nat} {a b c : World} (h : Kept S a b) (k : Kept S b c) : Kept S a c :=
  ⟨k.os.trans h.os, k.tape.trans h.tape, k.output.trans h.output, Nat.le_trans h.size k.size, fun i hi hs => (k.block i (Nat.lt_of_lt_of_le hi h.size) hs).trans (h.block i hi hs)⟩
theorem Kept.mono {S T : List Nat} {w w' : World} (h : Kept S w w') (hs : ∀ k, k ∈ S → k ∈ T) : Kept T w w' :=
  ⟨h.os, h.tape, h.output, h.size, fun k hk hn => h.block k hk (fun e => hn (hs k e))⟩
/-- The blocks that are new may be written too. -/
theorem Kept.trans_new {S T : List Nat} {a b c : World} (h : Kept S a b) (k : Kept T b c) (hT : ∀ i, i ∈ T → i ∈ S ∨ a.heap.size ≤ i) : Kept S a c :=
  ⟨k.os.trans h.os, k.tape.trans h.tape, k.output.trans h.output, Nat.le_trans h.size k.size, fun i hi hs => (k.block i (Nat.lt_of_lt_of_le hi h.size) (fun e => by rcases hT i e with h1 | h1; exact hs h1; omega)).trans (h.block i hi hs)⟩
theorem Kept.drew {S : List Nat} {a w : World} (h : Kept S a w) : Kept S a w.drew := ⟨h.os, h.tape, h.output, h.size, h.block⟩
theorem Kept.drewN {S : List Nat} {a w : World} (h : Kept S a w) (n : Nat) : Kept S a (w.drewN n) := ⟨h.os, h.tape, h.output, h.size, h.block⟩
theorem Kept.alloc {S : List Nat} {a w : World} (h : Kept S a w) (o : Obj) : Kept S a (w.alloc o) :=
  h.trans ⟨rfl, rfl, rfl, by simp, fun k hk _ => Below.heap_alloc _ _ _ (by omega)⟩
theorem Kept.setCell {S : List Nat} {a w : World} (h : Kept S a w) {p : Addr} (hp : p.block ∈ S) (u : Value) : Kept S a (w.setCell p u) :=
  h.trans ⟨rfl, rfl, rfl, by simp [World.setCell], fun k _ hs => Below.heap_setCell _ _ _ _ (fun e => hs (e ▸ hp))⟩
theorem Kept.below {S : List Nat} {w w' : World} (h : Kept S w w') {B : Nat} (hB : B ≤ w.heap.size) (hS : ∀ k, k ∈ S → B ≤ k) : Below B w w' :=
  ⟨h.os, h.tape, h.output, h.size, fun k hk => h.block k (by omega) (fun e => by have := hS k e; omega)⟩
theorem Kept.ofBelow {w w' : World} (h : Below w.heap.size w w') (S : List Nat) : Kept S w w' := ⟨h.os, h.tape, h.output, h.size, fun k hk _ => h.block k hk⟩
theorem Kept.at {S : List Nat} {w w' : World} (h : Kept S w w') {k : Nat} {o : Obj} (hk : w.heap[k]? = some o) (hs : k ∉ S) : w'.heap[k]? = some o := by
  rw [h.block k (Array.getElem?_eq_some_iff.1 hk).1 hs]; exact hk
theorem Kept.cell {S : List Nat} {w w' : World} (h : Kept S w w') {b : Nat} (hb : b < w.heap.size) (hs : b ∉ S) (i : Nat) : w'.cell? ⟨b, i, none⟩ = w.cell? ⟨b, i, none⟩ :=
  World.cell?_of_block (w := w) (h.block b hb hs)

theorem cell_of {w : World} {b i : Nat} {cs : Array Value} {t : TypeId} {f : Nat × Nat} {v : Value} (h : w.heap[b]? = some (.cells cs t f)) (hv : cs[i]? = some v) : w.cell? ⟨b, i, none⟩ = some v := by
  simp [World.cell?, h, hv]
theorem frozen_of {w : World} {b : Nat} {cs : Array Value} {t : TypeId} (h : w.heap[b]? = some (.cells cs t (0, 0))) (i : Nat) : w.frozen? ⟨b, i, none⟩ = false := by
  simp [World.frozen?, h]
theorem lt_of {w : World} {b : Nat} {o : Obj} (h : w.heap[b]? = some o) : b < w.heap.size := (Array.getElem?_eq_some_iff.1 h).1
theorem wr64 (x : Int) (h1 : -9223372036854775808 ≤ x) (h2 : x ≤ 9223372036854775807) : IntKind.i64.wrap x = x := by rw [IntKind.wrap_i64]; omega

/-- A row of bytes. -/
def Rw (w : World) (g o : Nat) (T : List Int) : Prop := ∀ i, i < T.length → w.cell? ⟨g, o + i, none⟩ = some (.int .u8 (T.getD i 0))

theorem Rw.lt {w : World} {g o : Nat} {T : List Int} (h : Rw w g o T) (h0 : 0 < T.length) : g < w.heap.size := by
  have := h 0 h0
  rcases Nat.lt_or_ge g w.heap.size with h1 | h1
  · exact h1
  · simp [World.cell?, Array.getElem?_eq_none h1] at this

theorem Rw.kept {S : List Nat} {w w' : World} {g o : Nat} {T : List Int} (h : Rw w g o T) (hk : Kept S w w') (hs : g ∉ S) : Rw w' g o T := by
  intro i hi
  rw [hk.cell (h.lt (by omega)) hs]
  exact h i hi

theorem Rw.sub {w : World} {g o : Nat} {T : List Int} (h : Rw w g o T) (p n : Nat) : Rw w g (o + p) ((T.drop p).take n) := by
  intro i hi
  have hi' : i < n ∧ p + i < T.length := by simp at hi; omega
  have e : ((T.drop p).take n).getD i 0 = T.getD (p + i) 0 := by
    simp [List.getD, hi'.1]
  rw [e, Nat.add_assoc]
  exact h _ hi'.2

/-- The cells of a walk. -/
def wkc (tv : Value) (p : Nat) (f : Bool) : Array Value := #[tv, .int .i64 p, .bool f]

/-- The walk's block. -/
def Wk (w : World) (b : Nat) (tv : Value) (p : Nat) (f : Bool) : Prop := w.heap[b]? = some (.cells (wkc tv p f) 35 (0, 0))

theorem Wk.facts {w : World} {b : Nat} {tv : Value} {p : Nat} {f : Bool} (h : Wk w b tv p f) :
    w.cell? ⟨b, 0, none⟩ = some tv ∧ w.cell? ⟨b, 1, none⟩ = some (.int .i64 p) ∧ w.cell? ⟨b, 2, none⟩ = some (.bool f) ∧ (∀ i, w.frozen? ⟨b, i, none⟩ = false) :=
  ⟨cell_of h rfl, cell_of h rfl, cell_of h rfl, frozen_of h⟩

theorem Wk.set1 {w : World} {b : Nat} {tv : Value} {p : Nat} {f : Bool} (h : Wk w b tv p f) (q : Nat) : Wk (w.setCell ⟨b, 1, none⟩ (.int .i64 q)) b tv q f := Lib.heap_setCell_same (i := 1) h _
theorem Wk.set2 {w : World} {b : Nat} {tv : Value} {p : Nat} {f : Bool} (h : Wk w b tv p f) (q : Bool) : Wk (w.setCell ⟨b, 2, none⟩ (.bool q)) b tv p q := Lib.heap_setCell_same (i := 2) h _
theorem Wk.drew {w : World} {b : Nat} {tv : Value} {p : Nat} {f : Bool} (h : Wk w b tv p f) : Wk w.drew b tv p f := h

/-- White space ahead. -/
def sp (l : List Int) : Nat := (l.takeWhile isSp).length
def skip (T : List Int) (p : Nat) : Nat := p + sp (T.drop p)
def hd0 : List Int → Int
  | [] => 0
  | c :: _ => c

theorem drop_at (T : List Int) (p : Nat) (h : p < T.length) : T.drop p = T.getD p 0 :: T.drop (p + 1) := by
  rw [List.drop_eq_getElem_cons h]
  simp [List.getD, h]

theorem skip_yes (T : List Int) (p : Nat) (h : p < T.length) (hs : isSp (T.getD p 0) = true) : skip T p = skip T (p + 1) := by
  unfold skip
  rw [drop_at T p h]
  simp only [sp, List.takeWhile_cons, hs, if_true, List.length_cons]
  omega
theorem skip_no (T : List Int) (p : Nat) (h : p < T.length) (hs : isSp (T.getD p 0) = false) : skip T p = p := by
  unfold skip
  rw [drop_at T p h]
  simp only [sp, List.takeWhile_cons, hs]
  rfl
theorem skip_end (T : List Int) (p : Nat) (h : T.length ≤ p) : skip T p = p := by
  unfold skip
  rw [List.drop_of_length_le h]
  simp [sp]
theorem hd0_at (T : List Int) (p : Nat) (h : p < T.length) : hd0 (T.drop p) = T.getD p 0 := by rw [drop_at T p h]; rfl
theorem hd0_end (T : List Int) (p : Nat) (h : T.length ≤ p) : hd0 (T.drop p) = 0 := by rw [List.drop_of_length_le h]; rfl
end Go.Proofs.Qxb6606374a
