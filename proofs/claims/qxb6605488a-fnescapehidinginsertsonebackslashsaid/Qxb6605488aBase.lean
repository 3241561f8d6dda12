import Derived.Test.Qxb6605488aPl
import Derived.Test.Qxb6605488aShelf
import Derived.WalkKit
import Derived.WalkSpells
import Derived.WalkLawsBesides
import Derived.Laws.CopyOwn
import Derived.Lib.BufferWrite
import Derived.Deep.RegionHeld3
import Derived.Deep.LoopGhost
import Derived.Deep.DeepCutAuto
import Derived.OwnWalk
import Derived.BigQuiet
namespace Go.Proofs.Qxb6605488a
open Go.RowKit
set_option linter.unusedVariables false

/-- The world has turned in the blocks of S alone; blocks may have been added. -/
structure Kept (S : List Nat) (w w' : World) : Prop where
  os : w'.os = w.os
  tape : w'.tape = w.tape
  output : w'.output = w.output
  size : w.heap.size ≤ w'.heap.size
  block : ∀ k, k < w.heap.size → k ∉ S → w'.heap[k]? = w.heap[k]?

theorem Kept.refl (S : List Nat) (w : World) : Kept S w w := ⟨rfl, rfl, rfl, Nat.le_refl _, fun _ _ _ => rfl⟩
theorem Kept.trans {S : List Nat} {a b c : World} (h : Kept S a b) (k : Kept S b c) : Kept S a c :=
  ⟨k.os.trans h.os, k.tape.trans h.tape, k.output.trans h.output, Nat.le_trans h.size k.size, fun i hi hs => (k.block i (Nat.lt_of_lt_of_le hi h.size) hs).trans (h.block i hi hs)⟩
theorem Kept.mono {S T : List Nat} {w w' : World} (h : Kept S w w') (hs : ∀ k, k ∈ S → k ∈ T) : Kept T w w' :=
  ⟨h.os, h.tape, h.output, h.size, fun k hk hn => h.block k hk (fun e => hn (hs k e))⟩
/-- The blocks that are new may be written too. -/
theorem Kept.trans_new {S T : List Nat} {a b c : World} (h : Kept S a b) (k : Kept T b c) (hT : ∀ i, i ∈ T → i ∈ S ∨ a.heap.size ≤ i) : Kept S a c :=
  ⟨k.os.trans h.os, k.tape.trans h.tape, k.output.trans h.output, Nat.le_trans h.size k.size, fun i hi hs => (k.block i (Nat.lt_of_lt_of_le hi h.size) (fun e => by rcases hT i e with h1 | h1; exact hs h1; omega)).trans (h.block i hi hs)⟩
theorem Kept.drew {S : List Nat} {a w : World} (h : Kept S a w) : Kept S a w.drew := ⟨h.os, h.tape, h.output, h.size, h.block⟩
theorem Kept.drewN {S : List Nat} {a w : World} (h : Kept S a w) (n : Nat) : Kept S a (w.drewN n) := ⟨h.os, h.tape, h.output, h.size, h.block⟩
theorem Kept.alloc {S : List Nat} {a w : World} (h : Kept S a w) (o : Obj) : Kept S a (w.alloc o) :=
  h.trans ⟨rfl, rfl, rfl, by simp, fun k hk _ => Below.heap_alloc _ _ _ (by omega)⟩
theorem Kept.setCell {S : List Nat} {a w : World} (h : Kept S a w) {p : Addr} (hp : p.block ∈ S) (u : Value) : Kept S a (w.setCell p u) :=
  h.trans ⟨rfl, rfl, rfl, by simp [World.setCell], fun k _ hs => Below.heap_setCell _ _ _ _ (fun e => hs (e ▸ hp))⟩
theorem Kept.below {S : List Nat} {w w' : World} (h : Kept S w w') {B : Nat} (hB : B ≤ w.heap.size) (hS : ∀ k, k ∈ S → B ≤ k) : Below B w w' :=
  ⟨h.os, h.tape, h.output, h.size, fun k hk => h.block k (by omega) (fun e => by have := hS k e; omega)⟩
theorem Kept.ofBelow {w w' : World} (h : Below w.heap.size w w') (S : List Nat) : Kept S w w' := ⟨h.os, h.tape, h.output, h.size, fun k hk _ => h.block k hk⟩
theorem Kept.at {S : List Nat} {w w' : World} (h : Kept S w w') {k : Nat} {o : Obj} (hk : w.heap[k]? = some o) (hs : k ∉ S) : w'.heap[k]? = some o := by
  rw [h.block k (Array.getElem?_eq_some_iff.1 hk).1 hs]; exact hk
theorem Kept.cell {S : List Nat} {w w' : World} (h : Kept S w w') {b : Nat} (hb : b < w.heap.size) (hs : b ∉ S) (i : Nat) : w'.cell? ⟨b, i, none⟩ = w.cell? ⟨b, i, none⟩ :=
  World.cell?_of_block (w := w) (h.block b hb hs)

theorem cell_of {w : World} {b i : Nat} {cs : Array Value} {t : TypeId} {f : Nat × Nat} {v : Value} (h : w.heap[b]? = some (.cells cs t f)) (hv : cs[i]? = some v) : w.cell? ⟨b, i, none⟩ = some v := by
  simp [World.cell?, h, hv]
theorem frozen_of {w : World} {b : Nat} {cs : Array Value} {t : TypeId} (h : w.heap[b]? = some (.cells cs t (0, 0))) (i : Nat) : w.frozen? ⟨b, i, none⟩ = false := by
  simp [World.frozen?, h]
theorem lt_of {w : World} {b : Nat} {o : Obj} (h : w.heap[b]? = some o) : b < w.heap.size := (Array.getElem?_eq_some_iff.1 h).1
theorem wr64 (x : Int) (h1 : -9223372036854775808 ≤ x) (h2 : x ≤ 9223372036854775807) : IntKind.i64.wrap x = x := by rw [IntKind.wrap_i64]; omega


/-- The library's one cell. -/
def Zc (w : World) : Prop := ∃ m : Int, w.cell? ⟨0, 0, none⟩ = some (.int .i64 m)
theorem Zc.lt {w : World} (h : Zc w) : 0 < w.heap.size := by
  obtain ⟨m, hm⟩ := h
  rcases Nat.lt_or_ge 0 w.heap.size with h | h
  · exact h
  · simp [World.cell?, Array.getElem?_eq_none h] at hm
theorem Zc.kept {S : List Nat} {w w' : World} (h : Zc w) (hk : Kept S w w') (hs : 0 ∉ S) : Zc w' := by
  have h0 := h.lt
  obtain ⟨m, hm⟩ := h
  exact ⟨m, by rw [hk.cell h0 hs]; exact hm⟩
end Go.Proofs.Qxb6605488a
