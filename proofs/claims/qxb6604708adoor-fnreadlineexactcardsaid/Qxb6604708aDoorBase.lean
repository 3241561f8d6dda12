import Derived.WalkKit
import Derived.WalkSpells
import Derived.WalkLawsBesides
import Derived.Laws.CopyOwn
import Derived.Lib.BufferWrite
import Derived.Deep.RegionHeld3
namespace Go.Proofs.Qxb6604708aDoor
open Go.RowKit

/-- The world has turned in the blocks of S alone; blocks may have been added. -/
structure Kept (S : List Nat) (w w' : World) : Prop where
  os : w'.os = w.os
  tape : w'.tape = w.tape
  output : w'.output = w.output
  size : w.heap.size ≤ w'.heap.size
  block : ∀ k, k < w.heap.size → k ∉ S → w'.heap[k]? = w.heap[k]?

theorem Kept.refl (S : List Nat) (w : World) : Kept S w w := ⟨rfl, rfl, rfl, Nat.le_refl _, fun _ _ _ => rfl⟩
theorem Kept.trans {S : List Nat} {a b c : World} (h : Kept S a b) (k : Kept S b c) : Kept S a c :=
  ⟨k.os.trans h.os, k.tape.trans h.tape, k.output.trans h.output, Nat.le_trans h.size k.size, fun i hi hs => (k.block i (Nat.lt_of_lt_of_le hi h.size) hs).trans (h.block i hi hs)⟩
theorem Kept.mono {S T : List Nat} {w w' : World} (h : Kept S w w') (hs : ∀ k, k ∈ S → k ∈ T) : Kept T w w' :=
  ⟨h.os, h.tape, h.output, h.size, fun k hk hn => h.block k hk (fun e => hn (hs k e))⟩
/-- The blocks that are new may be written too. -/
theorem Kept.trans_new {S T : List Nat} {a b c : World} (h : Kept S a b) (k : Kept T b c) (hT : ∀ i, i ∈ T → i ∈ S ∨ a.heap.size ≤ i) : Kept S a c :=
  ⟨k.os.trans h.os, k.tape.trans h.tape, k.output.trans h.output, Nat.le_trans h.size k.size, fun i hi hs => (k.block i (Nat.lt_of_lt_of_le hi h.size) (fun e => by rcases hT i e with h1 | h1; exact hs h1; omega)).trans (h.block i hi hs)⟩
theorem Kept.drew {S : List Nat} {a w : World} (h : Kept S a w) : Kept S a w.drew := ⟨h.os, h.tape, h.output, h.size, h.block⟩
theorem Kept.drewN {S : List Nat} {a w : World} (h : Kept S a w) (n : Nat) : Kept S a (w.drewN n) := ⟨h.os, h.tape, h.output, h.size, h.block⟩
theorem Kept.alloc {S : List Nat} {a w : World} (h : Kept S a w) (o : Obj) : Kept S a (w.alloc o) :=
  h.trans ⟨rfl, rfl, rfl, by simp, fun k hk _ => Below.heap_alloc _ _ _ (by omega)⟩
theorem Kept.setCell {S : List Nat} {a w : World} (h : Kept S a w) {p : Addr} (hp : p.block ∈ S) (u : Value) : Kept S a (w.setCell p u) :=
  h.trans ⟨rfl, rfl, rfl, by simp [World.setCell], fun k _ hs => Below.heap_setCell _ _ _ _ (fun e => hs (e ▸ hp))⟩
theorem Kept.setRow {S : List Nat} {a w : World} (h : Kept S a w) {g : Nat} (hp : g ∈ S) (cs : Array Value) : Kept S a (w.setRow g cs) :=
  h.trans ⟨rfl, rfl, rfl, by simp [World.setRow], fun k _ hs => setRow_other w g k cs (fun e => hs (e ▸ hp))⟩
theorem Kept.below {S : List Nat} {w w' : World} (h : Kept S w w') {B : Nat} (hB : B ≤ w.heap.size) (hS : ∀ k, k ∈ S → B ≤ k) : Below B w w' :=
  ⟨h.os, h.tape, h.output, h.size, fun k hk => h.block k (by omega) (fun e => by have := hS k e; omega)⟩
theorem Kept.ofBelow {w w' : World} (h : Below w.heap.size w w') (S : List Nat) : Kept S w w' := ⟨h.os, h.tape, h.output, h.size, fun k hk _ => h.block k hk⟩
theorem Kept.at {S : List Nat} {w w' : World} (h : Kept S w w') {k : Nat} {o : Obj} (hk : w.heap[k]? = some o) (hs : k ∉ S) : w'.heap[k]? = some o := by
  rw [h.block k (Array.getElem?_eq_some_iff.1 hk).1 hs]; exact hk

theorem cell_of {w : World} {b i : Nat} {cs : Array Value} {t : TypeId} {f : Nat × Nat} {v : Value} (h : w.heap[b]? = some (.cells cs t f)) (hv : cs[i]? = some v) : w.cell? ⟨b, i, none⟩ = some v := by
  simp [World.cell?, h, hv]
theorem frozen_of {w : World} {b : Nat} {cs : Array Value} {t : TypeId} (h : w.heap[b]? = some (.cells cs t (0, 0))) (i : Nat) : w.frozen? ⟨b, i, none⟩ = false := by
  simp [World.frozen?, h]
theorem lt_of {w : World} {b : Nat} {o : Obj} (h : w.heap[b]? = some o) : b < w.heap.size := (Array.getElem?_eq_some_iff.1 h).1

/-- bytes as cells -/
def bc (l : List UInt8) : Array Value := (l.map fun b => Value.int .u8 b.toNat).toArray
theorem bc_size (l : List UInt8) : (bc l).size = l.length := by simp [bc]
theorem bc_toList (l : List UInt8) : (bc l).toList = l.map fun b => Value.int .u8 b.toNat := by simp [bc]
theorem bc_get (l : List UInt8) (i : Nat) : (bc l)[i]? = (l[i]?).map fun b => Value.int .u8 b.toNat := by simp [bc]

/-- x laid over bs from place o on -/
def over (bs : List UInt8) (o : Nat) (x : List UInt8) : List UInt8 := bs.take o ++ (x ++ bs.drop (o + x.length))
theorem over_length (bs : List UInt8) (o : Nat) (x : List UInt8) (h : o + x.length ≤ bs.length) : (over bs o x).length = bs.length := by simp [over]; omega

theorem run_copy_str {P : Program} (w : World) (dT sT ty elem : TypeId) (g o dLen dCap : Nat) (s : ByteArray) (bs : List UInt8) (t : TypeId)
    (hu : P.underlying dT = some (.slice elem)) (hs : (P.info? elem).map (·.size) = some 1) (hg : w.heap[g]? = some (.cells (bc bs) t (0, 0))) (hfit : o + (s.data.toList.take dLen).length ≤ bs.length) :
    (Builtin.copy_ #[dT, sT] ty #[.slice (some ⟨g, o, none⟩) dLen dCap, .string s]).run P w =
      .ok (goInt (s.data.toList.take dLen).length) (w.setRow g (bc (over bs o (s.data.toList.take dLen)))) := by
  have h1 : ∀ v ∈ (s.data.toList.take dLen).map (fun b : UInt8 => Value.int IntKind.u8 (b.toNat : Int)), v.oneCell' = true := by
    intro v hv
    simp only [List.mem_map] at hv
    obtain ⟨b, _, rfl⟩ := hv
    rfl
  have hst := run_storeCells_at P g o t ((s.data.toList.take dLen).map (fun b : UInt8 => Value.int IntKind.u8 (b.toNat : Int))) 0 (bc bs) w hg (by rw [bc_size]; simpa using hfit) h1
  have hmin : (s.data.toList.take dLen).length = Nat.min s.size dLen := by simp [Nat.min_comm]
  have htk : List.take (Nat.min s.size dLen) (List.map (fun b : UInt8 => Value.int IntKind.u8 (b.toNat : Int)) s.data.toList) = (s.data.toList.take dLen).map (fun b : UInt8 => Value.int IntKind.u8 (b.toNat : Int)) := by
    rw [List.map_take, ← hmin, List.length_take, ← List.length_map (as := s.data.toList) (fun b : UInt8 => Value.int IntKind.u8 (b.toNat : Int)), ← List.take_eq_take_min]
  simp only [Nat.add_zero] at hst
  cases hq : P.info? elem with
  | none => simp [hq] at hs
  | some i =>
    simp [Builtin.copy_, run_underlying hu, Builtin.lenOf, Builtin.firstCells, sizeOf, typeInfo, hq]
    rw [htk, hst]
    simp [Result.andThen]
    refine ⟨by rw [Nat.min_comm], ?_⟩
    congr 1
    simp [bc, over, List.map_take, List.map_drop]

theorem step_copy_str {P : Program} {ops : Array Oper} {o : Oper} {a : Act} {w : World} {K : Act → World → Prop} {Q : Exit → Act → World → Prop} {E : Prop} (hgd : o.guard = none) (d s : Operand) (dT sT : TypeId)
    (ho : o.op = .call { callee := .builtin .copy, args := #[d, s], argTypes := #[dT, sT] }) (elem : TypeId) (hu : P.underlying dT = some (.slice elem)) (hsz : (P.info? elem).map (·.size) = some 1)
    (g off dLen dCap : Nat) (str : ByteArray) (hd : a.eval d = .slice (some ⟨g, off, none⟩) dLen dCap) (hs : a.eval s = .string str)
    (bs : List UInt8) (t : TypeId) (hg : w.heap[g]? = some (.cells (bc bs) t (0, 0))) (x : List UInt8) (hx : x = str.data.toList.take dLen) (hfit : off + x.length ≤ bs.length)
    (h : K (a.put o.dst (.int .i64 x.length)) (w.setRow g (bc (over bs off x)))) :
    if Region.wanted o (yielded ops a.tmps) = true then Oper.wp P o a w K Q else E := by
  have hw : Region.wanted o (yielded ops a.tmps) = true := by simp [Region.wanted, hgd]
  rw [if_pos hw]
  have hrun := run_copy_str (P := P) w dT sT o.type elem g off dLen dCap str bs t hu hsz hg (by rw [← hx]; exact hfit)
  rw [← hx] at hrun
  unfold Oper.wp
  simp only [execOp, ho]
  simp [resolve, invoke, builtin, hd, hs, hrun, Result.andThen]
  exact h

theorem cell_setRow {g b : Nat} (h : b ≠ g) (W : World) (cs : Array Value) (i : Nat) : (W.setRow g cs).cell? ⟨b, i, none⟩ = W.cell? ⟨b, i, none⟩ :=
  World.cell?_of_block (w := W) (setRow_other W g b cs h)
theorem frozen_setRow {g b : Nat} (h : b ≠ g) (W : World) (cs : Array Value) (i : Nat) : (W.setRow g cs).frozen? ⟨b, i, none⟩ = W.frozen? ⟨b, i, none⟩ :=
  World.frozen?_of_block (w := W) (setRow_other W g b cs h)

theorem ret_int {k : IntKind} {a b : Int} (h : a = b) : Ending.returned (.int k a) = .returned (.int k b) := by rw [h]
theorem Kept.cell {S : List Nat} {w w' : World} (h : Kept S w w') {b : Nat} (hb : b < w.heap.size) (hs : b ∉ S) (i : Nat) : w'.cell? ⟨b, i, none⟩ = w.cell? ⟨b, i, none⟩ :=
  World.cell?_of_block (w := w) (h.block b hb hs)
theorem Kept.frozen {S : List Nat} {w w' : World} (h : Kept S w w') {b : Nat} (hb : b < w.heap.size) (hs : b ∉ S) (i : Nat) : w'.frozen? ⟨b, i, none⟩ = w.frozen? ⟨b, i, none⟩ :=
  World.frozen?_of_block (w := w) (h.block b hb hs)

theorem wr64 (x : Int) (h1 : -9223372036854775808 ≤ x) (h2 : x ≤ 9223372036854775807) : IntKind.i64.wrap x = x := by rw [IntKind.wrap_i64]; omega

theorem over_nil (bs : List UInt8) (o : Nat) : over bs o [] = bs := by simp [over]

theorem step_copy_bc {P : Program} {ops : Array Oper} {o : Oper} {a : Act} {w : World} {K : Act → World → Prop} {Q : Exit → Act → World → Prop} {E : Prop} (hgd : o.guard = none) (d s : Operand) (dT sT : TypeId)
    (ho : o.op = .call { callee := .builtin .copy, args := #[d, s], argTypes := #[dT, sT] }) (elem : TypeId) (hu : P.underlying dT = some (.slice elem)) (hsz : (P.info? elem).map (·.size) = some 1)
    (g off dLen dCap g2 off2 sLen sCap : Nat) (sp : Option Addr) (hd : a.eval d = .slice (some ⟨g, off, none⟩) dLen dCap) (hs : a.eval s = .slice sp sLen sCap) (hsp : 0 < sLen → sp = some ⟨g2, off2, none⟩)
    (bs bs2 : List UInt8) (t t2 : TypeId) (hg : w.heap[g]? = some (.cells (bc bs) t (0, 0))) (hg2 : w.heap[g2]? = some (.cells (bc bs2) t2 (0, 0))) (x : List UInt8) (hx : x = (bs2.drop off2).take (Nat.min sLen dLen)) (hxl : x.length = Nat.min sLen dLen) (hfit : off + x.length ≤ bs.length)
    (h : K (a.put o.dst (.int .i64 x.length)) (w.setRow g (bc (over bs off x)))) :
    if Region.wanted o (yielded ops a.tmps) = true then Oper.wp P o a w K Q else E := by
  have hw : Region.wanted o (yielded ops a.tmps) = true := by simp [Region.wanted, hgd]
  rw [if_pos hw]
  by_cases h0 : Nat.min sLen dLen = 0
  · have hx0 : x = [] := List.eq_nil_of_length_eq_zero (by rw [hxl]; exact h0)
    have hrun := run_copy_none (P := P) w dT sT o.type elem (some ⟨g, off, none⟩) sp dLen dCap sLen sCap hu hsz h0
    unfold Oper.wp
    simp only [execOp, ho]
    simp [resolve, invoke, builtin, hd, hs, hrun, Result.andThen]
    rw [hx0, over_nil, setRow_self w g _ t (0, 0) hg] at h
    exact h
  have hp : 0 < sLen := by
    rcases Nat.eq_zero_or_pos sLen with h' | h'
    · subst h'; exact absurd (Nat.zero_min _) h0
    · exact h'
  obtain rfl := hsp hp
  have h1 : ∀ v ∈ x.map (fun b : UInt8 => Value.int IntKind.u8 (b.toNat : Int)), v.oneCell' = true := by
    intro v hv
    simp only [List.mem_map] at hv
    obtain ⟨b, _, rfl⟩ := hv
    rfl
  have hrun := run_copy_row (P := P) w dT sT o.type elem g off dLen dCap ⟨g2, off2, none⟩ sLen sCap (bc bs) t (x.map fun b => Value.int .u8 b.toNat) hu hsz hg (by simpa using hxl)
    (by
      intro j v hv
      have hadd : (⟨g2, off2, none⟩ : Addr).add j = ⟨g2, off2 + j, none⟩ := by unfold Addr.add; split <;> simp_all
      rw [hadd]
      refine cell_of hg2 ?_
      rw [bc_get]
      rw [hx, List.getElem?_map, List.getElem?_take] at hv
      split at hv
      · rw [List.getElem?_drop] at hv; exact hv
      · simp at hv)
    (by rw [bc_size]; simpa using hfit) h1
  have e : ((bc bs).toList.take off ++ (x.map fun b => Value.int .u8 b.toNat) ++ (bc bs).toList.drop (off + (x.map fun b => Value.int .u8 (b.toNat : Int)).length)).toArray = bc (over bs off x) := by
    simp [bc, over, List.map_take, List.map_drop]
  rw [e] at hrun
  simp only [List.length_map] at hrun
  unfold Oper.wp
  simp only [execOp, ho]
  simp [resolve, invoke, builtin, hd, hs, hrun, Result.andThen]
  exact h

theorem Kept.same {S : List Nat} {w w' w'' : World} (h : Kept S w w') (e1 : w''.heap = w'.heap) (e2 : w''.os = w'.os) (e3 : w''.tape = w'.tape) (e4 : w''.output = w'.output) : Kept S w w'' :=
  ⟨e2.trans h.os, e3.trans h.tape, e4.trans h.output, by rw [e1]; exact h.size, fun k hk hs => by rw [e1]; exact h.block k hk hs⟩

theorem Kept.from {S : List Nat} {w0 w w' : World} (h : Kept S w0 w') (e1 : w0.heap = w.heap) (e2 : w0.os = w.os) (e3 : w0.tape = w.tape) (e4 : w0.output = w.output) : Kept S w w' :=
  ⟨h.os.trans e2, h.tape.trans e3, h.output.trans e4, by rw [← e1]; exact h.size, fun k hk hs => by rw [← e1]; exact h.block k (by rw [e1]; exact hk) hs⟩

end Go.Proofs.Qxb6604708aDoor
