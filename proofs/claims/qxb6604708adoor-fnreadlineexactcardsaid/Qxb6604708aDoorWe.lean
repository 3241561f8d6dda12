import Derived.Test.Qxb6604708aDoorWd
import Derived.Deep.AppendLies
import Derived.Deep.Upon
import Derived.LaidEql
namespace Go.Proofs.Qxb6604708aDoor
open Go.RowKit
set_option linter.unusedVariables false

def bv (l : List UInt8) : List Value := l.map fun b => Value.int .u8 b.toNat
theorem bv_length (l : List UInt8) : (bv l).length = l.length := by simp [bv]
theorem bv_append (a b : List UInt8) : bv (a ++ b) = bv a ++ bv b := by simp [bv]
theorem bv_one (l : List UInt8) : ∀ v ∈ bv l, v.oneCell' = true := by
  intro v hv
  simp only [bv, List.mem_map] at hv
  obtain ⟨b, _, rfl⟩ := hv
  rfl
def pblk : Option Addr → List Nat
  | some a => [a.block]
  | none => []

theorem Tryd.inf5 : (Tryd.prog.info? 5).map (fun i => (i.zero, i.size, i.bytes)) = some (some (.int .u8 0), 1, 1) := by kernel_rfl

/-- append of bytes that lie in a known row, onto an owned row of bytes; none too. -/
theorem step_app {ops : Array Oper} {o : Oper} {a : Act} {w : World} {K : Act → World → Prop} {Q : Exit → Act → World → Prop} {E : Prop} (hgd : o.guard = none) (s x : Operand)
    (ho : o.op = .call { callee := .builtin .append, args := #[s, x], argTypes := #[25, 25] }) (B : Nat) (p : Option Addr) (l news : List UInt8) (cap : Nat) (hs : a.eval s = .slice p l.length cap) (hown : w.ownsRow B 5 1 (.slice p l.length cap) l.length (bv l))
    (g off m c : Nat) (bs : List UInt8) (t : TypeId) (hx : a.eval x = .slice (some ⟨g, off, none⟩) m c) (hg : w.heap[g]? = some (.cells (bc bs) t (0, 0))) (hn : news = (bs.drop off).take m) (hm : news.length = m) (l' : List UInt8) (hl' : l' = l ++ news) (h63 : l.length + m ≤ 10000000) (hB : B ≤ w.heap.size) (H : Nat) (hH : w.heap.size = H)
    (h : ∀ p' cap' w', w'.ownsRow B 5 1 (.slice p' l'.length cap') l'.length (bv l') → Kept (pblk p) w w' → (∀ k, k ∈ pblk p' → k ∈ pblk p ∨ k = H) → K (a.put o.dst (.slice p' l'.length cap')) w') :
    if Region.wanted o (yielded ops a.tmps) = true then Oper.wp Tryd.prog o a w K Q else E := by
  subst hl'
  obtain ⟨i, hi, hzz⟩ := Option.map_eq_some_iff.1 Tryd.inf5
  simp only [Prod.mk.injEq] at hzz
  obtain ⟨hz, hsz, hby⟩ := hzz
  have hcells : ∀ j u, (bv news)[j]? = some u → w.cell? ((⟨g, off, none⟩ : Addr).add j) = some u := by
    intro j u hu
    have hadd : (⟨g, off, none⟩ : Addr).add j = ⟨g, off + j, none⟩ := by unfold Addr.add; split <;> simp_all
    rw [hadd]
    refine cell_of hg ?_
    rw [bc_get]
    rw [hn, bv, List.getElem?_map, List.getElem?_take] at hu
    split at hu
    · rw [List.getElem?_drop] at hu; exact hu
    · simp at hu
  by_cases h0 : m = 0
  · have hn0 : news = [] := List.eq_nil_of_length_eq_zero (by omega)
    subst hn0
    subst h0
    have hw : Region.wanted o (yielded ops a.tmps) = true := by simp [Region.wanted, hgd]
    rw [if_pos hw]
    have hle : l.length ≤ cap := by
      rcases hown.2 with ⟨e, e2⟩ | ⟨_, _, _, e, _, _, e2, _⟩
      · omega
      · cases e; exact e2
    have hrun := run_append_nothing (P := Tryd.prog) w 25 25 o.type 5 i Tryd.underlying25 hi p l.length cap hle (.slice (some ⟨g, off, none⟩) 0 c) (Src.ofSlice (size := i.size) w Tryd.underlying25 ⟨g, off, none⟩ 0 c [] (Nat.zero_mul _).symm (by simp) (by simp))
    unfold Oper.wp
    simp only [execOp, ho]
    simp [resolve, invoke, builtin, hs, hx, hrun, Result.andThen]
    have := h p cap w (by simpa using hown) (Kept.refl _ _) (fun k hk => Or.inl hk)
    rw [List.append_nil] at this
    exact this
  · refine step_append_lies w hgd s x 25 ho B 5 i (.int .u8 0) 1 1 Tryd.underlying25 hi hz hsz hby rfl (by omega) (.slice p l.length cap) l.length (bv l) hs hown ⟨g, off, none⟩ m c (bv news) hx (by rw [bv_length]; omega) hcells (bv_one _) (by omega) (by unfold maxLen; omega) (by omega) hB H hH ?_
    intro g' cap' w' h1 h2 h3 h4
    rw [← hm, ← List.length_append, ← bv_append] at h1
    have := h (some ⟨g', 0, none⟩) cap' w' h1 ?_ ?_
    · rw [List.length_append, hm] at this; exact this
    · refine ⟨h2.os, h2.tape, h2.output, h2.size, fun k hk hs => h2.block k hk ?_⟩
      cases p with
      | none => simp [Value.ownBlock]
      | some a => simp [Value.ownBlock]; simp [pblk] at hs; exact hs
    · intro k hk
      simp [pblk] at hk
      subst hk
      rcases h3 with h3 | h3
      · left
        cases p with
        | none => simp [Value.ownBlock] at h3
        | some a => simp [Value.ownBlock] at h3; simp [pblk, h3]
      · exact Or.inr h3

theorem bytesOf_ten : Lib.bytesOf [(10 : Int)] = [10] := by decide

/-- TrimSuffix of a line feed. -/
theorem trim_any (bb o n c g : Nat) (bs Y : List UInt8) (t t2 : TypeId) (w : World) (hb : w.heap[bb]? = some (.cells (bc bs) t (0, 0))) (hg : w.heap[g]? = some (.cells #[.int .u8 10] t2 (0, 0))) (hY : Y = (bs.drop o).take n) (hn : Y.length = n) (hc : n ≤ c) (hbig : n ≤ 1000000) (m : Nat)
    (hm : (∃ Z, Y = Z ++ [10] ∧ m = Z.length) ∨ ((10 : UInt8) ∉ Y ∧ m = n)) :
    Calls Tryd.prog 30 #[.slice (some ⟨bb, o, none⟩) n c, .slice (some ⟨g, 0, none⟩) 1 1] w fun e w' => e = .returned (.slice (some ⟨bb, o, none⟩) m c) ∧ w' = w := by
  have := Tryd.bytes_TrimSuffix bb o n c g 0 1 1 (Y.map fun b => (b.toNat : Int)) [10] w (by simpa using hn) rfl hc (by omega) (by
    intro i hi
    refine cell_of hb ?_
    have hlt : o + i < bs.length := by
      have h2 : Y.length ≤ bs.length - o := by rw [hY]; simp; omega
      omega
    rw [bc_get]
    subst hY
    simp [List.getD, hi, hlt]) (by
    intro i hi
    obtain rfl : i = 0 := by omega
    exact cell_of hg rfl)
  have e : Lib.bytesTrimSuffix bb o n c (Y.map fun b => (b.toNat : Int)) [10] = .slice (some ⟨bb, o, none⟩) m c := by
    unfold Lib.bytesTrimSuffix
    rw [bytesOf_ints, bytesOf_ten]
    rcases hm with ⟨Z, hZ, rfl⟩ | ⟨hno, rfl⟩
    · have h1 : Lib.hasSuffix Y [10] = true := by
        unfold Lib.hasSuffix
        rw [List.isSuffixOf_iff_suffix, hZ]
        exact ⟨Z, rfl⟩
      rw [if_pos h1]
      unfold Lib.sliceTo
      have : n - [(10 : Int)].length = Z.length := by rw [← hn, hZ]; simp
      rw [this]
    · have h1 : ¬ Lib.hasSuffix Y [10] = true := by
        unfold Lib.hasSuffix
        rw [List.isSuffixOf_iff_suffix]
        rintro ⟨Z, hZ⟩
        exact hno (by rw [← hZ]; simp)
      rw [if_neg h1]
  rw [e] at this
  exact this

end Go.Proofs.Qxb6604708aDoor
