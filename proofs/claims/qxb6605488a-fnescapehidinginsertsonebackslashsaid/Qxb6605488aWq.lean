import Derived.Test.Qxb6605488aWf
import Derived.Deep.Grids
import Derived.Deep.Matrix
import Derived.ProofKit
import Derived.OpenShut
import Derived.ShutString
namespace Go.Proofs.Qxb6605488a
open Go.ChangeShapes Go.WideShapes Go.ChangeAt Go.RowKit Go.Deep
set_option linter.unusedVariables false
set_option linter.unusedSimpArgs false

theorem Try.cells3 : Try.prog.cellsOf 3 = 1 := by kernel_rfl
theorem Try.cells4 : Try.prog.cellsOf 4 = 1 := by kernel_rfl
theorem Try.cells9 : Try.prog.cellsOf 9 = 1 := by kernel_rfl
theorem Try.cells36 : Try.prog.cellsOf 36 = 1 := by kernel_rfl

section
variable {H : Type} {enc : TypeId × Value → H} {W : World} {base : Nat} {held : Bool} {fuel : Nat}

theorem sl_ints {a : Option Addr} {n c : Nat} {x : DataW H × List MemPlace} (h : DataW.trod enc Try.prog W base (fun _ => true) held fuel 25 [.slice a n c] = some x) :
    ∃ ks : List Int, Sl (fun _ => True) W (.slice a n c) (ks.map (Value.int .i64)) ∧ ks.length ≤ maxLen := by
  rcases open_ints Try.underlying25 Try.underlying3 Try.cells3 h with ⟨hcs, _⟩ | ⟨a', l', c', zs, hcs, _, hl, hm, hz, _, hcell, hwz⟩
  · simp at hcs
    obtain ⟨rfl, rfl, rfl⟩ := hcs
    exact ⟨[], ⟨none, 0, rfl, Nat.le_refl _, fun i hi => by simp at hi⟩, Nat.zero_le _⟩
  · simp at hcs
    obtain ⟨rfl, rfl, rfl⟩ := hcs
    have hz' : zs.length = c := by simpa using hz
    have hlen : (zs.take n).length = n := by rw [List.length_take]; omega
    refine ⟨zs.take n, ⟨some a', c, by rw [List.length_map, hlen], by rw [List.length_map, hlen]; exact hl, fun i hi => ?_⟩, by rw [hlen]; omega⟩
    rw [List.length_map, hlen] at hi
    refine ⟨a', rfl, trivial, ?_⟩
    rw [hcell i (by omega), getD_map _ _ 0 i (by omega)]
    simp [List.getD, hi]

theorem sl_bools {a : Option Addr} {n c : Nat} {x : DataW H × List MemPlace} (h : DataW.trod enc Try.prog W base (fun _ => true) held fuel 26 [.slice a n c] = some x) :
    ∃ ns : List Bool, Sl (fun _ => True) W (.slice a n c) (ns.map Value.bool) ∧ ns.length ≤ maxLen := by
  rcases open_bools Try.underlying26 Try.underlying4 Try.cells4 h with ⟨hcs, _⟩ | ⟨a', l', c', B, hcs, _, hl, hm, _, hcell⟩
  · simp at hcs
    obtain ⟨rfl, rfl, rfl⟩ := hcs
    exact ⟨[], ⟨none, 0, rfl, Nat.le_refl _, fun i hi => by simp at hi⟩, Nat.zero_le _⟩
  · simp at hcs
    obtain ⟨rfl, rfl, rfl⟩ := hcs
    refine ⟨(List.range n).map B, ⟨some a', c, by simp, by simpa using hl, fun i hi => ?_⟩, by simp; omega⟩
    have hi' : i < n := by simpa using hi
    refine ⟨a', rfl, trivial, ?_⟩
    rw [hcell i (by omega)]
    simp [List.getD, hi']

theorem sl_strs {v : Value} {x : DataW H × List MemPlace} (h : DataW.trod enc Try.prog W base (fun _ => true) held fuel 36 [v] = some x) :
    ∃ l : List ByteArray, Sl (fun _ => True) W v (l.map Value.string) ∧ l.length ≤ maxLen ∧ ∀ j, j < l.length → (l.getD j ByteArray.empty).size ≤ maxLen := by
  rcases open_slice1 Try.underlying36 Try.cells9 h with ⟨hcs, _⟩ | ⟨a, len, cap, m, n, V, D, Pl, hcs, hb, hl, hm, hmm, _, hx⟩
  · simp at hcs
    subst hcs
    exact ⟨[], ⟨none, 0, rfl, Nat.le_refl _, fun i hi => by simp at hi⟩, Nat.zero_le _, fun j hj => by simp at hj⟩
  · simp at hcs
    subst hcs
    have hmm' : m = cap := by simpa using hmm
    obtain ⟨F, hF⟩ := choose_lt (α := ByteArray) (n := len) (p := fun i s => W.cell? (a.add i) = some (.string s) ∧ s.size ≤ maxLen) (fun i hi => by
      obtain ⟨h1, h2⟩ := hx i (by omega)
      obtain ⟨s, hs, _, hsz⟩ := DataW.trod_string Try.underlying9 h2
      simp at hs
      rw [hs] at h1
      exact ⟨s, h1, hsz⟩)
    refine ⟨(List.range len).map F, ⟨some a, cap, by simp, by simpa using hl, fun i hi => ?_⟩, by simp; omega, fun j hj => ?_⟩
    · have hi' : i < len := by simpa using hi
      refine ⟨a, rfl, trivial, ?_⟩
      rw [(hF i hi').1]
      simp [List.getD, hi']
    · have hj' : j < len := by simpa using hj
      have := (hF j hj').2
      simpa [List.getD, hj'] using this

theorem lns_rows {v : Value} {x : DataW H × List MemPlace} (h : DataW.trod enc Try.prog W base (fun _ => true) held fuel 27 [v] = some x) :
    ∃ L : List (List ByteArray), Lns (fun _ => True) W v L ∧ L.length ≤ maxLen ∧ ∀ i, i < L.length → (L.getD i []).length ≤ maxLen ∧ ∀ j, j < (L.getD i []).length → ((L.getD i []).getD j ByteArray.empty).size ≤ maxLen := by
  rcases open_slice1 Try.underlying27 Try.cells36 h with ⟨hcs, _⟩ | ⟨a, len, cap, m, n, V, D, Pl, hcs, hb, hl, hm, hmm, _, hx⟩
  · simp at hcs
    subst hcs
    exact ⟨[], ⟨[], rfl, ⟨none, 0, rfl, Nat.le_refl _, fun i hi => by simp at hi⟩, fun i hi => by simp at hi⟩, Nat.zero_le _, fun i hi => by simp at hi⟩
  · simp at hcs
    subst hcs
    have hmm' : m = cap := by simpa using hmm
    obtain ⟨F, hF⟩ := choose_lt (α := List ByteArray) (n := len) (p := fun i l => Sl (fun _ => True) W (V i) (l.map Value.string) ∧ l.length ≤ maxLen ∧ ∀ j, j < l.length → (l.getD j ByteArray.empty).size ≤ maxLen) (fun i hi => sl_strs (hx i (by omega)).2)
    have hFe : ∀ i, i < len → ((List.range len).map F).getD i [] = F i := fun i hi => by simp [List.getD, hi]
    refine ⟨(List.range len).map F, ⟨(List.range len).map V, by simp, ⟨some a, cap, by simp, by simpa using hl, fun i hi => ?_⟩, fun i hi => ?_⟩, by simp; omega, fun i hi => ?_⟩
    · have hi' : i < len := by simpa using hi
      refine ⟨a, rfl, trivial, ?_⟩
      rw [(hx i (by omega)).1]
      simp [List.getD, hi']
    · have hi' : i < len := by simpa using hi
      have e : ((List.range len).map V).getD i undef = V i := by simp [List.getD, hi']
      rw [e, hFe i hi']
      exact (hF i hi').1
    · have hi' : i < len := by simpa using hi
      rw [hFe i hi']
      exact (hF i hi').2
end
end Go.Proofs.Qxb6605488a
