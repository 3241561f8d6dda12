import Derived.Test.Qxb6605488aBase
namespace Go.Proofs.Qxb6605488a
open Go.RowKit
set_option linter.unusedVariables false
set_option linter.unusedSimpArgs false

theorem cell_kept {S : List Nat} {w w' : World} (hK : Kept S w w') {a : Addr} {v : Value} (h : w.cell? a = some v) (hs : a.block ∉ S) : w'.cell? a = some v := by
  have hsp := World.cell?_spot h
  have hb : a.block < w.heap.size := by
    rcases Nat.lt_or_ge a.block w.heap.size with h1 | h1
    · exact h1
    · simp [World.cell?, Array.getElem?_eq_none h1] at h
  have e : a = ⟨a.block, a.off, none⟩ := by
    cases a
    simp at hsp
    simp [hsp]
  rw [e, hK.cell hb hs, ← e]
  exact h

theorem add_block (x : Addr) (i : Nat) : (x.add i).block = x.block := by unfold Addr.add; split <;> rfl

/-- A slice's value and what it leads to; Q holds of the row's block. -/
def Sl (Q : Nat → Prop) (w : World) (v : Value) (l : List Value) : Prop :=
  ∃ (a : Option Addr) (c : Nat), v = .slice a l.length c ∧ l.length ≤ c ∧ ∀ i, i < l.length → ∃ x, a = some x ∧ Q x.block ∧ w.cell? (x.add i) = some (l.getD i undef)

theorem Sl.kept {Q : Nat → Prop} {S : List Nat} {w w' : World} {v : Value} {l : List Value} (h : Sl Q w v l) (hK : Kept S w w') (hQ : ∀ k, Q k → k ∉ S) : Sl Q w' v l := by
  obtain ⟨a, c, h1, h2, h3⟩ := h
  refine ⟨a, c, h1, h2, fun i hi => ?_⟩
  obtain ⟨x, e, q, hc⟩ := h3 i hi
  exact ⟨x, e, q, cell_kept hK hc (by rw [add_block]; exact hQ _ q)⟩

theorem Sl.mono {Q R : Nat → Prop} {w : World} {v : Value} {l : List Value} (h : Sl Q w v l) (hQ : ∀ k, Q k → R k) : Sl R w v l := by
  obtain ⟨a, c, h1, h2, h3⟩ := h
  refine ⟨a, c, h1, h2, fun i hi => ?_⟩
  obtain ⟨x, e, q, hc⟩ := h3 i hi
  exact ⟨x, e, hQ _ q, hc⟩

theorem getD_map {α : Type} (f : α → Value) (l : List α) (d : α) (i : Nat) (h : i < l.length) : (l.map f).getD i undef = f (l.getD i d) := by
  simp [List.getD, h]

theorem Sl.at {α : Type} {Q : Nat → Prop} {w : World} {v : Value} {f : α → Value} {l : List α} (d : α) (h : Sl Q w v (l.map f)) :
    ∃ (a : Option Addr) (c : Nat), v = .slice a l.length c ∧ l.length ≤ c ∧ ∀ i, i < l.length → ∃ x, a = some x ∧ Q x.block ∧ w.cell? (x.add i) = some (f (l.getD i d)) := by
  obtain ⟨a, c, h1, h2, h3⟩ := h
  rw [List.length_map] at h1 h2
  refine ⟨a, c, h1, h2, fun i hi => ?_⟩
  obtain ⟨x, e, q, hc⟩ := h3 i (by rw [List.length_map]; exact hi)
  rw [getD_map f l d i hi] at hc
  exact ⟨x, e, q, hc⟩

/-- A slice of slices of strings. -/
def Lns (Q : Nat → Prop) (w : World) (v : Value) (L : List (List ByteArray)) : Prop :=
  ∃ rows : List Value, rows.length = L.length ∧ Sl Q w v rows ∧ ∀ i, i < L.length → Sl Q w (rows.getD i undef) ((L.getD i []).map .string)

theorem Lns.kept {Q : Nat → Prop} {S : List Nat} {w w' : World} {v : Value} {L : List (List ByteArray)} (h : Lns Q w v L) (hK : Kept S w w') (hQ : ∀ k, Q k → k ∉ S) : Lns Q w' v L := by
  obtain ⟨rows, h1, h2, h3⟩ := h
  exact ⟨rows, h1, h2.kept hK hQ, fun i hi => (h3 i hi).kept hK hQ⟩
theorem Lns.mono {Q R : Nat → Prop} {w : World} {v : Value} {L : List (List ByteArray)} (h : Lns Q w v L) (hQ : ∀ k, Q k → R k) : Lns R w v L := by
  obtain ⟨rows, h1, h2, h3⟩ := h
  exact ⟨rows, h1, h2.mono hQ, fun i hi => (h3 i hi).mono hQ⟩

/-- One row, as the walk reads it. -/
def RowAt (w : World) (v : Value) (l : List ByteArray) : Prop :=
  ∃ (a : Option Addr) (c : Nat), v = .slice a l.length c ∧ l.length ≤ c ∧ ∀ j, j < l.length → ∃ x, a = some x ∧ w.cell? (x.add j) = some (.string (l.getD j ByteArray.empty))

theorem Lns.open {Q : Nat → Prop} {w : World} {v : Value} {L : List (List ByteArray)} (h : Lns Q w v L) :
    ∃ (a : Option Addr) (c : Nat), v = .slice a L.length c ∧ L.length ≤ c ∧ ∀ i, i < L.length → ∃ x rv, a = some x ∧ w.cell? (x.add i) = some rv ∧ RowAt w rv (L.getD i []) := by
  obtain ⟨rows, h1, ⟨a, c, h2, h3, h4⟩, h5⟩ := h
  rw [h1] at h2 h3
  refine ⟨a, c, h2, h3, fun i hi => ?_⟩
  obtain ⟨x, e, q, hc⟩ := h4 i (by omega)
  refine ⟨x, _, e, hc, ?_⟩
  obtain ⟨a', c', k1, k2, k3⟩ := (h5 i hi).at ByteArray.empty
  refine ⟨a', c', k1, k2, fun j hj => ?_⟩
  obtain ⟨x', e', q', hc'⟩ := k3 j hj
  exact ⟨x', e', hc'⟩

def rsum (l : List ByteArray) : Nat := (l.map (fun s => s.size + 16)).sum
theorem rsum_snoc (l : List ByteArray) (j : Nat) (h : j < l.length) : rsum (l.take (j + 1)) = rsum (l.take j) + ((l.getD j ByteArray.empty).size + 16) := by
  unfold rsum
  rw [List.take_succ_eq_append_getElem h, List.map_append, List.sum_append]
  simp [List.getD, h]

def Small (L : List (List ByteArray)) : Prop := L.length ≤ 65536 ∧ ∀ i, i < L.length → (L.getD i []).length ≤ 65536 ∧ rsum (L.getD i []) ≤ 1048576

/-- What 'zzTooBig' answers. -/
def TbPost (L : List (List ByteArray)) (w : World) (e : Ending) (w' : World) : Prop := ∃ b, e = .returned (.bool b) ∧ (b = false → Small L) ∧ w = w'

set_option maxRecDepth 100000 in
set_option maxHeartbeats 4000000 in
theorem toobig_any (ak an : Option Addr) (nk nn ck cn : Nat) (vl : Value) (L : List (List ByteArray)) (w : World) (hL : Lns (fun _ => True) w vl L) (hk : nk ≤ 281474976710656) (hn : nn ≤ 281474976710656) (hll : L.length ≤ 281474976710656) (hmax : ∀ i, i < L.length → (L.getD i []).length ≤ 281474976710656 ∧ ∀ j, j < (L.getD i []).length → ((L.getD i []).getD j ByteArray.empty).size ≤ 281474976710656) :
    Calls Try.prog 13 #[.slice ak nk ck, .slice an nn cn, vl] w fun e w' => TbPost L w e w' := by
  obtain ⟨al, cl, rfl, hcl, hrow⟩ := hL.open
  have HROW : Hid (∀ i, i < L.length → ∃ x rv, al = some x ∧ w.cell? (x.add i) = some rv ∧ RowAt w rv (L.getD i [])) := hrow
  have HMAX : Hid (∀ i, i < L.length → (L.getD i []).length ≤ 281474976710656 ∧ ∀ j, j < (L.getD i []).length → ((L.getD i []).getD j ByteArray.empty).size ≤ 281474976710656) := hmax
  clear hrow hL hmax
  by_cases k1 : 65536 < nk
  · have i1 : (65536 : Int) < (nk : Int) := by omega
    go_enter Try.func13, Try.ntmps13
    go_wp2
    go_ret
    exact ⟨true, rfl, (fun h => by cases h), rfl⟩
  by_cases k2 : 65536 < nn
  · have i1 : ¬ (65536 : Int) < (nk : Int) := by omega
    have i2 : (65536 : Int) < (nn : Int) := by omega
    go_enter Try.func13, Try.ntmps13
    go_wp2
    go_ret
    exact ⟨true, rfl, (fun h => by cases h), rfl⟩
  by_cases k3 : 65536 < L.length
  · have i1 : ¬ (65536 : Int) < (nk : Int) := by omega
    have i2 : ¬ (65536 : Int) < (nn : Int) := by omega
    have i3 : (65536 : Int) < (L.length : Int) := by omega
    go_enter Try.func13, Try.ntmps13
    go_wp2
    go_ret
    exact ⟨true, rfl, (fun h => by cases h), rfl⟩
  have i1 : (nk : Int) ≤ 65536 := by omega
  have i2 : (nn : Int) ≤ 65536 := by omega
  have i3 : (L.length : Int) ≤ 65536 := by omega
  have hw1 := wr64 ((nk : Int) * 8) (by omega) (by omega)
  have hw2 := wr64 ((nk : Int) * 8 + (nn : Int)) (by omega) (by omega)
  clear k1 k2 k3
  go_enter Try.func13, Try.ntmps13
  go_wp2
  go_loopw [7, 8] (fun u v wr => ∃ t i : Nat, u = .int .i64 t ∧ v = .int .i64 i ∧ t ≤ 1048576 ∧ i ≤ L.length ∧ Hid (∀ k, k < i → (L.getD k []).length ≤ 65536 ∧ rsum (L.getD k []) ≤ 1048576) ∧ w = wr) (fun _ v _ => L.length - (intOf v).toNat)
  case atStart => exact ⟨nk * 8 + nn, 0, by go_num, rfl, by omega, Nat.zero_le _, fun k hk => by omega, rfl⟩
  case round =>
    clear hw1 hw2
    obtain ⟨t, i, rfl, rfl, ht, hi, HI, rfl⟩ := hrel
    have d0 : (0 : Int) ≤ (i : Int) := by omega
    have t0 : (t : Int) ≤ 1048576 := by omega
    by_cases hlt : i < L.length
    · have d1 : (i : Int) < (L.length : Int) := by omega
      obtain ⟨x, rv, rfl, hcell, a, c, rfl, hac, hstr⟩ := HROW.out i hlt
      have HM := HMAX.out i hlt
      have HMS : Hid (∀ j, j < (L.getD i []).length → ((L.getD i []).getD j ByteArray.empty).size ≤ 281474976710656) := HM.2
      have hm1 := HM.1
      have HSTR : Hid (∀ j, j < (L.getD i []).length → ∃ y, a = some y ∧ w.cell? (y.add j) = some (.string ((L.getD i []).getD j ByteArray.empty))) := hstr
      clear hstr HM
      obtain ⟨l, hl⟩ : ∃ l, l = L.getD i [] := ⟨_, rfl⟩
      have HLL : Hid (l = L.getD i []) := hl
      rw [← hl] at hcell hac HMS hm1 HSTR
      clear hl
      have hwi := wr64 ((i : Int) + 1) (by omega) (by omega)
      by_cases q1 : 65536 < l.length
      · have p1 : (65536 : Int) < (l.length : Int) := by omega
        go_wp2
        go_ret
        exact ⟨true, rfl, (fun h => by cases h), rfl⟩
      · have p1 : (l.length : Int) ≤ 65536 := by omega
        have hwt := wr64 ((t : Int) + 24) (by omega) (by omega)
        go_wp2
        go_loopw [7, 9] (fun u v wr => ∃ t2 j : Nat, u = .int .i64 t2 ∧ v = .int .i64 j ∧ t2 ≤ 1048600 ∧ j ≤ l.length ∧ Hid (rsum (l.take j) ≤ t2) ∧ w = wr) (fun _ v _ => l.length - (intOf v).toNat)
        case atStart => exact ⟨t + 24, 0, by go_num, rfl, by omega, Nat.zero_le _, by show _ ≤ _; simp [rsum], rfl⟩
        case round =>
          clear hwt
          obtain ⟨t2, j, rfl, rfl, ht2, hj, HJ, rfl⟩ := hrel
          have e0 : (0 : Int) ≤ (j : Int) := by omega
          have t20 : (t2 : Int) ≤ 1048600 := by omega
          by_cases hjl : j < l.length
          · have e1 : (j : Int) < (l.length : Int) := by omega
            obtain ⟨y, rfl, hyc⟩ := HSTR.out j hjl
            have hms := HMS.out j hjl
            have HSN : Hid (rsum (l.take (j + 1)) = rsum (l.take j) + ((l.getD j ByteArray.empty).size + 16)) := rsum_snoc l j hjl
            obtain ⟨s, hs⟩ : ∃ s, s = l.getD j ByteArray.empty := ⟨_, rfl⟩
            rw [← hs] at hyc hms HSN
            clear hs
            have hwj := wr64 ((j : Int) + 1) (by omega) (by omega)
            by_cases q2 : 1048576 < s.size
            · have p2 : (1048576 : Int) < (s.size : Int) := by omega
              go_wp2
              go_ret
              exact ⟨true, rfl, (fun h => by cases h), rfl⟩
            · have p2 : (s.size : Int) ≤ 1048576 := by omega
              have hwa := wr64 (16 + (s.size : Int)) (by omega) (by omega)
              have hwb := wr64 ((t2 : Int) + (16 + (s.size : Int))) (by omega) (by omega)
              by_cases q3 : 1048576 < t2 + (16 + s.size)
              · have p3 : (1048576 : Int) < (t2 : Int) + (16 + (s.size : Int)) := by omega
                go_wp2
                go_ret
                exact ⟨true, rfl, (fun h => by cases h), rfl⟩
              · have p3 : (t2 : Int) + (16 + (s.size : Int)) ≤ 1048576 := by omega
                have NX : Hid (rsum (l.take (j + 1)) ≤ t2 + (16 + s.size)) := by
                  have := HJ.out
                  show _ ≤ _
                  rw [HSN.out]
                  omega
                clear HJ HSN
                go_wp2
                exact ⟨⟨t2 + (16 + s.size), j + 1, by go_num, by go_num, by omega, by omega, NX.out, by trivial⟩, by simp [intOf]; omega⟩
          · have e1 : (l.length : Int) ≤ (j : Int) := by omega
            by_cases q3 : 1048576 < t2
            · have p3 : (1048576 : Int) < (t2 : Int) := by omega
              go_wp2
              go_ret
              exact ⟨true, rfl, (fun h => by cases h), rfl⟩
            · have p3 : (t2 : Int) ≤ 1048576 := by omega
              have NX : Hid (∀ k, k < i + 1 → (L.getD k []).length ≤ 65536 ∧ rsum (L.getD k []) ≤ 1048576) := by
                intro k hk
                rcases Nat.lt_or_ge k i with h | h
                · exact HI.out k h
                · obtain rfl : k = i := by omega
                  rw [← HLL.out]
                  have := HJ.out
                  rw [List.take_of_length_le (by omega)] at this
                  exact ⟨by omega, by omega⟩
              clear HJ
              go_wp2
              exact ⟨⟨t2, i + 1, rfl, by go_num, by omega, by omega, NX.out, by trivial⟩, by simp [intOf]; omega⟩
    · have d1 : (L.length : Int) ≤ (i : Int) := by omega
      have SM : Hid (Small L) := ⟨by omega, fun k hk => HI.out k (by omega)⟩
      go_wp2
      go_ret
      exact ⟨false, rfl, fun _ => SM.out, rfl⟩
end Go.Proofs.Qxb6605488a
