import Derived.Test.Qxb6605488aWf
namespace Go.Proofs.Qxb6605488a
open Go.RowKit
set_option linter.unusedVariables false
set_option linter.unusedSimpArgs false

/-- What 'zzBytes' answers: some bool. -/
def ByPost (w : World) (e : Ending) (w' : World) : Prop := ∃ b, e = .returned (.bool b) ∧ w = w'

set_option maxRecDepth 100000 in
set_option maxHeartbeats 4000000 in
theorem bytes12_any (ak an : Option Addr) (nk nn ck cn : Nat) (vl : Value) (L : List (List ByteArray)) (st : Bool) (w : World) (hL : Lns (fun _ => True) w vl L) (hk : nk ≤ 9223372036854775807) (hn : nn ≤ 9223372036854775807) (hll : L.length ≤ 9223372036854775807) (hmax : ∀ i, i < L.length → (L.getD i []).length ≤ 9223372036854775807 ∧ ∀ j, j < (L.getD i []).length → ((L.getD i []).getD j ByteArray.empty).size ≤ 9223372036854775807) :
    Calls Try.prog 12 #[.slice ak nk ck, .slice an nn cn, vl, .bool st] w fun e w' => ByPost w e w' := by
  obtain ⟨al, cl, rfl, hcl, hrow⟩ := hL.open
  have HROW : Hid (∀ i, i < L.length → ∃ x rv, al = some x ∧ w.cell? (x.add i) = some rv ∧ RowAt w rv (L.getD i [])) := hrow
  have HMAX : Hid (∀ i, i < L.length → (L.getD i []).length ≤ 9223372036854775807 ∧ ∀ j, j < (L.getD i []).length → ((L.getD i []).getD j ByteArray.empty).size ≤ 9223372036854775807) := hmax
  clear hrow hL hmax
  by_cases k1 : 1048576 < nk
  · have i1 : (1048576 : Int) < (nk : Int) := by omega
    go_enter Try.func12, Try.ntmps12
    go_wp2
    go_ret
    exact ⟨false, rfl, rfl⟩
  have i1 : (nk : Int) ≤ 1048576 := by omega
  have hw1 := wr64 (nk : Int) (by omega) (by omega)
  have hz1 : (0 : Int) + (nk : Int) = (nk : Int) := by omega
  by_cases k2 : 1048576 < nn
  · have i2 : (1048576 : Int) < (nn : Int) := by omega
    go_enter Try.func12, Try.ntmps12
    go_wp2
    go_ret
    exact ⟨false, rfl, rfl⟩
  have i2 : (nn : Int) ≤ 1048576 := by omega
  have hw2 := wr64 ((nk : Int) + (nn : Int)) (by omega) (by omega)
  by_cases k3 : 1048576 < nk + nn
  · have i3 : (1048576 : Int) < (nk : Int) + (nn : Int) := by omega
    go_enter Try.func12, Try.ntmps12
    go_wp2
    go_ret
    exact ⟨false, rfl, rfl⟩
  have i3 : (nk : Int) + (nn : Int) ≤ 1048576 := by omega
  by_cases k4 : 1048576 < L.length
  · have i4 : (1048576 : Int) < (L.length : Int) := by omega
    go_enter Try.func12, Try.ntmps12
    go_wp2
    go_ret
    exact ⟨false, rfl, rfl⟩
  have i4 : (L.length : Int) ≤ 1048576 := by omega
  have hw3 := wr64 ((nk : Int) + (nn : Int) + (L.length : Int)) (by omega) (by omega)
  by_cases k5 : 1048576 < nk + nn + L.length
  · have i5 : (1048576 : Int) < (nk : Int) + (nn : Int) + (L.length : Int) := by omega
    go_enter Try.func12, Try.ntmps12
    go_wp2
    go_ret
    exact ⟨false, rfl, rfl⟩
  have i5 : (nk : Int) + (nn : Int) + (L.length : Int) ≤ 1048576 := by omega
  clear k1 k2 k3 k4
  go_enter Try.func12, Try.ntmps12
  go_wp2
  go_loopw [9, 10] (fun u v wr => ∃ t i : Nat, u = .int .i64 t ∧ v = .int .i64 i ∧ t ≤ 1048576 ∧ i ≤ L.length ∧ w = wr) (fun _ v _ => L.length - (intOf v).toNat)
  case atStart => exact ⟨nk + nn + L.length, 0, by go_num, rfl, by omega, Nat.zero_le _, rfl⟩
  case round =>
    clear hw1 hw2 hw3 hz1 i1 i2 i3 i5 k5
    obtain ⟨t, i, rfl, rfl, ht, hi, rfl⟩ := hrel
    have d0 : (0 : Int) ≤ (i : Int) := by omega
    have t0 : (t : Int) ≤ 1048576 := by omega
    by_cases hlt : i < L.length
    · have d1 : (i : Int) < (L.length : Int) := by omega
      obtain ⟨x, rv, rfl, hcell, a, c, rfl, hac, hstr⟩ := HROW.out i hlt
      have HM := HMAX.out i hlt
      have HMS : Hid (∀ j, j < (L.getD i []).length → ((L.getD i []).getD j ByteArray.empty).size ≤ 9223372036854775807) := HM.2
      have hm1 := HM.1
      have HSTR : Hid (∀ j, j < (L.getD i []).length → ∃ y, a = some y ∧ w.cell? (y.add j) = some (.string ((L.getD i []).getD j ByteArray.empty))) := hstr
      clear hstr HM
      obtain ⟨l, hl⟩ : ∃ l, l = L.getD i [] := ⟨_, rfl⟩
      rw [← hl] at hcell hac HMS hm1 HSTR
      clear hl
      have hwi := wr64 ((i : Int) + 1) (by omega) (by omega)
      by_cases q1 : 1048576 < l.length
      · have p1 : (1048576 : Int) < (l.length : Int) := by omega
        go_wp2
        go_ret
        exact ⟨false, rfl, rfl⟩
      · have p1 : (l.length : Int) ≤ 1048576 := by omega
        have hwt := wr64 ((t : Int) + (l.length : Int)) (by omega) (by omega)
        by_cases q2 : 1048576 < t + l.length
        · have p2 : (1048576 : Int) < (t : Int) + (l.length : Int) := by omega
          go_wp2
          go_ret
          exact ⟨false, rfl, rfl⟩
        · have p2 : (t : Int) + (l.length : Int) ≤ 1048576 := by omega
          go_wp2
          go_loopw [9, 11] (fun u v wr => ∃ t2 j : Nat, u = .int .i64 t2 ∧ v = .int .i64 j ∧ t2 ≤ 1048576 ∧ j ≤ l.length ∧ w = wr) (fun _ v _ => l.length - (intOf v).toNat)
          case atStart => exact ⟨t + l.length, 0, by go_num, rfl, by omega, Nat.zero_le _, rfl⟩
          case round =>
            clear hwt p2 q2
            obtain ⟨t2, j, rfl, rfl, ht2, hj, rfl⟩ := hrel
            have e0 : (0 : Int) ≤ (j : Int) := by omega
            have t20 : (t2 : Int) ≤ 1048576 := by omega
            by_cases hjl : j < l.length
            · have e1 : (j : Int) < (l.length : Int) := by omega
              obtain ⟨y, rfl, hyc⟩ := HSTR.out j hjl
              have hms := HMS.out j hjl
              obtain ⟨s, hs⟩ : ∃ s, s = l.getD j ByteArray.empty := ⟨_, rfl⟩
              rw [← hs] at hyc hms
              clear hs
              have hwj := wr64 ((j : Int) + 1) (by omega) (by omega)
              by_cases q3 : 1048576 < s.size
              · have p3 : (1048576 : Int) < (s.size : Int) := by omega
                go_wp2
                go_ret
                exact ⟨false, rfl, rfl⟩
              · have p3 : (s.size : Int) ≤ 1048576 := by omega
                have hwa := wr64 ((t2 : Int) + (s.size : Int)) (by omega) (by omega)
                by_cases q4 : 1048576 < t2 + s.size
                · have p4 : (1048576 : Int) < (t2 : Int) + (s.size : Int) := by omega
                  go_wp2
                  go_ret
                  exact ⟨false, rfl, rfl⟩
                · have p4 : (t2 : Int) + (s.size : Int) ≤ 1048576 := by omega
                  go_wp2
                  exact ⟨⟨t2 + s.size, j + 1, by go_num, by go_num, by omega, by omega, by trivial⟩, by simp [intOf]; omega⟩
            · have e1 : (l.length : Int) ≤ (j : Int) := by omega
              go_wp2
              exact ⟨⟨t2, i + 1, rfl, by go_num, by omega, by omega, by trivial⟩, by simp [intOf]; omega⟩
    · have d1 : (L.length : Int) ≤ (i : Int) := by omega
      go_wp2
      go_ret
      exact ⟨true, rfl, rfl⟩

set_option maxRecDepth 100000 in
set_option maxHeartbeats 4000000 in
theorem bytes20_any (ak an : Option Addr) (nk nn ck cn : Nat) (vl : Value) (L : List (List ByteArray)) (st : Bool) (w : World) (hL : Lns (fun _ => True) w vl L) (hk : nk ≤ 9223372036854775807) (hn : nn ≤ 9223372036854775807) (hll : L.length ≤ 9223372036854775807) (hmax : ∀ i, i < L.length → (L.getD i []).length ≤ 9223372036854775807 ∧ ∀ j, j < (L.getD i []).length → ((L.getD i []).getD j ByteArray.empty).size ≤ 9223372036854775807) :
    Calls Try.prog 20 #[.slice ak nk ck, .slice an nn cn, vl, .bool st] w fun e w' => ByPost w e w' := by
  obtain ⟨al, cl, rfl, hcl, hrow⟩ := hL.open
  have HROW : Hid (∀ i, i < L.length → ∃ x rv, al = some x ∧ w.cell? (x.add i) = some rv ∧ RowAt w rv (L.getD i [])) := hrow
  have HMAX : Hid (∀ i, i < L.length → (L.getD i []).length ≤ 9223372036854775807 ∧ ∀ j, j < (L.getD i []).length → ((L.getD i []).getD j ByteArray.empty).size ≤ 9223372036854775807) := hmax
  clear hrow hL hmax
  by_cases k1 : 1048576 < nk
  · have i1 : (1048576 : Int) < (nk : Int) := by omega
    go_enter Try.func20, Try.ntmps20
    go_wp2
    go_ret
    exact ⟨false, rfl, rfl⟩
  have i1 : (nk : Int) ≤ 1048576 := by omega
  have hw1 := wr64 (nk : Int) (by omega) (by omega)
  have hz1 : (0 : Int) + (nk : Int) = (nk : Int) := by omega
  by_cases k2 : 1048576 < nn
  · have i2 : (1048576 : Int) < (nn : Int) := by omega
    go_enter Try.func20, Try.ntmps20
    go_wp2
    go_ret
    exact ⟨false, rfl, rfl⟩
  have i2 : (nn : Int) ≤ 1048576 := by omega
  have hw2 := wr64 ((nk : Int) + (nn : Int)) (by omega) (by omega)
  by_cases k3 : 1048576 < nk + nn
  · have i3 : (1048576 : Int) < (nk : Int) + (nn : Int) := by omega
    go_enter Try.func20, Try.ntmps20
    go_wp2
    go_ret
    exact ⟨false, rfl, rfl⟩
  have i3 : (nk : Int) + (nn : Int) ≤ 1048576 := by omega
  by_cases k4 : 1048576 < L.length
  · have i4 : (1048576 : Int) < (L.length : Int) := by omega
    go_enter Try.func20, Try.ntmps20
    go_wp2
    go_ret
    exact ⟨false, rfl, rfl⟩
  have i4 : (L.length : Int) ≤ 1048576 := by omega
  have hw3 := wr64 ((nk : Int) + (nn : Int) + (L.length : Int)) (by omega) (by omega)
  by_cases k5 : 1048576 < nk + nn + L.length
  · have i5 : (1048576 : Int) < (nk : Int) + (nn : Int) + (L.length : Int) := by omega
    go_enter Try.func20, Try.ntmps20
    go_wp2
    go_ret
    exact ⟨false, rfl, rfl⟩
  have i5 : (nk : Int) + (nn : Int) + (L.length : Int) ≤ 1048576 := by omega
  clear k1 k2 k3 k4
  go_enter Try.func20, Try.ntmps20
  go_wp2
  go_loopw [9, 10] (fun u v wr => ∃ t i : Nat, u = .int .i64 t ∧ v = .int .i64 i ∧ t ≤ 1048576 ∧ i ≤ L.length ∧ w = wr) (fun _ v _ => L.length - (intOf v).toNat)
  case atStart => exact ⟨nk + nn + L.length, 0, by go_num, rfl, by omega, Nat.zero_le _, rfl⟩
  case round =>
    clear hw1 hw2 hw3 hz1 i1 i2 i3 i5 k5
    obtain ⟨t, i, rfl, rfl, ht, hi, rfl⟩ := hrel
    have d0 : (0 : Int) ≤ (i : Int) := by omega
    have t0 : (t : Int) ≤ 1048576 := by omega
    by_cases hlt : i < L.length
    · have d1 : (i : Int) < (L.length : Int) := by omega
      obtain ⟨x, rv, rfl, hcell, a, c, rfl, hac, hstr⟩ := HROW.out i hlt
      have HM := HMAX.out i hlt
      have HMS : Hid (∀ j, j < (L.getD i []).length → ((L.getD i []).getD j ByteArray.empty).size ≤ 9223372036854775807) := HM.2
      have hm1 := HM.1
      have HSTR : Hid (∀ j, j < (L.getD i []).length → ∃ y, a = some y ∧ w.cell? (y.add j) = some (.string ((L.getD i []).getD j ByteArray.empty))) := hstr
      clear hstr HM
      obtain ⟨l, hl⟩ : ∃ l, l = L.getD i [] := ⟨_, rfl⟩
      rw [← hl] at hcell hac HMS hm1 HSTR
      clear hl
      have hwi := wr64 ((i : Int) + 1) (by omega) (by omega)
      by_cases q1 : 1048576 < l.length
      · have p1 : (1048576 : Int) < (l.length : Int) := by omega
        go_wp2
        go_ret
        exact ⟨false, rfl, rfl⟩
      · have p1 : (l.length : Int) ≤ 1048576 := by omega
        have hwt := wr64 ((t : Int) + (l.length : Int)) (by omega) (by omega)
        by_cases q2 : 1048576 < t + l.length
        · have p2 : (1048576 : Int) < (t : Int) + (l.length : Int) := by omega
          go_wp2
          go_ret
          exact ⟨false, rfl, rfl⟩
        · have p2 : (t : Int) + (l.length : Int) ≤ 1048576 := by omega
          go_wp2
          go_loopw [9, 11] (fun u v wr => ∃ t2 j : Nat, u = .int .i64 t2 ∧ v = .int .i64 j ∧ t2 ≤ 1048576 ∧ j ≤ l.length ∧ w = wr) (fun _ v _ => l.length - (intOf v).toNat)
          case atStart => exact ⟨t + l.length, 0, by go_num, rfl, by omega, Nat.zero_le _, rfl⟩
          case round =>
            clear hwt p2 q2
            obtain ⟨t2, j, rfl, rfl, ht2, hj, rfl⟩ := hrel
            have e0 : (0 : Int) ≤ (j : Int) := by omega
            have t20 : (t2 : Int) ≤ 1048576 := by omega
            by_cases hjl : j < l.length
            · have e1 : (j : Int) < (l.length : Int) := by omega
              obtain ⟨y, rfl, hyc⟩ := HSTR.out j hjl
              have hms := HMS.out j hjl
              obtain ⟨s, hs⟩ : ∃ s, s = l.getD j ByteArray.empty := ⟨_, rfl⟩
              rw [← hs] at hyc hms
              clear hs
              have hwj := wr64 ((j : Int) + 1) (by omega) (by omega)
              by_cases q3 : 1048576 < s.size
              · have p3 : (1048576 : Int) < (s.size : Int) := by omega
                go_wp2
                go_ret
                exact ⟨false, rfl, rfl⟩
              · have p3 : (s.size : Int) ≤ 1048576 := by omega
                have hwa := wr64 ((t2 : Int) + (s.size : Int)) (by omega) (by omega)
                by_cases q4 : 1048576 < t2 + s.size
                · have p4 : (1048576 : Int) < (t2 : Int) + (s.size : Int) := by omega
                  go_wp2
                  go_ret
                  exact ⟨false, rfl, rfl⟩
                · have p4 : (t2 : Int) + (s.size : Int) ≤ 1048576 := by omega
                  go_wp2
                  exact ⟨⟨t2 + s.size, j + 1, by go_num, by go_num, by omega, by omega, by trivial⟩, by simp [intOf]; omega⟩
            · have e1 : (l.length : Int) ≤ (j : Int) := by omega
              go_wp2
              exact ⟨⟨t2, i + 1, rfl, by go_num, by omega, by omega, by trivial⟩, by simp [intOf]; omega⟩
    · have d1 : (L.length : Int) ≤ (i : Int) := by omega
      go_wp2
      go_ret
      exact ⟨true, rfl, rfl⟩

set_option maxRecDepth 100000 in
set_option maxHeartbeats 4000000 in
theorem toobig2_any (ak an : Option Addr) (nk nn ck cn : Nat) (vl : Value) (L : List (List ByteArray)) (w : World) (hL : Lns (fun _ => True) w vl L) (hk : nk ≤ 9223372036854775807) (hn : nn ≤ 9223372036854775807) (hll : L.length ≤ 9223372036854775807) (hmax : ∀ i, i < L.length → (L.getD i []).length ≤ 9223372036854775807 ∧ ∀ j, j < (L.getD i []).length → ((L.getD i []).getD j ByteArray.empty).size ≤ 9223372036854775807) :
    Calls Try.prog 13 #[.slice ak nk ck, .slice an nn cn, vl] w fun e w' => TbPost L w e w' := by
  obtain ⟨al, cl, rfl, hcl, hrow⟩ := hL.open
  have HROW : Hid (∀ i, i < L.length → ∃ x rv, al = some x ∧ w.cell? (x.add i) = some rv ∧ RowAt w rv (L.getD i [])) := hrow
  have HMAX : Hid (∀ i, i < L.length → (L.getD i []).length ≤ 9223372036854775807 ∧ ∀ j, j < (L.getD i []).length → ((L.getD i []).getD j ByteArray.empty).size ≤ 9223372036854775807) := hmax
  clear hrow hL hmax
  by_cases k1 : 65536 < nk
  · have i1 : (65536 : Int) < (nk : Int) := by omega
    go_enter Try.func13, Try.ntmps13
    go_wp2
    go_ret
    exact ⟨true, rfl, (fun h => by cases h), rfl⟩
  by_cases k2 : 65536 < nn
  · have i1 : ¬ (65536 : Int) < (nk : Int) := by omega
    have i2 : (65536 : Int) < (nn : Int) := by omega
    go_enter Try.func13, Try.ntmps13
    go_wp2
    go_ret
    exact ⟨true, rfl, (fun h => by cases h), rfl⟩
  by_cases k3 : 65536 < L.length
  · have i1 : ¬ (65536 : Int) < (nk : Int) := by omega
    have i2 : ¬ (65536 : Int) < (nn : Int) := by omega
    have i3 : (65536 : Int) < (L.length : Int) := by omega
    go_enter Try.func13, Try.ntmps13
    go_wp2
    go_ret
    exact ⟨true, rfl, (fun h => by cases h), rfl⟩
  have i1 : (nk : Int) ≤ 65536 := by omega
  have i2 : (nn : Int) ≤ 65536 := by omega
  have i3 : (L.length : Int) ≤ 65536 := by omega
  have hw1 := wr64 ((nk : Int) * 8) (by omega) (by omega)
  have hw2 := wr64 ((nk : Int) * 8 + (nn : Int)) (by omega) (by omega)
  clear k1 k2 k3
  go_enter Try.func13, Try.ntmps13
  go_wp2
  go_loopw [7, 8] (fun u v wr => ∃ t i : Nat, u = .int .i64 t ∧ v = .int .i64 i ∧ t ≤ 1048576 ∧ i ≤ L.length ∧ Hid (∀ k, k < i → (L.getD k []).length ≤ 65536 ∧ rsum (L.getD k []) ≤ 1048576) ∧ w = wr) (fun _ v _ => L.length - (intOf v).toNat)
  case atStart => exact ⟨nk * 8 + nn, 0, by go_num, rfl, by omega, Nat.zero_le _, fun k hk => by omega, rfl⟩
  case round =>
    clear hw1 hw2
    obtain ⟨t, i, rfl, rfl, ht, hi, HI, rfl⟩ := hrel
    have d0 : (0 : Int) ≤ (i : Int) := by omega
    have t0 : (t : Int) ≤ 1048576 := by omega
    by_cases hlt : i < L.length
    · have d1 : (i : Int) < (L.length : Int) := by omega
      obtain ⟨x, rv, rfl, hcell, a, c, rfl, hac, hstr⟩ := HROW.out i hlt
      have HM := HMAX.out i hlt
      have HMS : Hid (∀ j, j < (L.getD i []).length → ((L.getD i []).getD j ByteArray.empty).size ≤ 9223372036854775807) := HM.2
      have hm1 := HM.1
      have HSTR : Hid (∀ j, j < (L.getD i []).length → ∃ y, a = some y ∧ w.cell? (y.add j) = some (.string ((L.getD i []).getD j ByteArray.empty))) := hstr
      clear hstr HM
      obtain ⟨l, hl⟩ : ∃ l, l = L.getD i [] := ⟨_, rfl⟩
      have HLL : Hid (l = L.getD i []) := hl
      rw [← hl] at hcell hac HMS hm1 HSTR
      clear hl
      have hwi := wr64 ((i : Int) + 1) (by omega) (by omega)
      by_cases q1 : 65536 < l.length
      · have p1 : (65536 : Int) < (l.length : Int) := by omega
        go_wp2
        go_ret
        exact ⟨true, rfl, (fun h => by cases h), rfl⟩
      · have p1 : (l.length : Int) ≤ 65536 := by omega
        have hwt := wr64 ((t : Int) + 24) (by omega) (by omega)
        go_wp2
        go_loopw [7, 9] (fun u v wr => ∃ t2 j : Nat, u = .int .i64 t2 ∧ v = .int .i64 j ∧ t2 ≤ 1048600 ∧ j ≤ l.length ∧ Hid (rsum (l.take j) ≤ t2) ∧ w = wr) (fun _ v _ => l.length - (intOf v).toNat)
        case atStart => exact ⟨t + 24, 0, by go_num, rfl, by omega, Nat.zero_le _, by show _ ≤ _; simp [rsum], rfl⟩
        case round =>
          clear hwt
          obtain ⟨t2, j, rfl, rfl, ht2, hj, HJ, rfl⟩ := hrel
          have e0 : (0 : Int) ≤ (j : Int) := by omega
          have t20 : (t2 : Int) ≤ 1048600 := by omega
          by_cases hjl : j < l.length
          · have e1 : (j : Int) < (l.length : Int) := by omega
            obtain ⟨y, rfl, hyc⟩ := HSTR.out j hjl
            have hms := HMS.out j hjl
            have HSN : Hid (rsum (l.take (j + 1)) = rsum (l.take j) + ((l.getD j ByteArray.empty).size + 16)) := rsum_snoc l j hjl
            obtain ⟨s, hs⟩ : ∃ s, s = l.getD j ByteArray.empty := ⟨_, rfl⟩
            rw [← hs] at hyc hms HSN
            clear hs
            have hwj := wr64 ((j : Int) + 1) (by omega) (by omega)
            by_cases q2 : 1048576 < s.size
            · have p2 : (1048576 : Int) < (s.size : Int) := by omega
              go_wp2
              go_ret
              exact ⟨true, rfl, (fun h => by cases h), rfl⟩
            · have p2 : (s.size : Int) ≤ 1048576 := by omega
              have hwa := wr64 (16 + (s.size : Int)) (by omega) (by omega)
              have hwb := wr64 ((t2 : Int) + (16 + (s.size : Int))) (by omega) (by omega)
              by_cases q3 : 1048576 < t2 + (16 + s.size)
              · have p3 : (1048576 : Int) < (t2 : Int) + (16 + (s.size : Int)) := by omega
                go_wp2
                go_ret
                exact ⟨true, rfl, (fun h => by cases h), rfl⟩
              · have p3 : (t2 : Int) + (16 + (s.size : Int)) ≤ 1048576 := by omega
                have NX : Hid (rsum (l.take (j + 1)) ≤ t2 + (16 + s.size)) := by
                  have := HJ.out
                  show _ ≤ _
                  rw [HSN.out]
                  omega
                clear HJ HSN
                go_wp2
                exact ⟨⟨t2 + (16 + s.size), j + 1, by go_num, by go_num, by omega, by omega, NX.out, by trivial⟩, by simp [intOf]; omega⟩
          · have e1 : (l.length : Int) ≤ (j : Int) := by omega
            by_cases q3 : 1048576 < t2
            · have p3 : (1048576 : Int) < (t2 : Int) := by omega
              go_wp2
              go_ret
              exact ⟨true, rfl, (fun h => by cases h), rfl⟩
            · have p3 : (t2 : Int) ≤ 1048576 := by omega
              have NX : Hid (∀ k, k < i + 1 → (L.getD k []).length ≤ 65536 ∧ rsum (L.getD k []) ≤ 1048576) := by
                intro k hk
                rcases Nat.lt_or_ge k i with h | h
                · exact HI.out k h
                · obtain rfl : k = i := by omega
                  rw [← HLL.out]
                  have := HJ.out
                  rw [List.take_of_length_le (by omega)] at this
                  exact ⟨by omega, by omega⟩
              clear HJ
              go_wp2
              exact ⟨⟨t2, i + 1, rfl, by go_num, by omega, by omega, NX.out, by trivial⟩, by simp [intOf]; omega⟩
    · have d1 : (L.length : Int) ≤ (i : Int) := by omega
      have SM : Hid (Small L) := ⟨by omega, fun k hk => HI.out k (by omega)⟩
      go_wp2
      go_ret
      exact ⟨false, rfl, fun _ => SM.out, rfl⟩
end Go.Proofs.Qxb6605488a
