import Derived.Test.Qxb6605252aShelf
import Derived.WalkKit
import Derived.WalkSpells
import Derived.WalkLawsBesides
import Derived.Deep.RegionHeld3
import Derived.Lib.IndexLaws
import Derived.Deep.LoopGhost
namespace Go.Proofs.Qxb6605252a
open Go.RowKit
set_option linter.unusedVariables false

theorem wr64 (x : Int) (h1 : -9223372036854775808 ≤ x) (h2 : x ≤ 9223372036854775807) : IntKind.i64.wrap x = x := by rw [IntKind.wrap_i64]; omega

theorem str_at (s : ByteArray) (i : Nat) (h : i < s.size) : s.data.toList[i]? = some s[i] := by
  rw [List.getElem?_eq_getElem (by simpa using h)]
  rfl

theorem pre_take (e l : List UInt8) (m : Nat) (h : m < e.length) (hl : m < l.length) : e.take (m + 1) = l.take (m + 1) ↔ e.take m = l.take m ∧ e[m] = l[m] := by
  rw [List.take_succ_eq_append_getElem h, List.take_succ_eq_append_getElem hl]
  constructor
  · intro hh
    have := List.append_inj hh (by simp; omega)
    exact ⟨this.1, by simpa using this.2⟩
  · rintro ⟨h1, h2⟩
    rw [h1, h2]

/-- end begins at place k of src -/
def occ (src e : ByteArray) (k : Nat) : Bool := Lib.occAt src.data.toList e.data.toList k

theorem occ_iff (src e : ByteArray) (k : Nat) (h : k + e.size ≤ src.size) : occ src e k = true ↔ e.data.toList.take e.size = (src.data.toList.drop k).take e.size := by
  unfold occ Lib.occAt
  rw [List.isPrefixOf_iff_prefix, List.prefix_iff_eq_take]
  have : e.data.toList.length = e.size := by simp
  rw [this]
  have h2 : e.data.toList.take e.size = e.data.toList := List.take_of_length_le (by omega)
  rw [h2]

theorem occ_yes (src e : ByteArray) (k m : Nat) (h1 : k + e.size ≤ src.size) (hm : m < e.size) (h : k + m < src.size) (hp : e.data.toList.take m = (src.data.toList.drop k).take m) (hb : (src[k + m].toNat : Int) = (e[m].toNat : Int)) :
    e.data.toList.take (m + 1) = (src.data.toList.drop k).take (m + 1) := by
  have hs : src.data.toList.length = src.size := by simp
  have he : e.data.toList.length = e.size := by simp
  refine (pre_take _ _ m (by omega) (by simp; omega)).2 ⟨hp, ?_⟩
  rw [List.getElem_drop]
  have e1 := str_at e m hm
  have e2 := str_at src (k + m) h
  rw [List.getElem?_eq_getElem (by omega)] at e1 e2
  rw [Option.some.inj e1, Option.some.inj e2]
  apply UInt8.toNat.inj
  omega
theorem occ_no (src e : ByteArray) (k m : Nat) (h1 : k + e.size ≤ src.size) (hm : m < e.size) (h : k + m < src.size) (hb : ¬ (src[k + m].toNat : Int) = (e[m].toNat : Int)) : occ src e k = false := by
  have hs : src.data.toList.length = src.size := by simp
  have he : e.data.toList.length = e.size := by simp
  rw [Bool.eq_false_iff]
  intro ho
  rw [occ_iff src e k h1] at ho
  have h5 : e.data.toList.take (m + 1) = (src.data.toList.drop k).take (m + 1) := by
    have := congrArg (List.take (m + 1)) ho
    rw [List.take_take, List.take_take, Nat.min_eq_left (by omega)] at this
    exact this
  have h6 := ((pre_take _ _ m (by omega) (by simp; omega)).1 h5).2
  rw [List.getElem_drop] at h6
  have e1 := str_at e m hm
  have e2 := str_at src (k + m) h
  rw [List.getElem?_eq_getElem (by omega)] at e1 e2
  rw [Option.some.inj e1, Option.some.inj e2] at h6
  exact hb (by rw [h6])

set_option maxHeartbeats 800000 in
theorem match_any (src e : ByteArray) (k : Nat) (w : World) (h1 : k + e.size ≤ src.size) (h2 : src.size ≤ 65536) :
    Calls Try.prog 11 #[.string src, .int .i64 k, .string e] w fun en w' => en = .returned (.bool (occ src e k)) ∧ ∃ n, w' = w.drewN n := by
  go_enter Try.func11, Try.ntmps11
  go_wp2
  go_loopw [7] (fun i wr => ∃ m n : Nat, m ≤ e.size ∧ i = .int .i64 m ∧ wr = w.drewN n ∧ Hid (e.data.toList.take m = (src.data.toList.drop k).take m)) (fun i _ => e.size - (intOf i).toNat)
  case atStart => exact ⟨0, 0, Nat.zero_le _, rfl, rfl, rfl⟩
  case round =>
    obtain ⟨m, n, hm, rfl, rfl, HM⟩ := hrel
    by_cases hlt : m < e.size
    · have b1 : (0 : Int) ≤ (k : Int) + (m : Int) := by omega
      have b2 : (k : Int) + (m : Int) < (src.size : Int) := by omega
      have b3 : (0 : Int) ≤ (m : Int) := by omega
      have b4 : (m : Int) < (e.size : Int) := by omega
      have hw := wr64 ((k : Int) + (m : Int)) (by omega) (by omega)
      have ht : ((k : Int) + (m : Int)).toNat = k + m := by omega
      have hkm : k + m < src.size := by omega
      by_cases hb : (src[k + m].toNat : Int) = (e[m].toNat : Int)
      · have HB : Hid _ := occ_yes src e k m h1 hlt hkm HM.out hb
        go_wp2
        go_region
        go_wp2
        exact ⟨⟨m + 1, n + 1, by omega, by go_num, rfl, HB.out⟩, by simp [intOf]; omega⟩
      · have HB : Hid _ := occ_no src e k m h1 hlt hkm hb
        have hb2 : ((src[k + m].toNat : Int) != (e[m].toNat : Int)) = true := by simpa using hb
        go_wp2
        go_region
        go_wp2
        go_ret
        exact ⟨by rw [HB.out]; rfl, n + 1, rfl⟩
    · have hme : m = e.size := by omega
      subst hme
      have HO : Hid _ := (occ_iff src e k h1).2 HM.out
      go_wp2
      go_ret
      exact ⟨by rw [HO.out]; rfl, n, rfl⟩


set_option maxHeartbeats 800000 in
theorem skip_any (src e : ByteArray) (i : Nat) (m0 : Int) (ix : Int) (w : World) (h1 : i ≤ src.size) (h2 : src.size ≤ 65536) (h3 : e.size ≤ 4096) (hm : w.cell? ⟨0, 0, none⟩ = some (.int .i64 m0)) (hix : ix = Lib.index (src.data.toList.drop i) e.data.toList) (x1 : -1 ≤ ix) (x2 : ix ≤ 65536) :
    Calls Try.prog 12 #[.string src, .int .i64 i, .string e] w fun en w' => (ix < 0 → en = .returned (.tuple #[.int .i64 i, .bool false])) ∧ (0 ≤ ix → en = .returned (.tuple #[.int .i64 (i + (ix + e.size)), .bool true])) ∧ Below w.heap.size w w' := by
  have b1 : (0 : Int) ≤ (i : Int) := by omega
  have b2 : (i : Int) ≤ (src.size : Int) := by omega
  have hext : (src.extract i src.size).data.toList = src.data.toList.drop i := by rw [Lib.extract_data, List.take_of_length_le (by simp)]
  have HEXT : Hid _ := hext
  have HIX : Hid _ := hix
  have hlt : 0 < w.heap.size := by
    rcases Nat.lt_or_ge 0 w.heap.size with h | h
    · exact h
    · simp [World.cell?, Array.getElem?_eq_none h] at hm
  have hm2 : ∀ o : Obj, (w.alloc o).cell? ⟨0, 0, none⟩ = some (.int .i64 m0) := fun o => by rw [← hm]; exact World.cell?_of_block (w := w) (Below.heap_alloc _ _ _ hlt)
  clear hext hix
  go_enter Try.func12, Try.ntmps12
  by_cases hx : ix < 0
  · go_wp2
    go_region_held3 (fun w' => w'.cell? ⟨w.heap.size, 0, none⟩ = some (.string src) ∧ w'.cell? ⟨w.heap.size, 1, none⟩ = some (.int .i64 i)) (simp)
      ((go_at_call 15; refine (Try.strings_Index (src.extract i src.size) e m0 _ (by simp; omega) (by exact hm2 _)).mono ?_; rintro en w' ⟨rfl, rfl⟩; rw [HEXT.out, ← HIX.out]))
    go_wp2
    go_ret2
    exact ⟨fun _ => rfl, fun h => absurd h (by omega), ((Below.refl _ _).alloc (Nat.le_refl _) _).drew⟩
  · have hw1 := wr64 (ix + (e.size : Int)) (by omega) (by omega)
    have hw2 := wr64 ((i : Int) + (ix + (e.size : Int))) (by omega) (by omega)
    go_wp2
    go_region_held3 (fun w' => w'.cell? ⟨w.heap.size, 0, none⟩ = some (.string src) ∧ w'.cell? ⟨w.heap.size, 1, none⟩ = some (.int .i64 i)) (simp)
      ((go_at_call 15; refine (Try.strings_Index (src.extract i src.size) e m0 _ (by simp; omega) (by exact hm2 _)).mono ?_; rintro en w' ⟨rfl, rfl⟩; rw [HEXT.out, ← HIX.out]))
    go_wp2
    go_ret2
    exact ⟨fun h => absurd h (by omega), fun _ => rfl, ((Below.refl _ _).alloc (Nat.le_refl _) _).drew⟩

theorem index_le (l e : List UInt8) : Lib.index l e ≤ l.length := by
  induction l with
  | nil => unfold Lib.index; split <;> simp
  | cons b l ih =>
    unfold Lib.index
    split
    · simp; omega
    · split
      · simp; omega
      · simp; omega

set_option maxHeartbeats 800000 in
theorem big_any (src e : ByteArray) (i : Int) (w : World) (h : ¬ (src.size ≤ 65536 ∧ e.size ≤ 4096 ∧ 0 ≤ i ∧ i ≤ src.size)) (hs : src.size ≤ maxLen) (he : e.size ≤ maxLen) (hi : (Lit.int .i64 i).wf = true) :
    Calls Try.prog 5 #[.string src, .int .i64 i, .string e] w fun en w' => en = .returned (.bool true) ∧ w' = w := by
  unfold maxLen at hs he
  by_cases h1 : 1048576 < src.size
  · clear h
    go_enter Try.func5, Try.ntmps5
    go_wp2
    go_ret
    exact ⟨rfl, rfl⟩
  by_cases h2 : 1048576 < e.size
  · clear h
    go_enter Try.func5, Try.ntmps5
    go_wp2
    go_ret
    exact ⟨rfl, rfl⟩
  by_cases h3 : 1048576 < src.size + e.size
  · clear h
    go_enter Try.func5, Try.ntmps5
    go_wp2
    go_ret
    exact ⟨rfl, rfl⟩
  by_cases h4 : 65536 < src.size
  · clear h
    go_enter Try.func5, Try.ntmps5
    go_wp2
    go_ret
    exact ⟨rfl, rfl⟩
  by_cases h5 : 4096 < e.size
  · clear h
    go_enter Try.func5, Try.ntmps5
    go_wp2
    go_ret
    exact ⟨rfl, rfl⟩
  by_cases h6 : i < 0
  · clear h
    go_enter Try.func5, Try.ntmps5
    go_wp2
    go_ret
    exact ⟨rfl, rfl⟩
  have h7 : (src.size : Int) < i := by omega
  clear h
  go_enter Try.func5, Try.ntmps5
  go_wp2
  go_ret
  exact ⟨rfl, rfl⟩

theorem bytes10 (src e : ByteArray) (i : Int) (w : World) (h1 : src.size ≤ 65536) (h2 : e.size ≤ 4096) :
    Calls Try.prog 10 #[.string src, .int .i64 i, .string e] w fun en w' => en = .returned (.bool true) ∧ w = w' := by
  have a1 : ¬ 1048576 < src.size := by omega
  have a2 : ¬ 1048576 < e.size := by omega
  have a3 : ¬ 1048576 < src.size + e.size := by omega
  go_enter Try.func10, Try.ntmps10
  go_wp2
  go_ret
  exact ⟨rfl, rfl⟩

theorem below_drewN {B : Nat} {a w : World} (h : Below B a w) (n : Nat) : Below B a (w.drewN n) := ⟨h.os, h.tape, h.output, h.size, h.block⟩

theorem occ_drop (src e : ByteArray) (i j : Nat) : Lib.occAt (src.data.toList.drop i) e.data.toList j = occ src e (i + j) := by
  unfold occ Lib.occAt
  rw [List.drop_drop]

set_option maxRecDepth 100000 in
set_option maxHeartbeats 1600000 in
theorem main_any (src e : ByteArray) (i : Nat) (m0 : Int) (w : World) (h1 : src.size ≤ 65536) (h2 : e.size ≤ 4096) (h3 : i ≤ src.size) (hm : w.cell? ⟨0, 0, none⟩ = some (.int .i64 m0)) :
    Calls Try.prog 5 #[.string src, .int .i64 i, .string e] w fun en w' => en = .returned (.bool true) ∧ Below w.heap.size w w' := by
  obtain ⟨ix, hix⟩ : ∃ ix, ix = Lib.index (src.data.toList.drop i) e.data.toList := ⟨_, rfl⟩
  have x1 : -1 ≤ ix := by rw [hix]; exact Lib.index_ge _ _
  have x2 : ix ≤ 65536 := by
    have := index_le (src.data.toList.drop i) e.data.toList
    rw [← hix] at this
    simp at this
    omega
  have HIX : Hid _ := hix
  clear hix
  have a1 : decide ((65536 : Int) < (src.size : Int)) = false := decide_eq_false (by omega)
  have a2 : decide ((4096 : Int) < (e.size : Int)) = false := decide_eq_false (by omega)
  have a3 : decide (src.size < i) = false := decide_eq_false (by omega)
  have a4 : decide ((i : Int) < 0) = false := decide_eq_false (by omega)
  go_enter Try.func5, Try.ntmps5
  go_wp2_with (first | (go_at_call 10; refine (bytes10 src e i _ h1 h2).mono ?_; rintro en w' ⟨rfl, rfl⟩))
  go_loopg [7, 8] (src.size + 1 - i) (fun g wa kk wr => wa = .int .i64 (-1) ∧ ∃ k n : Nat, g = src.size + 1 - k ∧ i ≤ k ∧ k ≤ src.size + 1 ∧ kk = .int .i64 k ∧ wr = w.drewN n ∧ Hid (Lib.NoOcc (src.data.toList.drop i) e.data.toList (k - i)))
  case atStart => exact ⟨rfl, i, 0, rfl, Nat.le_refl _, by omega, rfl, rfl, by rw [Nat.sub_self]; exact Lib.NoOcc.zero _ _⟩
  case round =>
    obtain ⟨rfl, k, n, rfl, hk1, hk2, rfl, rfl, HN⟩ := hrel
    by_cases hfit : k + e.size ≤ src.size
    · have b1 : (k : Int) + (e.size : Int) ≤ (src.size : Int) := by omega
      cases ho : occ src e k
      · have HO : Hid _ := ho
        go_wp2_with (first | (go_at_call 11; refine (match_any src e k _ hfit h1).mono ?_; rw [ho]; rintro en w' ⟨rfl, n2, rfl⟩))
        have := HN.out.succ (by rw [occ_drop, show i + (k - i) = k by omega]; exact HO.out)
        rw [show k - i + 1 = k + 1 - i by omega] at this
        go_roundg (src.size + 1 - (k + 1))
        case measure => omega
        case rel => exact ⟨rfl, k + 1, n + n2, rfl, by omega, by omega, by go_num, rfl, this⟩
      · have hx : ix = ((k - i : Nat) : Int) := by
          rw [HIX.out]
          exact Lib.index_hit HN.out (by simp; omega) (by rw [occ_drop, show i + (k - i) = k by omega]; exact ho)
        have HX : Hid (ix = ((k - i : Nat) : Int)) := hx
        have x3 : 0 ≤ ix := by omega
        have x4 : (i : Int) + (ix + (e.size : Int)) = (k : Int) + (e.size : Int) := by omega
        have X4 : Hid _ := x4
        clear hx x4
        go_wp2_with (first | (go_at_call 11; refine (match_any src e k _ hfit h1).mono ?_; rw [ho]; rintro en w' ⟨rfl, n2, rfl⟩) | (go_at_call 12; refine (skip_any src e i m0 ix _ h3 h1 h2 (by exact hm) HIX.out x1 x2).mono ?_; rintro en w' ⟨_, hen, hbel⟩; rw [hen x3, X4.out]))
        go_ret
        exact ⟨rfl, (below_drewN (Below.refl _ _) (n + n2)).trans hbel⟩
    · have hx : ix = -1 := by
        rw [HIX.out]
        have he : e.data.toList.length = e.size := by simp
        refine Lib.index_past ?_ HN.out (by simp; omega)
        intro h0
        rw [h0] at he
        have e0 : e.size = 0 := by simpa using he.symm
        by_cases hki : k = i
        · omega
        · have h9 := HN.out 0 (by omega)
          rw [h0] at h9
          simp [Lib.occAt] at h9
      have x3 : ix < 0 := by omega
      have X3 : Hid _ := x3
      have b1 : ¬ (k : Int) + (e.size : Int) ≤ (src.size : Int) := by omega
      clear hx
      go_wp2_with (first | (go_at_call 12; refine (skip_any src e i m0 ix _ h3 h1 h2 (by exact hm) HIX.out x1 x2).mono ?_; rintro en w' ⟨hen, _, hbel⟩; rw [hen X3.out]))
      go_ret
      exact ⟨rfl, (below_drewN (Below.refl _ _) n).trans hbel⟩

end Go.Proofs.Qxb6605252a
