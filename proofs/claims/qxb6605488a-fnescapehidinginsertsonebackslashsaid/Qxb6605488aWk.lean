import Derived.Test.Qxb6605488aWi
import Derived.Test.Qxb6605488aWd
import Derived.Test.Qxb6605488aPe
import Derived.Deep.CutBlock
namespace Go.Proofs.Qxb6605488a
open Go.RowKit
set_option linter.unusedVariables false
set_option linter.unusedSimpArgs false

/-- The rows of lines, each in a block of its own. -/
def Rws (w : World) (rb : Nat → Option Nat) (L : List (List ByteArray)) : Prop :=
  ∀ k, k < L.length → (rb k = none ∧ L.getD k [] = []) ∨ ∃ r, rb k = some r ∧ w.heap[r]? = some (.cells (strs (L.getD k [])) 9 (0, 0))

/-- The blocks as they lie. -/
def Bks (w : World) (bb n : Nat) (ks : List Int) (ns : List Bool) (rb : Nat → Option Nat) (L : List (List ByteArray)) : Prop :=
  ∀ k, k < n → w.cell? ⟨bb, k * 3, none⟩ = some (.int .i64 (ks.getD k 0)) ∧ w.cell? ⟨bb, k * 3 + 1, none⟩ = some (.bool (ns.getD k false)) ∧ w.cell? ⟨bb, k * 3 + 2, none⟩ = some (rv (rb k) (L.getD k []).length)

/-- The blocks of the rows. -/
def rset (rb : Nat → Option Nat) (n : Nat) : List Nat := (List.range n).filterMap rb
theorem rset_mem {rb : Nat → Option Nat} {n r : Nat} : r ∈ rset rb n ↔ ∃ k, k < n ∧ rb k = some r := by
  simp [rset, List.mem_filterMap]

/-- One row on its way: the first j lines are done. -/
def RowI (w : World) (r : Nat) (l : List ByteArray) (el : Nat → ByteArray) (j : Nat) : Prop :=
  ∃ cs : Array Value, w.heap[r]? = some (.cells cs 9 (0, 0)) ∧ cs.size = l.length ∧ ∀ k, k < l.length → cs[k]? = some (.string (if k < j then el k else l.getD k ByteArray.empty))

theorem RowI.start {w : World} {r : Nat} {l : List ByteArray} (el : Nat → ByteArray) (h : w.heap[r]? = some (.cells (strs l) 9 (0, 0))) : RowI w r l el 0 := by
  refine ⟨strs l, h, by simp [strs], fun k hk => ?_⟩
  simp [strs, List.getD, hk]
theorem RowI.same {w : World} {r : Nat} {l : List ByteArray} {el : Nat → ByteArray} {j : Nat} (h : RowI w r l el j) (he : el j = l.getD j ByteArray.empty) : RowI w r l el (j + 1) := by
  obtain ⟨cs, h1, h2, h3⟩ := h
  refine ⟨cs, h1, h2, fun k hk => ?_⟩
  rw [h3 k hk]
  by_cases e : k = j
  · subst e; simp only [Nat.lt_irrefl, if_false, Nat.lt_succ_self, if_true, he]
  · by_cases h : k < j
    · rw [if_pos h, if_pos (by omega)]
    · rw [if_neg h, if_neg (by omega)]
theorem RowI.set {w : World} {r : Nat} {l : List ByteArray} {el : Nat → ByteArray} {j : Nat} (h : RowI w r l el j) (hj : j < l.length) : RowI (w.setCell ⟨r, j, none⟩ (.string (el j))) r l el (j + 1) := by
  obtain ⟨cs, h1, h2, h3⟩ := h
  refine ⟨cs.setIfInBounds j (.string (el j)), Lib.heap_setCell_same (i := j) h1 _, by simpa using h2, fun k hk => ?_⟩
  by_cases e : k = j
  · subst e
    simp [h2, hk]
  · rw [Array.getElem?_setIfInBounds, if_neg (by omega), h3 k hk]
    by_cases h : k < j
    · rw [if_pos h, if_pos (by omega)]
    · rw [if_neg h, if_neg (by omega)]
theorem RowI.cell {w : World} {r : Nat} {l : List ByteArray} {el : Nat → ByteArray} {j : Nat} (h : RowI w r l el j) (k : Nat) (hk : k < l.length) : w.cell? ⟨r, k, none⟩ = some (.string (if k < j then el k else l.getD k ByteArray.empty)) ∧ w.frozen? ⟨r, k, none⟩ = false := by
  obtain ⟨cs, h1, h2, h3⟩ := h
  exact ⟨cell_of h1 (h3 k hk), frozen_of h1 k⟩
theorem RowI.kept {S : List Nat} {w w' : World} {r : Nat} {l : List ByteArray} {el : Nat → ByteArray} {j : Nat} (h : RowI w r l el j) (hK : Kept S w w') (hr : r ∉ S) : RowI w' r l el j := by
  obtain ⟨cs, h1, h2, h3⟩ := h
  exact ⟨cs, hK.at h1 hr, h2, h3⟩
theorem RowI.done {w : World} {r : Nat} {l : List ByteArray} {el : Nat → ByteArray} (h : RowI w r l el l.length) : w.heap[r]? = some (.cells (strs ((List.range l.length).map el)) 9 (0, 0)) := by
  obtain ⟨cs, h1, h2, h3⟩ := h
  have e : cs = strs ((List.range l.length).map el) := by
    apply Array.ext
    · simp [strs, h2]
    · intro k hk1 hk2
      have := h3 k (by omega)
      rw [Array.getElem?_eq_getElem hk1, if_pos (by omega)] at this
      simp only [Option.some.injEq] at this
      rw [this]
      simp [strs]
  rw [← e]
  exact h1

/-- Between the blocks: those ahead of i are done. -/
def MidL (st : Bool) (ks : List Int) (ns : List Bool) (L M : List (List ByteArray)) (i : Nat) : Prop :=
  M.length = L.length ∧ ∀ k, k < L.length → M.getD k [] = if k < i then erow st (ks.getD k 0) (ns.getD k false) k (L.getD k []) else L.getD k []

theorem MidL.start (st : Bool) (ks : List Int) (ns : List Bool) (L : List (List ByteArray)) : MidL st ks ns L L 0 := ⟨rfl, fun k hk => by rw [if_neg (by omega)]⟩
theorem MidL.end {st : Bool} {ks : List Int} {ns : List Bool} {L M : List (List ByteArray)} (h : MidL st ks ns L M L.length) : M = eall st ks ns L := by
  obtain ⟨h1, h2⟩ := h
  apply List.ext_getElem
  · rw [eall_len, h1]
  · intro k hk1 hk2
    have hk : k < L.length := by omega
    have := h2 k hk
    rw [if_pos hk, ← eall_at st ks ns L k hk] at this
    simp only [List.getD, List.getElem?_eq_getElem hk1, List.getElem?_eq_getElem hk2, Option.getD_some] at this
    exact this
theorem set_getD (M : List (List ByteArray)) (i k : Nat) (x : List ByteArray) (hi : i < M.length) : (M.set i x).getD k [] = if k = i then x else M.getD k [] := by
  simp only [List.getD, List.getElem?_set]
  by_cases h : i = k
  · subst h; simp [hi]
  · have h' : ¬ k = i := fun e => h e.symm
    simp [h, h']
theorem MidL.step {st : Bool} {ks : List Int} {ns : List Bool} {L M : List (List ByteArray)} {i : Nat} (h : MidL st ks ns L M i) (hi : i < L.length) : MidL st ks ns L (M.set i (erow st (ks.getD i 0) (ns.getD i false) i (L.getD i []))) (i + 1) := by
  obtain ⟨h1, h2⟩ := h
  refine ⟨by rw [List.length_set, h1], fun k hk => ?_⟩
  rw [set_getD M i k _ (by omega)]
  by_cases e : k = i
  · subst e; rw [if_pos rfl, if_pos (by omega)]
  · rw [if_neg e, h2 k hk]
    by_cases h : k < i
    · rw [if_pos h, if_pos (by omega)]
    · rw [if_neg h, if_neg (by omega)]
theorem MidL.skip {st : Bool} {ks : List Int} {ns : List Bool} {L M : List (List ByteArray)} {i : Nat} (h : MidL st ks ns L M i) (he : erow st (ks.getD i 0) (ns.getD i false) i (L.getD i []) = L.getD i []) : MidL st ks ns L M (i + 1) := by
  obtain ⟨h1, h2⟩ := h
  refine ⟨h1, fun k hk => ?_⟩
  rw [h2 k hk]
  by_cases e : k = i
  · subst e; rw [if_neg (by omega), if_pos (by omega), he]
  · by_cases h : k < i
    · rw [if_pos h, if_pos (by omega)]
    · rw [if_neg h, if_neg (by omega)]
theorem Rws.kept {S : List Nat} {w w' : World} {rb : Nat → Option Nat} {L : List (List ByteArray)} (h : Rws w rb L) (hK : Kept S w w') (hS : ∀ k r, k < L.length → rb k = some r → r ∉ S) : Rws w' rb L := by
  intro k hk
  rcases h k hk with h | ⟨r, e, hh⟩
  · exact Or.inl h
  · exact Or.inr ⟨r, e, hK.at hh (hS k r hk e)⟩
/-- One row turned. -/
theorem Rws.set {w w' : World} {rb : Nat → Option Nat} {M : List (List ByteArray)} {i r : Nat} {new : List ByteArray} (h : Rws w rb M) (hi : i < M.length) (hr : rb i = some r) (hinj : ∀ k, k < M.length → k ≠ i → rb k ≠ some r) (hK : Kept [r] w w') (hnew : w'.heap[r]? = some (.cells (strs new) 9 (0, 0))) : Rws w' rb (M.set i new) := by
  intro k hk
  rw [List.length_set] at hk
  rw [set_getD M i k new hi]
  by_cases e : k = i
  · subst e
    rw [if_pos rfl]
    exact Or.inr ⟨r, hr, hnew⟩
  · rw [if_neg e]
    rcases h k hk with h | ⟨s, e1, hh⟩
    · exact Or.inl h
    · refine Or.inr ⟨s, e1, hK.at hh ?_⟩
      intro hm
      simp at hm
      subst hm
      exact hinj k hk e e1

/-- The exempt first line. -/
def exA (st : Bool) (i j : Nat) : Prop := i = 0 ∧ j = 0 ∧ st = false
theorem mrk_a {st nb : Bool} {i j : Nat} {l : List ByteArray} (h : exA st i j) : mrk st nb i l j = -1 := by unfold mrk; rw [if_pos (show i = 0 ∧ j = 0 ∧ st = false from h)]
theorem mrk_b {st nb : Bool} {i j : Nat} {l : List ByteArray} (h : ¬ exA st i j) (h2 : nb = true ∨ j = 0) : mrk st nb i l j = hid (jn (l.drop j)) := by unfold mrk; rw [if_neg (show ¬ (i = 0 ∧ j = 0 ∧ st = false) from h), if_pos h2]
theorem mrk_c {st nb : Bool} {i j : Nat} {l : List ByteArray} (h : ¬ exA st i j) (h2 : ¬ (nb = true ∨ j = 0)) : mrk st nb i l j = if fence (bts (l.getD j ByteArray.empty)) then hid (bts (l.getD j ByteArray.empty)) else -1 := by unfold mrk; rw [if_neg (show ¬ (i = 0 ∧ j = 0 ∧ st = false) from h), if_neg h2]
theorem hid_ge (T : List Int) : -1 ≤ hid T := by
  unfold hid hidR
  split
  · omega
  · split
    · split <;> omega
    · split
      · split <;> omega
      · omega
theorem mrk_kind (st nb : Bool) (bi : Nat) (l : List ByteArray) (j : Nat) (hj : j < l.length) : mrk st nb bi l j = -1 ∨ ∃ m : Nat, mrk st nb bi l j = m ∧ MkAt (l.getD j ByteArray.empty) m := by
  by_cases h : 0 ≤ mrk st nb bi l j
  · exact Or.inr (mrk_at st nb bi l j hj h)
  · left
    have h1 := hid_ge (jn (l.drop j))
    have h2 := hid_ge (bts (l.getD j ByteArray.empty))
    unfold mrk at h ⊢
    split
    · rfl
    · rename_i q
      rw [if_neg q] at h
      split
      · rename_i q2
        rw [if_pos q2] at h
        omega
      · rename_i q2
        rw [if_neg q2] at h
        split
        · rename_i q3
          rw [if_pos q3] at h
          omega
        · rfl
theorem size_le (l : List ByteArray) (j : Nat) (h : j < l.length) : off l j + (l.getD j ByteArray.empty).size ≤ rsum l ∧ off l j ≤ (jn l).length := by
  refine ⟨?_, (off_drop l j h).1⟩
  have h1 : off l (j + 1) ≤ rsum l := by
    have e : ∀ (q : List ByteArray), (q.map (fun s => s.size + 1)).sum ≤ (q.map (fun s => s.size + 16)).sum := by
      intro q
      induction q with
      | nil => simp
      | cons x r ih => simp; omega
    have e2 : ∀ (q : List ByteArray) (n : Nat), ((q.take n).map (fun s => s.size + 16)).sum ≤ (q.map (fun s => s.size + 16)).sum := by
      intro q
      induction q with
      | nil => intro n; simp
      | cons x r ih =>
        intro n
        cases n with
        | zero => simp
        | succ n => have := ih n; simp at this ⊢; omega
    unfold off rsum
    exact Nat.le_trans (e _) (e2 l (j + 1))
  rw [off_succ l j h] at h1
  omega

theorem join_any (r : Nat) (l : List ByteArray) (w : World) (hr : w.heap[r]? = some (.cells (strs l) 9 (0, 0))) (hs : rsum l ≤ 1048576) (hn : l.length ≤ 65536) :
    Calls Try.prog 30 #[.slice (some ⟨r, 0, none⟩) l.length l.length, .string ⟨#[10]⟩] w fun e w' => ∃ tx : ByteArray, e = .returned (.string tx) ∧ bts tx = jn l ∧ Kept [] w w' := by
  have hlen : (Lib.join (l.map (·.data.toList)) (⟨#[10]⟩ : ByteArray).data.toList).length ≤ 1048576 := by
    have e := congrArg List.length (jn_join l)
    rw [bts_len] at e
    have e2 : (⟨(Lib.join (l.map (·.data.toList)) (⟨#[10]⟩ : ByteArray).data.toList).toArray⟩ : ByteArray).size = (Lib.join (l.map (·.data.toList)) (⟨#[10]⟩ : ByteArray).data.toList).length := by simp [ByteArray.size]
    rw [e2] at e
    have := jn_len l
    unfold rsum at hs
    omega
  refine (Try.strings_Join r 0 l.length l ⟨#[10]⟩ w ?_ (lt_of hr) (by omega) (Nat.le_refl _) (by omega)).mono ?_
  · intro j x hx
    rw [Nat.zero_add]
    exact cell_of hr (by simp [strs, hx])
  · rintro e w' ⟨rfl, hb⟩
    exact ⟨_, rfl, jn_join l, Kept.ofBelow hb []⟩

/-- What 'escapeHiding' leaves. -/
def EscPost (st : Bool) (ks : List Int) (ns : List Bool) (rb : Nat → Option Nat) (L : List (List ByteArray)) (w : World) (e : Ending) (w' : World) : Prop :=
  e = .returned (.tuple #[]) ∧ Rws w' rb (eall st ks ns L) ∧ Kept (rset rb L.length) w w'

set_option maxRecDepth 100000 in
set_option maxHeartbeats 8000000 in
theorem esc_any (p bb : Nat) (ks : List Int) (ns : List Bool) (rb : Nat → Option Nat) (L : List (List ByteArray)) (st : Bool) (w : World)
    (hp : w.cell? ⟨p, 0, none⟩ = some (.slice (some ⟨bb, 0, none⟩) L.length L.length)) (hb : Bks w bb L.length ks ns rb L) (hR : Rws w rb L) (hinj : ∀ j k r, j < L.length → k < L.length → j ≠ k → rb j = some r → rb k ≠ some r)
    (hsep : ∀ k r, k < L.length → rb k = some r → r ≠ p ∧ r ≠ bb ∧ r ≠ 0) (hz : Zc w) (hll : L.length ≤ 65536) (hsm : ∀ i, i < L.length → (L.getD i []).length ≤ 65536 ∧ rsum (L.getD i []) ≤ 1048576) :
    Calls Try.prog 24 #[.pointer (some ⟨p, 0, none⟩), .bool st] w fun e w' => EscPost st ks ns rb L w e w' := by
  have bl : (L.length : Int) ≤ 65536 := by omega
  have HB : Hid (Bks w bb L.length ks ns rb L) := hb
  have HINJ : Hid (∀ j k r, j < L.length → k < L.length → j ≠ k → rb j = some r → rb k ≠ some r) := hinj
  have HSEP : Hid (∀ k r, k < L.length → rb k = some r → r ≠ p ∧ r ≠ bb ∧ r ≠ 0) := hsep
  have HZ : Hid (Zc w) := hz
  have HSM : Hid (∀ i, i < L.length → (L.getD i []).length ≤ 65536 ∧ rsum (L.getD i []) ≤ 1048576) := hsm
  have HR : Hid (Rws w rb L) := hR
  have HPP : Hid (w.cell? ⟨p, 0, none⟩ = some (.slice (some ⟨bb, 0, none⟩) L.length L.length)) := hp
  have NP : Hid (p ∉ rset rb L.length) := fun hm => by
    obtain ⟨k, hk, e⟩ := rset_mem.1 hm
    exact (HSEP.out k p hk e).1 rfl
  have NB : Hid (bb ∉ rset rb L.length) := fun hm => by
    obtain ⟨k, hk, e⟩ := rset_mem.1 hm
    exact (HSEP.out k bb hk e).2.1 rfl
  have N0 : Hid (0 ∉ rset rb L.length) := fun hm => by
    obtain ⟨k, hk, e⟩ := rset_mem.1 hm
    exact (HSEP.out k 0 hk e).2.2 rfl
  clear hb hR hinj hsep hz hsm
  go_enter Try.func24, Try.ntmps24
  go_wp2_with fail
  go_loopw [18] (fun v wr => ∃ i : Nat, v = .int .i64 i ∧ i ≤ L.length ∧ (∃ M, MidL st ks ns L M i ∧ Rws wr rb M) ∧ Kept (rset rb L.length) w wr) (fun v _ => L.length - (intOf v).toNat)
  case atStart => exact ⟨0, rfl, Nat.zero_le _, ⟨L, MidL.start _ _ _ _, HR.out⟩, Kept.refl _ _⟩
  case round =>
    clear hp HR
    obtain ⟨w1, hw1⟩ : ∃ w1, w1 = wr := ⟨wr, rfl⟩
    subst hw1
    obtain ⟨i, rfl, hi, ⟨M, hM, hR⟩, hK⟩ := hrel
    have HM : Hid (MidL st ks ns L M i) := hM
    have HR : Hid (Rws w1 rb M) := hR
    have HK : Hid (Kept (rset rb L.length) w w1) := hK
    have hp := cell_kept hK HPP.out NP.out
    clear hM hR hK
    have d0 : (0 : Int) ≤ (i : Int) := by omega
    by_cases hlt : i < L.length
    · have d1 : (i : Int) < (L.length : Int) := by omega
      have hwi := wr64 ((i : Int) + 1) (by omega) (by omega)
      obtain ⟨h1', h2', h3'⟩ := HB.out i hlt
      have h1 := cell_kept HK.out h1' NB.out
      have h2 := cell_kept HK.out h2' NB.out
      have h3 := cell_kept HK.out h3' NB.out
      clear h1' h2' h3'
      obtain ⟨kk, hkk⟩ : ∃ kk, kk = ks.getD i 0 := ⟨_, rfl⟩
      obtain ⟨nb, hnb⟩ : ∃ nb, nb = ns.getD i false := ⟨_, rfl⟩
      obtain ⟨l, hl⟩ : ∃ l, l = L.getD i [] := ⟨_, rfl⟩
      have hsm1 := (HSM.out i hlt).1
      have hsm2 := (HSM.out i hlt).2
      have HML : Hid (M.getD i [] = l) := by
        have := HM.out.2 i hlt
        rw [if_neg (by omega)] at this
        show _ = _
        rw [this, hl]
      have hMl : M.length = L.length := HM.out.1
      have HSTEP : Hid (MidL st ks ns L (M.set i (erow st kk nb i l)) (i + 1)) := by rw [hkk, hnb, hl]; exact HM.out.step hlt
      have HSKIP : Hid (erow st kk nb i l = l → MidL st ks ns L M (i + 1)) := by rw [hkk, hnb, hl]; exact HM.out.skip
      rw [← hkk] at h1
      rw [← hnb] at h2
      rw [← hl] at h3 hsm1 hsm2
      clear hkk hnb hl
      have HML2 : Hid (M.length = L.length) := hMl
      clear hMl
      by_cases hk0 : kk = 0
      · subst hk0
        by_cases hi0 : i = 0
        · subst hi0
          have h1z : w1.cell? ⟨bb, 0, none⟩ = some (.int .i64 0) := by simpa using h1
          have h2z : w1.cell? ⟨bb, 1, none⟩ = some (.bool nb) := by simpa using h2
          have h3z : w1.cell? ⟨bb, 2, none⟩ = some (rv (rb 0) l.length) := by simpa using h3
          clear h1 h2 h3 hwi
          have h1 := h1z
          have h2 := h2z
          have h3 := h3z
          clear h1z h2z h3z
          have hRi := HR.out 0 (by rw [HML2.out]; exact hlt)
          rcases hRi with ⟨hrb, hMi⟩ | ⟨r, hrb, hblk⟩
          · have hl0 : l = [] := by rw [← HML.out]; exact hMi
            rw [hrb, hl0] at h3
            have h3' : w1.cell? ⟨bb, 2, none⟩ = some (.slice none 0 0) := h3
            have NX : Hid (MidL st ks ns L M (0 + 1)) := HSKIP.out (by rw [hl0]; rfl)
            clear HSTEP HSKIP hrb hMi hl0 h3
            go_wp2_with (go_at_call 30; refine (Try.strings_Join_none none 0 ⟨#[10]⟩ _).mono ?_; rintro e w' ⟨rfl, hq⟩; obtain rfl := hq.symm)
            go_loopw [42] (fun v wr => v = .int .i64 0 ∧ w1 = wr) (fun _ _ => 0)
            case atStart => exact ⟨rfl, rfl⟩
            case round =>
              obtain ⟨rfl, rfl⟩ := hrel
              go_wp2_with fail
              exact ⟨⟨0 + 1, by go_num, by omega, ⟨M, NX.out, HR.out⟩, HK.out⟩, by simp [intOf]; omega⟩
          · rw [hrb] at h3
            have h3' : w1.cell? ⟨bb, 2, none⟩ = some (.slice (some ⟨r, 0, none⟩) l.length l.length) := h3
            rw [HML.out] at hblk
            have HRB : Hid (rb 0 = some r) := hrb
            obtain ⟨hrp, hrbb, hr0⟩ := HSEP.out 0 r hlt hrb
            have HBLK : Hid (w1.heap[r]? = some (.cells (strs l) 9 (0, 0))) := hblk
            have HZ1 : Hid (Zc w1) := HZ.out.kept HK.out N0.out
            have hls : (l.length : Int) ≤ 65536 := by omega
            obtain ⟨el, hel⟩ : ∃ el, el = eln st nb 0 l := ⟨_, rfl⟩
            have HEL : Hid (el = eln st nb 0 l) := hel
            clear hel hrb hblk h3
            go_wp2_with (go_at_call 30; refine (join_any r l _ HBLK.out hsm2 hsm1).mono ?_; rintro e w2 ⟨tx, rfl, htx, hK⟩; have HTX : Hid (bts tx = jn l) := htx; have HK2 : Hid (Kept [] w1 w2) := hK; have hp2 := cell_kept hK hp (by simp); have h22 := cell_kept hK h2 (by simp); have h32 := cell_kept hK h3' (by simp); clear htx hK hp h2 h3' h1)
            have START : Hid (RowI w2 r l el 0) := RowI.start el (HK2.out.at HBLK.out (by simp))
            go_loopw [7, 42] (fun u v wr => ∃ j : Nat, u = .int .i64 (off l j) ∧ v = .int .i64 j ∧ j ≤ l.length ∧ RowI wr r l el j ∧ Kept [r] w2 wr) (fun _ v _ => l.length - (intOf v).toNat)
            case atStart => exact ⟨0, by rw [off_zero]; rfl, rfl, Nat.zero_le _, START.out, Kept.refl _ _⟩
            case round =>
              clear START
              obtain ⟨j, rfl, rfl, hj, hI, hK⟩ := hrel
              have HI : Hid (RowI wr r l el j) := hI
              have HK3 : Hid (Kept [r] w2 wr) := hK
              have hp3 := cell_kept hK hp2 (by simp; exact fun e => hrp e.symm)
              have h23 := cell_kept hK h22 (by simp; exact fun e => hrbb e.symm)
              have h33 := cell_kept hK h32 (by simp; exact fun e => hrbb e.symm)
              have HP2 : Hid (w2.cell? ⟨p, 0, none⟩ = some (.slice (some ⟨bb, 0, none⟩) L.length L.length)) := hp2
              have H22 : Hid (w2.cell? ⟨bb, 1, none⟩ = some (.bool nb)) := h22
              have H32 : Hid (w2.cell? ⟨bb, 2, none⟩ = some (.slice (some ⟨r, 0, none⟩) l.length l.length)) := h32
              clear hK hp2 h22 h32
              have j0 : (0 : Int) ≤ (j : Int) := by omega
              by_cases hjl : j < l.length
              · have j1 : (j : Int) < (l.length : Int) := by omega
                have hwj := wr64 ((j : Int) + 1) (by omega) (by omega)
                obtain ⟨hcj, hfj⟩ := hI.cell j hjl
                rw [if_neg (Nat.lt_irrefl _)] at hcj
                clear hI
                obtain ⟨s, hs⟩ : ∃ s, s = l.getD j ByteArray.empty := ⟨_, rfl⟩
                have HS : Hid (s = l.getD j ByteArray.empty) := hs
                rw [← hs] at hcj
                clear hs
                obtain ⟨hsz1, hsz2⟩ := size_le l j hjl
                rw [← HS.out] at hsz1
                have htxs : (jn l).length = tx.size := by rw [← HTX.out, bts_len]
                have hoff1 : ((off l j : Nat) : Int) ≤ (tx.size : Int) := by omega
                have hoff2 : ((off l j : Nat) : Int) ≤ 1048576 := by omega
                have hoff0 : (0 : Int) ≤ ((off l j : Nat) : Int) := by omega
                have hss : s.size ≤ 1048576 := by omega
                have hss' : (s.size : Int) ≤ 1048576 := by omega
                have htxl : tx.size ≤ 4000000 := by
                  have := jn_len l
                  unfold rsum at hsm2
                  omega
                clear htxs hsz1 hsz2
                have HOS : Hid (off l (j + 1) = off l j + (s.size + 1)) := by show _ = _; rw [HS.out]; exact off_succ l j hjl
                have HTD : Hid (bts (tx.extract (off l j) tx.size) = jn (l.drop j)) := by show _ = _; rw [bts_from, HTX.out]; exact (off_drop l j hjl).2
                have hws1 := wr64 ((s.size : Int) + 1) (by omega) (by omega)
                have hws2 := wr64 (((off l j : Nat) : Int) + ((s.size : Int) + 1)) (by omega) (by omega)
                have HZ3 : Hid (Zc wr) := (HZ1.out.kept HK2.out (by simp)).kept HK3.out (by simp; exact fun e => hr0 e.symm)
                have HKIND : Hid (mrk st nb 0 l j = -1 ∨ ∃ m : Nat, mrk st nb 0 l j = m ∧ MkAt s m) := by show _ ∨ _; rw [HS.out]; exact mrk_kind st nb 0 l j hjl
                have HELJ : Hid (el j = if 0 ≤ mrk st nb 0 l j then bsl s (mrk st nb 0 l j).toNat else s) := by show _ = _; rw [HEL.out, HS.out]; rfl
                have HMA : Hid (exA st 0 j → mrk st nb 0 l j = -1) := fun h => mrk_a h
                have HMB : Hid (¬ exA st 0 j → nb = true ∨ j = 0 → hid (bts (tx.extract (off l j) tx.size)) = mrk st nb 0 l j) := fun h h2 => by rw [mrk_b h h2, HTD.out]
                have HMC : Hid (¬ exA st 0 j → ¬ (nb = true ∨ j = 0) → mrk st nb 0 l j = if fence (bts s) then hid (bts s) else -1) := fun h h2 => by rw [mrk_c h h2, ← HS.out]
                obtain ⟨m0, hm0⟩ : ∃ m0, m0 = mrk st nb 0 l j := ⟨_, rfl⟩
                rw [← hm0] at HKIND HELJ HMA HMB HMC
                clear hm0 HTD
                obtain ⟨o, ho⟩ : ∃ o, o = off l j := ⟨_, rfl⟩
                rw [← ho] at hoff1 hoff2 hoff0 HOS HMB hws2 ⊢
                clear ho
                have htxe : (tx.extract o tx.size).size ≤ 4000000 := by rw [← bts_len, bts_from, List.length_drop, bts_len]; omega
                have HCJ : Hid (RowI wr r l el j) := HI.out
                go_wp2_with fail
                go_at_call 31
                refine (indent_any s _ (by omega)).mono ?_
                rintro e w3 ⟨c, i0, rfl, hfc, hK⟩
                have HF : Hid (fence (bts s) = (decide (c ≤ 3) && (pf [96, 96, 96] (bts (s.extract i0 s.size)) || pf [126, 126, 126] (bts (s.extract i0 s.size))))) := by
                  show _ = _
                  rw [hfc, bts_from]
                have HKW : Hid (Kept [] wr w3) := hK
                have h2W := cell_kept hK h23 (by simp)
                have h3W := cell_kept hK h33 (by simp)
                have HI3 := HCJ.out.kept hK (by simp)
                have hcW := (HI3.cell j hjl).1
                have hfW := (HI3.cell j hjl).2
                rw [if_neg (Nat.lt_irrefl _), ← HS.out] at hcW
                have HII : Hid (RowI w3 r l el j) := HI3
                have HZW : Hid (Zc w3) := HZ3.out.kept hK (by simp)
                clear hK hfc h23 h33 hcj hfj hp3 HI3
                by_cases hj0 : j = 0
                · subst hj0
                  clear hwj
                  cases st with
                  | false =>
                    have hm := HMA.out ⟨rfl, rfl, rfl⟩
                    subst hm
                    have HELV : Hid (el 0 = s) := by show _ = _; rw [HELJ.out, if_neg (by omega)]
                    clear HKIND HMA HMB HMC HF
                    have NXT : Hid (RowI w3 r l el (0 + 1)) := HII.out.same (by rw [HELV.out, HS.out])
                    have NK : Hid (Kept [r] w2 w3) := HK3.out.trans (HKW.out.mono (by simp))
                    go_wp2_with fail
                    exact ⟨⟨0 + 1, by rw [HOS.out]; go_num, by go_num, by omega, NXT.out, NK.out⟩, by simp [intOf]; omega⟩
                  | true =>
                    have hnA : ¬ exA true 0 0 := fun h => by cases h.2.2
                    cases nb with
                    | true =>
                      have hB : true = true ∨ (0 : Nat) = 0 := Or.inl rfl
                      have HEQ : Hid (hid (bts (tx.extract o tx.size)) = m0) := HMB.out hnA hB
                      go_wp2_with fail
                      go_at_call 21
                      refine (hiding_any (tx.extract o tx.size) _ (by first | omega | exact htxe) HZW.out).mono ?_
                      rintro e w4 ⟨rfl, hK⟩
                      rw [HEQ.out]
                      have HKX : Hid (Kept [] wr w4) := HKW.out.trans hK
                      have h3X := cell_kept hK h3W (by simp)
                      have HIX := HII.out.kept hK (by simp)
                      have hcX := (HIX.cell 0 hjl).1
                      have hfX := (HIX.cell 0 hjl).2
                      rw [if_neg (Nat.lt_irrefl _), ← HS.out] at hcX
                      clear HKW HII hK h2W h3W hcW hfW HZW
                      have HKW : Hid (Kept [] wr w4) := HKX.out
                      have HII : Hid (RowI w4 r l el 0) := HIX
                      clear HKX HIX
                      rcases HKIND.out with hm | ⟨m, hm, hmk⟩
                      · subst hm
                        clear HKIND HMA HMB HMC HF
                        have HELV : Hid (el 0 = s) := by show _ = _; rw [HELJ.out, if_neg (by omega)]
                        have NXT : Hid (RowI w4 r l el (0 + 1)) := HII.out.same (by rw [HELV.out, HS.out])
                        have NK : Hid (Kept [r] w2 w4) := HK3.out.trans (HKW.out.mono (by simp))
                        go_wp2_with fail
                        exact ⟨⟨0 + 1, by rw [HOS.out]; go_num, by go_num, by omega, NXT.out, NK.out⟩, by simp [intOf]; omega⟩
                      · subst hm
                        have HELV : Hid (el 0 = bsl s m) := by show _ = _; rw [HELJ.out, if_pos (by omega)]; rfl
                        have q1 : (m : Int) ≤ (s.size : Int) := by have := hmk.1; omega
                        have q0 : (0 : Int) ≤ (m : Int) := by omega
                        clear hmk
                        clear HKIND HMA HMB HMC HF
                        have NXT : Hid (RowI (w4.setCell ⟨r, 0, none⟩ (.string (bsl s m))) r l el (0 + 1)) := by
                          have := HII.out.set hjl
                          rw [HELV.out] at this
                          exact this
                        have NK : Hid (∀ u, Kept [r] w2 (w4.setCell ⟨r, 0, none⟩ u)) := fun u => (HK3.out.trans (HKW.out.mono (by simp))).setCell (p := ⟨r, 0, none⟩) (by simp) u
                        go_wp2_with fail
                        go_region
                        go_wp2_with fail
                        exact ⟨⟨0 + 1, by rw [HOS.out]; go_num, by go_num, by omega, NXT.out, (NK.out _).drew⟩, by simp [intOf]; omega⟩
                    | false =>
                      have hB : false = true ∨ (0 : Nat) = 0 := Or.inr rfl
                      have HEQ : Hid (hid (bts (tx.extract o tx.size)) = m0) := HMB.out hnA hB
                      go_wp2_with fail
                      go_at_call 21
                      refine (hiding_any (tx.extract o tx.size) _ (by first | omega | exact htxe) HZW.out).mono ?_
                      rintro e w4 ⟨rfl, hK⟩
                      rw [HEQ.out]
                      have HKX : Hid (Kept [] wr w4) := HKW.out.trans hK
                      have h3X := cell_kept hK h3W (by simp)
                      have HIX := HII.out.kept hK (by simp)
                      have hcX := (HIX.cell 0 hjl).1
                      have hfX := (HIX.cell 0 hjl).2
                      rw [if_neg (Nat.lt_irrefl _), ← HS.out] at hcX
                      clear HKW HII hK h2W h3W hcW hfW HZW
                      have HKW : Hid (Kept [] wr w4) := HKX.out
                      have HII : Hid (RowI w4 r l el 0) := HIX
                      clear HKX HIX
                      rcases HKIND.out with hm | ⟨m, hm, hmk⟩
                      · subst hm
                        clear HKIND HMA HMB HMC HF
                        have HELV : Hid (el 0 = s) := by show _ = _; rw [HELJ.out, if_neg (by omega)]
                        have NXT : Hid (RowI w4 r l el (0 + 1)) := HII.out.same (by rw [HELV.out, HS.out])
                        have NK : Hid (Kept [r] w2 w4) := HK3.out.trans (HKW.out.mono (by simp))
                        go_wp2_with fail
                        exact ⟨⟨0 + 1, by rw [HOS.out]; go_num, by go_num, by omega, NXT.out, NK.out⟩, by simp [intOf]; omega⟩
                      · subst hm
                        have HELV : Hid (el 0 = bsl s m) := by show _ = _; rw [HELJ.out, if_pos (by omega)]; rfl
                        have q1 : (m : Int) ≤ (s.size : Int) := by have := hmk.1; omega
                        have q0 : (0 : Int) ≤ (m : Int) := by omega
                        clear hmk
                        clear HKIND HMA HMB HMC HF
                        have NXT : Hid (RowI (w4.setCell ⟨r, 0, none⟩ (.string (bsl s m))) r l el (0 + 1)) := by
                          have := HII.out.set hjl
                          rw [HELV.out] at this
                          exact this
                        have NK : Hid (∀ u, Kept [r] w2 (w4.setCell ⟨r, 0, none⟩ u)) := fun u => (HK3.out.trans (HKW.out.mono (by simp))).setCell (p := ⟨r, 0, none⟩) (by simp) u
                        go_wp2_with fail
                        go_region
                        go_wp2_with fail
                        exact ⟨⟨0 + 1, by rw [HOS.out]; go_num, by go_num, by omega, NXT.out, (NK.out _).drew⟩, by simp [intOf]; omega⟩
                · have gj : ((j : Int) == 0) = false := by simp; omega
                  have hnA : ¬ exA st 0 j := fun h => hj0 h.2.1
                  cases nb with
                  | true =>
                    have hB : true = true ∨ j = 0 := Or.inl rfl
                    have HEQ : Hid (hid (bts (tx.extract o tx.size)) = m0) := HMB.out hnA hB
                    go_wp2_with fail
                    go_at_call 21
                    refine (hiding_any (tx.extract o tx.size) _ (by first | omega | exact htxe) HZW.out).mono ?_
                    rintro e w4 ⟨rfl, hK⟩
                    rw [HEQ.out]
                    have HKX : Hid (Kept [] wr w4) := HKW.out.trans hK
                    have h3X := cell_kept hK h3W (by simp)
                    have HIX := HII.out.kept hK (by simp)
                    have hcX := (HIX.cell j hjl).1
                    have hfX := (HIX.cell j hjl).2
                    rw [if_neg (Nat.lt_irrefl _), ← HS.out] at hcX
                    clear HKW HII hK h2W h3W hcW hfW HZW
                    have HKW : Hid (Kept [] wr w4) := HKX.out
                    have HII : Hid (RowI w4 r l el j) := HIX
                    clear HKX HIX
                    rcases HKIND.out with hm | ⟨m, hm, hmk⟩
                    · subst hm
                      clear HKIND HMA HMB HMC HF
                      have HELV : Hid (el j = s) := by show _ = _; rw [HELJ.out, if_neg (by omega)]
                      have NXT : Hid (RowI w4 r l el (j + 1)) := HII.out.same (by rw [HELV.out, HS.out])
                      have NK : Hid (Kept [r] w2 w4) := HK3.out.trans (HKW.out.mono (by simp))
                      go_wp2_with fail
                      exact ⟨⟨j + 1, by rw [HOS.out]; go_num, by go_num, by omega, NXT.out, NK.out⟩, by simp [intOf]; omega⟩
                    · subst hm
                      have HELV : Hid (el j = bsl s m) := by show _ = _; rw [HELJ.out, if_pos (by omega)]; rfl
                      have q1 : (m : Int) ≤ (s.size : Int) := by have := hmk.1; omega
                      have q0 : (0 : Int) ≤ (m : Int) := by omega
                      clear hmk
                      clear HKIND HMA HMB HMC HF
                      have NXT : Hid (RowI (w4.setCell ⟨r, j, none⟩ (.string (bsl s m))) r l el (j + 1)) := by
                        have := HII.out.set hjl
                        rw [HELV.out] at this
                        exact this
                      have NK : Hid (∀ u, Kept [r] w2 (w4.setCell ⟨r, j, none⟩ u)) := fun u => (HK3.out.trans (HKW.out.mono (by simp))).setCell (p := ⟨r, j, none⟩) (by simp) u
                      go_wp2_with fail
                      go_region
                      go_wp2_with fail
                      exact ⟨⟨j + 1, by rw [HOS.out]; go_num, by go_num, by omega, NXT.out, (NK.out _).drew⟩, by simp [intOf]; omega⟩
                  | false =>
                    have hnB : ¬ (false = true ∨ j = 0) := fun h => by rcases h with h | h; cases h; exact hj0 h
                    by_cases hc3 : c ≤ 3
                    · have HFF : fence (bts s) = (pf [96, 96, 96] (bts (s.extract i0 s.size)) || pf [126, 126, 126] (bts (s.extract i0 s.size))) := by rw [HF.out, decide_eq_true hc3, Bool.true_and]
                      cases ht1 : pf [96, 96, 96] (bts (s.extract i0 s.size)) with
                      | true =>
                        have hfen : fence (bts s) = true := by rw [HFF, ht1, Bool.true_or]
                        have HT1 : Hid (pf [96, 96, 96] (bts (s.extract i0 s.size)) = true) := ht1
                        have HEQ : Hid (hid (bts s) = m0) := by
                          show _ = _
                          rw [HMC.out hnA hnB, hfen]
                          rfl
                        clear HFF ht1 hfen
                        go_wp2_with fail
                        go_at_call 26
                        refine (hp_any (s.extract i0 s.size) ⟨#[96, 96, 96]⟩ [96, 96, 96] bts_bt3 _).mono ?_
                        rintro e w' ⟨rfl, rfl⟩
                        rw [HT1.out]
                        go_wp2_with fail
                        go_at_call 21
                        refine (hiding_any s _ (by first | omega | exact htxe) HZW.out).mono ?_
                        rintro e w4 ⟨rfl, hK⟩
                        rw [HEQ.out]
                        have HKX : Hid (Kept [] wr w4) := HKW.out.trans hK
                        have h3X := cell_kept hK h3W (by simp)
                        have HIX := HII.out.kept hK (by simp)
                        have hcX := (HIX.cell j hjl).1
                        have hfX := (HIX.cell j hjl).2
                        rw [if_neg (Nat.lt_irrefl _), ← HS.out] at hcX
                        clear HKW HII hK h2W h3W hcW hfW HZW
                        have HKW : Hid (Kept [] wr w4) := HKX.out
                        have HII : Hid (RowI w4 r l el j) := HIX
                        clear HKX HIX
                        rcases HKIND.out with hm | ⟨m, hm, hmk⟩
                        · subst hm
                          clear HKIND HMA HMB HMC HF
                          have HELV : Hid (el j = s) := by show _ = _; rw [HELJ.out, if_neg (by omega)]
                          have NXT : Hid (RowI w4 r l el (j + 1)) := HII.out.same (by rw [HELV.out, HS.out])
                          have NK : Hid (Kept [r] w2 w4) := HK3.out.trans (HKW.out.mono (by simp))
                          go_wp2_with fail
                          exact ⟨⟨j + 1, by rw [HOS.out]; go_num, by go_num, by omega, NXT.out, NK.out⟩, by simp [intOf]; omega⟩
                        · subst hm
                          have HELV : Hid (el j = bsl s m) := by show _ = _; rw [HELJ.out, if_pos (by omega)]; rfl
                          have q1 : (m : Int) ≤ (s.size : Int) := by have := hmk.1; omega
                          have q0 : (0 : Int) ≤ (m : Int) := by omega
                          clear hmk
                          clear HKIND HMA HMB HMC HF
                          have NXT : Hid (RowI (w4.setCell ⟨r, j, none⟩ (.string (bsl s m))) r l el (j + 1)) := by
                            have := HII.out.set hjl
                            rw [HELV.out] at this
                            exact this
                          have NK : Hid (∀ u, Kept [r] w2 (w4.setCell ⟨r, j, none⟩ u)) := fun u => (HK3.out.trans (HKW.out.mono (by simp))).setCell (p := ⟨r, j, none⟩) (by simp) u
                          go_wp2_with fail
                          go_region
                          go_wp2_with fail
                          exact ⟨⟨j + 1, by rw [HOS.out]; go_num, by go_num, by omega, NXT.out, (NK.out _).drew⟩, by simp [intOf]; omega⟩
                      | false =>
                        have HT1 : Hid (pf [96, 96, 96] (bts (s.extract i0 s.size)) = false) := ht1
                        cases ht2 : pf [126, 126, 126] (bts (s.extract i0 s.size)) with
                        | true =>
                          have hfen : fence (bts s) = true := by rw [HFF, ht1, ht2]; rfl
                          have HT2 : Hid (pf [126, 126, 126] (bts (s.extract i0 s.size)) = true) := ht2
                          have HEQ : Hid (hid (bts s) = m0) := by
                            show _ = _
                            rw [HMC.out hnA hnB, hfen]
                            rfl
                          clear HFF ht1 ht2 hfen
                          go_wp2_with fail
                          go_at_call 26
                          refine (hp_any (s.extract i0 s.size) ⟨#[96, 96, 96]⟩ [96, 96, 96] bts_bt3 _).mono ?_
                          rintro e w' ⟨rfl, rfl⟩
                          rw [HT1.out]
                          go_wp2_with fail
                          go_at_call 26
                          refine (hp_any (s.extract i0 s.size) ⟨#[126, 126, 126]⟩ [126, 126, 126] bts_tl3 _).mono ?_
                          rintro e w' ⟨rfl, rfl⟩
                          rw [HT2.out]
                          go_wp2_with fail
                          go_at_call 21
                          refine (hiding_any s _ (by first | omega | exact htxe) HZW.out).mono ?_
                          rintro e w4 ⟨rfl, hK⟩
                          rw [HEQ.out]
                          have HKX : Hid (Kept [] wr w4) := HKW.out.trans hK
                          have h3X := cell_kept hK h3W (by simp)
                          have HIX := HII.out.kept hK (by simp)
                          have hcX := (HIX.cell j hjl).1
                          have hfX := (HIX.cell j hjl).2
                          rw [if_neg (Nat.lt_irrefl _), ← HS.out] at hcX
                          clear HKW HII hK h2W h3W hcW hfW HZW
                          have HKW : Hid (Kept [] wr w4) := HKX.out
                          have HII : Hid (RowI w4 r l el j) := HIX
                          clear HKX HIX
                          rcases HKIND.out with hm | ⟨m, hm, hmk⟩
                          · subst hm
                            clear HKIND HMA HMB HMC HF
                            have HELV : Hid (el j = s) := by show _ = _; rw [HELJ.out, if_neg (by omega)]
                            have NXT : Hid (RowI w4 r l el (j + 1)) := HII.out.same (by rw [HELV.out, HS.out])
                            have NK : Hid (Kept [r] w2 w4) := HK3.out.trans (HKW.out.mono (by simp))
                            go_wp2_with fail
                            exact ⟨⟨j + 1, by rw [HOS.out]; go_num, by go_num, by omega, NXT.out, NK.out⟩, by simp [intOf]; omega⟩
                          · subst hm
                            have HELV : Hid (el j = bsl s m) := by show _ = _; rw [HELJ.out, if_pos (by omega)]; rfl
                            have q1 : (m : Int) ≤ (s.size : Int) := by have := hmk.1; omega
                            have q0 : (0 : Int) ≤ (m : Int) := by omega
                            clear hmk
                            clear HKIND HMA HMB HMC HF
                            have NXT : Hid (RowI (w4.setCell ⟨r, j, none⟩ (.string (bsl s m))) r l el (j + 1)) := by
                              have := HII.out.set hjl
                              rw [HELV.out] at this
                              exact this
                            have NK : Hid (∀ u, Kept [r] w2 (w4.setCell ⟨r, j, none⟩ u)) := fun u => (HK3.out.trans (HKW.out.mono (by simp))).setCell (p := ⟨r, j, none⟩) (by simp) u
                            go_wp2_with fail
                            go_region
                            go_wp2_with fail
                            exact ⟨⟨j + 1, by rw [HOS.out]; go_num, by go_num, by omega, NXT.out, (NK.out _).drew⟩, by simp [intOf]; omega⟩
                        | false =>
                          have hfen : fence (bts s) = false := by rw [HFF, ht1, ht2]; rfl
                          have HT2 : Hid (pf [126, 126, 126] (bts (s.extract i0 s.size)) = false) := ht2
                          have hm : m0 = -1 := by rw [HMC.out hnA hnB, hfen]; rfl
                          clear HFF ht1 ht2 hfen
                          go_wp2_with fail
                          go_at_call 26
                          refine (hp_any (s.extract i0 s.size) ⟨#[96, 96, 96]⟩ [96, 96, 96] bts_bt3 _).mono ?_
                          rintro e w' ⟨rfl, rfl⟩
                          rw [HT1.out]
                          go_wp2_with fail
                          go_at_call 26
                          refine (hp_any (s.extract i0 s.size) ⟨#[126, 126, 126]⟩ [126, 126, 126] bts_tl3 _).mono ?_
                          rintro e w' ⟨rfl, rfl⟩
                          rw [HT2.out]
                          subst hm
                          have HELV : Hid (el j = s) := by show _ = _; rw [HELJ.out, if_neg (by omega)]
                          clear HKIND HMA HMB HMC HF
                          have NXT : Hid (RowI w3 r l el (j + 1)) := HII.out.same (by rw [HELV.out, HS.out])
                          have NK : Hid (Kept [r] w2 w3) := HK3.out.trans (HKW.out.mono (by simp))
                          go_wp2_with fail
                          exact ⟨⟨j + 1, by rw [HOS.out]; go_num, by go_num, by omega, NXT.out, NK.out⟩, by simp [intOf]; omega⟩
                    · have hfen : fence (bts s) = false := by rw [HF.out, decide_eq_false hc3, Bool.false_and]
                      have hm : m0 = -1 := by rw [HMC.out hnA hnB, hfen]; rfl
                      clear hfen
                      subst hm
                      have HELV : Hid (el j = s) := by show _ = _; rw [HELJ.out, if_neg (by omega)]
                      clear HKIND HMA HMB HMC HF
                      have NXT : Hid (RowI w3 r l el (j + 1)) := HII.out.same (by rw [HELV.out, HS.out])
                      have NK : Hid (Kept [r] w2 w3) := HK3.out.trans (HKW.out.mono (by simp))
                      go_wp2_with fail
                      exact ⟨⟨j + 1, by rw [HOS.out]; go_num, by go_num, by omega, NXT.out, NK.out⟩, by simp [intOf]; omega⟩
              · have j1 : (l.length : Int) ≤ (j : Int) := by omega
                have hje : j = l.length := by omega
                have FIN : Hid (Rws wr rb (M.set 0 (erow st 0 nb 0 l))) := by
                  have h := HI.out
                  rw [hje] at h
                  have h2 := h.done
                  rw [HEL.out] at h2
                  have e : (List.range l.length).map (eln st nb 0 l) = erow st 0 nb 0 l := by unfold erow; rw [if_pos rfl]
                  rw [e] at h2
                  refine HR.out.set (by rw [HML2.out]; exact hlt) HRB.out (fun k hk hne => HINJ.out 0 k r hlt (by rw [← HML2.out]; exact hk) (fun e => hne e.symm) HRB.out) ?_ h2
                  exact (HK2.out.mono (by simp)).trans HK3.out
                have FK : Hid (Kept (rset rb L.length) w wr) := (HK.out.trans (HK2.out.mono (by simp))).trans (HK3.out.mono (fun k hk => by simp at hk; subst hk; exact rset_mem.2 ⟨0, hlt, HRB.out⟩))
                clear hje hI
                go_wp2_with fail
                exact ⟨⟨0 + 1, by go_num, by omega, ⟨_, HSTEP.out, FIN.out⟩, FK.out⟩, by simp [intOf]; omega⟩
        · have gi0 : True := trivial
          have hRi := HR.out i (by rw [HML2.out]; exact hlt)
          rcases hRi with ⟨hrb, hMi⟩ | ⟨r, hrb, hblk⟩
          · have hl0 : l = [] := by rw [← HML.out]; exact hMi
            rw [hrb, hl0] at h3
            have h3' : w1.cell? ⟨bb, i * 3 + 2, none⟩ = some (.slice none 0 0) := h3
            have NX : Hid (MidL st ks ns L M (i + 1)) := HSKIP.out (by rw [hl0]; rfl)
            clear HSTEP HSKIP hrb hMi hl0 h3
            go_wp2_with (go_at_call 30; refine (Try.strings_Join_none none 0 ⟨#[10]⟩ _).mono ?_; rintro e w' ⟨rfl, hq⟩; obtain rfl := hq.symm)
            go_loopw [42] (fun v wr => v = .int .i64 0 ∧ w1 = wr) (fun _ _ => 0)
            case atStart => exact ⟨rfl, rfl⟩
            case round =>
              obtain ⟨rfl, rfl⟩ := hrel
              go_wp2_with fail
              exact ⟨⟨i + 1, by go_num, by omega, ⟨M, NX.out, HR.out⟩, HK.out⟩, by simp [intOf]; omega⟩
          · rw [hrb] at h3
            have h3' : w1.cell? ⟨bb, i * 3 + 2, none⟩ = some (.slice (some ⟨r, 0, none⟩) l.length l.length) := h3
            rw [HML.out] at hblk
            have HRB : Hid (rb i = some r) := hrb
            obtain ⟨hrp, hrbb, hr0⟩ := HSEP.out i r hlt hrb
            have HBLK : Hid (w1.heap[r]? = some (.cells (strs l) 9 (0, 0))) := hblk
            have HZ1 : Hid (Zc w1) := HZ.out.kept HK.out N0.out
            have hls : (l.length : Int) ≤ 65536 := by omega
            obtain ⟨el, hel⟩ : ∃ el, el = eln st nb i l := ⟨_, rfl⟩
            have HEL : Hid (el = eln st nb i l) := hel
            clear hel hrb hblk h3
            go_wp2_with (go_at_call 30; refine (join_any r l _ HBLK.out hsm2 hsm1).mono ?_; rintro e w2 ⟨tx, rfl, htx, hK⟩; have HTX : Hid (bts tx = jn l) := htx; have HK2 : Hid (Kept [] w1 w2) := hK; have hp2 := cell_kept hK hp (by simp); have h22 := cell_kept hK h2 (by simp); have h32 := cell_kept hK h3' (by simp); clear htx hK hp h2 h3' h1)
            have START : Hid (RowI w2 r l el 0) := RowI.start el (HK2.out.at HBLK.out (by simp))
            go_loopw [7, 42] (fun u v wr => ∃ j : Nat, u = .int .i64 (off l j) ∧ v = .int .i64 j ∧ j ≤ l.length ∧ RowI wr r l el j ∧ Kept [r] w2 wr) (fun _ v _ => l.length - (intOf v).toNat)
            case atStart => exact ⟨0, by rw [off_zero]; rfl, rfl, Nat.zero_le _, START.out, Kept.refl _ _⟩
            case round =>
              clear START
              obtain ⟨j, rfl, rfl, hj, hI, hK⟩ := hrel
              have HI : Hid (RowI wr r l el j) := hI
              have HK3 : Hid (Kept [r] w2 wr) := hK
              have hp3 := cell_kept hK hp2 (by simp; exact fun e => hrp e.symm)
              have h23 := cell_kept hK h22 (by simp; exact fun e => hrbb e.symm)
              have h33 := cell_kept hK h32 (by simp; exact fun e => hrbb e.symm)
              have HP2 : Hid (w2.cell? ⟨p, 0, none⟩ = some (.slice (some ⟨bb, 0, none⟩) L.length L.length)) := hp2
              have H22 : Hid (w2.cell? ⟨bb, i * 3 + 1, none⟩ = some (.bool nb)) := h22
              have H32 : Hid (w2.cell? ⟨bb, i * 3 + 2, none⟩ = some (.slice (some ⟨r, 0, none⟩) l.length l.length)) := h32
              clear hK hp2 h22 h32
              have j0 : (0 : Int) ≤ (j : Int) := by omega
              by_cases hjl : j < l.length
              · have j1 : (j : Int) < (l.length : Int) := by omega
                have hwj := wr64 ((j : Int) + 1) (by omega) (by omega)
                obtain ⟨hcj, hfj⟩ := hI.cell j hjl
                rw [if_neg (Nat.lt_irrefl _)] at hcj
                clear hI
                obtain ⟨s, hs⟩ : ∃ s, s = l.getD j ByteArray.empty := ⟨_, rfl⟩
                have HS : Hid (s = l.getD j ByteArray.empty) := hs
                rw [← hs] at hcj
                clear hs
                obtain ⟨hsz1, hsz2⟩ := size_le l j hjl
                rw [← HS.out] at hsz1
                have htxs : (jn l).length = tx.size := by rw [← HTX.out, bts_len]
                have hoff1 : ((off l j : Nat) : Int) ≤ (tx.size : Int) := by omega
                have hoff2 : ((off l j : Nat) : Int) ≤ 1048576 := by omega
                have hoff0 : (0 : Int) ≤ ((off l j : Nat) : Int) := by omega
                have hss : s.size ≤ 1048576 := by omega
                have hss' : (s.size : Int) ≤ 1048576 := by omega
                have htxl : tx.size ≤ 4000000 := by
                  have := jn_len l
                  unfold rsum at hsm2
                  omega
                clear htxs hsz1 hsz2
                have HOS : Hid (off l (j + 1) = off l j + (s.size + 1)) := by show _ = _; rw [HS.out]; exact off_succ l j hjl
                have HTD : Hid (bts (tx.extract (off l j) tx.size) = jn (l.drop j)) := by show _ = _; rw [bts_from, HTX.out]; exact (off_drop l j hjl).2
                have hws1 := wr64 ((s.size : Int) + 1) (by omega) (by omega)
                have hws2 := wr64 (((off l j : Nat) : Int) + ((s.size : Int) + 1)) (by omega) (by omega)
                have HZ3 : Hid (Zc wr) := (HZ1.out.kept HK2.out (by simp)).kept HK3.out (by simp; exact fun e => hr0 e.symm)
                have HKIND : Hid (mrk st nb i l j = -1 ∨ ∃ m : Nat, mrk st nb i l j = m ∧ MkAt s m) := by show _ ∨ _; rw [HS.out]; exact mrk_kind st nb i l j hjl
                have HELJ : Hid (el j = if 0 ≤ mrk st nb i l j then bsl s (mrk st nb i l j).toNat else s) := by show _ = _; rw [HEL.out, HS.out]; rfl
                have HMA : Hid (exA st i j → mrk st nb i l j = -1) := fun h => mrk_a h
                have HMB : Hid (¬ exA st i j → nb = true ∨ j = 0 → hid (bts (tx.extract (off l j) tx.size)) = mrk st nb i l j) := fun h h2 => by rw [mrk_b h h2, HTD.out]
                have HMC : Hid (¬ exA st i j → ¬ (nb = true ∨ j = 0) → mrk st nb i l j = if fence (bts s) then hid (bts s) else -1) := fun h h2 => by rw [mrk_c h h2, ← HS.out]
                obtain ⟨m0, hm0⟩ : ∃ m0, m0 = mrk st nb i l j := ⟨_, rfl⟩
                rw [← hm0] at HKIND HELJ HMA HMB HMC
                clear hm0 HTD
                obtain ⟨o, ho⟩ : ∃ o, o = off l j := ⟨_, rfl⟩
                rw [← ho] at hoff1 hoff2 hoff0 HOS HMB hws2 ⊢
                clear ho
                have htxe : (tx.extract o tx.size).size ≤ 4000000 := by rw [← bts_len, bts_from, List.length_drop, bts_len]; omega
                have HCJ : Hid (RowI wr r l el j) := HI.out
                go_wp2_with fail
                go_at_call 31
                refine (indent_any s _ (by omega)).mono ?_
                rintro e w3 ⟨c, i0, rfl, hfc, hK⟩
                have HF : Hid (fence (bts s) = (decide (c ≤ 3) && (pf [96, 96, 96] (bts (s.extract i0 s.size)) || pf [126, 126, 126] (bts (s.extract i0 s.size))))) := by
                  show _ = _
                  rw [hfc, bts_from]
                have HKW : Hid (Kept [] wr w3) := hK
                have h2W := cell_kept hK h23 (by simp)
                have h3W := cell_kept hK h33 (by simp)
                have HI3 := HCJ.out.kept hK (by simp)
                have hcW := (HI3.cell j hjl).1
                have hfW := (HI3.cell j hjl).2
                rw [if_neg (Nat.lt_irrefl _), ← HS.out] at hcW
                have HII : Hid (RowI w3 r l el j) := HI3
                have HZW : Hid (Zc w3) := HZ3.out.kept hK (by simp)
                clear hK hfc h23 h33 hcj hfj hp3 HI3
                have gi : ((i : Int) == 0) = false := by simp; omega
                by_cases hj0 : j = 0
                · subst hj0
                  clear hwj
                  have hnA : ¬ exA st i 0 := fun h => hi0 h.1
                  cases nb with
                  | true =>
                    have hB : true = true ∨ (0 : Nat) = 0 := Or.inl rfl
                    have HEQ : Hid (hid (bts (tx.extract o tx.size)) = m0) := HMB.out hnA hB
                    go_wp2_with fail
                    go_at_call 21
                    refine (hiding_any (tx.extract o tx.size) _ (by first | omega | exact htxe) HZW.out).mono ?_
                    rintro e w4 ⟨rfl, hK⟩
                    rw [HEQ.out]
                    have HKX : Hid (Kept [] wr w4) := HKW.out.trans hK
                    have h3X := cell_kept hK h3W (by simp)
                    have HIX := HII.out.kept hK (by simp)
                    have hcX := (HIX.cell 0 hjl).1
                    have hfX := (HIX.cell 0 hjl).2
                    rw [if_neg (Nat.lt_irrefl _), ← HS.out] at hcX
                    clear HKW HII hK h2W h3W hcW hfW HZW
                    have HKW : Hid (Kept [] wr w4) := HKX.out
                    have HII : Hid (RowI w4 r l el 0) := HIX
                    clear HKX HIX
                    rcases HKIND.out with hm | ⟨m, hm, hmk⟩
                    · subst hm
                      clear HKIND HMA HMB HMC HF
                      have HELV : Hid (el 0 = s) := by show _ = _; rw [HELJ.out, if_neg (by omega)]
                      have NXT : Hid (RowI w4 r l el (0 + 1)) := HII.out.same (by rw [HELV.out, HS.out])
                      have NK : Hid (Kept [r] w2 w4) := HK3.out.trans (HKW.out.mono (by simp))
                      go_wp2_with fail
                      exact ⟨⟨0 + 1, by rw [HOS.out]; go_num, by go_num, by omega, NXT.out, NK.out⟩, by simp [intOf]; omega⟩
                    · subst hm
                      have HELV : Hid (el 0 = bsl s m) := by show _ = _; rw [HELJ.out, if_pos (by omega)]; rfl
                      have q1 : (m : Int) ≤ (s.size : Int) := by have := hmk.1; omega
                      have q0 : (0 : Int) ≤ (m : Int) := by omega
                      clear hmk
                      clear HKIND HMA HMB HMC HF
                      have NXT : Hid (RowI (w4.setCell ⟨r, 0, none⟩ (.string (bsl s m))) r l el (0 + 1)) := by
                        have := HII.out.set hjl
                        rw [HELV.out] at this
                        exact this
                      have NK : Hid (∀ u, Kept [r] w2 (w4.setCell ⟨r, 0, none⟩ u)) := fun u => (HK3.out.trans (HKW.out.mono (by simp))).setCell (p := ⟨r, 0, none⟩) (by simp) u
                      go_wp2_with fail
                      go_region
                      go_wp2_with fail
                      exact ⟨⟨0 + 1, by rw [HOS.out]; go_num, by go_num, by omega, NXT.out, (NK.out _).drew⟩, by simp [intOf]; omega⟩
                  | false =>
                    have hB : false = true ∨ (0 : Nat) = 0 := Or.inr rfl
                    have HEQ : Hid (hid (bts (tx.extract o tx.size)) = m0) := HMB.out hnA hB
                    go_wp2_with fail
                    go_at_call 21
                    refine (hiding_any (tx.extract o tx.size) _ (by first | omega | exact htxe) HZW.out).mono ?_
                    rintro e w4 ⟨rfl, hK⟩
                    rw [HEQ.out]
                    have HKX : Hid (Kept [] wr w4) := HKW.out.trans hK
                    have h3X := cell_kept hK h3W (by simp)
                    have HIX := HII.out.kept hK (by simp)
                    have hcX := (HIX.cell 0 hjl).1
                    have hfX := (HIX.cell 0 hjl).2
                    rw [if_neg (Nat.lt_irrefl _), ← HS.out] at hcX
                    clear HKW HII hK h2W h3W hcW hfW HZW
                    have HKW : Hid (Kept [] wr w4) := HKX.out
                    have HII : Hid (RowI w4 r l el 0) := HIX
                    clear HKX HIX
                    rcases HKIND.out with hm | ⟨m, hm, hmk⟩
                    · subst hm
                      clear HKIND HMA HMB HMC HF
                      have HELV : Hid (el 0 = s) := by show _ = _; rw [HELJ.out, if_neg (by omega)]
                      have NXT : Hid (RowI w4 r l el (0 + 1)) := HII.out.same (by rw [HELV.out, HS.out])
                      have NK : Hid (Kept [r] w2 w4) := HK3.out.trans (HKW.out.mono (by simp))
                      go_wp2_with fail
                      exact ⟨⟨0 + 1, by rw [HOS.out]; go_num, by go_num, by omega, NXT.out, NK.out⟩, by simp [intOf]; omega⟩
                    · subst hm
                      have HELV : Hid (el 0 = bsl s m) := by show _ = _; rw [HELJ.out, if_pos (by omega)]; rfl
                      have q1 : (m : Int) ≤ (s.size : Int) := by have := hmk.1; omega
                      have q0 : (0 : Int) ≤ (m : Int) := by omega
                      clear hmk
                      clear HKIND HMA HMB HMC HF
                      have NXT : Hid (RowI (w4.setCell ⟨r, 0, none⟩ (.string (bsl s m))) r l el (0 + 1)) := by
                        have := HII.out.set hjl
                        rw [HELV.out] at this
                        exact this
                      have NK : Hid (∀ u, Kept [r] w2 (w4.setCell ⟨r, 0, none⟩ u)) := fun u => (HK3.out.trans (HKW.out.mono (by simp))).setCell (p := ⟨r, 0, none⟩) (by simp) u
                      go_wp2_with fail
                      go_region
                      go_wp2_with fail
                      exact ⟨⟨0 + 1, by rw [HOS.out]; go_num, by go_num, by omega, NXT.out, (NK.out _).drew⟩, by simp [intOf]; omega⟩
                · have gj : ((j : Int) == 0) = false := by simp; omega
                  have hnA : ¬ exA st i j := fun h => hi0 h.1
                  cases nb with
                  | true =>
                    have hB : true = true ∨ j = 0 := Or.inl rfl
                    have HEQ : Hid (hid (bts (tx.extract o tx.size)) = m0) := HMB.out hnA hB
                    go_wp2_with fail
                    go_at_call 21
                    refine (hiding_any (tx.extract o tx.size) _ (by first | omega | exact htxe) HZW.out).mono ?_
                    rintro e w4 ⟨rfl, hK⟩
                    rw [HEQ.out]
                    have HKX : Hid (Kept [] wr w4) := HKW.out.trans hK
                    have h3X := cell_kept hK h3W (by simp)
                    have HIX := HII.out.kept hK (by simp)
                    have hcX := (HIX.cell j hjl).1
                    have hfX := (HIX.cell j hjl).2
                    rw [if_neg (Nat.lt_irrefl _), ← HS.out] at hcX
                    clear HKW HII hK h2W h3W hcW hfW HZW
                    have HKW : Hid (Kept [] wr w4) := HKX.out
                    have HII : Hid (RowI w4 r l el j) := HIX
                    clear HKX HIX
                    rcases HKIND.out with hm | ⟨m, hm, hmk⟩
                    · subst hm
                      clear HKIND HMA HMB HMC HF
                      have HELV : Hid (el j = s) := by show _ = _; rw [HELJ.out, if_neg (by omega)]
                      have NXT : Hid (RowI w4 r l el (j + 1)) := HII.out.same (by rw [HELV.out, HS.out])
                      have NK : Hid (Kept [r] w2 w4) := HK3.out.trans (HKW.out.mono (by simp))
                      go_wp2_with fail
                      exact ⟨⟨j + 1, by rw [HOS.out]; go_num, by go_num, by omega, NXT.out, NK.out⟩, by simp [intOf]; omega⟩
                    · subst hm
                      have HELV : Hid (el j = bsl s m) := by show _ = _; rw [HELJ.out, if_pos (by omega)]; rfl
                      have q1 : (m : Int) ≤ (s.size : Int) := by have := hmk.1; omega
                      have q0 : (0 : Int) ≤ (m : Int) := by omega
                      clear hmk
                      clear HKIND HMA HMB HMC HF
                      have NXT : Hid (RowI (w4.setCell ⟨r, j, none⟩ (.string (bsl s m))) r l el (j + 1)) := by
                        have := HII.out.set hjl
                        rw [HELV.out] at this
                        exact this
                      have NK : Hid (∀ u, Kept [r] w2 (w4.setCell ⟨r, j, none⟩ u)) := fun u => (HK3.out.trans (HKW.out.mono (by simp))).setCell (p := ⟨r, j, none⟩) (by simp) u
                      go_wp2_with fail
                      go_region
                      go_wp2_with fail
                      exact ⟨⟨j + 1, by rw [HOS.out]; go_num, by go_num, by omega, NXT.out, (NK.out _).drew⟩, by simp [intOf]; omega⟩
                  | false =>
                    have hnB : ¬ (false = true ∨ j = 0) := fun h => by rcases h with h | h; cases h; exact hj0 h
                    by_cases hc3 : c ≤ 3
                    · have HFF : fence (bts s) = (pf [96, 96, 96] (bts (s.extract i0 s.size)) || pf [126, 126, 126] (bts (s.extract i0 s.size))) := by rw [HF.out, decide_eq_true hc3, Bool.true_and]
                      cases ht1 : pf [96, 96, 96] (bts (s.extract i0 s.size)) with
                      | true =>
                        have hfen : fence (bts s) = true := by rw [HFF, ht1, Bool.true_or]
                        have HT1 : Hid (pf [96, 96, 96] (bts (s.extract i0 s.size)) = true) := ht1
                        have HEQ : Hid (hid (bts s) = m0) := by
                          show _ = _
                          rw [HMC.out hnA hnB, hfen]
                          rfl
                        clear HFF ht1 hfen
                        go_wp2_with fail
                        go_at_call 26
                        refine (hp_any (s.extract i0 s.size) ⟨#[96, 96, 96]⟩ [96, 96, 96] bts_bt3 _).mono ?_
                        rintro e w' ⟨rfl, rfl⟩
                        rw [HT1.out]
                        go_wp2_with fail
                        go_at_call 21
                        refine (hiding_any s _ (by first | omega | exact htxe) HZW.out).mono ?_
                        rintro e w4 ⟨rfl, hK⟩
                        rw [HEQ.out]
                        have HKX : Hid (Kept [] wr w4) := HKW.out.trans hK
                        have h3X := cell_kept hK h3W (by simp)
                        have HIX := HII.out.kept hK (by simp)
                        have hcX := (HIX.cell j hjl).1
                        have hfX := (HIX.cell j hjl).2
                        rw [if_neg (Nat.lt_irrefl _), ← HS.out] at hcX
                        clear HKW HII hK h2W h3W hcW hfW HZW
                        have HKW : Hid (Kept [] wr w4) := HKX.out
                        have HII : Hid (RowI w4 r l el j) := HIX
                        clear HKX HIX
                        rcases HKIND.out with hm | ⟨m, hm, hmk⟩
                        · subst hm
                          clear HKIND HMA HMB HMC HF
                          have HELV : Hid (el j = s) := by show _ = _; rw [HELJ.out, if_neg (by omega)]
                          have NXT : Hid (RowI w4 r l el (j + 1)) := HII.out.same (by rw [HELV.out, HS.out])
                          have NK : Hid (Kept [r] w2 w4) := HK3.out.trans (HKW.out.mono (by simp))
                          go_wp2_with fail
                          exact ⟨⟨j + 1, by rw [HOS.out]; go_num, by go_num, by omega, NXT.out, NK.out⟩, by simp [intOf]; omega⟩
                        · subst hm
                          have HELV : Hid (el j = bsl s m) := by show _ = _; rw [HELJ.out, if_pos (by omega)]; rfl
                          have q1 : (m : Int) ≤ (s.size : Int) := by have := hmk.1; omega
                          have q0 : (0 : Int) ≤ (m : Int) := by omega
                          clear hmk
                          clear HKIND HMA HMB HMC HF
                          have NXT : Hid (RowI (w4.setCell ⟨r, j, none⟩ (.string (bsl s m))) r l el (j + 1)) := by
                            have := HII.out.set hjl
                            rw [HELV.out] at this
                            exact this
                          have NK : Hid (∀ u, Kept [r] w2 (w4.setCell ⟨r, j, none⟩ u)) := fun u => (HK3.out.trans (HKW.out.mono (by simp))).setCell (p := ⟨r, j, none⟩) (by simp) u
                          go_wp2_with fail
                          go_region
                          go_wp2_with fail
                          exact ⟨⟨j + 1, by rw [HOS.out]; go_num, by go_num, by omega, NXT.out, (NK.out _).drew⟩, by simp [intOf]; omega⟩
                      | false =>
                        have HT1 : Hid (pf [96, 96, 96] (bts (s.extract i0 s.size)) = false) := ht1
                        cases ht2 : pf [126, 126, 126] (bts (s.extract i0 s.size)) with
                        | true =>
                          have hfen : fence (bts s) = true := by rw [HFF, ht1, ht2]; rfl
                          have HT2 : Hid (pf [126, 126, 126] (bts (s.extract i0 s.size)) = true) := ht2
                          have HEQ : Hid (hid (bts s) = m0) := by
                            show _ = _
                            rw [HMC.out hnA hnB, hfen]
                            rfl
                          clear HFF ht1 ht2 hfen
                          go_wp2_with fail
                          go_at_call 26
                          refine (hp_any (s.extract i0 s.size) ⟨#[96, 96, 96]⟩ [96, 96, 96] bts_bt3 _).mono ?_
                          rintro e w' ⟨rfl, rfl⟩
                          rw [HT1.out]
                          go_wp2_with fail
                          go_at_call 26
                          refine (hp_any (s.extract i0 s.size) ⟨#[126, 126, 126]⟩ [126, 126, 126] bts_tl3 _).mono ?_
                          rintro e w' ⟨rfl, rfl⟩
                          rw [HT2.out]
                          go_wp2_with fail
                          go_at_call 21
                          refine (hiding_any s _ (by first | omega | exact htxe) HZW.out).mono ?_
                          rintro e w4 ⟨rfl, hK⟩
                          rw [HEQ.out]
                          have HKX : Hid (Kept [] wr w4) := HKW.out.trans hK
                          have h3X := cell_kept hK h3W (by simp)
                          have HIX := HII.out.kept hK (by simp)
                          have hcX := (HIX.cell j hjl).1
                          have hfX := (HIX.cell j hjl).2
                          rw [if_neg (Nat.lt_irrefl _), ← HS.out] at hcX
                          clear HKW HII hK h2W h3W hcW hfW HZW
                          have HKW : Hid (Kept [] wr w4) := HKX.out
                          have HII : Hid (RowI w4 r l el j) := HIX
                          clear HKX HIX
                          rcases HKIND.out with hm | ⟨m, hm, hmk⟩
                          · subst hm
                            clear HKIND HMA HMB HMC HF
                            have HELV : Hid (el j = s) := by show _ = _; rw [HELJ.out, if_neg (by omega)]
                            have NXT : Hid (RowI w4 r l el (j + 1)) := HII.out.same (by rw [HELV.out, HS.out])
                            have NK : Hid (Kept [r] w2 w4) := HK3.out.trans (HKW.out.mono (by simp))
                            go_wp2_with fail
                            exact ⟨⟨j + 1, by rw [HOS.out]; go_num, by go_num, by omega, NXT.out, NK.out⟩, by simp [intOf]; omega⟩
                          · subst hm
                            have HELV : Hid (el j = bsl s m) := by show _ = _; rw [HELJ.out, if_pos (by omega)]; rfl
                            have q1 : (m : Int) ≤ (s.size : Int) := by have := hmk.1; omega
                            have q0 : (0 : Int) ≤ (m : Int) := by omega
                            clear hmk
                            clear HKIND HMA HMB HMC HF
                            have NXT : Hid (RowI (w4.setCell ⟨r, j, none⟩ (.string (bsl s m))) r l el (j + 1)) := by
                              have := HII.out.set hjl
                              rw [HELV.out] at this
                              exact this
                            have NK : Hid (∀ u, Kept [r] w2 (w4.setCell ⟨r, j, none⟩ u)) := fun u => (HK3.out.trans (HKW.out.mono (by simp))).setCell (p := ⟨r, j, none⟩) (by simp) u
                            go_wp2_with fail
                            go_region
                            go_wp2_with fail
                            exact ⟨⟨j + 1, by rw [HOS.out]; go_num, by go_num, by omega, NXT.out, (NK.out _).drew⟩, by simp [intOf]; omega⟩
                        | false =>
                          have hfen : fence (bts s) = false := by rw [HFF, ht1, ht2]; rfl
                          have HT2 : Hid (pf [126, 126, 126] (bts (s.extract i0 s.size)) = false) := ht2
                          have hm : m0 = -1 := by rw [HMC.out hnA hnB, hfen]; rfl
                          clear HFF ht1 ht2 hfen
                          go_wp2_with fail
                          go_at_call 26
                          refine (hp_any (s.extract i0 s.size) ⟨#[96, 96, 96]⟩ [96, 96, 96] bts_bt3 _).mono ?_
                          rintro e w' ⟨rfl, rfl⟩
                          rw [HT1.out]
                          go_wp2_with fail
                          go_at_call 26
                          refine (hp_any (s.extract i0 s.size) ⟨#[126, 126, 126]⟩ [126, 126, 126] bts_tl3 _).mono ?_
                          rintro e w' ⟨rfl, rfl⟩
                          rw [HT2.out]
                          subst hm
                          have HELV : Hid (el j = s) := by show _ = _; rw [HELJ.out, if_neg (by omega)]
                          clear HKIND HMA HMB HMC HF
                          have NXT : Hid (RowI w3 r l el (j + 1)) := HII.out.same (by rw [HELV.out, HS.out])
                          have NK : Hid (Kept [r] w2 w3) := HK3.out.trans (HKW.out.mono (by simp))
                          go_wp2_with fail
                          exact ⟨⟨j + 1, by rw [HOS.out]; go_num, by go_num, by omega, NXT.out, NK.out⟩, by simp [intOf]; omega⟩
                    · have hfen : fence (bts s) = false := by rw [HF.out, decide_eq_false hc3, Bool.false_and]
                      have hm : m0 = -1 := by rw [HMC.out hnA hnB, hfen]; rfl
                      clear hfen
                      subst hm
                      have HELV : Hid (el j = s) := by show _ = _; rw [HELJ.out, if_neg (by omega)]
                      clear HKIND HMA HMB HMC HF
                      have NXT : Hid (RowI w3 r l el (j + 1)) := HII.out.same (by rw [HELV.out, HS.out])
                      have NK : Hid (Kept [r] w2 w3) := HK3.out.trans (HKW.out.mono (by simp))
                      go_wp2_with fail
                      exact ⟨⟨j + 1, by rw [HOS.out]; go_num, by go_num, by omega, NXT.out, NK.out⟩, by simp [intOf]; omega⟩
              · have j1 : (l.length : Int) ≤ (j : Int) := by omega
                have hje : j = l.length := by omega
                have FIN : Hid (Rws wr rb (M.set i (erow st 0 nb i l))) := by
                  have h := HI.out
                  rw [hje] at h
                  have h2 := h.done
                  rw [HEL.out] at h2
                  have e : (List.range l.length).map (eln st nb i l) = erow st 0 nb i l := by unfold erow; rw [if_pos rfl]
                  rw [e] at h2
                  refine HR.out.set (by rw [HML2.out]; exact hlt) HRB.out (fun k hk hne => HINJ.out i k r hlt (by rw [← HML2.out]; exact hk) (fun e => hne e.symm) HRB.out) ?_ h2
                  exact (HK2.out.mono (by simp)).trans HK3.out
                have FK : Hid (Kept (rset rb L.length) w wr) := (HK.out.trans (HK2.out.mono (by simp))).trans (HK3.out.mono (fun k hk => by simp at hk; subst hk; exact rset_mem.2 ⟨i, hlt, HRB.out⟩))
                clear hje hI
                go_wp2_with fail
                exact ⟨⟨i + 1, by go_num, by omega, ⟨_, HSTEP.out, FIN.out⟩, FK.out⟩, by simp [intOf]; omega⟩
      · have g0 : (kk != 0) = true := by simpa using hk0
        have NX : Hid (MidL st ks ns L M (i + 1)) := HSKIP.out (by unfold erow; rw [if_neg hk0])
        clear HSTEP HSKIP
        go_wp2_with fail
        exact ⟨⟨i + 1, by go_num, by omega, ⟨M, NX.out, HR.out⟩, HK.out⟩, by simp [intOf]; omega⟩
    · have d1 : (L.length : Int) ≤ (i : Int) := by omega
      have hie : i = L.length := by omega
      have FIN : Hid (Rws w1 rb (eall st ks ns L)) := by
        have h := HM.out
        rw [hie] at h
        have := HR.out
        rw [h.end] at this
        exact this
      clear hie
      go_wp2_with fail
      go_end0
      exact ⟨rfl, FIN.out, HK.out⟩
end Go.Proofs.Qxb6605488a
