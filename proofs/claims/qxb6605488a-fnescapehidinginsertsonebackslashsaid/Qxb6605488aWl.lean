import Derived.Test.Qxb6605488aWk
import Derived.BigRegion
namespace Go.Proofs.Qxb6605488a
open Go.RowKit
set_option linter.unusedVariables false
set_option linter.unusedSimpArgs false

theorem Try.info48 : (Try.prog.info? 48).map (fun i => (i.zero, i.size, i.bytes)) = some (some (.agg #[.int .i64 0, .bool false, .slice none 0 0]), 3, 40) := by kernel_rfl

theorem mk_blocks (n : Nat) (hn : n ≤ 4000000) (w : World) :
    (Instr.makeSlice 40 (.int .i64 (n : Int)) (.int .i64 (n : Int))).run Try.prog w = .ok (.slice (some ⟨w.heap.size, 0, none⟩) n n) (w.alloc (.cells (madeCells #[.int .i64 0, .bool false, .slice none 0 0] (n * 3)) 48)) := by
  obtain ⟨i, hi, hzz⟩ := Option.map_eq_some_iff.1 Try.info48
  simp only [Prod.mk.injEq] at hzz
  obtain ⟨hz, hs, hb⟩ := hzz
  have hr := run_make (P := Try.prog) w 40 48 i _ Try.underlying40 hi hz .i64 .i64 (n : Int) (n : Int) (by omega) (by omega) (by rw [hb]; omega) (by omega)
  rw [hs] at hr
  have e : (n : Int).toNat = n := by omega
  rw [e] at hr
  exact hr


/-- The blocks laid so far. -/
def BkI (w : World) (bb n : Nat) (ks : List Int) (ns : List Bool) (rb : Nat → Option Nat) (L : List (List ByteArray)) (i : Nat) : Prop :=
  ∃ cs : Array Value, w.heap[bb]? = some (.cells cs 48 (0, 0)) ∧ cs.size = n * 3 ∧ ∀ k, k < i → cs[k * 3]? = some (.int .i64 (ks.getD k 0)) ∧ cs[k * 3 + 1]? = some (.bool (ns.getD k false)) ∧ cs[k * 3 + 2]? = some (rv (rb k) (L.getD k []).length)

theorem BkI.bks {w : World} {bb n : Nat} {ks : List Int} {ns : List Bool} {rb : Nat → Option Nat} {L : List (List ByteArray)} {i : Nat} (h : BkI w bb n ks ns rb L i) : Bks w bb i ks ns rb L := by
  obtain ⟨cs, h1, h2, h3⟩ := h
  intro k hk
  obtain ⟨a, b, c⟩ := h3 k hk
  exact ⟨cell_of h1 a, cell_of h1 b, cell_of h1 c⟩

theorem BkI.step {w : World} {bb n : Nat} {ks : List Int} {ns : List Bool} {rb : Nat → Option Nat} {L : List (List ByteArray)} {i : Nat} (h : BkI w bb n ks ns rb L i) (hi : i < n) :
    BkI (((w.setCell ⟨bb, i * 3, none⟩ (.int .i64 (ks.getD i 0))).setCell ⟨bb, i * 3 + 1, none⟩ (.bool (ns.getD i false))).setCell ⟨bb, i * 3 + 2, none⟩ (rv (rb i) (L.getD i []).length)) bb n ks ns rb L (i + 1) := by
  obtain ⟨cs, h1, h2, h3⟩ := h
  have g1 := Lib.heap_setCell_same (i := i * 3) h1 (.int .i64 (ks.getD i 0))
  have g2 := Lib.heap_setCell_same (i := i * 3 + 1) g1 (.bool (ns.getD i false))
  have g3 := Lib.heap_setCell_same (i := i * 3 + 2) g2 (rv (rb i) (L.getD i []).length)
  refine ⟨_, g3, by simpa using h2, fun k hk => ?_⟩
  by_cases e : k = i
  · subst e
    have l0 : k * 3 < cs.size := by omega
    have l1 : k * 3 + 1 < cs.size := by omega
    have l2 : k * 3 + 2 < cs.size := by omega
    refine ⟨?_, ?_, ?_⟩
    · rw [Array.getElem?_setIfInBounds, if_neg (by omega), Array.getElem?_setIfInBounds, if_neg (by omega)]
      simp [l0]
    · rw [Array.getElem?_setIfInBounds, if_neg (by omega)]
      simp [l1]
    · simp [l2]
  · obtain ⟨a, b, c⟩ := h3 k (by omega)
    refine ⟨?_, ?_, ?_⟩
    · rw [Array.getElem?_setIfInBounds, if_neg (by omega), Array.getElem?_setIfInBounds, if_neg (by omega), Array.getElem?_setIfInBounds, if_neg (by omega)]; exact a
    · rw [Array.getElem?_setIfInBounds, if_neg (by omega), Array.getElem?_setIfInBounds, if_neg (by omega), Array.getElem?_setIfInBounds, if_neg (by omega)]; exact b
    · rw [Array.getElem?_setIfInBounds, if_neg (by omega), Array.getElem?_setIfInBounds, if_neg (by omega), Array.getElem?_setIfInBounds, if_neg (by omega)]; exact c

/-- Lines of one's own behind 'escapeHiding'. -/
theorem Own.turned {S : List Nat} {w w' : World} {b : Nat} {rb : Nat → Option Nat} {L M : List (List ByteArray)} (h : Own w b rb L L.length) (hK : Kept S w w') (hb : b ∉ S) (hl : M.length = L.length) (hlen : ∀ k, k < L.length → (M.getD k []).length = (L.getD k []).length) (hR : Rws w' rb M) : Own w' b rb M M.length := by
  obtain ⟨⟨cs, h1, h2, h3⟩, h4, h5⟩ := h
  refine ⟨⟨cs, hK.at h1 hb, by omega, fun k hk => ?_⟩, fun k hk => ?_, fun j k r r' hjk hk hj hkr => h5 j k r r' hjk (by omega) hj hkr⟩
  · have := h3 k (by omega)
    rw [if_pos (by omega)] at this
    rw [if_pos hk, hlen k (by omega)]
    exact this
  · rcases hR k hk with h | ⟨r, e, hh⟩
    · exact Or.inl h
    · refine Or.inr ⟨r, e, ?_, hh⟩
      rcases h4 k (by omega) with ⟨e2, _⟩ | ⟨s, e2, hs, _⟩
      · rw [e2] at e; cases e
      · rw [e2] at e; cases e; exact hs

/-- .. and the rows' blocks lie below U. -/
def OwnU (B U : Nat) (w : World) (v : Value) (L : List (List ByteArray)) : Prop :=
  (v = .slice none 0 0 ∧ L = []) ∨ ∃ b rb, v = .slice (some ⟨b, 0, none⟩) L.length L.length ∧ B ≤ b ∧ Own w b rb L L.length ∧ ∀ k r, k < L.length → rb k = some r → r < U
theorem OwnV.up {B : Nat} {w : World} {v : Value} {L : List (List ByteArray)} (h : OwnV B w v L) : OwnU B w.heap.size w v L := by
  rcases h with h | ⟨b, rb, h1, h2, h3⟩
  · exact Or.inl h
  · exact Or.inr ⟨b, rb, h1, h2, h3, fun k r hk e => (h3.lt.2 k r hk e).1⟩
theorem OwnU.kept {B U : Nat} {w w' : World} {v : Value} {L : List (List ByteArray)} (h : OwnU B U w v L) (hK : Kept [] w w') : OwnU B U w' v L := by
  rcases h with h | ⟨b, rb, h1, h2, h3, h4⟩
  · exact Or.inl h
  · exact Or.inr ⟨b, rb, h1, h2, h3.kept hK (by simp) (by simp), h4⟩

def ZePost (B U : Nat) (st : Bool) (ks : List Int) (ns : List Bool) (v : Value) (L : List (List ByteArray)) (w : World) (e : Ending) (w' : World) : Prop :=
  e = .returned (.tuple #[]) ∧ OwnV B w' v (eall st ks ns L) ∧ ∃ S, Kept S w w' ∧ ∀ k, k ∈ S → B ≤ k ∧ k < U

set_option maxRecDepth 100000 in
set_option maxHeartbeats 4000000 in
theorem zzesc_any (vk vn : Value) (b : Nat) (ks : List Int) (ns : List Bool) (rb : Nat → Option Nat) (L : List (List ByteArray)) (st : Bool) (w : World) (hll : L.length ≤ 65536) (hkl : ks.length = L.length) (hnl : ns.length = L.length)
    (hk : Sl (fun _ => True) w vk (ks.map (Value.int .i64))) (hn : Sl (fun _ => True) w vn (ns.map Value.bool)) (hO : Own w b rb L L.length) (hz : Zc w) (B U : Nat) (hBb : B ≤ b) (hU : ∀ k r, k < L.length → rb k = some r → r < U) (hsm : ∀ i, i < L.length → (L.getD i []).length ≤ 65536 ∧ rsum (L.getD i []) ≤ 1048576) :
    Calls Try.prog 18 #[vk, vn, .slice (some ⟨b, 0, none⟩) L.length L.length, .bool st] w fun e w' => ZePost B U st ks ns (.slice (some ⟨b, 0, none⟩) L.length L.length) L w e w' := by
  have hmk := mk_blocks L.length (by omega)
  obtain ⟨ak, ck, rfl, hck, hkc⟩ := hk.at 0
  obtain ⟨an, cn, rfl, hcn, hnc⟩ := hn.at false
  have HKC : Hid (∀ i, i < ks.length → ∃ x, ak = some x ∧ True ∧ w.cell? (x.add i) = some (.int .i64 (ks.getD i 0))) := hkc
  have HNC : Hid (∀ i, i < ns.length → ∃ x, an = some x ∧ True ∧ w.cell? (x.add i) = some (.bool (ns.getD i false))) := hnc
  rw [hkl] at hck ⊢
  rw [hnl] at hcn ⊢
  have HKL : Hid (ks.length = L.length) := hkl
  have HNL : Hid (ns.length = L.length) := hnl
  have HO : Hid (Own w b rb L L.length) := hO
  have HZ : Hid (Zc w) := hz
  have HSM : Hid (∀ i, i < L.length → (L.getD i []).length ≤ 65536 ∧ rsum (L.getD i []) ≤ 1048576) := hsm
  clear hz hsm
  clear hk hn hkc hnc hkl hnl hO
  have bl : (L.length : Int) ≤ 65536 := by omega
  obtain ⟨bb, hbb⟩ : ∃ bb, bb = w.heap.size := ⟨_, rfl⟩
  have HBB : Hid (w.heap.size = bb) := hbb.symm
  clear hbb
  go_enter Try.func18, Try.ntmps18
  go_wp2_with fail
  rw [HBB.out]
  go_loopw [9] (fun v wr => ∃ i : Nat, v = .int .i64 i ∧ i ≤ L.length ∧ BkI wr bb L.length ks ns rb L i ∧ wr.cell? ⟨bb + 1, 0, none⟩ = some (.slice (some ⟨bb, 0, none⟩) L.length L.length) ∧ Kept [] w wr) (fun v _ => L.length - (intOf v).toNat)
  case atStart =>
    refine ⟨0, rfl, Nat.zero_le _, ?_, ?_, ?_⟩
    · rw [← HBB.out]
      refine ⟨madeCells #[.int .i64 0, .bool false, .slice none 0 0] (L.length * 3), ?_, size_madeCells _ _, fun k hk => by omega⟩
      rw [Below.heap_alloc _ _ _ (by simp)]
      exact heap_alloc_new w _
    · rw [← HBB.out]
      have e : w.heap.size + 1 = (w.alloc (.cells (madeCells #[.int .i64 0, .bool false, .slice none 0 0] (L.length * 3)) 48)).heap.size := by simp
      rw [e]
      exact cell_of (heap_alloc_new _ _) rfl
    · exact ((Kept.refl [] w).alloc _).alloc _
  case round =>
    clear hmk
    obtain ⟨i, rfl, hi, hB, hp, hK⟩ := hrel
    have HB : Hid (BkI wr bb L.length ks ns rb L i) := hB
    have HK : Hid (Kept [] w wr) := hK
    have d0 : (0 : Int) ≤ (i : Int) := by omega
    by_cases hlt : i < L.length
    · have d1 : (i : Int) < (L.length : Int) := by omega
      have hwi := wr64 ((i : Int) + 1) (by omega) (by omega)
      obtain ⟨x, rfl, _, hxc⟩ := HKC.out i (by rw [HKL.out]; exact hlt)
      obtain ⟨y, rfl, _, hyc⟩ := HNC.out i (by rw [HNL.out]; exact hlt)
      have hxc' := cell_kept hK hxc (by simp)
      have hyc' := cell_kept hK hyc (by simp)
      have hzc := (HO.out.cell i hlt).1
      rw [if_pos hlt] at hzc
      have hzc' := cell_kept hK hzc (by simp)
      obtain ⟨cs, hcs, hsz, _⟩ := hB
      have f0 := frozen_of hcs (i * 3)
      have f1 := frozen_of hcs (i * 3 + 1)
      have f2 := frozen_of hcs (i * 3 + 2)
      have c0 : wr.cell? ⟨bb, i * 3, none⟩ = some (cs[i * 3]'(by omega)) := cell_of hcs (by simp)
      have c1 : wr.cell? ⟨bb, i * 3 + 1, none⟩ = some (cs[i * 3 + 1]'(by omega)) := cell_of hcs (by simp)
      have c2 : wr.cell? ⟨bb, i * 3 + 2, none⟩ = some (cs[i * 3 + 2]'(by omega)) := cell_of hcs (by simp)
      obtain ⟨kk, hkk⟩ : ∃ kk, kk = ks.getD i 0 := ⟨_, rfl⟩
      obtain ⟨nb, hnb⟩ : ∃ nb, nb = ns.getD i false := ⟨_, rfl⟩
      obtain ⟨vl, hvl⟩ : ∃ vl, vl = rv (rb i) (L.getD i []).length := ⟨_, rfl⟩
      obtain ⟨av, nv, cv, hav⟩ : ∃ av nv cv, vl = .slice av nv cv := by rw [hvl]; cases rb i <;> exact ⟨_, _, _, rfl⟩
      rw [← hkk] at hxc'
      rw [← hnb] at hyc'
      rw [← hvl, hav] at hzc'
      have HKK : Hid (kk = ks.getD i 0) := hkk
      have HNB : Hid (nb = ns.getD i false) := hnb
      have HVL : Hid (.slice av nv cv = rv (rb i) (L.getD i []).length) := by rw [← hav]; exact hvl
      clear hkk hnb hvl hav hxc hyc hzc hK
      have NXT : Hid (BkI (((wr.setCell ⟨bb, i * 3, none⟩ (.int .i64 kk)).setCell ⟨bb, i * 3 + 1, none⟩ (.bool nb)).setCell ⟨bb, i * 3 + 2, none⟩ (.slice av nv cv)) bb L.length ks ns rb L (i + 1)) := by
        rw [HKK.out, HNB.out, HVL.out]
        exact HB.out.step hlt
      have NK0 : Hid (Kept [bb] wr (((wr.setCell ⟨bb, i * 3, none⟩ (.int .i64 kk)).setCell ⟨bb, i * 3 + 1, none⟩ (.bool nb)).setCell ⟨bb, i * 3 + 2, none⟩ (.slice av nv cv))) := (((Kept.refl [bb] wr).setCell (p := ⟨bb, i * 3, none⟩) (by simp) _).setCell (p := ⟨bb, i * 3 + 1, none⟩) (by simp) _).setCell (p := ⟨bb, i * 3 + 2, none⟩) (by simp) _
      have NK : Hid (Kept [] w (((wr.setCell ⟨bb, i * 3, none⟩ (.int .i64 kk)).setCell ⟨bb, i * 3 + 1, none⟩ (.bool nb)).setCell ⟨bb, i * 3 + 2, none⟩ (.slice av nv cv))) := HK.out.trans_new NK0.out (fun k hk => by simp at hk; subst hk; exact Or.inr (by rw [HBB.out]; exact Nat.le_refl _))
      have NP : Hid ((((wr.setCell ⟨bb, i * 3, none⟩ (.int .i64 kk)).setCell ⟨bb, i * 3 + 1, none⟩ (.bool nb)).setCell ⟨bb, i * 3 + 2, none⟩ (.slice av nv cv)).cell? ⟨bb + 1, 0, none⟩ = some (.slice (some ⟨bb, 0, none⟩) L.length L.length)) := cell_kept NK0.out hp (by simp)
      go_wp2_with fail
      go_region
      go_wp2_with fail
      exact ⟨⟨i + 1, by go_num, by omega, NXT.out, NP.out, NK.out.drew⟩, by simp [intOf]; omega⟩
    · have d1 : (L.length : Int) ≤ (i : Int) := by omega
      have hie : i = L.length := by omega
      have HBK : Hid (Bks wr bb L.length ks ns rb L) := by have := HB.out.bks; rw [hie] at this; exact this
      have HRW : Hid (Rws wr rb L) := by
        intro k hk
        rcases HO.out.rows k hk with h | ⟨r, e, _, hh⟩
        · exact Or.inl h
        · exact Or.inr ⟨r, e, HK.out.at hh (by simp)⟩
      have HINJ : Hid (∀ j k r, j < L.length → k < L.length → j ≠ k → rb j = some r → rb k ≠ some r) := by
        intro j k r hj hk hne e1 e2
        rcases Nat.lt_trichotomy j k with h | h | h
        · exact absurd (HO.out.mono j k r r h hk e1 e2) (by omega)
        · exact hne h
        · exact absurd (HO.out.mono k j r r h hj e2 e1) (by omega)
      have HSEP : Hid (∀ k r, k < L.length → rb k = some r → r ≠ bb + 1 ∧ r ≠ bb ∧ r ≠ 0) := by
        intro k r hk e
        have := HO.out.lt.2 k r hk e
        rw [HBB.out] at this
        exact ⟨by omega, by omega, by omega⟩
      have HZR : Hid (Zc wr) := HZ.out.kept HK.out (by simp)
      have HPP : Hid (wr.cell? ⟨bb + 1, 0, none⟩ = some (.slice (some ⟨bb, 0, none⟩) L.length L.length)) := hp
      clear hie hp hB hK
      go_wp2_with (go_at_call 24; refine (esc_any (bb + 1) bb ks ns rb L st _ HPP.out HBK.out HRW.out HINJ.out HSEP.out HZR.out hll HSM.out).mono ?_; rintro e w2 ⟨rfl, hR2, hK2⟩; have HR2 : Hid (Rws w2 rb (eall st ks ns L)) := hR2; have HK2 : Hid (Kept (rset rb L.length) wr w2) := hK2; clear hR2 hK2)
      go_end0
      have KW : Kept (rset rb L.length) w w2 := (HK.out.mono (by simp)).trans HK2.out
      have hbS : b ∉ rset rb L.length := by
        intro hm
        obtain ⟨k, hk, e⟩ := rset_mem.1 hm
        have := (HO.out.lt.2 k b hk e).2
        omega
      refine ⟨rfl, Or.inr ⟨b, rb, ?_, hBb, ?_⟩, rset rb L.length, KW, ?_⟩
      · rw [eall_len]
      · exact HO.out.turned KW hbS (eall_len _ _ _ _) (fun k hk => by rw [eall_at _ _ _ _ _ hk, erow_len]) HR2.out
      · intro k hm
        obtain ⟨j, hj, e⟩ := rset_mem.1 hm
        have := HO.out.lt.2 j k hj e
        have := hU j k hj e
        omega

set_option maxRecDepth 100000 in
set_option maxHeartbeats 4000000 in
theorem zzesc_nil (vk vn : Value) (st : Bool) (w : World) (hz : Zc w) :
    Calls Try.prog 18 #[vk, vn, .slice none 0 0, .bool st] w fun e w' => e = .returned (.tuple #[]) ∧ Kept [] w w' := by
  have hmk := mk_blocks 0 (by omega)
  have HZ : Hid (Zc w) := hz
  clear hz
  obtain ⟨bb, hbb⟩ : ∃ bb, bb = w.heap.size := ⟨_, rfl⟩
  have HBB : Hid (w.heap.size = bb) := hbb.symm
  clear hbb
  have hmk0 : ∀ w : World, (Instr.makeSlice 40 (.int .i64 0) (.int .i64 0)).run Try.prog w = .ok (.slice (some ⟨w.heap.size, 0, none⟩) 0 0) (w.alloc (.cells (madeCells #[.int .i64 0, .bool false, .slice none 0 0] 0) 48)) := fun w => mk_blocks 0 (by omega) w
  clear hmk
  go_enter Try.func18, Try.ntmps18
  go_wp2_with fail
  rw [HBB.out]
  go_loopw [9] (fun v wr => v = .int .i64 0 ∧ wr.cell? ⟨bb + 1, 0, none⟩ = some (.slice (some ⟨bb, 0, none⟩) 0 0) ∧ Kept [] w wr) (fun _ _ => 0)
  case atStart =>
    refine ⟨rfl, ?_, ((Kept.refl [] w).alloc _).alloc _⟩
    rw [← HBB.out]
    have e : w.heap.size + 1 = (w.alloc (.cells (madeCells #[.int .i64 0, .bool false, .slice none 0 0] 0) 48)).heap.size := by simp
    rw [e]
    exact cell_of (heap_alloc_new _ _) rfl
  case round =>
    clear hmk0
    obtain ⟨rfl, hp, hK⟩ := hrel
    have HK : Hid (Kept [] w wr) := hK
    have HP : Hid (wr.cell? ⟨bb + 1, 0, none⟩ = some (.slice (some ⟨bb, 0, none⟩) 0 0)) := hp
    have HZR : Hid (Zc wr) := HZ.out.kept hK (by simp)
    clear hp hK
    go_wp2_with (go_at_call 24; refine (esc_any (bb + 1) bb [] [] (fun _ => none) [] st _ HP.out (fun k hk => by simp at hk) (fun k hk => by simp at hk) (fun j k r hj => by simp at hj) (fun k r hk => by simp at hk) HZR.out (by simp) (fun i hi => by simp at hi)).mono ?_; rintro e w2 ⟨rfl, _, hK2⟩; have HK2 : Hid (Kept [] wr w2) := hK2; clear hK2)
    go_end0
    exact ⟨rfl, HK.out.trans HK2.out⟩

theorem zzesc_all (vk vn v : Value) (ks : List Int) (ns : List Bool) (L : List (List ByteArray)) (st : Bool) (w : World) (B U : Nat) (hll : L.length ≤ 65536) (hkl : ks.length = L.length) (hnl : ns.length = L.length)
    (hk : Sl (fun _ => True) w vk (ks.map (Value.int .i64))) (hn : Sl (fun _ => True) w vn (ns.map Value.bool)) (hO : OwnU B U w v L) (hz : Zc w) (hsm : ∀ i, i < L.length → (L.getD i []).length ≤ 65536 ∧ rsum (L.getD i []) ≤ 1048576) :
    Calls Try.prog 18 #[vk, vn, v, .bool st] w fun e w' => ZePost B U st ks ns v L w e w' := by
  rcases hO with ⟨rfl, rfl⟩ | ⟨b, rb, rfl, hb, hO, hU⟩
  · refine (zzesc_nil vk vn st w hz).mono ?_
    rintro e w' ⟨rfl, hK⟩
    exact ⟨rfl, Or.inl ⟨rfl, rfl⟩, [], hK, fun k hk => by simp at hk⟩
  · exact zzesc_any vk vn b ks ns rb L st w hll hkl hnl hk hn hO hz B U hb hU hsm
end Go.Proofs.Qxb6605488a
