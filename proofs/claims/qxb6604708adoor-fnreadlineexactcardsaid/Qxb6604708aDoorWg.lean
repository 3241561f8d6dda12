import Derived.Test.Qxb6604708aDoorWa
import Derived.Test.Qxb6604708aDoorWf
namespace Go.Proofs.Qxb6604708aDoor
open Go.RowKit
set_option linter.unusedVariables false

theorem wpList_app {ops : Array Oper} {rest : List Oper} {o : Oper} {a : Act} {w : World} {Q : Exit → Act → World → Prop} (hgd : o.guard = none) (s x : Operand)
    (ho : o.op = .call { callee := .builtin .append, args := #[s, x], argTypes := #[25, 25] }) (B : Nat) (p : Option Addr) (l news : List UInt8) (cap : Nat) (hs : a.eval s = .slice p l.length cap) (hown : w.ownsRow B 5 1 (.slice p l.length cap) l.length (bv l))
    (src : Option Addr) (m c : Nat) (hx : a.eval x = .slice src m c) (hm : news.length = m) (hsrc : 0 < m → ∃ ad, src = some ad ∧ ∀ j u, (bv news)[j]? = some u → w.cell? (ad.add j) = some u) (l' : List UInt8) (hl' : l' = l ++ news) (h63 : l.length + m ≤ 10000000) (hB : B ≤ w.heap.size) (H : Nat) (hH : w.heap.size = H)
    (h : ∀ p' cap' w', w'.ownsRow B 5 1 (.slice p' l'.length cap') l'.length (bv l') → Kept (pblk p) w w' → (∀ k, k ∈ pblk p' → k ∈ pblk p ∨ k = H) → wpList Tryd.prog ops Q rest (a.put o.dst (.slice p' l'.length cap')) w') :
    wpList Tryd.prog ops Q (o :: rest) a w := by
  subst hl'
  obtain ⟨i, hi, hzz⟩ := Option.map_eq_some_iff.1 Tryd.inf5
  simp only [Prod.mk.injEq] at hzz
  obtain ⟨hz, hsz, hby⟩ := hzz
  by_cases h0 : m = 0
  · have hn0 : news = [] := List.eq_nil_of_length_eq_zero (by omega)
    subst hn0
    subst h0
    refine wpList_plain hgd fun K hK => ?_
    have hle : l.length ≤ cap := by
      rcases hown.2 with ⟨e, e2⟩ | ⟨_, _, _, e, _, _, e2, _⟩
      · omega
      · cases e; exact e2
    have hrun : (Builtin.append_ #[25, 25] o.type #[.slice p l.length cap, .slice src 0 c]).run Tryd.prog w = .ok (.slice p l.length cap) w := by
      cases src with
      | none => exact run_append_nothing (P := Tryd.prog) w 25 25 o.type 5 i Tryd.underlying25 hi p l.length cap hle _ (Src.ofNil w Tryd.underlying25 c)
      | some ad => exact run_append_nothing (P := Tryd.prog) w 25 25 o.type 5 i Tryd.underlying25 hi p l.length cap hle _ (Src.ofSlice (size := i.size) w Tryd.underlying25 ad 0 c [] (Nat.zero_mul _).symm (by simp) (by simp))
    unfold Oper.wp
    simp only [execOp, ho]
    simp [resolve, invoke, builtin, hs, hx, hrun, Result.andThen]
    have := hK _ _ (h p cap w (by simpa using hown) (Kept.refl _ _) (fun k hk => Or.inl hk))
    rw [List.append_nil] at this
    exact this
  · obtain ⟨ad, rfl, hcells⟩ := hsrc (by omega)
    refine wpList_append_lies w hgd s x 25 ho B 5 i (.int .u8 0) 1 1 Tryd.underlying25 hi hz hsz hby rfl (by omega) (.slice p l.length cap) l.length (bv l) hs hown ad m c (bv news) hx (by rw [bv_length]; omega) hcells (bv_one _) (by omega) (by unfold maxLen; omega) (by omega) hB H hH ?_
    intro g' cap' w' h1 h2 h3 h4
    rw [← hm, ← List.length_append, ← bv_append] at h1
    have := h (some ⟨g', 0, none⟩) cap' w' h1 ?_ ?_
    · rw [List.length_append, hm] at this; exact this
    · refine ⟨h2.os, h2.tape, h2.output, h2.size, fun k hk hs => h2.block k hk ?_⟩
      cases p with
      | none => simp [Value.ownBlock]
      | some a => simp [Value.ownBlock]; simp [pblk] at hs; exact hs
    · intro k hk
      simp [pblk] at hk
      subst hk
      rcases h3 with h3 | h3
      · left
        cases p with
        | none => simp [Value.ownBlock] at h3
        | some a => simp [Value.ownBlock] at h3; simp [pblk, h3]
      · exact Or.inr h3

theorem owns_src {w : World} {B : Nat} {p : Option Addr} {l : List UInt8} {cap : Nat} (h : w.ownsRow B 5 1 (.slice p l.length cap) l.length (bv l)) : 0 < l.length → ∃ ad, p = some ad ∧ ∀ j u, (bv l)[j]? = some u → w.cell? (ad.add j) = some u := by
  intro h0
  rcases h.2 with ⟨e1, e2⟩ | ⟨g, c, cur, e1, e2, e3, e4, e5, e6, e7⟩
  · omega
  · simp only [Value.slice.injEq] at e1
    refine ⟨⟨g, 0, none⟩, e1.1, fun j u hu => ?_⟩
    have hadd : (⟨g, 0, none⟩ : Addr).add j = ⟨g, j, none⟩ := by unfold Addr.add; split <;> simp_all
    rw [hadd]
    refine cell_of e3 ?_
    rw [← e7, List.getElem?_take] at hu
    split at hu
    · simpa using hu
    · simp at hu

theorem owns_at {w : World} {B : Nat} {p : Option Addr} {l : List UInt8} {cap : Nat} (h : w.ownsRow B 5 1 (.slice p l.length cap) l.length (bv l)) : 0 < l.length → l.length ≤ cap ∧ ∃ g, p = some ⟨g, 0, none⟩ ∧ ∀ j (hj : j < l.length), w.cell? ⟨g, j, none⟩ = some (.int .u8 l[j].toNat) := by
  intro h0
  rcases h.2 with ⟨e1, e2⟩ | ⟨g, c, cur, e1, e2, e3, e4, e5, e6, e7⟩
  · omega
  · simp only [Value.slice.injEq] at e1
    refine ⟨by omega, g, e1.1, fun j hj => cell_of e3 ?_⟩
    have hu : (bv l)[j]? = some (.int .u8 l[j].toNat) := by simp [bv, hj]
    rw [← e7, List.getElem?_take] at hu
    split at hu
    · simpa using hu
    · simp at hu

theorem lr_kept {B lb rb sb bb N : Nat} {s : ByteArray} {limit num : Int} {l X : List UInt8} {p : Option Addr} {cap : Nat} {w w' : World} {S : List Nat} (h : Lr B lb rb sb bb N s limit num l X p cap w) (hk : Kept S w w') (hS : ∀ k, k ∈ S → k ∉ [lb, rb, sb, bb] ++ pblk p) : Lr B lb rb sb bb N s limit num l X p cap w' := by
  obtain ⟨r, q, i, bs, pr, l1, l2, a1, a2, a3, a4, a5, a6, a7⟩ := h
  have far : ∀ k, k ∈ [lb, rb, sb, bb] ++ pblk p → k ∉ S := fun k h1 h2 => hS k h2 h1
  exact ⟨r, q, i, bs, pr, l1, l2, hk.at a1 (far _ (by simp)), hk.owns a2 (fun k h => far k (by simp [h])), a3, hk.at a4 (far _ (by simp)), hk.at a5 (far _ (by simp)), hk.at a6 (far _ (by simp)), a7⟩

theorem owns_lt {w : World} {B : Nat} {e : TypeId} {p : Option Addr} {n cap : Nat} {xs : List Value} (h : w.ownsRow B e 1 (.slice p n cap) n xs) : ∀ k, k ∈ pblk p → B ≤ k ∧ k < w.heap.size := by
  intro k hk
  rcases h.2 with ⟨e1, _⟩ | ⟨g, c, cur, e1, e2, e3, _⟩
  · simp only [Value.slice.injEq] at e1; rw [e1.1] at hk; simp [pblk] at hk
  · simp only [Value.slice.injEq] at e1; rw [e1.1] at hk; simp [pblk] at hk; exact ⟨by omega, by rw [hk]; exact lt_of e3⟩

set_option maxHeartbeats 400000 in
theorem zzReadLine_any (B lb rb sb bb N : Nat) (s : ByteArray) (limit num : Int) (bufl X : List UInt8) (p : Option Addr) (cap : Nat) (fa ea : Addr) (w : World) (fx : Fx B lb rb sb bb N s) (st : Sent B fa ea w)
    (h : Lr B lb rb sb bb N s limit num bufl X p cap w) (n0 : 0 ≤ num) (n1 : num ≤ 10000000) (m1 : -9223372036854775808 ≤ limit) (m2 : limit ≤ 9223372036854775806) :
    Calls Tryd.prog 10 #[.pointer (some ⟨lb, 0, none⟩)] w fun e w' => RlPost B lb rb sb bb N s limit num X p ea w e w' := by
  have HH : Hid _ := h
  have HST : Hid _ := st
  have HFX : Hid _ := fx
  clear h st fx
  go_enter Tryd.func10, Tryd.ntmps10
  go_wp2_with fail
  refine (readLine_any B lb rb sb bb N s limit num bufl X p cap fa ea w HFX.out HST.out HH.out n0 n1 m1 m2).mono ?_
  rintro e w' ⟨p', cap', hk, hpb, hh⟩
  rcases hh with ⟨hX, rfl, hL⟩ | ⟨hX, rfl, hL⟩
  · go_wp2
    go_ret2
    exact ⟨p', cap', hk, hpb, Or.inl ⟨hX, rfl, hL⟩⟩
  · have HX : Hid _ := hX
    clear hX
    go_wp2
    go_ret2
    exact ⟨p', cap', hk, hpb, Or.inr ⟨HX.out, rfl, hL⟩⟩

set_option maxHeartbeats 800000 in
theorem eqBS_true (B : Nat) (p : Option Addr) (l : List UInt8) (cap : Nat) (s : ByteArray) (w : World) (hown : w.ownsRow B 5 1 (.slice p l.length cap) l.length (bv l)) (hs : s.data.toList = l) (hl : l.length ≤ 10000000) :
    Calls Tryd.prog 11 #[.slice p l.length cap, .string s] w fun e w' => e = .returned (.bool true) ∧ ∃ n, w' = w.drewN n := by
  have hsz : s.size = l.length := by rw [← hs]; simp
  have HSRC : Hid _ := owns_at hown
  have HS : Hid _ := hs
  have b1 : (s.size : Int) = (l.length : Int) := by omega
  clear hs hown
  go_enter Tryd.func11, Tryd.ntmps11
  go_wp2
  go_loopw [5] (fun i wr => ∃ k n : Nat, k ≤ l.length ∧ i = .int .i64 k ∧ wr = w.drewN n) (fun i _ => l.length - (intOf i).toNat)
  case atStart => exact ⟨0, 0, Nat.zero_le _, rfl, rfl⟩
  case round =>
    obtain ⟨k, n, hk, rfl, rfl⟩ := hrel
    by_cases hlt : k < l.length
    · obtain ⟨hcap, g, rfl, hcell⟩ := HSRC.out (by omega)
      have hc := hcell k hlt
      have hks : k < s.size := by omega
      have hb : s[k].toNat = l[k].toNat := by
        have h1 := HS.out
        subst h1
        rfl
      have HSZ : Hid _ := hsz
      have b2 : (k : Int) < (l.length : Int) := by omega
      have b3 : (0 : Int) ≤ (k : Int) := by omega
      have b4 : (k : Int) < (s.size : Int) := by omega
      clear hcell hsz
      go_wp2
      go_region_held3 (fun w' => w'.cell? ⟨g, k, none⟩ = some (.int .u8 l[k].toNat)) (simp [hc]) (fail)
      go_wp2
      exact ⟨⟨k + 1, n + 1, by omega, by go_num, rfl⟩, by simp [intOf]; omega⟩
    · go_wp2
      go_ret
      exact ⟨rfl, n, rfl⟩

end Go.Proofs.Qxb6604708aDoor
