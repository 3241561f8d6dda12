import Derived.Test.Qxb6604708aDoorWk
namespace Go.Proofs.Qxb6604708aDoor
open Go.RowKit
set_option linter.unusedVariables false

/-- the physical lines -/
def lns : Nat → List UInt8 → List (List UInt8)
  | 0, _ => []
  | n + 1, X => if X.isEmpty then [] else ln X :: lns n (rst X)
def phl (X : List UInt8) : List (List UInt8) := lns X.length X

theorem rst_lt (X : List UInt8) (hX : X ≠ []) : (rst X).length < X.length := by
  obtain ⟨D, h1, h2, _⟩ := next_law X hX
  have := congrArg List.length h1
  simp at this
  omega
theorem lns_fuel (n m : Nat) (X : List UInt8) (h1 : X.length ≤ n) (h2 : X.length ≤ m) : lns n X = lns m X := by
  induction n generalizing m X with
  | zero =>
    have : X = [] := List.eq_nil_of_length_eq_zero (by omega)
    subst this
    cases m <;> rfl
  | succ n ih =>
    cases m with
    | zero =>
      have : X = [] := List.eq_nil_of_length_eq_zero (by omega)
      subst this
      rfl
    | succ m =>
      by_cases hX : X = []
      · subst hX; rfl
      · have := rst_lt X hX
        have he : X.isEmpty = false := by simpa using hX
        simp only [lns, he]
        rw [ih m (rst X) (by omega) (by omega)]
theorem phl_nil : phl [] = [] := rfl
theorem phl_next (X : List UInt8) (hX : X ≠ []) : phl X = ln X :: phl (rst X) := by
  have h := rst_lt X hX
  have he : X.isEmpty = false := by simpa using hX
  unfold phl
  obtain ⟨n, hn⟩ : ∃ n, X.length = n + 1 := ⟨X.length - 1, by omega⟩
  rw [hn]
  simp only [lns, he]
  rw [lns_fuel n (rst X).length (rst X) (by omega) (Nat.le_refl _)]
  simp
theorem phl_len (X : List UInt8) : (phl X).length ≤ X.length := by
  unfold phl
  suffices h : ∀ n (Y : List UInt8), (lns n Y).length ≤ n from h _ _
  intro n
  induction n with
  | zero => intro Y; simp [lns]
  | succ n ih =>
    intro Y
    simp only [lns]
    split
    · simp
    · have := ih (rst Y); simp; omega

def sv (ps : List ByteArray) : List Value := ps.map Value.string
theorem sv_one (ps : List ByteArray) : ∀ v ∈ sv ps, v.oneCell' = true := by
  intro v hv
  simp only [sv, List.mem_map] at hv
  obtain ⟨b, _, rfl⟩ := hv
  rfl
theorem Tryd.inf9 : (Tryd.prog.info? 9).map (fun i => (i.zero, i.size, i.bytes)) = some (some (.string ⟨#[]⟩), 1, 16) := by kernel_rfl

/-- append(out, one string) -/
theorem wpList_apps {ops : Array Oper} {rest : List Oper} {o : Oper} {a : Act} {w : World} {Q : Exit → Act → World → Prop} (hgd : o.guard = none) (s x : Operand)
    (ho : o.op = .call { callee := .builtin .append, args := #[s, x], argTypes := #[31, 31] }) (B : Nat) (p : Option Addr) (l : List ByteArray) (cap : Nat) (hs : a.eval s = .slice p l.length cap) (hown : w.ownsRow B 9 1 (.slice p l.length cap) l.length (sv l))
    (t : ByteArray) (g : Nat) (ty : TypeId) (hx : a.eval x = .slice (some ⟨g, 0, none⟩) 1 1) (hg : w.heap[g]? = some (.cells #[.string t] ty (0, 0))) (l' : List ByteArray) (hl' : l' = l ++ [t]) (h63 : l.length ≤ 10000000) (hB : B ≤ w.heap.size)
    (h : ∀ p' cap' w', w'.ownsRow B 9 1 (.slice p' l'.length cap') l'.length (sv l') → Kept (pblk p) w w' → (∀ k, k ∈ pblk p' → k ∈ pblk p ∨ k = w.heap.size) → wpList Tryd.prog ops Q rest (a.put o.dst (.slice p' l'.length cap')) w') :
    wpList Tryd.prog ops Q (o :: rest) a w := by
  subst hl'
  obtain ⟨i, hi, hzz⟩ := Option.map_eq_some_iff.1 Tryd.inf9
  simp only [Prod.mk.injEq] at hzz
  obtain ⟨hz, hsz, hby⟩ := hzz
  refine wpList_append_lies w hgd s x 31 ho B 9 i (.string ⟨#[]⟩) 1 16 Tryd.underlying31 hi hz hsz hby rfl (by omega) (.slice p l.length cap) l.length (sv l) hs hown ⟨g, 0, none⟩ 1 1 (sv [t]) hx rfl (fun j u hu => World.news_of_block hg j u hu) (sv_one _) (by omega) (by unfold maxLen; omega) (by omega) hB w.heap.size rfl ?_
  intro g' cap' w' h1 h2 h3 h4
  have e : sv l ++ sv [t] = sv (l ++ [t]) := by simp [sv]
  have e2 : l.length + 1 = (l ++ [t]).length := by simp
  rw [e, e2] at h1
  rw [e2]
  refine h (some ⟨g', 0, none⟩) cap' w' h1 ?_ ?_
  · refine ⟨h2.os, h2.tape, h2.output, h2.size, fun k hk hs => h2.block k hk ?_⟩
    cases p with
    | none => simp [Value.ownBlock]
    | some a => simp [Value.ownBlock]; simp [pblk] at hs; exact hs
  · intro k hk
    simp [pblk] at hk
    subst hk
    rcases h3 with h3 | h3
    · left
      cases p with
      | none => simp [Value.ownBlock] at h3
      | some a => simp [Value.ownBlock] at h3; simp [pblk, h3]
    · exact Or.inr h3

theorem owns_ats {w : World} {B : Nat} {p : Option Addr} {l : List ByteArray} {cap : Nat} (h : w.ownsRow B 9 1 (.slice p l.length cap) l.length (sv l)) : 0 < l.length → l.length ≤ cap ∧ ∃ g, p = some ⟨g, 0, none⟩ ∧ ∀ j (hj : j < l.length), w.cell? ⟨g, j, none⟩ = some (.string l[j]) := by
  intro h0
  rcases h.2 with ⟨e1, e2⟩ | ⟨g, c, cur, e1, e2, e3, e4, e5, e6, e7⟩
  · omega
  · simp only [Value.slice.injEq] at e1
    refine ⟨by omega, g, e1.1, fun j hj => cell_of e3 ?_⟩
    have hu : (sv l)[j]? = some (.string l[j]) := by simp [sv, hj]
    rw [← e7, List.getElem?_take] at hu
    split at hu
    · simpa using hu
    · simp at hu

set_option maxHeartbeats 400000 in
theorem keep_any (t : ByteArray) (limit : Int) (w : World) (ht : t.size ≤ 2000000) (hl1 : -9223372036854775808 ≤ limit) (hl2 : limit ≤ 9223372036854775806) :
    Calls Tryd.prog 15 #[.string t, .int .i64 limit] w fun e w' => ∃ u : ByteArray, e = .returned (.string u) ∧ u.data.toList = kp limit t.data.toList ∧ w = w' := by
  have htl : t.data.toList.length = t.size := by simp
  by_cases h0 : limit < 0
  · go_enter Tryd.func15, Tryd.ntmps15
    go_wp2
    go_ret
    refine ⟨_, rfl, ?_, rfl⟩
    have : (limit + 1).toNat = 0 := by omega
    unfold kp
    rw [this]; rfl
  · by_cases h1 : limit + 1 < t.size
    · obtain ⟨n, hn⟩ : ∃ n : Nat, limit + 1 = n := ⟨(limit + 1).toNat, by omega⟩
      have hw := wr64 (limit + 1) (by omega) (by omega)
      have b1 : (0 : Int) ≤ limit + 1 := by omega
      have b2 : limit + 1 ≤ (t.size : Int) := by omega
      have HN : Hid _ := hn
      clear hn
      go_enter Tryd.func15, Tryd.ntmps15
      go_wp2
      go_ret
      refine ⟨_, rfl, ?_, rfl⟩
      rw [Lib.extract_data]
      unfold kp
      simp
    · go_enter Tryd.func15, Tryd.ntmps15
      go_wp2
      go_ret
      refine ⟨_, rfl, ?_, rfl⟩
      unfold kp
      rw [List.take_of_length_le (by omega)]


/-- the loop of zzPhys -/
def PhI (s : ByteArray) (B : Nat) (w0 : World) (i st : Nat) (ps : List ByteArray) (p : Option Addr) (cap : Nat) (wr : World) : Prop :=
  st ≤ i ∧ i ≤ s.size ∧ (10 : UInt8) ∉ (s.data.toList.drop st).take (i - st) ∧ phl s.data.toList = ps.map (·.data.toList) ++ phl (s.data.toList.drop st) ∧ wr.ownsRow B 9 1 (.slice p ps.length cap) ps.length (sv ps) ∧ Below B w0 wr ∧ B ≤ wr.heap.size

theorem ph_hit {s : ByteArray} {i st : Nat} (h1 : st ≤ i) (h2 : i < s.size) (hb : s[i] = 10) (hno : (10 : UInt8) ∉ (s.data.toList.drop st).take (i - st)) :
    phl (s.data.toList.drop st) = (s.extract st i).data.toList :: phl (s.data.toList.drop (i + 1)) := by
  have hsz : s.data.toList.length = s.size := by simp
  have e : s.data.toList.drop st = (s.data.toList.drop st).take (i - st) ++ 10 :: s.data.toList.drop (i + 1) := by
    conv => lhs; rw [← List.take_append_drop (i - st) (s.data.toList.drop st)]
    rw [List.drop_drop, show st + (i - st) = i by omega]
    congr 1
    have e2 := str_at s i h2
    rw [List.getElem?_eq_getElem (by omega)] at e2
    rw [List.drop_eq_getElem_cons (by omega), Option.some.inj e2, hb]
  obtain ⟨e1, e2⟩ := ln_feed _ (s.data.toList.drop (i + 1)) hno
  rw [phl_next _ (by intro h; have := congrArg List.length h; simp at this; omega)]
  rw [← e] at e1 e2
  rw [e1, e2, Lib.extract_data]

theorem ph_no {s : ByteArray} {k m : Nat} (h1 : m ≤ k) (hlt : k < s.size) (hb : ¬ s[k] = 10) (hno : (10 : UInt8) ∉ (s.data.toList.drop m).take (k - m)) : (10 : UInt8) ∉ (s.data.toList.drop m).take (k + 1 - m) := by
  have hsz : s.data.toList.length = s.size := by simp
  rw [show k + 1 - m = (k - m) + 1 by omega, List.take_succ_eq_append_getElem (by simp; omega)]
  intro h
  rcases List.mem_append.1 h with h | h
  · exact hno h
  · simp only [List.mem_singleton, List.getElem_drop] at h
    have e2 := str_at s k hlt
    rw [List.getElem?_eq_getElem (by omega)] at e2
    have e3 := Option.some.inj e2
    simp only [show m + (k - m) = k by omega] at h
    rw [e3] at h
    exact hb h.symm

theorem ph_last {s : ByteArray} {st : Nat} (h2 : st < s.size) (hno : (10 : UInt8) ∉ (s.data.toList.drop st).take (s.size - st)) :
    phl (s.data.toList.drop st) = [(s.extract st s.size).data.toList] := by
  have hsz : s.data.toList.length = s.size := by simp
  have e : (s.data.toList.drop st).take (s.size - st) = s.data.toList.drop st := List.take_of_length_le (by simp)
  rw [e] at hno
  obtain ⟨e1, e2⟩ := ln_last _ hno
  rw [phl_next _ (by intro h; have := congrArg List.length h; simp at this; omega), e1, e2, phl_nil, Lib.extract_data, e]

set_option maxRecDepth 100000 in
set_option maxHeartbeats 1600000 in
theorem phys_any (s : ByteArray) (w : World) (hs : s.size ≤ 1048576) : Calls Tryd.prog 13 #[.string s] w fun e w' => ∃ (ps : List ByteArray) (p : Option Addr) (cap : Nat), e = .returned (.slice p ps.length cap) ∧ ps.map (·.data.toList) = phl s.data.toList ∧ w'.ownsRow w.heap.size 9 1 (.slice p ps.length cap) ps.length (sv ps) ∧ Below w.heap.size w w' := by
  go_enter Tryd.func13, Tryd.ntmps13
  go_wp2
  go_loopg [3, 4, 5] s.size (fun g out st i wr => ∃ (k m : Nat) (ps : List ByteArray) (p : Option Addr) (cap : Nat), g = s.size - k ∧ out = .slice p ps.length cap ∧ st = .int .i64 m ∧ i = .int .i64 k ∧ Hid (PhI s w.heap.size w k m ps p cap wr))
  case atStart => exact ⟨0, 0, [], none, 0, by omega, rfl, rfl, rfl, Nat.le_refl _, Nat.zero_le _, by simp, by simp, ⟨rfl, Or.inl ⟨rfl, rfl⟩⟩, Below.refl _ _, Nat.le_refl _⟩
  case round =>
    obtain ⟨k, m, ps, p, cap, rfl, rfl, rfl, rfl, HP⟩ := hrel
    have p1 : m ≤ k := HP.out.1
    have p2 : k ≤ s.size := HP.out.2.1
    have pl : ps.length ≤ 1048576 := by
      have h1 := congrArg List.length HP.out.2.2.2.1
      have h2 := phl_len s.data.toList
      simp at h1 h2
      omega
    have b1 : (0 : Int) ≤ (m : Int) := by omega
    have b2 : (m : Int) ≤ (k : Int) := by omega
    have b3 : (k : Int) ≤ (s.size : Int) := by omega
    by_cases hlt : k < s.size
    · cases hb : ((s[k].toNat : Int) == 10)
      · have hb3 : ¬ s[k] = 10 := fun e => by rw [e] at hb; simp at hb
        have HNN : Hid _ := ph_no p1 hlt hb3 HP.out.2.2.1
        clear hb3
        go_wp2
        go_roundg (s.size - (k + 1))
        case measure => omega
        case rel => exact ⟨k + 1, m, ps, p, cap, rfl, rfl, rfl, by go_num, by omega, by omega, HNN.out, HP.out.2.2.2⟩
      · have hb3 : s[k] = 10 := by
          apply UInt8.toNat.inj
          have h3 := hb
          simp only [beq_iff_eq] at h3
          show _ = 10
          omega
        have HH : Hid _ := ph_hit p1 hlt hb3 HP.out.2.2.1
        obtain ⟨ps2, hps2⟩ : ∃ ps2, ps2 = ps ++ [s.extract m k] := ⟨_, rfl⟩
        have HPS : Hid _ := hps2
        clear hps2 hb3
        go_wp2_with (first | (at_builtin; refine wpList_apps rfl (.tmp 16) (.tmp 21) rfl w.heap.size p ps cap rfl ?hown (s.extract m k) wr.heap.size 9 rfl ?hg ps2 HPS.out (by omega) ?hB ?next))
        case hown => exact ((Kept.refl [] wr).alloc _).owns HP.out.2.2.2.2.1 (by simp)
        case hg => exact heap_alloc_new _ _
        case hB => exact Nat.le_trans HP.out.2.2.2.2.2.2 (by simp)
        case next =>
          intro p' cap' w' h1 h2 h3
          have KB : Hid (Below w.heap.size w w') := HP.out.2.2.2.2.2.1.trans ((((Kept.refl [] wr).alloc _).below HP.out.2.2.2.2.2.2 (by simp)).trans (h2.below (Nat.le_trans HP.out.2.2.2.2.2.2 (by simp)) (fun k hk => (owns_lt HP.out.2.2.2.2.1 k hk).1)))
          have KS : Hid (w.heap.size ≤ w'.heap.size) := KB.out.size
          have H1 : Hid _ := h1
          clear h1 h2 h3
          go_wp2
          go_roundg (s.size - (k + 1))
          case measure => omega
          case rel => exact ⟨k + 1, k + 1, ps2, p', cap', rfl, rfl, by go_num, by go_num, by omega, by omega, by simp, by rw [HP.out.2.2.2.1, HH.out, HPS.out]; simp, H1.out, KB.out, KS.out⟩
    · obtain rfl : k = s.size := by omega
      by_cases hm : m < s.size
      · have HH : Hid _ := ph_last hm HP.out.2.2.1
        obtain ⟨ps2, hps2⟩ : ∃ ps2, ps2 = ps ++ [s.extract m s.size] := ⟨_, rfl⟩
        have HPS : Hid _ := hps2
        clear hps2
        go_wp2_with (first | (at_builtin; refine wpList_apps rfl (.tmp 29) (.tmp 33) rfl w.heap.size p ps cap rfl ?hown (s.extract m s.size) wr.heap.size 9 rfl ?hg ps2 HPS.out (by omega) ?hB ?next))
        case hown => exact ((Kept.refl [] wr).alloc _).owns HP.out.2.2.2.2.1 (by simp)
        case hg => exact heap_alloc_new _ _
        case hB => exact Nat.le_trans HP.out.2.2.2.2.2.2 (by simp)
        case next =>
          intro p' cap' w' h1 h2 h3
          have KB : Hid (Below w.heap.size w w') := HP.out.2.2.2.2.2.1.trans ((((Kept.refl [] wr).alloc _).below HP.out.2.2.2.2.2.2 (by simp)).trans (h2.below (Nat.le_trans HP.out.2.2.2.2.2.2 (by simp)) (fun k hk => (owns_lt HP.out.2.2.2.2.1 k hk).1)))
          have H1 : Hid _ := h1
          clear h1 h2 h3
          go_wp2
          go_ret
          exact ⟨ps2, p', cap', rfl, by rw [HP.out.2.2.2.1, HH.out, HPS.out]; simp, H1.out, KB.out⟩
      · go_wp2
        go_ret
        exact ⟨ps, p, cap, rfl, by rw [HP.out.2.2.2.1, List.drop_of_length_le (by simp; omega), phl_nil]; simp, HP.out.2.2.2.2.1, HP.out.2.2.2.2.2.1⟩

end Go.Proofs.Qxb6604708aDoor
