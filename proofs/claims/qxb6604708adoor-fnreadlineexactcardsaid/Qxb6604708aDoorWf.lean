import Derived.Test.Qxb6604708aDoorWe
namespace Go.Proofs.Qxb6604708aDoor
open Go.RowKit
set_option linter.unusedVariables false

def kp (limit : Int) (l : List UInt8) : List UInt8 := l.take (limit + 1).toNat

structure Fx (B lb rb sb bb N : Nat) (s : ByteArray) : Prop where
  b2 : 2 ≤ B
  lB : B ≤ lb
  rB : B ≤ rb
  sB : B ≤ sb
  bB : B ≤ bb
  lr : lb ≠ rb
  ls : lb ≠ sb
  lbb : lb ≠ bb
  rs : rb ≠ sb
  rbb : rb ≠ bb
  sbb : sb ≠ bb
  N0 : 0 < N
  N2 : N ≤ 100000
  s2 : s.size ≤ 1100000

structure Sent (B : Nat) (fa ea : Addr) (w : World) : Prop where
  size : B ≤ w.heap.size
  c0 : w.cell? ⟨0, 0, none⟩ = some (.iface 81 (.pointer (some fa)))
  c1 : w.cell? ⟨1, 0, none⟩ = some (.iface 81 (.pointer (some ea)))
  f : fa.block < B
  e : ea.block < B
  ne : fa ≠ ea
  rf : ∃ c t, w.heap[fa.block]? = some (.cells c t (0, 0))
  re : ∃ c t, w.heap[ea.block]? = some (.cells c t (0, 0))

theorem Sent.kept {B : Nat} {fa ea : Addr} {w w' : World} (h : Sent B fa ea w) (h2 : 2 ≤ B) {S : List Nat} (hk : Kept S w w') (hS : ∀ k, k ∈ S → B ≤ k) : Sent B fa ea w' := by
  have hn : ∀ k, k < B → k ∉ S := fun k hk e => by have := hS k e; omega
  have hs := h.size
  have hf := h.f
  have he := h.e
  refine ⟨Nat.le_trans h.size hk.size, (hk.cell (by omega) (hn 0 (by omega)) 0).trans h.c0, (hk.cell (by omega) (hn 1 (by omega)) 0).trans h.c1, h.f, h.e, h.ne, ?_, ?_⟩
  · obtain ⟨c, t, e⟩ := h.rf; exact ⟨c, t, hk.at e (hn _ hf)⟩
  · obtain ⟨c, t, e⟩ := h.re; exact ⟨c, t, hk.at e (hn _ he)⟩

def Lr (B lb rb sb bb N : Nat) (s : ByteArray) (limit num : Int) (bufl X : List UInt8) (p : Option Addr) (cap : Nat) (w : World) : Prop :=
  ∃ (r q i : Nat) (bs : List UInt8) (pr l1 l2 : Int),
    w.heap[lb]? = some (.cells #[.pointer (some ⟨rb, 0, none⟩), .int .i64 limit, .int .i64 num, .slice p bufl.length cap] 47 (0, 0)) ∧
    w.ownsRow B 5 1 (.slice p bufl.length cap) bufl.length (bv bufl) ∧ (∀ k, k ∈ pblk p → k ∉ [lb, rb, sb, bb]) ∧
    w.heap[rb]? = some (.cells (rdr bb N sb r q .nilIface l1 l2) 65 (0, 0)) ∧ w.heap[sb]? = some (.cells #[.string s, .int .i64 i, .int .i64 pr] 53 (0, 0)) ∧ w.heap[bb]? = some (.cells (bc bs) 5 (0, 0)) ∧
    bs.length = N ∧ r ≤ q ∧ q ≤ N ∧ i ≤ s.size ∧ X = (bs.take q).drop r ++ s.data.toList.drop i

/-- the loop of readLine -/
def LrJ (B lb rb sb bb N : Nat) (s : ByteArray) (limit num : Int) (p0 : Option Addr) (w0 : World) (P X1 : List UInt8) (wr : World) : Prop :=
  ∃ (p : Option Addr) (cap : Nat), (10 : UInt8) ∉ P ∧ Lr B lb rb sb bb N s limit num (kp limit P) X1 p cap wr ∧ Kept ([lb, rb, sb, bb] ++ pblk p0) w0 wr ∧ (∀ k, k ∈ pblk p → k ∈ pblk p0 ∨ w0.heap.size ≤ k)

theorem lr_cells {w : World} {lb rb : Nat} {limit num : Int} {p : Option Addr} {n cap : Nat} (h : w.heap[lb]? = some (.cells #[.pointer (some ⟨rb, 0, none⟩), .int .i64 limit, .int .i64 num, .slice p n cap] 47 (0, 0))) :
    w.cell? ⟨lb, 0, none⟩ = some (.pointer (some ⟨rb, 0, none⟩)) ∧ w.cell? ⟨lb, 1, none⟩ = some (.int .i64 limit) ∧ w.cell? ⟨lb, 2, none⟩ = some (.int .i64 num) ∧ w.cell? ⟨lb, 3, none⟩ = some (.slice p n cap) ∧ ∀ i, w.frozen? ⟨lb, i, none⟩ = false :=
  ⟨cell_of h rfl, cell_of h rfl, cell_of h rfl, cell_of h rfl, frozen_of h⟩

theorem Kept.owns {S : List Nat} {w w' : World} (hk : Kept S w w') {B : Nat} {e : TypeId} {size : Nat} {p : Option Addr} {n m cap : Nat} {xs : List Value} (h : w.ownsRow B e size (.slice p m cap) n xs) (hp : ∀ k, k ∈ pblk p → k ∉ S) : w'.ownsRow B e size (.slice p m cap) n xs := by
  refine ⟨h.1, ?_⟩
  rcases h.2 with h | ⟨g, c, cur, e1, e2, e3, e4⟩
  · exact Or.inl h
  · simp only [Value.slice.injEq] at e1
    obtain ⟨rfl, rfl, rfl⟩ := e1
    exact Or.inr ⟨g, cap, cur, rfl, e2, hk.at e3 (hp g (by simp [pblk])), e4⟩

theorem owns_zero {w : World} {B : Nat} {e : TypeId} {p : Option Addr} {n cap : Nat} {xs : List Value} (h : w.ownsRow B e 1 (.slice p n cap) n xs) : w.ownsRow B e 1 (.slice p 0 cap) 0 [] := by
  refine ⟨by simp, ?_⟩
  rcases h.2 with ⟨e1, e2⟩ | ⟨g, c, cur, e1, e2, e3, e4, e5, e6, e7⟩
  · simp only [Value.slice.injEq] at e1; obtain ⟨rfl, _, rfl⟩ := e1; exact Or.inl ⟨rfl, rfl⟩
  · simp only [Value.slice.injEq] at e1; obtain ⟨rfl, _, rfl⟩ := e1; exact Or.inr ⟨g, cap, cur, rfl, e2, e3, Nat.zero_le _, e5, e6, by simp⟩

/-- lr.buf = lr.buf[:0] -/
theorem lr_start {B lb rb sb bb N : Nat} {s : ByteArray} {limit num : Int} {bufl X : List UInt8} {p : Option Addr} {cap : Nat} {w : World} (fx : Fx B lb rb sb bb N s) (h : Lr B lb rb sb bb N s limit num bufl X p cap w) :
    LrJ B lb rb sb bb N s limit num p w [] X (w.setCell ⟨lb, 3, none⟩ (.slice p 0 cap)) := by
  obtain ⟨r, q, i, bs, pr, l1, l2, a1, a2, a3, a4, a5, a6, a7⟩ := h
  have hk : Kept [lb] w (w.setCell ⟨lb, 3, none⟩ (.slice p 0 cap)) := (Kept.refl [lb] w).setCell (p := ⟨lb, 3, none⟩) (by simp) _
  refine ⟨p, cap, by simp, ⟨r, q, i, bs, pr, l1, l2, ?_, ?_, a3, hk.at a4 (by simp [Ne.symm fx.lr]), hk.at a5 (by simp [Ne.symm fx.ls]), hk.at a6 (by simp [Ne.symm fx.lbb]), a7⟩, hk.mono (by intro k hk; simp at hk ⊢; omega), fun k hk => Or.inl hk⟩
  · have := Lib.heap_setCell_same (i := 3) a1 (.slice p 0 cap)
    simpa [kp] using this
  · have := hk.owns (owns_zero a2) (fun k hk2 e => a3 k hk2 (by simp at e; simp [e]))
    simpa [kp, bv] using this

def ln (X : List UInt8) : List UInt8 := X.takeWhile (· != 10)
def rst (X : List UInt8) : List UInt8 := (X.dropWhile (· != 10)).drop 1

theorem tw_no (P : List UInt8) (h : (10 : UInt8) ∉ P) (T : List UInt8) : (P ++ T).takeWhile (· != 10) = P ++ T.takeWhile (· != 10) ∧ (P ++ T).dropWhile (· != 10) = T.dropWhile (· != 10) := by
  induction P with
  | nil => simp
  | cons b P ih =>
    simp at h
    obtain ⟨h1, h2⟩ := h
    have hb : (b != 10) = true := by simp; exact fun e => h1 e.symm
    obtain ⟨i1, i2⟩ := ih h2
    exact ⟨by rw [List.cons_append, List.takeWhile_cons, if_pos hb, i1]; rfl, by rw [List.cons_append, List.dropWhile_cons, if_pos hb, i2]⟩

theorem ln_feed (P X2 : List UInt8) (h : (10 : UInt8) ∉ P) : ln (P ++ 10 :: X2) = P ∧ rst (P ++ 10 :: X2) = X2 := by
  obtain ⟨h1, h2⟩ := tw_no P h (10 :: X2)
  unfold ln rst
  rw [h1, h2]
  simp
theorem ln_last (P : List UInt8) (h : (10 : UInt8) ∉ P) : ln P = P ∧ rst P = [] := by
  obtain ⟨h1, h2⟩ := tw_no P h []
  unfold ln rst
  simp only [List.append_nil] at h1 h2
  rw [h1, h2]
  simp

def RlPost (B lb rb sb bb N : Nat) (s : ByteArray) (limit num : Int) (X : List UInt8) (p : Option Addr) (ea : Addr) (w : World) (e : Ending) (w' : World) : Prop :=
  ∃ (p' : Option Addr) (cap' : Nat), Kept ([lb, rb, sb, bb] ++ pblk p) w w' ∧ (∀ k, k ∈ pblk p' → k ∈ pblk p ∨ w.heap.size ≤ k) ∧
    ((X = [] ∧ e = .returned (.tuple #[.slice none 0 0, .iface 81 (.pointer (some ea))]) ∧ ∃ l', Lr B lb rb sb bb N s limit num l' [] p' cap' w') ∨
     (X ≠ [] ∧ e = .returned (.tuple #[.slice p' (kp limit (ln X)).length cap', .nilIface]) ∧ Lr B lb rb sb bb N s limit (num + 1) (kp limit (ln X)) (rst X) p' cap' w'))

theorem lr_num {B lb rb sb bb N : Nat} {s : ByteArray} {limit num : Int} {l X : List UInt8} {p : Option Addr} {cap : Nat} {w w' : World} (fx : Fx B lb rb sb bb N s) (h : Lr B lb rb sb bb N s limit num l X p cap w) (e1 : w'.heap = (w.setCell ⟨lb, 2, none⟩ (.int .i64 (num + 1))).heap) : Lr B lb rb sb bb N s limit (num + 1) l X p cap w' := by
  obtain ⟨r, q, i, bs, pr, l1, l2, a1, a2, a3, a4, a5, a6, a7⟩ := h
  have K2 : Kept [lb] w (w.setCell ⟨lb, 2, none⟩ (.int .i64 (num + 1))) := (Kept.refl [lb] w).setCell (p := ⟨lb, 2, none⟩) (by simp) _
  have own2 := K2.owns a2 (fun k hk2 hk3 => a3 k hk2 (by simp at hk3; simp [hk3]))
  refine ⟨r, q, i, bs, pr, l1, l2, ?_, ⟨own2.1, by have := own2.2; rw [e1]; exact this⟩, a3, ?_, ?_, ?_, a7⟩
  · rw [e1]; exact Lib.heap_setCell_same (i := 2) a1 _
  · rw [e1]; exact K2.at a4 (by simp [Ne.symm fx.lr])
  · rw [e1]; exact K2.at a5 (by simp [Ne.symm fx.ls])
  · rw [e1]; exact K2.at a6 (by simp [Ne.symm fx.lbb])

theorem Tryd.comp81 : (Tryd.prog.info? 81).map (·.comparable) = some true := by kernel_rfl
theorem Tryd.size98 : (Tryd.prog.info? 98).map (·.size) = some 1 := by kernel_rfl

theorem eq_same (w : World) (a : Addr) : (binOp .eql 27 (.iface 81 (.pointer (some a))) (.iface 81 (.pointer (some a)))).run Tryd.prog w = .ok (.bool true) w := by
  obtain ⟨i, hi, hcmp⟩ := Option.map_eq_some_iff.1 Tryd.comp81
  obtain ⟨j, hj, _⟩ := Option.map_eq_some_iff.1 Tryd.size98
  exact run_eql_iface_ptr_same w a Tryd.underlying27 Tryd.underlying81 hi hcmp hj
theorem eq_other {B : Nat} {fa ea : Addr} {w : World} (st : Sent B fa ea w) : (binOp .eql 27 (.iface 81 (.pointer (some ea))) (.iface 81 (.pointer (some fa)))).run Tryd.prog w = .ok (.bool false) w := by
  obtain ⟨i, hi, hcmp⟩ := Option.map_eq_some_iff.1 Tryd.comp81
  obtain ⟨j, hj, hjs⟩ := Option.map_eq_some_iff.1 Tryd.size98
  obtain ⟨_, _, h1⟩ := st.rf
  obtain ⟨_, _, h2⟩ := st.re
  exact run_eql_iface_ptr_other w Tryd.underlying27 Tryd.underlying81 hi hcmp hj (by rw [hjs]; decide) (Ne.symm st.ne) h2 h1
theorem eq_nil (w : World) (v : Value) : (binOp .eql 27 .nilIface (.iface 81 v)).run Tryd.prog w = .ok (.bool false) w := run_eql_iface_nil_left w 81 v Tryd.underlying27

theorem lr_one {B lb rb sb bb N : Nat} {s : ByteArray} (fx : Fx B lb rb sb bb N s) : 1 ∉ [rb, sb, bb] := by
  have := fx.b2; have := fx.rB; have := fx.sB; have := fx.bB
  simp; omega
theorem lr_zero {B lb rb sb bb N : Nat} {s : ByteArray} (fx : Fx B lb rb sb bb N s) : 0 ∉ [rb, sb, bb] := by
  have := fx.b2; have := fx.rB; have := fx.sB; have := fx.bB
  simp; omega
theorem lr_foot {B lb rb sb bb N : Nat} {s : ByteArray} {limit num : Int} {l X : List UInt8} {p : Option Addr} {cap : Nat} {w : World} (fx : Fx B lb rb sb bb N s) (h : Lr B lb rb sb bb N s limit num l X p cap w) : ∀ k, k ∈ [lb, rb, sb, bb] ++ pblk p → B ≤ k := by
  obtain ⟨r, q, i, bs, pr, l1, l2, a1, a2, a3, a4⟩ := h
  intro k hk
  rcases List.mem_append.1 hk with h | h
  · have := fx.lB; have := fx.rB; have := fx.sB; have := fx.bB
    simp at h; omega
  · rcases a2.2 with ⟨e1, _⟩ | ⟨g, c, cur, e1, e2, _⟩
    · simp only [Value.slice.injEq] at e1; rw [e1.1] at h; simp [pblk] at h
    · simp only [Value.slice.injEq] at e1; rw [e1.1] at h; simp [pblk] at h; omega
theorem lr_len {B lb rb sb bb N : Nat} {s : ByteArray} {limit num : Int} {l X : List UInt8} {p : Option Addr} {cap : Nat} {w : World} (fx : Fx B lb rb sb bb N s) (h : Lr B lb rb sb bb N s limit num l X p cap w) : X.length ≤ 1200000 := by
  obtain ⟨r, q, i, bs, pr, l1, l2, a1, a2, a3, a4, a5, a6, a7, a8, a9, a10, a11⟩ := h
  have := fx.N2; have := fx.s2
  rw [a11]
  simp
  omega

theorem chunk_c {Y bs2 X2 : List UInt8} {o n N : Nat} {errv fullv eofv : Value} (d3 : Y.length = n) (d4 : Y = (bs2.drop o).take n) (d5 : o + n ≤ N)
    (d16 : (errv = .nilIface ∧ ∃ Z, Y = Z ++ [10] ∧ (10 : UInt8) ∉ Z) ∨ (errv = fullv ∧ (10 : UInt8) ∉ Y ∧ 0 < n) ∨ (errv = eofv ∧ (10 : UInt8) ∉ Y ∧ X2 = [])) :
    ∃ C : List UInt8, Hid (C = (bs2.drop o).take C.length ∧ o + C.length ≤ N ∧ C.length ≤ n ∧ (10 : UInt8) ∉ C ∧ ((∃ Z, Y = Z ++ [10] ∧ C.length = Z.length) ∨ ((10 : UInt8) ∉ Y ∧ C.length = n)) ∧
            ((errv = .nilIface ∧ Y = C ++ [10]) ∨ (errv = fullv ∧ Y = C ∧ 0 < n) ∨ (errv = eofv ∧ Y = C ∧ X2 = []))) := by
  rcases d16 with ⟨e1, Z, e2, e3⟩ | ⟨e1, e2, e3⟩ | ⟨e1, e2, e3⟩
  · have hl : Z.length + 1 = n := by rw [← d3, e2]; simp
    refine ⟨Z, ?_, by omega, by omega, e3, Or.inl ⟨Z, e2, rfl⟩, Or.inl ⟨e1, e2⟩⟩
    have : Y.take Z.length = Z := by rw [e2]; simp
    rw [d4, List.take_take, Nat.min_eq_left (by omega)] at this
    exact this.symm
  · exact ⟨Y, by rw [d3]; exact d4, by omega, by omega, e2, Or.inr ⟨e2, d3⟩, Or.inr (Or.inl ⟨e1, rfl, e3⟩)⟩
  · exact ⟨Y, by rw [d3]; exact d4, by omega, by omega, e2, Or.inr ⟨e2, d3⟩, Or.inr (Or.inr ⟨e1, rfl, e3⟩)⟩

theorem heap_alloc_new (w : World) (o : Obj) : (w.alloc o).heap[w.heap.size]? = some o := by
  show (w.heap.push o)[w.heap.size]? = _
  simp

theorem lr_same {B lb rb sb bb N : Nat} {s : ByteArray} {limit num : Int} {l X : List UInt8} {p : Option Addr} {cap : Nat} {w w' : World} (h : Lr B lb rb sb bb N s limit num l X p cap w) (e1 : w'.heap = w.heap) : Lr B lb rb sb bb N s limit num l X p cap w' := by
  obtain ⟨r, q, i, bs, pr, l1, l2, a1, a2, a3, a4, a5, a6, a7⟩ := h
  exact ⟨r, q, i, bs, pr, l1, l2, by rw [e1]; exact a1, ⟨a2.1, by rw [e1]; exact a2.2⟩, a3, by rw [e1]; exact a4, by rw [e1]; exact a5, by rw [e1]; exact a6, a7⟩

theorem kp_room {limit : Int} {P C : List UInt8} {rm : Nat} (h : limit + 1 - ((kp limit P).length : Int) = rm) (h0 : 0 < rm) : kp limit (P ++ C) = kp limit P ++ C.take rm := by
  unfold kp at *
  have h1 : P.length ≤ (limit + 1).toNat := by
    rw [List.length_take] at h
    omega
  rw [List.take_of_length_le h1] at h ⊢
  rw [List.take_append]
  rw [List.take_of_length_le h1]
  congr 2
  omega

theorem kp_none {limit : Int} {P C : List UInt8} (h : ¬ 0 < limit + 1 - ((kp limit P).length : Int)) : kp limit (P ++ C) = kp limit P := by
  unfold kp at *
  rw [List.length_take] at h
  have h1 : (limit + 1).toNat ≤ P.length := by omega
  exact List.take_append_of_le_length h1

theorem lr_app {B lb rb sb bb N : Nat} {s : ByteArray} {limit num : Int} {l l' X : List UInt8} {p p' : Option Addr} {cap cap' : Nat} {w w3 : World} (fx : Fx B lb rb sb bb N s) (h : Lr B lb rb sb bb N s limit num l X p cap w) (hown : w3.ownsRow B 5 1 (.slice p' l'.length cap') l'.length (bv l'))
    (hk : Kept (pblk p) w w3) (hpb : ∀ k, k ∈ pblk p' → k ∈ pblk p ∨ k = w.heap.size) (w' : World) (e1 : w'.heap = (w3.setCell ⟨lb, 3, none⟩ (.slice p' l'.length cap')).heap) : Lr B lb rb sb bb N s limit num l' X p' cap' w' := by
  obtain ⟨r, q, i, bs, pr, l1, l2, a1, a2, a3, a4, a5, a6, a7⟩ := h
  have hlt := lt_of a1
  have hrt := lt_of a4
  have hst := lt_of a5
  have hbt := lt_of a6
  have h3 : ∀ k, k ∈ pblk p' → k ∉ [lb, rb, sb, bb] := by
    intro k hk2 hk3
    rcases hpb k hk2 with h | h
    · exact a3 k h hk3
    · simp at hk3; omega
  have far : ∀ k, k ∈ [lb, rb, sb, bb] → k ∉ pblk p := fun k hk1 hk2 => a3 k hk2 hk1
  have K2 : Kept [lb] w3 (w3.setCell ⟨lb, 3, none⟩ (.slice p' l'.length cap')) := (Kept.refl [lb] w3).setCell (p := ⟨lb, 3, none⟩) (by simp) _
  have own2 := K2.owns hown (fun k hk2 hk3 => h3 k hk2 (by simp at hk3; simp [hk3]))
  refine ⟨r, q, i, bs, pr, l1, l2, ?_, ⟨own2.1, by have := own2.2; rw [e1]; exact this⟩, h3, ?_, ?_, ?_, a7⟩
  · rw [e1]; exact Lib.heap_setCell_same (i := 3) (hk.at a1 (far _ (by simp))) _
  · rw [e1]; exact K2.at (hk.at a4 (far _ (by simp))) (by simp [Ne.symm fx.lr])
  · rw [e1]; exact K2.at (hk.at a5 (far _ (by simp))) (by simp [Ne.symm fx.ls])
  · rw [e1]; exact K2.at (hk.at a6 (far _ (by simp))) (by simp [Ne.symm fx.lbb])

set_option maxRecDepth 100000 in
set_option maxHeartbeats 2000000 in
theorem readLine_any (B lb rb sb bb N : Nat) (s : ByteArray) (limit num : Int) (bufl X : List UInt8) (p : Option Addr) (cap : Nat) (fa ea : Addr) (w : World) (fx : Fx B lb rb sb bb N s) (st : Sent B fa ea w)
    (h : Lr B lb rb sb bb N s limit num bufl X p cap w) (n0 : 0 ≤ num) (n1 : num ≤ 10000000) (m1 : -9223372036854775808 ≤ limit) (m2 : limit ≤ 9223372036854775806) :
    Calls Tryd.prog 26 #[.pointer (some ⟨lb, 0, none⟩)] w fun e w' => RlPost B lb rb sb bb N s limit num X p ea w e w' := by
  have ST : Hid _ := lr_start fx h
  have hXl : X.length ≤ 1200000 := lr_len fx h
  have HSB : Hid _ := lr_foot fx h
  obtain ⟨r, q, i, bs, pr, l1, l2, a1, a2, a3, a4⟩ := h
  obtain ⟨c0, c1, c2, c3, hf⟩ := lr_cells a1
  have hp : (p = none ∧ bufl.length = 0 ∧ cap = 0) ∨ ∃ g, p = some ⟨g, 0, none⟩ := by
    rcases a2.2 with ⟨e1, e2⟩ | ⟨g, c, cur, e1, _⟩
    · simp only [Value.slice.injEq] at e1; exact Or.inl ⟨e1.1, e2, e1.2.2⟩
    · simp only [Value.slice.injEq] at e1; exact Or.inr ⟨g, e1.1⟩
  clear a1 a2 a3 a4
  go_enter Tryd.func26, Tryd.ntmps26
  go_upto_region 1 with fail
  go_cut [] (fun w1 => w1 = w.setCell ⟨lb, 3, none⟩ (.slice p 0 cap))
  case first =>
    rcases hp with ⟨rfl, h1, rfl⟩ | ⟨g, rfl⟩
    · go_wp2
      go_meet
      case rel => rfl
    · go_wp2
      go_meet
      case rel => rfl
  case rest =>
    subst hcut
    clear c0 c1 c2 c3 hf hp
    go_wp2
    go_loopg [4] X.length (fun g rd wr => ∃ P X1 : List UInt8, rd = .bool (!P.isEmpty) ∧ g = X1.length ∧ X = P ++ X1 ∧ LrJ B lb rb sb bb N s limit num p w P X1 wr)
    case atStart => exact ⟨[], X, rfl, rfl, rfl, ST.out⟩
    case round =>
      clear ST
      obtain ⟨P, X1, rfl, rfl, hX, p1, cap1, hP, ⟨r, q, i, bs, pr, l1, l2, a1, a2, a3, a4, a5, a6, a7, a8, a9, a10, a11⟩, hK, hpb⟩ := hrel
      obtain ⟨c0, c1, c2, c3, hf⟩ := lr_cells a1
      have ST1 : Hid _ := st.kept fx.b2 hK HSB.out
      have A1 : Hid _ := a1
      have A2 : Hid _ := a2
      have A3 : Hid _ := a3
      have A4 : Hid _ := a4
      have A5 : Hid _ := a5
      have A6 : Hid _ := a6
      have A7 : Hid _ := a7
      have A11 : Hid _ := a11
      have HX : Hid _ := hX
      have HP : Hid _ := hP
      have HK : Hid _ := hK
      have HPB : Hid _ := hpb
      clear a1 a2 a3 a4 a5 a6 a7 a11 hX hP hK hpb
      go_upto_region 4 with (go_at_call 29; refine (readSlice_any rb sb bb N i r q s bs X1 pr l1 l2 81 ea 81 fa _ (by exact A4.out) (by exact A5.out) (by exact A6.out) (by exact ST1.out.c1) (by exact ST1.out.c0) (by exact (by have := ST1.out.size; have := fx.b2; omega)) (lr_one fx) (lr_zero fx) fx.rs fx.rbb fx.sbb A7.out fx.N0 fx.N2 a8 a9 (by have := fx.s2; omega) a10 A11.out).mono ?_; rintro e w1 ⟨o, n, c, errv, Y, X2, r2, q2, i2, bs2, pr2, l3, l4, rfl, d1, d2, d3, d4, d5, d6, d7, d8, d9, d10, d11, d12, d13, d14, d15, d16⟩)
      have D3 : Hid _ := d3
      have D4 : Hid _ := d4
      have D6 : Hid _ := d6
      have D7 : Hid _ := d7
      have D8 : Hid _ := d8
      have D9 : Hid _ := d9
      have D10 : Hid _ := d10
      have D14 : Hid _ := d14
      have D15 : Hid _ := d15
      have D16 : Hid _ := d16
      clear d3 d4 d6 d7 d8 d9 d10 d14 d15 d16
      go_cut [4] (fun rd w2 => rd = .bool (!(P ++ Y).isEmpty) ∧ w2 = w1)
      case first =>
        cases P with
        | cons b P' =>
          have e1 : (!(b :: P').isEmpty) = true := rfl
          rw [e1]
          go_wp2
          go_meet
          case rel => exact ⟨rfl, rfl⟩
        | nil =>
          have e1 : (!([] : List UInt8).isEmpty) = false := rfl
          rw [e1]
          have hyl : Y.length = n := D3.out
          cases Y with
          | nil =>
            obtain rfl : n = 0 := hyl.symm
            clear hyl
            go_wp2
            go_meet
            case rel => exact ⟨rfl, rfl⟩
          | cons y Y' =>
            have hnp : (0 : Int) < (n : Int) := by simp at hyl; omega
            clear hyl
            go_wp2
            go_meet
            case rel => exact ⟨by rw [decide_eq_true (by omega)]; rfl, rfl⟩
      case rest =>
        obtain ⟨rfl, hw1⟩ := hcut
        obtain ⟨w1, rfl⟩ : ∃ v, v = wc := ⟨_, rfl⟩
        subst hw1
        obtain ⟨C, HC⟩ : ∃ C : List UInt8, Hid (C = (bs2.drop o).take C.length ∧ o + C.length ≤ N ∧ C.length ≤ n ∧ (10 : UInt8) ∉ C ∧ ((∃ Z, Y = Z ++ [10] ∧ C.length = Z.length) ∨ ((10 : UInt8) ∉ Y ∧ C.length = n)) ∧
            ((errv = .nilIface ∧ Y = C ++ [10]) ∨ (errv = .iface 81 (.pointer (some fa)) ∧ Y = C ∧ 0 < n) ∨ (errv = .iface 81 (.pointer (some ea)) ∧ Y = C ∧ X2 = []))) := chunk_c D3.out D4.out d5 D16.out
        have W1 : Hid (w1.heap[lb]? = _) := D15.out.at A1.out (by simp [fx.lr, fx.ls, fx.lbb])
        have hnN : n ≤ 100000 := by have := fx.N2; omega
        go_upto_region 5 with fail
        go_cut [5] (fun ch w2 => ch = .slice (some ⟨bb, o, none⟩) C.length c ∧ Kept [] w1 w2)
        case first =>
          go_wp2_with fail
          refine (trim_any bb o n c w1.heap.size bs2 Y 5 5 _ (by exact ((Kept.refl [] w1).alloc _).at D9.out (by simp)) (by exact heap_alloc_new _ _) D4.out D3.out d1 (by omega) C.length HC.out.2.2.2.2.1).mono ?_
          rintro e w' ⟨rfl, rfl⟩
          go_wp2
          go_meet
          case rel => exact ⟨rfl, (Kept.refl [] w1).alloc _⟩
        case rest =>
          obtain ⟨rfl, hk2⟩ := hcut
          obtain ⟨w2, rfl⟩ : ∃ v, v = wc := ⟨_, rfl⟩
          obtain ⟨c0, c1, c2, c3, hf⟩ := lr_cells (hk2.at W1.out (by simp))
          have HK2 : Hid _ := hk2
          clear hk2
          have LW2 : Hid (Lr B lb rb sb bb N s limit num (kp limit P) X2 p1 cap1 w2) := ⟨r2, q2, i2, bs2, pr2, l3, l4, HK2.out.at W1.out (by simp), HK2.out.owns (D15.out.owns A2.out (fun k hk hk2 => A3.out k hk (by simp at hk2 ⊢; omega))) (by simp), A3.out, HK2.out.at D7.out (by simp), HK2.out.at D8.out (by simp), HK2.out.at D9.out (by simp), D10.out, d11, d12, d13, D14.out⟩
          have KW2 : Hid (Kept ([lb, rb, sb, bb] ++ pblk p) w w2) := (HK.out.trans (D15.out.mono (by intro k hk; simp at hk ⊢; omega))).trans (HK2.out.mono (by simp))
          have L2 : Hid ((lb < w2.heap.size ∧ B ≤ w2.heap.size) ∧ w2.ownsRow B 5 1 (.slice p1 (kp limit P).length cap1) (kp limit P).length (bv (kp limit P)) ∧ w2.heap[bb]? = some (.cells (bc bs2) 5 (0, 0))) :=
            ⟨⟨lt_of (HK2.out.at W1.out (by simp)), Nat.le_trans st.size KW2.out.size⟩, LW2.out.choose_spec.choose_spec.choose_spec.choose_spec.choose_spec.choose_spec.choose_spec.2.1, HK2.out.at D9.out (by simp)⟩
          have PB1 : Hid (∀ k, k ∈ pblk p1 → k ∈ [lb, rb, sb, bb] ++ pblk p ∨ w.heap.size ≤ k) := fun k hk => by
            rcases HPB.out k hk with h | h
            · left; simp [h]
            · exact Or.inr h
          have NOT : Hid ((10 : UInt8) ∉ P ++ C) := by
            intro h
            rcases List.mem_append.1 h with h | h
            · exact HP.out h
            · exact HC.out.2.2.2.1 h
          have hln : lb ∉ pblk p1 := fun h => A3.out _ h (by simp)
          have kl1 : (kp limit P).length = min (limit + 1).toNat P.length := by simp [kp]
          have kl2 : ((kp limit P).length : Int) ≤ 2000000 := by
            have h1 := HX.out
            have h2 : X.length = P.length + X1.length := by rw [h1]; simp
            omega
          have hw1 := wr64 (limit + 1) (by omega) (by omega)
          have hw2 := wr64 (limit + 1 - ((kp limit P).length : Int)) (by omega) (by omega)
          clear kl1
          go_upto_region 6 with fail
          go_region_held3 (fun w' => w'.cell? ⟨lb, 1, none⟩ = some (.int .i64 limit) ∧ w'.cell? ⟨lb, 3, none⟩ = some (.slice p1 (kp limit P).length cap1)) (simp [c1, c3]) (fail)
          go_upto_if 45 with fail
          go_cut [7] (fun _ w3 => LrJ B lb rb sb bb N s limit num p w (P ++ C) X2 w3)
          case first =>
            by_cases hroom : 0 < limit + 1 - ((kp limit P).length : Int)
            · obtain ⟨rm, hrm⟩ : ∃ rm : Nat, limit + 1 - ((kp limit P).length : Int) = rm := ⟨(limit + 1 - ((kp limit P).length : Int)).toNat, by omega⟩
              have HKP : Hid _ := kp_room (C := C) hrm (by omega)
              have b5 : (0 : Int) ≤ (rm : Int) := by omega
              obtain ⟨k, hk⟩ : ∃ k, k = min rm C.length := ⟨_, rfl⟩
              have hmin : min (rm : Int) (C.length : Int) = (k : Int) := by omega
              have b6 : (k : Int) ≤ (c : Int) := by have := HC.out.2.2.1; omega
              have HN : Hid (C.take rm = (bs2.drop o).take k ∧ (C.take rm).length = k) := by
                refine ⟨?_, by simp; omega⟩
                have h1 := HC.out.1
                have : C.take rm = C.take k := by rw [hk, List.take_eq_take_min]
                rw [this]
                conv => lhs; rw [h1]
                rw [List.take_take, Nat.min_eq_left (by omega)]
              have k5 : (kp limit P).length + k ≤ 10000000 := by have := HC.out.2.2.1; omega
              have K0 : Hid _ := A3.out
              clear hk
              go_wp2
              go_region_law (first | (refine step_app ?hgd (.tmp 50) (.tmp 56) ?ho B p1 (kp limit P) (C.take rm) cap1 ?hs ?hown bb o k c bs2 5 ?hx ?hg HN.out.1 HN.out.2 (kp limit (P ++ C)) HKP.out k5 ?hB w2.heap.size ?hH ?_; (case ho => rfl); (case hgd => rfl); (case hs => rfl); (case hown => exact L2.out.2.1); (case hx => rfl); (case hg => exact L2.out.2.2); (case hB => exact L2.out.1.2); (case hH => rfl); intro p3 cap3 w3 hown3 hk3 hpb3; have hc3 := hk3.cell (b := lb) (by exact L2.out.1.1) hln; have hf3 := hk3.frozen (b := lb) (by exact L2.out.1.1) hln; have O3 : Hid _ := hown3; have K3 : Hid _ := hk3; have PB3 : Hid _ := hpb3; clear hown3 hk3 hpb3) | fail)
              all_goals
                go_wp2
                go_meet
                case rel => exact ⟨p3, cap3, NOT.out, lr_app fx LW2.out O3.out (K3.out.from rfl rfl rfl rfl) PB3.out _ rfl, ((KW2.out.trans_new (K3.out.from rfl rfl rfl rfl) PB1.out).setCell (p := ⟨lb, 3, none⟩) (by simp) _).same rfl rfl rfl rfl, fun k hk => by
                  rcases PB3.out k hk with h | h
                  · exact HPB.out k h
                  · right; rw [h]; exact KW2.out.size⟩
            · have HKP : Hid _ := kp_none (C := C) hroom
              go_wp2
              go_meet
              case rel => exact ⟨p1, cap1, NOT.out, by rw [HKP.out]; exact lr_same LW2.out rfl, KW2.out.same rfl rfl rfl rfl, HPB.out⟩
          case rest =>
            obtain ⟨p4, cap4, _, h4, hk4, hpb4⟩ := hcut
            have ST4 : Hid (Sent B fa ea wc) := st.kept fx.b2 hk4 HSB.out
            have L4 : Hid _ := h4
            have K4 : Hid _ := hk4
            have PB4 : Hid _ := hpb4
            obtain ⟨r, q, i, bs, pr, l1, l2, a1, _⟩ := h4
            obtain ⟨c0, c1, c2, c3, hf⟩ := lr_cells a1
            have g0 := ST4.out.c0
            have g1 := ST4.out.c1
            clear hk4 hpb4 a1
            rcases HC.out.2.2.2.2.2 with ⟨rfl, hY⟩ | ⟨rfl, hY, hn0⟩ | ⟨rfl, hY, hX2⟩
            · have E1 := eq_nil wc
              go_wp2
              go_ret2
              have e : X = (P ++ C) ++ 10 :: X2 := by rw [HX.out, D6.out, hY]; simp
              obtain ⟨e1, e2⟩ := ln_feed (P ++ C) X2 NOT.out
              exact ⟨p4, cap4, (K4.out.setCell (p := ⟨lb, 2, none⟩) (by simp) _).same rfl rfl rfl rfl, PB4.out, Or.inr ⟨by rw [e]; simp, by rw [e, e1]; rfl, by rw [e, e1, e2]; exact lr_num fx L4.out rfl⟩⟩
            · have E1 := eq_same wc fa
              go_wp2
              have e3 : X1 = C ++ X2 := by rw [D6.out, hY]
              have e4 : C.length = n := by rw [← hY]; exact D3.out
              go_roundg X2.length
              case measure => rw [e3]; simp; omega
              case rel => exact ⟨P ++ C, X2, rfl, rfl, by rw [HX.out, e3]; simp, p4, cap4, NOT.out, L4.out, K4.out, PB4.out⟩
            · have E1 := eq_other ST4.out
              have E2 := eq_same wc ea
              have e3 : X = P ++ C := by rw [HX.out, D6.out, hY, hX2]; simp
              obtain ⟨e1, e2⟩ := ln_last (P ++ C) NOT.out
              have E3 : Hid _ := e3
              have E5 : Hid _ := e1
              have E6 : Hid _ := e2
              have HX2 : Hid _ := hX2
              have HY : Hid _ := hY
              clear e1 e2 e3 hX2 hY
              cases hPY : (P ++ Y).isEmpty
              · go_wp2
                go_ret2
                exact ⟨p4, cap4, (K4.out.setCell (p := ⟨lb, 2, none⟩) (by simp) _).same rfl rfl rfl rfl, PB4.out, Or.inr ⟨by rw [E3.out, ← HY.out]; intro h; rw [h] at hPY; simp at hPY, by rw [E3.out, E5.out]; rfl, by rw [E3.out, E5.out, E6.out, ← HX2.out]; exact lr_num fx L4.out rfl⟩⟩
              · go_wp2
                go_ret2
                refine ⟨p4, cap4, K4.out, PB4.out, Or.inl ⟨?_, rfl, kp limit (P ++ C), ?_⟩⟩
                · rw [E3.out, ← HY.out]; simpa using hPY
                · have := L4.out; rw [HX2.out] at this; exact this

end Go.Proofs.Qxb6604708aDoor
