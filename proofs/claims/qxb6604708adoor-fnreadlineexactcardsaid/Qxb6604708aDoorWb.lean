import Derived.Test.Qxb6604708aDoorProg
import Derived.Test.Qxb6604708aDoorBase
import Derived.KernelRfl
namespace Go.Proofs.Qxb6604708aDoor
open Go.RowKit

theorem Tryd.sz5 : (Tryd.prog.info? 5).map (·.size) = some 1 := by kernel_rfl

set_option maxHeartbeats 400000 in
theorem read_end (sb : Nat) (s : ByteArray) (i : Nat) (pr : Int) (eofv : Value) (dst : Value) (w : World)
    (hs : w.heap[sb]? = some (.cells #[.string s, .int .i64 i, .int .i64 pr] 53 (0, 0)))
    (ty : TypeId) (ea : Addr) (hv : eofv = .iface ty (.pointer (some ea)))
    (hg : w.cell? ⟨1, 0, none⟩ = some eofv) (hi : s.size ≤ i) (_hi2 : i ≤ 2000000) :
    Calls Tryd.prog 68 #[.pointer (some ⟨sb, 0, none⟩), dst] w fun e w' => e = .returned (.tuple #[.int .i64 0, eofv]) ∧ ∃ n, w' = w.drewN n := by
  subst hv
  have c0 := cell_of (i := 0) hs rfl
  have c1 := cell_of (i := 1) hs rfl
  clear hs
  go_enter Tryd.func68, Tryd.ntmps68
  go_wp2
  go_region_held3 (fun w' => w'.cell? ⟨sb, 0, none⟩ = some (.string s) ∧ w'.cell? ⟨sb, 1, none⟩ = some (.int .i64 i)) (go_keep) (fail)
  go_wp2
  go_region_held3 (fun w' => w'.cell? ⟨1, 0, none⟩ = some (.iface ty (.pointer (some ea)))) (go_keep) (fail)
  all_goals
    go_wp2
    go_ret2
    exact ⟨rfl, 2, rfl⟩

theorem str_tail (s : ByteArray) (i n : Nat) : (s.data.toList.drop i).take n = (s.extract i s.size).data.toList.take n := by
  rw [Lib.extract_data]
  have : (s.data.toList.drop i).take (s.size - i) = s.data.toList.drop i := List.take_of_length_le (by simp)
  rw [this]

set_option maxHeartbeats 400000 in
theorem read_some (sb bb off dn dc : Nat) (s : ByteArray) (i : Nat) (pr : Int) (bs x : List UInt8) (w : World)
    (hs : w.heap[sb]? = some (.cells #[.string s, .int .i64 i, .int .i64 pr] 53 (0, 0))) (hb : w.heap[bb]? = some (.cells (bc bs) 5 (0, 0))) (hne : sb ≠ bb)
    (hi : i < s.size) (hi2 : s.size ≤ 2000000) (hfit : off + dn ≤ bs.length) (hx : x = (s.data.toList.drop i).take dn) :
    Calls Tryd.prog 68 #[.pointer (some ⟨sb, 0, none⟩), .slice (some ⟨bb, off, none⟩) dn dc] w fun e w' => e = .returned (.tuple #[.int .i64 x.length, .nilIface]) ∧
      w'.heap[sb]? = some (.cells #[.string s, .int .i64 (i + x.length : Nat), .int .i64 (-1)] 53 (0, 0)) ∧ w'.heap[bb]? = some (.cells (bc (over bs off x)) 5 (0, 0)) ∧ Kept [sb, bb] w w' := by
  have c0 := cell_of (i := 0) hs rfl
  have c1 := cell_of (i := 1) hs rfl
  have c2 := cell_of (i := 2) hs rfl
  have f1 := frozen_of hs 1
  have f2 := frozen_of hs 2
  have HS : Hid (w.heap[sb]? = _) := hs
  have HB : Hid (w.heap[bb]? = _) := hb
  have HX : Hid (x = _) := hx
  clear hs hb hx
  have hk := cell_setRow hne
  have hf := frozen_setRow hne
  have hI : ¬ (s.size ≤ i) := by omega
  have b1 : (0 : Int) ≤ (i : Int) := by omega
  have b2 : (i : Int) ≤ (s.size : Int) := by omega
  have b3 : (i : Int) + (x.length : Int) ≤ 2000000 := by
    have : x.length ≤ s.size - i := by rw [HX.out]; simp; omega
    omega
  go_enter Tryd.func68, Tryd.ntmps68
  go_wp2
  go_region_held3 (fun w' => w'.cell? ⟨sb, 0, none⟩ = some (.string s) ∧ w'.cell? ⟨sb, 1, none⟩ = some (.int .i64 i)) (go_keep) (fail)
  go_wp2
  go_region_held3 (fun w' => w'.cell? ⟨sb, 0, none⟩ = some (.string s) ∧ w'.cell? ⟨sb, 1, none⟩ = some (.int .i64 i)) (simp [*, World.cell?_setCell_other])
    (refine step_copy_str (by rfl) (.tmp 20) (.tmp 29) 25 9 (by rfl) 5 Tryd.underlying25 Tryd.sz5 bb off dn dc _ (by rfl) (by rfl) bs 5 (by show (w.setCell _ _).heap[bb]? = _; rw [Below.heap_setCell _ _ _ _ (Ne.symm hne)]; exact HB.out) x (by rw [HX.out]; exact str_tail s i dn) (by rw [HX.out]; simp; omega) ?_)
  go_wp2
  go_ret2
  refine ⟨rfl, ?_, ?_, ?_⟩
  · have h1 := Lib.heap_setCell_same (i := 2) HS.out (.int .i64 (-1))
    have h2 : ((w.setCell ⟨sb, 2, none⟩ (.int .i64 (-1))).setRow bb (bc (over bs off x))).heap[sb]? = _ := (setRow_other _ _ _ _ hne).trans h1
    exact Lib.heap_setCell_same (i := 1) h2 _
  · have h1 : (w.setCell ⟨sb, 2, none⟩ (.int .i64 (-1))).heap[bb]? = _ := (Below.heap_setCell w _ _ _ (Ne.symm hne)).trans HB.out
    exact (Below.heap_setCell _ _ _ _ (Ne.symm hne)).trans (setRow_heap _ bb _ _ _ _ h1)
  · exact (((Kept.refl [sb, bb] w).setCell (p := ⟨sb, 2, none⟩) (by simp) (.int .i64 (-1))).drew.drew.setRow (g := bb) (by simp) _).setCell (p := ⟨sb, 1, none⟩) (by simp) _

end Go.Proofs.Qxb6604708aDoor
