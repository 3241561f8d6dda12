import Derived.Test.Qxb6604708aDoorRows
import Derived.Test.Qxb6604708aDoorTie
import Derived.Test.Qxb6604708aDoorWf
import Derived.ProofKit
import Derived.LaidMore
import Derived.OpenShut
import Derived.ShutString
import Derived.LaidLaws
import Derived.Stop.Joined
namespace Go.Proofs.Qxb6604708aDoor
open Go.ChangeShapes Go.WideShapes Go.ChangeAt Go.RowKit
open Go.ChangeMaps (open_string shut_string)
set_option linter.unusedVariables false

theorem own : ownKnob Tryd.prog.godebug = none := by kernel_rfl
theorem gFull : Tryd.prog.globalNamed "bufio.ErrBufferFull" = some 0 := by kernel_rfl
theorem gEOF : Tryd.prog.globalNamed "io.EOF" = some 1 := by kernel_rfl
theorem gNeg : Tryd.prog.globalNamed "bufio.errNegativeRead" = some 2 := by kernel_rfl
theorem gProg : Tryd.prog.globalNamed "io.ErrNoProgress" = some 3 := by kernel_rfl
theorem tFull : (Tryd.prog.globals[0]?).map (·.type) = some 27 := by kernel_rfl
theorem tEOF : (Tryd.prog.globals[1]?).map (·.type) = some 27 := by kernel_rfl
theorem tNeg : (Tryd.prog.globals[2]?).map (·.type) = some 27 := by kernel_rfl
theorem tProg : (Tryd.prog.globals[3]?).map (·.type) = some 27 := by kernel_rfl
theorem Tryd.cells98 : Tryd.prog.cellsOf 98 = 1 := by kernel_rfl
theorem Tryd.cells9 : Tryd.prog.cellsOf 9 = 1 := by kernel_rfl
def nmOf : DataW Unit → String
  | .iface n _ => n
  | _ => ""
theorem row81 (u : TypeId) (h : Tryd.prog.typeName? 3 u = some (nmOf Rows.laid_io_EOF)) : u = 81 :=
  typeName_ptr_named (nm := "errors.errorString") (by kernel_rfl) (by kernel_rfl) (by decide) u (h.trans (congrArg some (by decide)))

abbrev laid4 : List (String × DataW Unit) := [("io.EOF", Rows.laid_io_EOF), ("io.ErrNoProgress", Rows.laid_io_ErrNoProgress), ("bufio.ErrBufferFull", Rows.laid_bufio_ErrBufferFull), ("bufio.errNegativeRead", Rows.laid_bufio_errNegativeRead)]

theorem door_met (os : Os) (args : Array Value) : laidMetH Tryd.prog laid4 ((World.doorLaid Tryd.prog 95 os).forCall (fun _ _ => 0) ⟨#[], args, []⟩).memory :=
  laidMetH_of_parts3 (fuel := 8) (laidMet_of_run' 8 (by kernel_rfl) (by kernel_rfl)) (by kernel_rfl) (by kernel_rfl)

theorem sent_of_laid {W : World} (h : laidMetH Tryd.prog laid4 W) : 2 ≤ W.heap.size ∧ ∃ fa ea : Addr, Sent W.heap.size fa ea W := by
  rw [MakeChecks.laidMetH_plain _ _ _ (by kernel_rfl)] at h
  obtain ⟨ps, ⟨g0, t0, cs0, f0, p0, q0, hg0, ht0, hv0, hd0, ⟨g1, t1, cs1, f1, p1, q1, hg1, ht1, hv1, hd1, ⟨g2, t2, cs2, f2, p2, q2, hg2, ht2, hv2, hd2, _, e2⟩, e1⟩, e0⟩, hnd, hrows⟩ := h
  obtain rfl := Option.some.inj (gEOF.symm.trans hg0)
  obtain rfl := Option.some.inj (gFull.symm.trans hg2)
  obtain rfl := Option.some.inj (tEOF.symm.trans ht0)
  obtain rfl := Option.some.inj (tFull.symm.trans ht2)
  subst e2
  subst e1
  subst e0
  obtain ⟨l0⟩ := cs0
  obtain ⟨l2⟩ := cs2
  have ok0 : ∀ u v, l0 = [.iface u v] → Value.okWide Tryd.prog W .any 0 u v := fun u v e => by
    subst e
    exact (hrows 1 0 (by simp [MemPlace.row])).2 u v (by simpa using World.var?_cell hg0 hv0 0)
  have ok2 : ∀ u v, l2 = [.iface u v] → Value.okWide Tryd.prog W .any 0 u v := fun u v e => by
    subst e
    exact (hrows 0 0 (by simp [MemPlace.row])).2 u v (by simpa using World.var?_cell hg2 hv2 0)
  obtain ⟨a0, s0, rfl, hc0, hs0, hz0, rfl⟩ := errorString_of_trod Tryd.underlying27 row81 Tryd.underlying81 Tryd.underlying98 rfl rfl Tryd.underlying9 Tryd.cells98 Tryd.cells9 hd0 ok0
  obtain ⟨a2, s2, rfl, hc2, hs2, hz2, rfl⟩ := errorString_of_trod Tryd.underlying27 row81 Tryd.underlying81 Tryd.underlying98 rfl rfl Tryd.underlying9 Tryd.cells98 Tryd.cells9 hd2 ok2
  have hr0 := (hrows a0.block a0.off (by simp [MemPlace.row])).1
  have hr2 := (hrows a2.block a2.off (by simp [MemPlace.row])).1
  have g0 : W.cell? ⟨1, 0, none⟩ = some (.iface 81 (.pointer (some a0))) := by simpa using World.var?_cell hg0 hv0 0
  have g2 : W.cell? ⟨0, 0, none⟩ = some (.iface 81 (.pointer (some a2))) := by simpa using World.var?_cell hg2 hv2 0
  have hsz : 1 < W.heap.size := by
    rcases Nat.lt_or_ge 1 W.heap.size with h | h
    · exact h
    · simp [World.cell?, Array.getElem?_eq_none h] at g0
  refine ⟨hsz, a2, a0, Nat.le_refl _, g2, g0, ?_, ?_, ?_, hr2, hr0⟩
  · obtain ⟨c, t, e⟩ := hr2; exact (Array.getElem?_eq_some_iff.1 e).1
  · obtain ⟨c, t, e⟩ := hr0; exact (Array.getElem?_eq_some_iff.1 e).1
  · rintro rfl
    simp [MemPlace.row] at hnd

end Go.Proofs.Qxb6604708aDoor
