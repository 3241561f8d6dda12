import Derived.Test.Qxb6604708aDoorProg
import Derived.WalkKit
import Derived.WalkSpells
import Derived.WalkLawsBesides
import Derived.KernelRfl
namespace Go.Proofs.Qxb6604708aDoor
open Go.RowKit

theorem Tryd.info5 : (Tryd.prog.info? 5).map (fun i => (i.zero, i.size, i.bytes)) = some (some (.int .u8 0), 1, 1) := by kernel_rfl

def buf0 (n : Nat) : Array Value := madeCells #[.int .u8 0] n

theorem mk_buf (w : World) : (Instr.makeSlice 25 (.int .i64 65536) (.int .i64 65536)).run Tryd.prog w = .ok (.slice (some ⟨w.heap.size, 0, none⟩) 65536 65536) (w.alloc (.cells (buf0 65536) 5)) := by
  obtain ⟨i, hi, hzz⟩ := Option.map_eq_some_iff.1 Tryd.info5
  simp only [Prod.mk.injEq] at hzz
  obtain ⟨hz, hs, hb⟩ := hzz
  have hr := run_make (P := Tryd.prog) w 25 5 i (.int .u8 0) Tryd.underlying25 hi hz .i64 .i64 65536 65536 (by omega) (by omega) (by rw [hb]; omega) (by omega)
  rw [hs] at hr
  exact hr

theorem asserts (a : Addr) (w : World) : (Instr.typeAssert (.iface 42 (.pointer (some a))) 50 45 true).run Tryd.prog w = .ok (.tuple #[.pointer none, .bool false]) w := by kernel_rfl

set_option maxHeartbeats 400000 in
theorem newReader_any (s : ByteArray) (limit : Int) (w : World) :
    Calls Tryd.prog 9 #[.string s, .int .i64 limit] w fun e w' => e = .returned (.pointer (some ⟨w.heap.size + 3, 0, none⟩)) ∧
      w' = (((w.alloc (.cells #[.string s, .int .i64 0, .int .i64 (-1)] 53)).alloc (.cells #[.slice (some ⟨w.heap.size + 2, 0, none⟩) 65536 65536, .iface 42 (.pointer (some ⟨w.heap.size, 0, none⟩)), .int .i64 0, .int .i64 0, .nilIface, .int .i64 (-1), .int .i64 (-1)] 65)).alloc (.cells (buf0 65536) 5)).alloc (.cells #[.pointer (some ⟨w.heap.size + 1, 0, none⟩), .int .i64 limit, .int .i64 0, .slice none 0 0] 47) := by
  have hmk := mk_buf
  have hta := asserts
  go_enter Tryd.func9, Tryd.ntmps9
  go_wp2
  go_end0
  go_wp2
  go_ret
  exact ⟨rfl, rfl⟩

end Go.Proofs.Qxb6604708aDoor
