import Derived.Test.Qxb6606374aWd
import Derived.OwnWalk
namespace Go.Proofs.Qxb6606374a
open Go.RowKit
set_option linter.unusedVariables false

theorem alloc_at (w : World) (o : Obj) : (w.alloc o).heap[w.heap.size]? = some o := heap_alloc_new w o

/-- 'value' at the end of the text (also of a nil one). -/
theorem value_end (b : Nat) (q : Option Addr) (n cap p : Nat) (f : Bool) (w : World) (hW : Wk w b (.slice q n cap) p f) (hp : n ≤ p) :
    Calls Try.prog 16 #[.pointer (some ⟨b, 0, none⟩)] w fun e w' => e = .returned (.slice none 0 0) ∧ Wk w' b (.slice q n cap) n true ∧ Kept [b] w w' := by
  have HW : Hid (Wk w b (.slice q n cap) p f) := hW
  obtain ⟨c0, c1, c2, hf⟩ := hW.facts
  clear hW hf
  go_enter Try.func16, Try.ntmps16
  go_wp2_with (first | (go_at_call 22; refine (peek_end b q n cap p f w HW.out hp).mono ?_; rintro e w1 ⟨rfl, rfl⟩) | (go_at_call 23; refine (fail_any b q n cap p f _ (by exact HW.out)).mono ?_; rintro e w3 ⟨rfl, hW3, hK3⟩; obtain ⟨c0', c1', c2', hf'⟩ := hW3.facts; have HW3 : Hid (Wk w3 b (.slice q n cap) n true) := hW3; have HK3 : Hid (Kept [b] w w3) := (Kept.refl [b] w).drew.trans hK3; clear hW3 hK3 hf'))
  go_ret
  exact ⟨rfl, HW3.out, HK3.out⟩

set_option maxHeartbeats 800000 in
theorem zz_end (q : Option Addr) (n cap p : Nat) (f : Bool) (w : World) (hp : n ≤ p) :
    Calls Try.prog 8 #[.slice q n cap, .int .i64 p, .bool f] w fun e w' => e = .returned (.tuple #[.slice none 0 0, .int .i64 n, .bool true]) ∧ Kept [] w w' := by
  go_enter Try.func8, Try.ntmps8
  go_wp2_with fail
  go_at_call 16
  refine (value_end w.heap.size q n cap p f _ (by exact alloc_at w _) hp).mono ?_
  rintro e w1 ⟨rfl, hW, hK⟩
  have HK : Hid (Kept [] w w1) := ((Kept.refl [] w).alloc _).trans_new hK (by simp)
  obtain ⟨c0, c1, c2, hf⟩ := hW.facts
  clear hW hK hf
  go_wp2
  go_region_held3 (fun w' => w'.cell? ⟨w.heap.size, 1, none⟩ = some (.int .i64 n) ∧ w'.cell? ⟨w.heap.size, 2, none⟩ = some (.bool true)) (simp [c1, c2]) (fail)
  go_wp2
  go_ret3
  exact ⟨rfl, HK.out.drew⟩

set_option maxHeartbeats 800000 in
theorem zz_any (g o cap : Nat) (T : List Int) (p : Nat) (f : Bool) (w : World) (hT : Rw w g o T) (hB : Byt T) (hg : g < w.heap.size) (hl : T.length ≤ 1048576) (hcap : T.length ≤ cap) :
    Calls Try.prog 8 #[.slice (some ⟨g, o, none⟩) T.length cap, .int .i64 p, .bool f] w fun e w' => e = .returned (.tuple #[vout g o cap (skip T p) (valEnd T (skip T p) f), .int .i64 (valEnd T (skip T p) f).1, .bool (valEnd T (skip T p) f).2]) ∧ Kept [] w w' := by
  have HT : Hid (Rw w g o T) := hT
  clear hT
  have hgb : g ≠ w.heap.size := by omega
  obtain ⟨P, hP⟩ : ∃ P, P = skip T p := ⟨_, rfl⟩
  have HPS : Hid (P = skip T p) := hP
  rw [← hP]
  clear hP
  obtain ⟨r, hr⟩ : ∃ r, r = valEnd T P f := ⟨_, rfl⟩
  have HR : Hid (r = valEnd T P f) := hr
  rw [← hr]
  clear hr
  obtain ⟨E, z⟩ := r
  go_enter Try.func8, Try.ntmps8
  go_wp2_with fail
  go_at_call 16
  refine (value_any w.heap.size g o cap T p f _ (by exact alloc_at w _) (by exact HT.out.kept ((Kept.refl [] w).alloc _) (by simp)) hB hgb hl hcap).mono ?_
  rw [← HPS.out]
  rintro e w1 ⟨rfl, hW, hK⟩
  rw [← HR.out] at hW ⊢
  have HK : Hid (Kept [] w w1) := ((Kept.refl [] w).alloc _).trans_new hK (by simp)
  obtain ⟨c0, c1, c2, hf⟩ := hW.facts
  clear hW hK hf
  obtain ⟨v, hv⟩ : ∃ v, v = vout g o cap P (E, z) := ⟨_, rfl⟩
  rw [← hv]
  have HV : Hid (v = vout g o cap P (E, z)) := hv
  clear hv
  go_wp2
  go_region_held3 (fun w' => w'.cell? ⟨w.heap.size, 1, none⟩ = some (.int .i64 E) ∧ w'.cell? ⟨w.heap.size, 2, none⟩ = some (.bool z)) (simp [c1, c2]) (fail)
  go_wp2
  go_ret3
  exact ⟨by rw [← HV.out]; rfl, HK.out.drew⟩
end Go.Proofs.Qxb6606374a
