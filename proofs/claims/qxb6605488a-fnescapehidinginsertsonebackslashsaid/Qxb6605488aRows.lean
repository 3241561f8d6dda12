/-
  No cell of these rows narrows 'for every input' (looked for: loops, veiled, ifaces, maps, wideKeys, modest, calm, conditions, laid).
  DERIVED. THE GIVEN ROWS OF THIS SEAT. 4 by the template 'for every input the law returns true; each argument reads behind the call as it read before'; 0 by the template 'total and deterministic' (their statements: Qxb6605488aTotals.lean).
  GIVEN WITH THE SEED: the statements are not yours to turn. If you find one false, say at which input.
  Laid BY PROGRAM, IN A SANDBOX (cutbox-rows.mjs): the forced cells as the released guide's own fill.sh prints them over the translation 963630ad27dab244… (all of the seat's roots in one cut). By AI agents, Wed Nov 11 2026. No macro, syntax, notation, axiom, sorry.
-/
import Derived.Test.Qxb6605488aChecked
import GoSem.Claim
import GoSem.ClaimJoined
import GoSem.ClaimMapViews
import Derived.JoinedTies
import Derived.KernelRfl
namespace Go.Proofs.Qxb6605488a
/- THE CELL 'sum', in the pinned program and in every row, IS THE sha256 OF THE DUMP (.gsa) THAT Qxb6605488aProg.lean LOADS. Nothing in Lean hashes anything: it is a label: what it is worth is what the hold of that sum in a sandbox is worth. -/
noncomputable def Try.pinned : Pinned := { name := "qxb6605488a", sum := "963630ad27dab244fd89dd2a4913434b9022b29bf0007c60f95832e9a6c8dcae", checked := Try.checked }
namespace Rows
def none {H : Type} : Left H := { results := [], args := [] }

/-- 'zzlaws_release_b1.FnHidingBlockMatchesModel': WHATEVER THE INPUT: true; the input reads as it did. -/
def fnHidingBlockMatchesModelSpec : ChangeSpec := { name := "fnHidingBlockMatchesModel", fn := fun _ => fun
  | [d] => { results := [.lit (.bool true)], args := [d] }
  | _ => none }
def fnHidingBlockMatchesModelRow : OpenClaim := { program := "qxb6605488a", sum := "963630ad27dab244fd89dd2a4913434b9022b29bf0007c60f95832e9a6c8dcae", func := "example.com/commitrail/commitrail/zzlaws_release_b1.FnHidingBlockMatchesModel", spec := "fnHidingBlockMatchesModel", inPlace := ["internal/bytealg.IndexByteString", "internal/bytealg.IndexString"], named := ["internal/bytealg.MaxLen"], apart := false }
def FnHidingBlockMatchesModelSaid : Prop := fnHidingBlockMatchesModelRow.holds Try.pinned (OpenSpec.ofChange fnHidingBlockMatchesModelSpec)

/-- ITS FALSE NEIGHBOUR: 'it returns false'. Refute it at one input. -/
def fnHidingBlockMatchesModelWrong : ChangeSpec := { name := "fnHidingBlockMatchesModel", fn := fun _ => fun
  | [d] => { results := [.lit (.bool false)], args := [d] }
  | _ => none }
def FnHidingBlockMatchesModelWrongFalsely : Prop := fnHidingBlockMatchesModelRow.holds Try.pinned (OpenSpec.ofChange fnHidingBlockMatchesModelWrong)

/-- 'zzlaws_release_b1.FnHidingBlockSeesPastMarkers': WHATEVER THE INPUT: true; the input reads as it did. -/
def fnHidingBlockSeesPastMarkersSpec : ChangeSpec := { name := "fnHidingBlockSeesPastMarkers", fn := fun _ => fun
  | [d] => { results := [.lit (.bool true)], args := [d] }
  | _ => none }
def fnHidingBlockSeesPastMarkersRow : OpenClaim := { program := "qxb6605488a", sum := "963630ad27dab244fd89dd2a4913434b9022b29bf0007c60f95832e9a6c8dcae", func := "example.com/commitrail/commitrail/zzlaws_release_b1.FnHidingBlockSeesPastMarkers", spec := "fnHidingBlockSeesPastMarkers", inPlace := ["internal/bytealg.IndexByteString", "internal/bytealg.IndexString"], named := ["internal/bytealg.MaxLen"], apart := false }
def FnHidingBlockSeesPastMarkersSaid : Prop := fnHidingBlockSeesPastMarkersRow.holds Try.pinned (OpenSpec.ofChange fnHidingBlockSeesPastMarkersSpec)

/-- ITS FALSE NEIGHBOUR: 'it returns false'. Refute it at one input. -/
def fnHidingBlockSeesPastMarkersWrong : ChangeSpec := { name := "fnHidingBlockSeesPastMarkers", fn := fun _ => fun
  | [d] => { results := [.lit (.bool false)], args := [d] }
  | _ => none }
def FnHidingBlockSeesPastMarkersWrongFalsely : Prop := fnHidingBlockSeesPastMarkersRow.holds Try.pinned (OpenSpec.ofChange fnHidingBlockSeesPastMarkersWrong)

/-- 'zzlaws_release_b1.FnEscapeHidingMatchesModel': WHATEVER THE INPUT: true; the input reads as it did. -/
def fnEscapeHidingMatchesModelSpec : ChangeSpec := { name := "fnEscapeHidingMatchesModel", fn := fun _ => fun
  | [d1, d2, d3, d4] => { results := [.lit (.bool true)], args := [d1, d2, d3, d4] }
  | _ => none }
def fnEscapeHidingMatchesModelRow : OpenClaim := { program := "qxb6605488a", sum := "963630ad27dab244fd89dd2a4913434b9022b29bf0007c60f95832e9a6c8dcae", func := "example.com/commitrail/commitrail/zzlaws_release_b1.FnEscapeHidingMatchesModel", spec := "fnEscapeHidingMatchesModel", inPlace := ["internal/abi.NoEscape", "internal/bytealg.MakeNoZero", "internal/bytealg.IndexByteString", "internal/bytealg.IndexString"], named := ["internal/bytealg.MaxLen"], apart := false }
def FnEscapeHidingMatchesModelSaid : Prop := fnEscapeHidingMatchesModelRow.holds Try.pinned (OpenSpec.ofChange fnEscapeHidingMatchesModelSpec)

/-- ITS FALSE NEIGHBOUR: 'it returns false'. Refute it at one input. -/
def fnEscapeHidingMatchesModelWrong : ChangeSpec := { name := "fnEscapeHidingMatchesModel", fn := fun _ => fun
  | [d1, d2, d3, d4] => { results := [.lit (.bool false)], args := [d1, d2, d3, d4] }
  | _ => none }
def FnEscapeHidingMatchesModelWrongFalsely : Prop := fnEscapeHidingMatchesModelRow.holds Try.pinned (OpenSpec.ofChange fnEscapeHidingMatchesModelWrong)

/-- 'zzlaws_release_b1.FnEscapeHidingInsertsOneBackslash': WHATEVER THE INPUT: true; the input reads as it did. -/
def fnEscapeHidingInsertsOneBackslashSpec : ChangeSpec := { name := "fnEscapeHidingInsertsOneBackslash", fn := fun _ => fun
  | [d1, d2, d3, d4] => { results := [.lit (.bool true)], args := [d1, d2, d3, d4] }
  | _ => none }
def fnEscapeHidingInsertsOneBackslashRow : OpenClaim := { program := "qxb6605488a", sum := "963630ad27dab244fd89dd2a4913434b9022b29bf0007c60f95832e9a6c8dcae", func := "example.com/commitrail/commitrail/zzlaws_release_b1.FnEscapeHidingInsertsOneBackslash", spec := "fnEscapeHidingInsertsOneBackslash", inPlace := ["internal/abi.NoEscape", "internal/bytealg.MakeNoZero", "internal/bytealg.IndexByteString", "internal/bytealg.IndexString"], named := ["internal/bytealg.MaxLen"], apart := false }
def FnEscapeHidingInsertsOneBackslashSaid : Prop := fnEscapeHidingInsertsOneBackslashRow.holds Try.pinned (OpenSpec.ofChange fnEscapeHidingInsertsOneBackslashSpec)

/-- ITS FALSE NEIGHBOUR: 'it returns false'. Refute it at one input. -/
def fnEscapeHidingInsertsOneBackslashWrong : ChangeSpec := { name := "fnEscapeHidingInsertsOneBackslash", fn := fun _ => fun
  | [d1, d2, d3, d4] => { results := [.lit (.bool false)], args := [d1, d2, d3, d4] }
  | _ => none }
def FnEscapeHidingInsertsOneBackslashWrongFalsely : Prop := fnEscapeHidingInsertsOneBackslashRow.holds Try.pinned (OpenSpec.ofChange fnEscapeHidingInsertsOneBackslashWrong)

end Rows
end Go.Proofs.Qxb6605488a
