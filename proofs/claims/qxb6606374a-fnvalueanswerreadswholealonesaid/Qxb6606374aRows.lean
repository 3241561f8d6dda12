/-
  No cell of these rows narrows 'for every input' (looked for: loops, veiled, ifaces, maps, wideKeys, modest, calm, conditions, laid).
  DERIVED. THE GIVEN ROWS OF THIS SEAT. 3 by the template 'for every input the law returns true; each argument reads behind the call as it read before'; 0 by the template 'total and deterministic' (their statements: Qxb6606374aTotals.lean).
  GIVEN WITH THE SEED: the statements are not yours to turn. If you find one false, say at which input.
  Laid BY PROGRAM, IN A SANDBOX (cutbox-rows.mjs): the forced cells as the released guide's own fill.sh prints them over the translation dd911c67ed1ab687… (all of the seat's roots in one cut). By AI agents, Wed Nov 11 2026. No macro, syntax, notation, axiom, sorry.
-/
import Derived.Test.Qxb6606374aChecked
import GoSem.Claim
import GoSem.ClaimJoined
import GoSem.ClaimMapViews
import Derived.JoinedTies
import Derived.KernelRfl
namespace Go.Proofs.Qxb6606374a
/- THE CELL 'sum', in the pinned program and in every row, IS THE sha256 OF THE DUMP (.gsa) THAT Qxb6606374aProg.lean LOADS. Nothing in Lean hashes anything: it is a label: what it is worth is what the hold of that sum in a sandbox is worth. -/
noncomputable def Try.pinned : Pinned := { name := "qxb6606374a", sum := "dd911c67ed1ab68706dc5bd41716f412fbf399bd6b7f192d2c4dc2a767bf09d0", checked := Try.checked }
namespace Rows
def none {H : Type} : Left H := { results := [], args := [] }

/-- 'zzlaws_internal_jsonobject_b1.FnValueMatchesModel': WHATEVER THE INPUT: true; the input reads as it did. -/
def fnValueMatchesModelSpec : ChangeSpec := { name := "fnValueMatchesModel", fn := fun _ => fun
  | [d1, d2, d3] => { results := [.lit (.bool true)], args := [d1, d2, d3] }
  | _ => none }
def fnValueMatchesModelRow : OpenClaim := { program := "qxb6606374a", sum := "dd911c67ed1ab68706dc5bd41716f412fbf399bd6b7f192d2c4dc2a767bf09d0", func := "example.com/loomwork/loomwork/zzlaws_internal_jsonobject_b1.FnValueMatchesModel", spec := "fnValueMatchesModel", inPlace := ["internal/bytealg.IndexByte"], recurses := true, apart := false }
def FnValueMatchesModelSaid : Prop := fnValueMatchesModelRow.holds Try.pinned (OpenSpec.ofChange fnValueMatchesModelSpec)

/-- ITS FALSE NEIGHBOUR: 'it returns false'. Refute it at one input. -/
def fnValueMatchesModelWrong : ChangeSpec := { name := "fnValueMatchesModel", fn := fun _ => fun
  | [d1, d2, d3] => { results := [.lit (.bool false)], args := [d1, d2, d3] }
  | _ => none }
def FnValueMatchesModelWrongFalsely : Prop := fnValueMatchesModelRow.holds Try.pinned (OpenSpec.ofChange fnValueMatchesModelWrong)

/-- 'zzlaws_internal_jsonobject_b1.FnValueAnswerReadsWholeAlone': WHATEVER THE INPUT: true; the input reads as it did. -/
def fnValueAnswerReadsWholeAloneSpec : ChangeSpec := { name := "fnValueAnswerReadsWholeAlone", fn := fun _ => fun
  | [d1, d2] => { results := [.lit (.bool true)], args := [d1, d2] }
  | _ => none }
def fnValueAnswerReadsWholeAloneRow : OpenClaim := { program := "qxb6606374a", sum := "dd911c67ed1ab68706dc5bd41716f412fbf399bd6b7f192d2c4dc2a767bf09d0", func := "example.com/loomwork/loomwork/zzlaws_internal_jsonobject_b1.FnValueAnswerReadsWholeAlone", spec := "fnValueAnswerReadsWholeAlone", inPlace := ["internal/bytealg.IndexByte"], apart := false }
def FnValueAnswerReadsWholeAloneSaid : Prop := fnValueAnswerReadsWholeAloneRow.holds Try.pinned (OpenSpec.ofChange fnValueAnswerReadsWholeAloneSpec)

/-- ITS FALSE NEIGHBOUR: 'it returns false'. Refute it at one input. -/
def fnValueAnswerReadsWholeAloneWrong : ChangeSpec := { name := "fnValueAnswerReadsWholeAlone", fn := fun _ => fun
  | [d1, d2] => { results := [.lit (.bool false)], args := [d1, d2] }
  | _ => none }
def FnValueAnswerReadsWholeAloneWrongFalsely : Prop := fnValueAnswerReadsWholeAloneRow.holds Try.pinned (OpenSpec.ofChange fnValueAnswerReadsWholeAloneWrong)

/-- 'zzlaws_internal_jsonobject_b1.FnValueKeepsItsEndBeforeDelimiter': WHATEVER THE INPUT: true; the input reads as it did. -/
def fnValueKeepsItsEndBeforeDelimiterSpec : ChangeSpec := { name := "fnValueKeepsItsEndBeforeDelimiter", fn := fun _ => fun
  | [d1, d2, d3] => { results := [.lit (.bool true)], args := [d1, d2, d3] }
  | _ => none }
def fnValueKeepsItsEndBeforeDelimiterRow : OpenClaim := { program := "qxb6606374a", sum := "dd911c67ed1ab68706dc5bd41716f412fbf399bd6b7f192d2c4dc2a767bf09d0", func := "example.com/loomwork/loomwork/zzlaws_internal_jsonobject_b1.FnValueKeepsItsEndBeforeDelimiter", spec := "fnValueKeepsItsEndBeforeDelimiter", inPlace := ["internal/bytealg.IndexByte"], apart := false }
def FnValueKeepsItsEndBeforeDelimiterSaid : Prop := fnValueKeepsItsEndBeforeDelimiterRow.holds Try.pinned (OpenSpec.ofChange fnValueKeepsItsEndBeforeDelimiterSpec)

/-- ITS FALSE NEIGHBOUR: 'it returns false'. Refute it at one input. -/
def fnValueKeepsItsEndBeforeDelimiterWrong : ChangeSpec := { name := "fnValueKeepsItsEndBeforeDelimiter", fn := fun _ => fun
  | [d1, d2, d3] => { results := [.lit (.bool false)], args := [d1, d2, d3] }
  | _ => none }
def FnValueKeepsItsEndBeforeDelimiterWrongFalsely : Prop := fnValueKeepsItsEndBeforeDelimiterRow.holds Try.pinned (OpenSpec.ofChange fnValueKeepsItsEndBeforeDelimiterWrong)

end Rows
end Go.Proofs.Qxb6606374a
