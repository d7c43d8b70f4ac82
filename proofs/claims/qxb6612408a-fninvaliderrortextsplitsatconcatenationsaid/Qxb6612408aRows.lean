/-
  No cell of these rows narrows 'for every input' (looked for: loops, veiled, ifaces, maps, wideKeys, modest, calm, conditions, laid).
  DERIVED. THE GIVEN ROWS OF THIS SEAT. 4 by the template 'for every input the law returns true; each argument reads behind the call as it read before'; 0 by the template 'total and deterministic' (their statements: Qxb6612408aTotals.lean).
  GIVEN WITH THE SEED: the statements are not yours to turn. If you find one false, say at which input.
  Laid BY PROGRAM, IN A SANDBOX (cutbox-rows.mjs): the forced cells as the released guide's own fill.sh prints them over the translation 71c79935dba8f6df… (all of the seat's roots in one cut). By AI agents, Wed Nov 11 2026. No macro, syntax, notation, axiom, sorry.
-/
import Derived.Test.Qxb6612408aChecked
import GoSem.Claim
import GoSem.ClaimJoined
import GoSem.ClaimMapViews
import Derived.JoinedTies
import Derived.KernelRfl
namespace Go.Proofs.Qxb6612408a
/- THE CELL 'sum', in the pinned program and in every row, IS THE sha256 OF THE DUMP (.gsa) THAT Qxb6612408aProg.lean LOADS. Nothing in Lean hashes anything: it is a label: what it is worth is what the hold of that sum in a sandbox is worth. -/
noncomputable def Try.pinned : Pinned := { name := "qxb6612408a", sum := "71c79935dba8f6df49388f24e12299a4af251df9e6d83a5d2ecd52d182de1122", checked := Try.checked }
namespace Rows
def none {H : Type} : Left H := { results := [], args := [] }

/-- 'zzlaws_manifest_b1.FnInt32PointerHoldsItsValueInFreshCells': WHATEVER THE INPUT: true; the input reads as it did. -/
def fnInt32PointerHoldsItsValueInFreshCellsSpec : ChangeSpec := { name := "fnInt32PointerHoldsItsValueInFreshCells", fn := fun _ => fun
  | [d] => { results := [.lit (.bool true)], args := [d] }
  | _ => none }
def fnInt32PointerHoldsItsValueInFreshCellsRow : OpenClaim := { program := "qxb6612408a", sum := "71c79935dba8f6df49388f24e12299a4af251df9e6d83a5d2ecd52d182de1122", func := "example.com/moorline/moorline/zzlaws_manifest_b1.FnInt32PointerHoldsItsValueInFreshCells", spec := "fnInt32PointerHoldsItsValueInFreshCells", apart := false }
def FnInt32PointerHoldsItsValueInFreshCellsSaid : Prop := fnInt32PointerHoldsItsValueInFreshCellsRow.holds Try.pinned (OpenSpec.ofChange fnInt32PointerHoldsItsValueInFreshCellsSpec)

/-- ITS FALSE NEIGHBOUR: 'it returns false'. Refute it at one input. -/
def fnInt32PointerHoldsItsValueInFreshCellsWrong : ChangeSpec := { name := "fnInt32PointerHoldsItsValueInFreshCells", fn := fun _ => fun
  | [d] => { results := [.lit (.bool false)], args := [d] }
  | _ => none }
def FnInt32PointerHoldsItsValueInFreshCellsWrongFalsely : Prop := fnInt32PointerHoldsItsValueInFreshCellsRow.holds Try.pinned (OpenSpec.ofChange fnInt32PointerHoldsItsValueInFreshCellsWrong)

/-- 'zzlaws_manifest_b1.FnInt32PointerWriteThroughOneCellReachesNoOther': WHATEVER THE INPUT: true; the input reads as it did. -/
def fnInt32PointerWriteThroughOneCellReachesNoOtherSpec : ChangeSpec := { name := "fnInt32PointerWriteThroughOneCellReachesNoOther", fn := fun _ => fun
  | [d1, d2] => { results := [.lit (.bool true)], args := [d1, d2] }
  | _ => none }
def fnInt32PointerWriteThroughOneCellReachesNoOtherRow : OpenClaim := { program := "qxb6612408a", sum := "71c79935dba8f6df49388f24e12299a4af251df9e6d83a5d2ecd52d182de1122", func := "example.com/moorline/moorline/zzlaws_manifest_b1.FnInt32PointerWriteThroughOneCellReachesNoOther", spec := "fnInt32PointerWriteThroughOneCellReachesNoOther", apart := false }
def FnInt32PointerWriteThroughOneCellReachesNoOtherSaid : Prop := fnInt32PointerWriteThroughOneCellReachesNoOtherRow.holds Try.pinned (OpenSpec.ofChange fnInt32PointerWriteThroughOneCellReachesNoOtherSpec)

/-- ITS FALSE NEIGHBOUR: 'it returns false'. Refute it at one input. -/
def fnInt32PointerWriteThroughOneCellReachesNoOtherWrong : ChangeSpec := { name := "fnInt32PointerWriteThroughOneCellReachesNoOther", fn := fun _ => fun
  | [d1, d2] => { results := [.lit (.bool false)], args := [d1, d2] }
  | _ => none }
def FnInt32PointerWriteThroughOneCellReachesNoOtherWrongFalsely : Prop := fnInt32PointerWriteThroughOneCellReachesNoOtherRow.holds Try.pinned (OpenSpec.ofChange fnInt32PointerWriteThroughOneCellReachesNoOtherWrong)

/-- 'zzlaws_manifest_b1.FnInvalidErrorTextIsProblemsJoinedBySemicolons': WHATEVER THE INPUT: true; the input reads as it did. -/
def fnInvalidErrorTextIsProblemsJoinedBySemicolonsSpec : ChangeSpec := { name := "fnInvalidErrorTextIsProblemsJoinedBySemicolons", fn := fun _ => fun
  | [d1, d2] => { results := [.lit (.bool true)], args := [d1, d2] }
  | _ => none }
def fnInvalidErrorTextIsProblemsJoinedBySemicolonsRow : OpenClaim := { program := "qxb6612408a", sum := "71c79935dba8f6df49388f24e12299a4af251df9e6d83a5d2ecd52d182de1122", func := "example.com/moorline/moorline/zzlaws_manifest_b1.FnInvalidErrorTextIsProblemsJoinedBySemicolons", spec := "fnInvalidErrorTextIsProblemsJoinedBySemicolons", inPlace := ["internal/abi.NoEscape", "internal/bytealg.MakeNoZero"], unfollowed := true, recurses := true, apart := false }
def FnInvalidErrorTextIsProblemsJoinedBySemicolonsSaid : Prop := fnInvalidErrorTextIsProblemsJoinedBySemicolonsRow.holds Try.pinned (OpenSpec.ofChange fnInvalidErrorTextIsProblemsJoinedBySemicolonsSpec)

/-- ITS FALSE NEIGHBOUR: 'it returns false'. Refute it at one input. -/
def fnInvalidErrorTextIsProblemsJoinedBySemicolonsWrong : ChangeSpec := { name := "fnInvalidErrorTextIsProblemsJoinedBySemicolons", fn := fun _ => fun
  | [d1, d2] => { results := [.lit (.bool false)], args := [d1, d2] }
  | _ => none }
def FnInvalidErrorTextIsProblemsJoinedBySemicolonsWrongFalsely : Prop := fnInvalidErrorTextIsProblemsJoinedBySemicolonsRow.holds Try.pinned (OpenSpec.ofChange fnInvalidErrorTextIsProblemsJoinedBySemicolonsWrong)

/-- 'zzlaws_manifest_b1.FnInvalidErrorTextSplitsAtConcatenation': WHATEVER THE INPUT: true; the input reads as it did. -/
def fnInvalidErrorTextSplitsAtConcatenationSpec : ChangeSpec := { name := "fnInvalidErrorTextSplitsAtConcatenation", fn := fun _ => fun
  | [d1, d2, d3] => { results := [.lit (.bool true)], args := [d1, d2, d3] }
  | _ => none }
def fnInvalidErrorTextSplitsAtConcatenationRow : OpenClaim := { program := "qxb6612408a", sum := "71c79935dba8f6df49388f24e12299a4af251df9e6d83a5d2ecd52d182de1122", func := "example.com/moorline/moorline/zzlaws_manifest_b1.FnInvalidErrorTextSplitsAtConcatenation", spec := "fnInvalidErrorTextSplitsAtConcatenation", inPlace := ["internal/abi.NoEscape", "internal/bytealg.MakeNoZero"], unfollowed := true, recurses := true, apart := false }
def FnInvalidErrorTextSplitsAtConcatenationSaid : Prop := fnInvalidErrorTextSplitsAtConcatenationRow.holds Try.pinned (OpenSpec.ofChange fnInvalidErrorTextSplitsAtConcatenationSpec)

/-- ITS FALSE NEIGHBOUR: 'it returns false'. Refute it at one input. -/
def fnInvalidErrorTextSplitsAtConcatenationWrong : ChangeSpec := { name := "fnInvalidErrorTextSplitsAtConcatenation", fn := fun _ => fun
  | [d1, d2, d3] => { results := [.lit (.bool false)], args := [d1, d2, d3] }
  | _ => none }
def FnInvalidErrorTextSplitsAtConcatenationWrongFalsely : Prop := fnInvalidErrorTextSplitsAtConcatenationRow.holds Try.pinned (OpenSpec.ofChange fnInvalidErrorTextSplitsAtConcatenationWrong)

end Rows
end Go.Proofs.Qxb6612408a
