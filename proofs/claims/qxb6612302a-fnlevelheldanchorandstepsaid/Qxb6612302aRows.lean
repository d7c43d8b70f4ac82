/-
  No cell of these rows narrows 'for every input' (looked for: loops, veiled, ifaces, maps, wideKeys, modest, calm, conditions, laid).
  DERIVED. THE GIVEN ROWS OF THIS SEAT. 2 by the template 'for every input the law returns true; each argument reads behind the call as it read before'; 0 by the template 'total and deterministic' (their statements: Qxb6612302aTotals.lean).
  GIVEN WITH THE SEED: the statements are not yours to turn. If you find one false, say at which input.
  Laid BY PROGRAM, IN A SANDBOX (cutbox-rows.mjs): the forced cells as the released guide's own fill.sh prints them over the translation 61a0b6d5a092e589… (all of the seat's roots in one cut). By AI agents, Wed Nov 11 2026. No macro, syntax, notation, axiom, sorry.
-/
import Derived.Test.Qxb6612302aChecked
import GoSem.Claim
import GoSem.ClaimJoined
import GoSem.ClaimMapViews
import Derived.JoinedTies
import Derived.KernelRfl
namespace Go.Proofs.Qxb6612302a
/- THE CELL 'sum', in the pinned program and in every row, IS THE sha256 OF THE DUMP (.gsa) THAT Qxb6612302aProg.lean LOADS. Nothing in Lean hashes anything: it is a label: what it is worth is what the hold of that sum in a sandbox is worth. -/
noncomputable def Try.pinned : Pinned := { name := "qxb6612302a", sum := "61a0b6d5a092e589c448d302842c76c7cd494f1bdb23c937c20ad3891c75da19", checked := Try.checked }
namespace Rows
def none {H : Type} : Left H := { results := [], args := [] }

/-- 'zzlaws_root_b1.FnLevelHeldIsDueWindowLessLag': WHATEVER THE INPUT: true; the input reads as it did. -/
def fnLevelHeldIsDueWindowLessLagSpec : ChangeSpec := { name := "fnLevelHeldIsDueWindowLessLag", fn := fun _ => fun
  | [d1, d2] => { results := [.lit (.bool true)], args := [d1, d2] }
  | _ => none }
def fnLevelHeldIsDueWindowLessLagRow : OpenClaim := { program := "qxb6612302a", sum := "61a0b6d5a092e589c448d302842c76c7cd494f1bdb23c937c20ad3891c75da19", func := "example.com/waltham/waltham/zzlaws_root_b1.FnLevelHeldIsDueWindowLessLag", spec := "fnLevelHeldIsDueWindowLessLag", apart := false }
def FnLevelHeldIsDueWindowLessLagSaid : Prop := fnLevelHeldIsDueWindowLessLagRow.holds Try.pinned (OpenSpec.ofChange fnLevelHeldIsDueWindowLessLagSpec)

/-- ITS FALSE NEIGHBOUR: 'it returns false'. Refute it at one input. -/
def fnLevelHeldIsDueWindowLessLagWrong : ChangeSpec := { name := "fnLevelHeldIsDueWindowLessLag", fn := fun _ => fun
  | [d1, d2] => { results := [.lit (.bool false)], args := [d1, d2] }
  | _ => none }
def FnLevelHeldIsDueWindowLessLagWrongFalsely : Prop := fnLevelHeldIsDueWindowLessLagRow.holds Try.pinned (OpenSpec.ofChange fnLevelHeldIsDueWindowLessLagWrong)

/-- 'zzlaws_root_b1.FnLevelHeldAnchorAndStep': WHATEVER THE INPUT: true; the input reads as it did. -/
def fnLevelHeldAnchorAndStepSpec : ChangeSpec := { name := "fnLevelHeldAnchorAndStep", fn := fun _ => fun
  | [d1, d2] => { results := [.lit (.bool true)], args := [d1, d2] }
  | _ => none }
def fnLevelHeldAnchorAndStepRow : OpenClaim := { program := "qxb6612302a", sum := "61a0b6d5a092e589c448d302842c76c7cd494f1bdb23c937c20ad3891c75da19", func := "example.com/waltham/waltham/zzlaws_root_b1.FnLevelHeldAnchorAndStep", spec := "fnLevelHeldAnchorAndStep", apart := false }
def FnLevelHeldAnchorAndStepSaid : Prop := fnLevelHeldAnchorAndStepRow.holds Try.pinned (OpenSpec.ofChange fnLevelHeldAnchorAndStepSpec)

/-- ITS FALSE NEIGHBOUR: 'it returns false'. Refute it at one input. -/
def fnLevelHeldAnchorAndStepWrong : ChangeSpec := { name := "fnLevelHeldAnchorAndStep", fn := fun _ => fun
  | [d1, d2] => { results := [.lit (.bool false)], args := [d1, d2] }
  | _ => none }
def FnLevelHeldAnchorAndStepWrongFalsely : Prop := fnLevelHeldAnchorAndStepRow.holds Try.pinned (OpenSpec.ofChange fnLevelHeldAnchorAndStepWrong)

end Rows
end Go.Proofs.Qxb6612302a
