/-
  No cell of these rows narrows 'for every input' (looked for: loops, veiled, ifaces, maps, wideKeys, modest, calm, conditions, laid).
  DERIVED. THE GIVEN ROWS OF THIS SEAT. 2 by the template 'for every input the law returns true; each argument reads behind the call as it read before'; 0 by the template 'total and deterministic' (their statements: Qxb6612443aTotals.lean).
  GIVEN WITH THE SEED: the statements are not yours to turn. If you find one false, say at which input.
  Laid BY PROGRAM, IN A SANDBOX (cutbox-rows.mjs): the forced cells as the released guide's own fill.sh prints them over the translation 49d6514854884a32… (all of the seat's roots in one cut). By AI agents, Wed Nov 11 2026. No macro, syntax, notation, axiom, sorry.
-/
import Derived.Test.Qxb6612443aChecked
import GoSem.Claim
import GoSem.ClaimJoined
import GoSem.ClaimMapViews
import Derived.JoinedTies
import Derived.KernelRfl
namespace Go.Proofs.Qxb6612443a
/- THE CELL 'sum', in the pinned program and in every row, IS THE sha256 OF THE DUMP (.gsa) THAT Qxb6612443aProg.lean LOADS. Nothing in Lean hashes anything: it is a label: what it is worth is what the hold of that sum in a sandbox is worth. -/
noncomputable def Try.pinned : Pinned := { name := "qxb6612443a", sum := "49d6514854884a320d2bbfdb54a7a639dca3384251f601fc5a304b3c14eb5220", checked := Try.checked }
namespace Rows
def none {H : Type} : Left H := { results := [], args := [] }

/-- 'zzlaws_root_b1.FnIsNameByteExactAlphabet': WHATEVER THE INPUT: true; the input reads as it did. -/
def fnIsNameByteExactAlphabetSpec : ChangeSpec := { name := "fnIsNameByteExactAlphabet", fn := fun _ => fun
  | [d] => { results := [.lit (.bool true)], args := [d] }
  | _ => none }
def fnIsNameByteExactAlphabetRow : OpenClaim := { program := "qxb6612443a", sum := "49d6514854884a320d2bbfdb54a7a639dca3384251f601fc5a304b3c14eb5220", func := "example.com/crewbook/crewbook/zzlaws_root_b1.FnIsNameByteExactAlphabet", spec := "fnIsNameByteExactAlphabet", apart := false }
def FnIsNameByteExactAlphabetSaid : Prop := fnIsNameByteExactAlphabetRow.holds Try.pinned (OpenSpec.ofChange fnIsNameByteExactAlphabetSpec)

/-- ITS FALSE NEIGHBOUR: 'it returns false'. Refute it at one input. -/
def fnIsNameByteExactAlphabetWrong : ChangeSpec := { name := "fnIsNameByteExactAlphabet", fn := fun _ => fun
  | [d] => { results := [.lit (.bool false)], args := [d] }
  | _ => none }
def FnIsNameByteExactAlphabetWrongFalsely : Prop := fnIsNameByteExactAlphabetRow.holds Try.pinned (OpenSpec.ofChange fnIsNameByteExactAlphabetWrong)

/-- 'zzlaws_root_b1.FnIsNameByteCountAndFold': WHATEVER THE INPUT: true; the input reads as it did. -/
def fnIsNameByteCountAndFoldSpec : ChangeSpec := { name := "fnIsNameByteCountAndFold", fn := fun _ => fun
  | [] => { results := [.lit (.bool true)], args := [] }
  | _ => none }
def fnIsNameByteCountAndFoldRow : OpenClaim := { program := "qxb6612443a", sum := "49d6514854884a320d2bbfdb54a7a639dca3384251f601fc5a304b3c14eb5220", func := "example.com/crewbook/crewbook/zzlaws_root_b1.FnIsNameByteCountAndFold", spec := "fnIsNameByteCountAndFold", apart := false }
def FnIsNameByteCountAndFoldSaid : Prop := fnIsNameByteCountAndFoldRow.holds Try.pinned (OpenSpec.ofChange fnIsNameByteCountAndFoldSpec)

/-- ITS FALSE NEIGHBOUR: 'it returns false'. Refute it at one input. -/
def fnIsNameByteCountAndFoldWrong : ChangeSpec := { name := "fnIsNameByteCountAndFold", fn := fun _ => fun
  | [] => { results := [.lit (.bool false)], args := [] }
  | _ => none }
def FnIsNameByteCountAndFoldWrongFalsely : Prop := fnIsNameByteCountAndFoldRow.holds Try.pinned (OpenSpec.ofChange fnIsNameByteCountAndFoldWrong)

end Rows
end Go.Proofs.Qxb6612443a
