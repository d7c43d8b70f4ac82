/-
  DERIVED. GIVEN WITH THE SEED: THE CARDS: each row of Qxb6612302aDoorRows.lean that lists a variable, with what it lists TIED to the program's text (the seventh form; the later family's looks); each row that meets fmt, with fmt's text TOLD by the authors' own Lean function (tested against real Go, not proved from fmt's source: count such statements apart). THE CARD IS WHAT COUNTS. Prove the row's statement (the work); the ties are given (Qxb6612302aDoorTie.lean); close each card by the builder's one call (the guide's Derived/Test/ToyasCard.lean, 'card_holds'). Laid BY PROGRAM, IN A SANDBOX (cutbox-door.mjs). By AI agents, Wed Nov 11 2026. No macro, syntax, notation, axiom, sorry.
-/
import Derived.Test.Qxb6612302aDoorRows
import GoSem.ClaimSeven
namespace Go.Proofs.Qxb6612302aDoor
namespace Rows

/-- THE TIED CARD OF 'zzlaws_root_b1.FnLevelSeekIsNearestOccupiedSlot'. -/
def fnLevelSeekIsNearestOccupiedSlotCard : Claim7 := { stood := { row := fnLevelSeekIsNearestOccupiedSlotRow, standIns := [], harness := (true, "f4a581628c9dcba61cdc0e1a77b9c1197e9a3cec6d2b3f118e409a88e8de1616"), looks := false }, kinds := [], alts := [], laidByText := true, laidKinds := [.data], laidTests := true, laidLooks := .later }
def FnLevelSeekIsNearestOccupiedSlotCardSaid : Prop := Claim7.holds Tryd.pinned (.plain (OpenSpec.ofChange fnLevelSeekIsNearestOccupiedSlotSpec)) fnLevelSeekIsNearestOccupiedSlotCard

/-- THE TIED CARD OF 'zzlaws_root_b1.FnLevelSeekLandsOnOccupiedSlot'. -/
def fnLevelSeekLandsOnOccupiedSlotCard : Claim7 := { stood := { row := fnLevelSeekLandsOnOccupiedSlotRow, standIns := [], harness := (true, "f4a581628c9dcba61cdc0e1a77b9c1197e9a3cec6d2b3f118e409a88e8de1616"), looks := false }, kinds := [], alts := [], laidByText := true, laidKinds := [.data], laidTests := true, laidLooks := .later }
def FnLevelSeekLandsOnOccupiedSlotCardSaid : Prop := Claim7.holds Tryd.pinned (.plain (OpenSpec.ofChange fnLevelSeekLandsOnOccupiedSlotSpec)) fnLevelSeekLandsOnOccupiedSlotCard
end Rows
end Go.Proofs.Qxb6612302aDoor
