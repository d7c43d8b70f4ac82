/-
  FROM THE ROWS' CONDITION ('laid') TO THE WALKS' WORD: math/bits.deBruijn64tab lies in its variable; from a slice of words that came in to 'OccIs'.
-/
import Derived.Test.Qxb6612302aDoorLaw3
import Derived.ProofKit
import Derived.OpenShut
import Derived.LaidMore
import Derived.Lib.LaidTab
import Derived.Stop.Joined
namespace Go.Proofs.Qxb6612302aDoor
open Go.ChangeShapes Go.WideShapes Go.ChangeAt Go.RowKit

theorem own : ownKnob Tryd.prog.godebug = none := by kernel_rfl
theorem laidOut : laidOutB Tryd.prog = true := by kernel_rfl

/-- What both rows list. -/
abbrev laidList : List (String × DataW Unit) := Rows.fnLevelSeekIsNearestOccupiedSlotRow.laid
abbrev tabName : String := Rows.fnLevelSeekIsNearestOccupiedSlotRow.named.headD ""
def tabInts : List Int := Lib.deBruijn64tab.map (fun n : Nat => (n : Int))

theorem gTab : Tryd.prog.globalNamed tabName = some 0 := by kernel_rfl
theorem tTab : (Tryd.prog.globals[0]?).map (·.type) = some 45 := by kernel_rfl
theorem cells5 : Tryd.prog.cellsOf 5 = 1 := by kernel_rfl
theorem cells45 : Tryd.prog.cellsOf 45 = 64 := by kernel_rfl
theorem laid_is : laidList = [(tabName, Lib.tabData .u8 tabInts)] := by rfl

theorem tab_here {W : World} (h : laidMetH Tryd.prog laidList W) : TabHere W := by
  rw [MakeChecks.laidMetH_plain _ _ _ (by kernel_rfl), laid_is] at h
  have hT := Lib.tabIs_of_head gTab tTab Tryd.underlying45 Tryd.underlying5 cells5 cells45 h
  intro j hj
  have hc := hT.cell gTab j (by show j < 64; exact hj)
  rw [hc]
  congr 2
  unfold tabInts
  simp [List.getD_eq_getElem?_getD, List.getElem?_map]
  cases Lib.deBruijn64tab[j]? <;> rfl

/-- The door's own heap meets the condition. -/
theorem door_met (os : Os) (args : Array Value) : laidMetH Tryd.prog laidList ((World.doorLaid Tryd.prog 14 os).forCall (fun _ _ => 0) ⟨#[], args, []⟩).memory :=
  laidMetH_of_parts3 (fuel := 8) (laidMet_of_run' 8 (by kernel_rfl) (by kernel_rfl)) (by kernel_rfl) (by kernel_rfl)

/-- WHAT THE WALK IS TOLD OF A SLICE OF INTEGERS THAT CAME IN: it is nil; or it leads to a row of 'cap' cells, the numbers 'zs' (the first 'len' are its elements, the rest its spare room), each fitting its kind. -/
def IsRow (k : IntKind) (w : World) (a : Option Addr) (len cap : Nat) (zs : List Int) : Prop :=
  (a = none ∧ len = 0 ∧ cap = 0 ∧ zs = []) ∨
  ∃ x, a = some x ∧ len ≤ cap ∧ cap ≤ maxLen ∧ zs.length = cap ∧ (∀ i, i < zs.length → w.cell? (x.add i) = some (.int k (zs.getD i 0))) ∧ ∀ n ∈ zs, (Lit.int k n).wf = true

theorem row_len {k : IntKind} {w : World} {a : Option Addr} {len cap : Nat} {zs : List Int} (h : IsRow k w a len cap zs) : len ≤ 9223372036854775807 := by
  rcases h with ⟨_, rfl, _⟩ | ⟨x, _, h1, h2, _⟩
  · omega
  · unfold maxLen at h2; omega

theorem occ_of_row {w : World} {a : Option Addr} {len cap : Nat} {zs : List Int} (h : IsRow .u64 w a len cap zs) : ∃ f, OccIs w a len f := by
  refine ⟨fun s => decide (s / 64 < len) && (zs.getD (s / 64) 0).toNat.testBit (s % 64), fun s hs => ?_, fun hl => ?_⟩
  · show (decide (s / 64 < len) && _) = false
    rw [decide_eq_false (by omega), Bool.false_and]
  · rcases h with ⟨_, rfl, _⟩ | ⟨x, rfl, h1, h2, h3, h4, h5⟩
    · omega
    · obtain ⟨b, off, spot⟩ := x
      have hspot : spot = none := by simpa [Addr.add] using World.cell?_spot (h4 0 (by omega))
      subst hspot
      refine ⟨b, off, rfl, fun j hj => ?_⟩
      have hj' : j < zs.length := by omega
      have hc := h4 j hj'
      have hm : zs.getD j 0 ∈ zs := by
        rw [List.getD_eq_getElem?_getD, List.getElem?_eq_getElem hj']; exact List.getElem_mem hj'
      obtain ⟨g1, g2⟩ := bounds_u64 (h5 _ hm)
      refine ⟨(zs.getD j 0).toNat, by omega, ?_, fun t ht => ?_⟩
      · rw [show (((zs.getD j 0).toNat : Nat) : Int) = zs.getD j 0 by omega]
        rw [← add_plain]; exact hc
      · show _ = (decide ((64 * j + t) / 64 < len) && (zs.getD ((64 * j + t) / 64) 0).toNat.testBit ((64 * j + t) % 64))
        rw [show (64 * j + t) / 64 = j by omega, show (64 * j + t) % 64 = t by omega, decide_eq_true hj, Bool.true_and]
end Go.Proofs.Qxb6612302aDoor
