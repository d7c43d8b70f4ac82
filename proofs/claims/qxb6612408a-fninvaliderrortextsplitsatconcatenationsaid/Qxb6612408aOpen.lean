/-
  FROM A SLICE OF STRINGS THAT CAME IN TO THE WALKS' WORD.
-/
import Derived.Test.Qxb6612408aText
import Derived.ProofKit
import Derived.SliceStrings
namespace Go.Proofs.Qxb6612408a
open Go.ChangeShapes Go.WideShapes Go.ChangeAt Go.RowKit

theorem own : ownKnob Try.prog.godebug = none := by kernel_rfl
theorem laidOut : laidOutB Try.prog = true := by kernel_rfl
theorem Try.cells9 : Try.prog.cellsOf 9 = 1 := by kernel_rfl

/-- WHAT THE WALKS ARE TOLD OF A SLICE OF STRINGS THAT CAME IN. -/
def IsStrs (w : World) (a : Option Addr) (len cap : Nat) : Prop :=
  ∃ xs : List ByteArray, len = xs.length ∧ xs.length ≤ 9223372036854775807 ∧ (a = none → xs = [] ∧ cap = 0) ∧ StrsIs w a xs

theorem strs_open {H : Type} {enc : TypeId × Value → H} {w : World} {base : Nat} {spare : Nat → Bool} {held : Bool} {fuel : Nat} {a : Option Addr} {len cap : Nat} {x : DataW H × List MemPlace}
    (h : DataW.trod enc Try.prog w base spare held fuel 26 (Value.slice a len cap).cells.toList = some x) : IsStrs w a len cap := by
  rcases open_strings Try.underlying26 Try.underlying9 Try.cells9 h with ⟨hcs, _⟩ | ⟨ad, l, c, ss, hcs, _, hl, hm, hz, _, hcell, _⟩
  · simp [Value.cells] at hcs
    obtain ⟨rfl, rfl, rfl⟩ := hcs
    exact ⟨[], rfl, by decide, fun _ => ⟨rfl, rfl⟩, fun h => absurd h (by decide)⟩
  · simp [Value.cells] at hcs
    obtain ⟨rfl, rfl, rfl⟩ := hcs
    have hls : len ≤ ss.length := by rw [hz]; split <;> omega
    refine ⟨ss.take len, by simp; omega, by unfold maxLen at hm; simp; omega, (fun h => by cases h), fun hp => ?_⟩
    simp only [List.length_take] at hp
    obtain ⟨b, off, spot⟩ := ad
    have hspot : spot = none := by simpa [Addr.add] using World.cell?_spot (hcell 0 (by omega))
    subst hspot
    refine ⟨b, off, rfl, fun j y hy => ?_⟩
    have hj : j < (ss.take len).length := (List.getElem?_eq_some_iff.1 hy).1
    simp only [List.length_take] at hj
    have hc := hcell j (by omega)
    rw [add_plain] at hc
    rw [hc]
    rw [List.getElem?_take_of_lt (by omega)] at hy
    rw [List.getD_eq_getElem?_getD, hy]
    rfl
end Go.Proofs.Qxb6612408a
