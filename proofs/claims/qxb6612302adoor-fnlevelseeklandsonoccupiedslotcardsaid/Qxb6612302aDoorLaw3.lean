/-
  FnLevelSeekIsNearestOccupiedSlot, walked: it returns true.
-/
import Derived.Test.Qxb6612302aDoorBuild
namespace Go.Proofs.Qxb6612302aDoor
open Go.RowKit

theorem bool_of (P : Nat → Prop) : ∃ g : Nat → Bool, ∀ p, g p = true ↔ P p :=
  ⟨fun p => @decide (P p) (Classical.propDecidable _), fun p => @decide_eq_true_iff (P p) (Classical.propDecidable _)⟩

theorem fits_some (slots : Nat) (f : Nat → Bool) : ∃ U, Fits slots (occOf slots f) U := by
  obtain ⟨U, hU⟩ := bool_of (fun p => ∃ i, i < 4096 ∧ occOf slots f (4096 * p + i) = true)
  exact ⟨U, fun _ h => occOf_ge h, hU⟩

/-- What zzBuildPages has laid, with ZZnewLevel's struct behind it, is a level. -/
theorem level_of_built {w w' : World} {slots t : Nat} {O U : Nat → Bool} (hF : Fits slots O U) (ht : t = 0 → ∀ p, p < npages slots → U p = false) (h : Built w w' slots (npages slots) O U) :
    LevelIs (w'.alloc (.cells #[.int .u64 slots, .int .u64 1, .slice (some ⟨w.heap.size, 0, none⟩) (npages slots) (npages slots), .slice (some ⟨w.heap.size + 1, 0, none⟩) (nused slots) (nused slots), .int .i64 t] 38))
      w'.heap.size w.heap.size (w.heap.size + 1) slots t O U := by
  have hb : ∀ ob, Below w'.heap.size w' (w'.alloc ob) := fun ob => (Below.refl _ _).alloc (Nat.le_refl _) _
  have hs := h.size
  refine ⟨?_, ?_, ?_, ?_, fun h0 s => ?_, ?_, fun p hp hU => ?_, fun p hp hU => ?_⟩
  · rw [World.cell?_alloc_at _ _ _ _ rfl]; rfl
  · rw [World.cell?_alloc_at _ _ _ _ rfl]; rfl
  · rw [World.cell?_alloc_at _ _ _ _ rfl]; rfl
  · rw [World.cell?_alloc_at _ _ _ _ rfl]; rfl
  · by_cases hsl : slots ≤ s
    · exact hF.1 s hsl
    · exact hF.none_of (ht (by omega) (s / 4096) (by unfold npages; omega)) (by omega) (by omega)
  · refine (h.used.below (hb _) (by omega)).congr fun p _ => ?_
    by_cases hp : p < npages slots
    · rw [decide_eq_true hp, Bool.true_and]
    · rw [decide_eq_false hp, Bool.false_and]
      cases hU : U p with
      | false => rfl
      | true => exact absurd (hF.below hU) hp
  · obtain ⟨b1, b2, _, _, h3, h4, h5⟩ := (h.page p hp hU).below (hb _)
    exact ⟨b1, b2, h3, h4, h5⟩
  · exact ((hb _).cell (p := ⟨w.heap.size, p, none⟩) (by show w.heap.size < w'.heap.size; omega)).trans (h.nopage p hp (.inr hU))

set_option maxHeartbeats 1000000 in
theorem law3_main (a : Option Addr) (len cap slots fr : Nat) (f : Nat → Bool) (hl : len ≤ 131072) (h0 : 0 < slots) (hsl : slots ≤ 268435456) (hfr : fr < slots) (w : World) (hT : TabHere w) (h : OccIs w a len f) :
    Calls Tryd.prog 3 #[.int .u64 slots, .slice a len cap, .int .u64 fr] w fun e w' => e = .returned (.bool true) ∧ Below w.heap.size w w' := by
  obtain ⟨U, hF⟩ := fits_some slots f
  have HO : Hid (OccIs w a len f) := h
  have HF : Hid (Fits slots (occOf slots f) U) := hF
  have HT : Hid (TabHere w) := hT
  clear h hF hT
  have hz : ((slots : Int) == 0) = false := by simp; omega
  have hz2 : decide ((268435456 : Int) < (slots : Int)) = false := decide_eq_false (by omega)
  have hz3 : decide ((slots : Int) ≤ (fr : Int)) = false := decide_eq_false (by omega)
  go_enter Tryd.func3, Tryd.ntmps3
  go_wp2_with (go_at_call 5; go_in)
  refine (build_any a len cap slots f U hl h0 hsl HF.out _ HO.out).mono ?_
  rintro e w1 ⟨t, rfl, ht, htz, hB⟩
  have HB : Hid (Built w w1 slots (npages slots) (occOf slots f) U) := hB
  have HTZ : Hid (t = 0 → ∀ p, p < npages slots → U p = false) := htz
  clear hB htz
  go_wp2_with (go_at_call 7; go_in)
  have hL := level_of_built HF.out HTZ.out HB.out
  have hbel : Below w.heap.size w (w1.alloc (.cells #[.int .u64 slots, .int .u64 1, .slice (some ⟨w.heap.size, 0, none⟩) (npages slots) (npages slots), .slice (some ⟨w.heap.size + 1, 0, none⟩) (nused slots) (nused slots), .int .i64 t] 38)) :=
    HB.out.old.alloc (by have := HB.out.size; omega) _
  have HL := hL
  refine (seek_any _ _ _ slots fr t (occOf slots f) U HF.out hsl hfr _ (HT.out.below hbel) hL).mono ?_
  rintro e w' ⟨r, rfl, hr, rfl⟩
  have HR : Hid (IsSeek (occOf slots f) slots fr r) := hr
  have HBel : Hid (Below w.heap.size w (w1.alloc (.cells #[.int .u64 slots, .int .u64 1, .slice (some ⟨w.heap.size, 0, none⟩) (npages slots) (npages slots), .slice (some ⟨w.heap.size + 1, 0, none⟩) (nused slots) (nused slots), .int .i64 t] 38))) := hbel
  clear hr hL HL hbel
  rcases r with _ | k
  · simp only [retOf]
    go_wp2_with fail
    refine (model_any a len cap slots fr f hl hsl hfr _ (HO.out.below HBel.out)).mono ?_
    rintro e w' ⟨r, rfl, hr, rfl⟩
    obtain rfl := HR.out.unique hfr hr
    simp only [retOf]
    clear hr
    go_wp2_with fail
    go_ret
    exact ⟨rfl, HBel.out⟩
  · simp only [retOf]
    go_wp2_with fail
    refine (model_any a len cap slots fr f hl hsl hfr _ (HO.out.below HBel.out)).mono ?_
    rintro e w' ⟨r, rfl, hr, rfl⟩
    obtain rfl := HR.out.unique hfr hr
    simp only [retOf]
    clear hr
    go_wp2_with fail
    go_ret
    exact ⟨rfl, HBel.out⟩
end Go.Proofs.Qxb6612302aDoor
