/-
  FnLevelSeekLandsOnOccupiedSlot, walked: it returns true.
-/
import Derived.Test.Qxb6612302aDoorLaw3
namespace Go.Proofs.Qxb6612302aDoor
open Go.RowKit

theorem seek_at_some (lb pb ub slots fr k : Nat) (total : Int) (O U : Nat → Bool) (hF : Fits slots O U) (hsl : slots ≤ 268435456) (hfr : fr < slots) (w : World) (hT : TabHere w)
    (L : LevelIs w lb pb ub slots total O U) (h : IsSeek O slots fr (some k)) :
    Calls Tryd.prog 8 #[.pointer (some ⟨lb, 0, none⟩), .int .u64 fr] w fun e w' => e = .returned (.tuple #[.int .u64 k, .bool true]) ∧ w' = w := by
  refine (seek_any lb pb ub slots fr total O U hF hsl hfr w hT L).mono ?_
  rintro e w' ⟨r, rfl, hr, rfl⟩
  obtain rfl := hr.unique hfr h
  exact ⟨rfl, rfl⟩

set_option maxHeartbeats 1000000 in
theorem law4_main (a : Option Addr) (len cap slots fr : Nat) (f : Nat → Bool) (hl : len ≤ 131072) (h0 : 0 < slots) (hsl : slots ≤ 268435456) (hfr : fr < slots) (w : World) (hT : TabHere w) (h : OccIs w a len f) :
    Calls Tryd.prog 4 #[.int .u64 slots, .slice a len cap, .int .u64 fr] w fun e w' => e = .returned (.bool true) ∧ Below w.heap.size w w' := by
  obtain ⟨U, hF⟩ := fits_some slots f
  have HO : Hid (OccIs w a len f) := h
  have HF : Hid (Fits slots (occOf slots f) U) := hF
  have HT : Hid (TabHere w) := hT
  clear h hF hT
  have hz : ((slots : Int) == 0) = false := by simp; omega
  have hz2 : decide ((268435456 : Int) < (slots : Int)) = false := decide_eq_false (by omega)
  have hz3 : decide ((slots : Int) ≤ (fr : Int)) = false := decide_eq_false (by omega)
  go_enter Tryd.func4, Tryd.ntmps4
  go_wp2_with (go_at_call 10; go_in)
  refine (build_any a len cap slots f U hl h0 hsl HF.out _ HO.out).mono ?_
  rintro e w1 ⟨t, rfl, ht, htz, hB⟩
  have HB : Hid (Built w w1 slots (npages slots) (occOf slots f) U) := hB
  have HTZ : Hid (t = 0 → ∀ p, p < npages slots → U p = false) := htz
  clear hB htz
  go_wp2_with (go_at_call 7; go_in)
  have hL := level_of_built HF.out HTZ.out HB.out
  have hbel : Below w.heap.size w (w1.alloc (.cells #[.int .u64 slots, .int .u64 1, .slice (some ⟨w.heap.size, 0, none⟩) (npages slots) (npages slots), .slice (some ⟨w.heap.size + 1, 0, none⟩) (nused slots) (nused slots), .int .i64 t] 38)) :=
    HB.out.old.alloc (by have := HB.out.size; omega) _
  generalize w1.alloc (.cells #[.int .u64 slots, .int .u64 1, .slice (some ⟨w.heap.size, 0, none⟩) (npages slots) (npages slots), .slice (some ⟨w.heap.size + 1, 0, none⟩) (nused slots) (nused slots), .int .i64 t] 38) = W2 at hL hbel ⊢
  have HL : Hid (LevelIs W2 w1.heap.size w.heap.size (w.heap.size + 1) slots t (occOf slots f) U) := hL
  have HBel : Hid (Below w.heap.size w W2) := hbel
  have HT2 : Hid (TabHere W2) := HT.out.below hbel
  have HO2 : Hid (OccIs W2 a len f) := HO.out.below hbel
  clear hL hbel
  refine (any_any a len cap slots f hl hsl _ HO2.out).mono ?_
  rintro e w' ⟨sm, rfl, hsm, hw'⟩
  subst hw'
  have HSM : Hid (sm = true ↔ ∃ s, s < slots ∧ occOf slots f s = true) := hsm
  clear hsm
  go_wp2_with fail
  refine (seek_any _ _ _ slots fr t (occOf slots f) U HF.out hsl hfr _ HT2.out HL.out).mono ?_
  rintro e w' ⟨r, rfl, hr, hw'⟩
  subst hw'
  rcases r with _ | k
  · have hsm : sm = false := by
      cases hb : sm with
      | false => rfl
      | true =>
        obtain ⟨s, h1, h2⟩ := HSM.out.1 hb
        rw [hr s h1] at h2; cases h2
    subst hsm
    simp only [retOf]
    clear hr
    go_wp2_with fail
    go_ret
    exact ⟨rfl, HBel.out⟩
  · have hk : k < slots := hr.1
    have HR : Hid (IsSeek (occOf slots f) slots fr (some k)) := hr
    have hsm : sm = true := HSM.out.2 ⟨_, ring_lt hfr hk, hr.2.1⟩
    subst hsm
    have hfs : Hid (f (ring slots fr k) = true) := by
      have := hr.2.1
      rw [occOf_lt (ring_lt hfr hk)] at this
      exact this
    have HAt : Hid (IsSeek (occOf slots f) slots (ring slots fr k) (some 0)) := seek_at (ring_lt hfr hk) hr.2.1
    have hks : decide ((slots : Int) ≤ (k : Int)) = false := decide_eq_false (by omega)
    have hrl := ring_lt hfr hk
    simp only [retOf]
    clear hr
    rcases k with _ | k
    · have e : ring slots fr 0 = fr + 0 := by unfold ring; rw [if_pos (by omega)]
      rw [e] at hfs HAt hrl
      clear e
      have HCs : Hid ((fr : Int) = ((fr + 0 : Nat) : Int)) := by unfold Hid; omega
      go_wp2_with fail
      rw [HCs.out]
      refine (occ_at a len cap (fr + 0) f true (by omega) hl _ HO2.out hfs).mono ?_
      rintro e w' ⟨rfl, hw'⟩
      subst hw'
      go_wp2_with fail
      refine (seek_at_some _ _ _ slots (fr + 0) 0 t (occOf slots f) U HF.out hsl hrl _ HT2.out HL.out HAt.out).mono ?_
      rintro e w' ⟨rfl, hw'⟩
      subst hw'
      go_wp2_with fail
      go_ret
      exact ⟨rfl, HBel.out⟩
    · have hnx := seek_next (by omega) HR.out
      have HCk : Hid (((k + 1 : Nat) : Int) = (k : Int) + 1) := by unfold Hid; omega
      by_cases hin : fr + (k + 1) < slots
      · rw [if_neg (by omega)] at hnx
        have HNx : Hid (IsSeek (occOf slots f) slots (fr + 1) (some k)) := hnx
        clear hnx
        have e : ring slots fr (k + 1) = fr + (k + 1) := by unfold ring; rw [if_pos (by omega)]
        rw [e] at hfs HAt hrl
        clear e
        have HCs : Hid ((fr : Int) + ((k : Int) + 1) = ((fr + (k + 1) : Nat) : Int)) := by unfold Hid; omega
        have hge : decide ((slots : Int) ≤ (fr : Int) + ((k : Int) + 1)) = false := decide_eq_false (by omega)
        have hne : ((fr : Int) + 1 == (slots : Int)) = false := by simp; omega
        go_wp2_with fail
        rw [HCs.out]
        refine (occ_at a len cap (fr + (k + 1)) f true (by omega) hl _ HO2.out hfs).mono ?_
        rintro e w' ⟨rfl, hw'⟩
        subst hw'
        go_wp2_with fail
        refine (seek_at_some _ _ _ slots (fr + (k + 1)) 0 t (occOf slots f) U HF.out hsl hrl _ HT2.out HL.out HAt.out).mono ?_
        rintro e w' ⟨rfl, hw'⟩
        subst hw'
        go_wp2_with fail
        refine (seek_at_some _ _ _ slots (fr + 1) k t (occOf slots f) U HF.out hsl (by omega) _ HT2.out HL.out HNx.out).mono ?_
        rintro e w' ⟨rfl, hw'⟩
        subst hw'
        go_wp2_with fail
        go_ret
        exact ⟨rfl, HBel.out⟩
      · by_cases hl1 : fr + 1 = slots
        · rw [if_pos hl1] at hnx
          have HNx : Hid (IsSeek (occOf slots f) slots 0 (some k)) := hnx
          clear hnx
          have e : ring slots fr (k + 1) = fr + (k + 1) - slots := by unfold ring; rw [if_neg hin]
          rw [e] at hfs HAt hrl
          clear e
          have HCs : Hid ((fr : Int) + ((k : Int) + 1) - (slots : Int) = ((fr + (k + 1) - slots : Nat) : Int)) := by unfold Hid; omega
          have hge : (slots : Int) ≤ (fr : Int) + ((k : Int) + 1) := by omega
          have hne : ((fr : Int) + 1 == (slots : Int)) = true := by simp; omega
          have HIN : Hid (¬ fr + (k + 1) < slots) := hin
          have HL1 : Hid (fr + 1 = slots) := hl1
          clear hin hl1
          go_wp2_with fail
          rw [HCs.out]
          refine (occ_at a len cap (fr + (k + 1) - slots) f true (by omega) hl _ HO2.out hfs).mono ?_
          rintro e w' ⟨rfl, hw'⟩
          subst hw'
          go_wp2_with fail
          refine (seek_at_some _ _ _ slots (fr + (k + 1) - slots) 0 t (occOf slots f) U HF.out hsl hrl _ HT2.out HL.out HAt.out).mono ?_
          rintro e w' ⟨rfl, hw'⟩
          subst hw'
          go_wp2_with fail
          refine (seek_at_some _ _ _ slots (0) k t (occOf slots f) U HF.out hsl (by omega) _ HT2.out HL.out HNx.out).mono ?_
          rintro e w' ⟨rfl, hw'⟩
          subst hw'
          go_wp2_with fail
          go_ret
          exact ⟨rfl, HBel.out⟩
        · rw [if_neg hl1] at hnx
          have HNx : Hid (IsSeek (occOf slots f) slots (fr + 1) (some k)) := hnx
          clear hnx
          have e : ring slots fr (k + 1) = fr + (k + 1) - slots := by unfold ring; rw [if_neg hin]
          rw [e] at hfs HAt hrl
          clear e
          have HCs : Hid ((fr : Int) + ((k : Int) + 1) - (slots : Int) = ((fr + (k + 1) - slots : Nat) : Int)) := by unfold Hid; omega
          have hge : (slots : Int) ≤ (fr : Int) + ((k : Int) + 1) := by omega
          have hne : ((fr : Int) + 1 == (slots : Int)) = false := by simp; omega
          have HIN : Hid (¬ fr + (k + 1) < slots) := hin
          clear hin
          go_wp2_with fail
          rw [HCs.out]
          refine (occ_at a len cap (fr + (k + 1) - slots) f true (by omega) hl _ HO2.out hfs).mono ?_
          rintro e w' ⟨rfl, hw'⟩
          subst hw'
          go_wp2_with fail
          refine (seek_at_some _ _ _ slots (fr + (k + 1) - slots) 0 t (occOf slots f) U HF.out hsl hrl _ HT2.out HL.out HAt.out).mono ?_
          rintro e w' ⟨rfl, hw'⟩
          subst hw'
          go_wp2_with fail
          refine (seek_at_some _ _ _ slots (fr + 1) k t (occOf slots f) U HF.out hsl (by omega) _ HT2.out HL.out HNx.out).mono ?_
          rintro e w' ⟨rfl, hw'⟩
          subst hw'
          go_wp2_with fail
          go_ret
          exact ⟨rfl, HBel.out⟩
end Go.Proofs.Qxb6612302aDoor
