/-
  zzAnyOccupied.
-/
import Derived.Test.Qxb6612302aDoorModel
namespace Go.Proofs.Qxb6612302aDoor
open Go.RowKit

/-- The head of zzAnyOccupied's loop. -/
def AnyRel (slots lim : Nat) (f : Nat → Bool) (u : Value) : Prop := ∃ k : Nat, u = .int .u64 k ∧ k ≤ lim ∧ ∀ s, s < k → occOf slots f s = false

theorem none_on {O : Nat → Bool} {k : Nat} (h : ∀ s, s < k → O s = false) (hk : O k = false) : ∀ s, s < k + 1 → O s = false := by
  intro s hs
  by_cases e : s = k
  · subst e; exact hk
  · exact h s (by omega)

/-- How it ends: true just where some slot is occupied; the world is as it was. -/
def AnyEnds (slots : Nat) (f : Nat → Bool) (w : World) (e : Ending) (w' : World) : Prop := ∃ r : Bool, e = .returned (.bool r) ∧ (r = true ↔ ∃ s, s < slots ∧ occOf slots f s = true) ∧ w' = w

set_option maxHeartbeats 1000000 in
theorem any_any (a : Option Addr) (len cap slots : Nat) (f : Nat → Bool) (hl : len ≤ 131072) (hsl : slots ≤ 268435456) (w : World) (h : OccIs w a len f) :
    Calls Tryd.prog 11 #[.int .u64 slots, .slice a len cap] w fun e w' => AnyEnds slots f w e w' := by
  have HO : Hid (OccIs w a len f) := h
  clear h
  by_cases hc : slots < 64 * len
  · have HE : Hid (∀ s, slots ≤ s → occOf slots f s = false) := fun s hs => occOf_ge hs
    have hc' : (slots : Int) < (len : Int) * 64 := by omega
    go_enter Tryd.func11, Tryd.ntmps11
    go_wp2
    go_loop [6] (fun u => AnyRel slots slots f u) (fun u => slots - (intOf u).toNat)
    case atStart => exact ⟨0, rfl, by omega, fun s hs => by omega⟩
    case round =>
      obtain ⟨k, rfl, hk, hR⟩ := hrel
      have HR : Hid (∀ s, s < k → occOf slots f s = false) := hR
      clear hR
      by_cases hlt : k < slots
      · have hks : k < slots := by omega
        have HK : Hid (occOf slots f k = f k) := occOf_lt hks
        rcases hfk : f k with _ | _
        · have HV : Hid (f k = false) := hfk
          clear hfk
          go_wp2_with (go_at_call 12; refine (occ_at a len cap k f _ (by omega) hl _ HO.out HV).mono ?_; rintro e w' ⟨rfl, rfl⟩)
          go_round
          case rel => exact ⟨k + 1, by go_num, by omega, none_on HR.out (HK.out.trans HV.out)⟩
          case measure => simp [intOf]; omega
        · have HV : Hid (f k = true) := hfk
          clear hfk
          go_wp2_with (go_at_call 12; refine (occ_at a len cap k f _ (by omega) hl _ HO.out HV).mono ?_; rintro e w' ⟨rfl, rfl⟩)
          go_ret
          exact ⟨true, rfl, ⟨fun _ => ⟨k, hks, HK.out.trans HV.out⟩, fun _ => rfl⟩, rfl⟩
      · have HEk : Hid (∀ s, k ≤ s → occOf slots f s = false) := fun s hs => HE.out s (by omega)
        go_wp2_with fail
        go_ret
        exact ⟨false, rfl, ⟨fun h => (by cases h), fun ⟨s, _, h2⟩ => by
          by_cases hsk : s < k
          · rw [HR.out s hsk] at h2; cases h2
          · rw [HEk.out s (by omega)] at h2; cases h2⟩, rfl⟩
  · have HE : Hid (∀ s, 64 * len ≤ s → occOf slots f s = false) := lim_end HO.out.1
    have hc' : (len : Int) * 64 ≤ (slots : Int) := by omega
    go_enter Tryd.func11, Tryd.ntmps11
    go_wp2
    go_loop [6] (fun u => AnyRel slots (64 * len) f u) (fun u => slots - (intOf u).toNat)
    case atStart => exact ⟨0, rfl, by omega, fun s hs => by omega⟩
    case round =>
      obtain ⟨k, rfl, hk, hR⟩ := hrel
      have HR : Hid (∀ s, s < k → occOf slots f s = false) := hR
      clear hR
      by_cases hlt : k < (64 * len)
      · have hks : k < slots := by omega
        have HK : Hid (occOf slots f k = f k) := occOf_lt hks
        rcases hfk : f k with _ | _
        · have HV : Hid (f k = false) := hfk
          clear hfk
          go_wp2_with (go_at_call 12; refine (occ_at a len cap k f _ (by omega) hl _ HO.out HV).mono ?_; rintro e w' ⟨rfl, rfl⟩)
          go_round
          case rel => exact ⟨k + 1, by go_num, by omega, none_on HR.out (HK.out.trans HV.out)⟩
          case measure => simp [intOf]; omega
        · have HV : Hid (f k = true) := hfk
          clear hfk
          go_wp2_with (go_at_call 12; refine (occ_at a len cap k f _ (by omega) hl _ HO.out HV).mono ?_; rintro e w' ⟨rfl, rfl⟩)
          go_ret
          exact ⟨true, rfl, ⟨fun _ => ⟨k, hks, HK.out.trans HV.out⟩, fun _ => rfl⟩, rfl⟩
      · have HEk : Hid (∀ s, k ≤ s → occOf slots f s = false) := fun s hs => HE.out s (by omega)
        go_wp2_with fail
        go_ret
        exact ⟨false, rfl, ⟨fun h => (by cases h), fun ⟨s, _, h2⟩ => by
          by_cases hsk : s < k
          · rw [HR.out s hsk] at h2; cases h2
          · rw [HEk.out s (by omega)] at h2; cases h2⟩, rfl⟩
end Go.Proofs.Qxb6612302aDoor
