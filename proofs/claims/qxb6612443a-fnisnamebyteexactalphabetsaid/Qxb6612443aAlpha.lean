/-
  zzAnchorAlphabet, zzInAlphabet.
-/
import Derived.Test.Qxb6612443aWalks
namespace Go.Proofs.Qxb6612443a
open Go.RowKit

/-- The written-out alphabet, byte by byte. -/
def alpha : ByteArray := ⟨#[48, 49, 50, 51, 52, 53, 54, 55, 56, 57, 65, 66, 67, 68, 69, 70, 71, 72, 73, 74, 75, 76, 77, 78, 79, 80, 81, 82, 83, 84, 85, 86, 87, 88, 89, 90, 97, 98, 99, 100, 101, 102, 103, 104, 105, 106, 107, 108, 109, 110, 111, 112, 113, 114, 115, 116, 117, 118, 119, 120, 121, 122, 45, 95]⟩

theorem alpha_any (w : World) : Calls Try.prog 8 #[] w fun e w' => e = .returned (.string alpha) ∧ w' = w := by
  go_enter Try.func8, Try.ntmps8
  go_wp2
  go_ret
  exact ⟨rfl, rfl⟩

/-- How zzInAlphabet ends. -/
def InEnds (c : Nat) (w : World) (e : Ending) (w' : World) : Prop := ∃ b : Bool, e = .returned (.bool b) ∧ (b = true ↔ ∃ k, ∃ h : k < alpha.size, (alpha[k]'h).toNat = c) ∧ w' = w

/-- Its loop's head. -/
def InRel (c : Nat) (v : Value) : Prop := ∃ k : Nat, v = .int .i64 k ∧ k ≤ alpha.size ∧ ∀ j, ∀ h : j < alpha.size, j < k → (alpha[j]'h).toNat ≠ c

set_option maxHeartbeats 400000 in
theorem in_any (c : Nat) (w : World) : Calls Try.prog 6 #[.int .u8 c] w fun e w' => InEnds c w e w' := by
  have hsz : alpha.size ≤ 1000 := by decide
  go_enter Try.func6, Try.ntmps6
  go_wp2_with (go_at_call 8; refine (alpha_any _).mono ?_; rintro e w' ⟨rfl, rfl⟩)
  go_loop [4] (fun v => InRel c v) (fun v => alpha.size - (intOf v).toNat)
  case atStart => exact ⟨0, rfl, by omega, fun j h hj => by omega⟩
  case round =>
    obtain ⟨k, rfl, hk, hR⟩ := hrel
    have HR : Hid (∀ j, ∀ h : j < alpha.size, j < k → (alpha[j]'h).toNat ≠ c) := hR
    clear hR
    by_cases hlt : k < alpha.size
    · by_cases he : (alpha[k]'hlt).toNat = c
      · have he' : (((alpha[k]'hlt).toNat : Int) == (c : Int)) = true := by simp; omega
        have HE : Hid ((alpha[k]'hlt).toNat = c) := he
        clear he
        go_wp2
        go_ret
        exact ⟨true, rfl, ⟨fun _ => ⟨k, hlt, HE.out⟩, fun _ => rfl⟩, rfl⟩
      · have he' : (((alpha[k]'hlt).toNat : Int) == (c : Int)) = false := by simp; omega
        have HE : Hid ((alpha[k]'hlt).toNat ≠ c) := he
        clear he
        go_wp2
        go_round
        case rel =>
          refine ⟨k + 1, by go_num, by omega, fun j h hj => ?_⟩
          by_cases e : j = k
          · subst e; exact HE.out
          · exact HR.out j h (by omega)
        case measure => simp [intOf]; omega
    · go_wp2
      go_ret
      exact ⟨false, rfl, ⟨fun h => (by cases h), fun ⟨j, h, e⟩ => absurd e (HR.out j h (by omega))⟩, rfl⟩

theorem alpha_list (c : Nat) (hc : c < 256) : (alpha.data.toList.any fun b => b.toNat == c) = accB c := by
  have h : ∀ c : Fin 256, (alpha.data.toList.any fun b => b.toNat == c.val) = accB c.val := by decide +kernel
  exact h ⟨c, hc⟩

theorem alpha_iff (c : Nat) (hc : c < 256) : (∃ k, ∃ h : k < alpha.size, (alpha[k]'h).toNat = c) ↔ accB c = true := by
  rw [← alpha_list c hc, List.any_eq_true]
  constructor
  · rintro ⟨k, h, e⟩
    exact ⟨alpha[k], Array.getElem_mem_toList (xs := alpha.data) h, by simpa using e⟩
  · rintro ⟨b, hb, e⟩
    obtain ⟨k, hk, rfl⟩ := List.getElem_of_mem hb
    have hk' : k < alpha.data.size := by simpa using hk
    have e' : (alpha.data[k]'hk').toNat = c := by simpa using e
    exact ⟨k, hk', e'⟩

set_option maxHeartbeats 400000 in
theorem exact_any (c : Nat) (hc : c < 256) (w : World) : Calls Try.prog 3 #[.int .u8 c] w fun e w' => e = .returned (.bool true) ∧ w' = w := by
  rcases hb : accB c with _ | _
  all_goals
    have HB : Hid (accB c = _) := hb
    clear hb
    go_enter Try.func3, Try.ntmps3
    go_wp2_with fail
    refine (name_any c hc _).mono ?_
    rintro e w' ⟨rfl, rfl⟩
    rw [HB.out]
    go_wp2_with fail
    refine (in_any c _).mono ?_
    rintro e w' ⟨b, rfl, hbb, rfl⟩
    have hbb' : b = accB c := by
      rw [alpha_iff c hc] at hbb
      cases b <;> cases h : accB c <;> simp [h] at hbb ⊢
    subst hbb'
    rw [HB.out]
    clear hbb
    go_wp2_with fail
    go_ret
    exact ⟨rfl, rfl⟩
end Go.Proofs.Qxb6612443a
