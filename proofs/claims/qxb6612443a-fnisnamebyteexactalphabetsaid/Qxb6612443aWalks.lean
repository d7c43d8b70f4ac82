/-
  THE WALKS of seat b6612443a.
-/
import Derived.Test.Qxb6612443aRows
import Derived.WalkKit
import Derived.WalkSpells
import Derived.WalkLawsBesides
import Derived.RowKit3
namespace Go.Proofs.Qxb6612443a
open Go.RowKit

/-- May the byte stand in an anchor's name? -/
def accB (c : Nat) : Bool := (48 ≤ c && c ≤ 57) || (65 ≤ c && c ≤ 90) || (97 ≤ c && c ≤ 122) || c == 45 || c == 95

theorem ret_bool {a b : Bool} (h : a = b) : Ending.returned (.bool a) = .returned (.bool b) := by rw [h]

set_option maxHeartbeats 400000 in
theorem name_0 (c : Nat) (h1 : 0 ≤ c) (h2 : c ≤ 44) (w : World) : Calls Try.prog 5 #[.int .u8 c] w fun e w' => e = .returned (.bool false) ∧ w' = w := by
  have f0 : decide ((48 : Int) ≤ (c : Int)) = false := decide_eq_false (by omega)
  have f1 : (c : Int) ≤ 57 := by omega
  have f2 : decide ((65 : Int) ≤ (c : Int)) = false := decide_eq_false (by omega)
  have f3 : (c : Int) ≤ 90 := by omega
  have f4 : decide ((97 : Int) ≤ (c : Int)) = false := decide_eq_false (by omega)
  have f5 : (c : Int) ≤ 122 := by omega
  have f6 : ((c : Int) == 45) = false := by simp; omega
  have f7 : ((c : Int) == 95) = false := by simp; omega
  clear h1 h2
  go_enter Try.func5, Try.ntmps5
  go_wp2
  go_ret
  exact ⟨rfl, rfl⟩

set_option maxHeartbeats 400000 in
theorem name_1 (c : Nat) (h1 : 45 ≤ c) (h2 : c ≤ 45) (w : World) : Calls Try.prog 5 #[.int .u8 c] w fun e w' => e = .returned (.bool true) ∧ w' = w := by
  have f0 : decide ((48 : Int) ≤ (c : Int)) = false := decide_eq_false (by omega)
  have f1 : (c : Int) ≤ 57 := by omega
  have f2 : decide ((65 : Int) ≤ (c : Int)) = false := decide_eq_false (by omega)
  have f3 : (c : Int) ≤ 90 := by omega
  have f4 : decide ((97 : Int) ≤ (c : Int)) = false := decide_eq_false (by omega)
  have f5 : (c : Int) ≤ 122 := by omega
  have f6 : ((c : Int) == 45) = true := by simp; omega
  have f7 : ((c : Int) == 95) = false := by simp; omega
  clear h1 h2
  go_enter Try.func5, Try.ntmps5
  go_wp2
  go_ret
  exact ⟨rfl, rfl⟩

set_option maxHeartbeats 400000 in
theorem name_2 (c : Nat) (h1 : 46 ≤ c) (h2 : c ≤ 47) (w : World) : Calls Try.prog 5 #[.int .u8 c] w fun e w' => e = .returned (.bool false) ∧ w' = w := by
  have f0 : decide ((48 : Int) ≤ (c : Int)) = false := decide_eq_false (by omega)
  have f1 : (c : Int) ≤ 57 := by omega
  have f2 : decide ((65 : Int) ≤ (c : Int)) = false := decide_eq_false (by omega)
  have f3 : (c : Int) ≤ 90 := by omega
  have f4 : decide ((97 : Int) ≤ (c : Int)) = false := decide_eq_false (by omega)
  have f5 : (c : Int) ≤ 122 := by omega
  have f6 : ((c : Int) == 45) = false := by simp; omega
  have f7 : ((c : Int) == 95) = false := by simp; omega
  clear h1 h2
  go_enter Try.func5, Try.ntmps5
  go_wp2
  go_ret
  exact ⟨rfl, rfl⟩

set_option maxHeartbeats 400000 in
theorem name_3 (c : Nat) (h1 : 48 ≤ c) (h2 : c ≤ 57) (w : World) : Calls Try.prog 5 #[.int .u8 c] w fun e w' => e = .returned (.bool true) ∧ w' = w := by
  have f0 : (48 : Int) ≤ (c : Int) := by omega
  have f1 : (c : Int) ≤ 57 := by omega
  have f2 : decide ((65 : Int) ≤ (c : Int)) = false := decide_eq_false (by omega)
  have f3 : (c : Int) ≤ 90 := by omega
  have f4 : decide ((97 : Int) ≤ (c : Int)) = false := decide_eq_false (by omega)
  have f5 : (c : Int) ≤ 122 := by omega
  have f6 : ((c : Int) == 45) = false := by simp; omega
  have f7 : ((c : Int) == 95) = false := by simp; omega
  clear h1 h2
  go_enter Try.func5, Try.ntmps5
  go_wp2
  go_ret
  exact ⟨rfl, rfl⟩

set_option maxHeartbeats 400000 in
theorem name_4 (c : Nat) (h1 : 58 ≤ c) (h2 : c ≤ 64) (w : World) : Calls Try.prog 5 #[.int .u8 c] w fun e w' => e = .returned (.bool false) ∧ w' = w := by
  have f0 : (48 : Int) ≤ (c : Int) := by omega
  have f1 : decide ((c : Int) ≤ 57) = false := decide_eq_false (by omega)
  have f2 : decide ((65 : Int) ≤ (c : Int)) = false := decide_eq_false (by omega)
  have f3 : (c : Int) ≤ 90 := by omega
  have f4 : decide ((97 : Int) ≤ (c : Int)) = false := decide_eq_false (by omega)
  have f5 : (c : Int) ≤ 122 := by omega
  have f6 : ((c : Int) == 45) = false := by simp; omega
  have f7 : ((c : Int) == 95) = false := by simp; omega
  clear h1 h2
  go_enter Try.func5, Try.ntmps5
  go_wp2
  go_ret
  exact ⟨rfl, rfl⟩

set_option maxHeartbeats 400000 in
theorem name_5 (c : Nat) (h1 : 65 ≤ c) (h2 : c ≤ 90) (w : World) : Calls Try.prog 5 #[.int .u8 c] w fun e w' => e = .returned (.bool true) ∧ w' = w := by
  have f0 : (48 : Int) ≤ (c : Int) := by omega
  have f1 : decide ((c : Int) ≤ 57) = false := decide_eq_false (by omega)
  have f2 : (65 : Int) ≤ (c : Int) := by omega
  have f3 : (c : Int) ≤ 90 := by omega
  have f4 : decide ((97 : Int) ≤ (c : Int)) = false := decide_eq_false (by omega)
  have f5 : (c : Int) ≤ 122 := by omega
  have f6 : ((c : Int) == 45) = false := by simp; omega
  have f7 : ((c : Int) == 95) = false := by simp; omega
  clear h1 h2
  go_enter Try.func5, Try.ntmps5
  go_wp2
  go_ret
  exact ⟨rfl, rfl⟩

set_option maxHeartbeats 400000 in
theorem name_6 (c : Nat) (h1 : 91 ≤ c) (h2 : c ≤ 94) (w : World) : Calls Try.prog 5 #[.int .u8 c] w fun e w' => e = .returned (.bool false) ∧ w' = w := by
  have f0 : (48 : Int) ≤ (c : Int) := by omega
  have f1 : decide ((c : Int) ≤ 57) = false := decide_eq_false (by omega)
  have f2 : (65 : Int) ≤ (c : Int) := by omega
  have f3 : decide ((c : Int) ≤ 90) = false := decide_eq_false (by omega)
  have f4 : decide ((97 : Int) ≤ (c : Int)) = false := decide_eq_false (by omega)
  have f5 : (c : Int) ≤ 122 := by omega
  have f6 : ((c : Int) == 45) = false := by simp; omega
  have f7 : ((c : Int) == 95) = false := by simp; omega
  clear h1 h2
  go_enter Try.func5, Try.ntmps5
  go_wp2
  go_ret
  exact ⟨rfl, rfl⟩

set_option maxHeartbeats 400000 in
theorem name_7 (c : Nat) (h1 : 95 ≤ c) (h2 : c ≤ 95) (w : World) : Calls Try.prog 5 #[.int .u8 c] w fun e w' => e = .returned (.bool true) ∧ w' = w := by
  have f0 : (48 : Int) ≤ (c : Int) := by omega
  have f1 : decide ((c : Int) ≤ 57) = false := decide_eq_false (by omega)
  have f2 : (65 : Int) ≤ (c : Int) := by omega
  have f3 : decide ((c : Int) ≤ 90) = false := decide_eq_false (by omega)
  have f4 : decide ((97 : Int) ≤ (c : Int)) = false := decide_eq_false (by omega)
  have f5 : (c : Int) ≤ 122 := by omega
  have f6 : ((c : Int) == 45) = false := by simp; omega
  have f7 : ((c : Int) == 95) = true := by simp; omega
  clear h1 h2
  go_enter Try.func5, Try.ntmps5
  go_wp2
  go_ret
  exact ⟨rfl, rfl⟩

set_option maxHeartbeats 400000 in
theorem name_8 (c : Nat) (h1 : 96 ≤ c) (h2 : c ≤ 96) (w : World) : Calls Try.prog 5 #[.int .u8 c] w fun e w' => e = .returned (.bool false) ∧ w' = w := by
  have f0 : (48 : Int) ≤ (c : Int) := by omega
  have f1 : decide ((c : Int) ≤ 57) = false := decide_eq_false (by omega)
  have f2 : (65 : Int) ≤ (c : Int) := by omega
  have f3 : decide ((c : Int) ≤ 90) = false := decide_eq_false (by omega)
  have f4 : decide ((97 : Int) ≤ (c : Int)) = false := decide_eq_false (by omega)
  have f5 : (c : Int) ≤ 122 := by omega
  have f6 : ((c : Int) == 45) = false := by simp; omega
  have f7 : ((c : Int) == 95) = false := by simp; omega
  clear h1 h2
  go_enter Try.func5, Try.ntmps5
  go_wp2
  go_ret
  exact ⟨rfl, rfl⟩

set_option maxHeartbeats 400000 in
theorem name_9 (c : Nat) (h1 : 97 ≤ c) (h2 : c ≤ 122) (w : World) : Calls Try.prog 5 #[.int .u8 c] w fun e w' => e = .returned (.bool true) ∧ w' = w := by
  have f0 : (48 : Int) ≤ (c : Int) := by omega
  have f1 : decide ((c : Int) ≤ 57) = false := decide_eq_false (by omega)
  have f2 : (65 : Int) ≤ (c : Int) := by omega
  have f3 : decide ((c : Int) ≤ 90) = false := decide_eq_false (by omega)
  have f4 : (97 : Int) ≤ (c : Int) := by omega
  have f5 : (c : Int) ≤ 122 := by omega
  have f6 : ((c : Int) == 45) = false := by simp; omega
  have f7 : ((c : Int) == 95) = false := by simp; omega
  clear h1 h2
  go_enter Try.func5, Try.ntmps5
  go_wp2
  go_ret
  exact ⟨rfl, rfl⟩

set_option maxHeartbeats 400000 in
theorem name_10 (c : Nat) (h1 : 123 ≤ c) (h2 : c ≤ 255) (w : World) : Calls Try.prog 5 #[.int .u8 c] w fun e w' => e = .returned (.bool false) ∧ w' = w := by
  have f0 : (48 : Int) ≤ (c : Int) := by omega
  have f1 : decide ((c : Int) ≤ 57) = false := decide_eq_false (by omega)
  have f2 : (65 : Int) ≤ (c : Int) := by omega
  have f3 : decide ((c : Int) ≤ 90) = false := decide_eq_false (by omega)
  have f4 : (97 : Int) ≤ (c : Int) := by omega
  have f5 : decide ((c : Int) ≤ 122) = false := decide_eq_false (by omega)
  have f6 : ((c : Int) == 45) = false := by simp; omega
  have f7 : ((c : Int) == 95) = false := by simp; omega
  clear h1 h2
  go_enter Try.func5, Try.ntmps5
  go_wp2
  go_ret
  exact ⟨rfl, rfl⟩

theorem accB_is (c : Nat) (b : Bool) (h : accB c = b) (w : World) (H : Calls Try.prog 5 #[.int .u8 c] w fun e w' => e = .returned (.bool b) ∧ w' = w) :
    Calls Try.prog 5 #[.int .u8 c] w fun e w' => e = .returned (.bool (accB c)) ∧ w' = w := by rw [h]; exact H

theorem name_any (c : Nat) (h : c < 256) (w : World) : Calls Try.prog 5 #[.int .u8 c] w fun e w' => e = .returned (.bool (accB c)) ∧ w' = w := by
  by_cases g0 : c ≤ 44
  · exact accB_is c false (by unfold accB; simp; omega) w (name_0 c (by omega) g0 w)
  by_cases g1 : c ≤ 45
  · exact accB_is c true (by unfold accB; simp; omega) w (name_1 c (by omega) g1 w)
  by_cases g2 : c ≤ 47
  · exact accB_is c false (by unfold accB; simp; omega) w (name_2 c (by omega) g2 w)
  by_cases g3 : c ≤ 57
  · exact accB_is c true (by unfold accB; simp; omega) w (name_3 c (by omega) g3 w)
  by_cases g4 : c ≤ 64
  · exact accB_is c false (by unfold accB; simp; omega) w (name_4 c (by omega) g4 w)
  by_cases g5 : c ≤ 90
  · exact accB_is c true (by unfold accB; simp; omega) w (name_5 c (by omega) g5 w)
  by_cases g6 : c ≤ 94
  · exact accB_is c false (by unfold accB; simp; omega) w (name_6 c (by omega) g6 w)
  by_cases g7 : c ≤ 95
  · exact accB_is c true (by unfold accB; simp; omega) w (name_7 c (by omega) g7 w)
  by_cases g8 : c ≤ 96
  · exact accB_is c false (by unfold accB; simp; omega) w (name_8 c (by omega) g8 w)
  by_cases g9 : c ≤ 122
  · exact accB_is c true (by unfold accB; simp; omega) w (name_9 c (by omega) g9 w)
  exact accB_is c false (by unfold accB; simp; omega) w (name_10 c (by omega) (by omega) w)
end Go.Proofs.Qxb6612443a
