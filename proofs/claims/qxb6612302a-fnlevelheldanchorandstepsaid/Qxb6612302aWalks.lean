/-
  THE WALKS of seat b6612302a: what each Go function on the road computes.
-/
import Derived.Test.Qxb6612302aRows
import Derived.Test.Qxb6612302aPlain
import Derived.WalkKit
import Derived.WalkSpells
import Derived.WalkLawsBesides
import Derived.RowKit3
namespace Go.Proofs.Qxb6612302a
open Go.RowKit

theorem mask44 (s : Int) (h0 : 0 ≤ s) (h1 : s < 18446744073709551616) : bits .and .u64 s 17592186044415 = s % 17592186044416 := by
  go_bits2
theorem mask13 (s : Int) (h0 : 0 ≤ s) (h1 : s < 18446744073709551616) : bits .and .u64 s 8191 = s % 8192 := by
  go_bits2
theorem mask32 (s : Int) (h0 : 0 ≤ s) (h1 : s < 18446744073709551616) : bits .and .u64 s 4294967295 = s % 4294967296 := by
  go_bits2

set_option maxHeartbeats 400000 in
theorem due_any (b : Nat) (s : Int) (h0 : 0 ≤ s) (h1 : s < 18446744073709551616) (w : World) (hc : w.cell? ⟨b, 1, none⟩ = some (.int .u64 s)) :
    Calls Try.prog 11 #[.pointer (some ⟨b, 0, none⟩)] w fun e w' => e = .returned (.int .u64 (s % 17592186044416)) ∧ w' = w := by
  have hm := mask44 s h0 h1
  go_enter Try.func11, Try.ntmps11
  go_wp2
  go_ret
  exact ⟨rfl, rfl⟩

set_option maxHeartbeats 400000 in
theorem lag_any (b : Nat) (s : Int) (h0 : 0 ≤ s) (h1 : s < 18446744073709551616) (w : World) (hc : w.cell? ⟨b, 1, none⟩ = some (.int .u64 s)) :
    Calls Try.prog 12 #[.pointer (some ⟨b, 0, none⟩)] w fun e w' => e = .returned (.int .u64 (s / 17592186044416 % 8192)) ∧ w' = w := by
  have hm := mask13 (s / 17592186044416) (by omega) (by omega)
  go_enter Try.func12, Try.ntmps12
  go_wp2
  go_ret
  exact ⟨rfl, rfl⟩

theorem ret_int {k : IntKind} {a b : Int} (h : a = b) : Ending.returned (.int k a) = .returned (.int k b) := by rw [h]

set_option maxHeartbeats 400000 in
theorem window_any (b : Nat) (n wd : Int) (hn : 0 ≤ n) (hn' : n < 18446744073709551616) (hw : 0 < wd) (w : World) (hc : w.cell? ⟨b, 1, none⟩ = some (.int .u64 wd)) :
    Calls Try.prog 10 #[.pointer (some ⟨b, 0, none⟩), .int .u64 n] w fun e w' => e = .returned (.int .u64 (n / wd)) ∧ w' = w := by
  by_cases h1 : wd = 1
  · subst h1
    go_enter Try.func10, Try.ntmps10
    go_wp2
    go_ret
    exact ⟨by simp, rfl⟩
  · have h1' : (wd == 1) = false := by simpa using h1
    go_enter Try.func10, Try.ntmps10
    go_wp2
    go_ret
    exact ⟨rfl, rfl⟩

/-- (*level).held: the due tick's window, less the lag, as a word. -/
def heldOf (wd s : Int) : Int := (s % 17592186044416 / wd - s / 17592186044416 % 8192) % 18446744073709551616

set_option maxHeartbeats 400000 in
theorem held_any (b c : Nat) (s wd : Int) (h0 : 0 ≤ s) (h1 : s < 18446744073709551616) (hw : 0 < wd) (w : World) (hl : w.cell? ⟨b, 1, none⟩ = some (.int .u64 wd)) (ht : w.cell? ⟨c, 1, none⟩ = some (.int .u64 s)) :
    Calls Try.prog 6 #[.pointer (some ⟨b, 0, none⟩), .pointer (some ⟨c, 0, none⟩)] w fun e w' => e = .returned (.int .u64 (heldOf wd s)) ∧ w' = w := by
  go_enter Try.func6, Try.ntmps6
  go_wp2_with (first
    | (go_at_call 11; refine (due_any c s h0 h1 _ ht).mono ?_; rintro e w' ⟨rfl, rfl⟩)
    | (go_at_call 10; refine (window_any b _ wd (by omega) (by omega) hw _ hl).mono ?_; rintro e w' ⟨rfl, rfl⟩)
    | (go_at_call 12; refine (lag_any c s h0 h1 _ ht).mono ?_; rintro e w' ⟨rfl, rfl⟩)
    | go_in)
  go_ret
  exact ⟨ret_int (IntKind.wrap_u64 _), rfl⟩

/-- A timer due at tick 0: its held window and its lag sum to nought, as words. -/
theorem anchor (wd s : Int) : IntKind.u64.wrap (heldOf wd (s - s % 17592186044416) + s / 17592186044416 % 8192) = 0 := by
  have e1 : (s - s % 17592186044416) % 17592186044416 = 0 := by omega
  have e2 : (s - s % 17592186044416) / 17592186044416 = s / 17592186044416 := by omega
  unfold heldOf
  rw [IntKind.wrap_u64, e1, e2, Int.zero_ediv]
  omega

/-- A tick on. -/
theorem onward (wd s : Int) (hw : 0 < wd) (h : s % 17592186044416 ≠ 17592186044415) :
    IntKind.u64.wrap (heldOf wd (s + 1) - heldOf wd s) = if (s % 17592186044416 + 1) % wd = 0 then 1 else 0 := by
  have e1 : (s + 1) % 17592186044416 = s % 17592186044416 + 1 := by omega
  have e2 : (s + 1) / 17592186044416 = s / 17592186044416 := by omega
  have e3 := Plain.step (s % 17592186044416) wd hw
  unfold heldOf
  rw [IntKind.wrap_u64, e1, e2, e3]
  split <;> omega

theorem mk25 (w : World) : (Instr.makeSlice 25 (.int .i64 1) (.int .i64 1)).run Try.prog w = .ok (.slice (some ⟨w.heap.size, 0, none⟩) 1 1) (w.alloc (.cells #[.pointer none] 60)) := by kernel_rfl
theorem mk26 (w : World) : (Instr.makeSlice 26 (.int .i64 1) (.int .i64 1)).run Try.prog w = .ok (.slice (some ⟨w.heap.size, 0, none⟩) 1 1) (w.alloc (.cells #[.int .u64 0] 22)) := by kernel_rfl
end Go.Proofs.Qxb6612302a
