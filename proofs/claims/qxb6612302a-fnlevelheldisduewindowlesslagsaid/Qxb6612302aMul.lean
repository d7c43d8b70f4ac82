/-
  zzMul: the product of two words as two words, where the whole product is below 2^44.
-/
import Derived.Test.Qxb6612302aWalks
namespace Go.Proofs.Qxb6612302a
open Go.RowKit

theorem ret_two {k : IntKind} {a b c d : Int} (h : a = c) (g : b = d) : Ending.returned (.tuple #[.int k a, .int k b]) = .returned (.tuple #[.int k c, .int k d]) := by rw [h, g]

set_option maxHeartbeats 400000 in
theorem mul_any (q wd n : Int) (hq : 0 ≤ q) (hq' : q < 18446744073709551616) (hw : 0 ≤ wd) (hw' : wd < 18446744073709551616) (hn : n < 17592186044416) (h : q * wd ≤ n) (w : World) :
    Calls Try.prog 8 #[.int .u64 q, .int .u64 wd] w fun e w' => e = .returned (.tuple #[.int .u64 0, .int .u64 (q * wd)]) ∧ w' = w := by
  obtain ⟨p11, p10, p01, p00, e⟩ := Plain.mul_parts q wd n hq hw hn h
  have m1 := mask32 q hq hq'
  have m2 := mask32 wd hw hw'
  have m3 := mask32 ((q / 4294967296) * (wd % 4294967296) + (q % 4294967296) * (wd % 4294967296) / 4294967296) (by omega) (by omega)
  have hP : 0 ≤ q * wd := Int.mul_nonneg hq hw
  have E : Hid (((q / 4294967296) * (wd % 4294967296) + (q % 4294967296) * (wd / 4294967296)) * 4294967296 + (q % 4294967296) * (wd % 4294967296) = q * wd) := e
  have e1 : (q / 4294967296) * (wd % 4294967296) + (q % 4294967296) * (wd / 4294967296) < 4096 := by omega
  have e2 : (q % 4294967296) * (wd % 4294967296) < 17592186044416 := by omega
  have e3 : q * wd < 17592186044416 := by omega
  clear e
  go_enter Try.func8, Try.ntmps8
  go_wp2
  go_ret2
  have e := E.out
  refine ⟨ret_two ?_ ?_, rfl⟩
  · omega
  · rfl

/-- The held window and the lag sum to the due tick's window, as words. -/
theorem back (wd s : Int) (hw : 0 < wd) : IntKind.u64.wrap (heldOf wd s + s / 17592186044416 % 8192) = s % 17592186044416 / wd := by
  obtain ⟨v1, v2, v3, v4⟩ := Plain.win (s % 17592186044416) wd (by omega) hw
  unfold heldOf
  rw [IntKind.wrap_u64]
  omega
end Go.Proofs.Qxb6612302a
