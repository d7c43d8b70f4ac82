/-
  THE PLAIN LAWS of seat b6612302a: arithmetic alone, no Go in sight.
-/
namespace Go.Proofs.Qxb6612302a.Plain

theorem mul_parts (q wd n : Int) (hq : 0 ≤ q) (hw : 0 ≤ wd) (hn : n < 17592186044416) (h : q * wd ≤ n) :
    (q / 4294967296) * (wd / 4294967296) = 0 ∧ 0 ≤ (q / 4294967296) * (wd % 4294967296) ∧ 0 ≤ (q % 4294967296) * (wd / 4294967296) ∧ 0 ≤ (q % 4294967296) * (wd % 4294967296) ∧
    ((q / 4294967296) * (wd % 4294967296) + (q % 4294967296) * (wd / 4294967296)) * 4294967296 + (q % 4294967296) * (wd % 4294967296) = q * wd := by
  have e1 : q = (q / 4294967296) * 4294967296 + q % 4294967296 := by omega
  have e2 : wd = (wd / 4294967296) * 4294967296 + wd % 4294967296 := by omega
  have p11 : 0 ≤ (q / 4294967296) * (wd / 4294967296) := Int.mul_nonneg (by omega) (by omega)
  have p10 : 0 ≤ (q / 4294967296) * (wd % 4294967296) := Int.mul_nonneg (by omega) (by omega)
  have p01 : 0 ≤ (q % 4294967296) * (wd / 4294967296) := Int.mul_nonneg (by omega) (by omega)
  have p00 : 0 ≤ (q % 4294967296) * (wd % 4294967296) := Int.mul_nonneg (by omega) (by omega)
  have e : q * wd = (q / 4294967296) * (wd / 4294967296) * 18446744073709551616 + ((q / 4294967296) * (wd % 4294967296) + (q % 4294967296) * (wd / 4294967296)) * 4294967296 + (q % 4294967296) * (wd % 4294967296) := by
    generalize q / 4294967296 = a at *
    generalize q % 4294967296 = b at *
    generalize wd / 4294967296 = c at *
    generalize wd % 4294967296 = d at *
    rw [e1, e2]
    simp only [Int.add_mul, Int.mul_add]
    have : a * 4294967296 * (c * 4294967296) = a * c * 18446744073709551616 := by
      rw [Int.mul_assoc, Int.mul_left_comm 4294967296 c, ← Int.mul_assoc]; rfl
    have h2 : a * 4294967296 * d = a * d * 4294967296 := by rw [Int.mul_right_comm]
    have h3 : b * (c * 4294967296) = b * c * 4294967296 := by rw [Int.mul_assoc]
    omega
  omega

/-- The window that a tick lies in, and the tick's place in it. -/
theorem win (n wd : Int) (hn : 0 ≤ n) (hw : 0 < wd) : 0 ≤ n / wd ∧ n / wd ≤ n ∧ n / wd * wd ≤ n ∧ n - n / wd * wd < wd := by
  have h1 : n / wd * wd + n % wd = n := Int.ediv_mul_add_emod n wd
  have h2 : 0 ≤ n % wd := Int.emod_nonneg _ (by omega)
  have h3 : n % wd < wd := Int.emod_lt_of_pos _ hw
  have h4 : 0 ≤ n / wd := Int.ediv_nonneg hn (by omega)
  have h5 : n / wd ≤ n := Int.ediv_le_self _ hn
  omega

/-- A tick on: the window moves on by one just where the new tick opens one. -/
theorem step (n wd : Int) (hw : 0 < wd) : (n + 1) / wd = n / wd + if (n + 1) % wd = 0 then 1 else 0 := by
  have h1 : n / wd * wd + n % wd = n := Int.ediv_mul_add_emod n wd
  have h2 : 0 ≤ n % wd := Int.emod_nonneg _ (by omega)
  have h3 : n % wd < wd := Int.emod_lt_of_pos _ hw
  by_cases h : n % wd + 1 = wd
  · have e : n + 1 = wd * (n / wd + 1) := by rw [Int.mul_add, Int.mul_comm]; omega
    have d : (n + 1) / wd = n / wd + 1 := by rw [e, Int.mul_ediv_cancel_left _ (by omega)]
    have m : (n + 1) % wd = 0 := by rw [e, Int.mul_emod_right]
    rw [if_pos m, d]
  · have e : n + 1 = (n % wd + 1) + wd * (n / wd) := by rw [Int.mul_comm]; omega
    have d : (n + 1) / wd = n / wd := by
      rw [e, Int.add_mul_ediv_left _ _ (by omega), Int.ediv_eq_zero_of_lt (by omega) (by omega)]; simp
    have m : (n + 1) % wd = n % wd + 1 := by rw [e, Int.add_mul_emod_self_left, Int.emod_eq_of_lt (by omega) (by omega)]
    rw [if_neg (by omega), d]; simp
end Go.Proofs.Qxb6612302a.Plain
