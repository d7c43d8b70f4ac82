/-
  THE PLAIN LAWS of seat b6612302aD: sets of slots as functions to Bool; the nearest one on the ring. No Go in sight.
-/
import Derived.Lib.TrailingZeros
namespace Go.Proofs.Qxb6612302aDoor

/-- 'r' is the least index at or above fr, below lim, at which f is true; none where there is none. -/
def IsNext (f : Nat → Bool) (lim fr : Nat) : Option Nat → Prop
  | some j => fr ≤ j ∧ j < lim ∧ f j = true ∧ ∀ i, fr ≤ i → i < j → f i = false
  | none => ∀ i, fr ≤ i → i < lim → f i = false

/-- The slot k past fr on a ring of 'slots' slots (fr and k below slots). -/
def ring (slots fr k : Nat) : Nat := if fr + k < slots then fr + k else fr + k - slots

/-- 'r' is the least distance on the ring from fr to a slot at which O is true; none where there is none. -/
def IsSeek (O : Nat → Bool) (slots fr : Nat) : Option Nat → Prop
  | some k => k < slots ∧ O (ring slots fr k) = true ∧ ∀ i, i < k → O (ring slots fr i) = false
  | none => ∀ s, s < slots → O s = false

theorem ring_lt {slots fr k : Nat} (hf : fr < slots) (hk : k < slots) : ring slots fr k < slots := by
  unfold ring; split <;> omega

theorem ring_onto {slots fr s : Nat} (hf : fr < slots) (hs : s < slots) : ∃ k, k < slots ∧ ring slots fr k = s := by
  by_cases h : fr ≤ s
  · refine ⟨s - fr, by omega, ?_⟩
    unfold ring; rw [if_pos (by omega)]; omega
  · refine ⟨s + slots - fr, by omega, ?_⟩
    unfold ring; rw [if_neg (by omega)]; omega

theorem IsSeek.unique {O : Nat → Bool} {slots fr : Nat} (hf : fr < slots) {r r' : Option Nat} (h : IsSeek O slots fr r) (h' : IsSeek O slots fr r') : r = r' := by
  match r, r', h, h' with
  | none, none, _, _ => rfl
  | none, some k, h, h' => have := h _ (ring_lt hf h'.1); rw [h'.2.1] at this; cases this
  | some k, none, h, h' => have := h' _ (ring_lt hf h.1); rw [h.2.1] at this; cases this
  | some k, some k', h, h' =>
    rcases Nat.lt_trichotomy k k' with g | g | g
    · have := h'.2.2 k g; rw [h.2.1] at this; cases this
    · rw [g]
    · have := h.2.2 k' g; rw [h'.2.1] at this; cases this

theorem seek_here {O : Nat → Bool} {slots fr s : Nat} (h : IsNext O slots fr (some s)) : IsSeek O slots fr (some (s - fr)) := by
  obtain ⟨h1, h2, h3, h4⟩ := h
  refine ⟨by omega, ?_, fun i hi => ?_⟩
  · unfold ring; rw [if_pos (by omega), show fr + (s - fr) = s by omega]; exact h3
  · unfold ring; rw [if_pos (by omega)]; exact h4 _ (by omega) (by omega)

theorem seek_round {O : Nat → Bool} {slots fr s : Nat} (hf : fr < slots) (g : IsNext O slots fr none) (h : IsNext O slots 0 (some s)) : s < fr ∧ IsSeek O slots fr (some (s + slots - fr)) := by
  obtain ⟨_, h2, h3, h4⟩ := h
  have hs : s < fr := by
    apply Classical.byContradiction; intro hn
    have := g s (by omega) h2; rw [h3] at this; cases this
  refine ⟨hs, by omega, ?_, fun i hi => ?_⟩
  · unfold ring; rw [if_neg (by omega), show fr + (s + slots - fr) - slots = s by omega]; exact h3
  · unfold ring
    split
    · exact g _ (by omega) (by omega)
    · exact h4 _ (by omega) (by omega)

theorem seek_none {O : Nat → Bool} {slots fr : Nat} (h : IsNext O slots 0 none) : IsSeek O slots fr none := fun s hs => h s (by omega) hs

/-- From the slot that was found itself: distance nought. -/
theorem seek_at {O : Nat → Bool} {slots s : Nat} (hs : s < slots) (h : O s = true) : IsSeek O slots s (some 0) := by
  refine ⟨by omega, ?_, fun i hi => by omega⟩
  unfold ring; rw [if_pos (by omega)]; simpa using h

/-- From the next slot: one less. -/
theorem seek_next {O : Nat → Bool} {slots fr k : Nat} (hk : 0 < k) (h : IsSeek O slots fr (some k)) :
    IsSeek O slots (if fr + 1 = slots then 0 else fr + 1) (some (k - 1)) := by
  obtain ⟨h1, h2, h3⟩ := h
  have e : ∀ i, i + 1 < slots → ring slots (if fr + 1 = slots then 0 else fr + 1) i = ring slots fr (i + 1) := by
    intro i hi
    unfold ring
    split <;> split <;> split <;> omega
  refine ⟨by omega, ?_, fun i hi => ?_⟩
  · rw [e _ (by omega), show k - 1 + 1 = k by omega]; exact h2
  · rw [e _ (by omega)]; exact h3 _ (by omega)

/-! ### Words -/

theorem ctz_low {x : Nat} (h0 : x ≠ 0) (h : x < 18446744073709551616) : Lib.ctz 64 x < 64 ∧ x.testBit (Lib.ctz 64 x) = true ∧ ∀ t, t < Lib.ctz 64 x → x.testBit t = false := by
  obtain ⟨m, hm, hk⟩ := Lib.ctzFrom_spec 64 x (by omega) h
  have e : Lib.ctz 64 x = Lib.ctzFrom 64 x := by simp [Lib.ctz, h0]
  rw [e]
  generalize Lib.ctzFrom 64 x = c at *
  subst hm
  refine ⟨hk, ?_, fun t ht => ?_⟩
  · rw [Nat.testBit_two_pow_mul]; simp
  · rw [Nat.testBit_two_pow_mul]; simp; omega

theorem zero_of_bits {x : Nat} (h : x < 18446744073709551616) (hb : ∀ t, t < 64 → x.testBit t = false) : x = 0 := by
  apply Nat.eq_of_testBit_eq
  intro i
  by_cases hi : i < 64
  · rw [hb i hi]; simp
  · rw [Nat.testBit_lt_two_pow (Nat.lt_of_lt_of_le h (Nat.pow_le_pow_right (n := 2) (by decide) (show 64 ≤ i by omega)))]; simp

theorem or_bit (x i t : Nat) : (x ||| 2 ^ i).testBit t = (x.testBit t || decide (t = i)) := by
  rw [Nat.testBit_or, Nat.testBit_two_pow]
  congr 1
  exact decide_eq_decide.2 ⟨fun h => h.symm, fun h => h.symm⟩

theorem or_bit_lt {x i : Nat} (h : x < 18446744073709551616) (hi : i < 64) : x ||| 2 ^ i < 18446744073709551616 :=
  Nat.or_lt_two_pow (n := 64) h (Nat.pow_lt_pow_right (by decide) hi)

theorem mask_bit {x r t : Nat} (hr : r < 64) (ht : t < 64) : (x &&& (18446744073709551615 - (2 ^ r - 1))).testBit t = (x.testBit t && decide (r ≤ t)) := by
  rw [Nat.testBit_and]
  congr 1
  have hp : 2 ^ r ≤ 2 ^ 64 := Nat.pow_le_pow_right (by decide) (by omega)
  have e : 18446744073709551615 - (2 ^ r - 1) = 2 ^ 64 - ((2 ^ r - 1) + 1) := by
    have := Nat.two_pow_pos r; omega
  rw [e, Nat.testBit_two_pow_sub_succ (by have := Nat.two_pow_pos r; omega), Nat.testBit_two_pow_sub_one]
  by_cases h : t < r
  · simp [h, ht]
  · simp [h, ht]; omega

theorem mask_lt {x : Nat} (y : Nat) (h : x < 18446744073709551616) : x &&& y < 18446744073709551616 := Nat.lt_of_le_of_lt Nat.and_le_left h

theorem div_bit (x t : Nat) : x / 2 ^ t % 2 = if x.testBit t then 1 else 0 := by
  rw [Nat.testBit_eq_decide_div_mod_eq]
  have : x / 2 ^ t % 2 < 2 := Nat.mod_lt _ (by decide)
  by_cases h : x / 2 ^ t % 2 = 1
  · simp [h]
  · simp [h]; omega
end Go.Proofs.Qxb6612302aDoor
