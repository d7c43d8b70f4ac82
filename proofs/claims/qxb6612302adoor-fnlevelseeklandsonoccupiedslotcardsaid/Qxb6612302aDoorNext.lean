/-
  math/bits.TrailingZeros64, nextSet, zzOccupied: what they compute, over words that lie in memory.
-/
import Derived.Test.Qxb6612302aDoorRows
import Derived.Test.Qxb6612302aDoorPlain
import Derived.WalkKit
import Derived.WalkSpells
import Derived.WalkLawsBesides
import Derived.RowKit3
namespace Go.Proofs.Qxb6612302aDoor
open Go.RowKit

/-- The de Bruijn table lies in its variable. -/
def TabHere (w : World) : Prop := ∀ j, j < 64 → w.cell? ⟨0, j, none⟩ = some (.int .u8 (Lib.deBruijn64tab.getD j 0))

theorem tz_key (x a : Nat) (hx : x < 18446744073709551616) (hx0 : x ≠ 0) (hlow : x &&& (18446744073709551616 - x) = a) :
    IntKind.u64.wrap (bits BinOp.and IntKind.u64 (x : Int) (IntKind.u64.wrap (-(x : Int))) * 285870213051353865) / 288230376151711744 = ((a * 285870213051353865 % 18446744073709551616 / 288230376151711744 : Nat) : Int) := by
  have e1 : IntKind.u64.wrap (-(x : Int)) = ((18446744073709551616 - x : Nat) : Int) := by rw [IntKind.wrap_u64]; omega
  rw [e1, bits_and_u64_nat x _ hx (by omega), hlow, IntKind.wrap_u64]
  omega

set_option maxHeartbeats 400000 in
theorem tz_core (x k idx : Nat) (w : World) (hx0 : ((x : Int) == 0) = false)
    (key : IntKind.u64.wrap (bits BinOp.and IntKind.u64 (x : Int) (IntKind.u64.wrap (-(x : Int))) * 285870213051353865) / 288230376151711744 = (idx : Int))
    (hi : idx < 64) (hk : k < 64) (hcell : w.cell? ⟨0, idx, none⟩ = some (.int .u8 k)) :
    Calls Tryd.prog 17 #[.int .u64 x] w fun e w' => e = .returned (.int .i64 k) ∧ w' = w := by
  go_enter Tryd.func17, Tryd.ntmps17
  go_wp2_with (simp only [key])
  go_ret
  exact ⟨rfl, rfl⟩

/-- TrailingZeros64 of a word that is not nought: its lowest bit. -/
theorem tz_any (x : Nat) (h0 : x ≠ 0) (hx : x < 18446744073709551616) : ∃ c : Nat, c < 64 ∧ x.testBit c = true ∧ (∀ t, t < c → x.testBit t = false) ∧
    ∀ (w : World), TabHere w → Calls Tryd.prog 17 #[.int .u64 x] w fun e w' => e = .returned (.int .i64 c) ∧ w' = w := by
  obtain ⟨g1, g2, g3⟩ := ctz_low h0 hx
  refine ⟨Lib.ctz 64 x, g1, g2, g3, fun w hT => ?_⟩
  obtain ⟨hlow, hk⟩ := Lib.lowest_bit 64 x h0 hx
  obtain ⟨hi, htab⟩ := Lib.deBruijn64_at _ hk
  have hcell := hT _ hi
  rw [htab] at hcell
  exact tz_core x _ _ w (by simp; omega) (tz_key x _ hx h0 hlow) hi hk hcell

/-- Words at ⟨b, off⟩ ..: 'len' of them; bit t of word j is f (64 j + t). -/
def BitsAt (w : World) (b off len : Nat) (f : Nat → Bool) : Prop :=
  ∀ j, j < len → ∃ x : Nat, x < 18446744073709551616 ∧ w.cell? ⟨b, off + j, none⟩ = some (.int .u64 x) ∧ ∀ t, t < 64 → x.testBit t = f (64 * j + t)

/-- What nextSet, first, seek hand back. -/
def retOf : Option Nat → Value
  | some j => .tuple #[.int .u64 j, .bool true]
  | none => .tuple #[.int .u64 0, .bool false]

theorem ret_bool {a b : Bool} (h : a = b) : Ending.returned (.bool a) = .returned (.bool b) := by rw [h]

theorem shr_bit (x t : Nat) (hx : x < 18446744073709551616) : (bits BinOp.and IntKind.u64 ((x : Int) / 2 ^ t) 1 == 1) = x.testBit t := by
  have e : (x : Int) / 2 ^ t = ((x / 2 ^ t : Nat) : Int) := by simp
  have hlt : x / 2 ^ t < 18446744073709551616 := Nat.lt_of_le_of_lt (Nat.div_le_self _ _) hx
  have h1 := u64_and_nat (x / 2 ^ t) 1 hlt (by decide)
  rw [Nat.and_one_is_mod, div_bit] at h1
  rw [e]
  have h2 : bits BinOp.and IntKind.u64 ((x / 2 ^ t : Nat) : Int) 1 = bits BinOp.and IntKind.u64 ((x / 2 ^ t : Nat) : Int) ((1 : Nat) : Int) := rfl
  rw [h2, h1]
  cases x.testBit t <;> rfl

theorem ret_some {a : Int} {j : Nat} (h : a = j) : Ending.returned (.tuple #[.int .u64 a, .bool true]) = .returned (retOf (some j)) := by rw [h]; rfl

set_option maxHeartbeats 400000 in
theorem occ_out (a : Option Addr) (len cap s : Nat) (hs : s < 18446744073709551616) (hl : len ≤ 131072) (h : len ≤ s / 64) (w : World) :
    Calls Tryd.prog 12 #[.slice a len cap, .int .u64 s] w fun e w' => e = .returned (.bool false) ∧ w' = w := by
  have hd : decide ((s : Int) / 64 < (len : Int)) = false := decide_eq_false (by omega)
  go_enter Tryd.func12, Tryd.ntmps12
  go_wp2
  go_ret
  exact ⟨rfl, rfl⟩

set_option maxHeartbeats 400000 in
theorem occ_in (b off len cap s x : Nat) (hx : x < 18446744073709551616) (hs : s < 18446744073709551616) (hl : len ≤ 131072) (h : s / 64 < len) (w : World) (hc : w.cell? ⟨b, off + s / 64, none⟩ = some (.int .u64 x)) :
    Calls Tryd.prog 12 #[.slice (some ⟨b, off, none⟩) len cap, .int .u64 s] w fun e w' => e = .returned (.bool (x.testBit (s % 64))) ∧ w' = w := by
  have hd : (s : Int) / 64 < (len : Int) := by omega
  go_enter Tryd.func12, Tryd.ntmps12
  go_wp2
  go_ret
  exact ⟨ret_bool (shr_bit x (s % 64) hx), rfl⟩

theorem first_word (x r : Nat) (hx : x < 18446744073709551616) (hr : r < 64) :
    bits BinOp.andNot IntKind.u64 (x : Int) (IntKind.u64.wrap (IntKind.u64.wrap (2 ^ r) - 1)) = ((x &&& (18446744073709551615 - (2 ^ r - 1)) : Nat) : Int) := by
  have hp : 2 ^ r < 2 ^ 64 := Nat.pow_lt_pow_right (by decide) hr
  have h1 : 1 ≤ 2 ^ r := Nat.two_pow_pos r
  have e : IntKind.u64.wrap (IntKind.u64.wrap (2 ^ r) - 1) = ((2 ^ r - 1 : Nat) : Int) := by
    have c : ((2 : Int) ^ r) = ((2 ^ r : Nat) : Int) := by simp
    rw [c]
    generalize (2 : Nat) ^ r = m at *
    rw [IntKind.wrap_u64, IntKind.wrap_u64]
    omega
  rw [e, u64_andNot_nat _ _ hx (by omega)]

/-- A word without a bit: nothing at or above fr as far as its end. -/
theorem none_in_word {f : Nat → Bool} {fr k : Nat} (h : ∀ t, t < 64 → (0 : Nat).testBit t = (f (64 * k + t) && decide (fr ≤ 64 * k + t))) (hb : ∀ j, fr ≤ j → j < 64 * k → f j = false) :
    ∀ j, fr ≤ j → j < 64 * (k + 1) → f j = false := by
  intro j h1 h2
  by_cases hj : j < 64 * k
  · exact hb j h1 hj
  · have := h (j - 64 * k) (by omega)
    rw [show 64 * k + (j - 64 * k) = j by omega] at this
    simp [h1] at this
    exact this

/-- The loop's head in nextSet: word k holds the bits at or above fr; below it there is none. -/
def NextRel (f : Nat → Bool) (len fr : Nat) (i y : Value) : Prop :=
  ∃ k x : Nat, i = .int .u64 k ∧ y = .int .u64 x ∧ k < len ∧ fr < 64 * (k + 1) ∧ x < 18446744073709551616 ∧ (∀ t, t < 64 → x.testBit t = (f (64 * k + t) && decide (fr ≤ 64 * k + t))) ∧ ∀ j, fr ≤ j → j < 64 * k → f j = false

set_option maxHeartbeats 400000 in
theorem next_any (b len fr : Nat) (f : Nat → Bool) (hl : len ≤ 131072) (hf : fr < 1099511627776) (w : World) (hT : TabHere w) (hB : BitsAt w b 0 len f) :
    Calls Tryd.prog 16 #[.slice (some ⟨b, 0, none⟩) len len, .int .u64 fr] w fun e w' => ∃ r, e = .returned (retOf r) ∧ IsNext f (64 * len) fr r ∧ w' = w := by
  by_cases hin : len ≤ fr / 64
  · have hd : (len : Int) ≤ (fr : Int) / 64 := by omega
    go_enter Tryd.func16, Tryd.ntmps16
    go_wp2
    go_ret2
    exact ⟨none, rfl, fun i h1 h2 => by omega, rfl⟩
  · have hd : (fr : Int) / 64 < (len : Int) := by omega
    obtain ⟨x, hx, hc, hbits⟩ := hB (fr / 64) (by omega)
    simp only [Nat.zero_add] at hc
    go_enter Tryd.func16, Tryd.ntmps16
    go_wp2
    go_loop [6, 7] (fun i y => NextRel f len fr i y) (fun i _ => len - (intOf i).toNat)
    case atStart =>
      refine ⟨fr / 64, x &&& (18446744073709551615 - (2 ^ (fr % 64) - 1)), by simp, by rw [first_word x (fr % 64) hx (by omega)], by omega, by omega, mask_lt _ hx, fun t ht => ?_, fun j h1 h2 => by omega⟩
      rw [mask_bit (by omega) ht, hbits t ht]
      congr 1
      exact decide_eq_decide.2 (by omega)
    case round =>
      obtain ⟨k, y, rfl, rfl, hk, hfk, hy, hyb, hbelow⟩ := hrel
      clear hc hbits hx hd hin
      by_cases hy0 : y = 0
      · subst hy0
        have hz : ∀ j, fr ≤ j → j < 64 * (k + 1) → f j = false := none_in_word hyb hbelow
        by_cases hlast : k + 1 = len
        · have hE : ((k : Int) + 1 == (len : Int)) = true := by simp; omega
          clear hB
          go_wp2
          go_ret2
          exact ⟨none, rfl, fun i h1 h2 => hz i h1 (by omega), rfl⟩
        · have hE : ((k : Int) + 1 == (len : Int)) = false := by simp; omega
          have hlt : k + 1 < len := by omega
          obtain ⟨z, hz1, hz2, hz3⟩ := hB (k + 1) hlt
          simp only [Nat.zero_add] at hz2
          have HB : Hid (BitsAt w b 0 len f) := hB
          clear hB
          go_wp2
          go_round
          case rel =>
            refine ⟨k + 1, z, by go_num, rfl, hlt, by omega, hz1, fun t ht => ?_, hz⟩
            rw [hz3 t ht, decide_eq_true (by omega), Bool.and_true]
          case measure => simp [intOf]; omega
      · have hE : ((y : Int) == 0) = false := by simp; omega
        obtain ⟨c, c1, c2, c3, hcall⟩ := tz_any y hy0 hy
        have HC : Hid (∀ (w : World), TabHere w → Calls Tryd.prog 17 #[.int .u64 y] w fun e w' => e = .returned (.int .i64 c) ∧ w' = w) := hcall
        have H2 : Hid (y.testBit c = true) := c2
        clear hcall c2 hB
        go_wp2_with (go_at_call 17; refine (HC.out _ hT).mono ?_; rintro e w' ⟨rfl, rfl⟩)
        go_ret2
        have h2 := H2.out
        rw [hyb c c1] at h2
        simp only [Bool.and_eq_true, decide_eq_true_eq] at h2
        refine ⟨some (64 * k + c), ret_some (by omega), ⟨h2.2, by omega, h2.1, fun i h3 h4 => ?_⟩, rfl⟩
        by_cases hi : i < 64 * k
        · exact hbelow i h3 hi
        · have := hyb (i - 64 * k) (by omega)
          rw [c3 _ (by omega), show 64 * k + (i - 64 * k) = i by omega] at this
          simp [h3] at this
          exact this
end Go.Proofs.Qxb6612302aDoor
