/-
  FnIsNameByteCountAndFold, walked: it returns true.
-/
import Derived.Test.Qxb6612443aWalks
namespace Go.Proofs.Qxb6612443a
open Go.RowKit

/-- How many of the bytes below k may stand in a name. -/
def cntB : Nat → Nat
  | 0 => 0
  | k + 1 => cntB k + (if accB k then 1 else 0)

theorem cntB_le : ∀ k, cntB k ≤ k
  | 0 => Nat.le_refl _
  | k + 1 => by
    have := cntB_le k
    unfold cntB
    split <;> omega

theorem cntB_all : cntB 256 = 64 := by decide +kernel

theorem fold (k : Nat) (hk : k < 256) : (accB k = true → k < 128) ∧ k ||| 32 < 256 ∧ k ^^^ 32 < 256 ∧ (97 ≤ k ||| 32 → k ||| 32 ≤ 122 → accB (k ^^^ 32) = accB k) := by
  have h : ∀ k : Fin 256, (accB k.val = true → k.val < 128) ∧ k.val ||| 32 < 256 ∧ k.val ^^^ 32 < 256 ∧ (97 ≤ k.val ||| 32 → k.val ||| 32 ≤ 122 → accB (k.val ^^^ 32) = accB k.val) := by decide +kernel
  exact h ⟨k, hk⟩

/-- The contract at a known answer. -/
theorem name_at (c : Nat) (b : Bool) (h : c < 256) (hb : Hid (accB c = b)) (w : World) : Calls Try.prog 5 #[.int .u8 c] w fun e w' => e = .returned (.bool b) ∧ w' = w := by
  have := name_any c h w
  rwa [hb.out] at this

/-- The loop's head. -/
def CountRel (n i : Value) : Prop := ∃ k : Nat, n = .int .i64 (cntB k : Nat) ∧ i = .int .i64 k ∧ k ≤ 256

/-- The measure. -/
def leftB (i : Value) : Nat := 256 - (intOf i).toNat

theorem leftB_lt {k : Nat} (h : k < 256) : leftB (.int .i64 ((k : Int) + 1)) < leftB (.int .i64 k) := by
  unfold leftB
  simp only [intOf]
  omega

set_option maxHeartbeats 1000000 in
theorem count_any (w : World) : Calls Try.prog 4 #[] w fun e w' => e = .returned (.bool true) ∧ w' = w := by
  go_enter Try.func4, Try.ntmps4
  go_wp2
  go_loop [1, 2] (fun n i => CountRel n i) (fun _ i => leftB i)
  case atStart => exact ⟨0, rfl, rfl, by omega⟩
  case round =>
    obtain ⟨k, rfl, rfl, hk⟩ := hrel
    have hcle := cntB_le k
    by_cases hlt : k < 256
    · obtain ⟨F1, F2, F3, F4⟩ := fold k hlt
      have hor : bits BinOp.or IntKind.u8 (k : Int) 32 = ((k ||| 32 : Nat) : Int) := u8_or_nat k 32 hlt (by decide)
      have hxor : bits BinOp.xor IntKind.u8 (k : Int) 32 = ((k ^^^ 32 : Nat) : Int) := u8_xor_nat k 32 hlt (by decide)
      obtain ⟨n, hn⟩ : ∃ n, n = cntB k := ⟨_, rfl⟩
      have HN : Hid (n = cntB k) := hn
      rw [← hn] at hcle ⊢
      clear hn
      obtain ⟨lo, hlo⟩ : ∃ lo, lo = k ||| 32 := ⟨_, rfl⟩
      obtain ⟨xo, hxo⟩ : ∃ xo, xo = k ^^^ 32 := ⟨_, rfl⟩
      rw [← hlo] at hor F2 F4
      rw [← hxo] at hxor F3 F4
      clear hlo hxo
      have HLT : Hid (k < 256) := hlt
      have HF3 : Hid (xo < 256) := F3
      have hk0 : (k : Int) < 256 := by omega
      have hk1 : (0 : Int) ≤ (k : Int) := by omega
      have hnk : (n : Int) ≤ (k : Int) := by omega
      have HS : Hid (cntB (k + 1) = cntB k + (if accB k then 1 else 0)) := rfl
      rcases hA : accB k with _ | _
      · have HA : Hid (accB k = false) := hA
        have HS' : Hid (cntB (k + 1) = n + 0) := by unfold Hid; rw [HS.out, hA, ← HN.out]; rfl
        have HX : Hid (97 ≤ lo → lo ≤ 122 → accB xo = false) := fun a b => (F4 a b).trans hA
        clear hA F1 F4 F2 F3 hlt hk hcle
        by_cases lo1 : lo < 97
        · have l1 : decide ((97 : Int) ≤ (lo : Int)) = false := decide_eq_false (by omega)
          clear lo1
          go_wp2_with fail
          refine (name_at k _ HLT.out HA _).mono ?_
          rintro e w' ⟨rfl, rfl⟩
          go_wp2_with fail
          go_round
          case rel => exact ⟨k + 1, by rw [HS'.out]; go_num, by go_num, by have := HLT.out; omega⟩
          case measure => exact leftB_lt HLT.out
        by_cases lo2 : lo ≤ 122
        · have l1 : (97 : Int) ≤ (lo : Int) := by omega
          have l2 : (lo : Int) ≤ 122 := by omega
          have HXX : Hid (accB xo = false) := HX.out (by omega) (by omega)
          clear lo1 lo2
          go_wp2_with fail
          refine (name_at k _ HLT.out HA _).mono ?_
          rintro e w' ⟨rfl, rfl⟩
          go_wp2_with fail
          refine (name_at xo _ HF3.out HXX _).mono ?_
          rintro e w' ⟨rfl, rfl⟩
          go_wp2_with fail
          go_round
          case rel => exact ⟨k + 1, by rw [HS'.out]; go_num, by go_num, by have := HLT.out; omega⟩
          case measure => exact leftB_lt HLT.out
        have l1 : (97 : Int) ≤ (lo : Int) := by omega
        have l2 : decide ((lo : Int) ≤ 122) = false := decide_eq_false (by omega)
        clear lo1 lo2
        go_wp2_with fail
        refine (name_at k _ HLT.out HA _).mono ?_
        rintro e w' ⟨rfl, rfl⟩
        go_wp2_with fail
        go_round
        case rel => exact ⟨k + 1, by rw [HS'.out]; go_num, by go_num, by have := HLT.out; omega⟩
        case measure => exact leftB_lt HLT.out
      · have HA : Hid (accB k = true) := hA
        have hk128 : decide ((128 : Int) ≤ (k : Int)) = false := decide_eq_false (by have := F1 hA; omega)
        have HS' : Hid (cntB (k + 1) = n + 1) := by unfold Hid; rw [HS.out, hA, ← HN.out]; rfl
        have HX : Hid (97 ≤ lo → lo ≤ 122 → accB xo = true) := fun a b => (F4 a b).trans hA
        clear hA F1 F4 F2 F3 hlt hk hcle
        by_cases lo1 : lo < 97
        · have l1 : decide ((97 : Int) ≤ (lo : Int)) = false := decide_eq_false (by omega)
          clear lo1
          go_wp2_with fail
          refine (name_at k _ HLT.out HA _).mono ?_
          rintro e w' ⟨rfl, rfl⟩
          go_wp2_with fail
          go_round
          case rel => exact ⟨k + 1, by rw [HS'.out]; go_num, by go_num, by have := HLT.out; omega⟩
          case measure => exact leftB_lt HLT.out
        by_cases lo2 : lo ≤ 122
        · have l1 : (97 : Int) ≤ (lo : Int) := by omega
          have l2 : (lo : Int) ≤ 122 := by omega
          have HXX : Hid (accB xo = true) := HX.out (by omega) (by omega)
          clear lo1 lo2
          go_wp2_with fail
          refine (name_at k _ HLT.out HA _).mono ?_
          rintro e w' ⟨rfl, rfl⟩
          go_wp2_with fail
          refine (name_at xo _ HF3.out HXX _).mono ?_
          rintro e w' ⟨rfl, rfl⟩
          go_wp2_with fail
          go_round
          case rel => exact ⟨k + 1, by rw [HS'.out]; go_num, by go_num, by have := HLT.out; omega⟩
          case measure => exact leftB_lt HLT.out
        have l1 : (97 : Int) ≤ (lo : Int) := by omega
        have l2 : decide ((lo : Int) ≤ 122) = false := decide_eq_false (by omega)
        clear lo1 lo2
        go_wp2_with fail
        refine (name_at k _ HLT.out HA _).mono ?_
        rintro e w' ⟨rfl, rfl⟩
        go_wp2_with fail
        go_round
        case rel => exact ⟨k + 1, by rw [HS'.out]; go_num, by go_num, by have := HLT.out; omega⟩
        case measure => exact leftB_lt HLT.out
    · have hk' : k = 256 := by omega
      have HK : Hid (k = 256) := hk'
      have hge : decide ((k : Int) < 256) = false := decide_eq_false (by omega)
      have h64 : ((cntB k : Int) == 64) = true := by rw [hk', cntB_all]; rfl
      clear hk'
      go_wp2
      go_ret
      exact ⟨rfl, rfl⟩
end Go.Proofs.Qxb6612443a
