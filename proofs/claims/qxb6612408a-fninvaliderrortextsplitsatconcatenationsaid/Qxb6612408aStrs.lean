/-
  Slices of strings that the call reads; the two bounds on total length (zzBytes_.., zzProblemsBytes).
-/
import Derived.Test.Qxb6612408aRows
import Derived.WalkKit
import Derived.WalkSpells
import Derived.WalkLawsBesides
import Derived.RowKit3
namespace Go.Proofs.Qxb6612408a
open Go.RowKit

/-- The strings xs lie at a. -/
def StrsIs (w : World) (a : Option Addr) (xs : List ByteArray) : Prop :=
  0 < xs.length → ∃ b off, a = some ⟨b, off, none⟩ ∧ ∀ j x, xs[j]? = some x → w.cell? ⟨b, off + j, none⟩ = some (.string x)

/-- The sum of the sizes. -/
def sz (xs : List ByteArray) : Nat := (xs.map ByteArray.size).sum

theorem sz_take_succ {xs : List ByteArray} {k : Nat} {x : ByteArray} (h : xs[k]? = some x) : sz (xs.take (k + 1)) = sz (xs.take k) + x.size := by
  unfold sz
  rw [List.take_add_one, h]
  simp

theorem sz_take_all (xs : List ByteArray) : sz (xs.take xs.length) = sz xs := by rw [List.take_length]

/-- How zzBytes_.. ends. -/
def BytesEnds (n : Nat) (w : World) (e : Ending) (w' : World) : Prop := ∃ r : Bool, e = .returned (.bool r) ∧ (r = true → n ≤ 1048576) ∧ w' = w

/-- Its loop's head: n0: what was there before the strings. -/
def BytesRel (xs : List ByteArray) (n0 : Nat) (v u : Value) : Prop :=
  ∃ n k : Nat, v = .int .i64 n ∧ u = .int .i64 k ∧ k ≤ xs.length ∧ n = n0 + sz (xs.take k) ∧ n ≤ 1048576

set_option maxHeartbeats 400000 in
theorem bytes8 (s : ByteArray) (a : Option Addr) (cap : Nat) (xs : List ByteArray) (w : World) (hl : xs.length ≤ 9223372036854775807) (h : StrsIs w a xs) :
    Calls Try.prog 8 #[.string s, .slice a xs.length cap] w fun e w' => BytesEnds (s.size + xs.length + sz xs) w e w' := by
  have HS : Hid (StrsIs w a xs) := h
  clear h
  by_cases h1 : 1048576 < s.size
  · have h1' : (1048576 : Int) < (s.size : Int) := by omega
    go_enter Try.func8, Try.ntmps8
    go_wp2
    go_ret
    exact ⟨false, rfl, (fun h => by cases h), rfl⟩
  have h1' : decide ((1048576 : Int) < (s.size : Int)) = false := decide_eq_false (by omega)
  by_cases h2 : 1048576 < xs.length
  · have h2' : (1048576 : Int) < (xs.length : Int) := by omega
    go_enter Try.func8, Try.ntmps8
    go_wp2
    go_ret
    exact ⟨false, rfl, (fun h => by cases h), rfl⟩
  have h2' : decide ((1048576 : Int) < (xs.length : Int)) = false := decide_eq_false (by omega)
  by_cases h3 : 1048576 < s.size + xs.length
  · have h3' : (1048576 : Int) < (s.size : Int) + (xs.length : Int) := by omega
    go_enter Try.func8, Try.ntmps8
    go_wp2
    go_ret
    exact ⟨false, rfl, (fun h => by cases h), rfl⟩
  have h3' : decide ((1048576 : Int) < (s.size : Int) + (xs.length : Int)) = false := decide_eq_false (by omega)
  go_enter Try.func8, Try.ntmps8
  go_wp2
  go_loop [5, 6] (fun v u => BytesRel xs (s.size + xs.length) v u) (fun _ u => xs.length - (intOf u).toNat)
  case atStart => exact ⟨s.size + xs.length, 0, by go_num, rfl, by omega, by simp [sz], by omega⟩
  case round =>
    obtain ⟨n, k, rfl, rfl, hk, hn, hnb⟩ := hrel
    have HN : Hid (n = s.size + xs.length + sz (xs.take k)) := hn
    clear hn
    by_cases hlt : k < xs.length
    · obtain ⟨x, hx⟩ : ∃ x, xs[k]? = some x := ⟨_, List.getElem?_eq_getElem hlt⟩
      obtain ⟨b, off, rfl, hc⟩ := HS.out (by omega)
      have hcell := hc k x hx
      have HST : Hid (sz (xs.take (k + 1)) = sz (xs.take k) + x.size) := sz_take_succ hx
      clear hx hc
      by_cases h4 : 1048576 < x.size
      · have h4' : (1048576 : Int) < (x.size : Int) := by omega
        go_wp2
        go_ret
        exact ⟨false, rfl, (fun h => by cases h), rfl⟩
      · have h4' : decide ((1048576 : Int) < (x.size : Int)) = false := decide_eq_false (by omega)
        by_cases h5 : 1048576 < n + x.size
        · have h5' : (1048576 : Int) < (n : Int) + (x.size : Int) := by omega
          go_wp2
          go_ret
          exact ⟨false, rfl, (fun h => by cases h), rfl⟩
        · have h5' : decide ((1048576 : Int) < (n : Int) + (x.size : Int)) = false := decide_eq_false (by omega)
          go_wp2
          go_round
          case rel => exact ⟨n + x.size, k + 1, by go_num, by go_num, by omega, by rw [HST.out, HN.out]; omega, by omega⟩
          case measure => simp [intOf]; omega
    · go_wp2
      go_ret
      refine ⟨true, rfl, fun _ => ?_, rfl⟩
      have e := HN.out
      rw [show k = xs.length by omega, sz_take_all] at e
      omega
/-! ### The second -/
set_option maxHeartbeats 1000000 in
theorem bytes11 (s : ByteArray) (a b : Option Addr) (cap cap' : Nat) (xs ys : List ByteArray) (w : World) (hl : xs.length ≤ 9223372036854775807) (hl' : ys.length ≤ 9223372036854775807) (h : StrsIs w a xs) (h' : StrsIs w b ys) :
    Calls Try.prog 11 #[.string s, .slice a xs.length cap, .slice b ys.length cap'] w fun e w' => BytesEnds (s.size + xs.length + sz xs + ys.length + sz ys) w e w' := by
  have HS : Hid (StrsIs w a xs) := h
  have HT : Hid (StrsIs w b ys) := h'
  clear h h'
  by_cases h1 : 1048576 < s.size
  · have h1' : (1048576 : Int) < (s.size : Int) := by omega
    go_enter Try.func11, Try.ntmps11
    go_wp2
    go_ret
    exact ⟨false, rfl, (fun h => by cases h), rfl⟩
  have h1' : decide ((1048576 : Int) < (s.size : Int)) = false := decide_eq_false (by omega)
  by_cases h2 : 1048576 < xs.length
  · have h2' : (1048576 : Int) < (xs.length : Int) := by omega
    go_enter Try.func11, Try.ntmps11
    go_wp2
    go_ret
    exact ⟨false, rfl, (fun h => by cases h), rfl⟩
  have h2' : decide ((1048576 : Int) < (xs.length : Int)) = false := decide_eq_false (by omega)
  by_cases h3 : 1048576 < s.size + xs.length
  · have h3' : (1048576 : Int) < (s.size : Int) + (xs.length : Int) := by omega
    go_enter Try.func11, Try.ntmps11
    go_wp2
    go_ret
    exact ⟨false, rfl, (fun h => by cases h), rfl⟩
  have h3' : decide ((1048576 : Int) < (s.size : Int) + (xs.length : Int)) = false := decide_eq_false (by omega)
  go_enter Try.func11, Try.ntmps11
  go_wp2
  go_loop [7, 8] (fun v u => BytesRel xs (s.size + xs.length) v u) (fun _ u => xs.length - (intOf u).toNat)
  case atStart => exact ⟨s.size + xs.length, 0, by go_num, rfl, by omega, by simp [sz], by omega⟩
  case round =>
    obtain ⟨n, k, rfl, rfl, hk, hn, hnb⟩ := hrel
    have HN : Hid (n = s.size + xs.length + sz (xs.take k)) := hn
    clear hn
    by_cases hlt : k < xs.length
    · obtain ⟨x, hx⟩ : ∃ x, xs[k]? = some x := ⟨_, List.getElem?_eq_getElem hlt⟩
      obtain ⟨b, off, rfl, hc⟩ := HS.out (by omega)
      have hcell := hc k x hx
      have HST : Hid (sz (xs.take (k + 1)) = sz (xs.take k) + x.size) := sz_take_succ hx
      clear hx hc
      by_cases h8 : 1048576 < x.size
      · have h8' : (1048576 : Int) < (x.size : Int) := by omega
        go_wp2
        go_ret
        exact ⟨false, rfl, (fun h => by cases h), rfl⟩
      · have h8' : decide ((1048576 : Int) < (x.size : Int)) = false := decide_eq_false (by omega)
        by_cases h9 : 1048576 < n + x.size
        · have h9' : (1048576 : Int) < (n : Int) + (x.size : Int) := by omega
          go_wp2
          go_ret
          exact ⟨false, rfl, (fun h => by cases h), rfl⟩
        · have h9' : decide ((1048576 : Int) < (n : Int) + (x.size : Int)) = false := decide_eq_false (by omega)
          go_wp2
          go_round
          case rel => exact ⟨n + x.size, k + 1, by go_num, by go_num, by omega, by rw [HST.out, HN.out]; omega, by omega⟩
          case measure => simp [intOf]; omega
    · have hke : k = xs.length := by omega
      have HNE : Hid (n = s.size + xs.length + sz xs) := by unfold Hid; have e := HN.out; rwa [hke, sz_take_all] at e
      clear hke
      obtain ⟨n1, hm⟩ : ∃ n1, n1 = n := ⟨_, rfl⟩
      subst hm
      by_cases h4 : 1048576 < ys.length
      · have h4' : (1048576 : Int) < (ys.length : Int) := by omega
        go_wp2
        go_ret
        exact ⟨false, rfl, (fun h => by cases h), rfl⟩
      have h4' : decide ((1048576 : Int) < (ys.length : Int)) = false := decide_eq_false (by omega)
      by_cases h5 : 1048576 < n1 + ys.length
      · have h5' : (1048576 : Int) < (n1 : Int) + (ys.length : Int) := by omega
        go_wp2
        go_ret
        exact ⟨false, rfl, (fun h => by cases h), rfl⟩
      have h5' : decide ((1048576 : Int) < (n1 : Int) + (ys.length : Int)) = false := decide_eq_false (by omega)
      go_wp2
      go_loop [7, 9] (fun v u => BytesRel ys (n1 + ys.length) v u) (fun _ u => ys.length - (intOf u).toNat)
      case atStart => exact ⟨n1 + ys.length, 0, by go_num, rfl, by omega, by simp [sz], by omega⟩
      case round =>
        obtain ⟨n, k, rfl, rfl, hk, hn, hnb⟩ := hrel
        have HN : Hid (n = n1 + ys.length + sz (ys.take k)) := hn
        clear hn
        by_cases hlt : k < ys.length
        · obtain ⟨x, hx⟩ : ∃ x, ys[k]? = some x := ⟨_, List.getElem?_eq_getElem hlt⟩
          obtain ⟨b, off, rfl, hc⟩ := HT.out (by omega)
          have hcell := hc k x hx
          have HST : Hid (sz (ys.take (k + 1)) = sz (ys.take k) + x.size) := sz_take_succ hx
          clear hx hc
          by_cases h8 : 1048576 < x.size
          · have h8' : (1048576 : Int) < (x.size : Int) := by omega
            go_wp2
            go_ret
            exact ⟨false, rfl, (fun h => by cases h), rfl⟩
          · have h8' : decide ((1048576 : Int) < (x.size : Int)) = false := decide_eq_false (by omega)
            by_cases h9 : 1048576 < n + x.size
            · have h9' : (1048576 : Int) < (n : Int) + (x.size : Int) := by omega
              go_wp2
              go_ret
              exact ⟨false, rfl, (fun h => by cases h), rfl⟩
            · have h9' : decide ((1048576 : Int) < (n : Int) + (x.size : Int)) = false := decide_eq_false (by omega)
              go_wp2
              go_round
              case rel => exact ⟨n + x.size, k + 1, by go_num, by go_num, by omega, by rw [HST.out, HN.out]; omega, by omega⟩
              case measure => simp [intOf]; omega
        · have hke : k = ys.length := by omega
          have HNF : Hid (n = n1 + ys.length + sz ys) := by unfold Hid; have e := HN.out; rwa [hke, sz_take_all] at e
          clear hke
          go_wp2
          go_ret
          refine ⟨true, rfl, fun _ => ?_, rfl⟩
          have e1 := HNE.out
          have e3 := HNF.out
          omega
end Go.Proofs.Qxb6612408a
