/-
  zzProblemsBytes.
-/
import Derived.Test.Qxb6612408aStrs
namespace Go.Proofs.Qxb6612408a
open Go.RowKit

/-- How zzProblemsBytes ends: a number; where it is no greater than 2^20, so is the sum. -/
def ProbEnds (n : Nat) (w : World) (e : Ending) (w' : World) : Prop := ∃ t : Int, e = .returned (.int .i64 t) ∧ (t ≤ 1048576 → n ≤ 1048576) ∧ w' = w

def ProbRel (xs : List ByteArray) (n0 : Nat) (v u : Value) : Prop :=
  ∃ n k : Nat, v = .int .i64 n ∧ u = .int .i64 k ∧ k ≤ xs.length ∧ n = n0 + (16 * k + sz (xs.take k)) ∧ n ≤ 1048576

set_option maxHeartbeats 1000000 in
theorem prob_any (s : ByteArray) (a b : Option Addr) (cap cap' : Nat) (xs ys : List ByteArray) (w : World) (hs : s.size ≤ 1048576) (hl : xs.length ≤ 9223372036854775807) (hl' : ys.length ≤ 9223372036854775807)
    (hx : ∀ x ∈ xs, x.size ≤ 1048576) (hy : ∀ x ∈ ys, x.size ≤ 1048576) (h : StrsIs w a xs) (h' : StrsIs w b ys) :
    Calls Try.prog 9 #[.string s, .slice a xs.length cap, .slice b ys.length cap'] w fun e w' => ProbEnds (s.size + (16 * xs.length + sz xs) + (16 * ys.length + sz ys)) w e w' := by
  have HS : Hid (StrsIs w a xs) := h
  have HT : Hid (StrsIs w b ys) := h'
  have HX : Hid (∀ x ∈ xs, x.size ≤ 1048576) := hx
  have HY : Hid (∀ x ∈ ys, x.size ≤ 1048576) := hy
  have h1' : decide ((1048576 : Int) < (s.size : Int)) = false := decide_eq_false (by omega)
  clear h h' hx hy
  go_enter Try.func9, Try.ntmps9
  go_wp2
  go_loop [7, 8] (fun v u => ProbRel xs (s.size) v u) (fun _ u => xs.length - (intOf u).toNat)
  case atStart => exact ⟨s.size, 0, by first | rfl | go_num, rfl, by omega, by simp [sz], by omega⟩
  case round =>
    obtain ⟨n1, k, rfl, rfl, hk, hn, hnb⟩ := hrel
    have HN : Hid (n1 = s.size + (16 * k + sz (xs.take k))) := hn
    clear hn
    by_cases hlt : k < xs.length
    · obtain ⟨x, hx⟩ : ∃ x, xs[k]? = some x := ⟨_, List.getElem?_eq_getElem hlt⟩
      obtain ⟨b, off, rfl, hc⟩ := HS.out (by omega)
      have hcell := hc k x hx
      have hxs : x.size ≤ 1048576 := HX.out x (List.mem_of_getElem? hx)
      have HST : Hid (sz (xs.take (k + 1)) = sz (xs.take k) + x.size) := sz_take_succ hx
      clear hx hc
      by_cases h9 : 1048576 < n1 + (16 + x.size)
      · have h9' : (1048576 : Int) < (n1 : Int) + (16 + (x.size : Int)) := by omega
        go_wp2
        go_ret
        exact ⟨_, rfl, (fun h => by omega), rfl⟩
      · have h9' : decide ((1048576 : Int) < (n1 : Int) + (16 + (x.size : Int))) = false := decide_eq_false (by omega)
        go_wp2
        go_round
        case rel => exact ⟨n1 + (16 + x.size), k + 1, by go_num, by go_num, by omega, by rw [HST.out, HN.out]; omega, by omega⟩
        case measure => simp [intOf]; omega
    · have hke : k = xs.length := by omega
      have n1E : Hid (n1 = s.size + (16 * xs.length + sz xs)) := by unfold Hid; have e := HN.out; rwa [hke, sz_take_all] at e
      clear hke
      go_wp2
      go_loop [7, 9] (fun v u => ProbRel ys (n1) v u) (fun _ u => ys.length - (intOf u).toNat)
      case atStart => exact ⟨n1, 0, by first | rfl | go_num, rfl, by omega, by simp [sz], by omega⟩
      case round =>
        obtain ⟨n2, k, rfl, rfl, hk, hn, hnb⟩ := hrel
        have HN : Hid (n2 = n1 + (16 * k + sz (ys.take k))) := hn
        clear hn
        by_cases hlt : k < ys.length
        · obtain ⟨x, hx⟩ : ∃ x, ys[k]? = some x := ⟨_, List.getElem?_eq_getElem hlt⟩
          obtain ⟨b, off, rfl, hc⟩ := HT.out (by omega)
          have hcell := hc k x hx
          have hxs : x.size ≤ 1048576 := HY.out x (List.mem_of_getElem? hx)
          have HST : Hid (sz (ys.take (k + 1)) = sz (ys.take k) + x.size) := sz_take_succ hx
          clear hx hc
          by_cases h9 : 1048576 < n2 + (16 + x.size)
          · have h9' : (1048576 : Int) < (n2 : Int) + (16 + (x.size : Int)) := by omega
            go_wp2
            go_ret
            exact ⟨_, rfl, (fun h => by omega), rfl⟩
          · have h9' : decide ((1048576 : Int) < (n2 : Int) + (16 + (x.size : Int))) = false := decide_eq_false (by omega)
            go_wp2
            go_round
            case rel => exact ⟨n2 + (16 + x.size), k + 1, by go_num, by go_num, by omega, by rw [HST.out, HN.out]; omega, by omega⟩
            case measure => simp [intOf]; omega
        · have hke : k = ys.length := by omega
          have n2E : Hid (n2 = n1 + (16 * ys.length + sz ys)) := by unfold Hid; have e := HN.out; rwa [hke, sz_take_all] at e
          clear hke
          go_wp2
          go_ret
          refine ⟨_, rfl, fun _ => ?_, rfl⟩
          have e1 := n1E.out
          have e2 := n2E.out
          omega
end Go.Proofs.Qxb6612408a
