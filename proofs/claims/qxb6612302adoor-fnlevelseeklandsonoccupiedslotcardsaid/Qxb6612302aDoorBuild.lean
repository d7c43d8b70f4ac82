/-
  zzBuildPages, walked.
-/
import Derived.Test.Qxb6612302aDoorMem
import Derived.Test.Qxb6612302aDoorAny
namespace Go.Proofs.Qxb6612302aDoor
open Go.RowKit

theorem Tryd.info35 : (Tryd.prog.info? 35).map (fun i => (i.zero, i.size, i.bytes)) = some (some (.pointer none), 1, 8) := by kernel_rfl
theorem Tryd.info22 : (Tryd.prog.info? 22).map (fun i => (i.zero, i.size, i.bytes)) = some (some (.int .u64 0), 1, 8) := by kernel_rfl

theorem or_word (x r : Nat) (hx : x < 18446744073709551616) (hr : r < 64) : bits BinOp.or IntKind.u64 (x : Int) (IntKind.u64.wrap (2 ^ r)) = ((x ||| 2 ^ r : Nat) : Int) := by
  have hp : 2 ^ r < 2 ^ 64 := Nat.pow_lt_pow_right (by decide) hr
  have e : IntKind.u64.wrap (2 ^ r) = ((2 ^ r : Nat) : Int) := by
    have c : ((2 : Int) ^ r) = ((2 ^ r : Nat) : Int) := by simp
    rw [c]
    generalize (2 : Nat) ^ r = m at *
    rw [IntKind.wrap_u64]
    omega
  rw [e, u64_or_nat _ _ hx (by omega)]

theorem nil_eql (W : World) : (binOp .eql 23 (.slice none 0 0) (.slice none 0 0)).run Tryd.prog W = .ok (.bool true) W := Lib.run_eql_slice_nil W _ _ none 0 0 0 0 Tryd.underlying23
theorem some_eql (W : World) (a : Addr) (n c : Nat) : (binOp .eql 23 (.slice (some a) n c) (.slice none 0 0)).run Tryd.prog W = .ok (.bool false) W := Lib.run_eql_slice_nil W _ _ (some a) n c 0 0 Tryd.underlying23

theorem make_words (n : Int) (L : Nat) (h : n = (L : Int)) (hL : L ≤ 64) (W : World) :
    (Instr.makeSlice 23 (.int .u64 n) (.int .u64 n)).run Tryd.prog W = .ok (.slice (some ⟨W.heap.size, 0, none⟩) L L) (W.alloc (.cells (madeCells #[.int .u64 0] L) 22)) := by
  subst h
  exact run_make_row' (P := Tryd.prog) 23 22 (.int .u64 0) 8 Tryd.underlying23 Tryd.info22 rfl .u64 .u64 L (by omega) (by omega) W

theorem words_first_set {w1 : World} {L q k : Nat} {f : Nat → Bool} (hk : k / 64 < L) (hn : ∀ t, t < k → f (4096 * q + t) = false) (h : f (4096 * q + k) = true) :
    Words w1 (w1.alloc (.cells ((madeCells #[.int .u64 0] L).setIfInBounds (k / 64) (.int .u64 (bits BinOp.or IntKind.u64 0 (IntKind.u64.wrap (2 ^ (k % 64)))))) 22)) L (fun t => decide (t < k + 1) && f (4096 * q + t)) := by
  have e : bits BinOp.or IntKind.u64 0 (IntKind.u64.wrap (2 ^ (k % 64))) = ((0 ||| 2 ^ (k % 64) : Nat) : Int) := or_word 0 (k % 64) (by decide) (by omega)
  have hc : (w1.alloc (.cells (madeCells #[.int .u64 0] L) 22)).cell? ⟨w1.heap.size, k / 64, none⟩ = some (.int .u64 ((0 : Nat) : Int)) := by
    rw [World.cell?_alloc_at _ _ _ _ rfl, made_at _ _ _ hk]; rfl
  have g := words_set (words_first (w1 := w1) (L := L) 22 hn) h hc
  rw [World.setCell_alloc_at _ _ _ _ _ rfl] at g
  rw [e]
  exact g

theorem some_on {g : Nat → Bool} {k : Nat} (h : ∃ t, t < k ∧ g t = true) : ∃ t, t < k + 1 ∧ g t = true := by
  obtain ⟨t, h1, h2⟩ := h
  exact ⟨t, by omega, h2⟩

/-- The outer loop's head. -/
def OuterRel (w : World) (slots : Nat) (O U : Nat → Bool) (v u : Value) (wr : World) : Prop :=
  ∃ t q : Nat, v = .int .i64 t ∧ u = .int .u64 q ∧ q ≤ npages slots ∧ t ≤ 4096 * q ∧ (t = 0 → ∀ p, p < q → U p = false) ∧ Built w wr slots q O U

/-- The inner loop's head: page q, from the world w1 on. -/
def InnerRel (w1 : World) (q m L : Nat) (f : Nat → Bool) (v c i : Value) (wr : World) : Prop :=
  ∃ k n : Nat, i = .int .u64 k ∧ c = .int .i64 n ∧ k ≤ m ∧ n ≤ k ∧
    ((v = .slice none 0 0 ∧ n = 0 ∧ w1 = wr ∧ ∀ t, t < k → f (4096 * q + t) = false) ∨
     (v = .slice (some ⟨w1.heap.size, 0, none⟩) L L ∧ 1 ≤ n ∧ Words w1 wr L (fun t => decide (t < k) && f (4096 * q + t)) ∧ ∃ t, t < k ∧ f (4096 * q + t) = true))

/-- How zzBuildPages ends. -/
def BuildEnds (w : World) (slots : Nat) (O U : Nat → Bool) (e : Ending) (w' : World) : Prop :=
  ∃ t : Nat, e = .returned (.tuple #[.slice (some ⟨w.heap.size, 0, none⟩) (npages slots) (npages slots), .slice (some ⟨w.heap.size + 1, 0, none⟩) (nused slots) (nused slots), .int .i64 t]) ∧
    t ≤ 268435456 ∧ (t = 0 → ∀ p, p < npages slots → U p = false) ∧ Built w w' slots (npages slots) O U

set_option maxHeartbeats 2000000 in
set_option maxRecDepth 200000 in
theorem build_any (a : Option Addr) (len cap slots : Nat) (f U : Nat → Bool) (hl : len ≤ 131072) (h0 : 0 < slots) (hsl : slots ≤ 268435456) (hF : Fits slots (occOf slots f) U) (w : World) (h : OccIs w a len f) :
    Calls Tryd.prog 6 #[.int .u64 slots, .slice a len cap] w fun e w' => BuildEnds w slots (occOf slots f) U e w' := by
  have HO : Hid (OccIs w a len f) := h
  have HF : Hid (Fits slots (occOf slots f) U) := hF
  clear h hF
  have b1 := npages_le hsl
  have b2 := nused_le hsl
  have E1 : ((slots : Int) + 4096 - 1) / 4096 = ((npages slots : Nat) : Int) := by unfold npages; omega
  have E2 : (((npages slots : Nat) : Int) + 63) / 64 = ((nused slots : Nat) : Int) := by unfold nused; omega
  have mk1 := run_make_row' (P := Tryd.prog) 25 35 (.pointer none) 8 Tryd.underlying25 Tryd.info35 rfl .u64 .u64 (npages slots) (by omega) (by omega)
  have mk2 := run_make_row' (P := Tryd.prog) 23 22 (.int .u64 0) 8 Tryd.underlying23 Tryd.info22 rfl .u64 .u64 (nused slots) (by omega) (by omega)
  go_enter Tryd.func6, Tryd.ntmps6
  go_wp2
  have HE1 : Hid (((slots : Int) + 4096 - 1) / 4096 = ((npages slots : Nat) : Int)) := E1
  clear E1 E2 mk1 mk2
  go_loopw [10, 11] (fun v u wr => OuterRel w slots (occOf slots f) U v u wr) (fun _ u _ => npages slots - (intOf u).toNat)
  case atStart => exact ⟨0, 0, rfl, rfl, by omega, by omega, fun _ p hp => by omega, Built.start w slots 35 22 _ U⟩
  case round =>
    obtain ⟨t, q, rfl, rfl, hq, ht, hz, hB⟩ := hrel
    obtain ⟨w1, hw1⟩ : ∃ w1, w1 = wr := ⟨wr, rfl⟩
    subst hw1
    have HZ : Hid (t = 0 → ∀ p, p < q → U p = false) := hz
    have HB : Hid (Built w w1 slots q (occOf slots f) U) := hB
    clear hz hB
    by_cases hlt : q < npages slots
    · have hlt' : (q : Int) < ((slots : Int) + 4096 - 1) / 4096 := by rw [HE1.out]; omega
      obtain ⟨m, hmm⟩ : ∃ m : Nat, m = min (slots - 4096 * q) 4096 := ⟨_, rfl⟩
      have HMM : Hid (m = min (slots - 4096 * q) 4096) := hmm
      have HLM : Hid ((m + 63) / 64 = pwords slots q) := by unfold pwords Hid; rw [← hmm]
      have HM : Hid (m ≤ 4096) := by unfold Hid; omega
      have HMs : Hid (4096 * q + m ≤ slots) := by unfold Hid; unfold npages at hlt; omega
      clear hmm
      by_cases hm : 4096 < slots - 4096 * q
      · have hm' : (4096 : Int) < (slots : Int) - (q : Int) * 4096 := by omega
        have HMI : Hid ((m : Int) = 4096) := by unfold Hid; have := HMM.out; omega
        clear hm
        go_wp2
        go_loopw [14, 15, 16] (fun v c i wi => InnerRel w1 q m (pwords slots q) f v c i wi) (fun _ _ i _ => m - (intOf i).toNat)
        case atStart => exact ⟨0, 0, rfl, rfl, by omega, by omega, .inl ⟨rfl, rfl, rfl, fun t ht => by omega⟩⟩
        case round =>
          obtain ⟨k, n, rfl, rfl, hk, hn, hor⟩ := hrel
          have HK : Hid (k ≤ m) := hk
          have hkb : k ≤ 268435456 := by have := HM.out; omega
          clear hk
          by_cases hkm : k < m
          · have hkm' : (k : Int) < 4096 := by have := HMI.out; omega
            by_cases hout : len ≤ (4096 * q + k) / 64
            · have hout' : (len : Int) ≤ ((q : Int) * 4096 + (k : Int)) / 64 := by omega
              have HEnd : Hid (∀ t, k ≤ t → t < 4096 → occOf slots f (4096 * q + t) = false) := end_break HO.out.1 hout
              clear hkm hout
              rcases hor with ⟨rfl, rfl, rfl, hnone⟩ | ⟨rfl, hn1, hW, hex⟩
              · have hU : Hid (U q = false) := inner_none HF.out hnone HEnd.out
                have HN : Hid (∀ t, t < k → f (4096 * q + t) = false) := hnone
                clear hnone
                go_wp2_with fail
                go_roundw
                case rel => exact ⟨t, q + 1, rfl, by go_num, by omega, by omega, fun h0 => none_on (HZ.out h0) hU.out, HB.out.skip hU.out⟩
                case measure => simp [intOf]; omega
              · obtain ⟨hU, hW'⟩ := inner_some HF.out HK.out HM.out HMs.out hW hex HEnd.out
                obtain ⟨x, hx1, hx2, hx3⟩ := HB.out.used (q / 64) (by unfold nused; omega)
                simp only [Nat.zero_add] at hx2
                have hs1 := HB.out.size
                have hs2 := hW.size
                have hcu : wr.cell? ⟨w.heap.size + 1, q / 64, none⟩ = some (.int .u64 x) := (hW.old.cell (p := ⟨w.heap.size + 1, q / 64, none⟩) (by show w.heap.size + 1 < w1.heap.size; omega)).trans hx2
                have hcp : wr.cell? ⟨w.heap.size, q, none⟩ = some (.pointer none) := (hW.old.cell (p := ⟨w.heap.size, q, none⟩) (by show w.heap.size < w1.heap.size; omega)).trans (HB.out.nopage q hlt (.inl (Nat.le_refl _)))
                have hfp : wr.frozen? ⟨w.heap.size, q, none⟩ = false := (hW.old.frozen (p := ⟨w.heap.size, q, none⟩) (by show w.heap.size < w1.heap.size; omega)).trans (HB.out.fp q)
                have hfu : wr.frozen? ⟨w.heap.size + 1, q / 64, none⟩ = false := (hW.old.frozen (p := ⟨w.heap.size + 1, q / 64, none⟩) (by show w.heap.size + 1 < w1.heap.size; omega)).trans (HB.out.fu _)
                have hsz : w.heap.size + 1 < wr.heap.size := by omega
                have hsz0 : w.heap.size < wr.heap.size := by omega
                have hcu' : ∀ v, (wr.setCell ⟨w.heap.size, q, none⟩ v).cell? ⟨w.heap.size + 1, q / 64, none⟩ = some (.int .u64 x) := fun v => (cell_other (.inl (by omega))).trans hcu
                have HU : Hid (U q = true) := hU
                have HW : Hid (Words w1 wr (pwords slots q) (fun i => occOf slots f (4096 * q + i))) := hW'
                have HX : Hid (x < 18446744073709551616) := hx1
                have hqu : q / 64 < nused slots := by unfold nused; omega
                have hnp : 0 < n := by omega
                clear hW hW' hex hx2 hx3 hU hs1 hs2 hx1
                go_wp2_with (go_at_call 13; go_in)
                go_roundw
                case rel => exact ⟨t + n, q + 1, by go_num, by go_num, by omega, by have := HK.out; have := HM.out; omega, fun h0 => by omega, by rw [or_word x (q % 64) HX.out (by omega)]; exact HB.out.take HU.out hlt HW.out hcu⟩
                case measure => simp [intOf]; omega
            · have hin' : ((q : Int) * 4096 + (k : Int)) / 64 < (len : Int) := by omega
              clear hout
              have HC : Hid ((q : Int) * 4096 + (k : Int) = ((4096 * q + k : Nat) : Int)) := by unfold Hid; omega
              rcases hfk : f (4096 * q + k) with _ | _
              · have HV : Hid (f (4096 * q + k) = false) := hfk
                clear hfk
                rcases hor with ⟨rfl, rfl, rfl, hnone⟩ | ⟨rfl, hn1, hW, hex⟩
                · have HN : Hid (∀ t, t < k → f (4096 * q + t) = false) := hnone
                  have HOw : Hid (OccIs w1 a len f) := HO.out.below HB.out.old
                  clear hnone
                  go_wp2_with (go_at_call 12; rw [HC.out]; refine (occ_at a len cap (4096 * q + k) f _ (by omega) hl _ HOw.out HV).mono ?_; rintro e w' ⟨rfl, rfl⟩)
                  go_roundw
                  case rel => exact ⟨k + 1, 0, by go_num, rfl, by omega, by omega, .inl ⟨rfl, rfl, rfl, none_on (O := fun t => f (4096 * q + t)) HN.out HV.out⟩⟩
                  case measure => simp [intOf]; omega
                · have HW : Hid (Words w1 wr (pwords slots q) (fun t => decide (t < k) && f (4096 * q + t))) := hW
                  have HX : Hid (∃ t, t < k ∧ f (4096 * q + t) = true) := hex
                  have HOw : Hid (OccIs wr a len f) := HO.out.below (HB.out.old.trans (hW.old.mono (by have := HB.out.size; omega)))
                  clear hW hex
                  go_wp2_with (go_at_call 12; rw [HC.out]; refine (occ_at a len cap (4096 * q + k) f _ (by omega) hl _ HOw.out HV).mono ?_; rintro e w' ⟨rfl, rfl⟩)
                  go_roundw
                  case rel => exact ⟨k + 1, n, by go_num, rfl, by omega, by omega, .inr ⟨rfl, hn1, words_on HW.out HV.out, some_on HX.out⟩⟩
                  case measure => simp [intOf]; omega
              · have HV : Hid (f (4096 * q + k) = true) := hfk
                clear hfk
                have hkL : k / 64 < pwords slots q := by have := HLM.out; omega
                rcases hor with ⟨rfl, rfl, rfl, hnone⟩ | ⟨rfl, hn1, hW, hex⟩
                · have HN : Hid (∀ t, t < k → f (4096 * q + t) = false) := hnone
                  have HOw : Hid (OccIs w1 a len f) := HO.out.below HB.out.old
                  have qn := nil_eql
                  have hmade := made_at (.int .u64 0) (pwords slots q) (k / 64) hkL
                  have mk3 := make_words 64 (pwords slots q) (by have := HLM.out; have := HMI.out; omega) (pwords_le _ _)
                  clear hnone
                  go_wp2_with (go_at_call 12; rw [HC.out]; refine (occ_at a len cap (4096 * q + k) f _ (by omega) hl _ HOw.out HV).mono ?_; rintro e w' ⟨rfl, rfl⟩)
                  go_roundw
                  case rel => exact ⟨k + 1, 1, by go_num, by go_num, by omega, by omega, .inr ⟨rfl, by omega, words_first_set hkL HN.out HV.out, ⟨k, by omega, HV.out⟩⟩⟩
                  case measure => simp [intOf]; omega
                · obtain ⟨x, hx1, hx2, hx3⟩ := hW.bits (k / 64) hkL
                  simp only [Nat.zero_add] at hx2
                  have hfz := hW.fz (k / 64)
                  have qs := some_eql
                  have HW : Hid (Words w1 wr (pwords slots q) (fun t => decide (t < k) && f (4096 * q + t))) := hW
                  have HX : Hid (∃ t, t < k ∧ f (4096 * q + t) = true) := hex
                  have HX1 : Hid (x < 18446744073709551616) := hx1
                  have HOw : Hid (OccIs wr a len f) := HO.out.below (HB.out.old.trans (hW.old.mono (by have := HB.out.size; omega)))
                  clear hW hex hx1 hx3
                  go_wp2_with (go_at_call 12; rw [HC.out]; refine (occ_at a len cap (4096 * q + k) f _ (by omega) hl _ HOw.out HV).mono ?_; rintro e w' ⟨rfl, rfl⟩)
                  go_roundw
                  case rel => exact ⟨k + 1, n + 1, by go_num, by go_num, by omega, by omega, .inr ⟨rfl, by omega, by rw [or_word x (k % 64) HX1.out (by omega)]; exact words_set HW.out HV.out hx2, some_on HX.out⟩⟩
                  case measure => simp [intOf]; omega
          · have hkm' : decide ((k : Int) < 4096) = false := decide_eq_false (by have := HMI.out; omega)
            have HEnd : Hid (∀ t, k ≤ t → t < 4096 → occOf slots f (4096 * q + t) = false) := end_done HMM.out (by omega)
            clear hkm
            rcases hor with ⟨rfl, rfl, rfl, hnone⟩ | ⟨rfl, hn1, hW, hex⟩
            · have hU : Hid (U q = false) := inner_none HF.out hnone HEnd.out
              have HN : Hid (∀ t, t < k → f (4096 * q + t) = false) := hnone
              clear hnone
              go_wp2_with fail
              go_roundw
              case rel => exact ⟨t, q + 1, rfl, by go_num, by omega, by omega, fun h0 => none_on (HZ.out h0) hU.out, HB.out.skip hU.out⟩
              case measure => simp [intOf]; omega
            · obtain ⟨hU, hW'⟩ := inner_some HF.out HK.out HM.out HMs.out hW hex HEnd.out
              obtain ⟨x, hx1, hx2, hx3⟩ := HB.out.used (q / 64) (by unfold nused; omega)
              simp only [Nat.zero_add] at hx2
              have hs1 := HB.out.size
              have hs2 := hW.size
              have hcu : wr.cell? ⟨w.heap.size + 1, q / 64, none⟩ = some (.int .u64 x) := (hW.old.cell (p := ⟨w.heap.size + 1, q / 64, none⟩) (by show w.heap.size + 1 < w1.heap.size; omega)).trans hx2
              have hcp : wr.cell? ⟨w.heap.size, q, none⟩ = some (.pointer none) := (hW.old.cell (p := ⟨w.heap.size, q, none⟩) (by show w.heap.size < w1.heap.size; omega)).trans (HB.out.nopage q hlt (.inl (Nat.le_refl _)))
              have hfp : wr.frozen? ⟨w.heap.size, q, none⟩ = false := (hW.old.frozen (p := ⟨w.heap.size, q, none⟩) (by show w.heap.size < w1.heap.size; omega)).trans (HB.out.fp q)
              have hfu : wr.frozen? ⟨w.heap.size + 1, q / 64, none⟩ = false := (hW.old.frozen (p := ⟨w.heap.size + 1, q / 64, none⟩) (by show w.heap.size + 1 < w1.heap.size; omega)).trans (HB.out.fu _)
              have hsz : w.heap.size + 1 < wr.heap.size := by omega
              have hsz0 : w.heap.size < wr.heap.size := by omega
              have hcu' : ∀ v, (wr.setCell ⟨w.heap.size, q, none⟩ v).cell? ⟨w.heap.size + 1, q / 64, none⟩ = some (.int .u64 x) := fun v => (cell_other (.inl (by omega))).trans hcu
              have HU : Hid (U q = true) := hU
              have HW : Hid (Words w1 wr (pwords slots q) (fun i => occOf slots f (4096 * q + i))) := hW'
              have HX : Hid (x < 18446744073709551616) := hx1
              have hqu : q / 64 < nused slots := by unfold nused; omega
              have hnp : 0 < n := by omega
              clear hW hW' hex hx2 hx3 hU hs1 hs2 hx1
              go_wp2_with (go_at_call 13; go_in)
              go_roundw
              case rel => exact ⟨t + n, q + 1, by go_num, by go_num, by omega, by have := HK.out; have := HM.out; omega, fun h0 => by omega, by rw [or_word x (q % 64) HX.out (by omega)]; exact HB.out.take HU.out hlt HW.out hcu⟩
              case measure => simp [intOf]; omega
      · have hm' : decide ((4096 : Int) < (slots : Int) - (q : Int) * 4096) = false := decide_eq_false (by omega)
        have HMI : Hid ((m : Int) = (slots : Int) - (q : Int) * 4096) := by unfold Hid; have := HMM.out; omega
        clear hm
        go_wp2
        go_loopw [14, 15, 16] (fun v c i wi => InnerRel w1 q m (pwords slots q) f v c i wi) (fun _ _ i _ => m - (intOf i).toNat)
        case atStart => exact ⟨0, 0, rfl, rfl, by omega, by omega, .inl ⟨rfl, rfl, rfl, fun t ht => by omega⟩⟩
        case round =>
          obtain ⟨k, n, rfl, rfl, hk, hn, hor⟩ := hrel
          have HK : Hid (k ≤ m) := hk
          have hkb : k ≤ 268435456 := by have := HM.out; omega
          clear hk
          by_cases hkm : k < m
          · have hkm' : (k : Int) < (slots : Int) - (q : Int) * 4096 := by have := HMI.out; omega
            by_cases hout : len ≤ (4096 * q + k) / 64
            · have hout' : (len : Int) ≤ ((q : Int) * 4096 + (k : Int)) / 64 := by omega
              have HEnd : Hid (∀ t, k ≤ t → t < 4096 → occOf slots f (4096 * q + t) = false) := end_break HO.out.1 hout
              clear hkm hout
              rcases hor with ⟨rfl, rfl, rfl, hnone⟩ | ⟨rfl, hn1, hW, hex⟩
              · have hU : Hid (U q = false) := inner_none HF.out hnone HEnd.out
                have HN : Hid (∀ t, t < k → f (4096 * q + t) = false) := hnone
                clear hnone
                go_wp2_with fail
                go_roundw
                case rel => exact ⟨t, q + 1, rfl, by go_num, by omega, by omega, fun h0 => none_on (HZ.out h0) hU.out, HB.out.skip hU.out⟩
                case measure => simp [intOf]; omega
              · obtain ⟨hU, hW'⟩ := inner_some HF.out HK.out HM.out HMs.out hW hex HEnd.out
                obtain ⟨x, hx1, hx2, hx3⟩ := HB.out.used (q / 64) (by unfold nused; omega)
                simp only [Nat.zero_add] at hx2
                have hs1 := HB.out.size
                have hs2 := hW.size
                have hcu : wr.cell? ⟨w.heap.size + 1, q / 64, none⟩ = some (.int .u64 x) := (hW.old.cell (p := ⟨w.heap.size + 1, q / 64, none⟩) (by show w.heap.size + 1 < w1.heap.size; omega)).trans hx2
                have hcp : wr.cell? ⟨w.heap.size, q, none⟩ = some (.pointer none) := (hW.old.cell (p := ⟨w.heap.size, q, none⟩) (by show w.heap.size < w1.heap.size; omega)).trans (HB.out.nopage q hlt (.inl (Nat.le_refl _)))
                have hfp : wr.frozen? ⟨w.heap.size, q, none⟩ = false := (hW.old.frozen (p := ⟨w.heap.size, q, none⟩) (by show w.heap.size < w1.heap.size; omega)).trans (HB.out.fp q)
                have hfu : wr.frozen? ⟨w.heap.size + 1, q / 64, none⟩ = false := (hW.old.frozen (p := ⟨w.heap.size + 1, q / 64, none⟩) (by show w.heap.size + 1 < w1.heap.size; omega)).trans (HB.out.fu _)
                have hsz : w.heap.size + 1 < wr.heap.size := by omega
                have hsz0 : w.heap.size < wr.heap.size := by omega
                have hcu' : ∀ v, (wr.setCell ⟨w.heap.size, q, none⟩ v).cell? ⟨w.heap.size + 1, q / 64, none⟩ = some (.int .u64 x) := fun v => (cell_other (.inl (by omega))).trans hcu
                have HU : Hid (U q = true) := hU
                have HW : Hid (Words w1 wr (pwords slots q) (fun i => occOf slots f (4096 * q + i))) := hW'
                have HX : Hid (x < 18446744073709551616) := hx1
                have hqu : q / 64 < nused slots := by unfold nused; omega
                have hnp : 0 < n := by omega
                clear hW hW' hex hx2 hx3 hU hs1 hs2 hx1
                go_wp2_with (go_at_call 13; go_in)
                go_roundw
                case rel => exact ⟨t + n, q + 1, by go_num, by go_num, by omega, by have := HK.out; have := HM.out; omega, fun h0 => by omega, by rw [or_word x (q % 64) HX.out (by omega)]; exact HB.out.take HU.out hlt HW.out hcu⟩
                case measure => simp [intOf]; omega
            · have hin' : ((q : Int) * 4096 + (k : Int)) / 64 < (len : Int) := by omega
              clear hout
              have HC : Hid ((q : Int) * 4096 + (k : Int) = ((4096 * q + k : Nat) : Int)) := by unfold Hid; omega
              rcases hfk : f (4096 * q + k) with _ | _
              · have HV : Hid (f (4096 * q + k) = false) := hfk
                clear hfk
                rcases hor with ⟨rfl, rfl, rfl, hnone⟩ | ⟨rfl, hn1, hW, hex⟩
                · have HN : Hid (∀ t, t < k → f (4096 * q + t) = false) := hnone
                  have HOw : Hid (OccIs w1 a len f) := HO.out.below HB.out.old
                  clear hnone
                  go_wp2_with (go_at_call 12; rw [HC.out]; refine (occ_at a len cap (4096 * q + k) f _ (by omega) hl _ HOw.out HV).mono ?_; rintro e w' ⟨rfl, rfl⟩)
                  go_roundw
                  case rel => exact ⟨k + 1, 0, by go_num, rfl, by omega, by omega, .inl ⟨rfl, rfl, rfl, none_on (O := fun t => f (4096 * q + t)) HN.out HV.out⟩⟩
                  case measure => simp [intOf]; omega
                · have HW : Hid (Words w1 wr (pwords slots q) (fun t => decide (t < k) && f (4096 * q + t))) := hW
                  have HX : Hid (∃ t, t < k ∧ f (4096 * q + t) = true) := hex
                  have HOw : Hid (OccIs wr a len f) := HO.out.below (HB.out.old.trans (hW.old.mono (by have := HB.out.size; omega)))
                  clear hW hex
                  go_wp2_with (go_at_call 12; rw [HC.out]; refine (occ_at a len cap (4096 * q + k) f _ (by omega) hl _ HOw.out HV).mono ?_; rintro e w' ⟨rfl, rfl⟩)
                  go_roundw
                  case rel => exact ⟨k + 1, n, by go_num, rfl, by omega, by omega, .inr ⟨rfl, hn1, words_on HW.out HV.out, some_on HX.out⟩⟩
                  case measure => simp [intOf]; omega
              · have HV : Hid (f (4096 * q + k) = true) := hfk
                clear hfk
                have hkL : k / 64 < pwords slots q := by have := HLM.out; omega
                rcases hor with ⟨rfl, rfl, rfl, hnone⟩ | ⟨rfl, hn1, hW, hex⟩
                · have HN : Hid (∀ t, t < k → f (4096 * q + t) = false) := hnone
                  have HOw : Hid (OccIs w1 a len f) := HO.out.below HB.out.old
                  have qn := nil_eql
                  have hmade := made_at (.int .u64 0) (pwords slots q) (k / 64) hkL
                  have mk3 := make_words (((slots : Int) - (q : Int) * 4096 + 63) / 64) (pwords slots q) (by have := HLM.out; have := HMI.out; omega) (pwords_le _ _)
                  clear hnone
                  go_wp2_with (go_at_call 12; rw [HC.out]; refine (occ_at a len cap (4096 * q + k) f _ (by omega) hl _ HOw.out HV).mono ?_; rintro e w' ⟨rfl, rfl⟩)
                  go_roundw
                  case rel => exact ⟨k + 1, 1, by go_num, by go_num, by omega, by omega, .inr ⟨rfl, by omega, words_first_set hkL HN.out HV.out, ⟨k, by omega, HV.out⟩⟩⟩
                  case measure => simp [intOf]; omega
                · obtain ⟨x, hx1, hx2, hx3⟩ := hW.bits (k / 64) hkL
                  simp only [Nat.zero_add] at hx2
                  have hfz := hW.fz (k / 64)
                  have qs := some_eql
                  have HW : Hid (Words w1 wr (pwords slots q) (fun t => decide (t < k) && f (4096 * q + t))) := hW
                  have HX : Hid (∃ t, t < k ∧ f (4096 * q + t) = true) := hex
                  have HX1 : Hid (x < 18446744073709551616) := hx1
                  have HOw : Hid (OccIs wr a len f) := HO.out.below (HB.out.old.trans (hW.old.mono (by have := HB.out.size; omega)))
                  clear hW hex hx1 hx3
                  go_wp2_with (go_at_call 12; rw [HC.out]; refine (occ_at a len cap (4096 * q + k) f _ (by omega) hl _ HOw.out HV).mono ?_; rintro e w' ⟨rfl, rfl⟩)
                  go_roundw
                  case rel => exact ⟨k + 1, n + 1, by go_num, by go_num, by omega, by omega, .inr ⟨rfl, by omega, by rw [or_word x (k % 64) HX1.out (by omega)]; exact words_set HW.out HV.out hx2, some_on HX.out⟩⟩
                  case measure => simp [intOf]; omega
          · have hkm' : decide ((k : Int) < (slots : Int) - (q : Int) * 4096) = false := decide_eq_false (by have := HMI.out; omega)
            have HEnd : Hid (∀ t, k ≤ t → t < 4096 → occOf slots f (4096 * q + t) = false) := end_done HMM.out (by omega)
            clear hkm
            rcases hor with ⟨rfl, rfl, rfl, hnone⟩ | ⟨rfl, hn1, hW, hex⟩
            · have hU : Hid (U q = false) := inner_none HF.out hnone HEnd.out
              have HN : Hid (∀ t, t < k → f (4096 * q + t) = false) := hnone
              clear hnone
              go_wp2_with fail
              go_roundw
              case rel => exact ⟨t, q + 1, rfl, by go_num, by omega, by omega, fun h0 => none_on (HZ.out h0) hU.out, HB.out.skip hU.out⟩
              case measure => simp [intOf]; omega
            · obtain ⟨hU, hW'⟩ := inner_some HF.out HK.out HM.out HMs.out hW hex HEnd.out
              obtain ⟨x, hx1, hx2, hx3⟩ := HB.out.used (q / 64) (by unfold nused; omega)
              simp only [Nat.zero_add] at hx2
              have hs1 := HB.out.size
              have hs2 := hW.size
              have hcu : wr.cell? ⟨w.heap.size + 1, q / 64, none⟩ = some (.int .u64 x) := (hW.old.cell (p := ⟨w.heap.size + 1, q / 64, none⟩) (by show w.heap.size + 1 < w1.heap.size; omega)).trans hx2
              have hcp : wr.cell? ⟨w.heap.size, q, none⟩ = some (.pointer none) := (hW.old.cell (p := ⟨w.heap.size, q, none⟩) (by show w.heap.size < w1.heap.size; omega)).trans (HB.out.nopage q hlt (.inl (Nat.le_refl _)))
              have hfp : wr.frozen? ⟨w.heap.size, q, none⟩ = false := (hW.old.frozen (p := ⟨w.heap.size, q, none⟩) (by show w.heap.size < w1.heap.size; omega)).trans (HB.out.fp q)
              have hfu : wr.frozen? ⟨w.heap.size + 1, q / 64, none⟩ = false := (hW.old.frozen (p := ⟨w.heap.size + 1, q / 64, none⟩) (by show w.heap.size + 1 < w1.heap.size; omega)).trans (HB.out.fu _)
              have hsz : w.heap.size + 1 < wr.heap.size := by omega
              have hsz0 : w.heap.size < wr.heap.size := by omega
              have hcu' : ∀ v, (wr.setCell ⟨w.heap.size, q, none⟩ v).cell? ⟨w.heap.size + 1, q / 64, none⟩ = some (.int .u64 x) := fun v => (cell_other (.inl (by omega))).trans hcu
              have HU : Hid (U q = true) := hU
              have HW : Hid (Words w1 wr (pwords slots q) (fun i => occOf slots f (4096 * q + i))) := hW'
              have HX : Hid (x < 18446744073709551616) := hx1
              have hqu : q / 64 < nused slots := by unfold nused; omega
              have hnp : 0 < n := by omega
              clear hW hW' hex hx2 hx3 hU hs1 hs2 hx1
              go_wp2_with (go_at_call 13; go_in)
              go_roundw
              case rel => exact ⟨t + n, q + 1, by go_num, by go_num, by omega, by have := HK.out; have := HM.out; omega, fun h0 => by omega, by rw [or_word x (q % 64) HX.out (by omega)]; exact HB.out.take HU.out hlt HW.out hcu⟩
              case measure => simp [intOf]; omega
    · have hge' : decide ((q : Int) < ((slots : Int) + 4096 - 1) / 4096) = false := decide_eq_false (by rw [HE1.out]; omega)
      have hqe : q = npages slots := by omega
      have HQ : Hid (q = npages slots) := hqe
      clear hqe
      go_wp2_with fail
      go_ret3
      have e := HQ.out
      subst e
      exact ⟨t, rfl, by omega, HZ.out, HB.out⟩
end Go.Proofs.Qxb6612302aDoor
