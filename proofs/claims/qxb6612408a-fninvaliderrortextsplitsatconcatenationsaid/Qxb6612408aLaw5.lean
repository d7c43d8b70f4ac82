/-
  FnInvalidErrorTextIsProblemsJoinedBySemicolons, walked: it returns true.
-/
import Derived.Test.Qxb6612408aJoin
import Derived.Laws.CopyOwn
import Derived.Deep.OwnRows
import Derived.Deep.QuietTactic
import Derived.BigQuiet
namespace Go.Proofs.Qxb6612408a
open Go.RowKit

theorem ret_bool {a b : Bool} (h : a = b) : Ending.returned (.bool a) = .returned (.bool b) := by rw [h]

theorem joined_nil : (joined []).toList.isEmpty = true := by decide +kernel

/-- The heads of the two loops. -/
def WantRel (xs : List ByteArray) (v u : Value) : Prop := ∃ k : Nat, v = .int .i64 ((2 * (xs.length - 1) + sz (xs.take k) : Nat) : Int) ∧ u = .int .i64 k ∧ k ≤ xs.length
def OffRel (W : World) (xs : List ByteArray) (v u : Value) (wr : World) : Prop :=
  ∃ o k : Nat, v = .int .i64 o ∧ u = .int .i64 k ∧ k ≤ xs.length ∧ o = sz (xs.take k) + 2 * (k - 1) ∧ Below W.heap.size W wr
def CharRel (W : World) (x : ByteArray) (u : Value) (wr : World) : Prop := ∃ j : Nat, u = .int .i64 j ∧ j ≤ x.size ∧ Below W.heap.size W wr

theorem index_str (G : ByteArray) (i : Int) (n : Nat) (c : UInt8) (hi : i = n) (h : n < G.size) (hc : G[n]'h = c) (W : World) : (Instr.index 9 (.string G) (.int .i64 i)).run Try.prog W = .ok (.int .u8 c.toNat) W := by
  subst hi
  rw [run_index_string (P := Try.prog) W 9 G .i64 n Try.underlying9]
  rw [dif_pos ⟨by omega, by omega⟩]
  simp [hc]

theorem sz_take_le (xs : List ByteArray) (k : Nat) : sz (xs.take k) ≤ sz xs := by
  induction xs generalizing k with
  | nil => simp [sz]
  | cons y r ih =>
    cases k with
    | zero => simp [sz]
    | succ k => rw [List.take_succ_cons, sz_cons, sz_cons]; have := ih k; omega

theorem sz_mem {xs : List ByteArray} {x : ByteArray} (h : x ∈ xs) : x.size ≤ sz xs := by
  induction xs with
  | nil => cases h
  | cons y r ih =>
    rw [sz_cons]
    rcases List.mem_cons.1 h with e | e
    · subst e; omega
    · have := ih e; omega

theorem made_row (n : Nat) (hn : n ≤ 1048576) (W : World) : (Instr.makeSlice 26 (.int .i64 (n : Int)) (.int .i64 (n : Int))).run Try.prog W = .ok (.slice (some ⟨W.heap.size, 0, none⟩) n n) (W.alloc (.cells (madeCells #[.string ByteArray.empty] n) 9)) :=
  run_make_row' (P := Try.prog) 26 9 (.string ByteArray.empty) 16 Try.underlying26 Try.info9 rfl .i64 .i64 n (by omega) (by omega) W

theorem strs_none (w : World) (a : Option Addr) : StrsIs w a [] := fun h => absurd h (by decide)

theorem cell_of_heap {W : World} {g j : Nat} {c : Array Value} {t : TypeId} {fr : Nat × Nat} (h : W.heap[g]? = some (.cells c t fr)) : W.cell? ⟨g, j, none⟩ = c[j]? := by
  simp [World.cell?, h]

theorem size9 : (Try.prog.info? 9).map (·.size) = some 1 := by kernel_rfl

/-- make, then copy: the strings lie in a row of the call's own. -/
theorem copy_strs (a : Addr) (cap : Nat) (xs : List ByteArray) (w : World) (h : StrsIs w (some a) xs) :
    ∃ W3, (Builtin.copy_ #[26, 26] 3 #[.slice (some ⟨w.heap.size, 0, none⟩) xs.length xs.length, .slice (some a) xs.length cap]).run Try.prog (w.alloc (.cells (madeCells #[.string ByteArray.empty] xs.length) 9)) = .ok (.int .i64 xs.length) W3 ∧
      Below w.heap.size w W3 ∧ w.heap.size < W3.heap.size ∧ StrsIs W3 (some ⟨w.heap.size, 0, none⟩) xs := by
  have hb : Below w.heap.size w (w.alloc (.cells (madeCells #[.string ByteArray.empty] xs.length) 9)) := (Below.refl _ _).alloc (Nat.le_refl _) _
  by_cases h0 : xs.length = 0
  · have hx0 : xs = [] := List.eq_nil_of_length_eq_zero h0
    subst hx0
    exact ⟨_, run_copy_none (P := Try.prog) _ 26 26 3 9 _ _ 0 0 0 cap Try.underlying26 size9 rfl, hb, by simp, strs_none _ _⟩
  · obtain ⟨b, off, ha, hc⟩ := h (by omega)
    obtain rfl := Option.some.inj ha
    have hg : (w.alloc (.cells (madeCells #[.string ByteArray.empty] xs.length) 9)).heap[w.heap.size]? = some (.cells (madeCells #[.string ByteArray.empty] xs.length) 9 (0, 0)) := (MapKept.heap_alloc w _).1
    have hlen : (xs.map Value.string).length = xs.length := by simp
    have hrun := run_copy_row (P := Try.prog) (w.alloc (.cells (madeCells #[.string ByteArray.empty] xs.length) 9)) 26 26 3 9 w.heap.size 0 xs.length xs.length ⟨b, off, none⟩ xs.length cap (madeCells #[.string ByteArray.empty] xs.length) 9 (xs.map Value.string)
      Try.underlying26 size9 hg (by rw [hlen]; exact (Nat.min_self _).symm) (fun j v hv => by
        rw [List.getElem?_map, Option.map_eq_some_iff] at hv
        obtain ⟨x, hx, rfl⟩ := hv
        rw [Addr.add_lit]
        exact (hb.cell (World.block_lt_of_cell? _ _ (hc j x hx))).trans (hc j x hx)) (by rw [hlen, size_madeCells]; omega) (fun v hv => by
        obtain ⟨x, _, rfl⟩ := List.mem_map.1 hv
        rfl)
    refine ⟨_, by rw [hlen] at hrun; exact hrun, below_setRow hb (Nat.le_refl _) _, by simp [World.setRow], fun _ => ⟨w.heap.size, 0, rfl, fun j x hx => ?_⟩⟩
    have hh := setRow_heap (w.alloc (.cells (madeCells #[.string ByteArray.empty] xs.length) 9)) w.heap.size _ (List.take 0 (madeCells #[.string ByteArray.empty] xs.length).toList ++ xs.map Value.string ++ List.drop (0 + xs.length) (madeCells #[.string ByteArray.empty] xs.length).toList).toArray 9 _ hg
    rw [cell_of_heap hh]
    have hj : j < xs.length := (List.getElem?_eq_some_iff.1 hx).1
    have hj' : j < (xs.map Value.string).length := by rw [hlen]; exact hj
    simp only [Nat.zero_add, List.take_zero, List.nil_append, List.getElem?_toArray]
    rw [List.getElem?_append_left hj', List.getElem?_map, hx]
    rfl

set_option maxHeartbeats 1000000 in
/-- Up to the copy: the early ways out, and the nil slice. -/
theorem law5_any (name : ByteArray) (a : Option Addr) (cap : Nat) (xs : List ByteArray) (w : World) (hl : xs.length ≤ 9223372036854775807) (ha : a = none → xs = [] ∧ cap = 0) (h : StrsIs w a xs) :
    Calls Try.prog 5 #[.string name, .slice a xs.length cap] w fun e w' => e = .returned (.bool true) ∧ Below w.heap.size w w' := by
  have HS : Hid (StrsIs w a xs) := h
  have HA : Hid (a = none → xs = [] ∧ cap = 0) := ha
  clear h ha
  go_enter Try.func5, Try.ntmps5
  go_wp2_with fail
  refine (bytes8 name a cap xs _ hl HS.out).mono ?_
  rintro e w' ⟨r, rfl, hr, hw'⟩
  subst hw'
  cases r with
  | false =>
    clear hr
    go_wp2_with fail
    go_ret
    exact ⟨rfl, Below.refl _ _⟩
  | true =>
    have hN := hr rfl
    have HX : Hid (∀ x ∈ xs, x.size ≤ 1048576) := fun x hx => by have := sz_mem hx; omega
    clear hr
    go_wp2_with fail
    refine (prob_any name a none cap 0 xs [] _ (by omega) hl (by decide) HX.out (fun x hx => by cases hx) HS.out (strs_none _ _)).mono ?_
    rintro e w' ⟨t, rfl, ht, hw'⟩
    subst hw'
    by_cases htt : (1048576 : Int) < t
    · clear ht
      go_wp2_with fail
      go_ret
      exact ⟨rfl, Below.refl _ _⟩
    · have hS := ht (by omega)
      simp only [List.length_nil, sz, List.map_nil, List.sum_nil] at hS
      have hS' : 16 * xs.length + sz xs ≤ 1048576 := by unfold sz; omega
      have htt' : decide ((1048576 : Int) < t) = false := decide_eq_false htt
      clear ht hS
      cases a with
      | none =>
        obtain ⟨rfl, rfl⟩ := HA.out rfl
        have q := neq_nil
        go_wp2_with fail
        refine (text_any name none 0 [] _ (by decide) (fun _ => ⟨rfl, rfl⟩) (strs_none _ _)).mono ?_
        rintro e w1 ⟨rfl, hw1⟩
        have HW : Hid (Below _ _ w1) := hw1
        clear hw1
        go_wp2_with fail
        go_ret
        exact ⟨ret_bool joined_nil, HW.out⟩
      | some a =>
        have q := neq_some
        have mk := made_row xs.length (by omega)
        obtain ⟨W3, hcp, hB3, hs3, hS3⟩ := copy_strs a cap xs _ HS.out
        have HB3 : Hid (Below _ _ W3) := hB3
        have HS3 : Hid (StrsIs W3 _ xs) := hS3
        clear hB3 hS3
        go_wp2_with fail
        refine (text_any name _ _ xs _ (by omega) (fun h => by cases h) HS3.out).mono ?_
        rintro e w1 ⟨rfl, hw1⟩
        have HW : Hid (Below _ _ w1) := hw1
        have HS4 : Hid (StrsIs w1 _ xs) := HS3.out.below hw1
        clear hw1 hcp mk q
        have hB4 := HB3.out.trans (HW.out.mono (by omega))
        have HB4 : Hid (Below _ _ w1) := hB4
        clear hB4
        by_cases hn0 : xs.length = 0
        · have hx0 : xs = [] := List.eq_nil_of_length_eq_zero hn0
          subst hx0
          go_wp2_with fail
          go_ret
          exact ⟨ret_bool joined_nil, HB4.out⟩
        · have hn0' : ((xs.length : Int) == 0) = false := by rw [beq_eq_false_iff_ne]; omega
          have hsize := joined_size (xs := xs) (by omega)
          have HG1 : Hid (∀ k x, xs[k]? = some x → k ≠ 0 → (∃ hi : sz (xs.take k) + 2 * (k - 1) < (joined xs).size, (joined xs)[sz (xs.take k) + 2 * (k - 1)]'hi = 59) ∧ ∃ hi : sz (xs.take k) + 2 * (k - 1) + 1 < (joined xs).size, (joined xs)[sz (xs.take k) + 2 * (k - 1) + 1]'hi = 32) := fun k x hx hk => sep_at hx hk
          have HG2 : Hid (∀ k x j, xs[k]? = some x → ∀ hj : j < x.size, ∃ hi : sz (xs.take k) + 2 * k + j < (joined xs).size, (joined xs)[sz (xs.take k) + 2 * k + j]'hi = x[j]'hj) := fun k x j hx hj => part_at hx hj
          generalize joined xs = G at *
          have HGS : Hid (G.size = 2 * (xs.length - 1) + sz xs) := hsize
          have hGb : G.size ≤ 4194304 := by omega
          clear hsize
          obtain ⟨B, hBd⟩ : ∃ B, B = w'.heap.size := ⟨_, rfl⟩
          rw [← hBd] at HS4 ⊢
          have HBd : Hid (B = w'.heap.size) := hBd
          clear hBd
          go_wp2_with fail
          go_loop [7, 8] (fun v u => WantRel xs v u) (fun _ u => xs.length - (intOf u).toNat)
          case atStart => exact ⟨0, by simp [sz]; omega, rfl, by omega⟩
          case round =>
            obtain ⟨k, rfl, rfl, hk⟩ := hrel
            have hsk := sz_take_le xs k
            by_cases hlt : k < xs.length
            · obtain ⟨x, hx⟩ : ∃ x, xs[k]? = some x := ⟨_, List.getElem?_eq_getElem hlt⟩
              obtain ⟨b, off, hbo, hc⟩ := HS4.out (by omega)
              simp only [Option.some.injEq, Addr.mk.injEq] at hbo
              obtain ⟨rfl, rfl, -⟩ := hbo
              have hcell := hc k x hx
              simp only [Nat.zero_add] at hcell
              have HST : Hid (sz (xs.take (k + 1)) = sz (xs.take k) + x.size) := sz_take_succ hx
              have hsk1 := sz_take_le xs (k + 1)
              rw [HST.out] at hsk1
              clear hx hc
              go_wp2_with fail
              go_round
              case rel => exact ⟨k + 1, by rw [HST.out]; go_num, by go_num, by omega⟩
              case measure => simp [intOf]; omega
            · have hke : k = xs.length := by omega
              subst hke
              rw [sz_take_all]
              have hlen : ((G.size : Int) != 2 * ((xs.length : Int) - 1) + (sz xs : Int)) = false := by
                have := HGS.out
                rw [bne_eq_false_iff_eq]; omega
              go_wp2_with fail
              go_loopw [9, 10] (fun v u wr => OffRel w1 xs v u wr) (fun _ u _ => xs.length - (intOf u).toNat)
              case atStart => exact ⟨0, 0, rfl, rfl, by omega, by simp [sz], Below.refl _ _⟩
              case round =>
                obtain ⟨o, k, rfl, rfl, hk, ho, hbel⟩ := hrel
                have HO : Hid (o = sz (xs.take k) + 2 * (k - 1)) := ho
                have HBel : Hid (Below w1.heap.size w1 wr) := hbel
                by_cases hlt : k < xs.length
                · obtain ⟨x, hx⟩ : ∃ x, xs[k]? = some x := ⟨_, List.getElem?_eq_getElem hlt⟩
                  obtain ⟨b, off, hbo, hc⟩ := HS4.out (by omega)
                  simp only [Option.some.injEq, Addr.mk.injEq] at hbo
                  obtain ⟨rfl, rfl, -⟩ := hbo
                  have hcell : wr.cell? ⟨B, k, none⟩ = some (.string x) := by
                    have := hc k x hx
                    simp only [Nat.zero_add] at this
                    exact (hbel.cell (World.block_lt_of_cell? _ _ this)).trans this
                  have HST : Hid (sz (xs.take (k + 1)) = sz (xs.take k) + x.size) := sz_take_succ hx
                  have hsk1 := sz_take_le xs (k + 1)
                  rw [HST.out] at hsk1
                  have hob : o ≤ 4194304 := by omega
                  by_cases hk0 : k = 0
                  · have HP : Hid (∀ j, ∀ hj : j < x.size, ∃ hi : o + j < G.size, G[o + j]'hi = x[j]'hj) := by
                      intro j hj
                      have := HG2.out k x j hx hj
                      rwa [show sz (xs.take k) + 2 * k + j = o + j by omega] at this
                    have hk0' : (k : Int) ≤ 0 := by omega
                    have HK0 : Hid (k = 0) := hk0
                    clear hx hc hk0 ho hbel
                    go_wp2_with fail
                    go_loopw [12] (fun u wi => CharRel w1 x u wi) (fun u _ => x.size - (intOf u).toNat)
                    case atStart => exact ⟨0, rfl, by omega, HBel.out⟩
                    case round =>
                      obtain ⟨j, rfl, hj, hbj⟩ := hrel
                      have HBj : Hid (Below w1.heap.size w1 wr) := hbj
                      clear hbj
                      by_cases hjl : j < x.size
                      · obtain ⟨hb3, hb4⟩ := HP.out j hjl
                        obtain ⟨c, hc⟩ : ∃ c, c = x[j]'hjl := ⟨_, rfl⟩
                        have i1 := index_str G ((o : Int) + (j : Int)) (o + j) c (by omega) hb3 (hb4.trans hc.symm)
                        have i2 := index_str x (j : Int) j c rfl hjl hc.symm
                        clear hb4 hc
                        go_wp2_with fail
                        go_region
                        all_goals go_wp2_with fail
                        go_roundw
                        case rel => exact ⟨j + 1, by go_num, by omega, HBj.out.drew⟩
                        case measure => simp [intOf]; omega
                      · go_wp2_with fail
                        go_roundw
                        case rel => exact ⟨o + x.size, k + 1, by go_num, by go_num, by omega, by have := HK0.out; have := HO.out; rw [HST.out]; omega, HBj.out⟩
                        case measure => simp [intOf]; omega
                  · obtain ⟨s1, s2⟩ := HG1.out k x hx hk0
                    have hoe : sz (xs.take k) + 2 * (k - 1) = o := ho.symm
                    have HP : Hid (∀ j, ∀ hj : j < x.size, ∃ hi : o + 2 + j < G.size, G[o + 2 + j]'hi = x[j]'hj) := by
                      intro j hj
                      have := HG2.out k x j hx hj
                      rwa [show sz (xs.take k) + 2 * k + j = o + 2 + j by omega] at this
                    have hk0' : (0 : Int) < (k : Int) := by omega
                    rw [hoe] at s1 s2
                    obtain ⟨f1, g1⟩ := s1
                    obtain ⟨f2, g2⟩ := s2
                    have q1 : ((((G[o]'f1).toNat : Nat) : Int) != 59) = false := by rw [g1]; rfl
                    have q2 : ((((G[o + 1]'f2).toNat : Nat) : Int) != 32) = false := by rw [g2]; rfl
                    have HK0 : Hid (k ≠ 0) := hk0
                    clear hx hc hk0 ho hbel hoe g1 g2
                    go_wp2_with fail
                    go_loopw [12] (fun u wi => CharRel w1 x u wi) (fun u _ => x.size - (intOf u).toNat)
                    case atStart => exact ⟨0, rfl, by omega, HBel.out⟩
                    case round =>
                      obtain ⟨j, rfl, hj, hbj⟩ := hrel
                      have HBj : Hid (Below w1.heap.size w1 wr) := hbj
                      clear hbj
                      by_cases hjl : j < x.size
                      · obtain ⟨hb3, hb4⟩ := HP.out j hjl
                        obtain ⟨c, hc⟩ : ∃ c, c = x[j]'hjl := ⟨_, rfl⟩
                        have i1 := index_str G ((o : Int) + 2 + (j : Int)) (o + 2 + j) c (by omega) hb3 (hb4.trans hc.symm)
                        have i2 := index_str x (j : Int) j c rfl hjl hc.symm
                        clear hb4 hc
                        go_wp2_with fail
                        go_region
                        all_goals go_wp2_with fail
                        go_roundw
                        case rel => exact ⟨j + 1, by go_num, by omega, HBj.out.drew⟩
                        case measure => simp [intOf]; omega
                      · go_wp2_with fail
                        go_roundw
                        case rel => exact ⟨o + 2 + x.size, k + 1, by go_num, by go_num, by omega, by have := HK0.out; have := HO.out; rw [HST.out]; omega, HBj.out⟩
                        case measure => simp [intOf]; omega
                · clear ho hbel
                  go_wp2_with fail
                  go_ret
                  exact ⟨rfl, HB4.out.trans (HBel.out.mono HB4.out.size)⟩
end Go.Proofs.Qxb6612408a
