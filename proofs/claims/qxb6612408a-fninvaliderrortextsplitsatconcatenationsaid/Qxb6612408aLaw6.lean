/-
  FnInvalidErrorTextSplitsAtConcatenation, walked: it returns true.
-/
import Derived.Test.Qxb6612408aLaw5
import Derived.Deep.DeepCutAuto
import Derived.Deep.RegionHeld3
namespace Go.Proofs.Qxb6612408a
open Go.RowKit

/-- A slice of the strings xs: nil, or a row. -/
def SliceOf (xs : List ByteArray) (v : Value) (w : World) : Prop :=
  ∃ a c, v = .slice a xs.length c ∧ (a = none → xs = [] ∧ c = 0) ∧ xs.length ≤ c ∧ StrsIs w a xs

theorem SliceOf.below {xs : List ByteArray} {v : Value} {w w' : World} (h : SliceOf xs v w) (hb : Below w.heap.size w w') : SliceOf xs v w' := by
  obtain ⟨a, c, h1, h2, h3, h4⟩ := h
  exact ⟨a, c, h1, h2, h3, h4.below hb⟩

theorem made_room (n : Nat) (m : Int) (h : m = n) (hn : n ≤ 1048576) (W : World) : (Instr.makeSlice 26 (.int .i64 0) (.int .i64 m)).run Try.prog W = .ok (.slice (some ⟨W.heap.size, 0, none⟩) 0 n) (W.alloc (.cells (madeCells #[.string ByteArray.empty] n) 9)) := by
  subst h
  obtain ⟨i0, hi, hz0, hz1, hz2⟩ := info_parts Try.info9
  have h := run_make (P := Try.prog) W 26 9 i0 (.string ByteArray.empty) Try.underlying26 hi hz0 .i64 .i64 0 n (by omega) (by omega) (by rw [hz2]; omega) (by omega)
  simp only [hz1, Nat.mul_one, Int.toNat_natCast] at h
  exact h

/-- The heads of the two loops that gather: zs: what is gathered in the end; m of it so far. -/
def GatherRel (w : World) (zs : List ByteArray) (N n0 n1 : Nat) (v u : Value) (wr : World) : Prop :=
  ∃ k m : Nat, u = .int .i64 k ∧ k ≤ n1 ∧ m = n0 + k ∧ v = .slice (some ⟨w.heap.size, 0, none⟩) m N ∧ Below w.heap.size w wr ∧ wr.ownsRow w.heap.size 9 1 v m ((zs.take m).map Value.string)

theorem sz_append (xs ys : List ByteArray) : sz (xs ++ ys) = sz xs + sz ys := by simp [sz]

theorem joined_le (xs : List ByteArray) : (joined xs).size ≤ 2 * xs.length + sz xs := by
  have := joined_len xs
  show (Lib.join (xs.map (·.data.toList)) [59, 32]).toArray.size ≤ _
  rwa [List.size_toArray]

theorem one_str {W : World} {b off : Nat} {x : ByteArray} (h : W.cell? ⟨b, off, none⟩ = some (.string x)) : StrsIs W (some ⟨b, off, none⟩) [x] := by
  intro _
  refine ⟨b, off, rfl, fun j y hy => ?_⟩
  match j, hy with
  | 0, hy =>
    simp only [List.getElem?_cons_zero, Option.some.injEq] at hy
    subst hy
    exact h

theorem text_one (name : ByteArray) (b off c : Nat) (x : ByteArray) (w6 : World) (hsz : 18 * [x].length + sz [x] ≤ 4194304) (W : World) (hS : W.cell? ⟨b, off, none⟩ = some (.string x) ∧ Below w6.heap.size w6 W) :
    Calls Try.prog 10 #[.string name, .slice (some ⟨b, off, none⟩) 1 c] W fun e w' => e = .returned (.string x) ∧ (w'.cell? ⟨b, off, none⟩ = some (.string x) ∧ Below w6.heap.size w6 w') := by
  refine (text_any name (some ⟨b, off, none⟩) c [x] W hsz (fun h => by cases h) (one_str hS.1)).mono ?_
  rintro e w' ⟨rfl, hw'⟩
  rw [joined_one]
  exact ⟨rfl, (hw'.cell (World.block_lt_of_cell? _ _ hS.1)).trans hS.1, hS.2.trans (hw'.mono hS.2.size)⟩

theorem gather_step {w wr w1 : World} {zs : List ByteArray} {N m : Nat} {x : ByteArray} {o : Obj} (hx : zs[m]? = some x) (hbel : Below w.heap.size w wr)
    (hown : w1.ownsRow w.heap.size 9 1 (.slice (some ⟨w.heap.size, 0, none⟩) (m + 1) N) (m + 1) ((zs.take m).map Value.string ++ [.string x])) (hg : (wr.alloc o).grownBy w1 (some w.heap.size)) :
    Below w.heap.size w w1 ∧ w1.ownsRow w.heap.size 9 1 (.slice (some ⟨w.heap.size, 0, none⟩) (m + 1) N) (m + 1) ((zs.take (m + 1)).map Value.string) := by
  refine ⟨(hbel.alloc hbel.size _).grown hg (by have := hbel.size; simp; omega) (fun j hj => by obtain rfl := Option.some.inj hj; exact Nat.le_refl _), ?_⟩
  have ht : (zs.take m).map Value.string ++ [.string x] = (zs.take (m + 1)).map Value.string := by rw [List.take_add_one, hx, List.map_append]; rfl
  rw [← ht]
  exact hown

theorem strs_of_row {w wr : World} {zs : List ByteArray} {N : Nat} (h : wr.ownsRow w.heap.size 9 1 (.slice (some ⟨w.heap.size, 0, none⟩) zs.length N) zs.length (zs.map Value.string)) : StrsIs wr (some ⟨w.heap.size, 0, none⟩) zs := by
  intro _
  refine ⟨w.heap.size, 0, rfl, fun j x hx => ?_⟩
  have := h.cells (g := w.heap.size) rfl j (.string x) (by rw [List.getElem?_map, hx]; rfl)
  rwa [Addr.add_lit] at this

set_option maxHeartbeats 1000000 in
set_option maxRecDepth 20000 in
theorem law6_any (name : ByteArray) (a b : Option Addr) (cap cap' : Nat) (xs ys : List ByteArray) (w : World) (hl : xs.length ≤ 9223372036854775807) (hl' : ys.length ≤ 9223372036854775807)
    (ha : a = none → xs = [] ∧ cap = 0) (hb : b = none → ys = [] ∧ cap' = 0) (h : StrsIs w a xs) (h' : StrsIs w b ys) :
    Calls Try.prog 6 #[.string name, .slice a xs.length cap, .slice b ys.length cap'] w fun e w' => e = .returned (.bool true) ∧ Below w.heap.size w w' := by
  have HS : Hid (StrsIs w a xs) := h
  have HT : Hid (StrsIs w b ys) := h'
  have HA : Hid (a = none → xs = [] ∧ cap = 0) := ha
  have HB : Hid (b = none → ys = [] ∧ cap' = 0) := hb
  clear h h' ha hb
  go_enter Try.func6, Try.ntmps6
  go_wp2_with fail
  refine (bytes11 name a b cap cap' xs ys _ hl hl' HS.out HT.out).mono ?_
  rintro e w' ⟨r, rfl, hr, hw'⟩
  subst hw'
  cases r with
  | false =>
    clear hr
    go_wp2_with fail
    go_ret
    exact ⟨rfl, Below.refl _ _⟩
  | true =>
    have hN := hr rfl
    have HX : Hid (∀ x ∈ xs, x.size ≤ 1048576) := fun x hx => by have := sz_mem hx; omega
    have HY : Hid (∀ x ∈ ys, x.size ≤ 1048576) := fun x hx => by have := sz_mem hx; omega
    clear hr
    go_wp2_with fail
    refine (prob_any name a b cap cap' xs ys _ (by omega) hl hl' HX.out HY.out HS.out HT.out).mono ?_
    rintro e w' ⟨t, rfl, ht, hw'⟩
    subst hw'
    by_cases htt : (1048576 : Int) < t
    · clear ht
      go_wp2_with fail
      go_ret
      exact ⟨rfl, Below.refl _ _⟩
    · have hS := ht (by omega)
      have hS1 : 16 * xs.length + sz xs + (16 * ys.length + sz ys) ≤ 1048576 := by omega
      have htt' : decide ((1048576 : Int) < t) = false := decide_eq_false htt
      clear ht hS
      have q1 := neq_nil
      have q2 := neq_some
      have mk := made_row xs.length (by omega)
      have mk' := made_row ys.length (by omega)
      obtain ⟨w0, hw0⟩ : ∃ w0, w0 = w' := ⟨_, rfl⟩
      subst hw0
      go_upto_if 27 with fail
      go_cut [1] (fun s1 wx => SliceOf xs s1 wx ∧ Below w0.heap.size w0 wx)
      case first =>
        cases a with
        | none =>
          obtain ⟨rfl, rfl⟩ := HA.out rfl
          go_wp2_with fail
          go_meet
          case rel => exact ⟨⟨none, 0, rfl, fun _ => ⟨rfl, rfl⟩, by decide, strs_none _ _⟩, Below.refl _ _⟩
        | some a =>
          obtain ⟨W3, hcp, hB3, hs3, hS3⟩ := copy_strs a cap xs _ HS.out
          have HB3 : Hid (Below _ _ W3) := hB3
          have HS3 : Hid (StrsIs W3 _ xs) := hS3
          clear hB3 hS3
          go_wp2_with fail
          go_meet
          case rel => exact ⟨⟨_, _, rfl, (fun h => by cases h), Nat.le_refl _, HS3.out⟩, HB3.out⟩
      case rest =>
        obtain ⟨hA1, hB1⟩ := hcut
        have HA1 : Hid (SliceOf xs u1 wc) := hA1
        have HB1 : Hid (Below w0.heap.size w0 wc) := hB1
        have HT1 : Hid (StrsIs wc b ys) := HT.out.below hB1
        obtain ⟨w1, hw1⟩ : ∃ w1, w1 = wc := ⟨_, rfl⟩
        subst hw1
        clear hA1 hB1 mk
        go_upto_if 36 with fail
        go_cut [2] (fun s2 wx => SliceOf ys s2 wx ∧ Below w1.heap.size w1 wx)
        case first =>
          cases b with
          | none =>
            obtain ⟨rfl, rfl⟩ := HB.out rfl
            go_wp2_with fail
            go_meet
            case rel => exact ⟨⟨none, 0, rfl, fun _ => ⟨rfl, rfl⟩, by decide, strs_none _ _⟩, Below.refl _ _⟩
          | some b =>
            obtain ⟨W3, hcp, hB3, hs3, hS3⟩ := copy_strs b cap' ys _ HT1.out
            have HB3 : Hid (Below _ _ W3) := hB3
            have HS3 : Hid (StrsIs W3 _ ys) := hS3
            clear hB3 hS3
            go_wp2_with fail
            go_meet
            case rel => exact ⟨⟨_, _, rfl, (fun h => by cases h), Nat.le_refl _, HS3.out⟩, HB3.out⟩
        case rest =>
          obtain ⟨hA2, hB2⟩ := hcut
          have HA2 : Hid (SliceOf xs u1 wc) := HA1.out.below hB2
          have HT2 : Hid (SliceOf ys u2 wc) := hA2
          have HB2 : Hid (Below w0.heap.size w0 wc) := HB1.out.trans (hB2.mono HB1.out.size)
          obtain ⟨w2, hw2⟩ : ∃ w2, w2 = wc := ⟨_, rfl⟩
          subst hw2
          clear hA2 hB2 mk' q1 q2
          obtain ⟨a1, c1, rfl, hn1, hc1, hs1⟩ := HA2.out
          obtain ⟨b1, c2, rfl, hn2, hc2, hs2⟩ := HT2.out
          have mk3 := made_room (xs.length + ys.length) ((xs.length : Int) + (ys.length : Int)) (by omega) (by omega)
          have HS1 : Hid (StrsIs w2 a1 xs) := hs1
          have HS2 : Hid (StrsIs w2 b1 ys) := hs2
          have HN1 : Hid (a1 = none → xs = [] ∧ c1 = 0) := hn1
          have HN2 : Hid (b1 = none → ys = [] ∧ c2 = 0) := hn2
          clear hs1 hs2 hn1 hn2
          obtain ⟨i0, hi, hz0, hz1, hz2⟩ := info_parts Try.info9
          go_wp2_with fail
          clear mk3
          go_loopw [9, 10] (fun v u wr => GatherRel w2 (xs ++ ys) (xs.length + ys.length) 0 xs.length v u wr) (fun _ u _ => xs.length - (intOf u).toNat)
          case atStart => 
            refine ⟨0, 0, rfl, by omega, rfl, rfl, (Below.refl _ _).alloc (Nat.le_refl _) _, ?_⟩
            exact World.ownsRow_made w2 _ _ (Nat.le_refl _) (by unfold maxLen; omega) (by rw [size_madeCells]; omega)
          case round =>
            obtain ⟨k, m, rfl, hk, hm, rfl, hbel, hown⟩ := hrel
            have HM : Hid (m = 0 + k) := hm
            by_cases hlt : k < xs.length
            · obtain ⟨x, hx⟩ : ∃ x, xs[k]? = some x := ⟨_, List.getElem?_eq_getElem hlt⟩
              obtain ⟨b', off, rfl, hc⟩ := HS1.out (by omega)
              have hd : wr.cell? ⟨b', off + k, none⟩ = some (.string x) := (hbel.cell (World.block_lt_of_cell? _ _ (hc k x hx))).trans (hc k x hx)
              have hzx : (xs ++ ys)[m]? = some x := by rw [hm]; rw [Nat.zero_add, List.getElem?_append_left (by omega)]; exact hx
              have HZX : Hid ((xs ++ ys)[m]? = some x) := hzx
              have hmN : m + 1 ≤ xs.length + ys.length := by omega
              clear hc hx hm hzx
              go_wp2_with (first
                | (at_builtin; refine wpList_append_fits _ rfl _ _ 26 rfl w2.heap.size 9 i0 1 Try.underlying26 hi hz1 w2.heap.size m (xs.length + ys.length) ((List.take m (xs ++ ys)).map Value.string) rfl (hown.alloc _) ⟨wr.heap.size, 0, none⟩ 1 1 [.string x] rfl rfl ?c1 ?c2 hmN ?_)
                | go_in)
              case c1 => exact cell_one_new _ _ _
              case c2 => intro u hu; simp at hu; subst hu; rfl
              intro w3 hown' hgrow
              obtain ⟨s1, s2⟩ := gather_step HZX.out hbel (by simpa using hown') hgrow
              have H1 : Hid (Below w2.heap.size w2 w3) := s1
              have H2 : Hid (w3.ownsRow w2.heap.size 9 1 (.slice (some ⟨w2.heap.size, 0, none⟩) (m + 1) (xs.length + ys.length)) (m + 1) (((xs ++ ys).take (m + 1)).map Value.string)) := s2
              clear s1 s2 hown' hgrow hown hbel hd
              go_wp2
              go_roundw
              case rel => exact ⟨k + 1, m + 1, by go_num, by omega, by rw [HM.out]; omega, rfl, H1.out, H2.out⟩
              case measure => simp [intOf]; omega
            · have hkx : k = xs.length := by omega
              obtain ⟨m0, hm0⟩ : ∃ m0, m0 = m := ⟨_, rfl⟩
              subst hm0
              have HM0 : Hid (m0 = xs.length) := by unfold Hid; omega
              have HBel0 : Hid (Below w2.heap.size w2 wr) := hbel
              have HOwn0 : Hid (wr.ownsRow w2.heap.size 9 1 (.slice (some ⟨w2.heap.size, 0, none⟩) m0 (xs.length + ys.length)) m0 (((xs ++ ys).take m0).map Value.string)) := hown
              clear hkx hown hbel hm
              go_wp2_with fail
              go_loopw [9, 11] (fun v u wr => GatherRel w2 (xs ++ ys) (xs.length + ys.length) xs.length ys.length v u wr) (fun _ u _ => ys.length - (intOf u).toNat)
              case atStart => exact ⟨0, m0, rfl, by omega, by rw [HM0.out]; omega, rfl, HBel0.out, HOwn0.out⟩
              case round =>
                obtain ⟨k, m, rfl, hk, hm, rfl, hbel, hown⟩ := hrel
                have HM : Hid (m = xs.length + k) := hm
                by_cases hlt : k < ys.length
                · obtain ⟨x, hx⟩ : ∃ x, ys[k]? = some x := ⟨_, List.getElem?_eq_getElem hlt⟩
                  obtain ⟨b', off, rfl, hc⟩ := HS2.out (by omega)
                  have hd : wr.cell? ⟨b', off + k, none⟩ = some (.string x) := (hbel.cell (World.block_lt_of_cell? _ _ (hc k x hx))).trans (hc k x hx)
                  have hzx : (xs ++ ys)[m]? = some x := by rw [hm]; rw [List.getElem?_append_right (by omega), show xs.length + k - xs.length = k by omega]; exact hx
                  have HZX : Hid ((xs ++ ys)[m]? = some x) := hzx
                  have hmN : m + 1 ≤ xs.length + ys.length := by omega
                  clear hc hx hm hzx
                  go_wp2_with (first
                    | (at_builtin; refine wpList_append_fits _ rfl _ _ 26 rfl w2.heap.size 9 i0 1 Try.underlying26 hi hz1 w2.heap.size m (xs.length + ys.length) ((List.take m (xs ++ ys)).map Value.string) rfl (hown.alloc _) ⟨wr.heap.size, 0, none⟩ 1 1 [.string x] rfl rfl ?c1 ?c2 hmN ?_)
                    | go_in)
                  case c1 => exact cell_one_new _ _ _
                  case c2 => intro u hu; simp at hu; subst hu; rfl
                  intro w3 hown' hgrow
                  obtain ⟨s1, s2⟩ := gather_step HZX.out hbel (by simpa using hown') hgrow
                  have H1 : Hid (Below w2.heap.size w2 w3) := s1
                  have H2 : Hid (w3.ownsRow w2.heap.size 9 1 (.slice (some ⟨w2.heap.size, 0, none⟩) (m + 1) (xs.length + ys.length)) (m + 1) (((xs ++ ys).take (m + 1)).map Value.string)) := s2
                  clear s1 s2 hown' hgrow hown hbel hd
                  go_wp2
                  go_roundw
                  case rel => exact ⟨k + 1, m + 1, by go_num, by omega, by rw [HM.out]; omega, rfl, H1.out, H2.out⟩
                  case measure => simp [intOf]; omega
                · have hmz : m = (xs ++ ys).length := by rw [List.length_append]; omega
                  have hrow : wr.ownsRow w2.heap.size 9 1 (.slice (some ⟨w2.heap.size, 0, none⟩) (xs ++ ys).length (xs.length + ys.length)) (xs ++ ys).length ((xs ++ ys).map Value.string) := by
                    have e : (xs ++ ys).take m = xs ++ ys := by rw [hmz, List.take_length]
                    rw [e, hmz] at hown
                    exact hown
                  obtain ⟨zs, hzs⟩ : ∃ zs, zs = xs ++ ys := ⟨_, rfl⟩
                  have HZE : Hid (zs = xs ++ ys) := hzs
                  have hzl : 18 * zs.length + sz zs ≤ 4194304 := by rw [hzs, List.length_append, sz_append]; omega
                  have hzN : Hid (xs.length + ys.length = zs.length) := by unfold Hid; rw [hzs, List.length_append]
                  have HZ : Hid (StrsIs wr (some ⟨w2.heap.size, 0, none⟩) zs) := by rw [hzs]; exact strs_of_row hrow
                  rw [← hzs] at hmz
                  have HBel : Hid (Below w2.heap.size w2 wr) := hbel
                  clear hrow hown hm hbel hzs HM
                  subst hmz
                  go_wp2_with fail
                  refine (text_any name a1 c1 xs _ (by omega) HN1.out (HS1.out.below HBel.out)).mono ?_
                  rintro e w4 ⟨rfl, hw4⟩
                  have H4 : Hid (Below wr.heap.size wr w4) := hw4
                  clear hw4
                  go_wp2_with fail
                  refine (text_any name b1 c2 ys _ (by omega) HN2.out ((HS2.out.below HBel.out).below H4.out)).mono ?_
                  rintro e w5 ⟨rfl, hw5⟩
                  have H5 : Hid (Below wr.heap.size wr w5) := H4.out.trans (hw5.mono H4.out.size)
                  clear hw5
                  go_wp2_with fail
                  refine (text_any name _ _ zs _ hzl (fun h => by cases h) (HZ.out.below H5.out)).mono ?_
                  rintro e w6 ⟨rfl, hw6⟩
                  have H6 : Hid (Below wr.heap.size wr w6) := H5.out.trans (hw6.mono H5.out.size)
                  clear hw6
                  obtain ⟨EA, hEA⟩ : ∃ G, G = joined xs := ⟨_, rfl⟩
                  obtain ⟨EB, hEB⟩ : ∃ G, G = joined ys := ⟨_, rfl⟩
                  obtain ⟨EZ, hEZ⟩ : ∃ G, G = joined zs := ⟨_, rfl⟩
                  rw [← hEA, ← hEB, ← hEZ]
                  have HEA : Hid (EA = joined xs) := hEA
                  have HEB : Hid (EB = joined ys) := hEB
                  have HEZ : Hid (EZ = joined zs) := hEZ
                  clear hEA hEB hEZ
                  have hEAs : EA.size ≤ 4194304 := by rw [HEA.out]; have := joined_le xs; omega
                  have hEBs : EB.size ≤ 4194304 := by rw [HEB.out]; have := joined_le ys; omega
                  have HZ6 : Hid (StrsIs w6 (some ⟨w2.heap.size, 0, none⟩) zs) := HZ.out.below H6.out
                  have HX6 : Hid (StrsIs w6 a1 xs) := (HS1.out.below HBel.out).below H6.out
                  have HB6 : Hid (Below w0.heap.size w0 w6) := HB2.out.trans ((HBel.out.trans (H6.out.mono HBel.out.size)).mono HB2.out.size)
                  by_cases hx0 : xs.length = 0
                  · obtain rfl : xs = [] := List.eq_nil_of_length_eq_zero hx0
                    have hE : EZ = EB := by
                      rw [HEZ.out, HEB.out, HZE.out, List.nil_append]
                    subst hE
                    clear hx0
                    go_wp2_with fail
                    refine (text_any _ _ _ zs _ hzl (fun h => by cases h) HZ6.out).mono ?_
                    rintro e w7 ⟨rfl, hw7⟩
                    have H7 : Hid (Below w6.heap.size w6 w7) := hw7
                    clear hw7
                    rw [← HEZ.out]
                    go_wp2_with fail
                    go_quiet (fail)
                    go_wp2_with fail
                    go_ret
                    exact ⟨rfl, below_drewN (HB6.out.trans (H7.out.mono HB6.out.size)) _⟩
                  obtain ⟨x0, xr, rfl⟩ : ∃ x0 xr, xs = x0 :: xr := by
                    cases xs with
                    | nil => exact absurd rfl hx0
                    | cons x0 xr => exact ⟨x0, xr, rfl⟩
                  obtain ⟨b', off, rfl, hcc⟩ := HX6.out (by simp)
                  have hc6 := hcc 0 x0 rfl
                  simp only [Nat.add_zero] at hc6
                  have HC6 : Hid (w6.cell? ⟨b', off, none⟩ = some (.string x0)) := hc6
                  have HSZ : Hid (18 * [x0].length + sz [x0] ≤ 4194304) := by
                    have := HX.out x0 (List.mem_cons_self ..)
                    unfold Hid; simp [sz]; omega
                  have hc1' : (1 : Int) ≤ (c1 : Int) := by simp at hc1; omega
                  clear hcc hx0 hc6
                  by_cases hy0 : ys.length = 0
                  · obtain rfl : ys = [] := List.eq_nil_of_length_eq_zero hy0
                    have hE : EZ = EA := by
                      rw [HEZ.out, HEA.out, HZE.out, List.append_nil]
                    subst hE
                    clear hy0
                    go_wp2_with fail
                    refine (text_any _ _ _ zs _ hzl (fun h => by cases h) HZ6.out).mono ?_
                    rintro e w7 ⟨rfl, hw7⟩
                    have H7 : Hid (Below w6.heap.size w6 w7) := hw7
                    have hc7 : w7.cell? ⟨b', off, none⟩ = some (.string x0) := (hw7.cell (World.block_lt_of_cell? _ _ HC6.out)).trans HC6.out
                    clear hw7
                    rw [← HEZ.out]
                    go_wp2_with fail
                    have h70 : w7.drew.cell? ⟨b', off, none⟩ = some (.string x0) ∧ Below w6.heap.size w6 w7.drew := ⟨hc7, H7.out.drew⟩
                    go_region_held3 (fun W => W.cell? ⟨b', off, none⟩ = some (.string x0) ∧ Below w6.heap.size w6 W) (first | exact h70 | assumption)
                      (first | (go_at_call 10; refine (text_one name b' off c1 x0 w6 HSZ.out _ (by assumption)).mono ?_; rintro e w8 ⟨rfl, hS8⟩))
                    go_wp2_with fail
                    go_ret
                    exact ⟨rfl, HB6.out.trans (hS8.2.mono HB6.out.size)⟩
                  have hy0' : ((ys.length : Int) == 0) = false := by rw [beq_eq_false_iff_ne]; omega
                  have hE : EZ = EA ++ ⟨#[59, 32]⟩ ++ EB := by
                    apply ByteArray.ext
                    apply Array.toList_inj.1
                    rw [HEZ.out, HEA.out, HEB.out, HZE.out, joined_append (by simp) (fun h => hy0 (by rw [h]; rfl))]
                    simp [ByteArray.data_append]
                  subst hE
                  clear hy0
                  go_wp2_with fail
                  refine (text_any _ _ _ zs _ hzl (fun h => by cases h) HZ6.out).mono ?_
                  rintro e w7 ⟨rfl, hw7⟩
                  have H7 : Hid (Below w6.heap.size w6 w7) := hw7
                  have hc7 : w7.cell? ⟨b', off, none⟩ = some (.string x0) := (hw7.cell (World.block_lt_of_cell? _ _ HC6.out)).trans HC6.out
                  clear hw7
                  rw [← HEZ.out]
                  go_wp2_with fail
                  have h70 : w7.drew.cell? ⟨b', off, none⟩ = some (.string x0) ∧ Below w6.heap.size w6 w7.drew := ⟨hc7, H7.out.drew⟩
                  go_region_held3 (fun W => W.cell? ⟨b', off, none⟩ = some (.string x0) ∧ Below w6.heap.size w6 W) (first | exact h70 | assumption)
                    (first | (go_at_call 10; refine (text_one name b' off c1 x0 w6 HSZ.out _ (by assumption)).mono ?_; rintro e w8 ⟨rfl, hS8⟩))
                  go_wp2_with fail
                  go_ret
                  exact ⟨rfl, HB6.out.trans (hS8.2.mono HB6.out.size)⟩
end Go.Proofs.Qxb6612408a
