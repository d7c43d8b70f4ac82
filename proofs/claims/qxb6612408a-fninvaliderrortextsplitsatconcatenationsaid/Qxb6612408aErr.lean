/-
  (*InvalidError).Error, ZZinvalidErrorText: the problems' texts, joined.
-/
import Derived.Test.Qxb6612408aProb
import Derived.Test.Qxb6612408aShelf
namespace Go.Proofs.Qxb6612408a
open Go.RowKit

/-- Error values at pa, each an errorString of its own, with the texts xs. -/
def ErrsIs (w : World) (pa : Option Addr) (xs : List ByteArray) : Prop :=
  0 < xs.length → ∃ b off, pa = some ⟨b, off, none⟩ ∧ ∀ j x, xs[j]? = some x → ∃ c, w.cell? ⟨b, off + j, none⟩ = some (.iface 39 (.pointer (some ⟨c, 0, none⟩))) ∧ w.cell? ⟨c, 0, none⟩ = some (.string x)

/-- The texts, parted by a semicolon and a blank. -/
def joined (xs : List ByteArray) : ByteArray := ⟨(Lib.join (xs.map (·.data.toList)) [59, 32]).toArray⟩

def ErrRel (w : World) (xs : List ByteArray) (v u : Value) (wr : World) : Prop :=
  ∃ k : Nat, u = .int .i64 k ∧ k ≤ xs.length ∧ wr.ownsRow w.heap.size 9 1 v k ((xs.take k).map Value.string) ∧ Below w.heap.size w wr

theorem Try.info9 : (Try.prog.info? 9).map (fun i => (i.zero, i.size, i.bytes)) = some (some (.string ByteArray.empty), 1, 16) := by kernel_rfl

theorem lens_sz (xs : List ByteArray) : Lib.lens (xs.map (·.data.toList)) = sz xs := by
  unfold Lib.lens sz
  rw [List.map_map]
  congr 1

theorem joined_len (xs : List ByteArray) : (Lib.join (xs.map (·.data.toList)) [59, 32]).length ≤ 2 * xs.length + sz xs := by
  cases xs with
  | nil => simp [Lib.join]
  | cons x r =>
    rw [List.map_cons, Lib.join_length, ← List.map_cons (f := fun y : ByteArray => y.data.toList), lens_sz]
    simp
    omega

theorem method_err (a : Addr) (w : World) : (method 168 39 (.pointer (some a)) "Error").run Try.prog w = .ok (38, .pointer (some a)) w := by kernel_rfl

set_option maxHeartbeats 1000000 in
theorem err_any (eb cap : Nat) (pa : Option Addr) (xs : List ByteArray) (w : World) (hb : 18 * xs.length + sz xs ≤ 4194304)
    (h1 : w.cell? ⟨eb, 1, none⟩ = some (.slice pa xs.length cap)) (h : ErrsIs w pa xs) :
    Calls Try.prog 14 #[.pointer (some ⟨eb, 0, none⟩)] w fun e w' => e = .returned (.string (joined xs)) ∧ Below w.heap.size w w' := by
  have HE : Hid (ErrsIs w pa xs) := h
  clear h
  obtain ⟨i0, hi, hz0, hz1, hz2⟩ := info_parts Try.info9
  go_enter Try.func14, Try.ntmps14
  go_wp2
  go_loopw [3, 11] (fun v u wr => ErrRel w xs v u wr) (fun _ u _ => xs.length - (intOf u).toNat)
  case atStart => exact ⟨0, rfl, by omega, World.ownsRow_nil _ _ _ _, Below.refl _ _⟩
  case round =>
    obtain ⟨k, rfl, hk, hown, hbel⟩ := hrel
    by_cases hlt : k < xs.length
    · obtain ⟨x, hx⟩ : ∃ x, xs[k]? = some x := ⟨_, List.getElem?_eq_getElem hlt⟩
      obtain ⟨b, off, rfl, hc⟩ := HE.out (by omega)
      obtain ⟨c, hc1, hc2⟩ := hc k x hx
      have hd1 : wr.cell? ⟨b, off + k, none⟩ = some (.iface 39 (.pointer (some ⟨c, 0, none⟩))) := (hbel.cell (World.block_lt_of_cell? _ _ hc1)).trans hc1
      have hd2 : wr.cell? ⟨c, 0, none⟩ = some (.string x) := (hbel.cell (World.block_lt_of_cell? _ _ hc2)).trans hc2
      clear hc1 hc2 hc
      have hmeth := method_err
      go_wp2_with (first
        | (at_builtin; refine wpList_append_own _ rfl _ _ 26 rfl w.heap.size 9 i0 (.string ByteArray.empty) 1 16 Try.underlying26 hi hz0 hz1 hz2 rfl (by decide) _ _ _ rfl (hown.alloc _) ⟨wr.heap.size, 0, none⟩ 1 1 [.string x] rfl rfl ?c1 ?c2 ?c3 ?c4 ?c5 ?_)
        | go_in)
      case c1 => exact cell_one_new _ _ _
      case c2 => intro u hu; simp at hu; subst hu; rfl
      case c3 => unfold maxLen; omega
      case c4 => omega
      case c5 => have := hbel.size; simp; omega
      intro v' w1 hown' hgrow _
      have hb2 : Below w.heap.size w w1 := (hbel.alloc hbel.size _).grown hgrow (by have := hbel.size; simp; omega) (fun j hj => (hown.lt j hj).1)
      have ht : (xs.map Value.string).take k ++ [.string x] = (xs.take (k + 1)).map Value.string := by rw [List.take_add_one, hx, List.map_append, List.map_take]; rfl
      rw [ht] at hown'
      have HO : Hid (w1.ownsRow w.heap.size 9 1 v' (k + 1) ((xs.take (k + 1)).map Value.string)) := hown'
      have HB2 : Hid (Below w.heap.size w w1) := hb2
      clear hown' hgrow hb2 ht hx hown hbel hd1 hd2 hmeth
      go_wp2
      go_roundw
      case rel => exact ⟨k + 1, by go_num, by omega, HO.out, HB2.out⟩
      case measure => simp [intOf]; omega
    · have hke : k = xs.length := by omega
      subst hke
      rw [List.take_length] at hown
      have hjl := joined_len xs
      have HBel : Hid (Below w.heap.size w wr) := hbel
      obtain ⟨hol, ⟨rfl, hk0⟩ | ⟨g, cap', cur, rfl, hg, hcur, hn1, hn2, hn3, hn4⟩⟩ := hown
      · have hx0 : xs = [] := List.eq_nil_of_length_eq_zero hk0
        subst hx0
        clear hol hk0
        go_wp2_with fail
        refine (Try.strings_Join_none none 0 _ _).mono ?_
        rintro e w' ⟨rfl, rfl⟩
        go_wp2_with fail
        go_ret
        exact ⟨rfl, HBel.out⟩
      · have hcells : ∀ (j : Nat) x, xs[j]? = some x → wr.cell? ⟨g, 0 + j, none⟩ = some (.string x) := by
          intro j x hx
          have hown2 : wr.ownsRow w.heap.size 9 1 (.slice (some ⟨g, 0, none⟩) xs.length cap') xs.length (xs.map Value.string) := ⟨hol, .inr ⟨g, cap', cur, rfl, hg, hcur, hn1, hn2, hn3, hn4⟩⟩
          have := hown2.cells (g := g) rfl j (.string x) (by rw [List.getElem?_map, hx]; rfl)
          rwa [Addr.add_lit] at this
        have hgl : g < wr.heap.size := (Array.getElem?_eq_some_iff.1 hcur).1
        have HC : Hid (∀ (j : Nat) x, xs[j]? = some x → wr.cell? ⟨g, 0 + j, none⟩ = some (.string x)) := hcells
        clear hcells hcur hol hn4 hn3
        go_wp2_with fail
        refine (Try.strings_Join g 0 cap' xs _ _ HC.out hgl (by omega) hn1 (by show (Lib.join (xs.map (·.data.toList)) [59, 32]).length ≤ _; omega)).mono ?_
        rintro e w' ⟨rfl, hw'⟩
        have HW : Hid (Below wr.heap.size wr w') := hw'
        clear hw'
        go_wp2_with fail
        go_ret
        exact ⟨rfl, HBel.out.trans (HW.out.mono HBel.out.size)⟩
end Go.Proofs.Qxb6612408a
