/-
  ZZinvalidErrorText: the texts, joined; the name has no part in it.
-/
import Derived.Test.Qxb6612408aErr
namespace Go.Proofs.Qxb6612408a
open Go.RowKit

theorem Try.info33 : (Try.prog.info? 33).map (fun i => (i.zero, i.size, i.bytes)) = some (some .nilIface, 1, 16) := by kernel_rfl

theorem StrsIs.below {w w' : World} {a : Option Addr} {xs : List ByteArray} (h : StrsIs w a xs) (hb : Below w.heap.size w w') : StrsIs w' a xs := by
  intro hl
  obtain ⟨b, off, e, hc⟩ := h hl
  exact ⟨b, off, e, fun j x hx => (hb.cell (World.block_lt_of_cell? _ _ (hc j x hx))).trans (hc j x hx)⟩

theorem neq_nil (W : World) (n c : Nat) : (binOp .neq 26 (.slice none n c) (.slice none 0 0)).run Try.prog W = .ok (.bool false) W := by
  have := run_neq_slice_nil_any (P := Try.prog) W 26 9 none n c 0 0 Try.underlying26
  simpa using this
theorem neq_some (W : World) (a : Addr) (n c : Nat) : (binOp .neq 26 (.slice (some a) n c) (.slice none 0 0)).run Try.prog W = .ok (.bool true) W := by
  have := run_neq_slice_nil_any (P := Try.prog) W 26 9 (some a) n c 0 0 Try.underlying26
  simpa using this

def NilRel (v u : Value) : Prop := v = .slice none 0 0 ∧ u = .int .i64 0

/-- The loop's head. -/
def TextRel (w : World) (xs : List ByteArray) (v u : Value) (wr : World) : Prop :=
  ∃ k : Nat, u = .int .i64 k ∧ k ≤ xs.length ∧ v = .slice (some ⟨w.heap.size, 0, none⟩) k xs.length ∧ Below w.heap.size w wr ∧ w.heap.size < wr.heap.size ∧
    ∃ vs : List Value, wr.ownsRow w.heap.size 33 1 v k vs ∧ ∀ j x, j < k → xs[j]? = some x → ∃ c, w.heap.size < c ∧ vs[j]? = some (.iface 39 (.pointer (some ⟨c, 0, none⟩))) ∧ wr.cell? ⟨c, 0, none⟩ = some (.string x)

/-- One error more. -/
theorem text_step {w wr w1 : World} {xs : List ByteArray} {k : Nat} {x : ByteArray} {vs : List Value} (hx : xs[k]? = some x) (hbel : Below w.heap.size w wr) (hsz : w.heap.size < wr.heap.size)
    (hown : wr.ownsRow w.heap.size 33 1 (.slice (some ⟨w.heap.size, 0, none⟩) k xs.length) k vs)
    (hvs : ∀ j x, j < k → xs[j]? = some x → ∃ c, w.heap.size < c ∧ vs[j]? = some (.iface 39 (.pointer (some ⟨c, 0, none⟩))) ∧ wr.cell? ⟨c, 0, none⟩ = some (.string x)) (o : Obj)
    (hg : ((wr.alloc (.cells #[.string x] 41)).alloc o).grownBy w1 (some w.heap.size)) :
    Below w.heap.size w w1 ∧ w.heap.size < w1.heap.size ∧ ∀ j y, j < k + 1 → xs[j]? = some y → ∃ c, w.heap.size < c ∧ (vs ++ [.iface 39 (.pointer (some ⟨wr.heap.size, 0, none⟩))])[j]? = some (.iface 39 (.pointer (some ⟨c, 0, none⟩))) ∧ w1.cell? ⟨c, 0, none⟩ = some (.string y) := by
  have hlen : vs.length = k := by have := hown.1; omega
  have e1 : (wr.alloc (.cells #[.string x] 41)).heap.size = wr.heap.size + 1 := by simp
  refine ⟨((hbel.alloc hbel.size _).alloc (by omega) _).grown hg (by simp; omega) (fun j hj => by obtain rfl := Option.some.inj hj; exact Nat.le_refl _), by have := hg.size; simp at this; omega, fun j y hj hy => ?_⟩
  by_cases e : j = k
  · subst e
    obtain rfl := Option.some.inj (hx.symm.trans hy)
    refine ⟨wr.heap.size, hsz, ?_, ?_⟩
    · rw [List.getElem?_append_right (by omega), hlen]; simp
    · refine hg.cell ?_ (by intro h; have := Option.some.inj h; simp at this; omega)
      rw [World.cell?_alloc_past _ _ _ (by omega), World.cell?_alloc_at _ _ _ _ rfl]
      rfl
  · obtain ⟨c, h1, h2, h3⟩ := hvs j y (by omega) hy
    have hcl := World.block_lt_of_cell? _ _ h3
    have hcl' : c < wr.heap.size := hcl
    refine ⟨c, h1, ?_, ?_⟩
    · rw [List.getElem?_append_left (by omega)]; exact h2
    · refine hg.cell ?_ (by intro h; have := Option.some.inj h; simp at this; omega)
      rw [World.cell?_alloc_past _ _ _ (by omega), World.cell?_alloc_past _ _ _ (by omega)]
      exact h3

/-- The errors, as Error reads them. -/
theorem errs_of {w wr : World} {xs : List ByteArray} {vs : List Value} (hown : wr.ownsRow w.heap.size 33 1 (.slice (some ⟨w.heap.size, 0, none⟩) xs.length xs.length) xs.length vs)
    (hvs : ∀ j x, j < xs.length → xs[j]? = some x → ∃ c, w.heap.size < c ∧ vs[j]? = some (.iface 39 (.pointer (some ⟨c, 0, none⟩))) ∧ wr.cell? ⟨c, 0, none⟩ = some (.string x)) (o : Obj) :
    ErrsIs (wr.alloc o) (some ⟨w.heap.size, 0, none⟩) xs := by
  intro _
  refine ⟨w.heap.size, 0, rfl, fun j x hx => ?_⟩
  have hj : j < xs.length := (List.getElem?_eq_some_iff.1 hx).1
  obtain ⟨c, h1, h2, h3⟩ := hvs j x hj hx
  have h4 := hown.cells (g := w.heap.size) rfl j _ h2
  rw [Addr.add_lit] at h4
  refine ⟨c, ?_, ?_⟩
  · rw [World.cell?_alloc_past _ _ _ (World.block_lt_of_cell? _ _ h4)]; exact h4
  · rw [World.cell?_alloc_past _ _ _ (World.block_lt_of_cell? _ _ h3)]; exact h3

theorem made0 (n : Nat) (hn : n ≤ 1048576) (W : World) : (Instr.makeSlice 31 (.int .i64 0) (.int .i64 (n : Int))).run Try.prog W = .ok (.slice (some ⟨W.heap.size, 0, none⟩) 0 n) (W.alloc (.cells (madeCells #[.nilIface] n) 33)) := by
  obtain ⟨i0, hi, hz0, hz1, hz2⟩ := info_parts Try.info33
  have h := run_make (P := Try.prog) W 31 33 i0 .nilIface Try.underlying31 hi hz0 .i64 .i64 0 n (by omega) (by omega) (by rw [hz2]; omega) (by omega)
  simp only [hz1, Nat.mul_one, Int.toNat_natCast] at h
  exact h

set_option maxHeartbeats 1000000 in
theorem text_nil (name : ByteArray) (w : World) :
    Calls Try.prog 10 #[.string name, .slice none 0 0] w fun e w' => e = .returned (.string (joined [])) ∧ Below w.heap.size w w' := by
  have q := neq_nil
  go_enter Try.func10, Try.ntmps10
  go_wp2_with fail
  go_loop [5, 16] (fun v u => NilRel v u) (fun _ _ => 0)
  case atStart => exact ⟨rfl, rfl⟩
  case round =>
    obtain ⟨rfl, rfl⟩ := hrel
    go_wp2_with fail
    refine (err_any w.heap.size 0 none [] _ (by decide) (by simp [go_sem]) (fun h => absurd h (by decide))).mono ?_
    rintro e w' ⟨rfl, hw'⟩
    have HW : Hid (Below _ _ w') := hw'
    clear hw'
    go_wp2_with fail
    go_ret
    exact ⟨rfl, ((Below.refl _ _).alloc (Nat.le_refl _) _).trans (HW.out.mono (by simp))⟩

set_option maxHeartbeats 1000000 in
theorem text_some (name : ByteArray) (a : Addr) (cap : Nat) (xs : List ByteArray) (w : World) (hb : 18 * xs.length + sz xs ≤ 4194304) (hn : xs.length ≤ 1048576) (h : StrsIs w (some a) xs) :
    Calls Try.prog 10 #[.string name, .slice (some a) xs.length cap] w fun e w' => e = .returned (.string (joined xs)) ∧ Below w.heap.size w w' := by
  have HS : Hid (StrsIs w (some a) xs) := h
  clear h
  have q := neq_some
  have mk := made0 xs.length hn
  obtain ⟨i0, hi, hz0, hz1, hz2⟩ := info_parts Try.info33
  go_enter Try.func10, Try.ntmps10
  go_wp2
  go_loopw [5, 16] (fun v u wr => TextRel w xs v u wr) (fun _ u _ => xs.length - (intOf u).toNat)
  case atStart =>
    refine ⟨0, rfl, by omega, rfl, (Below.refl _ _).alloc (Nat.le_refl _) _, by simp, [], ?_, fun j x hj => by omega⟩
    exact World.ownsRow_made w _ _ (Nat.le_refl _) (by unfold maxLen; omega) (by rw [size_madeCells]; omega)
  case round =>
    obtain ⟨k, rfl, hk, rfl, hbel, hsz, vs, hown, hvs⟩ := hrel
    by_cases hlt : k < xs.length
    · obtain ⟨x, hx⟩ : ∃ x, xs[k]? = some x := ⟨_, List.getElem?_eq_getElem hlt⟩
      obtain ⟨b, off, ha, hc⟩ := HS.out (by omega)
      obtain rfl := Option.some.inj ha
      have hd : wr.cell? ⟨b, off + k, none⟩ = some (.string x) := (hbel.cell (World.block_lt_of_cell? _ _ (hc k x hx))).trans (hc k x hx)
      have HVS : Hid (∀ j x, j < k → xs[j]? = some x → ∃ c, w.heap.size < c ∧ vs[j]? = some (.iface 39 (.pointer (some ⟨c, 0, none⟩))) ∧ wr.cell? ⟨c, 0, none⟩ = some (.string x)) := hvs
      clear hc hvs ha
      go_wp2_with (first
        | (at_builtin; refine wpList_append_fits _ rfl _ _ 31 rfl w.heap.size 33 i0 1 Try.underlying31 hi hz1 w.heap.size k xs.length vs rfl ((hown.alloc _).alloc _) ⟨wr.heap.size + 1, 0, none⟩ 1 1 [.iface 39 (.pointer (some ⟨wr.heap.size, 0, none⟩))] rfl rfl ?c1 ?c2 (by omega) ?_)
        | go_in)
      case c1 =>
        intro j u hj
        match j, hj with
        | 0, hj => simp at hj; subst hj; simp [Addr.add, go_sem]
      case c2 => intro u hu; simp at hu; subst hu; rfl
      intro w1 hown' hgrow
      obtain ⟨s1, s2, s3⟩ := text_step hx hbel hsz hown HVS.out _ hgrow
      have H1 : Hid (Below w.heap.size w w1) := s1
      have H3 : Hid (∀ j y, j < k + 1 → xs[j]? = some y → ∃ c, w.heap.size < c ∧ (vs ++ [.iface 39 (.pointer (some ⟨wr.heap.size, 0, none⟩))])[j]? = some (.iface 39 (.pointer (some ⟨c, 0, none⟩))) ∧ w1.cell? ⟨c, 0, none⟩ = some (.string y)) := s3
      have H4 : Hid (w1.ownsRow w.heap.size 33 1 (.slice (some ⟨w.heap.size, 0, none⟩) (k + 1) xs.length) (k + 1) (vs ++ [.iface 39 (.pointer (some ⟨wr.heap.size, 0, none⟩))])) := hown'
      clear s1 s3 hown' hgrow hown hbel hd hx hsz
      go_wp2
      go_roundw
      case rel => exact ⟨k + 1, by go_num, by omega, rfl, H1.out, s2, _, H4.out, H3.out⟩
      case measure => simp [intOf]; omega
    · have hke : k = xs.length := by omega
      subst hke
      have hE := errs_of hown hvs (.cells #[.string name, .slice (some ⟨w.heap.size, 0, none⟩) xs.length xs.length] 37)
      have HE : Hid (ErrsIs (wr.alloc (.cells #[.string name, .slice (some ⟨w.heap.size, 0, none⟩) xs.length xs.length] 37)) (some ⟨w.heap.size, 0, none⟩) xs) := hE
      have HB : Hid (Below w.heap.size w wr) := hbel
      clear hE hown hvs hbel
      go_wp2_with fail
      refine (err_any wr.heap.size xs.length (some ⟨w.heap.size, 0, none⟩) xs _ hb (by simp [go_sem]) HE.out).mono ?_
      rintro e w' ⟨rfl, hw'⟩
      have HW : Hid (Below _ _ w') := hw'
      clear hw'
      go_wp2_with fail
      go_ret
      exact ⟨rfl, (HB.out.alloc HB.out.size _).trans (HW.out.mono (by simp; omega))⟩

/-- Both. -/
theorem text_any (name : ByteArray) (a : Option Addr) (cap : Nat) (xs : List ByteArray) (w : World) (hb : 18 * xs.length + sz xs ≤ 4194304) (ha : a = none → xs = [] ∧ cap = 0) (h : StrsIs w a xs) :
    Calls Try.prog 10 #[.string name, .slice a xs.length cap] w fun e w' => e = .returned (.string (joined xs)) ∧ Below w.heap.size w w' := by
  cases a with
  | none =>
    obtain ⟨rfl, rfl⟩ := ha rfl
    exact text_nil name w
  | some a => exact text_some name a cap xs w hb (by omega) h
end Go.Proofs.Qxb6612408a
