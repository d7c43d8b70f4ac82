/-
  What zzBuildPages lays in memory, and how each of its steps carries it on. No walk here.
-/
import Derived.Test.Qxb6612302aDoorModel
import Derived.Deep.OwnRows
namespace Go.Proofs.Qxb6612302aDoor
open Go.RowKit

theorem made_at (z : Value) (n i : Nat) (h : i < n) : (madeCells #[z] n)[i]? = some z := by
  simp [madeCells, h, Nat.mod_one]

theorem BitsAt.congr {w : World} {b off len : Nat} {f g : Nat → Bool} (h : BitsAt w b off len f) (e : ∀ t, t < 64 * len → f t = g t) : BitsAt w b off len g := by
  intro j hj
  obtain ⟨x, h1, h2, h3⟩ := h j hj
  exact ⟨x, h1, h2, fun t ht => (h3 t ht).trans (e _ (by omega))⟩

theorem BitsAt.kept {w w' : World} {b off len : Nat} {f : Nat → Bool} (h : BitsAt w b off len f) (e : ∀ j, j < len → w'.cell? ⟨b, off + j, none⟩ = w.cell? ⟨b, off + j, none⟩) : BitsAt w' b off len f := by
  intro j hj
  obtain ⟨x, h1, h2, h3⟩ := h j hj
  exact ⟨x, h1, (e j hj).trans h2, h3⟩

theorem BitsAt.below {w w' : World} {B b off len : Nat} {f : Nat → Bool} (h : BitsAt w b off len f) (hb : Below B w w') (hB : b < B) : BitsAt w' b off len f :=
  h.kept fun _ _ => hb.cell hB

theorem bits_made (w : World) (n e : Nat) : BitsAt (w.alloc (.cells (madeCells #[.int .u64 0] n) e)) w.heap.size 0 n (fun _ => false) := by
  intro j hj
  refine ⟨0, by decide, ?_, fun t _ => by simp⟩
  rw [World.cell?_alloc_at _ _ _ _ rfl, Nat.zero_add, made_at _ _ _ hj]
  rfl

theorem addr_ne {b o b' o' : Nat} (h : b ≠ b' ∨ o ≠ o') : (⟨b, o, none⟩ : Addr) ≠ ⟨b', o', none⟩ := by
  intro e
  rw [Addr.mk.injEq] at e
  omega

theorem cell_other {w : World} {b o b' o' : Nat} {v : Value} (h : b ≠ b' ∨ o ≠ o') : (w.setCell ⟨b, o, none⟩ v).cell? ⟨b', o', none⟩ = w.cell? ⟨b', o', none⟩ :=
  World.cell?_setCell_other _ _ _ _ (addr_ne h)
theorem cell_same {w : World} {b o : Nat} {u v : Value} (h : w.cell? ⟨b, o, none⟩ = some u) : (w.setCell ⟨b, o, none⟩ v).cell? ⟨b, o, none⟩ = some v :=
  World.cell?_setCell_same _ _ _ h

theorem lt_of_cell {w : World} {a : Addr} {u : Value} (h : w.cell? a = some u) : a.block < w.heap.size := World.block_lt_of_cell? _ _ h

theorem BitsAt.other {w : World} {b off len : Nat} {f : Nat → Bool} (h : BitsAt w b off len f) {b' o' : Nat} (hb : b' ≠ b) (v : Value) : BitsAt (w.setCell ⟨b', o', none⟩ v) b off len f :=
  h.kept fun _ _ => cell_other (.inl hb)

/-- One bit more. -/
theorem BitsAt.set {w : World} {b len i x : Nat} {f : Nat → Bool} (h : BitsAt w b 0 len f) (hx : w.cell? ⟨b, i / 64, none⟩ = some (.int .u64 x)) :
    BitsAt (w.setCell ⟨b, i / 64, none⟩ (.int .u64 ((x ||| 2 ^ (i % 64) : Nat) : Int))) b 0 len (fun t => f t || decide (t = i)) := by
  intro j hj
  obtain ⟨y, h1, h2, h3⟩ := h j hj
  rw [Nat.zero_add] at h2 ⊢
  by_cases e : j = i / 64
  · subst e
    rw [hx] at h2
    have ey : x = y := by
      simp only [Option.some.injEq, Value.int.injEq] at h2
      omega
    subst ey
    refine ⟨x ||| 2 ^ (i % 64), or_bit_lt h1 (by omega), cell_same hx, fun t ht => ?_⟩
    rw [or_bit, h3 t ht]
    congr 1
    exact decide_eq_decide.2 (by omega)
  · refine ⟨y, h1, (cell_other (.inr (by omega))).trans h2, fun t ht => ?_⟩
    show y.testBit t = (f (64 * j + t) || decide (64 * j + t = i))
    rw [h3 t ht, decide_eq_false (by omega), Bool.or_false]

theorem OccIs.below {w w' : World} {a : Option Addr} {len : Nat} {f : Nat → Bool} (h : OccIs w a len f) (hb : Below w.heap.size w w') : OccIs w' a len f := by
  refine ⟨h.1, fun hl => ?_⟩
  obtain ⟨b, off, e, hB⟩ := h.2 hl
  obtain ⟨x, _, hc, _⟩ := hB 0 hl
  exact ⟨b, off, e, hB.below hb (lt_of_cell hc)⟩

theorem TabHere.below {w w' : World} (h : TabHere w) (hb : Below w.heap.size w w') : TabHere w' := fun j hj => (hb.cell (lt_of_cell (h j hj))).trans (h j hj)

/-- Page p, in blocks from B on. -/
def PageOwn (w : World) (B pb p slots : Nat) (O : Nat → Bool) : Prop :=
  ∃ b1 b2, B ≤ b1 ∧ B ≤ b2 ∧ w.cell? ⟨pb, p, none⟩ = some (.pointer (some ⟨b1, 0, none⟩)) ∧ w.cell? ⟨b1, 1, none⟩ = some (.slice (some ⟨b2, 0, none⟩) (pwords slots p) (pwords slots p)) ∧
    BitsAt w b2 0 (pwords slots p) (fun i => O (4096 * p + i))

/-- What lies there when the first q pages are built: w: the world as the call began; the pages' slice in block w.heap.size, the page bits in the next. -/
structure Built (w wr : World) (slots q : Nat) (O U : Nat → Bool) : Prop where
  old : Below w.heap.size w wr
  size : w.heap.size + 2 ≤ wr.heap.size
  fp : ∀ j, wr.frozen? ⟨w.heap.size, j, none⟩ = false
  fu : ∀ j, wr.frozen? ⟨w.heap.size + 1, j, none⟩ = false
  used : BitsAt wr (w.heap.size + 1) 0 (nused slots) (fun p => decide (p < q) && U p)
  page : ∀ p, p < q → U p = true → PageOwn wr (w.heap.size + 2) w.heap.size p slots O
  nopage : ∀ p, p < npages slots → (q ≤ p ∨ U p = false) → wr.cell? ⟨w.heap.size, p, none⟩ = some (.pointer none)

/-- The inner loop's world: nothing laid yet, or the page's words. w1: the world at the inner loop's start. -/
structure Words (w1 wr : World) (L : Nat) (f : Nat → Bool) : Prop where
  old : Below w1.heap.size w1 wr
  size : wr.heap.size = w1.heap.size + 1
  fz : ∀ j, wr.frozen? ⟨w1.heap.size, j, none⟩ = false
  bits : BitsAt wr w1.heap.size 0 L f

theorem Words.made (w1 : World) (L e : Nat) : Words w1 (w1.alloc (.cells (madeCells #[.int .u64 0] L) e)) L (fun _ => false) :=
  ⟨(Below.refl _ _).alloc (Nat.le_refl _) _, by simp, fun j => World.frozen?_alloc_at _ _ _ _ rfl, bits_made _ _ _⟩

theorem Words.set {w1 wr : World} {L i x : Nat} {f : Nat → Bool} (h : Words w1 wr L f) (hx : wr.cell? ⟨w1.heap.size, i / 64, none⟩ = some (.int .u64 x)) :
    Words w1 (wr.setCell ⟨w1.heap.size, i / 64, none⟩ (.int .u64 ((x ||| 2 ^ (i % 64) : Nat) : Int))) L (fun t => f t || decide (t = i)) :=
  ⟨h.old.setCell (Nat.le_refl _) _, by simpa using h.size, fun j => (World.frozen?_setCell _ _ _ _).trans (h.fz j), h.bits.set hx⟩

theorem Words.congr {w1 wr : World} {L : Nat} {f g : Nat → Bool} (h : Words w1 wr L f) (e : ∀ t, t < 64 * L → f t = g t) : Words w1 wr L g := ⟨h.old, h.size, h.fz, h.bits.congr e⟩

theorem PageOwn.below {wr wr' : World} {B p slots : Nat} {O : Nat → Bool} (h : PageOwn wr (B + 2) B p slots O) (hb : Below wr.heap.size wr wr') : PageOwn wr' (B + 2) B p slots O := by
  obtain ⟨b1, b2, h1, h2, h3, h4, h5⟩ := h
  refine ⟨b1, b2, h1, h2, (hb.cell (lt_of_cell h3)).trans h3, (hb.cell (lt_of_cell h4)).trans h4, fun j hj => ?_⟩
  obtain ⟨x, g1, g2, g3⟩ := h5 j hj
  exact ⟨x, g1, (hb.cell (lt_of_cell g2)).trans g2, g3⟩

theorem PageOwn.other {w : World} {B p slots : Nat} {O : Nat → Bool} (h : PageOwn w (B + 2) B p slots O) {b o : Nat} (hb : b < B + 2) (hne : b ≠ B ∨ o ≠ p) (v : Value) : PageOwn (w.setCell ⟨b, o, none⟩ v) (B + 2) B p slots O := by
  obtain ⟨b1, b2, h1, h2, h3, h4, h5⟩ := h
  refine ⟨b1, b2, h1, h2, (cell_other hne).trans h3, (cell_other (.inl (by omega))).trans h4, h5.other (by omega) _⟩

/-- A page without an occupied slot: nothing is laid. -/
theorem Built.skip {w wr : World} {slots q : Nat} {O U : Nat → Bool} (h : Built w wr slots q O U) (hU : U q = false) : Built w wr slots (q + 1) O U := by
  refine ⟨h.old, h.size, h.fp, h.fu, h.used.congr fun t _ => ?_, fun p hp hu => ?_, fun p hp hor => ?_⟩
  · by_cases e : t = q
    · subst e; simp [hU]
    · congr 1; exact decide_eq_decide.2 (by omega)
  · have : p ≠ q := fun e => by subst e; rw [hU] at hu; cases hu
    exact h.page p (by omega) hu
  · refine h.nopage p hp ?_
    rcases hor with g | g
    · exact .inl (by omega)
    · exact .inr g

/-- A page with one: its words, its page, its pointer, its bit. -/
theorem Built.take {w wr wi : World} {slots q x c : Nat} {O U : Nat → Bool} (h : Built w wr slots q O U) (hU : U q = true) (hq : q < npages slots)
    (hw : Words wr wi (pwords slots q) (fun i => O (4096 * q + i))) (hx : wi.cell? ⟨w.heap.size + 1, q / 64, none⟩ = some (.int .u64 x)) :
    Built w (((wi.setCell ⟨w.heap.size, q, none⟩ (.pointer (some ⟨wi.heap.size, 0, none⟩))).setCell ⟨w.heap.size + 1, q / 64, none⟩ (.int .u64 ((x ||| 2 ^ (q % 64) : Nat) : Int))).alloc
      (.cells #[.slice none 0 0, .slice (some ⟨wr.heap.size, 0, none⟩) (pwords slots q) (pwords slots q), .int .i64 c] 42)) slots (q + 1) O U := by
  have hs := h.size
  have hs' := hw.size
  have base : Built w wi slots q O U :=
    ⟨h.old.trans (hw.old.mono (by omega)), by omega, fun j => (hw.old.frozen (p := ⟨w.heap.size, j, none⟩) (by show w.heap.size < wr.heap.size; omega)).trans (h.fp j),
      fun j => (hw.old.frozen (p := ⟨w.heap.size + 1, j, none⟩) (by show w.heap.size + 1 < wr.heap.size; omega)).trans (h.fu j), h.used.below hw.old (by omega), fun p hp hu => (h.page p hp hu).below hw.old,
      fun p hp hor => (hw.old.cell (p := ⟨w.heap.size, p, none⟩) (by show w.heap.size < wr.heap.size; omega)).trans (h.nopage p hp hor)⟩
  have hpq := base.nopage q hq (.inl (Nat.le_refl _))
  generalize hv1 : Value.pointer (some ⟨wi.heap.size, 0, none⟩) = v1
  generalize hv2 : Value.int .u64 ((x ||| 2 ^ (q % 64) : Nat) : Int) = v2
  have e0 : ((wi.setCell ⟨w.heap.size, q, none⟩ v1).setCell ⟨w.heap.size + 1, q / 64, none⟩ v2).heap.size = wi.heap.size := by simp
  have cold : ∀ b o, b < wi.heap.size → ∀ ob, (((wi.setCell ⟨w.heap.size, q, none⟩ v1).setCell ⟨w.heap.size + 1, q / 64, none⟩ v2).alloc ob).cell? ⟨b, o, none⟩ = ((wi.setCell ⟨w.heap.size, q, none⟩ v1).setCell ⟨w.heap.size + 1, q / 64, none⟩ v2).cell? ⟨b, o, none⟩ :=
    fun b o hb ob => World.cell?_alloc_past _ _ _ (by rw [e0]; exact hb)
  refine ⟨?_, by simp; omega, fun j => ?_, fun j => ?_, ?_, fun p hp hu => ?_, fun p hp hor => ?_⟩
  · exact (((base.old.setCell (Nat.le_refl _) _).setCell (Nat.le_add_right _ _) _)).alloc (by rw [e0]; omega) _
  · rw [World.frozen?_alloc_past _ _ _ (by rw [e0]; omega), World.frozen?_setCell, World.frozen?_setCell]; exact base.fp j
  · rw [World.frozen?_alloc_past _ _ _ (by rw [e0]; omega), World.frozen?_setCell, World.frozen?_setCell]; exact base.fu j
  · have g := (base.used.other (b' := w.heap.size) (o' := q) (by omega) v1).set (i := q) (x := x) ((cell_other (.inl (by omega))).trans hx)
    rw [hv2] at g
    refine (g.kept fun j hj => cold _ _ (by omega) _).congr fun t _ => ?_
    by_cases e : t = q
    · subst e; simp [hU]
    · rw [decide_eq_false e, Bool.or_false]; congr 1; exact decide_eq_decide.2 (by omega)
  · by_cases e : p = q
    · subst e
      subst hv1
      refine ⟨wi.heap.size, wr.heap.size, by omega, by omega, ?_, ?_, ?_⟩
      · refine (cold _ _ (by omega) _).trans ((cell_other (.inl (by omega))).trans (cell_same hpq))
      · rw [World.cell?_alloc_at _ _ _ _ e0.symm]; rfl
      · refine hw.bits.kept fun j hj => ?_
        exact (cold _ _ (by omega) _).trans ((cell_other (.inl (by omega))).trans (cell_other (.inl (by omega))))
    · have g := ((base.page p (by omega) hu).other (b := w.heap.size) (o := q) (by omega) (.inr (by omega)) v1).other (b := w.heap.size + 1) (o := q / 64) (by omega) (.inl (by omega)) v2
      exact g.below ((Below.refl _ _).alloc (Nat.le_refl _) _)
  · have hne : p ≠ q := by
      rcases hor with g | g
      · omega
      · intro e; subst e; rw [hU] at g; cases g
    refine (cold _ _ (by omega) _).trans ((cell_other (.inl (by omega))).trans ((cell_other (.inr (by omega))).trans (base.nopage p hp ?_)))
    rcases hor with g | g
    · exact .inl (by omega)
    · exact .inr g

/-- At the start: two rows of noughts. -/
theorem Built.start (w : World) (slots e1 e2 : Nat) (O U : Nat → Bool) :
    Built w ((w.alloc (.cells (madeCells #[.pointer none] (npages slots)) e1)).alloc (.cells (madeCells #[.int .u64 0] (nused slots)) e2)) slots 0 O U := by
  have e0 : (w.alloc (.cells (madeCells #[.pointer none] (npages slots)) e1)).heap.size = w.heap.size + 1 := by simp
  refine ⟨((Below.refl _ _).alloc (Nat.le_refl _) _).alloc (by omega) _, by simp, fun j => ?_, fun j => ?_, ?_, fun p hp => by omega, fun p hp _ => ?_⟩
  · rw [World.frozen?_alloc_past _ _ _ (by omega)]; exact World.frozen?_alloc_at _ _ _ _ rfl
  · exact World.frozen?_alloc_at _ _ _ _ e0.symm
  · have := bits_made (w.alloc (.cells (madeCells #[.pointer none] (npages slots)) e1)) (nused slots) e2
    rw [e0] at this
    exact this.congr fun t _ => by simp
  · rw [World.cell?_alloc_past _ _ _ (by omega), World.cell?_alloc_at _ _ _ _ rfl]
    exact made_at _ _ _ hp

/-- The inner loop has gone as far as k, and past k no slot of the page is occupied. -/
theorem inner_none {slots q k : Nat} {f U : Nat → Bool} (hF : Fits slots (occOf slots f) U) (hn : ∀ t, t < k → f (4096 * q + t) = false) (hend : ∀ t, k ≤ t → t < 4096 → occOf slots f (4096 * q + t) = false) : U q = false := by
  cases hU : U q with
  | false => rfl
  | true =>
    obtain ⟨i, hi, ho⟩ := (hF.2 q).1 hU
    by_cases hk : i < k
    · unfold occOf at ho
      rw [hn i hk, Bool.and_false] at ho; cases ho
    · rw [hend i (by omega) hi] at ho; cases ho

theorem inner_some {w1 wr : World} {slots q k m : Nat} {f U : Nat → Bool} (hF : Fits slots (occOf slots f) U) (hk : k ≤ m) (hm : m ≤ 4096) (hms : 4096 * q + m ≤ slots)
    (hw : Words w1 wr (pwords slots q) (fun t => decide (t < k) && f (4096 * q + t))) (ht : ∃ t, t < k ∧ f (4096 * q + t) = true) (hend : ∀ t, k ≤ t → t < 4096 → occOf slots f (4096 * q + t) = false) :
    U q = true ∧ Words w1 wr (pwords slots q) (fun i => occOf slots f (4096 * q + i)) := by
  obtain ⟨t, ht1, ht2⟩ := ht
  have hpw := pwords_le slots q
  refine ⟨(hF.2 q).2 ⟨t, by omega, by rw [occOf_lt (by omega)]; exact ht2⟩, hw.congr fun i hi => ?_⟩
  by_cases hik : i < k
  · rw [decide_eq_true hik, Bool.true_and, occOf_lt (by omega)]
  · rw [decide_eq_false hik, Bool.false_and, hend i (by omega) (by omega)]

/-- Past the argument's end nothing is occupied. -/
theorem end_break {slots q k len : Nat} {f : Nat → Bool} (hf : ∀ s, len ≤ s / 64 → f s = false) (hb : len ≤ (4096 * q + k) / 64) : ∀ t, k ≤ t → t < 4096 → occOf slots f (4096 * q + t) = false := by
  intro t ht _
  unfold occOf
  rw [hf _ (by omega), Bool.and_false]

theorem end_done {slots q k m : Nat} {f : Nat → Bool} (hm : m = min (slots - 4096 * q) 4096) (hk : m ≤ k) : ∀ t, k ≤ t → t < 4096 → occOf slots f (4096 * q + t) = false :=
  fun t _ _ => occOf_ge (by omega)

/-- One slot on, not occupied. -/
theorem words_on {w1 wr : World} {L q k : Nat} {f : Nat → Bool} (hw : Words w1 wr L (fun t => decide (t < k) && f (4096 * q + t))) (h : f (4096 * q + k) = false) : Words w1 wr L (fun t => decide (t < k + 1) && f (4096 * q + t)) :=
  hw.congr fun t _ => by
    by_cases e : t = k
    · subst e; simp [h]
    · congr 1; exact decide_eq_decide.2 (by omega)

/-- One slot on, occupied: its bit is set. -/
theorem words_set {w1 wr : World} {L q k x : Nat} {f : Nat → Bool} (hw : Words w1 wr L (fun t => decide (t < k) && f (4096 * q + t))) (h : f (4096 * q + k) = true)
    (hx : wr.cell? ⟨w1.heap.size, k / 64, none⟩ = some (.int .u64 x)) :
    Words w1 (wr.setCell ⟨w1.heap.size, k / 64, none⟩ (.int .u64 ((x ||| 2 ^ (k % 64) : Nat) : Int))) L (fun t => decide (t < k + 1) && f (4096 * q + t)) :=
  (hw.set hx).congr fun t _ => by
    by_cases e : t = k
    · subst e; simp [h]
    · rw [decide_eq_false e, Bool.or_false]; congr 1; exact decide_eq_decide.2 (by omega)

theorem words_first {w1 : World} {L q k : Nat} {f : Nat → Bool} (e : Nat) (hn : ∀ t, t < k → f (4096 * q + t) = false) : Words w1 (w1.alloc (.cells (madeCells #[.int .u64 0] L) e)) L (fun t => decide (t < k) && f (4096 * q + t)) :=
  (Words.made w1 L e).congr fun t _ => by
    by_cases ht : t < k
    · rw [hn t ht, Bool.and_false]
    · rw [decide_eq_false ht, Bool.false_and]
end Go.Proofs.Qxb6612302aDoor
