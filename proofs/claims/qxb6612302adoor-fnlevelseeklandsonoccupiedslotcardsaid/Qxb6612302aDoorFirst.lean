/-
  (*level).first, (*level).seek, ZZseek: over a level that lies in memory.
-/
import Derived.Test.Qxb6612302aDoorNext
namespace Go.Proofs.Qxb6612302aDoor
open Go.RowKit

/-- How many pages; how many words of page bits; how many words a page has. -/
def npages (slots : Nat) : Nat := (slots + 4095) / 4096
def nused (slots : Nat) : Nat := (npages slots + 63) / 64
def pwords (slots p : Nat) : Nat := (min (slots - 4096 * p) 4096 + 63) / 64

/-- Page p lies in memory with the bits of its slots. -/
def PageAt (w : World) (pb p slots : Nat) (O : Nat → Bool) : Prop :=
  ∃ b1 b2, w.cell? ⟨pb, p, none⟩ = some (.pointer (some ⟨b1, 0, none⟩)) ∧ w.cell? ⟨b1, 1, none⟩ = some (.slice (some ⟨b2, 0, none⟩) (pwords slots p) (pwords slots p)) ∧
    BitsAt w b2 0 (pwords slots p) (fun i => O (4096 * p + i))

/-- A level whose occupied slots are O, whose pages with a timer are U. -/
structure LevelIs (w : World) (lb pb ub slots : Nat) (total : Int) (O U : Nat → Bool) : Prop where
  hs : w.cell? ⟨lb, 0, none⟩ = some (.int .u64 slots)
  hp : w.cell? ⟨lb, 2, none⟩ = some (.slice (some ⟨pb, 0, none⟩) (npages slots) (npages slots))
  hu : w.cell? ⟨lb, 3, none⟩ = some (.slice (some ⟨ub, 0, none⟩) (nused slots) (nused slots))
  ht : w.cell? ⟨lb, 4, none⟩ = some (.int .i64 total)
  t0 : total = 0 → ∀ s, O s = false
  used : BitsAt w ub 0 (nused slots) U
  page : ∀ p, p < npages slots → U p = true → PageAt w pb p slots O
  nopage : ∀ p, p < npages slots → U p = false → w.cell? ⟨pb, p, none⟩ = some (.pointer none)

/-- O has no slot at or above slots; U says which pages hold one. -/
def Fits (slots : Nat) (O U : Nat → Bool) : Prop := (∀ s, slots ≤ s → O s = false) ∧ ∀ p, U p = true ↔ ∃ i, i < 4096 ∧ O (4096 * p + i) = true

theorem Fits.none_of {slots : Nat} {O U : Nat → Bool} (h : Fits slots O U) {p : Nat} (hU : U p = false) {s : Nat} (h1 : 4096 * p ≤ s) (h2 : s < 4096 * (p + 1)) : O s = false := by
  cases hs : O s with
  | false => rfl
  | true =>
    have := (h.2 p).2 ⟨s - 4096 * p, by omega, by rw [show 4096 * p + (s - 4096 * p) = s by omega]; exact hs⟩
    rw [hU] at this; cases this

theorem Fits.below {slots : Nat} {O U : Nat → Bool} (h : Fits slots O U) {p : Nat} (hU : U p = true) : p < npages slots := by
  obtain ⟨i, hi, ho⟩ := (h.2 p).1 hU
  unfold npages
  apply Classical.byContradiction; intro hn
  have := h.1 (4096 * p + i) (by omega)
  rw [ho] at this; cases this

/-- The head of first's loop. -/
def FirstRel (slots fr : Nat) (O : Nat → Bool) (v u : Value) : Prop :=
  ∃ g q : Nat, v = .int .u64 g ∧ u = .int .u64 q ∧ q < npages slots ∧ 4096 * q ≤ g ∧ g < 4096 * (q + 1) ∧ fr ≤ g ∧ ∀ j, fr ≤ j → j < g → O j = false

/-- The page has none from g on, the next page with a timer is q'. -/
theorem first_on {slots fr g q q' : Nat} {O U : Nat → Bool} (hF : Fits slots O U) (hg : ∀ j, fr ≤ j → j < g → O j = false)
    (hp : ∀ j, g ≤ j → j < 4096 * (q + 1) → O j = false) (hn : IsNext U (64 * nused slots) (q + 1) (some q')) :
    q' < npages slots ∧ q < q' ∧ ∀ j, fr ≤ j → j < 4096 * q' → O j = false := by
  obtain ⟨n1, n2, n3, n4⟩ := hn
  refine ⟨hF.below n3, by omega, fun j j1 j2 => ?_⟩
  by_cases a : j < g
  · exact hg j j1 a
  by_cases b : j < 4096 * (q + 1)
  · exact hp j (by omega) b
  · exact hF.none_of (n4 (j / 4096) (by omega) (by omega)) (by omega) (by omega)

theorem first_end {slots fr g q : Nat} {O U : Nat → Bool} (hF : Fits slots O U) (hg : ∀ j, fr ≤ j → j < g → O j = false)
    (hp : ∀ j, g ≤ j → j < 4096 * (q + 1) → O j = false) (hn : IsNext U (64 * nused slots) (q + 1) none) : IsNext O slots fr none := by
  intro j j1 j2
  by_cases a : j < g
  · exact hg j j1 a
  by_cases b : j < 4096 * (q + 1)
  · exact hp j (by omega) b
  · refine hF.none_of (hn (j / 4096) (by omega) ?_) (by omega) (by omega)
    unfold nused npages; omega

/-- A page's bits from g on: none. -/
theorem page_none {slots g q : Nat} {O U : Nat → Bool} (hF : Fits slots O U) (h1 : 4096 * q ≤ g) (hn : IsNext (fun i => O (4096 * q + i)) (64 * pwords slots q) (g % 4096) none) :
    ∀ j, g ≤ j → j < 4096 * (q + 1) → O j = false := by
  intro j j1 j2
  by_cases hs : slots ≤ j
  · exact hF.1 j hs
  have : O (4096 * q + (j - 4096 * q)) = false := hn (j - 4096 * q) (by omega) (by unfold pwords; omega)
  rwa [show 4096 * q + (j - 4096 * q) = j by omega] at this

theorem page_some {slots fr g q i : Nat} {O U : Nat → Bool} (hF : Fits slots O U) (h1 : 4096 * q ≤ g) (h2 : g < 4096 * (q + 1)) (h3 : fr ≤ g) (hg : ∀ j, fr ≤ j → j < g → O j = false)
    (hn : IsNext (fun i => O (4096 * q + i)) (64 * pwords slots q) (g % 4096) (some i)) : i < 4096 ∧ IsNext O slots fr (some (4096 * q + i)) := by
  obtain ⟨n1, n2, n3, n4⟩ := hn
  have hlt : 4096 * q + i < slots := by
    apply Classical.byContradiction; intro hn
    have := hF.1 (4096 * q + i) (by omega)
    have n3' : O (4096 * q + i) = true := n3
    rw [n3'] at this; cases this
  have hw : pwords slots q ≤ 64 := by unfold pwords; omega
  refine ⟨by omega, by omega, hlt, n3, fun j j1 j2 => ?_⟩
  by_cases a : j < g
  · exact hg j j1 a
  · have : O (4096 * q + (j - 4096 * q)) = false := n4 (j - 4096 * q) (by omega) (by omega)
    rwa [show 4096 * q + (j - 4096 * q) = j by omega] at this

theorem npages_le {slots : Nat} (h : slots ≤ 268435456) : npages slots ≤ 65536 := by unfold npages; omega
theorem nused_le {slots : Nat} (h : slots ≤ 268435456) : nused slots ≤ 1024 := by unfold nused npages; omega
theorem pwords_le (slots p : Nat) : pwords slots p ≤ 64 := by unfold pwords; omega

set_option maxHeartbeats 400000 in
theorem first_any (lb pb ub slots fr : Nat) (total : Int) (O U : Nat → Bool) (hF : Fits slots O U) (hsl : slots ≤ 268435456) (hfr : fr < slots) (w : World) (hT : TabHere w)
    (L : LevelIs w lb pb ub slots total O U) :
    Calls Tryd.prog 15 #[.pointer (some ⟨lb, 0, none⟩), .int .u64 fr] w fun e w' => ∃ r, e = .returned (retOf r) ∧ IsNext O slots fr r ∧ w' = w := by
  have hp := L.hp; have hu := L.hu; have ht := L.ht
  have b1 := npages_le hsl
  have b2 := nused_le hsl
  have hq0 : fr / 4096 < npages slots := by unfold npages; omega
  by_cases hz : total = 0
  · subst hz
    have hO := L.t0 rfl
    have HL : Hid (∀ s, O s = false) := hO
    clear hO L
    go_enter Tryd.func15, Tryd.ntmps15
    go_wp2
    go_ret2
    exact ⟨none, rfl, fun i _ _ => HL.out i, rfl⟩
  · have hz' : (total == 0) = false := by simpa using hz
    have HL : Hid (LevelIs w lb pb ub slots total O U) := L
    have HF : Hid (Fits slots O U) := hF
    clear L hz hF
    go_enter Tryd.func15, Tryd.ntmps15
    go_wp2
    go_loop [1, 6] (fun v u => FirstRel slots fr O v u) (fun _ u => npages slots - (intOf u).toNat)
    case atStart => exact ⟨fr, fr / 4096, rfl, by simp, hq0, by omega, by omega, Nat.le_refl _, fun j h1 h2 => by omega⟩
    case round =>
      obtain ⟨g, q, rfl, rfl, hq, g1, g2, g3, g4⟩ := hrel
      rcases hU : U q with _ | _
      · have hpg := HL.out.nopage q hq hU
        have HP : Hid (∀ j, g ≤ j → j < 4096 * (q + 1) → O j = false) := fun j j1 j2 => HF.out.none_of hU (by omega) j2
        clear hU
        go_wp2_with fail
        refine (next_any ub (nused slots) (q + 1) U (by omega) (by omega) _ hT HL.out.used).mono ?_
        rintro e w' ⟨r, rfl, hr, rfl⟩
        rcases r with _ | q'
        · simp only [retOf]
          go_wp2_with fail
          go_ret2
          exact ⟨none, rfl, first_end HF.out g4 HP.out hr, rfl⟩
        · obtain ⟨k1, k2, k3⟩ := first_on HF.out g4 HP.out hr
          have K3 : Hid (∀ j, fr ≤ j → j < 4096 * q' → O j = false) := k3
          simp only [retOf]
          clear hr k3
          go_wp2_with fail
          go_round
          case rel => exact ⟨4096 * q', q', by go_num, rfl, k1, by omega, by omega, by omega, K3.out⟩
          case measure => simp [intOf]; omega
      · obtain ⟨c1, c2, p1, p2, p3⟩ := HL.out.page q hq hU
        have HP3 : Hid (BitsAt w c2 0 (pwords slots q) (fun i => O (4096 * q + i))) := p3
        have hpw := pwords_le slots q
        clear hU p3
        go_wp2_with fail
        refine (next_any c2 (pwords slots q) (g % 4096) (fun i => O (4096 * q + i)) (by omega) (by omega) _ hT HP3.out).mono ?_
        rintro e w' ⟨r, rfl, hr, rfl⟩
        rcases r with _ | i
        · have HP : Hid (∀ j, g ≤ j → j < 4096 * (q + 1) → O j = false) := page_none HF.out g1 hr
          simp only [retOf]
          clear hr
          go_wp2_with fail
          refine (next_any ub (nused slots) (q + 1) U (by omega) (by omega) _ hT HL.out.used).mono ?_
          rintro e w' ⟨r, rfl, hr, rfl⟩
          rcases r with _ | q'
          · simp only [retOf]
            go_wp2_with fail
            go_ret2
            exact ⟨none, rfl, first_end HF.out g4 HP.out hr, rfl⟩
          · obtain ⟨k1, k2, k3⟩ := first_on HF.out g4 HP.out hr
            have K3 : Hid (∀ j, fr ≤ j → j < 4096 * q' → O j = false) := k3
            simp only [retOf]
            clear hr k3
            go_wp2_with fail
            go_round
            case rel => exact ⟨4096 * q', q', by go_num, rfl, k1, by omega, by omega, by omega, K3.out⟩
            case measure => simp [intOf]; omega
        · obtain ⟨k1, k2⟩ := page_some HF.out g1 g2 g3 g4 hr
          have K2 : Hid (IsNext O slots fr (some (4096 * q + i))) := k2
          simp only [retOf]
          clear hr k2
          go_wp2_with fail
          go_ret2
          exact ⟨some (4096 * q + i), ret_some (by omega), K2.out, rfl⟩

set_option maxHeartbeats 400000 in
/-- ZZseek: the nearest occupied slot on the ring. -/
theorem seek_any (lb pb ub slots fr : Nat) (total : Int) (O U : Nat → Bool) (hF : Fits slots O U) (hsl : slots ≤ 268435456) (hfr : fr < slots) (w : World) (hT : TabHere w)
    (L : LevelIs w lb pb ub slots total O U) :
    Calls Tryd.prog 8 #[.pointer (some ⟨lb, 0, none⟩), .int .u64 fr] w fun e w' => ∃ r, e = .returned (retOf r) ∧ IsSeek O slots fr r ∧ w' = w := by
  have hs := L.hs
  have HL : Hid (LevelIs w lb pb ub slots total O U) := L
  have HF : Hid (Fits slots O U) := hF
  clear L hF
  go_enter Tryd.func8, Tryd.ntmps8
  go_wp2_with (go_at_call 14; go_in)
  refine (first_any lb pb ub slots fr total O U HF.out hsl hfr _ hT HL.out).mono ?_
  rintro e w' ⟨r, rfl, hr, rfl⟩
  rcases r with _ | s
  · have HR : Hid (IsNext O slots fr none) := hr
    clear hr
    simp only [retOf]
    go_wp2_with fail
    refine (first_any lb pb ub slots 0 total O U HF.out hsl (by omega) _ hT HL.out).mono ?_
    rintro e w' ⟨r, rfl, hr, rfl⟩
    rcases r with _ | s
    · simp only [retOf]
      have HS : Hid (IsNext O slots 0 none) := hr
      clear hr
      go_wp2_with fail
      go_ret2
      exact ⟨none, rfl, seek_none HS.out, rfl⟩
    · simp only [retOf]
      obtain ⟨k1, k2⟩ := seek_round hfr HR.out hr
      have HS : Hid (IsSeek O slots fr (some (s + slots - fr))) := k2
      clear hr k2
      go_wp2_with fail
      go_ret2
      exact ⟨some (s + slots - fr), ret_some (by omega), HS.out, rfl⟩
  · simp only [retOf]
    have h1 : fr ≤ s := hr.1
    have h2 : s < slots := hr.2.1
    have HS : Hid (IsSeek O slots fr (some (s - fr))) := seek_here hr
    clear hr
    go_wp2_with fail
    go_ret2
    exact ⟨some (s - fr), ret_some (by omega), HS.out, rfl⟩
end Go.Proofs.Qxb6612302aDoor
