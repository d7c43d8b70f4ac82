/-
  zzOccupied, zzModelSeek, zzAnyOccupied, over the argument's words.
-/
import Derived.Test.Qxb6612302aDoorFirst
namespace Go.Proofs.Qxb6612302aDoor
open Go.RowKit

/-- The argument 'occ': len words; bit s of them is f s, false past the end. -/
def OccIs (w : World) (a : Option Addr) (len : Nat) (f : Nat → Bool) : Prop :=
  (∀ s, len ≤ s / 64 → f s = false) ∧ (0 < len → ∃ b off, a = some ⟨b, off, none⟩ ∧ BitsAt w b off len f)

theorem occ_any (a : Option Addr) (len cap s : Nat) (f : Nat → Bool) (hs : s < 18446744073709551616) (hl : len ≤ 131072) (w : World) (h : OccIs w a len f) :
    Calls Tryd.prog 12 #[.slice a len cap, .int .u64 s] w fun e w' => e = .returned (.bool (f s)) ∧ w' = w := by
  by_cases hin : len ≤ s / 64
  · rw [h.1 s hin]
    exact occ_out a len cap s hs hl hin w
  · obtain ⟨b, off, rfl, hB⟩ := h.2 (by omega)
    obtain ⟨x, hx, hc, hb⟩ := hB (s / 64) (by omega)
    have e := hb (s % 64) (by omega)
    rw [show 64 * (s / 64) + s % 64 = s by omega] at e
    rw [← e]
    exact occ_in b off len cap s x hx hs hl (by omega) w hc

theorem occ_at (a : Option Addr) (len cap s : Nat) (f : Nat → Bool) (v : Bool) (hs : s < 18446744073709551616) (hl : len ≤ 131072) (w : World) (h : OccIs w a len f) (hv : Hid (f s = v)) :
    Calls Tryd.prog 12 #[.slice a len cap, .int .u64 s] w fun e w' => e = .returned (.bool v) ∧ w' = w := by
  have := occ_any a len cap s f hs hl w h
  rwa [hv.out] at this

/-- The set of occupied slots. -/
def occOf (slots : Nat) (f : Nat → Bool) (s : Nat) : Bool := decide (s < slots) && f s

theorem occOf_lt {slots s : Nat} {f : Nat → Bool} (h : s < slots) : occOf slots f s = f s := by simp [occOf, h]
theorem occOf_ge {slots s : Nat} {f : Nat → Bool} (h : slots ≤ s) : occOf slots f s = false := by simp [occOf]; omega

/-- How far s lies past fr on the ring. -/
def dist (slots fr s : Nat) : Nat := if fr ≤ s then s - fr else s + slots - fr

theorem dist_lt {slots fr s : Nat} (hs : s < slots) (hf : fr < slots) : dist slots fr s < slots := by unfold dist; split <;> omega
theorem ring_dist {slots fr s : Nat} (hs : s < slots) (hf : fr < slots) : ring slots fr (dist slots fr s) = s := by unfold dist ring; split <;> split <;> omega
theorem dist_ring {slots fr k : Nat} (hk : k < slots) (hf : fr < slots) : dist slots fr (ring slots fr k) = k := by unfold dist ring; split <;> split <;> omega

/-- b is the least distance to an occupied slot below k; slots where there is none. -/
def BestRel (O : Nat → Bool) (slots fr k b : Nat) : Prop :=
  (b = slots ∨ (b < slots ∧ ∃ s, s < k ∧ s < slots ∧ O s = true ∧ dist slots fr s = b)) ∧ ∀ s, s < k → O s = true → b ≤ dist slots fr s

theorem BestRel.skip {O : Nat → Bool} {slots fr k b : Nat} (h : BestRel O slots fr k b) (ho : O k = false) : BestRel O slots fr (k + 1) b := by
  refine ⟨?_, fun s hs hO => ?_⟩
  · rcases h.1 with h1 | ⟨h1, s, h2, h3⟩
    · exact .inl h1
    · exact .inr ⟨h1, s, by omega, h3⟩
  · by_cases e : s = k
    · subst e; rw [ho] at hO; cases hO
    · exact h.2 s (by omega) hO

theorem BestRel.take {O : Nat → Bool} {slots fr k b d : Nat} (hk : k < slots) (hf : fr < slots) (h : BestRel O slots fr k b) (ho : O k = true) (hd : dist slots fr k = d) (hlt : d < b) : BestRel O slots fr (k + 1) d := by
  refine ⟨.inr ⟨by rw [← hd]; exact dist_lt hk hf, k, by omega, hk, ho, hd⟩, fun s hs hO => ?_⟩
  by_cases e : s = k
  · subst e; omega
  · have := h.2 s (by omega) hO; omega

theorem BestRel.keep {O : Nat → Bool} {slots fr k b d : Nat} (h : BestRel O slots fr k b) (hd : dist slots fr k = d) (hge : b ≤ d) : BestRel O slots fr (k + 1) b := by
  refine ⟨?_, fun s hs hO => ?_⟩
  · rcases h.1 with h1 | ⟨h1, s, h2, h3⟩
    · exact .inl h1
    · exact .inr ⟨h1, s, by omega, h3⟩
  · by_cases e : s = k
    · subst e; omega
    · exact h.2 s (by omega) hO

theorem BestRel.none {O : Nat → Bool} {slots fr k : Nat} (hf : fr < slots) (h : BestRel O slots fr k slots) (hend : ∀ s, k ≤ s → O s = false) : IsSeek O slots fr none := by
  intro s hs
  cases ho : O s with
  | false => rfl
  | true =>
    by_cases hk : s < k
    · have := h.2 s hk ho; have := dist_lt hs hf; omega
    · rw [hend s (by omega)] at ho; cases ho

theorem BestRel.some {O : Nat → Bool} {slots fr k b : Nat} (hf : fr < slots) (h : BestRel O slots fr k b) (hne : b ≠ slots) (hend : ∀ s, k ≤ s → O s = false) : IsSeek O slots fr (some b) := by
  rcases h.1 with h1 | ⟨h1, s, h2, h3, h4, h5⟩
  · exact absurd h1 hne
  refine ⟨h1, ?_, fun i hi => ?_⟩
  · rw [← h5, ring_dist h3 hf]; exact h4
  · cases ho : O (ring slots fr i) with
    | false => rfl
    | true =>
      by_cases hk : ring slots fr i < k
      · have := h.2 _ hk ho; rw [dist_ring (by omega) hf] at this; omega
      · rw [hend _ (by omega)] at ho; cases ho

theorem lim_end {slots len : Nat} {f : Nat → Bool} (hf : ∀ s, len ≤ s / 64 → f s = false) : ∀ s, 64 * len ≤ s → occOf slots f s = false := by
  intro s hs
  by_cases h : s < slots
  · rw [occOf_lt h]; exact hf s (by omega)
  · exact occOf_ge (by omega)

/-- The head of zzModelSeek's loop. -/
def ModelRel (slots fr lim : Nat) (f : Nat → Bool) (v u : Value) : Prop :=
  ∃ b k : Nat, v = .int .u64 b ∧ u = .int .u64 k ∧ k ≤ lim ∧ b ≤ slots ∧ BestRel (occOf slots f) slots fr k b

set_option maxHeartbeats 1000000 in
theorem model_any (a : Option Addr) (len cap slots fr : Nat) (f : Nat → Bool) (hl : len ≤ 131072) (hsl : slots ≤ 268435456) (hfr : fr < slots) (w : World) (h : OccIs w a len f) :
    Calls Tryd.prog 9 #[.int .u64 slots, .slice a len cap, .int .u64 fr] w fun e w' => ∃ r, e = .returned (retOf r) ∧ IsSeek (occOf slots f) slots fr r ∧ w' = w := by
  have HO : Hid (OccIs w a len f) := h
  clear h
  have start : BestRel (occOf slots f) slots fr 0 slots := ⟨.inl rfl, fun s hs => by omega⟩
  by_cases hc : slots < 64 * len
  · have HE : Hid (∀ s, slots ≤ s → occOf slots f s = false) := fun s hs => occOf_ge hs
    have hc' : (slots : Int) < (len : Int) * 64 := by omega
    go_enter Tryd.func9, Tryd.ntmps9
    go_wp2
    go_loop [9, 10] (fun v u => ModelRel slots fr slots f v u) (fun _ u => slots - (intOf u).toNat)
    case atStart => exact ⟨slots, 0, rfl, rfl, by omega, by omega, start⟩
    case round =>
      obtain ⟨b, k, rfl, rfl, hk, hb, hR⟩ := hrel
      have HR : Hid (BestRel (occOf slots f) slots fr k b) := hR
      clear hR
      by_cases hlt : k < slots
      · have hks : k < slots := by omega
        have HK : Hid (occOf slots f k = f k) := occOf_lt hks
        rcases hfk : f k with _ | _
        · have HV : Hid (f k = false) := hfk
          clear hfk
          go_wp2_with (go_at_call 12; refine (occ_at a len cap k f _ (by omega) hl _ HO.out HV).mono ?_; rintro e w' ⟨rfl, rfl⟩)
          go_round
          case rel => exact ⟨b, k + 1, rfl, by go_num, by omega, hb, HR.out.skip (HK.out.trans HV.out)⟩
          case measure => simp [intOf]; omega
        · have HV : Hid (f k = true) := hfk
          clear hfk
          by_cases hge : fr ≤ k
          · by_cases hd : k - fr < b
            · have hd' : (k : Int) - (fr : Int) < (b : Int) := by omega
              go_wp2_with (go_at_call 12; refine (occ_at a len cap k f _ (by omega) hl _ HO.out HV).mono ?_; rintro e w' ⟨rfl, rfl⟩)
              go_round
              case rel => exact ⟨k - fr, k + 1, by go_num, by go_num, by omega, by omega, HR.out.take hks hfr (HK.out.trans HV.out) (by unfold dist; rw [if_pos hge]) hd⟩
              case measure => simp [intOf]; omega
            · have hd' : (b : Int) ≤ (k : Int) - (fr : Int) := by omega
              go_wp2_with (go_at_call 12; refine (occ_at a len cap k f _ (by omega) hl _ HO.out HV).mono ?_; rintro e w' ⟨rfl, rfl⟩)
              go_round
              case rel => exact ⟨b, k + 1, rfl, by go_num, by omega, hb, HR.out.keep (d := k - fr) (by unfold dist; rw [if_pos hge]) (by omega)⟩
              case measure => simp [intOf]; omega
          · have hge' : k < fr := by omega
            by_cases hd : k + slots - fr < b
            · have hd' : (k : Int) + (slots : Int) - (fr : Int) < (b : Int) := by omega
              go_wp2_with (go_at_call 12; refine (occ_at a len cap k f _ (by omega) hl _ HO.out HV).mono ?_; rintro e w' ⟨rfl, rfl⟩)
              go_round
              case rel => exact ⟨k + slots - fr, k + 1, by go_num, by go_num, by omega, by omega, HR.out.take hks hfr (HK.out.trans HV.out) (by unfold dist; rw [if_neg hge]) hd⟩
              case measure => simp [intOf]; omega
            · have hd' : (b : Int) ≤ (k : Int) + (slots : Int) - (fr : Int) := by omega
              go_wp2_with (go_at_call 12; refine (occ_at a len cap k f _ (by omega) hl _ HO.out HV).mono ?_; rintro e w' ⟨rfl, rfl⟩)
              go_round
              case rel => exact ⟨b, k + 1, rfl, by go_num, by omega, hb, HR.out.keep (d := k + slots - fr) (by unfold dist; rw [if_neg hge]) (by omega)⟩
              case measure => simp [intOf]; omega
      · have HEk : Hid (∀ s, k ≤ s → occOf slots f s = false) := fun s hs => HE.out s (by omega)
        by_cases hbs : b = slots
        · subst hbs
          go_wp2_with fail
          go_ret2
          exact ⟨none, rfl, HR.out.none hfr HEk.out, rfl⟩
        · have hbs' : ((b : Int) == (slots : Int)) = false := by simp; omega
          go_wp2_with fail
          go_ret2
          exact ⟨some b, rfl, HR.out.some hfr hbs HEk.out, rfl⟩
  · have HE : Hid (∀ s, 64 * len ≤ s → occOf slots f s = false) := lim_end HO.out.1
    have hc' : (len : Int) * 64 ≤ (slots : Int) := by omega
    go_enter Tryd.func9, Tryd.ntmps9
    go_wp2
    go_loop [9, 10] (fun v u => ModelRel slots fr (64 * len) f v u) (fun _ u => slots - (intOf u).toNat)
    case atStart => exact ⟨slots, 0, rfl, rfl, by omega, by omega, start⟩
    case round =>
      obtain ⟨b, k, rfl, rfl, hk, hb, hR⟩ := hrel
      have HR : Hid (BestRel (occOf slots f) slots fr k b) := hR
      clear hR
      by_cases hlt : k < 64 * len
      · have hks : k < slots := by omega
        have HK : Hid (occOf slots f k = f k) := occOf_lt hks
        rcases hfk : f k with _ | _
        · have HV : Hid (f k = false) := hfk
          clear hfk
          go_wp2_with (go_at_call 12; refine (occ_at a len cap k f _ (by omega) hl _ HO.out HV).mono ?_; rintro e w' ⟨rfl, rfl⟩)
          go_round
          case rel => exact ⟨b, k + 1, rfl, by go_num, by omega, hb, HR.out.skip (HK.out.trans HV.out)⟩
          case measure => simp [intOf]; omega
        · have HV : Hid (f k = true) := hfk
          clear hfk
          by_cases hge : fr ≤ k
          · by_cases hd : k - fr < b
            · have hd' : (k : Int) - (fr : Int) < (b : Int) := by omega
              go_wp2_with (go_at_call 12; refine (occ_at a len cap k f _ (by omega) hl _ HO.out HV).mono ?_; rintro e w' ⟨rfl, rfl⟩)
              go_round
              case rel => exact ⟨k - fr, k + 1, by go_num, by go_num, by omega, by omega, HR.out.take hks hfr (HK.out.trans HV.out) (by unfold dist; rw [if_pos hge]) hd⟩
              case measure => simp [intOf]; omega
            · have hd' : (b : Int) ≤ (k : Int) - (fr : Int) := by omega
              go_wp2_with (go_at_call 12; refine (occ_at a len cap k f _ (by omega) hl _ HO.out HV).mono ?_; rintro e w' ⟨rfl, rfl⟩)
              go_round
              case rel => exact ⟨b, k + 1, rfl, by go_num, by omega, hb, HR.out.keep (d := k - fr) (by unfold dist; rw [if_pos hge]) (by omega)⟩
              case measure => simp [intOf]; omega
          · have hge' : k < fr := by omega
            by_cases hd : k + slots - fr < b
            · have hd' : (k : Int) + (slots : Int) - (fr : Int) < (b : Int) := by omega
              go_wp2_with (go_at_call 12; refine (occ_at a len cap k f _ (by omega) hl _ HO.out HV).mono ?_; rintro e w' ⟨rfl, rfl⟩)
              go_round
              case rel => exact ⟨k + slots - fr, k + 1, by go_num, by go_num, by omega, by omega, HR.out.take hks hfr (HK.out.trans HV.out) (by unfold dist; rw [if_neg hge]) hd⟩
              case measure => simp [intOf]; omega
            · have hd' : (b : Int) ≤ (k : Int) + (slots : Int) - (fr : Int) := by omega
              go_wp2_with (go_at_call 12; refine (occ_at a len cap k f _ (by omega) hl _ HO.out HV).mono ?_; rintro e w' ⟨rfl, rfl⟩)
              go_round
              case rel => exact ⟨b, k + 1, rfl, by go_num, by omega, hb, HR.out.keep (d := k + slots - fr) (by unfold dist; rw [if_neg hge]) (by omega)⟩
              case measure => simp [intOf]; omega
      · have HEk : Hid (∀ s, k ≤ s → occOf slots f s = false) := fun s hs => HE.out s (by omega)
        by_cases hbs : b = slots
        · subst hbs
          go_wp2_with fail
          go_ret2
          exact ⟨none, rfl, HR.out.none hfr HEk.out, rfl⟩
        · have hbs' : ((b : Int) == (slots : Int)) = false := by simp; omega
          go_wp2_with fail
          go_ret2
          exact ⟨some b, rfl, HR.out.some hfr hbs HEk.out, rfl⟩
end Go.Proofs.Qxb6612302aDoor
