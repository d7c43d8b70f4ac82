/-
  THE PLAIN LAWS on the joined text: where each part of it stands. No Go in sight.
-/
import Derived.Test.Qxb6612408aText
namespace Go.Proofs.Qxb6612408a

theorem joinTail_append (sep : List UInt8) (l1 l2 : List (List UInt8)) : Lib.joinTail sep (l1 ++ l2) = Lib.joinTail sep l1 ++ Lib.joinTail sep l2 := by
  simp [Lib.joinTail]

theorem sz_cons (x : ByteArray) (r : List ByteArray) : sz (x :: r) = x.size + sz r := by simp [sz]

theorem join_split {xs : List ByteArray} {k : Nat} {x : ByteArray} (hx : xs[k]? = some x) :
    ∃ A R : List UInt8, (joined xs).data.toList = A ++ ((if k = 0 then [] else [59, 32]) ++ (x.data.toList ++ R)) ∧ A.length = sz (xs.take k) + 2 * (k - 1) := by
  cases xs with
  | nil => simp at hx
  | cons y ys =>
    cases k with
    | zero =>
      simp only [List.getElem?_cons_zero, Option.some.injEq] at hx
      subst hx
      refine ⟨[], Lib.joinTail [59, 32] (ys.map (·.data.toList)), ?_, by simp [sz]⟩
      show Lib.join ((y :: ys).map (·.data.toList)) [59, 32] = _
      rw [List.map_cons, Lib.join_cons]
      simp
    | succ k =>
      rw [List.getElem?_cons_succ] at hx
      have hk : k < ys.length := (List.getElem?_eq_some_iff.1 hx).1
      have e : ys = ys.take k ++ x :: ys.drop (k + 1) := by
        have h1 := (List.getElem?_eq_some_iff.1 hx).2
        rw [← h1]
        simp
      refine ⟨y.data.toList ++ Lib.joinTail [59, 32] ((ys.take k).map (·.data.toList)), Lib.joinTail [59, 32] ((ys.drop (k + 1)).map (·.data.toList)), ?_, ?_⟩
      · show Lib.join ((y :: ys).map (·.data.toList)) [59, 32] = _
        rw [List.map_cons, Lib.join_cons]
        conv => lhs; rw [e]
        rw [List.map_append, joinTail_append, List.map_cons]
        simp [Lib.joinTail]
      · rw [List.length_append, Lib.joinTail_length, lens_sz, List.take_succ_cons, sz_cons]
        simp
        omega

theorem joined_size {xs : List ByteArray} (h : 0 < xs.length) : (joined xs).size = 2 * (xs.length - 1) + sz xs := by
  cases xs with
  | nil => simp at h
  | cons y ys =>
    show (Lib.join ((y :: ys).map (·.data.toList)) [59, 32]).toArray.size = _
    rw [List.size_toArray, List.map_cons, Lib.join_length, ← List.map_cons (f := fun y : ByteArray => y.data.toList), lens_sz]
    simp

theorem byte_at {G : ByteArray} {i : Nat} {b : UInt8} (h : G.data.toList[i]? = some b) : ∃ hi : i < G.size, G[i]'hi = b := by
  obtain ⟨h1, h2⟩ := List.getElem?_eq_some_iff.1 h
  have h3 : i < G.size := by simpa using h1
  exact ⟨h3, h2⟩

/-- Between two parts: the semicolon and the blank. -/
theorem sep_at {xs : List ByteArray} {k : Nat} {x : ByteArray} (hx : xs[k]? = some x) (hk : k ≠ 0) :
    (∃ hi : sz (xs.take k) + 2 * (k - 1) < (joined xs).size, (joined xs)[sz (xs.take k) + 2 * (k - 1)]'hi = 59) ∧ ∃ hi : sz (xs.take k) + 2 * (k - 1) + 1 < (joined xs).size, (joined xs)[sz (xs.take k) + 2 * (k - 1) + 1]'hi = 32 := by
  obtain ⟨A, R, h1, h2⟩ := join_split hx
  rw [if_neg hk] at h1
  constructor
  · refine byte_at ?_
    rw [h1, ← h2, List.getElem?_append_right (Nat.le_refl _)]
    simp
  · refine byte_at ?_
    rw [h1, ← h2, List.getElem?_append_right (by omega)]
    simp

/-- Part k stands at its place. -/
theorem part_at {xs : List ByteArray} {k j : Nat} {x : ByteArray} (hx : xs[k]? = some x) (hj : j < x.size) :
    ∃ hi : sz (xs.take k) + 2 * k + j < (joined xs).size, (joined xs)[sz (xs.take k) + 2 * k + j]'hi = x[j]'hj := by
  obtain ⟨A, R, h1, h2⟩ := join_split hx
  refine byte_at ?_
  have hb : x.data.toList[j]? = some (x[j]'hj) := by
    rw [List.getElem?_eq_some_iff]
    exact ⟨by simpa using hj, rfl⟩
  have hjl : j < x.data.toList.length := by simpa using hj
  by_cases hk : k = 0
  · subst hk
    rw [if_pos rfl, List.nil_append] at h1
    rw [h1, show sz (xs.take 0) + 2 * 0 + j = A.length + j by omega, List.getElem?_append_right (by omega), show A.length + j - A.length = j by omega, List.getElem?_append_left hjl]
    exact hb
  · rw [if_neg hk] at h1
    rw [h1, show sz (xs.take k) + 2 * k + j = A.length + (2 + j) by omega, List.getElem?_append_right (by omega), show A.length + (2 + j) - A.length = 2 + j by omega,
      List.getElem?_append_right (by simp), show 2 + j - ([59, 32] : List UInt8).length = j by simp, List.getElem?_append_left hjl]
    exact hb

/-- The text over two lists. -/
theorem joined_append {xs ys : List ByteArray} (hx : xs ≠ []) (hy : ys ≠ []) : (joined (xs ++ ys)).data.toList = (joined xs).data.toList ++ ([59, 32] ++ (joined ys).data.toList) := by
  cases xs with
  | nil => exact absurd rfl hx
  | cons x r =>
    cases ys with
    | nil => exact absurd rfl hy
    | cons y t =>
      show Lib.join (((x :: r) ++ (y :: t)).map (·.data.toList)) [59, 32] = Lib.join ((x :: r).map (·.data.toList)) [59, 32] ++ ([59, 32] ++ Lib.join ((y :: t).map (·.data.toList)) [59, 32])
      rw [List.map_append, List.map_cons, List.map_cons, List.cons_append, Lib.join_cons, Lib.join_cons, Lib.join_cons, joinTail_append]
      simp [Lib.joinTail]

theorem joined_one (x : ByteArray) : joined [x] = x := by
  have h : (joined [x]).data.toList = x.data.toList := by
    show Lib.join ([x].map (·.data.toList)) [59, 32] = _
    rw [List.map_cons, List.map_nil, Lib.join_one]
  have h2 : (joined [x]).data = x.data := Array.toList_inj.1 h
  cases x
  exact ByteArray.ext h2
end Go.Proofs.Qxb6612408a
