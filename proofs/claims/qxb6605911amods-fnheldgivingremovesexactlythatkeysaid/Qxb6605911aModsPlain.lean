/-
  The plain law: the list of the records whose refusals are held back, and the same list once record j is given. No Go in sight.
-/
import Derived.Test.Qxb6605911aModsNames
namespace Go.Proofs.Qxb6605911aMods
open Go.RowKit

theorem isKept_set (d : Recs) (g : Nat → Bool) (j i : Nat) : isKept d (setB g j) i = (isKept d g i && !(i == j)) := by
  by_cases e : i = j
  · subst e; simp [isKept, setB]
  · simp [isKept, setB, e]

theorem kept_low (d : Recs) (g : Nat → Bool) (j : Nat) : ∀ k, k ≤ j → kept d (setB g j) k = kept d g k
  | 0, _ => rfl
  | k + 1, h => by
    have ih := kept_low d g j k (by omega)
    have e : isKept d (setB g j) k = isKept d g k := by rw [isKept_set]; simp; omega
    cases hk : isKept d g k with
    | true => rw [kept_yes (by rw [e, hk]), kept_yes hk, ih]
    | false => rw [kept_no (by rw [e, hk]), kept_no hk, ih]

/-- from j + 1 on: what came before, j itself if it is held back, what came behind -/
theorem kept_high (d : Recs) (g : Nat → Bool) (j : Nat) : ∀ m, ∃ post, kept d (setB g j) (j + 1 + m) = kept d g j ++ post ∧ kept d g (j + 1 + m) = kept d g j ++ ((if isKept d g j then [j] else []) ++ post)
  | 0 => by
    refine ⟨[], ?_, ?_⟩
    · rw [Nat.add_zero, kept_no (by rw [isKept_set]; simp), kept_low d g j j (Nat.le_refl _)]; simp
    · cases hk : isKept d g j with
      | true => rw [Nat.add_zero, kept_yes hk]; simp
      | false => rw [Nat.add_zero, kept_no hk]; simp
  | m + 1 => by
    obtain ⟨post, h1, h2⟩ := kept_high d g j m
    have e : isKept d (setB g j) (j + 1 + m) = isKept d g (j + 1 + m) := by rw [isKept_set]; simp; omega
    rw [show j + 1 + (m + 1) = (j + 1 + m) + 1 from by omega]
    cases hk : isKept d g (j + 1 + m) with
    | true => exact ⟨post ++ [j + 1 + m], by rw [kept_yes (by rw [e, hk]), h1]; simp, by rw [kept_yes hk, h2]; simp⟩
    | false => exact ⟨post, by rw [kept_no (by rw [e, hk]), h1], by rw [kept_no hk, h2]⟩

/-- where j's result stands among the held ones; -1 where it is none of them -/
def posOf (d : Recs) (g : Nat → Bool) (j : Nat) : Int := if isKept d g j then ((kept d g j).length : Int) else -1
/-- where the k-th of the first answer stands in the second -/
def k2Of (d : Recs) (g : Nat → Bool) (j k : Nat) : Nat := if isKept d g j = true ∧ (kept d g j).length < k then k - 1 else k

theorem pos_lt {d : Recs} {g : Nat → Bool} {j n : Nat} (hj : j < n) (h : isKept d g j = true) : (kept d g j).length < (kept d g n).length ∧ (kept d (setB g j) n).length + 1 = (kept d g n).length := by
  obtain ⟨post, h1, h2⟩ := kept_high d g j (n - (j + 1))
  rw [show j + 1 + (n - (j + 1)) = n from by omega] at h1 h2
  rw [h1, h2, h]
  simp
  omega

theorem pos_no {d : Recs} {g : Nat → Bool} {j n : Nat} (hj : j < n) (h : isKept d g j = false) : kept d (setB g j) n = kept d g n := by
  obtain ⟨post, h1, h2⟩ := kept_high d g j (n - (j + 1))
  rw [show j + 1 + (n - (j + 1)) = n from by omega] at h1 h2
  rw [h1, h2, h]
  simp

theorem k2_ok {d : Recs} {g : Nat → Bool} {j n k : Nat} (hj : j < n) (hk : k < (kept d g n).length) (hp : (k : Int) ≠ posOf d g j) :
    k2Of d g j k < (kept d (setB g j) n).length ∧ ixOf (kept d (setB g j) n) (k2Of d g j k) = ixOf (kept d g n) k := by
  cases h : isKept d g j with
  | false =>
    rw [pos_no hj h]
    simp only [k2Of, h]
    simp [hk]
  | true =>
    obtain ⟨post, h1, h2⟩ := kept_high d g j (n - (j + 1))
    rw [show j + 1 + (n - (j + 1)) = n from by omega] at h1 h2
    rw [h] at h2
    simp only [posOf, h, if_true] at hp
    rw [h2] at hk
    simp at hk
    rw [h1, h2]
    simp only [k2Of, h, true_and, ixOf]
    by_cases hlt : (kept d g j).length < k
    · rw [if_pos hlt]
      obtain ⟨m, rfl⟩ : ∃ m, k = (kept d g j).length + 1 + m := ⟨k - ((kept d g j).length + 1), by omega⟩
      refine ⟨by simp; omega, ?_⟩
      rw [List.getD_eq_getElem?_getD, List.getD_eq_getElem?_getD, List.getElem?_append_right (by omega), List.getElem?_append_right (by omega)]
      rw [show (kept d g j).length + 1 + m - 1 - (kept d g j).length = m from by omega, show (kept d g j).length + 1 + m - (kept d g j).length = m + 1 from by omega]
      simp
    · rw [if_neg hlt]
      have : k < (kept d g j).length := by omega
      refine ⟨by simp; omega, ?_⟩
      rw [List.getD_eq_getElem?_getD, List.getD_eq_getElem?_getD, List.getElem?_append_left this, List.getElem?_append_left this]

theorem k2_step {d : Recs} {g : Nat → Bool} {j k : Nat} (hp : (k : Int) ≠ posOf d g j) : k2Of d g j (k + 1) = k2Of d g j k + 1 := by
  cases h : isKept d g j with
  | false => simp [k2Of, h]
  | true =>
    simp only [posOf, h, if_true] at hp
    simp only [k2Of, h, true_and]
    by_cases hlt : (kept d g j).length < k
    · rw [if_pos hlt, if_pos (by omega)]; omega
    · rw [if_neg hlt, if_neg (by omega)]

theorem k2_skip {d : Recs} {g : Nat → Bool} {j k : Nat} (hp : (k : Int) = posOf d g j) : k2Of d g j (k + 1) = k2Of d g j k := by
  cases h : isKept d g j with
  | false => simp [posOf, h] at hp
  | true =>
    simp only [posOf, h, if_true] at hp
    simp only [k2Of, h, true_and]
    rw [if_pos (by omega), if_neg (by omega)]
    omega

theorem k2_le (d : Recs) (g : Nat → Bool) (j k : Nat) : k2Of d g j k ≤ k := by unfold k2Of; split <;> omega

/-- how many refusals the listed records have -/
def sumL (d : Recs) (l : List Nat) : Nat := (l.map d.L).sum
theorem sumL_snoc (d : Recs) (l : List Nat) (i : Nat) : sumL d (l ++ [i]) = sumL d l + d.L i := by simp [sumL]
theorem sumL_le {d : Recs} (hL : ∀ i, i < d.n → d.L i ≤ 65536) : ∀ (l : List Nat), (∀ i ∈ l, i < d.n) → sumL d l ≤ l.length * 65536
  | [], _ => by simp [sumL]
  | x :: t, h => by
    have h1 := sumL_le hL t (fun i hi => h i (by simp [hi]))
    have h2 := hL x (h x (by simp))
    have e : sumL d (x :: t) = d.L x + sumL d t := by simp [sumL]
    rw [e, List.length_cons]
    omega
theorem kept_mem {d : Recs} {g : Nat → Bool} {k : Nat} (hk : k ≤ d.n) : ∀ i ∈ kept d g k, i < d.n := fun i hi => by
  unfold kept at hi
  rw [List.mem_filter, List.mem_range] at hi
  omega
theorem kept_sum_le {d : Recs} {g : Nat → Bool} {k : Nat} (hk : k ≤ d.n) (hn : d.n ≤ 4096) (hL : ∀ i, i < d.n → d.L i ≤ 65536) : sumL d (kept d g k) ≤ 268435456 := by
  have h1 := sumL_le hL (kept d g k) (kept_mem hk)
  have h2 := kept_le d g k
  have : (kept d g k).length * 65536 ≤ 4096 * 65536 := Nat.mul_le_mul_right _ (by omega)
  omega
theorem take_sum {d : Recs} {l : List Nat} {k : Nat} (hk : k < l.length) : sumL d (l.take (k + 1)) = sumL d (l.take k) + d.L (ixOf l k) := by
  rw [List.take_succ_eq_append_getElem hk, sumL_snoc]
  simp [ixOf, hk]
theorem take_le {d : Recs} (l : List Nat) (k : Nat) : sumL d (l.take k) ≤ sumL d l := by
  have : sumL d l = sumL d (l.take k) + sumL d (l.drop k) := by
    unfold sumL
    rw [← List.sum_append, ← List.map_append, List.take_append_drop]
  omega

/-- what the law's loop has found of j's place when k records are counted -/
def posTo (d : Recs) (g : Nat → Bool) (j k : Nat) : Int := if j < k then posOf d g j else -1
theorem posTo_zero (d : Recs) (g : Nat → Bool) (j : Nat) : posTo d g j 0 = -1 := if_neg (by omega)
theorem posTo_skip {d : Recs} {g : Nat → Bool} {j k : Nat} (h : isKept d g k = false) : posTo d g j (k + 1) = posTo d g j k := by
  unfold posTo
  by_cases e : j = k
  · subst e
    rw [if_pos (by omega), if_neg (by omega)]
    simp [posOf, h]
  · by_cases h2 : j < k
    · rw [if_pos h2, if_pos (by omega)]
    · rw [if_neg h2, if_neg (by omega)]
theorem posTo_other {d : Recs} {g : Nat → Bool} {j k : Nat} (h : k ≠ j) : posTo d g j (k + 1) = posTo d g j k := by
  unfold posTo
  by_cases h2 : j < k
  · rw [if_pos h2, if_pos (by omega)]
  · rw [if_neg h2, if_neg (by omega)]
theorem posTo_hit {d : Recs} {g : Nat → Bool} {k : Nat} (h : isKept d g k = true) : posTo d g k (k + 1) = ((kept d g k).length : Int) := by
  unfold posTo posOf
  rw [if_pos (by omega), h]
  rfl
theorem posTo_end {d : Recs} {g : Nat → Bool} {j k : Nat} (h : j < k) : posTo d g j k = posOf d g j := if_pos h
end Go.Proofs.Qxb6605911aMods
