/-
  Plain laws: which rows are kept.
-/
import Derived.Test.Qxb6000622aWork
namespace Go.Proofs.Qxb6000622a
open Go.RowKit
set_option linter.unusedVariables false

/-- Of the first k rows, the numbers of those in a month before m. -/
def kept (zs : List Int) (m : Int) (k : Nat) : List Nat := (List.range k).filter (fun j => decide (zs.getD j 0 < m))

theorem kept_zero (zs : List Int) (m : Int) : kept zs m 0 = [] := rfl
theorem kept_yes (zs : List Int) (m : Int) (k : Nat) (h : zs.getD k 0 < m) : kept zs m (k + 1) = kept zs m k ++ [k] := by
  unfold kept
  rw [List.range_succ, List.filter_append, List.filter_cons_of_pos (by simpa using h)]
  rfl
theorem kept_no (zs : List Int) (m : Int) (k : Nat) (h : ¬ zs.getD k 0 < m) : kept zs m (k + 1) = kept zs m k := by
  unfold kept
  rw [List.range_succ, List.filter_append, List.filter_cons_of_neg (by simpa using h)]
  simp
theorem kept_le (zs : List Int) (m : Int) (k : Nat) : (kept zs m k).length ≤ k := by
  have := List.length_filter_le (fun j => decide (zs.getD j 0 < m)) (List.range k)
  simpa [kept] using this
theorem kept_prefix (zs : List Int) (m : Int) (k : Nat) : ∀ n, k ≤ n → ∃ r, kept zs m n = kept zs m k ++ r
  | 0, h => ⟨[], by have : k = 0 := by omega
                    subst this; simp⟩
  | n + 1, h => by
    by_cases e : k = n + 1
    · subst e; exact ⟨[], by simp⟩
    · obtain ⟨r, hr⟩ := kept_prefix zs m k n (by omega)
      by_cases hy : zs.getD n 0 < m
      · exact ⟨r ++ [n], by rw [kept_yes zs m n hy, hr, List.append_assoc]⟩
      · exact ⟨r, by rw [kept_no zs m n hy, hr]⟩
theorem kept_mono (zs : List Int) (m : Int) {k n : Nat} (h : k ≤ n) : (kept zs m k).length ≤ (kept zs m n).length := by
  obtain ⟨r, hr⟩ := kept_prefix zs m k n h
  rw [hr, List.length_append]; omega
theorem kept_all (zs : List Int) (m : Int) (n : Nat) (h : (kept zs m n).length = n) : kept zs m n = List.range n := by
  unfold kept at h ⊢
  rw [List.filter_eq_self]
  have h2 : (List.filter (fun j => decide (zs.getD j 0 < m)) (List.range n)).length = (List.range n).length := by rw [h]; simp
  exact List.length_filter_eq_length_iff.1 h2
theorem kept_mem (zs : List Int) (m : Int) (n j : Nat) (h : j ∈ kept zs m n) : j < n ∧ zs.getD j 0 < m := by
  unfold kept at h
  simpa using h
theorem kept_getD_mem (zs : List Int) (m : Int) (n t : Nat) (h : t < (kept zs m n).length) : (kept zs m n).getD t 0 ∈ kept zs m n := by
  simp [List.getElem?_eq_getElem h]
/-- Row k is kept: it stands at the place that the kept ones before it give. -/
theorem kept_at (zs : List Int) (m : Int) (n k : Nat) (hk : k < n) (h : zs.getD k 0 < m) : (kept zs m k).length < (kept zs m n).length ∧ (kept zs m n).getD (kept zs m k).length 0 = k := by
  obtain ⟨r, hr⟩ := kept_prefix zs m (k + 1) n (by omega)
  rw [kept_yes zs m k h] at hr
  rw [hr]
  refine ⟨by simp, ?_⟩
  simp [List.append_assoc]
/-- Row k is not kept: what stands at that place, if anything, is a later row. -/
theorem kept_past (zs : List Int) (m : Int) (n k : Nat) (hk : k < n) (h : ¬ zs.getD k 0 < m) (hl : (kept zs m k).length < (kept zs m n).length) : (kept zs m n).getD (kept zs m k).length 0 ≠ k := by
  intro e
  have hm := kept_getD_mem zs m n _ hl
  rw [e] at hm
  exact h (kept_mem zs m n k hm).2

/-- The four cells of each of the rows js. -/
def rows4 (zs hs : List Int) (js : List Nat) : List Value := js.flatMap (fun j => [rcell zs hs j 0, rcell zs hs j 1, rcell zs hs j 2, rcell zs hs j 3])
theorem rows4_snoc (zs hs : List Int) (js : List Nat) (k : Nat) : rows4 zs hs (js ++ [k]) = rows4 zs hs js ++ [rcell zs hs k 0, rcell zs hs k 1, rcell zs hs k 2, rcell zs hs k 3] := by
  simp [rows4]
theorem rows4_get (zs hs : List Int) : ∀ (js : List Nat) (t q : Nat), t < js.length → q < 4 → (rows4 zs hs js)[t * 4 + q]? = some (rcell zs hs (js.getD t 0) q)
  | [], t, q, h, _ => by simp at h
  | j :: r, 0, q, h, hq => by
    have hq4 : q = 0 ∨ q = 1 ∨ q = 2 ∨ q = 3 := by omega
    rcases hq4 with rfl | rfl | rfl | rfl <;> simp [rows4]
  | j :: r, t + 1, q, h, hq => by
    have ih := rows4_get zs hs r t q (by simpa using h) hq
    have e : rows4 zs hs (j :: r) = [rcell zs hs j 0, rcell zs hs j 1, rcell zs hs j 2, rcell zs hs j 3] ++ rows4 zs hs r := by simp [rows4]
    rw [e, List.getElem?_append_right (by simp; omega)]
    simp only [List.length_cons, List.length_nil]
    rw [show (t + 1) * 4 + q - (0 + 1 + 1 + 1 + 1) = t * 4 + q from by omega, ih]
    simp

end Go.Proofs.Qxb6000622a
