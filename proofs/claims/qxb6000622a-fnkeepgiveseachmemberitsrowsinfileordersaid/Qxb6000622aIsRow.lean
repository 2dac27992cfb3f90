/-
  A slice of integers that came in, as the row's frame hands it over.
-/
import Derived.Test.Qxb6000622aClone
namespace Go.Proofs.Qxb6000622a
open Go.RowKit
set_option linter.unusedVariables false

/-- What the walk is told of a slice of integers that came in: it is nil; or it leads to a row of 'cap' cells, the numbers 'zs' (the first 'len' are its elements, the rest its spare room), each fitting its kind. -/
def IsRow (k : IntKind) (w : World) (a : Option Addr) (len cap : Nat) (zs : List Int) : Prop :=
  (a = none ∧ len = 0 ∧ cap = 0 ∧ zs = []) ∨
  ∃ x, a = some x ∧ len ≤ cap ∧ cap ≤ maxLen ∧ zs.length = cap ∧ (∀ i, i < zs.length → w.cell? (x.add i) = some (.int k (zs.getD i 0))) ∧ ∀ n ∈ zs, (Lit.int k n).wf = true

theorem cell_lt {w : World} {b off : Nat} {v : Value} (h : w.cell? ⟨b, off, none⟩ = some v) : b < w.heap.size := by
  unfold World.cell? at h
  by_cases hb : b < w.heap.size
  · exact hb
  · rw [Array.getElem?_eq_none (by show w.heap.size ≤ b; omega)] at h
    simp at h

/-- .. in the walks' words. -/
theorem IsRow.vals {k : IntKind} {w : World} {a : Option Addr} {len cap : Nat} {zs : List Int} (h : IsRow k w a len cap zs) :
    len ≤ maxLen ∧ (a = none → len = 0 ∧ cap = 0) ∧ (∀ n ∈ zs.take len, (Lit.int k n).wf = true) ∧ IsVals w a len ((zs.take len).map (Value.int k)) := by
  rcases h with ⟨rfl, rfl, rfl, rfl⟩ | ⟨x, rfl, hlc, hcm, hz, hc, hw⟩
  · exact ⟨Nat.zero_le _, fun _ => ⟨rfl, rfl⟩, fun n hn => by simp at hn, isVals_zero _ _ _ rfl⟩
  · refine ⟨Nat.le_trans hlc hcm, fun e => by simp at e, fun n hn => hw n (List.mem_of_mem_take hn), by simp; omega, fun h0 => ?_⟩
    obtain ⟨b, off, spot⟩ := x
    have hspot : spot = none := by simpa [Addr.add] using World.cell?_spot (hc 0 (by omega))
    subst hspot
    have hc0 : ∀ j, j < len → w.cell? ⟨b, off + j, none⟩ = some (.int k (zs.getD j 0)) := by
      intro j hj
      rw [← WideShapes.add_plain, hc j (by omega)]
    refine ⟨b, off, rfl, cell_lt (hc0 0 h0), fun j hj => ?_⟩
    rw [hc0 j hj]
    simp [List.getElem?_take_of_lt hj, List.getElem?_eq_getElem (show j < zs.length from by omega)]

end Go.Proofs.Qxb6000622a
