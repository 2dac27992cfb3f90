/-
  A slice of strings that came in, opened once.
-/
import Derived.Test.Qxb6000568aNames
import Derived.SliceStrings
import Derived.ProofKit
import Derived.OpenShut
import Derived.ShutString
import Derived.ChangeOld
namespace Go.Proofs.Qxb6000568a
open Go.ChangeShapes Go.WideShapes Go.ChangeAt Go.RowKit
set_option linter.unusedVariables false

theorem cell_lt {w : World} {b off : Nat} {v : Value} (h : w.cell? ⟨b, off, none⟩ = some v) : b < w.heap.size := by
  unfold World.cell? at h
  by_cases hb : b < w.heap.size
  · exact hb
  · rw [Array.getElem?_eq_none (by show w.heap.size ≤ b; omega)] at h
    simp at h

/-- What the walks are told of a slice of strings that came in. -/
def View (W : World) (a : Option Addr) (len cap : Nat) (ss : List ByteArray) : Prop :=
  len ≤ maxLen ∧ (a = none → len = 0 ∧ cap = 0) ∧ (∀ s ∈ ss, s.size ≤ maxLen) ∧ IsStrs W a len ss

theorem Try.cells9 : Try.prog.cellsOf 9 = 1 := by kernel_rfl

theorem view_of {H : Type} {enc : TypeId × Value → H} {W : World} {base : Nat} {spare : Nat → Bool} {held : Bool} {a : Option Addr} {len cap : Nat} {d : DataW H} {p : List MemPlace} (hd : DataW.Trod enc Try.prog W base spare held 22 (.slice a len cap) d p) : ∃ ss, View W a len cap ss := by
  obtain ⟨fuel, hf⟩ := hd
  rcases open_strings Try.underlying22 Try.underlying9 Try.cells9 hf with ⟨hcs, _⟩ | ⟨x, l, c, ss, hcs, _, hl, hm, hz, _, hcell, hws⟩
  · simp [Value.cells] at hcs
    obtain ⟨rfl, rfl, rfl⟩ := hcs
    exact ⟨[], Nat.zero_le _, fun _ => ⟨rfl, rfl⟩, fun s hs => by simp at hs, isStrs_zero _ _ _ rfl⟩
  · simp [Value.cells] at hcs
    obtain ⟨rfl, rfl, rfl⟩ := hcs
    have hlen : len ≤ ss.length := by rw [hz]; split <;> omega
    refine ⟨ss.take len, Nat.le_trans hl hm, fun h => by simp at h, fun s hs => hws s (List.mem_of_mem_take hs), by simp; omega, fun h0 => ?_⟩
    obtain ⟨b, off, spot⟩ := x
    have hspot : spot = none := by simpa [Addr.add] using World.cell?_spot (hcell 0 (by omega))
    subst hspot
    have hc0 : ∀ j, j < len → W.cell? ⟨b, off + j, none⟩ = some (.string ((ss.take len).getD j ByteArray.empty)) := by
      intro j hj
      rw [← add_plain, hcell j (by omega)]
      simp [List.getElem?_take_of_lt hj]
    exact ⟨b, off, rfl, cell_lt (hc0 0 h0), hc0⟩

end Go.Proofs.Qxb6000568a
