/-
  The slices that came in, as the row's frame hands them over: of strings, of bytes, of bools.
-/
import Derived.Test.Qxb6000622aIsRow
import Derived.SliceStrings
import Derived.ProofKit
import Derived.OpenShut
import Derived.ShutString
import Derived.ChangeOld
import Derived.Deep.Grids
namespace Go.Proofs.Qxb6000622a
open Go.ChangeShapes Go.WideShapes Go.ChangeAt Go.RowKit
set_option linter.unusedVariables false

theorem Try.cells9 : Try.prog.cellsOf 9 = 1 := by kernel_rfl
theorem Try.cells5 : Try.prog.cellsOf 5 = 1 := by kernel_rfl
theorem Try.cells4 : Try.prog.cellsOf 4 = 1 := by kernel_rfl

theorem in_strings {H : Type} {enc : TypeId × Value → H} {W : World} {base : Nat} {spare : Nat → Bool} {held : Bool} {a : Option Addr} {len cap : Nat} {d : DataW H} {p : List MemPlace} (hd : DataW.Trod enc Try.prog W base spare held 37 (.slice a len cap) d p) :
    ∃ ss : List ByteArray, len ≤ maxLen ∧ (a = none → len = 0 ∧ cap = 0) ∧ (∀ s ∈ ss, s.size ≤ maxLen) ∧ IsVals W a len (ss.map Value.string) := by
  obtain ⟨fuel, hf⟩ := hd
  rcases open_strings Try.underlying37 Try.underlying9 Try.cells9 hf with ⟨hcs, _⟩ | ⟨x, l, c, ss, hcs, _, hl, hm, hz, _, hcell, hws⟩
  · simp [Value.cells] at hcs
    obtain ⟨rfl, rfl, rfl⟩ := hcs
    exact ⟨[], Nat.zero_le _, fun _ => ⟨rfl, rfl⟩, fun s hs => by simp at hs, isVals_zero _ _ _ rfl⟩
  · simp [Value.cells] at hcs
    obtain ⟨rfl, rfl, rfl⟩ := hcs
    have hlen : len ≤ ss.length := by rw [hz]; split <;> omega
    refine ⟨ss.take len, Nat.le_trans hl hm, fun h => by simp at h, fun s hs => hws s (List.mem_of_mem_take hs), by simp; omega, fun h0 => ?_⟩
    obtain ⟨b, off, spot⟩ := x
    have hspot : spot = none := by simpa [Addr.add] using World.cell?_spot (hcell 0 (by omega))
    subst hspot
    have hc0 : ∀ j, j < len → W.cell? ⟨b, off + j, none⟩ = some (.string (ss.getD j ByteArray.empty)) := by
      intro j hj
      rw [← add_plain, hcell j (by omega)]
    refine ⟨b, off, rfl, cell_lt (hc0 0 h0), fun j hj => ?_⟩
    rw [hc0 j hj]
    simp [List.getElem?_take_of_lt hj, List.getElem?_eq_getElem (show j < ss.length from by omega)]

theorem in_bytes {H : Type} {enc : TypeId × Value → H} {W : World} {base : Nat} {a : Option Addr} {len cap : Nat} {d : DataW H} {p : List MemPlace} (hd : DataW.Trod enc Try.prog W base (fun _ => true) true 38 (.slice a len cap) d p) :
    ∃ zs : List Int, len ≤ maxLen ∧ (a = none → len = 0 ∧ cap = 0) ∧ (∀ n ∈ zs, (Lit.int .u8 n).wf = true) ∧ IsVals W a len (zs.map (Value.int .u8)) := by
  obtain ⟨zs, hrow⟩ : ∃ zs, IsRow .u8 W a len cap zs := by
    obtain ⟨fuel, hf⟩ := hd
    rcases open_ints Try.underlying38 Try.underlying5 (by kernel_rfl) hf with ⟨hcs, _⟩ | ⟨x, l, c, zs, hcs, _, hl, hm, hz, _, hcell, hwz⟩
    · simp [Value.cells] at hcs
      obtain ⟨rfl, rfl, rfl⟩ := hcs
      exact ⟨[], .inl ⟨rfl, rfl, rfl, rfl⟩⟩
    · simp [Value.cells] at hcs
      obtain ⟨rfl, rfl, rfl⟩ := hcs
      exact ⟨zs, .inr ⟨_, rfl, hl, hm, by simpa using hz, hcell, hwz⟩⟩
  exact ⟨_, hrow.vals⟩

theorem in_bools {H : Type} {enc : TypeId × Value → H} {W : World} {base : Nat} {a : Option Addr} {len cap : Nat} {d : DataW H} {p : List MemPlace} (hd : DataW.Trod enc Try.prog W base (fun _ => true) true 39 (.slice a len cap) d p) :
    ∃ bs : List Bool, len ≤ maxLen ∧ (a = none → len = 0 ∧ cap = 0) ∧ IsVals W a len (bs.map Value.bool) := by
  obtain ⟨fuel, hf⟩ := hd
  rcases Go.Deep.open_bools Try.underlying39 Try.underlying4 Try.cells4 hf with ⟨hcs, _⟩ | ⟨x, l, c, B, hcs, _, hl, hm, _, hcell⟩
  · simp [Value.cells] at hcs
    obtain ⟨rfl, rfl, rfl⟩ := hcs
    exact ⟨[], Nat.zero_le _, fun _ => ⟨rfl, rfl⟩, isVals_zero _ _ _ rfl⟩
  · simp [Value.cells] at hcs
    obtain ⟨rfl, rfl, rfl⟩ := hcs
    refine ⟨(List.range len).map B, Nat.le_trans hl hm, fun h => by simp at h, by simp, fun h0 => ?_⟩
    obtain ⟨b, off, spot⟩ := x
    have hspot : spot = none := by simpa [Addr.add] using World.cell?_spot (hcell 0 (by omega))
    subst hspot
    have hc0 : ∀ j, j < len → W.cell? ⟨b, off + j, none⟩ = some (.bool (B j)) := by
      intro j hj
      rw [← add_plain, hcell j (by omega)]
    refine ⟨b, off, rfl, cell_lt (hc0 0 h0), fun j hj => ?_⟩
    rw [hc0 j hj]
    simp [hj]

end Go.Proofs.Qxb6000622a
