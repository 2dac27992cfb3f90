/-
  A part of the work file as memory.
-/
import Derived.Test.Qxb6000622aKRead
import Derived.Test.Qxb6000622aKModel
namespace Go.Proofs.Qxb6000622a
open Go.RowKit Go.Maps Go.WideMaps
set_option linter.unusedVariables false

/-- A part of the file as memory: runs a .. a+L-1. -/
structure PartAt (w : World) (ratesV : Value) (mem : List ByteArray) (stt : Nat → Nat) (a L Pb RB UB : Nat) : Prop where
  pblk : w.heap[Pb]? = some (.cells #[.pointer none, .slice (some ⟨RB, 0, none⟩) (stt (a + L) - stt a) (stt (a + L) - stt a), ratesV, .slice (some ⟨UB, 0, none⟩) L L] 88 (0, 0))
  rblk : ∃ cur, w.heap[RB]? = some (.cells cur 77 (0, 0)) ∧ ∀ t q, t < stt (a + L) - stt a → q < 3 → cur[t * 3 + q]? = some (scell (stt a + t) q)
  ublk : ∃ cur, w.heap[UB]? = some (.cells cur 83 (0, 0)) ∧ ∀ k, k < L → cur[k * 4]? = some (.string (mem.getD (a + k) ByteArray.empty)) ∧ cur[k * 4 + 1]? = some (.int .i64 0) ∧ cur[k * 4 + 2]? = some (.bool false) ∧ cur[k * 4 + 3]? = some (.int .i64 ((stt (a + (k + 1)) - stt a : Nat) : Int))

theorem PartAt.fr {w w' : World} {ratesV : Value} {mem : List ByteArray} {stt : Nat → Nat} {a L Pb RB UB : Nat} (h : PartAt w ratesV mem stt a L Pb RB UB) (f : Fr w w') : PartAt w' ratesV mem stt a L Pb RB UB where
  pblk := f _ _ _ _ h.pblk (by decide) (by decide) (by decide)
  rblk := by
    obtain ⟨cur, h1, h2⟩ := h.rblk
    exact ⟨cur, f _ _ _ _ h1 (by decide) (by decide) (by decide), h2⟩
  ublk := by
    obtain ⟨cur, h1, h2⟩ := h.ublk
    exact ⟨cur, f _ _ _ _ h1 (by decide) (by decide) (by decide), h2⟩

/-- The part's rates. -/
def RatesAt (w : World) (hr : Bool) (ratesV : Value) (lo n : Nat) : Prop :=
  (hr = false ∧ ratesV = .slice none 0 0) ∨ (hr = true ∧ ∃ TB cur, ratesV = .slice (some ⟨TB, 0, none⟩) n n ∧ w.heap[TB]? = some (.cells cur 32 (0, 0)) ∧ ∀ t, t < n → cur[t]? = some (.int .i64 (7 * ((lo + t : Nat) : Int))))

theorem RatesAt.fr {w w' : World} {hr : Bool} {v : Value} {lo n : Nat} (h : RatesAt w hr v lo n) (f : Fr w w') : RatesAt w' hr v lo n := by
  rcases h with h | ⟨h1, TB, cur, hv, hb, hc⟩
  · exact .inl h
  · exact .inr ⟨h1, TB, cur, hv, f _ _ _ _ hb (by decide) (by decide) (by decide), hc⟩

end Go.Proofs.Qxb6000622a
