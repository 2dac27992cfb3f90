/-
  Plain laws on the set of a list of names.
-/
import Derived.Test.Qxb6000568aSet
namespace Go.Proofs.Qxb6000568a
open Go.RowKit Go.Maps Go.WideMaps
set_option linter.unusedVariables false

/-- p is one of the names. -/
def listed (ss : List ByteArray) (p : ByteArray) : Bool := ss.any (fun s => s.toList == p.toList)

theorem has_nset (ss : List ByteArray) (p : ByteArray) : Maps.has (nset ss) (nkey p) = listed ss p := by
  unfold nset listed
  rw [has_setOf _ _ _ (fun y hy => by obtain ⟨_, _, rfl⟩ := List.mem_map.1 hy; trivial), List.any_map]
  congr 1
  funext s
  simp [nkey, Lit.sameKey, ByteArray.toList_eq]

theorem listed_take_zero (ss : List ByteArray) (p : ByteArray) : listed (ss.take 0) p = false := by simp [listed]

theorem listed_take_succ (ss : List ByteArray) (p : ByteArray) (k : Nat) (hk : k < ss.length) : listed (ss.take (k + 1)) p = (listed (ss.take k) p || ((ss.getD k ByteArray.empty).toList == p.toList)) := by
  unfold listed
  rw [List.take_succ_eq_append_getElem hk, List.any_append]
  simp [List.getElem?_eq_getElem hk]

theorem listed_at (ss : List ByteArray) (k : Nat) (hk : k < ss.length) : listed ss (ss.getD k ByteArray.empty) = true := by
  unfold listed
  rw [List.any_eq_true]
  exact ⟨ss[k], List.getElem_mem hk, by simp [List.getElem?_eq_getElem hk]⟩

end Go.Proofs.Qxb6000568a
