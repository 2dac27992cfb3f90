/-
  The set of a list, and of that list reversed and followed by itself: one set.
-/
import Derived.Test.Qxb6000568aSetLaws
import Derived.Maps.Ext
namespace Go.Proofs.Qxb6000568a
open Go.RowKit Go.Maps Go.WideMaps
set_option linter.unusedVariables false

theorem keys_nkey (ss : List ByteArray) : ∀ x ∈ ss.map nkey, WideAt.IsKeyLit x := fun y hy => by
  obtain ⟨_, _, rfl⟩ := List.mem_map.1 hy
  trivial

theorem has_nset_any (ss : List ByteArray) (k : Lit) : Maps.has (nset ss) k = ss.any (fun s => (nkey s).sameKey k) := by
  unfold nset
  rw [has_setOf _ _ _ (keys_nkey ss), List.any_map]
  rfl

theorem atKey_nset (k : Lit) (z : DataW Unit) : ∀ (n : Nat) (ss : List ByteArray), ss.length = n → Maps.has (nset ss) k = true → (nset ss).atKey k z = .agg []
  | 0, ss, hn, h => by
    have : ss = [] := List.eq_nil_of_length_eq_zero hn
    subst this
    simp [has_nset_any] at h
  | n + 1, ss, hn, h => by
    rcases List.eq_nil_or_concat ss with e | ⟨init, last, rfl⟩
    · subst e; simp at hn
    · have hs : nset (init ++ [last]) = (nset init).put (nkey last) (.agg []) := by
        unfold nset
        rw [List.map_append, List.map_singleton, setOf_snoc]
      rw [List.concat_eq_append] at h hn ⊢
      rw [hs] at h ⊢
      by_cases hk : k = nkey last
      · subst hk
        exact atKey_put_same (tidy_setOf _ _ (keys_nkey init)).isMap (show WideAt.IsKeyLit (nkey last) from trivial) _ _
      · rw [atKey_put_other hk]
        rw [has_put_other hk] at h
        exact atKey_nset k z n init (by simpa using hn) h

/-- The list reversed and followed by itself. -/
def both (ss : List ByteArray) : List ByteArray := ss.reverse ++ ss

theorem nset_both {ss : List ByteArray} (c1 : Canon (nset ss)) (c2 : Canon (nset (both ss))) : nset (both ss) = nset ss := by
  have hh : ∀ k, Maps.has (nset (both ss)) k = Maps.has (nset ss) k := by
    intro k
    rw [has_nset_any, has_nset_any]
    unfold both
    rw [List.any_append, List.any_reverse, Bool.or_self]
  exact Maps.ext c2 c1 hh (fun k z h => by rw [atKey_nset k z _ _ rfl h, atKey_nset k z _ _ rfl (by rw [← hh]; exact h)])

theorem both_length (ss : List ByteArray) : (both ss).length = ss.length + ss.length := by simp [both]

theorem both_mem {ss : List ByteArray} {s : ByteArray} (h : s ∈ both ss) : s ∈ ss := by
  unfold both at h
  simpa using h

/-- One step of the first loop: the last but k. -/
theorem rev_snoc (ss : List ByteArray) (k : Nat) (hk : k < ss.length) : (ss.reverse.take k).map Value.string ++ [Value.string (ss.getD (ss.length - 1 - k) ByteArray.empty)] = (ss.reverse.take (k + 1)).map Value.string := by
  rw [List.take_succ_eq_append_getElem (by simpa using hk), List.map_append]
  simp only [List.map_cons, List.map_nil, List.getElem_reverse]
  simp [List.getElem?_eq_getElem (show ss.length - 1 - k < ss.length from by omega)]

theorem take_snoc (ss : List ByteArray) (k : Nat) (hk : k < ss.length) : (ss.reverse ++ ss.take k).map Value.string ++ [Value.string (ss.getD k ByteArray.empty)] = (ss.reverse ++ ss.take (k + 1)).map Value.string := by
  rw [List.take_succ_eq_append_getElem hk, ← List.append_assoc, List.map_append (l₁ := ss.reverse ++ ss.take k)]
  simp [List.getElem?_eq_getElem hk]

end Go.Proofs.Qxb6000568a
