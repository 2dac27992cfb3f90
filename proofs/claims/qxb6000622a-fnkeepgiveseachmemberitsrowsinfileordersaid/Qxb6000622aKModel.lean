/-
  Plain: the members in the order of their first run, and each one's ranges of rows.
-/
import Derived.Test.Qxb6000622aKI
namespace Go.Proofs.Qxb6000622a
set_option linter.unusedVariables false

/-- The members of the first k runs, in the order of their first run. -/
def nm (mem : List ByteArray) : Nat → List ByteArray
  | 0 => []
  | k + 1 => if (nm mem k).any (fun x => decide (x = mem.getD k ByteArray.empty)) = true then nm mem k else nm mem k ++ [mem.getD k ByteArray.empty]

theorem any_mem (l : List ByteArray) (s : ByteArray) : l.any (fun x => decide (x = s)) = true ↔ s ∈ l := by
  simp

/-- The ranges of rows of member s among the first k runs. -/
def spn (mem : List ByteArray) (stt : Nat → Nat) : Nat → ByteArray → List (Nat × Nat)
  | 0, _ => []
  | k + 1, s => if s = mem.getD k ByteArray.empty then spn mem stt k s ++ [(stt k, stt (k + 1))] else spn mem stt k s

theorem nm_old {mem : List ByteArray} {k : Nat} (h : mem.getD k ByteArray.empty ∈ nm mem k) : nm mem (k + 1) = nm mem k := by rw [nm, if_pos ((any_mem _ _).2 h)]
theorem nm_new {mem : List ByteArray} {k : Nat} (h : mem.getD k ByteArray.empty ∉ nm mem k) : nm mem (k + 1) = nm mem k ++ [mem.getD k ByteArray.empty] := by rw [nm, if_neg (fun h' => h ((any_mem _ _).1 h'))]

theorem nm_nodup (mem : List ByteArray) : ∀ k, (nm mem k).Nodup
  | 0 => List.nodup_nil
  | k + 1 => by
    by_cases h : mem.getD k ByteArray.empty ∈ nm mem k
    · rw [nm_old h]; exact nm_nodup mem k
    · rw [nm_new h, List.nodup_append]
      exact ⟨nm_nodup mem k, by simp, fun a ha b hb e => by simp at hb; subst hb; subst e; exact h ha⟩

theorem nm_le (mem : List ByteArray) : ∀ k, (nm mem k).length ≤ k
  | 0 => Nat.le_refl _
  | k + 1 => by
    have := nm_le mem k
    by_cases h : mem.getD k ByteArray.empty ∈ nm mem k
    · rw [nm_old h]; omega
    · rw [nm_new h, List.length_append]; simp; omega

theorem nm_mem (mem : List ByteArray) (s : ByteArray) : ∀ k, s ∈ nm mem k ↔ ∃ j, j < k ∧ mem.getD j ByteArray.empty = s
  | 0 => by simp [nm]
  | k + 1 => by
    have ih := nm_mem mem s k
    by_cases h : mem.getD k ByteArray.empty ∈ nm mem k
    · rw [nm_old h, ih]
      constructor
      · rintro ⟨j, hj, e⟩; exact ⟨j, by omega, e⟩
      · rintro ⟨j, hj, e⟩
        by_cases hjk : j = k
        · subst hjk
          rw [e] at h
          exact ih.1 h
        · exact ⟨j, by omega, e⟩
    · rw [nm_new h, List.mem_append, ih]
      constructor
      · rintro (⟨j, hj, e⟩ | h')
        · exact ⟨j, by omega, e⟩
        · simp at h'
          exact ⟨k, by omega, by simp [h']⟩
      · rintro ⟨j, hj, e⟩
        by_cases hjk : j = k
        · subst hjk; right; simp [← e]
        · exact .inl ⟨j, by omega, e⟩

theorem spn_none (mem : List ByteArray) (stt : Nat → Nat) (s : ByteArray) : ∀ k, (∀ j, j < k → mem.getD j ByteArray.empty ≠ s) → spn mem stt k s = []
  | 0, _ => rfl
  | k + 1, h => by
    rw [spn, if_neg (fun e => h k (by omega) e.symm)]
    exact spn_none mem stt s k (fun j hj => h j (by omega))

theorem spn_new {mem : List ByteArray} {stt : Nat → Nat} {k : Nat} (h : mem.getD k ByteArray.empty ∉ nm mem k) : spn mem stt k (mem.getD k ByteArray.empty) = [] :=
  spn_none mem stt _ k (fun j hj e => h ((nm_mem mem _ k).2 ⟨j, hj, e⟩))

theorem spn_le (mem : List ByteArray) (stt : Nat → Nat) (s : ByteArray) : ∀ k, (spn mem stt k s).length ≤ k
  | 0 => Nat.le_refl _
  | k + 1 => by
    have := spn_le mem stt s k
    rw [spn]
    split
    · rw [List.length_append]; simp; omega
    · omega

/-- One run more. -/
theorem spn_step (mem : List ByteArray) (stt : Nat → Nat) (k : Nat) (s : ByteArray) (hs : s = mem.getD k ByteArray.empty) : (fun x => if x = s then spn mem stt k s ++ [(stt k, stt (k + 1))] else spn mem stt k x) = spn mem stt (k + 1) := by
  subst hs
  funext x
  rw [spn]
  by_cases e : x = mem.getD k ByteArray.empty
  · rw [if_pos e, if_pos e, e]
  · rw [if_neg e, if_neg e]

end Go.Proofs.Qxb6000622a
