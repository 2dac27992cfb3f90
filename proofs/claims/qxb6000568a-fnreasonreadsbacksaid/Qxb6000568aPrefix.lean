/-
  zzHasPrefix (function 15) as a plain function.
-/
import Derived.Test.Qxb6000568aRows
import Derived.WalkKit
import Derived.WalkSpells
import Derived.WalkLawsBesides
import Derived.Deep.QuietTactic
import Derived.BigQuiet
namespace Go.Proofs.Qxb6000568a
open Go.RowKit
set_option linter.unusedVariables false

/-- p opens s. -/
def isPre (s p : ByteArray) : Bool := p.toList.isPrefixOf s.toList

theorem isPre_false_len {s p : ByteArray} (h : s.size < p.size) : isPre s p = false := by
  unfold isPre
  cases hb : p.toList.isPrefixOf s.toList with
  | false => rfl
  | true =>
    have hp : p.toList <+: s.toList := by simpa using hb
    have := hp.length_le
    simp [ByteArray.toList_eq] at this
    have e1 : p.data.size = p.size := rfl
    have e2 : s.data.size = s.size := rfl
    omega

theorem isPre_false_at {s p : ByteArray} (k : Nat) (hp : k < p.size) (hs : k < s.size) (h : s[k] ≠ p[k]) : isPre s p = false := by
  unfold isPre
  cases hb : p.toList.isPrefixOf s.toList with
  | false => rfl
  | true =>
    have hpre : p.toList <+: s.toList := by simpa using hb
    obtain ⟨t, ht⟩ := hpre
    rw [ByteArray.toList_eq, ByteArray.toList_eq] at ht
    have e : s.data.toList[k]? = p.data.toList[k]? := by rw [← ht, List.getElem?_append_left (by simpa using hp)]
    have e3 : s.data.toList[k]? = some s[k] := by
      rw [List.getElem?_eq_getElem (by simpa using hs)]; rfl
    have e4 : p.data.toList[k]? = some p[k] := by
      rw [List.getElem?_eq_getElem (by simpa using hp)]; rfl
    rw [e3, e4] at e
    exact absurd (Option.some.inj e) h

theorem isPre_true {s p : ByteArray} (hl : p.size ≤ s.size) (h : ∀ j, (hp : j < p.size) → (hs : j < s.size) → s[j] = p[j]) : isPre s p = true := by
  unfold isPre
  rw [List.isPrefixOf_iff_prefix, List.prefix_iff_eq_take]
  apply List.ext_getElem
  · simp [ByteArray.toList_eq]
    have e1 : p.data.size = p.size := rfl
    have e2 : s.data.size = s.size := rfl
    omega
  · intro j h1 h2
    have hj : j < p.size := by simpa [ByteArray.toList_eq] using h1
    have e := h j hj (by omega)
    simp only [ByteArray.toList_eq, List.getElem_take]
    exact e.symm

theorem step_same {s p : ByteArray} {k : Nat} (h : ∀ j, j < k → (hp : j < p.size) → (hs : j < s.size) → s[j] = p[j]) {hp : k < p.size} {hs : k < s.size} (e : s[k] = p[k]) :
    ∀ j, j < k + 1 → (hp : j < p.size) → (hs : j < s.size) → s[j] = p[j] := by
  intro j hj h1 h2
  by_cases hjk : j = k
  · subst hjk; exact e
  · exact h j (by omega) h1 h2

set_option maxHeartbeats 800000 in
theorem hasPrefix_any (s p : ByteArray) (hs : s.size ≤ maxLen) (hp : p.size ≤ maxLen) (w : World) :
    Calls Try.prog 15 #[.string s, .string p] w fun e w' => e = .returned (.bool (isPre s p)) ∧ ∃ n, w' = w.drewN n := by
  unfold maxLen at hs hp
  by_cases hlen : (s.size : Int) < (p.size : Int)
  · have HV : Hid (isPre s p = false) := isPre_false_len (by omega)
    go_enter Try.func15, Try.ntmps15
    go_wp2
    go_ret
    exact ⟨by rw [HV.out]; rfl, 0, rfl⟩
  · go_enter Try.func15, Try.ntmps15
    go_wp2
    go_loopw [5] (fun i wr => ∃ k n : Nat, k ≤ p.size ∧ i = .int .i64 k ∧ (∀ j, j < k → (hp : j < p.size) → (hs : j < s.size) → s[j] = p[j]) ∧ wr = w.drewN n) (fun i _ => p.size - (intOf i).toNat)
    case atStart => exact ⟨0, 0, Nat.zero_le _, rfl, fun j hj => by omega, rfl⟩
    case round =>
      obtain ⟨k, n, hk, rfl, hall, rfl⟩ := hrel
      have HA : Hid (∀ j, j < k → (hp : j < p.size) → (hs : j < s.size) → s[j] = p[j]) := hall
      clear hall
      by_cases hlt : k < p.size
      · have hlt2 : k < s.size := by omega
        have hi1 : (k : Int) < (p.size : Int) := by omega
        have hi2 : (k : Int) < (s.size : Int) := by omega
        go_wp2
        go_quiet (fail)
        go_wp2
        · have hne : (((s[k]'hlt2).toNat : Int) != ((p[k]'hlt).toNat : Int)) = true := by assumption
          have HV : Hid (isPre s p = false) := isPre_false_at k hlt hlt2 (fun e => by rw [e] at hne; simp at hne)
          go_ret
          exact ⟨by rw [HV.out]; rfl, n + nq, by simp⟩
        · have heq : (((s[k]'hlt2).toNat : Int) != ((p[k]'hlt).toNat : Int)) = false := by assumption
          have heq2 : s[k]'hlt2 = p[k]'hlt := UInt8.toNat_inj.1 (by have := heq; simp at this; omega)
          go_roundw
          case rel => exact ⟨k + 1, n + nq, by omega, by go_num, step_same HA.out heq2, rfl⟩
          case measure => simp [intOf]; omega
      · have HV : Hid (isPre s p = true) := isPre_true (by omega) (fun j h1 h2 => HA.out j (by omega) h1 h2)
        go_wp2
        go_ret
        exact ⟨by rw [HV.out]; rfl, n, rfl⟩

end Go.Proofs.Qxb6000568a
