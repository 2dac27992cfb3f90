/-
  newNameSet (16), ZZnewNameSet (10).
-/
import Derived.Test.Qxb6000568aNames
import Derived.Maps.AppendAt
namespace Go.Proofs.Qxb6000568a
open Go.RowKit Go.Maps Go.WideMaps
set_option linter.unusedVariables false

theorem hid {p : Prop} (h : p) : Hid p := h

theorem law9 : Keyed Try.prog 9 := string_keyed Try.underlying9
theorem zero28 (w : World) : (zeroValue 28).run Try.prog w = .ok (.agg #[]) w := by kernel_rfl

/-- A name as a key. -/
def nkey (s : ByteArray) : Lit := .string s.data.toList
/-- The set of a list of names. -/
def nset (ss : List ByteArray) : DataW Unit := setOf (.agg []) (ss.map nkey)

theorem nset_snoc (ss : List ByteArray) (k : Nat) (hk : k < ss.length) : nset (ss.take (k + 1)) = (nset (ss.take k)).put (nkey (ss.getD k ByteArray.empty)) (.agg []) := by
  unfold nset
  rw [List.take_succ_eq_append_getElem hk, List.map_append, List.map_singleton, setOf_snoc]
  simp [List.getElem?_eq_getElem hk]

theorem hmm36 (n : Int) (w : World) : (Instr.makeMap 36 (some (.int .i64 n))).run Try.prog w = .ok (.map (some w.heap.size)) (w.alloc (.map #[] 0)) := by
  simp [Instr.makeMap, run_underlying Try.underlying36, asInt, asIntOf, newObj]
  rfl

/-- No names: a nil map. -/
theorem set16_none (a : Option Addr) (cap : Nat) (w : World) : Calls Try.prog 16 #[.slice a 0 cap] w fun e w' => e = .returned (.map none) ∧ w' = w := by
  go_enter Try.func16, Try.ntmps16
  go_wp2
  go_ret
  exact ⟨rfl, rfl⟩

theorem key_ok {ss : List ByteArray} (hsz : ∀ s ∈ ss, s.size ≤ maxLen) (k : Nat) : keyOf Try.prog 9 (.string (ss.getD k ByteArray.empty)) = some (nkey (ss.getD k ByteArray.empty)) := by
  refine keyOf_string_mk Try.underlying9 ?_
  by_cases hk : k < ss.length
  · rw [List.getD, List.getElem?_eq_getElem hk]
    exact hsz _ (List.getElem_mem hk)
  · rw [List.getD, List.getElem?_eq_none (by omega)]
    exact Nat.zero_le _

set_option maxHeartbeats 800000 in
theorem set16_some (b off len cap : Nat) (ss : List ByteArray) (h0 : 0 < len) (hl : len ≤ 131072) (hss : ss.length = len) (hsz : ∀ s ∈ ss, s.size ≤ maxLen) (w : World) (hb : b < w.heap.size)
    (hc : ∀ j, j < len → w.cell? ⟨b, off + j, none⟩ = some (.string (ss.getD j ByteArray.empty))) :
    Calls Try.prog 16 #[.slice (some ⟨b, off, none⟩) len cap] w fun e w' => e = .returned (.map (some w.heap.size)) ∧ w'.ownsMap Try.prog 9 (unitElem (H := Unit)) w.heap.size len (nset ss) ∧ Below w.heap.size w w' := by
  have hmm := hmm36
  have hne : ((len : Int) == 0) = false := by simp; omega
  have HSS : Hid (ss.length = len) := hss
  have HC : Hid (∀ j, j < len → w.cell? ⟨b, off + j, none⟩ = some (.string (ss.getD j ByteArray.empty))) := hc
  clear hss hc
  go_enter Try.func16, Try.ntmps16
  go_wp2
  go_loopw [14] (fun i wr => ∃ k : Nat, k ≤ len ∧ i = .int .i64 k ∧ wr.ownsMap Try.prog 9 (unitElem (H := Unit)) w.heap.size k (nset (ss.take k)) ∧ Below w.heap.size w wr)
    (fun i _ => len - (intOf i).toNat)
  case atStart => exact ⟨0, Nat.zero_le _, rfl, World.ownsMap_made _ _ _ _, (Below.refl _ _).alloc (Nat.le_refl _) _⟩
  case round =>
    obtain ⟨k, hk, rfl, hown, hnx⟩ := hrel
    by_cases hlt : k < len
    · obtain ⟨s, hsn⟩ : ∃ s, s = ss.getD k ByteArray.empty := ⟨_, rfl⟩
      have hcx : wr.cell? ⟨b, off + k, none⟩ = some (.string s) := by rw [hsn]; exact (hnx.cell (by exact hb)).trans (HC.out k hlt)
      have hkey : keyOf Try.prog 9 (.string s) = some (nkey s) := by rw [hsn]; exact key_ok hsz k
      have HSN : Hid (nset (ss.take (k + 1)) = (nset (ss.take k)).put (nkey s) (.agg [])) := by rw [hsn]; exact nset_snoc ss k (by rw [HSS.out]; exact hlt)
      clear hsn
      go_wp2_with (first
        | (at_mapUpdate; refine wpList_mapUpdate_own _ rfl _ _ _ 36 rfl 9 28 law9 Try.underlying36 (unitElem (H := Unit)) w.heap.size k _ rfl hown (by unfold maxLen; omega) _ _ _ rfl rfl hkey _ [] unitElem_mk ?_; intro w1 hown1 hgrow1)
        | go_in)
      go_roundw
      case rel => exact ⟨k + 1, by omega, by go_num, by rw [HSN.out]; exact hown1, hnx.grown hgrow1 hnx.size (fun j hj => by cases hj; exact Nat.le_refl _)⟩
      case measure => simp [intOf]; omega
    · have hkl : k = len := by omega
      subst hkl
      go_wp2
      go_ret
      exact ⟨rfl, by rw [List.take_of_length_le (by rw [HSS.out]; exact Nat.le_refl _)] at hown; exact hown, hnx⟩

/-- ZZnewNameSet. -/
theorem set10_none (a : Option Addr) (cap : Nat) (w : World) : Calls Try.prog 10 #[.slice a 0 cap] w fun e w' => e = .returned (.map none) ∧ w' = w := by
  go_enter Try.func10, Try.ntmps10
  go_wp2_with (go_at_call 16; refine (set16_none _ _ _).mono ?_; rintro e w' ⟨rfl, rfl⟩)
  go_ret
  exact ⟨rfl, rfl⟩

theorem set10_some (b off len cap : Nat) (ss : List ByteArray) (h0 : 0 < len) (hl : len ≤ 131072) (hss : ss.length = len) (hsz : ∀ s ∈ ss, s.size ≤ maxLen) (w : World) (hb : b < w.heap.size)
    (hc : ∀ j, j < len → w.cell? ⟨b, off + j, none⟩ = some (.string (ss.getD j ByteArray.empty))) :
    Calls Try.prog 10 #[.slice (some ⟨b, off, none⟩) len cap] w fun e w' => e = .returned (.map (some w.heap.size)) ∧ w'.ownsMap Try.prog 9 (unitElem (H := Unit)) w.heap.size len (nset ss) ∧ Below w.heap.size w w' := by
  have H : ∀ W, W = w → Calls Try.prog 16 #[.slice (some ⟨b, off, none⟩) len cap] W fun e w' => e = .returned (.map (some w.heap.size)) ∧ w'.ownsMap Try.prog 9 (unitElem (H := Unit)) w.heap.size len (nset ss) ∧ Below w.heap.size w w' := by
    rintro W rfl
    exact set16_some b off len cap ss h0 hl hss hsz _ hb hc
  have HH := hid H
  clear H hss hsz hc
  go_enter Try.func10, Try.ntmps10
  go_wp2_with (go_at_call 16; refine (HH.out _ rfl).mono ?_; rintro e w' ⟨rfl, hown, hbel⟩)
  go_ret
  exact ⟨rfl, hown, hbel⟩

end Go.Proofs.Qxb6000568a
