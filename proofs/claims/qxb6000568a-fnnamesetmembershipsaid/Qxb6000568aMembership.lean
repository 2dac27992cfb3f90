/-
  The walk of FnNameSetMembership (3).
-/
import Derived.Test.Qxb6000568aSetLaws
namespace Go.Proofs.Qxb6000568a.fnNameSetMembership
open Go.RowKit Go.Maps Go.WideMaps
set_option linter.unusedVariables false

theorem ret_true {b : Bool} (h : b = true) : Ending.returned (.bool b) = .returned (.bool true) := by rw [h]

set_option maxHeartbeats 1600000 in
/-- No names. -/
theorem walk_none (a : Option Addr) (cap : Nat) (p : ByteArray) (w1 : p.size ≤ maxLen) (ha : a = none → cap = 0) (w : World) :
    Calls Try.prog 3 #[.slice a 0 cap, .string p] w fun e w' => e = .returned (.bool true) ∧ Below w.heap.size w w' := by
  have hmn := fun (w : World) (r : Option Nat) => run_eql_map_nil (P := Try.prog) w 26 9 28 r Try.underlying26
  have hkey : keyOf Try.prog 9 (.string p) = some (nkey p) := keyOf_string_mk Try.underlying9 w1
  have hlook := fun (w : World) => Maps.look_nil (P := Try.prog) (w := w) true law9 Try.underlying26 (zero28 w) hkey
  have hlen := fun (w : World) (ty : TypeId) => Maps.len_nil (P := Try.prog) (w := w) Try.underlying26 ty
  have w1' := w1
  unfold maxLen at w1'
  go_enter Try.func3, Try.ntmps3
  go_wp2_with fail
  refine (bytes7_any _ _ _ [] _ w1 (by unfold maxLen; omega) _ (isStrs_zero _ _ _ rfl)).mono ?_
  rintro e w' ⟨⟨b, rfl⟩, rfl⟩
  cases b
  · go_wp2
    go_ret
    exact ⟨rfl, Below.refl _ _⟩
  by_cases hps : (1048576 : Int) < (p.size : Int)
  · go_wp2
    go_ret
    exact ⟨rfl, Below.refl _ _⟩
  go_wp2_with fail
  refine (names8_any _ _ _ [] (by unfold maxLen; omega) _ (isStrs_zero _ _ _ rfl)).mono ?_
  rintro e w' ⟨⟨n, rfl, hn⟩, rfl⟩
  by_cases hns : (1048576 : Int) < (n : Int) + (p.size : Int)
  · go_wp2
    go_ret
    exact ⟨rfl, Below.refl _ _⟩
  go_wp2_with fail
  refine (copy9_any _ _ _ [] (by omega) (fun h => ⟨rfl, ha h⟩) _ (isStrs_zero _ _ _ rfl)).mono ?_
  rintro e w2 ⟨a', cap', rfl, hs', hbel⟩
  clear hs'
  go_wp2_with (go_at_call 10; refine (set10_none _ _ _).mono ?_; rintro e w' ⟨rfl, rfl⟩)
  refine wp_loop_rounds 1 ?_
  rw [rounds_succ]
  go_wp2
  refine wp_loop_rounds 1 ?_
  rw [rounds_succ]
  go_wp2
  go_ret
  exact ⟨rfl, hbel.alloc hbel.size _⟩

set_option maxHeartbeats 3200000 in
/-- Some names. -/
theorem walk_some (a : Option Addr) (len cap : Nat) (p : ByteArray) (ss : List ByteArray) (h0 : 0 < len) (hl : len ≤ maxLen) (hsz : ∀ s ∈ ss, s.size ≤ maxLen) (w1 : p.size ≤ maxLen) (ha : a = none → len = 0 ∧ cap = 0) (w : World) (hs : IsStrs w a len ss) :
    Calls Try.prog 3 #[.slice a len cap, .string p] w fun e w' => e = .returned (.bool true) ∧ Below w.heap.size w w' := by
  have hmn := fun (w : World) (r : Option Nat) => run_eql_map_nil (P := Try.prog) w 26 9 28 r Try.underlying26
  have hkeyp : keyOf Try.prog 9 (.string p) = some (nkey p) := keyOf_string_mk Try.underlying9 w1
  have HSS : Hid (ss.length = len) := hs.1
  have HS : Hid (IsStrs w a len ss) := hs
  clear hs
  have hl' := hl
  unfold maxLen at hl'
  have w1' := w1
  unfold maxLen at w1'
  have hne : ((len : Int) == 0) = false := by simp; omega
  go_enter Try.func3, Try.ntmps3
  go_wp2_with fail
  refine (bytes7_any _ _ _ ss _ w1 hl _ HS.out).mono ?_
  rintro e w' ⟨⟨b, rfl⟩, rfl⟩
  cases b
  · go_wp2
    go_ret
    exact ⟨rfl, Below.refl _ _⟩
  by_cases hlb : (65536 : Int) < (len : Int)
  · go_wp2
    go_ret
    exact ⟨rfl, Below.refl _ _⟩
  by_cases hps : (1048576 : Int) < (p.size : Int)
  · go_wp2
    go_ret
    exact ⟨rfl, Below.refl _ _⟩
  go_wp2_with fail
  refine (names8_any _ _ _ ss hl _ HS.out).mono ?_
  rintro e w' ⟨⟨n, rfl, hn⟩, rfl⟩
  by_cases hns : (1048576 : Int) < (n : Int) + (p.size : Int)
  · go_wp2
    go_ret
    exact ⟨rfl, Below.refl _ _⟩
  go_wp2_with fail
  refine (copy9_any _ _ _ ss (by omega) ha _ HS.out).mono ?_
  rintro e w2 ⟨a', cap', rfl, hs', hbel⟩
  obtain ⟨b, off, rfl, hb, hc⟩ := hs'.2 h0
  clear hs'
  have HC : Hid (∀ j, j < len → w2.cell? ⟨b, off + j, none⟩ = some (.string (ss.getD j ByteArray.empty))) := hc
  clear hc
  go_wp2_with fail
  refine (set10_some b off len cap' ss h0 (by omega) HSS.out hsz _ hb HC.out).mono ?_
  rintro e w3 ⟨rfl, hown, hbel3⟩
  obtain ⟨B, hB⟩ : ∃ B, B = w2.heap.size := ⟨_, rfl⟩
  rw [← hB] at hown hbel3 hb ⊢
  have hB2 : w'.heap.size ≤ B := by rw [hB]; exact hbel.size
  have HB : Hid (B = w2.heap.size) := hB
  clear hB
  have hsle := hown.size_le
  have hsle2 : decide (len < Maps.size (nset ss)) = false := decide_eq_false (by omega)
  have hB3 : B < w3.heap.size := hown.lt
  go_wp2_with (at_len; refine wpList_len_own _ rfl _ 26 rfl 9 28 Try.underlying26 _ B len _ rfl hown ?_)
  clear hsle hsle2 hmn
  have hb3 : b < w3.heap.size := by omega
  have HC3 : Hid (∀ j, j < len → w3.cell? ⟨b, off + j, none⟩ = some (.string (ss.getD j ByteArray.empty))) := fun j hj => (hbel3.cell (by exact hb)).trans (HC.out j hj)
  go_loopw [6] (fun i wr => ∃ k : Nat, k ≤ len ∧ i = .int .i64 k ∧ wr.ownsMap Try.prog 9 (unitElem (H := Unit)) B len (nset ss) ∧ Below w3.heap.size w3 wr) (fun i _ => len - (intOf i).toNat)
  case atStart => exact ⟨0, Nat.zero_le _, rfl, hown, Below.refl _ _⟩
  case round =>
    clear hown
    obtain ⟨k, hk, rfl, hown, hnx⟩ := hrel
    have hsz3 := hnx.size
    by_cases hlt : k < len
    · obtain ⟨s, hsn⟩ : ∃ s, s = ss.getD k ByteArray.empty := ⟨_, rfl⟩
      have hcx : wr.cell? ⟨b, off + k, none⟩ = some (.string s) := by rw [hsn]; exact (hnx.cell (by exact hb3)).trans (HC3.out k hlt)
      have hkey : keyOf Try.prog 9 (.string s) = some (nkey s) := by rw [hsn]; exact key_ok hsz k
      have hhas : Maps.has (nset ss) (nkey s) = true := by rw [has_nset, hsn]; exact listed_at ss k (by rw [HSS.out]; exact hlt)
      clear hsn
      go_wp2_with (at_lookup; refine wpList_lookup_own_unit _ rfl _ _ 26 rfl 9 28 law9 Try.underlying26 (zero28 _) B len _ rfl hown _ _ rfl hkey ?_)
      go_roundw
      case rel => exact ⟨k + 1, by omega, by go_num, hown.alloc _, hnx.alloc hnx.size _⟩
      case measure => simp [intOf]; omega
    · have hkl : k = len := by omega
      subst hkl
      go_wp2
      go_loop [9, 10] (fun l i => ∃ j : Nat, j ≤ k ∧ i = .int .i64 j ∧ l = .bool (listed (ss.take j) p)) (fun _ i => k - (intOf i).toNat)
      case atStart => exact ⟨0, Nat.zero_le _, rfl, by rw [listed_take_zero]⟩
      case round =>
        obtain ⟨j, hj, rfl, rfl⟩ := hrel
        by_cases hlt : j < k
        · obtain ⟨s, hsn⟩ : ∃ s, s = ss.getD j ByteArray.empty := ⟨_, rfl⟩
          have hcx : wr.cell? ⟨b, off + j, none⟩ = some (.string s) := by rw [hsn]; exact (hnx.cell (by exact hb3)).trans (HC3.out j hlt)
          have HL : Hid (listed (ss.take (j + 1)) p = (listed (ss.take j) p || (s.toList == p.toList))) := by rw [hsn]; exact listed_take_succ ss p j (by rw [HSS.out]; exact hlt)
          clear hsn
          cases heq : (s.toList == p.toList)
          · go_wp2
            go_round
            case rel => exact ⟨j + 1, by omega, by go_num, by rw [HL.out, heq]; simp⟩
            case measure => simp [intOf]; omega
          · go_wp2
            go_round
            case rel => exact ⟨j + 1, by omega, by go_num, by rw [HL.out, heq]; simp⟩
            case measure => simp [intOf]; omega
        · have hjk : j = k := by omega
          subst hjk
          have HF : Hid (listed (ss.take j) p = Maps.has (nset ss) (nkey p)) := by
            rw [has_nset, List.take_of_length_le (by rw [HSS.out]; exact Nat.le_refl _)]; exact rfl
          go_wp2_with (at_lookup; refine wpList_lookup_own_unit _ rfl _ _ 26 rfl 9 28 law9 Try.underlying26 (zero28 _) B _ _ rfl hown _ _ rfl hkeyp ?_)
          go_ret
          refine ⟨ret_true (b := (Maps.has (nset ss) (nkey p) == listed (ss.take j) p)) (by rw [HF.out]; simp), ?_⟩
          exact (hbel.trans (hbel3.mono hB2)).trans ((hnx.alloc hnx.size _).mono (by omega))

end Go.Proofs.Qxb6000568a.fnNameSetMembership
