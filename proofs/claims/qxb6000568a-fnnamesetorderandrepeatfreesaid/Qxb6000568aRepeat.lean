/-
  The walk of FnNameSetOrderAndRepeatFree (4).
-/
import Derived.Test.Qxb6000568aSetSame
import Derived.Maps.AppendAt
namespace Go.Proofs.Qxb6000568a.fnNameSetOrderAndRepeatFree
open Go.RowKit Go.Maps Go.WideMaps
set_option linter.unusedVariables false

theorem ret_true {b : Bool} (h : b = true) : Ending.returned (.bool b) = .returned (.bool true) := by rw [h]

/-- 'make([]string, 0, 0)' -/
theorem hmk0 (w : World) : (Instr.makeSlice 22 (.int .i64 0) (.int .i64 0)).run Try.prog w = .ok (.slice (some ⟨w.heap.size, 0, none⟩) 0 0) (w.alloc (.cells (madeCells #[.string ByteArray.empty] 0) 9)) := hmk22 0 (by omega) w

set_option maxHeartbeats 1600000 in
/-- No names. -/
theorem walk_none (a : Option Addr) (cap : Nat) (p : ByteArray) (w1 : p.size ≤ maxLen) (ha : a = none → cap = 0) (w : World) :
    Calls Try.prog 4 #[.slice a 0 cap, .string p] w fun e w' => e = .returned (.bool true) ∧ Below w.heap.size w w' := by
  have hmn := fun (w : World) (r : Option Nat) => run_eql_map_nil (P := Try.prog) w 26 9 28 r Try.underlying26
  have hmk := hmk0
  have hkey : keyOf Try.prog 9 (.string p) = some (nkey p) := keyOf_string_mk Try.underlying9 w1
  have hlook := fun (w : World) => Maps.look_nil (P := Try.prog) (w := w) true law9 Try.underlying26 (zero28 w) hkey
  have hlen := fun (w : World) (ty : TypeId) => Maps.len_nil (P := Try.prog) (w := w) Try.underlying26 ty
  have w1' := w1
  unfold maxLen at w1'
  go_enter Try.func4, Try.ntmps4
  go_wp2_with fail
  refine (bytes11_any _ _ _ [] _ w1 (by unfold maxLen; omega) _ (isStrs_zero _ _ _ rfl)).mono ?_
  rintro e w' ⟨⟨b, rfl⟩, rfl⟩
  cases b
  · go_wp2
    go_ret
    exact ⟨rfl, Below.refl _ _⟩
  by_cases hps : (1048576 : Int) < (p.size : Int)
  · go_wp2
    go_ret
    exact ⟨rfl, Below.refl _ _⟩
  go_wp2_with fail
  refine (names8_any _ _ _ [] (by unfold maxLen; omega) _ (isStrs_zero _ _ _ rfl)).mono ?_
  rintro e w' ⟨⟨n, rfl, hn⟩, rfl⟩
  by_cases hns : (1048576 : Int) < (n : Int) + (p.size : Int)
  · go_wp2
    go_ret
    exact ⟨rfl, Below.refl _ _⟩
  go_wp2_with fail
  refine (copy9_any _ _ _ [] (by omega) (fun h => ⟨rfl, ha h⟩) _ (isStrs_zero _ _ _ rfl)).mono ?_
  rintro e w2 ⟨a', cap', rfl, hs', hbel⟩
  clear hs'
  go_wp2_with (go_at_call 10; refine (set10_none _ _ _).mono ?_; rintro e w' ⟨rfl, rfl⟩)
  refine wp_loop_rounds 1 ?_
  rw [rounds_succ]
  go_wp2
  refine wp_loop_rounds 1 ?_
  rw [rounds_succ]
  go_wp2_with (go_at_call 10; refine (set10_none _ _ _).mono ?_; rintro e w' ⟨rfl, rfl⟩)
  refine wp_loop_rounds 1 ?_
  rw [rounds_succ]
  go_wp2
  go_ret
  refine ⟨rfl, ?_⟩
  have hs2 := hbel.size
  exact (((hbel.alloc hs2 _).alloc (by simp; omega) _).alloc (by simp; omega) _)

theorem ownsMap_below {w w' : World} {B b n : Nat} {D : DataW Unit} (h : w.ownsMap Try.prog 9 (unitElem (H := Unit)) b n D) (hb : Below B w w') (hlt : b < B) : w'.ownsMap Try.prog 9 (unitElem (H := Unit)) b n D := by
  obtain ⟨es, clock, hh, rest⟩ := h
  exact ⟨es, clock, (hb.block b hlt).trans hh, rest⟩

theorem ownsRow_below {w w' : World} {B base e size n g cap : Nat} {xs : List Value} (h : w.ownsRow base e size (.slice (some ⟨g, 0, none⟩) n cap) n xs) (hb : Below B w w') (hlt : g < B) : w'.ownsRow base e size (.slice (some ⟨g, 0, none⟩) n cap) n xs := by
  refine ⟨h.1, ?_⟩
  rcases h.2 with ⟨h', _⟩ | ⟨g', cap', cur, h', hb', hg, rest⟩
  · simp at h'
  · simp only [Value.slice.injEq, Option.some.injEq, Addr.mk.injEq, and_true, true_and] at h'
    obtain ⟨rfl, rfl⟩ := h'
    exact .inr ⟨g, cap, cur, rfl, hb', (hb.block g hlt).trans hg, rest⟩

set_option maxHeartbeats 3200000 in
/-- Some names. -/
theorem walk_some (a : Option Addr) (len cap : Nat) (p : ByteArray) (ss : List ByteArray) (h0 : 0 < len) (hl : len ≤ maxLen) (hsz : ∀ s ∈ ss, s.size ≤ maxLen) (w1 : p.size ≤ maxLen) (ha : a = none → len = 0 ∧ cap = 0) (w : World) (hs : IsStrs w a len ss) :
    Calls Try.prog 4 #[.slice a len cap, .string p] w fun e w' => e = .returned (.bool true) ∧ Below w.heap.size w w' := by
  obtain ⟨i0, hi, hz0, hz1, hz2⟩ := info_parts Try.info9
  have hmn := fun (w : World) (r : Option Nat) => run_eql_map_nil (P := Try.prog) w 26 9 28 r Try.underlying26
  have hkeyp : keyOf Try.prog 9 (.string p) = some (nkey p) := keyOf_string_mk Try.underlying9 w1
  have HSS : Hid (ss.length = len) := hs.1
  have HS : Hid (IsStrs w a len ss) := hs
  clear hs
  have hl' := hl
  unfold maxLen at hl'
  have w1' := w1
  unfold maxLen at w1'
  have hne : ((len : Int) == 0) = false := by simp; omega
  go_enter Try.func4, Try.ntmps4
  go_wp2_with fail
  refine (bytes11_any _ _ _ ss _ w1 hl _ HS.out).mono ?_
  rintro e w' ⟨⟨b, rfl⟩, rfl⟩
  cases b
  · go_wp2
    go_ret
    exact ⟨rfl, Below.refl _ _⟩
  by_cases hlb : (65536 : Int) < (len : Int)
  · go_wp2
    go_ret
    exact ⟨rfl, Below.refl _ _⟩
  by_cases hps : (1048576 : Int) < (p.size : Int)
  · go_wp2
    go_ret
    exact ⟨rfl, Below.refl _ _⟩
  go_wp2_with fail
  refine (names8_any _ _ _ ss hl _ HS.out).mono ?_
  rintro e w' ⟨⟨n, rfl, hn⟩, rfl⟩
  by_cases hns : (1048576 : Int) < (n : Int) + (p.size : Int)
  · go_wp2
    go_ret
    exact ⟨rfl, Below.refl _ _⟩
  go_wp2_with fail
  refine (copy9_any _ _ _ ss (by omega) ha _ HS.out).mono ?_
  rintro e w2 ⟨a', cap', rfl, hs', hbel⟩
  obtain ⟨b, off, rfl, hb, hc⟩ := hs'.2 h0
  clear hs'
  have HC : Hid (∀ j, j < len → w2.cell? ⟨b, off + j, none⟩ = some (.string (ss.getD j ByteArray.empty))) := hc
  clear hc
  have hw2 := hbel.size
  go_wp2_with (first | (at_make; refine wpList_make_own _ rfl _ _ 22 rfl w2.heap.size 9 i0 (.string ByteArray.empty) 1 Try.underlying22 hi hz0 hz1 .i64 .i64 _ (2 * len) rfl rfl (by omega) (by rw [hz2]; omega) (by unfold maxLen; omega) (Nat.le_refl _) ?_; intro w3 hown hgrow))
  obtain ⟨B, hB⟩ : ∃ B, B = w2.heap.size := ⟨_, rfl⟩
  rw [← hB] at hown hb hw2 ⊢
  have hbel3 : Below B w2 w3 := (Below.refl _ _).grown hgrow (by omega) (fun k hk => by cases hk)
  have hB3 : B < w3.heap.size := (hown.lt B rfl).2
  clear hgrow
  have HB : Hid (B = w2.heap.size) := hB
  clear hB
  have HL2 : Hid (∀ wr : World, Below B w2 wr → ∀ j, j < len → wr.cell? ⟨b, off + j, none⟩ = some (.string (ss.getD j ByteArray.empty))) := fun wr hx j hj => (hx.cell (by exact hb)).trans (HC.out j hj)
  go_loopw [5, 6] (fun v i wr => ∃ (k : Nat) (q : Int), k ≤ len ∧ i = .int .i64 q ∧ Hid (q + k + 1 = len) ∧ v = .slice (some ⟨B, 0, none⟩) k (2 * len) ∧ wr.ownsRow B 9 1 (.slice (some ⟨B, 0, none⟩) k (2 * len)) k ((ss.reverse.take k).map Value.string) ∧ Below B w2 wr) (fun _ i _ => (intOf i + 1).toNat)
  case atStart => exact ⟨0, (len : Int) - 1, Nat.zero_le _, rfl, (show _ = _ by omega), rfl, hown, hbel3⟩
  case round =>
    clear hown
    obtain ⟨k, q, hk, rfl, HQ, rfl, hown, hnx⟩ := hrel
    have hsw := (hown.lt B rfl).2
    by_cases hlt : k < len
    · obtain ⟨j, rfl⟩ : ∃ j : Nat, q = (j : Int) := ⟨q.toNat, by have := HQ.out; omega⟩
      have hj1 : j < len := by have := HQ.out; omega
      have hjj : j = ss.length - 1 - k := by have := HQ.out; rw [HSS.out]; omega
      obtain ⟨s, hsn⟩ : ∃ s, s = ss.getD j ByteArray.empty := ⟨_, rfl⟩
      have hcx : wr.cell? ⟨b, off + j, none⟩ = some (.string s) := by rw [hsn]; exact HL2.out wr hnx j hj1
      have HST : Hid ((ss.reverse.take k).map Value.string ++ [Value.string s] = (ss.reverse.take (k + 1)).map Value.string) := by
        rw [hsn, hjj]; exact rev_snoc ss k (by rw [HSS.out]; exact hlt)
      clear hsn hjj
      go_wp2_with (at_builtin; refine wpList_append_fits _ rfl _ _ 22 rfl B 9 i0 1 Try.underlying22 hi hz1 B k (2 * len) _ rfl (hown.alloc _) ⟨wr.heap.size, 0, none⟩ 1 1 [.string s] rfl rfl (cell_one_new _ _ _) (fun u hu => by simp at hu; subst hu; rfl) (by omega) ?_; intro w4 hown4 hgrow4)
      go_roundw
      case rel =>
        refine ⟨k + 1, (j : Int) - 1, by omega, by go_num, (show _ = _ by have := HQ.out; omega), rfl, by rw [← HST.out]; exact hown4, ?_⟩
        exact (hnx.alloc (by omega) _).grown hgrow4 (by simp; omega) (fun g hg => by cases hg; exact Nat.le_refl _)
      case measure => simp [intOf]
    · have hkl : k = len := by omega
      subst hkl
      have hq : q < 0 := by have := HQ.out; omega
      have hrl : (ss.reverse.take k).map Value.string = (ss.reverse ++ ss.take 0).map Value.string := by
        rw [List.take_of_length_le (by simp [HSS.out])]; simp
      rw [hrl] at hown
      clear hrl
      go_wp2
      go_loopw [5, 7] (fun v i wr => ∃ j : Nat, j ≤ k ∧ i = .int .i64 j ∧ v = .slice (some ⟨B, 0, none⟩) (k + j) (2 * k) ∧ wr.ownsRow B 9 1 (.slice (some ⟨B, 0, none⟩) (k + j) (2 * k)) (k + j) ((ss.reverse ++ ss.take j).map Value.string) ∧ Below B w2 wr) (fun _ i _ => k - (intOf i).toNat)
      case atStart => exact ⟨0, Nat.zero_le _, rfl, rfl, hown, hnx⟩
      case round =>
        clear hown hnx hsw
        obtain ⟨j, hj, rfl, rfl, hown, hnx⟩ := hrel
        have hsw := (hown.lt B rfl).2
        by_cases hlt : j < k
        · obtain ⟨s, hsn⟩ : ∃ s, s = ss.getD j ByteArray.empty := ⟨_, rfl⟩
          have hcx : wr.cell? ⟨b, off + j, none⟩ = some (.string s) := by rw [hsn]; exact HL2.out wr hnx j hlt
          have HST : Hid ((ss.reverse ++ ss.take j).map Value.string ++ [Value.string s] = (ss.reverse ++ ss.take (j + 1)).map Value.string) := by
            rw [hsn]; exact take_snoc ss j (by rw [HSS.out]; exact hlt)
          clear hsn
          go_wp2_with (at_builtin; refine wpList_append_fits _ rfl _ _ 22 rfl B 9 i0 1 Try.underlying22 hi hz1 B (k + j) (2 * k) _ rfl (hown.alloc _) ⟨wr.heap.size, 0, none⟩ 1 1 [.string s] rfl rfl (cell_one_new _ _ _) (fun u hu => by simp at hu; subst hu; rfl) (by omega) ?_; intro w4 hown4 hgrow4)
          go_roundw
          case rel =>
            refine ⟨j + 1, by omega, by go_num, rfl, by rw [← HST.out]; exact hown4, ?_⟩
            exact (hnx.alloc (by omega) _).grown hgrow4 (by simp; omega) (fun g hg => by cases hg; exact Nat.le_refl _)
          case measure => simp [intOf]; omega
        · have hjk : j = k := by omega
          subst hjk
          have hbo : (ss.reverse ++ ss.take j).map Value.string = (both ss).map Value.string := by
            rw [List.take_of_length_le (by rw [HSS.out]; exact Nat.le_refl _)]; exact rfl
          rw [hbo] at hown
          clear hbo
          have hcN := HL2.out wr hnx
          have hcO : ∀ t, t < j + j → wr.cell? ⟨B, 0 + t, none⟩ = some (.string ((both ss).getD t ByteArray.empty)) := by
            intro t ht
            rw [Nat.zero_add, hown.cellAt t (by omega), List.getElem?_map]
            simp [List.getElem?_eq_getElem (show t < (both ss).length from by rw [both_length, HSS.out]; exact ht)]
          have HCN := hid hcN
          have HCO := hid hcO
          clear hcN hcO
          have hbw : b < wr.heap.size := by omega
          go_wp2_with fail
          refine (set10_some b off j cap' ss h0 (by omega) HSS.out hsz _ hbw HCN.out).mono ?_
          rintro e w5 ⟨rfl, hownA, hbelA⟩
          obtain ⟨A, hA⟩ : ∃ A, A = wr.heap.size := ⟨_, rfl⟩
          rw [← hA] at hownA hbelA hsw hbw ⊢
          have hA5 := hownA.lt
          have hnxA := hnx.size
          rw [← hA] at hnxA
          have HA := hid hA
          clear hA
          go_wp2_with fail
          refine (set10_some B 0 (j + j) (2 * j) (both ss) (by omega) (by omega) (by rw [both_length, HSS.out]) (fun s hs => hsz s (both_mem hs)) _ (by omega) (fun t ht => (hbelA.cell (by exact hsw)).trans (HCO.out t ht))).mono ?_
          rintro e w6 ⟨rfl, hownC, hbelC⟩
          obtain ⟨C, hC⟩ : ∃ C, C = w5.heap.size := ⟨_, rfl⟩
          rw [← hC] at hownC hbelC hA5 ⊢
          have hC6 := hownC.lt
          have HC5 := hid hC
          clear hC
          have hownA6 := ownsMap_below hownA hbelC hA5
          have eqD := nset_both (hownA.canon law9) (hownC.canon law9)
          rw [eqD] at hownC
          clear eqD hownA
          go_wp2_with (first
            | (at_len; refine wpList_len_own _ rfl (.tmp 77) 26 rfl 9 28 Try.underlying26 _ A j _ rfl hownA6 ?_)
            | (at_len; refine wpList_len_own _ rfl (.tmp 79) 26 rfl 9 28 Try.underlying26 _ C (j + j) _ rfl hownC ?_))
          have hBC : B ≤ C := by omega
          have hbel6 : Below B w2 w6 := (hnx.trans (hbelA.mono (by omega))).trans (hbelC.mono hBC)
          have hmn' := hid hmn
          clear hmn hbelA hbelC hnx hown
          go_loopw [10] (fun i wr => ∃ k : Nat, k ≤ j ∧ i = .int .i64 k ∧ wr.ownsMap Try.prog 9 (unitElem (H := Unit)) A j (nset ss) ∧ wr.ownsMap Try.prog 9 (unitElem (H := Unit)) C (j + j) (nset ss) ∧ Below w6.heap.size w6 wr) (fun i _ => j - (intOf i).toNat)
          case atStart => exact ⟨0, Nat.zero_le _, rfl, hownA6, hownC, Below.refl _ _⟩
          case round =>
            clear hownA6 hownC
            obtain ⟨k, hk, rfl, hownA, hownC, hny⟩ := hrel
            have hs6 := hny.size
            by_cases hlt : k < j
            · obtain ⟨s, hsn⟩ : ∃ s, s = ss.getD k ByteArray.empty := ⟨_, rfl⟩
              have hcx : wr.cell? ⟨b, off + k, none⟩ = some (.string s) := by rw [hsn]; exact HL2.out wr (hbel6.trans (hny.mono (by omega))) k hlt
              have hbw' : b < wr.heap.size := by omega
              have hkey : keyOf Try.prog 9 (.string s) = some (nkey s) := by rw [hsn]; exact key_ok hsz k
              have hhas : Maps.has (nset ss) (nkey s) = true := by rw [has_nset, hsn]; exact listed_at ss k (by rw [HSS.out]; exact hlt)
              clear hsn
              go_wp2_with (first
                | (at_lookup; refine wpList_lookup_own_unit _ rfl (.tmp 89) _ 26 rfl 9 28 law9 Try.underlying26 (zero28 _) C (j + j) _ rfl hownC _ _ rfl hkey ?_)
                | (at_lookup; refine wpList_lookup_own_unit _ rfl (.tmp 100) _ 26 rfl 9 28 law9 Try.underlying26 (zero28 _) A j _ rfl (hownA.alloc _) _ _ rfl hkey ?_))
              go_roundw
              case rel => exact ⟨k + 1, by omega, by go_num, (hownA.alloc _).alloc _, (hownC.alloc _).alloc _, (hny.alloc hny.size _).alloc (by simp; omega) _⟩
              case measure => simp [intOf]; omega
            · have hkl : k = j := by omega
              subst hkl
              go_wp2_with (first
                | (at_lookup; refine wpList_lookup_own_unit _ rfl (.tmp 111) _ 26 rfl 9 28 law9 Try.underlying26 (zero28 _) A _ _ rfl hownA _ _ rfl hkeyp ?_)
                | (at_lookup; refine wpList_lookup_own_unit _ rfl (.tmp 117) _ 26 rfl 9 28 law9 Try.underlying26 (zero28 _) C _ _ rfl (hownC.alloc _) _ _ rfl hkeyp ?_))
              go_ret
              refine ⟨rfl, ?_⟩
              exact (hbel.trans (hbel6.mono hw2)).trans (((hny.alloc hny.size _).alloc (by simp; omega) _).mono (by omega))

end Go.Proofs.Qxb6000568a.fnNameSetOrderAndRepeatFree
