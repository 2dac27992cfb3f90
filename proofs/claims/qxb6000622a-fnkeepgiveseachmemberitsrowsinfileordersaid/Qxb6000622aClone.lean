/-
  Slices of one-cell elements, and the clone functions b1clone.. (12, 13, 21, 22, 23).
-/
import Derived.Test.Qxb6000622aRows
import Derived.WalkKit
import Derived.WalkSpells
import Derived.WalkLawsBesides
namespace Go.Proofs.Qxb6000622a
open Go.RowKit
set_option linter.unusedVariables false

theorem hid {p : Prop} (h : p) : Hid p := h

/-- The slice value (a, len) leads to the cells vs. -/
def IsVals (w : World) (a : Option Addr) (len : Nat) (vs : List Value) : Prop :=
  vs.length = len ∧ (0 < len → ∃ b off, a = some ⟨b, off, none⟩ ∧ b < w.heap.size ∧ ∀ j, j < len → w.cell? ⟨b, off + j, none⟩ = vs[j]?)

theorem isVals_zero (w : World) (a : Option Addr) (vs : List Value) (hs : vs.length = 0) : IsVals w a 0 vs := ⟨hs, fun h => by omega⟩

/-- Old cells stay. -/
theorem IsVals.below {w w' : World} {a : Option Addr} {len : Nat} {vs : List Value} (h : IsVals w a len vs) (hb : Below w.heap.size w w') : IsVals w' a len vs :=
  ⟨h.1, fun h0 => by
    obtain ⟨b, off, e, hlt, hc⟩ := h.2 h0
    exact ⟨b, off, e, Nat.lt_of_lt_of_le hlt hb.size, fun j hj => (hb.cell (by exact hlt)).trans (hc j hj)⟩⟩

/-- What the copy's row holds behind k rounds. -/
def cpy (z : Value) (vs : List Value) (len k : Nat) : Array Value := (vs.take k ++ List.replicate (len - k) z).toArray

theorem cpy_zero (z : Value) (vs : List Value) (len : Nat) : cpy z vs len 0 = madeCells #[z] len := by
  unfold cpy madeCells
  apply Array.ext
  · simp
  · intro i h1 h2
    simp [Nat.mod_one]

theorem cpy_step (z : Value) (vs : List Value) (len k : Nat) (v : Value) (hv : vs[k]? = some v) (hs : vs.length = len) : (cpy z vs len k).setIfInBounds k v = cpy z vs len (k + 1) := by
  obtain ⟨hk, hg⟩ := List.getElem?_eq_some_iff.1 hv
  unfold cpy
  rw [← Array.toList_inj]
  rw [Array.toList_setIfInBounds]
  simp only
  have hl : (vs.take k).length = k := by simp; omega
  rw [List.set_append_right _ _ (by omega), hl, Nat.sub_self, show len - k = (len - (k + 1)) + 1 from by omega, List.replicate_succ, List.set_cons_zero, List.take_succ_eq_append_getElem hk, hg, List.append_assoc]
  rfl

theorem cpy_get (z : Value) (vs : List Value) (len k j : Nat) (hj : j < k) (hk : k ≤ len) (hs : vs.length = len) : (cpy z vs len k)[j]? = vs[j]? := by
  unfold cpy
  rw [List.getElem?_toArray, List.getElem?_append_left (by simp; omega), List.getElem?_take_of_lt hj]

theorem cpy_size (z : Value) (vs : List Value) (len k : Nat) (hk : k ≤ len) (hs : vs.length = len) : (cpy z vs len k).size = len := by
  unfold cpy
  simp
  omega

/-- A slice with the same cells was returned, in memory that is new (or it is nil). -/
def CopyOf (w : World) (len : Nat) (vs : List Value) (e : Ending) (w' : World) : Prop :=
  ∃ a' cap', e = .returned (.slice a' len cap') ∧ IsVals w' a' len vs ∧ Below w.heap.size w w'

theorem isVals_cpy (z : Value) (t : TypeId) (w : World) (len : Nat) (vs : List Value) (hs : vs.length = len) : IsVals (w.alloc (.cells (cpy z vs len len) t)) (some ⟨w.heap.size, 0, none⟩) len vs :=
  ⟨hs, fun _ => ⟨w.heap.size, 0, rfl, by simp, fun j hj => by rw [Nat.zero_add, World.cell?_alloc_at _ _ _ _ rfl]; exact cpy_get z vs len len j hj (Nat.le_refl _) hs⟩⟩

/-- 'make([]T, n)' at one-cell elements. -/
theorem make_one {T E : TypeId} {z : Value} {by' : Nat} (hu : Try.prog.underlying T = some (.slice E)) (hinfo : (Try.prog.info? E).map (fun i => (i.zero, i.size, i.bytes)) = some (some z, 1, by')) (hz : z.cells = #[z])
    (n : Nat) (hn : by' * n ≤ 281474976710656) (hm : n ≤ 1048576) (w : World) :
    (Instr.makeSlice T (.int .i64 (n : Int)) (.int .i64 (n : Int))).run Try.prog w = .ok (.slice (some ⟨w.heap.size, 0, none⟩) n n) (w.alloc (.cells (madeCells #[z] n) E)) := by
  obtain ⟨i0, hi, hz0, hz1, hz2⟩ := info_parts hinfo
  have hb' : (i0.bytes : Int) * (n : Int) ≤ 281474976710656 := by
    have h : ((i0.bytes * n : Nat) : Int) ≤ 281474976710656 := by rw [hz2]; omega
    rwa [Int.natCast_mul] at h
  have h := run_make (P := Try.prog) w T E i0 z hu hi hz0 .i64 .i64 (n : Int) (n : Int) (by omega) (by omega) hb' (by omega)
  rw [hz1, hz] at h
  simpa using h

theorem Try.info21 : (Try.prog.info? 21).map (fun i => (i.zero, i.size, i.bytes)) = some (some (.int .i32 0), 1, 4) := by kernel_rfl
theorem Try.info2 : (Try.prog.info? 2).map (fun i => (i.zero, i.size, i.bytes)) = some (some (.int .i64 0), 1, 8) := by kernel_rfl
theorem Try.info9 : (Try.prog.info? 9).map (fun i => (i.zero, i.size, i.bytes)) = some (some (.string ByteArray.empty), 1, 16) := by kernel_rfl
theorem Try.info5 : (Try.prog.info? 5).map (fun i => (i.zero, i.size, i.bytes)) = some (some (.int .u8 0), 1, 1) := by kernel_rfl
theorem Try.info4 : (Try.prog.info? 4).map (fun i => (i.zero, i.size, i.bytes)) = some (some (.bool false), 1, 1) := by kernel_rfl

set_option maxHeartbeats 800000 in
theorem clone12_any (a : Option Addr) (len cap : Nat) (xs : List Int) (hl : len ≤ 1048576) (ha : a = none → len = 0 ∧ cap = 0) (w : World) (hs : IsVals w a len (xs.map (Value.int .i32))) :
    Calls Try.prog 12 #[.slice a len cap] w fun e w' => CopyOf w len (xs.map (Value.int .i32)) e w' := by
  have hss := hs.1
  have hnil := fun (w : World) (a : Option Addr) (n c : Nat) => Lib.run_eql_slice_nil (P := Try.prog) w 22 21 a n c 0 0 Try.underlying22
  match a, ha, hs with
  | none, ha, hs =>
    obtain ⟨rfl, rfl⟩ := ha rfl
    clear ha hs
    go_enter Try.func12, Try.ntmps12
    go_wp2
    go_ret
    exact ⟨_, _, rfl, isVals_zero _ _ _ hss, Below.refl _ _⟩
  | some x, ha, hs =>
    clear ha
    have hmk := make_one Try.underlying22 Try.info21 rfl len (by omega) hl
    rcases Nat.eq_zero_or_pos len with h0 | h0
    · subst h0
      clear hs hmk
      have hmk0 : ∀ w : World, (Instr.makeSlice 22 (.int .i64 0) (.int .i64 0)).run Try.prog w = .ok (.slice (some ⟨w.heap.size, 0, none⟩) 0 0) (w.alloc (.cells (madeCells #[.int .i32 0] 0) 21)) := fun w => make_one Try.underlying22 Try.info21 rfl 0 (by omega) hl w
      go_enter Try.func12, Try.ntmps12
      go_wp2
      refine wp_loop_rounds 1 ?_
      rw [rounds_succ]
      go_wp2
      go_ret
      exact ⟨_, _, rfl, isVals_zero _ _ _ hss, (Below.refl _ _).alloc (Nat.le_refl _) _⟩
    · obtain ⟨b, off, rfl, hb, hc⟩ : ∃ b off, x = ⟨b, off, none⟩ ∧ b < w.heap.size ∧ ∀ j, j < len → w.cell? ⟨b, off + j, none⟩ = (xs.map (Value.int .i32))[j]? := by
        obtain ⟨b, off, e, h⟩ := hs.2 h0
        exact ⟨b, off, Option.some.inj e, h⟩
      clear hs
      have HSS := hid hss
      clear hss
      have HC := hid hc
      clear hc
      have HM := hid (cpy_zero (.int .i32 0) (xs.map (Value.int .i32)) len)
      go_enter Try.func12, Try.ntmps12
      go_wp2
      go_loopw [4] (fun i wr => ∃ k : Nat, k ≤ len ∧ i = .int .i64 k ∧ wr = w.alloc (.cells (cpy (.int .i32 0) (xs.map (Value.int .i32)) len k) 21)) (fun i _ => len - (intOf i).toNat)
      case atStart => exact ⟨0, Nat.zero_le _, rfl, by rw [HM.out]⟩
      case round =>
        obtain ⟨k, hk, rfl, rfl⟩ := hrel
        by_cases hlt : k < len
        · obtain ⟨s, hsn⟩ : ∃ s, (xs.map (Value.int .i32))[k]? = some ((Value.int .i32) s) := by
            have hkx : k < xs.length := by have := HSS.out; simp at this; omega
            exact ⟨xs[k], by simp [List.getElem?_eq_getElem hkx]⟩
          have hcx : w.cell? ⟨b, off + k, none⟩ = some ((Value.int .i32) s) := by rw [← hsn]; exact HC.out k hlt
          have HST := hid (cpy_step (.int .i32 0) (xs.map (Value.int .i32)) len k ((Value.int .i32) s) hsn HSS.out)
          have hsz := cpy_size (.int .i32 0) (xs.map (Value.int .i32)) len k hk HSS.out
          obtain ⟨old, hold⟩ : ∃ v, (cpy (.int .i32 0) (xs.map (Value.int .i32)) len k)[k]? = some v := ⟨_, Array.getElem?_eq_getElem (by omega)⟩
          clear hsn
          go_wp2
          go_roundw
          case rel => exact ⟨k + 1, by omega, by go_num, by rw [HST.out]⟩
          case measure => simp [intOf]; omega
        · have hkl : k = len := by omega
          subst hkl
          go_wp2
          go_ret
          exact ⟨_, _, rfl, isVals_cpy _ _ _ _ _ HSS.out, (Below.refl _ _).alloc (Nat.le_refl _) _⟩

set_option maxHeartbeats 800000 in
theorem clone13_any (a : Option Addr) (len cap : Nat) (xs : List Int) (hl : len ≤ 1048576) (ha : a = none → len = 0 ∧ cap = 0) (w : World) (hs : IsVals w a len (xs.map (Value.int .i64))) :
    Calls Try.prog 13 #[.slice a len cap] w fun e w' => CopyOf w len (xs.map (Value.int .i64)) e w' := by
  have hss := hs.1
  have hnil := fun (w : World) (a : Option Addr) (n c : Nat) => Lib.run_eql_slice_nil (P := Try.prog) w 23 2 a n c 0 0 Try.underlying23
  match a, ha, hs with
  | none, ha, hs =>
    obtain ⟨rfl, rfl⟩ := ha rfl
    clear ha hs
    go_enter Try.func13, Try.ntmps13
    go_wp2
    go_ret
    exact ⟨_, _, rfl, isVals_zero _ _ _ hss, Below.refl _ _⟩
  | some x, ha, hs =>
    clear ha
    have hmk := make_one Try.underlying23 Try.info2 rfl len (by omega) hl
    rcases Nat.eq_zero_or_pos len with h0 | h0
    · subst h0
      clear hs hmk
      have hmk0 : ∀ w : World, (Instr.makeSlice 23 (.int .i64 0) (.int .i64 0)).run Try.prog w = .ok (.slice (some ⟨w.heap.size, 0, none⟩) 0 0) (w.alloc (.cells (madeCells #[.int .i64 0] 0) 2)) := fun w => make_one Try.underlying23 Try.info2 rfl 0 (by omega) hl w
      go_enter Try.func13, Try.ntmps13
      go_wp2
      refine wp_loop_rounds 1 ?_
      rw [rounds_succ]
      go_wp2
      go_ret
      exact ⟨_, _, rfl, isVals_zero _ _ _ hss, (Below.refl _ _).alloc (Nat.le_refl _) _⟩
    · obtain ⟨b, off, rfl, hb, hc⟩ : ∃ b off, x = ⟨b, off, none⟩ ∧ b < w.heap.size ∧ ∀ j, j < len → w.cell? ⟨b, off + j, none⟩ = (xs.map (Value.int .i64))[j]? := by
        obtain ⟨b, off, e, h⟩ := hs.2 h0
        exact ⟨b, off, Option.some.inj e, h⟩
      clear hs
      have HSS := hid hss
      clear hss
      have HC := hid hc
      clear hc
      have HM := hid (cpy_zero (.int .i64 0) (xs.map (Value.int .i64)) len)
      go_enter Try.func13, Try.ntmps13
      go_wp2
      go_loopw [4] (fun i wr => ∃ k : Nat, k ≤ len ∧ i = .int .i64 k ∧ wr = w.alloc (.cells (cpy (.int .i64 0) (xs.map (Value.int .i64)) len k) 2)) (fun i _ => len - (intOf i).toNat)
      case atStart => exact ⟨0, Nat.zero_le _, rfl, by rw [HM.out]⟩
      case round =>
        obtain ⟨k, hk, rfl, rfl⟩ := hrel
        by_cases hlt : k < len
        · obtain ⟨s, hsn⟩ : ∃ s, (xs.map (Value.int .i64))[k]? = some ((Value.int .i64) s) := by
            have hkx : k < xs.length := by have := HSS.out; simp at this; omega
            exact ⟨xs[k], by simp [List.getElem?_eq_getElem hkx]⟩
          have hcx : w.cell? ⟨b, off + k, none⟩ = some ((Value.int .i64) s) := by rw [← hsn]; exact HC.out k hlt
          have HST := hid (cpy_step (.int .i64 0) (xs.map (Value.int .i64)) len k ((Value.int .i64) s) hsn HSS.out)
          have hsz := cpy_size (.int .i64 0) (xs.map (Value.int .i64)) len k hk HSS.out
          obtain ⟨old, hold⟩ : ∃ v, (cpy (.int .i64 0) (xs.map (Value.int .i64)) len k)[k]? = some v := ⟨_, Array.getElem?_eq_getElem (by omega)⟩
          clear hsn
          go_wp2
          go_roundw
          case rel => exact ⟨k + 1, by omega, by go_num, by rw [HST.out]⟩
          case measure => simp [intOf]; omega
        · have hkl : k = len := by omega
          subst hkl
          go_wp2
          go_ret
          exact ⟨_, _, rfl, isVals_cpy _ _ _ _ _ HSS.out, (Below.refl _ _).alloc (Nat.le_refl _) _⟩

set_option maxHeartbeats 800000 in
theorem clone21_any (a : Option Addr) (len cap : Nat) (xs : List ByteArray) (hl : len ≤ 1048576) (ha : a = none → len = 0 ∧ cap = 0) (w : World) (hs : IsVals w a len (xs.map Value.string)) :
    Calls Try.prog 21 #[.slice a len cap] w fun e w' => CopyOf w len (xs.map Value.string) e w' := by
  have hss := hs.1
  have hnil := fun (w : World) (a : Option Addr) (n c : Nat) => Lib.run_eql_slice_nil (P := Try.prog) w 37 9 a n c 0 0 Try.underlying37
  match a, ha, hs with
  | none, ha, hs =>
    obtain ⟨rfl, rfl⟩ := ha rfl
    clear ha hs
    go_enter Try.func21, Try.ntmps21
    go_wp2
    go_ret
    exact ⟨_, _, rfl, isVals_zero _ _ _ hss, Below.refl _ _⟩
  | some x, ha, hs =>
    clear ha
    have hmk := make_one Try.underlying37 Try.info9 rfl len (by omega) hl
    rcases Nat.eq_zero_or_pos len with h0 | h0
    · subst h0
      clear hs hmk
      have hmk0 : ∀ w : World, (Instr.makeSlice 37 (.int .i64 0) (.int .i64 0)).run Try.prog w = .ok (.slice (some ⟨w.heap.size, 0, none⟩) 0 0) (w.alloc (.cells (madeCells #[.string ByteArray.empty] 0) 9)) := fun w => make_one Try.underlying37 Try.info9 rfl 0 (by omega) hl w
      go_enter Try.func21, Try.ntmps21
      go_wp2
      refine wp_loop_rounds 1 ?_
      rw [rounds_succ]
      go_wp2
      go_ret
      exact ⟨_, _, rfl, isVals_zero _ _ _ hss, (Below.refl _ _).alloc (Nat.le_refl _) _⟩
    · obtain ⟨b, off, rfl, hb, hc⟩ : ∃ b off, x = ⟨b, off, none⟩ ∧ b < w.heap.size ∧ ∀ j, j < len → w.cell? ⟨b, off + j, none⟩ = (xs.map Value.string)[j]? := by
        obtain ⟨b, off, e, h⟩ := hs.2 h0
        exact ⟨b, off, Option.some.inj e, h⟩
      clear hs
      have HSS := hid hss
      clear hss
      have HC := hid hc
      clear hc
      have HM := hid (cpy_zero (.string ByteArray.empty) (xs.map Value.string) len)
      go_enter Try.func21, Try.ntmps21
      go_wp2
      go_loopw [4] (fun i wr => ∃ k : Nat, k ≤ len ∧ i = .int .i64 k ∧ wr = w.alloc (.cells (cpy (.string ByteArray.empty) (xs.map Value.string) len k) 9)) (fun i _ => len - (intOf i).toNat)
      case atStart => exact ⟨0, Nat.zero_le _, rfl, by rw [HM.out]⟩
      case round =>
        obtain ⟨k, hk, rfl, rfl⟩ := hrel
        by_cases hlt : k < len
        · obtain ⟨s, hsn⟩ : ∃ s, (xs.map Value.string)[k]? = some (Value.string s) := by
            have hkx : k < xs.length := by have := HSS.out; simp at this; omega
            exact ⟨xs[k], by simp [List.getElem?_eq_getElem hkx]⟩
          have hcx : w.cell? ⟨b, off + k, none⟩ = some (Value.string s) := by rw [← hsn]; exact HC.out k hlt
          have HST := hid (cpy_step (.string ByteArray.empty) (xs.map Value.string) len k (Value.string s) hsn HSS.out)
          have hsz := cpy_size (.string ByteArray.empty) (xs.map Value.string) len k hk HSS.out
          obtain ⟨old, hold⟩ : ∃ v, (cpy (.string ByteArray.empty) (xs.map Value.string) len k)[k]? = some v := ⟨_, Array.getElem?_eq_getElem (by omega)⟩
          clear hsn
          go_wp2
          go_roundw
          case rel => exact ⟨k + 1, by omega, by go_num, by rw [HST.out]⟩
          case measure => simp [intOf]; omega
        · have hkl : k = len := by omega
          subst hkl
          go_wp2
          go_ret
          exact ⟨_, _, rfl, isVals_cpy _ _ _ _ _ HSS.out, (Below.refl _ _).alloc (Nat.le_refl _) _⟩

set_option maxHeartbeats 800000 in
theorem clone22_any (a : Option Addr) (len cap : Nat) (xs : List Int) (hl : len ≤ 1048576) (ha : a = none → len = 0 ∧ cap = 0) (w : World) (hs : IsVals w a len (xs.map (Value.int .u8))) :
    Calls Try.prog 22 #[.slice a len cap] w fun e w' => CopyOf w len (xs.map (Value.int .u8)) e w' := by
  have hss := hs.1
  have hnil := fun (w : World) (a : Option Addr) (n c : Nat) => Lib.run_eql_slice_nil (P := Try.prog) w 38 5 a n c 0 0 Try.underlying38
  match a, ha, hs with
  | none, ha, hs =>
    obtain ⟨rfl, rfl⟩ := ha rfl
    clear ha hs
    go_enter Try.func22, Try.ntmps22
    go_wp2
    go_ret
    exact ⟨_, _, rfl, isVals_zero _ _ _ hss, Below.refl _ _⟩
  | some x, ha, hs =>
    clear ha
    have hmk := make_one Try.underlying38 Try.info5 rfl len (by omega) hl
    rcases Nat.eq_zero_or_pos len with h0 | h0
    · subst h0
      clear hs hmk
      have hmk0 : ∀ w : World, (Instr.makeSlice 38 (.int .i64 0) (.int .i64 0)).run Try.prog w = .ok (.slice (some ⟨w.heap.size, 0, none⟩) 0 0) (w.alloc (.cells (madeCells #[.int .u8 0] 0) 5)) := fun w => make_one Try.underlying38 Try.info5 rfl 0 (by omega) hl w
      go_enter Try.func22, Try.ntmps22
      go_wp2
      refine wp_loop_rounds 1 ?_
      rw [rounds_succ]
      go_wp2
      go_ret
      exact ⟨_, _, rfl, isVals_zero _ _ _ hss, (Below.refl _ _).alloc (Nat.le_refl _) _⟩
    · obtain ⟨b, off, rfl, hb, hc⟩ : ∃ b off, x = ⟨b, off, none⟩ ∧ b < w.heap.size ∧ ∀ j, j < len → w.cell? ⟨b, off + j, none⟩ = (xs.map (Value.int .u8))[j]? := by
        obtain ⟨b, off, e, h⟩ := hs.2 h0
        exact ⟨b, off, Option.some.inj e, h⟩
      clear hs
      have HSS := hid hss
      clear hss
      have HC := hid hc
      clear hc
      have HM := hid (cpy_zero (.int .u8 0) (xs.map (Value.int .u8)) len)
      go_enter Try.func22, Try.ntmps22
      go_wp2
      go_loopw [4] (fun i wr => ∃ k : Nat, k ≤ len ∧ i = .int .i64 k ∧ wr = w.alloc (.cells (cpy (.int .u8 0) (xs.map (Value.int .u8)) len k) 5)) (fun i _ => len - (intOf i).toNat)
      case atStart => exact ⟨0, Nat.zero_le _, rfl, by rw [HM.out]⟩
      case round =>
        obtain ⟨k, hk, rfl, rfl⟩ := hrel
        by_cases hlt : k < len
        · obtain ⟨s, hsn⟩ : ∃ s, (xs.map (Value.int .u8))[k]? = some ((Value.int .u8) s) := by
            have hkx : k < xs.length := by have := HSS.out; simp at this; omega
            exact ⟨xs[k], by simp [List.getElem?_eq_getElem hkx]⟩
          have hcx : w.cell? ⟨b, off + k, none⟩ = some ((Value.int .u8) s) := by rw [← hsn]; exact HC.out k hlt
          have HST := hid (cpy_step (.int .u8 0) (xs.map (Value.int .u8)) len k ((Value.int .u8) s) hsn HSS.out)
          have hsz := cpy_size (.int .u8 0) (xs.map (Value.int .u8)) len k hk HSS.out
          obtain ⟨old, hold⟩ : ∃ v, (cpy (.int .u8 0) (xs.map (Value.int .u8)) len k)[k]? = some v := ⟨_, Array.getElem?_eq_getElem (by omega)⟩
          clear hsn
          go_wp2
          go_roundw
          case rel => exact ⟨k + 1, by omega, by go_num, by rw [HST.out]⟩
          case measure => simp [intOf]; omega
        · have hkl : k = len := by omega
          subst hkl
          go_wp2
          go_ret
          exact ⟨_, _, rfl, isVals_cpy _ _ _ _ _ HSS.out, (Below.refl _ _).alloc (Nat.le_refl _) _⟩

set_option maxHeartbeats 800000 in
theorem clone23_any (a : Option Addr) (len cap : Nat) (xs : List Bool) (hl : len ≤ 1048576) (ha : a = none → len = 0 ∧ cap = 0) (w : World) (hs : IsVals w a len (xs.map Value.bool)) :
    Calls Try.prog 23 #[.slice a len cap] w fun e w' => CopyOf w len (xs.map Value.bool) e w' := by
  have hss := hs.1
  have hnil := fun (w : World) (a : Option Addr) (n c : Nat) => Lib.run_eql_slice_nil (P := Try.prog) w 39 4 a n c 0 0 Try.underlying39
  match a, ha, hs with
  | none, ha, hs =>
    obtain ⟨rfl, rfl⟩ := ha rfl
    clear ha hs
    go_enter Try.func23, Try.ntmps23
    go_wp2
    go_ret
    exact ⟨_, _, rfl, isVals_zero _ _ _ hss, Below.refl _ _⟩
  | some x, ha, hs =>
    clear ha
    have hmk := make_one Try.underlying39 Try.info4 rfl len (by omega) hl
    rcases Nat.eq_zero_or_pos len with h0 | h0
    · subst h0
      clear hs hmk
      have hmk0 : ∀ w : World, (Instr.makeSlice 39 (.int .i64 0) (.int .i64 0)).run Try.prog w = .ok (.slice (some ⟨w.heap.size, 0, none⟩) 0 0) (w.alloc (.cells (madeCells #[.bool false] 0) 4)) := fun w => make_one Try.underlying39 Try.info4 rfl 0 (by omega) hl w
      go_enter Try.func23, Try.ntmps23
      go_wp2
      refine wp_loop_rounds 1 ?_
      rw [rounds_succ]
      go_wp2
      go_ret
      exact ⟨_, _, rfl, isVals_zero _ _ _ hss, (Below.refl _ _).alloc (Nat.le_refl _) _⟩
    · obtain ⟨b, off, rfl, hb, hc⟩ : ∃ b off, x = ⟨b, off, none⟩ ∧ b < w.heap.size ∧ ∀ j, j < len → w.cell? ⟨b, off + j, none⟩ = (xs.map Value.bool)[j]? := by
        obtain ⟨b, off, e, h⟩ := hs.2 h0
        exact ⟨b, off, Option.some.inj e, h⟩
      clear hs
      have HSS := hid hss
      clear hss
      have HC := hid hc
      clear hc
      have HM := hid (cpy_zero (.bool false) (xs.map Value.bool) len)
      go_enter Try.func23, Try.ntmps23
      go_wp2
      go_loopw [4] (fun i wr => ∃ k : Nat, k ≤ len ∧ i = .int .i64 k ∧ wr = w.alloc (.cells (cpy (.bool false) (xs.map Value.bool) len k) 4)) (fun i _ => len - (intOf i).toNat)
      case atStart => exact ⟨0, Nat.zero_le _, rfl, by rw [HM.out]⟩
      case round =>
        obtain ⟨k, hk, rfl, rfl⟩ := hrel
        by_cases hlt : k < len
        · obtain ⟨s, hsn⟩ : ∃ s, (xs.map Value.bool)[k]? = some (Value.bool s) := by
            have hkx : k < xs.length := by have := HSS.out; simp at this; omega
            exact ⟨xs[k], by simp [List.getElem?_eq_getElem hkx]⟩
          have hcx : w.cell? ⟨b, off + k, none⟩ = some (Value.bool s) := by rw [← hsn]; exact HC.out k hlt
          have HST := hid (cpy_step (.bool false) (xs.map Value.bool) len k (Value.bool s) hsn HSS.out)
          have hsz := cpy_size (.bool false) (xs.map Value.bool) len k hk HSS.out
          obtain ⟨old, hold⟩ : ∃ v, (cpy (.bool false) (xs.map Value.bool) len k)[k]? = some v := ⟨_, Array.getElem?_eq_getElem (by omega)⟩
          clear hsn
          go_wp2
          go_roundw
          case rel => exact ⟨k + 1, by omega, by go_num, by rw [HST.out]⟩
          case measure => simp [intOf]; omega
        · have hkl : k = len := by omega
          subst hkl
          go_wp2
          go_ret
          exact ⟨_, _, rfl, isVals_cpy _ _ _ _ _ HSS.out, (Below.refl _ _).alloc (Nat.le_refl _) _⟩

end Go.Proofs.Qxb6000622a
