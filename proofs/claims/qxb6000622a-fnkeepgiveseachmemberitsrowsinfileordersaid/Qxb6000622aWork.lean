/-
  zzBytes_.. (10, 17), b1beforeTooBig (11), b1workRows (14).
-/
import Derived.Test.Qxb6000622aClone
import Derived.OpenShut
namespace Go.Proofs.Qxb6000622a
open Go.RowKit
set_option linter.unusedVariables false

/-- Some bool was returned. -/
def SomeBool (e : Ending) : Prop := ∃ b : Bool, e = .returned (.bool b)

theorem bytes10_any (a0 a1 : Option Addr) (len0 cap0 len1 cap1 : Nat) (m : Int) (h0 : len0 ≤ maxLen) (h1 : len1 ≤ maxLen) (w : World) :
    Calls Try.prog 10 #[.slice a0 len0 cap0, .slice a1 len1 cap1, .int .i32 m] w fun e w' => SomeBool e ∧ w' = w := by
  unfold maxLen at h0 h1
  by_cases c0 : (1048576 : Int) < (len0 : Int)
  · go_enter Try.func10, Try.ntmps10
    go_wp2
    go_ret
    exact ⟨⟨_, rfl⟩, rfl⟩
  · by_cases c1 : (1048576 : Int) < (len1 : Int)
    · go_enter Try.func10, Try.ntmps10
      go_wp2
      go_ret
      exact ⟨⟨_, rfl⟩, rfl⟩
    · by_cases c2 : (1048576 : Int) < (len0 : Int) + (len1 : Int)
      · go_enter Try.func10, Try.ntmps10
        go_wp2
        go_ret
        exact ⟨⟨_, rfl⟩, rfl⟩
      · go_enter Try.func10, Try.ntmps10
        go_wp2
        go_ret
        exact ⟨⟨_, rfl⟩, rfl⟩

theorem bytes17_any (a0 a1 : Option Addr) (len0 cap0 len1 cap1 : Nat) (m : Int) (h0 : len0 ≤ maxLen) (h1 : len1 ≤ maxLen) (w : World) :
    Calls Try.prog 17 #[.slice a0 len0 cap0, .slice a1 len1 cap1, .int .i32 m] w fun e w' => SomeBool e ∧ w' = w := by
  unfold maxLen at h0 h1
  by_cases c0 : (1048576 : Int) < (len0 : Int)
  · go_enter Try.func17, Try.ntmps17
    go_wp2
    go_ret
    exact ⟨⟨_, rfl⟩, rfl⟩
  · by_cases c1 : (1048576 : Int) < (len1 : Int)
    · go_enter Try.func17, Try.ntmps17
      go_wp2
      go_ret
      exact ⟨⟨_, rfl⟩, rfl⟩
    · by_cases c2 : (1048576 : Int) < (len0 : Int) + (len1 : Int)
      · go_enter Try.func17, Try.ntmps17
        go_wp2
        go_ret
        exact ⟨⟨_, rfl⟩, rfl⟩
      · go_enter Try.func17, Try.ntmps17
        go_wp2
        go_ret
        exact ⟨⟨_, rfl⟩, rfl⟩

theorem tooBig_yes (a0 a1 : Option Addr) (len0 cap0 len1 cap1 : Nat) (h0 : len0 ≤ maxLen) (h1 : len1 ≤ maxLen) (h : ¬ (len0 ≤ 65536 ∧ len1 ≤ 65536)) (w : World) :
    Calls Try.prog 11 #[.slice a0 len0 cap0, .slice a1 len1 cap1] w fun e w' => e = .returned (.bool true) ∧ w' = w := by
  unfold maxLen at h0 h1
  by_cases c0 : (65536 : Int) < (len0 : Int)
  · go_enter Try.func11, Try.ntmps11
    go_wp2
    go_ret
    exact ⟨rfl, rfl⟩
  · have c1 : (65536 : Int) < (len1 : Int) := by omega
    go_enter Try.func11, Try.ntmps11
    go_wp2
    go_ret
    exact ⟨rfl, rfl⟩

theorem tooBig_some (a0 a1 : Option Addr) (len0 cap0 len1 cap1 : Nat) (h0 : len0 ≤ 65536) (h1 : len1 ≤ 65536) (w : World) :
    Calls Try.prog 11 #[.slice a0 len0 cap0, .slice a1 len1 cap1] w fun e w' => SomeBool e ∧ w' = w := by
  have c0 : ¬ (65536 : Int) < (len0 : Int) := by omega
  have c1 : ¬ (65536 : Int) < (len1 : Int) := by omega
  go_enter Try.func11, Try.ntmps11
  go_wp2
  go_ret
  exact ⟨⟨_, rfl⟩, rfl⟩

/-! ### b1workRows -/
theorem Try.info34 : (Try.prog.info? 34).map (fun i => (i.zero, i.size, i.bytes)) = some (some (.agg #[.int .i64 0, .int .i64 0, .int .i64 0, .int .i64 0]), 4, 32) := by kernel_rfl

/-- The q-th cell of row j. -/
def rcell (zs hs : List Int) (j q : Nat) : Value :=
  .int .i64 (if q = 0 then zs.getD j 0 else if q = 1 then hs.getD j 0 else if q = 2 then (j : Int) else (j : Int) + 1)

/-- The rows' cells behind k rounds. -/
def rcells (zs hs : List Int) (len k : Nat) : Array Value := (Array.range (len * 4)).map (fun i => if i / 4 < k then rcell zs hs (i / 4) (i % 4) else .int .i64 0)

theorem rcells_size (zs hs : List Int) (len k : Nat) : (rcells zs hs len k).size = len * 4 := by simp [rcells]

theorem rcells_zero (zs hs : List Int) (len : Nat) : madeCells #[Value.int .i64 0, .int .i64 0, .int .i64 0, .int .i64 0] (len * 4) = rcells zs hs len 0 := by
  unfold madeCells rcells
  apply Array.ext
  · simp
  · intro i h1 h2
    simp only [Array.getElem_map, Array.getElem_range, Nat.not_lt_zero, if_false]
    have h4 : i % 4 = 0 ∨ i % 4 = 1 ∨ i % 4 = 2 ∨ i % 4 = 3 := by omega
    show #[Value.int .i64 0, .int .i64 0, .int .i64 0, .int .i64 0][i % 4]! = _
    rcases h4 with h | h | h | h <;> rw [h] <;> rfl

theorem rcells_at (zs hs : List Int) (len k i : Nat) (h : i < (rcells zs hs len k).size) : (rcells zs hs len k)[i] = if i / 4 < k then rcell zs hs (i / 4) (i % 4) else .int .i64 0 := by
  simp [rcells]

theorem rcells_get (zs hs : List Int) (len k j q : Nat) (hj : j < k) (hk : k ≤ len) (hq : q < 4) : (rcells zs hs len k)[j * 4 + q]? = some (rcell zs hs j q) := by
  have hlt : j * 4 + q < (rcells zs hs len k).size := by rw [rcells_size]; omega
  rw [Array.getElem?_eq_getElem hlt, rcells_at, show (j * 4 + q) / 4 = j from by omega, show (j * 4 + q) % 4 = q from by omega, if_pos hj]

theorem rcells_step (zs hs : List Int) (len k : Nat) (hk : k < len) :
    ((((rcells zs hs len k).setIfInBounds (k * 4) (rcell zs hs k 0)).setIfInBounds (k * 4 + 1) (rcell zs hs k 1)).setIfInBounds (k * 4 + 2) (rcell zs hs k 2)).setIfInBounds (k * 4 + 3) (rcell zs hs k 3) = rcells zs hs len (k + 1) := by
  apply Array.ext_getElem?
  intro i
  simp only [Array.getElem?_setIfInBounds, Array.size_setIfInBounds, rcells_size]
  by_cases c3 : k * 4 + 3 = i
  · rw [if_pos c3, if_pos (by omega), ← c3, rcells_get zs hs len (k + 1) k 3 (by omega) (by omega) (by omega)]
  · rw [if_neg c3]
    by_cases c2 : k * 4 + 2 = i
    · rw [if_pos c2, if_pos (by omega), ← c2, rcells_get zs hs len (k + 1) k 2 (by omega) (by omega) (by omega)]
    · rw [if_neg c2]
      by_cases c1 : k * 4 + 1 = i
      · rw [if_pos c1, if_pos (by omega), ← c1, rcells_get zs hs len (k + 1) k 1 (by omega) (by omega) (by omega)]
      · rw [if_neg c1]
        by_cases c0 : k * 4 = i
        · rw [if_pos c0, if_pos (by omega), ← c0]
          exact (rcells_get zs hs len (k + 1) k 0 (by omega) (by omega) (by omega)).symm
        · rw [if_neg c0]
          by_cases hi : i < len * 4
          · rw [Array.getElem?_eq_getElem (by rw [rcells_size]; exact hi), Array.getElem?_eq_getElem (by rw [rcells_size]; exact hi), rcells_at, rcells_at]
            by_cases hlt : i / 4 < k
            · rw [if_pos hlt, if_pos (by omega)]
            · rw [if_neg hlt, if_neg (by omega)]
          · rw [Array.getElem?_eq_none (by rw [rcells_size]; omega), Array.getElem?_eq_none (by rw [rcells_size]; omega)]

/-- .. in the walk's own words. -/
theorem rcells_step' (zs hs : List Int) (len k : Nat) (hk : k < len) (z h : Int) (hz : z = zs.getD k 0) (hh : h = hs.getD k 0) :
    ((((rcells zs hs len k).setIfInBounds (k * 4) (.int .i64 z)).setIfInBounds (k * 4 + 1) (.int .i64 h)).setIfInBounds (k * 4 + 2) (.int .i64 (k : Int))).setIfInBounds (k * 4 + 3) (.int .i64 ((k : Int) + 1)) = rcells zs hs len (k + 1) := by
  subst hz hh
  exact rcells_step zs hs len k hk

theorem make34 (n : Nat) (hm : n ≤ 65536) (w : World) :
    (Instr.makeSlice 28 (.int .i64 (n : Int)) (.int .i64 (n : Int))).run Try.prog w = .ok (.slice (some ⟨w.heap.size, 0, none⟩) n n) (w.alloc (.cells (madeCells #[Value.int .i64 0, .int .i64 0, .int .i64 0, .int .i64 0] (n * 4)) 34)) := by
  obtain ⟨i0, hi, hz0, hz1, hz2⟩ := info_parts Try.info34
  have h := run_make (P := Try.prog) w 28 34 i0 _ Try.underlying28 hi hz0 .i64 .i64 (n : Int) (n : Int) (by omega) (by omega) (by rw [hz2]; omega) (by omega)
  rw [hz1] at h
  simpa [Value.cells] using h

set_option maxHeartbeats 1600000 in
theorem workRows_any (a0 a1 : Option Addr) (len0 cap0 len1 cap1 : Nat) (zs hs : List Int) (h0 : len0 ≤ 65536) (h1 : len1 ≤ 65536) (wz : ∀ n ∈ zs, (Lit.int .i32 n).wf = true) (w : World) (i0 : IsVals w a0 len0 (zs.map (Value.int .i32))) (i1 : IsVals w a1 len1 (hs.map (Value.int .i64))) :
    Calls Try.prog 14 #[.slice a0 len0 cap0, .slice a1 len1 cap1] w fun e w' => e = .returned (.slice (some ⟨w.heap.size, 0, none⟩) len0 len0) ∧ w' = w.alloc (.cells (rcells zs hs len0 len0) 34) := by
  have hzl : zs.length = len0 := by simpa using i0.1
  have hhl : hs.length = len1 := by simpa using i1.1
  have hmk := make34 len0 h0
  rw [rcells_zero zs hs] at hmk
  rcases Nat.eq_zero_or_pos len0 with e0 | e0
  · subst e0
    clear i0 i1 hmk
    have hmk0 : ∀ w : World, (Instr.makeSlice 28 (.int .i64 0) (.int .i64 0)).run Try.prog w = .ok (.slice (some ⟨w.heap.size, 0, none⟩) 0 0) (w.alloc (.cells (rcells zs hs 0 0) 34)) := fun w => by rw [← rcells_zero]; exact make34 0 h0 w
    go_enter Try.func14, Try.ntmps14
    go_wp2
    refine wp_loop_rounds 1 ?_
    rw [rounds_succ]
    go_wp2
    go_ret
    exact ⟨rfl, rfl⟩
  · obtain ⟨b, off, rfl, hb, hc⟩ := i0.2 e0
    have HC := hid hc
    have HZ := hid hzl
    have HH := hid hhl
    clear i0 hc hzl hhl
    rcases Nat.eq_zero_or_pos len1 with e1 | e1
    · subst e1
      clear i1
      go_enter Try.func14, Try.ntmps14
      go_wp2
      go_loopw [6] (fun i wr => ∃ k : Nat, k ≤ len0 ∧ i = .int .i64 k ∧ wr = w.alloc (.cells (rcells zs hs len0 k) 34)) (fun i _ => len0 - (intOf i).toNat)
      case atStart => exact ⟨0, Nat.zero_le _, rfl, rfl⟩
      case round =>
        obtain ⟨k, hk, rfl, rfl⟩ := hrel
        by_cases hlt : k < len0
        · have hkz : k < zs.length := by rw [HZ.out]; exact hlt
          obtain ⟨z, hz⟩ : ∃ z, z = zs.getD k 0 := ⟨_, rfl⟩
          have hcx : w.cell? ⟨b, off + k, none⟩ = some (.int .i32 z) := by rw [HC.out k hlt, hz]; simp [List.getElem?_eq_getElem hkz]
          have hzb : -2147483648 ≤ z ∧ z ≤ 2147483647 := bounds_i32 (wz z (by rw [hz]; simp [List.getElem?_eq_getElem hkz]))
          have hsz := rcells_size zs hs len0 k
          have g0 : k * 4 < (rcells zs hs len0 k).size := by rw [hsz]; omega
          have g1 : k * 4 + 1 < (rcells zs hs len0 k).size := by rw [hsz]; omega
          have g2 : k * 4 + 2 < (rcells zs hs len0 k).size := by rw [hsz]; omega
          have g3 : k * 4 + 3 < (rcells zs hs len0 k).size := by rw [hsz]; omega
          have HZV := hid hz
          clear hz
          clear hsz
          obtain ⟨hzb1, hzb2⟩ := hzb
          have hh : hs.getD k 0 = 0 := by
            have := HH.out
            simp [List.getElem?_eq_none (show hs.length ≤ k from by omega)]
          have HV := hid hh
          clear hh
          go_wp2
          go_roundw
          case rel => exact ⟨k + 1, by omega, by go_num, by rw [rcells_step' zs hs len0 k hlt z 0 HZV.out HV.out.symm]⟩
          case measure => simp [intOf]; omega
        · have hkl : k = len0 := by omega
          subst hkl
          go_wp2
          go_ret
          exact ⟨rfl, rfl⟩
    · obtain ⟨b1, off1, rfl, hb1, hc1⟩ := i1.2 e1
      have HC1 := hid hc1
      clear i1 hc1
      go_enter Try.func14, Try.ntmps14
      go_wp2
      go_loopw [6] (fun i wr => ∃ k : Nat, k ≤ len0 ∧ i = .int .i64 k ∧ wr = w.alloc (.cells (rcells zs hs len0 k) 34)) (fun i _ => len0 - (intOf i).toNat)
      case atStart => exact ⟨0, Nat.zero_le _, rfl, rfl⟩
      case round =>
        obtain ⟨k, hk, rfl, rfl⟩ := hrel
        by_cases hlt : k < len0
        · have hkz : k < zs.length := by rw [HZ.out]; exact hlt
          obtain ⟨z, hz⟩ : ∃ z, z = zs.getD k 0 := ⟨_, rfl⟩
          have hcx : w.cell? ⟨b, off + k, none⟩ = some (.int .i32 z) := by rw [HC.out k hlt, hz]; simp [List.getElem?_eq_getElem hkz]
          have hzb : -2147483648 ≤ z ∧ z ≤ 2147483647 := bounds_i32 (wz z (by rw [hz]; simp [List.getElem?_eq_getElem hkz]))
          have hsz := rcells_size zs hs len0 k
          have g0 : k * 4 < (rcells zs hs len0 k).size := by rw [hsz]; omega
          have g1 : k * 4 + 1 < (rcells zs hs len0 k).size := by rw [hsz]; omega
          have g2 : k * 4 + 2 < (rcells zs hs len0 k).size := by rw [hsz]; omega
          have g3 : k * 4 + 3 < (rcells zs hs len0 k).size := by rw [hsz]; omega
          have HZV := hid hz
          clear hz
          clear hsz
          obtain ⟨hzb1, hzb2⟩ := hzb
          by_cases hlt1 : k < len1
          · have hkh : k < hs.length := by rw [HH.out]; exact hlt1
            obtain ⟨h, hh⟩ : ∃ h, h = hs.getD k 0 := ⟨_, rfl⟩
            have hcx1 : w.cell? ⟨b1, off1 + k, none⟩ = some (.int .i64 h) := by rw [HC1.out k hlt1, hh]; simp [List.getElem?_eq_getElem hkh]
            have HV := hid hh
            clear hh
            go_wp2
            go_roundw
            case rel => exact ⟨k + 1, by omega, by go_num, by rw [rcells_step' zs hs len0 k hlt z h HZV.out HV.out]⟩
            case measure => simp [intOf]; omega
          · have hh : hs.getD k 0 = 0 := by
              have := HH.out
              simp [List.getElem?_eq_none (show hs.length ≤ k from by omega)]
            have HV := hid hh
            clear hh
            go_wp2
            go_roundw
            case rel => exact ⟨k + 1, by omega, by go_num, by rw [rcells_step' zs hs len0 k hlt z 0 HZV.out HV.out.symm]⟩
            case measure => simp [intOf]; omega
        · have hkl : k = len0 := by omega
          subst hkl
          go_wp2
          go_ret
          exact ⟨rfl, rfl⟩

end Go.Proofs.Qxb6000622a
