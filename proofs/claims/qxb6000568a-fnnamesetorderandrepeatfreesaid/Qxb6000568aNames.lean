/-
  The callees of the two NameSet laws: zzBytes_.. (7, 11), zzNamesBytes (8), zzCopyNames (9), newNameSet (16), ZZnewNameSet (10).
-/
import Derived.Test.Qxb6000568aRows
import Derived.WalkKit
import Derived.WalkSpells
import Derived.WalkLawsBesides
import Derived.Maps.OwnSet
namespace Go.Proofs.Qxb6000568a
open Go.RowKit Go.Maps

/-- The slice value (a, len) leads to the strings ss. -/
def IsStrs (w : World) (a : Option Addr) (len : Nat) (ss : List ByteArray) : Prop :=
  ss.length = len ∧ (0 < len → ∃ b off, a = some ⟨b, off, none⟩ ∧ b < w.heap.size ∧ ∀ j, j < len → w.cell? ⟨b, off + j, none⟩ = some (.string (ss.getD j ByteArray.empty)))

/-- Some bool was returned. -/
def SomeBool (e : Ending) : Prop := ∃ b : Bool, e = .returned (.bool b)

/-- The names' sizes, summed over the first k. -/
def sumTo (ss : List ByteArray) (k : Nat) : Nat := ((ss.take k).map ByteArray.size).sum

theorem sumTo_zero (ss : List ByteArray) : sumTo ss 0 = 0 := by simp [sumTo]
theorem sumTo_succ (ss : List ByteArray) (k : Nat) (h : k < ss.length) : sumTo ss (k + 1) = sumTo ss k + (ss.getD k ByteArray.empty).size := by
  unfold sumTo
  rw [List.take_succ_eq_append_getElem h, List.map_append, List.sum_append]
  simp [List.getElem?_eq_getElem h]

set_option maxHeartbeats 400000 in
/-- zzBytes_FnNameSetMembership: some bool. -/
theorem bytes7_any (a : Option Addr) (len cap : Nat) (ss : List ByteArray) (p : ByteArray) (hp : p.size ≤ maxLen) (hl : len ≤ maxLen) (w : World) (hs : IsStrs w a len ss) :
    Calls Try.prog 7 #[.slice a len cap, .string p] w fun e w' => SomeBool e ∧ w' = w := by
  unfold maxLen at hp hl
  rcases Nat.eq_zero_or_pos len with h0 | h0
  · subst h0
    go_enter Try.func7, Try.ntmps7
    go_wp2
    refine wp_loop_rounds 1 ?_
    rw [rounds_succ]
    go_wp2
    all_goals
      go_ret
      exact ⟨⟨_, rfl⟩, rfl⟩
  · obtain ⟨hss, hcs⟩ := hs
    obtain ⟨b, off, rfl, hb, hc⟩ := hcs h0
    clear hcs
    by_cases hbig : (1048576 : Int) < (len : Int)
    · go_enter Try.func7, Try.ntmps7
      go_wp2
      go_ret
      exact ⟨⟨_, rfl⟩, rfl⟩
    · go_enter Try.func7, Try.ntmps7
      go_wp2
      go_loop [5, 6] (fun n i => ∃ k m : Nat, k ≤ len ∧ i = .int .i64 k ∧ n = .int .i64 m ∧ m ≤ 1048576) (fun _ i => len - (intOf i).toNat)
      case atStart => exact ⟨0, len, Nat.zero_le _, rfl, rfl, by omega⟩
      case round =>
        obtain ⟨k, m, hk, rfl, rfl, hm⟩ := hrel
        by_cases hlt : k < len
        · obtain ⟨s, hsn⟩ : ∃ s, s = ss.getD k ByteArray.empty := ⟨_, rfl⟩
          have hcx : w.cell? ⟨b, off + k, none⟩ = some (.string s) := by rw [hsn]; exact hc k hlt
          clear hsn hc
          by_cases hs1 : (1048576 : Int) < (s.size : Int)
          · go_wp2
            go_ret
            exact ⟨⟨_, rfl⟩, rfl⟩
          · by_cases hs2 : (1048576 : Int) < (m : Int) + (s.size : Int)
            · go_wp2
              go_ret
              exact ⟨⟨_, rfl⟩, rfl⟩
            · go_wp2
              go_round
              case rel => exact ⟨k + 1, m + s.size, by omega, by go_num, by go_num, by omega⟩
              case measure => simp [intOf]; omega
        · go_wp2
          all_goals
            go_ret
            exact ⟨⟨_, rfl⟩, rfl⟩

set_option maxHeartbeats 400000 in
/-- zzBytes_FnNameSetOrderAndRepeatFree: some bool. -/
theorem bytes11_any (a : Option Addr) (len cap : Nat) (ss : List ByteArray) (p : ByteArray) (hp : p.size ≤ maxLen) (hl : len ≤ maxLen) (w : World) (hs : IsStrs w a len ss) :
    Calls Try.prog 11 #[.slice a len cap, .string p] w fun e w' => SomeBool e ∧ w' = w := by
  unfold maxLen at hp hl
  rcases Nat.eq_zero_or_pos len with h0 | h0
  · subst h0
    go_enter Try.func11, Try.ntmps11
    go_wp2
    refine wp_loop_rounds 1 ?_
    rw [rounds_succ]
    go_wp2
    all_goals
      go_ret
      exact ⟨⟨_, rfl⟩, rfl⟩
  · obtain ⟨hss, hcs⟩ := hs
    obtain ⟨b, off, rfl, hb, hc⟩ := hcs h0
    clear hcs
    by_cases hbig : (1048576 : Int) < (len : Int)
    · go_enter Try.func11, Try.ntmps11
      go_wp2
      go_ret
      exact ⟨⟨_, rfl⟩, rfl⟩
    · go_enter Try.func11, Try.ntmps11
      go_wp2
      go_loop [5, 6] (fun n i => ∃ k m : Nat, k ≤ len ∧ i = .int .i64 k ∧ n = .int .i64 m ∧ m ≤ 1048576) (fun _ i => len - (intOf i).toNat)
      case atStart => exact ⟨0, len, Nat.zero_le _, rfl, rfl, by omega⟩
      case round =>
        obtain ⟨k, m, hk, rfl, rfl, hm⟩ := hrel
        by_cases hlt : k < len
        · obtain ⟨s, hsn⟩ : ∃ s, s = ss.getD k ByteArray.empty := ⟨_, rfl⟩
          have hcx : w.cell? ⟨b, off + k, none⟩ = some (.string s) := by rw [hsn]; exact hc k hlt
          clear hsn hc
          by_cases hs1 : (1048576 : Int) < (s.size : Int)
          · go_wp2
            go_ret
            exact ⟨⟨_, rfl⟩, rfl⟩
          · by_cases hs2 : (1048576 : Int) < (m : Int) + (s.size : Int)
            · go_wp2
              go_ret
              exact ⟨⟨_, rfl⟩, rfl⟩
            · go_wp2
              go_round
              case rel => exact ⟨k + 1, m + s.size, by omega, by go_num, by go_num, by omega⟩
              case measure => simp [intOf]; omega
        · go_wp2
          all_goals
            go_ret
            exact ⟨⟨_, rfl⟩, rfl⟩

/-- Some small number was returned. -/
def SmallInt (e : Ending) : Prop := ∃ n : Nat, e = .returned (.int .i64 n) ∧ n ≤ 3145744

theorem small_mk {v : Value} {n : Nat} (h : v = .int .i64 n) (hn : n ≤ 3145744) : SmallInt (.returned v) := ⟨n, by rw [h], hn⟩

set_option maxHeartbeats 400000 in
/-- zzNamesBytes: some number that is no great one. -/
theorem names8_any (a : Option Addr) (len cap : Nat) (ss : List ByteArray) (hl : len ≤ maxLen) (w : World) (hs : IsStrs w a len ss) :
    Calls Try.prog 8 #[.slice a len cap] w fun e w' => SmallInt e ∧ w' = w := by
  unfold maxLen at hl
  rcases Nat.eq_zero_or_pos len with h0 | h0
  · subst h0
    go_enter Try.func8, Try.ntmps8
    go_wp2
    refine wp_loop_rounds 1 ?_
    rw [rounds_succ]
    go_wp2
    go_ret
    exact ⟨small_mk (n := 0) rfl (by omega), rfl⟩
  · obtain ⟨hss, hcs⟩ := hs
    obtain ⟨b, off, rfl, hb, hc⟩ := hcs h0
    clear hcs
    go_enter Try.func8, Try.ntmps8
    go_wp2
    go_loop [3, 4] (fun n i => ∃ k m : Nat, k ≤ len ∧ i = .int .i64 k ∧ n = .int .i64 m ∧ m ≤ 1048576) (fun _ i => len - (intOf i).toNat)
    case atStart => exact ⟨0, 0, Nat.zero_le _, rfl, rfl, by omega⟩
    case round =>
      obtain ⟨k, m, hk, rfl, rfl, hm⟩ := hrel
      by_cases hlt : k < len
      · obtain ⟨s, hsn⟩ : ∃ s, s = ss.getD k ByteArray.empty := ⟨_, rfl⟩
        have hcx : w.cell? ⟨b, off + k, none⟩ = some (.string s) := by rw [hsn]; exact hc k hlt
        clear hsn hc
        by_cases hs1 : (1048576 : Int) < (s.size : Int)
        · go_wp2
          go_ret
          exact ⟨small_mk (n := 1048577) rfl (by omega), rfl⟩
        · by_cases hs2 : (1048576 : Int) < (m : Int) + (16 + (s.size : Int))
          · go_wp2
            go_ret
            exact ⟨small_mk (n := m + (16 + s.size)) (by go_num) (by omega), rfl⟩
          · go_wp2
            go_round
            case rel => exact ⟨k + 1, m + (16 + s.size), by omega, by go_num, by go_num, by omega⟩
            case measure => simp [intOf]; omega
      · go_wp2
        go_ret
        exact ⟨small_mk (n := m) rfl (by omega), rfl⟩

/-! ### zzCopyNames -/
theorem Try.info9 : (Try.prog.info? 9).map (fun i => (i.zero, i.size, i.bytes)) = some (some (.string ByteArray.empty), 1, 16) := by kernel_rfl

/-- What the copy's row holds behind k rounds. -/
def cpy (ss : List ByteArray) (len k : Nat) : Array Value := ((ss.take k).map Value.string ++ List.replicate (len - k) (Value.string ByteArray.empty)).toArray

theorem cpy_zero (ss : List ByteArray) (len : Nat) : cpy ss len 0 = madeCells #[.string ByteArray.empty] len := by
  unfold cpy madeCells
  apply Array.ext
  · simp
  · intro i h1 h2
    simp [Nat.mod_one]

theorem cpy_step (ss : List ByteArray) (len k : Nat) (hk : k < len) (hs : ss.length = len) : (cpy ss len k).setIfInBounds k (.string (ss.getD k ByteArray.empty)) = cpy ss len (k + 1) := by
  unfold cpy
  rw [← Array.toList_inj]
  rw [Array.toList_setIfInBounds]
  simp only
  have hl : ((ss.take k).map Value.string).length = k := by simp; omega
  rw [List.set_append_right _ _ (by omega), hl, Nat.sub_self, show len - k = (len - (k + 1)) + 1 from by omega, List.replicate_succ, List.set_cons_zero, List.take_succ_eq_append_getElem (by omega), List.map_append, List.append_assoc]
  simp [List.getElem?_eq_getElem (show k < ss.length from by omega)]

theorem cpy_get (ss : List ByteArray) (len k j : Nat) (hj : j < k) (hk : k ≤ len) (hs : ss.length = len) : (cpy ss len k)[j]? = some (.string (ss.getD j ByteArray.empty)) := by
  unfold cpy
  rw [List.getElem?_toArray, List.getElem?_append_left (by simp; omega), List.getElem?_map, List.getElem?_take_of_lt hj]
  simp [List.getElem?_eq_getElem (show j < ss.length from by omega)]

theorem cpy_size (ss : List ByteArray) (len k : Nat) (hk : k ≤ len) (hs : ss.length = len) : (cpy ss len k).size = len := by
  unfold cpy
  simp
  omega

/-- A slice of strings was returned, in memory that is new or nil. -/
def CopyOf (w : World) (len : Nat) (ss : List ByteArray) (e : Ending) (w' : World) : Prop :=
  ∃ a' cap', e = .returned (.slice a' len cap') ∧ IsStrs w' a' len ss ∧ Below w.heap.size w w'

theorem hmk22 (n : Nat) (hn : n ≤ 65536) (w : World) :
    (Instr.makeSlice 22 (.int .i64 (n : Int)) (.int .i64 (n : Int))).run Try.prog w = .ok (.slice (some ⟨w.heap.size, 0, none⟩) n n) (w.alloc (.cells (madeCells #[.string ByteArray.empty] n) 9)) := by
  obtain ⟨i0, hi, hz0, hz1, hz2⟩ := info_parts Try.info9
  have h := run_make (P := Try.prog) w 22 9 i0 (.string ByteArray.empty) Try.underlying22 hi hz0 .i64 .i64 (n : Int) (n : Int) (by omega) (by omega) (by rw [hz2]; omega) (by omega)
  rw [hz1] at h
  simpa [Value.cells] using h

theorem isStrs_cpy (w : World) (len : Nat) (ss : List ByteArray) (hs : ss.length = len) : IsStrs (w.alloc (.cells (cpy ss len len) 9)) (some ⟨w.heap.size, 0, none⟩) len ss :=
  ⟨hs, fun _ => ⟨w.heap.size, 0, rfl, by simp, fun j hj => by rw [Nat.zero_add, World.cell?_alloc_at _ _ _ _ rfl]; exact cpy_get ss len len j hj (Nat.le_refl _) hs⟩⟩

theorem isStrs_zero (w : World) (a : Option Addr) (ss : List ByteArray) (hs : ss.length = 0) : IsStrs w a 0 ss := ⟨hs, fun h => by omega⟩

set_option maxHeartbeats 800000 in
theorem copy9_any (a : Option Addr) (len cap : Nat) (ss : List ByteArray) (hl : len ≤ 65536) (ha : a = none → len = 0 ∧ cap = 0) (w : World) (hs : IsStrs w a len ss) :
    Calls Try.prog 9 #[.slice a len cap] w fun e w' => CopyOf w len ss e w' := by
  have hss := hs.1
  have hnil := fun (w : World) (a : Option Addr) (n c : Nat) => Lib.run_eql_slice_nil (P := Try.prog) w 22 9 a n c 0 0 Try.underlying22
  match a, ha, hs with
  | none, ha, hs =>
    obtain ⟨rfl, rfl⟩ := ha rfl
    clear ha hs
    go_enter Try.func9, Try.ntmps9
    go_wp2
    go_ret
    exact ⟨_, _, rfl, isStrs_zero _ _ _ hss, Below.refl _ _⟩
  | some x, ha, hs =>
    clear ha
    have hmk := hmk22 len hl
    rcases Nat.eq_zero_or_pos len with h0 | h0
    · subst h0
      clear hs hmk
      have hmk0 : ∀ w : World, (Instr.makeSlice 22 (.int .i64 0) (.int .i64 0)).run Try.prog w = .ok (.slice (some ⟨w.heap.size, 0, none⟩) 0 0) (w.alloc (.cells (madeCells #[.string ByteArray.empty] 0) 9)) := fun w => hmk22 0 (by omega) w
      go_enter Try.func9, Try.ntmps9
      go_wp2
      refine wp_loop_rounds 1 ?_
      rw [rounds_succ]
      go_wp2
      go_ret
      exact ⟨_, _, rfl, isStrs_zero _ _ _ hss, (Below.refl _ _).alloc (Nat.le_refl _) _⟩
    · obtain ⟨b, off, rfl, hb, hc⟩ : ∃ b off, x = ⟨b, off, none⟩ ∧ b < w.heap.size ∧ ∀ j, j < len → w.cell? ⟨b, off + j, none⟩ = some (.string (ss.getD j ByteArray.empty)) := by
        obtain ⟨b, off, e, h⟩ := hs.2 h0
        exact ⟨b, off, Option.some.inj e, h⟩
      clear hs
      have HSS : Hid (ss.length = len) := hss
      clear hss
      have HC : Hid (∀ j, j < len → w.cell? ⟨b, off + j, none⟩ = some (.string (ss.getD j ByteArray.empty))) := hc
      clear hc
      have HM : Hid (madeCells #[.string ByteArray.empty] len = cpy ss len 0) := (cpy_zero ss len).symm
      go_enter Try.func9, Try.ntmps9
      go_wp2
      go_loopw [4] (fun i wr => ∃ k : Nat, k ≤ len ∧ i = .int .i64 k ∧ wr = w.alloc (.cells (cpy ss len k) 9)) (fun i _ => len - (intOf i).toNat)
      case atStart => exact ⟨0, Nat.zero_le _, rfl, by rw [HM.out]⟩
      case round =>
        obtain ⟨k, hk, rfl, rfl⟩ := hrel
        by_cases hlt : k < len
        · obtain ⟨s, hsn⟩ : ∃ s, s = ss.getD k ByteArray.empty := ⟨_, rfl⟩
          have hcx : w.cell? ⟨b, off + k, none⟩ = some (.string s) := by rw [hsn]; exact HC.out k hlt
          have hst : (cpy ss len k).setIfInBounds k (.string s) = cpy ss len (k + 1) := by rw [hsn]; exact cpy_step ss len k hlt HSS.out
          have hsz := cpy_size ss len k hk HSS.out
          obtain ⟨old, hold⟩ : ∃ v, (cpy ss len k)[k]? = some v := ⟨_, Array.getElem?_eq_getElem (by omega)⟩
          have HST : Hid ((cpy ss len k).setIfInBounds k (.string s) = cpy ss len (k + 1)) := hst
          clear hst hsn
          go_wp2
          go_roundw
          case rel => exact ⟨k + 1, by omega, by go_num, by rw [HST.out]⟩
          case measure => simp [intOf]; omega
        · have hkl : k = len := by omega
          subst hkl
          go_wp2
          go_ret
          exact ⟨_, _, rfl, isStrs_cpy _ _ _ HSS.out, (Below.refl _ _).alloc (Nat.le_refl _) _⟩

end Go.Proofs.Qxb6000568a
