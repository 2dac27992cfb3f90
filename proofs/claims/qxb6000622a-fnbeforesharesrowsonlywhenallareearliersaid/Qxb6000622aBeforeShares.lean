/-
  The walk of FnBeforeSharesRowsOnlyWhenAllAreEarlier (5).
-/
import Derived.Test.Qxb6000622aBefore
import Derived.Deep.QuietTactic
import Derived.BigQuiet
import Derived.LaidEqlPtr
namespace Go.Proofs.Qxb6000622a.fnBeforeSharesRowsOnlyWhenAllAreEarlier
open Go.RowKit
set_option linter.unusedVariables false

theorem ret_true {b : Bool} (h : b = true) : Ending.returned (.bool b) = .returned (.bool true) := by rw [h]

theorem rowsAt_new (w : World) (zs hs : List Int) (len : Nat) : RowsAt (w.alloc (.cells (rcells zs hs len len) 34)) w.heap.size len zs hs :=
  ⟨by simp, fun j q hj hq => by rw [World.cell?_alloc_at _ _ _ _ rfl]; exact rcells_get zs hs len len j q hj (Nat.le_refl _) hq⟩

theorem below_drewN' {B : Nat} {a w : World} (h : Below B a w) (n : Nat) : Below B a (w.drewN n) := ⟨h.os, h.tape, h.output, h.size, h.block⟩

set_option maxRecDepth 100000 in
set_option maxHeartbeats 3200000 in
theorem walk_some (a0 : Option Addr) (len0 cap0 : Nat) (zs : List Int) (a1 : Option Addr) (len1 cap1 : Nat) (hs : List Int) (m : Int) (w : World)
    (h0 : 0 < len0) (hl0 : len0 ≤ 65536) (hl1 : len1 ≤ 65536) (n0 : a0 = none → len0 = 0 ∧ cap0 = 0) (n1 : a1 = none → len1 = 0 ∧ cap1 = 0) (wz : ∀ n ∈ zs, (Lit.int .i32 n).wf = true) (wm : (Lit.int .i32 m).wf = true)
    (i0 : IsVals w a0 len0 (zs.map (Value.int .i32))) (i1 : IsVals w a1 len1 (hs.map (Value.int .i64))) :
    Calls Try.prog 5 #[.slice a0 len0 cap0, .slice a1 len1 cap1, .int .i32 m] w fun e w' => e = .returned (.bool true) ∧ Below w.heap.size w w' := by
  have hzl : zs.length = len0 := by simpa using i0.1
  have HZL := hid hzl
  have I0 := hid i0
  have I1 := hid i1
  clear i0 i1 hzl
  obtain ⟨hm1, hm2⟩ := bounds_i32 wm
  go_enter Try.func5, Try.ntmps5
  go_wp2_with fail
  refine (bytes17_any _ _ _ _ _ _ _ (by unfold maxLen; omega) (by unfold maxLen; omega) _).mono ?_
  rintro e w' ⟨⟨b, rfl⟩, rfl⟩
  cases b
  · go_wp2
    go_ret
    exact ⟨rfl, Below.refl _ _⟩
  go_wp2_with fail
  refine (tooBig_some _ _ _ _ _ _ hl0 hl1 _).mono ?_
  rintro e w' ⟨⟨b, rfl⟩, rfl⟩
  cases b
  rotate_left
  · go_wp2
    go_ret
    exact ⟨rfl, Below.refl _ _⟩
  go_wp2_with fail
  refine (clone12_any _ _ _ zs (by omega) n0 _ I0.out).mono ?_
  rintro e w1 ⟨a0', cap0', rfl, j0, hbel1⟩
  go_wp2_with fail
  refine (clone13_any _ _ _ hs (by omega) n1 _ (I1.out.below hbel1)).mono ?_
  rintro e w2 ⟨a1', cap1', rfl, j1, hbel2⟩
  have j0' := j0.below hbel2
  obtain ⟨b, off, rfl, hb, hc⟩ := j0'.2 h0
  go_wp2_with fail
  refine (workRows_any _ _ _ _ _ _ zs hs hl0 hl1 wz _ j0' j1).mono ?_
  rintro e w3 ⟨rfl, rfl⟩
  have HJ := hid j0'
  have hrows := rowsAt_new w2 zs hs len0
  have HRows := hid hrows
  have HC := hid hc
  have hb12 : Below w'.heap.size w' w2 := hbel1.trans (hbel2.mono hbel1.size)
  clear j0 j1 j0' hbel2 hbel1 hc hrows HJ
  go_wp2_with fail
  refine (before_any _ len0 zs hs m hl0 _ HRows.out).mono ?_
  rintro e w4 ⟨G, c, rfl, hcells, hbel4, hG, hall, hnall⟩
  obtain ⟨n, hn⟩ : ∃ n, n = (kept zs m len0).length := ⟨_, rfl⟩
  rw [← hn] at hcells hall hnall ⊢
  have hnl : n ≤ len0 := by rw [hn]; exact kept_le _ _ _
  have HN := hid hn
  have HCells := hid hcells
  clear hn hcells
  have hsw2 : w2.heap.size < (w2.alloc (.cells (rcells zs hs len0 len0) 34)).heap.size := by simp
  have HR4 := hid (HRows.out.below hbel4 (by simp))
  have hbel24 : Below w2.heap.size w2 w4 := ((Below.refl _ _).alloc (Nat.le_refl _) _).trans (hbel4.mono (by simp))
  have hbel : Below w'.heap.size w' w4 := hb12.trans (hbel24.mono hb12.size)
  have HC4 : Hid (∀ j, j < len0 → w4.cell? ⟨b, off + j, none⟩ = (zs.map (Value.int .i32))[j]?) := fun j hj => (hbel24.cell (by exact hb)).trans (HC.out j hj)
  have hb4 : b < w4.heap.size := by have := hbel24.size; omega
  clear hbel24 hb12 HC HRows hsw2
  have hRb : w4.heap[w2.heap.size]? = some (.cells (rcells zs hs len0 len0) 34 (0, 0)) := by
    rw [hbel4.block _ (by simp)]
    exact heap_alloc_new _ _
  clear hbel4
  obtain ⟨R, hR⟩ : ∃ R, R = w2.heap.size := ⟨_, rfl⟩
  rw [← hR] at hb HR4 hRb hall ⊢
  have HA : Hid (n = len0 → G = R) := hall
  have HNA : Hid (n ≠ len0 → G ≠ R ∧ ∃ cur, w4.heap[G]? = some (.cells cur 34 (0, 0))) := fun h => ⟨fun e => by have := (hnall h).1; simp at this; omega, (hnall h).2⟩
  clear hall hnall hR
  have hne : ((len0 : Int) == 0) = false := by simp; omega
  obtain ⟨i34, hi34, hz0, hz1, hz2⟩ := info_parts Try.info34
  go_wp2
  go_loop [9, 10] (fun al i => ∃ t : Nat, t ≤ len0 ∧ i = .int .i64 t ∧ al = .bool (decide ((kept zs m t).length = t))) (fun _ i => len0 - (intOf i).toNat)
  case atStart => exact ⟨0, Nat.zero_le _, rfl, by simp [kept_zero]⟩
  case round =>
    obtain ⟨t, ht, rfl, rfl⟩ := hrel
    have hkl := kept_le zs m t
    by_cases hlt2 : t < len0
    · have hkz : t < zs.length := by rw [HZL.out]; exact hlt2
      obtain ⟨z, hz⟩ : ∃ z, z = zs.getD t 0 := ⟨_, rfl⟩
      have cz : w4.cell? ⟨b, off + t, none⟩ = some (.int .i32 z) := by rw [HC4.out t hlt2, hz]; simp [List.getElem?_eq_getElem hkz]
      have HZ := hid hz
      clear hz
      by_cases hm : z < m
      · have HK : Hid (kept zs m (t + 1) = kept zs m t ++ [t]) := kept_yes zs m t (by rw [← HZ.out]; exact hm)
        go_wp2
        go_round
        case rel => exact ⟨t + 1, by omega, by go_num, by rw [HK.out, List.length_append]; simp⟩
        case measure => simp [intOf]; omega
      · have HK : Hid (kept zs m (t + 1) = kept zs m t) := kept_no zs m t (by rw [← HZ.out]; exact hm)
        go_wp2
        go_round
        case rel => exact ⟨t + 1, by omega, by go_num, by rw [HK.out, decide_eq_false (by omega)]⟩
        case measure => simp [intOf]; omega
    · have htl : t = len0 := by omega
      subst htl
      by_cases hall : n = t
      · have hd : decide ((kept zs m t).length = t) = true := by rw [← HN.out]; simpa using hall
        have hGR := HA.out hall
        rw [hd]
        have hn0 : (0 : Int) < (n : Int) := by omega
        subst hGR
        have hpe := fun (w : World) (a : Addr) => run_eql_ptr_same (P := Try.prog) w a Try.underlying36 hi34
        clear hkl HA HNA hd hnl HN HCells HC4 HZL I0 ht hlt2 hne n0 HR4 hRb
        subst hall
        go_wp2
        go_quiet (fail)
        go_wp2
        go_ret
        exact ⟨rfl, below_drewN' hbel _⟩
      · have hd : decide ((kept zs m t).length = t) = false := by rw [← HN.out]; simpa using hall
        obtain ⟨hGR, cur, hGb⟩ := HNA.out hall
        rw [hd]
        clear hd
        by_cases hn0 : n = 0
        · subst hn0
          clear hall hkl HA HNA
          go_wp2
          go_ret
          exact ⟨rfl, hbel⟩
        · have hn0' : ((n : Int) == 0) = false := by simp; omega
          have hn1 : (0 : Int) < (n : Int) := by omega
          have ht1 : (0 : Int) < (t : Int) := by omega
          have hpo : ∀ (d x y : Nat), (binOp .eql 36 (.pointer (some ⟨G, x, none⟩)) (.pointer (some ⟨R, y, none⟩))).run Try.prog (w4.drewN d) = .ok (.bool false) (w4.drewN d) := fun d x y =>
            run_eql_ptr_other (P := Try.prog) (w4.drewN d) Try.underlying36 hi34 (by rw [hz1]; decide) (fun e => hGR (congrArg Addr.block e)) hGb hRb
          clear hall hkl HA HNA hGb hRb hn0
          go_wp2
          go_loopw [11] (fun i wr => ∃ k d : Nat, k ≤ t ∧ i = .int .i64 k ∧ wr = w4.drewN d) (fun i _ => t - (intOf i).toNat)
          case atStart => exact ⟨0, 0, Nat.zero_le _, rfl, rfl⟩
          case round =>
            obtain ⟨k, d, hk, rfl, rfl⟩ := hrel
            by_cases hlt : k < t
            · have hki : (k : Int) < (t : Int) := by omega
              go_wp2
              go_quiet (fail)
              go_wp2
              go_roundw
              case rel => exact ⟨k + 1, d + nq, by omega, by go_num, rfl⟩
              case measure => simp [intOf]; omega
            · have hkt : k = t := by omega
              subst hkt
              go_wp2
              go_loopw [13] (fun i wr => ∃ j d : Nat, j ≤ n ∧ i = .int .i64 j ∧ wr = w4.drewN d) (fun i _ => n - (intOf i).toNat)
              case atStart => exact ⟨0, d, Nat.zero_le _, rfl, rfl⟩
              case round =>
                obtain ⟨j, d, hj, rfl, rfl⟩ := hrel
                by_cases hlt : j < n
                · have hji : (j : Int) < (n : Int) := by omega
                  go_wp2
                  go_quiet (fail)
                  go_wp2
                  go_roundw
                  case rel => exact ⟨j + 1, d + nq, by omega, by go_num, rfl⟩
                  case measure => simp [intOf]; omega
                · go_wp2
                  go_ret
                  exact ⟨rfl, below_drewN' hbel d⟩

set_option maxHeartbeats 1600000 in
theorem walk_none (a0 : Option Addr) (cap0 : Nat) (zs : List Int) (a1 : Option Addr) (len1 cap1 : Nat) (hs : List Int) (m : Int) (w : World)
    (hl1 : len1 ≤ 65536) (n0 : a0 = none → cap0 = 0) (n1 : a1 = none → len1 = 0 ∧ cap1 = 0) (wz : ∀ n ∈ zs, (Lit.int .i32 n).wf = true) (wm : (Lit.int .i32 m).wf = true)
    (i0 : IsVals w a0 0 (zs.map (Value.int .i32))) (i1 : IsVals w a1 len1 (hs.map (Value.int .i64))) :
    Calls Try.prog 5 #[.slice a0 0 cap0, .slice a1 len1 cap1, .int .i32 m] w fun e w' => e = .returned (.bool true) ∧ Below w.heap.size w w' := by
  have hl0 : 0 ≤ 65536 := by omega
  have I0 := hid i0
  have I1 := hid i1
  clear i0 i1
  obtain ⟨hm1, hm2⟩ := bounds_i32 wm
  go_enter Try.func5, Try.ntmps5
  go_wp2_with fail
  refine (bytes17_any _ _ _ _ _ _ _ (by unfold maxLen; omega) (by unfold maxLen; omega) _).mono ?_
  rintro e w' ⟨⟨b, rfl⟩, rfl⟩
  cases b
  · go_wp2
    go_ret
    exact ⟨rfl, Below.refl _ _⟩
  go_wp2_with fail
  refine (tooBig_some _ _ _ _ _ _ hl0 hl1 _).mono ?_
  rintro e w' ⟨⟨b, rfl⟩, rfl⟩
  cases b
  rotate_left
  · go_wp2
    go_ret
    exact ⟨rfl, Below.refl _ _⟩
  go_wp2_with fail
  refine (clone12_any _ _ _ zs (by omega) (fun h => ⟨rfl, n0 h⟩) _ I0.out).mono ?_
  rintro e w1 ⟨a0', cap0', rfl, j0, hbel1⟩
  go_wp2_with fail
  refine (clone13_any _ _ _ hs (by omega) n1 _ (I1.out.below hbel1)).mono ?_
  rintro e w2 ⟨a1', cap1', rfl, j1, hbel2⟩
  have j0' := j0.below hbel2
  go_wp2_with fail
  refine (workRows_any _ _ _ _ _ _ zs hs hl0 hl1 wz _ j0' j1).mono ?_
  rintro e w3 ⟨rfl, rfl⟩
  have HRows := hid (rowsAt_new w2 zs hs 0)
  have hb12 : Below w'.heap.size w' w2 := hbel1.trans (hbel2.mono hbel1.size)
  clear j0 j1 j0' hbel2 hbel1
  go_wp2_with fail
  refine (before_any _ 0 zs hs m hl0 _ HRows.out).mono ?_
  rintro e w4 ⟨G, c, rfl, hcells, hbel4, hG, hall, hnall⟩
  clear hall hnall hcells
  obtain ⟨n, hn⟩ : ∃ n, n = (kept zs m 0).length := ⟨_, rfl⟩
  rw [← hn]
  have hn0 : n = 0 := by rw [hn, kept_zero]; rfl
  subst hn0
  clear hn
  have hbel24 : Below w2.heap.size w2 w4 := ((Below.refl _ _).alloc (Nat.le_refl _) _).trans (hbel4.mono (by simp))
  have hbel : Below w'.heap.size w' w4 := hb12.trans (hbel24.mono hb12.size)
  clear hbel4 hbel24 hb12 HRows
  go_wp2
  go_ret
  exact ⟨rfl, hbel⟩

set_option maxHeartbeats 800000 in
theorem walk_big (a0 : Option Addr) (len0 cap0 : Nat) (a1 : Option Addr) (len1 cap1 : Nat) (m : Int) (w : World) (h0 : len0 ≤ maxLen) (h1 : len1 ≤ maxLen) (hbig : ¬ (len0 ≤ 65536 ∧ len1 ≤ 65536)) :
    Calls Try.prog 5 #[.slice a0 len0 cap0, .slice a1 len1 cap1, .int .i32 m] w fun e w' => e = .returned (.bool true) ∧ Below w.heap.size w w' := by
  have HB := hid hbig
  clear hbig
  go_enter Try.func5, Try.ntmps5
  go_wp2_with fail
  refine (bytes17_any _ _ _ _ _ _ _ h0 h1 _).mono ?_
  rintro e w' ⟨⟨b, rfl⟩, rfl⟩
  cases b
  · go_wp2
    go_ret
    exact ⟨rfl, Below.refl _ _⟩
  go_wp2_with fail
  refine (tooBig_yes _ _ _ _ _ _ h0 h1 HB.out _).mono ?_
  rintro e w' ⟨rfl, rfl⟩
  go_wp2
  go_ret
  exact ⟨rfl, Below.refl _ _⟩

end Go.Proofs.Qxb6000622a.fnBeforeSharesRowsOnlyWhenAllAreEarlier
