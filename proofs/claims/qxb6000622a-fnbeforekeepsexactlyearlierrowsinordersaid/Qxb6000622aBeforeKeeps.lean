/-
  The walk of FnBeforeKeepsExactlyEarlierRowsInOrder (3).
-/
import Derived.Test.Qxb6000622aBefore
import Derived.Deep.QuietTactic
import Derived.BigQuiet
namespace Go.Proofs.Qxb6000622a.fnBeforeKeepsExactlyEarlierRowsInOrder
open Go.RowKit
set_option linter.unusedVariables false

theorem ret_true {b : Bool} (h : b = true) : Ending.returned (.bool b) = .returned (.bool true) := by rw [h]

theorem rowsAt_new (w : World) (zs hs : List Int) (len : Nat) : RowsAt (w.alloc (.cells (rcells zs hs len len) 34)) w.heap.size len zs hs :=
  ⟨by simp, fun j q hj hq => by rw [World.cell?_alloc_at _ _ _ _ rfl]; exact rcells_get zs hs len len j q hj (Nat.le_refl _) hq⟩

theorem below_drewN' {B : Nat} {a w : World} (h : Below B a w) (n : Nat) : Below B a (w.drewN n) := ⟨h.os, h.tape, h.output, h.size, h.block⟩

set_option maxHeartbeats 3200000 in
theorem walk_some (a0 : Option Addr) (len0 cap0 : Nat) (zs : List Int) (a1 : Option Addr) (len1 cap1 : Nat) (hs : List Int) (m : Int) (w : World)
    (h0 : 0 < len0) (hl0 : len0 ≤ 65536) (hl1 : len1 ≤ 65536) (n0 : a0 = none → len0 = 0 ∧ cap0 = 0) (n1 : a1 = none → len1 = 0 ∧ cap1 = 0) (wz : ∀ n ∈ zs, (Lit.int .i32 n).wf = true) (wm : (Lit.int .i32 m).wf = true)
    (i0 : IsVals w a0 len0 (zs.map (Value.int .i32))) (i1 : IsVals w a1 len1 (hs.map (Value.int .i64))) :
    Calls Try.prog 3 #[.slice a0 len0 cap0, .slice a1 len1 cap1, .int .i32 m] w fun e w' => e = .returned (.bool true) ∧ Below w.heap.size w w' := by
  have hzl : zs.length = len0 := by simpa using i0.1
  have HZL := hid hzl
  have I0 := hid i0
  have I1 := hid i1
  clear i0 i1 hzl
  obtain ⟨hm1, hm2⟩ := bounds_i32 wm
  go_enter Try.func3, Try.ntmps3
  go_wp2_with fail
  refine (bytes10_any _ _ _ _ _ _ _ (by unfold maxLen; omega) (by unfold maxLen; omega) _).mono ?_
  rintro e w' ⟨⟨b, rfl⟩, rfl⟩
  cases b
  · go_wp2
    go_ret
    exact ⟨rfl, Below.refl _ _⟩
  go_wp2_with fail
  refine (tooBig_some _ _ _ _ _ _ hl0 hl1 _).mono ?_
  rintro e w' ⟨⟨b, rfl⟩, rfl⟩
  cases b
  rotate_left
  · go_wp2
    go_ret
    exact ⟨rfl, Below.refl _ _⟩
  go_wp2_with fail
  refine (clone12_any _ _ _ zs (by omega) n0 _ I0.out).mono ?_
  rintro e w1 ⟨a0', cap0', rfl, j0, hbel1⟩
  go_wp2_with fail
  refine (clone13_any _ _ _ hs (by omega) n1 _ (I1.out.below hbel1)).mono ?_
  rintro e w2 ⟨a1', cap1', rfl, j1, hbel2⟩
  have j0' := j0.below hbel2
  obtain ⟨b, off, rfl, hb, hc⟩ := j0'.2 h0
  go_wp2_with fail
  refine (workRows_any _ _ _ _ _ _ zs hs hl0 hl1 wz _ j0' j1).mono ?_
  rintro e w3 ⟨rfl, rfl⟩
  have HJ := hid j0'
  have hrows := rowsAt_new w2 zs hs len0
  have HRows := hid hrows
  have HC := hid hc
  have hb12 : Below w'.heap.size w' w2 := hbel1.trans (hbel2.mono hbel1.size)
  clear j0 j1 j0' hbel2 hbel1 hc hrows HJ
  go_wp2_with fail
  refine (before_any _ len0 zs hs m hl0 _ HRows.out).mono ?_
  rintro e w4 ⟨G, c, rfl, hcells, hbel4, hG, hall, hnall⟩
  clear hall hnall
  obtain ⟨n, hn⟩ : ∃ n, n = (kept zs m len0).length := ⟨_, rfl⟩
  rw [← hn] at hcells ⊢
  have hnl : n ≤ len0 := by rw [hn]; exact kept_le _ _ _
  have HN := hid hn
  have HCells := hid hcells
  clear hn hcells
  have hsw2 : w2.heap.size < (w2.alloc (.cells (rcells zs hs len0 len0) 34)).heap.size := by simp
  have HR4 := hid (HRows.out.below hbel4 (by simp))
  have hbel24 : Below w2.heap.size w2 w4 := ((Below.refl _ _).alloc (Nat.le_refl _) _).trans (hbel4.mono (by simp))
  have hbel : Below w'.heap.size w' w4 := hb12.trans (hbel24.mono hb12.size)
  have HC4 : Hid (∀ j, j < len0 → w4.cell? ⟨b, off + j, none⟩ = (zs.map (Value.int .i32))[j]?) := fun j hj => (hbel24.cell (by exact hb)).trans (HC.out j hj)
  have hb4 : b < w4.heap.size := by have := hbel24.size; omega
  clear hbel4 hbel24 hb12 HC HRows hsw2
  obtain ⟨R, hR⟩ : ∃ R, R = w2.heap.size := ⟨_, rfl⟩
  rw [← hR] at hb HR4 ⊢
  clear hR
  go_wp2
  go_loop [9] (fun i => ∃ k : Nat, k ≤ n ∧ i = .int .i64 k) (fun i => n - (intOf i).toNat)
  case atStart => exact ⟨0, Nat.zero_le _, rfl⟩
  case round =>
    obtain ⟨k, hk, rfl⟩ := hrel
    by_cases hlt : k < n
    · have hmem := kept_mem zs m len0 _ (kept_getD_mem zs m len0 k (by rw [← HN.out]; exact hlt))
      obtain ⟨z, hz⟩ : ∃ z, z = zs.getD ((kept zs m len0).getD k 0) 0 := ⟨_, rfl⟩
      have hzm : z < m := by rw [hz]; exact hmem.2
      have c0 : w4.cell? ⟨G, k * 4, none⟩ = some (.int .i64 z) := by rw [hz]; exact HCells.out k 0 hlt (by omega)
      clear hmem hz
      go_wp2
      go_round
      case rel => exact ⟨k + 1, by omega, by go_num⟩
      case measure => simp [intOf]; omega
    · have hkn : k = n := by omega
      subst hkn
      go_wp2
      go_loopw [10, 11, 12] (fun j l i wr => ∃ t d : Nat, t ≤ len0 ∧ i = .int .i64 t ∧ j = .int .i64 ((kept zs m t).length : Nat) ∧ l = .int .i64 ((t : Int) - ((kept zs m t).length : Nat)) ∧ wr = w4.drewN d) (fun _ _ i _ => len0 - (intOf i).toNat)
      case atStart => exact ⟨0, 0, Nat.zero_le _, rfl, rfl, rfl, rfl⟩
      case round =>
        obtain ⟨t, d, ht, rfl, rfl, rfl, rfl⟩ := hrel
        have hkl := kept_le zs m t
        obtain ⟨L, hL⟩ : ∃ L, L = (kept zs m t).length := ⟨_, rfl⟩
        rw [← hL] at hkl ⊢
        have HL := hid hL
        clear hL
        by_cases hlt2 : t < len0
        · have hkz : t < zs.length := by rw [HZL.out]; exact hlt2
          obtain ⟨z, hz⟩ : ∃ z, z = zs.getD t 0 := ⟨_, rfl⟩
          obtain ⟨h, hh⟩ : ∃ h, h = hs.getD t 0 := ⟨_, rfl⟩
          have cz : w4.cell? ⟨b, off + t, none⟩ = some (.int .i32 z) := by rw [HC4.out t hlt2, hz]; simp [List.getElem?_eq_getElem hkz]
          obtain ⟨c0, c1, c2, c3⟩ := HR4.out.four t hlt2
          rw [← hz] at c0
          rw [← hh] at c1
          have HZ := hid hz
          clear hz
          by_cases hm : z < m
          · have hat := kept_at zs m len0 t hlt2 (by rw [← HZ.out]; exact hm)
            rw [← HL.out, ← HN.out] at hat
            have hLk : (L : Int) < (k : Int) := by omega
            have d0 : w4.cell? ⟨G, L * 4, none⟩ = some (.int .i64 z) := by rw [HZ.out]; have := HCells.out L 0 hat.1 (by omega); rw [hat.2] at this; exact this
            have d1 : w4.cell? ⟨G, L * 4 + 1, none⟩ = some (.int .i64 h) := by rw [hh]; have := HCells.out L 1 hat.1 (by omega); rw [hat.2] at this; exact this
            have d2 : w4.cell? ⟨G, L * 4 + 2, none⟩ = some (.int .i64 (t : Int)) := by have := HCells.out L 2 hat.1 (by omega); rw [hat.2] at this; exact this
            have d3 : w4.cell? ⟨G, L * 4 + 3, none⟩ = some (.int .i64 ((t : Int) + 1)) := by have := HCells.out L 3 hat.1 (by omega); rw [hat.2] at this; exact this
            have HK : Hid (kept zs m (t + 1) = kept zs m t ++ [t]) := kept_yes zs m t (by rw [← HZ.out]; exact hm)
            clear hat hh
            go_wp2
            go_quiet (fail)
            go_wp2
            go_roundw
            case rel => exact ⟨t + 1, d + nq, by omega, by go_num, by rw [HK.out, List.length_append, ← HL.out]; simp, by rw [HK.out, List.length_append, ← HL.out]; simp; omega, rfl⟩
            case measure => simp [intOf]; omega
          · have HK : Hid (kept zs m (t + 1) = kept zs m t) := kept_no zs m t (by rw [← HZ.out]; exact hm)
            by_cases hLk : (L : Int) < (k : Int)
            · have hne := kept_past zs m len0 t hlt2 (by rw [← HZ.out]; exact hm) (by rw [← HL.out, ← HN.out]; omega)
              rw [← HL.out] at hne
              obtain ⟨J, hJ⟩ : ∃ J, J = (kept zs m len0).getD L 0 := ⟨_, rfl⟩
              rw [← hJ] at hne
              obtain ⟨zJ, hzJ⟩ : ∃ zJ, zJ = zs.getD J 0 := ⟨_, rfl⟩
              obtain ⟨hsJ, hhJ⟩ : ∃ hJ, hJ = hs.getD J 0 := ⟨_, rfl⟩
              have d0 : w4.cell? ⟨G, L * 4, none⟩ = some (.int .i64 zJ) := by rw [hzJ, hJ]; exact HCells.out L 0 (by omega) (by omega)
              have d1 : w4.cell? ⟨G, L * 4 + 1, none⟩ = some (.int .i64 hsJ) := by rw [hhJ, hJ]; exact HCells.out L 1 (by omega) (by omega)
              have d2 : w4.cell? ⟨G, L * 4 + 2, none⟩ = some (.int .i64 (J : Int)) := by rw [hJ]; exact HCells.out L 2 (by omega) (by omega)
              have d3 : w4.cell? ⟨G, L * 4 + 3, none⟩ = some (.int .i64 ((J : Int) + 1)) := by rw [hJ]; exact HCells.out L 3 (by omega) (by omega)
              have hJt : ((J : Int) == (t : Int)) = false := by simp; omega
              clear hJ hzJ hhJ hh hne
              go_wp2
              go_quiet (fail)
              go_wp2
              go_roundw
              case rel => exact ⟨t + 1, d + nq, by omega, by go_num, by rw [HK.out, ← HL.out], by rw [HK.out, ← HL.out]; simp; omega, rfl⟩
              case measure => simp [intOf]; omega
            · have hd : decide (L < k) = false := by simp; omega
              clear hh
              go_wp2
              go_quiet (fail)
              go_wp2
              go_roundw
              case rel => exact ⟨t + 1, d + nq, by omega, by go_num, by rw [HK.out, ← HL.out], by rw [HK.out, ← HL.out]; simp; omega, rfl⟩
              case measure => simp [intOf]; omega
        · have htl : t = len0 := by omega
          subst htl
          have hLe : L = k := by rw [HL.out, HN.out]
          have HLE := hid hLe
          have hLk : ((L : Int) != (k : Int)) = false := by simp; omega
          clear hLe
          go_wp2
          go_ret
          refine ⟨ret_true (b := ((t : Int) - (L : Int) + (k : Int) == (t : Int))) (by have := HLE.out; simp; omega), ?_⟩
          exact below_drewN' hbel d

set_option maxHeartbeats 1600000 in
theorem walk_none (a0 : Option Addr) (cap0 : Nat) (zs : List Int) (a1 : Option Addr) (len1 cap1 : Nat) (hs : List Int) (m : Int) (w : World)
    (hl1 : len1 ≤ 65536) (n0 : a0 = none → cap0 = 0) (n1 : a1 = none → len1 = 0 ∧ cap1 = 0) (wz : ∀ n ∈ zs, (Lit.int .i32 n).wf = true) (wm : (Lit.int .i32 m).wf = true)
    (i0 : IsVals w a0 0 (zs.map (Value.int .i32))) (i1 : IsVals w a1 len1 (hs.map (Value.int .i64))) :
    Calls Try.prog 3 #[.slice a0 0 cap0, .slice a1 len1 cap1, .int .i32 m] w fun e w' => e = .returned (.bool true) ∧ Below w.heap.size w w' := by
  have hl0 : 0 ≤ 65536 := by omega
  have I0 := hid i0
  have I1 := hid i1
  clear i0 i1
  obtain ⟨hm1, hm2⟩ := bounds_i32 wm
  go_enter Try.func3, Try.ntmps3
  go_wp2_with fail
  refine (bytes10_any _ _ _ _ _ _ _ (by unfold maxLen; omega) (by unfold maxLen; omega) _).mono ?_
  rintro e w' ⟨⟨b, rfl⟩, rfl⟩
  cases b
  · go_wp2
    go_ret
    exact ⟨rfl, Below.refl _ _⟩
  go_wp2_with fail
  refine (tooBig_some _ _ _ _ _ _ hl0 hl1 _).mono ?_
  rintro e w' ⟨⟨b, rfl⟩, rfl⟩
  cases b
  rotate_left
  · go_wp2
    go_ret
    exact ⟨rfl, Below.refl _ _⟩
  go_wp2_with fail
  refine (clone12_any _ _ _ zs (by omega) (fun h => ⟨rfl, n0 h⟩) _ I0.out).mono ?_
  rintro e w1 ⟨a0', cap0', rfl, j0, hbel1⟩
  go_wp2_with fail
  refine (clone13_any _ _ _ hs (by omega) n1 _ (I1.out.below hbel1)).mono ?_
  rintro e w2 ⟨a1', cap1', rfl, j1, hbel2⟩
  have j0' := j0.below hbel2
  go_wp2_with fail
  refine (workRows_any _ _ _ _ _ _ zs hs hl0 hl1 wz _ j0' j1).mono ?_
  rintro e w3 ⟨rfl, rfl⟩
  have HRows := hid (rowsAt_new w2 zs hs 0)
  have hb12 : Below w'.heap.size w' w2 := hbel1.trans (hbel2.mono hbel1.size)
  clear j0 j1 j0' hbel2 hbel1
  go_wp2_with fail
  refine (before_any _ 0 zs hs m hl0 _ HRows.out).mono ?_
  rintro e w4 ⟨G, c, rfl, hcells, hbel4, hG, hall, hnall⟩
  clear hall hnall hcells
  obtain ⟨n, hn⟩ : ∃ n, n = (kept zs m 0).length := ⟨_, rfl⟩
  rw [← hn]
  have hn0 : n = 0 := by rw [hn, kept_zero]; rfl
  subst hn0
  clear hn
  have hbel24 : Below w2.heap.size w2 w4 := ((Below.refl _ _).alloc (Nat.le_refl _) _).trans (hbel4.mono (by simp))
  have hbel : Below w'.heap.size w' w4 := hb12.trans (hbel24.mono hb12.size)
  clear hbel4 hbel24 hb12 HRows
  go_wp2
  refine wp_loop_rounds 1 ?_
  rw [rounds_succ]
  go_wp2
  refine wp_loop_rounds 1 ?_
  rw [rounds_succ]
  go_wp2
  go_ret
  exact ⟨rfl, hbel⟩

set_option maxHeartbeats 800000 in
theorem walk_big (a0 : Option Addr) (len0 cap0 : Nat) (a1 : Option Addr) (len1 cap1 : Nat) (m : Int) (w : World) (h0 : len0 ≤ maxLen) (h1 : len1 ≤ maxLen) (hbig : ¬ (len0 ≤ 65536 ∧ len1 ≤ 65536)) :
    Calls Try.prog 3 #[.slice a0 len0 cap0, .slice a1 len1 cap1, .int .i32 m] w fun e w' => e = .returned (.bool true) ∧ Below w.heap.size w w' := by
  have HB := hid hbig
  clear hbig
  go_enter Try.func3, Try.ntmps3
  go_wp2_with fail
  refine (bytes10_any _ _ _ _ _ _ _ h0 h1 _).mono ?_
  rintro e w' ⟨⟨b, rfl⟩, rfl⟩
  cases b
  · go_wp2
    go_ret
    exact ⟨rfl, Below.refl _ _⟩
  go_wp2_with fail
  refine (tooBig_yes _ _ _ _ _ _ h0 h1 HB.out _).mono ?_
  rintro e w' ⟨rfl, rfl⟩
  go_wp2
  go_ret
  exact ⟨rfl, Below.refl _ _⟩

end Go.Proofs.Qxb6000622a.fnBeforeKeepsExactlyEarlierRowsInOrder
