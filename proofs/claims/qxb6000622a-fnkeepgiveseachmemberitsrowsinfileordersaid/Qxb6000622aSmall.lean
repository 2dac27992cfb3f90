/-
  The small callees of the two Keep laws: b1runLen (35), b1newPartAt (37), b1keepBytes (19), b1keepRows (20), b1seenBefore (26), zzBytes_.. (18, 30).
-/
import Derived.Test.Qxb6000622aWork
import Derived.Deep.QuietTactic
import Derived.BigQuiet
namespace Go.Proofs.Qxb6000622a
open Go.RowKit
set_option linter.unusedVariables false

/-- Run i's number of rows. -/
def rl (rs : List Int) (i : Nat) : Nat := if i < rs.length then (rs.getD i 0).toNat else 1
/-- Where run k begins. -/
def stN (rs : List Int) : Nat → Nat
  | 0 => 0
  | k + 1 => stN rs k + rl rs k

theorem stN_mono (rs : List Int) (i : Nat) : ∀ j, i ≤ j → stN rs i ≤ stN rs j
  | 0, h => by have : i = 0 := by omega
               subst this; exact Nat.le_refl _
  | j + 1, h => by
    by_cases e : i = j + 1
    · subst e; exact Nat.le_refl _
    · have := stN_mono rs i j (by omega)
      rw [stN]; omega

theorem rl_le (rs : List Int) (hw : ∀ n ∈ rs, (Lit.int .u8 n).wf = true) (i : Nat) : rl rs i ≤ 255 := by
  unfold rl
  split
  · rename_i h
    have := bounds_u8 (hw (rs.getD i 0) (by simp [List.getElem?_eq_getElem h]))
    omega
  · omega

theorem stN_le (rs : List Int) (hw : ∀ n ∈ rs, (Lit.int .u8 n).wf = true) : ∀ k, stN rs k ≤ 255 * k
  | 0 => Nat.le_refl _
  | k + 1 => by
    have := stN_le rs hw k
    have := rl_le rs hw k
    rw [stN]; omega

theorem runLen_any (a : Option Addr) (len cap : Nat) (rs : List Int) (i : Nat) (hw : ∀ n ∈ rs, (Lit.int .u8 n).wf = true) (hi : i ≤ 1048576) (hl : len ≤ maxLen) (w : World) (h : IsVals w a len (rs.map (Value.int .u8))) :
    Calls Try.prog 35 #[.slice a len cap, .int .i64 (i : Int)] w fun e w' => e = .returned (.int .i64 (rl rs i : Nat)) ∧ w' = w := by
  unfold maxLen at hl
  have hrl : rs.length = len := by simpa using h.1
  by_cases hlt : i < len
  · obtain ⟨b, off, rfl, hb, hc⟩ := h.2 (by omega)
    obtain ⟨z, hz⟩ : ∃ z, z = rs.getD i 0 := ⟨_, rfl⟩
    have hir : i < rs.length := by omega
    have hcx : w.cell? ⟨b, off + i, none⟩ = some (.int .u8 z) := by rw [hc i hlt, hz]; simp [List.getElem?_eq_getElem hir]
    obtain ⟨z1, z2⟩ := bounds_u8 (hw z (by rw [hz]; simp [List.getElem?_eq_getElem hir]))
    have HV : Hid ((rl rs i : Int) = z) := by unfold rl; rw [if_pos hir, ← hz]; exact (show _ = _ by omega)
    clear h hc hz hrl hir
    go_enter Try.func35, Try.ntmps35
    go_wp2
    go_ret
    exact ⟨by rw [HV.out]; rfl, rfl⟩
  · have HV : Hid ((rl rs i : Int) = 1) := by unfold rl; rw [if_neg (by omega)]; rfl
    clear h hrl
    go_enter Try.func35, Try.ntmps35
    go_wp2
    go_ret
    exact ⟨by rw [HV.out]; rfl, rfl⟩

theorem newPartAt_any (a : Option Addr) (len cap : Nat) (ns : List Bool) (i : Nat) (hi : i ≤ 1048576) (hl : len ≤ maxLen) (w : World) (h : IsVals w a len (ns.map Value.bool)) :
    Calls Try.prog 37 #[.slice a len cap, .int .i64 (i : Int)] w fun e w' => e = .returned (.bool (ns.getD i false)) ∧ w' = w := by
  unfold maxLen at hl
  have hrl : ns.length = len := by simpa using h.1
  by_cases hlt : i < len
  · obtain ⟨b, off, rfl, hb, hc⟩ := h.2 (by omega)
    obtain ⟨z, hz⟩ : ∃ z, z = ns.getD i false := ⟨_, rfl⟩
    have hir : i < ns.length := by omega
    have hcx : w.cell? ⟨b, off + i, none⟩ = some (.bool z) := by rw [hc i hlt, hz]; simp [List.getElem?_eq_getElem hir]
    have HV := hid hz
    have hil : (i : Int) < (len : Int) := by omega
    clear h hc hz hrl hir
    go_enter Try.func37, Try.ntmps37
    go_wp2
    go_ret
    exact ⟨by rw [← HV.out]; rfl, rfl⟩
  · have HV : Hid (ns.getD i false = false) := (show ns.getD i false = false by simp [List.getElem?_eq_none (show ns.length ≤ i from by omega)])
    have hil : decide (i < len) = false := by simp; omega
    clear h hrl
    go_enter Try.func37, Try.ntmps37
    go_wp2
    go_ret
    exact ⟨by rw [HV.out]; rfl, rfl⟩

/-- Some integer was returned. -/
def SomeInt (e : Ending) : Prop := ∃ z : Int, e = .returned (.int .i64 z)

set_option maxHeartbeats 800000 in
theorem keepBytes_any (a0 a1 a2 : Option Addr) (len0 cap0 len1 cap1 len2 cap2 : Nat) (mem : List ByteArray) (hl : len0 ≤ maxLen) (w : World) (h : IsVals w a0 len0 (mem.map Value.string)) :
    Calls Try.prog 19 #[.slice a0 len0 cap0, .slice a1 len1 cap1, .slice a2 len2 cap2] w fun e w' => SomeInt e ∧ w' = w := by
  unfold maxLen at hl
  have hrl : mem.length = len0 := by simpa using h.1
  by_cases hbig : (1048576 : Int) < (len0 : Int)
  · clear h hrl
    go_enter Try.func19, Try.ntmps19
    go_wp2
    go_ret
    exact ⟨⟨_, rfl⟩, rfl⟩
  · rcases Nat.eq_zero_or_pos len0 with e0 | e0
    · subst e0
      clear h hrl
      go_enter Try.func19, Try.ntmps19
      go_wp2
      refine wp_loop_rounds 1 ?_
      rw [rounds_succ]
      go_wp2
      go_ret
      exact ⟨⟨_, rfl⟩, rfl⟩
    · obtain ⟨b, off, rfl, hb, hc⟩ := h.2 e0
      have HC := hid hc
      have HR := hid hrl
      clear h hc hrl
      go_enter Try.func19, Try.ntmps19
      go_wp2
      go_loop [7, 8] (fun n i => ∃ (k : Nat) (z : Int), k ≤ len0 ∧ i = .int .i64 k ∧ n = .int .i64 z) (fun _ i => len0 - (intOf i).toNat)
      case atStart => exact ⟨0, _, Nat.zero_le _, rfl, rfl⟩
      case round =>
        obtain ⟨k, z, hk, rfl, rfl⟩ := hrel
        by_cases hlt : k < len0
        · obtain ⟨s, hs⟩ : ∃ s, s = mem.getD k ByteArray.empty := ⟨_, rfl⟩
          have hcx : w.cell? ⟨b, off + k, none⟩ = some (.string s) := by rw [HC.out k hlt, hs]; simp [List.getElem?_eq_getElem (show k < mem.length from by rw [HR.out]; exact hlt)]
          clear hs
          go_wp2
          · go_ret
            exact ⟨⟨_, rfl⟩, rfl⟩
          · go_round
            case rel => exact ⟨k + 1, _, by omega, by go_num, rfl⟩
            case measure => simp [intOf]; omega
        · go_wp2
          go_ret
          exact ⟨⟨_, rfl⟩, rfl⟩

set_option maxHeartbeats 800000 in
theorem keepRows_any (a0 a1 : Option Addr) (len0 cap0 len1 cap1 : Nat) (rs : List Int) (hw : ∀ n ∈ rs, (Lit.int .u8 n).wf = true) (hl0 : len0 ≤ 4096) (hl1 : len1 ≤ maxLen) (w : World) (h : IsVals w a1 len1 (rs.map (Value.int .u8))) :
    Calls Try.prog 20 #[.slice a0 len0 cap0, .slice a1 len1 cap1] w fun e w' => e = .returned (.int .i64 (stN rs len0 : Nat)) ∧ w' = w := by
  have HI := hid h
  have HW := hid hw
  clear h hw
  go_enter Try.func20, Try.ntmps20
  go_wp2
  go_loopw [5, 6] (fun n i wr => ∃ k : Nat, k ≤ len0 ∧ i = .int .i64 k ∧ n = .int .i64 (stN rs k : Nat) ∧ wr = w) (fun _ i _ => len0 - (intOf i).toNat)
  case atStart => exact ⟨0, Nat.zero_le _, rfl, rfl, rfl⟩
  case round =>
    obtain ⟨k, hk, rfl, rfl, rfl⟩ := hrel
    have hb := stN_le rs HW.out k
    have hb2 := rl_le rs HW.out k
    by_cases hlt : k < len0
    · go_wp2_with (go_at_call 35; refine (runLen_any _ _ _ rs _ HW.out (by omega) hl1 _ HI.out).mono ?_; rintro e w' ⟨rfl, rfl⟩)
      go_roundw
      case rel => exact ⟨k + 1, by omega, by go_num, by rw [stN]; go_num, trivial⟩
      case measure => simp [intOf]; omega
    · have hkl : k = len0 := by omega
      subst hkl
      go_wp2
      go_ret
      exact ⟨rfl, rfl⟩

/-- Run i's member has an earlier run. -/
def seenB (mem : List ByteArray) (i : Nat) : Bool := (mem.take i).any (fun x => decide (x = mem.getD i ByteArray.empty))

theorem bytes_eq (s t : ByteArray) : (s.toList == t.toList) = decide (s = t) := by
  by_cases h : s = t
  · subst h; simp
  · have : ¬ s.toList = t.toList := fun e => h (by
      rw [ByteArray.toList_eq, ByteArray.toList_eq] at e
      cases s; cases t
      simp at e
      rw [e])
    simp [h, this]

theorem seen_yes (mem : List ByteArray) (i j : Nat) (hj : j < i) (hi : i < mem.length) (h : mem.getD j ByteArray.empty = mem.getD i ByteArray.empty) : seenB mem i = true := by
  unfold seenB
  rw [List.any_eq_true]
  refine ⟨mem[j], List.mem_take_iff_getElem.2 ⟨j, by omega, rfl⟩, ?_⟩
  have : mem[j] = mem.getD j ByteArray.empty := by simp [List.getElem?_eq_getElem (show j < mem.length from by omega)]
  rw [this, h]
  simp

theorem seen_no (mem : List ByteArray) (i : Nat) (hi : i < mem.length) (h : ∀ j, j < i → mem.getD j ByteArray.empty ≠ mem.getD i ByteArray.empty) : seenB mem i = false := by
  unfold seenB
  rw [List.any_eq_false]
  intro x hx
  obtain ⟨j, hj, rfl⟩ := List.mem_take_iff_getElem.1 hx
  have := h j (by omega)
  simp only [decide_eq_true_eq]
  intro e
  apply this
  rw [← e]
  simp [List.getElem?_eq_getElem (show j < mem.length from by omega)]

set_option maxHeartbeats 800000 in
theorem seenBefore_any (b off len cap : Nat) (mem : List ByteArray) (i : Nat) (hi : i < len) (hl : len ≤ 4096) (hml : mem.length = len) (w : World) (hb : b < w.heap.size) (hc : ∀ j, j < len → w.cell? ⟨b, off + j, none⟩ = some (.string (mem.getD j ByteArray.empty))) :
    Calls Try.prog 26 #[.slice (some ⟨b, off, none⟩) len cap, .int .i64 (i : Int)] w fun e w' => e = .returned (.bool (seenB mem i)) ∧ ∃ n, w' = w.drewN n := by
  have HC := hid hc
  have HM := hid hml
  clear hc hml
  obtain ⟨t, ht⟩ : ∃ t, t = mem.getD i ByteArray.empty := ⟨_, rfl⟩
  have ct : w.cell? ⟨b, off + i, none⟩ = some (.string t) := by rw [ht]; exact HC.out i hi
  have HT := hid ht
  clear ht
  go_enter Try.func26, Try.ntmps26
  go_wp2
  go_loopw [5] (fun j wr => ∃ k d : Nat, k ≤ i ∧ j = .int .i64 k ∧ (∀ j, j < k → mem.getD j ByteArray.empty ≠ t) ∧ wr = w.drewN d) (fun j _ => i - (intOf j).toNat)
  case atStart => exact ⟨0, 0, Nat.zero_le _, rfl, fun j hj => by omega, rfl⟩
  case round =>
    obtain ⟨k, d, hk, rfl, hne, rfl⟩ := hrel
    have HN := hid hne
    clear hne
    by_cases hlt : k < i
    · obtain ⟨s, hs⟩ : ∃ s, s = mem.getD k ByteArray.empty := ⟨_, rfl⟩
      have cs : w.cell? ⟨b, off + k, none⟩ = some (.string s) := by rw [hs]; exact HC.out k (by omega)
      have HS := hid hs
      clear hs
      have i1 : (k : Int) < (len : Int) := by omega
      have i2 : (i : Int) < (len : Int) := by omega
      have hbe := bytes_eq s t
      by_cases e : s = t
      · have HV : Hid (seenB mem i = true) := seen_yes mem i k hlt (by rw [HM.out]; exact hi) (by rw [← HS.out, ← HT.out]; exact e)
        have hbt : (s.toList == t.toList) = true := by rw [hbe]; simpa using e
        clear hbe e
        go_wp2
        go_quiet (fail)
        go_wp2
        go_ret
        exact ⟨by rw [HV.out]; rfl, d + nq, by simp⟩
      · have hbt : (s.toList == t.toList) = false := by rw [hbe]; simpa using e
        have HE := hid e
        clear hbe e
        go_wp2
        go_quiet (fail)
        go_wp2
        go_roundw
        case rel => exact ⟨k + 1, d + nq, by omega, by go_num, fun j hj => by
            by_cases hjk : j = k
            · subst hjk; rw [← HS.out]; exact HE.out
            · exact HN.out j (by omega), by simp⟩
        case measure => simp [intOf]; omega
    · have hki : k = i := by omega
      subst hki
      have HV : Hid (seenB mem k = false) := seen_no mem k (by rw [HM.out]; exact hi) (fun j hj => by rw [← HT.out]; exact HN.out j hj)
      go_wp2
      go_ret
      exact ⟨by rw [HV.out]; rfl, d, rfl⟩

end Go.Proofs.Qxb6000622a
