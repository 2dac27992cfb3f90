/-
  zzBytes_.. of the two Keep laws (18, 30): some bool.
-/
import Derived.Test.Qxb6000622aSmall
namespace Go.Proofs.Qxb6000622a
open Go.RowKit
set_option linter.unusedVariables false

set_option maxHeartbeats 1600000 in
theorem bytes18_any (a0 a1 a2 : Option Addr) (len0 cap0 len1 cap1 len2 cap2 : Nat) (mem : List ByteArray) (p : Bool) (hl0 : len0 ≤ maxLen) (hl1 : len1 ≤ maxLen) (hl2 : len2 ≤ maxLen) (w : World) (h : IsVals w a0 len0 (mem.map Value.string)) :
    Calls Try.prog 18 #[.slice a0 len0 cap0, .slice a1 len1 cap1, .slice a2 len2 cap2, .bool p] w fun e w' => SomeBool e ∧ w' = w := by
  unfold maxLen at hl0 hl1 hl2
  have hrl : mem.length = len0 := by simpa using h.1
  by_cases hbig : (1048576 : Int) < (len0 : Int)
  · clear h hrl
    go_enter Try.func18, Try.ntmps18
    go_wp2
    go_ret
    exact ⟨⟨_, rfl⟩, rfl⟩
  · rcases Nat.eq_zero_or_pos len0 with e0 | e0
    · subst e0
      clear h hrl
      go_enter Try.func18, Try.ntmps18
      go_wp2
      refine wp_loop_rounds 1 ?_
      rw [rounds_succ]
      go_wp2
      all_goals
        go_ret
        exact ⟨⟨_, rfl⟩, rfl⟩
    · obtain ⟨b, off, rfl, hb, hc⟩ := h.2 e0
      have HC := hid hc
      have HR := hid hrl
      clear h hc hrl
      go_enter Try.func18, Try.ntmps18
      go_wp2
      go_loop [9, 10] (fun n i => ∃ k m : Nat, k ≤ len0 ∧ i = .int .i64 k ∧ n = .int .i64 m ∧ m ≤ 1048576) (fun _ i => len0 - (intOf i).toNat)
      case atStart => exact ⟨0, len0, Nat.zero_le _, rfl, rfl, by omega⟩
      case round =>
        obtain ⟨k, m, hk, rfl, rfl, hm⟩ := hrel
        by_cases hlt : k < len0
        · obtain ⟨s, hs⟩ : ∃ s, s = mem.getD k ByteArray.empty := ⟨_, rfl⟩
          have hcx : w.cell? ⟨b, off + k, none⟩ = some (.string s) := by rw [HC.out k hlt, hs]; simp [List.getElem?_eq_getElem (show k < mem.length from by rw [HR.out]; exact hlt)]
          clear hs
          by_cases hs1 : (1048576 : Int) < (s.size : Int)
          · go_wp2
            go_ret
            exact ⟨⟨_, rfl⟩, rfl⟩
          · by_cases hs2 : (1048576 : Int) < (m : Int) + (s.size : Int)
            · go_wp2
              go_ret
              exact ⟨⟨_, rfl⟩, rfl⟩
            · go_wp2
              go_round
              case rel => exact ⟨k + 1, m + s.size, by omega, by go_num, by go_num, by omega⟩
              case measure => simp [intOf]; omega
        · go_wp2
          all_goals
            go_ret
            exact ⟨⟨_, rfl⟩, rfl⟩

set_option maxHeartbeats 1600000 in
theorem bytes30_any (a0 a1 a2 : Option Addr) (len0 cap0 len1 cap1 len2 cap2 : Nat) (mem : List ByteArray) (p : ByteArray) (hp : p.size ≤ maxLen) (hl0 : len0 ≤ maxLen) (hl1 : len1 ≤ maxLen) (hl2 : len2 ≤ maxLen) (w : World) (h : IsVals w a0 len0 (mem.map Value.string)) :
    Calls Try.prog 30 #[.slice a0 len0 cap0, .slice a1 len1 cap1, .slice a2 len2 cap2, .string p] w fun e w' => SomeBool e ∧ w' = w := by
  unfold maxLen at hl0 hl1 hl2 hp
  have hrl : mem.length = len0 := by simpa using h.1
  by_cases hbig : (1048576 : Int) < (len0 : Int)
  · clear h hrl
    go_enter Try.func30, Try.ntmps30
    go_wp2
    go_ret
    exact ⟨⟨_, rfl⟩, rfl⟩
  · rcases Nat.eq_zero_or_pos len0 with e0 | e0
    · subst e0
      clear h hrl
      go_enter Try.func30, Try.ntmps30
      go_wp2
      refine wp_loop_rounds 1 ?_
      rw [rounds_succ]
      go_wp2
      all_goals
        go_ret
        exact ⟨⟨_, rfl⟩, rfl⟩
    · obtain ⟨b, off, rfl, hb, hc⟩ := h.2 e0
      have HC := hid hc
      have HR := hid hrl
      clear h hc hrl
      go_enter Try.func30, Try.ntmps30
      go_wp2
      go_loop [9, 10] (fun n i => ∃ k m : Nat, k ≤ len0 ∧ i = .int .i64 k ∧ n = .int .i64 m ∧ m ≤ 1048576) (fun _ i => len0 - (intOf i).toNat)
      case atStart => exact ⟨0, len0, Nat.zero_le _, rfl, rfl, by omega⟩
      case round =>
        obtain ⟨k, m, hk, rfl, rfl, hm⟩ := hrel
        by_cases hlt : k < len0
        · obtain ⟨s, hs⟩ : ∃ s, s = mem.getD k ByteArray.empty := ⟨_, rfl⟩
          have hcx : w.cell? ⟨b, off + k, none⟩ = some (.string s) := by rw [HC.out k hlt, hs]; simp [List.getElem?_eq_getElem (show k < mem.length from by rw [HR.out]; exact hlt)]
          clear hs
          by_cases hs1 : (1048576 : Int) < (s.size : Int)
          · go_wp2
            go_ret
            exact ⟨⟨_, rfl⟩, rfl⟩
          · by_cases hs2 : (1048576 : Int) < (m : Int) + (s.size : Int)
            · go_wp2
              go_ret
              exact ⟨⟨_, rfl⟩, rfl⟩
            · go_wp2
              go_round
              case rel => exact ⟨k + 1, m + s.size, by omega, by go_num, by go_num, by omega⟩
              case measure => simp [intOf]; omega
        · go_wp2
          all_goals
            go_ret
            exact ⟨⟨_, rfl⟩, rfl⟩

end Go.Proofs.Qxb6000622a
