/-
  Decision.Reason (function 13) as a plain function of bytes, and its contract.
-/
import Derived.Test.Qxb6000568aRows
import Derived.WalkKit
import Derived.WalkSpells
import Derived.WalkLawsBesides
namespace Go.Proofs.Qxb6000568a
open Go.RowKit

/-- "allowed by role " -/
def preAllow : ByteArray := ⟨#[97, 108, 108, 111, 119, 101, 100, 32, 98, 121, 32, 114, 111, 108, 101, 32]⟩
/-- "denied by role " -/
def preDeny : ByteArray := ⟨#[100, 101, 110, 105, 101, 100, 32, 98, 121, 32, 114, 111, 108, 101, 32]⟩
/-- "denied: no role allows it" -/
def noRole : ByteArray := ⟨#[100, 101, 110, 105, 101, 100, 58, 32, 110, 111, 32, 114, 111, 108, 101, 32, 97, 108, 108, 111, 119, 115, 32, 105, 116]⟩

/-- What Reason gives. -/
def reason (a : Bool) (r : ByteArray) : ByteArray :=
  if a = true then preAllow ++ r else if r.toList.isEmpty = true then noRole else preDeny ++ r

set_option maxHeartbeats 400000 in
theorem reason_any (a : Bool) (r : ByteArray) (hr : r.size ≤ 1048576) (w : World) :
    Calls Try.prog 13 #[.agg #[.bool a, .string r]] w fun e w' => e = .returned (.string (reason a r)) ∧ w' = w.alloc (.cells #[.bool a, .string r] 32) := by
  cases a
  · cases hE : r.toList.isEmpty
    · have hv : reason false r = preDeny ++ r := by simp [reason, hE]
      have HV : Hid (reason false r = preDeny ++ r) := hv
      clear hv
      go_enter Try.func13, Try.ntmps13
      go_wp2
      go_ret
      exact ⟨by rw [HV.out]; rfl, rfl⟩
    · have hv : reason false r = noRole := by simp [reason, hE]
      have HV : Hid (reason false r = noRole) := hv
      clear hv
      go_enter Try.func13, Try.ntmps13
      go_wp2
      go_ret
      exact ⟨by rw [HV.out]; rfl, rfl⟩
  · have hv : reason true r = preAllow ++ r := by simp [reason]
    have HV : Hid (reason true r = preAllow ++ r) := hv
    clear hv
    go_enter Try.func13, Try.ntmps13
    go_wp2
    go_ret
    exact ⟨by rw [HV.out]; rfl, rfl⟩

/-- zzBytes_FnReasonInjective: the lengths fit. -/
theorem bytes12_yes (a0 a2 : Bool) (a1 a3 : ByteArray) (h : a1.size + a3.size ≤ 1048576) (w : World) :
    Calls Try.prog 12 #[.bool a0, .string a1, .bool a2, .string a3] w fun e w' => e = .returned (.bool true) ∧ w' = w := by
  have h1 : ¬ (1048576 : Int) < (a1.size : Int) := by omega
  have h3 : ¬ (1048576 : Int) < (a3.size : Int) := by omega
  have h4 : ¬ (1048576 : Int) < (a1.size : Int) + (a3.size : Int) := by omega
  go_enter Try.func12, Try.ntmps12
  go_wp2
  go_ret
  exact ⟨rfl, rfl⟩

/-- zzBytes_FnReasonInjective: they do not. -/
theorem bytes12_no (a0 a2 : Bool) (a1 a3 : ByteArray) (w1 : a1.size ≤ maxLen) (w3 : a3.size ≤ maxLen) (h : ¬ a1.size + a3.size ≤ 1048576) (w : World) :
    Calls Try.prog 12 #[.bool a0, .string a1, .bool a2, .string a3] w fun e w' => e = .returned (.bool false) ∧ w' = w := by
  unfold maxLen at w1 w3
  by_cases h1 : (1048576 : Int) < (a1.size : Int)
  · go_enter Try.func12, Try.ntmps12
    go_wp2
    go_ret
    exact ⟨rfl, rfl⟩
  · by_cases h3 : (1048576 : Int) < (a3.size : Int)
    · go_enter Try.func12, Try.ntmps12
      go_wp2
      go_ret
      exact ⟨rfl, rfl⟩
    · have h4 : (1048576 : Int) < (a1.size : Int) + (a3.size : Int) := by omega
      go_enter Try.func12, Try.ntmps12
      go_wp2
      go_ret
      exact ⟨rfl, rfl⟩

/-- zzBytes_FnReasonReadsBack: the length fits. -/
theorem bytes14_yes (a0 : Bool) (a1 : ByteArray) (h : a1.size ≤ 1048576) (w : World) :
    Calls Try.prog 14 #[.bool a0, .string a1] w fun e w' => e = .returned (.bool true) ∧ w' = w := by
  have h1 : ¬ (1048576 : Int) < (a1.size : Int) := by omega
  go_enter Try.func14, Try.ntmps14
  go_wp2
  go_ret
  exact ⟨rfl, rfl⟩

theorem bytes14_no (a0 : Bool) (a1 : ByteArray) (h : ¬ a1.size ≤ 1048576) (w : World) :
    Calls Try.prog 14 #[.bool a0, .string a1] w fun e w' => e = .returned (.bool false) ∧ w' = w := by
  have h1 : (1048576 : Int) < (a1.size : Int) := by omega
  go_enter Try.func14, Try.ntmps14
  go_wp2
  go_ret
  exact ⟨rfl, rfl⟩

/-! ### THE PLAIN LAW -/
theorem toList_append' (a b : ByteArray) : (a ++ b).toList = a.toList ++ b.toList := by
  simp [ByteArray.toList_eq, ByteArray.data_append]

theorem reason_toList (a : Bool) (r : ByteArray) : (reason a r).toList = if a = true then preAllow.toList ++ r.toList else if r.toList.isEmpty = true then noRole.toList else preDeny.toList ++ r.toList := by
  unfold reason
  split
  · exact toList_append' _ _
  · split
    · rfl
    · exact toList_append' _ _

theorem preAllow_list : preAllow.toList = [97, 108, 108, 111, 119, 101, 100, 32, 98, 121, 32, 114, 111, 108, 101, 32] := by rw [ByteArray.toList_eq]; rfl
theorem preDeny_list : preDeny.toList = [100, 101, 110, 105, 101, 100, 32, 98, 121, 32, 114, 111, 108, 101, 32] := by rw [ByteArray.toList_eq]; rfl
theorem noRole_list : noRole.toList = [100, 101, 110, 105, 101, 100, 58, 32, 110, 111, 32, 114, 111, 108, 101, 32, 97, 108, 108, 111, 119, 115, 32, 105, 116] := by rw [ByteArray.toList_eq]; rfl

/-- Two reasons are the same just if the two decisions are. -/
theorem reason_inj (a b : Bool) (r s : ByteArray) : ((reason a r).toList == (reason b s).toList) = (a == b && r.toList == s.toList) := by
  rw [reason_toList, reason_toList, preAllow_list, preDeny_list, noRole_list]
  cases a <;> cases b
  · by_cases h1 : r.toList.isEmpty = true <;> by_cases h2 : s.toList.isEmpty = true
    · have e1 : r.toList = [] := by simpa using h1
      have e2 : s.toList = [] := by simpa using h2
      simp [e1, e2]
    · have e1 : r.toList = [] := by simpa using h1
      rw [if_neg (by simp), if_pos h1, if_neg (by simp), if_neg h2, e1]
      have h2' : ¬ s.toList = [] := by simpa using h2
      simp
      intro e
      exact h2' e
    · have e2 : s.toList = [] := by simpa using h2
      rw [if_neg (by simp), if_neg h1, if_neg (by simp), if_pos h2, e2]
      have h1' : ¬ r.toList = [] := by simpa using h1
      simp [h1']
    · rw [if_neg (by simp), if_neg h1, if_neg (by simp), if_neg h2]
      simp
  · by_cases h1 : r.toList.isEmpty = true <;> simp [h1]
  · by_cases h2 : s.toList.isEmpty = true <;> simp [h2]
  · simp

end Go.Proofs.Qxb6000568a
