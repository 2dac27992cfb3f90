/-
  A proof of Rows.FnReasonReadsBackSaid. The frame (lifted, over) is the guide's template at this function's number and types; the walk is mine.
-/
import Derived.Test.Qxb6000568aRows
import Derived.WalkKit
import Derived.ProofKit
import Derived.OpenShut
import Derived.ShutString
import Derived.Test.Qxb6000568aReason
import Derived.Test.Qxb6000568aPrefix
namespace Go.Proofs.Qxb6000568a.fnReasonReadsBack
open Go.ChangeShapes Go.WideShapes Go.ChangeAt Go.RowKit
open Go.ChangeMaps (open_string shut_string)
set_option linter.unusedVariables false      -- a walk need not use every 'w<i>' (that an integer argument fits its kind)

theorem own : ownKnob Try.prog.godebug = none := by kernel_rfl

/-! ### THE WALK -/
theorem ret_true {b : Bool} (h : b = true) : Ending.returned (.bool b) = .returned (.bool true) := by rw [h]

theorem pre_append (p r : ByteArray) : isPre (p ++ r) p = true := by
  unfold isPre
  rw [toList_append']
  simp

theorem extract_append (p r : ByteArray) (n : Nat) (h : p.size = n) : ((p ++ r).extract n (p ++ r).size).toList = r.toList := by
  subst h
  rw [ByteArray.toList_eq, ByteArray.toList_eq, ByteArray.size_append]
  have e1 : p.data.size = p.size := rfl
  have e2 : r.data.size = r.size := rfl
  have h1 : List.drop p.size p.data.toList = [] := List.drop_eq_nil_of_le (by simp [e1])
  have h2 : List.take r.size r.data.toList = r.data.toList := List.take_of_length_le (by simp [e2])
  simp [h1, h2]

theorem pre_deny_allow (r : ByteArray) : isPre (preDeny ++ r) preAllow = false := by
  unfold isPre
  rw [toList_append', preDeny_list, preAllow_list]
  rfl

theorem pre_no_allow : isPre noRole preAllow = false := by
  unfold isPre
  rw [noRole_list, preAllow_list]
  rfl

theorem pre_no_deny : isPre noRole preDeny = false := by
  unfold isPre
  rw [noRole_list, preDeny_list]
  rfl

theorem reason_size (a : Bool) (r : ByteArray) (h : r.size ≤ 1048576) : (reason a r).size ≤ 1048600 := by
  have e1 : preAllow.size = 16 := rfl
  have e2 : preDeny.size = 15 := rfl
  have e3 : noRole.size = 25 := rfl
  unfold reason
  split
  · rw [ByteArray.size_append]; omega
  · split
    · omega
    · rw [ByteArray.size_append]; omega

theorem grown_drewN {W w' : World} (h : Grown W w') (n : Nat) : Grown W (w'.drewN n) := h

set_option maxHeartbeats 2000000 in
theorem walk (a0 : Bool) (a1 : ByteArray) (w1 : a1.size ≤ maxLen) (w : World) :
    Calls Try.prog 6 #[.bool a0, .string a1] w fun e w' => e = .returned (.bool true) ∧ Grown w w' := by
  unfold maxLen at w1
  by_cases hB : a1.size ≤ 1048576
  · have hrs := reason_size a0 a1 hB
    cases a0
    · cases hE : a1.toList.isEmpty
      · obtain ⟨R, hR⟩ : ∃ R, R = reason false a1 := ⟨_, rfl⟩
        have hR2 : R = preDeny ++ a1 := by rw [hR]; simp [reason, hE]
        have hp1 : isPre R ⟨#[97, 108, 108, 111, 119, 101, 100, 32, 98, 121, 32, 114, 111, 108, 101, 32]⟩ = false := by rw [hR2]; exact pre_deny_allow _
        have hp2 : isPre R ⟨#[100, 101, 110, 105, 101, 100, 32, 98, 121, 32, 114, 111, 108, 101, 32]⟩ = true := by rw [hR2]; exact pre_append _ _
        have hx : (R.extract 15 R.size).toList = a1.toList := by rw [hR2, extract_append preDeny a1 15 rfl]
        have HX : Hid (((R.extract 15 R.size).toList == a1.toList) = true) := by rw [hx]; exact beq_self_eq_true _
        have hx2 : (R.extract 15 R.size).toList.isEmpty = false := by rw [hx]; exact hE
        have hz : 15 ≤ R.size := by rw [hR2, ByteArray.size_append]; have e1 : preDeny.size = 15 := rfl; omega
        rw [← hR] at hrs
        have HR : Hid (R = reason false a1) := hR
        clear hR hR2 hx
        go_enter Try.func6, Try.ntmps6
        go_wp2_with (first | (go_at_call 14; refine (bytes14_yes _ _ hB _).mono ?_; rintro e w' ⟨rfl, rfl⟩) | (go_at_call 13; refine (reason_any _ _ hB _).mono ?_; rintro e w' ⟨rfl, rfl⟩; rw [← HR.out]) | (go_at_call 15; refine (hasPrefix_any _ _ (by unfold maxLen; omega) (by decide) _).mono ?_; rintro e w' ⟨rfl, n, rfl⟩))
        go_ret
        exact ⟨ret_true (b := ((R.extract 15 R.size).toList == a1.toList)) HX.out, by repeat (first | exact Grown.refl _ | apply Grown.drew | apply grown_drewN | apply Grown.alloc)⟩
      · obtain ⟨R, hR⟩ : ∃ R, R = reason false a1 := ⟨_, rfl⟩
        have hR2 : R = noRole := by rw [hR]; simp [reason, hE]
        have hp1 : isPre R ⟨#[97, 108, 108, 111, 119, 101, 100, 32, 98, 121, 32, 114, 111, 108, 101, 32]⟩ = false := by rw [hR2]; exact pre_no_allow
        have hp2 : isPre R ⟨#[100, 101, 110, 105, 101, 100, 32, 98, 121, 32, 114, 111, 108, 101, 32]⟩ = false := by rw [hR2]; exact pre_no_deny
        have hx : R.toList = [100, 101, 110, 105, 101, 100, 58, 32, 110, 111, 32, 114, 111, 108, 101, 32, 97, 108, 108, 111, 119, 115, 32, 105, 116] := by rw [hR2]; exact noRole_list
        have hx3 : a1.toList = [] := by simpa using hE
        rw [← hR] at hrs
        have HR : Hid (R = reason false a1) := hR
        clear hR hR2
        go_enter Try.func6, Try.ntmps6
        go_wp2_with (first | (go_at_call 14; refine (bytes14_yes _ _ hB _).mono ?_; rintro e w' ⟨rfl, rfl⟩) | (go_at_call 13; refine (reason_any _ _ hB _).mono ?_; rintro e w' ⟨rfl, rfl⟩; rw [← HR.out]) | (go_at_call 15; refine (hasPrefix_any _ _ (by unfold maxLen; omega) (by decide) _).mono ?_; rintro e w' ⟨rfl, n, rfl⟩))
        go_ret
        exact ⟨rfl, by repeat (first | exact Grown.refl _ | apply Grown.drew | apply grown_drewN | apply Grown.alloc)⟩
    · obtain ⟨R, hR⟩ : ∃ R, R = reason true a1 := ⟨_, rfl⟩
      have hR2 : R = preAllow ++ a1 := by rw [hR]; simp [reason]
      have hp1 : isPre R ⟨#[97, 108, 108, 111, 119, 101, 100, 32, 98, 121, 32, 114, 111, 108, 101, 32]⟩ = true := by rw [hR2]; exact pre_append _ _
      have HX : Hid (((R.extract 16 R.size).toList == a1.toList) = true) := by
        rw [hR2, extract_append preAllow a1 16 rfl]; exact beq_self_eq_true _
      have hz : 16 ≤ R.size := by rw [hR2, ByteArray.size_append]; have e1 : preAllow.size = 16 := rfl; omega
      rw [← hR] at hrs
      have HR : Hid (R = reason true a1) := hR
      clear hR hR2
      go_enter Try.func6, Try.ntmps6
      go_wp2_with (first | (go_at_call 14; refine (bytes14_yes _ _ hB _).mono ?_; rintro e w' ⟨rfl, rfl⟩) | (go_at_call 13; refine (reason_any _ _ hB _).mono ?_; rintro e w' ⟨rfl, rfl⟩; rw [← HR.out]) | (go_at_call 15; refine (hasPrefix_any _ _ (by unfold maxLen; omega) (by decide) _).mono ?_; rintro e w' ⟨rfl, n, rfl⟩))
      go_ret
      exact ⟨ret_true (b := ((R.extract 16 R.size).toList == a1.toList)) HX.out, by repeat (first | exact Grown.refl _ | apply Grown.drew | apply grown_drewN | apply Grown.alloc)⟩
  · go_enter Try.func6, Try.ntmps6
    go_wp2_with (go_at_call 14; refine (bytes14_no _ _ hB _).mono ?_; rintro e w' ⟨rfl, rfl⟩)
    go_ret
    exact ⟨rfl, by repeat (first | exact Grown.refl _ | apply Grown.drew | apply Grown.alloc)⟩

/-! ### THE ROW's STEP: WRITTEN OUT: LEAVE IT -/
set_option maxRecDepth 100000 in
theorem lifted (os : Os) (started : os.Started) (H : Type) (enc : TypeId × Value → H) :
    ReturnsInHanded {} Try.checked os 6 .any (Rows.fnReasonReadsBackSpec.pre6 enc Try.prog Try.f6 Rows.fnReasonReadsBackRow.domain false) (Rows.fnReasonReadsBackSpec.post enc Try.prog Try.f6 false true false false) := by
  refine returnsInHanded_of_change (C := Try.checked) own started (by kernel_rfl) Try.func6
    (ChangeSpec.witness6 (enc := enc) (C := Try.checked) false ⟨#[], #[.bool false, .string ByteArray.empty], []⟩ 8 (by kernel_rfl) (by kernel_rfl) (by kernel_rfl) (by kernel_rfl)) ?_
  intro W base args ds gs before hval0 hW hcnd _
  have hval : ∀ (j : Nat) t v, Try.f6.params[j]? = some t → args[j]? = some v → Value.okWide Try.prog W .any base t v := hval0
  have hW' := hW
  obtain ⟨p, q, hA0, hV, rfl, hfz, hnd⟩ := hW
  have hA : DataW.TrodAll enc Try.prog W 0 (fun _ => true) true Try.f6.params.toList args.toList ds p := hA0
  rw [Try.params6] at hA hval
  obtain ⟨v0, vs0, d0, ds0, p0, q0, hargs, rfl, rfl, h0, r0⟩ := trodAll_cons hA
  obtain ⟨v1, vs1, d1, ds1, p1, q1, rfl, rfl, rfl, h1, r1⟩ := trodAll_cons r0
  obtain ⟨rfl, rfl, rfl⟩ := trodAll_nil r1
  obtain rfl : args = #[v0, v1] := by cases args; simp_all
  obtain ⟨rfl, rfl⟩ := trodVars_none hV
  obtain ⟨a0, rfl, rfl, rfl⟩ := open_bool Try.underlying4 (hval 0 4 v0 rfl rfl) h0
  obtain ⟨a1, rfl, rfl, rfl, w1⟩ := open_string Try.underlying9 (hval 1 9 v1 rfl rfl) h1
  clear hA0 hval0
  simp only [List.append_nil] at hW'
  refine (walk a0 a1 w1 W).mono fun e W' ⟨he, hg⟩ => ?_
  subst he
  exact ⟨_, rfl, post_of_same (pa := []) (pv := []) hW' (fun _ _ _ => (trodAll_cons_mk (shut_bool Try.underlying4 _) trodAll_mk0)) (fun sp _ => (trodAll_cons_mk (shut_bool Try.underlying4 _) (trodAll_cons_mk (shut_string Try.underlying9 w1) trodAll_mk0))) (fun _ _ => rfl) rfl
    (hg.frame _) hg.2.1 (ok_one (by kernel_rfl) rfl (okWide_bool_mk Try.underlying4 _))⟩

theorem over : Rows.fnReasonReadsBackRow.holds Try.pinned (OpenSpec.ofChange Rows.fnReasonReadsBackSpec) :=
  OpenClaim.holds_of_wide 6 Try.f6 rfl rfl rfl rfl rfl rfl rfl ⟨rfl, rfl, rfl, rfl, rfl⟩ rfl rfl rfl rfl rfl (by kernel_rfl) Try.func6 (by kernel_rfl)
    (of_decide_eq_true (by kernel_rfl)) (by unfold Func.isWrapper; first | (rw [if_pos (by decide +kernel)]; kernel_rfl) | (rw [if_neg (by decide +kernel)]; exact ⟨rfl, rfl⟩))
    (fun os started H enc _ => lifted os started H enc)

/-- ████ THE STATEMENT ████ -/
theorem proved : Rows.FnReasonReadsBackSaid :=
  over
end Go.Proofs.Qxb6000568a.fnReasonReadsBack
