/-
  No cell of these rows narrows 'for every input' (looked for: loops, veiled, ifaces, maps, wideKeys, modest, calm, conditions, laid).
  DERIVED. THE GIVEN ROWS OF THIS SEAT. 4 by the template 'for every input the law returns true; each argument reads behind the call as it read before'; 0 by the template 'total and deterministic' (their statements: Qxb6000568aTotals.lean).
  GIVEN WITH THE SEED: the statements are not yours to turn. If you find one false, say at which input.
  Laid BY PROGRAM, IN A SANDBOX (cutbox-rows.mjs): the forced cells as the released guide's own fill.sh prints them over the translation 3f8356bc406b7593… (all of the seat's roots in one cut). By AI agents, Wed Nov 11 2026. No macro, syntax, notation, axiom, sorry.
-/
import Derived.Test.Qxb6000568aChecked
import GoSem.Claim
import GoSem.ClaimJoined
import GoSem.ClaimMapViews
import Derived.JoinedTies
import Derived.KernelRfl
namespace Go.Proofs.Qxb6000568a
/- THE CELL 'sum', in the pinned program and in every row, IS THE sha256 OF THE DUMP (.gsa) THAT Qxb6000568aProg.lean LOADS. Nothing in Lean hashes anything: it is a label: what it is worth is what the hold of that sum in a sandbox is worth. -/
noncomputable def Try.pinned : Pinned := { name := "qxb6000568a", sum := "3f8356bc406b75932665c052a2d569a4929fb1fc543331472219239cca820d17", checked := Try.checked }
namespace Rows
def none {H : Type} : Left H := { results := [], args := [] }

/-- 'zzlaws_root_b1.FnNameSetMembership': WHATEVER THE INPUT: true; the input reads as it did. -/
def fnNameSetMembershipSpec : ChangeSpec := { name := "fnNameSetMembership", fn := fun _ => fun
  | [d1, d2] => { results := [.lit (.bool true)], args := [d1, d2] }
  | _ => none }
def fnNameSetMembershipRow : OpenClaim := { program := "qxb6000568a", sum := "3f8356bc406b75932665c052a2d569a4929fb1fc543331472219239cca820d17", func := "example.com/mlinzi/mlinzi/zzlaws_root_b1.FnNameSetMembership", spec := "fnNameSetMembership", apart := false }
def FnNameSetMembershipSaid : Prop := fnNameSetMembershipRow.holds Try.pinned (OpenSpec.ofChange fnNameSetMembershipSpec)

/-- ITS FALSE NEIGHBOUR: 'it returns false'. Refute it at one input. -/
def fnNameSetMembershipWrong : ChangeSpec := { name := "fnNameSetMembership", fn := fun _ => fun
  | [d1, d2] => { results := [.lit (.bool false)], args := [d1, d2] }
  | _ => none }
def FnNameSetMembershipWrongFalsely : Prop := fnNameSetMembershipRow.holds Try.pinned (OpenSpec.ofChange fnNameSetMembershipWrong)

/-- 'zzlaws_root_b1.FnNameSetOrderAndRepeatFree': WHATEVER THE INPUT: true; the input reads as it did. -/
def fnNameSetOrderAndRepeatFreeSpec : ChangeSpec := { name := "fnNameSetOrderAndRepeatFree", fn := fun _ => fun
  | [d1, d2] => { results := [.lit (.bool true)], args := [d1, d2] }
  | _ => none }
def fnNameSetOrderAndRepeatFreeRow : OpenClaim := { program := "qxb6000568a", sum := "3f8356bc406b75932665c052a2d569a4929fb1fc543331472219239cca820d17", func := "example.com/mlinzi/mlinzi/zzlaws_root_b1.FnNameSetOrderAndRepeatFree", spec := "fnNameSetOrderAndRepeatFree", apart := false }
def FnNameSetOrderAndRepeatFreeSaid : Prop := fnNameSetOrderAndRepeatFreeRow.holds Try.pinned (OpenSpec.ofChange fnNameSetOrderAndRepeatFreeSpec)

/-- ITS FALSE NEIGHBOUR: 'it returns false'. Refute it at one input. -/
def fnNameSetOrderAndRepeatFreeWrong : ChangeSpec := { name := "fnNameSetOrderAndRepeatFree", fn := fun _ => fun
  | [d1, d2] => { results := [.lit (.bool false)], args := [d1, d2] }
  | _ => none }
def FnNameSetOrderAndRepeatFreeWrongFalsely : Prop := fnNameSetOrderAndRepeatFreeRow.holds Try.pinned (OpenSpec.ofChange fnNameSetOrderAndRepeatFreeWrong)

/-- 'zzlaws_root_b1.FnReasonInjective': WHATEVER THE INPUT: true; the input reads as it did. -/
def fnReasonInjectiveSpec : ChangeSpec := { name := "fnReasonInjective", fn := fun _ => fun
  | [d1, d2, d3, d4] => { results := [.lit (.bool true)], args := [d1, d2, d3, d4] }
  | _ => none }
def fnReasonInjectiveRow : OpenClaim := { program := "qxb6000568a", sum := "3f8356bc406b75932665c052a2d569a4929fb1fc543331472219239cca820d17", func := "example.com/mlinzi/mlinzi/zzlaws_root_b1.FnReasonInjective", spec := "fnReasonInjective", apart := false }
def FnReasonInjectiveSaid : Prop := fnReasonInjectiveRow.holds Try.pinned (OpenSpec.ofChange fnReasonInjectiveSpec)

/-- ITS FALSE NEIGHBOUR: 'it returns false'. Refute it at one input. -/
def fnReasonInjectiveWrong : ChangeSpec := { name := "fnReasonInjective", fn := fun _ => fun
  | [d1, d2, d3, d4] => { results := [.lit (.bool false)], args := [d1, d2, d3, d4] }
  | _ => none }
def FnReasonInjectiveWrongFalsely : Prop := fnReasonInjectiveRow.holds Try.pinned (OpenSpec.ofChange fnReasonInjectiveWrong)

/-- 'zzlaws_root_b1.FnReasonReadsBack': WHATEVER THE INPUT: true; the input reads as it did. -/
def fnReasonReadsBackSpec : ChangeSpec := { name := "fnReasonReadsBack", fn := fun _ => fun
  | [d1, d2] => { results := [.lit (.bool true)], args := [d1, d2] }
  | _ => none }
def fnReasonReadsBackRow : OpenClaim := { program := "qxb6000568a", sum := "3f8356bc406b75932665c052a2d569a4929fb1fc543331472219239cca820d17", func := "example.com/mlinzi/mlinzi/zzlaws_root_b1.FnReasonReadsBack", spec := "fnReasonReadsBack", apart := false }
def FnReasonReadsBackSaid : Prop := fnReasonReadsBackRow.holds Try.pinned (OpenSpec.ofChange fnReasonReadsBackSpec)

/-- ITS FALSE NEIGHBOUR: 'it returns false'. Refute it at one input. -/
def fnReasonReadsBackWrong : ChangeSpec := { name := "fnReasonReadsBack", fn := fun _ => fun
  | [d1, d2] => { results := [.lit (.bool false)], args := [d1, d2] }
  | _ => none }
def FnReasonReadsBackWrongFalsely : Prop := fnReasonReadsBackRow.holds Try.pinned (OpenSpec.ofChange fnReasonReadsBackWrong)

end Rows
end Go.Proofs.Qxb6000568a
