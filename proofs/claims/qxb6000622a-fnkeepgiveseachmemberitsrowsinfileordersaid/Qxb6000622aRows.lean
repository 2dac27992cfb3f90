/-
  No cell of these rows narrows 'for every input' (looked for: loops, veiled, ifaces, maps, wideKeys, modest, calm, conditions, laid).
  DERIVED. THE GIVEN ROWS OF THIS SEAT. 7 by the template 'for every input the law returns true; each argument reads behind the call as it read before'; 0 by the template 'total and deterministic' (their statements: Qxb6000622aTotals.lean).
  GIVEN WITH THE SEED: the statements are not yours to turn. If you find one false, say at which input.
  Laid BY PROGRAM, IN A SANDBOX (cutbox-rows.mjs): the forced cells as the released guide's own fill.sh prints them over the translation 7e10e0b7239e04eb… (all of the seat's roots in one cut). By AI agents, Wed Nov 11 2026. No macro, syntax, notation, axiom, sorry.
-/
import Derived.Test.Qxb6000622aChecked
import GoSem.Claim
import GoSem.ClaimJoined
import GoSem.ClaimMapViews
import Derived.JoinedTies
import Derived.KernelRfl
namespace Go.Proofs.Qxb6000622a
/- THE CELL 'sum', in the pinned program and in every row, IS THE sha256 OF THE DUMP (.gsa) THAT Qxb6000622aProg.lean LOADS. Nothing in Lean hashes anything: it is a label: what it is worth is what the hold of that sum in a sandbox is worth. -/
noncomputable def Try.pinned : Pinned := { name := "qxb6000622a", sum := "7e10e0b7239e04ebc5b3ca23578883eeef74a8416fc451bdb1e503673eb06e39", checked := Try.checked }
namespace Rows
def none {H : Type} : Left H := { results := [], args := [] }

/-- 'zzlaws_pkg_records_b1.FnBeforeKeepsExactlyEarlierRowsInOrder': WHATEVER THE INPUT: true; the input reads as it did. -/
def fnBeforeKeepsExactlyEarlierRowsInOrderSpec : ChangeSpec := { name := "fnBeforeKeepsExactlyEarlierRowsInOrder", fn := fun _ => fun
  | [d1, d2, d3] => { results := [.lit (.bool true)], args := [d1, d2, d3] }
  | _ => none }
def fnBeforeKeepsExactlyEarlierRowsInOrderRow : OpenClaim := { program := "qxb6000622a", sum := "7e10e0b7239e04ebc5b3ca23578883eeef74a8416fc451bdb1e503673eb06e39", func := "example.com/vestwright/vestwright/zzlaws_pkg_records_b1.FnBeforeKeepsExactlyEarlierRowsInOrder", spec := "fnBeforeKeepsExactlyEarlierRowsInOrder", apart := false }
def FnBeforeKeepsExactlyEarlierRowsInOrderSaid : Prop := fnBeforeKeepsExactlyEarlierRowsInOrderRow.holds Try.pinned (OpenSpec.ofChange fnBeforeKeepsExactlyEarlierRowsInOrderSpec)

/-- ITS FALSE NEIGHBOUR: 'it returns false'. Refute it at one input. -/
def fnBeforeKeepsExactlyEarlierRowsInOrderWrong : ChangeSpec := { name := "fnBeforeKeepsExactlyEarlierRowsInOrder", fn := fun _ => fun
  | [d1, d2, d3] => { results := [.lit (.bool false)], args := [d1, d2, d3] }
  | _ => none }
def FnBeforeKeepsExactlyEarlierRowsInOrderWrongFalsely : Prop := fnBeforeKeepsExactlyEarlierRowsInOrderRow.holds Try.pinned (OpenSpec.ofChange fnBeforeKeepsExactlyEarlierRowsInOrderWrong)

/-- 'zzlaws_pkg_records_b1.FnBeforeComposesAsTheEarlierMonth': WHATEVER THE INPUT: true; the input reads as it did. -/
def fnBeforeComposesAsTheEarlierMonthSpec : ChangeSpec := { name := "fnBeforeComposesAsTheEarlierMonth", fn := fun _ => fun
  | [d1, d2, d3, d4] => { results := [.lit (.bool true)], args := [d1, d2, d3, d4] }
  | _ => none }
def fnBeforeComposesAsTheEarlierMonthRow : OpenClaim := { program := "qxb6000622a", sum := "7e10e0b7239e04ebc5b3ca23578883eeef74a8416fc451bdb1e503673eb06e39", func := "example.com/vestwright/vestwright/zzlaws_pkg_records_b1.FnBeforeComposesAsTheEarlierMonth", spec := "fnBeforeComposesAsTheEarlierMonth", apart := false }
def FnBeforeComposesAsTheEarlierMonthSaid : Prop := fnBeforeComposesAsTheEarlierMonthRow.holds Try.pinned (OpenSpec.ofChange fnBeforeComposesAsTheEarlierMonthSpec)

/-- ITS FALSE NEIGHBOUR: 'it returns false'. Refute it at one input. -/
def fnBeforeComposesAsTheEarlierMonthWrong : ChangeSpec := { name := "fnBeforeComposesAsTheEarlierMonth", fn := fun _ => fun
  | [d1, d2, d3, d4] => { results := [.lit (.bool false)], args := [d1, d2, d3, d4] }
  | _ => none }
def FnBeforeComposesAsTheEarlierMonthWrongFalsely : Prop := fnBeforeComposesAsTheEarlierMonthRow.holds Try.pinned (OpenSpec.ofChange fnBeforeComposesAsTheEarlierMonthWrong)

/-- 'zzlaws_pkg_records_b1.FnBeforeSharesRowsOnlyWhenAllAreEarlier': WHATEVER THE INPUT: true; the input reads as it did. -/
def fnBeforeSharesRowsOnlyWhenAllAreEarlierSpec : ChangeSpec := { name := "fnBeforeSharesRowsOnlyWhenAllAreEarlier", fn := fun _ => fun
  | [d1, d2, d3] => { results := [.lit (.bool true)], args := [d1, d2, d3] }
  | _ => none }
def fnBeforeSharesRowsOnlyWhenAllAreEarlierRow : OpenClaim := { program := "qxb6000622a", sum := "7e10e0b7239e04ebc5b3ca23578883eeef74a8416fc451bdb1e503673eb06e39", func := "example.com/vestwright/vestwright/zzlaws_pkg_records_b1.FnBeforeSharesRowsOnlyWhenAllAreEarlier", spec := "fnBeforeSharesRowsOnlyWhenAllAreEarlier", apart := false }
def FnBeforeSharesRowsOnlyWhenAllAreEarlierSaid : Prop := fnBeforeSharesRowsOnlyWhenAllAreEarlierRow.holds Try.pinned (OpenSpec.ofChange fnBeforeSharesRowsOnlyWhenAllAreEarlierSpec)

/-- ITS FALSE NEIGHBOUR: 'it returns false'. Refute it at one input. -/
def fnBeforeSharesRowsOnlyWhenAllAreEarlierWrong : ChangeSpec := { name := "fnBeforeSharesRowsOnlyWhenAllAreEarlier", fn := fun _ => fun
  | [d1, d2, d3] => { results := [.lit (.bool false)], args := [d1, d2, d3] }
  | _ => none }
def FnBeforeSharesRowsOnlyWhenAllAreEarlierWrongFalsely : Prop := fnBeforeSharesRowsOnlyWhenAllAreEarlierRow.holds Try.pinned (OpenSpec.ofChange fnBeforeSharesRowsOnlyWhenAllAreEarlierWrong)

/-- 'zzlaws_pkg_records_b1.FnKeepGivesEachMemberItsRowsInFileOrder': WHATEVER THE INPUT: true; the input reads as it did. -/
def fnKeepGivesEachMemberItsRowsInFileOrderSpec : ChangeSpec := { name := "fnKeepGivesEachMemberItsRowsInFileOrder", fn := fun _ => fun
  | [d1, d2, d3, d4] => { results := [.lit (.bool true)], args := [d1, d2, d3, d4] }
  | _ => none }
def fnKeepGivesEachMemberItsRowsInFileOrderRow : OpenClaim := { program := "qxb6000622a", sum := "7e10e0b7239e04ebc5b3ca23578883eeef74a8416fc451bdb1e503673eb06e39", func := "example.com/vestwright/vestwright/zzlaws_pkg_records_b1.FnKeepGivesEachMemberItsRowsInFileOrder", spec := "fnKeepGivesEachMemberItsRowsInFileOrder", apart := false }
def FnKeepGivesEachMemberItsRowsInFileOrderSaid : Prop := fnKeepGivesEachMemberItsRowsInFileOrderRow.holds Try.pinned (OpenSpec.ofChange fnKeepGivesEachMemberItsRowsInFileOrderSpec)

/-- ITS FALSE NEIGHBOUR: 'it returns false'. Refute it at one input. -/
def fnKeepGivesEachMemberItsRowsInFileOrderWrong : ChangeSpec := { name := "fnKeepGivesEachMemberItsRowsInFileOrder", fn := fun _ => fun
  | [d1, d2, d3, d4] => { results := [.lit (.bool false)], args := [d1, d2, d3, d4] }
  | _ => none }
def FnKeepGivesEachMemberItsRowsInFileOrderWrongFalsely : Prop := fnKeepGivesEachMemberItsRowsInFileOrderRow.holds Try.pinned (OpenSpec.ofChange fnKeepGivesEachMemberItsRowsInFileOrderWrong)

/-- 'zzlaws_pkg_records_b1.FnKeepPlacesMembersInOrderOfFirstRun': WHATEVER THE INPUT: true; the input reads as it did. -/
def fnKeepPlacesMembersInOrderOfFirstRunSpec : ChangeSpec := { name := "fnKeepPlacesMembersInOrderOfFirstRun", fn := fun _ => fun
  | [d1, d2, d3, d4] => { results := [.lit (.bool true)], args := [d1, d2, d3, d4] }
  | _ => none }
def fnKeepPlacesMembersInOrderOfFirstRunRow : OpenClaim := { program := "qxb6000622a", sum := "7e10e0b7239e04ebc5b3ca23578883eeef74a8416fc451bdb1e503673eb06e39", func := "example.com/vestwright/vestwright/zzlaws_pkg_records_b1.FnKeepPlacesMembersInOrderOfFirstRun", spec := "fnKeepPlacesMembersInOrderOfFirstRun", apart := false }
def FnKeepPlacesMembersInOrderOfFirstRunSaid : Prop := fnKeepPlacesMembersInOrderOfFirstRunRow.holds Try.pinned (OpenSpec.ofChange fnKeepPlacesMembersInOrderOfFirstRunSpec)

/-- ITS FALSE NEIGHBOUR: 'it returns false'. Refute it at one input. -/
def fnKeepPlacesMembersInOrderOfFirstRunWrong : ChangeSpec := { name := "fnKeepPlacesMembersInOrderOfFirstRun", fn := fun _ => fun
  | [d1, d2, d3, d4] => { results := [.lit (.bool false)], args := [d1, d2, d3, d4] }
  | _ => none }
def FnKeepPlacesMembersInOrderOfFirstRunWrongFalsely : Prop := fnKeepPlacesMembersInOrderOfFirstRunRow.holds Try.pinned (OpenSpec.ofChange fnKeepPlacesMembersInOrderOfFirstRunWrong)

/-- 'zzlaws_pkg_records_b1.FnRecordsEndIsLastBalancedLineBreak': WHATEVER THE INPUT: true; the input reads as it did. -/
def fnRecordsEndIsLastBalancedLineBreakSpec : ChangeSpec := { name := "fnRecordsEndIsLastBalancedLineBreak", fn := fun _ => fun
  | [d] => { results := [.lit (.bool true)], args := [d] }
  | _ => none }
def fnRecordsEndIsLastBalancedLineBreakRow : OpenClaim := { program := "qxb6000622a", sum := "7e10e0b7239e04ebc5b3ca23578883eeef74a8416fc451bdb1e503673eb06e39", func := "example.com/vestwright/vestwright/zzlaws_pkg_records_b1.FnRecordsEndIsLastBalancedLineBreak", spec := "fnRecordsEndIsLastBalancedLineBreak", inPlace := ["internal/bytealg.Count", "internal/bytealg.IndexByte", "internal/bytealg.Index"], named := ["internal/bytealg.MaxLen"], apart := false }
def FnRecordsEndIsLastBalancedLineBreakSaid : Prop := fnRecordsEndIsLastBalancedLineBreakRow.holds Try.pinned (OpenSpec.ofChange fnRecordsEndIsLastBalancedLineBreakSpec)

/-- ITS FALSE NEIGHBOUR: 'it returns false'. Refute it at one input. -/
def fnRecordsEndIsLastBalancedLineBreakWrong : ChangeSpec := { name := "fnRecordsEndIsLastBalancedLineBreak", fn := fun _ => fun
  | [d] => { results := [.lit (.bool false)], args := [d] }
  | _ => none }
def FnRecordsEndIsLastBalancedLineBreakWrongFalsely : Prop := fnRecordsEndIsLastBalancedLineBreakRow.holds Try.pinned (OpenSpec.ofChange fnRecordsEndIsLastBalancedLineBreakWrong)

/-- 'zzlaws_pkg_records_b1.FnRecordsEndCutIsStableAndGrows': WHATEVER THE INPUT: true; the input reads as it did. -/
def fnRecordsEndCutIsStableAndGrowsSpec : ChangeSpec := { name := "fnRecordsEndCutIsStableAndGrows", fn := fun _ => fun
  | [d1, d2] => { results := [.lit (.bool true)], args := [d1, d2] }
  | _ => none }
def fnRecordsEndCutIsStableAndGrowsRow : OpenClaim := { program := "qxb6000622a", sum := "7e10e0b7239e04ebc5b3ca23578883eeef74a8416fc451bdb1e503673eb06e39", func := "example.com/vestwright/vestwright/zzlaws_pkg_records_b1.FnRecordsEndCutIsStableAndGrows", spec := "fnRecordsEndCutIsStableAndGrows", inPlace := ["internal/bytealg.Count", "internal/bytealg.IndexByte", "internal/bytealg.Index"], named := ["internal/bytealg.MaxLen"], apart := false }
def FnRecordsEndCutIsStableAndGrowsSaid : Prop := fnRecordsEndCutIsStableAndGrowsRow.holds Try.pinned (OpenSpec.ofChange fnRecordsEndCutIsStableAndGrowsSpec)

/-- ITS FALSE NEIGHBOUR: 'it returns false'. Refute it at one input. -/
def fnRecordsEndCutIsStableAndGrowsWrong : ChangeSpec := { name := "fnRecordsEndCutIsStableAndGrows", fn := fun _ => fun
  | [d1, d2] => { results := [.lit (.bool false)], args := [d1, d2] }
  | _ => none }
def FnRecordsEndCutIsStableAndGrowsWrongFalsely : Prop := fnRecordsEndCutIsStableAndGrowsRow.holds Try.pinned (OpenSpec.ofChange fnRecordsEndCutIsStableAndGrowsWrong)

end Rows
end Go.Proofs.Qxb6000622a
