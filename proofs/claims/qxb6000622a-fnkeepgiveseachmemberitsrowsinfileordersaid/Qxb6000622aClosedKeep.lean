/-
  The closed facts of the rows 6 and 7.
-/
import Derived.Test.Qxb6000622aClosed
namespace Go.Proofs.Qxb6000622a
set_option linter.unusedVariables false

theorem in7 : Try.prog.inPlace 7 = [] := by rw [inPlace_fast _ 60 enough]; kernel_rfl
theorem un7 : Try.prog.unfollowed 7 = false := by rw [unfollowed_fast _ 60 enough]; kernel_rfl
theorem re7 : Try.prog.recurses 7 = false := by rw [recurses_fast _ 60 enough, un7]; kernel_rfl
theorem va7 : Try.prog.varsNamed 7 = [] := by rw [varsNamed_fast _ 60 enough]; kernel_rfl
theorem in6 : Try.prog.inPlace 6 = [] := by rw [inPlace_fast _ 60 enough]; kernel_rfl
theorem un6 : Try.prog.unfollowed 6 = false := by rw [unfollowed_fast _ 60 enough]; kernel_rfl
theorem re6 : Try.prog.recurses 6 = false := by rw [recurses_fast _ 60 enough, un6]; kernel_rfl
theorem va6 : Try.prog.varsNamed 6 = [] := by rw [varsNamed_fast _ 60 enough]; kernel_rfl

theorem closed7 : joinedFacts Try.prog 7 Try.f7 Rows.fnKeepPlacesMembersInOrderOfFirstRunSpec Rows.fnKeepPlacesMembersInOrderOfFirstRunRow = true := by
  unfold joinedFacts
  rw [in7, un7, re7, va7, enter_is, final_is, make_is]
  kernel_rfl

theorem closed6 : joinedFacts Try.prog 6 Try.f6 Rows.fnKeepGivesEachMemberItsRowsInFileOrderSpec Rows.fnKeepGivesEachMemberItsRowsInFileOrderRow = true := by
  unfold joinedFacts
  rw [in6, un6, re6, va6, enter_is, final_is, make_is]
  kernel_rfl

end Go.Proofs.Qxb6000622a
