/-
  The rows' closed facts, with the reach of a function reckoned by as many steps as it takes (the given definition first sums over every function of the program: the same list, at a great cost in memory).
-/
import Derived.Test.Qxb6000622aRows
import Derived.ProofKit
import Derived.JoinedOf
namespace Go.Proofs.Qxb6000622a
set_option linter.unusedVariables false

/-- 'closureVia', which says whether it came to its end. -/
def reachFin (P : Program) : Nat → List FuncId → List FuncId → Option (List FuncId)
  | _, [], seen => some seen.reverse
  | 0, _ :: _, _ => none
  | n + 1, f :: todo, seen => if seen.contains f then reachFin P n todo seen else reachFin P n ((P.funcs[f]?).elim [] P.leadsTo ++ todo) (f :: seen)

theorem reachFin_spec (P : Program) : ∀ (n : Nat) (todo seen r : List FuncId), reachFin P n todo seen = some r → ∀ m, n ≤ m → P.closureVia m todo seen = r
  | n, [], seen, r, h, m, hm => by
    cases n <;> simp [reachFin] at h <;> cases m <;> simp [Program.closureVia, h]
  | 0, _ :: _, seen, r, h, m, hm => by simp [reachFin] at h
  | n + 1, f :: todo, seen, r, h, m, hm => by
    obtain ⟨k, rfl⟩ : ∃ k, m = k + 1 := ⟨m - 1, by omega⟩
    unfold reachFin at h
    unfold Program.closureVia
    split at h
    · rename_i hc
      rw [if_pos hc]
      exact reachFin_spec P n _ _ r h k (by omega)
    · rename_i hc
      rw [if_neg hc]
      exact reachFin_spec P n _ _ r h k (by omega)

theorem sum_ge (l : List Nat) (h : ∀ x ∈ l, 1 ≤ x) : l.length ≤ l.sum := by
  induction l with
  | nil => simp
  | cons a r ih =>
    have h1 := h a (by simp)
    have h2 := ih (fun x hx => h x (by simp [hx]))
    simp
    omega

/-- The reach, by at most k steps where they suffice. -/
def reachFast (P : Program) (k : Nat) (f : FuncId) : List FuncId := (reachFin P k [f] []).getD (P.closure f)

theorem closure_fast (P : Program) (k : Nat) (hk : k ≤ P.funcs.size) (f : FuncId) : P.closure f = reachFast P k f := by
  unfold reachFast
  cases hr : reachFin P k [f] [] with
  | none => rfl
  | some r =>
    show P.closure f = r
    unfold Program.closure
    refine reachFin_spec P k _ _ r hr _ ?_
    have := sum_ge (P.funcs.toList.map fun g => (P.leadsTo g).length + 1) (fun x hx => by
      obtain ⟨g, _, rfl⟩ := List.mem_map.1 hx
      omega)
    simp at this
    omega

theorem inPlace_fast (P : Program) (k : Nat) (hk : k ≤ P.funcs.size) (f : FuncId) : P.inPlace f = (reachFast P k f).filterMap fun g => (P.funcs[g]?).bind fun fn => if fn.ours || fn.body.isNone || fn.name == "runtime.NumGoroutine" then some fn.name else none := by
  unfold Program.inPlace
  rw [closure_fast P k hk]

theorem unfollowed_fast (P : Program) (k : Nat) (hk : k ≤ P.funcs.size) (f : FuncId) : P.unfollowed f = (reachFast P k f).any fun g => (P.funcs[g]?).any fun fn => match fn.body with | some c => c.unfollowed | none => entryCalls fn := by
  unfold Program.unfollowed
  rw [closure_fast P k hk]
  rfl

theorem recurses_fast (P : Program) (k : Nat) (hk : k ≤ P.funcs.size) (f : FuncId) : P.recurses f = (P.unfollowed f || (reachFast P k f).any fun g => ((P.funcs[g]?).elim [] P.leadsTo).any fun h => (reachFast P k h).contains g) := by
  unfold Program.recurses
  rw [closure_fast P k hk]
  congr 2
  funext g
  congr 1
  funext h
  rw [closure_fast P k hk]

theorem varsNamed_fast (P : Program) (k : Nat) (hk : k ≤ P.funcs.size) (f : FuncId) : P.varsNamed f = ((((reachFast P k f).flatMap fun g => ((P.funcs[g]?).bind (·.body)).elim [] Code.globalsNamed).eraseDups).filterMap (fun g => (P.globals[g]?).map (·.name)) ++
   (reachFast P k f).filterMap fun g => (P.funcs[g]?).bind fun fn => if fn.body.isNone then entryReads.lookup fn.name else none).eraseDups := by
  unfold Program.varsNamed
  rw [closure_fast P k hk]

theorem enough : 60 ≤ Try.prog.funcs.size := of_decide_eq_true (by kernel_rfl)

theorem in3 : Try.prog.inPlace 3 = [] := by rw [inPlace_fast _ 60 enough]; kernel_rfl
theorem un3 : Try.prog.unfollowed 3 = false := by rw [unfollowed_fast _ 60 enough]; kernel_rfl
theorem re3 : Try.prog.recurses 3 = false := by rw [recurses_fast _ 60 enough, un3]; kernel_rfl
theorem va3 : Try.prog.varsNamed 3 = [] := by rw [varsNamed_fast _ 60 enough]; kernel_rfl

theorem in5 : Try.prog.inPlace 5 = [] := by rw [inPlace_fast _ 60 enough]; kernel_rfl
theorem un5 : Try.prog.unfollowed 5 = false := by rw [unfollowed_fast _ 60 enough]; kernel_rfl
theorem re5 : Try.prog.recurses 5 = false := by rw [recurses_fast _ 60 enough, un5]; kernel_rfl
theorem va5 : Try.prog.varsNamed 5 = [] := by rw [varsNamed_fast _ 60 enough]; kernel_rfl

/-- The signs of the program's head. -/
def headCodes : List Nat := [104, 97, 114, 110, 101, 115, 115, 32, 100, 57, 50, 57, 54, 49, 97, 52, 52, 52, 97, 55, 56, 55, 52, 48, 51, 102, 52, 97, 102, 54, 54, 101, 102, 48, 97, 97, 56, 101, 51, 54, 51, 97, 57, 102, 102, 48, 57, 101, 102, 102, 98, 53, 101, 49, 55, 52, 52, 97, 100, 52, 50, 53, 56, 100, 56, 54, 53, 53, 53, 50, 56, 50, 32, 99, 117, 116, 32, 97, 116, 32, 101, 120, 97, 109, 112, 108, 101, 46, 99, 111, 109, 47, 118, 101, 115, 116, 119, 114, 105, 103, 104, 116, 47, 118, 101, 115, 116, 119, 114, 105, 103, 104, 116, 47, 122, 122, 108, 97, 119, 115, 95, 112, 107, 103, 95, 114, 101, 99, 111, 114, 100, 115, 95, 98, 49, 46, 70, 110, 66, 101, 102, 111, 114, 101, 75, 101, 101, 112, 115, 69, 120, 97, 99, 116, 108, 121, 69, 97, 114, 108, 105, 101, 114, 82, 111, 119, 115, 73, 110, 79, 114, 100, 101, 114, 32, 101, 120, 97, 109, 112, 108, 101, 46, 99, 111, 109, 47, 118, 101, 115, 116, 119, 114, 105, 103, 104, 116, 47, 118, 101, 115, 116, 119, 114, 105, 103, 104, 116, 47, 122, 122, 108, 97, 119, 115, 95, 112, 107, 103, 95, 114, 101, 99, 111, 114, 100, 115, 95, 98, 49, 46, 70, 110, 66, 101, 102, 111, 114, 101, 67, 111, 109, 112, 111, 115, 101, 115, 65, 115, 84, 104, 101, 69, 97, 114, 108, 105, 101, 114, 77, 111, 110, 116, 104, 32, 101, 120, 97, 109, 112, 108, 101, 46, 99, 111, 109, 47, 118, 101, 115, 116, 119, 114, 105, 103, 104, 116, 47, 118, 101, 115, 116, 119, 114, 105, 103, 104, 116, 47, 122, 122, 108, 97, 119, 115, 95, 112, 107, 103, 95, 114, 101, 99, 111, 114, 100, 115, 95, 98, 49, 46, 70, 110, 66, 101, 102, 111, 114, 101, 83, 104, 97, 114, 101, 115, 82, 111, 119, 115, 79, 110, 108, 121, 87, 104, 101, 110, 65, 108, 108, 65, 114, 101, 69, 97, 114, 108, 105, 101, 114, 32, 101, 120, 97, 109, 112, 108, 101, 46, 99, 111, 109, 47, 118, 101, 115, 116, 119, 114, 105, 103, 104, 116, 47, 118, 101, 115, 116, 119, 114, 105, 103, 104, 116, 47, 122, 122, 108, 97, 119, 115, 95, 112, 107, 103, 95, 114, 101, 99, 111, 114, 100, 115, 95, 98, 49, 46, 70, 110, 75, 101, 101, 112, 71, 105, 118, 101, 115, 69, 97, 99, 104, 77, 101, 109, 98, 101, 114, 73, 116, 115, 82, 111, 119, 115, 73, 110, 70, 105, 108, 101, 79, 114, 100, 101, 114, 32, 101, 120, 97, 109, 112, 108, 101, 46, 99, 111, 109, 47, 118, 101, 115, 116, 119, 114, 105, 103, 104, 116, 47, 118, 101, 115, 116, 119, 114, 105, 103, 104, 116, 47, 122, 122, 108, 97, 119, 115, 95, 112, 107, 103, 95, 114, 101, 99, 111, 114, 100, 115, 95, 98, 49, 46, 70, 110, 75, 101, 101, 112, 80, 108, 97, 99, 101, 115, 77, 101, 109, 98, 101, 114, 115, 73, 110, 79, 114, 100, 101, 114, 79, 102, 70, 105, 114, 115, 116, 82, 117, 110, 32, 101, 120, 97, 109, 112, 108, 101, 46, 99, 111, 109, 47, 118, 101, 115, 116, 119, 114, 105, 103, 104, 116, 47, 118, 101, 115, 116, 119, 114, 105, 103, 104, 116, 47, 122, 122, 108, 97, 119, 115, 95, 112, 107, 103, 95, 114, 101, 99, 111, 114, 100, 115, 95, 98, 49, 46, 70, 110, 82, 101, 99, 111, 114, 100, 115, 69, 110, 100, 73, 115, 76, 97, 115, 116, 66, 97, 108, 97, 110, 99, 101, 100, 76, 105, 110, 101, 66, 114, 101, 97, 107, 32, 101, 120, 97, 109, 112, 108, 101, 46, 99, 111, 109, 47, 118, 101, 115, 116, 119, 114, 105, 103, 104, 116, 47, 118, 101, 115, 116, 119, 114, 105, 103, 104, 116, 47, 122, 122, 108, 97, 119, 115, 95, 112, 107, 103, 95, 114, 101, 99, 111, 114, 100, 115, 95, 98, 49, 46, 70, 110, 82, 101, 99, 111, 114, 100, 115, 69, 110, 100, 67, 117, 116, 73, 115, 83, 116, 97, 98, 108, 101, 65, 110, 100, 71, 114, 111, 119, 115]
theorem head_is : Try.prog.initOrder = String.ofList (headCodes.map Char.ofNat) := by kernel_rfl
theorem head_list : Try.prog.initOrder.toList = headCodes.map Char.ofNat := by rw [head_is, String.toList_ofList]
def restCodes : List Nat := headCodes.drop 77
theorem head_words : behindMainWord (wordsSigns (headCodes.map Char.ofNat)) = "cut".toList :: wordsSigns (restCodes.map Char.ofNat) := by kernel_rfl
theorem words_are : behindMainWord (wordsSigns Try.prog.initOrder.toList) = "cut".toList :: wordsSigns (restCodes.map Char.ofNat) := by rw [head_list, head_words]

theorem strip_cut (R : List (List Char)) : stripLifts liftWords ("cut".toList :: R) = ([], "cut".toList :: R) := by
  simp [liftWords, stripLifts]

theorem make_of {P : Program} {R : List (List Char)} (h : behindMainWord (wordsSigns P.initOrder.toList) = "cut".toList :: R) : P.make = some .cut := by
  unfold Program.make
  rw [h]
  simp

theorem final_of {P : Program} {R : List (List Char)} (h : behindMainWord (wordsSigns P.initOrder.toList) = "cut".toList :: R) : P.liftsFinal = false := by
  unfold Program.liftsFinal Program.headLifts
  rw [h, strip_cut]
  simp

theorem enter_of {P : Program} {R : List (List Char)} (h : behindMainWord (wordsSigns P.initOrder.toList) = "cut".toList :: R) (h1 : P.laysLater = false) (h2 : P.bearsReflect = false) (h3 : P.doorFits [] = true) : P.mayEnter = true := by
  unfold Program.mayEnter
  rw [h]
  simp only [strip_cut, h1, h2, h3]
  simp

theorem later_is : Try.prog.laysLater = false := by kernel_rfl
theorem refl_is : Try.prog.bearsReflect = false := by kernel_rfl
theorem door_is : Try.prog.doorFits [] = true := by kernel_rfl
theorem make_is : Try.prog.make = some .cut := make_of words_are
theorem final_is : Try.prog.liftsFinal = false := final_of words_are
theorem enter_is : Try.prog.mayEnter = true := enter_of words_are later_is refl_is door_is

theorem closed3 : joinedFacts Try.prog 3 Try.f3 Rows.fnBeforeKeepsExactlyEarlierRowsInOrderSpec Rows.fnBeforeKeepsExactlyEarlierRowsInOrderRow = true := by
  unfold joinedFacts
  rw [in3, un3, re3, va3, enter_is, final_is, make_is]
  kernel_rfl

theorem closed5 : joinedFacts Try.prog 5 Try.f5 Rows.fnBeforeSharesRowsOnlyWhenAllAreEarlierSpec Rows.fnBeforeSharesRowsOnlyWhenAllAreEarlierRow = true := by
  unfold joinedFacts
  rw [in5, un5, re5, va5, enter_is, final_is, make_is]
  kernel_rfl

end Go.Proofs.Qxb6000622a
