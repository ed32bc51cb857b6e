/-
  Proved: the card of the law n011_179.FnLowerAssignmentOperatorRefusesNonTargets: it returns true for every input of its parameters; the package-level variables that its row lists start as the program's text lays them. No other condition.
  The frame of this text follows the kit's toy of a law over a package-level table; the walk lies in YtmefnjmohehdbaaDoorRRRefWalk.
-/
import Derived.Test.YtmefnjmohehdbaaDoorRRRefuFrame
import Derived.Test.YtmefnjmohehdbaaDoorRRRefWalk
namespace Go.Proofs.YtmefnjmohehdbaaDoorRR.fnLowerAssignmentOperatorRefusesNonTargets
theorem walk : WalkT := by
  intro a0 a1 a2 a3 a4 w w0 w2 w3 w4
  exact l179.law28 a0 a3 a4 a1 a2 w (by have h := w0; unfold Lit.wf at h; rw [Bool.and_eq_true, decide_eq_true_eq, decide_eq_true_eq] at h; exact h.1) (by have h := w0; unfold Lit.wf at h; rw [Bool.and_eq_true, decide_eq_true_eq, decide_eq_true_eq] at h; exact h.2) (by have h := w3; unfold Lit.wf at h; rw [Bool.and_eq_true, decide_eq_true_eq, decide_eq_true_eq] at h; exact h.1) (by have h := w3; unfold Lit.wf at h; rw [Bool.and_eq_true, decide_eq_true_eq, decide_eq_true_eq] at h; exact h.2) (by have h := w2; unfold maxLen at h; exact h)
theorem proved : Rows.FnLowerAssignmentOperatorRefusesNonTargetsCardSaid := proved_of walk
#print axioms proved
end Go.Proofs.YtmefnjmohehdbaaDoorRR.fnLowerAssignmentOperatorRefusesNonTargets
