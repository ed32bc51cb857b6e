/-
  Proved: the card of the law n011_145.FnCallSuperPropertyWrapperAgreesWithSuperGet: it returns true for every input of its parameters; the package-level variables that its row lists start as the program's text lays them. No other condition.
  The frame of this text follows the kit's toy of a law over a package-level table; the walk lies in YtcbdjbjbikiaeaaDoorWrapgWalk.
-/
import Derived.Test.YtcbdjbjbikiaeaaDoorWrapgFrame
import Derived.Test.YtcbdjbjbikiaeaaDoorWrapgWalk
namespace Go.Proofs.YtcbdjbjbikiaeaaDoor.fnCallSuperPropertyWrapperAgreesWithSuperGet
theorem walk : WalkT := by
  intro a0 a1 a2 a3 a4 w w2 w3 w4
  exact Use.law12 a0 a1 a2 a3 a4 w
theorem proved : Rows.FnCallSuperPropertyWrapperAgreesWithSuperGetCardSaid := proved_of walk
#print axioms proved
end Go.Proofs.YtcbdjbjbikiaeaaDoor.fnCallSuperPropertyWrapperAgreesWithSuperGet
