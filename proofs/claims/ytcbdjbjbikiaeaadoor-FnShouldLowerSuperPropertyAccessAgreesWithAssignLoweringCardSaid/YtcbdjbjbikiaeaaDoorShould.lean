/-
  Proved: the card of the law n011_145.FnShouldLowerSuperPropertyAccessAgreesWithAssignLowering: it returns true for every input of its parameters; the package-level variables that its row lists start as the program's text lays them. No other condition.
  The frame of this text follows the kit's toy of a law over a package-level table; the walk lies in YtcbdjbjbikiaeaaDoorShouldWalk.
-/
import Derived.Test.YtcbdjbjbikiaeaaDoorShouldFrame
import Derived.Test.YtcbdjbjbikiaeaaDoorShouldWalk
namespace Go.Proofs.YtcbdjbjbikiaeaaDoor.fnShouldLowerSuperPropertyAccessAgreesWithAssignLowering
theorem walk : WalkT := by
  intro a0 a1 a2 a3 a4 a5 a6 w w3 w5 w6
  exact Use.law5 a0 a1 a2 a3 a4 a5 a6 w (Use.u8lo w3)
theorem proved : Rows.FnShouldLowerSuperPropertyAccessAgreesWithAssignLoweringCardSaid := proved_of walk
#print axioms proved
end Go.Proofs.YtcbdjbjbikiaeaaDoor.fnShouldLowerSuperPropertyAccessAgreesWithAssignLowering
