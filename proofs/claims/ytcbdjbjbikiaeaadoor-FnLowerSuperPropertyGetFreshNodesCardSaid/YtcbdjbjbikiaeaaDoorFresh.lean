/-
  Proved: the card of the law n011_145.FnLowerSuperPropertyGetFreshNodes: it returns true for every input of its parameters; the package-level variables that its row lists start as the program's text lays them. No other condition.
  The frame of this text follows the kit's toy of a law over a package-level table; the walk lies in YtcbdjbjbikiaeaaDoorFreshWalk.
-/
import Derived.Test.YtcbdjbjbikiaeaaDoorFreshFrame
import Derived.Test.YtcbdjbjbikiaeaaDoorFreshWalk
namespace Go.Proofs.YtcbdjbjbikiaeaaDoor.fnLowerSuperPropertyGetFreshNodes
theorem walk : WalkT := by
  intro a0 a1 a2 a3 a4 w w2 w3 w4
  exact Use.law16 a0 a1 a2 a3 a4 w
theorem proved : Rows.FnLowerSuperPropertyGetFreshNodesCardSaid := proved_of walk
#print axioms proved
end Go.Proofs.YtcbdjbjbikiaeaaDoor.fnLowerSuperPropertyGetFreshNodes
