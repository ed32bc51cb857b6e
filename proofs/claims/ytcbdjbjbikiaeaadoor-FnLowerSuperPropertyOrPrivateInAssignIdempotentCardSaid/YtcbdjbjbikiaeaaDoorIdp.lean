/-
  Proved: the card of the law n011_145.FnLowerSuperPropertyOrPrivateInAssignIdempotent: it returns true for every input of its parameters; the package-level variables that its row lists start as the program's text lays them. No other condition.
  The frame of this text follows the kit's toy of a law over a package-level table; the walk lies in YtcbdjbjbikiaeaaDoorIdpWalk.
-/
import Derived.Test.YtcbdjbjbikiaeaaDoorIdpFrame
import Derived.Test.YtcbdjbjbikiaeaaDoorIdpWalk
namespace Go.Proofs.YtcbdjbjbikiaeaaDoor.fnLowerSuperPropertyOrPrivateInAssignIdempotent
theorem walk : WalkT := by
  intro a0 a1 a2 a3 len3 cap3 z3 a4 w w3 w4
  exact Use.law22w a0 a1 a2 a3 len3 cap3 z3 a4 w w3
theorem proved : Rows.FnLowerSuperPropertyOrPrivateInAssignIdempotentCardSaid := proved_of walk
#print axioms proved
end Go.Proofs.YtcbdjbjbikiaeaaDoor.fnLowerSuperPropertyOrPrivateInAssignIdempotent
