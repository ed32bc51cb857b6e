/-
  Proved: the card of the law n011_212.FnSuperSetHelperReused: it returns true for every input of its parameters; the package-level variables that its row lists start as the program's text lays them. No other condition.
  The frame of this text follows the kit's toy of a law over a package-level table; the walk lies in YtkhmjppfogppoaaDoorAgainWalk.
-/
import Derived.Test.YtkhmjppfogppoaaDoorAgainFrame
import Derived.Test.YtkhmjppfogppoaaDoorAgainWalk
namespace Go.Proofs.YtkhmjppfogppoaaDoor.fnSuperSetHelperReused
theorem walk : WalkT := by
  intro a0 a1 a2 a3 a4 w hg0_0 hg0_1 w0 w1 w4
  exact Use.law13 a0 a1 a2 a3 a4 w hg0_0 hg0_1
theorem proved : Rows.FnSuperSetHelperReusedCardSaid := proved_of walk
#print axioms proved
end Go.Proofs.YtkhmjppfogppoaaDoor.fnSuperSetHelperReused
