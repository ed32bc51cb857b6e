/-
  Proved: the card of the law n011_212.FnMaybeLowerSuperCallCaseTable: it returns true for every input of its parameters; the package-level variables that its row lists start as the program's text lays them. No other condition.
  The frame of this text follows the kit's toy of a law over a package-level table; the walk lies in YtkhmjppfogppoaaDoorCasWalk.
-/
import Derived.Test.YtkhmjppfogppoaaDoorCasFrame
import Derived.Test.YtkhmjppfogppoaaDoorCasWalk
namespace Go.Proofs.YtkhmjppfogppoaaDoor.fnMaybeLowerSuperCallCaseTable
theorem walk : WalkT := by
  intro a0 a1 a2 a3 a4 a5 a6 a7 w hg0_0 hg0_1 w0 w1 w2 w6 w7
  exact Use.law44 a0 a1 a2 a3 a4 a5 a6 a7 w w0 hg0_0 hg0_1
theorem proved : Rows.FnMaybeLowerSuperCallCaseTableCardSaid := proved_of walk
#print axioms proved
end Go.Proofs.YtkhmjppfogppoaaDoor.fnMaybeLowerSuperCallCaseTable
