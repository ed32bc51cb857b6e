/-
  Proved: the card of the law n011_212.FnSuperSetBinOpCaseTable: it returns true for every input of its parameters; the package-level variables that its row lists start as the program's text lays them. No other condition.
  The frame of this text follows the kit's toy of a law over a package-level table; the walk lies in YtkhmjppfogppoaaGreatDoorOpTabWalk.
-/
import Derived.Test.YtkhmjppfogppoaaGreatDoorOpTab0Frame
import Derived.Test.YtkhmjppfogppoaaGreatDoorOpTabWalk
namespace Go.Proofs.YtkhmjppfogppoaaGreatDoor.fnSuperSetBinOpCaseTable
theorem walk : WalkT := by
  intro a0 a1 a2 a3 a4 a5 w hg0_0 hg0_1 w0 w1 w2 w5
  exact Use.law27w a0 a1 a2 a3 a4 a5 w w2 hg0_0 hg0_1
theorem proved : Rows.FnSuperSetBinOpCaseTableCardSaid := proved_of walk
#print axioms proved
end Go.Proofs.YtkhmjppfogppoaaGreatDoor.fnSuperSetBinOpCaseTable
