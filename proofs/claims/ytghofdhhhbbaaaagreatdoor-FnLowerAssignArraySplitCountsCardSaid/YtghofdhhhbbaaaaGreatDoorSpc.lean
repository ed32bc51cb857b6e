/-
  Proved: the card of the law n011_247.FnLowerAssignArraySplitCounts: it returns true for every input of its parameters; the package-level variables that its row lists start as the program's text lays them. No other condition.
  The frame of this text follows the kit's toy of a law over a package-level table; the walk lies in YtghofdhhhbbaaaaGreatDoorSpcWalk.
-/
import Derived.Test.YtghofdhhhbbaaaaGreatDoorSpcFrame
import Derived.Test.YtghofdhhhbbaaaaGreatDoorLas
namespace Go.Proofs.YtghofdhhhbbaaaaGreatDoor.fnLowerAssignArraySplitCounts
theorem walk : WalkT := by
  intro a0 a1 a2 a3 w hg0_0 hg0_1 w0 w1
  exact Use.law8w a0 a1 a2 a3 w hg0_0 hg0_1
theorem proved : Rows.FnLowerAssignArraySplitCountsCardSaid := proved_of walk
#print axioms proved
end Go.Proofs.YtghofdhhhbbaaaaGreatDoor.fnLowerAssignArraySplitCounts
