/-
  Proved: the card of the law n011_222.FnTopLevelTempRefScript: it returns true for every input of its parameters; the package-level variables that its row lists start as the program's text lays them. No other condition.
  The frame of this text follows the kit's toy of a law over a package-level table; the walk lies in YtkmojepgbbdeiaaDoorScrWalk.
-/
import Derived.Test.YtkmojepgbbdeiaaDoorScrtFrame
import Derived.Test.YtkmojepgbbdeiaaDoorScrWalk
namespace Go.Proofs.YtkmojepgbbdeiaaDoor.fnTopLevelTempRefScript
theorem walk : WalkT := by
  intro a0 a1 a2 a3 w hg0_0 hg0_1 w0 w1 w2
  exact Use.law7 a0 a1 a2 a3 w hg0_0 hg0_1
theorem proved : Rows.FnTopLevelTempRefScriptCardSaid := proved_of walk
#print axioms proved
end Go.Proofs.YtkmojepgbbdeiaaDoor.fnTopLevelTempRefScript
