/-
  Proved: the card of the law n011_222.FnGenerateTempRefCaseTable: it returns true for every input of its parameters; the package-level variables that its row lists start as the program's text lays them. No other condition.
  The frame of this text follows the kit's toy of a law over a package-level table; the walk lies in YtkmojepgbbdeiaaDoorRefWalk.
-/
import Derived.Test.YtkmojepgbbdeiaaDoorRefsFrame
import Derived.Test.YtkmojepgbbdeiaaDoorRefWalk
namespace Go.Proofs.YtkmojepgbbdeiaaDoor.fnGenerateTempRefCaseTable
theorem walk : WalkT := by
  intro a0 a1 a2 a3 a4 a5 a6 w hg0_0 hg0_1 w0 w1 w2 w3 w4 w5
  exact Use.law48w a0 a1 a2 a3 a4 a5 a6 w hg0_0 hg0_1
theorem proved : Rows.FnGenerateTempRefCaseTableCardSaid := proved_of walk
#print axioms proved
end Go.Proofs.YtkmojepgbbdeiaaDoor.fnGenerateTempRefCaseTable
