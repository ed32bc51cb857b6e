/-
  Proved: the card of the law n011_222.FnTempNamesAgreeAndRefsStayDistinct: it returns true for every input of its parameters; the package-level variables that its row lists start as the program's text lays them. No other condition.
  The frame of this text follows the kit's toy of a law over a package-level table; the walk lies in YtkmojepgbbdeiaaDoorNamWalk.
-/
import Derived.Test.YtkmojepgbbdeiaaDoorNamsFrame
import Derived.Test.YtkmojepgbbdeiaaDoorNamWalk
namespace Go.Proofs.YtkmojepgbbdeiaaDoor.fnTempNamesAgreeAndRefsStayDistinct
theorem walk : WalkT := by
  intro a0 a1 len1 cap1 z1 a2 w hg0_0 hg0_1 w0 w1 w2
  exact Use.law41w a0 a1 len1 cap1 z1 a2 w w1 hg0_0 hg0_1
theorem proved : Rows.FnTempNamesAgreeAndRefsStayDistinctCardSaid := proved_of walk
#print axioms proved
end Go.Proofs.YtkmojepgbbdeiaaDoor.fnTempNamesAgreeAndRefsStayDistinct
