/-
  Proved: the card of the law n011_263.FnFinalizePartitions: it returns true for every input of its parameters; the package-level variables that its row lists start as the program's text lays them. No other condition.
  The frame of this text follows the kit's toy of a law over a package-level table; the walk lies in YtikopplofkemlaaDoorPtsWalk.
-/
import Derived.Test.YtikopplofkemlaaDoorPtsFrame
import Derived.Test.YtikopplofkemlaaDoorPtsWalk
namespace Go.Proofs.YtikopplofkemlaaDoor.fnFinalizePartitions
theorem walk : WalkT := by
  intro a0 len0 cap0 z0 a1 a2 w hg0_0 hg0_1 w0
  exact Use.law47w a0 len0 cap0 z0 a1 a2 w hg0_0 hg0_1 w0
theorem proved : Rows.FnFinalizePartitionsCardSaid := proved_of walk
#print axioms proved
end Go.Proofs.YtikopplofkemlaaDoor.fnFinalizePartitions
