/-
 Proved: the card of the law n011_263.FnFinalizeMergesExports: it returns true for every input of its parameters; the package-level variables that its row lists start as the program's text lays them. No other condition.
 The frame of this text follows the kit's toy of a law over a package-level table; the walk lies in YtikopplofkemlaaDoorMrgWalk.
-/
import Derived.Test.YtikopplofkemlaaDoorMrgFrame
import Derived.Test.YtikopplofkemlaaDoorMrgWalk
namespace Go.Proofs.YtikopplofkemlaaDoor.fnFinalizeMergesExports
theorem walk : WalkT := by
 intro a0 len0 cap0 z0 a1 w hg0_0 hg0_1 w0
 exact Use.law40w a0 len0 cap0 z0 a1 w hg0_0 hg0_1 w0
theorem proved : Rows.FnFinalizeMergesExportsCardSaid := proved_of walk
#print axioms proved
end Go.Proofs.YtikopplofkemlaaDoor.fnFinalizeMergesExports
