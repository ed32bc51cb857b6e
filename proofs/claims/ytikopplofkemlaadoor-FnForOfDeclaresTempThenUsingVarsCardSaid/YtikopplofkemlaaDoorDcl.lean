/-
 Proved: the card of the law n011_263.FnForOfDeclaresTempThenUsingVars: it returns true for every input of its parameters; the package-level variables that its row lists start as the program's text lays them. No other condition.
 The frame of this text follows the kit's toy of a law over a package-level table; the walk lies in YtikopplofkemlaaDoorDeclWalk.
-/
import Derived.Test.YtikopplofkemlaaDoorDclFrame
import Derived.Test.YtikopplofkemlaaDoorHdw
namespace Go.Proofs.YtikopplofkemlaaDoor.fnForOfDeclaresTempThenUsingVars
theorem walk : WalkT := by
 intro a0 a1 a2 a3 w hg0_0 hg0_1 w0 w1 w2
 exact Use.law43w a0 a1 a2 a3 w w1 hg0_0 hg0_1
theorem proved : Rows.FnForOfDeclaresTempThenUsingVarsCardSaid := proved_of walk
#print axioms proved
end Go.Proofs.YtikopplofkemlaaDoor.fnForOfDeclaresTempThenUsingVars
