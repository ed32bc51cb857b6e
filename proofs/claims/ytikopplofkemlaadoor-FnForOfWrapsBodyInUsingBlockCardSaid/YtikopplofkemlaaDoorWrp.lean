/-
  Proved: the card of the law n011_263.FnForOfWrapsBodyInUsingBlock: it returns true for every input of its parameters; the package-level variables that its row lists start as the program's text lays them. No other condition.
  The frame of this text follows the kit's toy of a law over a package-level table; the walk lies in YtikopplofkemlaaDoorWrapWalk.
-/
import Derived.Test.YtikopplofkemlaaDoorWrpFrame
import Derived.Test.YtikopplofkemlaaDoorWrapWalk
namespace Go.Proofs.YtikopplofkemlaaDoor.fnForOfWrapsBodyInUsingBlock
theorem walk : WalkT := by
  intro a0 a1 a2 a3 w hg0_0 hg0_1 w0 w1 w2
  exact Use.law46w a0 a1 a2 a3 w w1 hg0_0 hg0_1
theorem proved : Rows.FnForOfWrapsBodyInUsingBlockCardSaid := proved_of walk
#print axioms proved
end Go.Proofs.YtikopplofkemlaaDoor.fnForOfWrapsBodyInUsingBlock
