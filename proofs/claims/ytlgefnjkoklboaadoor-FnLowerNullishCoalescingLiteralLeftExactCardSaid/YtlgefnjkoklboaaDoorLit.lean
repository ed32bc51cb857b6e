/-
  Proved: the card of the law n011_131.FnLowerNullishCoalescingLiteralLeftExact: it returns true for every input of its parameters; the package-level variables that its row lists start as the program's text lays them. No other condition.
  The frame of this text follows the kit's toy of a law over a package-level table; the walk lies in YtlgefnjkoklboaaDoorLitWalk.
-/
import Derived.Test.YtlgefnjkoklboaaDoorLitFrame
import Derived.Test.YtlgefnjkoklboaaDoorLitWalk
namespace Go.Proofs.YtlgefnjkoklboaaDoor.fnLowerNullishCoalescingLiteralLeftExact
theorem walk : WalkT := by
  intro a0 a1 a2 a3 a4 w w0 w1 w2 w3 w4
  exact l131.law15 a0 a1 a2 a3 a4 w
theorem proved : Rows.FnLowerNullishCoalescingLiteralLeftExactCardSaid := proved_of walk
#print axioms proved
end Go.Proofs.YtlgefnjkoklboaaDoor.fnLowerNullishCoalescingLiteralLeftExact
