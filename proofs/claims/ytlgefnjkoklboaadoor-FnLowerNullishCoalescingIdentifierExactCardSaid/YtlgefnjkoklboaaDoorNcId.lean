/-
  Proved: the card of the law n011_131.FnLowerNullishCoalescingIdentifierExact: it returns true for every input of its parameters; the package-level variables that its row lists start as the program's text lays them. No other condition.
  The frame of this text follows the kit's toy of a law over a package-level table; the walk lies in YtlgefnjkoklboaaDoorNcIdWalk.
-/
import Derived.Test.YtlgefnjkoklboaaDoorNcIdFrame
import Derived.Test.YtlgefnjkoklboaaDoorNcIdWalk
namespace Go.Proofs.YtlgefnjkoklboaaDoor.fnLowerNullishCoalescingIdentifierExact
theorem walk : WalkT := by
  intro a0 a1 a2 a3 a4 a5 w w0 w1 w2 w3 w4 w5
  exact Use.law20 a0 a1 a2 a3 a4 a5 w (Use.u32r w1).1 (Use.u32r w1).2
theorem proved : Rows.FnLowerNullishCoalescingIdentifierExactCardSaid := proved_of walk
#print axioms proved
end Go.Proofs.YtlgefnjkoklboaaDoor.fnLowerNullishCoalescingIdentifierExact
