/-
  Proved: the card of the law n011_237.FnNameCaptureStableUnderReenable: it returns true for every input of its parameters; the package-level variables that its row lists start as the program's text lays them. No other condition.
  The frame of this text follows the kit's toy of a law over a package-level table; the walk lies in YtaoflhnkhgclhaaDoorStaWalk.
-/
import Derived.Test.YtaoflhnkhgclhaaDoorStabFrame
import Derived.Test.YtaoflhnkhgclhaaDoorStaWalk
namespace Go.Proofs.YtaoflhnkhgclhaaDoor.fnNameCaptureStableUnderReenable
theorem walk : WalkT := by
  intro a0 a1 a2 a3 len3 cap3 z3 w hg0_0 hg0_1 w0 w3
  exact Use.law31 a0 a1 a2 a3 len3 cap3 z3 w w3 hg0_0 hg0_1
theorem proved : Rows.FnNameCaptureStableUnderReenableCardSaid := proved_of walk
#print axioms proved
end Go.Proofs.YtaoflhnkhgclhaaDoor.fnNameCaptureStableUnderReenable
