/-
  Proved: the card of the law n011_212.FnSuperSetBinOpThenSetScript: it returns true for every input of its parameters; the package-level variables that its row lists start as the program's text lays them. No other condition.
  The frame of this text follows the kit's toy of a law over a package-level table; the walk lies in YtkhmjppfogppoaaDoorScriptWalk.
-/
import Derived.Test.YtkhmjppfogppoaaDoorScript0Frame
import Derived.Test.YtkhmjppfogppoaaDoorScriptWalk
namespace Go.Proofs.YtkhmjppfogppoaaDoor.fnSuperSetBinOpThenSetScript
theorem walk : WalkT := by
  intro a0 a1 a2 a3 a4 a5 w hg0_0 hg0_1 w0 w1 w2 w5
  exact Use.law14w a0 a1 a2 a3 a4 a5 w w2 hg0_0 hg0_1
theorem proved : Rows.FnSuperSetBinOpThenSetScriptCardSaid := proved_of walk
#print axioms proved
end Go.Proofs.YtkhmjppfogppoaaDoor.fnSuperSetBinOpThenSetScript
