/-
  Proved: the card of the law n011_56.FnContainsClosingScriptTagSurvivesSurroundingText: it returns true for every input of its parameters; the package-level variables that its row lists start as the program's text lays them. No other condition.
  The frame of this text follows the kit's toy of a law over a package-level table; the walk lies in YthgpfmihbmhlhaaDoorCtn.
-/
import Derived.Test.YthgpfmihbmhlhaaDoorSurFrame
import Derived.Test.YthgpfmihbmhlhaaDoorCtn
namespace Go.Proofs.YthgpfmihbmhlhaaDoor.fnContainsClosingScriptTagSurvivesSurroundingText
theorem walk : WalkT := by
  intro a0 a1 a2 w ht w0 w1 w2
  exact Tag.law2 a0 a1 a2 w ht
theorem proved : Rows.FnContainsClosingScriptTagSurvivesSurroundingTextCardSaid := proved_of walk
#print axioms proved
end Go.Proofs.YthgpfmihbmhlhaaDoor.fnContainsClosingScriptTagSurvivesSurroundingText
