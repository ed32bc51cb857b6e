/-
  Proved: the card of the law n011_56.FnContainsClosingScriptTagMatchesModel: it returns true for every input of its parameters; the package-level variables that its row lists start as the program's text lays them. No other condition.
  The frame of this text follows the kit's toy of a law over a package-level table; the walk lies in YthgpfmihbmhlhaaDoorCtn.
-/
import Derived.Test.YthgpfmihbmhlhaaDoorMatFrame
import Derived.Test.YthgpfmihbmhlhaaDoorCtn
namespace Go.Proofs.YthgpfmihbmhlhaaDoor.fnContainsClosingScriptTagMatchesModel
theorem walk : WalkT := by
  intro a0 w ht w0
  exact Tag.law1 a0 w ht
theorem proved : Rows.FnContainsClosingScriptTagMatchesModelCardSaid := proved_of walk
#print axioms proved
end Go.Proofs.YthgpfmihbmhlhaaDoor.fnContainsClosingScriptTagMatchesModel
