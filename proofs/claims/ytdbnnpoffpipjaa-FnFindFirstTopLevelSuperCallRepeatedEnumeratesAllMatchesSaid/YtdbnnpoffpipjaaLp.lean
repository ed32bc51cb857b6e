/- The law, cut. No condition. -/
import Derived.Test.YtdbnnpoffpipjaaLv
namespace Go.Proofs.Ytdbnnpoffpipjaa.Use
open Go.ChangeShapes Go.WideShapes Go.ChangeAt Go.RowKit Go.Sort Own
set_option linter.unusedVariables false
def cutC : Nat → Code → Code
  | 0, c => c
  | n + 1, .seq _ b => cutC n b
  | _ + 1, c => c
/-- The law's code from its look for the first match on. -/
noncomputable def rest32 : Code := cutC 12 (Try.f3.body.getD .skip)
def l32Post (w0 : World) (X : Nat → Obj → Prop) (e : Ending) (w' : World) : Prop := e = .returned (.bool true) ∧ Below w0.heap.size w0 w'

end Go.Proofs.Ytdbnnpoffpipjaa.Use
