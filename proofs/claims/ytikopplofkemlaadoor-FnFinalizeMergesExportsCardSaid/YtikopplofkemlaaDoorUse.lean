/- The count of a symbol's use, raised by one: recordUsage, walked. No condition. -/
import Derived.Test.YtikopplofkemlaaDoorRows
import Derived.Test.YtikopplofkemlaaDoorDeepCells
import Derived.Test.YtikopplofkemlaaDoorKept
import Derived.RegionTactic
import Derived.ChangeAlike
namespace Go.Proofs.YtikopplofkemlaaDoor.Use
open Go.ChangeShapes Go.WideShapes Go.ChangeAt Go.RowKit Go.Sort
set_option linter.unusedVariables false

/-- What recordUsage reads of a parser: outside dead code, no current part, no TypeScript; where its symbols lie. -/
structure ParAt (w : World) (pb sb n cap : Nat) : Prop where
  dead : w.cell? ⟨pb, 350, none⟩ = some (.bool false)
  part : w.cell? ⟨pb, 105, none⟩ = some (.pointer none)
  ts : w.cell? ⟨pb, 32, none⟩ = some (.bool false)
  syms : w.cell? ⟨pb, 106, none⟩ = some (.slice (some ⟨sb, 0, none⟩) n cap)
theorem ParAt.lt {w : World} {pb sb n cap : Nat} (h : ParAt w pb sb n cap) : pb < w.heap.size := Base.block_of_cell h.dead
theorem ParAt.below {w w' : World} {pb sb n cap B : Nat} (h : ParAt w pb sb n cap) (k : Below B w w') (hb : pb < B) : ParAt w' pb sb n cap :=
  ⟨Base.cell_below k hb h.dead, Base.cell_below k hb h.part, Base.cell_below k hb h.ts, Base.cell_below k hb h.syms⟩

end Go.Proofs.YtikopplofkemlaaDoor.Use
