/- No private name is found in a target that is an identifier or a property access. No condition. -/
import Derived.Test.YtlgefnjkoklboaaDoorHelp
namespace Go.Proofs.YtlgefnjkoklboaaDoor.Base
theorem row_ne_type {w : World} {a b : Nat} {T T' : TypeId} {c c' : Array Value} (h : RowAt w a T c) (k : RowAt w b T' c') (hT : T ≠ T') (e : a = b) : False := by
  subst e
  have := h.symm.trans k
  simp at this
  exact hT this.2
theorem row_ne_cells {w : World} {a b : Nat} {T T' : TypeId} {c c' : Array Value} (h : RowAt w a T c) (k : RowAt w b T' c') (hc : c ≠ c') (e : a = b) : False := by
  subst e
  have := h.symm.trans k
  simp at this
  exact hc this.1
end Go.Proofs.YtlgefnjkoklboaaDoor.Base
namespace Go.Proofs.YtlgefnjkoklboaaDoor.Use
open Go.ChangeShapes Go.WideShapes Go.ChangeAt Go.RowKit Go.Sort
set_option linter.unusedVariables false
set_option maxRecDepth 100000 in
theorem noPriv (p : Value) (T b : Nat) (l : Int) (w : World) (hT : T ≠ 64) :
    Calls Tryd.prog 40 #[p, .agg #[.iface T (.pointer (some ⟨b, 0, none⟩)), .int .i32 l]] w fun e w' => e = .returned (.tuple #[.agg #[.nilIface, .int .i32 0], .agg #[.int .i32 0], .pointer none]) ∧ Below w.heap.size w w' := by
  go_enter Tryd.func40, Tryd.ntmps40
  go_wp2
  all_goals (go_returns; exact ⟨rfl, by go_grown⟩)
set_option maxRecDepth 100000 in
theorem noPrivIx (p : Value) (b j : Nat) (l l' : Int) (w : World) (h : w.cell? ⟨b, 2, none⟩ = some (.iface 36 (.pointer (some ⟨j, 0, none⟩)))) :
    Calls Tryd.prog 40 #[p, .agg #[.iface 64 (.pointer (some ⟨b, 0, none⟩)), .int .i32 l]] w fun e w' => e = .returned (.tuple #[.agg #[.nilIface, .int .i32 0], .agg #[.int .i32 0], .pointer none]) ∧ Below w.heap.size w w' := by
  have lb := Base.block_of_cell h
  go_enter Tryd.func40, Tryd.ntmps40
  go_wp2
  all_goals (go_returns; exact ⟨rfl, by go_grown⟩)
end Go.Proofs.YtlgefnjkoklboaaDoor.Use
