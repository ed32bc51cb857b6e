/- What captureValueWithPossibleSideEffects hands back for an identifier and for a number: two closures over fresh boxes. No condition. -/
import Derived.Test.YtlgefnjkoklboaaDoorHelp
namespace Go.Proofs.YtlgefnjkoklboaaDoor.Use
open Go.ChangeShapes Go.WideShapes Go.ChangeAt Go.RowKit Go.Sort
set_option linter.unusedVariables false
/-- The closure f over the boxes cap (offsets from B), and the boxes' rows. -/
def CapIdent (pb ib : Nat) (loc l0 : Int) (w : World) (e : Ending) (w' : World) : Prop :=
  ∃ B, e = .returned (.tuple #[.func (Fn.func 59) #[] #[.pointer (some ⟨B, 0, none⟩), .pointer (some ⟨B + 1 + 1 + 1, 0, none⟩), .pointer (some ⟨B + 1, 0, none⟩)], .func (Fn.func 50) #[] #[.pointer (some ⟨B + 1 + 1, 0, none⟩)]]) ∧ w.heap.size ≤ B ∧ Below w.heap.size w w' ∧
    Base.RowAt w' B 23 #[.pointer (some ⟨pb, 0, none⟩)] ∧ Base.RowAt w' (B + 1) 32 #[.int .i32 loc] ∧ Base.RowAt w' (B + 1 + 1) 34 #[.iface 55 (.pointer (some ⟨ib, 0, none⟩)), .int .i32 l0] ∧ Base.RowAt w' (B + 1 + 1 + 1) 55 #[.pointer (some ⟨ib, 0, none⟩)]
def CapNum (pb nb : Nat) (loc l0 : Int) (w : World) (e : Ending) (w' : World) : Prop :=
  ∃ B, e = .returned (.tuple #[.func (Fn.func 55) #[] #[.pointer (some ⟨B + 1, 0, none⟩), .pointer (some ⟨B + 1 + 1 + 1, 0, none⟩)], .func (Fn.func 50) #[] #[.pointer (some ⟨B + 1 + 1, 0, none⟩)]]) ∧ w.heap.size ≤ B ∧ Below w.heap.size w w' ∧
    Base.RowAt w' B 23 #[.pointer (some ⟨pb, 0, none⟩)] ∧ Base.RowAt w' (B + 1) 32 #[.int .i32 loc] ∧ Base.RowAt w' (B + 1 + 1) 34 #[.iface 36 (.pointer (some ⟨nb, 0, none⟩)), .int .i32 l0] ∧ Base.RowAt w' (B + 1 + 1 + 1) 36 #[.pointer (some ⟨nb, 0, none⟩)]
set_option maxRecDepth 100000 in
set_option maxHeartbeats 1000000 in
theorem capIdent (pb ib : Nat) (loc l0 : Int) (w : World) :
    Calls Tryd.prog 39 #[.pointer (some ⟨pb, 0, none⟩), .agg #[.int .i32 loc], .int .i64 2, .agg #[.iface 55 (.pointer (some ⟨ib, 0, none⟩)), .int .i32 l0], .int .u8 0] w (CapIdent pb ib loc l0 w) := by
  go_enter Tryd.func39, Tryd.ntmps39
  go_wp2
  go_returns
  refine ⟨w.heap.size, rfl, Nat.le_refl _, by go_grown, ?_, ?_, ?_, ?_⟩
  · exact (((Base.RowAt.new' _ _ _ _ (by simp)).alloc _).alloc _).alloc _
  · exact ((Base.RowAt.new' _ _ _ _ (by simp)).alloc _).alloc _
  · exact (Base.RowAt.new' _ _ _ _ (by simp)).alloc _
  · exact Base.RowAt.new' _ _ _ _ (by simp)
set_option maxRecDepth 100000 in
set_option maxHeartbeats 1000000 in
theorem capNum (pb nb : Nat) (loc l0 : Int) (w : World) :
    Calls Tryd.prog 39 #[.pointer (some ⟨pb, 0, none⟩), .agg #[.int .i32 loc], .int .i64 2, .agg #[.iface 36 (.pointer (some ⟨nb, 0, none⟩)), .int .i32 l0], .int .u8 0] w (CapNum pb nb loc l0 w) := by
  go_enter Tryd.func39, Tryd.ntmps39
  go_wp2
  go_returns
  refine ⟨w.heap.size, rfl, Nat.le_refl _, by go_grown, ?_, ?_, ?_, ?_⟩
  · exact (((Base.RowAt.new' _ _ _ _ (by simp)).alloc _).alloc _).alloc _
  · exact ((Base.RowAt.new' _ _ _ _ (by simp)).alloc _).alloc _
  · exact (Base.RowAt.new' _ _ _ _ (by simp)).alloc _
  · exact Base.RowAt.new' _ _ _ _ (by simp)
end Go.Proofs.YtlgefnjkoklboaaDoor.Use
