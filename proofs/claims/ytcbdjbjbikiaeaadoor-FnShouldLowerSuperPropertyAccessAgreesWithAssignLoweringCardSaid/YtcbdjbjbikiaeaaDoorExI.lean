/- An index node made. No condition. -/
import Derived.Test.YtcbdjbjbikiaeaaDoorOwnK
import Derived.Test.YtcbdjbjbikiaeaaDoorOwn
import Derived.Test.YtcbdjbjbikiaeaaDoorDeepCells
import Derived.Test.YtcbdjbjbikiaeaaDoorRows
import Derived.Test.YtcbdjbjbikiaeaaDoorDead
import Derived.Test.YtcbdjbjbikiaeaaDoorNew
import Derived.Test.YtcbdjbjbikiaeaaDoorNewL
import Derived.Test.YtcbdjbjbikiaeaaDoorStr
import Derived.Test.YtcbdjbjbikiaeaaDoorStrX
namespace Go.Proofs.YtcbdjbjbikiaeaaDoor.Use
open Go.ChangeShapes Go.WideShapes Go.ChangeAt Go.RowKit Go.Sort Own
set_option linter.unusedVariables false
def exprIxPost (loc : Int) (tv : Value) (tl : Int) (iv : Value) (il : Int) (w0 : World) (X : Nat → Obj → Prop) (e : Ending) (w' : World) : Prop :=
  ∃ d : Nat, e = .returned (.agg #[.iface 209 (.pointer (some ⟨d, 0, none⟩)), .int .i32 loc]) ∧ Own w0 w' [row (d) 211 #[tv, .int .i32 tl, iv, .int .i32 il, .int .i32 0, .int .u8 0, .bool false, .bool false, .bool false]] X
set_option maxRecDepth 100000 in
set_option maxHeartbeats 1000000 in
theorem exprIx (loc : Int) (tv : Value) (tl : Int) (iv : Value) (il : Int) (w0 w : World) (X : Nat → Obj → Prop) (hO : Own w0 w [] X)  :
    Calls Tryd.prog 10 #[.int .i32 loc, .agg #[tv, .int .i32 tl], .agg #[iv, .int .i32 il]] w (exprIxPost loc tv tl iv il w0 X) := by
  go_enter Tryd.func10, Tryd.ntmps10
  go_wp2_with (first | (go_at_call 34; go_in) | (go_at_call 30; go_in) | (go_at_call 31; go_in) | (go_at_call 32; go_in) | (go_at_call 12; go_in) | (go_at_call 10; go_in) | (go_at_call 9; go_in) | (go_at_call 7; go_in))
  generalize hW : World.alloc _ _ = W2
  have hN : Own w0 W2 [row (w.heap.size + 1 + 1 + 1) 211 #[tv, .int .i32 tl, iv, .int .i32 il, .int .i32 0, .int .u8 0, .bool false, .bool false, .bool false], row (w.heap.size + 1 + 1) 30 #[.iface 209 (.pointer (some ⟨w.heap.size + 1 + 1 + 1, 0, none⟩)), .int .i32 loc], row (w.heap.size + 1) 30 #[iv, .int .i32 il], row (w.heap.size) 30 #[tv, .int .i32 tl]] X := by
    rw [← hW]
    exact ((((hO).alloc' _ (w.heap.size) (by simp)).alloc' _ (w.heap.size + 1) (by simp)).alloc' _ (w.heap.size + 1 + 1) (by simp)).alloc' _ (w.heap.size + 1 + 1 + 1) (by simp)
  clear hW hO
  generalize w.heap.size + 1 + 1 + 1 = B1_3 at hN ⊢
  generalize w.heap.size + 1 + 1 = B1_2 at hN ⊢
  generalize w.heap.size + 1 = B1_1 at hN ⊢
  generalize w.heap.size = B1 at hN ⊢
  have hO := hN
  clear hN
  have z9_1_0 : W2.cell? ⟨B1_2, 0, none⟩ = some (.iface 209 (.pointer (some ⟨B1_3, 0, none⟩))) := hO.cell 1 rfl 0 rfl
  have z9_1_1 : W2.cell? ⟨B1_2, 1, none⟩ = some (.int .i32 loc) := hO.cell 1 rfl 1 rfl
  refine bodyPost_ret (v := .agg #[.iface 209 (.pointer (some ⟨B1_3, 0, none⟩)), .int .i32 loc]) ?_ rfl ⟨B1_3, rfl, hO.sub [0] (by decide)⟩
  simp [results, Tryd.results10, go_sem, z9_1_0, z9_1_1]
end Go.Proofs.YtcbdjbjbikiaeaaDoor.Use
