/- Patterns without supers are left as they are: an identifier. No condition. -/
import Derived.Test.YtghofdhhhbbaaaaGreatDoorIts
import Derived.Test.YtghofdhhhbbaaaaGreatDoorIfm
import Derived.Test.YtghofdhhhbbaaaaGreatDoorSla
import Derived.Test.YtghofdhhhbbaaaaGreatDoorLoop
import Derived.Test.YtghofdhhhbbaaaaGreatDoorMini
import Derived.Test.YtghofdhhhbbaaaaGreatDoorAppL
import Derived.Test.YtghofdhhhbbaaaaGreatDoorApp
import Derived.Test.YtghofdhhhbbaaaaGreatDoorOwnK
import Derived.Test.YtghofdhhhbbaaaaGreatDoorOwn
import Derived.Test.YtghofdhhhbbaaaaGreatDoorDeepCells
import Derived.Test.YtghofdhhhbbaaaaGreatDoorRows
import Derived.Test.YtghofdhhhbbaaaaGreatDoorLive
namespace Go.Proofs.YtghofdhhhbbaaaaGreatDoor.Use
open Go.ChangeShapes Go.WideShapes Go.ChangeAt Go.RowKit Go.Sort Own
set_option linter.unusedVariables false
def supIPost (pb vn : Nat) (lv : Int) (w0 : World) (X : Nat → Obj → Prop) (e : Ending) (w' : World) : Prop :=
  e = .returned (.tuple #[.agg #[.iface 56 (.pointer (some ⟨vn, 0, none⟩)), .int .i32 lv], .bool false]) ∧ Own w0 w' [] X
set_option maxRecDepth 100000 in
set_option maxHeartbeats 2000000 in
theorem supI (pb vn : Nat) (lv : Int) (w0 w : World) (X : Nat → Obj → Prop) (hO : Own w0 w [] X)  :
    Calls Tryz.prog 24 #[.pointer (some ⟨pb, 0, none⟩), .agg #[.iface 56 (.pointer (some ⟨vn, 0, none⟩)), .int .i32 lv]] w (supIPost pb vn lv w0 X) := by
  go_enter Tryz.func24, Tryz.ntmps24
  go_wp2_with (first | (with_reducible refine Own.stay (fn := Tryz.f24) ?_) | fail)
  try with_reducible refine Own.Stay.mk ?_
  generalize hW : World.alloc _ _ = W2
  have hN : Own w0 W2 [row (w.heap.size + 1) 29 #[.iface 56 (.pointer (some ⟨vn, 0, none⟩)), .int .i32 lv], row (w.heap.size) 29 #[.iface 56 (.pointer (some ⟨vn, 0, none⟩)), .int .i32 lv]] X := by
    rw [← hW]
    exact ((hO).alloc' _ (w.heap.size) (by simp)).alloc' _ (w.heap.size + 1) (by simp)
  clear hW hO
  generalize w.heap.size + 1 = B1_1 at hN ⊢
  generalize w.heap.size = B1 at hN ⊢
  have hO := hN
  clear hN
  have z9_0_0 : W2.cell? ⟨B1_1, 0, none⟩ = some (.iface 56 (.pointer (some ⟨vn, 0, none⟩))) := hO.cell 0 rfl 0 rfl
  have z9_0_1 : W2.cell? ⟨B1_1, 1, none⟩ = some (.int .i32 lv) := hO.cell 0 rfl 1 rfl
  refine bodyPost_ret (v := .tuple #[.agg #[.iface 56 (.pointer (some ⟨vn, 0, none⟩)), .int .i32 lv], .bool false]) ?_ rfl ⟨rfl, hO.sub [] (by decide)⟩
  simp [results, Tryz.results24, go_sem, z9_0_0, z9_0_1]
end Go.Proofs.YtghofdhhhbbaaaaGreatDoor.Use
