/- Nodes of a pattern, made. No condition. -/
import Derived.Test.YtghofdhhhbbaaaaGreatDoorIts
import Derived.Test.YtghofdhhhbbaaaaGreatDoorIfm
import Derived.Test.YtghofdhhhbbaaaaGreatDoorSla
import Derived.Test.YtghofdhhhbbaaaaGreatDoorLoop
import Derived.Test.YtghofdhhhbbaaaaGreatDoorMini
import Derived.Test.YtghofdhhhbbaaaaGreatDoorAppL
import Derived.Test.YtghofdhhhbbaaaaGreatDoorApp
import Derived.Test.YtghofdhhhbbaaaaGreatDoorOwnK
import Derived.Test.YtghofdhhhbbaaaaGreatDoorOwn
import Derived.Test.YtghofdhhhbbaaaaGreatDoorDeepCells
import Derived.Test.YtghofdhhhbbaaaaGreatDoorRows
import Derived.Test.YtghofdhhhbbaaaaGreatDoorLive
namespace Go.Proofs.YtghofdhhhbbaaaaGreatDoor.Use
open Go.ChangeShapes Go.WideShapes Go.ChangeAt Go.RowKit Go.Sort Own
set_option linter.unusedVariables false
def newIdPost  (w0 : World) (X : Nat → Obj → Prop) (e : Ending) (w' : World) : Prop :=
  ∃ b : Nat, e = .returned (.agg #[.iface 56 (.pointer (some ⟨b, 0, none⟩)), .int .i32 0]) ∧ Own w0 w' [] X
set_option maxRecDepth 100000 in
set_option maxHeartbeats 1000000 in
theorem newId  (w0 w : World) (X : Nat → Obj → Prop) (hO : Own w0 w [] X)  :
    Calls Tryz.prog 7 #[.int .u32 0] w (newIdPost  w0 X) := by
  go_enter Tryz.func7, Tryz.ntmps7
  go_wp2_with (first | (with_reducible refine Own.stay (fn := Tryz.f7) ?_) | fail)
  try with_reducible refine Own.Stay.mk ?_
  generalize hW : World.alloc _ _ = W2
  have hN : Own w0 W2 [row (w.heap.size + 1) 60 #[.int .u32 0, .int .u32 0, .bool false, .bool false, .bool false], row (w.heap.size) 29 #[.iface 56 (.pointer (some ⟨w.heap.size + 1, 0, none⟩)), .int .i32 0]] X := by
    rw [← hW]
    exact ((hO).alloc' _ (w.heap.size) (by simp)).alloc' _ (w.heap.size + 1) (by simp)
  clear hW hO
  generalize w.heap.size + 1 = B1_1 at hN ⊢
  generalize w.heap.size = B1 at hN ⊢
  have hO := hN
  clear hN
  have z9_1_0 : W2.cell? ⟨B1, 0, none⟩ = some (.iface 56 (.pointer (some ⟨B1_1, 0, none⟩))) := hO.cell 1 rfl 0 rfl
  have z9_1_1 : W2.cell? ⟨B1, 1, none⟩ = some (.int .i32 0) := hO.cell 1 rfl 1 rfl
  refine bodyPost_ret (v := .agg #[.iface 56 (.pointer (some ⟨B1_1, 0, none⟩)), .int .i32 0]) ?_ rfl ⟨B1_1, rfl, hO.sub [] (by decide)⟩
  simp [results, Tryz.results7, go_sem, z9_1_0, z9_1_1]
def newRpPost (vb : Nat) (w0 : World) (X : Nat → Obj → Prop) (e : Ending) (w' : World) : Prop :=
  e = .returned (.agg #[.pointer none, .nilIface, .int .i32 0, .iface 56 (.pointer (some ⟨vb, 0, none⟩)), .int .i32 0, .nilIface, .int .i32 0, .slice none 0 0, .int .i32 0, .int .i32 0, .int .u8 5, .int .u8 0]) ∧ Own w0 w' [] X
set_option maxRecDepth 100000 in
set_option maxHeartbeats 1000000 in
theorem newRp (vb : Nat) (w0 w : World) (X : Nat → Obj → Prop) (hO : Own w0 w [] X)  :
    Calls Tryz.prog 18 #[.agg #[.iface 56 (.pointer (some ⟨vb, 0, none⟩)), .int .i32 0]] w (newRpPost vb w0 X) := by
  go_enter Tryz.func18, Tryz.ntmps18
  go_wp2_with (first | (with_reducible refine Own.stay (fn := Tryz.f18) ?_) | fail)
  try with_reducible refine Own.Stay.mk ?_
  generalize hW : World.alloc _ _ = W2
  have hN : Own w0 W2 [row (w.heap.size + 1) 52 #[.pointer none, .nilIface, .int .i32 0, .iface 56 (.pointer (some ⟨vb, 0, none⟩)), .int .i32 0, .nilIface, .int .i32 0, .slice none 0 0, .int .i32 0, .int .i32 0, .int .u8 5, .int .u8 0], row (w.heap.size) 29 #[.iface 56 (.pointer (some ⟨vb, 0, none⟩)), .int .i32 0]] X := by
    rw [← hW]
    exact ((hO).alloc' _ (w.heap.size) (by simp)).alloc' _ (w.heap.size + 1) (by simp)
  clear hW hO
  generalize w.heap.size + 1 = B1_1 at hN ⊢
  generalize w.heap.size = B1 at hN ⊢
  have hO := hN
  clear hN
  have z9_0_0 : W2.cell? ⟨B1_1, 0, none⟩ = some (.pointer none) := hO.cell 0 rfl 0 rfl
  have z9_0_1 : W2.cell? ⟨B1_1, 1, none⟩ = some (.nilIface) := hO.cell 0 rfl 1 rfl
  have z9_0_2 : W2.cell? ⟨B1_1, 2, none⟩ = some (.int .i32 0) := hO.cell 0 rfl 2 rfl
  have z9_0_3 : W2.cell? ⟨B1_1, 3, none⟩ = some (.iface 56 (.pointer (some ⟨vb, 0, none⟩))) := hO.cell 0 rfl 3 rfl
  have z9_0_4 : W2.cell? ⟨B1_1, 4, none⟩ = some (.int .i32 0) := hO.cell 0 rfl 4 rfl
  have z9_0_5 : W2.cell? ⟨B1_1, 5, none⟩ = some (.nilIface) := hO.cell 0 rfl 5 rfl
  have z9_0_6 : W2.cell? ⟨B1_1, 6, none⟩ = some (.int .i32 0) := hO.cell 0 rfl 6 rfl
  have z9_0_7 : W2.cell? ⟨B1_1, 7, none⟩ = some (.slice none 0 0) := hO.cell 0 rfl 7 rfl
  have z9_0_8 : W2.cell? ⟨B1_1, 8, none⟩ = some (.int .i32 0) := hO.cell 0 rfl 8 rfl
  have z9_0_9 : W2.cell? ⟨B1_1, 9, none⟩ = some (.int .i32 0) := hO.cell 0 rfl 9 rfl
  have z9_0_10 : W2.cell? ⟨B1_1, 10, none⟩ = some (.int .u8 5) := hO.cell 0 rfl 10 rfl
  have z9_0_11 : W2.cell? ⟨B1_1, 11, none⟩ = some (.int .u8 0) := hO.cell 0 rfl 11 rfl
  refine bodyPost_ret (v := .agg #[.pointer none, .nilIface, .int .i32 0, .iface 56 (.pointer (some ⟨vb, 0, none⟩)), .int .i32 0, .nilIface, .int .i32 0, .slice none 0 0, .int .i32 0, .int .i32 0, .int .u8 5, .int .u8 0]) ?_ rfl ⟨rfl, hO.sub [] (by decide)⟩
  simp [results, Tryz.results18, go_sem, z9_0_0, z9_0_1, z9_0_2, z9_0_3, z9_0_4, z9_0_5, z9_0_6, z9_0_7, z9_0_8, z9_0_9, z9_0_10, z9_0_11]
def newObPost (pr pn pc : Nat) (w0 : World) (X : Nat → Obj → Prop) (e : Ending) (w' : World) : Prop :=
  ∃ ob : Nat, e = .returned (.agg #[.iface 202 (.pointer (some ⟨ob, 0, none⟩)), .int .i32 0]) ∧ Own w0 w' [row (ob) 204 #[.slice (some ⟨pr, 0, none⟩) pn pc, .int .i32 0, .int .i32 0, .bool false, .bool false]] X
set_option maxRecDepth 100000 in
set_option maxHeartbeats 1000000 in
theorem newOb (pr pn pc : Nat) (w0 w : World) (X : Nat → Obj → Prop) (hO : Own w0 w [] X)  :
    Calls Tryz.prog 19 #[.slice (some ⟨pr, 0, none⟩) pn pc] w (newObPost pr pn pc w0 X) := by
  go_enter Tryz.func19, Tryz.ntmps19
  go_wp2_with (first | (with_reducible refine Own.stay (fn := Tryz.f19) ?_) | fail)
  try with_reducible refine Own.Stay.mk ?_
  generalize hW : World.alloc _ _ = W2
  have hN : Own w0 W2 [row (w.heap.size + 1) 204 #[.slice (some ⟨pr, 0, none⟩) pn pc, .int .i32 0, .int .i32 0, .bool false, .bool false], row (w.heap.size) 29 #[.iface 202 (.pointer (some ⟨w.heap.size + 1, 0, none⟩)), .int .i32 0]] X := by
    rw [← hW]
    exact ((hO).alloc' _ (w.heap.size) (by simp)).alloc' _ (w.heap.size + 1) (by simp)
  clear hW hO
  generalize w.heap.size + 1 = B1_1 at hN ⊢
  generalize w.heap.size = B1 at hN ⊢
  have hO := hN
  clear hN
  have z9_1_0 : W2.cell? ⟨B1, 0, none⟩ = some (.iface 202 (.pointer (some ⟨B1_1, 0, none⟩))) := hO.cell 1 rfl 0 rfl
  have z9_1_1 : W2.cell? ⟨B1, 1, none⟩ = some (.int .i32 0) := hO.cell 1 rfl 1 rfl
  refine bodyPost_ret (v := .agg #[.iface 202 (.pointer (some ⟨B1_1, 0, none⟩)), .int .i32 0]) ?_ rfl ⟨B1_1, rfl, hO.sub [0] (by decide)⟩
  simp [results, Tryz.results19, go_sem, z9_1_0, z9_1_1]
def newArPost (ib pn pc : Nat) (w0 : World) (X : Nat → Obj → Prop) (e : Ending) (w' : World) : Prop :=
  ∃ ab : Nat, e = .returned (.agg #[.iface 205 (.pointer (some ⟨ab, 0, none⟩)), .int .i32 0]) ∧ Own w0 w' [row (ab) 207 #[.slice (some ⟨ib, 0, none⟩) pn pc, .int .i32 0, .int .i32 0, .bool false, .bool false]] X
set_option maxRecDepth 100000 in
set_option maxHeartbeats 1000000 in
theorem newAr (ib pn pc : Nat) (w0 w : World) (X : Nat → Obj → Prop) (hO : Own w0 w [] X)  :
    Calls Tryz.prog 20 #[.slice (some ⟨ib, 0, none⟩) pn pc] w (newArPost ib pn pc w0 X) := by
  go_enter Tryz.func20, Tryz.ntmps20
  go_wp2_with (first | (with_reducible refine Own.stay (fn := Tryz.f20) ?_) | fail)
  try with_reducible refine Own.Stay.mk ?_
  generalize hW : World.alloc _ _ = W2
  have hN : Own w0 W2 [row (w.heap.size + 1) 207 #[.slice (some ⟨ib, 0, none⟩) pn pc, .int .i32 0, .int .i32 0, .bool false, .bool false], row (w.heap.size) 29 #[.iface 205 (.pointer (some ⟨w.heap.size + 1, 0, none⟩)), .int .i32 0]] X := by
    rw [← hW]
    exact ((hO).alloc' _ (w.heap.size) (by simp)).alloc' _ (w.heap.size + 1) (by simp)
  clear hW hO
  generalize w.heap.size + 1 = B1_1 at hN ⊢
  generalize w.heap.size = B1 at hN ⊢
  have hO := hN
  clear hN
  have z9_1_0 : W2.cell? ⟨B1, 0, none⟩ = some (.iface 205 (.pointer (some ⟨B1_1, 0, none⟩))) := hO.cell 1 rfl 0 rfl
  have z9_1_1 : W2.cell? ⟨B1, 1, none⟩ = some (.int .i32 0) := hO.cell 1 rfl 1 rfl
  refine bodyPost_ret (v := .agg #[.iface 205 (.pointer (some ⟨B1_1, 0, none⟩)), .int .i32 0]) ?_ rfl ⟨B1_1, rfl, hO.sub [0] (by decide)⟩
  simp [results, Tryz.results20, go_sem, z9_1_0, z9_1_1]
end Go.Proofs.YtghofdhhhbbaaaaGreatDoor.Use
