/- Readers. No condition. -/
import Derived.Test.YtdbnnpoffpipjaaFd
import Derived.Test.YtdbnnpoffpipjaaFn1
import Derived.Test.YtdbnnpoffpipjaaFf1
import Derived.Test.YtdbnnpoffpipjaaJn
import Derived.Test.YtdbnnpoffpipjaaTre
import Derived.Test.YtdbnnpoffpipjaaLoop
import Derived.Test.YtdbnnpoffpipjaaAppL
import Derived.Test.YtdbnnpoffpipjaaApp
import Derived.Test.YtdbnnpoffpipjaaOwnK
import Derived.Test.YtdbnnpoffpipjaaOwn
import Derived.Test.YtdbnnpoffpipjaaDeepCells
import Derived.Test.YtdbnnpoffpipjaaRows
namespace Go.Proofs.Ytdbnnpoffpipjaa.Use
open Go.ChangeShapes Go.WideShapes Go.ChangeAt Go.RowKit Go.Sort Own
set_option linter.unusedVariables false
def asBin1Post (b : Nat) (x : Int) (w0 : World) (X : Nat → Obj → Prop) (e : Ending) (w' : World) : Prop :=
  e = .returned (.tuple #[.pointer (some ⟨b, 0, none⟩), .bool true]) ∧ Own w0 w' [] X
set_option maxRecDepth 100000 in
set_option maxHeartbeats 1000000 in
theorem asBin1 (b : Nat) (x : Int) (w0 w : World) (X : Nat → Obj → Prop) (hO : Own w0 w [] X)  :
    Calls Try.prog 18 #[.agg #[.iface 63 (.pointer (some ⟨b, 0, none⟩)), .int .i32 x]] w (asBin1Post b x w0 X) := by
  go_enter Try.func18, Try.ntmps18
  go_wp2_with (first | (with_reducible refine Own.stay (fn := Try.f18) ?_) | fail)
  try with_reducible refine Own.Stay.mk ?_
  generalize hW : World.alloc _ _ = W2
  have hN : Own w0 W2 [row (w.heap.size) 35 #[.iface 63 (.pointer (some ⟨b, 0, none⟩)), .int .i32 x]] X := by
    rw [← hW]
    exact (hO).alloc' _ (w.heap.size) (by simp)
  clear hW hO
  generalize w.heap.size = B1 at hN ⊢
  have hO := hN
  clear hN
  refine bodyPost_ret (v := .tuple #[.pointer (some ⟨b, 0, none⟩), .bool true]) ?_ rfl ⟨rfl, hO.sub [] (by decide)⟩
  simp [results, Try.results18, go_sem]
def asBin0Post (v : Value) (x : Int) (w0 : World) (X : Nat → Obj → Prop) (e : Ending) (w' : World) : Prop :=
  e = .returned (.tuple #[.pointer none, .bool false]) ∧ Own w0 w' [] X
set_option maxRecDepth 100000 in
set_option maxHeartbeats 1000000 in
theorem asBin0 (v : Value) (x : Int) (w0 w : World) (X : Nat → Obj → Prop) (hO : Own w0 w [] X)  :
    Calls Try.prog 18 #[.agg #[.iface 59 v, .int .i32 x]] w (asBin0Post v x w0 X) := by
  go_enter Try.func18, Try.ntmps18
  go_wp2_with (first | (with_reducible refine Own.stay (fn := Try.f18) ?_) | fail)
  try with_reducible refine Own.Stay.mk ?_
  generalize hW : World.alloc _ _ = W2
  have hN : Own w0 W2 [row (w.heap.size) 35 #[.iface 59 v, .int .i32 x]] X := by
    rw [← hW]
    exact (hO).alloc' _ (w.heap.size) (by simp)
  clear hW hO
  generalize w.heap.size = B1 at hN ⊢
  have hO := hN
  clear hN
  refine bodyPost_ret (v := .tuple #[.pointer none, .bool false]) ?_ rfl ⟨rfl, hO.sub [] (by decide)⟩
  simp [results, Try.results18, go_sem]
def asBin2Post (v : Value) (x : Int) (w0 : World) (X : Nat → Obj → Prop) (e : Ending) (w' : World) : Prop :=
  e = .returned (.tuple #[.pointer none, .bool false]) ∧ Own w0 w' [] X
set_option maxRecDepth 100000 in
set_option maxHeartbeats 1000000 in
theorem asBin2 (v : Value) (x : Int) (w0 w : World) (X : Nat → Obj → Prop) (hO : Own w0 w [] X)  :
    Calls Try.prog 18 #[.agg #[.iface 36 v, .int .i32 x]] w (asBin2Post v x w0 X) := by
  go_enter Try.func18, Try.ntmps18
  go_wp2_with (first | (with_reducible refine Own.stay (fn := Try.f18) ?_) | fail)
  try with_reducible refine Own.Stay.mk ?_
  generalize hW : World.alloc _ _ = W2
  have hN : Own w0 W2 [row (w.heap.size) 35 #[.iface 36 v, .int .i32 x]] X := by
    rw [← hW]
    exact (hO).alloc' _ (w.heap.size) (by simp)
  clear hW hO
  generalize w.heap.size = B1 at hN ⊢
  have hO := hN
  clear hN
  refine bodyPost_ret (v := .tuple #[.pointer none, .bool false]) ?_ rfl ⟨rfl, hO.sub [] (by decide)⟩
  simp [results, Try.results18, go_sem]
def asId1Post (b : Nat) (x : Int) (w0 : World) (X : Nat → Obj → Prop) (e : Ending) (w' : World) : Prop :=
  e = .returned (.tuple #[.pointer (some ⟨b, 0, none⟩), .bool true]) ∧ Own w0 w' [] X
set_option maxRecDepth 100000 in
set_option maxHeartbeats 1000000 in
theorem asId1 (b : Nat) (x : Int) (w0 w : World) (X : Nat → Obj → Prop) (hO : Own w0 w [] X)  :
    Calls Try.prog 19 #[.agg #[.iface 56 (.pointer (some ⟨b, 0, none⟩)), .int .i32 x]] w (asId1Post b x w0 X) := by
  go_enter Try.func19, Try.ntmps19
  go_wp2_with (first | (with_reducible refine Own.stay (fn := Try.f19) ?_) | fail)
  try with_reducible refine Own.Stay.mk ?_
  generalize hW : World.alloc _ _ = W2
  have hN : Own w0 W2 [row (w.heap.size) 35 #[.iface 56 (.pointer (some ⟨b, 0, none⟩)), .int .i32 x]] X := by
    rw [← hW]
    exact (hO).alloc' _ (w.heap.size) (by simp)
  clear hW hO
  generalize w.heap.size = B1 at hN ⊢
  have hO := hN
  clear hN
  refine bodyPost_ret (v := .tuple #[.pointer (some ⟨b, 0, none⟩), .bool true]) ?_ rfl ⟨rfl, hO.sub [] (by decide)⟩
  simp [results, Try.results19, go_sem]
def asId0Post (b : Nat) (x : Int) (w0 : World) (X : Nat → Obj → Prop) (e : Ending) (w' : World) : Prop :=
  e = .returned (.tuple #[.pointer none, .bool false]) ∧ Own w0 w' [] X
set_option maxRecDepth 100000 in
set_option maxHeartbeats 1000000 in
theorem asId0 (b : Nat) (x : Int) (w0 w : World) (X : Nat → Obj → Prop) (hO : Own w0 w [] X)  :
    Calls Try.prog 19 #[.agg #[.iface 67 (.pointer (some ⟨b, 0, none⟩)), .int .i32 x]] w (asId0Post b x w0 X) := by
  go_enter Try.func19, Try.ntmps19
  go_wp2_with (first | (with_reducible refine Own.stay (fn := Try.f19) ?_) | fail)
  try with_reducible refine Own.Stay.mk ?_
  generalize hW : World.alloc _ _ = W2
  have hN : Own w0 W2 [row (w.heap.size) 35 #[.iface 67 (.pointer (some ⟨b, 0, none⟩)), .int .i32 x]] X := by
    rw [← hW]
    exact (hO).alloc' _ (w.heap.size) (by simp)
  clear hW hO
  generalize w.heap.size = B1 at hN ⊢
  have hO := hN
  clear hN
  refine bodyPost_ret (v := .tuple #[.pointer none, .bool false]) ?_ rfl ⟨rfl, hO.sub [] (by decide)⟩
  simp [results, Try.results19, go_sem]
def isSup1Post (b : Nat) (x : Int) (w0 : World) (X : Nat → Obj → Prop) (e : Ending) (w' : World) : Prop :=
  e = .returned (.bool true) ∧ Own w0 w' [] X
set_option maxRecDepth 100000 in
set_option maxHeartbeats 1000000 in
theorem isSup1 (b : Nat) (x : Int) (w0 w : World) (X : Nat → Obj → Prop) (hO : Own w0 w [] X)  :
    Calls Try.prog 10 #[.agg #[.iface 67 (.pointer (some ⟨b, 0, none⟩)), .int .i32 x]] w (isSup1Post b x w0 X) := by
  go_enter Try.func10, Try.ntmps10
  go_wp2_with (first | (with_reducible refine Own.stay (fn := Try.f10) ?_) | fail)
  try with_reducible refine Own.Stay.mk ?_
  generalize hW : World.alloc _ _ = W2
  have hN : Own w0 W2 [row (w.heap.size) 35 #[.iface 67 (.pointer (some ⟨b, 0, none⟩)), .int .i32 x]] X := by
    rw [← hW]
    exact (hO).alloc' _ (w.heap.size) (by simp)
  clear hW hO
  generalize w.heap.size = B1 at hN ⊢
  have hO := hN
  clear hN
  refine bodyPost_ret (v := .bool true) ?_ rfl ⟨rfl, hO.sub [] (by decide)⟩
  simp [results, Try.results10, go_sem]
def findNilPost (x src inn : Int) (w0 : World) (X : Nat → Obj → Prop) (e : Ending) (w' : World) : Prop :=
  e = .returned (.tuple #[.agg #[.nilIface, .int .i32 0], .agg #[.int .i32 0], .pointer none, .agg #[.nilIface, .int .i32 0]]) ∧ Own w0 w' [] X
set_option maxRecDepth 100000 in
set_option maxHeartbeats 1000000 in
theorem findNil (x src inn : Int) (w0 w : World) (X : Nat → Obj → Prop) (hO : Own w0 w [] X)  :
    Calls Try.prog 17 #[.agg #[.nilIface, .int .i32 x], .agg #[.int .u32 src, .int .u32 inn]] w (findNilPost x src inn w0 X) := by
  go_enter Try.func17, Try.ntmps17
  go_wp2_with (first | (with_reducible refine Own.stay (fn := Try.f17) ?_) | fail)
  try with_reducible refine Own.Stay.mk ?_
  generalize hW : World.alloc _ _ = W2
  have hN : Own w0 W2 [row (w.heap.size + 1 + 1 + 1 + 1) 35 #[.nilIface, .int .i32 0], row (w.heap.size + 1 + 1 + 1) 33 #[.int .i32 0], row (w.heap.size + 1 + 1) 35 #[.nilIface, .int .i32 0], row (w.heap.size + 1) 27 #[.int .u32 src, .int .u32 inn], row (w.heap.size) 35 #[.nilIface, .int .i32 x]] X := by
    rw [← hW]
    exact (((((hO).alloc' _ (w.heap.size) (by simp)).alloc' _ (w.heap.size + 1) (by simp)).alloc' _ (w.heap.size + 1 + 1) (by simp)).alloc' _ (w.heap.size + 1 + 1 + 1) (by simp)).alloc' _ (w.heap.size + 1 + 1 + 1 + 1) (by simp)
  clear hW hO
  generalize w.heap.size + 1 + 1 + 1 + 1 = B1_4 at hN ⊢
  generalize w.heap.size + 1 + 1 + 1 = B1_3 at hN ⊢
  generalize w.heap.size + 1 + 1 = B1_2 at hN ⊢
  generalize w.heap.size + 1 = B1_1 at hN ⊢
  generalize w.heap.size = B1 at hN ⊢
  have hO := hN
  clear hN
  have z9_2_0 : W2.cell? ⟨B1_2, 0, none⟩ = some (.nilIface) := hO.cell 2 rfl 0 rfl
  have z9_2_1 : W2.cell? ⟨B1_2, 1, none⟩ = some (.int .i32 0) := hO.cell 2 rfl 1 rfl
  have z9_1_0 : W2.cell? ⟨B1_3, 0, none⟩ = some (.int .i32 0) := hO.cell 1 rfl 0 rfl
  have z9_0_0 : W2.cell? ⟨B1_4, 0, none⟩ = some (.nilIface) := hO.cell 0 rfl 0 rfl
  have z9_0_1 : W2.cell? ⟨B1_4, 1, none⟩ = some (.int .i32 0) := hO.cell 0 rfl 1 rfl
  refine bodyPost_ret (v := .tuple #[.agg #[.nilIface, .int .i32 0], .agg #[.int .i32 0], .pointer none, .agg #[.nilIface, .int .i32 0]]) ?_ rfl ⟨rfl, hO.sub [] (by decide)⟩
  simp [results, Try.results17, go_sem, z9_2_0, z9_2_1, z9_1_0, z9_0_0, z9_0_1]
end Go.Proofs.Ytdbnnpoffpipjaa.Use
