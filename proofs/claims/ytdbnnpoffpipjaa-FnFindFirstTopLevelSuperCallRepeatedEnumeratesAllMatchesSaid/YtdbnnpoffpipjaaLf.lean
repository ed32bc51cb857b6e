/- A leaf, made. No condition. -/
import Derived.Test.YtdbnnpoffpipjaaFd
import Derived.Test.YtdbnnpoffpipjaaFn1
import Derived.Test.YtdbnnpoffpipjaaFf1
import Derived.Test.YtdbnnpoffpipjaaJn
import Derived.Test.YtdbnnpoffpipjaaTre
import Derived.Test.YtdbnnpoffpipjaaLoop
import Derived.Test.YtdbnnpoffpipjaaAppL
import Derived.Test.YtdbnnpoffpipjaaApp
import Derived.Test.YtdbnnpoffpipjaaOwnK
import Derived.Test.YtdbnnpoffpipjaaOwn
import Derived.Test.YtdbnnpoffpipjaaDeepCells
import Derived.Test.YtdbnnpoffpipjaaRows
namespace Go.Proofs.Ytdbnnpoffpipjaa.Use
open Go.ChangeShapes Go.WideShapes Go.ChangeAt Go.RowKit Go.Sort Own
set_option linter.unusedVariables false
def leaf0Post (i : Nat) (it src inn inx : Int) (w0 : World) (X : Nat → Obj → Prop) (e : Ending) (w' : World) : Prop :=
  ∃ nb : Nat, e = .returned (.tuple #[.agg #[.iface 59 (.pointer (some ⟨nb, 0, none⟩)), .int .i32 (i : Int)], .pointer none]) ∧ Own w0 w' [] X
set_option maxRecDepth 100000 in
set_option maxHeartbeats 1000000 in
theorem leaf0 (i : Nat) (it src inn inx : Int) (w0 w : World) (X : Nat → Obj → Prop) (hO : Own w0 w [] X) (hi5 : i ≤ 5000) (hit : it.tmod 3 = 0) :
    Calls Try.prog 7 #[.int .i64 (i : Int), .int .u8 it, .agg #[.int .u32 src, .int .u32 inn], .agg #[.int .u32 src, .int .u32 inx]] w (leaf0Post i it src inn inx w0 X) := by
  go_enter Try.func7, Try.ntmps7
  have hi8 : (0 : Int) ≤ (i : Int) := by omega
  have hi9 : (i : Int) ≤ 5000 := by omega
  go_wp2_with (first | (with_reducible refine Own.stay (fn := Try.f7) ?_) | fail)
  try with_reducible refine Own.Stay.mk ?_
  generalize hW : World.alloc _ _ = W2
  have hN : Own w0 W2 [row (w.heap.size + 1 + 1 + 1 + 1) 62 #[.float .f64 (floatOfInt .f64 (i : Int))], row (w.heap.size + 1 + 1 + 1) 33 #[.int .i32 (i : Int)], row (w.heap.size + 1 + 1) 35 #[.iface 59 (.pointer (some ⟨w.heap.size + 1 + 1 + 1 + 1, 0, none⟩)), .int .i32 (i : Int)], row (w.heap.size + 1) 27 #[.int .u32 src, .int .u32 inx], row (w.heap.size) 27 #[.int .u32 src, .int .u32 inn]] X := by
    rw [← hW]
    exact (((((hO).alloc' _ (w.heap.size) (by simp)).alloc' _ (w.heap.size + 1) (by simp)).alloc' _ (w.heap.size + 1 + 1) (by simp)).alloc' _ (w.heap.size + 1 + 1 + 1) (by simp)).alloc' _ (w.heap.size + 1 + 1 + 1 + 1) (by simp)
  clear hW hO
  generalize w.heap.size + 1 + 1 + 1 + 1 = B1_4 at hN ⊢
  generalize w.heap.size + 1 + 1 + 1 = B1_3 at hN ⊢
  generalize w.heap.size + 1 + 1 = B1_2 at hN ⊢
  generalize w.heap.size + 1 = B1_1 at hN ⊢
  generalize w.heap.size = B1 at hN ⊢
  have hO := hN
  clear hN
  have z9_2_0 : W2.cell? ⟨B1_2, 0, none⟩ = some (.iface 59 (.pointer (some ⟨B1_4, 0, none⟩))) := hO.cell 2 rfl 0 rfl
  have z9_2_1 : W2.cell? ⟨B1_2, 1, none⟩ = some (.int .i32 (i : Int)) := hO.cell 2 rfl 1 rfl
  refine bodyPost_ret (v := .tuple #[.agg #[.iface 59 (.pointer (some ⟨B1_4, 0, none⟩)), .int .i32 (i : Int)], .pointer none]) ?_ rfl ⟨B1_4, rfl, hO.sub [] (by decide)⟩
  simp [results, Try.results7, go_sem, z9_2_0, z9_2_1]
def leaf1Post (i : Nat) (it src inn inx : Int) (w0 : World) (X : Nat → Obj → Prop) (e : Ending) (w' : World) : Prop :=
  ∃ idb : Nat, ∃ cb : Nat, e = .returned (.tuple #[.agg #[.iface 36 (.pointer (some ⟨cb, 0, none⟩)), .int .i32 (i : Int)], .pointer (some ⟨cb, 0, none⟩)]) ∧ Own w0 w' [row (cb) 46 #[.iface 56 (.pointer (some ⟨idb, 0, none⟩)), .int .i32 (i : Int), .slice none 0 0, .int .i32 0, .int .u8 0, .int .u8 0, .bool false, .bool false], row (idb) 58 #[.int .u32 src, .int .u32 inn, .bool false, .bool false, .bool false]] X
set_option maxRecDepth 100000 in
set_option maxHeartbeats 1000000 in
theorem leaf1 (i : Nat) (it src inn inx : Int) (w0 w : World) (X : Nat → Obj → Prop) (hO : Own w0 w [] X) (hi5 : i ≤ 5000) (hit : it.tmod 3 = 1) :
    Calls Try.prog 7 #[.int .i64 (i : Int), .int .u8 it, .agg #[.int .u32 src, .int .u32 inn], .agg #[.int .u32 src, .int .u32 inx]] w (leaf1Post i it src inn inx w0 X) := by
  go_enter Try.func7, Try.ntmps7
  have hi8 : (0 : Int) ≤ (i : Int) := by omega
  have hi9 : (i : Int) ≤ 5000 := by omega
  go_wp2_with (first | (with_reducible refine Own.stay (fn := Try.f7) ?_) | fail)
  try with_reducible refine Own.Stay.mk ?_
  generalize hW : World.alloc _ _ = W2
  have hN : Own w0 W2 [row (w.heap.size + 1 + 1 + 1 + 1 + 1) 46 #[.iface 56 (.pointer (some ⟨w.heap.size + 1 + 1 + 1 + 1, 0, none⟩)), .int .i32 (i : Int), .slice none 0 0, .int .i32 0, .int .u8 0, .int .u8 0, .bool false, .bool false], row (w.heap.size + 1 + 1 + 1 + 1) 58 #[.int .u32 src, .int .u32 inn, .bool false, .bool false, .bool false], row (w.heap.size + 1 + 1 + 1) 33 #[.int .i32 (i : Int)], row (w.heap.size + 1 + 1) 35 #[.iface 36 (.pointer (some ⟨w.heap.size + 1 + 1 + 1 + 1 + 1, 0, none⟩)), .int .i32 (i : Int)], row (w.heap.size + 1) 27 #[.int .u32 src, .int .u32 inx], row (w.heap.size) 27 #[.int .u32 src, .int .u32 inn]] X := by
    rw [← hW]
    exact ((((((hO).alloc' _ (w.heap.size) (by simp)).alloc' _ (w.heap.size + 1) (by simp)).alloc' _ (w.heap.size + 1 + 1) (by simp)).alloc' _ (w.heap.size + 1 + 1 + 1) (by simp)).alloc' _ (w.heap.size + 1 + 1 + 1 + 1) (by simp)).alloc' _ (w.heap.size + 1 + 1 + 1 + 1 + 1) (by simp)
  clear hW hO
  generalize w.heap.size + 1 + 1 + 1 + 1 + 1 = B1_5 at hN ⊢
  generalize w.heap.size + 1 + 1 + 1 + 1 = B1_4 at hN ⊢
  generalize w.heap.size + 1 + 1 + 1 = B1_3 at hN ⊢
  generalize w.heap.size + 1 + 1 = B1_2 at hN ⊢
  generalize w.heap.size + 1 = B1_1 at hN ⊢
  generalize w.heap.size = B1 at hN ⊢
  have hO := hN
  clear hN
  have z9_3_0 : W2.cell? ⟨B1_2, 0, none⟩ = some (.iface 36 (.pointer (some ⟨B1_5, 0, none⟩))) := hO.cell 3 rfl 0 rfl
  have z9_3_1 : W2.cell? ⟨B1_2, 1, none⟩ = some (.int .i32 (i : Int)) := hO.cell 3 rfl 1 rfl
  refine bodyPost_ret (v := .tuple #[.agg #[.iface 36 (.pointer (some ⟨B1_5, 0, none⟩)), .int .i32 (i : Int)], .pointer (some ⟨B1_5, 0, none⟩)]) ?_ rfl ⟨B1_4, B1_5, rfl, hO.sub [0, 1] (by decide)⟩
  simp [results, Try.results7, go_sem, z9_3_0, z9_3_1]
def leaf2Post (i : Nat) (it src inn inx : Int) (w0 : World) (X : Nat → Obj → Prop) (e : Ending) (w' : World) : Prop :=
  ∃ idb : Nat, ∃ cb : Nat, e = .returned (.tuple #[.agg #[.iface 36 (.pointer (some ⟨cb, 0, none⟩)), .int .i32 (i : Int)], .pointer (some ⟨cb, 0, none⟩)]) ∧ Own w0 w' [row (cb) 46 #[.iface 56 (.pointer (some ⟨idb, 0, none⟩)), .int .i32 (i : Int), .slice none 0 0, .int .i32 0, .int .u8 0, .int .u8 0, .bool false, .bool false], row (idb) 58 #[.int .u32 src, .int .u32 inx, .bool false, .bool false, .bool false]] X
set_option maxRecDepth 100000 in
set_option maxHeartbeats 1000000 in
theorem leaf2 (i : Nat) (it src inn inx : Int) (w0 w : World) (X : Nat → Obj → Prop) (hO : Own w0 w [] X) (hi5 : i ≤ 5000) (hit : it.tmod 3 = 2) :
    Calls Try.prog 7 #[.int .i64 (i : Int), .int .u8 it, .agg #[.int .u32 src, .int .u32 inn], .agg #[.int .u32 src, .int .u32 inx]] w (leaf2Post i it src inn inx w0 X) := by
  go_enter Try.func7, Try.ntmps7
  have hi8 : (0 : Int) ≤ (i : Int) := by omega
  have hi9 : (i : Int) ≤ 5000 := by omega
  go_wp2_with (first | (with_reducible refine Own.stay (fn := Try.f7) ?_) | fail)
  try with_reducible refine Own.Stay.mk ?_
  generalize hW : World.alloc _ _ = W2
  have hN : Own w0 W2 [row (w.heap.size + 1 + 1 + 1 + 1 + 1) 46 #[.iface 56 (.pointer (some ⟨w.heap.size + 1 + 1 + 1 + 1, 0, none⟩)), .int .i32 (i : Int), .slice none 0 0, .int .i32 0, .int .u8 0, .int .u8 0, .bool false, .bool false], row (w.heap.size + 1 + 1 + 1 + 1) 58 #[.int .u32 src, .int .u32 inx, .bool false, .bool false, .bool false], row (w.heap.size + 1 + 1 + 1) 33 #[.int .i32 (i : Int)], row (w.heap.size + 1 + 1) 35 #[.iface 36 (.pointer (some ⟨w.heap.size + 1 + 1 + 1 + 1 + 1, 0, none⟩)), .int .i32 (i : Int)], row (w.heap.size + 1) 27 #[.int .u32 src, .int .u32 inx], row (w.heap.size) 27 #[.int .u32 src, .int .u32 inn]] X := by
    rw [← hW]
    exact ((((((hO).alloc' _ (w.heap.size) (by simp)).alloc' _ (w.heap.size + 1) (by simp)).alloc' _ (w.heap.size + 1 + 1) (by simp)).alloc' _ (w.heap.size + 1 + 1 + 1) (by simp)).alloc' _ (w.heap.size + 1 + 1 + 1 + 1) (by simp)).alloc' _ (w.heap.size + 1 + 1 + 1 + 1 + 1) (by simp)
  clear hW hO
  generalize w.heap.size + 1 + 1 + 1 + 1 + 1 = B1_5 at hN ⊢
  generalize w.heap.size + 1 + 1 + 1 + 1 = B1_4 at hN ⊢
  generalize w.heap.size + 1 + 1 + 1 = B1_3 at hN ⊢
  generalize w.heap.size + 1 + 1 = B1_2 at hN ⊢
  generalize w.heap.size + 1 = B1_1 at hN ⊢
  generalize w.heap.size = B1 at hN ⊢
  have hO := hN
  clear hN
  have z9_3_0 : W2.cell? ⟨B1_2, 0, none⟩ = some (.iface 36 (.pointer (some ⟨B1_5, 0, none⟩))) := hO.cell 3 rfl 0 rfl
  have z9_3_1 : W2.cell? ⟨B1_2, 1, none⟩ = some (.int .i32 (i : Int)) := hO.cell 3 rfl 1 rfl
  refine bodyPost_ret (v := .tuple #[.agg #[.iface 36 (.pointer (some ⟨B1_5, 0, none⟩)), .int .i32 (i : Int)], .pointer (some ⟨B1_5, 0, none⟩)]) ?_ rfl ⟨B1_4, B1_5, rfl, hO.sub [0, 1] (by decide)⟩
  simp [results, Try.results7, go_sem, z9_3_0, z9_3_1]
end Go.Proofs.Ytdbnnpoffpipjaa.Use
