/- The law over no items. No condition. -/
import Derived.Test.YtdbnnpoffpipjaaCuz
import Derived.Test.YtdbnnpoffpipjaaFlc
import Derived.Test.YtdbnnpoffpipjaaLp
import Derived.Test.YtdbnnpoffpipjaaCu
import Derived.Test.YtdbnnpoffpipjaaLf
import Derived.Test.YtdbnnpoffpipjaaIr
import Derived.Test.YtdbnnpoffpipjaaDr
import Derived.Test.YtdbnnpoffpipjaaLv
import Derived.Test.YtdbnnpoffpipjaaFlb
import Derived.Test.YtdbnnpoffpipjaaFin
import Derived.Test.YtdbnnpoffpipjaaFll
import Derived.Test.YtdbnnpoffpipjaaRdr
import Derived.Test.YtdbnnpoffpipjaaFfl
import Derived.Test.YtdbnnpoffpipjaaFfr
import Derived.Test.YtdbnnpoffpipjaaFnb
import Derived.Test.YtdbnnpoffpipjaaFp
import Derived.Test.YtdbnnpoffpipjaaFd
import Derived.Test.YtdbnnpoffpipjaaFn1
import Derived.Test.YtdbnnpoffpipjaaFf1
import Derived.Test.YtdbnnpoffpipjaaJn
import Derived.Test.YtdbnnpoffpipjaaTre
import Derived.Test.YtdbnnpoffpipjaaLoop
import Derived.Test.YtdbnnpoffpipjaaAppL
import Derived.Test.YtdbnnpoffpipjaaApp
import Derived.Test.YtdbnnpoffpipjaaOwnK
import Derived.Test.YtdbnnpoffpipjaaOwn
import Derived.Test.YtdbnnpoffpipjaaDeepCells
import Derived.Test.YtdbnnpoffpipjaaRows
namespace Go.Proofs.Ytdbnnpoffpipjaa.Use
open Go.ChangeShapes Go.WideShapes Go.ChangeAt Go.RowKit Go.Sort Own
set_option linter.unusedVariables false

set_option maxRecDepth 100000 in
set_option maxHeartbeats 4000000 in
theorem law32zNR (src inn : Int) (w0 w : World) (X : Nat → Obj → Prop) (hO : Own w0 w [] X)  :
    Calls Try.prog 3 #[.slice none 0 0, .bool true, .int .u32 src, .int .u32 inn] w (l32Post w0 X) := by
  go_enter Try.func3, Try.ntmps3
  have hme := makeExprs0
  have hmp := makePtrs0
  have heq := fun w => Lib.run_eql_slice_nil (P := Try.prog) w
  go_wp2_with (first | (with_reducible refine Own.stay (fn := Try.f3) ?_) | (first | (go_at_call 5; go_in) | (go_at_call 6; go_in)))
  try with_reducible refine Own.Stay.mk ?_
  generalize hW : World.alloc _ _ = W2
  have hN : Own w0 W2 [row (w.heap.size + 1 + 1 + 1) 36 (full ptrZ [] 0), row (w.heap.size + 1 + 1) 35 (full exprZ [] 0), row (w.heap.size + 1) 27 #[.int .u32 src, .int .u32 (bits BinOp.xor .u32 inn 1)], row (w.heap.size) 27 #[.int .u32 src, .int .u32 inn]] X := by
    rw [← hW]
    exact ((((hO).alloc' _ (w.heap.size) (by simp)).alloc' _ (w.heap.size + 1) (by simp)).alloc' _ (w.heap.size + 1 + 1) (by simp)).alloc' _ (w.heap.size + 1 + 1 + 1) (by simp)
  clear hW hO
  generalize w.heap.size + 1 + 1 + 1 = B1_3 at hN ⊢
  generalize w.heap.size + 1 + 1 = B1_2 at hN ⊢
  generalize w.heap.size + 1 = B1_1 at hN ⊢
  generalize w.heap.size = B1 at hN ⊢
  have hO := hN
  clear hN
  go_loopg [14] 1 (fun gf s14 wx => s14 = .int .i64 0 ∧ Own w0 wx [row (B1_3) 36 (full ptrZ [] 0), row (B1_2) 35 (full exprZ [] 0), row (B1_1) 27 #[.int .u32 src, .int .u32 (bits BinOp.xor .u32 inn 1)], row (B1) 27 #[.int .u32 src, .int .u32 inn]] X)
  case atStart => exact ⟨rfl, hO⟩
  obtain ⟨rfl, hO⟩ := hrel
  obtain ⟨c9_2_0, c9_2_1, lt9_2, y9_2, -⟩ := hO.k2 2 rfl
  obtain ⟨c9_3_0, c9_3_1, lt9_3, y9_3, -⟩ := hO.k2 3 rfl
  have HO := Lib.hid hO
  clear hO
  go_wp2_with (first | (with_reducible refine Own.stay (fn := Try.f3) ?_) | (first | (go_at_call 5; go_in) | (go_at_call 6; go_in)))
  try with_reducible refine Own.Stay.mk ?_
  have hO := HO.out
  clear HO c9_2_0 c9_2_1 lt9_2 y9_2 c9_3_0 c9_3_1 lt9_3 y9_3
  generalize hW : World.alloc _ _ = W4
  have hN : Own w0 W4 [row (wr.heap.size) 35 #[.nilIface, .int .i32 0], row (B1_3) 36 (full ptrZ [] 0), row (B1_2) 35 (full exprZ [] 0), row (B1_1) 27 #[.int .u32 src, .int .u32 (bits BinOp.xor .u32 inn 1)], row (B1) 27 #[.int .u32 src, .int .u32 inn]] X := by
    rw [← hW]
    exact (hO).alloc' _ (wr.heap.size) (by simp)
  clear hW hO
  generalize wr.heap.size = B3 at hN ⊢
  have hO := hN
  clear hN
  go_loopg [20, 21] 1 (fun gf s20 s21 wx => s20 = .int .i64 (-1) ∧ s21 = .int .i64 0 ∧ Own w0 wx [row (B3) 35 #[.nilIface, .int .i32 0], row (B1_3) 36 (full ptrZ [] 0), row (B1_2) 35 (full exprZ [] 0), row (B1_1) 27 #[.int .u32 src, .int .u32 (bits BinOp.xor .u32 inn 1)], row (B1) 27 #[.int .u32 src, .int .u32 inn]] X)
  case atStart => exact ⟨rfl, rfl, hO⟩
  obtain ⟨rfl, rfl, hO⟩ := hrel
  obtain ⟨c9_0_0, c9_0_1, lt9_0, y9_0, -⟩ := hO.k2 0 rfl
  obtain ⟨c9_3_0, c9_3_1, lt9_3, y9_3, -⟩ := hO.k2 3 rfl
  obtain ⟨c9_4_0, c9_4_1, lt9_4, y9_4, -⟩ := hO.k2 4 rfl
  have HO := Lib.hid hO
  clear hO
  go_wp2_with (first | (with_reducible refine Own.stay (fn := Try.f3) ?_) | (first | (go_at_call 5; go_in) | (go_at_call 6; go_in)))
  try with_reducible refine Own.Stay.mk ?_
  have hO := HO.out
  clear HO c9_0_0 c9_0_1 lt9_0 y9_0 c9_3_0 c9_3_1 lt9_3 y9_3 c9_4_0 c9_4_1 lt9_4 y9_4
  have hL := hO.apart
  have hX := hO.apartX
  have HL := Lib.hid hL
  have HX := Lib.hid hX
  clear hL hX
  have hP9 := hO.pick [] (by decide)
  have T9 := doorNil 0 src inn _ _ _ hP9 
  refine Calls.mono T9 ?_
  clear hP9 T9
  rintro e uw5 ⟨rfl, hQ⟩
  have hN : Own w0 uw5 [row (B3) 35 #[.nilIface, .int .i32 0], row (B1_3) 36 (full ptrZ [] 0), row (B1_2) 35 (full exprZ [] 0), row (B1_1) 27 #[.int .u32 src, .int .u32 (bits BinOp.xor .u32 inn 1)], row (B1) 27 #[.int .u32 src, .int .u32 inn]] X := hQ.back HL.out HX.out [0, 1, 2, 3, 4] (by decide) (by decide)
  clear hQ HL HX hO
  have hO := hN
  clear hN
  try simp only []
  obtain ⟨c9_0_0, c9_0_1, lt9_0, y9_0, -⟩ := hO.k2 0 rfl
  obtain ⟨c9_3_0, c9_3_1, lt9_3, y9_3, -⟩ := hO.k2 3 rfl
  obtain ⟨c9_4_0, c9_4_1, lt9_4, y9_4, -⟩ := hO.k2 4 rfl
  have HO := Lib.hid hO
  clear hO
  go_wp2_with (first | (with_reducible refine Own.stay (fn := Try.f3) ?_) | (first | (go_at_call 5; go_in) | (go_at_call 6; go_in)))
  try with_reducible refine Own.Stay.mk ?_
  have hO := HO.out
  clear HO c9_0_0 c9_0_1 lt9_0 y9_0 c9_3_0 c9_3_1 lt9_3 y9_3 c9_4_0 c9_4_1 lt9_4 y9_4
  generalize hW : World.alloc _ _ = W7
  have hN : Own w0 W7 [row (uw5.heap.size + 1 + 1) 35 #[.nilIface, .int .i32 0], row (uw5.heap.size + 1) 33 #[.int .i32 0], row (uw5.heap.size) 35 #[.nilIface, .int .i32 0], row (B3) 35 #[.nilIface, .int .i32 0], row (B1_3) 36 (full ptrZ [] 0), row (B1_2) 35 (full exprZ [] 0), row (B1_1) 27 #[.int .u32 src, .int .u32 (bits BinOp.xor .u32 inn 1)], row (B1) 27 #[.int .u32 src, .int .u32 inn]] X := by
    rw [← hW]
    exact (((hO).alloc' _ (uw5.heap.size) (by simp)).alloc' _ (uw5.heap.size + 1) (by simp)).alloc' _ (uw5.heap.size + 1 + 1) (by simp)
  clear hW hO
  generalize uw5.heap.size + 1 + 1 = B6_2 at hN ⊢
  generalize uw5.heap.size + 1 = B6_1 at hN ⊢
  generalize uw5.heap.size = B6 at hN ⊢
  have hO := hN
  clear hN
  have hL := hO.apart
  have hX := hO.apartX
  have HL := Lib.hid hL
  have HX := Lib.hid hX
  clear hL hX
  have hP9 := hO.pick [] (by decide)
  have T9 := callsUnZ B1_3 src inn (bits BinOp.xor .u32 inn 1) (- 1) _ _ _ hP9 
  refine Calls.mono T9 ?_
  clear hP9 T9
  rintro e uw8 ⟨rfl, hQ⟩
  have hN : Own w0 uw8 [row (B6_2) 35 #[.nilIface, .int .i32 0], row (B6_1) 33 #[.int .i32 0], row (B6) 35 #[.nilIface, .int .i32 0], row (B3) 35 #[.nilIface, .int .i32 0], row (B1_3) 36 (full ptrZ [] 0), row (B1_2) 35 (full exprZ [] 0), row (B1_1) 27 #[.int .u32 src, .int .u32 (bits BinOp.xor .u32 inn 1)], row (B1) 27 #[.int .u32 src, .int .u32 inn]] X := hQ.back HL.out HX.out [0, 1, 2, 3, 4, 5, 6, 7] (by decide) (by decide)
  clear hQ HL HX hO
  have hO := hN
  clear hN
  try simp only []
  obtain ⟨c9_0_0, c9_0_1, lt9_0, y9_0, -⟩ := hO.k2 0 rfl
  obtain ⟨c9_1_0, lt9_1, y9_1, -⟩ := hO.k1 1 rfl
  obtain ⟨c9_2_0, c9_2_1, lt9_2, y9_2, -⟩ := hO.k2 2 rfl
  obtain ⟨c9_3_0, c9_3_1, lt9_3, y9_3, -⟩ := hO.k2 3 rfl
  obtain ⟨c9_6_0, c9_6_1, lt9_6, y9_6, -⟩ := hO.k2 6 rfl
  obtain ⟨c9_7_0, c9_7_1, lt9_7, y9_7, -⟩ := hO.k2 7 rfl
  have HO := Lib.hid hO
  clear hO
  go_wp2_with (first | (with_reducible refine Own.stay (fn := Try.f3) ?_) | (first | (go_at_call 5; go_in) | (go_at_call 6; go_in)))
  try with_reducible refine Own.Stay.mk ?_
  have hO := HO.out
  clear HO c9_0_0 c9_0_1 lt9_0 y9_0 c9_1_0 lt9_1 y9_1 c9_2_0 c9_2_1 lt9_2 y9_2 c9_3_0 c9_3_1 lt9_3 y9_3 c9_6_0 c9_6_1 lt9_6 y9_6 c9_7_0 c9_7_1 lt9_7 y9_7
  have hO : Below w0.heap.size w0 uw8 := hO.below
  refine bodyPost_ret (v := .bool true) ?_ rfl ⟨rfl, hO⟩
  simp [results, Try.results3, go_sem]

set_option maxRecDepth 100000 in
set_option maxHeartbeats 4000000 in
theorem law32zNL (src inn : Int) (w0 w : World) (X : Nat → Obj → Prop) (hO : Own w0 w [] X)  :
    Calls Try.prog 3 #[.slice none 0 0, .bool false, .int .u32 src, .int .u32 inn] w (l32Post w0 X) := by
  go_enter Try.func3, Try.ntmps3
  have hme := makeExprs0
  have hmp := makePtrs0
  have heq := fun w => Lib.run_eql_slice_nil (P := Try.prog) w
  go_wp2_with (first | (with_reducible refine Own.stay (fn := Try.f3) ?_) | (first | (go_at_call 5; go_in) | (go_at_call 6; go_in)))
  try with_reducible refine Own.Stay.mk ?_
  generalize hW : World.alloc _ _ = W2
  have hN : Own w0 W2 [row (w.heap.size + 1 + 1 + 1) 36 (full ptrZ [] 0), row (w.heap.size + 1 + 1) 35 (full exprZ [] 0), row (w.heap.size + 1) 27 #[.int .u32 src, .int .u32 (bits BinOp.xor .u32 inn 1)], row (w.heap.size) 27 #[.int .u32 src, .int .u32 inn]] X := by
    rw [← hW]
    exact ((((hO).alloc' _ (w.heap.size) (by simp)).alloc' _ (w.heap.size + 1) (by simp)).alloc' _ (w.heap.size + 1 + 1) (by simp)).alloc' _ (w.heap.size + 1 + 1 + 1) (by simp)
  clear hW hO
  generalize w.heap.size + 1 + 1 + 1 = B1_3 at hN ⊢
  generalize w.heap.size + 1 + 1 = B1_2 at hN ⊢
  generalize w.heap.size + 1 = B1_1 at hN ⊢
  generalize w.heap.size = B1 at hN ⊢
  have hO := hN
  clear hN
  go_loopg [14] 1 (fun gf s14 wx => s14 = .int .i64 0 ∧ Own w0 wx [row (B1_3) 36 (full ptrZ [] 0), row (B1_2) 35 (full exprZ [] 0), row (B1_1) 27 #[.int .u32 src, .int .u32 (bits BinOp.xor .u32 inn 1)], row (B1) 27 #[.int .u32 src, .int .u32 inn]] X)
  case atStart => exact ⟨rfl, hO⟩
  obtain ⟨rfl, hO⟩ := hrel
  obtain ⟨c9_2_0, c9_2_1, lt9_2, y9_2, -⟩ := hO.k2 2 rfl
  obtain ⟨c9_3_0, c9_3_1, lt9_3, y9_3, -⟩ := hO.k2 3 rfl
  have HO := Lib.hid hO
  clear hO
  go_wp2_with (first | (with_reducible refine Own.stay (fn := Try.f3) ?_) | (first | (go_at_call 5; go_in) | (go_at_call 6; go_in)))
  try with_reducible refine Own.Stay.mk ?_
  have hO := HO.out
  clear HO c9_2_0 c9_2_1 lt9_2 y9_2 c9_3_0 c9_3_1 lt9_3 y9_3
  generalize hW : World.alloc _ _ = W4
  have hN : Own w0 W4 [row (wr.heap.size) 35 #[.nilIface, .int .i32 0], row (B1_3) 36 (full ptrZ [] 0), row (B1_2) 35 (full exprZ [] 0), row (B1_1) 27 #[.int .u32 src, .int .u32 (bits BinOp.xor .u32 inn 1)], row (B1) 27 #[.int .u32 src, .int .u32 inn]] X := by
    rw [← hW]
    exact (hO).alloc' _ (wr.heap.size) (by simp)
  clear hW hO
  generalize wr.heap.size = B3 at hN ⊢
  have hO := hN
  clear hN
  go_loopg [20, 21] 1 (fun gf s20 s21 wx => s20 = .int .i64 (-1) ∧ s21 = .int .i64 0 ∧ Own w0 wx [row (B3) 35 #[.nilIface, .int .i32 0], row (B1_3) 36 (full ptrZ [] 0), row (B1_2) 35 (full exprZ [] 0), row (B1_1) 27 #[.int .u32 src, .int .u32 (bits BinOp.xor .u32 inn 1)], row (B1) 27 #[.int .u32 src, .int .u32 inn]] X)
  case atStart => exact ⟨rfl, rfl, hO⟩
  obtain ⟨rfl, rfl, hO⟩ := hrel
  obtain ⟨c9_0_0, c9_0_1, lt9_0, y9_0, -⟩ := hO.k2 0 rfl
  obtain ⟨c9_3_0, c9_3_1, lt9_3, y9_3, -⟩ := hO.k2 3 rfl
  obtain ⟨c9_4_0, c9_4_1, lt9_4, y9_4, -⟩ := hO.k2 4 rfl
  have HO := Lib.hid hO
  clear hO
  go_wp2_with (first | (with_reducible refine Own.stay (fn := Try.f3) ?_) | (first | (go_at_call 5; go_in) | (go_at_call 6; go_in)))
  try with_reducible refine Own.Stay.mk ?_
  have hO := HO.out
  clear HO c9_0_0 c9_0_1 lt9_0 y9_0 c9_3_0 c9_3_1 lt9_3 y9_3 c9_4_0 c9_4_1 lt9_4 y9_4
  have hL := hO.apart
  have hX := hO.apartX
  have HL := Lib.hid hL
  have HX := Lib.hid hX
  clear hL hX
  have hP9 := hO.pick [] (by decide)
  have T9 := doorNil 0 src inn _ _ _ hP9 
  refine Calls.mono T9 ?_
  clear hP9 T9
  rintro e uw5 ⟨rfl, hQ⟩
  have hN : Own w0 uw5 [row (B3) 35 #[.nilIface, .int .i32 0], row (B1_3) 36 (full ptrZ [] 0), row (B1_2) 35 (full exprZ [] 0), row (B1_1) 27 #[.int .u32 src, .int .u32 (bits BinOp.xor .u32 inn 1)], row (B1) 27 #[.int .u32 src, .int .u32 inn]] X := hQ.back HL.out HX.out [0, 1, 2, 3, 4] (by decide) (by decide)
  clear hQ HL HX hO
  have hO := hN
  clear hN
  try simp only []
  obtain ⟨c9_0_0, c9_0_1, lt9_0, y9_0, -⟩ := hO.k2 0 rfl
  obtain ⟨c9_3_0, c9_3_1, lt9_3, y9_3, -⟩ := hO.k2 3 rfl
  obtain ⟨c9_4_0, c9_4_1, lt9_4, y9_4, -⟩ := hO.k2 4 rfl
  have HO := Lib.hid hO
  clear hO
  go_wp2_with (first | (with_reducible refine Own.stay (fn := Try.f3) ?_) | (first | (go_at_call 5; go_in) | (go_at_call 6; go_in)))
  try with_reducible refine Own.Stay.mk ?_
  have hO := HO.out
  clear HO c9_0_0 c9_0_1 lt9_0 y9_0 c9_3_0 c9_3_1 lt9_3 y9_3 c9_4_0 c9_4_1 lt9_4 y9_4
  generalize hW : World.alloc _ _ = W7
  have hN : Own w0 W7 [row (uw5.heap.size + 1 + 1) 35 #[.nilIface, .int .i32 0], row (uw5.heap.size + 1) 33 #[.int .i32 0], row (uw5.heap.size) 35 #[.nilIface, .int .i32 0], row (B3) 35 #[.nilIface, .int .i32 0], row (B1_3) 36 (full ptrZ [] 0), row (B1_2) 35 (full exprZ [] 0), row (B1_1) 27 #[.int .u32 src, .int .u32 (bits BinOp.xor .u32 inn 1)], row (B1) 27 #[.int .u32 src, .int .u32 inn]] X := by
    rw [← hW]
    exact (((hO).alloc' _ (uw5.heap.size) (by simp)).alloc' _ (uw5.heap.size + 1) (by simp)).alloc' _ (uw5.heap.size + 1 + 1) (by simp)
  clear hW hO
  generalize uw5.heap.size + 1 + 1 = B6_2 at hN ⊢
  generalize uw5.heap.size + 1 = B6_1 at hN ⊢
  generalize uw5.heap.size = B6 at hN ⊢
  have hO := hN
  clear hN
  have hL := hO.apart
  have hX := hO.apartX
  have HL := Lib.hid hL
  have HX := Lib.hid hX
  clear hL hX
  have hP9 := hO.pick [] (by decide)
  have T9 := callsUnZ B1_3 src inn (bits BinOp.xor .u32 inn 1) (- 1) _ _ _ hP9 
  refine Calls.mono T9 ?_
  clear hP9 T9
  rintro e uw8 ⟨rfl, hQ⟩
  have hN : Own w0 uw8 [row (B6_2) 35 #[.nilIface, .int .i32 0], row (B6_1) 33 #[.int .i32 0], row (B6) 35 #[.nilIface, .int .i32 0], row (B3) 35 #[.nilIface, .int .i32 0], row (B1_3) 36 (full ptrZ [] 0), row (B1_2) 35 (full exprZ [] 0), row (B1_1) 27 #[.int .u32 src, .int .u32 (bits BinOp.xor .u32 inn 1)], row (B1) 27 #[.int .u32 src, .int .u32 inn]] X := hQ.back HL.out HX.out [0, 1, 2, 3, 4, 5, 6, 7] (by decide) (by decide)
  clear hQ HL HX hO
  have hO := hN
  clear hN
  try simp only []
  obtain ⟨c9_0_0, c9_0_1, lt9_0, y9_0, -⟩ := hO.k2 0 rfl
  obtain ⟨c9_1_0, lt9_1, y9_1, -⟩ := hO.k1 1 rfl
  obtain ⟨c9_2_0, c9_2_1, lt9_2, y9_2, -⟩ := hO.k2 2 rfl
  obtain ⟨c9_3_0, c9_3_1, lt9_3, y9_3, -⟩ := hO.k2 3 rfl
  obtain ⟨c9_6_0, c9_6_1, lt9_6, y9_6, -⟩ := hO.k2 6 rfl
  obtain ⟨c9_7_0, c9_7_1, lt9_7, y9_7, -⟩ := hO.k2 7 rfl
  have HO := Lib.hid hO
  clear hO
  go_wp2_with (first | (with_reducible refine Own.stay (fn := Try.f3) ?_) | (first | (go_at_call 5; go_in) | (go_at_call 6; go_in)))
  try with_reducible refine Own.Stay.mk ?_
  have hO := HO.out
  clear HO c9_0_0 c9_0_1 lt9_0 y9_0 c9_1_0 lt9_1 y9_1 c9_2_0 c9_2_1 lt9_2 y9_2 c9_3_0 c9_3_1 lt9_3 y9_3 c9_6_0 c9_6_1 lt9_6 y9_6 c9_7_0 c9_7_1 lt9_7 y9_7
  have hO : Below w0.heap.size w0 uw8 := hO.below
  refine bodyPost_ret (v := .bool true) ?_ rfl ⟨rfl, hO⟩
  simp [results, Try.results3, go_sem]

set_option maxRecDepth 100000 in
set_option maxHeartbeats 4000000 in
theorem law32zSR (sa : Addr) (cp : Nat) (src inn : Int) (w0 w : World) (X : Nat → Obj → Prop) (hO : Own w0 w [] X)  :
    Calls Try.prog 3 #[.slice (some sa) 0 cp, .bool true, .int .u32 src, .int .u32 inn] w (l32Post w0 X) := by
  go_enter Try.func3, Try.ntmps3
  have hme := makeExprs0
  have hmp := makePtrs0
  have heq := fun w => Lib.run_eql_slice_nil (P := Try.prog) w
  go_wp2_with (first | (with_reducible refine Own.stay (fn := Try.f3) ?_) | (first | (go_at_call 5; go_in)))
  try with_reducible refine Own.Stay.mk ?_
  have hL := hO.apart
  have hX := hO.apartX
  have HL := Lib.hid hL
  have HX := Lib.hid hX
  clear hL hX
  have hP9 := hO.pick [] (by decide)
  have h9_hn : 0 ≤ 4096 := (by omega)
  have h9_hB : ∀ i, i < 0 → w0.cell? (sa.add i) = some (.int .u8 ((fun _ => 0) i : Int)) := (fun i hi => absurd hi (Nat.not_lt_zero i))
  have T9 := copyU8 sa 0 cp (fun _ => 0) _ _ _ hP9 h9_hn h9_hB
  refine Calls.mono T9 ?_
  clear hP9 T9 h9_hn h9_hB
  rintro e uw1 ⟨nd2, rfl, hQ⟩
  have hN : Own w0 uw1 [row (nd2) 5 (itR (fun _ => 0) 0)] X := hQ.back HL.out HX.out [] (by decide) (by decide)
  clear hQ HL HX hO
  have hO := hN
  clear hN
  try simp only []
  go_wp2_with (first | (with_reducible refine Own.stay (fn := Try.f3) ?_) | (first | (go_at_call 5; go_in)))
  try with_reducible refine Own.Stay.mk ?_
  generalize hW : World.alloc _ _ = W4
  have hN : Own w0 W4 [row (uw1.heap.size + 1 + 1 + 1) 36 (full ptrZ [] 0), row (uw1.heap.size + 1 + 1) 35 (full exprZ [] 0), row (uw1.heap.size + 1) 27 #[.int .u32 src, .int .u32 (bits BinOp.xor .u32 inn 1)], row (uw1.heap.size) 27 #[.int .u32 src, .int .u32 inn], row (nd2) 5 (itR (fun _ => 0) 0)] X := by
    rw [← hW]
    exact ((((hO).alloc' _ (uw1.heap.size) (by simp)).alloc' _ (uw1.heap.size + 1) (by simp)).alloc' _ (uw1.heap.size + 1 + 1) (by simp)).alloc' _ (uw1.heap.size + 1 + 1 + 1) (by simp)
  clear hW hO
  generalize uw1.heap.size + 1 + 1 + 1 = B3_3 at hN ⊢
  generalize uw1.heap.size + 1 + 1 = B3_2 at hN ⊢
  generalize uw1.heap.size + 1 = B3_1 at hN ⊢
  generalize uw1.heap.size = B3 at hN ⊢
  have hO := hN
  clear hN
  go_loopg [14] 1 (fun gf s14 wx => s14 = .int .i64 0 ∧ Own w0 wx [row (B3_3) 36 (full ptrZ [] 0), row (B3_2) 35 (full exprZ [] 0), row (B3_1) 27 #[.int .u32 src, .int .u32 (bits BinOp.xor .u32 inn 1)], row (B3) 27 #[.int .u32 src, .int .u32 inn], row (nd2) 5 (itR (fun _ => 0) 0)] X)
  case atStart => exact ⟨rfl, hO⟩
  obtain ⟨rfl, hO⟩ := hrel
  obtain ⟨c9_2_0, c9_2_1, lt9_2, y9_2, -⟩ := hO.k2 2 rfl
  obtain ⟨c9_3_0, c9_3_1, lt9_3, y9_3, -⟩ := hO.k2 3 rfl
  have HO := Lib.hid hO
  clear hO
  go_wp2_with (first | (with_reducible refine Own.stay (fn := Try.f3) ?_) | (first | (go_at_call 5; go_in)))
  try with_reducible refine Own.Stay.mk ?_
  have hO := HO.out
  clear HO c9_2_0 c9_2_1 lt9_2 y9_2 c9_3_0 c9_3_1 lt9_3 y9_3
  generalize hW : World.alloc _ _ = W6
  have hN : Own w0 W6 [row (wr.heap.size) 35 #[.nilIface, .int .i32 0], row (B3_3) 36 (full ptrZ [] 0), row (B3_2) 35 (full exprZ [] 0), row (B3_1) 27 #[.int .u32 src, .int .u32 (bits BinOp.xor .u32 inn 1)], row (B3) 27 #[.int .u32 src, .int .u32 inn], row (nd2) 5 (itR (fun _ => 0) 0)] X := by
    rw [← hW]
    exact (hO).alloc' _ (wr.heap.size) (by simp)
  clear hW hO
  generalize wr.heap.size = B5 at hN ⊢
  have hO := hN
  clear hN
  go_loopg [20, 21] 1 (fun gf s20 s21 wx => s20 = .int .i64 (-1) ∧ s21 = .int .i64 0 ∧ Own w0 wx [row (B5) 35 #[.nilIface, .int .i32 0], row (B3_3) 36 (full ptrZ [] 0), row (B3_2) 35 (full exprZ [] 0), row (B3_1) 27 #[.int .u32 src, .int .u32 (bits BinOp.xor .u32 inn 1)], row (B3) 27 #[.int .u32 src, .int .u32 inn], row (nd2) 5 (itR (fun _ => 0) 0)] X)
  case atStart => exact ⟨rfl, rfl, hO⟩
  obtain ⟨rfl, rfl, hO⟩ := hrel
  obtain ⟨c9_0_0, c9_0_1, lt9_0, y9_0, -⟩ := hO.k2 0 rfl
  obtain ⟨c9_3_0, c9_3_1, lt9_3, y9_3, -⟩ := hO.k2 3 rfl
  obtain ⟨c9_4_0, c9_4_1, lt9_4, y9_4, -⟩ := hO.k2 4 rfl
  have HO := Lib.hid hO
  clear hO
  go_wp2_with (first | (with_reducible refine Own.stay (fn := Try.f3) ?_) | (first | (go_at_call 5; go_in)))
  try with_reducible refine Own.Stay.mk ?_
  have hO := HO.out
  clear HO c9_0_0 c9_0_1 lt9_0 y9_0 c9_3_0 c9_3_1 lt9_3 y9_3 c9_4_0 c9_4_1 lt9_4 y9_4
  have hL := hO.apart
  have hX := hO.apartX
  have HL := Lib.hid hL
  have HX := Lib.hid hX
  clear hL hX
  have hP9 := hO.pick [] (by decide)
  have T9 := doorNil 0 src inn _ _ _ hP9 
  refine Calls.mono T9 ?_
  clear hP9 T9
  rintro e uw7 ⟨rfl, hQ⟩
  have hN : Own w0 uw7 [row (B5) 35 #[.nilIface, .int .i32 0], row (B3_3) 36 (full ptrZ [] 0), row (B3_2) 35 (full exprZ [] 0), row (B3_1) 27 #[.int .u32 src, .int .u32 (bits BinOp.xor .u32 inn 1)], row (B3) 27 #[.int .u32 src, .int .u32 inn], row (nd2) 5 (itR (fun _ => 0) 0)] X := hQ.back HL.out HX.out [0, 1, 2, 3, 4, 5] (by decide) (by decide)
  clear hQ HL HX hO
  have hO := hN
  clear hN
  try simp only []
  obtain ⟨c9_0_0, c9_0_1, lt9_0, y9_0, -⟩ := hO.k2 0 rfl
  obtain ⟨c9_3_0, c9_3_1, lt9_3, y9_3, -⟩ := hO.k2 3 rfl
  obtain ⟨c9_4_0, c9_4_1, lt9_4, y9_4, -⟩ := hO.k2 4 rfl
  have HO := Lib.hid hO
  clear hO
  go_wp2_with (first | (with_reducible refine Own.stay (fn := Try.f3) ?_) | (first | (go_at_call 5; go_in)))
  try with_reducible refine Own.Stay.mk ?_
  have hO := HO.out
  clear HO c9_0_0 c9_0_1 lt9_0 y9_0 c9_3_0 c9_3_1 lt9_3 y9_3 c9_4_0 c9_4_1 lt9_4 y9_4
  generalize hW : World.alloc _ _ = W9
  have hN : Own w0 W9 [row (uw7.heap.size + 1 + 1) 35 #[.nilIface, .int .i32 0], row (uw7.heap.size + 1) 33 #[.int .i32 0], row (uw7.heap.size) 35 #[.nilIface, .int .i32 0], row (B5) 35 #[.nilIface, .int .i32 0], row (B3_3) 36 (full ptrZ [] 0), row (B3_2) 35 (full exprZ [] 0), row (B3_1) 27 #[.int .u32 src, .int .u32 (bits BinOp.xor .u32 inn 1)], row (B3) 27 #[.int .u32 src, .int .u32 inn], row (nd2) 5 (itR (fun _ => 0) 0)] X := by
    rw [← hW]
    exact (((hO).alloc' _ (uw7.heap.size) (by simp)).alloc' _ (uw7.heap.size + 1) (by simp)).alloc' _ (uw7.heap.size + 1 + 1) (by simp)
  clear hW hO
  generalize uw7.heap.size + 1 + 1 = B8_2 at hN ⊢
  generalize uw7.heap.size + 1 = B8_1 at hN ⊢
  generalize uw7.heap.size = B8 at hN ⊢
  have hO := hN
  clear hN
  have hL := hO.apart
  have hX := hO.apartX
  have HL := Lib.hid hL
  have HX := Lib.hid hX
  clear hL hX
  have hP9 := hO.pick [] (by decide)
  have T9 := callsUnS nd2 B3_3 src inn (bits BinOp.xor .u32 inn 1) (- 1) _ _ _ hP9 
  refine Calls.mono T9 ?_
  clear hP9 T9
  rintro e uw10 ⟨rfl, hQ⟩
  have hN : Own w0 uw10 [row (B8_2) 35 #[.nilIface, .int .i32 0], row (B8_1) 33 #[.int .i32 0], row (B8) 35 #[.nilIface, .int .i32 0], row (B5) 35 #[.nilIface, .int .i32 0], row (B3_3) 36 (full ptrZ [] 0), row (B3_2) 35 (full exprZ [] 0), row (B3_1) 27 #[.int .u32 src, .int .u32 (bits BinOp.xor .u32 inn 1)], row (B3) 27 #[.int .u32 src, .int .u32 inn], row (nd2) 5 (itR (fun _ => 0) 0)] X := hQ.back HL.out HX.out [0, 1, 2, 3, 4, 5, 6, 7, 8] (by decide) (by decide)
  clear hQ HL HX hO
  have hO := hN
  clear hN
  try simp only []
  obtain ⟨c9_0_0, c9_0_1, lt9_0, y9_0, -⟩ := hO.k2 0 rfl
  obtain ⟨c9_1_0, lt9_1, y9_1, -⟩ := hO.k1 1 rfl
  obtain ⟨c9_2_0, c9_2_1, lt9_2, y9_2, -⟩ := hO.k2 2 rfl
  obtain ⟨c9_3_0, c9_3_1, lt9_3, y9_3, -⟩ := hO.k2 3 rfl
  obtain ⟨c9_6_0, c9_6_1, lt9_6, y9_6, -⟩ := hO.k2 6 rfl
  obtain ⟨c9_7_0, c9_7_1, lt9_7, y9_7, -⟩ := hO.k2 7 rfl
  have HO := Lib.hid hO
  clear hO
  go_wp2_with (first | (with_reducible refine Own.stay (fn := Try.f3) ?_) | (first | (go_at_call 5; go_in)))
  try with_reducible refine Own.Stay.mk ?_
  have hO := HO.out
  clear HO c9_0_0 c9_0_1 lt9_0 y9_0 c9_1_0 lt9_1 y9_1 c9_2_0 c9_2_1 lt9_2 y9_2 c9_3_0 c9_3_1 lt9_3 y9_3 c9_6_0 c9_6_1 lt9_6 y9_6 c9_7_0 c9_7_1 lt9_7 y9_7
  have hO : Below w0.heap.size w0 uw10 := hO.below
  refine bodyPost_ret (v := .bool true) ?_ rfl ⟨rfl, hO⟩
  simp [results, Try.results3, go_sem]

set_option maxRecDepth 100000 in
set_option maxHeartbeats 4000000 in
theorem law32zSL (sa : Addr) (cp : Nat) (src inn : Int) (w0 w : World) (X : Nat → Obj → Prop) (hO : Own w0 w [] X)  :
    Calls Try.prog 3 #[.slice (some sa) 0 cp, .bool false, .int .u32 src, .int .u32 inn] w (l32Post w0 X) := by
  go_enter Try.func3, Try.ntmps3
  have hme := makeExprs0
  have hmp := makePtrs0
  have heq := fun w => Lib.run_eql_slice_nil (P := Try.prog) w
  go_wp2_with (first | (with_reducible refine Own.stay (fn := Try.f3) ?_) | (first | (go_at_call 5; go_in)))
  try with_reducible refine Own.Stay.mk ?_
  have hL := hO.apart
  have hX := hO.apartX
  have HL := Lib.hid hL
  have HX := Lib.hid hX
  clear hL hX
  have hP9 := hO.pick [] (by decide)
  have h9_hn : 0 ≤ 4096 := (by omega)
  have h9_hB : ∀ i, i < 0 → w0.cell? (sa.add i) = some (.int .u8 ((fun _ => 0) i : Int)) := (fun i hi => absurd hi (Nat.not_lt_zero i))
  have T9 := copyU8 sa 0 cp (fun _ => 0) _ _ _ hP9 h9_hn h9_hB
  refine Calls.mono T9 ?_
  clear hP9 T9 h9_hn h9_hB
  rintro e uw1 ⟨nd2, rfl, hQ⟩
  have hN : Own w0 uw1 [row (nd2) 5 (itR (fun _ => 0) 0)] X := hQ.back HL.out HX.out [] (by decide) (by decide)
  clear hQ HL HX hO
  have hO := hN
  clear hN
  try simp only []
  go_wp2_with (first | (with_reducible refine Own.stay (fn := Try.f3) ?_) | (first | (go_at_call 5; go_in)))
  try with_reducible refine Own.Stay.mk ?_
  generalize hW : World.alloc _ _ = W4
  have hN : Own w0 W4 [row (uw1.heap.size + 1 + 1 + 1) 36 (full ptrZ [] 0), row (uw1.heap.size + 1 + 1) 35 (full exprZ [] 0), row (uw1.heap.size + 1) 27 #[.int .u32 src, .int .u32 (bits BinOp.xor .u32 inn 1)], row (uw1.heap.size) 27 #[.int .u32 src, .int .u32 inn], row (nd2) 5 (itR (fun _ => 0) 0)] X := by
    rw [← hW]
    exact ((((hO).alloc' _ (uw1.heap.size) (by simp)).alloc' _ (uw1.heap.size + 1) (by simp)).alloc' _ (uw1.heap.size + 1 + 1) (by simp)).alloc' _ (uw1.heap.size + 1 + 1 + 1) (by simp)
  clear hW hO
  generalize uw1.heap.size + 1 + 1 + 1 = B3_3 at hN ⊢
  generalize uw1.heap.size + 1 + 1 = B3_2 at hN ⊢
  generalize uw1.heap.size + 1 = B3_1 at hN ⊢
  generalize uw1.heap.size = B3 at hN ⊢
  have hO := hN
  clear hN
  go_loopg [14] 1 (fun gf s14 wx => s14 = .int .i64 0 ∧ Own w0 wx [row (B3_3) 36 (full ptrZ [] 0), row (B3_2) 35 (full exprZ [] 0), row (B3_1) 27 #[.int .u32 src, .int .u32 (bits BinOp.xor .u32 inn 1)], row (B3) 27 #[.int .u32 src, .int .u32 inn], row (nd2) 5 (itR (fun _ => 0) 0)] X)
  case atStart => exact ⟨rfl, hO⟩
  obtain ⟨rfl, hO⟩ := hrel
  obtain ⟨c9_2_0, c9_2_1, lt9_2, y9_2, -⟩ := hO.k2 2 rfl
  obtain ⟨c9_3_0, c9_3_1, lt9_3, y9_3, -⟩ := hO.k2 3 rfl
  have HO := Lib.hid hO
  clear hO
  go_wp2_with (first | (with_reducible refine Own.stay (fn := Try.f3) ?_) | (first | (go_at_call 5; go_in)))
  try with_reducible refine Own.Stay.mk ?_
  have hO := HO.out
  clear HO c9_2_0 c9_2_1 lt9_2 y9_2 c9_3_0 c9_3_1 lt9_3 y9_3
  generalize hW : World.alloc _ _ = W6
  have hN : Own w0 W6 [row (wr.heap.size) 35 #[.nilIface, .int .i32 0], row (B3_3) 36 (full ptrZ [] 0), row (B3_2) 35 (full exprZ [] 0), row (B3_1) 27 #[.int .u32 src, .int .u32 (bits BinOp.xor .u32 inn 1)], row (B3) 27 #[.int .u32 src, .int .u32 inn], row (nd2) 5 (itR (fun _ => 0) 0)] X := by
    rw [← hW]
    exact (hO).alloc' _ (wr.heap.size) (by simp)
  clear hW hO
  generalize wr.heap.size = B5 at hN ⊢
  have hO := hN
  clear hN
  go_loopg [20, 21] 1 (fun gf s20 s21 wx => s20 = .int .i64 (-1) ∧ s21 = .int .i64 0 ∧ Own w0 wx [row (B5) 35 #[.nilIface, .int .i32 0], row (B3_3) 36 (full ptrZ [] 0), row (B3_2) 35 (full exprZ [] 0), row (B3_1) 27 #[.int .u32 src, .int .u32 (bits BinOp.xor .u32 inn 1)], row (B3) 27 #[.int .u32 src, .int .u32 inn], row (nd2) 5 (itR (fun _ => 0) 0)] X)
  case atStart => exact ⟨rfl, rfl, hO⟩
  obtain ⟨rfl, rfl, hO⟩ := hrel
  obtain ⟨c9_0_0, c9_0_1, lt9_0, y9_0, -⟩ := hO.k2 0 rfl
  obtain ⟨c9_3_0, c9_3_1, lt9_3, y9_3, -⟩ := hO.k2 3 rfl
  obtain ⟨c9_4_0, c9_4_1, lt9_4, y9_4, -⟩ := hO.k2 4 rfl
  have HO := Lib.hid hO
  clear hO
  go_wp2_with (first | (with_reducible refine Own.stay (fn := Try.f3) ?_) | (first | (go_at_call 5; go_in)))
  try with_reducible refine Own.Stay.mk ?_
  have hO := HO.out
  clear HO c9_0_0 c9_0_1 lt9_0 y9_0 c9_3_0 c9_3_1 lt9_3 y9_3 c9_4_0 c9_4_1 lt9_4 y9_4
  have hL := hO.apart
  have hX := hO.apartX
  have HL := Lib.hid hL
  have HX := Lib.hid hX
  clear hL hX
  have hP9 := hO.pick [] (by decide)
  have T9 := doorNil 0 src inn _ _ _ hP9 
  refine Calls.mono T9 ?_
  clear hP9 T9
  rintro e uw7 ⟨rfl, hQ⟩
  have hN : Own w0 uw7 [row (B5) 35 #[.nilIface, .int .i32 0], row (B3_3) 36 (full ptrZ [] 0), row (B3_2) 35 (full exprZ [] 0), row (B3_1) 27 #[.int .u32 src, .int .u32 (bits BinOp.xor .u32 inn 1)], row (B3) 27 #[.int .u32 src, .int .u32 inn], row (nd2) 5 (itR (fun _ => 0) 0)] X := hQ.back HL.out HX.out [0, 1, 2, 3, 4, 5] (by decide) (by decide)
  clear hQ HL HX hO
  have hO := hN
  clear hN
  try simp only []
  obtain ⟨c9_0_0, c9_0_1, lt9_0, y9_0, -⟩ := hO.k2 0 rfl
  obtain ⟨c9_3_0, c9_3_1, lt9_3, y9_3, -⟩ := hO.k2 3 rfl
  obtain ⟨c9_4_0, c9_4_1, lt9_4, y9_4, -⟩ := hO.k2 4 rfl
  have HO := Lib.hid hO
  clear hO
  go_wp2_with (first | (with_reducible refine Own.stay (fn := Try.f3) ?_) | (first | (go_at_call 5; go_in)))
  try with_reducible refine Own.Stay.mk ?_
  have hO := HO.out
  clear HO c9_0_0 c9_0_1 lt9_0 y9_0 c9_3_0 c9_3_1 lt9_3 y9_3 c9_4_0 c9_4_1 lt9_4 y9_4
  generalize hW : World.alloc _ _ = W9
  have hN : Own w0 W9 [row (uw7.heap.size + 1 + 1) 35 #[.nilIface, .int .i32 0], row (uw7.heap.size + 1) 33 #[.int .i32 0], row (uw7.heap.size) 35 #[.nilIface, .int .i32 0], row (B5) 35 #[.nilIface, .int .i32 0], row (B3_3) 36 (full ptrZ [] 0), row (B3_2) 35 (full exprZ [] 0), row (B3_1) 27 #[.int .u32 src, .int .u32 (bits BinOp.xor .u32 inn 1)], row (B3) 27 #[.int .u32 src, .int .u32 inn], row (nd2) 5 (itR (fun _ => 0) 0)] X := by
    rw [← hW]
    exact (((hO).alloc' _ (uw7.heap.size) (by simp)).alloc' _ (uw7.heap.size + 1) (by simp)).alloc' _ (uw7.heap.size + 1 + 1) (by simp)
  clear hW hO
  generalize uw7.heap.size + 1 + 1 = B8_2 at hN ⊢
  generalize uw7.heap.size + 1 = B8_1 at hN ⊢
  generalize uw7.heap.size = B8 at hN ⊢
  have hO := hN
  clear hN
  have hL := hO.apart
  have hX := hO.apartX
  have HL := Lib.hid hL
  have HX := Lib.hid hX
  clear hL hX
  have hP9 := hO.pick [] (by decide)
  have T9 := callsUnS nd2 B3_3 src inn (bits BinOp.xor .u32 inn 1) (- 1) _ _ _ hP9 
  refine Calls.mono T9 ?_
  clear hP9 T9
  rintro e uw10 ⟨rfl, hQ⟩
  have hN : Own w0 uw10 [row (B8_2) 35 #[.nilIface, .int .i32 0], row (B8_1) 33 #[.int .i32 0], row (B8) 35 #[.nilIface, .int .i32 0], row (B5) 35 #[.nilIface, .int .i32 0], row (B3_3) 36 (full ptrZ [] 0), row (B3_2) 35 (full exprZ [] 0), row (B3_1) 27 #[.int .u32 src, .int .u32 (bits BinOp.xor .u32 inn 1)], row (B3) 27 #[.int .u32 src, .int .u32 inn], row (nd2) 5 (itR (fun _ => 0) 0)] X := hQ.back HL.out HX.out [0, 1, 2, 3, 4, 5, 6, 7, 8] (by decide) (by decide)
  clear hQ HL HX hO
  have hO := hN
  clear hN
  try simp only []
  obtain ⟨c9_0_0, c9_0_1, lt9_0, y9_0, -⟩ := hO.k2 0 rfl
  obtain ⟨c9_1_0, lt9_1, y9_1, -⟩ := hO.k1 1 rfl
  obtain ⟨c9_2_0, c9_2_1, lt9_2, y9_2, -⟩ := hO.k2 2 rfl
  obtain ⟨c9_3_0, c9_3_1, lt9_3, y9_3, -⟩ := hO.k2 3 rfl
  obtain ⟨c9_6_0, c9_6_1, lt9_6, y9_6, -⟩ := hO.k2 6 rfl
  obtain ⟨c9_7_0, c9_7_1, lt9_7, y9_7, -⟩ := hO.k2 7 rfl
  have HO := Lib.hid hO
  clear hO
  go_wp2_with (first | (with_reducible refine Own.stay (fn := Try.f3) ?_) | (first | (go_at_call 5; go_in)))
  try with_reducible refine Own.Stay.mk ?_
  have hO := HO.out
  clear HO c9_0_0 c9_0_1 lt9_0 y9_0 c9_1_0 lt9_1 y9_1 c9_2_0 c9_2_1 lt9_2 y9_2 c9_3_0 c9_3_1 lt9_3 y9_3 c9_6_0 c9_6_1 lt9_6 y9_6 c9_7_0 c9_7_1 lt9_7 y9_7
  have hO : Below w0.heap.size w0 uw10 := hO.below
  refine bodyPost_ret (v := .bool true) ?_ rfl ⟨rfl, hO⟩
  simp [results, Try.results3, go_sem]
end Go.Proofs.Ytdbnnpoffpipjaa.Use
