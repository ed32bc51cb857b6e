/- The law on name capture, walked: one of its cases. No condition. -/
import Derived.Test.YtaoflhnkhgclhaaDoorLoop
import Derived.Test.YtaoflhnkhgclhaaDoorRead2
import Derived.Test.YtaoflhnkhgclhaaDoorRead
import Derived.Test.YtaoflhnkhgclhaaDoorCap
import Derived.Test.YtaoflhnkhgclhaaDoorCtx
import Derived.Test.YtaoflhnkhgclhaaDoorNewP
import Derived.Test.YtaoflhnkhgclhaaDoorNam
import Derived.Test.YtaoflhnkhgclhaaDoorVl
import Derived.Test.YtaoflhnkhgclhaaDoorApp
import Derived.Test.YtaoflhnkhgclhaaDoorOwnK
import Derived.Test.YtaoflhnkhgclhaaDoorOwn
import Derived.Test.YtaoflhnkhgclhaaDoorDeepCells
import Derived.Test.YtaoflhnkhgclhaaDoorRows
import Derived.Test.YtaoflhnkhgclhaaDoorUse
import Derived.Test.YtaoflhnkhgclhaaDoorLive
namespace Go.Proofs.YtaoflhnkhgclhaaDoor.Use
open Go.ChangeShapes Go.WideShapes Go.ChangeAt Go.RowKit Go.Sort Own
set_option linter.unusedVariables false
def law38E0Post  (w0 : World) (X : Nat → Obj → Prop) (e : Ending) (w' : World) : Prop :=
  e = .returned (.bool true) ∧ Own w0 w' [] X
set_option maxRecDepth 100000 in
set_option maxHeartbeats 1000000 in
theorem law38E0  (w0 w : World) (X : Nat → Obj → Prop) (hO : Own w0 w [] X) (hg0 : w0.cell? ⟨0, 0, none⟩ = some (.int .u32 4294967295)) (hg1 : w0.cell? ⟨0, 1, none⟩ = some (.int .u32 4294967295)) :
    Calls Tryd.prog 4 #[.int .i64 3, .bool false, .bool false, .int .i64 0] w (law38E0Post  w0 X) := by
  go_enter Tryd.func4, Tryd.ntmps4
  go_wp2_with (first | (with_reducible refine Own.stay (fn := Tryd.f4) ?_) | (first | (go_at_call 9; go_in)))
  try with_reducible refine Own.Stay.mk ?_
  have hL := hO.apart
  have hX := hO.apartX
  have HL := Lib.hid hL
  have HX := Lib.hid hX
  clear hL hX
  have hP9 := hO.pick [] (by decide)
  have T9 := newP  _ _ _ hP9 hg0 hg1
  refine Calls.mono T9 ?_
  clear hP9 T9
  rintro e u1 ⟨nd2, nd3, nd4, rfl, hQ⟩
  have hN : Own w0 u1 [row (nd2) 176 (newPar nd3 nd4)] X := hQ.back HL.out HX.out [] (by decide) (by decide)
  clear hQ HL HX hO
  have hO := hN
  clear hN
  go_wp2_with (first | (with_reducible refine Own.stay (fn := Tryd.f4) ?_) | (first | (go_at_call 9; go_in)))
  try with_reducible refine Own.Stay.mk ?_
  have hL := hO.apart
  have hX := hO.apartX
  have HL := Lib.hid hL
  have HX := Lib.hid hX
  clear hL hX
  have hP9 := hO.pick [0] (by decide)
  have T9 := newCtxU3 nd2 (newPar nd3 nd4) _ _ _ hP9 (newPar_66 _ _) (newPar_32 _ _) (newPar_106 _ _) hg0 hg1
  refine Calls.mono T9 ?_
  clear hP9 T9
  rintro e u5 ⟨nd6, nd7, nd8, nd9, rfl, hQ⟩
  have hN : Own w0 u5 [row (nd2) 176 ((newPar nd3 nd4).setIfInBounds 106 (.slice (some ⟨nd8, 0, none⟩) 1 (1 + nd9))), row (nd8) 199 (full symZ (symL ([sy ⟨#[100, 101, 102, 97, 117, 108, 116]⟩ 0])) nd9), row (nd6) 191 #[.string ⟨#[107, 101, 101, 112]⟩, .int .u8 3, .pointer (some ⟨nd7, 0, none⟩), .int .i32 0, .nilIface, .int .i32 0, .int .i32 0, .int .u32 0, .int .u32 0, .pointer none, .int .u32 4294967295, .int .u32 4294967295, .slice none 0 0, .slice none 0 0, .slice none 0 0, .slice none 0 0, .int .i64 0, .nilIface, .int .i32 0, .slice none 0 0, .slice none 0 0, .slice none 0 0, .slice none 0 0, .slice none 0 0, .int .u32 4294967295, .int .u32 4294967295, .nilIface, .int .i32 0, .map none, .bool false, .bool false, .slice none 0 0, .slice none 0 0, .slice none 0 0, .slice none 0 0, .int .u32 4294967295, .int .u32 4294967295, .int .u32 4294967295, .int .u32 4294967295, .nilFunc, .nilFunc, .bool false], row (nd7) 182 #[.slice none 0 0, .pointer none, .nilIface, .int .i32 0, .slice none 0 0, .int .i32 0, .int .i32 0, .int .i32 0, .int .i32 0, .bool false, .bool false]] X := hQ.back HL.out HX.out [] (by decide) (by decide)
  clear hQ HL HX hO
  have hO := hN
  clear hN
  have c9_2_0 : u5.cell? ⟨nd6, 0, none⟩ = some (.string ⟨#[107, 101, 101, 112]⟩) := hO.cell 2 rfl (0) rfl
  have c9_2_6 : u5.cell? ⟨nd6, 6, none⟩ = some (.int .i32 0) := hO.cell 2 rfl (6) rfl
  have c9_2_7 : u5.cell? ⟨nd6, 7, none⟩ = some (.int .u32 0) := hO.cell 2 rfl (7) rfl
  have c9_2_8 : u5.cell? ⟨nd6, 8, none⟩ = some (.int .u32 0) := hO.cell 2 rfl (8) rfl
  have lt9_2 : nd6 < u5.heap.size := hO.lt 2 rfl
  have y9_2 : ∀ o, u5.frozen? ⟨nd6, o, none⟩ = false := hO.free 2 rfl
  have c9_3_1 : u5.cell? ⟨nd7, 1, none⟩ = some (.pointer none) := hO.cell 3 rfl (1) rfl
  have lt9_3 : nd7 < u5.heap.size := hO.lt 3 rfl
  have y9_3 : ∀ o, u5.frozen? ⟨nd7, o, none⟩ = false := hO.free 3 rfl
  have HO := Lib.hid hO
  clear hO
  go_wp2_with (first | (with_reducible refine Own.stay (fn := Tryd.f4) ?_) | (first | (go_at_call 9; go_in)))
  try with_reducible refine Own.Stay.mk ?_
  have hO := HO.out
  clear HO c9_2_0 c9_2_6 c9_2_7 c9_2_8 lt9_2 y9_2 c9_3_1 lt9_3 y9_3
  have hL := hO.apart
  have hX := hO.apartX
  have HL := Lib.hid hL
  have HX := Lib.hid hX
  clear hL hX
  have hP9 := hO.pick [0] (by decide)
  have T9 := symCnt nd2 ((newPar nd3 nd4).setIfInBounds 106 (.slice (some ⟨nd8, 0, none⟩) 1 (1 + nd9))) nd8 nd9 1 _ _ _ hP9 (get_set (newPar_106 _ _) _)
  refine Calls.mono T9 ?_
  clear hP9 T9
  rintro e u10 ⟨rfl, hQ⟩
  have hN : Own w0 u10 [row (nd2) 176 ((newPar nd3 nd4).setIfInBounds 106 (.slice (some ⟨nd8, 0, none⟩) 1 (1 + nd9))), row (nd8) 199 (full symZ (symL ([sy ⟨#[100, 101, 102, 97, 117, 108, 116]⟩ 0])) nd9), row (nd6) 191 #[.string ⟨#[107, 101, 101, 112]⟩, .int .u8 3, .pointer (some ⟨nd7, 0, none⟩), .int .i32 0, .nilIface, .int .i32 0, .int .i32 0, .int .u32 0, .int .u32 0, .pointer none, .int .u32 4294967295, .int .u32 4294967295, .slice none 0 0, .slice none 0 0, .slice none 0 0, .slice none 0 0, .int .i64 0, .nilIface, .int .i32 0, .slice none 0 0, .slice none 0 0, .slice none 0 0, .slice none 0 0, .slice none 0 0, .int .u32 4294967295, .int .u32 4294967295, .nilIface, .int .i32 0, .map none, .bool false, .bool false, .slice none 0 0, .slice none 0 0, .slice none 0 0, .slice none 0 0, .int .u32 4294967295, .int .u32 4294967295, .int .u32 4294967295, .int .u32 4294967295, .nilFunc, .nilFunc, .bool false], row (nd7) 182 #[.slice none 0 0, .pointer none, .nilIface, .int .i32 0, .slice none 0 0, .int .i32 0, .int .i32 0, .int .i32 0, .int .i32 0, .bool false, .bool false]] X := hQ.back HL.out HX.out [1, 2, 3] (by decide) (by decide)
  clear hQ HL HX hO
  have hO := hN
  clear hN
  have c9_2_0 : u10.cell? ⟨nd6, 0, none⟩ = some (.string ⟨#[107, 101, 101, 112]⟩) := hO.cell 2 rfl (0) rfl
  have c9_2_6 : u10.cell? ⟨nd6, 6, none⟩ = some (.int .i32 0) := hO.cell 2 rfl (6) rfl
  have c9_2_7 : u10.cell? ⟨nd6, 7, none⟩ = some (.int .u32 0) := hO.cell 2 rfl (7) rfl
  have c9_2_8 : u10.cell? ⟨nd6, 8, none⟩ = some (.int .u32 0) := hO.cell 2 rfl (8) rfl
  have lt9_2 : nd6 < u10.heap.size := hO.lt 2 rfl
  have y9_2 : ∀ o, u10.frozen? ⟨nd6, o, none⟩ = false := hO.free 2 rfl
  have c9_3_1 : u10.cell? ⟨nd7, 1, none⟩ = some (.pointer none) := hO.cell 3 rfl (1) rfl
  have lt9_3 : nd7 < u10.heap.size := hO.lt 3 rfl
  have y9_3 : ∀ o, u10.frozen? ⟨nd7, o, none⟩ = false := hO.free 3 rfl
  have HO := Lib.hid hO
  clear hO
  go_wp2_with (first | (with_reducible refine Own.stay (fn := Tryd.f4) ?_) | (first | (go_at_call 9; go_in)))
  try with_reducible refine Own.Stay.mk ?_
  have hO := HO.out
  clear HO c9_2_0 c9_2_6 c9_2_7 c9_2_8 lt9_2 y9_2 c9_3_1 lt9_3 y9_3
  have hL := hO.apart
  have hX := hO.apartX
  have HL := Lib.hid hL
  have HX := Lib.hid hX
  clear hL hX
  have hP9 := hO.pick [0, 2] (by decide)
  have T9 := zenO nd2 ((newPar nd3 nd4).setIfInBounds 106 (.slice (some ⟨nd8, 0, none⟩) 1 (1 + nd9))) nd6 #[.string ⟨#[107, 101, 101, 112]⟩, .int .u8 3, .pointer (some ⟨nd7, 0, none⟩), .int .i32 0, .nilIface, .int .i32 0, .int .i32 0, .int .u32 0, .int .u32 0, .pointer none, .int .u32 4294967295, .int .u32 4294967295, .slice none 0 0, .slice none 0 0, .slice none 0 0, .slice none 0 0, .int .i64 0, .nilIface, .int .i32 0, .slice none 0 0, .slice none 0 0, .slice none 0 0, .slice none 0 0, .slice none 0 0, .int .u32 4294967295, .int .u32 4294967295, .nilIface, .int .i32 0, .map none, .bool false, .bool false, .slice none 0 0, .slice none 0 0, .slice none 0 0, .slice none 0 0, .int .u32 4294967295, .int .u32 4294967295, .int .u32 4294967295, .int .u32 4294967295, .nilFunc, .nilFunc, .bool false] .nilFunc 0 _ _ _ hP9 (get_other (newPar_66 _ _) (by omega) _) rfl hg0 hg1
  refine Calls.mono T9 ?_
  clear hP9 T9
  rintro e u11 ⟨nd12, nd13, nd14, rfl, hQ⟩
  have hN : Own w0 u11 [row (nd2) 176 ((newPar nd3 nd4).setIfInBounds 106 (.slice (some ⟨nd8, 0, none⟩) 1 (1 + nd9))), row (nd6) 191 #[.string ⟨#[107, 101, 101, 112]⟩, .int .u8 3, .pointer (some ⟨nd7, 0, none⟩), .int .i32 0, .nilIface, .int .i32 0, .int .i32 0, .int .u32 0, .int .u32 0, .pointer none, .int .u32 4294967295, .int .u32 4294967295, .slice none 0 0, .slice none 0 0, .slice none 0 0, .slice none 0 0, .int .i64 0, .nilIface, .int .i32 0, .slice none 0 0, .slice none 0 0, .slice none 0 0, .slice none 0 0, .slice none 0 0, .int .u32 4294967295, .int .u32 4294967295, .nilIface, .int .i32 0, .map none, .bool false, .bool false, .slice none 0 0, .slice none 0 0, .slice none 0 0, .slice none 0 0, .int .u32 4294967295, .int .u32 4294967295, .int .u32 4294967295, .int .u32 4294967295, .func (Fn.func 19) #[] #[.pointer (some ⟨nd12, 0, none⟩), .pointer (some ⟨nd13, 0, none⟩), .pointer (some ⟨nd14, 0, none⟩)], .nilFunc, .bool false], row (nd12) 27 #[.pointer (some ⟨nd6, 0, none⟩)], row (nd13) 25 #[.pointer (some ⟨nd2, 0, none⟩)], row (nd14) 202 #[.pointer none, .int .u32 4294967295, .int .u32 4294967295, .int .u32 4294967295, .int .u32 4294967295, .bool false], row (nd8) 199 (full symZ (symL ([sy ⟨#[100, 101, 102, 97, 117, 108, 116]⟩ 0])) nd9), row (nd7) 182 #[.slice none 0 0, .pointer none, .nilIface, .int .i32 0, .slice none 0 0, .int .i32 0, .int .i32 0, .int .i32 0, .int .i32 0, .bool false, .bool false]] X := hQ.back HL.out HX.out [1, 3] (by decide) (by decide)
  clear hQ HL HX hO
  have hO := hN
  clear hN
  have c9_1_0 : u11.cell? ⟨nd6, 0, none⟩ = some (.string ⟨#[107, 101, 101, 112]⟩) := hO.cell 1 rfl (0) rfl
  have c9_1_6 : u11.cell? ⟨nd6, 6, none⟩ = some (.int .i32 0) := hO.cell 1 rfl (6) rfl
  have c9_1_7 : u11.cell? ⟨nd6, 7, none⟩ = some (.int .u32 0) := hO.cell 1 rfl (7) rfl
  have c9_1_8 : u11.cell? ⟨nd6, 8, none⟩ = some (.int .u32 0) := hO.cell 1 rfl (8) rfl
  have lt9_1 : nd6 < u11.heap.size := hO.lt 1 rfl
  have y9_1 : ∀ o, u11.frozen? ⟨nd6, o, none⟩ = false := hO.free 1 rfl
  obtain ⟨c9_2_0, lt9_2, y9_2, -⟩ := hO.k1 2 rfl
  obtain ⟨c9_3_0, lt9_3, y9_3, -⟩ := hO.k1 3 rfl
  obtain ⟨c9_4_0, c9_4_1, c9_4_2, c9_4_3, c9_4_4, c9_4_5, lt9_4, y9_4, -⟩ := hO.k6 4 rfl
  have c9_6_1 : u11.cell? ⟨nd7, 1, none⟩ = some (.pointer none) := hO.cell 6 rfl (1) rfl
  have lt9_6 : nd7 < u11.heap.size := hO.lt 6 rfl
  have y9_6 : ∀ o, u11.frozen? ⟨nd7, o, none⟩ = false := hO.free 6 rfl
  have HO := Lib.hid hO
  clear hO
  go_wp2_with (first | (with_reducible refine Own.stay (fn := Tryd.f4) ?_) | (first | (go_at_call 9; go_in)))
  try with_reducible refine Own.Stay.mk ?_
  have hO := HO.out
  clear HO c9_1_0 c9_1_6 c9_1_7 c9_1_8 lt9_1 y9_1 c9_2_0 lt9_2 y9_2 c9_3_0 lt9_3 y9_3 c9_4_0 c9_4_1 c9_4_2 c9_4_3 c9_4_4 c9_4_5 lt9_4 y9_4 c9_6_1 lt9_6 y9_6
  have hL := hO.apart
  have hX := hO.apartX
  have HL := Lib.hid hL
  have HX := Lib.hid hX
  clear hL hX
  have hP9 := hO.pick [0] (by decide)
  have T9 := symCnt nd2 ((newPar nd3 nd4).setIfInBounds 106 (.slice (some ⟨nd8, 0, none⟩) 1 (1 + nd9))) nd8 nd9 1 _ _ _ hP9 (get_set (newPar_106 _ _) _)
  refine Calls.mono T9 ?_
  clear hP9 T9
  rintro e u15 ⟨rfl, hQ⟩
  have hN : Own w0 u15 [row (nd2) 176 ((newPar nd3 nd4).setIfInBounds 106 (.slice (some ⟨nd8, 0, none⟩) 1 (1 + nd9))), row (nd6) 191 #[.string ⟨#[107, 101, 101, 112]⟩, .int .u8 3, .pointer (some ⟨nd7, 0, none⟩), .int .i32 0, .nilIface, .int .i32 0, .int .i32 0, .int .u32 0, .int .u32 0, .pointer none, .int .u32 4294967295, .int .u32 4294967295, .slice none 0 0, .slice none 0 0, .slice none 0 0, .slice none 0 0, .int .i64 0, .nilIface, .int .i32 0, .slice none 0 0, .slice none 0 0, .slice none 0 0, .slice none 0 0, .slice none 0 0, .int .u32 4294967295, .int .u32 4294967295, .nilIface, .int .i32 0, .map none, .bool false, .bool false, .slice none 0 0, .slice none 0 0, .slice none 0 0, .slice none 0 0, .int .u32 4294967295, .int .u32 4294967295, .int .u32 4294967295, .int .u32 4294967295, .func (Fn.func 19) #[] #[.pointer (some ⟨nd12, 0, none⟩), .pointer (some ⟨nd13, 0, none⟩), .pointer (some ⟨nd14, 0, none⟩)], .nilFunc, .bool false], row (nd12) 27 #[.pointer (some ⟨nd6, 0, none⟩)], row (nd13) 25 #[.pointer (some ⟨nd2, 0, none⟩)], row (nd14) 202 #[.pointer none, .int .u32 4294967295, .int .u32 4294967295, .int .u32 4294967295, .int .u32 4294967295, .bool false], row (nd8) 199 (full symZ (symL ([sy ⟨#[100, 101, 102, 97, 117, 108, 116]⟩ 0])) nd9), row (nd7) 182 #[.slice none 0 0, .pointer none, .nilIface, .int .i32 0, .slice none 0 0, .int .i32 0, .int .i32 0, .int .i32 0, .int .i32 0, .bool false, .bool false]] X := hQ.back HL.out HX.out [1, 2, 3, 4, 5, 6] (by decide) (by decide)
  clear hQ HL HX hO
  have hO := hN
  clear hN
  have c9_1_0 : u15.cell? ⟨nd6, 0, none⟩ = some (.string ⟨#[107, 101, 101, 112]⟩) := hO.cell 1 rfl (0) rfl
  have c9_1_6 : u15.cell? ⟨nd6, 6, none⟩ = some (.int .i32 0) := hO.cell 1 rfl (6) rfl
  have c9_1_7 : u15.cell? ⟨nd6, 7, none⟩ = some (.int .u32 0) := hO.cell 1 rfl (7) rfl
  have c9_1_8 : u15.cell? ⟨nd6, 8, none⟩ = some (.int .u32 0) := hO.cell 1 rfl (8) rfl
  have lt9_1 : nd6 < u15.heap.size := hO.lt 1 rfl
  have y9_1 : ∀ o, u15.frozen? ⟨nd6, o, none⟩ = false := hO.free 1 rfl
  obtain ⟨c9_2_0, lt9_2, y9_2, -⟩ := hO.k1 2 rfl
  obtain ⟨c9_3_0, lt9_3, y9_3, -⟩ := hO.k1 3 rfl
  obtain ⟨c9_4_0, c9_4_1, c9_4_2, c9_4_3, c9_4_4, c9_4_5, lt9_4, y9_4, -⟩ := hO.k6 4 rfl
  have c9_6_1 : u15.cell? ⟨nd7, 1, none⟩ = some (.pointer none) := hO.cell 6 rfl (1) rfl
  have lt9_6 : nd7 < u15.heap.size := hO.lt 6 rfl
  have y9_6 : ∀ o, u15.frozen? ⟨nd7, o, none⟩ = false := hO.free 6 rfl
  have HO := Lib.hid hO
  clear hO
  go_wp2_with (first | (with_reducible refine Own.stay (fn := Tryd.f4) ?_) | (first | (go_at_call 9; go_in)))
  try with_reducible refine Own.Stay.mk ?_
  have hO := HO.out
  clear HO c9_1_0 c9_1_6 c9_1_7 c9_1_8 lt9_1 y9_1 c9_2_0 lt9_2 y9_2 c9_3_0 lt9_3 y9_3 c9_4_0 c9_4_1 c9_4_2 c9_4_3 c9_4_4 c9_4_5 lt9_4 y9_4 c9_6_1 lt9_6 y9_6
  have hL := hO.apart
  have hX := hO.apartX
  have HL := Lib.hid hL
  have HX := Lib.hid hX
  clear hL hX
  have hP9 := hO.pick [1, 6] (by decide)
  have T9 := clsNm0 nd6 #[.string ⟨#[107, 101, 101, 112]⟩, .int .u8 3, .pointer (some ⟨nd7, 0, none⟩), .int .i32 0, .nilIface, .int .i32 0, .int .i32 0, .int .u32 0, .int .u32 0, .pointer none, .int .u32 4294967295, .int .u32 4294967295, .slice none 0 0, .slice none 0 0, .slice none 0 0, .slice none 0 0, .int .i64 0, .nilIface, .int .i32 0, .slice none 0 0, .slice none 0 0, .slice none 0 0, .slice none 0 0, .slice none 0 0, .int .u32 4294967295, .int .u32 4294967295, .nilIface, .int .i32 0, .map none, .bool false, .bool false, .slice none 0 0, .slice none 0 0, .slice none 0 0, .slice none 0 0, .int .u32 4294967295, .int .u32 4294967295, .int .u32 4294967295, .int .u32 4294967295, .func (Fn.func 19) #[] #[.pointer (some ⟨nd12, 0, none⟩), .pointer (some ⟨nd13, 0, none⟩), .pointer (some ⟨nd14, 0, none⟩)], .nilFunc, .bool false] nd7 #[.slice none 0 0, .pointer none, .nilIface, .int .i32 0, .slice none 0 0, .int .i32 0, .int .i32 0, .int .i32 0, .int .i32 0, .bool false, .bool false] _ _ _ hP9 rfl rfl
  refine Calls.mono T9 ?_
  clear hP9 T9
  rintro e u16 ⟨rfl, hQ⟩
  have hN : Own w0 u16 [row (nd6) 191 #[.string ⟨#[107, 101, 101, 112]⟩, .int .u8 3, .pointer (some ⟨nd7, 0, none⟩), .int .i32 0, .nilIface, .int .i32 0, .int .i32 0, .int .u32 0, .int .u32 0, .pointer none, .int .u32 4294967295, .int .u32 4294967295, .slice none 0 0, .slice none 0 0, .slice none 0 0, .slice none 0 0, .int .i64 0, .nilIface, .int .i32 0, .slice none 0 0, .slice none 0 0, .slice none 0 0, .slice none 0 0, .slice none 0 0, .int .u32 4294967295, .int .u32 4294967295, .nilIface, .int .i32 0, .map none, .bool false, .bool false, .slice none 0 0, .slice none 0 0, .slice none 0 0, .slice none 0 0, .int .u32 4294967295, .int .u32 4294967295, .int .u32 4294967295, .int .u32 4294967295, .func (Fn.func 19) #[] #[.pointer (some ⟨nd12, 0, none⟩), .pointer (some ⟨nd13, 0, none⟩), .pointer (some ⟨nd14, 0, none⟩)], .nilFunc, .bool false], row (nd7) 182 #[.slice none 0 0, .pointer none, .nilIface, .int .i32 0, .slice none 0 0, .int .i32 0, .int .i32 0, .int .i32 0, .int .i32 0, .bool false, .bool false], row (nd2) 176 ((newPar nd3 nd4).setIfInBounds 106 (.slice (some ⟨nd8, 0, none⟩) 1 (1 + nd9))), row (nd12) 27 #[.pointer (some ⟨nd6, 0, none⟩)], row (nd13) 25 #[.pointer (some ⟨nd2, 0, none⟩)], row (nd14) 202 #[.pointer none, .int .u32 4294967295, .int .u32 4294967295, .int .u32 4294967295, .int .u32 4294967295, .bool false], row (nd8) 199 (full symZ (symL ([sy ⟨#[100, 101, 102, 97, 117, 108, 116]⟩ 0])) nd9)] X := hQ.back HL.out HX.out [0, 2, 3, 4, 5] (by decide) (by decide)
  clear hQ HL HX hO
  have hO := hN
  clear hN
  have c9_0_0 : u16.cell? ⟨nd6, 0, none⟩ = some (.string ⟨#[107, 101, 101, 112]⟩) := hO.cell 0 rfl (0) rfl
  have c9_0_6 : u16.cell? ⟨nd6, 6, none⟩ = some (.int .i32 0) := hO.cell 0 rfl (6) rfl
  have c9_0_7 : u16.cell? ⟨nd6, 7, none⟩ = some (.int .u32 0) := hO.cell 0 rfl (7) rfl
  have c9_0_8 : u16.cell? ⟨nd6, 8, none⟩ = some (.int .u32 0) := hO.cell 0 rfl (8) rfl
  have lt9_0 : nd6 < u16.heap.size := hO.lt 0 rfl
  have y9_0 : ∀ o, u16.frozen? ⟨nd6, o, none⟩ = false := hO.free 0 rfl
  have c9_1_1 : u16.cell? ⟨nd7, 1, none⟩ = some (.pointer none) := hO.cell 1 rfl (1) rfl
  have lt9_1 : nd7 < u16.heap.size := hO.lt 1 rfl
  have y9_1 : ∀ o, u16.frozen? ⟨nd7, o, none⟩ = false := hO.free 1 rfl
  obtain ⟨c9_3_0, lt9_3, y9_3, -⟩ := hO.k1 3 rfl
  obtain ⟨c9_4_0, lt9_4, y9_4, -⟩ := hO.k1 4 rfl
  obtain ⟨c9_5_0, c9_5_1, c9_5_2, c9_5_3, c9_5_4, c9_5_5, lt9_5, y9_5, -⟩ := hO.k6 5 rfl
  have HO := Lib.hid hO
  clear hO
  go_wp2_with (first | (with_reducible refine Own.stay (fn := Tryd.f4) ?_) | (first | (go_at_call 9; go_in)))
  try with_reducible refine Own.Stay.mk ?_
  have hO := HO.out
  clear HO c9_0_0 c9_0_6 c9_0_7 c9_0_8 lt9_0 y9_0 c9_1_1 lt9_1 y9_1 c9_3_0 lt9_3 y9_3 c9_4_0 lt9_4 y9_4 c9_5_0 c9_5_1 c9_5_2 c9_5_3 c9_5_4 c9_5_5 lt9_5 y9_5
  have hL := hO.apart
  have hX := hO.apartX
  have HL := Lib.hid hL
  have HX := Lib.hid hX
  clear hL hX
  have hP9 := hO.pick [0] (by decide)
  have T9 := dfNm nd6 #[.string ⟨#[107, 101, 101, 112]⟩, .int .u8 3, .pointer (some ⟨nd7, 0, none⟩), .int .i32 0, .nilIface, .int .i32 0, .int .i32 0, .int .u32 0, .int .u32 0, .pointer none, .int .u32 4294967295, .int .u32 4294967295, .slice none 0 0, .slice none 0 0, .slice none 0 0, .slice none 0 0, .int .i64 0, .nilIface, .int .i32 0, .slice none 0 0, .slice none 0 0, .slice none 0 0, .slice none 0 0, .slice none 0 0, .int .u32 4294967295, .int .u32 4294967295, .nilIface, .int .i32 0, .map none, .bool false, .bool false, .slice none 0 0, .slice none 0 0, .slice none 0 0, .slice none 0 0, .int .u32 4294967295, .int .u32 4294967295, .int .u32 4294967295, .int .u32 4294967295, .func (Fn.func 19) #[] #[.pointer (some ⟨nd12, 0, none⟩), .pointer (some ⟨nd13, 0, none⟩), .pointer (some ⟨nd14, 0, none⟩)], .nilFunc, .bool false] 0 _ _ _ hP9 rfl
  refine Calls.mono T9 ?_
  clear hP9 T9
  rintro e u17 ⟨rfl, hQ⟩
  have hN : Own w0 u17 [row (nd6) 191 #[.string ⟨#[107, 101, 101, 112]⟩, .int .u8 3, .pointer (some ⟨nd7, 0, none⟩), .int .i32 0, .nilIface, .int .i32 0, .int .i32 0, .int .u32 0, .int .u32 0, .pointer none, .int .u32 4294967295, .int .u32 4294967295, .slice none 0 0, .slice none 0 0, .slice none 0 0, .slice none 0 0, .int .i64 0, .nilIface, .int .i32 0, .slice none 0 0, .slice none 0 0, .slice none 0 0, .slice none 0 0, .slice none 0 0, .int .u32 4294967295, .int .u32 4294967295, .nilIface, .int .i32 0, .map none, .bool false, .bool false, .slice none 0 0, .slice none 0 0, .slice none 0 0, .slice none 0 0, .int .u32 4294967295, .int .u32 4294967295, .int .u32 4294967295, .int .u32 4294967295, .func (Fn.func 19) #[] #[.pointer (some ⟨nd12, 0, none⟩), .pointer (some ⟨nd13, 0, none⟩), .pointer (some ⟨nd14, 0, none⟩)], .nilFunc, .bool false], row (nd7) 182 #[.slice none 0 0, .pointer none, .nilIface, .int .i32 0, .slice none 0 0, .int .i32 0, .int .i32 0, .int .i32 0, .int .i32 0, .bool false, .bool false], row (nd2) 176 ((newPar nd3 nd4).setIfInBounds 106 (.slice (some ⟨nd8, 0, none⟩) 1 (1 + nd9))), row (nd12) 27 #[.pointer (some ⟨nd6, 0, none⟩)], row (nd13) 25 #[.pointer (some ⟨nd2, 0, none⟩)], row (nd14) 202 #[.pointer none, .int .u32 4294967295, .int .u32 4294967295, .int .u32 4294967295, .int .u32 4294967295, .bool false], row (nd8) 199 (full symZ (symL ([sy ⟨#[100, 101, 102, 97, 117, 108, 116]⟩ 0])) nd9)] X := hQ.back HL.out HX.out [1, 2, 3, 4, 5, 6] (by decide) (by decide)
  clear hQ HL HX hO
  have hO := hN
  clear hN
  have c9_0_0 : u17.cell? ⟨nd6, 0, none⟩ = some (.string ⟨#[107, 101, 101, 112]⟩) := hO.cell 0 rfl (0) rfl
  have c9_0_6 : u17.cell? ⟨nd6, 6, none⟩ = some (.int .i32 0) := hO.cell 0 rfl (6) rfl
  have c9_0_7 : u17.cell? ⟨nd6, 7, none⟩ = some (.int .u32 0) := hO.cell 0 rfl (7) rfl
  have c9_0_8 : u17.cell? ⟨nd6, 8, none⟩ = some (.int .u32 0) := hO.cell 0 rfl (8) rfl
  have lt9_0 : nd6 < u17.heap.size := hO.lt 0 rfl
  have y9_0 : ∀ o, u17.frozen? ⟨nd6, o, none⟩ = false := hO.free 0 rfl
  have c9_1_1 : u17.cell? ⟨nd7, 1, none⟩ = some (.pointer none) := hO.cell 1 rfl (1) rfl
  have lt9_1 : nd7 < u17.heap.size := hO.lt 1 rfl
  have y9_1 : ∀ o, u17.frozen? ⟨nd7, o, none⟩ = false := hO.free 1 rfl
  obtain ⟨c9_3_0, lt9_3, y9_3, -⟩ := hO.k1 3 rfl
  obtain ⟨c9_4_0, lt9_4, y9_4, -⟩ := hO.k1 4 rfl
  obtain ⟨c9_5_0, c9_5_1, c9_5_2, c9_5_3, c9_5_4, c9_5_5, lt9_5, y9_5, -⟩ := hO.k6 5 rfl
  have HO := Lib.hid hO
  clear hO
  go_wp2_with (first | (with_reducible refine Own.stay (fn := Tryd.f4) ?_) | (first | (go_at_call 9; go_in)))
  try with_reducible refine Own.Stay.mk ?_
  have hO := HO.out
  clear HO c9_0_0 c9_0_6 c9_0_7 c9_0_8 lt9_0 y9_0 c9_1_1 lt9_1 y9_1 c9_3_0 lt9_3 y9_3 c9_4_0 lt9_4 y9_4 c9_5_0 c9_5_1 c9_5_2 c9_5_3 c9_5_4 c9_5_5 lt9_5 y9_5
  go_loopg [16] 1 (fun gf s16 wx => s16 = .int .i64 0 ∧ Own w0 wx [row (nd6) 191 #[.string ⟨#[107, 101, 101, 112]⟩, .int .u8 3, .pointer (some ⟨nd7, 0, none⟩), .int .i32 0, .nilIface, .int .i32 0, .int .i32 0, .int .u32 0, .int .u32 0, .pointer none, .int .u32 4294967295, .int .u32 4294967295, .slice none 0 0, .slice none 0 0, .slice none 0 0, .slice none 0 0, .int .i64 0, .nilIface, .int .i32 0, .slice none 0 0, .slice none 0 0, .slice none 0 0, .slice none 0 0, .slice none 0 0, .int .u32 4294967295, .int .u32 4294967295, .nilIface, .int .i32 0, .map none, .bool false, .bool false, .slice none 0 0, .slice none 0 0, .slice none 0 0, .slice none 0 0, .int .u32 4294967295, .int .u32 4294967295, .int .u32 4294967295, .int .u32 4294967295, .func (Fn.func 19) #[] #[.pointer (some ⟨nd12, 0, none⟩), .pointer (some ⟨nd13, 0, none⟩), .pointer (some ⟨nd14, 0, none⟩)], .nilFunc, .bool false], row (nd7) 182 #[.slice none 0 0, .pointer none, .nilIface, .int .i32 0, .slice none 0 0, .int .i32 0, .int .i32 0, .int .i32 0, .int .i32 0, .bool false, .bool false], row (nd2) 176 ((newPar nd3 nd4).setIfInBounds 106 (.slice (some ⟨nd8, 0, none⟩) 1 (1 + nd9))), row (nd12) 27 #[.pointer (some ⟨nd6, 0, none⟩)], row (nd13) 25 #[.pointer (some ⟨nd2, 0, none⟩)], row (nd14) 202 #[.pointer none, .int .u32 4294967295, .int .u32 4294967295, .int .u32 4294967295, .int .u32 4294967295, .bool false], row (nd8) 199 (full symZ (symL [sy ⟨#[100, 101, 102, 97, 117, 108, 116]⟩ 0]) nd9)] X)
  case atStart => exact ⟨rfl, hO⟩
  obtain ⟨rfl, hO⟩ := hrel
  have c9_0_0 : wr.cell? ⟨nd6, 0, none⟩ = some (.string ⟨#[107, 101, 101, 112]⟩) := hO.cell 0 rfl (0) rfl
  have c9_0_6 : wr.cell? ⟨nd6, 6, none⟩ = some (.int .i32 0) := hO.cell 0 rfl (6) rfl
  have c9_0_7 : wr.cell? ⟨nd6, 7, none⟩ = some (.int .u32 0) := hO.cell 0 rfl (7) rfl
  have c9_0_8 : wr.cell? ⟨nd6, 8, none⟩ = some (.int .u32 0) := hO.cell 0 rfl (8) rfl
  have lt9_0 : nd6 < wr.heap.size := hO.lt 0 rfl
  have y9_0 : ∀ o, wr.frozen? ⟨nd6, o, none⟩ = false := hO.free 0 rfl
  have c9_1_1 : wr.cell? ⟨nd7, 1, none⟩ = some (.pointer none) := hO.cell 1 rfl (1) rfl
  have lt9_1 : nd7 < wr.heap.size := hO.lt 1 rfl
  have y9_1 : ∀ o, wr.frozen? ⟨nd7, o, none⟩ = false := hO.free 1 rfl
  obtain ⟨c9_3_0, lt9_3, y9_3, -⟩ := hO.k1 3 rfl
  obtain ⟨c9_4_0, lt9_4, y9_4, -⟩ := hO.k1 4 rfl
  obtain ⟨c9_5_0, c9_5_1, c9_5_2, c9_5_3, c9_5_4, c9_5_5, lt9_5, y9_5, -⟩ := hO.k6 5 rfl
  have HO := Lib.hid hO
  clear hO
  go_wp2_with (first | (with_reducible refine Own.stay (fn := Tryd.f4) ?_) | (first | (go_at_call 9; go_in)))
  try with_reducible refine Own.Stay.mk ?_
  have hO := HO.out
  clear HO c9_0_0 c9_0_6 c9_0_7 c9_0_8 lt9_0 y9_0 c9_1_1 lt9_1 y9_1 c9_3_0 lt9_3 y9_3 c9_4_0 lt9_4 y9_4 c9_5_0 c9_5_1 c9_5_2 c9_5_3 c9_5_4 c9_5_5 lt9_5 y9_5
  have hL := hO.apart
  have hX := hO.apartX
  have HL := Lib.hid hL
  have HX := Lib.hid hX
  clear hL hX
  have hP9 := hO.pick [2] (by decide)
  have T9 := symCnt nd2 ((newPar nd3 nd4).setIfInBounds 106 (.slice (some ⟨nd8, 0, none⟩) 1 (1 + nd9))) nd8 nd9 1 _ _ _ hP9 (get_set (newPar_106 _ _) _)
  refine Calls.mono T9 ?_
  clear hP9 T9
  rintro e u18 ⟨rfl, hQ⟩
  have hN : Own w0 u18 [row (nd2) 176 ((newPar nd3 nd4).setIfInBounds 106 (.slice (some ⟨nd8, 0, none⟩) 1 (1 + nd9))), row (nd6) 191 #[.string ⟨#[107, 101, 101, 112]⟩, .int .u8 3, .pointer (some ⟨nd7, 0, none⟩), .int .i32 0, .nilIface, .int .i32 0, .int .i32 0, .int .u32 0, .int .u32 0, .pointer none, .int .u32 4294967295, .int .u32 4294967295, .slice none 0 0, .slice none 0 0, .slice none 0 0, .slice none 0 0, .int .i64 0, .nilIface, .int .i32 0, .slice none 0 0, .slice none 0 0, .slice none 0 0, .slice none 0 0, .slice none 0 0, .int .u32 4294967295, .int .u32 4294967295, .nilIface, .int .i32 0, .map none, .bool false, .bool false, .slice none 0 0, .slice none 0 0, .slice none 0 0, .slice none 0 0, .int .u32 4294967295, .int .u32 4294967295, .int .u32 4294967295, .int .u32 4294967295, .func (Fn.func 19) #[] #[.pointer (some ⟨nd12, 0, none⟩), .pointer (some ⟨nd13, 0, none⟩), .pointer (some ⟨nd14, 0, none⟩)], .nilFunc, .bool false], row (nd7) 182 #[.slice none 0 0, .pointer none, .nilIface, .int .i32 0, .slice none 0 0, .int .i32 0, .int .i32 0, .int .i32 0, .int .i32 0, .bool false, .bool false], row (nd12) 27 #[.pointer (some ⟨nd6, 0, none⟩)], row (nd13) 25 #[.pointer (some ⟨nd2, 0, none⟩)], row (nd14) 202 #[.pointer none, .int .u32 4294967295, .int .u32 4294967295, .int .u32 4294967295, .int .u32 4294967295, .bool false], row (nd8) 199 (full symZ (symL ([sy ⟨#[100, 101, 102, 97, 117, 108, 116]⟩ 0])) nd9)] X := hQ.back HL.out HX.out [0, 1, 3, 4, 5, 6] (by decide) (by decide)
  clear hQ HL HX hO
  have hO := hN
  clear hN
  have c9_1_0 : u18.cell? ⟨nd6, 0, none⟩ = some (.string ⟨#[107, 101, 101, 112]⟩) := hO.cell 1 rfl (0) rfl
  have c9_1_6 : u18.cell? ⟨nd6, 6, none⟩ = some (.int .i32 0) := hO.cell 1 rfl (6) rfl
  have c9_1_7 : u18.cell? ⟨nd6, 7, none⟩ = some (.int .u32 0) := hO.cell 1 rfl (7) rfl
  have c9_1_8 : u18.cell? ⟨nd6, 8, none⟩ = some (.int .u32 0) := hO.cell 1 rfl (8) rfl
  have lt9_1 : nd6 < u18.heap.size := hO.lt 1 rfl
  have y9_1 : ∀ o, u18.frozen? ⟨nd6, o, none⟩ = false := hO.free 1 rfl
  have c9_2_1 : u18.cell? ⟨nd7, 1, none⟩ = some (.pointer none) := hO.cell 2 rfl (1) rfl
  have lt9_2 : nd7 < u18.heap.size := hO.lt 2 rfl
  have y9_2 : ∀ o, u18.frozen? ⟨nd7, o, none⟩ = false := hO.free 2 rfl
  obtain ⟨c9_3_0, lt9_3, y9_3, -⟩ := hO.k1 3 rfl
  obtain ⟨c9_4_0, lt9_4, y9_4, -⟩ := hO.k1 4 rfl
  obtain ⟨c9_5_0, c9_5_1, c9_5_2, c9_5_3, c9_5_4, c9_5_5, lt9_5, y9_5, -⟩ := hO.k6 5 rfl
  have HO := Lib.hid hO
  clear hO
  go_wp2_with (first | (with_reducible refine Own.stay (fn := Tryd.f4) ?_) | (first | (go_at_call 9; go_in)))
  try with_reducible refine Own.Stay.mk ?_
  have hO := HO.out
  clear HO c9_1_0 c9_1_6 c9_1_7 c9_1_8 lt9_1 y9_1 c9_2_1 lt9_2 y9_2 c9_3_0 lt9_3 y9_3 c9_4_0 lt9_4 y9_4 c9_5_0 c9_5_1 c9_5_2 c9_5_3 c9_5_4 c9_5_5 lt9_5 y9_5
  have hL := hO.apart
  have hX := hO.apartX
  have HL := Lib.hid hL
  have HX := Lib.hid hX
  clear hL hX
  have hP9 := hO.pick [0, 6] (by decide)
  have h9_hn : ([sy ⟨#[100, 101, 102, 97, 117, 108, 116]⟩ 0]).length = 1 := rfl
  have h9_hnb : 1 ≤ 4000000 := (by decide)
  have h9_hi : 0 < 1 := (by decide)
  have h9_hs : ([sy ⟨#[100, 101, 102, 97, 117, 108, 116]⟩ 0])[0]? = some (sy (⟨#[100, 101, 102, 97, 117, 108, 116]⟩ : ByteArray) 0) := rfl
  have T9 := useCnt nd2 ((newPar nd3 nd4).setIfInBounds 106 (.slice (some ⟨nd8, 0, none⟩) 1 (1 + nd9))) nd8 nd9 ([sy ⟨#[100, 101, 102, 97, 117, 108, 116]⟩ 0]) 1 0 ⟨#[100, 101, 102, 97, 117, 108, 116]⟩ 0 _ _ _ hP9 (get_set (newPar_106 _ _) _) h9_hn h9_hnb h9_hi h9_hs
  refine Calls.mono T9 ?_
  clear hP9 T9 h9_hn h9_hnb h9_hi h9_hs
  rintro e u19 ⟨rfl, hQ⟩
  have hN : Own w0 u19 [row (nd2) 176 ((newPar nd3 nd4).setIfInBounds 106 (.slice (some ⟨nd8, 0, none⟩) 1 (1 + nd9))), row (nd8) 199 (full symZ (symL ([sy ⟨#[100, 101, 102, 97, 117, 108, 116]⟩ 0])) nd9), row (nd6) 191 #[.string ⟨#[107, 101, 101, 112]⟩, .int .u8 3, .pointer (some ⟨nd7, 0, none⟩), .int .i32 0, .nilIface, .int .i32 0, .int .i32 0, .int .u32 0, .int .u32 0, .pointer none, .int .u32 4294967295, .int .u32 4294967295, .slice none 0 0, .slice none 0 0, .slice none 0 0, .slice none 0 0, .int .i64 0, .nilIface, .int .i32 0, .slice none 0 0, .slice none 0 0, .slice none 0 0, .slice none 0 0, .slice none 0 0, .int .u32 4294967295, .int .u32 4294967295, .nilIface, .int .i32 0, .map none, .bool false, .bool false, .slice none 0 0, .slice none 0 0, .slice none 0 0, .slice none 0 0, .int .u32 4294967295, .int .u32 4294967295, .int .u32 4294967295, .int .u32 4294967295, .func (Fn.func 19) #[] #[.pointer (some ⟨nd12, 0, none⟩), .pointer (some ⟨nd13, 0, none⟩), .pointer (some ⟨nd14, 0, none⟩)], .nilFunc, .bool false], row (nd7) 182 #[.slice none 0 0, .pointer none, .nilIface, .int .i32 0, .slice none 0 0, .int .i32 0, .int .i32 0, .int .i32 0, .int .i32 0, .bool false, .bool false], row (nd12) 27 #[.pointer (some ⟨nd6, 0, none⟩)], row (nd13) 25 #[.pointer (some ⟨nd2, 0, none⟩)], row (nd14) 202 #[.pointer none, .int .u32 4294967295, .int .u32 4294967295, .int .u32 4294967295, .int .u32 4294967295, .bool false]] X := hQ.back HL.out HX.out [1, 2, 3, 4, 5] (by decide) (by decide)
  clear hQ HL HX hO
  have hO := hN
  clear hN
  have c9_2_0 : u19.cell? ⟨nd6, 0, none⟩ = some (.string ⟨#[107, 101, 101, 112]⟩) := hO.cell 2 rfl (0) rfl
  have c9_2_6 : u19.cell? ⟨nd6, 6, none⟩ = some (.int .i32 0) := hO.cell 2 rfl (6) rfl
  have c9_2_7 : u19.cell? ⟨nd6, 7, none⟩ = some (.int .u32 0) := hO.cell 2 rfl (7) rfl
  have c9_2_8 : u19.cell? ⟨nd6, 8, none⟩ = some (.int .u32 0) := hO.cell 2 rfl (8) rfl
  have lt9_2 : nd6 < u19.heap.size := hO.lt 2 rfl
  have y9_2 : ∀ o, u19.frozen? ⟨nd6, o, none⟩ = false := hO.free 2 rfl
  have c9_3_1 : u19.cell? ⟨nd7, 1, none⟩ = some (.pointer none) := hO.cell 3 rfl (1) rfl
  have lt9_3 : nd7 < u19.heap.size := hO.lt 3 rfl
  have y9_3 : ∀ o, u19.frozen? ⟨nd7, o, none⟩ = false := hO.free 3 rfl
  obtain ⟨c9_4_0, lt9_4, y9_4, -⟩ := hO.k1 4 rfl
  obtain ⟨c9_5_0, lt9_5, y9_5, -⟩ := hO.k1 5 rfl
  obtain ⟨c9_6_0, c9_6_1, c9_6_2, c9_6_3, c9_6_4, c9_6_5, lt9_6, y9_6, -⟩ := hO.k6 6 rfl
  have HO := Lib.hid hO
  clear hO
  go_wp2_with (first | (with_reducible refine Own.stay (fn := Tryd.f4) ?_) | (first | (go_at_call 9; go_in)))
  try with_reducible refine Own.Stay.mk ?_
  have hO := HO.out
  clear HO c9_2_0 c9_2_6 c9_2_7 c9_2_8 lt9_2 y9_2 c9_3_1 lt9_3 y9_3 c9_4_0 lt9_4 y9_4 c9_5_0 lt9_5 y9_5 c9_6_0 c9_6_1 c9_6_2 c9_6_3 c9_6_4 c9_6_5 lt9_6 y9_6
  have hL := hO.apart
  have hX := hO.apartX
  have HL := Lib.hid hL
  have HX := Lib.hid hX
  clear hL hX
  have hP9 := hO.pick [2, 3] (by decide)
  have T9 := clsNm0 nd6 #[.string ⟨#[107, 101, 101, 112]⟩, .int .u8 3, .pointer (some ⟨nd7, 0, none⟩), .int .i32 0, .nilIface, .int .i32 0, .int .i32 0, .int .u32 0, .int .u32 0, .pointer none, .int .u32 4294967295, .int .u32 4294967295, .slice none 0 0, .slice none 0 0, .slice none 0 0, .slice none 0 0, .int .i64 0, .nilIface, .int .i32 0, .slice none 0 0, .slice none 0 0, .slice none 0 0, .slice none 0 0, .slice none 0 0, .int .u32 4294967295, .int .u32 4294967295, .nilIface, .int .i32 0, .map none, .bool false, .bool false, .slice none 0 0, .slice none 0 0, .slice none 0 0, .slice none 0 0, .int .u32 4294967295, .int .u32 4294967295, .int .u32 4294967295, .int .u32 4294967295, .func (Fn.func 19) #[] #[.pointer (some ⟨nd12, 0, none⟩), .pointer (some ⟨nd13, 0, none⟩), .pointer (some ⟨nd14, 0, none⟩)], .nilFunc, .bool false] nd7 #[.slice none 0 0, .pointer none, .nilIface, .int .i32 0, .slice none 0 0, .int .i32 0, .int .i32 0, .int .i32 0, .int .i32 0, .bool false, .bool false] _ _ _ hP9 rfl rfl
  refine Calls.mono T9 ?_
  clear hP9 T9
  rintro e u20 ⟨rfl, hQ⟩
  have hN : Own w0 u20 [row (nd6) 191 #[.string ⟨#[107, 101, 101, 112]⟩, .int .u8 3, .pointer (some ⟨nd7, 0, none⟩), .int .i32 0, .nilIface, .int .i32 0, .int .i32 0, .int .u32 0, .int .u32 0, .pointer none, .int .u32 4294967295, .int .u32 4294967295, .slice none 0 0, .slice none 0 0, .slice none 0 0, .slice none 0 0, .int .i64 0, .nilIface, .int .i32 0, .slice none 0 0, .slice none 0 0, .slice none 0 0, .slice none 0 0, .slice none 0 0, .int .u32 4294967295, .int .u32 4294967295, .nilIface, .int .i32 0, .map none, .bool false, .bool false, .slice none 0 0, .slice none 0 0, .slice none 0 0, .slice none 0 0, .int .u32 4294967295, .int .u32 4294967295, .int .u32 4294967295, .int .u32 4294967295, .func (Fn.func 19) #[] #[.pointer (some ⟨nd12, 0, none⟩), .pointer (some ⟨nd13, 0, none⟩), .pointer (some ⟨nd14, 0, none⟩)], .nilFunc, .bool false], row (nd7) 182 #[.slice none 0 0, .pointer none, .nilIface, .int .i32 0, .slice none 0 0, .int .i32 0, .int .i32 0, .int .i32 0, .int .i32 0, .bool false, .bool false], row (nd2) 176 ((newPar nd3 nd4).setIfInBounds 106 (.slice (some ⟨nd8, 0, none⟩) 1 (1 + nd9))), row (nd8) 199 (full symZ (symL ([sy ⟨#[100, 101, 102, 97, 117, 108, 116]⟩ 0])) nd9), row (nd12) 27 #[.pointer (some ⟨nd6, 0, none⟩)], row (nd13) 25 #[.pointer (some ⟨nd2, 0, none⟩)], row (nd14) 202 #[.pointer none, .int .u32 4294967295, .int .u32 4294967295, .int .u32 4294967295, .int .u32 4294967295, .bool false]] X := hQ.back HL.out HX.out [0, 1, 4, 5, 6] (by decide) (by decide)
  clear hQ HL HX hO
  have hO := hN
  clear hN
  have c9_0_0 : u20.cell? ⟨nd6, 0, none⟩ = some (.string ⟨#[107, 101, 101, 112]⟩) := hO.cell 0 rfl (0) rfl
  have c9_0_6 : u20.cell? ⟨nd6, 6, none⟩ = some (.int .i32 0) := hO.cell 0 rfl (6) rfl
  have c9_0_7 : u20.cell? ⟨nd6, 7, none⟩ = some (.int .u32 0) := hO.cell 0 rfl (7) rfl
  have c9_0_8 : u20.cell? ⟨nd6, 8, none⟩ = some (.int .u32 0) := hO.cell 0 rfl (8) rfl
  have lt9_0 : nd6 < u20.heap.size := hO.lt 0 rfl
  have y9_0 : ∀ o, u20.frozen? ⟨nd6, o, none⟩ = false := hO.free 0 rfl
  have c9_1_1 : u20.cell? ⟨nd7, 1, none⟩ = some (.pointer none) := hO.cell 1 rfl (1) rfl
  have lt9_1 : nd7 < u20.heap.size := hO.lt 1 rfl
  have y9_1 : ∀ o, u20.frozen? ⟨nd7, o, none⟩ = false := hO.free 1 rfl
  obtain ⟨c9_4_0, lt9_4, y9_4, -⟩ := hO.k1 4 rfl
  obtain ⟨c9_5_0, lt9_5, y9_5, -⟩ := hO.k1 5 rfl
  obtain ⟨c9_6_0, c9_6_1, c9_6_2, c9_6_3, c9_6_4, c9_6_5, lt9_6, y9_6, -⟩ := hO.k6 6 rfl
  have HO := Lib.hid hO
  clear hO
  go_wp2_with (first | (with_reducible refine Own.stay (fn := Tryd.f4) ?_) | (first | (go_at_call 9; go_in)))
  try with_reducible refine Own.Stay.mk ?_
  have hO := HO.out
  clear HO c9_0_0 c9_0_6 c9_0_7 c9_0_8 lt9_0 y9_0 c9_1_1 lt9_1 y9_1 c9_4_0 lt9_4 y9_4 c9_5_0 lt9_5 y9_5 c9_6_0 c9_6_1 c9_6_2 c9_6_3 c9_6_4 c9_6_5 lt9_6 y9_6
  refine bodyPost_ret (v := .bool true) ?_ rfl ⟨rfl, hO.sub [] (by decide)⟩
  simp [results, Tryd.results4, go_sem]
end Go.Proofs.YtaoflhnkhgclhaaDoor.Use
