/- The law on name capture under re-enabling, walked: one of its cases. No condition. -/
import Derived.Test.YtaoflhnkhgclhaaDoorCln
import Derived.Test.YtaoflhnkhgclhaaDoorLoop
import Derived.Test.YtaoflhnkhgclhaaDoorRead2
import Derived.Test.YtaoflhnkhgclhaaDoorRead
import Derived.Test.YtaoflhnkhgclhaaDoorCap
import Derived.Test.YtaoflhnkhgclhaaDoorCtx
import Derived.Test.YtaoflhnkhgclhaaDoorNewP
import Derived.Test.YtaoflhnkhgclhaaDoorNam
import Derived.Test.YtaoflhnkhgclhaaDoorVl
import Derived.Test.YtaoflhnkhgclhaaDoorApp
import Derived.Test.YtaoflhnkhgclhaaDoorOwnK
import Derived.Test.YtaoflhnkhgclhaaDoorOwn
import Derived.Test.YtaoflhnkhgclhaaDoorDeepCells
import Derived.Test.YtaoflhnkhgclhaaDoorRows
import Derived.Test.YtaoflhnkhgclhaaDoorUse
import Derived.Test.YtaoflhnkhgclhaaDoorLive
namespace Go.Proofs.YtaoflhnkhgclhaaDoor.Use
open Go.ChangeShapes Go.WideShapes Go.ChangeAt Go.RowKit Go.Sort Own
set_option linter.unusedVariables false
def law31C0Post  (w0 : World) (X : Nat → Obj → Prop) (e : Ending) (w' : World) : Prop :=
  e = .returned (.bool true) ∧ Own w0 w' [] X
set_option maxRecDepth 100000 in
set_option maxHeartbeats 1000000 in
theorem law31C0  (w0 w : World) (X : Nat → Obj → Prop) (hO : Own w0 w [] X) (hg0 : w0.cell? ⟨0, 0, none⟩ = some (.int .u32 4294967295)) (hg1 : w0.cell? ⟨0, 1, none⟩ = some (.int .u32 4294967295)) :
    Calls Tryd.prog 3 #[.int .i64 3, .bool true, .bool false, .slice none 0 0] w (law31C0Post  w0 X) := by
  go_enter Tryd.func3, Tryd.ntmps3
  have heq := fun w => Lib.run_eql_slice_nil (P := Tryd.prog) w
  go_wp2_with (first | (with_reducible refine Own.stay (fn := Tryd.f3) ?_) | (first | (go_at_call 9; go_in) | (go_at_call 5; go_in) | (go_at_call 6; go_in)))
  try with_reducible refine Own.Stay.mk ?_
  have hL := hO.apart
  have hX := hO.apartX
  have HL := Lib.hid hL
  have HX := Lib.hid hX
  clear hL hX
  have hP9 := hO.pick [] (by decide)
  have T9 := newP  _ _ _ hP9 hg0 hg1
  refine Calls.mono T9 ?_
  clear hP9 T9
  rintro e u1 ⟨nd2, nd3, nd4, rfl, hQ⟩
  have hN : Own w0 u1 [row (nd2) 176 (newPar nd3 nd4)] X := hQ.back HL.out HX.out [] (by decide) (by decide)
  clear hQ HL HX hO
  have hO := hN
  clear hN
  go_wp2_with (first | (with_reducible refine Own.stay (fn := Tryd.f3) ?_) | (first | (go_at_call 9; go_in) | (go_at_call 5; go_in) | (go_at_call 6; go_in)))
  try with_reducible refine Own.Stay.mk ?_
  have hL := hO.apart
  have hX := hO.apartX
  have HL := Lib.hid hL
  have HX := Lib.hid hX
  clear hL hX
  have hP9 := hO.pick [0] (by decide)
  have T9 := newCtxN3 nd2 (newPar nd3 nd4) _ _ _ hP9 (newPar_66 _ _) (newPar_32 _ _) (newPar_106 _ _) hg0 hg1
  refine Calls.mono T9 ?_
  clear hP9 T9
  rintro e u5 ⟨nd6, nd7, nd8, nd9, nd10, nd11, nd12, rfl, hQ⟩
  have hN : Own w0 u5 [row (nd2) 176 (((newPar nd3 nd4).setIfInBounds 106 (.slice (some ⟨nd11, 0, none⟩) 1 (1 + nd12))).setIfInBounds 106 (.slice (some ⟨nd8, 0, none⟩) 2 (2 + nd9))), row (nd8) 199 (full symZ (symL ([sy ⟨#[67]⟩ 0, sy ⟨#[100, 101, 102, 97, 117, 108, 116]⟩ 0])) nd9), row (nd6) 191 #[.string ⟨#[67]⟩, .int .u8 3, .pointer (some ⟨nd7, 0, none⟩), .int .i32 0, .nilIface, .int .i32 0, .int .i32 0, .int .u32 0, .int .u32 1, .pointer none, .int .u32 4294967295, .int .u32 4294967295, .slice none 0 0, .slice none 0 0, .slice none 0 0, .slice none 0 0, .int .i64 0, .nilIface, .int .i32 0, .slice none 0 0, .slice none 0 0, .slice none 0 0, .slice none 0 0, .slice none 0 0, .int .u32 4294967295, .int .u32 4294967295, .nilIface, .int .i32 0, .map none, .bool false, .bool false, .slice none 0 0, .slice none 0 0, .slice none 0 0, .slice none 0 0, .int .u32 4294967295, .int .u32 4294967295, .int .u32 4294967295, .int .u32 4294967295, .nilFunc, .nilFunc, .bool false], row (nd7) 182 #[.slice none 0 0, .pointer (some ⟨nd10, 0, none⟩), .nilIface, .int .i32 0, .slice none 0 0, .int .i32 0, .int .i32 0, .int .i32 0, .int .i32 0, .bool false, .bool false], row (nd10) 51 #[.int .i32 0, .int .u32 0, .int .u32 0]] X := hQ.back HL.out HX.out [] (by decide) (by decide)
  clear hQ HL HX hO
  have hO := hN
  clear hN
  have c9_2_0 : u5.cell? ⟨nd6, 0, none⟩ = some (.string ⟨#[67]⟩) := hO.cell 2 rfl (0) rfl
  have c9_2_6 : u5.cell? ⟨nd6, 6, none⟩ = some (.int .i32 0) := hO.cell 2 rfl (6) rfl
  have c9_2_7 : u5.cell? ⟨nd6, 7, none⟩ = some (.int .u32 0) := hO.cell 2 rfl (7) rfl
  have c9_2_8 : u5.cell? ⟨nd6, 8, none⟩ = some (.int .u32 1) := hO.cell 2 rfl (8) rfl
  have lt9_2 : nd6 < u5.heap.size := hO.lt 2 rfl
  have y9_2 : ∀ o, u5.frozen? ⟨nd6, o, none⟩ = false := hO.free 2 rfl
  have c9_3_1 : u5.cell? ⟨nd7, 1, none⟩ = some (.pointer (some ⟨nd10, 0, none⟩)) := hO.cell 3 rfl (1) rfl
  have lt9_3 : nd7 < u5.heap.size := hO.lt 3 rfl
  have y9_3 : ∀ o, u5.frozen? ⟨nd7, o, none⟩ = false := hO.free 3 rfl
  obtain ⟨c9_4_0, c9_4_1, c9_4_2, lt9_4, y9_4, -⟩ := hO.k3 4 rfl
  have HO := Lib.hid hO
  clear hO
  go_wp2_with (first | (with_reducible refine Own.stay (fn := Tryd.f3) ?_) | (first | (go_at_call 9; go_in) | (go_at_call 5; go_in) | (go_at_call 6; go_in)))
  try with_reducible refine Own.Stay.mk ?_
  have hO := HO.out
  clear HO c9_2_0 c9_2_6 c9_2_7 c9_2_8 lt9_2 y9_2 c9_3_1 lt9_3 y9_3 c9_4_0 c9_4_1 c9_4_2 lt9_4 y9_4
  have hL := hO.apart
  have hX := hO.apartX
  have HL := Lib.hid hL
  have HX := Lib.hid hX
  clear hL hX
  have hP9 := hO.pick [0] (by decide)
  have T9 := symCnt nd2 (((newPar nd3 nd4).setIfInBounds 106 (.slice (some ⟨nd11, 0, none⟩) 1 (1 + nd12))).setIfInBounds 106 (.slice (some ⟨nd8, 0, none⟩) 2 (2 + nd9))) nd8 nd9 2 _ _ _ hP9 (get_set (get_set (newPar_106 _ _) _) _)
  refine Calls.mono T9 ?_
  clear hP9 T9
  rintro e u13 ⟨rfl, hQ⟩
  have hN : Own w0 u13 [row (nd2) 176 (((newPar nd3 nd4).setIfInBounds 106 (.slice (some ⟨nd11, 0, none⟩) 1 (1 + nd12))).setIfInBounds 106 (.slice (some ⟨nd8, 0, none⟩) 2 (2 + nd9))), row (nd8) 199 (full symZ (symL ([sy ⟨#[67]⟩ 0, sy ⟨#[100, 101, 102, 97, 117, 108, 116]⟩ 0])) nd9), row (nd6) 191 #[.string ⟨#[67]⟩, .int .u8 3, .pointer (some ⟨nd7, 0, none⟩), .int .i32 0, .nilIface, .int .i32 0, .int .i32 0, .int .u32 0, .int .u32 1, .pointer none, .int .u32 4294967295, .int .u32 4294967295, .slice none 0 0, .slice none 0 0, .slice none 0 0, .slice none 0 0, .int .i64 0, .nilIface, .int .i32 0, .slice none 0 0, .slice none 0 0, .slice none 0 0, .slice none 0 0, .slice none 0 0, .int .u32 4294967295, .int .u32 4294967295, .nilIface, .int .i32 0, .map none, .bool false, .bool false, .slice none 0 0, .slice none 0 0, .slice none 0 0, .slice none 0 0, .int .u32 4294967295, .int .u32 4294967295, .int .u32 4294967295, .int .u32 4294967295, .nilFunc, .nilFunc, .bool false], row (nd7) 182 #[.slice none 0 0, .pointer (some ⟨nd10, 0, none⟩), .nilIface, .int .i32 0, .slice none 0 0, .int .i32 0, .int .i32 0, .int .i32 0, .int .i32 0, .bool false, .bool false], row (nd10) 51 #[.int .i32 0, .int .u32 0, .int .u32 0]] X := hQ.back HL.out HX.out [1, 2, 3, 4] (by decide) (by decide)
  clear hQ HL HX hO
  have hO := hN
  clear hN
  have c9_2_0 : u13.cell? ⟨nd6, 0, none⟩ = some (.string ⟨#[67]⟩) := hO.cell 2 rfl (0) rfl
  have c9_2_6 : u13.cell? ⟨nd6, 6, none⟩ = some (.int .i32 0) := hO.cell 2 rfl (6) rfl
  have c9_2_7 : u13.cell? ⟨nd6, 7, none⟩ = some (.int .u32 0) := hO.cell 2 rfl (7) rfl
  have c9_2_8 : u13.cell? ⟨nd6, 8, none⟩ = some (.int .u32 1) := hO.cell 2 rfl (8) rfl
  have lt9_2 : nd6 < u13.heap.size := hO.lt 2 rfl
  have y9_2 : ∀ o, u13.frozen? ⟨nd6, o, none⟩ = false := hO.free 2 rfl
  have c9_3_1 : u13.cell? ⟨nd7, 1, none⟩ = some (.pointer (some ⟨nd10, 0, none⟩)) := hO.cell 3 rfl (1) rfl
  have lt9_3 : nd7 < u13.heap.size := hO.lt 3 rfl
  have y9_3 : ∀ o, u13.frozen? ⟨nd7, o, none⟩ = false := hO.free 3 rfl
  obtain ⟨c9_4_0, c9_4_1, c9_4_2, lt9_4, y9_4, -⟩ := hO.k3 4 rfl
  have HO := Lib.hid hO
  clear hO
  go_wp2_with (first | (with_reducible refine Own.stay (fn := Tryd.f3) ?_) | (first | (go_at_call 9; go_in) | (go_at_call 5; go_in) | (go_at_call 6; go_in)))
  try with_reducible refine Own.Stay.mk ?_
  have hO := HO.out
  clear HO c9_2_0 c9_2_6 c9_2_7 c9_2_8 lt9_2 y9_2 c9_3_1 lt9_3 y9_3 c9_4_0 c9_4_1 c9_4_2 lt9_4 y9_4
  have hL := hO.apart
  have hX := hO.apartX
  have HL := Lib.hid hL
  have HX := Lib.hid hX
  clear hL hX
  have hP9 := hO.pick [0, 2] (by decide)
  have T9 := zenO nd2 (((newPar nd3 nd4).setIfInBounds 106 (.slice (some ⟨nd11, 0, none⟩) 1 (1 + nd12))).setIfInBounds 106 (.slice (some ⟨nd8, 0, none⟩) 2 (2 + nd9))) nd6 #[.string ⟨#[67]⟩, .int .u8 3, .pointer (some ⟨nd7, 0, none⟩), .int .i32 0, .nilIface, .int .i32 0, .int .i32 0, .int .u32 0, .int .u32 1, .pointer none, .int .u32 4294967295, .int .u32 4294967295, .slice none 0 0, .slice none 0 0, .slice none 0 0, .slice none 0 0, .int .i64 0, .nilIface, .int .i32 0, .slice none 0 0, .slice none 0 0, .slice none 0 0, .slice none 0 0, .slice none 0 0, .int .u32 4294967295, .int .u32 4294967295, .nilIface, .int .i32 0, .map none, .bool false, .bool false, .slice none 0 0, .slice none 0 0, .slice none 0 0, .slice none 0 0, .int .u32 4294967295, .int .u32 4294967295, .int .u32 4294967295, .int .u32 4294967295, .nilFunc, .nilFunc, .bool false] .nilFunc 0 _ _ _ hP9 (get_other (get_other (newPar_66 _ _) (by omega) _) (by omega) _) rfl hg0 hg1
  refine Calls.mono T9 ?_
  clear hP9 T9
  rintro e u14 ⟨nd15, nd16, nd17, rfl, hQ⟩
  have hN : Own w0 u14 [row (nd2) 176 (((newPar nd3 nd4).setIfInBounds 106 (.slice (some ⟨nd11, 0, none⟩) 1 (1 + nd12))).setIfInBounds 106 (.slice (some ⟨nd8, 0, none⟩) 2 (2 + nd9))), row (nd6) 191 #[.string ⟨#[67]⟩, .int .u8 3, .pointer (some ⟨nd7, 0, none⟩), .int .i32 0, .nilIface, .int .i32 0, .int .i32 0, .int .u32 0, .int .u32 1, .pointer none, .int .u32 4294967295, .int .u32 4294967295, .slice none 0 0, .slice none 0 0, .slice none 0 0, .slice none 0 0, .int .i64 0, .nilIface, .int .i32 0, .slice none 0 0, .slice none 0 0, .slice none 0 0, .slice none 0 0, .slice none 0 0, .int .u32 4294967295, .int .u32 4294967295, .nilIface, .int .i32 0, .map none, .bool false, .bool false, .slice none 0 0, .slice none 0 0, .slice none 0 0, .slice none 0 0, .int .u32 4294967295, .int .u32 4294967295, .int .u32 4294967295, .int .u32 4294967295, .func (Fn.func 19) #[] #[.pointer (some ⟨nd15, 0, none⟩), .pointer (some ⟨nd16, 0, none⟩), .pointer (some ⟨nd17, 0, none⟩)], .nilFunc, .bool false], row (nd15) 27 #[.pointer (some ⟨nd6, 0, none⟩)], row (nd16) 25 #[.pointer (some ⟨nd2, 0, none⟩)], row (nd17) 202 #[.pointer none, .int .u32 4294967295, .int .u32 4294967295, .int .u32 4294967295, .int .u32 4294967295, .bool false], row (nd8) 199 (full symZ (symL ([sy ⟨#[67]⟩ 0, sy ⟨#[100, 101, 102, 97, 117, 108, 116]⟩ 0])) nd9), row (nd7) 182 #[.slice none 0 0, .pointer (some ⟨nd10, 0, none⟩), .nilIface, .int .i32 0, .slice none 0 0, .int .i32 0, .int .i32 0, .int .i32 0, .int .i32 0, .bool false, .bool false], row (nd10) 51 #[.int .i32 0, .int .u32 0, .int .u32 0]] X := hQ.back HL.out HX.out [1, 3, 4] (by decide) (by decide)
  clear hQ HL HX hO
  have hO := hN
  clear hN
  have c9_1_0 : u14.cell? ⟨nd6, 0, none⟩ = some (.string ⟨#[67]⟩) := hO.cell 1 rfl (0) rfl
  have c9_1_6 : u14.cell? ⟨nd6, 6, none⟩ = some (.int .i32 0) := hO.cell 1 rfl (6) rfl
  have c9_1_7 : u14.cell? ⟨nd6, 7, none⟩ = some (.int .u32 0) := hO.cell 1 rfl (7) rfl
  have c9_1_8 : u14.cell? ⟨nd6, 8, none⟩ = some (.int .u32 1) := hO.cell 1 rfl (8) rfl
  have lt9_1 : nd6 < u14.heap.size := hO.lt 1 rfl
  have y9_1 : ∀ o, u14.frozen? ⟨nd6, o, none⟩ = false := hO.free 1 rfl
  obtain ⟨c9_2_0, lt9_2, y9_2, -⟩ := hO.k1 2 rfl
  obtain ⟨c9_3_0, lt9_3, y9_3, -⟩ := hO.k1 3 rfl
  obtain ⟨c9_4_0, c9_4_1, c9_4_2, c9_4_3, c9_4_4, c9_4_5, lt9_4, y9_4, -⟩ := hO.k6 4 rfl
  have c9_6_1 : u14.cell? ⟨nd7, 1, none⟩ = some (.pointer (some ⟨nd10, 0, none⟩)) := hO.cell 6 rfl (1) rfl
  have lt9_6 : nd7 < u14.heap.size := hO.lt 6 rfl
  have y9_6 : ∀ o, u14.frozen? ⟨nd7, o, none⟩ = false := hO.free 6 rfl
  obtain ⟨c9_7_0, c9_7_1, c9_7_2, lt9_7, y9_7, -⟩ := hO.k3 7 rfl
  have HO := Lib.hid hO
  clear hO
  go_wp2_with (first | (with_reducible refine Own.stay (fn := Tryd.f3) ?_) | (first | (go_at_call 9; go_in) | (go_at_call 5; go_in) | (go_at_call 6; go_in)))
  try with_reducible refine Own.Stay.mk ?_
  have hO := HO.out
  clear HO c9_1_0 c9_1_6 c9_1_7 c9_1_8 lt9_1 y9_1 c9_2_0 lt9_2 y9_2 c9_3_0 lt9_3 y9_3 c9_4_0 c9_4_1 c9_4_2 c9_4_3 c9_4_4 c9_4_5 lt9_4 y9_4 c9_6_1 lt9_6 y9_6 c9_7_0 c9_7_1 c9_7_2 lt9_7 y9_7
  have hN : Own w0 u14 [row (nd2) 176 (((newPar nd3 nd4).setIfInBounds 106 (.slice (some ⟨nd11, 0, none⟩) 1 (1 + nd12))).setIfInBounds 106 (.slice (some ⟨nd8, 0, none⟩) 2 (2 + nd9))), row (nd6) 191 #[.string ⟨#[67]⟩, .int .u8 3, .pointer (some ⟨nd7, 0, none⟩), .int .i32 0, .nilIface, .int .i32 0, .int .i32 0, .int .u32 0, .int .u32 1, .pointer none, .int .u32 4294967295, .int .u32 4294967295, .slice none 0 0, .slice none 0 0, .slice none 0 0, .slice none 0 0, .int .i64 0, .nilIface, .int .i32 0, .slice none 0 0, .slice none 0 0, .slice none 0 0, .slice none 0 0, .slice none 0 0, .int .u32 4294967295, .int .u32 4294967295, .nilIface, .int .i32 0, .map none, .bool false, .bool false, .slice none 0 0, .slice none 0 0, .slice none 0 0, .slice none 0 0, .int .u32 4294967295, .int .u32 4294967295, .int .u32 4294967295, .int .u32 4294967295, .func (Fn.func 19) #[] #[.pointer (some ⟨nd15, 0, none⟩), .pointer (some ⟨nd16, 0, none⟩), .pointer (some ⟨nd17, 0, none⟩)], .nilFunc, .bool false], row (nd8) 199 (full symZ (symL ([sy ⟨#[67]⟩ 0, sy ⟨#[100, 101, 102, 97, 117, 108, 116]⟩ 0])) nd9), row (nd7) 182 #[.slice none 0 0, .pointer (some ⟨nd10, 0, none⟩), .nilIface, .int .i32 0, .slice none 0 0, .int .i32 0, .int .i32 0, .int .i32 0, .int .i32 0, .bool false, .bool false], row (nd10) 51 #[.int .i32 0, .int .u32 0, .int .u32 0], row (nd15) 27 #[.pointer (some ⟨nd6, 0, none⟩)], row (nd16) 25 #[.pointer (some ⟨nd2, 0, none⟩)], row (nd17) 202 #[.pointer none, .int .u32 4294967295, .int .u32 4294967295, .int .u32 4294967295, .int .u32 4294967295, .bool false]] X := hO.sub [0, 1, 5, 6, 7, 2, 3, 4] (by decide)
  clear hO
  have hO := hN
  clear hN
  go_loopg [13, 14, 15, 16] 1 (fun gf s13 s14 s15 s16 wx => s16 = .int .i64 0 ∧ s13 = .int .u32 0 ∧ s14 = .bool false ∧ s15 = .int .i64 0 ∧ ∃ qa9 qb9 qc9 : Nat, Own w0 wx [row (nd2) 176 (((newPar nd3 nd4).setIfInBounds 106 (.slice (some ⟨nd11, 0, none⟩) 1 (1 + nd12))).setIfInBounds 106 (.slice (some ⟨nd8, 0, none⟩) 2 (2 + nd9))), row (nd6) 191 #[.string ⟨#[67]⟩, .int .u8 3, .pointer (some ⟨nd7, 0, none⟩), .int .i32 0, .nilIface, .int .i32 0, .int .i32 0, .int .u32 0, .int .u32 1, .pointer none, .int .u32 4294967295, .int .u32 4294967295, .slice none 0 0, .slice none 0 0, .slice none 0 0, .slice none 0 0, .int .i64 0, .nilIface, .int .i32 0, .slice none 0 0, .slice none 0 0, .slice none 0 0, .slice none 0 0, .slice none 0 0, .int .u32 4294967295, .int .u32 4294967295, .nilIface, .int .i32 0, .map none, .bool false, .bool false, .slice none 0 0, .slice none 0 0, .slice none 0 0, .slice none 0 0, .int .u32 4294967295, .int .u32 4294967295, .int .u32 4294967295, .int .u32 4294967295, .func (Fn.func 19) #[] #[.pointer (some ⟨qa9, 0, none⟩), .pointer (some ⟨qb9, 0, none⟩), .pointer (some ⟨qc9, 0, none⟩)], .nilFunc, .bool false], row (nd8) 199 (full symZ (symL [sy ⟨#[67]⟩ 0, sy ⟨#[100, 101, 102, 97, 117, 108, 116]⟩ 0]) nd9), row (nd7) 182 #[.slice none 0 0, .pointer (some ⟨nd10, 0, none⟩), .nilIface, .int .i32 0, .slice none 0 0, .int .i32 0, .int .i32 0, .int .i32 0, .int .i32 0, .bool false, .bool false], row (nd10) 51 #[.int .i32 0, .int .u32 0, .int .u32 0], row (qa9) 27 #[.pointer (some ⟨nd6, 0, none⟩)], row (qb9) 25 #[.pointer (some ⟨nd2, 0, none⟩)], row (qc9) 202 #[.pointer none, .int .u32 4294967295, .int .u32 4294967295, .int .u32 4294967295, .int .u32 4294967295, .bool false]] X)
  case atStart => exact ⟨rfl, rfl, rfl, rfl, nd15, nd16, nd17, hO⟩
  obtain ⟨rfl, rfl, rfl, rfl, qa9, qb9, qc9, hO⟩ := hrel
  have c9_1_0 : wr.cell? ⟨nd6, 0, none⟩ = some (.string ⟨#[67]⟩) := hO.cell 1 rfl (0) rfl
  have c9_1_6 : wr.cell? ⟨nd6, 6, none⟩ = some (.int .i32 0) := hO.cell 1 rfl (6) rfl
  have c9_1_7 : wr.cell? ⟨nd6, 7, none⟩ = some (.int .u32 0) := hO.cell 1 rfl (7) rfl
  have c9_1_8 : wr.cell? ⟨nd6, 8, none⟩ = some (.int .u32 1) := hO.cell 1 rfl (8) rfl
  have lt9_1 : nd6 < wr.heap.size := hO.lt 1 rfl
  have y9_1 : ∀ o, wr.frozen? ⟨nd6, o, none⟩ = false := hO.free 1 rfl
  have c9_3_1 : wr.cell? ⟨nd7, 1, none⟩ = some (.pointer (some ⟨nd10, 0, none⟩)) := hO.cell 3 rfl (1) rfl
  have lt9_3 : nd7 < wr.heap.size := hO.lt 3 rfl
  have y9_3 : ∀ o, wr.frozen? ⟨nd7, o, none⟩ = false := hO.free 3 rfl
  obtain ⟨c9_4_0, c9_4_1, c9_4_2, lt9_4, y9_4, -⟩ := hO.k3 4 rfl
  obtain ⟨c9_5_0, lt9_5, y9_5, -⟩ := hO.k1 5 rfl
  obtain ⟨c9_6_0, lt9_6, y9_6, -⟩ := hO.k1 6 rfl
  obtain ⟨c9_7_0, c9_7_1, c9_7_2, c9_7_3, c9_7_4, c9_7_5, lt9_7, y9_7, -⟩ := hO.k6 7 rfl
  have HO := Lib.hid hO
  clear hO
  go_wp2_with (first | (with_reducible refine Own.stay (fn := Tryd.f3) ?_) | (first | (go_at_call 9; go_in) | (go_at_call 5; go_in) | (go_at_call 6; go_in)))
  try with_reducible refine Own.Stay.mk ?_
  have hO := HO.out
  clear HO c9_1_0 c9_1_6 c9_1_7 c9_1_8 lt9_1 y9_1 c9_3_1 lt9_3 y9_3 c9_4_0 c9_4_1 c9_4_2 lt9_4 y9_4 c9_5_0 lt9_5 y9_5 c9_6_0 lt9_6 y9_6 c9_7_0 c9_7_1 c9_7_2 c9_7_3 c9_7_4 c9_7_5 lt9_7 y9_7
  have hL := hO.apart
  have hX := hO.apartX
  have HL := Lib.hid hL
  have HX := Lib.hid hX
  clear hL hX
  have hP9 := hO.pick [0] (by decide)
  have T9 := symCnt nd2 (((newPar nd3 nd4).setIfInBounds 106 (.slice (some ⟨nd11, 0, none⟩) 1 (1 + nd12))).setIfInBounds 106 (.slice (some ⟨nd8, 0, none⟩) 2 (2 + nd9))) nd8 nd9 2 _ _ _ hP9 (get_set (get_set (newPar_106 _ _) _) _)
  refine Calls.mono T9 ?_
  clear hP9 T9
  rintro e u18 ⟨rfl, hQ⟩
  have hN : Own w0 u18 [row (nd2) 176 (((newPar nd3 nd4).setIfInBounds 106 (.slice (some ⟨nd11, 0, none⟩) 1 (1 + nd12))).setIfInBounds 106 (.slice (some ⟨nd8, 0, none⟩) 2 (2 + nd9))), row (nd6) 191 #[.string ⟨#[67]⟩, .int .u8 3, .pointer (some ⟨nd7, 0, none⟩), .int .i32 0, .nilIface, .int .i32 0, .int .i32 0, .int .u32 0, .int .u32 1, .pointer none, .int .u32 4294967295, .int .u32 4294967295, .slice none 0 0, .slice none 0 0, .slice none 0 0, .slice none 0 0, .int .i64 0, .nilIface, .int .i32 0, .slice none 0 0, .slice none 0 0, .slice none 0 0, .slice none 0 0, .slice none 0 0, .int .u32 4294967295, .int .u32 4294967295, .nilIface, .int .i32 0, .map none, .bool false, .bool false, .slice none 0 0, .slice none 0 0, .slice none 0 0, .slice none 0 0, .int .u32 4294967295, .int .u32 4294967295, .int .u32 4294967295, .int .u32 4294967295, .func (Fn.func 19) #[] #[.pointer (some ⟨qa9, 0, none⟩), .pointer (some ⟨qb9, 0, none⟩), .pointer (some ⟨qc9, 0, none⟩)], .nilFunc, .bool false], row (nd8) 199 (full symZ (symL ([sy ⟨#[67]⟩ 0, sy ⟨#[100, 101, 102, 97, 117, 108, 116]⟩ 0])) nd9), row (nd7) 182 #[.slice none 0 0, .pointer (some ⟨nd10, 0, none⟩), .nilIface, .int .i32 0, .slice none 0 0, .int .i32 0, .int .i32 0, .int .i32 0, .int .i32 0, .bool false, .bool false], row (nd10) 51 #[.int .i32 0, .int .u32 0, .int .u32 0], row (qa9) 27 #[.pointer (some ⟨nd6, 0, none⟩)], row (qb9) 25 #[.pointer (some ⟨nd2, 0, none⟩)], row (qc9) 202 #[.pointer none, .int .u32 4294967295, .int .u32 4294967295, .int .u32 4294967295, .int .u32 4294967295, .bool false]] X := hQ.back HL.out HX.out [1, 2, 3, 4, 5, 6, 7] (by decide) (by decide)
  clear hQ HL HX hO
  have hO := hN
  clear hN
  have c9_1_0 : u18.cell? ⟨nd6, 0, none⟩ = some (.string ⟨#[67]⟩) := hO.cell 1 rfl (0) rfl
  have c9_1_6 : u18.cell? ⟨nd6, 6, none⟩ = some (.int .i32 0) := hO.cell 1 rfl (6) rfl
  have c9_1_7 : u18.cell? ⟨nd6, 7, none⟩ = some (.int .u32 0) := hO.cell 1 rfl (7) rfl
  have c9_1_8 : u18.cell? ⟨nd6, 8, none⟩ = some (.int .u32 1) := hO.cell 1 rfl (8) rfl
  have lt9_1 : nd6 < u18.heap.size := hO.lt 1 rfl
  have y9_1 : ∀ o, u18.frozen? ⟨nd6, o, none⟩ = false := hO.free 1 rfl
  have c9_3_1 : u18.cell? ⟨nd7, 1, none⟩ = some (.pointer (some ⟨nd10, 0, none⟩)) := hO.cell 3 rfl (1) rfl
  have lt9_3 : nd7 < u18.heap.size := hO.lt 3 rfl
  have y9_3 : ∀ o, u18.frozen? ⟨nd7, o, none⟩ = false := hO.free 3 rfl
  obtain ⟨c9_4_0, c9_4_1, c9_4_2, lt9_4, y9_4, -⟩ := hO.k3 4 rfl
  obtain ⟨c9_5_0, lt9_5, y9_5, -⟩ := hO.k1 5 rfl
  obtain ⟨c9_6_0, lt9_6, y9_6, -⟩ := hO.k1 6 rfl
  obtain ⟨c9_7_0, c9_7_1, c9_7_2, c9_7_3, c9_7_4, c9_7_5, lt9_7, y9_7, -⟩ := hO.k6 7 rfl
  have HO := Lib.hid hO
  clear hO
  go_wp2_with (first | (with_reducible refine Own.stay (fn := Tryd.f3) ?_) | (first | (go_at_call 9; go_in) | (go_at_call 5; go_in) | (go_at_call 6; go_in)))
  try with_reducible refine Own.Stay.mk ?_
  have hO := HO.out
  clear HO c9_1_0 c9_1_6 c9_1_7 c9_1_8 lt9_1 y9_1 c9_3_1 lt9_3 y9_3 c9_4_0 c9_4_1 c9_4_2 lt9_4 y9_4 c9_5_0 lt9_5 y9_5 c9_6_0 lt9_6 y9_6 c9_7_0 c9_7_1 c9_7_2 c9_7_3 c9_7_4 c9_7_5 lt9_7 y9_7
  refine bodyPost_ret (v := .bool true) ?_ rfl ⟨rfl, hO.sub [] (by decide)⟩
  simp [results, Tryd.results3, go_sem]
end Go.Proofs.YtaoflhnkhgclhaaDoor.Use
