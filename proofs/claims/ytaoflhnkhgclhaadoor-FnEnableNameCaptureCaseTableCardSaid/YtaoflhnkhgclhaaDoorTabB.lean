/- The law on name capture, walked: one of its cases. No condition. -/
import Derived.Test.YtaoflhnkhgclhaaDoorLoop
import Derived.Test.YtaoflhnkhgclhaaDoorRead2
import Derived.Test.YtaoflhnkhgclhaaDoorRead
import Derived.Test.YtaoflhnkhgclhaaDoorCap
import Derived.Test.YtaoflhnkhgclhaaDoorCtx
import Derived.Test.YtaoflhnkhgclhaaDoorNewP
import Derived.Test.YtaoflhnkhgclhaaDoorNam
import Derived.Test.YtaoflhnkhgclhaaDoorVl
import Derived.Test.YtaoflhnkhgclhaaDoorApp
import Derived.Test.YtaoflhnkhgclhaaDoorOwnK
import Derived.Test.YtaoflhnkhgclhaaDoorOwn
import Derived.Test.YtaoflhnkhgclhaaDoorDeepCells
import Derived.Test.YtaoflhnkhgclhaaDoorRows
import Derived.Test.YtaoflhnkhgclhaaDoorUse
import Derived.Test.YtaoflhnkhgclhaaDoorLive
namespace Go.Proofs.YtaoflhnkhgclhaaDoor.Use
open Go.ChangeShapes Go.WideShapes Go.ChangeAt Go.RowKit Go.Sort Own
set_option linter.unusedVariables false
def law38BPost (kd : Int) (k : Nat) (w0 : World) (X : Nat → Obj → Prop) (e : Ending) (w' : World) : Prop :=
  e = .returned (.bool true) ∧ Own w0 w' [] X
set_option maxRecDepth 100000 in
set_option maxHeartbeats 1000000 in
theorem law38B (kd : Int) (k : Nat) (w0 w : World) (X : Nat → Obj → Prop) (hO : Own w0 w [] X) (hkw : IntKind.u8.wrap kd = kd) (hk3 : (kd == 3) = false) (hk0 : (kd == 0) = false) (hk1 : 1 ≤ kd) (hk2 : kd ≤ 3) (hk : k ≤ 4096) (hg0 : w0.cell? ⟨0, 0, none⟩ = some (.int .u32 4294967295)) (hg1 : w0.cell? ⟨0, 1, none⟩ = some (.int .u32 4294967295)) :
    Calls Tryd.prog 4 #[.int .i64 kd, .bool true, .bool true, .int .i64 (k : Int)] w (law38BPost kd k w0 X) := by
  go_enter Tryd.func4, Tryd.ntmps4
  have hk9 : (k : Int) ≤ 4096 := by omega
  have hk8 : (0 : Int) ≤ k := by omega
  have hw9 : IntKind.u32.wrap (k : Int) = (k : Int) := by rw [IntKind.wrap_u32]; omega
  go_wp2_with (first | (with_reducible refine Own.stay (fn := Tryd.f4) ?_) | (first | (go_at_call 9; go_in)))
  try with_reducible refine Own.Stay.mk ?_
  have hL := hO.apart
  have hX := hO.apartX
  have HL := Lib.hid hL
  have HX := Lib.hid hX
  clear hL hX
  have hP9 := hO.pick [] (by decide)
  have T9 := newP  _ _ _ hP9 hg0 hg1
  refine Calls.mono T9 ?_
  clear hP9 T9
  rintro e u1 ⟨nd2, nd3, nd4, rfl, hQ⟩
  have hN : Own w0 u1 [row (nd2) 176 (newPar nd3 nd4)] X := hQ.back HL.out HX.out [] (by decide) (by decide)
  clear hQ HL HX hO
  have hO := hN
  clear hN
  go_wp2_with (first | (with_reducible refine Own.stay (fn := Tryd.f4) ?_) | (first | (go_at_call 9; go_in)))
  try with_reducible refine Own.Stay.mk ?_
  have hL := hO.apart
  have hX := hO.apartX
  have HL := Lib.hid hL
  have HX := Lib.hid hX
  clear hL hX
  have hP9 := hO.pick [0] (by decide)
  have T9 := newCtxN nd2 (newPar nd3 nd4) kd _ _ _ hP9 (newPar_66 _ _) (newPar_32 _ _) (newPar_106 _ _) hkw hk3 hg0 hg1
  refine Calls.mono T9 ?_
  clear hP9 T9
  rintro e u5 ⟨nd6, nd7, nd8, nd9, nd10, rfl, hQ⟩
  have hN : Own w0 u5 [row (nd2) 176 ((newPar nd3 nd4).setIfInBounds 106 (.slice (some ⟨nd8, 0, none⟩) 1 (1 + nd9))), row (nd8) 199 (full symZ (symL ([sy ⟨#[67]⟩ 0])) nd9), row (nd6) 191 #[.string ⟨#[67]⟩, .int .u8 kd, .pointer (some ⟨nd7, 0, none⟩), .int .i32 0, .nilIface, .int .i32 0, .int .i32 0, .int .u32 0, .int .u32 0, .pointer none, .int .u32 4294967295, .int .u32 4294967295, .slice none 0 0, .slice none 0 0, .slice none 0 0, .slice none 0 0, .int .i64 0, .nilIface, .int .i32 0, .slice none 0 0, .slice none 0 0, .slice none 0 0, .slice none 0 0, .slice none 0 0, .int .u32 4294967295, .int .u32 4294967295, .nilIface, .int .i32 0, .map none, .bool false, .bool false, .slice none 0 0, .slice none 0 0, .slice none 0 0, .slice none 0 0, .int .u32 4294967295, .int .u32 4294967295, .int .u32 4294967295, .int .u32 4294967295, .nilFunc, .nilFunc, .bool false], row (nd7) 182 #[.slice none 0 0, .pointer (some ⟨nd10, 0, none⟩), .nilIface, .int .i32 0, .slice none 0 0, .int .i32 0, .int .i32 0, .int .i32 0, .int .i32 0, .bool false, .bool false], row (nd10) 51 #[.int .i32 0, .int .u32 0, .int .u32 0]] X := hQ.back HL.out HX.out [] (by decide) (by decide)
  clear hQ HL HX hO
  have hO := hN
  clear hN
  have c9_2_0 : u5.cell? ⟨nd6, 0, none⟩ = some (.string ⟨#[67]⟩) := hO.cell 2 rfl (0) rfl
  have c9_2_6 : u5.cell? ⟨nd6, 6, none⟩ = some (.int .i32 0) := hO.cell 2 rfl (6) rfl
  have c9_2_7 : u5.cell? ⟨nd6, 7, none⟩ = some (.int .u32 0) := hO.cell 2 rfl (7) rfl
  have c9_2_8 : u5.cell? ⟨nd6, 8, none⟩ = some (.int .u32 0) := hO.cell 2 rfl (8) rfl
  have lt9_2 : nd6 < u5.heap.size := hO.lt 2 rfl
  have y9_2 : ∀ o, u5.frozen? ⟨nd6, o, none⟩ = false := hO.free 2 rfl
  have c9_3_1 : u5.cell? ⟨nd7, 1, none⟩ = some (.pointer (some ⟨nd10, 0, none⟩)) := hO.cell 3 rfl (1) rfl
  have lt9_3 : nd7 < u5.heap.size := hO.lt 3 rfl
  have y9_3 : ∀ o, u5.frozen? ⟨nd7, o, none⟩ = false := hO.free 3 rfl
  obtain ⟨c9_4_0, c9_4_1, c9_4_2, lt9_4, y9_4, -⟩ := hO.k3 4 rfl
  have HO := Lib.hid hO
  clear hO
  go_wp2_with (first | (with_reducible refine Own.stay (fn := Tryd.f4) ?_) | (first | (go_at_call 9; go_in)))
  try with_reducible refine Own.Stay.mk ?_
  have hO := HO.out
  clear HO c9_2_0 c9_2_6 c9_2_7 c9_2_8 lt9_2 y9_2 c9_3_1 lt9_3 y9_3 c9_4_0 c9_4_1 c9_4_2 lt9_4 y9_4
  have hL := hO.apart
  have hX := hO.apartX
  have HL := Lib.hid hL
  have HX := Lib.hid hX
  clear hL hX
  have hP9 := hO.pick [0, 1] (by decide)
  have h9_hn : ([sy ⟨#[67]⟩ 0]).length = 1 := rfl
  have h9_hnb : 1 ≤ 2000000 := (by decide)
  have T9 := addSym nd2 ((newPar nd3 nd4).setIfInBounds 106 (.slice (some ⟨nd8, 0, none⟩) 1 (1 + nd9))) nd8 nd9 ([sy ⟨#[67]⟩ 0]) 1 0 ⟨#[67]⟩ _ _ _ hP9 (get_other (newPar_66 _ _) (by omega) _) (get_other (newPar_32 _ _) (by omega) _) (get_set (newPar_106 _ _) _) h9_hn h9_hnb hg0 hg1
  refine Calls.mono T9 ?_
  clear hP9 T9 h9_hn h9_hnb
  rintro e u11 ⟨nd12, nd13, rfl, hQ⟩
  have hN : Own w0 u11 [row (nd2) 176 (((newPar nd3 nd4).setIfInBounds 106 (.slice (some ⟨nd8, 0, none⟩) 1 (1 + nd9))).setIfInBounds 106 (.slice (some ⟨nd12, 0, none⟩) (1 + 1) (1 + 1 + nd13))), row (nd12) 199 (full symZ (symL ([sy ⟨#[67]⟩ 0, sy ⟨#[67]⟩ 0])) nd13), row (nd6) 191 #[.string ⟨#[67]⟩, .int .u8 kd, .pointer (some ⟨nd7, 0, none⟩), .int .i32 0, .nilIface, .int .i32 0, .int .i32 0, .int .u32 0, .int .u32 0, .pointer none, .int .u32 4294967295, .int .u32 4294967295, .slice none 0 0, .slice none 0 0, .slice none 0 0, .slice none 0 0, .int .i64 0, .nilIface, .int .i32 0, .slice none 0 0, .slice none 0 0, .slice none 0 0, .slice none 0 0, .slice none 0 0, .int .u32 4294967295, .int .u32 4294967295, .nilIface, .int .i32 0, .map none, .bool false, .bool false, .slice none 0 0, .slice none 0 0, .slice none 0 0, .slice none 0 0, .int .u32 4294967295, .int .u32 4294967295, .int .u32 4294967295, .int .u32 4294967295, .nilFunc, .nilFunc, .bool false], row (nd7) 182 #[.slice none 0 0, .pointer (some ⟨nd10, 0, none⟩), .nilIface, .int .i32 0, .slice none 0 0, .int .i32 0, .int .i32 0, .int .i32 0, .int .i32 0, .bool false, .bool false], row (nd10) 51 #[.int .i32 0, .int .u32 0, .int .u32 0]] X := hQ.back HL.out HX.out [2, 3, 4] (by decide) (by decide)
  clear hQ HL HX hO
  have hO := hN
  clear hN
  have c9_2_0 : u11.cell? ⟨nd6, 0, none⟩ = some (.string ⟨#[67]⟩) := hO.cell 2 rfl (0) rfl
  have c9_2_6 : u11.cell? ⟨nd6, 6, none⟩ = some (.int .i32 0) := hO.cell 2 rfl (6) rfl
  have c9_2_7 : u11.cell? ⟨nd6, 7, none⟩ = some (.int .u32 0) := hO.cell 2 rfl (7) rfl
  have c9_2_8 : u11.cell? ⟨nd6, 8, none⟩ = some (.int .u32 0) := hO.cell 2 rfl (8) rfl
  have lt9_2 : nd6 < u11.heap.size := hO.lt 2 rfl
  have y9_2 : ∀ o, u11.frozen? ⟨nd6, o, none⟩ = false := hO.free 2 rfl
  have c9_3_1 : u11.cell? ⟨nd7, 1, none⟩ = some (.pointer (some ⟨nd10, 0, none⟩)) := hO.cell 3 rfl (1) rfl
  have lt9_3 : nd7 < u11.heap.size := hO.lt 3 rfl
  have y9_3 : ∀ o, u11.frozen? ⟨nd7, o, none⟩ = false := hO.free 3 rfl
  obtain ⟨c9_4_0, c9_4_1, c9_4_2, lt9_4, y9_4, -⟩ := hO.k3 4 rfl
  have HO := Lib.hid hO
  clear hO
  go_wp2_with (first | (with_reducible refine Own.stay (fn := Tryd.f4) ?_) | (first | (go_at_call 9; go_in)))
  try with_reducible refine Own.Stay.mk ?_
  have hO := HO.out
  clear HO c9_2_0 c9_2_6 c9_2_7 c9_2_8 lt9_2 y9_2 c9_3_1 lt9_3 y9_3 c9_4_0 c9_4_1 c9_4_2 lt9_4 y9_4
  have hL := hO.apart
  have hX := hO.apartX
  have HL := Lib.hid hL
  have HX := Lib.hid hX
  clear hL hX
  have hP9 := hO.pick [0] (by decide)
  have T9 := symCnt nd2 (((newPar nd3 nd4).setIfInBounds 106 (.slice (some ⟨nd8, 0, none⟩) 1 (1 + nd9))).setIfInBounds 106 (.slice (some ⟨nd12, 0, none⟩) (1 + 1) ((1 + 1) + nd13))) nd12 nd13 (1 + 1) _ _ _ hP9 (get_set (get_set (newPar_106 _ _) _) _)
  refine Calls.mono T9 ?_
  clear hP9 T9
  rintro e u14 ⟨rfl, hQ⟩
  have hN : Own w0 u14 [row (nd2) 176 (((newPar nd3 nd4).setIfInBounds 106 (.slice (some ⟨nd8, 0, none⟩) 1 (1 + nd9))).setIfInBounds 106 (.slice (some ⟨nd12, 0, none⟩) (1 + 1) ((1 + 1) + nd13))), row (nd12) 199 (full symZ (symL ([sy ⟨#[67]⟩ 0, sy ⟨#[67]⟩ 0])) nd13), row (nd6) 191 #[.string ⟨#[67]⟩, .int .u8 kd, .pointer (some ⟨nd7, 0, none⟩), .int .i32 0, .nilIface, .int .i32 0, .int .i32 0, .int .u32 0, .int .u32 0, .pointer none, .int .u32 4294967295, .int .u32 4294967295, .slice none 0 0, .slice none 0 0, .slice none 0 0, .slice none 0 0, .int .i64 0, .nilIface, .int .i32 0, .slice none 0 0, .slice none 0 0, .slice none 0 0, .slice none 0 0, .slice none 0 0, .int .u32 4294967295, .int .u32 4294967295, .nilIface, .int .i32 0, .map none, .bool false, .bool false, .slice none 0 0, .slice none 0 0, .slice none 0 0, .slice none 0 0, .int .u32 4294967295, .int .u32 4294967295, .int .u32 4294967295, .int .u32 4294967295, .nilFunc, .nilFunc, .bool false], row (nd7) 182 #[.slice none 0 0, .pointer (some ⟨nd10, 0, none⟩), .nilIface, .int .i32 0, .slice none 0 0, .int .i32 0, .int .i32 0, .int .i32 0, .int .i32 0, .bool false, .bool false], row (nd10) 51 #[.int .i32 0, .int .u32 0, .int .u32 0]] X := hQ.back HL.out HX.out [1, 2, 3, 4] (by decide) (by decide)
  clear hQ HL HX hO
  have hO := hN
  clear hN
  have c9_2_0 : u14.cell? ⟨nd6, 0, none⟩ = some (.string ⟨#[67]⟩) := hO.cell 2 rfl (0) rfl
  have c9_2_6 : u14.cell? ⟨nd6, 6, none⟩ = some (.int .i32 0) := hO.cell 2 rfl (6) rfl
  have c9_2_7 : u14.cell? ⟨nd6, 7, none⟩ = some (.int .u32 0) := hO.cell 2 rfl (7) rfl
  have c9_2_8 : u14.cell? ⟨nd6, 8, none⟩ = some (.int .u32 0) := hO.cell 2 rfl (8) rfl
  have lt9_2 : nd6 < u14.heap.size := hO.lt 2 rfl
  have y9_2 : ∀ o, u14.frozen? ⟨nd6, o, none⟩ = false := hO.free 2 rfl
  have c9_3_1 : u14.cell? ⟨nd7, 1, none⟩ = some (.pointer (some ⟨nd10, 0, none⟩)) := hO.cell 3 rfl (1) rfl
  have lt9_3 : nd7 < u14.heap.size := hO.lt 3 rfl
  have y9_3 : ∀ o, u14.frozen? ⟨nd7, o, none⟩ = false := hO.free 3 rfl
  obtain ⟨c9_4_0, c9_4_1, c9_4_2, lt9_4, y9_4, -⟩ := hO.k3 4 rfl
  have HO := Lib.hid hO
  clear hO
  go_wp2_with (first | (with_reducible refine Own.stay (fn := Tryd.f4) ?_) | (first | (go_at_call 9; go_in)))
  try with_reducible refine Own.Stay.mk ?_
  have hO := HO.out
  clear HO c9_2_0 c9_2_6 c9_2_7 c9_2_8 lt9_2 y9_2 c9_3_1 lt9_3 y9_3 c9_4_0 c9_4_1 c9_4_2 lt9_4 y9_4
  have hL := hO.apart
  have hX := hO.apartX
  have HL := Lib.hid hL
  have HX := Lib.hid hX
  clear hL hX
  have hP9 := hO.pick [0, 2] (by decide)
  have T9 := zenI nd2 (((newPar nd3 nd4).setIfInBounds 106 (.slice (some ⟨nd8, 0, none⟩) 1 (1 + nd9))).setIfInBounds 106 (.slice (some ⟨nd12, 0, none⟩) (1 + 1) ((1 + 1) + nd13))) nd6 #[.string ⟨#[67]⟩, .int .u8 kd, .pointer (some ⟨nd7, 0, none⟩), .int .i32 0, .nilIface, .int .i32 0, .int .i32 0, .int .u32 0, .int .u32 0, .pointer none, .int .u32 4294967295, .int .u32 4294967295, .slice none 0 0, .slice none 0 0, .slice none 0 0, .slice none 0 0, .int .i64 0, .nilIface, .int .i32 0, .slice none 0 0, .slice none 0 0, .slice none 0 0, .slice none 0 0, .slice none 0 0, .int .u32 4294967295, .int .u32 4294967295, .nilIface, .int .i32 0, .map none, .bool false, .bool false, .slice none 0 0, .slice none 0 0, .slice none 0 0, .slice none 0 0, .int .u32 4294967295, .int .u32 4294967295, .int .u32 4294967295, .int .u32 4294967295, .nilFunc, .nilFunc, .bool false] .nilFunc 1 _ _ _ hP9 (get_other (get_other (newPar_66 _ _) (by omega) _) (by omega) _) rfl hg0 hg1
  refine Calls.mono T9 ?_
  clear hP9 T9
  rintro e u15 ⟨nd16, nd17, nd18, rfl, hQ⟩
  have hN : Own w0 u15 [row (nd2) 176 (((newPar nd3 nd4).setIfInBounds 106 (.slice (some ⟨nd8, 0, none⟩) 1 (1 + nd9))).setIfInBounds 106 (.slice (some ⟨nd12, 0, none⟩) (1 + 1) ((1 + 1) + nd13))), row (nd6) 191 #[.string ⟨#[67]⟩, .int .u8 kd, .pointer (some ⟨nd7, 0, none⟩), .int .i32 0, .nilIface, .int .i32 0, .int .i32 0, .int .u32 0, .int .u32 0, .pointer none, .int .u32 4294967295, .int .u32 4294967295, .slice none 0 0, .slice none 0 0, .slice none 0 0, .slice none 0 0, .int .i64 0, .nilIface, .int .i32 0, .slice none 0 0, .slice none 0 0, .slice none 0 0, .slice none 0 0, .slice none 0 0, .int .u32 4294967295, .int .u32 4294967295, .nilIface, .int .i32 0, .map none, .bool false, .bool false, .slice none 0 0, .slice none 0 0, .slice none 0 0, .slice none 0 0, .int .u32 4294967295, .int .u32 4294967295, .int .u32 4294967295, .int .u32 4294967295, .func (Fn.func 19) #[] #[.pointer (some ⟨nd16, 0, none⟩), .pointer (some ⟨nd17, 0, none⟩), .pointer (some ⟨nd18, 0, none⟩)], .nilFunc, .bool false], row (nd16) 27 #[.pointer (some ⟨nd6, 0, none⟩)], row (nd17) 25 #[.pointer (some ⟨nd2, 0, none⟩)], row (nd18) 202 #[.pointer none, .int .u32 0, .int .u32 1, .int .u32 4294967295, .int .u32 4294967295, .bool false], row (nd12) 199 (full symZ (symL ([sy ⟨#[67]⟩ 0, sy ⟨#[67]⟩ 0])) nd13), row (nd7) 182 #[.slice none 0 0, .pointer (some ⟨nd10, 0, none⟩), .nilIface, .int .i32 0, .slice none 0 0, .int .i32 0, .int .i32 0, .int .i32 0, .int .i32 0, .bool false, .bool false], row (nd10) 51 #[.int .i32 0, .int .u32 0, .int .u32 0]] X := hQ.back HL.out HX.out [1, 3, 4] (by decide) (by decide)
  clear hQ HL HX hO
  have hO := hN
  clear hN
  have c9_1_0 : u15.cell? ⟨nd6, 0, none⟩ = some (.string ⟨#[67]⟩) := hO.cell 1 rfl (0) rfl
  have c9_1_6 : u15.cell? ⟨nd6, 6, none⟩ = some (.int .i32 0) := hO.cell 1 rfl (6) rfl
  have c9_1_7 : u15.cell? ⟨nd6, 7, none⟩ = some (.int .u32 0) := hO.cell 1 rfl (7) rfl
  have c9_1_8 : u15.cell? ⟨nd6, 8, none⟩ = some (.int .u32 0) := hO.cell 1 rfl (8) rfl
  have lt9_1 : nd6 < u15.heap.size := hO.lt 1 rfl
  have y9_1 : ∀ o, u15.frozen? ⟨nd6, o, none⟩ = false := hO.free 1 rfl
  obtain ⟨c9_2_0, lt9_2, y9_2, -⟩ := hO.k1 2 rfl
  obtain ⟨c9_3_0, lt9_3, y9_3, -⟩ := hO.k1 3 rfl
  obtain ⟨c9_4_0, c9_4_1, c9_4_2, c9_4_3, c9_4_4, c9_4_5, lt9_4, y9_4, -⟩ := hO.k6 4 rfl
  have c9_6_1 : u15.cell? ⟨nd7, 1, none⟩ = some (.pointer (some ⟨nd10, 0, none⟩)) := hO.cell 6 rfl (1) rfl
  have lt9_6 : nd7 < u15.heap.size := hO.lt 6 rfl
  have y9_6 : ∀ o, u15.frozen? ⟨nd7, o, none⟩ = false := hO.free 6 rfl
  obtain ⟨c9_7_0, c9_7_1, c9_7_2, lt9_7, y9_7, -⟩ := hO.k3 7 rfl
  have HO := Lib.hid hO
  clear hO
  go_wp2_with (first | (with_reducible refine Own.stay (fn := Tryd.f4) ?_) | (first | (go_at_call 9; go_in)))
  try with_reducible refine Own.Stay.mk ?_
  have hO := HO.out
  clear HO c9_1_0 c9_1_6 c9_1_7 c9_1_8 lt9_1 y9_1 c9_2_0 lt9_2 y9_2 c9_3_0 lt9_3 y9_3 c9_4_0 c9_4_1 c9_4_2 c9_4_3 c9_4_4 c9_4_5 lt9_4 y9_4 c9_6_1 lt9_6 y9_6 c9_7_0 c9_7_1 c9_7_2 lt9_7 y9_7
  have hL := hO.apart
  have hX := hO.apartX
  have HL := Lib.hid hL
  have HX := Lib.hid hX
  clear hL hX
  have hP9 := hO.pick [0] (by decide)
  have T9 := symCnt nd2 (((newPar nd3 nd4).setIfInBounds 106 (.slice (some ⟨nd8, 0, none⟩) 1 (1 + nd9))).setIfInBounds 106 (.slice (some ⟨nd12, 0, none⟩) (1 + 1) ((1 + 1) + nd13))) nd12 nd13 (1 + 1) _ _ _ hP9 (get_set (get_set (newPar_106 _ _) _) _)
  refine Calls.mono T9 ?_
  clear hP9 T9
  rintro e u19 ⟨rfl, hQ⟩
  have hN : Own w0 u19 [row (nd2) 176 (((newPar nd3 nd4).setIfInBounds 106 (.slice (some ⟨nd8, 0, none⟩) 1 (1 + nd9))).setIfInBounds 106 (.slice (some ⟨nd12, 0, none⟩) (1 + 1) ((1 + 1) + nd13))), row (nd6) 191 #[.string ⟨#[67]⟩, .int .u8 kd, .pointer (some ⟨nd7, 0, none⟩), .int .i32 0, .nilIface, .int .i32 0, .int .i32 0, .int .u32 0, .int .u32 0, .pointer none, .int .u32 4294967295, .int .u32 4294967295, .slice none 0 0, .slice none 0 0, .slice none 0 0, .slice none 0 0, .int .i64 0, .nilIface, .int .i32 0, .slice none 0 0, .slice none 0 0, .slice none 0 0, .slice none 0 0, .slice none 0 0, .int .u32 4294967295, .int .u32 4294967295, .nilIface, .int .i32 0, .map none, .bool false, .bool false, .slice none 0 0, .slice none 0 0, .slice none 0 0, .slice none 0 0, .int .u32 4294967295, .int .u32 4294967295, .int .u32 4294967295, .int .u32 4294967295, .func (Fn.func 19) #[] #[.pointer (some ⟨nd16, 0, none⟩), .pointer (some ⟨nd17, 0, none⟩), .pointer (some ⟨nd18, 0, none⟩)], .nilFunc, .bool false], row (nd16) 27 #[.pointer (some ⟨nd6, 0, none⟩)], row (nd17) 25 #[.pointer (some ⟨nd2, 0, none⟩)], row (nd18) 202 #[.pointer none, .int .u32 0, .int .u32 1, .int .u32 4294967295, .int .u32 4294967295, .bool false], row (nd12) 199 (full symZ (symL ([sy ⟨#[67]⟩ 0, sy ⟨#[67]⟩ 0])) nd13), row (nd7) 182 #[.slice none 0 0, .pointer (some ⟨nd10, 0, none⟩), .nilIface, .int .i32 0, .slice none 0 0, .int .i32 0, .int .i32 0, .int .i32 0, .int .i32 0, .bool false, .bool false], row (nd10) 51 #[.int .i32 0, .int .u32 0, .int .u32 0]] X := hQ.back HL.out HX.out [1, 2, 3, 4, 5, 6, 7] (by decide) (by decide)
  clear hQ HL HX hO
  have hO := hN
  clear hN
  have c9_1_0 : u19.cell? ⟨nd6, 0, none⟩ = some (.string ⟨#[67]⟩) := hO.cell 1 rfl (0) rfl
  have c9_1_6 : u19.cell? ⟨nd6, 6, none⟩ = some (.int .i32 0) := hO.cell 1 rfl (6) rfl
  have c9_1_7 : u19.cell? ⟨nd6, 7, none⟩ = some (.int .u32 0) := hO.cell 1 rfl (7) rfl
  have c9_1_8 : u19.cell? ⟨nd6, 8, none⟩ = some (.int .u32 0) := hO.cell 1 rfl (8) rfl
  have lt9_1 : nd6 < u19.heap.size := hO.lt 1 rfl
  have y9_1 : ∀ o, u19.frozen? ⟨nd6, o, none⟩ = false := hO.free 1 rfl
  obtain ⟨c9_2_0, lt9_2, y9_2, -⟩ := hO.k1 2 rfl
  obtain ⟨c9_3_0, lt9_3, y9_3, -⟩ := hO.k1 3 rfl
  obtain ⟨c9_4_0, c9_4_1, c9_4_2, c9_4_3, c9_4_4, c9_4_5, lt9_4, y9_4, -⟩ := hO.k6 4 rfl
  have c9_6_1 : u19.cell? ⟨nd7, 1, none⟩ = some (.pointer (some ⟨nd10, 0, none⟩)) := hO.cell 6 rfl (1) rfl
  have lt9_6 : nd7 < u19.heap.size := hO.lt 6 rfl
  have y9_6 : ∀ o, u19.frozen? ⟨nd7, o, none⟩ = false := hO.free 6 rfl
  obtain ⟨c9_7_0, c9_7_1, c9_7_2, lt9_7, y9_7, -⟩ := hO.k3 7 rfl
  have HO := Lib.hid hO
  clear hO
  go_wp2_with (first | (with_reducible refine Own.stay (fn := Tryd.f4) ?_) | (first | (go_at_call 9; go_in)))
  try with_reducible refine Own.Stay.mk ?_
  have hO := HO.out
  clear HO c9_1_0 c9_1_6 c9_1_7 c9_1_8 lt9_1 y9_1 c9_2_0 lt9_2 y9_2 c9_3_0 lt9_3 y9_3 c9_4_0 c9_4_1 c9_4_2 c9_4_3 c9_4_4 c9_4_5 lt9_4 y9_4 c9_6_1 lt9_6 y9_6 c9_7_0 c9_7_1 c9_7_2 lt9_7 y9_7
  have hL := hO.apart
  have hX := hO.apartX
  have HL := Lib.hid hL
  have HX := Lib.hid hX
  clear hL hX
  have hP9 := hO.pick [1, 6, 7] (by decide)
  have T9 := clsNm nd6 #[.string ⟨#[67]⟩, .int .u8 kd, .pointer (some ⟨nd7, 0, none⟩), .int .i32 0, .nilIface, .int .i32 0, .int .i32 0, .int .u32 0, .int .u32 0, .pointer none, .int .u32 4294967295, .int .u32 4294967295, .slice none 0 0, .slice none 0 0, .slice none 0 0, .slice none 0 0, .int .i64 0, .nilIface, .int .i32 0, .slice none 0 0, .slice none 0 0, .slice none 0 0, .slice none 0 0, .slice none 0 0, .int .u32 4294967295, .int .u32 4294967295, .nilIface, .int .i32 0, .map none, .bool false, .bool false, .slice none 0 0, .slice none 0 0, .slice none 0 0, .slice none 0 0, .int .u32 4294967295, .int .u32 4294967295, .int .u32 4294967295, .int .u32 4294967295, .func (Fn.func 19) #[] #[.pointer (some ⟨nd16, 0, none⟩), .pointer (some ⟨nd17, 0, none⟩), .pointer (some ⟨nd18, 0, none⟩)], .nilFunc, .bool false] nd7 #[.slice none 0 0, .pointer (some ⟨nd10, 0, none⟩), .nilIface, .int .i32 0, .slice none 0 0, .int .i32 0, .int .i32 0, .int .i32 0, .int .i32 0, .bool false, .bool false] nd10 0 _ _ _ hP9 rfl rfl
  refine Calls.mono T9 ?_
  clear hP9 T9
  rintro e u20 ⟨rfl, hQ⟩
  have hN : Own w0 u20 [row (nd6) 191 #[.string ⟨#[67]⟩, .int .u8 kd, .pointer (some ⟨nd7, 0, none⟩), .int .i32 0, .nilIface, .int .i32 0, .int .i32 0, .int .u32 0, .int .u32 0, .pointer none, .int .u32 4294967295, .int .u32 4294967295, .slice none 0 0, .slice none 0 0, .slice none 0 0, .slice none 0 0, .int .i64 0, .nilIface, .int .i32 0, .slice none 0 0, .slice none 0 0, .slice none 0 0, .slice none 0 0, .slice none 0 0, .int .u32 4294967295, .int .u32 4294967295, .nilIface, .int .i32 0, .map none, .bool false, .bool false, .slice none 0 0, .slice none 0 0, .slice none 0 0, .slice none 0 0, .int .u32 4294967295, .int .u32 4294967295, .int .u32 4294967295, .int .u32 4294967295, .func (Fn.func 19) #[] #[.pointer (some ⟨nd16, 0, none⟩), .pointer (some ⟨nd17, 0, none⟩), .pointer (some ⟨nd18, 0, none⟩)], .nilFunc, .bool false], row (nd7) 182 #[.slice none 0 0, .pointer (some ⟨nd10, 0, none⟩), .nilIface, .int .i32 0, .slice none 0 0, .int .i32 0, .int .i32 0, .int .i32 0, .int .i32 0, .bool false, .bool false], row (nd10) 51 #[.int .i32 0, .int .u32 0, .int .u32 0], row (nd2) 176 (((newPar nd3 nd4).setIfInBounds 106 (.slice (some ⟨nd8, 0, none⟩) 1 (1 + nd9))).setIfInBounds 106 (.slice (some ⟨nd12, 0, none⟩) (1 + 1) ((1 + 1) + nd13))), row (nd16) 27 #[.pointer (some ⟨nd6, 0, none⟩)], row (nd17) 25 #[.pointer (some ⟨nd2, 0, none⟩)], row (nd18) 202 #[.pointer none, .int .u32 0, .int .u32 1, .int .u32 4294967295, .int .u32 4294967295, .bool false], row (nd12) 199 (full symZ (symL ([sy ⟨#[67]⟩ 0, sy ⟨#[67]⟩ 0])) nd13)] X := hQ.back HL.out HX.out [0, 2, 3, 4, 5] (by decide) (by decide)
  clear hQ HL HX hO
  have hO := hN
  clear hN
  have c9_0_0 : u20.cell? ⟨nd6, 0, none⟩ = some (.string ⟨#[67]⟩) := hO.cell 0 rfl (0) rfl
  have c9_0_6 : u20.cell? ⟨nd6, 6, none⟩ = some (.int .i32 0) := hO.cell 0 rfl (6) rfl
  have c9_0_7 : u20.cell? ⟨nd6, 7, none⟩ = some (.int .u32 0) := hO.cell 0 rfl (7) rfl
  have c9_0_8 : u20.cell? ⟨nd6, 8, none⟩ = some (.int .u32 0) := hO.cell 0 rfl (8) rfl
  have lt9_0 : nd6 < u20.heap.size := hO.lt 0 rfl
  have y9_0 : ∀ o, u20.frozen? ⟨nd6, o, none⟩ = false := hO.free 0 rfl
  have c9_1_1 : u20.cell? ⟨nd7, 1, none⟩ = some (.pointer (some ⟨nd10, 0, none⟩)) := hO.cell 1 rfl (1) rfl
  have lt9_1 : nd7 < u20.heap.size := hO.lt 1 rfl
  have y9_1 : ∀ o, u20.frozen? ⟨nd7, o, none⟩ = false := hO.free 1 rfl
  obtain ⟨c9_2_0, c9_2_1, c9_2_2, lt9_2, y9_2, -⟩ := hO.k3 2 rfl
  obtain ⟨c9_4_0, lt9_4, y9_4, -⟩ := hO.k1 4 rfl
  obtain ⟨c9_5_0, lt9_5, y9_5, -⟩ := hO.k1 5 rfl
  obtain ⟨c9_6_0, c9_6_1, c9_6_2, c9_6_3, c9_6_4, c9_6_5, lt9_6, y9_6, -⟩ := hO.k6 6 rfl
  have HO := Lib.hid hO
  clear hO
  go_wp2_with (first | (with_reducible refine Own.stay (fn := Tryd.f4) ?_) | (first | (go_at_call 9; go_in)))
  try with_reducible refine Own.Stay.mk ?_
  have hO := HO.out
  clear HO c9_0_0 c9_0_6 c9_0_7 c9_0_8 lt9_0 y9_0 c9_1_1 lt9_1 y9_1 c9_2_0 c9_2_1 c9_2_2 lt9_2 y9_2 c9_4_0 lt9_4 y9_4 c9_5_0 lt9_5 y9_5 c9_6_0 c9_6_1 c9_6_2 c9_6_3 c9_6_4 c9_6_5 lt9_6 y9_6
  go_loopg [16] (k + 1) (fun gf s16 wx => ∃ j : Nat, s16 = .int .i64 (j : Int) ∧ j + gf = k + 1 ∧ j ≤ k ∧ Own w0 wx [row (nd6) 191 #[.string ⟨#[67]⟩, .int .u8 kd, .pointer (some ⟨nd7, 0, none⟩), .int .i32 0, .nilIface, .int .i32 0, .int .i32 0, .int .u32 0, .int .u32 0, .pointer none, .int .u32 4294967295, .int .u32 4294967295, .slice none 0 0, .slice none 0 0, .slice none 0 0, .slice none 0 0, .int .i64 0, .nilIface, .int .i32 0, .slice none 0 0, .slice none 0 0, .slice none 0 0, .slice none 0 0, .slice none 0 0, .int .u32 4294967295, .int .u32 4294967295, .nilIface, .int .i32 0, .map none, .bool false, .bool false, .slice none 0 0, .slice none 0 0, .slice none 0 0, .slice none 0 0, .int .u32 4294967295, .int .u32 4294967295, .int .u32 4294967295, .int .u32 4294967295, .func (Fn.func 19) #[] #[.pointer (some ⟨nd16, 0, none⟩), .pointer (some ⟨nd17, 0, none⟩), .pointer (some ⟨nd18, 0, none⟩)], .nilFunc, .bool false], row (nd7) 182 #[.slice none 0 0, .pointer (some ⟨nd10, 0, none⟩), .nilIface, .int .i32 0, .slice none 0 0, .int .i32 0, .int .i32 0, .int .i32 0, .int .i32 0, .bool false, .bool false], row (nd10) 51 #[.int .i32 0, .int .u32 0, .int .u32 0], row (nd2) 176 (((newPar nd3 nd4).setIfInBounds 106 (.slice (some ⟨nd8, 0, none⟩) 1 (1 + nd9))).setIfInBounds 106 (.slice (some ⟨nd12, 0, none⟩) (1 + 1) ((1 + 1) + nd13))), row (nd16) 27 #[.pointer (some ⟨nd6, 0, none⟩)], row (nd17) 25 #[.pointer (some ⟨nd2, 0, none⟩)], row (nd18) 202 #[.pointer none, .int .u32 0, .int .u32 1, .int .u32 4294967295, .int .u32 4294967295, .bool false], row (nd12) 199 (full symZ (symL [sy ⟨#[67]⟩ 0, sy ⟨#[67]⟩ j]) nd13)] X)
  case atStart => exact ⟨0, rfl, by omega, by omega, hO⟩
  obtain ⟨j, rfl, hj, hjk, hO⟩ := hrel
  by_cases hlt : j < k
  · skip
    obtain ⟨gq, rfl⟩ : ∃ gq, gk = gq + 1 := ⟨gk - 1, by omega⟩
    have hlt9 : (j : Int) < k := by omega
    have c9_0_0 : wr.cell? ⟨nd6, 0, none⟩ = some (.string ⟨#[67]⟩) := hO.cell 0 rfl (0) rfl
    have c9_0_6 : wr.cell? ⟨nd6, 6, none⟩ = some (.int .i32 0) := hO.cell 0 rfl (6) rfl
    have c9_0_7 : wr.cell? ⟨nd6, 7, none⟩ = some (.int .u32 0) := hO.cell 0 rfl (7) rfl
    have c9_0_8 : wr.cell? ⟨nd6, 8, none⟩ = some (.int .u32 0) := hO.cell 0 rfl (8) rfl
    have lt9_0 : nd6 < wr.heap.size := hO.lt 0 rfl
    have y9_0 : ∀ o, wr.frozen? ⟨nd6, o, none⟩ = false := hO.free 0 rfl
    have c9_1_1 : wr.cell? ⟨nd7, 1, none⟩ = some (.pointer (some ⟨nd10, 0, none⟩)) := hO.cell 1 rfl (1) rfl
    have lt9_1 : nd7 < wr.heap.size := hO.lt 1 rfl
    have y9_1 : ∀ o, wr.frozen? ⟨nd7, o, none⟩ = false := hO.free 1 rfl
    obtain ⟨c9_2_0, c9_2_1, c9_2_2, lt9_2, y9_2, -⟩ := hO.k3 2 rfl
    obtain ⟨c9_4_0, lt9_4, y9_4, -⟩ := hO.k1 4 rfl
    obtain ⟨c9_5_0, lt9_5, y9_5, -⟩ := hO.k1 5 rfl
    obtain ⟨c9_6_0, c9_6_1, c9_6_2, c9_6_3, c9_6_4, c9_6_5, lt9_6, y9_6, -⟩ := hO.k6 6 rfl
    have HO := Lib.hid hO
    clear hO
    go_wp2_with (first | (with_reducible refine Own.stay (fn := Tryd.f4) ?_) | (first | (go_at_call 9; go_in)))
    try with_reducible refine Own.Stay.mk ?_
    have hO := HO.out
    clear HO c9_0_0 c9_0_6 c9_0_7 c9_0_8 lt9_0 y9_0 c9_1_1 lt9_1 y9_1 c9_2_0 c9_2_1 c9_2_2 lt9_2 y9_2 c9_4_0 lt9_4 y9_4 c9_5_0 lt9_5 y9_5 c9_6_0 c9_6_1 c9_6_2 c9_6_3 c9_6_4 c9_6_5 lt9_6 y9_6
    have hL := hO.apart
    have hX := hO.apartX
    have HL := Lib.hid hL
    have HX := Lib.hid hX
    clear hL hX
    have hP9 := hO.pick [3, 7, 0, 1, 2, 4, 5, 6] (by decide)
    have h9_hn : ([sy ⟨#[67]⟩ 0, sy ⟨#[67]⟩ j]).length = (1 + 1) := rfl
    have h9_hnb : (1 + 1) ≤ 4000000 := (by decide)
    have h9_hu : ∃ s, ([sy ⟨#[67]⟩ 0, sy ⟨#[67]⟩ j])[1]? = some s ∧ s.uc < 4294967295 := ⟨sy _ j, rfl, (by show j < _; omega)⟩
    have T9 := nfrI nd2 (((newPar nd3 nd4).setIfInBounds 106 (.slice (some ⟨nd8, 0, none⟩) 1 (1 + nd9))).setIfInBounds 106 (.slice (some ⟨nd12, 0, none⟩) (1 + 1) ((1 + 1) + nd13))) nd12 nd13 ([sy ⟨#[67]⟩ 0, sy ⟨#[67]⟩ j]) (1 + 1) nd6 #[.string ⟨#[67]⟩, .int .u8 kd, .pointer (some ⟨nd7, 0, none⟩), .int .i32 0, .nilIface, .int .i32 0, .int .i32 0, .int .u32 0, .int .u32 0, .pointer none, .int .u32 4294967295, .int .u32 4294967295, .slice none 0 0, .slice none 0 0, .slice none 0 0, .slice none 0 0, .int .i64 0, .nilIface, .int .i32 0, .slice none 0 0, .slice none 0 0, .slice none 0 0, .slice none 0 0, .slice none 0 0, .int .u32 4294967295, .int .u32 4294967295, .nilIface, .int .i32 0, .map none, .bool false, .bool false, .slice none 0 0, .slice none 0 0, .slice none 0 0, .slice none 0 0, .int .u32 4294967295, .int .u32 4294967295, .int .u32 4294967295, .int .u32 4294967295, .func (Fn.func 19) #[] #[.pointer (some ⟨nd16, 0, none⟩), .pointer (some ⟨nd17, 0, none⟩), .pointer (some ⟨nd18, 0, none⟩)], .nilFunc, .bool false] nd7 #[.slice none 0 0, .pointer (some ⟨nd10, 0, none⟩), .nilIface, .int .i32 0, .slice none 0 0, .int .i32 0, .int .i32 0, .int .i32 0, .int .i32 0, .bool false, .bool false] nd10 nd16 nd17 nd18 kd 1 0 _ _ _ hP9 (get_other (get_other (newPar_350 _ _) (by omega) _) (by omega) _) (get_other (get_other (newPar_32 _ _) (by omega) _) (by omega) _) (get_other (get_other (newPar_105 _ _) (by omega) _) (by omega) _) (get_set (get_set (newPar_106 _ _) _) _) h9_hn h9_hnb h9_hu rfl rfl hk0 rfl hg0 hg1 rfl
    refine Calls.mono T9 ?_
    clear hP9 T9 h9_hn h9_hnb h9_hu
    rintro e u21 ⟨rfl, hQ⟩
    have hN : Own w0 u21 [row (nd2) 176 (((newPar nd3 nd4).setIfInBounds 106 (.slice (some ⟨nd8, 0, none⟩) 1 (1 + nd9))).setIfInBounds 106 (.slice (some ⟨nd12, 0, none⟩) (1 + 1) ((1 + 1) + nd13))), row (nd12) 199 (full symZ (symL ([sy ⟨#[67]⟩ 0, sy ⟨#[67]⟩ (j + 1)])) nd13), row (nd6) 191 #[.string ⟨#[67]⟩, .int .u8 kd, .pointer (some ⟨nd7, 0, none⟩), .int .i32 0, .nilIface, .int .i32 0, .int .i32 0, .int .u32 0, .int .u32 0, .pointer none, .int .u32 4294967295, .int .u32 4294967295, .slice none 0 0, .slice none 0 0, .slice none 0 0, .slice none 0 0, .int .i64 0, .nilIface, .int .i32 0, .slice none 0 0, .slice none 0 0, .slice none 0 0, .slice none 0 0, .slice none 0 0, .int .u32 4294967295, .int .u32 4294967295, .nilIface, .int .i32 0, .map none, .bool false, .bool false, .slice none 0 0, .slice none 0 0, .slice none 0 0, .slice none 0 0, .int .u32 4294967295, .int .u32 4294967295, .int .u32 4294967295, .int .u32 4294967295, .func (Fn.func 19) #[] #[.pointer (some ⟨nd16, 0, none⟩), .pointer (some ⟨nd17, 0, none⟩), .pointer (some ⟨nd18, 0, none⟩)], .nilFunc, .bool false], row (nd7) 182 #[.slice none 0 0, .pointer (some ⟨nd10, 0, none⟩), .nilIface, .int .i32 0, .slice none 0 0, .int .i32 0, .int .i32 0, .int .i32 0, .int .i32 0, .bool false, .bool false], row (nd10) 51 #[.int .i32 0, .int .u32 0, .int .u32 0], row (nd16) 27 #[.pointer (some ⟨nd6, 0, none⟩)], row (nd17) 25 #[.pointer (some ⟨nd2, 0, none⟩)], row (nd18) 202 #[.pointer none, .int .u32 0, .int .u32 1, .int .u32 4294967295, .int .u32 4294967295, .bool false]] X := hQ.back HL.out HX.out [] (by decide) (by decide)
    clear hQ HL HX hO
    have hO := hN
    clear hN
    have c9_2_0 : u21.cell? ⟨nd6, 0, none⟩ = some (.string ⟨#[67]⟩) := hO.cell 2 rfl (0) rfl
    have c9_2_6 : u21.cell? ⟨nd6, 6, none⟩ = some (.int .i32 0) := hO.cell 2 rfl (6) rfl
    have c9_2_7 : u21.cell? ⟨nd6, 7, none⟩ = some (.int .u32 0) := hO.cell 2 rfl (7) rfl
    have c9_2_8 : u21.cell? ⟨nd6, 8, none⟩ = some (.int .u32 0) := hO.cell 2 rfl (8) rfl
    have lt9_2 : nd6 < u21.heap.size := hO.lt 2 rfl
    have y9_2 : ∀ o, u21.frozen? ⟨nd6, o, none⟩ = false := hO.free 2 rfl
    have c9_3_1 : u21.cell? ⟨nd7, 1, none⟩ = some (.pointer (some ⟨nd10, 0, none⟩)) := hO.cell 3 rfl (1) rfl
    have lt9_3 : nd7 < u21.heap.size := hO.lt 3 rfl
    have y9_3 : ∀ o, u21.frozen? ⟨nd7, o, none⟩ = false := hO.free 3 rfl
    obtain ⟨c9_4_0, c9_4_1, c9_4_2, lt9_4, y9_4, -⟩ := hO.k3 4 rfl
    obtain ⟨c9_5_0, lt9_5, y9_5, -⟩ := hO.k1 5 rfl
    obtain ⟨c9_6_0, lt9_6, y9_6, -⟩ := hO.k1 6 rfl
    obtain ⟨c9_7_0, c9_7_1, c9_7_2, c9_7_3, c9_7_4, c9_7_5, lt9_7, y9_7, -⟩ := hO.k6 7 rfl
    have HO := Lib.hid hO
    clear hO
    go_wp2_with (first | (with_reducible refine Own.stay (fn := Tryd.f4) ?_) | (first | (go_at_call 9; go_in)))
    try with_reducible refine Own.Stay.mk ?_
    have hO := HO.out
    clear HO c9_2_0 c9_2_6 c9_2_7 c9_2_8 lt9_2 y9_2 c9_3_1 lt9_3 y9_3 c9_4_0 c9_4_1 c9_4_2 lt9_4 y9_4 c9_5_0 lt9_5 y9_5 c9_6_0 lt9_6 y9_6 c9_7_0 c9_7_1 c9_7_2 c9_7_3 c9_7_4 c9_7_5 lt9_7 y9_7
    have hN : Own w0 u21 [row (nd6) 191 #[.string ⟨#[67]⟩, .int .u8 kd, .pointer (some ⟨nd7, 0, none⟩), .int .i32 0, .nilIface, .int .i32 0, .int .i32 0, .int .u32 0, .int .u32 0, .pointer none, .int .u32 4294967295, .int .u32 4294967295, .slice none 0 0, .slice none 0 0, .slice none 0 0, .slice none 0 0, .int .i64 0, .nilIface, .int .i32 0, .slice none 0 0, .slice none 0 0, .slice none 0 0, .slice none 0 0, .slice none 0 0, .int .u32 4294967295, .int .u32 4294967295, .nilIface, .int .i32 0, .map none, .bool false, .bool false, .slice none 0 0, .slice none 0 0, .slice none 0 0, .slice none 0 0, .int .u32 4294967295, .int .u32 4294967295, .int .u32 4294967295, .int .u32 4294967295, .func (Fn.func 19) #[] #[.pointer (some ⟨nd16, 0, none⟩), .pointer (some ⟨nd17, 0, none⟩), .pointer (some ⟨nd18, 0, none⟩)], .nilFunc, .bool false], row (nd7) 182 #[.slice none 0 0, .pointer (some ⟨nd10, 0, none⟩), .nilIface, .int .i32 0, .slice none 0 0, .int .i32 0, .int .i32 0, .int .i32 0, .int .i32 0, .bool false, .bool false], row (nd10) 51 #[.int .i32 0, .int .u32 0, .int .u32 0], row (nd2) 176 (((newPar nd3 nd4).setIfInBounds 106 (.slice (some ⟨nd8, 0, none⟩) 1 (1 + nd9))).setIfInBounds 106 (.slice (some ⟨nd12, 0, none⟩) (1 + 1) ((1 + 1) + nd13))), row (nd16) 27 #[.pointer (some ⟨nd6, 0, none⟩)], row (nd17) 25 #[.pointer (some ⟨nd2, 0, none⟩)], row (nd18) 202 #[.pointer none, .int .u32 0, .int .u32 1, .int .u32 4294967295, .int .u32 4294967295, .bool false], row (nd12) 199 (full symZ (symL ([sy ⟨#[67]⟩ 0, sy ⟨#[67]⟩ (j + 1)])) nd13)] X := hO.sub [2, 3, 4, 0, 5, 6, 7, 1] (by decide)
    clear hO
    have hO := hN
    clear hN
    go_roundg gq
    case measure => omega
    case rel => exact ⟨j + 1, by simp, by omega, by omega, hO⟩
  obtain rfl : j = k := by omega
  have hlt9 : ¬ (j : Int) < j := by omega
  clear hlt hjk hj
  have c9_0_0 : wr.cell? ⟨nd6, 0, none⟩ = some (.string ⟨#[67]⟩) := hO.cell 0 rfl (0) rfl
  have c9_0_6 : wr.cell? ⟨nd6, 6, none⟩ = some (.int .i32 0) := hO.cell 0 rfl (6) rfl
  have c9_0_7 : wr.cell? ⟨nd6, 7, none⟩ = some (.int .u32 0) := hO.cell 0 rfl (7) rfl
  have c9_0_8 : wr.cell? ⟨nd6, 8, none⟩ = some (.int .u32 0) := hO.cell 0 rfl (8) rfl
  have lt9_0 : nd6 < wr.heap.size := hO.lt 0 rfl
  have y9_0 : ∀ o, wr.frozen? ⟨nd6, o, none⟩ = false := hO.free 0 rfl
  have c9_1_1 : wr.cell? ⟨nd7, 1, none⟩ = some (.pointer (some ⟨nd10, 0, none⟩)) := hO.cell 1 rfl (1) rfl
  have lt9_1 : nd7 < wr.heap.size := hO.lt 1 rfl
  have y9_1 : ∀ o, wr.frozen? ⟨nd7, o, none⟩ = false := hO.free 1 rfl
  obtain ⟨c9_2_0, c9_2_1, c9_2_2, lt9_2, y9_2, -⟩ := hO.k3 2 rfl
  obtain ⟨c9_4_0, lt9_4, y9_4, -⟩ := hO.k1 4 rfl
  obtain ⟨c9_5_0, lt9_5, y9_5, -⟩ := hO.k1 5 rfl
  obtain ⟨c9_6_0, c9_6_1, c9_6_2, c9_6_3, c9_6_4, c9_6_5, lt9_6, y9_6, -⟩ := hO.k6 6 rfl
  have HO := Lib.hid hO
  clear hO
  go_wp2_with (first | (with_reducible refine Own.stay (fn := Tryd.f4) ?_) | (first | (go_at_call 9; go_in)))
  try with_reducible refine Own.Stay.mk ?_
  have hO := HO.out
  clear HO c9_0_0 c9_0_6 c9_0_7 c9_0_8 lt9_0 y9_0 c9_1_1 lt9_1 y9_1 c9_2_0 c9_2_1 c9_2_2 lt9_2 y9_2 c9_4_0 lt9_4 y9_4 c9_5_0 lt9_5 y9_5 c9_6_0 c9_6_1 c9_6_2 c9_6_3 c9_6_4 c9_6_5 lt9_6 y9_6
  have hL := hO.apart
  have hX := hO.apartX
  have HL := Lib.hid hL
  have HX := Lib.hid hX
  clear hL hX
  have hP9 := hO.pick [3] (by decide)
  have T9 := symCnt nd2 (((newPar nd3 nd4).setIfInBounds 106 (.slice (some ⟨nd8, 0, none⟩) 1 (1 + nd9))).setIfInBounds 106 (.slice (some ⟨nd12, 0, none⟩) (1 + 1) ((1 + 1) + nd13))) nd12 nd13 (1 + 1) _ _ _ hP9 (get_set (get_set (newPar_106 _ _) _) _)
  refine Calls.mono T9 ?_
  clear hP9 T9
  rintro e u22 ⟨rfl, hQ⟩
  have hN : Own w0 u22 [row (nd2) 176 (((newPar nd3 nd4).setIfInBounds 106 (.slice (some ⟨nd8, 0, none⟩) 1 (1 + nd9))).setIfInBounds 106 (.slice (some ⟨nd12, 0, none⟩) (1 + 1) ((1 + 1) + nd13))), row (nd6) 191 #[.string ⟨#[67]⟩, .int .u8 kd, .pointer (some ⟨nd7, 0, none⟩), .int .i32 0, .nilIface, .int .i32 0, .int .i32 0, .int .u32 0, .int .u32 0, .pointer none, .int .u32 4294967295, .int .u32 4294967295, .slice none 0 0, .slice none 0 0, .slice none 0 0, .slice none 0 0, .int .i64 0, .nilIface, .int .i32 0, .slice none 0 0, .slice none 0 0, .slice none 0 0, .slice none 0 0, .slice none 0 0, .int .u32 4294967295, .int .u32 4294967295, .nilIface, .int .i32 0, .map none, .bool false, .bool false, .slice none 0 0, .slice none 0 0, .slice none 0 0, .slice none 0 0, .int .u32 4294967295, .int .u32 4294967295, .int .u32 4294967295, .int .u32 4294967295, .func (Fn.func 19) #[] #[.pointer (some ⟨nd16, 0, none⟩), .pointer (some ⟨nd17, 0, none⟩), .pointer (some ⟨nd18, 0, none⟩)], .nilFunc, .bool false], row (nd7) 182 #[.slice none 0 0, .pointer (some ⟨nd10, 0, none⟩), .nilIface, .int .i32 0, .slice none 0 0, .int .i32 0, .int .i32 0, .int .i32 0, .int .i32 0, .bool false, .bool false], row (nd10) 51 #[.int .i32 0, .int .u32 0, .int .u32 0], row (nd16) 27 #[.pointer (some ⟨nd6, 0, none⟩)], row (nd17) 25 #[.pointer (some ⟨nd2, 0, none⟩)], row (nd18) 202 #[.pointer none, .int .u32 0, .int .u32 1, .int .u32 4294967295, .int .u32 4294967295, .bool false], row (nd12) 199 (full symZ (symL ([sy ⟨#[67]⟩ 0, sy ⟨#[67]⟩ j])) nd13)] X := hQ.back HL.out HX.out [0, 1, 2, 4, 5, 6, 7] (by decide) (by decide)
  clear hQ HL HX hO
  have hO := hN
  clear hN
  have c9_1_0 : u22.cell? ⟨nd6, 0, none⟩ = some (.string ⟨#[67]⟩) := hO.cell 1 rfl (0) rfl
  have c9_1_6 : u22.cell? ⟨nd6, 6, none⟩ = some (.int .i32 0) := hO.cell 1 rfl (6) rfl
  have c9_1_7 : u22.cell? ⟨nd6, 7, none⟩ = some (.int .u32 0) := hO.cell 1 rfl (7) rfl
  have c9_1_8 : u22.cell? ⟨nd6, 8, none⟩ = some (.int .u32 0) := hO.cell 1 rfl (8) rfl
  have lt9_1 : nd6 < u22.heap.size := hO.lt 1 rfl
  have y9_1 : ∀ o, u22.frozen? ⟨nd6, o, none⟩ = false := hO.free 1 rfl
  have c9_2_1 : u22.cell? ⟨nd7, 1, none⟩ = some (.pointer (some ⟨nd10, 0, none⟩)) := hO.cell 2 rfl (1) rfl
  have lt9_2 : nd7 < u22.heap.size := hO.lt 2 rfl
  have y9_2 : ∀ o, u22.frozen? ⟨nd7, o, none⟩ = false := hO.free 2 rfl
  obtain ⟨c9_3_0, c9_3_1, c9_3_2, lt9_3, y9_3, -⟩ := hO.k3 3 rfl
  obtain ⟨c9_4_0, lt9_4, y9_4, -⟩ := hO.k1 4 rfl
  obtain ⟨c9_5_0, lt9_5, y9_5, -⟩ := hO.k1 5 rfl
  obtain ⟨c9_6_0, c9_6_1, c9_6_2, c9_6_3, c9_6_4, c9_6_5, lt9_6, y9_6, -⟩ := hO.k6 6 rfl
  have HO := Lib.hid hO
  clear hO
  go_wp2_with (first | (with_reducible refine Own.stay (fn := Tryd.f4) ?_) | (first | (go_at_call 9; go_in)))
  try with_reducible refine Own.Stay.mk ?_
  have hO := HO.out
  clear HO c9_1_0 c9_1_6 c9_1_7 c9_1_8 lt9_1 y9_1 c9_2_1 lt9_2 y9_2 c9_3_0 c9_3_1 c9_3_2 lt9_3 y9_3 c9_4_0 lt9_4 y9_4 c9_5_0 lt9_5 y9_5 c9_6_0 c9_6_1 c9_6_2 c9_6_3 c9_6_4 c9_6_5 lt9_6 y9_6
  have hL := hO.apart
  have hX := hO.apartX
  have HL := Lib.hid hL
  have HX := Lib.hid hX
  clear hL hX
  have hP9 := hO.pick [0, 7] (by decide)
  have h9_hn : ([sy ⟨#[67]⟩ 0, sy ⟨#[67]⟩ j]).length = (1 + 1) := rfl
  have h9_hnb : (1 + 1) ≤ 4000000 := (by decide)
  have h9_hi : 1 < (1 + 1) := (by decide)
  have h9_hs : ([sy ⟨#[67]⟩ 0, sy ⟨#[67]⟩ j])[1]? = some (sy (⟨#[67]⟩ : ByteArray) j) := rfl
  have T9 := useCnt nd2 (((newPar nd3 nd4).setIfInBounds 106 (.slice (some ⟨nd8, 0, none⟩) 1 (1 + nd9))).setIfInBounds 106 (.slice (some ⟨nd12, 0, none⟩) (1 + 1) ((1 + 1) + nd13))) nd12 nd13 ([sy ⟨#[67]⟩ 0, sy ⟨#[67]⟩ j]) (1 + 1) 1 ⟨#[67]⟩ j _ _ _ hP9 (get_set (get_set (newPar_106 _ _) _) _) h9_hn h9_hnb h9_hi h9_hs
  refine Calls.mono T9 ?_
  clear hP9 T9 h9_hn h9_hnb h9_hi h9_hs
  rintro e u23 ⟨rfl, hQ⟩
  have hN : Own w0 u23 [row (nd2) 176 (((newPar nd3 nd4).setIfInBounds 106 (.slice (some ⟨nd8, 0, none⟩) 1 (1 + nd9))).setIfInBounds 106 (.slice (some ⟨nd12, 0, none⟩) (1 + 1) ((1 + 1) + nd13))), row (nd12) 199 (full symZ (symL ([sy ⟨#[67]⟩ 0, sy ⟨#[67]⟩ j])) nd13), row (nd6) 191 #[.string ⟨#[67]⟩, .int .u8 kd, .pointer (some ⟨nd7, 0, none⟩), .int .i32 0, .nilIface, .int .i32 0, .int .i32 0, .int .u32 0, .int .u32 0, .pointer none, .int .u32 4294967295, .int .u32 4294967295, .slice none 0 0, .slice none 0 0, .slice none 0 0, .slice none 0 0, .int .i64 0, .nilIface, .int .i32 0, .slice none 0 0, .slice none 0 0, .slice none 0 0, .slice none 0 0, .slice none 0 0, .int .u32 4294967295, .int .u32 4294967295, .nilIface, .int .i32 0, .map none, .bool false, .bool false, .slice none 0 0, .slice none 0 0, .slice none 0 0, .slice none 0 0, .int .u32 4294967295, .int .u32 4294967295, .int .u32 4294967295, .int .u32 4294967295, .func (Fn.func 19) #[] #[.pointer (some ⟨nd16, 0, none⟩), .pointer (some ⟨nd17, 0, none⟩), .pointer (some ⟨nd18, 0, none⟩)], .nilFunc, .bool false], row (nd7) 182 #[.slice none 0 0, .pointer (some ⟨nd10, 0, none⟩), .nilIface, .int .i32 0, .slice none 0 0, .int .i32 0, .int .i32 0, .int .i32 0, .int .i32 0, .bool false, .bool false], row (nd10) 51 #[.int .i32 0, .int .u32 0, .int .u32 0], row (nd16) 27 #[.pointer (some ⟨nd6, 0, none⟩)], row (nd17) 25 #[.pointer (some ⟨nd2, 0, none⟩)], row (nd18) 202 #[.pointer none, .int .u32 0, .int .u32 1, .int .u32 4294967295, .int .u32 4294967295, .bool false]] X := hQ.back HL.out HX.out [1, 2, 3, 4, 5, 6] (by decide) (by decide)
  clear hQ HL HX hO
  have hO := hN
  clear hN
  have c9_2_0 : u23.cell? ⟨nd6, 0, none⟩ = some (.string ⟨#[67]⟩) := hO.cell 2 rfl (0) rfl
  have c9_2_6 : u23.cell? ⟨nd6, 6, none⟩ = some (.int .i32 0) := hO.cell 2 rfl (6) rfl
  have c9_2_7 : u23.cell? ⟨nd6, 7, none⟩ = some (.int .u32 0) := hO.cell 2 rfl (7) rfl
  have c9_2_8 : u23.cell? ⟨nd6, 8, none⟩ = some (.int .u32 0) := hO.cell 2 rfl (8) rfl
  have lt9_2 : nd6 < u23.heap.size := hO.lt 2 rfl
  have y9_2 : ∀ o, u23.frozen? ⟨nd6, o, none⟩ = false := hO.free 2 rfl
  have c9_3_1 : u23.cell? ⟨nd7, 1, none⟩ = some (.pointer (some ⟨nd10, 0, none⟩)) := hO.cell 3 rfl (1) rfl
  have lt9_3 : nd7 < u23.heap.size := hO.lt 3 rfl
  have y9_3 : ∀ o, u23.frozen? ⟨nd7, o, none⟩ = false := hO.free 3 rfl
  obtain ⟨c9_4_0, c9_4_1, c9_4_2, lt9_4, y9_4, -⟩ := hO.k3 4 rfl
  obtain ⟨c9_5_0, lt9_5, y9_5, -⟩ := hO.k1 5 rfl
  obtain ⟨c9_6_0, lt9_6, y9_6, -⟩ := hO.k1 6 rfl
  obtain ⟨c9_7_0, c9_7_1, c9_7_2, c9_7_3, c9_7_4, c9_7_5, lt9_7, y9_7, -⟩ := hO.k6 7 rfl
  have HO := Lib.hid hO
  clear hO
  go_wp2_with (first | (with_reducible refine Own.stay (fn := Tryd.f4) ?_) | (first | (go_at_call 9; go_in)))
  try with_reducible refine Own.Stay.mk ?_
  have hO := HO.out
  clear HO c9_2_0 c9_2_6 c9_2_7 c9_2_8 lt9_2 y9_2 c9_3_1 lt9_3 y9_3 c9_4_0 c9_4_1 c9_4_2 lt9_4 y9_4 c9_5_0 lt9_5 y9_5 c9_6_0 lt9_6 y9_6 c9_7_0 c9_7_1 c9_7_2 c9_7_3 c9_7_4 c9_7_5 lt9_7 y9_7
  have hL := hO.apart
  have hX := hO.apartX
  have HL := Lib.hid hL
  have HX := Lib.hid hX
  clear hL hX
  have hP9 := hO.pick [0, 1] (by decide)
  have h9_hn : ([sy ⟨#[67]⟩ 0, sy ⟨#[67]⟩ j]).length = (1 + 1) := rfl
  have h9_hnb : (1 + 1) ≤ 4000000 := (by decide)
  have h9_hi : 0 < (1 + 1) := (by decide)
  have h9_hs : ([sy ⟨#[67]⟩ 0, sy ⟨#[67]⟩ j])[0]? = some (sy (⟨#[67]⟩ : ByteArray) 0) := rfl
  have T9 := useCnt nd2 (((newPar nd3 nd4).setIfInBounds 106 (.slice (some ⟨nd8, 0, none⟩) 1 (1 + nd9))).setIfInBounds 106 (.slice (some ⟨nd12, 0, none⟩) (1 + 1) ((1 + 1) + nd13))) nd12 nd13 ([sy ⟨#[67]⟩ 0, sy ⟨#[67]⟩ j]) (1 + 1) 0 ⟨#[67]⟩ 0 _ _ _ hP9 (get_set (get_set (newPar_106 _ _) _) _) h9_hn h9_hnb h9_hi h9_hs
  refine Calls.mono T9 ?_
  clear hP9 T9 h9_hn h9_hnb h9_hi h9_hs
  rintro e u24 ⟨rfl, hQ⟩
  have hN : Own w0 u24 [row (nd2) 176 (((newPar nd3 nd4).setIfInBounds 106 (.slice (some ⟨nd8, 0, none⟩) 1 (1 + nd9))).setIfInBounds 106 (.slice (some ⟨nd12, 0, none⟩) (1 + 1) ((1 + 1) + nd13))), row (nd12) 199 (full symZ (symL ([sy ⟨#[67]⟩ 0, sy ⟨#[67]⟩ j])) nd13), row (nd6) 191 #[.string ⟨#[67]⟩, .int .u8 kd, .pointer (some ⟨nd7, 0, none⟩), .int .i32 0, .nilIface, .int .i32 0, .int .i32 0, .int .u32 0, .int .u32 0, .pointer none, .int .u32 4294967295, .int .u32 4294967295, .slice none 0 0, .slice none 0 0, .slice none 0 0, .slice none 0 0, .int .i64 0, .nilIface, .int .i32 0, .slice none 0 0, .slice none 0 0, .slice none 0 0, .slice none 0 0, .slice none 0 0, .int .u32 4294967295, .int .u32 4294967295, .nilIface, .int .i32 0, .map none, .bool false, .bool false, .slice none 0 0, .slice none 0 0, .slice none 0 0, .slice none 0 0, .int .u32 4294967295, .int .u32 4294967295, .int .u32 4294967295, .int .u32 4294967295, .func (Fn.func 19) #[] #[.pointer (some ⟨nd16, 0, none⟩), .pointer (some ⟨nd17, 0, none⟩), .pointer (some ⟨nd18, 0, none⟩)], .nilFunc, .bool false], row (nd7) 182 #[.slice none 0 0, .pointer (some ⟨nd10, 0, none⟩), .nilIface, .int .i32 0, .slice none 0 0, .int .i32 0, .int .i32 0, .int .i32 0, .int .i32 0, .bool false, .bool false], row (nd10) 51 #[.int .i32 0, .int .u32 0, .int .u32 0], row (nd16) 27 #[.pointer (some ⟨nd6, 0, none⟩)], row (nd17) 25 #[.pointer (some ⟨nd2, 0, none⟩)], row (nd18) 202 #[.pointer none, .int .u32 0, .int .u32 1, .int .u32 4294967295, .int .u32 4294967295, .bool false]] X := hQ.back HL.out HX.out [2, 3, 4, 5, 6, 7] (by decide) (by decide)
  clear hQ HL HX hO
  have hO := hN
  clear hN
  have c9_2_0 : u24.cell? ⟨nd6, 0, none⟩ = some (.string ⟨#[67]⟩) := hO.cell 2 rfl (0) rfl
  have c9_2_6 : u24.cell? ⟨nd6, 6, none⟩ = some (.int .i32 0) := hO.cell 2 rfl (6) rfl
  have c9_2_7 : u24.cell? ⟨nd6, 7, none⟩ = some (.int .u32 0) := hO.cell 2 rfl (7) rfl
  have c9_2_8 : u24.cell? ⟨nd6, 8, none⟩ = some (.int .u32 0) := hO.cell 2 rfl (8) rfl
  have lt9_2 : nd6 < u24.heap.size := hO.lt 2 rfl
  have y9_2 : ∀ o, u24.frozen? ⟨nd6, o, none⟩ = false := hO.free 2 rfl
  have c9_3_1 : u24.cell? ⟨nd7, 1, none⟩ = some (.pointer (some ⟨nd10, 0, none⟩)) := hO.cell 3 rfl (1) rfl
  have lt9_3 : nd7 < u24.heap.size := hO.lt 3 rfl
  have y9_3 : ∀ o, u24.frozen? ⟨nd7, o, none⟩ = false := hO.free 3 rfl
  obtain ⟨c9_4_0, c9_4_1, c9_4_2, lt9_4, y9_4, -⟩ := hO.k3 4 rfl
  obtain ⟨c9_5_0, lt9_5, y9_5, -⟩ := hO.k1 5 rfl
  obtain ⟨c9_6_0, lt9_6, y9_6, -⟩ := hO.k1 6 rfl
  obtain ⟨c9_7_0, c9_7_1, c9_7_2, c9_7_3, c9_7_4, c9_7_5, lt9_7, y9_7, -⟩ := hO.k6 7 rfl
  have HO := Lib.hid hO
  clear hO
  go_wp2_with (first | (with_reducible refine Own.stay (fn := Tryd.f4) ?_) | (first | (go_at_call 9; go_in)))
  try with_reducible refine Own.Stay.mk ?_
  have hO := HO.out
  clear HO c9_2_0 c9_2_6 c9_2_7 c9_2_8 lt9_2 y9_2 c9_3_1 lt9_3 y9_3 c9_4_0 c9_4_1 c9_4_2 lt9_4 y9_4 c9_5_0 lt9_5 y9_5 c9_6_0 lt9_6 y9_6 c9_7_0 c9_7_1 c9_7_2 c9_7_3 c9_7_4 c9_7_5 lt9_7 y9_7
  have hL := hO.apart
  have hX := hO.apartX
  have HL := Lib.hid hL
  have HX := Lib.hid hX
  clear hL hX
  have hP9 := hO.pick [2, 3, 4] (by decide)
  have T9 := clsNm nd6 #[.string ⟨#[67]⟩, .int .u8 kd, .pointer (some ⟨nd7, 0, none⟩), .int .i32 0, .nilIface, .int .i32 0, .int .i32 0, .int .u32 0, .int .u32 0, .pointer none, .int .u32 4294967295, .int .u32 4294967295, .slice none 0 0, .slice none 0 0, .slice none 0 0, .slice none 0 0, .int .i64 0, .nilIface, .int .i32 0, .slice none 0 0, .slice none 0 0, .slice none 0 0, .slice none 0 0, .slice none 0 0, .int .u32 4294967295, .int .u32 4294967295, .nilIface, .int .i32 0, .map none, .bool false, .bool false, .slice none 0 0, .slice none 0 0, .slice none 0 0, .slice none 0 0, .int .u32 4294967295, .int .u32 4294967295, .int .u32 4294967295, .int .u32 4294967295, .func (Fn.func 19) #[] #[.pointer (some ⟨nd16, 0, none⟩), .pointer (some ⟨nd17, 0, none⟩), .pointer (some ⟨nd18, 0, none⟩)], .nilFunc, .bool false] nd7 #[.slice none 0 0, .pointer (some ⟨nd10, 0, none⟩), .nilIface, .int .i32 0, .slice none 0 0, .int .i32 0, .int .i32 0, .int .i32 0, .int .i32 0, .bool false, .bool false] nd10 0 _ _ _ hP9 rfl rfl
  refine Calls.mono T9 ?_
  clear hP9 T9
  rintro e u25 ⟨rfl, hQ⟩
  have hN : Own w0 u25 [row (nd6) 191 #[.string ⟨#[67]⟩, .int .u8 kd, .pointer (some ⟨nd7, 0, none⟩), .int .i32 0, .nilIface, .int .i32 0, .int .i32 0, .int .u32 0, .int .u32 0, .pointer none, .int .u32 4294967295, .int .u32 4294967295, .slice none 0 0, .slice none 0 0, .slice none 0 0, .slice none 0 0, .int .i64 0, .nilIface, .int .i32 0, .slice none 0 0, .slice none 0 0, .slice none 0 0, .slice none 0 0, .slice none 0 0, .int .u32 4294967295, .int .u32 4294967295, .nilIface, .int .i32 0, .map none, .bool false, .bool false, .slice none 0 0, .slice none 0 0, .slice none 0 0, .slice none 0 0, .int .u32 4294967295, .int .u32 4294967295, .int .u32 4294967295, .int .u32 4294967295, .func (Fn.func 19) #[] #[.pointer (some ⟨nd16, 0, none⟩), .pointer (some ⟨nd17, 0, none⟩), .pointer (some ⟨nd18, 0, none⟩)], .nilFunc, .bool false], row (nd7) 182 #[.slice none 0 0, .pointer (some ⟨nd10, 0, none⟩), .nilIface, .int .i32 0, .slice none 0 0, .int .i32 0, .int .i32 0, .int .i32 0, .int .i32 0, .bool false, .bool false], row (nd10) 51 #[.int .i32 0, .int .u32 0, .int .u32 0], row (nd2) 176 (((newPar nd3 nd4).setIfInBounds 106 (.slice (some ⟨nd8, 0, none⟩) 1 (1 + nd9))).setIfInBounds 106 (.slice (some ⟨nd12, 0, none⟩) (1 + 1) ((1 + 1) + nd13))), row (nd12) 199 (full symZ (symL ([sy ⟨#[67]⟩ 0, sy ⟨#[67]⟩ j])) nd13), row (nd16) 27 #[.pointer (some ⟨nd6, 0, none⟩)], row (nd17) 25 #[.pointer (some ⟨nd2, 0, none⟩)], row (nd18) 202 #[.pointer none, .int .u32 0, .int .u32 1, .int .u32 4294967295, .int .u32 4294967295, .bool false]] X := hQ.back HL.out HX.out [0, 1, 5, 6, 7] (by decide) (by decide)
  clear hQ HL HX hO
  have hO := hN
  clear hN
  have c9_0_0 : u25.cell? ⟨nd6, 0, none⟩ = some (.string ⟨#[67]⟩) := hO.cell 0 rfl (0) rfl
  have c9_0_6 : u25.cell? ⟨nd6, 6, none⟩ = some (.int .i32 0) := hO.cell 0 rfl (6) rfl
  have c9_0_7 : u25.cell? ⟨nd6, 7, none⟩ = some (.int .u32 0) := hO.cell 0 rfl (7) rfl
  have c9_0_8 : u25.cell? ⟨nd6, 8, none⟩ = some (.int .u32 0) := hO.cell 0 rfl (8) rfl
  have lt9_0 : nd6 < u25.heap.size := hO.lt 0 rfl
  have y9_0 : ∀ o, u25.frozen? ⟨nd6, o, none⟩ = false := hO.free 0 rfl
  have c9_1_1 : u25.cell? ⟨nd7, 1, none⟩ = some (.pointer (some ⟨nd10, 0, none⟩)) := hO.cell 1 rfl (1) rfl
  have lt9_1 : nd7 < u25.heap.size := hO.lt 1 rfl
  have y9_1 : ∀ o, u25.frozen? ⟨nd7, o, none⟩ = false := hO.free 1 rfl
  obtain ⟨c9_2_0, c9_2_1, c9_2_2, lt9_2, y9_2, -⟩ := hO.k3 2 rfl
  obtain ⟨c9_5_0, lt9_5, y9_5, -⟩ := hO.k1 5 rfl
  obtain ⟨c9_6_0, lt9_6, y9_6, -⟩ := hO.k1 6 rfl
  obtain ⟨c9_7_0, c9_7_1, c9_7_2, c9_7_3, c9_7_4, c9_7_5, lt9_7, y9_7, -⟩ := hO.k6 7 rfl
  have HO := Lib.hid hO
  clear hO
  go_wp2_with (first | (with_reducible refine Own.stay (fn := Tryd.f4) ?_) | (first | (go_at_call 9; go_in)))
  try with_reducible refine Own.Stay.mk ?_
  have hO := HO.out
  clear HO c9_0_0 c9_0_6 c9_0_7 c9_0_8 lt9_0 y9_0 c9_1_1 lt9_1 y9_1 c9_2_0 c9_2_1 c9_2_2 lt9_2 y9_2 c9_5_0 lt9_5 y9_5 c9_6_0 lt9_6 y9_6 c9_7_0 c9_7_1 c9_7_2 c9_7_3 c9_7_4 c9_7_5 lt9_7 y9_7
  refine bodyPost_ret (v := .bool true) ?_ rfl ⟨rfl, hO.sub [] (by decide)⟩
  simp [results, Tryd.results4, go_sem]
end Go.Proofs.YtaoflhnkhgclhaaDoor.Use
