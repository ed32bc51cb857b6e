/- The law on name capture, walked: one of its cases. No condition. -/
import Derived.Test.YtaoflhnkhgclhaaDoorLoop
import Derived.Test.YtaoflhnkhgclhaaDoorRead2
import Derived.Test.YtaoflhnkhgclhaaDoorRead
import Derived.Test.YtaoflhnkhgclhaaDoorCap
import Derived.Test.YtaoflhnkhgclhaaDoorCtx
import Derived.Test.YtaoflhnkhgclhaaDoorNewP
import Derived.Test.YtaoflhnkhgclhaaDoorNam
import Derived.Test.YtaoflhnkhgclhaaDoorVl
import Derived.Test.YtaoflhnkhgclhaaDoorApp
import Derived.Test.YtaoflhnkhgclhaaDoorOwnK
import Derived.Test.YtaoflhnkhgclhaaDoorOwn
import Derived.Test.YtaoflhnkhgclhaaDoorDeepCells
import Derived.Test.YtaoflhnkhgclhaaDoorRows
import Derived.Test.YtaoflhnkhgclhaaDoorUse
import Derived.Test.YtaoflhnkhgclhaaDoorLive
namespace Go.Proofs.YtaoflhnkhgclhaaDoor.Use
open Go.ChangeShapes Go.WideShapes Go.ChangeAt Go.RowKit Go.Sort Own
set_option linter.unusedVariables false
def law38DPost (k : Nat) (w0 : World) (X : Nat → Obj → Prop) (e : Ending) (w' : World) : Prop :=
  e = .returned (.bool true) ∧ Own w0 w' [] X
set_option maxRecDepth 100000 in
set_option maxHeartbeats 1000000 in
theorem law38D (k : Nat) (w0 w : World) (X : Nat → Obj → Prop) (hO : Own w0 w [] X) (hk : k ≤ 4096) (hg0 : w0.cell? ⟨0, 0, none⟩ = some (.int .u32 4294967295)) (hg1 : w0.cell? ⟨0, 1, none⟩ = some (.int .u32 4294967295)) :
    Calls Tryd.prog 4 #[.int .i64 3, .bool true, .bool true, .int .i64 (k : Int)] w (law38DPost k w0 X) := by
  go_enter Tryd.func4, Tryd.ntmps4
  have hk9 : (k : Int) ≤ 4096 := by omega
  have hk8 : (0 : Int) ≤ k := by omega
  have hw9 : IntKind.u32.wrap (k : Int) = (k : Int) := by rw [IntKind.wrap_u32]; omega
  go_wp2_with (first | (with_reducible refine Own.stay (fn := Tryd.f4) ?_) | (first | (go_at_call 9; go_in)))
  try with_reducible refine Own.Stay.mk ?_
  have hL := hO.apart
  have hX := hO.apartX
  have HL := Lib.hid hL
  have HX := Lib.hid hX
  clear hL hX
  have hP9 := hO.pick [] (by decide)
  have T9 := newP  _ _ _ hP9 hg0 hg1
  refine Calls.mono T9 ?_
  clear hP9 T9
  rintro e u1 ⟨nd2, nd3, nd4, rfl, hQ⟩
  have hN : Own w0 u1 [row (nd2) 176 (newPar nd3 nd4)] X := hQ.back HL.out HX.out [] (by decide) (by decide)
  clear hQ HL HX hO
  have hO := hN
  clear hN
  go_wp2_with (first | (with_reducible refine Own.stay (fn := Tryd.f4) ?_) | (first | (go_at_call 9; go_in)))
  try with_reducible refine Own.Stay.mk ?_
  have hL := hO.apart
  have hX := hO.apartX
  have HL := Lib.hid hL
  have HX := Lib.hid hX
  clear hL hX
  have hP9 := hO.pick [0] (by decide)
  have T9 := newCtxN3 nd2 (newPar nd3 nd4) _ _ _ hP9 (newPar_66 _ _) (newPar_32 _ _) (newPar_106 _ _) hg0 hg1
  refine Calls.mono T9 ?_
  clear hP9 T9
  rintro e u5 ⟨nd6, nd7, nd8, nd9, nd10, nd11, nd12, rfl, hQ⟩
  have hN : Own w0 u5 [row (nd2) 176 (((newPar nd3 nd4).setIfInBounds 106 (.slice (some ⟨nd11, 0, none⟩) 1 (1 + nd12))).setIfInBounds 106 (.slice (some ⟨nd8, 0, none⟩) 2 (2 + nd9))), row (nd8) 199 (full symZ (symL ([sy ⟨#[67]⟩ 0, sy ⟨#[100, 101, 102, 97, 117, 108, 116]⟩ 0])) nd9), row (nd6) 191 #[.string ⟨#[67]⟩, .int .u8 3, .pointer (some ⟨nd7, 0, none⟩), .int .i32 0, .nilIface, .int .i32 0, .int .i32 0, .int .u32 0, .int .u32 1, .pointer none, .int .u32 4294967295, .int .u32 4294967295, .slice none 0 0, .slice none 0 0, .slice none 0 0, .slice none 0 0, .int .i64 0, .nilIface, .int .i32 0, .slice none 0 0, .slice none 0 0, .slice none 0 0, .slice none 0 0, .slice none 0 0, .int .u32 4294967295, .int .u32 4294967295, .nilIface, .int .i32 0, .map none, .bool false, .bool false, .slice none 0 0, .slice none 0 0, .slice none 0 0, .slice none 0 0, .int .u32 4294967295, .int .u32 4294967295, .int .u32 4294967295, .int .u32 4294967295, .nilFunc, .nilFunc, .bool false], row (nd7) 182 #[.slice none 0 0, .pointer (some ⟨nd10, 0, none⟩), .nilIface, .int .i32 0, .slice none 0 0, .int .i32 0, .int .i32 0, .int .i32 0, .int .i32 0, .bool false, .bool false], row (nd10) 51 #[.int .i32 0, .int .u32 0, .int .u32 0]] X := hQ.back HL.out HX.out [] (by decide) (by decide)
  clear hQ HL HX hO
  have hO := hN
  clear hN
  have c9_2_0 : u5.cell? ⟨nd6, 0, none⟩ = some (.string ⟨#[67]⟩) := hO.cell 2 rfl (0) rfl
  have c9_2_6 : u5.cell? ⟨nd6, 6, none⟩ = some (.int .i32 0) := hO.cell 2 rfl (6) rfl
  have c9_2_7 : u5.cell? ⟨nd6, 7, none⟩ = some (.int .u32 0) := hO.cell 2 rfl (7) rfl
  have c9_2_8 : u5.cell? ⟨nd6, 8, none⟩ = some (.int .u32 1) := hO.cell 2 rfl (8) rfl
  have lt9_2 : nd6 < u5.heap.size := hO.lt 2 rfl
  have y9_2 : ∀ o, u5.frozen? ⟨nd6, o, none⟩ = false := hO.free 2 rfl
  have c9_3_1 : u5.cell? ⟨nd7, 1, none⟩ = some (.pointer (some ⟨nd10, 0, none⟩)) := hO.cell 3 rfl (1) rfl
  have lt9_3 : nd7 < u5.heap.size := hO.lt 3 rfl
  have y9_3 : ∀ o, u5.frozen? ⟨nd7, o, none⟩ = false := hO.free 3 rfl
  obtain ⟨c9_4_0, c9_4_1, c9_4_2, lt9_4, y9_4, -⟩ := hO.k3 4 rfl
  have HO := Lib.hid hO
  clear hO
  go_wp2_with (first | (with_reducible refine Own.stay (fn := Tryd.f4) ?_) | (first | (go_at_call 9; go_in)))
  try with_reducible refine Own.Stay.mk ?_
  have hO := HO.out
  clear HO c9_2_0 c9_2_6 c9_2_7 c9_2_8 lt9_2 y9_2 c9_3_1 lt9_3 y9_3 c9_4_0 c9_4_1 c9_4_2 lt9_4 y9_4
  have hL := hO.apart
  have hX := hO.apartX
  have HL := Lib.hid hL
  have HX := Lib.hid hX
  clear hL hX
  have hP9 := hO.pick [0, 1] (by decide)
  have h9_hn : ([sy ⟨#[67]⟩ 0, sy ⟨#[100, 101, 102, 97, 117, 108, 116]⟩ 0]).length = 2 := rfl
  have h9_hnb : 2 ≤ 2000000 := (by decide)
  have T9 := addSym nd2 (((newPar nd3 nd4).setIfInBounds 106 (.slice (some ⟨nd11, 0, none⟩) 1 (1 + nd12))).setIfInBounds 106 (.slice (some ⟨nd8, 0, none⟩) 2 (2 + nd9))) nd8 nd9 ([sy ⟨#[67]⟩ 0, sy ⟨#[100, 101, 102, 97, 117, 108, 116]⟩ 0]) 2 0 ⟨#[67]⟩ _ _ _ hP9 (get_other (get_other (newPar_66 _ _) (by omega) _) (by omega) _) (get_other (get_other (newPar_32 _ _) (by omega) _) (by omega) _) (get_set (get_set (newPar_106 _ _) _) _) h9_hn h9_hnb hg0 hg1
  refine Calls.mono T9 ?_
  clear hP9 T9 h9_hn h9_hnb
  rintro e u13 ⟨nd14, nd15, rfl, hQ⟩
  have hN : Own w0 u13 [row (nd2) 176 ((((newPar nd3 nd4).setIfInBounds 106 (.slice (some ⟨nd11, 0, none⟩) 1 (1 + nd12))).setIfInBounds 106 (.slice (some ⟨nd8, 0, none⟩) 2 (2 + nd9))).setIfInBounds 106 (.slice (some ⟨nd14, 0, none⟩) (2 + 1) (2 + 1 + nd15))), row (nd14) 199 (full symZ (symL ([sy ⟨#[67]⟩ 0, sy ⟨#[100, 101, 102, 97, 117, 108, 116]⟩ 0, sy ⟨#[67]⟩ 0])) nd15), row (nd6) 191 #[.string ⟨#[67]⟩, .int .u8 3, .pointer (some ⟨nd7, 0, none⟩), .int .i32 0, .nilIface, .int .i32 0, .int .i32 0, .int .u32 0, .int .u32 1, .pointer none, .int .u32 4294967295, .int .u32 4294967295, .slice none 0 0, .slice none 0 0, .slice none 0 0, .slice none 0 0, .int .i64 0, .nilIface, .int .i32 0, .slice none 0 0, .slice none 0 0, .slice none 0 0, .slice none 0 0, .slice none 0 0, .int .u32 4294967295, .int .u32 4294967295, .nilIface, .int .i32 0, .map none, .bool false, .bool false, .slice none 0 0, .slice none 0 0, .slice none 0 0, .slice none 0 0, .int .u32 4294967295, .int .u32 4294967295, .int .u32 4294967295, .int .u32 4294967295, .nilFunc, .nilFunc, .bool false], row (nd7) 182 #[.slice none 0 0, .pointer (some ⟨nd10, 0, none⟩), .nilIface, .int .i32 0, .slice none 0 0, .int .i32 0, .int .i32 0, .int .i32 0, .int .i32 0, .bool false, .bool false], row (nd10) 51 #[.int .i32 0, .int .u32 0, .int .u32 0]] X := hQ.back HL.out HX.out [2, 3, 4] (by decide) (by decide)
  clear hQ HL HX hO
  have hO := hN
  clear hN
  have c9_2_0 : u13.cell? ⟨nd6, 0, none⟩ = some (.string ⟨#[67]⟩) := hO.cell 2 rfl (0) rfl
  have c9_2_6 : u13.cell? ⟨nd6, 6, none⟩ = some (.int .i32 0) := hO.cell 2 rfl (6) rfl
  have c9_2_7 : u13.cell? ⟨nd6, 7, none⟩ = some (.int .u32 0) := hO.cell 2 rfl (7) rfl
  have c9_2_8 : u13.cell? ⟨nd6, 8, none⟩ = some (.int .u32 1) := hO.cell 2 rfl (8) rfl
  have lt9_2 : nd6 < u13.heap.size := hO.lt 2 rfl
  have y9_2 : ∀ o, u13.frozen? ⟨nd6, o, none⟩ = false := hO.free 2 rfl
  have c9_3_1 : u13.cell? ⟨nd7, 1, none⟩ = some (.pointer (some ⟨nd10, 0, none⟩)) := hO.cell 3 rfl (1) rfl
  have lt9_3 : nd7 < u13.heap.size := hO.lt 3 rfl
  have y9_3 : ∀ o, u13.frozen? ⟨nd7, o, none⟩ = false := hO.free 3 rfl
  obtain ⟨c9_4_0, c9_4_1, c9_4_2, lt9_4, y9_4, -⟩ := hO.k3 4 rfl
  have HO := Lib.hid hO
  clear hO
  go_wp2_with (first | (with_reducible refine Own.stay (fn := Tryd.f4) ?_) | (first | (go_at_call 9; go_in)))
  try with_reducible refine Own.Stay.mk ?_
  have hO := HO.out
  clear HO c9_2_0 c9_2_6 c9_2_7 c9_2_8 lt9_2 y9_2 c9_3_1 lt9_3 y9_3 c9_4_0 c9_4_1 c9_4_2 lt9_4 y9_4
  have hL := hO.apart
  have hX := hO.apartX
  have HL := Lib.hid hL
  have HX := Lib.hid hX
  clear hL hX
  have hP9 := hO.pick [0] (by decide)
  have T9 := symCnt nd2 ((((newPar nd3 nd4).setIfInBounds 106 (.slice (some ⟨nd11, 0, none⟩) 1 (1 + nd12))).setIfInBounds 106 (.slice (some ⟨nd8, 0, none⟩) 2 (2 + nd9))).setIfInBounds 106 (.slice (some ⟨nd14, 0, none⟩) (2 + 1) ((2 + 1) + nd15))) nd14 nd15 (2 + 1) _ _ _ hP9 (get_set (get_set (get_set (newPar_106 _ _) _) _) _)
  refine Calls.mono T9 ?_
  clear hP9 T9
  rintro e u16 ⟨rfl, hQ⟩
  have hN : Own w0 u16 [row (nd2) 176 ((((newPar nd3 nd4).setIfInBounds 106 (.slice (some ⟨nd11, 0, none⟩) 1 (1 + nd12))).setIfInBounds 106 (.slice (some ⟨nd8, 0, none⟩) 2 (2 + nd9))).setIfInBounds 106 (.slice (some ⟨nd14, 0, none⟩) (2 + 1) ((2 + 1) + nd15))), row (nd14) 199 (full symZ (symL ([sy ⟨#[67]⟩ 0, sy ⟨#[100, 101, 102, 97, 117, 108, 116]⟩ 0, sy ⟨#[67]⟩ 0])) nd15), row (nd6) 191 #[.string ⟨#[67]⟩, .int .u8 3, .pointer (some ⟨nd7, 0, none⟩), .int .i32 0, .nilIface, .int .i32 0, .int .i32 0, .int .u32 0, .int .u32 1, .pointer none, .int .u32 4294967295, .int .u32 4294967295, .slice none 0 0, .slice none 0 0, .slice none 0 0, .slice none 0 0, .int .i64 0, .nilIface, .int .i32 0, .slice none 0 0, .slice none 0 0, .slice none 0 0, .slice none 0 0, .slice none 0 0, .int .u32 4294967295, .int .u32 4294967295, .nilIface, .int .i32 0, .map none, .bool false, .bool false, .slice none 0 0, .slice none 0 0, .slice none 0 0, .slice none 0 0, .int .u32 4294967295, .int .u32 4294967295, .int .u32 4294967295, .int .u32 4294967295, .nilFunc, .nilFunc, .bool false], row (nd7) 182 #[.slice none 0 0, .pointer (some ⟨nd10, 0, none⟩), .nilIface, .int .i32 0, .slice none 0 0, .int .i32 0, .int .i32 0, .int .i32 0, .int .i32 0, .bool false, .bool false], row (nd10) 51 #[.int .i32 0, .int .u32 0, .int .u32 0]] X := hQ.back HL.out HX.out [1, 2, 3, 4] (by decide) (by decide)
  clear hQ HL HX hO
  have hO := hN
  clear hN
  have c9_2_0 : u16.cell? ⟨nd6, 0, none⟩ = some (.string ⟨#[67]⟩) := hO.cell 2 rfl (0) rfl
  have c9_2_6 : u16.cell? ⟨nd6, 6, none⟩ = some (.int .i32 0) := hO.cell 2 rfl (6) rfl
  have c9_2_7 : u16.cell? ⟨nd6, 7, none⟩ = some (.int .u32 0) := hO.cell 2 rfl (7) rfl
  have c9_2_8 : u16.cell? ⟨nd6, 8, none⟩ = some (.int .u32 1) := hO.cell 2 rfl (8) rfl
  have lt9_2 : nd6 < u16.heap.size := hO.lt 2 rfl
  have y9_2 : ∀ o, u16.frozen? ⟨nd6, o, none⟩ = false := hO.free 2 rfl
  have c9_3_1 : u16.cell? ⟨nd7, 1, none⟩ = some (.pointer (some ⟨nd10, 0, none⟩)) := hO.cell 3 rfl (1) rfl
  have lt9_3 : nd7 < u16.heap.size := hO.lt 3 rfl
  have y9_3 : ∀ o, u16.frozen? ⟨nd7, o, none⟩ = false := hO.free 3 rfl
  obtain ⟨c9_4_0, c9_4_1, c9_4_2, lt9_4, y9_4, -⟩ := hO.k3 4 rfl
  have HO := Lib.hid hO
  clear hO
  go_wp2_with (first | (with_reducible refine Own.stay (fn := Tryd.f4) ?_) | (first | (go_at_call 9; go_in)))
  try with_reducible refine Own.Stay.mk ?_
  have hO := HO.out
  clear HO c9_2_0 c9_2_6 c9_2_7 c9_2_8 lt9_2 y9_2 c9_3_1 lt9_3 y9_3 c9_4_0 c9_4_1 c9_4_2 lt9_4 y9_4
  have hL := hO.apart
  have hX := hO.apartX
  have HL := Lib.hid hL
  have HX := Lib.hid hX
  clear hL hX
  have hP9 := hO.pick [0, 2] (by decide)
  have T9 := zenI nd2 ((((newPar nd3 nd4).setIfInBounds 106 (.slice (some ⟨nd11, 0, none⟩) 1 (1 + nd12))).setIfInBounds 106 (.slice (some ⟨nd8, 0, none⟩) 2 (2 + nd9))).setIfInBounds 106 (.slice (some ⟨nd14, 0, none⟩) (2 + 1) ((2 + 1) + nd15))) nd6 #[.string ⟨#[67]⟩, .int .u8 3, .pointer (some ⟨nd7, 0, none⟩), .int .i32 0, .nilIface, .int .i32 0, .int .i32 0, .int .u32 0, .int .u32 1, .pointer none, .int .u32 4294967295, .int .u32 4294967295, .slice none 0 0, .slice none 0 0, .slice none 0 0, .slice none 0 0, .int .i64 0, .nilIface, .int .i32 0, .slice none 0 0, .slice none 0 0, .slice none 0 0, .slice none 0 0, .slice none 0 0, .int .u32 4294967295, .int .u32 4294967295, .nilIface, .int .i32 0, .map none, .bool false, .bool false, .slice none 0 0, .slice none 0 0, .slice none 0 0, .slice none 0 0, .int .u32 4294967295, .int .u32 4294967295, .int .u32 4294967295, .int .u32 4294967295, .nilFunc, .nilFunc, .bool false] .nilFunc 2 _ _ _ hP9 (get_other (get_other (get_other (newPar_66 _ _) (by omega) _) (by omega) _) (by omega) _) rfl hg0 hg1
  refine Calls.mono T9 ?_
  clear hP9 T9
  rintro e u17 ⟨nd18, nd19, nd20, rfl, hQ⟩
  have hN : Own w0 u17 [row (nd2) 176 ((((newPar nd3 nd4).setIfInBounds 106 (.slice (some ⟨nd11, 0, none⟩) 1 (1 + nd12))).setIfInBounds 106 (.slice (some ⟨nd8, 0, none⟩) 2 (2 + nd9))).setIfInBounds 106 (.slice (some ⟨nd14, 0, none⟩) (2 + 1) ((2 + 1) + nd15))), row (nd6) 191 #[.string ⟨#[67]⟩, .int .u8 3, .pointer (some ⟨nd7, 0, none⟩), .int .i32 0, .nilIface, .int .i32 0, .int .i32 0, .int .u32 0, .int .u32 1, .pointer none, .int .u32 4294967295, .int .u32 4294967295, .slice none 0 0, .slice none 0 0, .slice none 0 0, .slice none 0 0, .int .i64 0, .nilIface, .int .i32 0, .slice none 0 0, .slice none 0 0, .slice none 0 0, .slice none 0 0, .slice none 0 0, .int .u32 4294967295, .int .u32 4294967295, .nilIface, .int .i32 0, .map none, .bool false, .bool false, .slice none 0 0, .slice none 0 0, .slice none 0 0, .slice none 0 0, .int .u32 4294967295, .int .u32 4294967295, .int .u32 4294967295, .int .u32 4294967295, .func (Fn.func 19) #[] #[.pointer (some ⟨nd18, 0, none⟩), .pointer (some ⟨nd19, 0, none⟩), .pointer (some ⟨nd20, 0, none⟩)], .nilFunc, .bool false], row (nd18) 27 #[.pointer (some ⟨nd6, 0, none⟩)], row (nd19) 25 #[.pointer (some ⟨nd2, 0, none⟩)], row (nd20) 202 #[.pointer none, .int .u32 0, .int .u32 2, .int .u32 4294967295, .int .u32 4294967295, .bool false], row (nd14) 199 (full symZ (symL ([sy ⟨#[67]⟩ 0, sy ⟨#[100, 101, 102, 97, 117, 108, 116]⟩ 0, sy ⟨#[67]⟩ 0])) nd15), row (nd7) 182 #[.slice none 0 0, .pointer (some ⟨nd10, 0, none⟩), .nilIface, .int .i32 0, .slice none 0 0, .int .i32 0, .int .i32 0, .int .i32 0, .int .i32 0, .bool false, .bool false], row (nd10) 51 #[.int .i32 0, .int .u32 0, .int .u32 0]] X := hQ.back HL.out HX.out [1, 3, 4] (by decide) (by decide)
  clear hQ HL HX hO
  have hO := hN
  clear hN
  have c9_1_0 : u17.cell? ⟨nd6, 0, none⟩ = some (.string ⟨#[67]⟩) := hO.cell 1 rfl (0) rfl
  have c9_1_6 : u17.cell? ⟨nd6, 6, none⟩ = some (.int .i32 0) := hO.cell 1 rfl (6) rfl
  have c9_1_7 : u17.cell? ⟨nd6, 7, none⟩ = some (.int .u32 0) := hO.cell 1 rfl (7) rfl
  have c9_1_8 : u17.cell? ⟨nd6, 8, none⟩ = some (.int .u32 1) := hO.cell 1 rfl (8) rfl
  have lt9_1 : nd6 < u17.heap.size := hO.lt 1 rfl
  have y9_1 : ∀ o, u17.frozen? ⟨nd6, o, none⟩ = false := hO.free 1 rfl
  obtain ⟨c9_2_0, lt9_2, y9_2, -⟩ := hO.k1 2 rfl
  obtain ⟨c9_3_0, lt9_3, y9_3, -⟩ := hO.k1 3 rfl
  obtain ⟨c9_4_0, c9_4_1, c9_4_2, c9_4_3, c9_4_4, c9_4_5, lt9_4, y9_4, -⟩ := hO.k6 4 rfl
  have c9_6_1 : u17.cell? ⟨nd7, 1, none⟩ = some (.pointer (some ⟨nd10, 0, none⟩)) := hO.cell 6 rfl (1) rfl
  have lt9_6 : nd7 < u17.heap.size := hO.lt 6 rfl
  have y9_6 : ∀ o, u17.frozen? ⟨nd7, o, none⟩ = false := hO.free 6 rfl
  obtain ⟨c9_7_0, c9_7_1, c9_7_2, lt9_7, y9_7, -⟩ := hO.k3 7 rfl
  have HO := Lib.hid hO
  clear hO
  go_wp2_with (first | (with_reducible refine Own.stay (fn := Tryd.f4) ?_) | (first | (go_at_call 9; go_in)))
  try with_reducible refine Own.Stay.mk ?_
  have hO := HO.out
  clear HO c9_1_0 c9_1_6 c9_1_7 c9_1_8 lt9_1 y9_1 c9_2_0 lt9_2 y9_2 c9_3_0 lt9_3 y9_3 c9_4_0 c9_4_1 c9_4_2 c9_4_3 c9_4_4 c9_4_5 lt9_4 y9_4 c9_6_1 lt9_6 y9_6 c9_7_0 c9_7_1 c9_7_2 lt9_7 y9_7
  have hL := hO.apart
  have hX := hO.apartX
  have HL := Lib.hid hL
  have HX := Lib.hid hX
  clear hL hX
  have hP9 := hO.pick [0] (by decide)
  have T9 := symCnt nd2 ((((newPar nd3 nd4).setIfInBounds 106 (.slice (some ⟨nd11, 0, none⟩) 1 (1 + nd12))).setIfInBounds 106 (.slice (some ⟨nd8, 0, none⟩) 2 (2 + nd9))).setIfInBounds 106 (.slice (some ⟨nd14, 0, none⟩) (2 + 1) ((2 + 1) + nd15))) nd14 nd15 (2 + 1) _ _ _ hP9 (get_set (get_set (get_set (newPar_106 _ _) _) _) _)
  refine Calls.mono T9 ?_
  clear hP9 T9
  rintro e u21 ⟨rfl, hQ⟩
  have hN : Own w0 u21 [row (nd2) 176 ((((newPar nd3 nd4).setIfInBounds 106 (.slice (some ⟨nd11, 0, none⟩) 1 (1 + nd12))).setIfInBounds 106 (.slice (some ⟨nd8, 0, none⟩) 2 (2 + nd9))).setIfInBounds 106 (.slice (some ⟨nd14, 0, none⟩) (2 + 1) ((2 + 1) + nd15))), row (nd6) 191 #[.string ⟨#[67]⟩, .int .u8 3, .pointer (some ⟨nd7, 0, none⟩), .int .i32 0, .nilIface, .int .i32 0, .int .i32 0, .int .u32 0, .int .u32 1, .pointer none, .int .u32 4294967295, .int .u32 4294967295, .slice none 0 0, .slice none 0 0, .slice none 0 0, .slice none 0 0, .int .i64 0, .nilIface, .int .i32 0, .slice none 0 0, .slice none 0 0, .slice none 0 0, .slice none 0 0, .slice none 0 0, .int .u32 4294967295, .int .u32 4294967295, .nilIface, .int .i32 0, .map none, .bool false, .bool false, .slice none 0 0, .slice none 0 0, .slice none 0 0, .slice none 0 0, .int .u32 4294967295, .int .u32 4294967295, .int .u32 4294967295, .int .u32 4294967295, .func (Fn.func 19) #[] #[.pointer (some ⟨nd18, 0, none⟩), .pointer (some ⟨nd19, 0, none⟩), .pointer (some ⟨nd20, 0, none⟩)], .nilFunc, .bool false], row (nd18) 27 #[.pointer (some ⟨nd6, 0, none⟩)], row (nd19) 25 #[.pointer (some ⟨nd2, 0, none⟩)], row (nd20) 202 #[.pointer none, .int .u32 0, .int .u32 2, .int .u32 4294967295, .int .u32 4294967295, .bool false], row (nd14) 199 (full symZ (symL ([sy ⟨#[67]⟩ 0, sy ⟨#[100, 101, 102, 97, 117, 108, 116]⟩ 0, sy ⟨#[67]⟩ 0])) nd15), row (nd7) 182 #[.slice none 0 0, .pointer (some ⟨nd10, 0, none⟩), .nilIface, .int .i32 0, .slice none 0 0, .int .i32 0, .int .i32 0, .int .i32 0, .int .i32 0, .bool false, .bool false], row (nd10) 51 #[.int .i32 0, .int .u32 0, .int .u32 0]] X := hQ.back HL.out HX.out [1, 2, 3, 4, 5, 6, 7] (by decide) (by decide)
  clear hQ HL HX hO
  have hO := hN
  clear hN
  have c9_1_0 : u21.cell? ⟨nd6, 0, none⟩ = some (.string ⟨#[67]⟩) := hO.cell 1 rfl (0) rfl
  have c9_1_6 : u21.cell? ⟨nd6, 6, none⟩ = some (.int .i32 0) := hO.cell 1 rfl (6) rfl
  have c9_1_7 : u21.cell? ⟨nd6, 7, none⟩ = some (.int .u32 0) := hO.cell 1 rfl (7) rfl
  have c9_1_8 : u21.cell? ⟨nd6, 8, none⟩ = some (.int .u32 1) := hO.cell 1 rfl (8) rfl
  have lt9_1 : nd6 < u21.heap.size := hO.lt 1 rfl
  have y9_1 : ∀ o, u21.frozen? ⟨nd6, o, none⟩ = false := hO.free 1 rfl
  obtain ⟨c9_2_0, lt9_2, y9_2, -⟩ := hO.k1 2 rfl
  obtain ⟨c9_3_0, lt9_3, y9_3, -⟩ := hO.k1 3 rfl
  obtain ⟨c9_4_0, c9_4_1, c9_4_2, c9_4_3, c9_4_4, c9_4_5, lt9_4, y9_4, -⟩ := hO.k6 4 rfl
  have c9_6_1 : u21.cell? ⟨nd7, 1, none⟩ = some (.pointer (some ⟨nd10, 0, none⟩)) := hO.cell 6 rfl (1) rfl
  have lt9_6 : nd7 < u21.heap.size := hO.lt 6 rfl
  have y9_6 : ∀ o, u21.frozen? ⟨nd7, o, none⟩ = false := hO.free 6 rfl
  obtain ⟨c9_7_0, c9_7_1, c9_7_2, lt9_7, y9_7, -⟩ := hO.k3 7 rfl
  have HO := Lib.hid hO
  clear hO
  go_wp2_with (first | (with_reducible refine Own.stay (fn := Tryd.f4) ?_) | (first | (go_at_call 9; go_in)))
  try with_reducible refine Own.Stay.mk ?_
  have hO := HO.out
  clear HO c9_1_0 c9_1_6 c9_1_7 c9_1_8 lt9_1 y9_1 c9_2_0 lt9_2 y9_2 c9_3_0 lt9_3 y9_3 c9_4_0 c9_4_1 c9_4_2 c9_4_3 c9_4_4 c9_4_5 lt9_4 y9_4 c9_6_1 lt9_6 y9_6 c9_7_0 c9_7_1 c9_7_2 lt9_7 y9_7
  have hL := hO.apart
  have hX := hO.apartX
  have HL := Lib.hid hL
  have HX := Lib.hid hX
  clear hL hX
  have hP9 := hO.pick [1, 6, 7] (by decide)
  have T9 := clsNm nd6 #[.string ⟨#[67]⟩, .int .u8 3, .pointer (some ⟨nd7, 0, none⟩), .int .i32 0, .nilIface, .int .i32 0, .int .i32 0, .int .u32 0, .int .u32 1, .pointer none, .int .u32 4294967295, .int .u32 4294967295, .slice none 0 0, .slice none 0 0, .slice none 0 0, .slice none 0 0, .int .i64 0, .nilIface, .int .i32 0, .slice none 0 0, .slice none 0 0, .slice none 0 0, .slice none 0 0, .slice none 0 0, .int .u32 4294967295, .int .u32 4294967295, .nilIface, .int .i32 0, .map none, .bool false, .bool false, .slice none 0 0, .slice none 0 0, .slice none 0 0, .slice none 0 0, .int .u32 4294967295, .int .u32 4294967295, .int .u32 4294967295, .int .u32 4294967295, .func (Fn.func 19) #[] #[.pointer (some ⟨nd18, 0, none⟩), .pointer (some ⟨nd19, 0, none⟩), .pointer (some ⟨nd20, 0, none⟩)], .nilFunc, .bool false] nd7 #[.slice none 0 0, .pointer (some ⟨nd10, 0, none⟩), .nilIface, .int .i32 0, .slice none 0 0, .int .i32 0, .int .i32 0, .int .i32 0, .int .i32 0, .bool false, .bool false] nd10 0 _ _ _ hP9 rfl rfl
  refine Calls.mono T9 ?_
  clear hP9 T9
  rintro e u22 ⟨rfl, hQ⟩
  have hN : Own w0 u22 [row (nd6) 191 #[.string ⟨#[67]⟩, .int .u8 3, .pointer (some ⟨nd7, 0, none⟩), .int .i32 0, .nilIface, .int .i32 0, .int .i32 0, .int .u32 0, .int .u32 1, .pointer none, .int .u32 4294967295, .int .u32 4294967295, .slice none 0 0, .slice none 0 0, .slice none 0 0, .slice none 0 0, .int .i64 0, .nilIface, .int .i32 0, .slice none 0 0, .slice none 0 0, .slice none 0 0, .slice none 0 0, .slice none 0 0, .int .u32 4294967295, .int .u32 4294967295, .nilIface, .int .i32 0, .map none, .bool false, .bool false, .slice none 0 0, .slice none 0 0, .slice none 0 0, .slice none 0 0, .int .u32 4294967295, .int .u32 4294967295, .int .u32 4294967295, .int .u32 4294967295, .func (Fn.func 19) #[] #[.pointer (some ⟨nd18, 0, none⟩), .pointer (some ⟨nd19, 0, none⟩), .pointer (some ⟨nd20, 0, none⟩)], .nilFunc, .bool false], row (nd7) 182 #[.slice none 0 0, .pointer (some ⟨nd10, 0, none⟩), .nilIface, .int .i32 0, .slice none 0 0, .int .i32 0, .int .i32 0, .int .i32 0, .int .i32 0, .bool false, .bool false], row (nd10) 51 #[.int .i32 0, .int .u32 0, .int .u32 0], row (nd2) 176 ((((newPar nd3 nd4).setIfInBounds 106 (.slice (some ⟨nd11, 0, none⟩) 1 (1 + nd12))).setIfInBounds 106 (.slice (some ⟨nd8, 0, none⟩) 2 (2 + nd9))).setIfInBounds 106 (.slice (some ⟨nd14, 0, none⟩) (2 + 1) ((2 + 1) + nd15))), row (nd18) 27 #[.pointer (some ⟨nd6, 0, none⟩)], row (nd19) 25 #[.pointer (some ⟨nd2, 0, none⟩)], row (nd20) 202 #[.pointer none, .int .u32 0, .int .u32 2, .int .u32 4294967295, .int .u32 4294967295, .bool false], row (nd14) 199 (full symZ (symL ([sy ⟨#[67]⟩ 0, sy ⟨#[100, 101, 102, 97, 117, 108, 116]⟩ 0, sy ⟨#[67]⟩ 0])) nd15)] X := hQ.back HL.out HX.out [0, 2, 3, 4, 5] (by decide) (by decide)
  clear hQ HL HX hO
  have hO := hN
  clear hN
  have c9_0_0 : u22.cell? ⟨nd6, 0, none⟩ = some (.string ⟨#[67]⟩) := hO.cell 0 rfl (0) rfl
  have c9_0_6 : u22.cell? ⟨nd6, 6, none⟩ = some (.int .i32 0) := hO.cell 0 rfl (6) rfl
  have c9_0_7 : u22.cell? ⟨nd6, 7, none⟩ = some (.int .u32 0) := hO.cell 0 rfl (7) rfl
  have c9_0_8 : u22.cell? ⟨nd6, 8, none⟩ = some (.int .u32 1) := hO.cell 0 rfl (8) rfl
  have lt9_0 : nd6 < u22.heap.size := hO.lt 0 rfl
  have y9_0 : ∀ o, u22.frozen? ⟨nd6, o, none⟩ = false := hO.free 0 rfl
  have c9_1_1 : u22.cell? ⟨nd7, 1, none⟩ = some (.pointer (some ⟨nd10, 0, none⟩)) := hO.cell 1 rfl (1) rfl
  have lt9_1 : nd7 < u22.heap.size := hO.lt 1 rfl
  have y9_1 : ∀ o, u22.frozen? ⟨nd7, o, none⟩ = false := hO.free 1 rfl
  obtain ⟨c9_2_0, c9_2_1, c9_2_2, lt9_2, y9_2, -⟩ := hO.k3 2 rfl
  obtain ⟨c9_4_0, lt9_4, y9_4, -⟩ := hO.k1 4 rfl
  obtain ⟨c9_5_0, lt9_5, y9_5, -⟩ := hO.k1 5 rfl
  obtain ⟨c9_6_0, c9_6_1, c9_6_2, c9_6_3, c9_6_4, c9_6_5, lt9_6, y9_6, -⟩ := hO.k6 6 rfl
  have HO := Lib.hid hO
  clear hO
  go_wp2_with (first | (with_reducible refine Own.stay (fn := Tryd.f4) ?_) | (first | (go_at_call 9; go_in)))
  try with_reducible refine Own.Stay.mk ?_
  have hO := HO.out
  clear HO c9_0_0 c9_0_6 c9_0_7 c9_0_8 lt9_0 y9_0 c9_1_1 lt9_1 y9_1 c9_2_0 c9_2_1 c9_2_2 lt9_2 y9_2 c9_4_0 lt9_4 y9_4 c9_5_0 lt9_5 y9_5 c9_6_0 c9_6_1 c9_6_2 c9_6_3 c9_6_4 c9_6_5 lt9_6 y9_6
  go_loopg [16] (k + 1) (fun gf s16 wx => ∃ j : Nat, s16 = .int .i64 (j : Int) ∧ j + gf = k + 1 ∧ j ≤ k ∧ Own w0 wx [row (nd6) 191 #[.string ⟨#[67]⟩, .int .u8 3, .pointer (some ⟨nd7, 0, none⟩), .int .i32 0, .nilIface, .int .i32 0, .int .i32 0, .int .u32 0, .int .u32 1, .pointer none, .int .u32 4294967295, .int .u32 4294967295, .slice none 0 0, .slice none 0 0, .slice none 0 0, .slice none 0 0, .int .i64 0, .nilIface, .int .i32 0, .slice none 0 0, .slice none 0 0, .slice none 0 0, .slice none 0 0, .slice none 0 0, .int .u32 4294967295, .int .u32 4294967295, .nilIface, .int .i32 0, .map none, .bool false, .bool false, .slice none 0 0, .slice none 0 0, .slice none 0 0, .slice none 0 0, .int .u32 4294967295, .int .u32 4294967295, .int .u32 4294967295, .int .u32 4294967295, .func (Fn.func 19) #[] #[.pointer (some ⟨nd18, 0, none⟩), .pointer (some ⟨nd19, 0, none⟩), .pointer (some ⟨nd20, 0, none⟩)], .nilFunc, .bool false], row (nd7) 182 #[.slice none 0 0, .pointer (some ⟨nd10, 0, none⟩), .nilIface, .int .i32 0, .slice none 0 0, .int .i32 0, .int .i32 0, .int .i32 0, .int .i32 0, .bool false, .bool false], row (nd10) 51 #[.int .i32 0, .int .u32 0, .int .u32 0], row (nd2) 176 ((((newPar nd3 nd4).setIfInBounds 106 (.slice (some ⟨nd11, 0, none⟩) 1 (1 + nd12))).setIfInBounds 106 (.slice (some ⟨nd8, 0, none⟩) 2 (2 + nd9))).setIfInBounds 106 (.slice (some ⟨nd14, 0, none⟩) (2 + 1) ((2 + 1) + nd15))), row (nd18) 27 #[.pointer (some ⟨nd6, 0, none⟩)], row (nd19) 25 #[.pointer (some ⟨nd2, 0, none⟩)], row (nd20) 202 #[.pointer none, .int .u32 0, .int .u32 2, .int .u32 4294967295, .int .u32 4294967295, .bool false], row (nd14) 199 (full symZ (symL [sy ⟨#[67]⟩ 0, sy ⟨#[100, 101, 102, 97, 117, 108, 116]⟩ 0, sy ⟨#[67]⟩ j]) nd15)] X)
  case atStart => exact ⟨0, rfl, by omega, by omega, hO⟩
  obtain ⟨j, rfl, hj, hjk, hO⟩ := hrel
  by_cases hlt : j < k
  · skip
    obtain ⟨gq, rfl⟩ : ∃ gq, gk = gq + 1 := ⟨gk - 1, by omega⟩
    have hlt9 : (j : Int) < k := by omega
    have c9_0_0 : wr.cell? ⟨nd6, 0, none⟩ = some (.string ⟨#[67]⟩) := hO.cell 0 rfl (0) rfl
    have c9_0_6 : wr.cell? ⟨nd6, 6, none⟩ = some (.int .i32 0) := hO.cell 0 rfl (6) rfl
    have c9_0_7 : wr.cell? ⟨nd6, 7, none⟩ = some (.int .u32 0) := hO.cell 0 rfl (7) rfl
    have c9_0_8 : wr.cell? ⟨nd6, 8, none⟩ = some (.int .u32 1) := hO.cell 0 rfl (8) rfl
    have lt9_0 : nd6 < wr.heap.size := hO.lt 0 rfl
    have y9_0 : ∀ o, wr.frozen? ⟨nd6, o, none⟩ = false := hO.free 0 rfl
    have c9_1_1 : wr.cell? ⟨nd7, 1, none⟩ = some (.pointer (some ⟨nd10, 0, none⟩)) := hO.cell 1 rfl (1) rfl
    have lt9_1 : nd7 < wr.heap.size := hO.lt 1 rfl
    have y9_1 : ∀ o, wr.frozen? ⟨nd7, o, none⟩ = false := hO.free 1 rfl
    obtain ⟨c9_2_0, c9_2_1, c9_2_2, lt9_2, y9_2, -⟩ := hO.k3 2 rfl
    obtain ⟨c9_4_0, lt9_4, y9_4, -⟩ := hO.k1 4 rfl
    obtain ⟨c9_5_0, lt9_5, y9_5, -⟩ := hO.k1 5 rfl
    obtain ⟨c9_6_0, c9_6_1, c9_6_2, c9_6_3, c9_6_4, c9_6_5, lt9_6, y9_6, -⟩ := hO.k6 6 rfl
    have HO := Lib.hid hO
    clear hO
    go_wp2_with (first | (with_reducible refine Own.stay (fn := Tryd.f4) ?_) | (first | (go_at_call 9; go_in)))
    try with_reducible refine Own.Stay.mk ?_
    have hO := HO.out
    clear HO c9_0_0 c9_0_6 c9_0_7 c9_0_8 lt9_0 y9_0 c9_1_1 lt9_1 y9_1 c9_2_0 c9_2_1 c9_2_2 lt9_2 y9_2 c9_4_0 lt9_4 y9_4 c9_5_0 lt9_5 y9_5 c9_6_0 c9_6_1 c9_6_2 c9_6_3 c9_6_4 c9_6_5 lt9_6 y9_6
    have hL := hO.apart
    have hX := hO.apartX
    have HL := Lib.hid hL
    have HX := Lib.hid hX
    clear hL hX
    have hP9 := hO.pick [3, 7, 0, 1, 2, 4, 5, 6] (by decide)
    have h9_hn : ([sy ⟨#[67]⟩ 0, sy ⟨#[100, 101, 102, 97, 117, 108, 116]⟩ 0, sy ⟨#[67]⟩ j]).length = (2 + 1) := rfl
    have h9_hnb : (2 + 1) ≤ 4000000 := (by decide)
    have h9_hu : ∃ s, ([sy ⟨#[67]⟩ 0, sy ⟨#[100, 101, 102, 97, 117, 108, 116]⟩ 0, sy ⟨#[67]⟩ j])[2]? = some s ∧ s.uc < 4294967295 := ⟨sy _ j, rfl, (by show j < _; omega)⟩
    have h9_hk0 : (3 == 0) = false := (by first | assumption | omega | (simp; done) | (simp; omega))
    have T9 := nfrI nd2 ((((newPar nd3 nd4).setIfInBounds 106 (.slice (some ⟨nd11, 0, none⟩) 1 (1 + nd12))).setIfInBounds 106 (.slice (some ⟨nd8, 0, none⟩) 2 (2 + nd9))).setIfInBounds 106 (.slice (some ⟨nd14, 0, none⟩) (2 + 1) ((2 + 1) + nd15))) nd14 nd15 ([sy ⟨#[67]⟩ 0, sy ⟨#[100, 101, 102, 97, 117, 108, 116]⟩ 0, sy ⟨#[67]⟩ j]) (2 + 1) nd6 #[.string ⟨#[67]⟩, .int .u8 3, .pointer (some ⟨nd7, 0, none⟩), .int .i32 0, .nilIface, .int .i32 0, .int .i32 0, .int .u32 0, .int .u32 1, .pointer none, .int .u32 4294967295, .int .u32 4294967295, .slice none 0 0, .slice none 0 0, .slice none 0 0, .slice none 0 0, .int .i64 0, .nilIface, .int .i32 0, .slice none 0 0, .slice none 0 0, .slice none 0 0, .slice none 0 0, .slice none 0 0, .int .u32 4294967295, .int .u32 4294967295, .nilIface, .int .i32 0, .map none, .bool false, .bool false, .slice none 0 0, .slice none 0 0, .slice none 0 0, .slice none 0 0, .int .u32 4294967295, .int .u32 4294967295, .int .u32 4294967295, .int .u32 4294967295, .func (Fn.func 19) #[] #[.pointer (some ⟨nd18, 0, none⟩), .pointer (some ⟨nd19, 0, none⟩), .pointer (some ⟨nd20, 0, none⟩)], .nilFunc, .bool false] nd7 #[.slice none 0 0, .pointer (some ⟨nd10, 0, none⟩), .nilIface, .int .i32 0, .slice none 0 0, .int .i32 0, .int .i32 0, .int .i32 0, .int .i32 0, .bool false, .bool false] nd10 nd18 nd19 nd20 3 2 0 _ _ _ hP9 (get_other (get_other (get_other (newPar_350 _ _) (by omega) _) (by omega) _) (by omega) _) (get_other (get_other (get_other (newPar_32 _ _) (by omega) _) (by omega) _) (by omega) _) (get_other (get_other (get_other (newPar_105 _ _) (by omega) _) (by omega) _) (by omega) _) (get_set (get_set (get_set (newPar_106 _ _) _) _) _) h9_hn h9_hnb h9_hu rfl rfl h9_hk0 rfl hg0 hg1 rfl
    refine Calls.mono T9 ?_
    clear hP9 T9 h9_hn h9_hnb h9_hu h9_hk0
    rintro e u23 ⟨rfl, hQ⟩
    have hN : Own w0 u23 [row (nd2) 176 ((((newPar nd3 nd4).setIfInBounds 106 (.slice (some ⟨nd11, 0, none⟩) 1 (1 + nd12))).setIfInBounds 106 (.slice (some ⟨nd8, 0, none⟩) 2 (2 + nd9))).setIfInBounds 106 (.slice (some ⟨nd14, 0, none⟩) (2 + 1) ((2 + 1) + nd15))), row (nd14) 199 (full symZ (symL ([sy ⟨#[67]⟩ 0, sy ⟨#[100, 101, 102, 97, 117, 108, 116]⟩ 0, sy ⟨#[67]⟩ (j + 1)])) nd15), row (nd6) 191 #[.string ⟨#[67]⟩, .int .u8 3, .pointer (some ⟨nd7, 0, none⟩), .int .i32 0, .nilIface, .int .i32 0, .int .i32 0, .int .u32 0, .int .u32 1, .pointer none, .int .u32 4294967295, .int .u32 4294967295, .slice none 0 0, .slice none 0 0, .slice none 0 0, .slice none 0 0, .int .i64 0, .nilIface, .int .i32 0, .slice none 0 0, .slice none 0 0, .slice none 0 0, .slice none 0 0, .slice none 0 0, .int .u32 4294967295, .int .u32 4294967295, .nilIface, .int .i32 0, .map none, .bool false, .bool false, .slice none 0 0, .slice none 0 0, .slice none 0 0, .slice none 0 0, .int .u32 4294967295, .int .u32 4294967295, .int .u32 4294967295, .int .u32 4294967295, .func (Fn.func 19) #[] #[.pointer (some ⟨nd18, 0, none⟩), .pointer (some ⟨nd19, 0, none⟩), .pointer (some ⟨nd20, 0, none⟩)], .nilFunc, .bool false], row (nd7) 182 #[.slice none 0 0, .pointer (some ⟨nd10, 0, none⟩), .nilIface, .int .i32 0, .slice none 0 0, .int .i32 0, .int .i32 0, .int .i32 0, .int .i32 0, .bool false, .bool false], row (nd10) 51 #[.int .i32 0, .int .u32 0, .int .u32 0], row (nd18) 27 #[.pointer (some ⟨nd6, 0, none⟩)], row (nd19) 25 #[.pointer (some ⟨nd2, 0, none⟩)], row (nd20) 202 #[.pointer none, .int .u32 0, .int .u32 2, .int .u32 4294967295, .int .u32 4294967295, .bool false]] X := hQ.back HL.out HX.out [] (by decide) (by decide)
    clear hQ HL HX hO
    have hO := hN
    clear hN
    have c9_2_0 : u23.cell? ⟨nd6, 0, none⟩ = some (.string ⟨#[67]⟩) := hO.cell 2 rfl (0) rfl
    have c9_2_6 : u23.cell? ⟨nd6, 6, none⟩ = some (.int .i32 0) := hO.cell 2 rfl (6) rfl
    have c9_2_7 : u23.cell? ⟨nd6, 7, none⟩ = some (.int .u32 0) := hO.cell 2 rfl (7) rfl
    have c9_2_8 : u23.cell? ⟨nd6, 8, none⟩ = some (.int .u32 1) := hO.cell 2 rfl (8) rfl
    have lt9_2 : nd6 < u23.heap.size := hO.lt 2 rfl
    have y9_2 : ∀ o, u23.frozen? ⟨nd6, o, none⟩ = false := hO.free 2 rfl
    have c9_3_1 : u23.cell? ⟨nd7, 1, none⟩ = some (.pointer (some ⟨nd10, 0, none⟩)) := hO.cell 3 rfl (1) rfl
    have lt9_3 : nd7 < u23.heap.size := hO.lt 3 rfl
    have y9_3 : ∀ o, u23.frozen? ⟨nd7, o, none⟩ = false := hO.free 3 rfl
    obtain ⟨c9_4_0, c9_4_1, c9_4_2, lt9_4, y9_4, -⟩ := hO.k3 4 rfl
    obtain ⟨c9_5_0, lt9_5, y9_5, -⟩ := hO.k1 5 rfl
    obtain ⟨c9_6_0, lt9_6, y9_6, -⟩ := hO.k1 6 rfl
    obtain ⟨c9_7_0, c9_7_1, c9_7_2, c9_7_3, c9_7_4, c9_7_5, lt9_7, y9_7, -⟩ := hO.k6 7 rfl
    have HO := Lib.hid hO
    clear hO
    go_wp2_with (first | (with_reducible refine Own.stay (fn := Tryd.f4) ?_) | (first | (go_at_call 9; go_in)))
    try with_reducible refine Own.Stay.mk ?_
    have hO := HO.out
    clear HO c9_2_0 c9_2_6 c9_2_7 c9_2_8 lt9_2 y9_2 c9_3_1 lt9_3 y9_3 c9_4_0 c9_4_1 c9_4_2 lt9_4 y9_4 c9_5_0 lt9_5 y9_5 c9_6_0 lt9_6 y9_6 c9_7_0 c9_7_1 c9_7_2 c9_7_3 c9_7_4 c9_7_5 lt9_7 y9_7
    have hN : Own w0 u23 [row (nd6) 191 #[.string ⟨#[67]⟩, .int .u8 3, .pointer (some ⟨nd7, 0, none⟩), .int .i32 0, .nilIface, .int .i32 0, .int .i32 0, .int .u32 0, .int .u32 1, .pointer none, .int .u32 4294967295, .int .u32 4294967295, .slice none 0 0, .slice none 0 0, .slice none 0 0, .slice none 0 0, .int .i64 0, .nilIface, .int .i32 0, .slice none 0 0, .slice none 0 0, .slice none 0 0, .slice none 0 0, .slice none 0 0, .int .u32 4294967295, .int .u32 4294967295, .nilIface, .int .i32 0, .map none, .bool false, .bool false, .slice none 0 0, .slice none 0 0, .slice none 0 0, .slice none 0 0, .int .u32 4294967295, .int .u32 4294967295, .int .u32 4294967295, .int .u32 4294967295, .func (Fn.func 19) #[] #[.pointer (some ⟨nd18, 0, none⟩), .pointer (some ⟨nd19, 0, none⟩), .pointer (some ⟨nd20, 0, none⟩)], .nilFunc, .bool false], row (nd7) 182 #[.slice none 0 0, .pointer (some ⟨nd10, 0, none⟩), .nilIface, .int .i32 0, .slice none 0 0, .int .i32 0, .int .i32 0, .int .i32 0, .int .i32 0, .bool false, .bool false], row (nd10) 51 #[.int .i32 0, .int .u32 0, .int .u32 0], row (nd2) 176 ((((newPar nd3 nd4).setIfInBounds 106 (.slice (some ⟨nd11, 0, none⟩) 1 (1 + nd12))).setIfInBounds 106 (.slice (some ⟨nd8, 0, none⟩) 2 (2 + nd9))).setIfInBounds 106 (.slice (some ⟨nd14, 0, none⟩) (2 + 1) ((2 + 1) + nd15))), row (nd18) 27 #[.pointer (some ⟨nd6, 0, none⟩)], row (nd19) 25 #[.pointer (some ⟨nd2, 0, none⟩)], row (nd20) 202 #[.pointer none, .int .u32 0, .int .u32 2, .int .u32 4294967295, .int .u32 4294967295, .bool false], row (nd14) 199 (full symZ (symL ([sy ⟨#[67]⟩ 0, sy ⟨#[100, 101, 102, 97, 117, 108, 116]⟩ 0, sy ⟨#[67]⟩ (j + 1)])) nd15)] X := hO.sub [2, 3, 4, 0, 5, 6, 7, 1] (by decide)
    clear hO
    have hO := hN
    clear hN
    go_roundg gq
    case measure => omega
    case rel => exact ⟨j + 1, by simp, by omega, by omega, hO⟩
  obtain rfl : j = k := by omega
  have hlt9 : ¬ (j : Int) < j := by omega
  clear hlt hjk hj
  have c9_0_0 : wr.cell? ⟨nd6, 0, none⟩ = some (.string ⟨#[67]⟩) := hO.cell 0 rfl (0) rfl
  have c9_0_6 : wr.cell? ⟨nd6, 6, none⟩ = some (.int .i32 0) := hO.cell 0 rfl (6) rfl
  have c9_0_7 : wr.cell? ⟨nd6, 7, none⟩ = some (.int .u32 0) := hO.cell 0 rfl (7) rfl
  have c9_0_8 : wr.cell? ⟨nd6, 8, none⟩ = some (.int .u32 1) := hO.cell 0 rfl (8) rfl
  have lt9_0 : nd6 < wr.heap.size := hO.lt 0 rfl
  have y9_0 : ∀ o, wr.frozen? ⟨nd6, o, none⟩ = false := hO.free 0 rfl
  have c9_1_1 : wr.cell? ⟨nd7, 1, none⟩ = some (.pointer (some ⟨nd10, 0, none⟩)) := hO.cell 1 rfl (1) rfl
  have lt9_1 : nd7 < wr.heap.size := hO.lt 1 rfl
  have y9_1 : ∀ o, wr.frozen? ⟨nd7, o, none⟩ = false := hO.free 1 rfl
  obtain ⟨c9_2_0, c9_2_1, c9_2_2, lt9_2, y9_2, -⟩ := hO.k3 2 rfl
  obtain ⟨c9_4_0, lt9_4, y9_4, -⟩ := hO.k1 4 rfl
  obtain ⟨c9_5_0, lt9_5, y9_5, -⟩ := hO.k1 5 rfl
  obtain ⟨c9_6_0, c9_6_1, c9_6_2, c9_6_3, c9_6_4, c9_6_5, lt9_6, y9_6, -⟩ := hO.k6 6 rfl
  have HO := Lib.hid hO
  clear hO
  go_wp2_with (first | (with_reducible refine Own.stay (fn := Tryd.f4) ?_) | (first | (go_at_call 9; go_in)))
  try with_reducible refine Own.Stay.mk ?_
  have hO := HO.out
  clear HO c9_0_0 c9_0_6 c9_0_7 c9_0_8 lt9_0 y9_0 c9_1_1 lt9_1 y9_1 c9_2_0 c9_2_1 c9_2_2 lt9_2 y9_2 c9_4_0 lt9_4 y9_4 c9_5_0 lt9_5 y9_5 c9_6_0 c9_6_1 c9_6_2 c9_6_3 c9_6_4 c9_6_5 lt9_6 y9_6
  have hL := hO.apart
  have hX := hO.apartX
  have HL := Lib.hid hL
  have HX := Lib.hid hX
  clear hL hX
  have hP9 := hO.pick [3] (by decide)
  have T9 := symCnt nd2 ((((newPar nd3 nd4).setIfInBounds 106 (.slice (some ⟨nd11, 0, none⟩) 1 (1 + nd12))).setIfInBounds 106 (.slice (some ⟨nd8, 0, none⟩) 2 (2 + nd9))).setIfInBounds 106 (.slice (some ⟨nd14, 0, none⟩) (2 + 1) ((2 + 1) + nd15))) nd14 nd15 (2 + 1) _ _ _ hP9 (get_set (get_set (get_set (newPar_106 _ _) _) _) _)
  refine Calls.mono T9 ?_
  clear hP9 T9
  rintro e u24 ⟨rfl, hQ⟩
  have hN : Own w0 u24 [row (nd2) 176 ((((newPar nd3 nd4).setIfInBounds 106 (.slice (some ⟨nd11, 0, none⟩) 1 (1 + nd12))).setIfInBounds 106 (.slice (some ⟨nd8, 0, none⟩) 2 (2 + nd9))).setIfInBounds 106 (.slice (some ⟨nd14, 0, none⟩) (2 + 1) ((2 + 1) + nd15))), row (nd6) 191 #[.string ⟨#[67]⟩, .int .u8 3, .pointer (some ⟨nd7, 0, none⟩), .int .i32 0, .nilIface, .int .i32 0, .int .i32 0, .int .u32 0, .int .u32 1, .pointer none, .int .u32 4294967295, .int .u32 4294967295, .slice none 0 0, .slice none 0 0, .slice none 0 0, .slice none 0 0, .int .i64 0, .nilIface, .int .i32 0, .slice none 0 0, .slice none 0 0, .slice none 0 0, .slice none 0 0, .slice none 0 0, .int .u32 4294967295, .int .u32 4294967295, .nilIface, .int .i32 0, .map none, .bool false, .bool false, .slice none 0 0, .slice none 0 0, .slice none 0 0, .slice none 0 0, .int .u32 4294967295, .int .u32 4294967295, .int .u32 4294967295, .int .u32 4294967295, .func (Fn.func 19) #[] #[.pointer (some ⟨nd18, 0, none⟩), .pointer (some ⟨nd19, 0, none⟩), .pointer (some ⟨nd20, 0, none⟩)], .nilFunc, .bool false], row (nd7) 182 #[.slice none 0 0, .pointer (some ⟨nd10, 0, none⟩), .nilIface, .int .i32 0, .slice none 0 0, .int .i32 0, .int .i32 0, .int .i32 0, .int .i32 0, .bool false, .bool false], row (nd10) 51 #[.int .i32 0, .int .u32 0, .int .u32 0], row (nd18) 27 #[.pointer (some ⟨nd6, 0, none⟩)], row (nd19) 25 #[.pointer (some ⟨nd2, 0, none⟩)], row (nd20) 202 #[.pointer none, .int .u32 0, .int .u32 2, .int .u32 4294967295, .int .u32 4294967295, .bool false], row (nd14) 199 (full symZ (symL ([sy ⟨#[67]⟩ 0, sy ⟨#[100, 101, 102, 97, 117, 108, 116]⟩ 0, sy ⟨#[67]⟩ j])) nd15)] X := hQ.back HL.out HX.out [0, 1, 2, 4, 5, 6, 7] (by decide) (by decide)
  clear hQ HL HX hO
  have hO := hN
  clear hN
  have c9_1_0 : u24.cell? ⟨nd6, 0, none⟩ = some (.string ⟨#[67]⟩) := hO.cell 1 rfl (0) rfl
  have c9_1_6 : u24.cell? ⟨nd6, 6, none⟩ = some (.int .i32 0) := hO.cell 1 rfl (6) rfl
  have c9_1_7 : u24.cell? ⟨nd6, 7, none⟩ = some (.int .u32 0) := hO.cell 1 rfl (7) rfl
  have c9_1_8 : u24.cell? ⟨nd6, 8, none⟩ = some (.int .u32 1) := hO.cell 1 rfl (8) rfl
  have lt9_1 : nd6 < u24.heap.size := hO.lt 1 rfl
  have y9_1 : ∀ o, u24.frozen? ⟨nd6, o, none⟩ = false := hO.free 1 rfl
  have c9_2_1 : u24.cell? ⟨nd7, 1, none⟩ = some (.pointer (some ⟨nd10, 0, none⟩)) := hO.cell 2 rfl (1) rfl
  have lt9_2 : nd7 < u24.heap.size := hO.lt 2 rfl
  have y9_2 : ∀ o, u24.frozen? ⟨nd7, o, none⟩ = false := hO.free 2 rfl
  obtain ⟨c9_3_0, c9_3_1, c9_3_2, lt9_3, y9_3, -⟩ := hO.k3 3 rfl
  obtain ⟨c9_4_0, lt9_4, y9_4, -⟩ := hO.k1 4 rfl
  obtain ⟨c9_5_0, lt9_5, y9_5, -⟩ := hO.k1 5 rfl
  obtain ⟨c9_6_0, c9_6_1, c9_6_2, c9_6_3, c9_6_4, c9_6_5, lt9_6, y9_6, -⟩ := hO.k6 6 rfl
  have HO := Lib.hid hO
  clear hO
  go_wp2_with (first | (with_reducible refine Own.stay (fn := Tryd.f4) ?_) | (first | (go_at_call 9; go_in)))
  try with_reducible refine Own.Stay.mk ?_
  have hO := HO.out
  clear HO c9_1_0 c9_1_6 c9_1_7 c9_1_8 lt9_1 y9_1 c9_2_1 lt9_2 y9_2 c9_3_0 c9_3_1 c9_3_2 lt9_3 y9_3 c9_4_0 lt9_4 y9_4 c9_5_0 lt9_5 y9_5 c9_6_0 c9_6_1 c9_6_2 c9_6_3 c9_6_4 c9_6_5 lt9_6 y9_6
  have hL := hO.apart
  have hX := hO.apartX
  have HL := Lib.hid hL
  have HX := Lib.hid hX
  clear hL hX
  have hP9 := hO.pick [0, 7] (by decide)
  have h9_hn : ([sy ⟨#[67]⟩ 0, sy ⟨#[100, 101, 102, 97, 117, 108, 116]⟩ 0, sy ⟨#[67]⟩ j]).length = (2 + 1) := rfl
  have h9_hnb : (2 + 1) ≤ 4000000 := (by decide)
  have h9_hi : 2 < (2 + 1) := (by decide)
  have h9_hs : ([sy ⟨#[67]⟩ 0, sy ⟨#[100, 101, 102, 97, 117, 108, 116]⟩ 0, sy ⟨#[67]⟩ j])[2]? = some (sy (⟨#[67]⟩ : ByteArray) j) := rfl
  have T9 := useCnt nd2 ((((newPar nd3 nd4).setIfInBounds 106 (.slice (some ⟨nd11, 0, none⟩) 1 (1 + nd12))).setIfInBounds 106 (.slice (some ⟨nd8, 0, none⟩) 2 (2 + nd9))).setIfInBounds 106 (.slice (some ⟨nd14, 0, none⟩) (2 + 1) ((2 + 1) + nd15))) nd14 nd15 ([sy ⟨#[67]⟩ 0, sy ⟨#[100, 101, 102, 97, 117, 108, 116]⟩ 0, sy ⟨#[67]⟩ j]) (2 + 1) 2 ⟨#[67]⟩ j _ _ _ hP9 (get_set (get_set (get_set (newPar_106 _ _) _) _) _) h9_hn h9_hnb h9_hi h9_hs
  refine Calls.mono T9 ?_
  clear hP9 T9 h9_hn h9_hnb h9_hi h9_hs
  rintro e u25 ⟨rfl, hQ⟩
  have hN : Own w0 u25 [row (nd2) 176 ((((newPar nd3 nd4).setIfInBounds 106 (.slice (some ⟨nd11, 0, none⟩) 1 (1 + nd12))).setIfInBounds 106 (.slice (some ⟨nd8, 0, none⟩) 2 (2 + nd9))).setIfInBounds 106 (.slice (some ⟨nd14, 0, none⟩) (2 + 1) ((2 + 1) + nd15))), row (nd14) 199 (full symZ (symL ([sy ⟨#[67]⟩ 0, sy ⟨#[100, 101, 102, 97, 117, 108, 116]⟩ 0, sy ⟨#[67]⟩ j])) nd15), row (nd6) 191 #[.string ⟨#[67]⟩, .int .u8 3, .pointer (some ⟨nd7, 0, none⟩), .int .i32 0, .nilIface, .int .i32 0, .int .i32 0, .int .u32 0, .int .u32 1, .pointer none, .int .u32 4294967295, .int .u32 4294967295, .slice none 0 0, .slice none 0 0, .slice none 0 0, .slice none 0 0, .int .i64 0, .nilIface, .int .i32 0, .slice none 0 0, .slice none 0 0, .slice none 0 0, .slice none 0 0, .slice none 0 0, .int .u32 4294967295, .int .u32 4294967295, .nilIface, .int .i32 0, .map none, .bool false, .bool false, .slice none 0 0, .slice none 0 0, .slice none 0 0, .slice none 0 0, .int .u32 4294967295, .int .u32 4294967295, .int .u32 4294967295, .int .u32 4294967295, .func (Fn.func 19) #[] #[.pointer (some ⟨nd18, 0, none⟩), .pointer (some ⟨nd19, 0, none⟩), .pointer (some ⟨nd20, 0, none⟩)], .nilFunc, .bool false], row (nd7) 182 #[.slice none 0 0, .pointer (some ⟨nd10, 0, none⟩), .nilIface, .int .i32 0, .slice none 0 0, .int .i32 0, .int .i32 0, .int .i32 0, .int .i32 0, .bool false, .bool false], row (nd10) 51 #[.int .i32 0, .int .u32 0, .int .u32 0], row (nd18) 27 #[.pointer (some ⟨nd6, 0, none⟩)], row (nd19) 25 #[.pointer (some ⟨nd2, 0, none⟩)], row (nd20) 202 #[.pointer none, .int .u32 0, .int .u32 2, .int .u32 4294967295, .int .u32 4294967295, .bool false]] X := hQ.back HL.out HX.out [1, 2, 3, 4, 5, 6] (by decide) (by decide)
  clear hQ HL HX hO
  have hO := hN
  clear hN
  have c9_2_0 : u25.cell? ⟨nd6, 0, none⟩ = some (.string ⟨#[67]⟩) := hO.cell 2 rfl (0) rfl
  have c9_2_6 : u25.cell? ⟨nd6, 6, none⟩ = some (.int .i32 0) := hO.cell 2 rfl (6) rfl
  have c9_2_7 : u25.cell? ⟨nd6, 7, none⟩ = some (.int .u32 0) := hO.cell 2 rfl (7) rfl
  have c9_2_8 : u25.cell? ⟨nd6, 8, none⟩ = some (.int .u32 1) := hO.cell 2 rfl (8) rfl
  have lt9_2 : nd6 < u25.heap.size := hO.lt 2 rfl
  have y9_2 : ∀ o, u25.frozen? ⟨nd6, o, none⟩ = false := hO.free 2 rfl
  have c9_3_1 : u25.cell? ⟨nd7, 1, none⟩ = some (.pointer (some ⟨nd10, 0, none⟩)) := hO.cell 3 rfl (1) rfl
  have lt9_3 : nd7 < u25.heap.size := hO.lt 3 rfl
  have y9_3 : ∀ o, u25.frozen? ⟨nd7, o, none⟩ = false := hO.free 3 rfl
  obtain ⟨c9_4_0, c9_4_1, c9_4_2, lt9_4, y9_4, -⟩ := hO.k3 4 rfl
  obtain ⟨c9_5_0, lt9_5, y9_5, -⟩ := hO.k1 5 rfl
  obtain ⟨c9_6_0, lt9_6, y9_6, -⟩ := hO.k1 6 rfl
  obtain ⟨c9_7_0, c9_7_1, c9_7_2, c9_7_3, c9_7_4, c9_7_5, lt9_7, y9_7, -⟩ := hO.k6 7 rfl
  have HO := Lib.hid hO
  clear hO
  go_wp2_with (first | (with_reducible refine Own.stay (fn := Tryd.f4) ?_) | (first | (go_at_call 9; go_in)))
  try with_reducible refine Own.Stay.mk ?_
  have hO := HO.out
  clear HO c9_2_0 c9_2_6 c9_2_7 c9_2_8 lt9_2 y9_2 c9_3_1 lt9_3 y9_3 c9_4_0 c9_4_1 c9_4_2 lt9_4 y9_4 c9_5_0 lt9_5 y9_5 c9_6_0 lt9_6 y9_6 c9_7_0 c9_7_1 c9_7_2 c9_7_3 c9_7_4 c9_7_5 lt9_7 y9_7
  have hL := hO.apart
  have hX := hO.apartX
  have HL := Lib.hid hL
  have HX := Lib.hid hX
  clear hL hX
  have hP9 := hO.pick [0, 1] (by decide)
  have h9_hn : ([sy ⟨#[67]⟩ 0, sy ⟨#[100, 101, 102, 97, 117, 108, 116]⟩ 0, sy ⟨#[67]⟩ j]).length = (2 + 1) := rfl
  have h9_hnb : (2 + 1) ≤ 4000000 := (by decide)
  have h9_hi : 0 < (2 + 1) := (by decide)
  have h9_hs : ([sy ⟨#[67]⟩ 0, sy ⟨#[100, 101, 102, 97, 117, 108, 116]⟩ 0, sy ⟨#[67]⟩ j])[0]? = some (sy (⟨#[67]⟩ : ByteArray) 0) := rfl
  have T9 := useCnt nd2 ((((newPar nd3 nd4).setIfInBounds 106 (.slice (some ⟨nd11, 0, none⟩) 1 (1 + nd12))).setIfInBounds 106 (.slice (some ⟨nd8, 0, none⟩) 2 (2 + nd9))).setIfInBounds 106 (.slice (some ⟨nd14, 0, none⟩) (2 + 1) ((2 + 1) + nd15))) nd14 nd15 ([sy ⟨#[67]⟩ 0, sy ⟨#[100, 101, 102, 97, 117, 108, 116]⟩ 0, sy ⟨#[67]⟩ j]) (2 + 1) 0 ⟨#[67]⟩ 0 _ _ _ hP9 (get_set (get_set (get_set (newPar_106 _ _) _) _) _) h9_hn h9_hnb h9_hi h9_hs
  refine Calls.mono T9 ?_
  clear hP9 T9 h9_hn h9_hnb h9_hi h9_hs
  rintro e u26 ⟨rfl, hQ⟩
  have hN : Own w0 u26 [row (nd2) 176 ((((newPar nd3 nd4).setIfInBounds 106 (.slice (some ⟨nd11, 0, none⟩) 1 (1 + nd12))).setIfInBounds 106 (.slice (some ⟨nd8, 0, none⟩) 2 (2 + nd9))).setIfInBounds 106 (.slice (some ⟨nd14, 0, none⟩) (2 + 1) ((2 + 1) + nd15))), row (nd14) 199 (full symZ (symL ([sy ⟨#[67]⟩ 0, sy ⟨#[100, 101, 102, 97, 117, 108, 116]⟩ 0, sy ⟨#[67]⟩ j])) nd15), row (nd6) 191 #[.string ⟨#[67]⟩, .int .u8 3, .pointer (some ⟨nd7, 0, none⟩), .int .i32 0, .nilIface, .int .i32 0, .int .i32 0, .int .u32 0, .int .u32 1, .pointer none, .int .u32 4294967295, .int .u32 4294967295, .slice none 0 0, .slice none 0 0, .slice none 0 0, .slice none 0 0, .int .i64 0, .nilIface, .int .i32 0, .slice none 0 0, .slice none 0 0, .slice none 0 0, .slice none 0 0, .slice none 0 0, .int .u32 4294967295, .int .u32 4294967295, .nilIface, .int .i32 0, .map none, .bool false, .bool false, .slice none 0 0, .slice none 0 0, .slice none 0 0, .slice none 0 0, .int .u32 4294967295, .int .u32 4294967295, .int .u32 4294967295, .int .u32 4294967295, .func (Fn.func 19) #[] #[.pointer (some ⟨nd18, 0, none⟩), .pointer (some ⟨nd19, 0, none⟩), .pointer (some ⟨nd20, 0, none⟩)], .nilFunc, .bool false], row (nd7) 182 #[.slice none 0 0, .pointer (some ⟨nd10, 0, none⟩), .nilIface, .int .i32 0, .slice none 0 0, .int .i32 0, .int .i32 0, .int .i32 0, .int .i32 0, .bool false, .bool false], row (nd10) 51 #[.int .i32 0, .int .u32 0, .int .u32 0], row (nd18) 27 #[.pointer (some ⟨nd6, 0, none⟩)], row (nd19) 25 #[.pointer (some ⟨nd2, 0, none⟩)], row (nd20) 202 #[.pointer none, .int .u32 0, .int .u32 2, .int .u32 4294967295, .int .u32 4294967295, .bool false]] X := hQ.back HL.out HX.out [2, 3, 4, 5, 6, 7] (by decide) (by decide)
  clear hQ HL HX hO
  have hO := hN
  clear hN
  have c9_2_0 : u26.cell? ⟨nd6, 0, none⟩ = some (.string ⟨#[67]⟩) := hO.cell 2 rfl (0) rfl
  have c9_2_6 : u26.cell? ⟨nd6, 6, none⟩ = some (.int .i32 0) := hO.cell 2 rfl (6) rfl
  have c9_2_7 : u26.cell? ⟨nd6, 7, none⟩ = some (.int .u32 0) := hO.cell 2 rfl (7) rfl
  have c9_2_8 : u26.cell? ⟨nd6, 8, none⟩ = some (.int .u32 1) := hO.cell 2 rfl (8) rfl
  have lt9_2 : nd6 < u26.heap.size := hO.lt 2 rfl
  have y9_2 : ∀ o, u26.frozen? ⟨nd6, o, none⟩ = false := hO.free 2 rfl
  have c9_3_1 : u26.cell? ⟨nd7, 1, none⟩ = some (.pointer (some ⟨nd10, 0, none⟩)) := hO.cell 3 rfl (1) rfl
  have lt9_3 : nd7 < u26.heap.size := hO.lt 3 rfl
  have y9_3 : ∀ o, u26.frozen? ⟨nd7, o, none⟩ = false := hO.free 3 rfl
  obtain ⟨c9_4_0, c9_4_1, c9_4_2, lt9_4, y9_4, -⟩ := hO.k3 4 rfl
  obtain ⟨c9_5_0, lt9_5, y9_5, -⟩ := hO.k1 5 rfl
  obtain ⟨c9_6_0, lt9_6, y9_6, -⟩ := hO.k1 6 rfl
  obtain ⟨c9_7_0, c9_7_1, c9_7_2, c9_7_3, c9_7_4, c9_7_5, lt9_7, y9_7, -⟩ := hO.k6 7 rfl
  have HO := Lib.hid hO
  clear hO
  go_wp2_with (first | (with_reducible refine Own.stay (fn := Tryd.f4) ?_) | (first | (go_at_call 9; go_in)))
  try with_reducible refine Own.Stay.mk ?_
  have hO := HO.out
  clear HO c9_2_0 c9_2_6 c9_2_7 c9_2_8 lt9_2 y9_2 c9_3_1 lt9_3 y9_3 c9_4_0 c9_4_1 c9_4_2 lt9_4 y9_4 c9_5_0 lt9_5 y9_5 c9_6_0 lt9_6 y9_6 c9_7_0 c9_7_1 c9_7_2 c9_7_3 c9_7_4 c9_7_5 lt9_7 y9_7
  have hL := hO.apart
  have hX := hO.apartX
  have HL := Lib.hid hL
  have HX := Lib.hid hX
  clear hL hX
  have hP9 := hO.pick [2, 3, 4] (by decide)
  have T9 := clsNm nd6 #[.string ⟨#[67]⟩, .int .u8 3, .pointer (some ⟨nd7, 0, none⟩), .int .i32 0, .nilIface, .int .i32 0, .int .i32 0, .int .u32 0, .int .u32 1, .pointer none, .int .u32 4294967295, .int .u32 4294967295, .slice none 0 0, .slice none 0 0, .slice none 0 0, .slice none 0 0, .int .i64 0, .nilIface, .int .i32 0, .slice none 0 0, .slice none 0 0, .slice none 0 0, .slice none 0 0, .slice none 0 0, .int .u32 4294967295, .int .u32 4294967295, .nilIface, .int .i32 0, .map none, .bool false, .bool false, .slice none 0 0, .slice none 0 0, .slice none 0 0, .slice none 0 0, .int .u32 4294967295, .int .u32 4294967295, .int .u32 4294967295, .int .u32 4294967295, .func (Fn.func 19) #[] #[.pointer (some ⟨nd18, 0, none⟩), .pointer (some ⟨nd19, 0, none⟩), .pointer (some ⟨nd20, 0, none⟩)], .nilFunc, .bool false] nd7 #[.slice none 0 0, .pointer (some ⟨nd10, 0, none⟩), .nilIface, .int .i32 0, .slice none 0 0, .int .i32 0, .int .i32 0, .int .i32 0, .int .i32 0, .bool false, .bool false] nd10 0 _ _ _ hP9 rfl rfl
  refine Calls.mono T9 ?_
  clear hP9 T9
  rintro e u27 ⟨rfl, hQ⟩
  have hN : Own w0 u27 [row (nd6) 191 #[.string ⟨#[67]⟩, .int .u8 3, .pointer (some ⟨nd7, 0, none⟩), .int .i32 0, .nilIface, .int .i32 0, .int .i32 0, .int .u32 0, .int .u32 1, .pointer none, .int .u32 4294967295, .int .u32 4294967295, .slice none 0 0, .slice none 0 0, .slice none 0 0, .slice none 0 0, .int .i64 0, .nilIface, .int .i32 0, .slice none 0 0, .slice none 0 0, .slice none 0 0, .slice none 0 0, .slice none 0 0, .int .u32 4294967295, .int .u32 4294967295, .nilIface, .int .i32 0, .map none, .bool false, .bool false, .slice none 0 0, .slice none 0 0, .slice none 0 0, .slice none 0 0, .int .u32 4294967295, .int .u32 4294967295, .int .u32 4294967295, .int .u32 4294967295, .func (Fn.func 19) #[] #[.pointer (some ⟨nd18, 0, none⟩), .pointer (some ⟨nd19, 0, none⟩), .pointer (some ⟨nd20, 0, none⟩)], .nilFunc, .bool false], row (nd7) 182 #[.slice none 0 0, .pointer (some ⟨nd10, 0, none⟩), .nilIface, .int .i32 0, .slice none 0 0, .int .i32 0, .int .i32 0, .int .i32 0, .int .i32 0, .bool false, .bool false], row (nd10) 51 #[.int .i32 0, .int .u32 0, .int .u32 0], row (nd2) 176 ((((newPar nd3 nd4).setIfInBounds 106 (.slice (some ⟨nd11, 0, none⟩) 1 (1 + nd12))).setIfInBounds 106 (.slice (some ⟨nd8, 0, none⟩) 2 (2 + nd9))).setIfInBounds 106 (.slice (some ⟨nd14, 0, none⟩) (2 + 1) ((2 + 1) + nd15))), row (nd14) 199 (full symZ (symL ([sy ⟨#[67]⟩ 0, sy ⟨#[100, 101, 102, 97, 117, 108, 116]⟩ 0, sy ⟨#[67]⟩ j])) nd15), row (nd18) 27 #[.pointer (some ⟨nd6, 0, none⟩)], row (nd19) 25 #[.pointer (some ⟨nd2, 0, none⟩)], row (nd20) 202 #[.pointer none, .int .u32 0, .int .u32 2, .int .u32 4294967295, .int .u32 4294967295, .bool false]] X := hQ.back HL.out HX.out [0, 1, 5, 6, 7] (by decide) (by decide)
  clear hQ HL HX hO
  have hO := hN
  clear hN
  have c9_0_0 : u27.cell? ⟨nd6, 0, none⟩ = some (.string ⟨#[67]⟩) := hO.cell 0 rfl (0) rfl
  have c9_0_6 : u27.cell? ⟨nd6, 6, none⟩ = some (.int .i32 0) := hO.cell 0 rfl (6) rfl
  have c9_0_7 : u27.cell? ⟨nd6, 7, none⟩ = some (.int .u32 0) := hO.cell 0 rfl (7) rfl
  have c9_0_8 : u27.cell? ⟨nd6, 8, none⟩ = some (.int .u32 1) := hO.cell 0 rfl (8) rfl
  have lt9_0 : nd6 < u27.heap.size := hO.lt 0 rfl
  have y9_0 : ∀ o, u27.frozen? ⟨nd6, o, none⟩ = false := hO.free 0 rfl
  have c9_1_1 : u27.cell? ⟨nd7, 1, none⟩ = some (.pointer (some ⟨nd10, 0, none⟩)) := hO.cell 1 rfl (1) rfl
  have lt9_1 : nd7 < u27.heap.size := hO.lt 1 rfl
  have y9_1 : ∀ o, u27.frozen? ⟨nd7, o, none⟩ = false := hO.free 1 rfl
  obtain ⟨c9_2_0, c9_2_1, c9_2_2, lt9_2, y9_2, -⟩ := hO.k3 2 rfl
  obtain ⟨c9_5_0, lt9_5, y9_5, -⟩ := hO.k1 5 rfl
  obtain ⟨c9_6_0, lt9_6, y9_6, -⟩ := hO.k1 6 rfl
  obtain ⟨c9_7_0, c9_7_1, c9_7_2, c9_7_3, c9_7_4, c9_7_5, lt9_7, y9_7, -⟩ := hO.k6 7 rfl
  have HO := Lib.hid hO
  clear hO
  go_wp2_with (first | (with_reducible refine Own.stay (fn := Tryd.f4) ?_) | (first | (go_at_call 9; go_in)))
  try with_reducible refine Own.Stay.mk ?_
  have hO := HO.out
  clear HO c9_0_0 c9_0_6 c9_0_7 c9_0_8 lt9_0 y9_0 c9_1_1 lt9_1 y9_1 c9_2_0 c9_2_1 c9_2_2 lt9_2 y9_2 c9_5_0 lt9_5 y9_5 c9_6_0 lt9_6 y9_6 c9_7_0 c9_7_1 c9_7_2 c9_7_3 c9_7_4 c9_7_5 lt9_7 y9_7
  refine bodyPost_ret (v := .bool true) ?_ rfl ⟨rfl, hO.sub [] (by decide)⟩
  simp [results, Tryd.results4, go_sem]
end Go.Proofs.YtaoflhnkhgclhaaDoor.Use
