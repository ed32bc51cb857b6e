/- The law on name capture under re-enabling, walked: one of its cases. No condition. -/
import Derived.Test.YtaoflhnkhgclhaaDoorCln
import Derived.Test.YtaoflhnkhgclhaaDoorLoop
import Derived.Test.YtaoflhnkhgclhaaDoorRead2
import Derived.Test.YtaoflhnkhgclhaaDoorRead
import Derived.Test.YtaoflhnkhgclhaaDoorCap
import Derived.Test.YtaoflhnkhgclhaaDoorCtx
import Derived.Test.YtaoflhnkhgclhaaDoorNewP
import Derived.Test.YtaoflhnkhgclhaaDoorNam
import Derived.Test.YtaoflhnkhgclhaaDoorVl
import Derived.Test.YtaoflhnkhgclhaaDoorApp
import Derived.Test.YtaoflhnkhgclhaaDoorOwnK
import Derived.Test.YtaoflhnkhgclhaaDoorOwn
import Derived.Test.YtaoflhnkhgclhaaDoorDeepCells
import Derived.Test.YtaoflhnkhgclhaaDoorRows
import Derived.Test.YtaoflhnkhgclhaaDoorUse
import Derived.Test.YtaoflhnkhgclhaaDoorLive
namespace Go.Proofs.YtaoflhnkhgclhaaDoor.Use
open Go.ChangeShapes Go.WideShapes Go.ChangeAt Go.RowKit Go.Sort Own
set_option linter.unusedVariables false
def law31CPost (sa : Addr) (n cp : Nat) (B : Nat → Bool) (w0 : World) (X : Nat → Obj → Prop) (e : Ending) (w' : World) : Prop :=
  e = .returned (.bool true) ∧ Own w0 w' [] X
set_option maxRecDepth 100000 in
set_option maxHeartbeats 1000000 in
theorem law31C (sa : Addr) (n cp : Nat) (B : Nat → Bool) (w0 w : World) (X : Nat → Obj → Prop) (hO : Own w0 w [] X) (hn4 : n ≤ 4096) (hB : BoolsAt w0 sa n B) (hg0 : w0.cell? ⟨0, 0, none⟩ = some (.int .u32 4294967295)) (hg1 : w0.cell? ⟨0, 1, none⟩ = some (.int .u32 4294967295)) :
    Calls Tryd.prog 3 #[.int .i64 3, .bool true, .bool false, .slice (some sa) n cp] w (law31CPost sa n cp B w0 X) := by
  go_enter Tryd.func3, Tryd.ntmps3
  have hn9 : (n : Int) ≤ 4096 := by omega
  have hn8 : (n : Int) ≤ 1048576 := by omega
  go_wp2_with (first | (with_reducible refine Own.stay (fn := Tryd.f3) ?_) | (first | (go_at_call 9; go_in) | (go_at_call 5; go_in)))
  try with_reducible refine Own.Stay.mk ?_
  have hL := hO.apart
  have hX := hO.apartX
  have HL := Lib.hid hL
  have HX := Lib.hid hX
  clear hL hX
  have hP9 := hO.pick [] (by decide)
  have T9 := cloneB sa n cp B _ _ _ hP9 hn4 hB
  refine Calls.mono T9 ?_
  clear hP9 T9
  rintro e u1 ⟨nd2, rfl, hQ⟩
  have hN : Own w0 u1 [row (nd2) 4 (bools B n)] X := hQ.back HL.out HX.out [] (by decide) (by decide)
  clear hQ HL HX hO
  have hO := hN
  clear hN
  go_wp2_with (first | (with_reducible refine Own.stay (fn := Tryd.f3) ?_) | (first | (go_at_call 9; go_in) | (go_at_call 5; go_in)))
  try with_reducible refine Own.Stay.mk ?_
  have hL := hO.apart
  have hX := hO.apartX
  have HL := Lib.hid hL
  have HX := Lib.hid hX
  clear hL hX
  have hP9 := hO.pick [] (by decide)
  have T9 := newP  _ _ _ hP9 hg0 hg1
  refine Calls.mono T9 ?_
  clear hP9 T9
  rintro e u3 ⟨nd4, nd5, nd6, rfl, hQ⟩
  have hN : Own w0 u3 [row (nd4) 176 (newPar nd5 nd6), row (nd2) 4 (bools B n)] X := hQ.back HL.out HX.out [0] (by decide) (by decide)
  clear hQ HL HX hO
  have hO := hN
  clear hN
  go_wp2_with (first | (with_reducible refine Own.stay (fn := Tryd.f3) ?_) | (first | (go_at_call 9; go_in) | (go_at_call 5; go_in)))
  try with_reducible refine Own.Stay.mk ?_
  have hL := hO.apart
  have hX := hO.apartX
  have HL := Lib.hid hL
  have HX := Lib.hid hX
  clear hL hX
  have hP9 := hO.pick [0] (by decide)
  have T9 := newCtxN3 nd4 (newPar nd5 nd6) _ _ _ hP9 (newPar_66 _ _) (newPar_32 _ _) (newPar_106 _ _) hg0 hg1
  refine Calls.mono T9 ?_
  clear hP9 T9
  rintro e u7 ⟨nd8, nd9, nd10, nd11, nd12, nd13, nd14, rfl, hQ⟩
  have hN : Own w0 u7 [row (nd4) 176 (((newPar nd5 nd6).setIfInBounds 106 (.slice (some ⟨nd13, 0, none⟩) 1 (1 + nd14))).setIfInBounds 106 (.slice (some ⟨nd10, 0, none⟩) 2 (2 + nd11))), row (nd10) 199 (full symZ (symL ([sy ⟨#[67]⟩ 0, sy ⟨#[100, 101, 102, 97, 117, 108, 116]⟩ 0])) nd11), row (nd8) 191 #[.string ⟨#[67]⟩, .int .u8 3, .pointer (some ⟨nd9, 0, none⟩), .int .i32 0, .nilIface, .int .i32 0, .int .i32 0, .int .u32 0, .int .u32 1, .pointer none, .int .u32 4294967295, .int .u32 4294967295, .slice none 0 0, .slice none 0 0, .slice none 0 0, .slice none 0 0, .int .i64 0, .nilIface, .int .i32 0, .slice none 0 0, .slice none 0 0, .slice none 0 0, .slice none 0 0, .slice none 0 0, .int .u32 4294967295, .int .u32 4294967295, .nilIface, .int .i32 0, .map none, .bool false, .bool false, .slice none 0 0, .slice none 0 0, .slice none 0 0, .slice none 0 0, .int .u32 4294967295, .int .u32 4294967295, .int .u32 4294967295, .int .u32 4294967295, .nilFunc, .nilFunc, .bool false], row (nd9) 182 #[.slice none 0 0, .pointer (some ⟨nd12, 0, none⟩), .nilIface, .int .i32 0, .slice none 0 0, .int .i32 0, .int .i32 0, .int .i32 0, .int .i32 0, .bool false, .bool false], row (nd12) 51 #[.int .i32 0, .int .u32 0, .int .u32 0], row (nd2) 4 (bools B n)] X := hQ.back HL.out HX.out [1] (by decide) (by decide)
  clear hQ HL HX hO
  have hO := hN
  clear hN
  have c9_2_0 : u7.cell? ⟨nd8, 0, none⟩ = some (.string ⟨#[67]⟩) := hO.cell 2 rfl (0) rfl
  have c9_2_6 : u7.cell? ⟨nd8, 6, none⟩ = some (.int .i32 0) := hO.cell 2 rfl (6) rfl
  have c9_2_7 : u7.cell? ⟨nd8, 7, none⟩ = some (.int .u32 0) := hO.cell 2 rfl (7) rfl
  have c9_2_8 : u7.cell? ⟨nd8, 8, none⟩ = some (.int .u32 1) := hO.cell 2 rfl (8) rfl
  have lt9_2 : nd8 < u7.heap.size := hO.lt 2 rfl
  have y9_2 : ∀ o, u7.frozen? ⟨nd8, o, none⟩ = false := hO.free 2 rfl
  have c9_3_1 : u7.cell? ⟨nd9, 1, none⟩ = some (.pointer (some ⟨nd12, 0, none⟩)) := hO.cell 3 rfl (1) rfl
  have lt9_3 : nd9 < u7.heap.size := hO.lt 3 rfl
  have y9_3 : ∀ o, u7.frozen? ⟨nd9, o, none⟩ = false := hO.free 3 rfl
  obtain ⟨c9_4_0, c9_4_1, c9_4_2, lt9_4, y9_4, -⟩ := hO.k3 4 rfl
  have HO := Lib.hid hO
  clear hO
  go_wp2_with (first | (with_reducible refine Own.stay (fn := Tryd.f3) ?_) | (first | (go_at_call 9; go_in) | (go_at_call 5; go_in)))
  try with_reducible refine Own.Stay.mk ?_
  have hO := HO.out
  clear HO c9_2_0 c9_2_6 c9_2_7 c9_2_8 lt9_2 y9_2 c9_3_1 lt9_3 y9_3 c9_4_0 c9_4_1 c9_4_2 lt9_4 y9_4
  have hL := hO.apart
  have hX := hO.apartX
  have HL := Lib.hid hL
  have HX := Lib.hid hX
  clear hL hX
  have hP9 := hO.pick [0] (by decide)
  have T9 := symCnt nd4 (((newPar nd5 nd6).setIfInBounds 106 (.slice (some ⟨nd13, 0, none⟩) 1 (1 + nd14))).setIfInBounds 106 (.slice (some ⟨nd10, 0, none⟩) 2 (2 + nd11))) nd10 nd11 2 _ _ _ hP9 (get_set (get_set (newPar_106 _ _) _) _)
  refine Calls.mono T9 ?_
  clear hP9 T9
  rintro e u15 ⟨rfl, hQ⟩
  have hN : Own w0 u15 [row (nd4) 176 (((newPar nd5 nd6).setIfInBounds 106 (.slice (some ⟨nd13, 0, none⟩) 1 (1 + nd14))).setIfInBounds 106 (.slice (some ⟨nd10, 0, none⟩) 2 (2 + nd11))), row (nd10) 199 (full symZ (symL ([sy ⟨#[67]⟩ 0, sy ⟨#[100, 101, 102, 97, 117, 108, 116]⟩ 0])) nd11), row (nd8) 191 #[.string ⟨#[67]⟩, .int .u8 3, .pointer (some ⟨nd9, 0, none⟩), .int .i32 0, .nilIface, .int .i32 0, .int .i32 0, .int .u32 0, .int .u32 1, .pointer none, .int .u32 4294967295, .int .u32 4294967295, .slice none 0 0, .slice none 0 0, .slice none 0 0, .slice none 0 0, .int .i64 0, .nilIface, .int .i32 0, .slice none 0 0, .slice none 0 0, .slice none 0 0, .slice none 0 0, .slice none 0 0, .int .u32 4294967295, .int .u32 4294967295, .nilIface, .int .i32 0, .map none, .bool false, .bool false, .slice none 0 0, .slice none 0 0, .slice none 0 0, .slice none 0 0, .int .u32 4294967295, .int .u32 4294967295, .int .u32 4294967295, .int .u32 4294967295, .nilFunc, .nilFunc, .bool false], row (nd9) 182 #[.slice none 0 0, .pointer (some ⟨nd12, 0, none⟩), .nilIface, .int .i32 0, .slice none 0 0, .int .i32 0, .int .i32 0, .int .i32 0, .int .i32 0, .bool false, .bool false], row (nd12) 51 #[.int .i32 0, .int .u32 0, .int .u32 0], row (nd2) 4 (bools B n)] X := hQ.back HL.out HX.out [1, 2, 3, 4, 5] (by decide) (by decide)
  clear hQ HL HX hO
  have hO := hN
  clear hN
  have c9_2_0 : u15.cell? ⟨nd8, 0, none⟩ = some (.string ⟨#[67]⟩) := hO.cell 2 rfl (0) rfl
  have c9_2_6 : u15.cell? ⟨nd8, 6, none⟩ = some (.int .i32 0) := hO.cell 2 rfl (6) rfl
  have c9_2_7 : u15.cell? ⟨nd8, 7, none⟩ = some (.int .u32 0) := hO.cell 2 rfl (7) rfl
  have c9_2_8 : u15.cell? ⟨nd8, 8, none⟩ = some (.int .u32 1) := hO.cell 2 rfl (8) rfl
  have lt9_2 : nd8 < u15.heap.size := hO.lt 2 rfl
  have y9_2 : ∀ o, u15.frozen? ⟨nd8, o, none⟩ = false := hO.free 2 rfl
  have c9_3_1 : u15.cell? ⟨nd9, 1, none⟩ = some (.pointer (some ⟨nd12, 0, none⟩)) := hO.cell 3 rfl (1) rfl
  have lt9_3 : nd9 < u15.heap.size := hO.lt 3 rfl
  have y9_3 : ∀ o, u15.frozen? ⟨nd9, o, none⟩ = false := hO.free 3 rfl
  obtain ⟨c9_4_0, c9_4_1, c9_4_2, lt9_4, y9_4, -⟩ := hO.k3 4 rfl
  have HO := Lib.hid hO
  clear hO
  go_wp2_with (first | (with_reducible refine Own.stay (fn := Tryd.f3) ?_) | (first | (go_at_call 9; go_in) | (go_at_call 5; go_in)))
  try with_reducible refine Own.Stay.mk ?_
  have hO := HO.out
  clear HO c9_2_0 c9_2_6 c9_2_7 c9_2_8 lt9_2 y9_2 c9_3_1 lt9_3 y9_3 c9_4_0 c9_4_1 c9_4_2 lt9_4 y9_4
  have hL := hO.apart
  have hX := hO.apartX
  have HL := Lib.hid hL
  have HX := Lib.hid hX
  clear hL hX
  have hP9 := hO.pick [0, 2] (by decide)
  have T9 := zenO nd4 (((newPar nd5 nd6).setIfInBounds 106 (.slice (some ⟨nd13, 0, none⟩) 1 (1 + nd14))).setIfInBounds 106 (.slice (some ⟨nd10, 0, none⟩) 2 (2 + nd11))) nd8 #[.string ⟨#[67]⟩, .int .u8 3, .pointer (some ⟨nd9, 0, none⟩), .int .i32 0, .nilIface, .int .i32 0, .int .i32 0, .int .u32 0, .int .u32 1, .pointer none, .int .u32 4294967295, .int .u32 4294967295, .slice none 0 0, .slice none 0 0, .slice none 0 0, .slice none 0 0, .int .i64 0, .nilIface, .int .i32 0, .slice none 0 0, .slice none 0 0, .slice none 0 0, .slice none 0 0, .slice none 0 0, .int .u32 4294967295, .int .u32 4294967295, .nilIface, .int .i32 0, .map none, .bool false, .bool false, .slice none 0 0, .slice none 0 0, .slice none 0 0, .slice none 0 0, .int .u32 4294967295, .int .u32 4294967295, .int .u32 4294967295, .int .u32 4294967295, .nilFunc, .nilFunc, .bool false] .nilFunc 0 _ _ _ hP9 (get_other (get_other (newPar_66 _ _) (by omega) _) (by omega) _) rfl hg0 hg1
  refine Calls.mono T9 ?_
  clear hP9 T9
  rintro e u16 ⟨nd17, nd18, nd19, rfl, hQ⟩
  have hN : Own w0 u16 [row (nd4) 176 (((newPar nd5 nd6).setIfInBounds 106 (.slice (some ⟨nd13, 0, none⟩) 1 (1 + nd14))).setIfInBounds 106 (.slice (some ⟨nd10, 0, none⟩) 2 (2 + nd11))), row (nd8) 191 #[.string ⟨#[67]⟩, .int .u8 3, .pointer (some ⟨nd9, 0, none⟩), .int .i32 0, .nilIface, .int .i32 0, .int .i32 0, .int .u32 0, .int .u32 1, .pointer none, .int .u32 4294967295, .int .u32 4294967295, .slice none 0 0, .slice none 0 0, .slice none 0 0, .slice none 0 0, .int .i64 0, .nilIface, .int .i32 0, .slice none 0 0, .slice none 0 0, .slice none 0 0, .slice none 0 0, .slice none 0 0, .int .u32 4294967295, .int .u32 4294967295, .nilIface, .int .i32 0, .map none, .bool false, .bool false, .slice none 0 0, .slice none 0 0, .slice none 0 0, .slice none 0 0, .int .u32 4294967295, .int .u32 4294967295, .int .u32 4294967295, .int .u32 4294967295, .func (Fn.func 19) #[] #[.pointer (some ⟨nd17, 0, none⟩), .pointer (some ⟨nd18, 0, none⟩), .pointer (some ⟨nd19, 0, none⟩)], .nilFunc, .bool false], row (nd17) 27 #[.pointer (some ⟨nd8, 0, none⟩)], row (nd18) 25 #[.pointer (some ⟨nd4, 0, none⟩)], row (nd19) 202 #[.pointer none, .int .u32 4294967295, .int .u32 4294967295, .int .u32 4294967295, .int .u32 4294967295, .bool false], row (nd10) 199 (full symZ (symL ([sy ⟨#[67]⟩ 0, sy ⟨#[100, 101, 102, 97, 117, 108, 116]⟩ 0])) nd11), row (nd9) 182 #[.slice none 0 0, .pointer (some ⟨nd12, 0, none⟩), .nilIface, .int .i32 0, .slice none 0 0, .int .i32 0, .int .i32 0, .int .i32 0, .int .i32 0, .bool false, .bool false], row (nd12) 51 #[.int .i32 0, .int .u32 0, .int .u32 0], row (nd2) 4 (bools B n)] X := hQ.back HL.out HX.out [1, 3, 4, 5] (by decide) (by decide)
  clear hQ HL HX hO
  have hO := hN
  clear hN
  have c9_1_0 : u16.cell? ⟨nd8, 0, none⟩ = some (.string ⟨#[67]⟩) := hO.cell 1 rfl (0) rfl
  have c9_1_6 : u16.cell? ⟨nd8, 6, none⟩ = some (.int .i32 0) := hO.cell 1 rfl (6) rfl
  have c9_1_7 : u16.cell? ⟨nd8, 7, none⟩ = some (.int .u32 0) := hO.cell 1 rfl (7) rfl
  have c9_1_8 : u16.cell? ⟨nd8, 8, none⟩ = some (.int .u32 1) := hO.cell 1 rfl (8) rfl
  have lt9_1 : nd8 < u16.heap.size := hO.lt 1 rfl
  have y9_1 : ∀ o, u16.frozen? ⟨nd8, o, none⟩ = false := hO.free 1 rfl
  obtain ⟨c9_2_0, lt9_2, y9_2, -⟩ := hO.k1 2 rfl
  obtain ⟨c9_3_0, lt9_3, y9_3, -⟩ := hO.k1 3 rfl
  obtain ⟨c9_4_0, c9_4_1, c9_4_2, c9_4_3, c9_4_4, c9_4_5, lt9_4, y9_4, -⟩ := hO.k6 4 rfl
  have c9_6_1 : u16.cell? ⟨nd9, 1, none⟩ = some (.pointer (some ⟨nd12, 0, none⟩)) := hO.cell 6 rfl (1) rfl
  have lt9_6 : nd9 < u16.heap.size := hO.lt 6 rfl
  have y9_6 : ∀ o, u16.frozen? ⟨nd9, o, none⟩ = false := hO.free 6 rfl
  obtain ⟨c9_7_0, c9_7_1, c9_7_2, lt9_7, y9_7, -⟩ := hO.k3 7 rfl
  have HO := Lib.hid hO
  clear hO
  go_wp2_with (first | (with_reducible refine Own.stay (fn := Tryd.f3) ?_) | (first | (go_at_call 9; go_in) | (go_at_call 5; go_in)))
  try with_reducible refine Own.Stay.mk ?_
  have hO := HO.out
  clear HO c9_1_0 c9_1_6 c9_1_7 c9_1_8 lt9_1 y9_1 c9_2_0 lt9_2 y9_2 c9_3_0 lt9_3 y9_3 c9_4_0 c9_4_1 c9_4_2 c9_4_3 c9_4_4 c9_4_5 lt9_4 y9_4 c9_6_1 lt9_6 y9_6 c9_7_0 c9_7_1 c9_7_2 lt9_7 y9_7
  have hN : Own w0 u16 [row (nd4) 176 (((newPar nd5 nd6).setIfInBounds 106 (.slice (some ⟨nd13, 0, none⟩) 1 (1 + nd14))).setIfInBounds 106 (.slice (some ⟨nd10, 0, none⟩) 2 (2 + nd11))), row (nd8) 191 #[.string ⟨#[67]⟩, .int .u8 3, .pointer (some ⟨nd9, 0, none⟩), .int .i32 0, .nilIface, .int .i32 0, .int .i32 0, .int .u32 0, .int .u32 1, .pointer none, .int .u32 4294967295, .int .u32 4294967295, .slice none 0 0, .slice none 0 0, .slice none 0 0, .slice none 0 0, .int .i64 0, .nilIface, .int .i32 0, .slice none 0 0, .slice none 0 0, .slice none 0 0, .slice none 0 0, .slice none 0 0, .int .u32 4294967295, .int .u32 4294967295, .nilIface, .int .i32 0, .map none, .bool false, .bool false, .slice none 0 0, .slice none 0 0, .slice none 0 0, .slice none 0 0, .int .u32 4294967295, .int .u32 4294967295, .int .u32 4294967295, .int .u32 4294967295, .func (Fn.func 19) #[] #[.pointer (some ⟨nd17, 0, none⟩), .pointer (some ⟨nd18, 0, none⟩), .pointer (some ⟨nd19, 0, none⟩)], .nilFunc, .bool false], row (nd10) 199 (full symZ (symL ([sy ⟨#[67]⟩ 0, sy ⟨#[100, 101, 102, 97, 117, 108, 116]⟩ 0])) nd11), row (nd9) 182 #[.slice none 0 0, .pointer (some ⟨nd12, 0, none⟩), .nilIface, .int .i32 0, .slice none 0 0, .int .i32 0, .int .i32 0, .int .i32 0, .int .i32 0, .bool false, .bool false], row (nd12) 51 #[.int .i32 0, .int .u32 0, .int .u32 0], row (nd2) 4 (bools B n), row (nd17) 27 #[.pointer (some ⟨nd8, 0, none⟩)], row (nd18) 25 #[.pointer (some ⟨nd4, 0, none⟩)], row (nd19) 202 #[.pointer none, .int .u32 4294967295, .int .u32 4294967295, .int .u32 4294967295, .int .u32 4294967295, .bool false]] X := hO.sub [0, 1, 5, 6, 7, 8, 2, 3, 4] (by decide)
  clear hO
  have hO := hN
  clear hN
  go_loopg [13, 14, 15, 16] n (fun gf s13 s14 s15 s16 wx => ∃ j : Nat, s16 = .int .i64 (j : Int) ∧ j + gf = n ∧ ((s13 = .int .u32 0 ∧ s14 = .bool false ∧ s15 = .int .i64 0 ∧ ∃ qa9 qb9 qc9 : Nat, Own w0 wx [row (nd4) 176 (((newPar nd5 nd6).setIfInBounds 106 (.slice (some ⟨nd13, 0, none⟩) 1 (1 + nd14))).setIfInBounds 106 (.slice (some ⟨nd10, 0, none⟩) 2 (2 + nd11))), row (nd8) 191 #[.string ⟨#[67]⟩, .int .u8 3, .pointer (some ⟨nd9, 0, none⟩), .int .i32 0, .nilIface, .int .i32 0, .int .i32 0, .int .u32 0, .int .u32 1, .pointer none, .int .u32 4294967295, .int .u32 4294967295, .slice none 0 0, .slice none 0 0, .slice none 0 0, .slice none 0 0, .int .i64 0, .nilIface, .int .i32 0, .slice none 0 0, .slice none 0 0, .slice none 0 0, .slice none 0 0, .slice none 0 0, .int .u32 4294967295, .int .u32 4294967295, .nilIface, .int .i32 0, .map none, .bool false, .bool false, .slice none 0 0, .slice none 0 0, .slice none 0 0, .slice none 0 0, .int .u32 4294967295, .int .u32 4294967295, .int .u32 4294967295, .int .u32 4294967295, .func (Fn.func 19) #[] #[.pointer (some ⟨qa9, 0, none⟩), .pointer (some ⟨qb9, 0, none⟩), .pointer (some ⟨qc9, 0, none⟩)], .nilFunc, .bool false], row (nd10) 199 (full symZ (symL [sy ⟨#[67]⟩ 0, sy ⟨#[100, 101, 102, 97, 117, 108, 116]⟩ 0]) nd11), row (nd9) 182 #[.slice none 0 0, .pointer (some ⟨nd12, 0, none⟩), .nilIface, .int .i32 0, .slice none 0 0, .int .i32 0, .int .i32 0, .int .i32 0, .int .i32 0, .bool false, .bool false], row (nd12) 51 #[.int .i32 0, .int .u32 0, .int .u32 0], row (nd2) 4 (bools B n), row (qa9) 27 #[.pointer (some ⟨nd8, 0, none⟩)], row (qb9) 25 #[.pointer (some ⟨nd4, 0, none⟩)], row (qc9) 202 #[.pointer none, .int .u32 4294967295, .int .u32 4294967295, .int .u32 4294967295, .int .u32 4294967295, .bool false]] X) ∨ ∃ (m : Nat) (qa9 qb9 qc9 : Nat), m < j ∧ s13 = .int .u32 0 ∧ s14 = .bool true ∧ s15 = .int .i64 ((m : Int) + 1) ∧ Own w0 wx [row (nd4) 176 (((newPar nd5 nd6).setIfInBounds 106 (.slice (some ⟨nd13, 0, none⟩) 1 (1 + nd14))).setIfInBounds 106 (.slice (some ⟨nd10, 0, none⟩) 2 (2 + nd11))), row (nd8) 191 #[.string ⟨#[67]⟩, .int .u8 3, .pointer (some ⟨nd9, 0, none⟩), .int .i32 0, .nilIface, .int .i32 0, .int .i32 0, .int .u32 0, .int .u32 1, .pointer none, .int .u32 4294967295, .int .u32 4294967295, .slice none 0 0, .slice none 0 0, .slice none 0 0, .slice none 0 0, .int .i64 0, .nilIface, .int .i32 0, .slice none 0 0, .slice none 0 0, .slice none 0 0, .slice none 0 0, .slice none 0 0, .int .u32 4294967295, .int .u32 4294967295, .nilIface, .int .i32 0, .map none, .bool false, .bool false, .slice none 0 0, .slice none 0 0, .slice none 0 0, .slice none 0 0, .int .u32 4294967295, .int .u32 4294967295, .int .u32 4294967295, .int .u32 4294967295, .func (Fn.func 19) #[] #[.pointer (some ⟨qa9, 0, none⟩), .pointer (some ⟨qb9, 0, none⟩), .pointer (some ⟨qc9, 0, none⟩)], .nilFunc, .bool false], row (nd10) 199 (full symZ (symL [sy ⟨#[67]⟩ ((m + 1)), sy ⟨#[100, 101, 102, 97, 117, 108, 116]⟩ 0]) nd11), row (nd9) 182 #[.slice none 0 0, .pointer (some ⟨nd12, 0, none⟩), .nilIface, .int .i32 0, .slice none 0 0, .int .i32 0, .int .i32 0, .int .i32 0, .int .i32 0, .bool false, .bool false], row (nd12) 51 #[.int .i32 0, .int .u32 0, .int .u32 0], row (nd2) 4 (bools B n), row (qa9) 27 #[.pointer (some ⟨nd8, 0, none⟩)], row (qb9) 25 #[.pointer (some ⟨nd4, 0, none⟩)], row (qc9) 202 #[.pointer none, .int .u32 4294967295, .int .u32 4294967295, .int .u32 4294967295, .int .u32 4294967295, .bool false]] X))
  case atStart => exact ⟨0, rfl, by omega, Or.inl ⟨rfl, rfl, rfl, nd17, nd18, nd19, hO⟩⟩
  obtain ⟨j, rfl, hj, hcase⟩ := hrel
  obtain ⟨rfl, rfl, rfl, qa9, qb9, qc9, hO⟩ | ⟨m, qa9, qb9, qc9, hm, rfl, rfl, rfl, hO⟩ := hcase
  · skip
    by_cases hlt : j < n
    · skip
      obtain ⟨gq, rfl⟩ : ∃ gq, gk = gq + 1 := ⟨gk - 1, by omega⟩
      have hlt9 : (j : Int) < n := by omega
      cases hbj : B j
      · skip
        obtain ⟨ix9, hix9, hax9, hjx9⟩ := hO.ix
        have ix9_0 : ix9 nd4 = 0 := hjx9 0 _ _ rfl
        have ix9_1 : ix9 nd8 = 1 := hjx9 1 _ _ rfl
        have ix9_2 : ix9 nd10 = 2 := hjx9 2 _ _ rfl
        have ix9_3 : ix9 nd9 = 3 := hjx9 3 _ _ rfl
        have ix9_4 : ix9 nd12 = 4 := hjx9 4 _ _ rfl
        have ix9_5 : ix9 nd2 = 5 := hjx9 5 _ _ rfl
        have ix9_6 : ix9 qa9 = 6 := hjx9 6 _ _ rfl
        have ix9_7 : ix9 qb9 = 7 := hjx9 7 _ _ rfl
        have ix9_8 : ix9 qc9 = 8 := hjx9 8 _ _ rfl
        clear hjx9
        have c9_0_32 : wr.cell? ⟨nd4, 32, none⟩ = some (.bool false) := hO.cell 0 rfl (32) ((get_other (get_other (newPar_32 _ _) (by omega) _) (by omega) _))
        have c9_0_66 : wr.cell? ⟨nd4, 66, none⟩ = some (.int .u32 0) := hO.cell 0 rfl (66) ((get_other (get_other (newPar_66 _ _) (by omega) _) (by omega) _))
        have c9_0_105 : wr.cell? ⟨nd4, 105, none⟩ = some (.pointer none) := hO.cell 0 rfl (105) ((get_other (get_other (newPar_105 _ _) (by omega) _) (by omega) _))
        have c9_0_106 : wr.cell? ⟨nd4, 106, none⟩ = some (.slice (some ⟨nd10, 0, none⟩) 2 (2 + nd11)) := hO.cell 0 rfl (106) ((get_set (get_set (newPar_106 _ _) _) _))
        have c9_0_350 : wr.cell? ⟨nd4, 350, none⟩ = some (.bool false) := hO.cell 0 rfl (350) ((get_other (get_other (newPar_350 _ _) (by omega) _) (by omega) _))
        have lt9_0 : nd4 < wr.heap.size := hO.lt 0 rfl
        have y9_0 : ∀ o, wr.frozen? ⟨nd4, o, none⟩ = false := hO.free 0 rfl
        have c9_1_0 : wr.cell? ⟨nd8, 0, none⟩ = some (.string ⟨#[67]⟩) := hO.cell 1 rfl (0) rfl
        have c9_1_6 : wr.cell? ⟨nd8, 6, none⟩ = some (.int .i32 0) := hO.cell 1 rfl (6) rfl
        have c9_1_7 : wr.cell? ⟨nd8, 7, none⟩ = some (.int .u32 0) := hO.cell 1 rfl (7) rfl
        have c9_1_8 : wr.cell? ⟨nd8, 8, none⟩ = some (.int .u32 1) := hO.cell 1 rfl (8) rfl
        have lt9_1 : nd8 < wr.heap.size := hO.lt 1 rfl
        have y9_1 : ∀ o, wr.frozen? ⟨nd8, o, none⟩ = false := hO.free 1 rfl
        have c9_2_1 : wr.cell? ⟨nd10, 1, none⟩ = some (.string ⟨#[67]⟩) := hO.cell 2 rfl (1) ((full_at rfl))
        have c9_2_4 : wr.cell? ⟨nd10, 4, none⟩ = some (.int .u32 0) := hO.cell 2 rfl (4) ((full_at rfl))
        have c9_2_11 : wr.cell? ⟨nd10, 11, none⟩ = some (.string ⟨#[100, 101, 102, 97, 117, 108, 116]⟩) := hO.cell 2 rfl (11) ((full_at rfl))
        have c9_2_14 : wr.cell? ⟨nd10, 14, none⟩ = some (.int .u32 0) := hO.cell 2 rfl (14) ((full_at rfl))
        have lt9_2 : nd10 < wr.heap.size := hO.lt 2 rfl
        have y9_2 : ∀ o, wr.frozen? ⟨nd10, o, none⟩ = false := hO.free 2 rfl
        have c9_3_1 : wr.cell? ⟨nd9, 1, none⟩ = some (.pointer (some ⟨nd12, 0, none⟩)) := hO.cell 3 rfl (1) rfl
        have lt9_3 : nd9 < wr.heap.size := hO.lt 3 rfl
        have y9_3 : ∀ o, wr.frozen? ⟨nd9, o, none⟩ = false := hO.free 3 rfl
        obtain ⟨c9_4_0, c9_4_1, c9_4_2, lt9_4, y9_4, -⟩ := hO.k3 4 rfl
        have c9_5_j : wr.cell? ⟨nd2, j, none⟩ = some (.bool false) := hO.cell 5 rfl (j) (((bools_at B n j hlt).trans (by rw [hbj])))
        have lt9_5 : nd2 < wr.heap.size := hO.lt 5 rfl
        have y9_5 : ∀ o, wr.frozen? ⟨nd2, o, none⟩ = false := hO.free 5 rfl
        obtain ⟨c9_6_0, lt9_6, y9_6, -⟩ := hO.k1 6 rfl
        obtain ⟨c9_7_0, lt9_7, y9_7, -⟩ := hO.k1 7 rfl
        obtain ⟨c9_8_0, c9_8_1, c9_8_2, c9_8_3, c9_8_4, c9_8_5, lt9_8, y9_8, -⟩ := hO.k6 8 rfl
        have HO := Lib.hid hO
        clear hO
        go_wp2_with (first | (with_reducible refine Own.stay (fn := Tryd.f3) ?_) | (first | (go_at_call 9; go_in) | (go_at_call 5; go_in)))
        try with_reducible refine Own.Stay.mk ?_
        have hO := HO.out
        clear HO hix9 hax9 ix9_0 ix9_1 ix9_2 ix9_3 ix9_4 ix9_5 ix9_6 ix9_7 ix9_8 ix9 c9_0_32 c9_0_66 c9_0_105 c9_0_106 c9_0_350 lt9_0 y9_0 c9_1_0 c9_1_6 c9_1_7 c9_1_8 lt9_1 y9_1 c9_2_1 c9_2_4 c9_2_11 c9_2_14 lt9_2 y9_2 c9_3_1 lt9_3 y9_3 c9_4_0 c9_4_1 c9_4_2 lt9_4 y9_4 c9_5_j lt9_5 y9_5 c9_6_0 lt9_6 y9_6 c9_7_0 lt9_7 y9_7 c9_8_0 c9_8_1 c9_8_2 c9_8_3 c9_8_4 c9_8_5 lt9_8 y9_8
        have hL := hO.apart
        have hX := hO.apartX
        have HL := Lib.hid hL
        have HX := Lib.hid hX
        clear hL hX
        have hP9 := hO.pick [0, 1] (by decide)
        have T9 := zenO nd4 (((newPar nd5 nd6).setIfInBounds 106 (.slice (some ⟨nd13, 0, none⟩) 1 (1 + nd14))).setIfInBounds 106 (.slice (some ⟨nd10, 0, none⟩) 2 (2 + nd11))) nd8 #[.string ⟨#[67]⟩, .int .u8 3, .pointer (some ⟨nd9, 0, none⟩), .int .i32 0, .nilIface, .int .i32 0, .int .i32 0, .int .u32 0, .int .u32 1, .pointer none, .int .u32 4294967295, .int .u32 4294967295, .slice none 0 0, .slice none 0 0, .slice none 0 0, .slice none 0 0, .int .i64 0, .nilIface, .int .i32 0, .slice none 0 0, .slice none 0 0, .slice none 0 0, .slice none 0 0, .slice none 0 0, .int .u32 4294967295, .int .u32 4294967295, .nilIface, .int .i32 0, .map none, .bool false, .bool false, .slice none 0 0, .slice none 0 0, .slice none 0 0, .slice none 0 0, .int .u32 4294967295, .int .u32 4294967295, .int .u32 4294967295, .int .u32 4294967295, .func (Fn.func 19) #[] #[.pointer (some ⟨qa9, 0, none⟩), .pointer (some ⟨qb9, 0, none⟩), .pointer (some ⟨qc9, 0, none⟩)], .nilFunc, .bool false] (.func (Fn.func 19) #[] #[.pointer (some ⟨qa9, 0, none⟩), .pointer (some ⟨qb9, 0, none⟩), .pointer (some ⟨qc9, 0, none⟩)]) 0 _ _ _ hP9 (get_other (get_other (newPar_66 _ _) (by omega) _) (by omega) _) rfl hg0 hg1
        refine Calls.mono T9 ?_
        clear hP9 T9
        rintro e u20 ⟨nd21, nd22, nd23, rfl, hQ⟩
        have hN : Own w0 u20 [row (nd4) 176 (((newPar nd5 nd6).setIfInBounds 106 (.slice (some ⟨nd13, 0, none⟩) 1 (1 + nd14))).setIfInBounds 106 (.slice (some ⟨nd10, 0, none⟩) 2 (2 + nd11))), row (nd8) 191 #[.string ⟨#[67]⟩, .int .u8 3, .pointer (some ⟨nd9, 0, none⟩), .int .i32 0, .nilIface, .int .i32 0, .int .i32 0, .int .u32 0, .int .u32 1, .pointer none, .int .u32 4294967295, .int .u32 4294967295, .slice none 0 0, .slice none 0 0, .slice none 0 0, .slice none 0 0, .int .i64 0, .nilIface, .int .i32 0, .slice none 0 0, .slice none 0 0, .slice none 0 0, .slice none 0 0, .slice none 0 0, .int .u32 4294967295, .int .u32 4294967295, .nilIface, .int .i32 0, .map none, .bool false, .bool false, .slice none 0 0, .slice none 0 0, .slice none 0 0, .slice none 0 0, .int .u32 4294967295, .int .u32 4294967295, .int .u32 4294967295, .int .u32 4294967295, .func (Fn.func 19) #[] #[.pointer (some ⟨nd21, 0, none⟩), .pointer (some ⟨nd22, 0, none⟩), .pointer (some ⟨nd23, 0, none⟩)], .nilFunc, .bool false], row (nd21) 27 #[.pointer (some ⟨nd8, 0, none⟩)], row (nd22) 25 #[.pointer (some ⟨nd4, 0, none⟩)], row (nd23) 202 #[.pointer none, .int .u32 4294967295, .int .u32 4294967295, .int .u32 4294967295, .int .u32 4294967295, .bool false], row (nd10) 199 (full symZ (symL ([sy ⟨#[67]⟩ 0, sy ⟨#[100, 101, 102, 97, 117, 108, 116]⟩ 0])) nd11), row (nd9) 182 #[.slice none 0 0, .pointer (some ⟨nd12, 0, none⟩), .nilIface, .int .i32 0, .slice none 0 0, .int .i32 0, .int .i32 0, .int .i32 0, .int .i32 0, .bool false, .bool false], row (nd12) 51 #[.int .i32 0, .int .u32 0, .int .u32 0], row (nd2) 4 (bools B n), row (qa9) 27 #[.pointer (some ⟨nd8, 0, none⟩)], row (qb9) 25 #[.pointer (some ⟨nd4, 0, none⟩)], row (qc9) 202 #[.pointer none, .int .u32 4294967295, .int .u32 4294967295, .int .u32 4294967295, .int .u32 4294967295, .bool false]] X := hQ.back HL.out HX.out [2, 3, 4, 5, 6, 7, 8] (by decide) (by decide)
        clear hQ HL HX hO
        have hO := hN
        clear hN
        have c9_1_0 : u20.cell? ⟨nd8, 0, none⟩ = some (.string ⟨#[67]⟩) := hO.cell 1 rfl (0) rfl
        have c9_1_6 : u20.cell? ⟨nd8, 6, none⟩ = some (.int .i32 0) := hO.cell 1 rfl (6) rfl
        have c9_1_7 : u20.cell? ⟨nd8, 7, none⟩ = some (.int .u32 0) := hO.cell 1 rfl (7) rfl
        have c9_1_8 : u20.cell? ⟨nd8, 8, none⟩ = some (.int .u32 1) := hO.cell 1 rfl (8) rfl
        have lt9_1 : nd8 < u20.heap.size := hO.lt 1 rfl
        have y9_1 : ∀ o, u20.frozen? ⟨nd8, o, none⟩ = false := hO.free 1 rfl
        obtain ⟨c9_2_0, lt9_2, y9_2, -⟩ := hO.k1 2 rfl
        obtain ⟨c9_3_0, lt9_3, y9_3, -⟩ := hO.k1 3 rfl
        obtain ⟨c9_4_0, c9_4_1, c9_4_2, c9_4_3, c9_4_4, c9_4_5, lt9_4, y9_4, -⟩ := hO.k6 4 rfl
        have c9_6_1 : u20.cell? ⟨nd9, 1, none⟩ = some (.pointer (some ⟨nd12, 0, none⟩)) := hO.cell 6 rfl (1) rfl
        have lt9_6 : nd9 < u20.heap.size := hO.lt 6 rfl
        have y9_6 : ∀ o, u20.frozen? ⟨nd9, o, none⟩ = false := hO.free 6 rfl
        obtain ⟨c9_7_0, c9_7_1, c9_7_2, lt9_7, y9_7, -⟩ := hO.k3 7 rfl
        obtain ⟨c9_9_0, lt9_9, y9_9, -⟩ := hO.k1 9 rfl
        obtain ⟨c9_10_0, lt9_10, y9_10, -⟩ := hO.k1 10 rfl
        obtain ⟨c9_11_0, c9_11_1, c9_11_2, c9_11_3, c9_11_4, c9_11_5, lt9_11, y9_11, -⟩ := hO.k6 11 rfl
        have HO := Lib.hid hO
        clear hO
        go_wp2_with (first | (with_reducible refine Own.stay (fn := Tryd.f3) ?_) | (first | (go_at_call 9; go_in) | (go_at_call 5; go_in)))
        try with_reducible refine Own.Stay.mk ?_
        have hO := HO.out
        clear HO c9_1_0 c9_1_6 c9_1_7 c9_1_8 lt9_1 y9_1 c9_2_0 lt9_2 y9_2 c9_3_0 lt9_3 y9_3 c9_4_0 c9_4_1 c9_4_2 c9_4_3 c9_4_4 c9_4_5 lt9_4 y9_4 c9_6_1 lt9_6 y9_6 c9_7_0 c9_7_1 c9_7_2 lt9_7 y9_7 c9_9_0 lt9_9 y9_9 c9_10_0 lt9_10 y9_10 c9_11_0 c9_11_1 c9_11_2 c9_11_3 c9_11_4 c9_11_5 lt9_11 y9_11
        have hN : Own w0 u20 [row (nd4) 176 (((newPar nd5 nd6).setIfInBounds 106 (.slice (some ⟨nd13, 0, none⟩) 1 (1 + nd14))).setIfInBounds 106 (.slice (some ⟨nd10, 0, none⟩) 2 (2 + nd11))), row (nd8) 191 #[.string ⟨#[67]⟩, .int .u8 3, .pointer (some ⟨nd9, 0, none⟩), .int .i32 0, .nilIface, .int .i32 0, .int .i32 0, .int .u32 0, .int .u32 1, .pointer none, .int .u32 4294967295, .int .u32 4294967295, .slice none 0 0, .slice none 0 0, .slice none 0 0, .slice none 0 0, .int .i64 0, .nilIface, .int .i32 0, .slice none 0 0, .slice none 0 0, .slice none 0 0, .slice none 0 0, .slice none 0 0, .int .u32 4294967295, .int .u32 4294967295, .nilIface, .int .i32 0, .map none, .bool false, .bool false, .slice none 0 0, .slice none 0 0, .slice none 0 0, .slice none 0 0, .int .u32 4294967295, .int .u32 4294967295, .int .u32 4294967295, .int .u32 4294967295, .func (Fn.func 19) #[] #[.pointer (some ⟨nd21, 0, none⟩), .pointer (some ⟨nd22, 0, none⟩), .pointer (some ⟨nd23, 0, none⟩)], .nilFunc, .bool false], row (nd10) 199 (full symZ (symL ([sy ⟨#[67]⟩ 0, sy ⟨#[100, 101, 102, 97, 117, 108, 116]⟩ 0])) nd11), row (nd9) 182 #[.slice none 0 0, .pointer (some ⟨nd12, 0, none⟩), .nilIface, .int .i32 0, .slice none 0 0, .int .i32 0, .int .i32 0, .int .i32 0, .int .i32 0, .bool false, .bool false], row (nd12) 51 #[.int .i32 0, .int .u32 0, .int .u32 0], row (nd2) 4 (bools B n), row (nd21) 27 #[.pointer (some ⟨nd8, 0, none⟩)], row (nd22) 25 #[.pointer (some ⟨nd4, 0, none⟩)], row (nd23) 202 #[.pointer none, .int .u32 4294967295, .int .u32 4294967295, .int .u32 4294967295, .int .u32 4294967295, .bool false]] X := hO.sub [0, 1, 5, 6, 7, 8, 2, 3, 4] (by decide)
        clear hO
        have hO := hN
        clear hN
        go_roundg gq
        case measure => omega
        case rel => exact ⟨j + 1, by simp, by omega, Or.inl ⟨rfl, rfl, rfl, nd21, nd22, nd23, hO⟩⟩
      · skip
        obtain ⟨ix9, hix9, hax9, hjx9⟩ := hO.ix
        have ix9_0 : ix9 nd4 = 0 := hjx9 0 _ _ rfl
        have ix9_1 : ix9 nd8 = 1 := hjx9 1 _ _ rfl
        have ix9_2 : ix9 nd10 = 2 := hjx9 2 _ _ rfl
        have ix9_3 : ix9 nd9 = 3 := hjx9 3 _ _ rfl
        have ix9_4 : ix9 nd12 = 4 := hjx9 4 _ _ rfl
        have ix9_5 : ix9 nd2 = 5 := hjx9 5 _ _ rfl
        have ix9_6 : ix9 qa9 = 6 := hjx9 6 _ _ rfl
        have ix9_7 : ix9 qb9 = 7 := hjx9 7 _ _ rfl
        have ix9_8 : ix9 qc9 = 8 := hjx9 8 _ _ rfl
        clear hjx9
        have c9_0_32 : wr.cell? ⟨nd4, 32, none⟩ = some (.bool false) := hO.cell 0 rfl (32) ((get_other (get_other (newPar_32 _ _) (by omega) _) (by omega) _))
        have c9_0_66 : wr.cell? ⟨nd4, 66, none⟩ = some (.int .u32 0) := hO.cell 0 rfl (66) ((get_other (get_other (newPar_66 _ _) (by omega) _) (by omega) _))
        have c9_0_105 : wr.cell? ⟨nd4, 105, none⟩ = some (.pointer none) := hO.cell 0 rfl (105) ((get_other (get_other (newPar_105 _ _) (by omega) _) (by omega) _))
        have c9_0_106 : wr.cell? ⟨nd4, 106, none⟩ = some (.slice (some ⟨nd10, 0, none⟩) 2 (2 + nd11)) := hO.cell 0 rfl (106) ((get_set (get_set (newPar_106 _ _) _) _))
        have c9_0_350 : wr.cell? ⟨nd4, 350, none⟩ = some (.bool false) := hO.cell 0 rfl (350) ((get_other (get_other (newPar_350 _ _) (by omega) _) (by omega) _))
        have lt9_0 : nd4 < wr.heap.size := hO.lt 0 rfl
        have y9_0 : ∀ o, wr.frozen? ⟨nd4, o, none⟩ = false := hO.free 0 rfl
        have c9_1_0 : wr.cell? ⟨nd8, 0, none⟩ = some (.string ⟨#[67]⟩) := hO.cell 1 rfl (0) rfl
        have c9_1_6 : wr.cell? ⟨nd8, 6, none⟩ = some (.int .i32 0) := hO.cell 1 rfl (6) rfl
        have c9_1_7 : wr.cell? ⟨nd8, 7, none⟩ = some (.int .u32 0) := hO.cell 1 rfl (7) rfl
        have c9_1_8 : wr.cell? ⟨nd8, 8, none⟩ = some (.int .u32 1) := hO.cell 1 rfl (8) rfl
        have lt9_1 : nd8 < wr.heap.size := hO.lt 1 rfl
        have y9_1 : ∀ o, wr.frozen? ⟨nd8, o, none⟩ = false := hO.free 1 rfl
        have c9_2_1 : wr.cell? ⟨nd10, 1, none⟩ = some (.string ⟨#[67]⟩) := hO.cell 2 rfl (1) ((full_at rfl))
        have c9_2_4 : wr.cell? ⟨nd10, 4, none⟩ = some (.int .u32 0) := hO.cell 2 rfl (4) ((full_at rfl))
        have c9_2_11 : wr.cell? ⟨nd10, 11, none⟩ = some (.string ⟨#[100, 101, 102, 97, 117, 108, 116]⟩) := hO.cell 2 rfl (11) ((full_at rfl))
        have c9_2_14 : wr.cell? ⟨nd10, 14, none⟩ = some (.int .u32 0) := hO.cell 2 rfl (14) ((full_at rfl))
        have lt9_2 : nd10 < wr.heap.size := hO.lt 2 rfl
        have y9_2 : ∀ o, wr.frozen? ⟨nd10, o, none⟩ = false := hO.free 2 rfl
        have c9_3_1 : wr.cell? ⟨nd9, 1, none⟩ = some (.pointer (some ⟨nd12, 0, none⟩)) := hO.cell 3 rfl (1) rfl
        have lt9_3 : nd9 < wr.heap.size := hO.lt 3 rfl
        have y9_3 : ∀ o, wr.frozen? ⟨nd9, o, none⟩ = false := hO.free 3 rfl
        obtain ⟨c9_4_0, c9_4_1, c9_4_2, lt9_4, y9_4, -⟩ := hO.k3 4 rfl
        have c9_5_j : wr.cell? ⟨nd2, j, none⟩ = some (.bool true) := hO.cell 5 rfl (j) (((bools_at B n j hlt).trans (by rw [hbj])))
        have lt9_5 : nd2 < wr.heap.size := hO.lt 5 rfl
        have y9_5 : ∀ o, wr.frozen? ⟨nd2, o, none⟩ = false := hO.free 5 rfl
        obtain ⟨c9_6_0, lt9_6, y9_6, -⟩ := hO.k1 6 rfl
        obtain ⟨c9_7_0, lt9_7, y9_7, -⟩ := hO.k1 7 rfl
        obtain ⟨c9_8_0, c9_8_1, c9_8_2, c9_8_3, c9_8_4, c9_8_5, lt9_8, y9_8, -⟩ := hO.k6 8 rfl
        have HO := Lib.hid hO
        clear hO
        go_wp2_with (first | (with_reducible refine Own.stay (fn := Tryd.f3) ?_) | (first | (go_at_call 9; go_in) | (go_at_call 5; go_in)))
        try with_reducible refine Own.Stay.mk ?_
        have hO := HO.out
        clear HO hix9 hax9 ix9_0 ix9_1 ix9_2 ix9_3 ix9_4 ix9_5 ix9_6 ix9_7 ix9_8 ix9 c9_0_32 c9_0_66 c9_0_105 c9_0_106 c9_0_350 lt9_0 y9_0 c9_1_0 c9_1_6 c9_1_7 c9_1_8 lt9_1 y9_1 c9_2_1 c9_2_4 c9_2_11 c9_2_14 lt9_2 y9_2 c9_3_1 lt9_3 y9_3 c9_4_0 c9_4_1 c9_4_2 lt9_4 y9_4 c9_5_j lt9_5 y9_5 c9_6_0 lt9_6 y9_6 c9_7_0 lt9_7 y9_7 c9_8_0 c9_8_1 c9_8_2 c9_8_3 c9_8_4 c9_8_5 lt9_8 y9_8
        have hL := hO.apart
        have hX := hO.apartX
        have HL := Lib.hid hL
        have HX := Lib.hid hX
        clear hL hX
        have hP9 := hO.pick [0, 2, 1, 3, 4, 6, 7, 8] (by decide)
        have h9_hn : ([sy ⟨#[67]⟩ 0, sy ⟨#[100, 101, 102, 97, 117, 108, 116]⟩ 0]).length = 2 := rfl
        have h9_hnb : 2 ≤ 4000000 := (by decide)
        have h9_hu : ∃ s, ([sy ⟨#[67]⟩ 0, sy ⟨#[100, 101, 102, 97, 117, 108, 116]⟩ 0])[0]? = some s ∧ s.uc < 4294967295 := ⟨sy _ 0, rfl, (by show 0 < _; omega)⟩
        have h9_hk0 : (3 == 0) = false := (by first | assumption | omega | (simp; done) | (simp; omega))
        have T9 := nfrO nd4 (((newPar nd5 nd6).setIfInBounds 106 (.slice (some ⟨nd13, 0, none⟩) 1 (1 + nd14))).setIfInBounds 106 (.slice (some ⟨nd10, 0, none⟩) 2 (2 + nd11))) nd10 nd11 ([sy ⟨#[67]⟩ 0, sy ⟨#[100, 101, 102, 97, 117, 108, 116]⟩ 0]) 2 nd8 #[.string ⟨#[67]⟩, .int .u8 3, .pointer (some ⟨nd9, 0, none⟩), .int .i32 0, .nilIface, .int .i32 0, .int .i32 0, .int .u32 0, .int .u32 1, .pointer none, .int .u32 4294967295, .int .u32 4294967295, .slice none 0 0, .slice none 0 0, .slice none 0 0, .slice none 0 0, .int .i64 0, .nilIface, .int .i32 0, .slice none 0 0, .slice none 0 0, .slice none 0 0, .slice none 0 0, .slice none 0 0, .int .u32 4294967295, .int .u32 4294967295, .nilIface, .int .i32 0, .map none, .bool false, .bool false, .slice none 0 0, .slice none 0 0, .slice none 0 0, .slice none 0 0, .int .u32 4294967295, .int .u32 4294967295, .int .u32 4294967295, .int .u32 4294967295, .func (Fn.func 19) #[] #[.pointer (some ⟨qa9, 0, none⟩), .pointer (some ⟨qb9, 0, none⟩), .pointer (some ⟨qc9, 0, none⟩)], .nilFunc, .bool false] nd9 #[.slice none 0 0, .pointer (some ⟨nd12, 0, none⟩), .nilIface, .int .i32 0, .slice none 0 0, .int .i32 0, .int .i32 0, .int .i32 0, .int .i32 0, .bool false, .bool false] nd12 qa9 qb9 qc9 3 0 _ _ _ hP9 (get_other (get_other (newPar_350 _ _) (by omega) _) (by omega) _) (get_other (get_other (newPar_32 _ _) (by omega) _) (by omega) _) (get_other (get_other (newPar_105 _ _) (by omega) _) (by omega) _) (get_set (get_set (newPar_106 _ _) _) _) h9_hn h9_hnb h9_hu rfl rfl h9_hk0 rfl hg0 hg1 rfl
        refine Calls.mono T9 ?_
        clear hP9 T9 h9_hn h9_hnb h9_hu h9_hk0
        rintro e u24 ⟨rfl, hQ⟩
        have hN : Own w0 u24 [row (nd4) 176 (((newPar nd5 nd6).setIfInBounds 106 (.slice (some ⟨nd13, 0, none⟩) 1 (1 + nd14))).setIfInBounds 106 (.slice (some ⟨nd10, 0, none⟩) 2 (2 + nd11))), row (nd10) 199 (full symZ (symL ([sy ⟨#[67]⟩ 1, sy ⟨#[100, 101, 102, 97, 117, 108, 116]⟩ 0])) nd11), row (nd8) 191 #[.string ⟨#[67]⟩, .int .u8 3, .pointer (some ⟨nd9, 0, none⟩), .int .i32 0, .nilIface, .int .i32 0, .int .i32 0, .int .u32 0, .int .u32 1, .pointer none, .int .u32 4294967295, .int .u32 4294967295, .slice none 0 0, .slice none 0 0, .slice none 0 0, .slice none 0 0, .int .i64 0, .nilIface, .int .i32 0, .slice none 0 0, .slice none 0 0, .slice none 0 0, .slice none 0 0, .slice none 0 0, .int .u32 4294967295, .int .u32 4294967295, .nilIface, .int .i32 0, .map none, .bool false, .bool false, .slice none 0 0, .slice none 0 0, .slice none 0 0, .slice none 0 0, .int .u32 4294967295, .int .u32 4294967295, .int .u32 4294967295, .int .u32 4294967295, .func (Fn.func 19) #[] #[.pointer (some ⟨qa9, 0, none⟩), .pointer (some ⟨qb9, 0, none⟩), .pointer (some ⟨qc9, 0, none⟩)], .nilFunc, .bool false], row (nd9) 182 #[.slice none 0 0, .pointer (some ⟨nd12, 0, none⟩), .nilIface, .int .i32 0, .slice none 0 0, .int .i32 0, .int .i32 0, .int .i32 0, .int .i32 0, .bool false, .bool false], row (nd12) 51 #[.int .i32 0, .int .u32 0, .int .u32 0], row (qa9) 27 #[.pointer (some ⟨nd8, 0, none⟩)], row (qb9) 25 #[.pointer (some ⟨nd4, 0, none⟩)], row (qc9) 202 #[.pointer none, .int .u32 4294967295, .int .u32 4294967295, .int .u32 4294967295, .int .u32 4294967295, .bool false], row (nd2) 4 (bools B n)] X := hQ.back HL.out HX.out [5] (by decide) (by decide)
        clear hQ HL HX hO
        have hO := hN
        clear hN
        have c9_2_0 : u24.cell? ⟨nd8, 0, none⟩ = some (.string ⟨#[67]⟩) := hO.cell 2 rfl (0) rfl
        have c9_2_6 : u24.cell? ⟨nd8, 6, none⟩ = some (.int .i32 0) := hO.cell 2 rfl (6) rfl
        have c9_2_7 : u24.cell? ⟨nd8, 7, none⟩ = some (.int .u32 0) := hO.cell 2 rfl (7) rfl
        have c9_2_8 : u24.cell? ⟨nd8, 8, none⟩ = some (.int .u32 1) := hO.cell 2 rfl (8) rfl
        have lt9_2 : nd8 < u24.heap.size := hO.lt 2 rfl
        have y9_2 : ∀ o, u24.frozen? ⟨nd8, o, none⟩ = false := hO.free 2 rfl
        have c9_3_1 : u24.cell? ⟨nd9, 1, none⟩ = some (.pointer (some ⟨nd12, 0, none⟩)) := hO.cell 3 rfl (1) rfl
        have lt9_3 : nd9 < u24.heap.size := hO.lt 3 rfl
        have y9_3 : ∀ o, u24.frozen? ⟨nd9, o, none⟩ = false := hO.free 3 rfl
        obtain ⟨c9_4_0, c9_4_1, c9_4_2, lt9_4, y9_4, -⟩ := hO.k3 4 rfl
        obtain ⟨c9_5_0, lt9_5, y9_5, -⟩ := hO.k1 5 rfl
        obtain ⟨c9_6_0, lt9_6, y9_6, -⟩ := hO.k1 6 rfl
        obtain ⟨c9_7_0, c9_7_1, c9_7_2, c9_7_3, c9_7_4, c9_7_5, lt9_7, y9_7, -⟩ := hO.k6 7 rfl
        have HO := Lib.hid hO
        clear hO
        go_wp2_with (first | (with_reducible refine Own.stay (fn := Tryd.f3) ?_) | (first | (go_at_call 9; go_in) | (go_at_call 5; go_in)))
        try with_reducible refine Own.Stay.mk ?_
        have hO := HO.out
        clear HO c9_2_0 c9_2_6 c9_2_7 c9_2_8 lt9_2 y9_2 c9_3_1 lt9_3 y9_3 c9_4_0 c9_4_1 c9_4_2 lt9_4 y9_4 c9_5_0 lt9_5 y9_5 c9_6_0 lt9_6 y9_6 c9_7_0 c9_7_1 c9_7_2 c9_7_3 c9_7_4 c9_7_5 lt9_7 y9_7
        have hN : Own w0 u24 [row (nd4) 176 (((newPar nd5 nd6).setIfInBounds 106 (.slice (some ⟨nd13, 0, none⟩) 1 (1 + nd14))).setIfInBounds 106 (.slice (some ⟨nd10, 0, none⟩) 2 (2 + nd11))), row (nd8) 191 #[.string ⟨#[67]⟩, .int .u8 3, .pointer (some ⟨nd9, 0, none⟩), .int .i32 0, .nilIface, .int .i32 0, .int .i32 0, .int .u32 0, .int .u32 1, .pointer none, .int .u32 4294967295, .int .u32 4294967295, .slice none 0 0, .slice none 0 0, .slice none 0 0, .slice none 0 0, .int .i64 0, .nilIface, .int .i32 0, .slice none 0 0, .slice none 0 0, .slice none 0 0, .slice none 0 0, .slice none 0 0, .int .u32 4294967295, .int .u32 4294967295, .nilIface, .int .i32 0, .map none, .bool false, .bool false, .slice none 0 0, .slice none 0 0, .slice none 0 0, .slice none 0 0, .int .u32 4294967295, .int .u32 4294967295, .int .u32 4294967295, .int .u32 4294967295, .func (Fn.func 19) #[] #[.pointer (some ⟨qa9, 0, none⟩), .pointer (some ⟨qb9, 0, none⟩), .pointer (some ⟨qc9, 0, none⟩)], .nilFunc, .bool false], row (nd10) 199 (full symZ (symL ([sy ⟨#[67]⟩ 1, sy ⟨#[100, 101, 102, 97, 117, 108, 116]⟩ 0])) nd11), row (nd9) 182 #[.slice none 0 0, .pointer (some ⟨nd12, 0, none⟩), .nilIface, .int .i32 0, .slice none 0 0, .int .i32 0, .int .i32 0, .int .i32 0, .int .i32 0, .bool false, .bool false], row (nd12) 51 #[.int .i32 0, .int .u32 0, .int .u32 0], row (nd2) 4 (bools B n), row (qa9) 27 #[.pointer (some ⟨nd8, 0, none⟩)], row (qb9) 25 #[.pointer (some ⟨nd4, 0, none⟩)], row (qc9) 202 #[.pointer none, .int .u32 4294967295, .int .u32 4294967295, .int .u32 4294967295, .int .u32 4294967295, .bool false]] X := hO.sub [0, 2, 1, 3, 4, 8, 5, 6, 7] (by decide)
        clear hO
        have hO := hN
        clear hN
        go_roundg gq
        case measure => omega
        case rel => exact ⟨j + 1, by simp, by omega, Or.inr ⟨0, qa9, qb9, qc9, by omega, rfl, rfl, by simp, hO⟩⟩
    obtain rfl : gk = 0 := by omega
    obtain rfl : j = n := by omega
    have hlt9 : ¬ (j : Int) < j := by omega
    have c9_1_0 : wr.cell? ⟨nd8, 0, none⟩ = some (.string ⟨#[67]⟩) := hO.cell 1 rfl (0) rfl
    have c9_1_6 : wr.cell? ⟨nd8, 6, none⟩ = some (.int .i32 0) := hO.cell 1 rfl (6) rfl
    have c9_1_7 : wr.cell? ⟨nd8, 7, none⟩ = some (.int .u32 0) := hO.cell 1 rfl (7) rfl
    have c9_1_8 : wr.cell? ⟨nd8, 8, none⟩ = some (.int .u32 1) := hO.cell 1 rfl (8) rfl
    have lt9_1 : nd8 < wr.heap.size := hO.lt 1 rfl
    have y9_1 : ∀ o, wr.frozen? ⟨nd8, o, none⟩ = false := hO.free 1 rfl
    have c9_3_1 : wr.cell? ⟨nd9, 1, none⟩ = some (.pointer (some ⟨nd12, 0, none⟩)) := hO.cell 3 rfl (1) rfl
    have lt9_3 : nd9 < wr.heap.size := hO.lt 3 rfl
    have y9_3 : ∀ o, wr.frozen? ⟨nd9, o, none⟩ = false := hO.free 3 rfl
    obtain ⟨c9_4_0, c9_4_1, c9_4_2, lt9_4, y9_4, -⟩ := hO.k3 4 rfl
    obtain ⟨c9_6_0, lt9_6, y9_6, -⟩ := hO.k1 6 rfl
    obtain ⟨c9_7_0, lt9_7, y9_7, -⟩ := hO.k1 7 rfl
    obtain ⟨c9_8_0, c9_8_1, c9_8_2, c9_8_3, c9_8_4, c9_8_5, lt9_8, y9_8, -⟩ := hO.k6 8 rfl
    have HO := Lib.hid hO
    clear hO
    go_wp2_with (first | (with_reducible refine Own.stay (fn := Tryd.f3) ?_) | (first | (go_at_call 9; go_in) | (go_at_call 5; go_in)))
    try with_reducible refine Own.Stay.mk ?_
    have hO := HO.out
    clear HO c9_1_0 c9_1_6 c9_1_7 c9_1_8 lt9_1 y9_1 c9_3_1 lt9_3 y9_3 c9_4_0 c9_4_1 c9_4_2 lt9_4 y9_4 c9_6_0 lt9_6 y9_6 c9_7_0 lt9_7 y9_7 c9_8_0 c9_8_1 c9_8_2 c9_8_3 c9_8_4 c9_8_5 lt9_8 y9_8
    have hL := hO.apart
    have hX := hO.apartX
    have HL := Lib.hid hL
    have HX := Lib.hid hX
    clear hL hX
    have hP9 := hO.pick [0] (by decide)
    have T9 := symCnt nd4 (((newPar nd5 nd6).setIfInBounds 106 (.slice (some ⟨nd13, 0, none⟩) 1 (1 + nd14))).setIfInBounds 106 (.slice (some ⟨nd10, 0, none⟩) 2 (2 + nd11))) nd10 nd11 2 _ _ _ hP9 (get_set (get_set (newPar_106 _ _) _) _)
    refine Calls.mono T9 ?_
    clear hP9 T9
    rintro e u25 ⟨rfl, hQ⟩
    have hN : Own w0 u25 [row (nd4) 176 (((newPar nd5 nd6).setIfInBounds 106 (.slice (some ⟨nd13, 0, none⟩) 1 (1 + nd14))).setIfInBounds 106 (.slice (some ⟨nd10, 0, none⟩) 2 (2 + nd11))), row (nd8) 191 #[.string ⟨#[67]⟩, .int .u8 3, .pointer (some ⟨nd9, 0, none⟩), .int .i32 0, .nilIface, .int .i32 0, .int .i32 0, .int .u32 0, .int .u32 1, .pointer none, .int .u32 4294967295, .int .u32 4294967295, .slice none 0 0, .slice none 0 0, .slice none 0 0, .slice none 0 0, .int .i64 0, .nilIface, .int .i32 0, .slice none 0 0, .slice none 0 0, .slice none 0 0, .slice none 0 0, .slice none 0 0, .int .u32 4294967295, .int .u32 4294967295, .nilIface, .int .i32 0, .map none, .bool false, .bool false, .slice none 0 0, .slice none 0 0, .slice none 0 0, .slice none 0 0, .int .u32 4294967295, .int .u32 4294967295, .int .u32 4294967295, .int .u32 4294967295, .func (Fn.func 19) #[] #[.pointer (some ⟨qa9, 0, none⟩), .pointer (some ⟨qb9, 0, none⟩), .pointer (some ⟨qc9, 0, none⟩)], .nilFunc, .bool false], row (nd10) 199 (full symZ (symL ([sy ⟨#[67]⟩ 0, sy ⟨#[100, 101, 102, 97, 117, 108, 116]⟩ 0])) nd11), row (nd9) 182 #[.slice none 0 0, .pointer (some ⟨nd12, 0, none⟩), .nilIface, .int .i32 0, .slice none 0 0, .int .i32 0, .int .i32 0, .int .i32 0, .int .i32 0, .bool false, .bool false], row (nd12) 51 #[.int .i32 0, .int .u32 0, .int .u32 0], row (nd2) 4 (bools B j), row (qa9) 27 #[.pointer (some ⟨nd8, 0, none⟩)], row (qb9) 25 #[.pointer (some ⟨nd4, 0, none⟩)], row (qc9) 202 #[.pointer none, .int .u32 4294967295, .int .u32 4294967295, .int .u32 4294967295, .int .u32 4294967295, .bool false]] X := hQ.back HL.out HX.out [1, 2, 3, 4, 5, 6, 7, 8] (by decide) (by decide)
    clear hQ HL HX hO
    have hO := hN
    clear hN
    have c9_1_0 : u25.cell? ⟨nd8, 0, none⟩ = some (.string ⟨#[67]⟩) := hO.cell 1 rfl (0) rfl
    have c9_1_6 : u25.cell? ⟨nd8, 6, none⟩ = some (.int .i32 0) := hO.cell 1 rfl (6) rfl
    have c9_1_7 : u25.cell? ⟨nd8, 7, none⟩ = some (.int .u32 0) := hO.cell 1 rfl (7) rfl
    have c9_1_8 : u25.cell? ⟨nd8, 8, none⟩ = some (.int .u32 1) := hO.cell 1 rfl (8) rfl
    have lt9_1 : nd8 < u25.heap.size := hO.lt 1 rfl
    have y9_1 : ∀ o, u25.frozen? ⟨nd8, o, none⟩ = false := hO.free 1 rfl
    have c9_3_1 : u25.cell? ⟨nd9, 1, none⟩ = some (.pointer (some ⟨nd12, 0, none⟩)) := hO.cell 3 rfl (1) rfl
    have lt9_3 : nd9 < u25.heap.size := hO.lt 3 rfl
    have y9_3 : ∀ o, u25.frozen? ⟨nd9, o, none⟩ = false := hO.free 3 rfl
    obtain ⟨c9_4_0, c9_4_1, c9_4_2, lt9_4, y9_4, -⟩ := hO.k3 4 rfl
    obtain ⟨c9_6_0, lt9_6, y9_6, -⟩ := hO.k1 6 rfl
    obtain ⟨c9_7_0, lt9_7, y9_7, -⟩ := hO.k1 7 rfl
    obtain ⟨c9_8_0, c9_8_1, c9_8_2, c9_8_3, c9_8_4, c9_8_5, lt9_8, y9_8, -⟩ := hO.k6 8 rfl
    have HO := Lib.hid hO
    clear hO
    go_wp2_with (first | (with_reducible refine Own.stay (fn := Tryd.f3) ?_) | (first | (go_at_call 9; go_in) | (go_at_call 5; go_in)))
    try with_reducible refine Own.Stay.mk ?_
    have hO := HO.out
    clear HO c9_1_0 c9_1_6 c9_1_7 c9_1_8 lt9_1 y9_1 c9_3_1 lt9_3 y9_3 c9_4_0 c9_4_1 c9_4_2 lt9_4 y9_4 c9_6_0 lt9_6 y9_6 c9_7_0 lt9_7 y9_7 c9_8_0 c9_8_1 c9_8_2 c9_8_3 c9_8_4 c9_8_5 lt9_8 y9_8
    refine bodyPost_ret (v := .bool true) ?_ rfl ⟨rfl, hO.sub [] (by decide)⟩
    simp [results, Tryd.results3, go_sem]
  by_cases hlt : j < n
  · skip
    obtain ⟨gq, rfl⟩ : ∃ gq, gk = gq + 1 := ⟨gk - 1, by omega⟩
    have hlt9 : (j : Int) < n := by omega
    cases hbj : B j
    · skip
      obtain ⟨ix9, hix9, hax9, hjx9⟩ := hO.ix
      have ix9_0 : ix9 nd4 = 0 := hjx9 0 _ _ rfl
      have ix9_1 : ix9 nd8 = 1 := hjx9 1 _ _ rfl
      have ix9_2 : ix9 nd10 = 2 := hjx9 2 _ _ rfl
      have ix9_3 : ix9 nd9 = 3 := hjx9 3 _ _ rfl
      have ix9_4 : ix9 nd12 = 4 := hjx9 4 _ _ rfl
      have ix9_5 : ix9 nd2 = 5 := hjx9 5 _ _ rfl
      have ix9_6 : ix9 qa9 = 6 := hjx9 6 _ _ rfl
      have ix9_7 : ix9 qb9 = 7 := hjx9 7 _ _ rfl
      have ix9_8 : ix9 qc9 = 8 := hjx9 8 _ _ rfl
      clear hjx9
      have c9_0_32 : wr.cell? ⟨nd4, 32, none⟩ = some (.bool false) := hO.cell 0 rfl (32) ((get_other (get_other (newPar_32 _ _) (by omega) _) (by omega) _))
      have c9_0_66 : wr.cell? ⟨nd4, 66, none⟩ = some (.int .u32 0) := hO.cell 0 rfl (66) ((get_other (get_other (newPar_66 _ _) (by omega) _) (by omega) _))
      have c9_0_105 : wr.cell? ⟨nd4, 105, none⟩ = some (.pointer none) := hO.cell 0 rfl (105) ((get_other (get_other (newPar_105 _ _) (by omega) _) (by omega) _))
      have c9_0_106 : wr.cell? ⟨nd4, 106, none⟩ = some (.slice (some ⟨nd10, 0, none⟩) 2 (2 + nd11)) := hO.cell 0 rfl (106) ((get_set (get_set (newPar_106 _ _) _) _))
      have c9_0_350 : wr.cell? ⟨nd4, 350, none⟩ = some (.bool false) := hO.cell 0 rfl (350) ((get_other (get_other (newPar_350 _ _) (by omega) _) (by omega) _))
      have lt9_0 : nd4 < wr.heap.size := hO.lt 0 rfl
      have y9_0 : ∀ o, wr.frozen? ⟨nd4, o, none⟩ = false := hO.free 0 rfl
      have c9_1_0 : wr.cell? ⟨nd8, 0, none⟩ = some (.string ⟨#[67]⟩) := hO.cell 1 rfl (0) rfl
      have c9_1_6 : wr.cell? ⟨nd8, 6, none⟩ = some (.int .i32 0) := hO.cell 1 rfl (6) rfl
      have c9_1_7 : wr.cell? ⟨nd8, 7, none⟩ = some (.int .u32 0) := hO.cell 1 rfl (7) rfl
      have c9_1_8 : wr.cell? ⟨nd8, 8, none⟩ = some (.int .u32 1) := hO.cell 1 rfl (8) rfl
      have lt9_1 : nd8 < wr.heap.size := hO.lt 1 rfl
      have y9_1 : ∀ o, wr.frozen? ⟨nd8, o, none⟩ = false := hO.free 1 rfl
      have c9_2_1 : wr.cell? ⟨nd10, 1, none⟩ = some (.string ⟨#[67]⟩) := hO.cell 2 rfl (1) ((full_at rfl))
      have c9_2_4 : wr.cell? ⟨nd10, 4, none⟩ = some (.int .u32 (m + 1 : Int)) := hO.cell 2 rfl (4) ((full_at rfl))
      have c9_2_11 : wr.cell? ⟨nd10, 11, none⟩ = some (.string ⟨#[100, 101, 102, 97, 117, 108, 116]⟩) := hO.cell 2 rfl (11) ((full_at rfl))
      have c9_2_14 : wr.cell? ⟨nd10, 14, none⟩ = some (.int .u32 0) := hO.cell 2 rfl (14) ((full_at rfl))
      have lt9_2 : nd10 < wr.heap.size := hO.lt 2 rfl
      have y9_2 : ∀ o, wr.frozen? ⟨nd10, o, none⟩ = false := hO.free 2 rfl
      have c9_3_1 : wr.cell? ⟨nd9, 1, none⟩ = some (.pointer (some ⟨nd12, 0, none⟩)) := hO.cell 3 rfl (1) rfl
      have lt9_3 : nd9 < wr.heap.size := hO.lt 3 rfl
      have y9_3 : ∀ o, wr.frozen? ⟨nd9, o, none⟩ = false := hO.free 3 rfl
      obtain ⟨c9_4_0, c9_4_1, c9_4_2, lt9_4, y9_4, -⟩ := hO.k3 4 rfl
      have c9_5_j : wr.cell? ⟨nd2, j, none⟩ = some (.bool false) := hO.cell 5 rfl (j) (((bools_at B n j hlt).trans (by rw [hbj])))
      have lt9_5 : nd2 < wr.heap.size := hO.lt 5 rfl
      have y9_5 : ∀ o, wr.frozen? ⟨nd2, o, none⟩ = false := hO.free 5 rfl
      obtain ⟨c9_6_0, lt9_6, y9_6, -⟩ := hO.k1 6 rfl
      obtain ⟨c9_7_0, lt9_7, y9_7, -⟩ := hO.k1 7 rfl
      obtain ⟨c9_8_0, c9_8_1, c9_8_2, c9_8_3, c9_8_4, c9_8_5, lt9_8, y9_8, -⟩ := hO.k6 8 rfl
      have HO := Lib.hid hO
      clear hO
      go_wp2_with (first | (with_reducible refine Own.stay (fn := Tryd.f3) ?_) | (first | (go_at_call 9; go_in) | (go_at_call 5; go_in)))
      try with_reducible refine Own.Stay.mk ?_
      have hO := HO.out
      clear HO hix9 hax9 ix9_0 ix9_1 ix9_2 ix9_3 ix9_4 ix9_5 ix9_6 ix9_7 ix9_8 ix9 c9_0_32 c9_0_66 c9_0_105 c9_0_106 c9_0_350 lt9_0 y9_0 c9_1_0 c9_1_6 c9_1_7 c9_1_8 lt9_1 y9_1 c9_2_1 c9_2_4 c9_2_11 c9_2_14 lt9_2 y9_2 c9_3_1 lt9_3 y9_3 c9_4_0 c9_4_1 c9_4_2 lt9_4 y9_4 c9_5_j lt9_5 y9_5 c9_6_0 lt9_6 y9_6 c9_7_0 lt9_7 y9_7 c9_8_0 c9_8_1 c9_8_2 c9_8_3 c9_8_4 c9_8_5 lt9_8 y9_8
      have hL := hO.apart
      have hX := hO.apartX
      have HL := Lib.hid hL
      have HX := Lib.hid hX
      clear hL hX
      have hP9 := hO.pick [0, 1] (by decide)
      have T9 := zenO nd4 (((newPar nd5 nd6).setIfInBounds 106 (.slice (some ⟨nd13, 0, none⟩) 1 (1 + nd14))).setIfInBounds 106 (.slice (some ⟨nd10, 0, none⟩) 2 (2 + nd11))) nd8 #[.string ⟨#[67]⟩, .int .u8 3, .pointer (some ⟨nd9, 0, none⟩), .int .i32 0, .nilIface, .int .i32 0, .int .i32 0, .int .u32 0, .int .u32 1, .pointer none, .int .u32 4294967295, .int .u32 4294967295, .slice none 0 0, .slice none 0 0, .slice none 0 0, .slice none 0 0, .int .i64 0, .nilIface, .int .i32 0, .slice none 0 0, .slice none 0 0, .slice none 0 0, .slice none 0 0, .slice none 0 0, .int .u32 4294967295, .int .u32 4294967295, .nilIface, .int .i32 0, .map none, .bool false, .bool false, .slice none 0 0, .slice none 0 0, .slice none 0 0, .slice none 0 0, .int .u32 4294967295, .int .u32 4294967295, .int .u32 4294967295, .int .u32 4294967295, .func (Fn.func 19) #[] #[.pointer (some ⟨qa9, 0, none⟩), .pointer (some ⟨qb9, 0, none⟩), .pointer (some ⟨qc9, 0, none⟩)], .nilFunc, .bool false] (.func (Fn.func 19) #[] #[.pointer (some ⟨qa9, 0, none⟩), .pointer (some ⟨qb9, 0, none⟩), .pointer (some ⟨qc9, 0, none⟩)]) 0 _ _ _ hP9 (get_other (get_other (newPar_66 _ _) (by omega) _) (by omega) _) rfl hg0 hg1
      refine Calls.mono T9 ?_
      clear hP9 T9
      rintro e u26 ⟨nd27, nd28, nd29, rfl, hQ⟩
      have hN : Own w0 u26 [row (nd4) 176 (((newPar nd5 nd6).setIfInBounds 106 (.slice (some ⟨nd13, 0, none⟩) 1 (1 + nd14))).setIfInBounds 106 (.slice (some ⟨nd10, 0, none⟩) 2 (2 + nd11))), row (nd8) 191 #[.string ⟨#[67]⟩, .int .u8 3, .pointer (some ⟨nd9, 0, none⟩), .int .i32 0, .nilIface, .int .i32 0, .int .i32 0, .int .u32 0, .int .u32 1, .pointer none, .int .u32 4294967295, .int .u32 4294967295, .slice none 0 0, .slice none 0 0, .slice none 0 0, .slice none 0 0, .int .i64 0, .nilIface, .int .i32 0, .slice none 0 0, .slice none 0 0, .slice none 0 0, .slice none 0 0, .slice none 0 0, .int .u32 4294967295, .int .u32 4294967295, .nilIface, .int .i32 0, .map none, .bool false, .bool false, .slice none 0 0, .slice none 0 0, .slice none 0 0, .slice none 0 0, .int .u32 4294967295, .int .u32 4294967295, .int .u32 4294967295, .int .u32 4294967295, .func (Fn.func 19) #[] #[.pointer (some ⟨nd27, 0, none⟩), .pointer (some ⟨nd28, 0, none⟩), .pointer (some ⟨nd29, 0, none⟩)], .nilFunc, .bool false], row (nd27) 27 #[.pointer (some ⟨nd8, 0, none⟩)], row (nd28) 25 #[.pointer (some ⟨nd4, 0, none⟩)], row (nd29) 202 #[.pointer none, .int .u32 4294967295, .int .u32 4294967295, .int .u32 4294967295, .int .u32 4294967295, .bool false], row (nd10) 199 (full symZ (symL ([sy ⟨#[67]⟩ ((m + 1)), sy ⟨#[100, 101, 102, 97, 117, 108, 116]⟩ 0])) nd11), row (nd9) 182 #[.slice none 0 0, .pointer (some ⟨nd12, 0, none⟩), .nilIface, .int .i32 0, .slice none 0 0, .int .i32 0, .int .i32 0, .int .i32 0, .int .i32 0, .bool false, .bool false], row (nd12) 51 #[.int .i32 0, .int .u32 0, .int .u32 0], row (nd2) 4 (bools B n), row (qa9) 27 #[.pointer (some ⟨nd8, 0, none⟩)], row (qb9) 25 #[.pointer (some ⟨nd4, 0, none⟩)], row (qc9) 202 #[.pointer none, .int .u32 4294967295, .int .u32 4294967295, .int .u32 4294967295, .int .u32 4294967295, .bool false]] X := hQ.back HL.out HX.out [2, 3, 4, 5, 6, 7, 8] (by decide) (by decide)
      clear hQ HL HX hO
      have hO := hN
      clear hN
      have c9_1_0 : u26.cell? ⟨nd8, 0, none⟩ = some (.string ⟨#[67]⟩) := hO.cell 1 rfl (0) rfl
      have c9_1_6 : u26.cell? ⟨nd8, 6, none⟩ = some (.int .i32 0) := hO.cell 1 rfl (6) rfl
      have c9_1_7 : u26.cell? ⟨nd8, 7, none⟩ = some (.int .u32 0) := hO.cell 1 rfl (7) rfl
      have c9_1_8 : u26.cell? ⟨nd8, 8, none⟩ = some (.int .u32 1) := hO.cell 1 rfl (8) rfl
      have lt9_1 : nd8 < u26.heap.size := hO.lt 1 rfl
      have y9_1 : ∀ o, u26.frozen? ⟨nd8, o, none⟩ = false := hO.free 1 rfl
      obtain ⟨c9_2_0, lt9_2, y9_2, -⟩ := hO.k1 2 rfl
      obtain ⟨c9_3_0, lt9_3, y9_3, -⟩ := hO.k1 3 rfl
      obtain ⟨c9_4_0, c9_4_1, c9_4_2, c9_4_3, c9_4_4, c9_4_5, lt9_4, y9_4, -⟩ := hO.k6 4 rfl
      have c9_6_1 : u26.cell? ⟨nd9, 1, none⟩ = some (.pointer (some ⟨nd12, 0, none⟩)) := hO.cell 6 rfl (1) rfl
      have lt9_6 : nd9 < u26.heap.size := hO.lt 6 rfl
      have y9_6 : ∀ o, u26.frozen? ⟨nd9, o, none⟩ = false := hO.free 6 rfl
      obtain ⟨c9_7_0, c9_7_1, c9_7_2, lt9_7, y9_7, -⟩ := hO.k3 7 rfl
      obtain ⟨c9_9_0, lt9_9, y9_9, -⟩ := hO.k1 9 rfl
      obtain ⟨c9_10_0, lt9_10, y9_10, -⟩ := hO.k1 10 rfl
      obtain ⟨c9_11_0, c9_11_1, c9_11_2, c9_11_3, c9_11_4, c9_11_5, lt9_11, y9_11, -⟩ := hO.k6 11 rfl
      have HO := Lib.hid hO
      clear hO
      go_wp2_with (first | (with_reducible refine Own.stay (fn := Tryd.f3) ?_) | (first | (go_at_call 9; go_in) | (go_at_call 5; go_in)))
      try with_reducible refine Own.Stay.mk ?_
      have hO := HO.out
      clear HO c9_1_0 c9_1_6 c9_1_7 c9_1_8 lt9_1 y9_1 c9_2_0 lt9_2 y9_2 c9_3_0 lt9_3 y9_3 c9_4_0 c9_4_1 c9_4_2 c9_4_3 c9_4_4 c9_4_5 lt9_4 y9_4 c9_6_1 lt9_6 y9_6 c9_7_0 c9_7_1 c9_7_2 lt9_7 y9_7 c9_9_0 lt9_9 y9_9 c9_10_0 lt9_10 y9_10 c9_11_0 c9_11_1 c9_11_2 c9_11_3 c9_11_4 c9_11_5 lt9_11 y9_11
      have hN : Own w0 u26 [row (nd4) 176 (((newPar nd5 nd6).setIfInBounds 106 (.slice (some ⟨nd13, 0, none⟩) 1 (1 + nd14))).setIfInBounds 106 (.slice (some ⟨nd10, 0, none⟩) 2 (2 + nd11))), row (nd8) 191 #[.string ⟨#[67]⟩, .int .u8 3, .pointer (some ⟨nd9, 0, none⟩), .int .i32 0, .nilIface, .int .i32 0, .int .i32 0, .int .u32 0, .int .u32 1, .pointer none, .int .u32 4294967295, .int .u32 4294967295, .slice none 0 0, .slice none 0 0, .slice none 0 0, .slice none 0 0, .int .i64 0, .nilIface, .int .i32 0, .slice none 0 0, .slice none 0 0, .slice none 0 0, .slice none 0 0, .slice none 0 0, .int .u32 4294967295, .int .u32 4294967295, .nilIface, .int .i32 0, .map none, .bool false, .bool false, .slice none 0 0, .slice none 0 0, .slice none 0 0, .slice none 0 0, .int .u32 4294967295, .int .u32 4294967295, .int .u32 4294967295, .int .u32 4294967295, .func (Fn.func 19) #[] #[.pointer (some ⟨nd27, 0, none⟩), .pointer (some ⟨nd28, 0, none⟩), .pointer (some ⟨nd29, 0, none⟩)], .nilFunc, .bool false], row (nd10) 199 (full symZ (symL ([sy ⟨#[67]⟩ ((m + 1)), sy ⟨#[100, 101, 102, 97, 117, 108, 116]⟩ 0])) nd11), row (nd9) 182 #[.slice none 0 0, .pointer (some ⟨nd12, 0, none⟩), .nilIface, .int .i32 0, .slice none 0 0, .int .i32 0, .int .i32 0, .int .i32 0, .int .i32 0, .bool false, .bool false], row (nd12) 51 #[.int .i32 0, .int .u32 0, .int .u32 0], row (nd2) 4 (bools B n), row (nd27) 27 #[.pointer (some ⟨nd8, 0, none⟩)], row (nd28) 25 #[.pointer (some ⟨nd4, 0, none⟩)], row (nd29) 202 #[.pointer none, .int .u32 4294967295, .int .u32 4294967295, .int .u32 4294967295, .int .u32 4294967295, .bool false]] X := hO.sub [0, 1, 5, 6, 7, 8, 2, 3, 4] (by decide)
      clear hO
      have hO := hN
      clear hN
      go_roundg gq
      case measure => omega
      case rel => exact ⟨j + 1, by simp, by omega, Or.inr ⟨m, nd27, nd28, nd29, by omega, rfl, rfl, rfl, hO⟩⟩
    · skip
      obtain ⟨ix9, hix9, hax9, hjx9⟩ := hO.ix
      have ix9_0 : ix9 nd4 = 0 := hjx9 0 _ _ rfl
      have ix9_1 : ix9 nd8 = 1 := hjx9 1 _ _ rfl
      have ix9_2 : ix9 nd10 = 2 := hjx9 2 _ _ rfl
      have ix9_3 : ix9 nd9 = 3 := hjx9 3 _ _ rfl
      have ix9_4 : ix9 nd12 = 4 := hjx9 4 _ _ rfl
      have ix9_5 : ix9 nd2 = 5 := hjx9 5 _ _ rfl
      have ix9_6 : ix9 qa9 = 6 := hjx9 6 _ _ rfl
      have ix9_7 : ix9 qb9 = 7 := hjx9 7 _ _ rfl
      have ix9_8 : ix9 qc9 = 8 := hjx9 8 _ _ rfl
      clear hjx9
      have c9_0_32 : wr.cell? ⟨nd4, 32, none⟩ = some (.bool false) := hO.cell 0 rfl (32) ((get_other (get_other (newPar_32 _ _) (by omega) _) (by omega) _))
      have c9_0_66 : wr.cell? ⟨nd4, 66, none⟩ = some (.int .u32 0) := hO.cell 0 rfl (66) ((get_other (get_other (newPar_66 _ _) (by omega) _) (by omega) _))
      have c9_0_105 : wr.cell? ⟨nd4, 105, none⟩ = some (.pointer none) := hO.cell 0 rfl (105) ((get_other (get_other (newPar_105 _ _) (by omega) _) (by omega) _))
      have c9_0_106 : wr.cell? ⟨nd4, 106, none⟩ = some (.slice (some ⟨nd10, 0, none⟩) 2 (2 + nd11)) := hO.cell 0 rfl (106) ((get_set (get_set (newPar_106 _ _) _) _))
      have c9_0_350 : wr.cell? ⟨nd4, 350, none⟩ = some (.bool false) := hO.cell 0 rfl (350) ((get_other (get_other (newPar_350 _ _) (by omega) _) (by omega) _))
      have lt9_0 : nd4 < wr.heap.size := hO.lt 0 rfl
      have y9_0 : ∀ o, wr.frozen? ⟨nd4, o, none⟩ = false := hO.free 0 rfl
      have c9_1_0 : wr.cell? ⟨nd8, 0, none⟩ = some (.string ⟨#[67]⟩) := hO.cell 1 rfl (0) rfl
      have c9_1_6 : wr.cell? ⟨nd8, 6, none⟩ = some (.int .i32 0) := hO.cell 1 rfl (6) rfl
      have c9_1_7 : wr.cell? ⟨nd8, 7, none⟩ = some (.int .u32 0) := hO.cell 1 rfl (7) rfl
      have c9_1_8 : wr.cell? ⟨nd8, 8, none⟩ = some (.int .u32 1) := hO.cell 1 rfl (8) rfl
      have lt9_1 : nd8 < wr.heap.size := hO.lt 1 rfl
      have y9_1 : ∀ o, wr.frozen? ⟨nd8, o, none⟩ = false := hO.free 1 rfl
      have c9_2_1 : wr.cell? ⟨nd10, 1, none⟩ = some (.string ⟨#[67]⟩) := hO.cell 2 rfl (1) ((full_at rfl))
      have c9_2_4 : wr.cell? ⟨nd10, 4, none⟩ = some (.int .u32 (m + 1 : Int)) := hO.cell 2 rfl (4) ((full_at rfl))
      have c9_2_11 : wr.cell? ⟨nd10, 11, none⟩ = some (.string ⟨#[100, 101, 102, 97, 117, 108, 116]⟩) := hO.cell 2 rfl (11) ((full_at rfl))
      have c9_2_14 : wr.cell? ⟨nd10, 14, none⟩ = some (.int .u32 0) := hO.cell 2 rfl (14) ((full_at rfl))
      have lt9_2 : nd10 < wr.heap.size := hO.lt 2 rfl
      have y9_2 : ∀ o, wr.frozen? ⟨nd10, o, none⟩ = false := hO.free 2 rfl
      have c9_3_1 : wr.cell? ⟨nd9, 1, none⟩ = some (.pointer (some ⟨nd12, 0, none⟩)) := hO.cell 3 rfl (1) rfl
      have lt9_3 : nd9 < wr.heap.size := hO.lt 3 rfl
      have y9_3 : ∀ o, wr.frozen? ⟨nd9, o, none⟩ = false := hO.free 3 rfl
      obtain ⟨c9_4_0, c9_4_1, c9_4_2, lt9_4, y9_4, -⟩ := hO.k3 4 rfl
      have c9_5_j : wr.cell? ⟨nd2, j, none⟩ = some (.bool true) := hO.cell 5 rfl (j) (((bools_at B n j hlt).trans (by rw [hbj])))
      have lt9_5 : nd2 < wr.heap.size := hO.lt 5 rfl
      have y9_5 : ∀ o, wr.frozen? ⟨nd2, o, none⟩ = false := hO.free 5 rfl
      obtain ⟨c9_6_0, lt9_6, y9_6, -⟩ := hO.k1 6 rfl
      obtain ⟨c9_7_0, lt9_7, y9_7, -⟩ := hO.k1 7 rfl
      obtain ⟨c9_8_0, c9_8_1, c9_8_2, c9_8_3, c9_8_4, c9_8_5, lt9_8, y9_8, -⟩ := hO.k6 8 rfl
      have HO := Lib.hid hO
      clear hO
      go_wp2_with (first | (with_reducible refine Own.stay (fn := Tryd.f3) ?_) | (first | (go_at_call 9; go_in) | (go_at_call 5; go_in)))
      try with_reducible refine Own.Stay.mk ?_
      have hO := HO.out
      clear HO hix9 hax9 ix9_0 ix9_1 ix9_2 ix9_3 ix9_4 ix9_5 ix9_6 ix9_7 ix9_8 ix9 c9_0_32 c9_0_66 c9_0_105 c9_0_106 c9_0_350 lt9_0 y9_0 c9_1_0 c9_1_6 c9_1_7 c9_1_8 lt9_1 y9_1 c9_2_1 c9_2_4 c9_2_11 c9_2_14 lt9_2 y9_2 c9_3_1 lt9_3 y9_3 c9_4_0 c9_4_1 c9_4_2 lt9_4 y9_4 c9_5_j lt9_5 y9_5 c9_6_0 lt9_6 y9_6 c9_7_0 lt9_7 y9_7 c9_8_0 c9_8_1 c9_8_2 c9_8_3 c9_8_4 c9_8_5 lt9_8 y9_8
      have hL := hO.apart
      have hX := hO.apartX
      have HL := Lib.hid hL
      have HX := Lib.hid hX
      clear hL hX
      have hP9 := hO.pick [0, 2, 1, 3, 4, 6, 7, 8] (by decide)
      have h9_hn : ([sy ⟨#[67]⟩ (m + 1), sy ⟨#[100, 101, 102, 97, 117, 108, 116]⟩ 0]).length = 2 := rfl
      have h9_hnb : 2 ≤ 4000000 := (by decide)
      have h9_hu : ∃ s, ([sy ⟨#[67]⟩ (m + 1), sy ⟨#[100, 101, 102, 97, 117, 108, 116]⟩ 0])[0]? = some s ∧ s.uc < 4294967295 := ⟨sy _ (m + 1), rfl, (by show (m + 1) < _; omega)⟩
      have h9_hk0 : (3 == 0) = false := (by first | assumption | omega | (simp; done) | (simp; omega))
      have T9 := nfrO nd4 (((newPar nd5 nd6).setIfInBounds 106 (.slice (some ⟨nd13, 0, none⟩) 1 (1 + nd14))).setIfInBounds 106 (.slice (some ⟨nd10, 0, none⟩) 2 (2 + nd11))) nd10 nd11 ([sy ⟨#[67]⟩ (m + 1), sy ⟨#[100, 101, 102, 97, 117, 108, 116]⟩ 0]) 2 nd8 #[.string ⟨#[67]⟩, .int .u8 3, .pointer (some ⟨nd9, 0, none⟩), .int .i32 0, .nilIface, .int .i32 0, .int .i32 0, .int .u32 0, .int .u32 1, .pointer none, .int .u32 4294967295, .int .u32 4294967295, .slice none 0 0, .slice none 0 0, .slice none 0 0, .slice none 0 0, .int .i64 0, .nilIface, .int .i32 0, .slice none 0 0, .slice none 0 0, .slice none 0 0, .slice none 0 0, .slice none 0 0, .int .u32 4294967295, .int .u32 4294967295, .nilIface, .int .i32 0, .map none, .bool false, .bool false, .slice none 0 0, .slice none 0 0, .slice none 0 0, .slice none 0 0, .int .u32 4294967295, .int .u32 4294967295, .int .u32 4294967295, .int .u32 4294967295, .func (Fn.func 19) #[] #[.pointer (some ⟨qa9, 0, none⟩), .pointer (some ⟨qb9, 0, none⟩), .pointer (some ⟨qc9, 0, none⟩)], .nilFunc, .bool false] nd9 #[.slice none 0 0, .pointer (some ⟨nd12, 0, none⟩), .nilIface, .int .i32 0, .slice none 0 0, .int .i32 0, .int .i32 0, .int .i32 0, .int .i32 0, .bool false, .bool false] nd12 qa9 qb9 qc9 3 0 _ _ _ hP9 (get_other (get_other (newPar_350 _ _) (by omega) _) (by omega) _) (get_other (get_other (newPar_32 _ _) (by omega) _) (by omega) _) (get_other (get_other (newPar_105 _ _) (by omega) _) (by omega) _) (get_set (get_set (newPar_106 _ _) _) _) h9_hn h9_hnb h9_hu rfl rfl h9_hk0 rfl hg0 hg1 rfl
      refine Calls.mono T9 ?_
      clear hP9 T9 h9_hn h9_hnb h9_hu h9_hk0
      rintro e u30 ⟨rfl, hQ⟩
      have hN : Own w0 u30 [row (nd4) 176 (((newPar nd5 nd6).setIfInBounds 106 (.slice (some ⟨nd13, 0, none⟩) 1 (1 + nd14))).setIfInBounds 106 (.slice (some ⟨nd10, 0, none⟩) 2 (2 + nd11))), row (nd10) 199 (full symZ (symL ([sy ⟨#[67]⟩ (m + 1 + 1), sy ⟨#[100, 101, 102, 97, 117, 108, 116]⟩ 0])) nd11), row (nd8) 191 #[.string ⟨#[67]⟩, .int .u8 3, .pointer (some ⟨nd9, 0, none⟩), .int .i32 0, .nilIface, .int .i32 0, .int .i32 0, .int .u32 0, .int .u32 1, .pointer none, .int .u32 4294967295, .int .u32 4294967295, .slice none 0 0, .slice none 0 0, .slice none 0 0, .slice none 0 0, .int .i64 0, .nilIface, .int .i32 0, .slice none 0 0, .slice none 0 0, .slice none 0 0, .slice none 0 0, .slice none 0 0, .int .u32 4294967295, .int .u32 4294967295, .nilIface, .int .i32 0, .map none, .bool false, .bool false, .slice none 0 0, .slice none 0 0, .slice none 0 0, .slice none 0 0, .int .u32 4294967295, .int .u32 4294967295, .int .u32 4294967295, .int .u32 4294967295, .func (Fn.func 19) #[] #[.pointer (some ⟨qa9, 0, none⟩), .pointer (some ⟨qb9, 0, none⟩), .pointer (some ⟨qc9, 0, none⟩)], .nilFunc, .bool false], row (nd9) 182 #[.slice none 0 0, .pointer (some ⟨nd12, 0, none⟩), .nilIface, .int .i32 0, .slice none 0 0, .int .i32 0, .int .i32 0, .int .i32 0, .int .i32 0, .bool false, .bool false], row (nd12) 51 #[.int .i32 0, .int .u32 0, .int .u32 0], row (qa9) 27 #[.pointer (some ⟨nd8, 0, none⟩)], row (qb9) 25 #[.pointer (some ⟨nd4, 0, none⟩)], row (qc9) 202 #[.pointer none, .int .u32 4294967295, .int .u32 4294967295, .int .u32 4294967295, .int .u32 4294967295, .bool false], row (nd2) 4 (bools B n)] X := hQ.back HL.out HX.out [5] (by decide) (by decide)
      clear hQ HL HX hO
      have hO := hN
      clear hN
      have c9_2_0 : u30.cell? ⟨nd8, 0, none⟩ = some (.string ⟨#[67]⟩) := hO.cell 2 rfl (0) rfl
      have c9_2_6 : u30.cell? ⟨nd8, 6, none⟩ = some (.int .i32 0) := hO.cell 2 rfl (6) rfl
      have c9_2_7 : u30.cell? ⟨nd8, 7, none⟩ = some (.int .u32 0) := hO.cell 2 rfl (7) rfl
      have c9_2_8 : u30.cell? ⟨nd8, 8, none⟩ = some (.int .u32 1) := hO.cell 2 rfl (8) rfl
      have lt9_2 : nd8 < u30.heap.size := hO.lt 2 rfl
      have y9_2 : ∀ o, u30.frozen? ⟨nd8, o, none⟩ = false := hO.free 2 rfl
      have c9_3_1 : u30.cell? ⟨nd9, 1, none⟩ = some (.pointer (some ⟨nd12, 0, none⟩)) := hO.cell 3 rfl (1) rfl
      have lt9_3 : nd9 < u30.heap.size := hO.lt 3 rfl
      have y9_3 : ∀ o, u30.frozen? ⟨nd9, o, none⟩ = false := hO.free 3 rfl
      obtain ⟨c9_4_0, c9_4_1, c9_4_2, lt9_4, y9_4, -⟩ := hO.k3 4 rfl
      obtain ⟨c9_5_0, lt9_5, y9_5, -⟩ := hO.k1 5 rfl
      obtain ⟨c9_6_0, lt9_6, y9_6, -⟩ := hO.k1 6 rfl
      obtain ⟨c9_7_0, c9_7_1, c9_7_2, c9_7_3, c9_7_4, c9_7_5, lt9_7, y9_7, -⟩ := hO.k6 7 rfl
      have HO := Lib.hid hO
      clear hO
      go_wp2_with (first | (with_reducible refine Own.stay (fn := Tryd.f3) ?_) | (first | (go_at_call 9; go_in) | (go_at_call 5; go_in)))
      try with_reducible refine Own.Stay.mk ?_
      have hO := HO.out
      clear HO c9_2_0 c9_2_6 c9_2_7 c9_2_8 lt9_2 y9_2 c9_3_1 lt9_3 y9_3 c9_4_0 c9_4_1 c9_4_2 lt9_4 y9_4 c9_5_0 lt9_5 y9_5 c9_6_0 lt9_6 y9_6 c9_7_0 c9_7_1 c9_7_2 c9_7_3 c9_7_4 c9_7_5 lt9_7 y9_7
      have hN : Own w0 u30 [row (nd4) 176 (((newPar nd5 nd6).setIfInBounds 106 (.slice (some ⟨nd13, 0, none⟩) 1 (1 + nd14))).setIfInBounds 106 (.slice (some ⟨nd10, 0, none⟩) 2 (2 + nd11))), row (nd8) 191 #[.string ⟨#[67]⟩, .int .u8 3, .pointer (some ⟨nd9, 0, none⟩), .int .i32 0, .nilIface, .int .i32 0, .int .i32 0, .int .u32 0, .int .u32 1, .pointer none, .int .u32 4294967295, .int .u32 4294967295, .slice none 0 0, .slice none 0 0, .slice none 0 0, .slice none 0 0, .int .i64 0, .nilIface, .int .i32 0, .slice none 0 0, .slice none 0 0, .slice none 0 0, .slice none 0 0, .slice none 0 0, .int .u32 4294967295, .int .u32 4294967295, .nilIface, .int .i32 0, .map none, .bool false, .bool false, .slice none 0 0, .slice none 0 0, .slice none 0 0, .slice none 0 0, .int .u32 4294967295, .int .u32 4294967295, .int .u32 4294967295, .int .u32 4294967295, .func (Fn.func 19) #[] #[.pointer (some ⟨qa9, 0, none⟩), .pointer (some ⟨qb9, 0, none⟩), .pointer (some ⟨qc9, 0, none⟩)], .nilFunc, .bool false], row (nd10) 199 (full symZ (symL ([sy ⟨#[67]⟩ (m + 1 + 1), sy ⟨#[100, 101, 102, 97, 117, 108, 116]⟩ 0])) nd11), row (nd9) 182 #[.slice none 0 0, .pointer (some ⟨nd12, 0, none⟩), .nilIface, .int .i32 0, .slice none 0 0, .int .i32 0, .int .i32 0, .int .i32 0, .int .i32 0, .bool false, .bool false], row (nd12) 51 #[.int .i32 0, .int .u32 0, .int .u32 0], row (nd2) 4 (bools B n), row (qa9) 27 #[.pointer (some ⟨nd8, 0, none⟩)], row (qb9) 25 #[.pointer (some ⟨nd4, 0, none⟩)], row (qc9) 202 #[.pointer none, .int .u32 4294967295, .int .u32 4294967295, .int .u32 4294967295, .int .u32 4294967295, .bool false]] X := hO.sub [0, 2, 1, 3, 4, 8, 5, 6, 7] (by decide)
      clear hO
      have hO := hN
      clear hN
      go_roundg gq
      case measure => omega
      case rel => exact ⟨j + 1, by simp, by omega, Or.inr ⟨(m + 1), qa9, qb9, qc9, by omega, rfl, rfl, by simp, hO⟩⟩
  obtain rfl : gk = 0 := by omega
  obtain rfl : j = n := by omega
  have hlt9 : ¬ (j : Int) < j := by omega
  have hw9 : IntKind.u32.wrap ((m : Int) + 1) = (m : Int) + 1 := by rw [IntKind.wrap_u32]; omega
  have c9_1_0 : wr.cell? ⟨nd8, 0, none⟩ = some (.string ⟨#[67]⟩) := hO.cell 1 rfl (0) rfl
  have c9_1_6 : wr.cell? ⟨nd8, 6, none⟩ = some (.int .i32 0) := hO.cell 1 rfl (6) rfl
  have c9_1_7 : wr.cell? ⟨nd8, 7, none⟩ = some (.int .u32 0) := hO.cell 1 rfl (7) rfl
  have c9_1_8 : wr.cell? ⟨nd8, 8, none⟩ = some (.int .u32 1) := hO.cell 1 rfl (8) rfl
  have lt9_1 : nd8 < wr.heap.size := hO.lt 1 rfl
  have y9_1 : ∀ o, wr.frozen? ⟨nd8, o, none⟩ = false := hO.free 1 rfl
  have c9_3_1 : wr.cell? ⟨nd9, 1, none⟩ = some (.pointer (some ⟨nd12, 0, none⟩)) := hO.cell 3 rfl (1) rfl
  have lt9_3 : nd9 < wr.heap.size := hO.lt 3 rfl
  have y9_3 : ∀ o, wr.frozen? ⟨nd9, o, none⟩ = false := hO.free 3 rfl
  obtain ⟨c9_4_0, c9_4_1, c9_4_2, lt9_4, y9_4, -⟩ := hO.k3 4 rfl
  obtain ⟨c9_6_0, lt9_6, y9_6, -⟩ := hO.k1 6 rfl
  obtain ⟨c9_7_0, lt9_7, y9_7, -⟩ := hO.k1 7 rfl
  obtain ⟨c9_8_0, c9_8_1, c9_8_2, c9_8_3, c9_8_4, c9_8_5, lt9_8, y9_8, -⟩ := hO.k6 8 rfl
  have HO := Lib.hid hO
  clear hO
  go_wp2_with (first | (with_reducible refine Own.stay (fn := Tryd.f3) ?_) | (first | (go_at_call 9; go_in) | (go_at_call 5; go_in)))
  try with_reducible refine Own.Stay.mk ?_
  have hO := HO.out
  clear HO c9_1_0 c9_1_6 c9_1_7 c9_1_8 lt9_1 y9_1 c9_3_1 lt9_3 y9_3 c9_4_0 c9_4_1 c9_4_2 lt9_4 y9_4 c9_6_0 lt9_6 y9_6 c9_7_0 lt9_7 y9_7 c9_8_0 c9_8_1 c9_8_2 c9_8_3 c9_8_4 c9_8_5 lt9_8 y9_8
  have hL := hO.apart
  have hX := hO.apartX
  have HL := Lib.hid hL
  have HX := Lib.hid hX
  clear hL hX
  have hP9 := hO.pick [0] (by decide)
  have T9 := symCnt nd4 (((newPar nd5 nd6).setIfInBounds 106 (.slice (some ⟨nd13, 0, none⟩) 1 (1 + nd14))).setIfInBounds 106 (.slice (some ⟨nd10, 0, none⟩) 2 (2 + nd11))) nd10 nd11 2 _ _ _ hP9 (get_set (get_set (newPar_106 _ _) _) _)
  refine Calls.mono T9 ?_
  clear hP9 T9
  rintro e u31 ⟨rfl, hQ⟩
  have hN : Own w0 u31 [row (nd4) 176 (((newPar nd5 nd6).setIfInBounds 106 (.slice (some ⟨nd13, 0, none⟩) 1 (1 + nd14))).setIfInBounds 106 (.slice (some ⟨nd10, 0, none⟩) 2 (2 + nd11))), row (nd8) 191 #[.string ⟨#[67]⟩, .int .u8 3, .pointer (some ⟨nd9, 0, none⟩), .int .i32 0, .nilIface, .int .i32 0, .int .i32 0, .int .u32 0, .int .u32 1, .pointer none, .int .u32 4294967295, .int .u32 4294967295, .slice none 0 0, .slice none 0 0, .slice none 0 0, .slice none 0 0, .int .i64 0, .nilIface, .int .i32 0, .slice none 0 0, .slice none 0 0, .slice none 0 0, .slice none 0 0, .slice none 0 0, .int .u32 4294967295, .int .u32 4294967295, .nilIface, .int .i32 0, .map none, .bool false, .bool false, .slice none 0 0, .slice none 0 0, .slice none 0 0, .slice none 0 0, .int .u32 4294967295, .int .u32 4294967295, .int .u32 4294967295, .int .u32 4294967295, .func (Fn.func 19) #[] #[.pointer (some ⟨qa9, 0, none⟩), .pointer (some ⟨qb9, 0, none⟩), .pointer (some ⟨qc9, 0, none⟩)], .nilFunc, .bool false], row (nd10) 199 (full symZ (symL ([sy ⟨#[67]⟩ ((m + 1)), sy ⟨#[100, 101, 102, 97, 117, 108, 116]⟩ 0])) nd11), row (nd9) 182 #[.slice none 0 0, .pointer (some ⟨nd12, 0, none⟩), .nilIface, .int .i32 0, .slice none 0 0, .int .i32 0, .int .i32 0, .int .i32 0, .int .i32 0, .bool false, .bool false], row (nd12) 51 #[.int .i32 0, .int .u32 0, .int .u32 0], row (nd2) 4 (bools B j), row (qa9) 27 #[.pointer (some ⟨nd8, 0, none⟩)], row (qb9) 25 #[.pointer (some ⟨nd4, 0, none⟩)], row (qc9) 202 #[.pointer none, .int .u32 4294967295, .int .u32 4294967295, .int .u32 4294967295, .int .u32 4294967295, .bool false]] X := hQ.back HL.out HX.out [1, 2, 3, 4, 5, 6, 7, 8] (by decide) (by decide)
  clear hQ HL HX hO
  have hO := hN
  clear hN
  have c9_1_0 : u31.cell? ⟨nd8, 0, none⟩ = some (.string ⟨#[67]⟩) := hO.cell 1 rfl (0) rfl
  have c9_1_6 : u31.cell? ⟨nd8, 6, none⟩ = some (.int .i32 0) := hO.cell 1 rfl (6) rfl
  have c9_1_7 : u31.cell? ⟨nd8, 7, none⟩ = some (.int .u32 0) := hO.cell 1 rfl (7) rfl
  have c9_1_8 : u31.cell? ⟨nd8, 8, none⟩ = some (.int .u32 1) := hO.cell 1 rfl (8) rfl
  have lt9_1 : nd8 < u31.heap.size := hO.lt 1 rfl
  have y9_1 : ∀ o, u31.frozen? ⟨nd8, o, none⟩ = false := hO.free 1 rfl
  have c9_3_1 : u31.cell? ⟨nd9, 1, none⟩ = some (.pointer (some ⟨nd12, 0, none⟩)) := hO.cell 3 rfl (1) rfl
  have lt9_3 : nd9 < u31.heap.size := hO.lt 3 rfl
  have y9_3 : ∀ o, u31.frozen? ⟨nd9, o, none⟩ = false := hO.free 3 rfl
  obtain ⟨c9_4_0, c9_4_1, c9_4_2, lt9_4, y9_4, -⟩ := hO.k3 4 rfl
  obtain ⟨c9_6_0, lt9_6, y9_6, -⟩ := hO.k1 6 rfl
  obtain ⟨c9_7_0, lt9_7, y9_7, -⟩ := hO.k1 7 rfl
  obtain ⟨c9_8_0, c9_8_1, c9_8_2, c9_8_3, c9_8_4, c9_8_5, lt9_8, y9_8, -⟩ := hO.k6 8 rfl
  have HO := Lib.hid hO
  clear hO
  go_wp2_with (first | (with_reducible refine Own.stay (fn := Tryd.f3) ?_) | (first | (go_at_call 9; go_in) | (go_at_call 5; go_in)))
  try with_reducible refine Own.Stay.mk ?_
  have hO := HO.out
  clear HO c9_1_0 c9_1_6 c9_1_7 c9_1_8 lt9_1 y9_1 c9_3_1 lt9_3 y9_3 c9_4_0 c9_4_1 c9_4_2 lt9_4 y9_4 c9_6_0 lt9_6 y9_6 c9_7_0 lt9_7 y9_7 c9_8_0 c9_8_1 c9_8_2 c9_8_3 c9_8_4 c9_8_5 lt9_8 y9_8
  have hL := hO.apart
  have hX := hO.apartX
  have HL := Lib.hid hL
  have HX := Lib.hid hX
  clear hL hX
  have hP9 := hO.pick [0, 2] (by decide)
  have h9_hn : ([sy ⟨#[67]⟩ (m + 1), sy ⟨#[100, 101, 102, 97, 117, 108, 116]⟩ 0]).length = 2 := rfl
  have h9_hnb : 2 ≤ 4000000 := (by decide)
  have h9_hi : 0 < 2 := (by decide)
  have h9_hs : ([sy ⟨#[67]⟩ (m + 1), sy ⟨#[100, 101, 102, 97, 117, 108, 116]⟩ 0])[0]? = some (sy (⟨#[67]⟩ : ByteArray) (m + 1)) := rfl
  have T9 := useCnt nd4 (((newPar nd5 nd6).setIfInBounds 106 (.slice (some ⟨nd13, 0, none⟩) 1 (1 + nd14))).setIfInBounds 106 (.slice (some ⟨nd10, 0, none⟩) 2 (2 + nd11))) nd10 nd11 ([sy ⟨#[67]⟩ (m + 1), sy ⟨#[100, 101, 102, 97, 117, 108, 116]⟩ 0]) 2 0 ⟨#[67]⟩ (m + 1) _ _ _ hP9 (get_set (get_set (newPar_106 _ _) _) _) h9_hn h9_hnb h9_hi h9_hs
  refine Calls.mono T9 ?_
  clear hP9 T9 h9_hn h9_hnb h9_hi h9_hs
  rintro e u32 ⟨rfl, hQ⟩
  have hN : Own w0 u32 [row (nd4) 176 (((newPar nd5 nd6).setIfInBounds 106 (.slice (some ⟨nd13, 0, none⟩) 1 (1 + nd14))).setIfInBounds 106 (.slice (some ⟨nd10, 0, none⟩) 2 (2 + nd11))), row (nd10) 199 (full symZ (symL ([sy ⟨#[67]⟩ (m + 1), sy ⟨#[100, 101, 102, 97, 117, 108, 116]⟩ 0])) nd11), row (nd8) 191 #[.string ⟨#[67]⟩, .int .u8 3, .pointer (some ⟨nd9, 0, none⟩), .int .i32 0, .nilIface, .int .i32 0, .int .i32 0, .int .u32 0, .int .u32 1, .pointer none, .int .u32 4294967295, .int .u32 4294967295, .slice none 0 0, .slice none 0 0, .slice none 0 0, .slice none 0 0, .int .i64 0, .nilIface, .int .i32 0, .slice none 0 0, .slice none 0 0, .slice none 0 0, .slice none 0 0, .slice none 0 0, .int .u32 4294967295, .int .u32 4294967295, .nilIface, .int .i32 0, .map none, .bool false, .bool false, .slice none 0 0, .slice none 0 0, .slice none 0 0, .slice none 0 0, .int .u32 4294967295, .int .u32 4294967295, .int .u32 4294967295, .int .u32 4294967295, .func (Fn.func 19) #[] #[.pointer (some ⟨qa9, 0, none⟩), .pointer (some ⟨qb9, 0, none⟩), .pointer (some ⟨qc9, 0, none⟩)], .nilFunc, .bool false], row (nd9) 182 #[.slice none 0 0, .pointer (some ⟨nd12, 0, none⟩), .nilIface, .int .i32 0, .slice none 0 0, .int .i32 0, .int .i32 0, .int .i32 0, .int .i32 0, .bool false, .bool false], row (nd12) 51 #[.int .i32 0, .int .u32 0, .int .u32 0], row (nd2) 4 (bools B j), row (qa9) 27 #[.pointer (some ⟨nd8, 0, none⟩)], row (qb9) 25 #[.pointer (some ⟨nd4, 0, none⟩)], row (qc9) 202 #[.pointer none, .int .u32 4294967295, .int .u32 4294967295, .int .u32 4294967295, .int .u32 4294967295, .bool false]] X := hQ.back HL.out HX.out [1, 3, 4, 5, 6, 7, 8] (by decide) (by decide)
  clear hQ HL HX hO
  have hO := hN
  clear hN
  have c9_2_0 : u32.cell? ⟨nd8, 0, none⟩ = some (.string ⟨#[67]⟩) := hO.cell 2 rfl (0) rfl
  have c9_2_6 : u32.cell? ⟨nd8, 6, none⟩ = some (.int .i32 0) := hO.cell 2 rfl (6) rfl
  have c9_2_7 : u32.cell? ⟨nd8, 7, none⟩ = some (.int .u32 0) := hO.cell 2 rfl (7) rfl
  have c9_2_8 : u32.cell? ⟨nd8, 8, none⟩ = some (.int .u32 1) := hO.cell 2 rfl (8) rfl
  have lt9_2 : nd8 < u32.heap.size := hO.lt 2 rfl
  have y9_2 : ∀ o, u32.frozen? ⟨nd8, o, none⟩ = false := hO.free 2 rfl
  have c9_3_1 : u32.cell? ⟨nd9, 1, none⟩ = some (.pointer (some ⟨nd12, 0, none⟩)) := hO.cell 3 rfl (1) rfl
  have lt9_3 : nd9 < u32.heap.size := hO.lt 3 rfl
  have y9_3 : ∀ o, u32.frozen? ⟨nd9, o, none⟩ = false := hO.free 3 rfl
  obtain ⟨c9_4_0, c9_4_1, c9_4_2, lt9_4, y9_4, -⟩ := hO.k3 4 rfl
  obtain ⟨c9_6_0, lt9_6, y9_6, -⟩ := hO.k1 6 rfl
  obtain ⟨c9_7_0, lt9_7, y9_7, -⟩ := hO.k1 7 rfl
  obtain ⟨c9_8_0, c9_8_1, c9_8_2, c9_8_3, c9_8_4, c9_8_5, lt9_8, y9_8, -⟩ := hO.k6 8 rfl
  have HO := Lib.hid hO
  clear hO
  go_wp2_with (first | (with_reducible refine Own.stay (fn := Tryd.f3) ?_) | (first | (go_at_call 9; go_in) | (go_at_call 5; go_in)))
  try with_reducible refine Own.Stay.mk ?_
  have hO := HO.out
  clear HO c9_2_0 c9_2_6 c9_2_7 c9_2_8 lt9_2 y9_2 c9_3_1 lt9_3 y9_3 c9_4_0 c9_4_1 c9_4_2 lt9_4 y9_4 c9_6_0 lt9_6 y9_6 c9_7_0 lt9_7 y9_7 c9_8_0 c9_8_1 c9_8_2 c9_8_3 c9_8_4 c9_8_5 lt9_8 y9_8
  refine bodyPost_ret (v := .bool true) ?_ rfl ⟨rfl, hO.sub [] (by decide)⟩
  simp [results, Tryd.results3, go_sem]
end Go.Proofs.YtaoflhnkhgclhaaDoor.Use
