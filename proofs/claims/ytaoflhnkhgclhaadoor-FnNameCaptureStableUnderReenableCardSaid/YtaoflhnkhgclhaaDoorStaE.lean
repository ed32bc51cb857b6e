/- The law on name capture under re-enabling, walked: one of its cases. No condition. -/
import Derived.Test.YtaoflhnkhgclhaaDoorCln
import Derived.Test.YtaoflhnkhgclhaaDoorLoop
import Derived.Test.YtaoflhnkhgclhaaDoorRead2
import Derived.Test.YtaoflhnkhgclhaaDoorRead
import Derived.Test.YtaoflhnkhgclhaaDoorCap
import Derived.Test.YtaoflhnkhgclhaaDoorCtx
import Derived.Test.YtaoflhnkhgclhaaDoorNewP
import Derived.Test.YtaoflhnkhgclhaaDoorNam
import Derived.Test.YtaoflhnkhgclhaaDoorVl
import Derived.Test.YtaoflhnkhgclhaaDoorApp
import Derived.Test.YtaoflhnkhgclhaaDoorOwnK
import Derived.Test.YtaoflhnkhgclhaaDoorOwn
import Derived.Test.YtaoflhnkhgclhaaDoorDeepCells
import Derived.Test.YtaoflhnkhgclhaaDoorRows
import Derived.Test.YtaoflhnkhgclhaaDoorUse
import Derived.Test.YtaoflhnkhgclhaaDoorLive
namespace Go.Proofs.YtaoflhnkhgclhaaDoor.Use
open Go.ChangeShapes Go.WideShapes Go.ChangeAt Go.RowKit Go.Sort Own
set_option linter.unusedVariables false
def law31EPost (sa : Addr) (n cp : Nat) (B : Nat → Bool) (w0 : World) (X : Nat → Obj → Prop) (e : Ending) (w' : World) : Prop :=
  e = .returned (.bool true) ∧ Own w0 w' [] X
set_option maxRecDepth 100000 in
set_option maxHeartbeats 1000000 in
theorem law31E (sa : Addr) (n cp : Nat) (B : Nat → Bool) (w0 w : World) (X : Nat → Obj → Prop) (hO : Own w0 w [] X) (hn4 : n ≤ 4096) (hB : BoolsAt w0 sa n B) (hg0 : w0.cell? ⟨0, 0, none⟩ = some (.int .u32 4294967295)) (hg1 : w0.cell? ⟨0, 1, none⟩ = some (.int .u32 4294967295)) :
    Calls Tryd.prog 3 #[.int .i64 3, .bool false, .bool false, .slice (some sa) n cp] w (law31EPost sa n cp B w0 X) := by
  go_enter Tryd.func3, Tryd.ntmps3
  have hn9 : (n : Int) ≤ 4096 := by omega
  have hn8 : (n : Int) ≤ 1048576 := by omega
  go_wp2_with (first | (with_reducible refine Own.stay (fn := Tryd.f3) ?_) | (first | (go_at_call 9; go_in) | (go_at_call 5; go_in)))
  try with_reducible refine Own.Stay.mk ?_
  have hL := hO.apart
  have hX := hO.apartX
  have HL := Lib.hid hL
  have HX := Lib.hid hX
  clear hL hX
  have hP9 := hO.pick [] (by decide)
  have T9 := cloneB sa n cp B _ _ _ hP9 hn4 hB
  refine Calls.mono T9 ?_
  clear hP9 T9
  rintro e u1 ⟨nd2, rfl, hQ⟩
  have hN : Own w0 u1 [row (nd2) 4 (bools B n)] X := hQ.back HL.out HX.out [] (by decide) (by decide)
  clear hQ HL HX hO
  have hO := hN
  clear hN
  go_wp2_with (first | (with_reducible refine Own.stay (fn := Tryd.f3) ?_) | (first | (go_at_call 9; go_in) | (go_at_call 5; go_in)))
  try with_reducible refine Own.Stay.mk ?_
  have hL := hO.apart
  have hX := hO.apartX
  have HL := Lib.hid hL
  have HX := Lib.hid hX
  clear hL hX
  have hP9 := hO.pick [] (by decide)
  have T9 := newP  _ _ _ hP9 hg0 hg1
  refine Calls.mono T9 ?_
  clear hP9 T9
  rintro e u3 ⟨nd4, nd5, nd6, rfl, hQ⟩
  have hN : Own w0 u3 [row (nd4) 176 (newPar nd5 nd6), row (nd2) 4 (bools B n)] X := hQ.back HL.out HX.out [0] (by decide) (by decide)
  clear hQ HL HX hO
  have hO := hN
  clear hN
  go_wp2_with (first | (with_reducible refine Own.stay (fn := Tryd.f3) ?_) | (first | (go_at_call 9; go_in) | (go_at_call 5; go_in)))
  try with_reducible refine Own.Stay.mk ?_
  have hL := hO.apart
  have hX := hO.apartX
  have HL := Lib.hid hL
  have HX := Lib.hid hX
  clear hL hX
  have hP9 := hO.pick [0] (by decide)
  have T9 := newCtxU3 nd4 (newPar nd5 nd6) _ _ _ hP9 (newPar_66 _ _) (newPar_32 _ _) (newPar_106 _ _) hg0 hg1
  refine Calls.mono T9 ?_
  clear hP9 T9
  rintro e u7 ⟨nd8, nd9, nd10, nd11, rfl, hQ⟩
  have hN : Own w0 u7 [row (nd4) 176 ((newPar nd5 nd6).setIfInBounds 106 (.slice (some ⟨nd10, 0, none⟩) 1 (1 + nd11))), row (nd10) 199 (full symZ (symL ([sy ⟨#[100, 101, 102, 97, 117, 108, 116]⟩ 0])) nd11), row (nd8) 191 #[.string ⟨#[107, 101, 101, 112]⟩, .int .u8 3, .pointer (some ⟨nd9, 0, none⟩), .int .i32 0, .nilIface, .int .i32 0, .int .i32 0, .int .u32 0, .int .u32 0, .pointer none, .int .u32 4294967295, .int .u32 4294967295, .slice none 0 0, .slice none 0 0, .slice none 0 0, .slice none 0 0, .int .i64 0, .nilIface, .int .i32 0, .slice none 0 0, .slice none 0 0, .slice none 0 0, .slice none 0 0, .slice none 0 0, .int .u32 4294967295, .int .u32 4294967295, .nilIface, .int .i32 0, .map none, .bool false, .bool false, .slice none 0 0, .slice none 0 0, .slice none 0 0, .slice none 0 0, .int .u32 4294967295, .int .u32 4294967295, .int .u32 4294967295, .int .u32 4294967295, .nilFunc, .nilFunc, .bool false], row (nd9) 182 #[.slice none 0 0, .pointer none, .nilIface, .int .i32 0, .slice none 0 0, .int .i32 0, .int .i32 0, .int .i32 0, .int .i32 0, .bool false, .bool false], row (nd2) 4 (bools B n)] X := hQ.back HL.out HX.out [1] (by decide) (by decide)
  clear hQ HL HX hO
  have hO := hN
  clear hN
  have c9_2_0 : u7.cell? ⟨nd8, 0, none⟩ = some (.string ⟨#[107, 101, 101, 112]⟩) := hO.cell 2 rfl (0) rfl
  have c9_2_6 : u7.cell? ⟨nd8, 6, none⟩ = some (.int .i32 0) := hO.cell 2 rfl (6) rfl
  have c9_2_7 : u7.cell? ⟨nd8, 7, none⟩ = some (.int .u32 0) := hO.cell 2 rfl (7) rfl
  have c9_2_8 : u7.cell? ⟨nd8, 8, none⟩ = some (.int .u32 0) := hO.cell 2 rfl (8) rfl
  have lt9_2 : nd8 < u7.heap.size := hO.lt 2 rfl
  have y9_2 : ∀ o, u7.frozen? ⟨nd8, o, none⟩ = false := hO.free 2 rfl
  have c9_3_1 : u7.cell? ⟨nd9, 1, none⟩ = some (.pointer none) := hO.cell 3 rfl (1) rfl
  have lt9_3 : nd9 < u7.heap.size := hO.lt 3 rfl
  have y9_3 : ∀ o, u7.frozen? ⟨nd9, o, none⟩ = false := hO.free 3 rfl
  have HO := Lib.hid hO
  clear hO
  go_wp2_with (first | (with_reducible refine Own.stay (fn := Tryd.f3) ?_) | (first | (go_at_call 9; go_in) | (go_at_call 5; go_in)))
  try with_reducible refine Own.Stay.mk ?_
  have hO := HO.out
  clear HO c9_2_0 c9_2_6 c9_2_7 c9_2_8 lt9_2 y9_2 c9_3_1 lt9_3 y9_3
  have hL := hO.apart
  have hX := hO.apartX
  have HL := Lib.hid hL
  have HX := Lib.hid hX
  clear hL hX
  have hP9 := hO.pick [0] (by decide)
  have T9 := symCnt nd4 ((newPar nd5 nd6).setIfInBounds 106 (.slice (some ⟨nd10, 0, none⟩) 1 (1 + nd11))) nd10 nd11 1 _ _ _ hP9 (get_set (newPar_106 _ _) _)
  refine Calls.mono T9 ?_
  clear hP9 T9
  rintro e u12 ⟨rfl, hQ⟩
  have hN : Own w0 u12 [row (nd4) 176 ((newPar nd5 nd6).setIfInBounds 106 (.slice (some ⟨nd10, 0, none⟩) 1 (1 + nd11))), row (nd10) 199 (full symZ (symL ([sy ⟨#[100, 101, 102, 97, 117, 108, 116]⟩ 0])) nd11), row (nd8) 191 #[.string ⟨#[107, 101, 101, 112]⟩, .int .u8 3, .pointer (some ⟨nd9, 0, none⟩), .int .i32 0, .nilIface, .int .i32 0, .int .i32 0, .int .u32 0, .int .u32 0, .pointer none, .int .u32 4294967295, .int .u32 4294967295, .slice none 0 0, .slice none 0 0, .slice none 0 0, .slice none 0 0, .int .i64 0, .nilIface, .int .i32 0, .slice none 0 0, .slice none 0 0, .slice none 0 0, .slice none 0 0, .slice none 0 0, .int .u32 4294967295, .int .u32 4294967295, .nilIface, .int .i32 0, .map none, .bool false, .bool false, .slice none 0 0, .slice none 0 0, .slice none 0 0, .slice none 0 0, .int .u32 4294967295, .int .u32 4294967295, .int .u32 4294967295, .int .u32 4294967295, .nilFunc, .nilFunc, .bool false], row (nd9) 182 #[.slice none 0 0, .pointer none, .nilIface, .int .i32 0, .slice none 0 0, .int .i32 0, .int .i32 0, .int .i32 0, .int .i32 0, .bool false, .bool false], row (nd2) 4 (bools B n)] X := hQ.back HL.out HX.out [1, 2, 3, 4] (by decide) (by decide)
  clear hQ HL HX hO
  have hO := hN
  clear hN
  have c9_2_0 : u12.cell? ⟨nd8, 0, none⟩ = some (.string ⟨#[107, 101, 101, 112]⟩) := hO.cell 2 rfl (0) rfl
  have c9_2_6 : u12.cell? ⟨nd8, 6, none⟩ = some (.int .i32 0) := hO.cell 2 rfl (6) rfl
  have c9_2_7 : u12.cell? ⟨nd8, 7, none⟩ = some (.int .u32 0) := hO.cell 2 rfl (7) rfl
  have c9_2_8 : u12.cell? ⟨nd8, 8, none⟩ = some (.int .u32 0) := hO.cell 2 rfl (8) rfl
  have lt9_2 : nd8 < u12.heap.size := hO.lt 2 rfl
  have y9_2 : ∀ o, u12.frozen? ⟨nd8, o, none⟩ = false := hO.free 2 rfl
  have c9_3_1 : u12.cell? ⟨nd9, 1, none⟩ = some (.pointer none) := hO.cell 3 rfl (1) rfl
  have lt9_3 : nd9 < u12.heap.size := hO.lt 3 rfl
  have y9_3 : ∀ o, u12.frozen? ⟨nd9, o, none⟩ = false := hO.free 3 rfl
  have HO := Lib.hid hO
  clear hO
  go_wp2_with (first | (with_reducible refine Own.stay (fn := Tryd.f3) ?_) | (first | (go_at_call 9; go_in) | (go_at_call 5; go_in)))
  try with_reducible refine Own.Stay.mk ?_
  have hO := HO.out
  clear HO c9_2_0 c9_2_6 c9_2_7 c9_2_8 lt9_2 y9_2 c9_3_1 lt9_3 y9_3
  have hL := hO.apart
  have hX := hO.apartX
  have HL := Lib.hid hL
  have HX := Lib.hid hX
  clear hL hX
  have hP9 := hO.pick [0, 2] (by decide)
  have T9 := zenO nd4 ((newPar nd5 nd6).setIfInBounds 106 (.slice (some ⟨nd10, 0, none⟩) 1 (1 + nd11))) nd8 #[.string ⟨#[107, 101, 101, 112]⟩, .int .u8 3, .pointer (some ⟨nd9, 0, none⟩), .int .i32 0, .nilIface, .int .i32 0, .int .i32 0, .int .u32 0, .int .u32 0, .pointer none, .int .u32 4294967295, .int .u32 4294967295, .slice none 0 0, .slice none 0 0, .slice none 0 0, .slice none 0 0, .int .i64 0, .nilIface, .int .i32 0, .slice none 0 0, .slice none 0 0, .slice none 0 0, .slice none 0 0, .slice none 0 0, .int .u32 4294967295, .int .u32 4294967295, .nilIface, .int .i32 0, .map none, .bool false, .bool false, .slice none 0 0, .slice none 0 0, .slice none 0 0, .slice none 0 0, .int .u32 4294967295, .int .u32 4294967295, .int .u32 4294967295, .int .u32 4294967295, .nilFunc, .nilFunc, .bool false] .nilFunc 0 _ _ _ hP9 (get_other (newPar_66 _ _) (by omega) _) rfl hg0 hg1
  refine Calls.mono T9 ?_
  clear hP9 T9
  rintro e u13 ⟨nd14, nd15, nd16, rfl, hQ⟩
  have hN : Own w0 u13 [row (nd4) 176 ((newPar nd5 nd6).setIfInBounds 106 (.slice (some ⟨nd10, 0, none⟩) 1 (1 + nd11))), row (nd8) 191 #[.string ⟨#[107, 101, 101, 112]⟩, .int .u8 3, .pointer (some ⟨nd9, 0, none⟩), .int .i32 0, .nilIface, .int .i32 0, .int .i32 0, .int .u32 0, .int .u32 0, .pointer none, .int .u32 4294967295, .int .u32 4294967295, .slice none 0 0, .slice none 0 0, .slice none 0 0, .slice none 0 0, .int .i64 0, .nilIface, .int .i32 0, .slice none 0 0, .slice none 0 0, .slice none 0 0, .slice none 0 0, .slice none 0 0, .int .u32 4294967295, .int .u32 4294967295, .nilIface, .int .i32 0, .map none, .bool false, .bool false, .slice none 0 0, .slice none 0 0, .slice none 0 0, .slice none 0 0, .int .u32 4294967295, .int .u32 4294967295, .int .u32 4294967295, .int .u32 4294967295, .func (Fn.func 19) #[] #[.pointer (some ⟨nd14, 0, none⟩), .pointer (some ⟨nd15, 0, none⟩), .pointer (some ⟨nd16, 0, none⟩)], .nilFunc, .bool false], row (nd14) 27 #[.pointer (some ⟨nd8, 0, none⟩)], row (nd15) 25 #[.pointer (some ⟨nd4, 0, none⟩)], row (nd16) 202 #[.pointer none, .int .u32 4294967295, .int .u32 4294967295, .int .u32 4294967295, .int .u32 4294967295, .bool false], row (nd10) 199 (full symZ (symL ([sy ⟨#[100, 101, 102, 97, 117, 108, 116]⟩ 0])) nd11), row (nd9) 182 #[.slice none 0 0, .pointer none, .nilIface, .int .i32 0, .slice none 0 0, .int .i32 0, .int .i32 0, .int .i32 0, .int .i32 0, .bool false, .bool false], row (nd2) 4 (bools B n)] X := hQ.back HL.out HX.out [1, 3, 4] (by decide) (by decide)
  clear hQ HL HX hO
  have hO := hN
  clear hN
  have c9_1_0 : u13.cell? ⟨nd8, 0, none⟩ = some (.string ⟨#[107, 101, 101, 112]⟩) := hO.cell 1 rfl (0) rfl
  have c9_1_6 : u13.cell? ⟨nd8, 6, none⟩ = some (.int .i32 0) := hO.cell 1 rfl (6) rfl
  have c9_1_7 : u13.cell? ⟨nd8, 7, none⟩ = some (.int .u32 0) := hO.cell 1 rfl (7) rfl
  have c9_1_8 : u13.cell? ⟨nd8, 8, none⟩ = some (.int .u32 0) := hO.cell 1 rfl (8) rfl
  have lt9_1 : nd8 < u13.heap.size := hO.lt 1 rfl
  have y9_1 : ∀ o, u13.frozen? ⟨nd8, o, none⟩ = false := hO.free 1 rfl
  obtain ⟨c9_2_0, lt9_2, y9_2, -⟩ := hO.k1 2 rfl
  obtain ⟨c9_3_0, lt9_3, y9_3, -⟩ := hO.k1 3 rfl
  obtain ⟨c9_4_0, c9_4_1, c9_4_2, c9_4_3, c9_4_4, c9_4_5, lt9_4, y9_4, -⟩ := hO.k6 4 rfl
  have c9_6_1 : u13.cell? ⟨nd9, 1, none⟩ = some (.pointer none) := hO.cell 6 rfl (1) rfl
  have lt9_6 : nd9 < u13.heap.size := hO.lt 6 rfl
  have y9_6 : ∀ o, u13.frozen? ⟨nd9, o, none⟩ = false := hO.free 6 rfl
  have HO := Lib.hid hO
  clear hO
  go_wp2_with (first | (with_reducible refine Own.stay (fn := Tryd.f3) ?_) | (first | (go_at_call 9; go_in) | (go_at_call 5; go_in)))
  try with_reducible refine Own.Stay.mk ?_
  have hO := HO.out
  clear HO c9_1_0 c9_1_6 c9_1_7 c9_1_8 lt9_1 y9_1 c9_2_0 lt9_2 y9_2 c9_3_0 lt9_3 y9_3 c9_4_0 c9_4_1 c9_4_2 c9_4_3 c9_4_4 c9_4_5 lt9_4 y9_4 c9_6_1 lt9_6 y9_6
  have hN : Own w0 u13 [row (nd4) 176 ((newPar nd5 nd6).setIfInBounds 106 (.slice (some ⟨nd10, 0, none⟩) 1 (1 + nd11))), row (nd8) 191 #[.string ⟨#[107, 101, 101, 112]⟩, .int .u8 3, .pointer (some ⟨nd9, 0, none⟩), .int .i32 0, .nilIface, .int .i32 0, .int .i32 0, .int .u32 0, .int .u32 0, .pointer none, .int .u32 4294967295, .int .u32 4294967295, .slice none 0 0, .slice none 0 0, .slice none 0 0, .slice none 0 0, .int .i64 0, .nilIface, .int .i32 0, .slice none 0 0, .slice none 0 0, .slice none 0 0, .slice none 0 0, .slice none 0 0, .int .u32 4294967295, .int .u32 4294967295, .nilIface, .int .i32 0, .map none, .bool false, .bool false, .slice none 0 0, .slice none 0 0, .slice none 0 0, .slice none 0 0, .int .u32 4294967295, .int .u32 4294967295, .int .u32 4294967295, .int .u32 4294967295, .func (Fn.func 19) #[] #[.pointer (some ⟨nd14, 0, none⟩), .pointer (some ⟨nd15, 0, none⟩), .pointer (some ⟨nd16, 0, none⟩)], .nilFunc, .bool false], row (nd10) 199 (full symZ (symL ([sy ⟨#[100, 101, 102, 97, 117, 108, 116]⟩ 0])) nd11), row (nd9) 182 #[.slice none 0 0, .pointer none, .nilIface, .int .i32 0, .slice none 0 0, .int .i32 0, .int .i32 0, .int .i32 0, .int .i32 0, .bool false, .bool false], row (nd2) 4 (bools B n), row (nd14) 27 #[.pointer (some ⟨nd8, 0, none⟩)], row (nd15) 25 #[.pointer (some ⟨nd4, 0, none⟩)], row (nd16) 202 #[.pointer none, .int .u32 4294967295, .int .u32 4294967295, .int .u32 4294967295, .int .u32 4294967295, .bool false]] X := hO.sub [0, 1, 5, 6, 7, 2, 3, 4] (by decide)
  clear hO
  have hO := hN
  clear hN
  go_loopg [13, 14, 15, 16] n (fun gf s13 s14 s15 s16 wx => ∃ j : Nat, s16 = .int .i64 (j : Int) ∧ j + gf = n ∧ ((s13 = .int .u32 0 ∧ s14 = .bool false ∧ s15 = .int .i64 0 ∧ ∃ qa9 qb9 qc9 : Nat, Own w0 wx [row (nd4) 176 ((newPar nd5 nd6).setIfInBounds 106 (.slice (some ⟨nd10, 0, none⟩) 1 (1 + nd11))), row (nd8) 191 #[.string ⟨#[107, 101, 101, 112]⟩, .int .u8 3, .pointer (some ⟨nd9, 0, none⟩), .int .i32 0, .nilIface, .int .i32 0, .int .i32 0, .int .u32 0, .int .u32 0, .pointer none, .int .u32 4294967295, .int .u32 4294967295, .slice none 0 0, .slice none 0 0, .slice none 0 0, .slice none 0 0, .int .i64 0, .nilIface, .int .i32 0, .slice none 0 0, .slice none 0 0, .slice none 0 0, .slice none 0 0, .slice none 0 0, .int .u32 4294967295, .int .u32 4294967295, .nilIface, .int .i32 0, .map none, .bool false, .bool false, .slice none 0 0, .slice none 0 0, .slice none 0 0, .slice none 0 0, .int .u32 4294967295, .int .u32 4294967295, .int .u32 4294967295, .int .u32 4294967295, .func (Fn.func 19) #[] #[.pointer (some ⟨qa9, 0, none⟩), .pointer (some ⟨qb9, 0, none⟩), .pointer (some ⟨qc9, 0, none⟩)], .nilFunc, .bool false], row (nd10) 199 (full symZ (symL [sy ⟨#[100, 101, 102, 97, 117, 108, 116]⟩ 0]) nd11), row (nd9) 182 #[.slice none 0 0, .pointer none, .nilIface, .int .i32 0, .slice none 0 0, .int .i32 0, .int .i32 0, .int .i32 0, .int .i32 0, .bool false, .bool false], row (nd2) 4 (bools B n), row (qa9) 27 #[.pointer (some ⟨nd8, 0, none⟩)], row (qb9) 25 #[.pointer (some ⟨nd4, 0, none⟩)], row (qc9) 202 #[.pointer none, .int .u32 4294967295, .int .u32 4294967295, .int .u32 4294967295, .int .u32 4294967295, .bool false]] X) ∨ ∃ (m : Nat) (qa9 qb9 qc9 : Nat), m < j ∧ s13 = .int .u32 0 ∧ s14 = .bool true ∧ s15 = .int .i64 ((m : Int) + 1) ∧ Own w0 wx [row (nd4) 176 ((newPar nd5 nd6).setIfInBounds 106 (.slice (some ⟨nd10, 0, none⟩) 1 (1 + nd11))), row (nd8) 191 #[.string ⟨#[107, 101, 101, 112]⟩, .int .u8 3, .pointer (some ⟨nd9, 0, none⟩), .int .i32 0, .nilIface, .int .i32 0, .int .i32 0, .int .u32 0, .int .u32 0, .pointer none, .int .u32 4294967295, .int .u32 4294967295, .slice none 0 0, .slice none 0 0, .slice none 0 0, .slice none 0 0, .int .i64 0, .nilIface, .int .i32 0, .slice none 0 0, .slice none 0 0, .slice none 0 0, .slice none 0 0, .slice none 0 0, .int .u32 4294967295, .int .u32 4294967295, .nilIface, .int .i32 0, .map none, .bool false, .bool false, .slice none 0 0, .slice none 0 0, .slice none 0 0, .slice none 0 0, .int .u32 4294967295, .int .u32 4294967295, .int .u32 4294967295, .int .u32 4294967295, .func (Fn.func 19) #[] #[.pointer (some ⟨qa9, 0, none⟩), .pointer (some ⟨qb9, 0, none⟩), .pointer (some ⟨qc9, 0, none⟩)], .nilFunc, .bool false], row (nd10) 199 (full symZ (symL [sy ⟨#[100, 101, 102, 97, 117, 108, 116]⟩ ((m + 1))]) nd11), row (nd9) 182 #[.slice none 0 0, .pointer (some ⟨nd8, 6, none⟩), .nilIface, .int .i32 0, .slice none 0 0, .int .i32 0, .int .i32 0, .int .i32 0, .int .i32 0, .bool false, .bool false], row (nd2) 4 (bools B n), row (qa9) 27 #[.pointer (some ⟨nd8, 0, none⟩)], row (qb9) 25 #[.pointer (some ⟨nd4, 0, none⟩)], row (qc9) 202 #[.pointer none, .int .u32 4294967295, .int .u32 4294967295, .int .u32 4294967295, .int .u32 4294967295, .bool false]] X))
  case atStart => exact ⟨0, rfl, by omega, Or.inl ⟨rfl, rfl, rfl, nd14, nd15, nd16, hO⟩⟩
  obtain ⟨j, rfl, hj, hcase⟩ := hrel
  obtain ⟨rfl, rfl, rfl, qa9, qb9, qc9, hO⟩ | ⟨m, qa9, qb9, qc9, hm, rfl, rfl, rfl, hO⟩ := hcase
  · skip
    by_cases hlt : j < n
    · skip
      obtain ⟨gq, rfl⟩ : ∃ gq, gk = gq + 1 := ⟨gk - 1, by omega⟩
      have hlt9 : (j : Int) < n := by omega
      cases hbj : B j
      · skip
        obtain ⟨ix9, hix9, hax9, hjx9⟩ := hO.ix
        have ix9_0 : ix9 nd4 = 0 := hjx9 0 _ _ rfl
        have ix9_1 : ix9 nd8 = 1 := hjx9 1 _ _ rfl
        have ix9_2 : ix9 nd10 = 2 := hjx9 2 _ _ rfl
        have ix9_3 : ix9 nd9 = 3 := hjx9 3 _ _ rfl
        have ix9_4 : ix9 nd2 = 4 := hjx9 4 _ _ rfl
        have ix9_5 : ix9 qa9 = 5 := hjx9 5 _ _ rfl
        have ix9_6 : ix9 qb9 = 6 := hjx9 6 _ _ rfl
        have ix9_7 : ix9 qc9 = 7 := hjx9 7 _ _ rfl
        clear hjx9
        have c9_0_32 : wr.cell? ⟨nd4, 32, none⟩ = some (.bool false) := hO.cell 0 rfl (32) ((get_other (newPar_32 _ _) (by omega) _))
        have c9_0_66 : wr.cell? ⟨nd4, 66, none⟩ = some (.int .u32 0) := hO.cell 0 rfl (66) ((get_other (newPar_66 _ _) (by omega) _))
        have c9_0_105 : wr.cell? ⟨nd4, 105, none⟩ = some (.pointer none) := hO.cell 0 rfl (105) ((get_other (newPar_105 _ _) (by omega) _))
        have c9_0_106 : wr.cell? ⟨nd4, 106, none⟩ = some (.slice (some ⟨nd10, 0, none⟩) 1 (1 + nd11)) := hO.cell 0 rfl (106) ((get_set (newPar_106 _ _) _))
        have c9_0_350 : wr.cell? ⟨nd4, 350, none⟩ = some (.bool false) := hO.cell 0 rfl (350) ((get_other (newPar_350 _ _) (by omega) _))
        have lt9_0 : nd4 < wr.heap.size := hO.lt 0 rfl
        have y9_0 : ∀ o, wr.frozen? ⟨nd4, o, none⟩ = false := hO.free 0 rfl
        have c9_1_0 : wr.cell? ⟨nd8, 0, none⟩ = some (.string ⟨#[107, 101, 101, 112]⟩) := hO.cell 1 rfl (0) rfl
        have c9_1_6 : wr.cell? ⟨nd8, 6, none⟩ = some (.int .i32 0) := hO.cell 1 rfl (6) rfl
        have c9_1_7 : wr.cell? ⟨nd8, 7, none⟩ = some (.int .u32 0) := hO.cell 1 rfl (7) rfl
        have c9_1_8 : wr.cell? ⟨nd8, 8, none⟩ = some (.int .u32 0) := hO.cell 1 rfl (8) rfl
        have lt9_1 : nd8 < wr.heap.size := hO.lt 1 rfl
        have y9_1 : ∀ o, wr.frozen? ⟨nd8, o, none⟩ = false := hO.free 1 rfl
        have c9_2_1 : wr.cell? ⟨nd10, 1, none⟩ = some (.string ⟨#[100, 101, 102, 97, 117, 108, 116]⟩) := hO.cell 2 rfl (1) ((full_at rfl))
        have c9_2_4 : wr.cell? ⟨nd10, 4, none⟩ = some (.int .u32 0) := hO.cell 2 rfl (4) ((full_at rfl))
        have lt9_2 : nd10 < wr.heap.size := hO.lt 2 rfl
        have y9_2 : ∀ o, wr.frozen? ⟨nd10, o, none⟩ = false := hO.free 2 rfl
        have c9_3_1 : wr.cell? ⟨nd9, 1, none⟩ = some (.pointer none) := hO.cell 3 rfl (1) rfl
        have lt9_3 : nd9 < wr.heap.size := hO.lt 3 rfl
        have y9_3 : ∀ o, wr.frozen? ⟨nd9, o, none⟩ = false := hO.free 3 rfl
        have c9_4_j : wr.cell? ⟨nd2, j, none⟩ = some (.bool false) := hO.cell 4 rfl (j) (((bools_at B n j hlt).trans (by rw [hbj])))
        have lt9_4 : nd2 < wr.heap.size := hO.lt 4 rfl
        have y9_4 : ∀ o, wr.frozen? ⟨nd2, o, none⟩ = false := hO.free 4 rfl
        obtain ⟨c9_5_0, lt9_5, y9_5, -⟩ := hO.k1 5 rfl
        obtain ⟨c9_6_0, lt9_6, y9_6, -⟩ := hO.k1 6 rfl
        obtain ⟨c9_7_0, c9_7_1, c9_7_2, c9_7_3, c9_7_4, c9_7_5, lt9_7, y9_7, -⟩ := hO.k6 7 rfl
        have HO := Lib.hid hO
        clear hO
        go_wp2_with (first | (with_reducible refine Own.stay (fn := Tryd.f3) ?_) | (first | (go_at_call 9; go_in) | (go_at_call 5; go_in)))
        try with_reducible refine Own.Stay.mk ?_
        have hO := HO.out
        clear HO hix9 hax9 ix9_0 ix9_1 ix9_2 ix9_3 ix9_4 ix9_5 ix9_6 ix9_7 ix9 c9_0_32 c9_0_66 c9_0_105 c9_0_106 c9_0_350 lt9_0 y9_0 c9_1_0 c9_1_6 c9_1_7 c9_1_8 lt9_1 y9_1 c9_2_1 c9_2_4 lt9_2 y9_2 c9_3_1 lt9_3 y9_3 c9_4_j lt9_4 y9_4 c9_5_0 lt9_5 y9_5 c9_6_0 lt9_6 y9_6 c9_7_0 c9_7_1 c9_7_2 c9_7_3 c9_7_4 c9_7_5 lt9_7 y9_7
        have hL := hO.apart
        have hX := hO.apartX
        have HL := Lib.hid hL
        have HX := Lib.hid hX
        clear hL hX
        have hP9 := hO.pick [0, 1] (by decide)
        have T9 := zenO nd4 ((newPar nd5 nd6).setIfInBounds 106 (.slice (some ⟨nd10, 0, none⟩) 1 (1 + nd11))) nd8 #[.string ⟨#[107, 101, 101, 112]⟩, .int .u8 3, .pointer (some ⟨nd9, 0, none⟩), .int .i32 0, .nilIface, .int .i32 0, .int .i32 0, .int .u32 0, .int .u32 0, .pointer none, .int .u32 4294967295, .int .u32 4294967295, .slice none 0 0, .slice none 0 0, .slice none 0 0, .slice none 0 0, .int .i64 0, .nilIface, .int .i32 0, .slice none 0 0, .slice none 0 0, .slice none 0 0, .slice none 0 0, .slice none 0 0, .int .u32 4294967295, .int .u32 4294967295, .nilIface, .int .i32 0, .map none, .bool false, .bool false, .slice none 0 0, .slice none 0 0, .slice none 0 0, .slice none 0 0, .int .u32 4294967295, .int .u32 4294967295, .int .u32 4294967295, .int .u32 4294967295, .func (Fn.func 19) #[] #[.pointer (some ⟨qa9, 0, none⟩), .pointer (some ⟨qb9, 0, none⟩), .pointer (some ⟨qc9, 0, none⟩)], .nilFunc, .bool false] (.func (Fn.func 19) #[] #[.pointer (some ⟨qa9, 0, none⟩), .pointer (some ⟨qb9, 0, none⟩), .pointer (some ⟨qc9, 0, none⟩)]) 0 _ _ _ hP9 (get_other (newPar_66 _ _) (by omega) _) rfl hg0 hg1
        refine Calls.mono T9 ?_
        clear hP9 T9
        rintro e u17 ⟨nd18, nd19, nd20, rfl, hQ⟩
        have hN : Own w0 u17 [row (nd4) 176 ((newPar nd5 nd6).setIfInBounds 106 (.slice (some ⟨nd10, 0, none⟩) 1 (1 + nd11))), row (nd8) 191 #[.string ⟨#[107, 101, 101, 112]⟩, .int .u8 3, .pointer (some ⟨nd9, 0, none⟩), .int .i32 0, .nilIface, .int .i32 0, .int .i32 0, .int .u32 0, .int .u32 0, .pointer none, .int .u32 4294967295, .int .u32 4294967295, .slice none 0 0, .slice none 0 0, .slice none 0 0, .slice none 0 0, .int .i64 0, .nilIface, .int .i32 0, .slice none 0 0, .slice none 0 0, .slice none 0 0, .slice none 0 0, .slice none 0 0, .int .u32 4294967295, .int .u32 4294967295, .nilIface, .int .i32 0, .map none, .bool false, .bool false, .slice none 0 0, .slice none 0 0, .slice none 0 0, .slice none 0 0, .int .u32 4294967295, .int .u32 4294967295, .int .u32 4294967295, .int .u32 4294967295, .func (Fn.func 19) #[] #[.pointer (some ⟨nd18, 0, none⟩), .pointer (some ⟨nd19, 0, none⟩), .pointer (some ⟨nd20, 0, none⟩)], .nilFunc, .bool false], row (nd18) 27 #[.pointer (some ⟨nd8, 0, none⟩)], row (nd19) 25 #[.pointer (some ⟨nd4, 0, none⟩)], row (nd20) 202 #[.pointer none, .int .u32 4294967295, .int .u32 4294967295, .int .u32 4294967295, .int .u32 4294967295, .bool false], row (nd10) 199 (full symZ (symL ([sy ⟨#[100, 101, 102, 97, 117, 108, 116]⟩ 0])) nd11), row (nd9) 182 #[.slice none 0 0, .pointer none, .nilIface, .int .i32 0, .slice none 0 0, .int .i32 0, .int .i32 0, .int .i32 0, .int .i32 0, .bool false, .bool false], row (nd2) 4 (bools B n), row (qa9) 27 #[.pointer (some ⟨nd8, 0, none⟩)], row (qb9) 25 #[.pointer (some ⟨nd4, 0, none⟩)], row (qc9) 202 #[.pointer none, .int .u32 4294967295, .int .u32 4294967295, .int .u32 4294967295, .int .u32 4294967295, .bool false]] X := hQ.back HL.out HX.out [2, 3, 4, 5, 6, 7] (by decide) (by decide)
        clear hQ HL HX hO
        have hO := hN
        clear hN
        have c9_1_0 : u17.cell? ⟨nd8, 0, none⟩ = some (.string ⟨#[107, 101, 101, 112]⟩) := hO.cell 1 rfl (0) rfl
        have c9_1_6 : u17.cell? ⟨nd8, 6, none⟩ = some (.int .i32 0) := hO.cell 1 rfl (6) rfl
        have c9_1_7 : u17.cell? ⟨nd8, 7, none⟩ = some (.int .u32 0) := hO.cell 1 rfl (7) rfl
        have c9_1_8 : u17.cell? ⟨nd8, 8, none⟩ = some (.int .u32 0) := hO.cell 1 rfl (8) rfl
        have lt9_1 : nd8 < u17.heap.size := hO.lt 1 rfl
        have y9_1 : ∀ o, u17.frozen? ⟨nd8, o, none⟩ = false := hO.free 1 rfl
        obtain ⟨c9_2_0, lt9_2, y9_2, -⟩ := hO.k1 2 rfl
        obtain ⟨c9_3_0, lt9_3, y9_3, -⟩ := hO.k1 3 rfl
        obtain ⟨c9_4_0, c9_4_1, c9_4_2, c9_4_3, c9_4_4, c9_4_5, lt9_4, y9_4, -⟩ := hO.k6 4 rfl
        have c9_6_1 : u17.cell? ⟨nd9, 1, none⟩ = some (.pointer none) := hO.cell 6 rfl (1) rfl
        have lt9_6 : nd9 < u17.heap.size := hO.lt 6 rfl
        have y9_6 : ∀ o, u17.frozen? ⟨nd9, o, none⟩ = false := hO.free 6 rfl
        obtain ⟨c9_8_0, lt9_8, y9_8, -⟩ := hO.k1 8 rfl
        obtain ⟨c9_9_0, lt9_9, y9_9, -⟩ := hO.k1 9 rfl
        obtain ⟨c9_10_0, c9_10_1, c9_10_2, c9_10_3, c9_10_4, c9_10_5, lt9_10, y9_10, -⟩ := hO.k6 10 rfl
        have HO := Lib.hid hO
        clear hO
        go_wp2_with (first | (with_reducible refine Own.stay (fn := Tryd.f3) ?_) | (first | (go_at_call 9; go_in) | (go_at_call 5; go_in)))
        try with_reducible refine Own.Stay.mk ?_
        have hO := HO.out
        clear HO c9_1_0 c9_1_6 c9_1_7 c9_1_8 lt9_1 y9_1 c9_2_0 lt9_2 y9_2 c9_3_0 lt9_3 y9_3 c9_4_0 c9_4_1 c9_4_2 c9_4_3 c9_4_4 c9_4_5 lt9_4 y9_4 c9_6_1 lt9_6 y9_6 c9_8_0 lt9_8 y9_8 c9_9_0 lt9_9 y9_9 c9_10_0 c9_10_1 c9_10_2 c9_10_3 c9_10_4 c9_10_5 lt9_10 y9_10
        have hN : Own w0 u17 [row (nd4) 176 ((newPar nd5 nd6).setIfInBounds 106 (.slice (some ⟨nd10, 0, none⟩) 1 (1 + nd11))), row (nd8) 191 #[.string ⟨#[107, 101, 101, 112]⟩, .int .u8 3, .pointer (some ⟨nd9, 0, none⟩), .int .i32 0, .nilIface, .int .i32 0, .int .i32 0, .int .u32 0, .int .u32 0, .pointer none, .int .u32 4294967295, .int .u32 4294967295, .slice none 0 0, .slice none 0 0, .slice none 0 0, .slice none 0 0, .int .i64 0, .nilIface, .int .i32 0, .slice none 0 0, .slice none 0 0, .slice none 0 0, .slice none 0 0, .slice none 0 0, .int .u32 4294967295, .int .u32 4294967295, .nilIface, .int .i32 0, .map none, .bool false, .bool false, .slice none 0 0, .slice none 0 0, .slice none 0 0, .slice none 0 0, .int .u32 4294967295, .int .u32 4294967295, .int .u32 4294967295, .int .u32 4294967295, .func (Fn.func 19) #[] #[.pointer (some ⟨nd18, 0, none⟩), .pointer (some ⟨nd19, 0, none⟩), .pointer (some ⟨nd20, 0, none⟩)], .nilFunc, .bool false], row (nd10) 199 (full symZ (symL ([sy ⟨#[100, 101, 102, 97, 117, 108, 116]⟩ 0])) nd11), row (nd9) 182 #[.slice none 0 0, .pointer none, .nilIface, .int .i32 0, .slice none 0 0, .int .i32 0, .int .i32 0, .int .i32 0, .int .i32 0, .bool false, .bool false], row (nd2) 4 (bools B n), row (nd18) 27 #[.pointer (some ⟨nd8, 0, none⟩)], row (nd19) 25 #[.pointer (some ⟨nd4, 0, none⟩)], row (nd20) 202 #[.pointer none, .int .u32 4294967295, .int .u32 4294967295, .int .u32 4294967295, .int .u32 4294967295, .bool false]] X := hO.sub [0, 1, 5, 6, 7, 2, 3, 4] (by decide)
        clear hO
        have hO := hN
        clear hN
        go_roundg gq
        case measure => omega
        case rel => exact ⟨j + 1, by simp, by omega, Or.inl ⟨rfl, rfl, rfl, nd18, nd19, nd20, hO⟩⟩
      · skip
        obtain ⟨ix9, hix9, hax9, hjx9⟩ := hO.ix
        have ix9_0 : ix9 nd4 = 0 := hjx9 0 _ _ rfl
        have ix9_1 : ix9 nd8 = 1 := hjx9 1 _ _ rfl
        have ix9_2 : ix9 nd10 = 2 := hjx9 2 _ _ rfl
        have ix9_3 : ix9 nd9 = 3 := hjx9 3 _ _ rfl
        have ix9_4 : ix9 nd2 = 4 := hjx9 4 _ _ rfl
        have ix9_5 : ix9 qa9 = 5 := hjx9 5 _ _ rfl
        have ix9_6 : ix9 qb9 = 6 := hjx9 6 _ _ rfl
        have ix9_7 : ix9 qc9 = 7 := hjx9 7 _ _ rfl
        clear hjx9
        have c9_0_32 : wr.cell? ⟨nd4, 32, none⟩ = some (.bool false) := hO.cell 0 rfl (32) ((get_other (newPar_32 _ _) (by omega) _))
        have c9_0_66 : wr.cell? ⟨nd4, 66, none⟩ = some (.int .u32 0) := hO.cell 0 rfl (66) ((get_other (newPar_66 _ _) (by omega) _))
        have c9_0_105 : wr.cell? ⟨nd4, 105, none⟩ = some (.pointer none) := hO.cell 0 rfl (105) ((get_other (newPar_105 _ _) (by omega) _))
        have c9_0_106 : wr.cell? ⟨nd4, 106, none⟩ = some (.slice (some ⟨nd10, 0, none⟩) 1 (1 + nd11)) := hO.cell 0 rfl (106) ((get_set (newPar_106 _ _) _))
        have c9_0_350 : wr.cell? ⟨nd4, 350, none⟩ = some (.bool false) := hO.cell 0 rfl (350) ((get_other (newPar_350 _ _) (by omega) _))
        have lt9_0 : nd4 < wr.heap.size := hO.lt 0 rfl
        have y9_0 : ∀ o, wr.frozen? ⟨nd4, o, none⟩ = false := hO.free 0 rfl
        have c9_1_0 : wr.cell? ⟨nd8, 0, none⟩ = some (.string ⟨#[107, 101, 101, 112]⟩) := hO.cell 1 rfl (0) rfl
        have c9_1_6 : wr.cell? ⟨nd8, 6, none⟩ = some (.int .i32 0) := hO.cell 1 rfl (6) rfl
        have c9_1_7 : wr.cell? ⟨nd8, 7, none⟩ = some (.int .u32 0) := hO.cell 1 rfl (7) rfl
        have c9_1_8 : wr.cell? ⟨nd8, 8, none⟩ = some (.int .u32 0) := hO.cell 1 rfl (8) rfl
        have lt9_1 : nd8 < wr.heap.size := hO.lt 1 rfl
        have y9_1 : ∀ o, wr.frozen? ⟨nd8, o, none⟩ = false := hO.free 1 rfl
        have c9_2_1 : wr.cell? ⟨nd10, 1, none⟩ = some (.string ⟨#[100, 101, 102, 97, 117, 108, 116]⟩) := hO.cell 2 rfl (1) ((full_at rfl))
        have c9_2_4 : wr.cell? ⟨nd10, 4, none⟩ = some (.int .u32 0) := hO.cell 2 rfl (4) ((full_at rfl))
        have lt9_2 : nd10 < wr.heap.size := hO.lt 2 rfl
        have y9_2 : ∀ o, wr.frozen? ⟨nd10, o, none⟩ = false := hO.free 2 rfl
        have c9_3_1 : wr.cell? ⟨nd9, 1, none⟩ = some (.pointer none) := hO.cell 3 rfl (1) rfl
        have lt9_3 : nd9 < wr.heap.size := hO.lt 3 rfl
        have y9_3 : ∀ o, wr.frozen? ⟨nd9, o, none⟩ = false := hO.free 3 rfl
        have c9_4_j : wr.cell? ⟨nd2, j, none⟩ = some (.bool true) := hO.cell 4 rfl (j) (((bools_at B n j hlt).trans (by rw [hbj])))
        have lt9_4 : nd2 < wr.heap.size := hO.lt 4 rfl
        have y9_4 : ∀ o, wr.frozen? ⟨nd2, o, none⟩ = false := hO.free 4 rfl
        obtain ⟨c9_5_0, lt9_5, y9_5, -⟩ := hO.k1 5 rfl
        obtain ⟨c9_6_0, lt9_6, y9_6, -⟩ := hO.k1 6 rfl
        obtain ⟨c9_7_0, c9_7_1, c9_7_2, c9_7_3, c9_7_4, c9_7_5, lt9_7, y9_7, -⟩ := hO.k6 7 rfl
        have HO := Lib.hid hO
        clear hO
        go_wp2_with (first | (with_reducible refine Own.stay (fn := Tryd.f3) ?_) | (first | (go_at_call 9; go_in) | (go_at_call 5; go_in)))
        try with_reducible refine Own.Stay.mk ?_
        have hO := HO.out
        clear HO hix9 hax9 ix9_0 ix9_1 ix9_2 ix9_3 ix9_4 ix9_5 ix9_6 ix9_7 ix9 c9_0_32 c9_0_66 c9_0_105 c9_0_106 c9_0_350 lt9_0 y9_0 c9_1_0 c9_1_6 c9_1_7 c9_1_8 lt9_1 y9_1 c9_2_1 c9_2_4 lt9_2 y9_2 c9_3_1 lt9_3 y9_3 c9_4_j lt9_4 y9_4 c9_5_0 lt9_5 y9_5 c9_6_0 lt9_6 y9_6 c9_7_0 c9_7_1 c9_7_2 c9_7_3 c9_7_4 c9_7_5 lt9_7 y9_7
        have hL := hO.apart
        have hX := hO.apartX
        have HL := Lib.hid hL
        have HX := Lib.hid hX
        clear hL hX
        have hP9 := hO.pick [0, 2, 1, 3, 5, 6, 7] (by decide)
        have h9_hn : ([sy ⟨#[100, 101, 102, 97, 117, 108, 116]⟩ 0]).length = 1 := rfl
        have h9_hnb : 1 ≤ 4000000 := (by decide)
        have h9_hu : ∃ s, ([sy ⟨#[100, 101, 102, 97, 117, 108, 116]⟩ 0])[0]? = some s ∧ s.uc < 4294967295 := ⟨sy _ 0, rfl, (by show 0 < _; omega)⟩
        have T9 := nfrD1 nd4 ((newPar nd5 nd6).setIfInBounds 106 (.slice (some ⟨nd10, 0, none⟩) 1 (1 + nd11))) nd10 nd11 ([sy ⟨#[100, 101, 102, 97, 117, 108, 116]⟩ 0]) 1 nd8 #[.string ⟨#[107, 101, 101, 112]⟩, .int .u8 3, .pointer (some ⟨nd9, 0, none⟩), .int .i32 0, .nilIface, .int .i32 0, .int .i32 0, .int .u32 0, .int .u32 0, .pointer none, .int .u32 4294967295, .int .u32 4294967295, .slice none 0 0, .slice none 0 0, .slice none 0 0, .slice none 0 0, .int .i64 0, .nilIface, .int .i32 0, .slice none 0 0, .slice none 0 0, .slice none 0 0, .slice none 0 0, .slice none 0 0, .int .u32 4294967295, .int .u32 4294967295, .nilIface, .int .i32 0, .map none, .bool false, .bool false, .slice none 0 0, .slice none 0 0, .slice none 0 0, .slice none 0 0, .int .u32 4294967295, .int .u32 4294967295, .int .u32 4294967295, .int .u32 4294967295, .func (Fn.func 19) #[] #[.pointer (some ⟨qa9, 0, none⟩), .pointer (some ⟨qb9, 0, none⟩), .pointer (some ⟨qc9, 0, none⟩)], .nilFunc, .bool false] nd9 #[.slice none 0 0, .pointer none, .nilIface, .int .i32 0, .slice none 0 0, .int .i32 0, .int .i32 0, .int .i32 0, .int .i32 0, .bool false, .bool false] qa9 qb9 qc9 0 _ _ _ hP9 (get_other (newPar_350 _ _) (by omega) _) (get_other (newPar_32 _ _) (by omega) _) (get_other (newPar_105 _ _) (by omega) _) (get_set (newPar_106 _ _) _) h9_hn h9_hnb h9_hu rfl rfl rfl rfl rfl rfl hg0 hg1 rfl
        refine Calls.mono T9 ?_
        clear hP9 T9 h9_hn h9_hnb h9_hu
        rintro e u21 ⟨rfl, hQ⟩
        have hN : Own w0 u21 [row (nd4) 176 ((newPar nd5 nd6).setIfInBounds 106 (.slice (some ⟨nd10, 0, none⟩) 1 (1 + nd11))), row (nd10) 199 (full symZ (symL ([sy ⟨#[100, 101, 102, 97, 117, 108, 116]⟩ 1])) nd11), row (nd8) 191 #[.string ⟨#[107, 101, 101, 112]⟩, .int .u8 3, .pointer (some ⟨nd9, 0, none⟩), .int .i32 0, .nilIface, .int .i32 0, .int .i32 0, .int .u32 0, .int .u32 0, .pointer none, .int .u32 4294967295, .int .u32 4294967295, .slice none 0 0, .slice none 0 0, .slice none 0 0, .slice none 0 0, .int .i64 0, .nilIface, .int .i32 0, .slice none 0 0, .slice none 0 0, .slice none 0 0, .slice none 0 0, .slice none 0 0, .int .u32 4294967295, .int .u32 4294967295, .nilIface, .int .i32 0, .map none, .bool false, .bool false, .slice none 0 0, .slice none 0 0, .slice none 0 0, .slice none 0 0, .int .u32 4294967295, .int .u32 4294967295, .int .u32 4294967295, .int .u32 4294967295, .func (Fn.func 19) #[] #[.pointer (some ⟨qa9, 0, none⟩), .pointer (some ⟨qb9, 0, none⟩), .pointer (some ⟨qc9, 0, none⟩)], .nilFunc, .bool false], row (nd9) 182 #[.slice none 0 0, .pointer (some ⟨nd8, 6, none⟩), .nilIface, .int .i32 0, .slice none 0 0, .int .i32 0, .int .i32 0, .int .i32 0, .int .i32 0, .bool false, .bool false], row (qa9) 27 #[.pointer (some ⟨nd8, 0, none⟩)], row (qb9) 25 #[.pointer (some ⟨nd4, 0, none⟩)], row (qc9) 202 #[.pointer none, .int .u32 4294967295, .int .u32 4294967295, .int .u32 4294967295, .int .u32 4294967295, .bool false], row (nd2) 4 (bools B n)] X := hQ.back HL.out HX.out [4] (by decide) (by decide)
        clear hQ HL HX hO
        have hO := hN
        clear hN
        have c9_2_0 : u21.cell? ⟨nd8, 0, none⟩ = some (.string ⟨#[107, 101, 101, 112]⟩) := hO.cell 2 rfl (0) rfl
        have c9_2_6 : u21.cell? ⟨nd8, 6, none⟩ = some (.int .i32 0) := hO.cell 2 rfl (6) rfl
        have c9_2_7 : u21.cell? ⟨nd8, 7, none⟩ = some (.int .u32 0) := hO.cell 2 rfl (7) rfl
        have c9_2_8 : u21.cell? ⟨nd8, 8, none⟩ = some (.int .u32 0) := hO.cell 2 rfl (8) rfl
        have lt9_2 : nd8 < u21.heap.size := hO.lt 2 rfl
        have y9_2 : ∀ o, u21.frozen? ⟨nd8, o, none⟩ = false := hO.free 2 rfl
        have c9_3_1 : u21.cell? ⟨nd9, 1, none⟩ = some (.pointer (some ⟨nd8, 6, none⟩)) := hO.cell 3 rfl (1) rfl
        have lt9_3 : nd9 < u21.heap.size := hO.lt 3 rfl
        have y9_3 : ∀ o, u21.frozen? ⟨nd9, o, none⟩ = false := hO.free 3 rfl
        obtain ⟨c9_4_0, lt9_4, y9_4, -⟩ := hO.k1 4 rfl
        obtain ⟨c9_5_0, lt9_5, y9_5, -⟩ := hO.k1 5 rfl
        obtain ⟨c9_6_0, c9_6_1, c9_6_2, c9_6_3, c9_6_4, c9_6_5, lt9_6, y9_6, -⟩ := hO.k6 6 rfl
        have HO := Lib.hid hO
        clear hO
        go_wp2_with (first | (with_reducible refine Own.stay (fn := Tryd.f3) ?_) | (first | (go_at_call 9; go_in) | (go_at_call 5; go_in)))
        try with_reducible refine Own.Stay.mk ?_
        have hO := HO.out
        clear HO c9_2_0 c9_2_6 c9_2_7 c9_2_8 lt9_2 y9_2 c9_3_1 lt9_3 y9_3 c9_4_0 lt9_4 y9_4 c9_5_0 lt9_5 y9_5 c9_6_0 c9_6_1 c9_6_2 c9_6_3 c9_6_4 c9_6_5 lt9_6 y9_6
        have hN : Own w0 u21 [row (nd4) 176 ((newPar nd5 nd6).setIfInBounds 106 (.slice (some ⟨nd10, 0, none⟩) 1 (1 + nd11))), row (nd8) 191 #[.string ⟨#[107, 101, 101, 112]⟩, .int .u8 3, .pointer (some ⟨nd9, 0, none⟩), .int .i32 0, .nilIface, .int .i32 0, .int .i32 0, .int .u32 0, .int .u32 0, .pointer none, .int .u32 4294967295, .int .u32 4294967295, .slice none 0 0, .slice none 0 0, .slice none 0 0, .slice none 0 0, .int .i64 0, .nilIface, .int .i32 0, .slice none 0 0, .slice none 0 0, .slice none 0 0, .slice none 0 0, .slice none 0 0, .int .u32 4294967295, .int .u32 4294967295, .nilIface, .int .i32 0, .map none, .bool false, .bool false, .slice none 0 0, .slice none 0 0, .slice none 0 0, .slice none 0 0, .int .u32 4294967295, .int .u32 4294967295, .int .u32 4294967295, .int .u32 4294967295, .func (Fn.func 19) #[] #[.pointer (some ⟨qa9, 0, none⟩), .pointer (some ⟨qb9, 0, none⟩), .pointer (some ⟨qc9, 0, none⟩)], .nilFunc, .bool false], row (nd10) 199 (full symZ (symL ([sy ⟨#[100, 101, 102, 97, 117, 108, 116]⟩ 1])) nd11), row (nd9) 182 #[.slice none 0 0, .pointer (some ⟨nd8, 6, none⟩), .nilIface, .int .i32 0, .slice none 0 0, .int .i32 0, .int .i32 0, .int .i32 0, .int .i32 0, .bool false, .bool false], row (nd2) 4 (bools B n), row (qa9) 27 #[.pointer (some ⟨nd8, 0, none⟩)], row (qb9) 25 #[.pointer (some ⟨nd4, 0, none⟩)], row (qc9) 202 #[.pointer none, .int .u32 4294967295, .int .u32 4294967295, .int .u32 4294967295, .int .u32 4294967295, .bool false]] X := hO.sub [0, 2, 1, 3, 7, 4, 5, 6] (by decide)
        clear hO
        have hO := hN
        clear hN
        go_roundg gq
        case measure => omega
        case rel => exact ⟨j + 1, by simp, by omega, Or.inr ⟨0, qa9, qb9, qc9, by omega, rfl, rfl, by simp, hO⟩⟩
    obtain rfl : gk = 0 := by omega
    obtain rfl : j = n := by omega
    have hlt9 : ¬ (j : Int) < j := by omega
    have c9_1_0 : wr.cell? ⟨nd8, 0, none⟩ = some (.string ⟨#[107, 101, 101, 112]⟩) := hO.cell 1 rfl (0) rfl
    have c9_1_6 : wr.cell? ⟨nd8, 6, none⟩ = some (.int .i32 0) := hO.cell 1 rfl (6) rfl
    have c9_1_7 : wr.cell? ⟨nd8, 7, none⟩ = some (.int .u32 0) := hO.cell 1 rfl (7) rfl
    have c9_1_8 : wr.cell? ⟨nd8, 8, none⟩ = some (.int .u32 0) := hO.cell 1 rfl (8) rfl
    have lt9_1 : nd8 < wr.heap.size := hO.lt 1 rfl
    have y9_1 : ∀ o, wr.frozen? ⟨nd8, o, none⟩ = false := hO.free 1 rfl
    have c9_3_1 : wr.cell? ⟨nd9, 1, none⟩ = some (.pointer none) := hO.cell 3 rfl (1) rfl
    have lt9_3 : nd9 < wr.heap.size := hO.lt 3 rfl
    have y9_3 : ∀ o, wr.frozen? ⟨nd9, o, none⟩ = false := hO.free 3 rfl
    obtain ⟨c9_5_0, lt9_5, y9_5, -⟩ := hO.k1 5 rfl
    obtain ⟨c9_6_0, lt9_6, y9_6, -⟩ := hO.k1 6 rfl
    obtain ⟨c9_7_0, c9_7_1, c9_7_2, c9_7_3, c9_7_4, c9_7_5, lt9_7, y9_7, -⟩ := hO.k6 7 rfl
    have HO := Lib.hid hO
    clear hO
    go_wp2_with (first | (with_reducible refine Own.stay (fn := Tryd.f3) ?_) | (first | (go_at_call 9; go_in) | (go_at_call 5; go_in)))
    try with_reducible refine Own.Stay.mk ?_
    have hO := HO.out
    clear HO c9_1_0 c9_1_6 c9_1_7 c9_1_8 lt9_1 y9_1 c9_3_1 lt9_3 y9_3 c9_5_0 lt9_5 y9_5 c9_6_0 lt9_6 y9_6 c9_7_0 c9_7_1 c9_7_2 c9_7_3 c9_7_4 c9_7_5 lt9_7 y9_7
    have hL := hO.apart
    have hX := hO.apartX
    have HL := Lib.hid hL
    have HX := Lib.hid hX
    clear hL hX
    have hP9 := hO.pick [0] (by decide)
    have T9 := symCnt nd4 ((newPar nd5 nd6).setIfInBounds 106 (.slice (some ⟨nd10, 0, none⟩) 1 (1 + nd11))) nd10 nd11 1 _ _ _ hP9 (get_set (newPar_106 _ _) _)
    refine Calls.mono T9 ?_
    clear hP9 T9
    rintro e u22 ⟨rfl, hQ⟩
    have hN : Own w0 u22 [row (nd4) 176 ((newPar nd5 nd6).setIfInBounds 106 (.slice (some ⟨nd10, 0, none⟩) 1 (1 + nd11))), row (nd8) 191 #[.string ⟨#[107, 101, 101, 112]⟩, .int .u8 3, .pointer (some ⟨nd9, 0, none⟩), .int .i32 0, .nilIface, .int .i32 0, .int .i32 0, .int .u32 0, .int .u32 0, .pointer none, .int .u32 4294967295, .int .u32 4294967295, .slice none 0 0, .slice none 0 0, .slice none 0 0, .slice none 0 0, .int .i64 0, .nilIface, .int .i32 0, .slice none 0 0, .slice none 0 0, .slice none 0 0, .slice none 0 0, .slice none 0 0, .int .u32 4294967295, .int .u32 4294967295, .nilIface, .int .i32 0, .map none, .bool false, .bool false, .slice none 0 0, .slice none 0 0, .slice none 0 0, .slice none 0 0, .int .u32 4294967295, .int .u32 4294967295, .int .u32 4294967295, .int .u32 4294967295, .func (Fn.func 19) #[] #[.pointer (some ⟨qa9, 0, none⟩), .pointer (some ⟨qb9, 0, none⟩), .pointer (some ⟨qc9, 0, none⟩)], .nilFunc, .bool false], row (nd10) 199 (full symZ (symL ([sy ⟨#[100, 101, 102, 97, 117, 108, 116]⟩ 0])) nd11), row (nd9) 182 #[.slice none 0 0, .pointer none, .nilIface, .int .i32 0, .slice none 0 0, .int .i32 0, .int .i32 0, .int .i32 0, .int .i32 0, .bool false, .bool false], row (nd2) 4 (bools B j), row (qa9) 27 #[.pointer (some ⟨nd8, 0, none⟩)], row (qb9) 25 #[.pointer (some ⟨nd4, 0, none⟩)], row (qc9) 202 #[.pointer none, .int .u32 4294967295, .int .u32 4294967295, .int .u32 4294967295, .int .u32 4294967295, .bool false]] X := hQ.back HL.out HX.out [1, 2, 3, 4, 5, 6, 7] (by decide) (by decide)
    clear hQ HL HX hO
    have hO := hN
    clear hN
    have c9_1_0 : u22.cell? ⟨nd8, 0, none⟩ = some (.string ⟨#[107, 101, 101, 112]⟩) := hO.cell 1 rfl (0) rfl
    have c9_1_6 : u22.cell? ⟨nd8, 6, none⟩ = some (.int .i32 0) := hO.cell 1 rfl (6) rfl
    have c9_1_7 : u22.cell? ⟨nd8, 7, none⟩ = some (.int .u32 0) := hO.cell 1 rfl (7) rfl
    have c9_1_8 : u22.cell? ⟨nd8, 8, none⟩ = some (.int .u32 0) := hO.cell 1 rfl (8) rfl
    have lt9_1 : nd8 < u22.heap.size := hO.lt 1 rfl
    have y9_1 : ∀ o, u22.frozen? ⟨nd8, o, none⟩ = false := hO.free 1 rfl
    have c9_3_1 : u22.cell? ⟨nd9, 1, none⟩ = some (.pointer none) := hO.cell 3 rfl (1) rfl
    have lt9_3 : nd9 < u22.heap.size := hO.lt 3 rfl
    have y9_3 : ∀ o, u22.frozen? ⟨nd9, o, none⟩ = false := hO.free 3 rfl
    obtain ⟨c9_5_0, lt9_5, y9_5, -⟩ := hO.k1 5 rfl
    obtain ⟨c9_6_0, lt9_6, y9_6, -⟩ := hO.k1 6 rfl
    obtain ⟨c9_7_0, c9_7_1, c9_7_2, c9_7_3, c9_7_4, c9_7_5, lt9_7, y9_7, -⟩ := hO.k6 7 rfl
    have HO := Lib.hid hO
    clear hO
    go_wp2_with (first | (with_reducible refine Own.stay (fn := Tryd.f3) ?_) | (first | (go_at_call 9; go_in) | (go_at_call 5; go_in)))
    try with_reducible refine Own.Stay.mk ?_
    have hO := HO.out
    clear HO c9_1_0 c9_1_6 c9_1_7 c9_1_8 lt9_1 y9_1 c9_3_1 lt9_3 y9_3 c9_5_0 lt9_5 y9_5 c9_6_0 lt9_6 y9_6 c9_7_0 c9_7_1 c9_7_2 c9_7_3 c9_7_4 c9_7_5 lt9_7 y9_7
    refine bodyPost_ret (v := .bool true) ?_ rfl ⟨rfl, hO.sub [] (by decide)⟩
    simp [results, Tryd.results3, go_sem]
  by_cases hlt : j < n
  · skip
    obtain ⟨gq, rfl⟩ : ∃ gq, gk = gq + 1 := ⟨gk - 1, by omega⟩
    have hlt9 : (j : Int) < n := by omega
    cases hbj : B j
    · skip
      obtain ⟨ix9, hix9, hax9, hjx9⟩ := hO.ix
      have ix9_0 : ix9 nd4 = 0 := hjx9 0 _ _ rfl
      have ix9_1 : ix9 nd8 = 1 := hjx9 1 _ _ rfl
      have ix9_2 : ix9 nd10 = 2 := hjx9 2 _ _ rfl
      have ix9_3 : ix9 nd9 = 3 := hjx9 3 _ _ rfl
      have ix9_4 : ix9 nd2 = 4 := hjx9 4 _ _ rfl
      have ix9_5 : ix9 qa9 = 5 := hjx9 5 _ _ rfl
      have ix9_6 : ix9 qb9 = 6 := hjx9 6 _ _ rfl
      have ix9_7 : ix9 qc9 = 7 := hjx9 7 _ _ rfl
      clear hjx9
      have c9_0_32 : wr.cell? ⟨nd4, 32, none⟩ = some (.bool false) := hO.cell 0 rfl (32) ((get_other (newPar_32 _ _) (by omega) _))
      have c9_0_66 : wr.cell? ⟨nd4, 66, none⟩ = some (.int .u32 0) := hO.cell 0 rfl (66) ((get_other (newPar_66 _ _) (by omega) _))
      have c9_0_105 : wr.cell? ⟨nd4, 105, none⟩ = some (.pointer none) := hO.cell 0 rfl (105) ((get_other (newPar_105 _ _) (by omega) _))
      have c9_0_106 : wr.cell? ⟨nd4, 106, none⟩ = some (.slice (some ⟨nd10, 0, none⟩) 1 (1 + nd11)) := hO.cell 0 rfl (106) ((get_set (newPar_106 _ _) _))
      have c9_0_350 : wr.cell? ⟨nd4, 350, none⟩ = some (.bool false) := hO.cell 0 rfl (350) ((get_other (newPar_350 _ _) (by omega) _))
      have lt9_0 : nd4 < wr.heap.size := hO.lt 0 rfl
      have y9_0 : ∀ o, wr.frozen? ⟨nd4, o, none⟩ = false := hO.free 0 rfl
      have c9_1_0 : wr.cell? ⟨nd8, 0, none⟩ = some (.string ⟨#[107, 101, 101, 112]⟩) := hO.cell 1 rfl (0) rfl
      have c9_1_6 : wr.cell? ⟨nd8, 6, none⟩ = some (.int .i32 0) := hO.cell 1 rfl (6) rfl
      have c9_1_7 : wr.cell? ⟨nd8, 7, none⟩ = some (.int .u32 0) := hO.cell 1 rfl (7) rfl
      have c9_1_8 : wr.cell? ⟨nd8, 8, none⟩ = some (.int .u32 0) := hO.cell 1 rfl (8) rfl
      have lt9_1 : nd8 < wr.heap.size := hO.lt 1 rfl
      have y9_1 : ∀ o, wr.frozen? ⟨nd8, o, none⟩ = false := hO.free 1 rfl
      have c9_2_1 : wr.cell? ⟨nd10, 1, none⟩ = some (.string ⟨#[100, 101, 102, 97, 117, 108, 116]⟩) := hO.cell 2 rfl (1) ((full_at rfl))
      have c9_2_4 : wr.cell? ⟨nd10, 4, none⟩ = some (.int .u32 (m + 1 : Int)) := hO.cell 2 rfl (4) ((full_at rfl))
      have lt9_2 : nd10 < wr.heap.size := hO.lt 2 rfl
      have y9_2 : ∀ o, wr.frozen? ⟨nd10, o, none⟩ = false := hO.free 2 rfl
      have c9_3_1 : wr.cell? ⟨nd9, 1, none⟩ = some (.pointer (some ⟨nd8, 6, none⟩)) := hO.cell 3 rfl (1) rfl
      have lt9_3 : nd9 < wr.heap.size := hO.lt 3 rfl
      have y9_3 : ∀ o, wr.frozen? ⟨nd9, o, none⟩ = false := hO.free 3 rfl
      have c9_4_j : wr.cell? ⟨nd2, j, none⟩ = some (.bool false) := hO.cell 4 rfl (j) (((bools_at B n j hlt).trans (by rw [hbj])))
      have lt9_4 : nd2 < wr.heap.size := hO.lt 4 rfl
      have y9_4 : ∀ o, wr.frozen? ⟨nd2, o, none⟩ = false := hO.free 4 rfl
      obtain ⟨c9_5_0, lt9_5, y9_5, -⟩ := hO.k1 5 rfl
      obtain ⟨c9_6_0, lt9_6, y9_6, -⟩ := hO.k1 6 rfl
      obtain ⟨c9_7_0, c9_7_1, c9_7_2, c9_7_3, c9_7_4, c9_7_5, lt9_7, y9_7, -⟩ := hO.k6 7 rfl
      have HO := Lib.hid hO
      clear hO
      go_wp2_with (first | (with_reducible refine Own.stay (fn := Tryd.f3) ?_) | (first | (go_at_call 9; go_in) | (go_at_call 5; go_in)))
      try with_reducible refine Own.Stay.mk ?_
      have hO := HO.out
      clear HO hix9 hax9 ix9_0 ix9_1 ix9_2 ix9_3 ix9_4 ix9_5 ix9_6 ix9_7 ix9 c9_0_32 c9_0_66 c9_0_105 c9_0_106 c9_0_350 lt9_0 y9_0 c9_1_0 c9_1_6 c9_1_7 c9_1_8 lt9_1 y9_1 c9_2_1 c9_2_4 lt9_2 y9_2 c9_3_1 lt9_3 y9_3 c9_4_j lt9_4 y9_4 c9_5_0 lt9_5 y9_5 c9_6_0 lt9_6 y9_6 c9_7_0 c9_7_1 c9_7_2 c9_7_3 c9_7_4 c9_7_5 lt9_7 y9_7
      have hL := hO.apart
      have hX := hO.apartX
      have HL := Lib.hid hL
      have HX := Lib.hid hX
      clear hL hX
      have hP9 := hO.pick [0, 1] (by decide)
      have T9 := zenO nd4 ((newPar nd5 nd6).setIfInBounds 106 (.slice (some ⟨nd10, 0, none⟩) 1 (1 + nd11))) nd8 #[.string ⟨#[107, 101, 101, 112]⟩, .int .u8 3, .pointer (some ⟨nd9, 0, none⟩), .int .i32 0, .nilIface, .int .i32 0, .int .i32 0, .int .u32 0, .int .u32 0, .pointer none, .int .u32 4294967295, .int .u32 4294967295, .slice none 0 0, .slice none 0 0, .slice none 0 0, .slice none 0 0, .int .i64 0, .nilIface, .int .i32 0, .slice none 0 0, .slice none 0 0, .slice none 0 0, .slice none 0 0, .slice none 0 0, .int .u32 4294967295, .int .u32 4294967295, .nilIface, .int .i32 0, .map none, .bool false, .bool false, .slice none 0 0, .slice none 0 0, .slice none 0 0, .slice none 0 0, .int .u32 4294967295, .int .u32 4294967295, .int .u32 4294967295, .int .u32 4294967295, .func (Fn.func 19) #[] #[.pointer (some ⟨qa9, 0, none⟩), .pointer (some ⟨qb9, 0, none⟩), .pointer (some ⟨qc9, 0, none⟩)], .nilFunc, .bool false] (.func (Fn.func 19) #[] #[.pointer (some ⟨qa9, 0, none⟩), .pointer (some ⟨qb9, 0, none⟩), .pointer (some ⟨qc9, 0, none⟩)]) 0 _ _ _ hP9 (get_other (newPar_66 _ _) (by omega) _) rfl hg0 hg1
      refine Calls.mono T9 ?_
      clear hP9 T9
      rintro e u23 ⟨nd24, nd25, nd26, rfl, hQ⟩
      have hN : Own w0 u23 [row (nd4) 176 ((newPar nd5 nd6).setIfInBounds 106 (.slice (some ⟨nd10, 0, none⟩) 1 (1 + nd11))), row (nd8) 191 #[.string ⟨#[107, 101, 101, 112]⟩, .int .u8 3, .pointer (some ⟨nd9, 0, none⟩), .int .i32 0, .nilIface, .int .i32 0, .int .i32 0, .int .u32 0, .int .u32 0, .pointer none, .int .u32 4294967295, .int .u32 4294967295, .slice none 0 0, .slice none 0 0, .slice none 0 0, .slice none 0 0, .int .i64 0, .nilIface, .int .i32 0, .slice none 0 0, .slice none 0 0, .slice none 0 0, .slice none 0 0, .slice none 0 0, .int .u32 4294967295, .int .u32 4294967295, .nilIface, .int .i32 0, .map none, .bool false, .bool false, .slice none 0 0, .slice none 0 0, .slice none 0 0, .slice none 0 0, .int .u32 4294967295, .int .u32 4294967295, .int .u32 4294967295, .int .u32 4294967295, .func (Fn.func 19) #[] #[.pointer (some ⟨nd24, 0, none⟩), .pointer (some ⟨nd25, 0, none⟩), .pointer (some ⟨nd26, 0, none⟩)], .nilFunc, .bool false], row (nd24) 27 #[.pointer (some ⟨nd8, 0, none⟩)], row (nd25) 25 #[.pointer (some ⟨nd4, 0, none⟩)], row (nd26) 202 #[.pointer none, .int .u32 4294967295, .int .u32 4294967295, .int .u32 4294967295, .int .u32 4294967295, .bool false], row (nd10) 199 (full symZ (symL ([sy ⟨#[100, 101, 102, 97, 117, 108, 116]⟩ ((m + 1))])) nd11), row (nd9) 182 #[.slice none 0 0, .pointer (some ⟨nd8, 6, none⟩), .nilIface, .int .i32 0, .slice none 0 0, .int .i32 0, .int .i32 0, .int .i32 0, .int .i32 0, .bool false, .bool false], row (nd2) 4 (bools B n), row (qa9) 27 #[.pointer (some ⟨nd8, 0, none⟩)], row (qb9) 25 #[.pointer (some ⟨nd4, 0, none⟩)], row (qc9) 202 #[.pointer none, .int .u32 4294967295, .int .u32 4294967295, .int .u32 4294967295, .int .u32 4294967295, .bool false]] X := hQ.back HL.out HX.out [2, 3, 4, 5, 6, 7] (by decide) (by decide)
      clear hQ HL HX hO
      have hO := hN
      clear hN
      have c9_1_0 : u23.cell? ⟨nd8, 0, none⟩ = some (.string ⟨#[107, 101, 101, 112]⟩) := hO.cell 1 rfl (0) rfl
      have c9_1_6 : u23.cell? ⟨nd8, 6, none⟩ = some (.int .i32 0) := hO.cell 1 rfl (6) rfl
      have c9_1_7 : u23.cell? ⟨nd8, 7, none⟩ = some (.int .u32 0) := hO.cell 1 rfl (7) rfl
      have c9_1_8 : u23.cell? ⟨nd8, 8, none⟩ = some (.int .u32 0) := hO.cell 1 rfl (8) rfl
      have lt9_1 : nd8 < u23.heap.size := hO.lt 1 rfl
      have y9_1 : ∀ o, u23.frozen? ⟨nd8, o, none⟩ = false := hO.free 1 rfl
      obtain ⟨c9_2_0, lt9_2, y9_2, -⟩ := hO.k1 2 rfl
      obtain ⟨c9_3_0, lt9_3, y9_3, -⟩ := hO.k1 3 rfl
      obtain ⟨c9_4_0, c9_4_1, c9_4_2, c9_4_3, c9_4_4, c9_4_5, lt9_4, y9_4, -⟩ := hO.k6 4 rfl
      have c9_6_1 : u23.cell? ⟨nd9, 1, none⟩ = some (.pointer (some ⟨nd8, 6, none⟩)) := hO.cell 6 rfl (1) rfl
      have lt9_6 : nd9 < u23.heap.size := hO.lt 6 rfl
      have y9_6 : ∀ o, u23.frozen? ⟨nd9, o, none⟩ = false := hO.free 6 rfl
      obtain ⟨c9_8_0, lt9_8, y9_8, -⟩ := hO.k1 8 rfl
      obtain ⟨c9_9_0, lt9_9, y9_9, -⟩ := hO.k1 9 rfl
      obtain ⟨c9_10_0, c9_10_1, c9_10_2, c9_10_3, c9_10_4, c9_10_5, lt9_10, y9_10, -⟩ := hO.k6 10 rfl
      have HO := Lib.hid hO
      clear hO
      go_wp2_with (first | (with_reducible refine Own.stay (fn := Tryd.f3) ?_) | (first | (go_at_call 9; go_in) | (go_at_call 5; go_in)))
      try with_reducible refine Own.Stay.mk ?_
      have hO := HO.out
      clear HO c9_1_0 c9_1_6 c9_1_7 c9_1_8 lt9_1 y9_1 c9_2_0 lt9_2 y9_2 c9_3_0 lt9_3 y9_3 c9_4_0 c9_4_1 c9_4_2 c9_4_3 c9_4_4 c9_4_5 lt9_4 y9_4 c9_6_1 lt9_6 y9_6 c9_8_0 lt9_8 y9_8 c9_9_0 lt9_9 y9_9 c9_10_0 c9_10_1 c9_10_2 c9_10_3 c9_10_4 c9_10_5 lt9_10 y9_10
      have hN : Own w0 u23 [row (nd4) 176 ((newPar nd5 nd6).setIfInBounds 106 (.slice (some ⟨nd10, 0, none⟩) 1 (1 + nd11))), row (nd8) 191 #[.string ⟨#[107, 101, 101, 112]⟩, .int .u8 3, .pointer (some ⟨nd9, 0, none⟩), .int .i32 0, .nilIface, .int .i32 0, .int .i32 0, .int .u32 0, .int .u32 0, .pointer none, .int .u32 4294967295, .int .u32 4294967295, .slice none 0 0, .slice none 0 0, .slice none 0 0, .slice none 0 0, .int .i64 0, .nilIface, .int .i32 0, .slice none 0 0, .slice none 0 0, .slice none 0 0, .slice none 0 0, .slice none 0 0, .int .u32 4294967295, .int .u32 4294967295, .nilIface, .int .i32 0, .map none, .bool false, .bool false, .slice none 0 0, .slice none 0 0, .slice none 0 0, .slice none 0 0, .int .u32 4294967295, .int .u32 4294967295, .int .u32 4294967295, .int .u32 4294967295, .func (Fn.func 19) #[] #[.pointer (some ⟨nd24, 0, none⟩), .pointer (some ⟨nd25, 0, none⟩), .pointer (some ⟨nd26, 0, none⟩)], .nilFunc, .bool false], row (nd10) 199 (full symZ (symL ([sy ⟨#[100, 101, 102, 97, 117, 108, 116]⟩ ((m + 1))])) nd11), row (nd9) 182 #[.slice none 0 0, .pointer (some ⟨nd8, 6, none⟩), .nilIface, .int .i32 0, .slice none 0 0, .int .i32 0, .int .i32 0, .int .i32 0, .int .i32 0, .bool false, .bool false], row (nd2) 4 (bools B n), row (nd24) 27 #[.pointer (some ⟨nd8, 0, none⟩)], row (nd25) 25 #[.pointer (some ⟨nd4, 0, none⟩)], row (nd26) 202 #[.pointer none, .int .u32 4294967295, .int .u32 4294967295, .int .u32 4294967295, .int .u32 4294967295, .bool false]] X := hO.sub [0, 1, 5, 6, 7, 2, 3, 4] (by decide)
      clear hO
      have hO := hN
      clear hN
      go_roundg gq
      case measure => omega
      case rel => exact ⟨j + 1, by simp, by omega, Or.inr ⟨m, nd24, nd25, nd26, by omega, rfl, rfl, rfl, hO⟩⟩
    · skip
      obtain ⟨ix9, hix9, hax9, hjx9⟩ := hO.ix
      have ix9_0 : ix9 nd4 = 0 := hjx9 0 _ _ rfl
      have ix9_1 : ix9 nd8 = 1 := hjx9 1 _ _ rfl
      have ix9_2 : ix9 nd10 = 2 := hjx9 2 _ _ rfl
      have ix9_3 : ix9 nd9 = 3 := hjx9 3 _ _ rfl
      have ix9_4 : ix9 nd2 = 4 := hjx9 4 _ _ rfl
      have ix9_5 : ix9 qa9 = 5 := hjx9 5 _ _ rfl
      have ix9_6 : ix9 qb9 = 6 := hjx9 6 _ _ rfl
      have ix9_7 : ix9 qc9 = 7 := hjx9 7 _ _ rfl
      clear hjx9
      have c9_0_32 : wr.cell? ⟨nd4, 32, none⟩ = some (.bool false) := hO.cell 0 rfl (32) ((get_other (newPar_32 _ _) (by omega) _))
      have c9_0_66 : wr.cell? ⟨nd4, 66, none⟩ = some (.int .u32 0) := hO.cell 0 rfl (66) ((get_other (newPar_66 _ _) (by omega) _))
      have c9_0_105 : wr.cell? ⟨nd4, 105, none⟩ = some (.pointer none) := hO.cell 0 rfl (105) ((get_other (newPar_105 _ _) (by omega) _))
      have c9_0_106 : wr.cell? ⟨nd4, 106, none⟩ = some (.slice (some ⟨nd10, 0, none⟩) 1 (1 + nd11)) := hO.cell 0 rfl (106) ((get_set (newPar_106 _ _) _))
      have c9_0_350 : wr.cell? ⟨nd4, 350, none⟩ = some (.bool false) := hO.cell 0 rfl (350) ((get_other (newPar_350 _ _) (by omega) _))
      have lt9_0 : nd4 < wr.heap.size := hO.lt 0 rfl
      have y9_0 : ∀ o, wr.frozen? ⟨nd4, o, none⟩ = false := hO.free 0 rfl
      have c9_1_0 : wr.cell? ⟨nd8, 0, none⟩ = some (.string ⟨#[107, 101, 101, 112]⟩) := hO.cell 1 rfl (0) rfl
      have c9_1_6 : wr.cell? ⟨nd8, 6, none⟩ = some (.int .i32 0) := hO.cell 1 rfl (6) rfl
      have c9_1_7 : wr.cell? ⟨nd8, 7, none⟩ = some (.int .u32 0) := hO.cell 1 rfl (7) rfl
      have c9_1_8 : wr.cell? ⟨nd8, 8, none⟩ = some (.int .u32 0) := hO.cell 1 rfl (8) rfl
      have lt9_1 : nd8 < wr.heap.size := hO.lt 1 rfl
      have y9_1 : ∀ o, wr.frozen? ⟨nd8, o, none⟩ = false := hO.free 1 rfl
      have c9_2_1 : wr.cell? ⟨nd10, 1, none⟩ = some (.string ⟨#[100, 101, 102, 97, 117, 108, 116]⟩) := hO.cell 2 rfl (1) ((full_at rfl))
      have c9_2_4 : wr.cell? ⟨nd10, 4, none⟩ = some (.int .u32 (m + 1 : Int)) := hO.cell 2 rfl (4) ((full_at rfl))
      have lt9_2 : nd10 < wr.heap.size := hO.lt 2 rfl
      have y9_2 : ∀ o, wr.frozen? ⟨nd10, o, none⟩ = false := hO.free 2 rfl
      have c9_3_1 : wr.cell? ⟨nd9, 1, none⟩ = some (.pointer (some ⟨nd8, 6, none⟩)) := hO.cell 3 rfl (1) rfl
      have lt9_3 : nd9 < wr.heap.size := hO.lt 3 rfl
      have y9_3 : ∀ o, wr.frozen? ⟨nd9, o, none⟩ = false := hO.free 3 rfl
      have c9_4_j : wr.cell? ⟨nd2, j, none⟩ = some (.bool true) := hO.cell 4 rfl (j) (((bools_at B n j hlt).trans (by rw [hbj])))
      have lt9_4 : nd2 < wr.heap.size := hO.lt 4 rfl
      have y9_4 : ∀ o, wr.frozen? ⟨nd2, o, none⟩ = false := hO.free 4 rfl
      obtain ⟨c9_5_0, lt9_5, y9_5, -⟩ := hO.k1 5 rfl
      obtain ⟨c9_6_0, lt9_6, y9_6, -⟩ := hO.k1 6 rfl
      obtain ⟨c9_7_0, c9_7_1, c9_7_2, c9_7_3, c9_7_4, c9_7_5, lt9_7, y9_7, -⟩ := hO.k6 7 rfl
      have HO := Lib.hid hO
      clear hO
      go_wp2_with (first | (with_reducible refine Own.stay (fn := Tryd.f3) ?_) | (first | (go_at_call 9; go_in) | (go_at_call 5; go_in)))
      try with_reducible refine Own.Stay.mk ?_
      have hO := HO.out
      clear HO hix9 hax9 ix9_0 ix9_1 ix9_2 ix9_3 ix9_4 ix9_5 ix9_6 ix9_7 ix9 c9_0_32 c9_0_66 c9_0_105 c9_0_106 c9_0_350 lt9_0 y9_0 c9_1_0 c9_1_6 c9_1_7 c9_1_8 lt9_1 y9_1 c9_2_1 c9_2_4 lt9_2 y9_2 c9_3_1 lt9_3 y9_3 c9_4_j lt9_4 y9_4 c9_5_0 lt9_5 y9_5 c9_6_0 lt9_6 y9_6 c9_7_0 c9_7_1 c9_7_2 c9_7_3 c9_7_4 c9_7_5 lt9_7 y9_7
      have hL := hO.apart
      have hX := hO.apartX
      have HL := Lib.hid hL
      have HX := Lib.hid hX
      clear hL hX
      have hP9 := hO.pick [0, 2, 1, 3, 5, 6, 7] (by decide)
      have h9_hn : ([sy ⟨#[100, 101, 102, 97, 117, 108, 116]⟩ (m + 1)]).length = 1 := rfl
      have h9_hnb : 1 ≤ 4000000 := (by decide)
      have h9_hu : ∃ s, ([sy ⟨#[100, 101, 102, 97, 117, 108, 116]⟩ (m + 1)])[0]? = some s ∧ s.uc < 4294967295 := ⟨sy _ (m + 1), rfl, (by show (m + 1) < _; omega)⟩
      have T9 := nfrD2 nd4 ((newPar nd5 nd6).setIfInBounds 106 (.slice (some ⟨nd10, 0, none⟩) 1 (1 + nd11))) nd10 nd11 ([sy ⟨#[100, 101, 102, 97, 117, 108, 116]⟩ (m + 1)]) 1 nd8 #[.string ⟨#[107, 101, 101, 112]⟩, .int .u8 3, .pointer (some ⟨nd9, 0, none⟩), .int .i32 0, .nilIface, .int .i32 0, .int .i32 0, .int .u32 0, .int .u32 0, .pointer none, .int .u32 4294967295, .int .u32 4294967295, .slice none 0 0, .slice none 0 0, .slice none 0 0, .slice none 0 0, .int .i64 0, .nilIface, .int .i32 0, .slice none 0 0, .slice none 0 0, .slice none 0 0, .slice none 0 0, .slice none 0 0, .int .u32 4294967295, .int .u32 4294967295, .nilIface, .int .i32 0, .map none, .bool false, .bool false, .slice none 0 0, .slice none 0 0, .slice none 0 0, .slice none 0 0, .int .u32 4294967295, .int .u32 4294967295, .int .u32 4294967295, .int .u32 4294967295, .func (Fn.func 19) #[] #[.pointer (some ⟨qa9, 0, none⟩), .pointer (some ⟨qb9, 0, none⟩), .pointer (some ⟨qc9, 0, none⟩)], .nilFunc, .bool false] nd9 #[.slice none 0 0, .pointer (some ⟨nd8, 6, none⟩), .nilIface, .int .i32 0, .slice none 0 0, .int .i32 0, .int .i32 0, .int .i32 0, .int .i32 0, .bool false, .bool false] qa9 qb9 qc9 0 _ _ _ hP9 (get_other (newPar_350 _ _) (by omega) _) (get_other (newPar_32 _ _) (by omega) _) (get_other (newPar_105 _ _) (by omega) _) (get_set (newPar_106 _ _) _) h9_hn h9_hnb h9_hu rfl rfl rfl rfl rfl rfl hg0 hg1 rfl
      refine Calls.mono T9 ?_
      clear hP9 T9 h9_hn h9_hnb h9_hu
      rintro e u27 ⟨rfl, hQ⟩
      have hN : Own w0 u27 [row (nd4) 176 ((newPar nd5 nd6).setIfInBounds 106 (.slice (some ⟨nd10, 0, none⟩) 1 (1 + nd11))), row (nd10) 199 (full symZ (symL ([sy ⟨#[100, 101, 102, 97, 117, 108, 116]⟩ (m + 1 + 1)])) nd11), row (nd8) 191 #[.string ⟨#[107, 101, 101, 112]⟩, .int .u8 3, .pointer (some ⟨nd9, 0, none⟩), .int .i32 0, .nilIface, .int .i32 0, .int .i32 0, .int .u32 0, .int .u32 0, .pointer none, .int .u32 4294967295, .int .u32 4294967295, .slice none 0 0, .slice none 0 0, .slice none 0 0, .slice none 0 0, .int .i64 0, .nilIface, .int .i32 0, .slice none 0 0, .slice none 0 0, .slice none 0 0, .slice none 0 0, .slice none 0 0, .int .u32 4294967295, .int .u32 4294967295, .nilIface, .int .i32 0, .map none, .bool false, .bool false, .slice none 0 0, .slice none 0 0, .slice none 0 0, .slice none 0 0, .int .u32 4294967295, .int .u32 4294967295, .int .u32 4294967295, .int .u32 4294967295, .func (Fn.func 19) #[] #[.pointer (some ⟨qa9, 0, none⟩), .pointer (some ⟨qb9, 0, none⟩), .pointer (some ⟨qc9, 0, none⟩)], .nilFunc, .bool false], row (nd9) 182 #[.slice none 0 0, .pointer (some ⟨nd8, 6, none⟩), .nilIface, .int .i32 0, .slice none 0 0, .int .i32 0, .int .i32 0, .int .i32 0, .int .i32 0, .bool false, .bool false], row (qa9) 27 #[.pointer (some ⟨nd8, 0, none⟩)], row (qb9) 25 #[.pointer (some ⟨nd4, 0, none⟩)], row (qc9) 202 #[.pointer none, .int .u32 4294967295, .int .u32 4294967295, .int .u32 4294967295, .int .u32 4294967295, .bool false], row (nd2) 4 (bools B n)] X := hQ.back HL.out HX.out [4] (by decide) (by decide)
      clear hQ HL HX hO
      have hO := hN
      clear hN
      have c9_2_0 : u27.cell? ⟨nd8, 0, none⟩ = some (.string ⟨#[107, 101, 101, 112]⟩) := hO.cell 2 rfl (0) rfl
      have c9_2_6 : u27.cell? ⟨nd8, 6, none⟩ = some (.int .i32 0) := hO.cell 2 rfl (6) rfl
      have c9_2_7 : u27.cell? ⟨nd8, 7, none⟩ = some (.int .u32 0) := hO.cell 2 rfl (7) rfl
      have c9_2_8 : u27.cell? ⟨nd8, 8, none⟩ = some (.int .u32 0) := hO.cell 2 rfl (8) rfl
      have lt9_2 : nd8 < u27.heap.size := hO.lt 2 rfl
      have y9_2 : ∀ o, u27.frozen? ⟨nd8, o, none⟩ = false := hO.free 2 rfl
      have c9_3_1 : u27.cell? ⟨nd9, 1, none⟩ = some (.pointer (some ⟨nd8, 6, none⟩)) := hO.cell 3 rfl (1) rfl
      have lt9_3 : nd9 < u27.heap.size := hO.lt 3 rfl
      have y9_3 : ∀ o, u27.frozen? ⟨nd9, o, none⟩ = false := hO.free 3 rfl
      obtain ⟨c9_4_0, lt9_4, y9_4, -⟩ := hO.k1 4 rfl
      obtain ⟨c9_5_0, lt9_5, y9_5, -⟩ := hO.k1 5 rfl
      obtain ⟨c9_6_0, c9_6_1, c9_6_2, c9_6_3, c9_6_4, c9_6_5, lt9_6, y9_6, -⟩ := hO.k6 6 rfl
      have HO := Lib.hid hO
      clear hO
      go_wp2_with (first | (with_reducible refine Own.stay (fn := Tryd.f3) ?_) | (first | (go_at_call 9; go_in) | (go_at_call 5; go_in)))
      try with_reducible refine Own.Stay.mk ?_
      have hO := HO.out
      clear HO c9_2_0 c9_2_6 c9_2_7 c9_2_8 lt9_2 y9_2 c9_3_1 lt9_3 y9_3 c9_4_0 lt9_4 y9_4 c9_5_0 lt9_5 y9_5 c9_6_0 c9_6_1 c9_6_2 c9_6_3 c9_6_4 c9_6_5 lt9_6 y9_6
      have hN : Own w0 u27 [row (nd4) 176 ((newPar nd5 nd6).setIfInBounds 106 (.slice (some ⟨nd10, 0, none⟩) 1 (1 + nd11))), row (nd8) 191 #[.string ⟨#[107, 101, 101, 112]⟩, .int .u8 3, .pointer (some ⟨nd9, 0, none⟩), .int .i32 0, .nilIface, .int .i32 0, .int .i32 0, .int .u32 0, .int .u32 0, .pointer none, .int .u32 4294967295, .int .u32 4294967295, .slice none 0 0, .slice none 0 0, .slice none 0 0, .slice none 0 0, .int .i64 0, .nilIface, .int .i32 0, .slice none 0 0, .slice none 0 0, .slice none 0 0, .slice none 0 0, .slice none 0 0, .int .u32 4294967295, .int .u32 4294967295, .nilIface, .int .i32 0, .map none, .bool false, .bool false, .slice none 0 0, .slice none 0 0, .slice none 0 0, .slice none 0 0, .int .u32 4294967295, .int .u32 4294967295, .int .u32 4294967295, .int .u32 4294967295, .func (Fn.func 19) #[] #[.pointer (some ⟨qa9, 0, none⟩), .pointer (some ⟨qb9, 0, none⟩), .pointer (some ⟨qc9, 0, none⟩)], .nilFunc, .bool false], row (nd10) 199 (full symZ (symL ([sy ⟨#[100, 101, 102, 97, 117, 108, 116]⟩ (m + 1 + 1)])) nd11), row (nd9) 182 #[.slice none 0 0, .pointer (some ⟨nd8, 6, none⟩), .nilIface, .int .i32 0, .slice none 0 0, .int .i32 0, .int .i32 0, .int .i32 0, .int .i32 0, .bool false, .bool false], row (nd2) 4 (bools B n), row (qa9) 27 #[.pointer (some ⟨nd8, 0, none⟩)], row (qb9) 25 #[.pointer (some ⟨nd4, 0, none⟩)], row (qc9) 202 #[.pointer none, .int .u32 4294967295, .int .u32 4294967295, .int .u32 4294967295, .int .u32 4294967295, .bool false]] X := hO.sub [0, 2, 1, 3, 7, 4, 5, 6] (by decide)
      clear hO
      have hO := hN
      clear hN
      go_roundg gq
      case measure => omega
      case rel => exact ⟨j + 1, by simp, by omega, Or.inr ⟨(m + 1), qa9, qb9, qc9, by omega, rfl, rfl, by simp, hO⟩⟩
  obtain rfl : gk = 0 := by omega
  obtain rfl : j = n := by omega
  have hlt9 : ¬ (j : Int) < j := by omega
  have hw9 : IntKind.u32.wrap ((m : Int) + 1) = (m : Int) + 1 := by rw [IntKind.wrap_u32]; omega
  have c9_1_0 : wr.cell? ⟨nd8, 0, none⟩ = some (.string ⟨#[107, 101, 101, 112]⟩) := hO.cell 1 rfl (0) rfl
  have c9_1_6 : wr.cell? ⟨nd8, 6, none⟩ = some (.int .i32 0) := hO.cell 1 rfl (6) rfl
  have c9_1_7 : wr.cell? ⟨nd8, 7, none⟩ = some (.int .u32 0) := hO.cell 1 rfl (7) rfl
  have c9_1_8 : wr.cell? ⟨nd8, 8, none⟩ = some (.int .u32 0) := hO.cell 1 rfl (8) rfl
  have lt9_1 : nd8 < wr.heap.size := hO.lt 1 rfl
  have y9_1 : ∀ o, wr.frozen? ⟨nd8, o, none⟩ = false := hO.free 1 rfl
  have c9_3_1 : wr.cell? ⟨nd9, 1, none⟩ = some (.pointer (some ⟨nd8, 6, none⟩)) := hO.cell 3 rfl (1) rfl
  have lt9_3 : nd9 < wr.heap.size := hO.lt 3 rfl
  have y9_3 : ∀ o, wr.frozen? ⟨nd9, o, none⟩ = false := hO.free 3 rfl
  obtain ⟨c9_5_0, lt9_5, y9_5, -⟩ := hO.k1 5 rfl
  obtain ⟨c9_6_0, lt9_6, y9_6, -⟩ := hO.k1 6 rfl
  obtain ⟨c9_7_0, c9_7_1, c9_7_2, c9_7_3, c9_7_4, c9_7_5, lt9_7, y9_7, -⟩ := hO.k6 7 rfl
  have HO := Lib.hid hO
  clear hO
  go_wp2_with (first | (with_reducible refine Own.stay (fn := Tryd.f3) ?_) | (first | (go_at_call 9; go_in) | (go_at_call 5; go_in)))
  try with_reducible refine Own.Stay.mk ?_
  have hO := HO.out
  clear HO c9_1_0 c9_1_6 c9_1_7 c9_1_8 lt9_1 y9_1 c9_3_1 lt9_3 y9_3 c9_5_0 lt9_5 y9_5 c9_6_0 lt9_6 y9_6 c9_7_0 c9_7_1 c9_7_2 c9_7_3 c9_7_4 c9_7_5 lt9_7 y9_7
  have hL := hO.apart
  have hX := hO.apartX
  have HL := Lib.hid hL
  have HX := Lib.hid hX
  clear hL hX
  have hP9 := hO.pick [0] (by decide)
  have T9 := symCnt nd4 ((newPar nd5 nd6).setIfInBounds 106 (.slice (some ⟨nd10, 0, none⟩) 1 (1 + nd11))) nd10 nd11 1 _ _ _ hP9 (get_set (newPar_106 _ _) _)
  refine Calls.mono T9 ?_
  clear hP9 T9
  rintro e u28 ⟨rfl, hQ⟩
  have hN : Own w0 u28 [row (nd4) 176 ((newPar nd5 nd6).setIfInBounds 106 (.slice (some ⟨nd10, 0, none⟩) 1 (1 + nd11))), row (nd8) 191 #[.string ⟨#[107, 101, 101, 112]⟩, .int .u8 3, .pointer (some ⟨nd9, 0, none⟩), .int .i32 0, .nilIface, .int .i32 0, .int .i32 0, .int .u32 0, .int .u32 0, .pointer none, .int .u32 4294967295, .int .u32 4294967295, .slice none 0 0, .slice none 0 0, .slice none 0 0, .slice none 0 0, .int .i64 0, .nilIface, .int .i32 0, .slice none 0 0, .slice none 0 0, .slice none 0 0, .slice none 0 0, .slice none 0 0, .int .u32 4294967295, .int .u32 4294967295, .nilIface, .int .i32 0, .map none, .bool false, .bool false, .slice none 0 0, .slice none 0 0, .slice none 0 0, .slice none 0 0, .int .u32 4294967295, .int .u32 4294967295, .int .u32 4294967295, .int .u32 4294967295, .func (Fn.func 19) #[] #[.pointer (some ⟨qa9, 0, none⟩), .pointer (some ⟨qb9, 0, none⟩), .pointer (some ⟨qc9, 0, none⟩)], .nilFunc, .bool false], row (nd10) 199 (full symZ (symL ([sy ⟨#[100, 101, 102, 97, 117, 108, 116]⟩ ((m + 1))])) nd11), row (nd9) 182 #[.slice none 0 0, .pointer (some ⟨nd8, 6, none⟩), .nilIface, .int .i32 0, .slice none 0 0, .int .i32 0, .int .i32 0, .int .i32 0, .int .i32 0, .bool false, .bool false], row (nd2) 4 (bools B j), row (qa9) 27 #[.pointer (some ⟨nd8, 0, none⟩)], row (qb9) 25 #[.pointer (some ⟨nd4, 0, none⟩)], row (qc9) 202 #[.pointer none, .int .u32 4294967295, .int .u32 4294967295, .int .u32 4294967295, .int .u32 4294967295, .bool false]] X := hQ.back HL.out HX.out [1, 2, 3, 4, 5, 6, 7] (by decide) (by decide)
  clear hQ HL HX hO
  have hO := hN
  clear hN
  have c9_1_0 : u28.cell? ⟨nd8, 0, none⟩ = some (.string ⟨#[107, 101, 101, 112]⟩) := hO.cell 1 rfl (0) rfl
  have c9_1_6 : u28.cell? ⟨nd8, 6, none⟩ = some (.int .i32 0) := hO.cell 1 rfl (6) rfl
  have c9_1_7 : u28.cell? ⟨nd8, 7, none⟩ = some (.int .u32 0) := hO.cell 1 rfl (7) rfl
  have c9_1_8 : u28.cell? ⟨nd8, 8, none⟩ = some (.int .u32 0) := hO.cell 1 rfl (8) rfl
  have lt9_1 : nd8 < u28.heap.size := hO.lt 1 rfl
  have y9_1 : ∀ o, u28.frozen? ⟨nd8, o, none⟩ = false := hO.free 1 rfl
  have c9_3_1 : u28.cell? ⟨nd9, 1, none⟩ = some (.pointer (some ⟨nd8, 6, none⟩)) := hO.cell 3 rfl (1) rfl
  have lt9_3 : nd9 < u28.heap.size := hO.lt 3 rfl
  have y9_3 : ∀ o, u28.frozen? ⟨nd9, o, none⟩ = false := hO.free 3 rfl
  obtain ⟨c9_5_0, lt9_5, y9_5, -⟩ := hO.k1 5 rfl
  obtain ⟨c9_6_0, lt9_6, y9_6, -⟩ := hO.k1 6 rfl
  obtain ⟨c9_7_0, c9_7_1, c9_7_2, c9_7_3, c9_7_4, c9_7_5, lt9_7, y9_7, -⟩ := hO.k6 7 rfl
  have HO := Lib.hid hO
  clear hO
  go_wp2_with (first | (with_reducible refine Own.stay (fn := Tryd.f3) ?_) | (first | (go_at_call 9; go_in) | (go_at_call 5; go_in)))
  try with_reducible refine Own.Stay.mk ?_
  have hO := HO.out
  clear HO c9_1_0 c9_1_6 c9_1_7 c9_1_8 lt9_1 y9_1 c9_3_1 lt9_3 y9_3 c9_5_0 lt9_5 y9_5 c9_6_0 lt9_6 y9_6 c9_7_0 c9_7_1 c9_7_2 c9_7_3 c9_7_4 c9_7_5 lt9_7 y9_7
  have hL := hO.apart
  have hX := hO.apartX
  have HL := Lib.hid hL
  have HX := Lib.hid hX
  clear hL hX
  have hP9 := hO.pick [0, 2] (by decide)
  have h9_hn : ([sy ⟨#[100, 101, 102, 97, 117, 108, 116]⟩ (m + 1)]).length = 1 := rfl
  have h9_hnb : 1 ≤ 4000000 := (by decide)
  have h9_hi : 0 < 1 := (by decide)
  have h9_hs : ([sy ⟨#[100, 101, 102, 97, 117, 108, 116]⟩ (m + 1)])[0]? = some (sy (⟨#[100, 101, 102, 97, 117, 108, 116]⟩ : ByteArray) (m + 1)) := rfl
  have T9 := useCnt nd4 ((newPar nd5 nd6).setIfInBounds 106 (.slice (some ⟨nd10, 0, none⟩) 1 (1 + nd11))) nd10 nd11 ([sy ⟨#[100, 101, 102, 97, 117, 108, 116]⟩ (m + 1)]) 1 0 ⟨#[100, 101, 102, 97, 117, 108, 116]⟩ (m + 1) _ _ _ hP9 (get_set (newPar_106 _ _) _) h9_hn h9_hnb h9_hi h9_hs
  refine Calls.mono T9 ?_
  clear hP9 T9 h9_hn h9_hnb h9_hi h9_hs
  rintro e u29 ⟨rfl, hQ⟩
  have hN : Own w0 u29 [row (nd4) 176 ((newPar nd5 nd6).setIfInBounds 106 (.slice (some ⟨nd10, 0, none⟩) 1 (1 + nd11))), row (nd10) 199 (full symZ (symL ([sy ⟨#[100, 101, 102, 97, 117, 108, 116]⟩ (m + 1)])) nd11), row (nd8) 191 #[.string ⟨#[107, 101, 101, 112]⟩, .int .u8 3, .pointer (some ⟨nd9, 0, none⟩), .int .i32 0, .nilIface, .int .i32 0, .int .i32 0, .int .u32 0, .int .u32 0, .pointer none, .int .u32 4294967295, .int .u32 4294967295, .slice none 0 0, .slice none 0 0, .slice none 0 0, .slice none 0 0, .int .i64 0, .nilIface, .int .i32 0, .slice none 0 0, .slice none 0 0, .slice none 0 0, .slice none 0 0, .slice none 0 0, .int .u32 4294967295, .int .u32 4294967295, .nilIface, .int .i32 0, .map none, .bool false, .bool false, .slice none 0 0, .slice none 0 0, .slice none 0 0, .slice none 0 0, .int .u32 4294967295, .int .u32 4294967295, .int .u32 4294967295, .int .u32 4294967295, .func (Fn.func 19) #[] #[.pointer (some ⟨qa9, 0, none⟩), .pointer (some ⟨qb9, 0, none⟩), .pointer (some ⟨qc9, 0, none⟩)], .nilFunc, .bool false], row (nd9) 182 #[.slice none 0 0, .pointer (some ⟨nd8, 6, none⟩), .nilIface, .int .i32 0, .slice none 0 0, .int .i32 0, .int .i32 0, .int .i32 0, .int .i32 0, .bool false, .bool false], row (nd2) 4 (bools B j), row (qa9) 27 #[.pointer (some ⟨nd8, 0, none⟩)], row (qb9) 25 #[.pointer (some ⟨nd4, 0, none⟩)], row (qc9) 202 #[.pointer none, .int .u32 4294967295, .int .u32 4294967295, .int .u32 4294967295, .int .u32 4294967295, .bool false]] X := hQ.back HL.out HX.out [1, 3, 4, 5, 6, 7] (by decide) (by decide)
  clear hQ HL HX hO
  have hO := hN
  clear hN
  have c9_2_0 : u29.cell? ⟨nd8, 0, none⟩ = some (.string ⟨#[107, 101, 101, 112]⟩) := hO.cell 2 rfl (0) rfl
  have c9_2_6 : u29.cell? ⟨nd8, 6, none⟩ = some (.int .i32 0) := hO.cell 2 rfl (6) rfl
  have c9_2_7 : u29.cell? ⟨nd8, 7, none⟩ = some (.int .u32 0) := hO.cell 2 rfl (7) rfl
  have c9_2_8 : u29.cell? ⟨nd8, 8, none⟩ = some (.int .u32 0) := hO.cell 2 rfl (8) rfl
  have lt9_2 : nd8 < u29.heap.size := hO.lt 2 rfl
  have y9_2 : ∀ o, u29.frozen? ⟨nd8, o, none⟩ = false := hO.free 2 rfl
  have c9_3_1 : u29.cell? ⟨nd9, 1, none⟩ = some (.pointer (some ⟨nd8, 6, none⟩)) := hO.cell 3 rfl (1) rfl
  have lt9_3 : nd9 < u29.heap.size := hO.lt 3 rfl
  have y9_3 : ∀ o, u29.frozen? ⟨nd9, o, none⟩ = false := hO.free 3 rfl
  obtain ⟨c9_5_0, lt9_5, y9_5, -⟩ := hO.k1 5 rfl
  obtain ⟨c9_6_0, lt9_6, y9_6, -⟩ := hO.k1 6 rfl
  obtain ⟨c9_7_0, c9_7_1, c9_7_2, c9_7_3, c9_7_4, c9_7_5, lt9_7, y9_7, -⟩ := hO.k6 7 rfl
  have HO := Lib.hid hO
  clear hO
  go_wp2_with (first | (with_reducible refine Own.stay (fn := Tryd.f3) ?_) | (first | (go_at_call 9; go_in) | (go_at_call 5; go_in)))
  try with_reducible refine Own.Stay.mk ?_
  have hO := HO.out
  clear HO c9_2_0 c9_2_6 c9_2_7 c9_2_8 lt9_2 y9_2 c9_3_1 lt9_3 y9_3 c9_5_0 lt9_5 y9_5 c9_6_0 lt9_6 y9_6 c9_7_0 c9_7_1 c9_7_2 c9_7_3 c9_7_4 c9_7_5 lt9_7 y9_7
  refine bodyPost_ret (v := .bool true) ?_ rfl ⟨rfl, hO.sub [] (by decide)⟩
  simp [results, Tryd.results3, go_sem]
end Go.Proofs.YtaoflhnkhgclhaaDoor.Use
