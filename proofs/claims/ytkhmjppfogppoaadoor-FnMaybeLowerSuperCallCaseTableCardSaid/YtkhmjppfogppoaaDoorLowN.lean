/- A super call that is not lowered. No condition. -/
import Derived.Test.YtkhmjppfogppoaaDoorShl
import Derived.Test.YtkhmjppfogppoaaDoorLoop
import Derived.Test.YtkhmjppfogppoaaDoorLive
import Derived.Test.YtkhmjppfogppoaaDoorApp
import Derived.Test.YtkhmjppfogppoaaDoorOwnK
import Derived.Test.YtkhmjppfogppoaaDoorOwn
import Derived.Test.YtkhmjppfogppoaaDoorDeepCells
import Derived.Test.YtkhmjppfogppoaaDoorRows
import Derived.Test.YtkhmjppfogppoaaDoorUse
namespace Go.Proofs.YtkhmjppfogppoaaDoor.Use
open Go.ChangeShapes Go.WideShapes Go.ChangeAt Go.RowKit Go.Sort Own
set_option linter.unusedVariables false
def lowN0Post (pb : Nat) (PC : Array Value) (ec ab ln cp : Nat) (loc : Int) (tg sp : Nat) (name : ByteArray) (w0 : World) (X : Nat → Obj → Prop) (e : Ending) (w' : World) : Prop :=
  e = .returned (.tuple #[]) ∧ Own w0 w' [row (pb) 193 PC, row (ec) 71 #[.iface 225 (.pointer (some ⟨tg, 0, none⟩)), .int .i32 loc, .slice (some ⟨ab, 0, none⟩) ln cp, .int .i32 0, .int .u8 0, .int .u8 0, .bool false, .bool false], row (tg) 228 #[.iface 229 (.pointer (some ⟨sp, 0, none⟩)), .int .i32 loc, .string name, .int .i32 loc, .int .u8 0, .bool false, .bool false, .bool false]] X
set_option maxRecDepth 100000 in
set_option maxHeartbeats 1000000 in
theorem lowN0 (pb : Nat) (PC : Array Value) (ec ab ln cp : Nat) (loc : Int) (tg sp : Nat) (name : ByteArray) (w0 w : World) (X : Nat → Obj → Prop) (hO : Own w0 w [row (pb) 193 PC, row (ec) 71 #[.iface 225 (.pointer (some ⟨tg, 0, none⟩)), .int .i32 loc, .slice (some ⟨ab, 0, none⟩) ln cp, .int .i32 0, .int .u8 0, .int .u8 0, .bool false, .bool false], row (tg) 228 #[.iface 229 (.pointer (some ⟨sp, 0, none⟩)), .int .i32 loc, .string name, .int .i32 loc, .int .u8 0, .bool false, .bool false, .bool false]] X) (hk338 : PC[338]? = some (.bool false)) :
    Calls Tryd.prog 47 #[.pointer (some ⟨pb, 0, none⟩), .pointer (some ⟨ec, 0, none⟩)] w (lowN0Post pb PC ec ab ln cp loc tg sp name w0 X) := by
  go_enter Tryd.func47, Tryd.ntmps47
  obtain ⟨c9_1_0, c9_1_1, c9_1_2, c9_1_3, c9_1_4, c9_1_5, c9_1_6, c9_1_7, lt9_1, y9_1, -⟩ := hO.k8 1 rfl
  obtain ⟨c9_2_0, c9_2_1, c9_2_2, c9_2_3, c9_2_4, c9_2_5, c9_2_6, c9_2_7, lt9_2, y9_2, -⟩ := hO.k8 2 rfl
  have HO := Lib.hid hO
  clear hO
  go_wp2_with (first | (with_reducible refine Own.stay (fn := Tryd.f47) ?_) | fail)
  try with_reducible refine Own.Stay.mk ?_
  have hO := HO.out
  clear HO c9_1_0 c9_1_1 c9_1_2 c9_1_3 c9_1_4 c9_1_5 c9_1_6 c9_1_7 lt9_1 y9_1 c9_2_0 c9_2_1 c9_2_2 c9_2_3 c9_2_4 c9_2_5 c9_2_6 c9_2_7 lt9_2 y9_2
  generalize hW : World.alloc _ _ = W2
  have hN : Own w0 W2 [row (w.heap.size) 35 #[.nilIface, .int .i32 0], row (pb) 193 PC, row (ec) 71 #[.iface 225 (.pointer (some ⟨tg, 0, none⟩)), .int .i32 loc, .slice (some ⟨ab, 0, none⟩) ln cp, .int .i32 0, .int .u8 0, .int .u8 0, .bool false, .bool false], row (tg) 228 #[.iface 229 (.pointer (some ⟨sp, 0, none⟩)), .int .i32 loc, .string name, .int .i32 loc, .int .u8 0, .bool false, .bool false, .bool false]] X := by
    rw [← hW]
    exact (hO).alloc' _ (w.heap.size) (by simp)
  clear hW hO
  generalize w.heap.size = B1 at hN ⊢
  have hO := hN
  clear hN
  have hL := hO.apart
  have hX := hO.apartX
  have HL := Lib.hid hL
  have HX := Lib.hid hX
  clear hL hX
  have hP9 := hO.pick [1] (by decide)
  have T9 := shouldN pb PC sp loc _ _ _ hP9 hk338
  refine Calls.mono T9 ?_
  clear hP9 T9
  rintro e u3 ⟨rfl, hQ⟩
  have hN : Own w0 u3 [row (pb) 193 PC, row (B1) 35 #[.nilIface, .int .i32 0], row (ec) 71 #[.iface 225 (.pointer (some ⟨tg, 0, none⟩)), .int .i32 loc, .slice (some ⟨ab, 0, none⟩) ln cp, .int .i32 0, .int .u8 0, .int .u8 0, .bool false, .bool false], row (tg) 228 #[.iface 229 (.pointer (some ⟨sp, 0, none⟩)), .int .i32 loc, .string name, .int .i32 loc, .int .u8 0, .bool false, .bool false, .bool false]] X := hQ.back HL.out HX.out [0, 2, 3] (by decide) (by decide)
  clear hQ HL HX hO
  have hO := hN
  clear hN
  obtain ⟨c9_1_0, c9_1_1, lt9_1, y9_1, -⟩ := hO.k2 1 rfl
  obtain ⟨c9_2_0, c9_2_1, c9_2_2, c9_2_3, c9_2_4, c9_2_5, c9_2_6, c9_2_7, lt9_2, y9_2, -⟩ := hO.k8 2 rfl
  obtain ⟨c9_3_0, c9_3_1, c9_3_2, c9_3_3, c9_3_4, c9_3_5, c9_3_6, c9_3_7, lt9_3, y9_3, -⟩ := hO.k8 3 rfl
  have HO := Lib.hid hO
  clear hO
  go_wp2_with (first | (with_reducible refine Own.stay (fn := Tryd.f47) ?_) | fail)
  try with_reducible refine Own.Stay.mk ?_
  have hO := HO.out
  clear HO c9_1_0 c9_1_1 lt9_1 y9_1 c9_2_0 c9_2_1 c9_2_2 c9_2_3 c9_2_4 c9_2_5 c9_2_6 c9_2_7 lt9_2 y9_2 c9_3_0 c9_3_1 c9_3_2 c9_3_3 c9_3_4 c9_3_5 c9_3_6 c9_3_7 lt9_3 y9_3
  refine bodyPost_ret (v := .tuple #[]) ?_ rfl ⟨rfl, hO.sub [0, 2, 3] (by decide)⟩
  simp [results, Tryd.results47, go_sem]
def lowN1Post (pb : Nat) (PC : Array Value) (ec ab ln cp : Nat) (loc : Int) (tg sp ib : Nat) (w0 : World) (X : Nat → Obj → Prop) (e : Ending) (w' : World) : Prop :=
  e = .returned (.tuple #[]) ∧ Own w0 w' [row (pb) 193 PC, row (ec) 71 #[.iface 231 (.pointer (some ⟨tg, 0, none⟩)), .int .i32 loc, .slice (some ⟨ab, 0, none⟩) ln cp, .int .i32 0, .int .u8 0, .int .u8 0, .bool false, .bool false], row (tg) 234 #[.iface 229 (.pointer (some ⟨sp, 0, none⟩)), .int .i32 loc, .iface 209 (.pointer (some ⟨ib, 0, none⟩)), .int .i32 loc, .int .i32 0, .int .u8 0, .bool false, .bool false, .bool false]] X
set_option maxRecDepth 100000 in
set_option maxHeartbeats 1000000 in
theorem lowN1 (pb : Nat) (PC : Array Value) (ec ab ln cp : Nat) (loc : Int) (tg sp ib : Nat) (w0 w : World) (X : Nat → Obj → Prop) (hO : Own w0 w [row (pb) 193 PC, row (ec) 71 #[.iface 231 (.pointer (some ⟨tg, 0, none⟩)), .int .i32 loc, .slice (some ⟨ab, 0, none⟩) ln cp, .int .i32 0, .int .u8 0, .int .u8 0, .bool false, .bool false], row (tg) 234 #[.iface 229 (.pointer (some ⟨sp, 0, none⟩)), .int .i32 loc, .iface 209 (.pointer (some ⟨ib, 0, none⟩)), .int .i32 loc, .int .i32 0, .int .u8 0, .bool false, .bool false, .bool false]] X) (hk338 : PC[338]? = some (.bool false)) :
    Calls Tryd.prog 47 #[.pointer (some ⟨pb, 0, none⟩), .pointer (some ⟨ec, 0, none⟩)] w (lowN1Post pb PC ec ab ln cp loc tg sp ib w0 X) := by
  go_enter Tryd.func47, Tryd.ntmps47
  obtain ⟨c9_1_0, c9_1_1, c9_1_2, c9_1_3, c9_1_4, c9_1_5, c9_1_6, c9_1_7, lt9_1, y9_1, -⟩ := hO.k8 1 rfl
  obtain ⟨c9_2_0, c9_2_1, c9_2_2, c9_2_3, c9_2_4, c9_2_5, c9_2_6, c9_2_7, c9_2_8, lt9_2, y9_2, -⟩ := hO.k9 2 rfl
  have HO := Lib.hid hO
  clear hO
  go_wp2_with (first | (with_reducible refine Own.stay (fn := Tryd.f47) ?_) | fail)
  try with_reducible refine Own.Stay.mk ?_
  have hO := HO.out
  clear HO c9_1_0 c9_1_1 c9_1_2 c9_1_3 c9_1_4 c9_1_5 c9_1_6 c9_1_7 lt9_1 y9_1 c9_2_0 c9_2_1 c9_2_2 c9_2_3 c9_2_4 c9_2_5 c9_2_6 c9_2_7 c9_2_8 lt9_2 y9_2
  generalize hW : World.alloc _ _ = W2
  have hN : Own w0 W2 [row (w.heap.size) 35 #[.nilIface, .int .i32 0], row (pb) 193 PC, row (ec) 71 #[.iface 231 (.pointer (some ⟨tg, 0, none⟩)), .int .i32 loc, .slice (some ⟨ab, 0, none⟩) ln cp, .int .i32 0, .int .u8 0, .int .u8 0, .bool false, .bool false], row (tg) 234 #[.iface 229 (.pointer (some ⟨sp, 0, none⟩)), .int .i32 loc, .iface 209 (.pointer (some ⟨ib, 0, none⟩)), .int .i32 loc, .int .i32 0, .int .u8 0, .bool false, .bool false, .bool false]] X := by
    rw [← hW]
    exact (hO).alloc' _ (w.heap.size) (by simp)
  clear hW hO
  generalize w.heap.size = B1 at hN ⊢
  have hO := hN
  clear hN
  have hL := hO.apart
  have hX := hO.apartX
  have HL := Lib.hid hL
  have HX := Lib.hid hX
  clear hL hX
  have hP9 := hO.pick [1] (by decide)
  have T9 := shouldN pb PC sp loc _ _ _ hP9 hk338
  refine Calls.mono T9 ?_
  clear hP9 T9
  rintro e u3 ⟨rfl, hQ⟩
  have hN : Own w0 u3 [row (pb) 193 PC, row (B1) 35 #[.nilIface, .int .i32 0], row (ec) 71 #[.iface 231 (.pointer (some ⟨tg, 0, none⟩)), .int .i32 loc, .slice (some ⟨ab, 0, none⟩) ln cp, .int .i32 0, .int .u8 0, .int .u8 0, .bool false, .bool false], row (tg) 234 #[.iface 229 (.pointer (some ⟨sp, 0, none⟩)), .int .i32 loc, .iface 209 (.pointer (some ⟨ib, 0, none⟩)), .int .i32 loc, .int .i32 0, .int .u8 0, .bool false, .bool false, .bool false]] X := hQ.back HL.out HX.out [0, 2, 3] (by decide) (by decide)
  clear hQ HL HX hO
  have hO := hN
  clear hN
  obtain ⟨c9_1_0, c9_1_1, lt9_1, y9_1, -⟩ := hO.k2 1 rfl
  obtain ⟨c9_2_0, c9_2_1, c9_2_2, c9_2_3, c9_2_4, c9_2_5, c9_2_6, c9_2_7, lt9_2, y9_2, -⟩ := hO.k8 2 rfl
  obtain ⟨c9_3_0, c9_3_1, c9_3_2, c9_3_3, c9_3_4, c9_3_5, c9_3_6, c9_3_7, c9_3_8, lt9_3, y9_3, -⟩ := hO.k9 3 rfl
  have HO := Lib.hid hO
  clear hO
  go_wp2_with (first | (with_reducible refine Own.stay (fn := Tryd.f47) ?_) | fail)
  try with_reducible refine Own.Stay.mk ?_
  have hO := HO.out
  clear HO c9_1_0 c9_1_1 lt9_1 y9_1 c9_2_0 c9_2_1 c9_2_2 c9_2_3 c9_2_4 c9_2_5 c9_2_6 c9_2_7 lt9_2 y9_2 c9_3_0 c9_3_1 c9_3_2 c9_3_3 c9_3_4 c9_3_5 c9_3_6 c9_3_7 c9_3_8 lt9_3 y9_3
  refine bodyPost_ret (v := .tuple #[]) ?_ rfl ⟨rfl, hO.sub [0, 2, 3] (by decide)⟩
  simp [results, Tryd.results47, go_sem]
def lowN2Post (pb : Nat) (PC : Array Value) (ec ab ln cp : Nat) (loc : Int) (tg : Nat) (name : ByteArray) (ib : Nat) (l : Bool) (w0 : World) (X : Nat → Obj → Prop) (e : Ending) (w' : World) : Prop :=
  e = .returned (.tuple #[]) ∧ Own w0 w' [row (pb) 193 PC, row (ec) 71 #[.iface 225 (.pointer (some ⟨tg, 0, none⟩)), .int .i32 loc, .slice (some ⟨ab, 0, none⟩) ln cp, .int .i32 0, .int .u8 0, .int .u8 0, .bool false, .bool false], row (tg) 228 #[.iface 209 (.pointer (some ⟨ib, 0, none⟩)), .int .i32 loc, .string name, .int .i32 loc, .int .u8 0, .bool false, .bool false, .bool false]] X
set_option maxRecDepth 100000 in
set_option maxHeartbeats 1000000 in
theorem lowN2 (pb : Nat) (PC : Array Value) (ec ab ln cp : Nat) (loc : Int) (tg : Nat) (name : ByteArray) (ib : Nat) (l : Bool) (w0 w : World) (X : Nat → Obj → Prop) (hO : Own w0 w [row (pb) 193 PC, row (ec) 71 #[.iface 225 (.pointer (some ⟨tg, 0, none⟩)), .int .i32 loc, .slice (some ⟨ab, 0, none⟩) ln cp, .int .i32 0, .int .u8 0, .int .u8 0, .bool false, .bool false], row (tg) 228 #[.iface 209 (.pointer (some ⟨ib, 0, none⟩)), .int .i32 loc, .string name, .int .i32 loc, .int .u8 0, .bool false, .bool false, .bool false]] X) (hk338 : PC[338]? = some (.bool l)) :
    Calls Tryd.prog 47 #[.pointer (some ⟨pb, 0, none⟩), .pointer (some ⟨ec, 0, none⟩)] w (lowN2Post pb PC ec ab ln cp loc tg name ib l w0 X) := by
  go_enter Tryd.func47, Tryd.ntmps47
  obtain ⟨c9_1_0, c9_1_1, c9_1_2, c9_1_3, c9_1_4, c9_1_5, c9_1_6, c9_1_7, lt9_1, y9_1, -⟩ := hO.k8 1 rfl
  obtain ⟨c9_2_0, c9_2_1, c9_2_2, c9_2_3, c9_2_4, c9_2_5, c9_2_6, c9_2_7, lt9_2, y9_2, -⟩ := hO.k8 2 rfl
  have HO := Lib.hid hO
  clear hO
  go_wp2_with (first | (with_reducible refine Own.stay (fn := Tryd.f47) ?_) | fail)
  try with_reducible refine Own.Stay.mk ?_
  have hO := HO.out
  clear HO c9_1_0 c9_1_1 c9_1_2 c9_1_3 c9_1_4 c9_1_5 c9_1_6 c9_1_7 lt9_1 y9_1 c9_2_0 c9_2_1 c9_2_2 c9_2_3 c9_2_4 c9_2_5 c9_2_6 c9_2_7 lt9_2 y9_2
  generalize hW : World.alloc _ _ = W2
  have hN : Own w0 W2 [row (w.heap.size) 35 #[.nilIface, .int .i32 0], row (pb) 193 PC, row (ec) 71 #[.iface 225 (.pointer (some ⟨tg, 0, none⟩)), .int .i32 loc, .slice (some ⟨ab, 0, none⟩) ln cp, .int .i32 0, .int .u8 0, .int .u8 0, .bool false, .bool false], row (tg) 228 #[.iface 209 (.pointer (some ⟨ib, 0, none⟩)), .int .i32 loc, .string name, .int .i32 loc, .int .u8 0, .bool false, .bool false, .bool false]] X := by
    rw [← hW]
    exact (hO).alloc' _ (w.heap.size) (by simp)
  clear hW hO
  generalize w.heap.size = B1 at hN ⊢
  have hO := hN
  clear hN
  have hL := hO.apart
  have hX := hO.apartX
  have HL := Lib.hid hL
  have HX := Lib.hid hX
  clear hL hX
  have hP9 := hO.pick [1] (by decide)
  have T9 := shouldI pb PC ib loc l _ _ _ hP9 hk338
  refine Calls.mono T9 ?_
  clear hP9 T9
  rintro e u3 ⟨rfl, hQ⟩
  have hN : Own w0 u3 [row (pb) 193 PC, row (B1) 35 #[.nilIface, .int .i32 0], row (ec) 71 #[.iface 225 (.pointer (some ⟨tg, 0, none⟩)), .int .i32 loc, .slice (some ⟨ab, 0, none⟩) ln cp, .int .i32 0, .int .u8 0, .int .u8 0, .bool false, .bool false], row (tg) 228 #[.iface 209 (.pointer (some ⟨ib, 0, none⟩)), .int .i32 loc, .string name, .int .i32 loc, .int .u8 0, .bool false, .bool false, .bool false]] X := hQ.back HL.out HX.out [0, 2, 3] (by decide) (by decide)
  clear hQ HL HX hO
  have hO := hN
  clear hN
  obtain ⟨c9_1_0, c9_1_1, lt9_1, y9_1, -⟩ := hO.k2 1 rfl
  obtain ⟨c9_2_0, c9_2_1, c9_2_2, c9_2_3, c9_2_4, c9_2_5, c9_2_6, c9_2_7, lt9_2, y9_2, -⟩ := hO.k8 2 rfl
  obtain ⟨c9_3_0, c9_3_1, c9_3_2, c9_3_3, c9_3_4, c9_3_5, c9_3_6, c9_3_7, lt9_3, y9_3, -⟩ := hO.k8 3 rfl
  have HO := Lib.hid hO
  clear hO
  go_wp2_with (first | (with_reducible refine Own.stay (fn := Tryd.f47) ?_) | fail)
  try with_reducible refine Own.Stay.mk ?_
  have hO := HO.out
  clear HO c9_1_0 c9_1_1 lt9_1 y9_1 c9_2_0 c9_2_1 c9_2_2 c9_2_3 c9_2_4 c9_2_5 c9_2_6 c9_2_7 lt9_2 y9_2 c9_3_0 c9_3_1 c9_3_2 c9_3_3 c9_3_4 c9_3_5 c9_3_6 c9_3_7 lt9_3 y9_3
  refine bodyPost_ret (v := .tuple #[]) ?_ rfl ⟨rfl, hO.sub [0, 2, 3] (by decide)⟩
  simp [results, Tryd.results47, go_sem]
def lowN3Post (pb : Nat) (PC : Array Value) (ec ab ln cp : Nat) (loc : Int) (ib : Nat) (w0 : World) (X : Nat → Obj → Prop) (e : Ending) (w' : World) : Prop :=
  e = .returned (.tuple #[]) ∧ Own w0 w' [row (pb) 193 PC, row (ec) 71 #[.iface 209 (.pointer (some ⟨ib, 0, none⟩)), .int .i32 loc, .slice (some ⟨ab, 0, none⟩) ln cp, .int .i32 0, .int .u8 0, .int .u8 0, .bool false, .bool false]] X
set_option maxRecDepth 100000 in
set_option maxHeartbeats 1000000 in
theorem lowN3 (pb : Nat) (PC : Array Value) (ec ab ln cp : Nat) (loc : Int) (ib : Nat) (w0 w : World) (X : Nat → Obj → Prop) (hO : Own w0 w [row (pb) 193 PC, row (ec) 71 #[.iface 209 (.pointer (some ⟨ib, 0, none⟩)), .int .i32 loc, .slice (some ⟨ab, 0, none⟩) ln cp, .int .i32 0, .int .u8 0, .int .u8 0, .bool false, .bool false]] X)  :
    Calls Tryd.prog 47 #[.pointer (some ⟨pb, 0, none⟩), .pointer (some ⟨ec, 0, none⟩)] w (lowN3Post pb PC ec ab ln cp loc ib w0 X) := by
  go_enter Tryd.func47, Tryd.ntmps47
  obtain ⟨c9_1_0, c9_1_1, c9_1_2, c9_1_3, c9_1_4, c9_1_5, c9_1_6, c9_1_7, lt9_1, y9_1, -⟩ := hO.k8 1 rfl
  have HO := Lib.hid hO
  clear hO
  go_wp2_with (first | (with_reducible refine Own.stay (fn := Tryd.f47) ?_) | fail)
  try with_reducible refine Own.Stay.mk ?_
  have hO := HO.out
  clear HO c9_1_0 c9_1_1 c9_1_2 c9_1_3 c9_1_4 c9_1_5 c9_1_6 c9_1_7 lt9_1 y9_1
  generalize hW : World.alloc _ _ = W2
  have hN : Own w0 W2 [row (w.heap.size) 35 #[.nilIface, .int .i32 0], row (pb) 193 PC, row (ec) 71 #[.iface 209 (.pointer (some ⟨ib, 0, none⟩)), .int .i32 loc, .slice (some ⟨ab, 0, none⟩) ln cp, .int .i32 0, .int .u8 0, .int .u8 0, .bool false, .bool false]] X := by
    rw [← hW]
    exact (hO).alloc' _ (w.heap.size) (by simp)
  clear hW hO
  generalize w.heap.size = B1 at hN ⊢
  have hO := hN
  clear hN
  refine bodyPost_ret (v := .tuple #[]) ?_ rfl ⟨rfl, hO.sub [1, 2] (by decide)⟩
  simp [results, Tryd.results47, go_sem]
end Go.Proofs.YtkhmjppfogppoaaDoor.Use
