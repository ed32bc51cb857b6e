/- enableNameCapture and its door. No condition. -/
import Derived.Test.YtaoflhnkhgclhaaDoorApp
import Derived.Test.YtaoflhnkhgclhaaDoorOwnK
import Derived.Test.YtaoflhnkhgclhaaDoorOwn
import Derived.Test.YtaoflhnkhgclhaaDoorDeepCells
import Derived.Test.YtaoflhnkhgclhaaDoorRows
import Derived.Test.YtaoflhnkhgclhaaDoorUse
import Derived.Test.YtaoflhnkhgclhaaDoorLive
import Derived.Test.YtaoflhnkhgclhaaDoorVl
namespace Go.Proofs.YtaoflhnkhgclhaaDoor.Use
open Go.ChangeShapes Go.WideShapes Go.ChangeAt Go.RowKit Go.Sort Own
set_option linter.unusedVariables false
def encIPost (pb cx : Nat) (XC : Array Value) (nfv : Value) (i : Nat) (w0 : World) (X : Nat → Obj → Prop) (e : Ending) (w' : World) : Prop :=
  ∃ xqa : Nat, ∃ xqb : Nat, ∃ xqc : Nat, e = .returned (.tuple #[]) ∧ Own w0 w' [row (cx) 191 (XC.setIfInBounds 39 (.func (Fn.func 19) #[] #[.pointer (some ⟨xqa, 0, none⟩), .pointer (some ⟨xqb, 0, none⟩), .pointer (some ⟨xqc, 0, none⟩)])), row (xqa) 27 #[.pointer (some ⟨cx, 0, none⟩)], row (xqb) 25 #[.pointer (some ⟨pb, 0, none⟩)], row (xqc) 202 #[.pointer none, .int .u32 0, .int .u32 (i : Int), .int .u32 4294967295, .int .u32 4294967295, .bool false]] X
set_option maxRecDepth 100000 in
set_option maxHeartbeats 1000000 in
theorem encI (pb cx : Nat) (XC : Array Value) (nfv : Value) (i : Nat) (w0 w : World) (X : Nat → Obj → Prop) (hO : Own w0 w [row (cx) 191 XC] X) (hnfv : XC[39]? = some (nfv)) :
    Calls Tryd.prog 18 #[.pointer (some ⟨cx, 0, none⟩), .pointer (some ⟨pb, 0, none⟩), .agg #[.pointer none, .int .u32 0, .int .u32 (i : Int), .int .u32 4294967295, .int .u32 4294967295, .bool false]] w (encIPost pb cx XC nfv i w0 X) := by
  go_enter Tryd.func18, Tryd.ntmps18
  obtain ⟨ix9, hix9, hax9, hjx9⟩ := hO.ix
  have ix9_0 : ix9 cx = 0 := hjx9 0 _ _ rfl
  clear hjx9
  have c9_0_39 : w.cell? ⟨cx, 39, none⟩ = some (nfv) := hO.cell 0 rfl (39) (hnfv)
  have lt9_0 : cx < w.heap.size := hO.lt 0 rfl
  have y9_0 : ∀ o, w.frozen? ⟨cx, o, none⟩ = false := hO.free 0 rfl
  have HO := Lib.hid hO
  clear hO
  go_wp2_with (first | (with_reducible refine Own.stay (fn := Tryd.f18) ?_) | fail)
  try with_reducible refine Own.Stay.mk ?_
  have hO := HO.out
  clear HO hix9 hax9 ix9_0 ix9 c9_0_39 lt9_0 y9_0
  generalize hW : World.setCell _ _ _ = W2
  have hN : Own w0 W2 [row (w.heap.size + 1 + 1) 202 #[.pointer none, .int .u32 0, .int .u32 (i : Int), .int .u32 4294967295, .int .u32 4294967295, .bool false], row (w.heap.size + 1) 25 #[.pointer (some ⟨pb, 0, none⟩)], row (w.heap.size) 27 #[.pointer (some ⟨cx, 0, none⟩)], row (cx) 191 (XC.setIfInBounds 39 (.func (Fn.func 19) #[] #[.pointer (some ⟨w.heap.size, 0, none⟩), .pointer (some ⟨w.heap.size + 1, 0, none⟩), .pointer (some ⟨w.heap.size + 1 + 1, 0, none⟩)]))] X := by
    rw [← hW]
    exact ((((hO).alloc' _ (w.heap.size) (by simp)).alloc' _ (w.heap.size + 1) (by simp)).alloc' _ (w.heap.size + 1 + 1) (by simp)).set 3 rfl 39 _
  clear hW hO
  generalize w.heap.size + 1 + 1 = B1_2 at hN ⊢
  generalize w.heap.size + 1 = B1_1 at hN ⊢
  generalize w.heap.size = B1 at hN ⊢
  have hO := hN
  clear hN
  refine bodyPost_ret (v := .tuple #[]) ?_ rfl ⟨B1, B1_1, B1_2, rfl, hO.sub [3, 2, 1, 0] (by decide)⟩
  simp [results, Tryd.results18, go_sem]
def zenIPost (pb : Nat) (PC : Array Value) (cx : Nat) (XC : Array Value) (nfv : Value) (i : Nat) (w0 : World) (X : Nat → Obj → Prop) (e : Ending) (w' : World) : Prop :=
  ∃ xqa : Nat, ∃ xqb : Nat, ∃ xqc : Nat, e = .returned (.tuple #[]) ∧ Own w0 w' [row (pb) 176 PC, row (cx) 191 (XC.setIfInBounds 39 (.func (Fn.func 19) #[] #[.pointer (some ⟨xqa, 0, none⟩), .pointer (some ⟨xqb, 0, none⟩), .pointer (some ⟨xqc, 0, none⟩)])), row (xqa) 27 #[.pointer (some ⟨cx, 0, none⟩)], row (xqb) 25 #[.pointer (some ⟨pb, 0, none⟩)], row (xqc) 202 #[.pointer none, .int .u32 0, .int .u32 (i : Int), .int .u32 4294967295, .int .u32 4294967295, .bool false]] X
set_option maxRecDepth 100000 in
set_option maxHeartbeats 1000000 in
theorem zenI (pb : Nat) (PC : Array Value) (cx : Nat) (XC : Array Value) (nfv : Value) (i : Nat) (w0 w : World) (X : Nat → Obj → Prop) (hO : Own w0 w [row (pb) 176 PC, row (cx) 191 XC] X) (hk66 : PC[66]? = some (.int .u32 0)) (hnfv : XC[39]? = some (nfv)) (hg0 : w0.cell? ⟨0, 0, none⟩ = some (.int .u32 4294967295)) (hg1 : w0.cell? ⟨0, 1, none⟩ = some (.int .u32 4294967295)) :
    Calls Tryd.prog 12 #[.pointer (some ⟨cx, 0, none⟩), .pointer (some ⟨pb, 0, none⟩), .int .u32 (i : Int), .bool true] w (zenIPost pb PC cx XC nfv i w0 X) := by
  go_enter Tryd.func12, Tryd.ntmps12
  obtain ⟨ix9, hix9, hax9, hjx9⟩ := hO.ix
  have ix9_0 : ix9 pb = 0 := hjx9 0 _ _ rfl
  have ix9_1 : ix9 cx = 1 := hjx9 1 _ _ rfl
  clear hjx9
  have c9_0_66 : w.cell? ⟨pb, 66, none⟩ = some (.int .u32 0) := hO.cell 0 rfl (66) (hk66)
  have lt9_0 : pb < w.heap.size := hO.lt 0 rfl
  have y9_0 : ∀ o, w.frozen? ⟨pb, o, none⟩ = false := hO.free 0 rfl
  have c9_1_39 : w.cell? ⟨cx, 39, none⟩ = some (nfv) := hO.cell 1 rfl (39) (hnfv)
  have lt9_1 : cx < w.heap.size := hO.lt 1 rfl
  have y9_1 : ∀ o, w.frozen? ⟨cx, o, none⟩ = false := hO.free 1 rfl
  have HO := Lib.hid hO
  clear hO
  have gw9_0_0 : w.cell? ⟨0, 0, none⟩ = some (.int .u32 4294967295) := Base.cell_below HO.out.below (Base.block_of_cell hg0) hg0
  have gw9_0_1 : w.cell? ⟨0, 1, none⟩ = some (.int .u32 4294967295) := Base.cell_below HO.out.below (Base.block_of_cell hg1) hg1
  have gl9_0 : 0 < w.heap.size := Base.block_of_cell gw9_0_0
  go_wp2_with (first | (with_reducible refine Own.stay (fn := Tryd.f12) ?_) | fail)
  try with_reducible refine Own.Stay.mk ?_
  have hO := HO.out
  clear HO hix9 hax9 ix9_0 ix9_1 ix9 gw9_0_0 gw9_0_1 gl9_0 c9_0_66 lt9_0 y9_0 c9_1_39 lt9_1 y9_1
  generalize hW : World.alloc _ _ = W2
  have hN : Own w0 W2 [row (w.heap.size) 49 #[.int .u32 0, .int .u32 (i : Int)], row (pb) 176 PC, row (cx) 191 XC] X := by
    rw [← hW]
    exact (hO).alloc' _ (w.heap.size) (by simp)
  clear hW hO
  generalize w.heap.size = B1 at hN ⊢
  have hO := hN
  clear hN
  have hL := hO.apart
  have hX := hO.apartX
  have HL := Lib.hid hL
  have HX := Lib.hid hX
  clear hL hX
  have hP9 := hO.pick [2] (by decide)
  have T9 := encI pb cx XC nfv i _ _ _ hP9 hnfv
  refine Calls.mono T9 ?_
  clear hP9 T9
  rintro e u3 ⟨nd4, nd5, nd6, rfl, hQ⟩
  have hN : Own w0 u3 [row (cx) 191 (XC.setIfInBounds 39 (.func (Fn.func 19) #[] #[.pointer (some ⟨nd4, 0, none⟩), .pointer (some ⟨nd5, 0, none⟩), .pointer (some ⟨nd6, 0, none⟩)])), row (nd4) 27 #[.pointer (some ⟨cx, 0, none⟩)], row (nd5) 25 #[.pointer (some ⟨pb, 0, none⟩)], row (nd6) 202 #[.pointer none, .int .u32 0, .int .u32 (i : Int), .int .u32 4294967295, .int .u32 4294967295, .bool false], row (B1) 49 #[.int .u32 0, .int .u32 (i : Int)], row (pb) 176 PC] X := hQ.back HL.out HX.out [0, 1] (by decide) (by decide)
  clear hQ HL HX hO
  have hO := hN
  clear hN
  obtain ⟨c9_1_0, lt9_1, y9_1, -⟩ := hO.k1 1 rfl
  obtain ⟨c9_2_0, lt9_2, y9_2, -⟩ := hO.k1 2 rfl
  obtain ⟨c9_3_0, c9_3_1, c9_3_2, c9_3_3, c9_3_4, c9_3_5, lt9_3, y9_3, -⟩ := hO.k6 3 rfl
  obtain ⟨c9_4_0, c9_4_1, lt9_4, y9_4, -⟩ := hO.k2 4 rfl
  have HO := Lib.hid hO
  clear hO
  have gw9_0_0 : u3.cell? ⟨0, 0, none⟩ = some (.int .u32 4294967295) := Base.cell_below HO.out.below (Base.block_of_cell hg0) hg0
  have gw9_0_1 : u3.cell? ⟨0, 1, none⟩ = some (.int .u32 4294967295) := Base.cell_below HO.out.below (Base.block_of_cell hg1) hg1
  have gl9_0 : 0 < u3.heap.size := Base.block_of_cell gw9_0_0
  go_wp2_with (first | (with_reducible refine Own.stay (fn := Tryd.f12) ?_) | fail)
  try with_reducible refine Own.Stay.mk ?_
  have hO := HO.out
  clear HO gw9_0_0 gw9_0_1 gl9_0 c9_1_0 lt9_1 y9_1 c9_2_0 lt9_2 y9_2 c9_3_0 c9_3_1 c9_3_2 c9_3_3 c9_3_4 c9_3_5 lt9_3 y9_3 c9_4_0 c9_4_1 lt9_4 y9_4
  refine bodyPost_ret (v := .tuple #[]) ?_ rfl ⟨nd4, nd5, nd6, rfl, hO.sub [5, 0, 1, 2, 3] (by decide)⟩
  simp [results, Tryd.results12, go_sem]
def encOPost (pb cx : Nat) (XC : Array Value) (nfv : Value) (w0 : World) (X : Nat → Obj → Prop) (e : Ending) (w' : World) : Prop :=
  ∃ xqa : Nat, ∃ xqb : Nat, ∃ xqc : Nat, e = .returned (.tuple #[]) ∧ Own w0 w' [row (cx) 191 (XC.setIfInBounds 39 (.func (Fn.func 19) #[] #[.pointer (some ⟨xqa, 0, none⟩), .pointer (some ⟨xqb, 0, none⟩), .pointer (some ⟨xqc, 0, none⟩)])), row (xqa) 27 #[.pointer (some ⟨cx, 0, none⟩)], row (xqb) 25 #[.pointer (some ⟨pb, 0, none⟩)], row (xqc) 202 #[.pointer none, .int .u32 4294967295, .int .u32 4294967295, .int .u32 4294967295, .int .u32 4294967295, .bool false]] X
set_option maxRecDepth 100000 in
set_option maxHeartbeats 1000000 in
theorem encO (pb cx : Nat) (XC : Array Value) (nfv : Value) (w0 w : World) (X : Nat → Obj → Prop) (hO : Own w0 w [row (cx) 191 XC] X) (hnfv : XC[39]? = some (nfv)) :
    Calls Tryd.prog 18 #[.pointer (some ⟨cx, 0, none⟩), .pointer (some ⟨pb, 0, none⟩), .agg #[.pointer none, .int .u32 4294967295, .int .u32 4294967295, .int .u32 4294967295, .int .u32 4294967295, .bool false]] w (encOPost pb cx XC nfv w0 X) := by
  go_enter Tryd.func18, Tryd.ntmps18
  obtain ⟨ix9, hix9, hax9, hjx9⟩ := hO.ix
  have ix9_0 : ix9 cx = 0 := hjx9 0 _ _ rfl
  clear hjx9
  have c9_0_39 : w.cell? ⟨cx, 39, none⟩ = some (nfv) := hO.cell 0 rfl (39) (hnfv)
  have lt9_0 : cx < w.heap.size := hO.lt 0 rfl
  have y9_0 : ∀ o, w.frozen? ⟨cx, o, none⟩ = false := hO.free 0 rfl
  have HO := Lib.hid hO
  clear hO
  go_wp2_with (first | (with_reducible refine Own.stay (fn := Tryd.f18) ?_) | fail)
  try with_reducible refine Own.Stay.mk ?_
  have hO := HO.out
  clear HO hix9 hax9 ix9_0 ix9 c9_0_39 lt9_0 y9_0
  generalize hW : World.setCell _ _ _ = W2
  have hN : Own w0 W2 [row (w.heap.size + 1 + 1) 202 #[.pointer none, .int .u32 4294967295, .int .u32 4294967295, .int .u32 4294967295, .int .u32 4294967295, .bool false], row (w.heap.size + 1) 25 #[.pointer (some ⟨pb, 0, none⟩)], row (w.heap.size) 27 #[.pointer (some ⟨cx, 0, none⟩)], row (cx) 191 (XC.setIfInBounds 39 (.func (Fn.func 19) #[] #[.pointer (some ⟨w.heap.size, 0, none⟩), .pointer (some ⟨w.heap.size + 1, 0, none⟩), .pointer (some ⟨w.heap.size + 1 + 1, 0, none⟩)]))] X := by
    rw [← hW]
    exact ((((hO).alloc' _ (w.heap.size) (by simp)).alloc' _ (w.heap.size + 1) (by simp)).alloc' _ (w.heap.size + 1 + 1) (by simp)).set 3 rfl 39 _
  clear hW hO
  generalize w.heap.size + 1 + 1 = B1_2 at hN ⊢
  generalize w.heap.size + 1 = B1_1 at hN ⊢
  generalize w.heap.size = B1 at hN ⊢
  have hO := hN
  clear hN
  refine bodyPost_ret (v := .tuple #[]) ?_ rfl ⟨B1, B1_1, B1_2, rfl, hO.sub [3, 2, 1, 0] (by decide)⟩
  simp [results, Tryd.results18, go_sem]
def zenOPost (pb : Nat) (PC : Array Value) (cx : Nat) (XC : Array Value) (nfv : Value) (i : Nat) (w0 : World) (X : Nat → Obj → Prop) (e : Ending) (w' : World) : Prop :=
  ∃ xqa : Nat, ∃ xqb : Nat, ∃ xqc : Nat, e = .returned (.tuple #[]) ∧ Own w0 w' [row (pb) 176 PC, row (cx) 191 (XC.setIfInBounds 39 (.func (Fn.func 19) #[] #[.pointer (some ⟨xqa, 0, none⟩), .pointer (some ⟨xqb, 0, none⟩), .pointer (some ⟨xqc, 0, none⟩)])), row (xqa) 27 #[.pointer (some ⟨cx, 0, none⟩)], row (xqb) 25 #[.pointer (some ⟨pb, 0, none⟩)], row (xqc) 202 #[.pointer none, .int .u32 4294967295, .int .u32 4294967295, .int .u32 4294967295, .int .u32 4294967295, .bool false]] X
set_option maxRecDepth 100000 in
set_option maxHeartbeats 1000000 in
theorem zenO (pb : Nat) (PC : Array Value) (cx : Nat) (XC : Array Value) (nfv : Value) (i : Nat) (w0 w : World) (X : Nat → Obj → Prop) (hO : Own w0 w [row (pb) 176 PC, row (cx) 191 XC] X) (hk66 : PC[66]? = some (.int .u32 0)) (hnfv : XC[39]? = some (nfv)) (hg0 : w0.cell? ⟨0, 0, none⟩ = some (.int .u32 4294967295)) (hg1 : w0.cell? ⟨0, 1, none⟩ = some (.int .u32 4294967295)) :
    Calls Tryd.prog 12 #[.pointer (some ⟨cx, 0, none⟩), .pointer (some ⟨pb, 0, none⟩), .int .u32 (i : Int), .bool false] w (zenOPost pb PC cx XC nfv i w0 X) := by
  go_enter Tryd.func12, Tryd.ntmps12
  obtain ⟨ix9, hix9, hax9, hjx9⟩ := hO.ix
  have ix9_0 : ix9 pb = 0 := hjx9 0 _ _ rfl
  have ix9_1 : ix9 cx = 1 := hjx9 1 _ _ rfl
  clear hjx9
  have c9_0_66 : w.cell? ⟨pb, 66, none⟩ = some (.int .u32 0) := hO.cell 0 rfl (66) (hk66)
  have lt9_0 : pb < w.heap.size := hO.lt 0 rfl
  have y9_0 : ∀ o, w.frozen? ⟨pb, o, none⟩ = false := hO.free 0 rfl
  have c9_1_39 : w.cell? ⟨cx, 39, none⟩ = some (nfv) := hO.cell 1 rfl (39) (hnfv)
  have lt9_1 : cx < w.heap.size := hO.lt 1 rfl
  have y9_1 : ∀ o, w.frozen? ⟨cx, o, none⟩ = false := hO.free 1 rfl
  have HO := Lib.hid hO
  clear hO
  have gw9_0_0 : w.cell? ⟨0, 0, none⟩ = some (.int .u32 4294967295) := Base.cell_below HO.out.below (Base.block_of_cell hg0) hg0
  have gw9_0_1 : w.cell? ⟨0, 1, none⟩ = some (.int .u32 4294967295) := Base.cell_below HO.out.below (Base.block_of_cell hg1) hg1
  have gl9_0 : 0 < w.heap.size := Base.block_of_cell gw9_0_0
  go_wp2_with (first | (with_reducible refine Own.stay (fn := Tryd.f12) ?_) | fail)
  try with_reducible refine Own.Stay.mk ?_
  have hO := HO.out
  clear HO hix9 hax9 ix9_0 ix9_1 ix9 gw9_0_0 gw9_0_1 gl9_0 c9_0_66 lt9_0 y9_0 c9_1_39 lt9_1 y9_1
  generalize hW : World.alloc _ _ = W2
  have hN : Own w0 W2 [row (w.heap.size) 49 #[.int .u32 4294967295, .int .u32 4294967295], row (pb) 176 PC, row (cx) 191 XC] X := by
    rw [← hW]
    exact (hO).alloc' _ (w.heap.size) (by simp)
  clear hW hO
  generalize w.heap.size = B1 at hN ⊢
  have hO := hN
  clear hN
  have hL := hO.apart
  have hX := hO.apartX
  have HL := Lib.hid hL
  have HX := Lib.hid hX
  clear hL hX
  have hP9 := hO.pick [2] (by decide)
  have T9 := encO pb cx XC nfv _ _ _ hP9 hnfv
  refine Calls.mono T9 ?_
  clear hP9 T9
  rintro e u3 ⟨nd4, nd5, nd6, rfl, hQ⟩
  have hN : Own w0 u3 [row (cx) 191 (XC.setIfInBounds 39 (.func (Fn.func 19) #[] #[.pointer (some ⟨nd4, 0, none⟩), .pointer (some ⟨nd5, 0, none⟩), .pointer (some ⟨nd6, 0, none⟩)])), row (nd4) 27 #[.pointer (some ⟨cx, 0, none⟩)], row (nd5) 25 #[.pointer (some ⟨pb, 0, none⟩)], row (nd6) 202 #[.pointer none, .int .u32 4294967295, .int .u32 4294967295, .int .u32 4294967295, .int .u32 4294967295, .bool false], row (B1) 49 #[.int .u32 4294967295, .int .u32 4294967295], row (pb) 176 PC] X := hQ.back HL.out HX.out [0, 1] (by decide) (by decide)
  clear hQ HL HX hO
  have hO := hN
  clear hN
  obtain ⟨c9_1_0, lt9_1, y9_1, -⟩ := hO.k1 1 rfl
  obtain ⟨c9_2_0, lt9_2, y9_2, -⟩ := hO.k1 2 rfl
  obtain ⟨c9_3_0, c9_3_1, c9_3_2, c9_3_3, c9_3_4, c9_3_5, lt9_3, y9_3, -⟩ := hO.k6 3 rfl
  obtain ⟨c9_4_0, c9_4_1, lt9_4, y9_4, -⟩ := hO.k2 4 rfl
  have HO := Lib.hid hO
  clear hO
  have gw9_0_0 : u3.cell? ⟨0, 0, none⟩ = some (.int .u32 4294967295) := Base.cell_below HO.out.below (Base.block_of_cell hg0) hg0
  have gw9_0_1 : u3.cell? ⟨0, 1, none⟩ = some (.int .u32 4294967295) := Base.cell_below HO.out.below (Base.block_of_cell hg1) hg1
  have gl9_0 : 0 < u3.heap.size := Base.block_of_cell gw9_0_0
  go_wp2_with (first | (with_reducible refine Own.stay (fn := Tryd.f12) ?_) | fail)
  try with_reducible refine Own.Stay.mk ?_
  have hO := HO.out
  clear HO gw9_0_0 gw9_0_1 gl9_0 c9_1_0 lt9_1 y9_1 c9_2_0 lt9_2 y9_2 c9_3_0 c9_3_1 c9_3_2 c9_3_3 c9_3_4 c9_3_5 lt9_3 y9_3 c9_4_0 c9_4_1 lt9_4 y9_4
  refine bodyPost_ret (v := .tuple #[]) ?_ rfl ⟨nd4, nd5, nd6, rfl, hO.sub [5, 0, 1, 2, 3] (by decide)⟩
  simp [results, Tryd.results12, go_sem]
end Go.Proofs.YtaoflhnkhgclhaaDoor.Use
