/- The law's readers. No condition. -/
import Derived.Test.YtaoflhnkhgclhaaDoorApp
import Derived.Test.YtaoflhnkhgclhaaDoorOwnK
import Derived.Test.YtaoflhnkhgclhaaDoorOwn
import Derived.Test.YtaoflhnkhgclhaaDoorDeepCells
import Derived.Test.YtaoflhnkhgclhaaDoorRows
import Derived.Test.YtaoflhnkhgclhaaDoorUse
import Derived.Test.YtaoflhnkhgclhaaDoorLive
namespace Go.Proofs.YtaoflhnkhgclhaaDoor.Use
open Go.ChangeShapes Go.WideShapes Go.ChangeAt Go.RowKit Go.Sort Own
set_option linter.unusedVariables false
def symCntPost (pb : Nat) (PC : Array Value) (sb c n : Nat) (w0 : World) (X : Nat → Obj → Prop) (e : Ending) (w' : World) : Prop :=
  e = .returned (.int .i64 (n : Int)) ∧ Own w0 w' [row (pb) 176 PC] X
set_option maxRecDepth 100000 in
set_option maxHeartbeats 1000000 in
theorem symCnt (pb : Nat) (PC : Array Value) (sb c n : Nat) (w0 w : World) (X : Nat → Obj → Prop) (hO : Own w0 w [row (pb) 176 PC] X) (hk106 : PC[106]? = some (.slice (some ⟨sb, 0, none⟩) n (n + c))) :
    Calls Tryd.prog 11 #[.pointer (some ⟨pb, 0, none⟩)] w (symCntPost pb PC sb c n w0 X) := by
  go_enter Tryd.func11, Tryd.ntmps11
  obtain ⟨ix9, hix9, hax9, hjx9⟩ := hO.ix
  have ix9_0 : ix9 pb = 0 := hjx9 0 _ _ rfl
  clear hjx9
  have c9_0_106 : w.cell? ⟨pb, 106, none⟩ = some (.slice (some ⟨sb, 0, none⟩) n (n + c)) := hO.cell 0 rfl (106) (hk106)
  have lt9_0 : pb < w.heap.size := hO.lt 0 rfl
  have y9_0 : ∀ o, w.frozen? ⟨pb, o, none⟩ = false := hO.free 0 rfl
  have HO := Lib.hid hO
  clear hO
  go_wp2_with (first | (with_reducible refine Own.stay (fn := Tryd.f11) ?_) | fail)
  try with_reducible refine Own.Stay.mk ?_
  have hO := HO.out
  clear HO hix9 hax9 ix9_0 ix9 c9_0_106 lt9_0 y9_0
  refine bodyPost_ret (v := .int .i64 (n : Int)) ?_ rfl ⟨rfl, hO.sub [0] (by decide)⟩
  simp [results, Tryd.results11, go_sem]
def clsNmPost (cx : Nat) (XC : Array Value) (cc : Nat) (CC : Array Value) (nb i : Nat) (w0 : World) (X : Nat → Obj → Prop) (e : Ending) (w' : World) : Prop :=
  e = .returned (.tuple #[.int .u32 (i : Int), .bool true]) ∧ Own w0 w' [row (cx) 191 XC, row (cc) 182 CC, row (nb) 51 #[.int .i32 0, .int .u32 0, .int .u32 (i : Int)]] X
set_option maxRecDepth 100000 in
set_option maxHeartbeats 1000000 in
theorem clsNm (cx : Nat) (XC : Array Value) (cc : Nat) (CC : Array Value) (nb i : Nat) (w0 w : World) (X : Nat → Obj → Prop) (hO : Own w0 w [row (cx) 191 XC, row (cc) 182 CC, row (nb) 51 #[.int .i32 0, .int .u32 0, .int .u32 (i : Int)]] X) (hxc : XC[2]? = some (.pointer (some ⟨cc, 0, none⟩))) (hcn : CC[1]? = some (.pointer (some ⟨nb, 0, none⟩))) :
    Calls Tryd.prog 15 #[.pointer (some ⟨cx, 0, none⟩)] w (clsNmPost cx XC cc CC nb i w0 X) := by
  go_enter Tryd.func15, Tryd.ntmps15
  obtain ⟨ix9, hix9, hax9, hjx9⟩ := hO.ix
  have ix9_0 : ix9 cx = 0 := hjx9 0 _ _ rfl
  have ix9_1 : ix9 cc = 1 := hjx9 1 _ _ rfl
  have ix9_2 : ix9 nb = 2 := hjx9 2 _ _ rfl
  clear hjx9
  have c9_0_2 : w.cell? ⟨cx, 2, none⟩ = some (.pointer (some ⟨cc, 0, none⟩)) := hO.cell 0 rfl (2) (hxc)
  have lt9_0 : cx < w.heap.size := hO.lt 0 rfl
  have y9_0 : ∀ o, w.frozen? ⟨cx, o, none⟩ = false := hO.free 0 rfl
  have c9_1_1 : w.cell? ⟨cc, 1, none⟩ = some (.pointer (some ⟨nb, 0, none⟩)) := hO.cell 1 rfl (1) (hcn)
  have lt9_1 : cc < w.heap.size := hO.lt 1 rfl
  have y9_1 : ∀ o, w.frozen? ⟨cc, o, none⟩ = false := hO.free 1 rfl
  obtain ⟨c9_2_0, c9_2_1, c9_2_2, lt9_2, y9_2, -⟩ := hO.k3 2 rfl
  have HO := Lib.hid hO
  clear hO
  go_wp2_with (first | (with_reducible refine Own.stay (fn := Tryd.f15) ?_) | fail)
  try with_reducible refine Own.Stay.mk ?_
  have hO := HO.out
  clear HO hix9 hax9 ix9_0 ix9_1 ix9_2 ix9 c9_0_2 lt9_0 y9_0 c9_1_1 lt9_1 y9_1 c9_2_0 c9_2_1 c9_2_2 lt9_2 y9_2
  refine bodyPost_ret (v := .tuple #[.int .u32 (i : Int), .bool true]) ?_ rfl ⟨rfl, hO.sub [0, 1, 2] (by decide)⟩
  simp [results, Tryd.results15, go_sem]
def clsNm0Post (cx : Nat) (XC : Array Value) (cc : Nat) (CC : Array Value) (w0 : World) (X : Nat → Obj → Prop) (e : Ending) (w' : World) : Prop :=
  e = .returned (.tuple #[.int .u32 0, .bool false]) ∧ Own w0 w' [row (cx) 191 XC, row (cc) 182 CC] X
set_option maxRecDepth 100000 in
set_option maxHeartbeats 1000000 in
theorem clsNm0 (cx : Nat) (XC : Array Value) (cc : Nat) (CC : Array Value) (w0 w : World) (X : Nat → Obj → Prop) (hO : Own w0 w [row (cx) 191 XC, row (cc) 182 CC] X) (hxc : XC[2]? = some (.pointer (some ⟨cc, 0, none⟩))) (hcn : CC[1]? = some (.pointer none)) :
    Calls Tryd.prog 15 #[.pointer (some ⟨cx, 0, none⟩)] w (clsNm0Post cx XC cc CC w0 X) := by
  go_enter Tryd.func15, Tryd.ntmps15
  obtain ⟨ix9, hix9, hax9, hjx9⟩ := hO.ix
  have ix9_0 : ix9 cx = 0 := hjx9 0 _ _ rfl
  have ix9_1 : ix9 cc = 1 := hjx9 1 _ _ rfl
  clear hjx9
  have c9_0_2 : w.cell? ⟨cx, 2, none⟩ = some (.pointer (some ⟨cc, 0, none⟩)) := hO.cell 0 rfl (2) (hxc)
  have lt9_0 : cx < w.heap.size := hO.lt 0 rfl
  have y9_0 : ∀ o, w.frozen? ⟨cx, o, none⟩ = false := hO.free 0 rfl
  have c9_1_1 : w.cell? ⟨cc, 1, none⟩ = some (.pointer none) := hO.cell 1 rfl (1) (hcn)
  have lt9_1 : cc < w.heap.size := hO.lt 1 rfl
  have y9_1 : ∀ o, w.frozen? ⟨cc, o, none⟩ = false := hO.free 1 rfl
  have HO := Lib.hid hO
  clear hO
  go_wp2_with (first | (with_reducible refine Own.stay (fn := Tryd.f15) ?_) | fail)
  try with_reducible refine Own.Stay.mk ?_
  have hO := HO.out
  clear HO hix9 hax9 ix9_0 ix9_1 ix9 c9_0_2 lt9_0 y9_0 c9_1_1 lt9_1 y9_1
  refine bodyPost_ret (v := .tuple #[.int .u32 0, .bool false]) ?_ rfl ⟨rfl, hO.sub [0, 1] (by decide)⟩
  simp [results, Tryd.results15, go_sem]
def clsNm2Post (cx : Nat) (XC : Array Value) (cc : Nat) (CC : Array Value) (i : Nat) (w0 : World) (X : Nat → Obj → Prop) (e : Ending) (w' : World) : Prop :=
  e = .returned (.tuple #[.int .u32 (i : Int), .bool true]) ∧ Own w0 w' [row (cx) 191 XC, row (cc) 182 CC] X
set_option maxRecDepth 100000 in
set_option maxHeartbeats 1000000 in
theorem clsNm2 (cx : Nat) (XC : Array Value) (cc : Nat) (CC : Array Value) (i : Nat) (w0 w : World) (X : Nat → Obj → Prop) (hO : Own w0 w [row (cx) 191 XC, row (cc) 182 CC] X) (hxc : XC[2]? = some (.pointer (some ⟨cc, 0, none⟩))) (hcn : CC[1]? = some (.pointer (some ⟨cx, 6, none⟩))) (hd2 : XC[8]? = some (.int .u32 (i : Int))) :
    Calls Tryd.prog 15 #[.pointer (some ⟨cx, 0, none⟩)] w (clsNm2Post cx XC cc CC i w0 X) := by
  go_enter Tryd.func15, Tryd.ntmps15
  obtain ⟨ix9, hix9, hax9, hjx9⟩ := hO.ix
  have ix9_0 : ix9 cx = 0 := hjx9 0 _ _ rfl
  have ix9_1 : ix9 cc = 1 := hjx9 1 _ _ rfl
  clear hjx9
  have c9_0_2 : w.cell? ⟨cx, 2, none⟩ = some (.pointer (some ⟨cc, 0, none⟩)) := hO.cell 0 rfl (2) (hxc)
  have c9_0_8 : w.cell? ⟨cx, 8, none⟩ = some (.int .u32 (i : Int)) := hO.cell 0 rfl (8) (hd2)
  have lt9_0 : cx < w.heap.size := hO.lt 0 rfl
  have y9_0 : ∀ o, w.frozen? ⟨cx, o, none⟩ = false := hO.free 0 rfl
  have c9_1_1 : w.cell? ⟨cc, 1, none⟩ = some (.pointer (some ⟨cx, 6, none⟩)) := hO.cell 1 rfl (1) (hcn)
  have lt9_1 : cc < w.heap.size := hO.lt 1 rfl
  have y9_1 : ∀ o, w.frozen? ⟨cc, o, none⟩ = false := hO.free 1 rfl
  have HO := Lib.hid hO
  clear hO
  go_wp2_with (first | (with_reducible refine Own.stay (fn := Tryd.f15) ?_) | fail)
  try with_reducible refine Own.Stay.mk ?_
  have hO := HO.out
  clear HO hix9 hax9 ix9_0 ix9_1 ix9 c9_0_2 c9_0_8 lt9_0 y9_0 c9_1_1 lt9_1 y9_1
  refine bodyPost_ret (v := .tuple #[.int .u32 (i : Int), .bool true]) ?_ rfl ⟨rfl, hO.sub [0, 1] (by decide)⟩
  simp [results, Tryd.results15, go_sem]
def dfNmPost (cx : Nat) (XC : Array Value) (i : Nat) (w0 : World) (X : Nat → Obj → Prop) (e : Ending) (w' : World) : Prop :=
  e = .returned (.int .u32 (i : Int)) ∧ Own w0 w' [row (cx) 191 XC] X
set_option maxRecDepth 100000 in
set_option maxHeartbeats 1000000 in
theorem dfNm (cx : Nat) (XC : Array Value) (i : Nat) (w0 w : World) (X : Nat → Obj → Prop) (hO : Own w0 w [row (cx) 191 XC] X) (hd2 : XC[8]? = some (.int .u32 (i : Int))) :
    Calls Tryd.prog 16 #[.pointer (some ⟨cx, 0, none⟩)] w (dfNmPost cx XC i w0 X) := by
  go_enter Tryd.func16, Tryd.ntmps16
  obtain ⟨ix9, hix9, hax9, hjx9⟩ := hO.ix
  have ix9_0 : ix9 cx = 0 := hjx9 0 _ _ rfl
  clear hjx9
  have c9_0_8 : w.cell? ⟨cx, 8, none⟩ = some (.int .u32 (i : Int)) := hO.cell 0 rfl (8) (hd2)
  have lt9_0 : cx < w.heap.size := hO.lt 0 rfl
  have y9_0 : ∀ o, w.frozen? ⟨cx, o, none⟩ = false := hO.free 0 rfl
  have HO := Lib.hid hO
  clear hO
  go_wp2_with (first | (with_reducible refine Own.stay (fn := Tryd.f16) ?_) | fail)
  try with_reducible refine Own.Stay.mk ?_
  have hO := HO.out
  clear HO hix9 hax9 ix9_0 ix9 c9_0_8 lt9_0 y9_0
  refine bodyPost_ret (v := .int .u32 (i : Int)) ?_ rfl ⟨rfl, hO.sub [0] (by decide)⟩
  simp [results, Tryd.results16, go_sem]
def addSymPost (pb : Nat) (PC : Array Value) (sb c : Nat) (st : List Sy) (n : Nat) (src : Int) (nm : ByteArray) (w0 : World) (X : Nat → Obj → Prop) (e : Ending) (w' : World) : Prop :=
  ∃ sb2 : Nat, ∃ c2 : Nat, e = .returned (.int .u32 (n : Int)) ∧ Own w0 w' [row (pb) 176 (PC.setIfInBounds 106 (.slice (some ⟨sb2, 0, none⟩) (n + 1) (n + 1 + c2))), row (sb2) 199 (full symZ (symL (st ++ [syk nm 27])) c2)] X
set_option maxRecDepth 100000 in
set_option maxHeartbeats 1000000 in
theorem addSym (pb : Nat) (PC : Array Value) (sb c : Nat) (st : List Sy) (n : Nat) (src : Int) (nm : ByteArray) (w0 w : World) (X : Nat → Obj → Prop) (hO : Own w0 w [row (pb) 176 PC, row (sb) 199 (full symZ (symL st) c)] X) (hk66 : PC[66]? = some (.int .u32 src)) (hk32 : PC[32]? = some (.bool false)) (hk106 : PC[106]? = some (.slice (some ⟨sb, 0, none⟩) n (n + c))) (hn : st.length = n) (hnb : n ≤ 2000000) (hg0 : w0.cell? ⟨0, 0, none⟩ = some (.int .u32 4294967295)) (hg1 : w0.cell? ⟨0, 1, none⟩ = some (.int .u32 4294967295)) :
    Calls Tryd.prog 10 #[.pointer (some ⟨pb, 0, none⟩), .string nm, .bool false] w (addSymPost pb PC sb c st n src nm w0 X) := by
  go_enter Tryd.func10, Tryd.ntmps10
  go_wp2_with (first | (with_reducible refine Own.stay (fn := Tryd.f10) ?_) | fail)
  try with_reducible refine Own.Stay.mk ?_
  have hL := hO.apart
  have hX := hO.apartX
  have HL := Lib.hid hL
  have HX := Lib.hid hX
  clear hL hX
  have hP9 := hO.pick [0, 1] (by decide)
  have T9 := newSymG pb PC sb c st n src 27 nm _ _ _ hP9 hk66 hk32 hk106 hn hnb hg0 hg1
  refine Calls.mono T9 ?_
  clear hP9 T9
  rintro e u1 ⟨nd2, nd3, rfl, hQ⟩
  have hN : Own w0 u1 [row (pb) 176 (PC.setIfInBounds 106 (.slice (some ⟨nd2, 0, none⟩) (n + 1) (n + 1 + nd3))), row (nd2) 199 (full symZ (symL (st ++ [syk nm 27])) nd3)] X := hQ.back HL.out HX.out [] (by decide) (by decide)
  clear hQ HL HX hO
  have hO := hN
  clear hN
  go_wp2_with (first | (with_reducible refine Own.stay (fn := Tryd.f10) ?_) | fail)
  try with_reducible refine Own.Stay.mk ?_
  generalize hW : World.alloc _ _ = W5
  have hN : Own w0 W5 [row (u1.heap.size) 49 #[.int .u32 src, .int .u32 (n : Int)], row (pb) 176 (PC.setIfInBounds 106 (.slice (some ⟨nd2, 0, none⟩) (n + 1) (n + 1 + nd3))), row (nd2) 199 (full symZ (symL (st ++ [syk nm 27])) nd3)] X := by
    rw [← hW]
    exact (hO).alloc' _ (u1.heap.size) (by simp)
  clear hW hO
  generalize u1.heap.size = B4 at hN ⊢
  have hO := hN
  clear hN
  refine bodyPost_ret (v := .int .u32 (n : Int)) ?_ rfl ⟨nd2, nd3, rfl, hO.sub [1, 2] (by decide)⟩
  simp [results, Tryd.results10, go_sem]
end Go.Proofs.YtaoflhnkhgclhaaDoor.Use
