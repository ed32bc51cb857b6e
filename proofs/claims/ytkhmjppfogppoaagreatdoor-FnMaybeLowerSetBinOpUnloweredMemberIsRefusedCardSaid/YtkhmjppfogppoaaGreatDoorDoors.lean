/- The doors of the refusals. No condition. -/
import Derived.Test.YtkhmjppfogppoaaGreatDoorOwnK
import Derived.Test.YtkhmjppfogppoaaGreatDoorOwn
import Derived.Test.YtkhmjppfogppoaaGreatDoorDeepCells
import Derived.Test.YtkhmjppfogppoaaGreatDoorRows
import Derived.Test.YtkhmjppfogppoaaGreatDoorRef
namespace Go.Proofs.YtkhmjppfogppoaaGreatDoor.Use
open Go.ChangeShapes Go.WideShapes Go.ChangeAt Go.RowKit Go.Sort Own
set_option linter.unusedVariables false
def drefNodePost (pb : Nat) (PC : Array Value) (op : Int) (rx : Nat) (rl ll : Int) (kT kx : Nat) (w0 : World) (X : Nat → Obj → Prop) (e : Ending) (w' : World) : Prop :=
  e = .returned (.agg #[.nilIface, .int .i32 0]) ∧ Own w0 w' [row (pb) 188 PC] X
set_option maxRecDepth 100000 in
set_option maxHeartbeats 1000000 in
theorem drefNode (pb : Nat) (PC : Array Value) (op : Int) (rx : Nat) (rl ll : Int) (kT kx : Nat) (w0 w : World) (X : Nat → Obj → Prop) (hO : Own w0 w [row (pb) 188 PC] X) (hT1 : kT ≠ 211) (hT2 : kT ≠ 207) :
    Calls Tryz.prog 13 #[.pointer (some ⟨pb, 0, none⟩), .agg #[.iface kT (.pointer (some ⟨kx, 0, none⟩)), .int .i32 ll], .int .u8 op, .agg #[.iface 192 (.pointer (some ⟨rx, 0, none⟩)), .int .i32 rl]] w (drefNodePost pb PC op rx rl ll kT kx w0 X) := by
  go_enter Tryz.func13, Tryz.ntmps13
  go_wp2_with fail
  generalize hW : World.alloc _ _ = W2
  have hN : Own w0 W2 [row (w.heap.size + 1 + 1) 32 #[.nilIface, .int .i32 0], row (w.heap.size + 1) 32 #[.iface 192 (.pointer (some ⟨rx, 0, none⟩)), .int .i32 rl], row (w.heap.size) 32 #[.iface kT (.pointer (some ⟨kx, 0, none⟩)), .int .i32 ll], row (pb) 188 PC] X := by
    rw [← hW]
    exact (((hO).alloc' _ (w.heap.size) (by simp)).alloc' _ (w.heap.size + 1) (by simp)).alloc' _ (w.heap.size + 1 + 1) (by simp)
  clear hW hO
  generalize w.heap.size + 1 + 1 = B1_2 at hN ⊢
  generalize w.heap.size + 1 = B1_1 at hN ⊢
  generalize w.heap.size = B1 at hN ⊢
  have hO := hN
  clear hN
  have hL := hO.apart
  have hX := hO.apartX
  have HL := Lib.hid hL
  have HX := Lib.hid hX
  clear hL hX
  have hP9 := hO.pick [3] (by decide)
  have T9 := refNode pb PC op rx rl ll kT kx _ _ _ hP9 hT1 hT2
  refine Calls.mono T9 ?_
  clear hP9 T9
  rintro e u3 ⟨rfl, hQ⟩
  have hN : Own w0 u3 [row (pb) 188 PC, row (B1_2) 32 #[.nilIface, .int .i32 0], row (B1_1) 32 #[.iface 192 (.pointer (some ⟨rx, 0, none⟩)), .int .i32 rl], row (B1) 32 #[.iface kT (.pointer (some ⟨kx, 0, none⟩)), .int .i32 ll]] X := hQ.back HL.out HX.out [0, 1, 2] (by decide) (by decide)
  clear hQ HL HX hO
  have hO := hN
  clear hN
  obtain ⟨c9_1_0, c9_1_1, lt9_1, y9_1, -⟩ := hO.k2 1 rfl
  obtain ⟨c9_2_0, c9_2_1, lt9_2, y9_2, -⟩ := hO.k2 2 rfl
  obtain ⟨c9_3_0, c9_3_1, lt9_3, y9_3, -⟩ := hO.k2 3 rfl
  have HO := Lib.hid hO
  clear hO
  go_wp2_with fail
  have hO := HO.out
  clear HO c9_1_0 c9_1_1 lt9_1 y9_1 c9_2_0 c9_2_1 lt9_2 y9_2 c9_3_0 c9_3_1 lt9_3 y9_3
  generalize hW : World.setCell _ _ _ = W5
  have hN : Own w0 W5 [row (pb) 188 PC, row (B1_2) 32 #[.nilIface, .int .i32 0], row (B1_1) 32 #[.iface 192 (.pointer (some ⟨rx, 0, none⟩)), .int .i32 rl], row (B1) 32 #[.iface kT (.pointer (some ⟨kx, 0, none⟩)), .int .i32 ll]] X := by
    rw [← hW]
    exact ((hO).set 1 rfl 0 _).set 1 rfl 1 _
  clear hW hO
  have hO := hN
  clear hN
  have z9_1_0 : W5.cell? ⟨B1_2, 0, none⟩ = some (.nilIface) := hO.cell 1 rfl 0 rfl
  have z9_1_1 : W5.cell? ⟨B1_2, 1, none⟩ = some (.int .i32 0) := hO.cell 1 rfl 1 rfl
  refine bodyPost_ret (v := .agg #[.nilIface, .int .i32 0]) ?_ rfl ⟨rfl, hO.sub [0] (by decide)⟩
  simp [results, Tryz.results13, go_sem, z9_1_0, z9_1_1]
def drefNilPost (pb : Nat) (PC : Array Value) (op : Int) (rx : Nat) (rl ll : Int) (w0 : World) (X : Nat → Obj → Prop) (e : Ending) (w' : World) : Prop :=
  e = .returned (.agg #[.nilIface, .int .i32 0]) ∧ Own w0 w' [row (pb) 188 PC] X
set_option maxRecDepth 100000 in
set_option maxHeartbeats 1000000 in
theorem drefNil (pb : Nat) (PC : Array Value) (op : Int) (rx : Nat) (rl ll : Int) (w0 w : World) (X : Nat → Obj → Prop) (hO : Own w0 w [row (pb) 188 PC] X)  :
    Calls Tryz.prog 13 #[.pointer (some ⟨pb, 0, none⟩), .agg #[.nilIface, .int .i32 ll], .int .u8 op, .agg #[.iface 192 (.pointer (some ⟨rx, 0, none⟩)), .int .i32 rl]] w (drefNilPost pb PC op rx rl ll w0 X) := by
  go_enter Tryz.func13, Tryz.ntmps13
  go_wp2_with fail
  generalize hW : World.alloc _ _ = W2
  have hN : Own w0 W2 [row (w.heap.size + 1 + 1) 32 #[.nilIface, .int .i32 0], row (w.heap.size + 1) 32 #[.iface 192 (.pointer (some ⟨rx, 0, none⟩)), .int .i32 rl], row (w.heap.size) 32 #[.nilIface, .int .i32 ll], row (pb) 188 PC] X := by
    rw [← hW]
    exact (((hO).alloc' _ (w.heap.size) (by simp)).alloc' _ (w.heap.size + 1) (by simp)).alloc' _ (w.heap.size + 1 + 1) (by simp)
  clear hW hO
  generalize w.heap.size + 1 + 1 = B1_2 at hN ⊢
  generalize w.heap.size + 1 = B1_1 at hN ⊢
  generalize w.heap.size = B1 at hN ⊢
  have hO := hN
  clear hN
  have hL := hO.apart
  have hX := hO.apartX
  have HL := Lib.hid hL
  have HX := Lib.hid hX
  clear hL hX
  have hP9 := hO.pick [3] (by decide)
  have T9 := refNil pb PC op rx rl ll _ _ _ hP9 
  refine Calls.mono T9 ?_
  clear hP9 T9
  rintro e u3 ⟨rfl, hQ⟩
  have hN : Own w0 u3 [row (pb) 188 PC, row (B1_2) 32 #[.nilIface, .int .i32 0], row (B1_1) 32 #[.iface 192 (.pointer (some ⟨rx, 0, none⟩)), .int .i32 rl], row (B1) 32 #[.nilIface, .int .i32 ll]] X := hQ.back HL.out HX.out [0, 1, 2] (by decide) (by decide)
  clear hQ HL HX hO
  have hO := hN
  clear hN
  obtain ⟨c9_1_0, c9_1_1, lt9_1, y9_1, -⟩ := hO.k2 1 rfl
  obtain ⟨c9_2_0, c9_2_1, lt9_2, y9_2, -⟩ := hO.k2 2 rfl
  obtain ⟨c9_3_0, c9_3_1, lt9_3, y9_3, -⟩ := hO.k2 3 rfl
  have HO := Lib.hid hO
  clear hO
  go_wp2_with fail
  have hO := HO.out
  clear HO c9_1_0 c9_1_1 lt9_1 y9_1 c9_2_0 c9_2_1 lt9_2 y9_2 c9_3_0 c9_3_1 lt9_3 y9_3
  generalize hW : World.setCell _ _ _ = W5
  have hN : Own w0 W5 [row (pb) 188 PC, row (B1_2) 32 #[.nilIface, .int .i32 0], row (B1_1) 32 #[.iface 192 (.pointer (some ⟨rx, 0, none⟩)), .int .i32 rl], row (B1) 32 #[.nilIface, .int .i32 ll]] X := by
    rw [← hW]
    exact ((hO).set 1 rfl 0 _).set 1 rfl 1 _
  clear hW hO
  have hO := hN
  clear hN
  have z9_1_0 : W5.cell? ⟨B1_2, 0, none⟩ = some (.nilIface) := hO.cell 1 rfl 0 rfl
  have z9_1_1 : W5.cell? ⟨B1_2, 1, none⟩ = some (.int .i32 0) := hO.cell 1 rfl 1 rfl
  refine bodyPost_ret (v := .agg #[.nilIface, .int .i32 0]) ?_ rfl ⟨rfl, hO.sub [0] (by decide)⟩
  simp [results, Tryz.results13, go_sem, z9_1_0, z9_1_1]
def drefDot0Post (pb : Nat) (PC : Array Value) (op : Int) (rx : Nat) (rl ll : Int) (d : Nat) (tl nl : Int) (nm : ByteArray) (kT kx : Nat) (w0 : World) (X : Nat → Obj → Prop) (e : Ending) (w' : World) : Prop :=
  e = .returned (.agg #[.nilIface, .int .i32 0]) ∧ Own w0 w' [row (pb) 188 PC, row (d) 210 #[.iface kT (.pointer (some ⟨kx, 0, none⟩)), .int .i32 tl, .string nm, .int .i32 nl, .int .u8 0, .bool false, .bool false, .bool false]] X
set_option maxRecDepth 100000 in
set_option maxHeartbeats 1000000 in
theorem drefDot0 (pb : Nat) (PC : Array Value) (op : Int) (rx : Nat) (rl ll : Int) (d : Nat) (tl nl : Int) (nm : ByteArray) (kT kx : Nat) (w0 w : World) (X : Nat → Obj → Prop) (hO : Own w0 w [row (pb) 188 PC, row (d) 210 #[.iface kT (.pointer (some ⟨kx, 0, none⟩)), .int .i32 tl, .string nm, .int .i32 nl, .int .u8 0, .bool false, .bool false, .bool false]] X) (hl : PC[338]? = some (.bool false)) :
    Calls Tryz.prog 13 #[.pointer (some ⟨pb, 0, none⟩), .agg #[.iface 207 (.pointer (some ⟨d, 0, none⟩)), .int .i32 ll], .int .u8 op, .agg #[.iface 192 (.pointer (some ⟨rx, 0, none⟩)), .int .i32 rl]] w (drefDot0Post pb PC op rx rl ll d tl nl nm kT kx w0 X) := by
  go_enter Tryz.func13, Tryz.ntmps13
  obtain ⟨c9_1_0, c9_1_1, c9_1_2, c9_1_3, c9_1_4, c9_1_5, c9_1_6, c9_1_7, lt9_1, y9_1, -⟩ := hO.k8 1 rfl
  have HO := Lib.hid hO
  clear hO
  go_wp2_with fail
  have hO := HO.out
  clear HO c9_1_0 c9_1_1 c9_1_2 c9_1_3 c9_1_4 c9_1_5 c9_1_6 c9_1_7 lt9_1 y9_1
  generalize hW : World.alloc _ _ = W2
  have hN : Own w0 W2 [row (w.heap.size + 1 + 1) 32 #[.nilIface, .int .i32 0], row (w.heap.size + 1) 32 #[.iface 192 (.pointer (some ⟨rx, 0, none⟩)), .int .i32 rl], row (w.heap.size) 32 #[.iface 207 (.pointer (some ⟨d, 0, none⟩)), .int .i32 ll], row (pb) 188 PC, row (d) 210 #[.iface kT (.pointer (some ⟨kx, 0, none⟩)), .int .i32 tl, .string nm, .int .i32 nl, .int .u8 0, .bool false, .bool false, .bool false]] X := by
    rw [← hW]
    exact (((hO).alloc' _ (w.heap.size) (by simp)).alloc' _ (w.heap.size + 1) (by simp)).alloc' _ (w.heap.size + 1 + 1) (by simp)
  clear hW hO
  generalize w.heap.size + 1 + 1 = B1_2 at hN ⊢
  generalize w.heap.size + 1 = B1_1 at hN ⊢
  generalize w.heap.size = B1 at hN ⊢
  have hO := hN
  clear hN
  have hL := hO.apart
  have hX := hO.apartX
  have HL := Lib.hid hL
  have HX := Lib.hid hX
  clear hL hX
  have hP9 := hO.pick [3, 4] (by decide)
  have T9 := refDot0 pb PC op rx rl ll d tl nl nm kT kx _ _ _ hP9 hl
  refine Calls.mono T9 ?_
  clear hP9 T9
  rintro e u3 ⟨rfl, hQ⟩
  have hN : Own w0 u3 [row (pb) 188 PC, row (d) 210 #[.iface kT (.pointer (some ⟨kx, 0, none⟩)), .int .i32 tl, .string nm, .int .i32 nl, .int .u8 0, .bool false, .bool false, .bool false], row (B1_2) 32 #[.nilIface, .int .i32 0], row (B1_1) 32 #[.iface 192 (.pointer (some ⟨rx, 0, none⟩)), .int .i32 rl], row (B1) 32 #[.iface 207 (.pointer (some ⟨d, 0, none⟩)), .int .i32 ll]] X := hQ.back HL.out HX.out [0, 1, 2] (by decide) (by decide)
  clear hQ HL HX hO
  have hO := hN
  clear hN
  obtain ⟨c9_1_0, c9_1_1, c9_1_2, c9_1_3, c9_1_4, c9_1_5, c9_1_6, c9_1_7, lt9_1, y9_1, -⟩ := hO.k8 1 rfl
  obtain ⟨c9_2_0, c9_2_1, lt9_2, y9_2, -⟩ := hO.k2 2 rfl
  obtain ⟨c9_3_0, c9_3_1, lt9_3, y9_3, -⟩ := hO.k2 3 rfl
  obtain ⟨c9_4_0, c9_4_1, lt9_4, y9_4, -⟩ := hO.k2 4 rfl
  have HO := Lib.hid hO
  clear hO
  go_wp2_with fail
  have hO := HO.out
  clear HO c9_1_0 c9_1_1 c9_1_2 c9_1_3 c9_1_4 c9_1_5 c9_1_6 c9_1_7 lt9_1 y9_1 c9_2_0 c9_2_1 lt9_2 y9_2 c9_3_0 c9_3_1 lt9_3 y9_3 c9_4_0 c9_4_1 lt9_4 y9_4
  generalize hW : World.setCell _ _ _ = W5
  have hN : Own w0 W5 [row (pb) 188 PC, row (d) 210 #[.iface kT (.pointer (some ⟨kx, 0, none⟩)), .int .i32 tl, .string nm, .int .i32 nl, .int .u8 0, .bool false, .bool false, .bool false], row (B1_2) 32 #[.nilIface, .int .i32 0], row (B1_1) 32 #[.iface 192 (.pointer (some ⟨rx, 0, none⟩)), .int .i32 rl], row (B1) 32 #[.iface 207 (.pointer (some ⟨d, 0, none⟩)), .int .i32 ll]] X := by
    rw [← hW]
    exact ((hO).set 2 rfl 0 _).set 2 rfl 1 _
  clear hW hO
  have hO := hN
  clear hN
  have z9_2_0 : W5.cell? ⟨B1_2, 0, none⟩ = some (.nilIface) := hO.cell 2 rfl 0 rfl
  have z9_2_1 : W5.cell? ⟨B1_2, 1, none⟩ = some (.int .i32 0) := hO.cell 2 rfl 1 rfl
  refine bodyPost_ret (v := .agg #[.nilIface, .int .i32 0]) ?_ rfl ⟨rfl, hO.sub [0, 1] (by decide)⟩
  simp [results, Tryz.results13, go_sem, z9_2_0, z9_2_1]
def drefDot1Post (pb : Nat) (PC : Array Value) (op : Int) (rx : Nat) (rl ll : Int) (d : Nat) (tl nl : Int) (nm : ByteArray) (kT kx : Nat) (w0 : World) (X : Nat → Obj → Prop) (e : Ending) (w' : World) : Prop :=
  e = .returned (.agg #[.nilIface, .int .i32 0]) ∧ Own w0 w' [row (pb) 188 PC, row (d) 210 #[.iface kT (.pointer (some ⟨kx, 0, none⟩)), .int .i32 tl, .string nm, .int .i32 nl, .int .u8 0, .bool false, .bool false, .bool false]] X
set_option maxRecDepth 100000 in
set_option maxHeartbeats 1000000 in
theorem drefDot1 (pb : Nat) (PC : Array Value) (op : Int) (rx : Nat) (rl ll : Int) (d : Nat) (tl nl : Int) (nm : ByteArray) (kT kx : Nat) (w0 w : World) (X : Nat → Obj → Prop) (hO : Own w0 w [row (pb) 188 PC, row (d) 210 #[.iface kT (.pointer (some ⟨kx, 0, none⟩)), .int .i32 tl, .string nm, .int .i32 nl, .int .u8 0, .bool false, .bool false, .bool false]] X) (hl : PC[338]? = some (.bool true)) (hT : kT ≠ 204) :
    Calls Tryz.prog 13 #[.pointer (some ⟨pb, 0, none⟩), .agg #[.iface 207 (.pointer (some ⟨d, 0, none⟩)), .int .i32 ll], .int .u8 op, .agg #[.iface 192 (.pointer (some ⟨rx, 0, none⟩)), .int .i32 rl]] w (drefDot1Post pb PC op rx rl ll d tl nl nm kT kx w0 X) := by
  go_enter Tryz.func13, Tryz.ntmps13
  obtain ⟨c9_1_0, c9_1_1, c9_1_2, c9_1_3, c9_1_4, c9_1_5, c9_1_6, c9_1_7, lt9_1, y9_1, -⟩ := hO.k8 1 rfl
  have HO := Lib.hid hO
  clear hO
  go_wp2_with fail
  have hO := HO.out
  clear HO c9_1_0 c9_1_1 c9_1_2 c9_1_3 c9_1_4 c9_1_5 c9_1_6 c9_1_7 lt9_1 y9_1
  generalize hW : World.alloc _ _ = W2
  have hN : Own w0 W2 [row (w.heap.size + 1 + 1) 32 #[.nilIface, .int .i32 0], row (w.heap.size + 1) 32 #[.iface 192 (.pointer (some ⟨rx, 0, none⟩)), .int .i32 rl], row (w.heap.size) 32 #[.iface 207 (.pointer (some ⟨d, 0, none⟩)), .int .i32 ll], row (pb) 188 PC, row (d) 210 #[.iface kT (.pointer (some ⟨kx, 0, none⟩)), .int .i32 tl, .string nm, .int .i32 nl, .int .u8 0, .bool false, .bool false, .bool false]] X := by
    rw [← hW]
    exact (((hO).alloc' _ (w.heap.size) (by simp)).alloc' _ (w.heap.size + 1) (by simp)).alloc' _ (w.heap.size + 1 + 1) (by simp)
  clear hW hO
  generalize w.heap.size + 1 + 1 = B1_2 at hN ⊢
  generalize w.heap.size + 1 = B1_1 at hN ⊢
  generalize w.heap.size = B1 at hN ⊢
  have hO := hN
  clear hN
  have hL := hO.apart
  have hX := hO.apartX
  have HL := Lib.hid hL
  have HX := Lib.hid hX
  clear hL hX
  have hP9 := hO.pick [3, 4] (by decide)
  have T9 := refDot1 pb PC op rx rl ll d tl nl nm kT kx _ _ _ hP9 hl hT
  refine Calls.mono T9 ?_
  clear hP9 T9
  rintro e u3 ⟨rfl, hQ⟩
  have hN : Own w0 u3 [row (pb) 188 PC, row (d) 210 #[.iface kT (.pointer (some ⟨kx, 0, none⟩)), .int .i32 tl, .string nm, .int .i32 nl, .int .u8 0, .bool false, .bool false, .bool false], row (B1_2) 32 #[.nilIface, .int .i32 0], row (B1_1) 32 #[.iface 192 (.pointer (some ⟨rx, 0, none⟩)), .int .i32 rl], row (B1) 32 #[.iface 207 (.pointer (some ⟨d, 0, none⟩)), .int .i32 ll]] X := hQ.back HL.out HX.out [0, 1, 2] (by decide) (by decide)
  clear hQ HL HX hO
  have hO := hN
  clear hN
  obtain ⟨c9_1_0, c9_1_1, c9_1_2, c9_1_3, c9_1_4, c9_1_5, c9_1_6, c9_1_7, lt9_1, y9_1, -⟩ := hO.k8 1 rfl
  obtain ⟨c9_2_0, c9_2_1, lt9_2, y9_2, -⟩ := hO.k2 2 rfl
  obtain ⟨c9_3_0, c9_3_1, lt9_3, y9_3, -⟩ := hO.k2 3 rfl
  obtain ⟨c9_4_0, c9_4_1, lt9_4, y9_4, -⟩ := hO.k2 4 rfl
  have HO := Lib.hid hO
  clear hO
  go_wp2_with fail
  have hO := HO.out
  clear HO c9_1_0 c9_1_1 c9_1_2 c9_1_3 c9_1_4 c9_1_5 c9_1_6 c9_1_7 lt9_1 y9_1 c9_2_0 c9_2_1 lt9_2 y9_2 c9_3_0 c9_3_1 lt9_3 y9_3 c9_4_0 c9_4_1 lt9_4 y9_4
  generalize hW : World.setCell _ _ _ = W5
  have hN : Own w0 W5 [row (pb) 188 PC, row (d) 210 #[.iface kT (.pointer (some ⟨kx, 0, none⟩)), .int .i32 tl, .string nm, .int .i32 nl, .int .u8 0, .bool false, .bool false, .bool false], row (B1_2) 32 #[.nilIface, .int .i32 0], row (B1_1) 32 #[.iface 192 (.pointer (some ⟨rx, 0, none⟩)), .int .i32 rl], row (B1) 32 #[.iface 207 (.pointer (some ⟨d, 0, none⟩)), .int .i32 ll]] X := by
    rw [← hW]
    exact ((hO).set 2 rfl 0 _).set 2 rfl 1 _
  clear hW hO
  have hO := hN
  clear hN
  have z9_2_0 : W5.cell? ⟨B1_2, 0, none⟩ = some (.nilIface) := hO.cell 2 rfl 0 rfl
  have z9_2_1 : W5.cell? ⟨B1_2, 1, none⟩ = some (.int .i32 0) := hO.cell 2 rfl 1 rfl
  refine bodyPost_ret (v := .agg #[.nilIface, .int .i32 0]) ?_ rfl ⟨rfl, hO.sub [0, 1] (by decide)⟩
  simp [results, Tryz.results13, go_sem, z9_2_0, z9_2_1]
def drefIdx0Post (pb : Nat) (PC : Array Value) (op : Int) (rx : Nat) (rl ll : Int) (d : Nat) (tl xl : Int) (jT jx kT kx : Nat) (w0 : World) (X : Nat → Obj → Prop) (e : Ending) (w' : World) : Prop :=
  e = .returned (.agg #[.nilIface, .int .i32 0]) ∧ Own w0 w' [row (pb) 188 PC, row (d) 213 #[.iface kT (.pointer (some ⟨kx, 0, none⟩)), .int .i32 tl, .iface jT (.pointer (some ⟨jx, 0, none⟩)), .int .i32 xl, .int .i32 0, .int .u8 0, .bool false, .bool false, .bool false]] X
set_option maxRecDepth 100000 in
set_option maxHeartbeats 1000000 in
theorem drefIdx0 (pb : Nat) (PC : Array Value) (op : Int) (rx : Nat) (rl ll : Int) (d : Nat) (tl xl : Int) (jT jx kT kx : Nat) (w0 w : World) (X : Nat → Obj → Prop) (hO : Own w0 w [row (pb) 188 PC, row (d) 213 #[.iface kT (.pointer (some ⟨kx, 0, none⟩)), .int .i32 tl, .iface jT (.pointer (some ⟨jx, 0, none⟩)), .int .i32 xl, .int .i32 0, .int .u8 0, .bool false, .bool false, .bool false]] X) (hl : PC[338]? = some (.bool false)) (hJ : jT ≠ 240) :
    Calls Tryz.prog 13 #[.pointer (some ⟨pb, 0, none⟩), .agg #[.iface 211 (.pointer (some ⟨d, 0, none⟩)), .int .i32 ll], .int .u8 op, .agg #[.iface 192 (.pointer (some ⟨rx, 0, none⟩)), .int .i32 rl]] w (drefIdx0Post pb PC op rx rl ll d tl xl jT jx kT kx w0 X) := by
  go_enter Tryz.func13, Tryz.ntmps13
  obtain ⟨c9_1_0, c9_1_1, c9_1_2, c9_1_3, c9_1_4, c9_1_5, c9_1_6, c9_1_7, c9_1_8, lt9_1, y9_1, -⟩ := hO.k9 1 rfl
  have HO := Lib.hid hO
  clear hO
  go_wp2_with fail
  have hO := HO.out
  clear HO c9_1_0 c9_1_1 c9_1_2 c9_1_3 c9_1_4 c9_1_5 c9_1_6 c9_1_7 c9_1_8 lt9_1 y9_1
  generalize hW : World.alloc _ _ = W2
  have hN : Own w0 W2 [row (w.heap.size + 1 + 1) 32 #[.nilIface, .int .i32 0], row (w.heap.size + 1) 32 #[.iface 192 (.pointer (some ⟨rx, 0, none⟩)), .int .i32 rl], row (w.heap.size) 32 #[.iface 211 (.pointer (some ⟨d, 0, none⟩)), .int .i32 ll], row (pb) 188 PC, row (d) 213 #[.iface kT (.pointer (some ⟨kx, 0, none⟩)), .int .i32 tl, .iface jT (.pointer (some ⟨jx, 0, none⟩)), .int .i32 xl, .int .i32 0, .int .u8 0, .bool false, .bool false, .bool false]] X := by
    rw [← hW]
    exact (((hO).alloc' _ (w.heap.size) (by simp)).alloc' _ (w.heap.size + 1) (by simp)).alloc' _ (w.heap.size + 1 + 1) (by simp)
  clear hW hO
  generalize w.heap.size + 1 + 1 = B1_2 at hN ⊢
  generalize w.heap.size + 1 = B1_1 at hN ⊢
  generalize w.heap.size = B1 at hN ⊢
  have hO := hN
  clear hN
  have hL := hO.apart
  have hX := hO.apartX
  have HL := Lib.hid hL
  have HX := Lib.hid hX
  clear hL hX
  have hP9 := hO.pick [3, 4] (by decide)
  have T9 := refIdx0 pb PC op rx rl ll d tl xl jT jx kT kx _ _ _ hP9 hl hJ
  refine Calls.mono T9 ?_
  clear hP9 T9
  rintro e u3 ⟨rfl, hQ⟩
  have hN : Own w0 u3 [row (pb) 188 PC, row (d) 213 #[.iface kT (.pointer (some ⟨kx, 0, none⟩)), .int .i32 tl, .iface jT (.pointer (some ⟨jx, 0, none⟩)), .int .i32 xl, .int .i32 0, .int .u8 0, .bool false, .bool false, .bool false], row (B1_2) 32 #[.nilIface, .int .i32 0], row (B1_1) 32 #[.iface 192 (.pointer (some ⟨rx, 0, none⟩)), .int .i32 rl], row (B1) 32 #[.iface 211 (.pointer (some ⟨d, 0, none⟩)), .int .i32 ll]] X := hQ.back HL.out HX.out [0, 1, 2] (by decide) (by decide)
  clear hQ HL HX hO
  have hO := hN
  clear hN
  obtain ⟨c9_1_0, c9_1_1, c9_1_2, c9_1_3, c9_1_4, c9_1_5, c9_1_6, c9_1_7, c9_1_8, lt9_1, y9_1, -⟩ := hO.k9 1 rfl
  obtain ⟨c9_2_0, c9_2_1, lt9_2, y9_2, -⟩ := hO.k2 2 rfl
  obtain ⟨c9_3_0, c9_3_1, lt9_3, y9_3, -⟩ := hO.k2 3 rfl
  obtain ⟨c9_4_0, c9_4_1, lt9_4, y9_4, -⟩ := hO.k2 4 rfl
  have HO := Lib.hid hO
  clear hO
  go_wp2_with fail
  have hO := HO.out
  clear HO c9_1_0 c9_1_1 c9_1_2 c9_1_3 c9_1_4 c9_1_5 c9_1_6 c9_1_7 c9_1_8 lt9_1 y9_1 c9_2_0 c9_2_1 lt9_2 y9_2 c9_3_0 c9_3_1 lt9_3 y9_3 c9_4_0 c9_4_1 lt9_4 y9_4
  generalize hW : World.setCell _ _ _ = W5
  have hN : Own w0 W5 [row (pb) 188 PC, row (d) 213 #[.iface kT (.pointer (some ⟨kx, 0, none⟩)), .int .i32 tl, .iface jT (.pointer (some ⟨jx, 0, none⟩)), .int .i32 xl, .int .i32 0, .int .u8 0, .bool false, .bool false, .bool false], row (B1_2) 32 #[.nilIface, .int .i32 0], row (B1_1) 32 #[.iface 192 (.pointer (some ⟨rx, 0, none⟩)), .int .i32 rl], row (B1) 32 #[.iface 211 (.pointer (some ⟨d, 0, none⟩)), .int .i32 ll]] X := by
    rw [← hW]
    exact ((hO).set 2 rfl 0 _).set 2 rfl 1 _
  clear hW hO
  have hO := hN
  clear hN
  have z9_2_0 : W5.cell? ⟨B1_2, 0, none⟩ = some (.nilIface) := hO.cell 2 rfl 0 rfl
  have z9_2_1 : W5.cell? ⟨B1_2, 1, none⟩ = some (.int .i32 0) := hO.cell 2 rfl 1 rfl
  refine bodyPost_ret (v := .agg #[.nilIface, .int .i32 0]) ?_ rfl ⟨rfl, hO.sub [0, 1] (by decide)⟩
  simp [results, Tryz.results13, go_sem, z9_2_0, z9_2_1]
def drefIdx1Post (pb : Nat) (PC : Array Value) (op : Int) (rx : Nat) (rl ll : Int) (d : Nat) (tl xl : Int) (jT jx kT kx : Nat) (w0 : World) (X : Nat → Obj → Prop) (e : Ending) (w' : World) : Prop :=
  e = .returned (.agg #[.nilIface, .int .i32 0]) ∧ Own w0 w' [row (pb) 188 PC, row (d) 213 #[.iface kT (.pointer (some ⟨kx, 0, none⟩)), .int .i32 tl, .iface jT (.pointer (some ⟨jx, 0, none⟩)), .int .i32 xl, .int .i32 0, .int .u8 0, .bool false, .bool false, .bool false]] X
set_option maxRecDepth 100000 in
set_option maxHeartbeats 1000000 in
theorem drefIdx1 (pb : Nat) (PC : Array Value) (op : Int) (rx : Nat) (rl ll : Int) (d : Nat) (tl xl : Int) (jT jx kT kx : Nat) (w0 w : World) (X : Nat → Obj → Prop) (hO : Own w0 w [row (pb) 188 PC, row (d) 213 #[.iface kT (.pointer (some ⟨kx, 0, none⟩)), .int .i32 tl, .iface jT (.pointer (some ⟨jx, 0, none⟩)), .int .i32 xl, .int .i32 0, .int .u8 0, .bool false, .bool false, .bool false]] X) (hl : PC[338]? = some (.bool true)) (hT : kT ≠ 204) (hJ : jT ≠ 240) :
    Calls Tryz.prog 13 #[.pointer (some ⟨pb, 0, none⟩), .agg #[.iface 211 (.pointer (some ⟨d, 0, none⟩)), .int .i32 ll], .int .u8 op, .agg #[.iface 192 (.pointer (some ⟨rx, 0, none⟩)), .int .i32 rl]] w (drefIdx1Post pb PC op rx rl ll d tl xl jT jx kT kx w0 X) := by
  go_enter Tryz.func13, Tryz.ntmps13
  obtain ⟨c9_1_0, c9_1_1, c9_1_2, c9_1_3, c9_1_4, c9_1_5, c9_1_6, c9_1_7, c9_1_8, lt9_1, y9_1, -⟩ := hO.k9 1 rfl
  have HO := Lib.hid hO
  clear hO
  go_wp2_with fail
  have hO := HO.out
  clear HO c9_1_0 c9_1_1 c9_1_2 c9_1_3 c9_1_4 c9_1_5 c9_1_6 c9_1_7 c9_1_8 lt9_1 y9_1
  generalize hW : World.alloc _ _ = W2
  have hN : Own w0 W2 [row (w.heap.size + 1 + 1) 32 #[.nilIface, .int .i32 0], row (w.heap.size + 1) 32 #[.iface 192 (.pointer (some ⟨rx, 0, none⟩)), .int .i32 rl], row (w.heap.size) 32 #[.iface 211 (.pointer (some ⟨d, 0, none⟩)), .int .i32 ll], row (pb) 188 PC, row (d) 213 #[.iface kT (.pointer (some ⟨kx, 0, none⟩)), .int .i32 tl, .iface jT (.pointer (some ⟨jx, 0, none⟩)), .int .i32 xl, .int .i32 0, .int .u8 0, .bool false, .bool false, .bool false]] X := by
    rw [← hW]
    exact (((hO).alloc' _ (w.heap.size) (by simp)).alloc' _ (w.heap.size + 1) (by simp)).alloc' _ (w.heap.size + 1 + 1) (by simp)
  clear hW hO
  generalize w.heap.size + 1 + 1 = B1_2 at hN ⊢
  generalize w.heap.size + 1 = B1_1 at hN ⊢
  generalize w.heap.size = B1 at hN ⊢
  have hO := hN
  clear hN
  have hL := hO.apart
  have hX := hO.apartX
  have HL := Lib.hid hL
  have HX := Lib.hid hX
  clear hL hX
  have hP9 := hO.pick [3, 4] (by decide)
  have T9 := refIdx1 pb PC op rx rl ll d tl xl jT jx kT kx _ _ _ hP9 hl hT hJ
  refine Calls.mono T9 ?_
  clear hP9 T9
  rintro e u3 ⟨rfl, hQ⟩
  have hN : Own w0 u3 [row (pb) 188 PC, row (d) 213 #[.iface kT (.pointer (some ⟨kx, 0, none⟩)), .int .i32 tl, .iface jT (.pointer (some ⟨jx, 0, none⟩)), .int .i32 xl, .int .i32 0, .int .u8 0, .bool false, .bool false, .bool false], row (B1_2) 32 #[.nilIface, .int .i32 0], row (B1_1) 32 #[.iface 192 (.pointer (some ⟨rx, 0, none⟩)), .int .i32 rl], row (B1) 32 #[.iface 211 (.pointer (some ⟨d, 0, none⟩)), .int .i32 ll]] X := hQ.back HL.out HX.out [0, 1, 2] (by decide) (by decide)
  clear hQ HL HX hO
  have hO := hN
  clear hN
  obtain ⟨c9_1_0, c9_1_1, c9_1_2, c9_1_3, c9_1_4, c9_1_5, c9_1_6, c9_1_7, c9_1_8, lt9_1, y9_1, -⟩ := hO.k9 1 rfl
  obtain ⟨c9_2_0, c9_2_1, lt9_2, y9_2, -⟩ := hO.k2 2 rfl
  obtain ⟨c9_3_0, c9_3_1, lt9_3, y9_3, -⟩ := hO.k2 3 rfl
  obtain ⟨c9_4_0, c9_4_1, lt9_4, y9_4, -⟩ := hO.k2 4 rfl
  have HO := Lib.hid hO
  clear hO
  go_wp2_with fail
  have hO := HO.out
  clear HO c9_1_0 c9_1_1 c9_1_2 c9_1_3 c9_1_4 c9_1_5 c9_1_6 c9_1_7 c9_1_8 lt9_1 y9_1 c9_2_0 c9_2_1 lt9_2 y9_2 c9_3_0 c9_3_1 lt9_3 y9_3 c9_4_0 c9_4_1 lt9_4 y9_4
  generalize hW : World.setCell _ _ _ = W5
  have hN : Own w0 W5 [row (pb) 188 PC, row (d) 213 #[.iface kT (.pointer (some ⟨kx, 0, none⟩)), .int .i32 tl, .iface jT (.pointer (some ⟨jx, 0, none⟩)), .int .i32 xl, .int .i32 0, .int .u8 0, .bool false, .bool false, .bool false], row (B1_2) 32 #[.nilIface, .int .i32 0], row (B1_1) 32 #[.iface 192 (.pointer (some ⟨rx, 0, none⟩)), .int .i32 rl], row (B1) 32 #[.iface 211 (.pointer (some ⟨d, 0, none⟩)), .int .i32 ll]] X := by
    rw [← hW]
    exact ((hO).set 2 rfl 0 _).set 2 rfl 1 _
  clear hW hO
  have hO := hN
  clear hN
  have z9_2_0 : W5.cell? ⟨B1_2, 0, none⟩ = some (.nilIface) := hO.cell 2 rfl 0 rfl
  have z9_2_1 : W5.cell? ⟨B1_2, 1, none⟩ = some (.int .i32 0) := hO.cell 2 rfl 1 rfl
  refine bodyPost_ret (v := .agg #[.nilIface, .int .i32 0]) ?_ rfl ⟨rfl, hO.sub [0, 1] (by decide)⟩
  simp [results, Tryz.results13, go_sem, z9_2_0, z9_2_1]
end Go.Proofs.YtkhmjppfogppoaaGreatDoor.Use
