/- The lowering of a compound assignment refuses. No condition. -/
import Derived.Test.YtkhmjppfogppoaaGreatDoorOwnK
import Derived.Test.YtkhmjppfogppoaaGreatDoorOwn
import Derived.Test.YtkhmjppfogppoaaGreatDoorDeepCells
import Derived.Test.YtkhmjppfogppoaaGreatDoorRows
namespace Go.Proofs.YtkhmjppfogppoaaGreatDoor.Use
open Go.ChangeShapes Go.WideShapes Go.ChangeAt Go.RowKit Go.Sort Own
set_option linter.unusedVariables false
def refNodePost (pb : Nat) (PC : Array Value) (op : Int) (rx : Nat) (rl ll : Int) (kT kx : Nat) (w0 : World) (X : Nat → Obj → Prop) (e : Ending) (w' : World) : Prop :=
  e = .returned (.agg #[.nilIface, .int .i32 0]) ∧ Own w0 w' [row (pb) 188 PC] X
set_option maxRecDepth 100000 in
set_option maxHeartbeats 1000000 in
theorem refNode (pb : Nat) (PC : Array Value) (op : Int) (rx : Nat) (rl ll : Int) (kT kx : Nat) (w0 w : World) (X : Nat → Obj → Prop) (hO : Own w0 w [row (pb) 188 PC] X) (hT1 : kT ≠ 211) (hT2 : kT ≠ 207) :
    Calls Tryz.prog 35 #[.pointer (some ⟨pb, 0, none⟩), .agg #[.iface kT (.pointer (some ⟨kx, 0, none⟩)), .int .i32 ll], .int .u8 op, .agg #[.iface 192 (.pointer (some ⟨rx, 0, none⟩)), .int .i32 rl]] w (refNodePost pb PC op rx rl ll kT kx w0 X) := by
  go_enter Tryz.func35, Tryz.ntmps35
  go_wp2_with (first | (go_at_call 43; go_in) | (go_at_call 45; go_in) | (go_at_call 52; go_in))
  generalize hW : World.alloc _ _ = W2
  have hN : Own w0 W2 [row (w.heap.size + 1 + 1 + 1 + 1 + 1 + 1 + 1 + 1 + 1 + 1) 32 #[.nilIface, .int .i32 0], row (w.heap.size + 1 + 1 + 1 + 1 + 1 + 1 + 1 + 1 + 1) 32 #[.nilIface, .int .i32 0], row (w.heap.size + 1 + 1 + 1 + 1 + 1 + 1 + 1 + 1) 32 #[.iface kT (.pointer (some ⟨kx, 0, none⟩)), .int .i32 ll], row (w.heap.size + 1 + 1 + 1 + 1 + 1 + 1 + 1) 30 #[.int .i32 0], row (w.heap.size + 1 + 1 + 1 + 1 + 1 + 1) 32 #[.nilIface, .int .i32 0], row (w.heap.size + 1 + 1 + 1 + 1 + 1) 30 #[.int .i32 0], row (w.heap.size + 1 + 1 + 1 + 1) 32 #[.nilIface, .int .i32 0], row (w.heap.size + 1 + 1 + 1) 32 #[.iface kT (.pointer (some ⟨kx, 0, none⟩)), .int .i32 ll], row (w.heap.size + 1 + 1) 32 #[.nilIface, .int .i32 0], row (w.heap.size + 1) 32 #[.iface 192 (.pointer (some ⟨rx, 0, none⟩)), .int .i32 rl], row (w.heap.size) 32 #[.iface kT (.pointer (some ⟨kx, 0, none⟩)), .int .i32 ll], row (pb) 188 PC] X := by
    rw [← hW]
    exact (((((((((((hO).alloc' _ (w.heap.size) (by simp)).alloc' _ (w.heap.size + 1) (by simp)).alloc' _ (w.heap.size + 1 + 1) (by simp)).alloc' _ (w.heap.size + 1 + 1 + 1) (by simp)).alloc' _ (w.heap.size + 1 + 1 + 1 + 1) (by simp)).alloc' _ (w.heap.size + 1 + 1 + 1 + 1 + 1) (by simp)).alloc' _ (w.heap.size + 1 + 1 + 1 + 1 + 1 + 1) (by simp)).alloc' _ (w.heap.size + 1 + 1 + 1 + 1 + 1 + 1 + 1) (by simp)).alloc' _ (w.heap.size + 1 + 1 + 1 + 1 + 1 + 1 + 1 + 1) (by simp)).alloc' _ (w.heap.size + 1 + 1 + 1 + 1 + 1 + 1 + 1 + 1 + 1) (by simp)).alloc' _ (w.heap.size + 1 + 1 + 1 + 1 + 1 + 1 + 1 + 1 + 1 + 1) (by simp)
  clear hW hO
  generalize w.heap.size + 1 + 1 + 1 + 1 + 1 + 1 + 1 + 1 + 1 + 1 = B1_10 at hN ⊢
  generalize w.heap.size + 1 + 1 + 1 + 1 + 1 + 1 + 1 + 1 + 1 = B1_9 at hN ⊢
  generalize w.heap.size + 1 + 1 + 1 + 1 + 1 + 1 + 1 + 1 = B1_8 at hN ⊢
  generalize w.heap.size + 1 + 1 + 1 + 1 + 1 + 1 + 1 = B1_7 at hN ⊢
  generalize w.heap.size + 1 + 1 + 1 + 1 + 1 + 1 = B1_6 at hN ⊢
  generalize w.heap.size + 1 + 1 + 1 + 1 + 1 = B1_5 at hN ⊢
  generalize w.heap.size + 1 + 1 + 1 + 1 = B1_4 at hN ⊢
  generalize w.heap.size + 1 + 1 + 1 = B1_3 at hN ⊢
  generalize w.heap.size + 1 + 1 = B1_2 at hN ⊢
  generalize w.heap.size + 1 = B1_1 at hN ⊢
  generalize w.heap.size = B1 at hN ⊢
  have hO := hN
  clear hN
  have z9_8_0 : W2.cell? ⟨B1_2, 0, none⟩ = some (.nilIface) := hO.cell 8 rfl 0 rfl
  have z9_8_1 : W2.cell? ⟨B1_2, 1, none⟩ = some (.int .i32 0) := hO.cell 8 rfl 1 rfl
  refine bodyPost_ret (v := .agg #[.nilIface, .int .i32 0]) ?_ rfl ⟨rfl, hO.sub [11] (by decide)⟩
  simp [results, Tryz.results35, go_sem, z9_8_0, z9_8_1]
def refNilPost (pb : Nat) (PC : Array Value) (op : Int) (rx : Nat) (rl ll : Int) (w0 : World) (X : Nat → Obj → Prop) (e : Ending) (w' : World) : Prop :=
  e = .returned (.agg #[.nilIface, .int .i32 0]) ∧ Own w0 w' [row (pb) 188 PC] X
set_option maxRecDepth 100000 in
set_option maxHeartbeats 1000000 in
theorem refNil (pb : Nat) (PC : Array Value) (op : Int) (rx : Nat) (rl ll : Int) (w0 w : World) (X : Nat → Obj → Prop) (hO : Own w0 w [row (pb) 188 PC] X)  :
    Calls Tryz.prog 35 #[.pointer (some ⟨pb, 0, none⟩), .agg #[.nilIface, .int .i32 ll], .int .u8 op, .agg #[.iface 192 (.pointer (some ⟨rx, 0, none⟩)), .int .i32 rl]] w (refNilPost pb PC op rx rl ll w0 X) := by
  go_enter Tryz.func35, Tryz.ntmps35
  go_wp2_with (first | (go_at_call 43; go_in) | (go_at_call 45; go_in) | (go_at_call 52; go_in))
  generalize hW : World.alloc _ _ = W2
  have hN : Own w0 W2 [row (w.heap.size + 1 + 1 + 1 + 1 + 1 + 1 + 1 + 1 + 1 + 1) 32 #[.nilIface, .int .i32 0], row (w.heap.size + 1 + 1 + 1 + 1 + 1 + 1 + 1 + 1 + 1) 32 #[.nilIface, .int .i32 0], row (w.heap.size + 1 + 1 + 1 + 1 + 1 + 1 + 1 + 1) 32 #[.nilIface, .int .i32 ll], row (w.heap.size + 1 + 1 + 1 + 1 + 1 + 1 + 1) 30 #[.int .i32 0], row (w.heap.size + 1 + 1 + 1 + 1 + 1 + 1) 32 #[.nilIface, .int .i32 0], row (w.heap.size + 1 + 1 + 1 + 1 + 1) 30 #[.int .i32 0], row (w.heap.size + 1 + 1 + 1 + 1) 32 #[.nilIface, .int .i32 0], row (w.heap.size + 1 + 1 + 1) 32 #[.nilIface, .int .i32 ll], row (w.heap.size + 1 + 1) 32 #[.nilIface, .int .i32 0], row (w.heap.size + 1) 32 #[.iface 192 (.pointer (some ⟨rx, 0, none⟩)), .int .i32 rl], row (w.heap.size) 32 #[.nilIface, .int .i32 ll], row (pb) 188 PC] X := by
    rw [← hW]
    exact (((((((((((hO).alloc' _ (w.heap.size) (by simp)).alloc' _ (w.heap.size + 1) (by simp)).alloc' _ (w.heap.size + 1 + 1) (by simp)).alloc' _ (w.heap.size + 1 + 1 + 1) (by simp)).alloc' _ (w.heap.size + 1 + 1 + 1 + 1) (by simp)).alloc' _ (w.heap.size + 1 + 1 + 1 + 1 + 1) (by simp)).alloc' _ (w.heap.size + 1 + 1 + 1 + 1 + 1 + 1) (by simp)).alloc' _ (w.heap.size + 1 + 1 + 1 + 1 + 1 + 1 + 1) (by simp)).alloc' _ (w.heap.size + 1 + 1 + 1 + 1 + 1 + 1 + 1 + 1) (by simp)).alloc' _ (w.heap.size + 1 + 1 + 1 + 1 + 1 + 1 + 1 + 1 + 1) (by simp)).alloc' _ (w.heap.size + 1 + 1 + 1 + 1 + 1 + 1 + 1 + 1 + 1 + 1) (by simp)
  clear hW hO
  generalize w.heap.size + 1 + 1 + 1 + 1 + 1 + 1 + 1 + 1 + 1 + 1 = B1_10 at hN ⊢
  generalize w.heap.size + 1 + 1 + 1 + 1 + 1 + 1 + 1 + 1 + 1 = B1_9 at hN ⊢
  generalize w.heap.size + 1 + 1 + 1 + 1 + 1 + 1 + 1 + 1 = B1_8 at hN ⊢
  generalize w.heap.size + 1 + 1 + 1 + 1 + 1 + 1 + 1 = B1_7 at hN ⊢
  generalize w.heap.size + 1 + 1 + 1 + 1 + 1 + 1 = B1_6 at hN ⊢
  generalize w.heap.size + 1 + 1 + 1 + 1 + 1 = B1_5 at hN ⊢
  generalize w.heap.size + 1 + 1 + 1 + 1 = B1_4 at hN ⊢
  generalize w.heap.size + 1 + 1 + 1 = B1_3 at hN ⊢
  generalize w.heap.size + 1 + 1 = B1_2 at hN ⊢
  generalize w.heap.size + 1 = B1_1 at hN ⊢
  generalize w.heap.size = B1 at hN ⊢
  have hO := hN
  clear hN
  have z9_8_0 : W2.cell? ⟨B1_2, 0, none⟩ = some (.nilIface) := hO.cell 8 rfl 0 rfl
  have z9_8_1 : W2.cell? ⟨B1_2, 1, none⟩ = some (.int .i32 0) := hO.cell 8 rfl 1 rfl
  refine bodyPost_ret (v := .agg #[.nilIface, .int .i32 0]) ?_ rfl ⟨rfl, hO.sub [11] (by decide)⟩
  simp [results, Tryz.results35, go_sem, z9_8_0, z9_8_1]
def refDot0Post (pb : Nat) (PC : Array Value) (op : Int) (rx : Nat) (rl ll : Int) (d : Nat) (tl nl : Int) (nm : ByteArray) (kT kx : Nat) (w0 : World) (X : Nat → Obj → Prop) (e : Ending) (w' : World) : Prop :=
  e = .returned (.agg #[.nilIface, .int .i32 0]) ∧ Own w0 w' [row (pb) 188 PC, row (d) 210 #[.iface kT (.pointer (some ⟨kx, 0, none⟩)), .int .i32 tl, .string nm, .int .i32 nl, .int .u8 0, .bool false, .bool false, .bool false]] X
set_option maxRecDepth 100000 in
set_option maxHeartbeats 1000000 in
theorem refDot0 (pb : Nat) (PC : Array Value) (op : Int) (rx : Nat) (rl ll : Int) (d : Nat) (tl nl : Int) (nm : ByteArray) (kT kx : Nat) (w0 w : World) (X : Nat → Obj → Prop) (hO : Own w0 w [row (pb) 188 PC, row (d) 210 #[.iface kT (.pointer (some ⟨kx, 0, none⟩)), .int .i32 tl, .string nm, .int .i32 nl, .int .u8 0, .bool false, .bool false, .bool false]] X) (hl : PC[338]? = some (.bool false)) :
    Calls Tryz.prog 35 #[.pointer (some ⟨pb, 0, none⟩), .agg #[.iface 207 (.pointer (some ⟨d, 0, none⟩)), .int .i32 ll], .int .u8 op, .agg #[.iface 192 (.pointer (some ⟨rx, 0, none⟩)), .int .i32 rl]] w (refDot0Post pb PC op rx rl ll d tl nl nm kT kx w0 X) := by
  go_enter Tryz.func35, Tryz.ntmps35
  have c9_0_338 : w.cell? ⟨pb, 338, none⟩ = some (.bool false) := hO.cell 0 rfl 338 (hl)
  have lt9_0 : pb < w.heap.size := hO.lt 0 rfl
  have y9_0 : ∀ o, w.frozen? ⟨pb, o, none⟩ = false := hO.free 0 rfl
  obtain ⟨c9_1_0, c9_1_1, c9_1_2, c9_1_3, c9_1_4, c9_1_5, c9_1_6, c9_1_7, lt9_1, y9_1, -⟩ := hO.k8 1 rfl
  have HO := Lib.hid hO
  clear hO
  go_wp2_with (first | (go_at_call 43; go_in) | (go_at_call 45; go_in) | (go_at_call 52; go_in))
  have hO := HO.out
  clear HO c9_0_338 lt9_0 y9_0 c9_1_0 c9_1_1 c9_1_2 c9_1_3 c9_1_4 c9_1_5 c9_1_6 c9_1_7 lt9_1 y9_1
  generalize hW : World.alloc _ _ = W2
  have hN : Own w0 W2 [row (w.heap.size + 1 + 1 + 1 + 1 + 1 + 1 + 1 + 1 + 1 + 1 + 1) 32 #[.nilIface, .int .i32 0], row (w.heap.size + 1 + 1 + 1 + 1 + 1 + 1 + 1 + 1 + 1 + 1) 32 #[.iface kT (.pointer (some ⟨kx, 0, none⟩)), .int .i32 tl], row (w.heap.size + 1 + 1 + 1 + 1 + 1 + 1 + 1 + 1 + 1) 32 #[.nilIface, .int .i32 0], row (w.heap.size + 1 + 1 + 1 + 1 + 1 + 1 + 1 + 1) 32 #[.iface 207 (.pointer (some ⟨d, 0, none⟩)), .int .i32 ll], row (w.heap.size + 1 + 1 + 1 + 1 + 1 + 1 + 1) 30 #[.int .i32 0], row (w.heap.size + 1 + 1 + 1 + 1 + 1 + 1) 32 #[.nilIface, .int .i32 0], row (w.heap.size + 1 + 1 + 1 + 1 + 1) 30 #[.int .i32 0], row (w.heap.size + 1 + 1 + 1 + 1) 32 #[.nilIface, .int .i32 0], row (w.heap.size + 1 + 1 + 1) 32 #[.iface 207 (.pointer (some ⟨d, 0, none⟩)), .int .i32 ll], row (w.heap.size + 1 + 1) 32 #[.nilIface, .int .i32 0], row (w.heap.size + 1) 32 #[.iface 192 (.pointer (some ⟨rx, 0, none⟩)), .int .i32 rl], row (w.heap.size) 32 #[.iface 207 (.pointer (some ⟨d, 0, none⟩)), .int .i32 ll], row (pb) 188 PC, row (d) 210 #[.iface kT (.pointer (some ⟨kx, 0, none⟩)), .int .i32 tl, .string nm, .int .i32 nl, .int .u8 0, .bool false, .bool false, .bool false]] X := by
    rw [← hW]
    exact ((((((((((((hO).alloc' _ (w.heap.size) (by simp)).alloc' _ (w.heap.size + 1) (by simp)).alloc' _ (w.heap.size + 1 + 1) (by simp)).alloc' _ (w.heap.size + 1 + 1 + 1) (by simp)).alloc' _ (w.heap.size + 1 + 1 + 1 + 1) (by simp)).alloc' _ (w.heap.size + 1 + 1 + 1 + 1 + 1) (by simp)).alloc' _ (w.heap.size + 1 + 1 + 1 + 1 + 1 + 1) (by simp)).alloc' _ (w.heap.size + 1 + 1 + 1 + 1 + 1 + 1 + 1) (by simp)).alloc' _ (w.heap.size + 1 + 1 + 1 + 1 + 1 + 1 + 1 + 1) (by simp)).alloc' _ (w.heap.size + 1 + 1 + 1 + 1 + 1 + 1 + 1 + 1 + 1) (by simp)).alloc' _ (w.heap.size + 1 + 1 + 1 + 1 + 1 + 1 + 1 + 1 + 1 + 1) (by simp)).alloc' _ (w.heap.size + 1 + 1 + 1 + 1 + 1 + 1 + 1 + 1 + 1 + 1 + 1) (by simp)
  clear hW hO
  generalize w.heap.size + 1 + 1 + 1 + 1 + 1 + 1 + 1 + 1 + 1 + 1 + 1 = B1_11 at hN ⊢
  generalize w.heap.size + 1 + 1 + 1 + 1 + 1 + 1 + 1 + 1 + 1 + 1 = B1_10 at hN ⊢
  generalize w.heap.size + 1 + 1 + 1 + 1 + 1 + 1 + 1 + 1 + 1 = B1_9 at hN ⊢
  generalize w.heap.size + 1 + 1 + 1 + 1 + 1 + 1 + 1 + 1 = B1_8 at hN ⊢
  generalize w.heap.size + 1 + 1 + 1 + 1 + 1 + 1 + 1 = B1_7 at hN ⊢
  generalize w.heap.size + 1 + 1 + 1 + 1 + 1 + 1 = B1_6 at hN ⊢
  generalize w.heap.size + 1 + 1 + 1 + 1 + 1 = B1_5 at hN ⊢
  generalize w.heap.size + 1 + 1 + 1 + 1 = B1_4 at hN ⊢
  generalize w.heap.size + 1 + 1 + 1 = B1_3 at hN ⊢
  generalize w.heap.size + 1 + 1 = B1_2 at hN ⊢
  generalize w.heap.size + 1 = B1_1 at hN ⊢
  generalize w.heap.size = B1 at hN ⊢
  have hO := hN
  clear hN
  have z9_9_0 : W2.cell? ⟨B1_2, 0, none⟩ = some (.nilIface) := hO.cell 9 rfl 0 rfl
  have z9_9_1 : W2.cell? ⟨B1_2, 1, none⟩ = some (.int .i32 0) := hO.cell 9 rfl 1 rfl
  refine bodyPost_ret (v := .agg #[.nilIface, .int .i32 0]) ?_ rfl ⟨rfl, hO.sub [12, 13] (by decide)⟩
  simp [results, Tryz.results35, go_sem, z9_9_0, z9_9_1]
def refDot1Post (pb : Nat) (PC : Array Value) (op : Int) (rx : Nat) (rl ll : Int) (d : Nat) (tl nl : Int) (nm : ByteArray) (kT kx : Nat) (w0 : World) (X : Nat → Obj → Prop) (e : Ending) (w' : World) : Prop :=
  e = .returned (.agg #[.nilIface, .int .i32 0]) ∧ Own w0 w' [row (pb) 188 PC, row (d) 210 #[.iface kT (.pointer (some ⟨kx, 0, none⟩)), .int .i32 tl, .string nm, .int .i32 nl, .int .u8 0, .bool false, .bool false, .bool false]] X
set_option maxRecDepth 100000 in
set_option maxHeartbeats 1000000 in
theorem refDot1 (pb : Nat) (PC : Array Value) (op : Int) (rx : Nat) (rl ll : Int) (d : Nat) (tl nl : Int) (nm : ByteArray) (kT kx : Nat) (w0 w : World) (X : Nat → Obj → Prop) (hO : Own w0 w [row (pb) 188 PC, row (d) 210 #[.iface kT (.pointer (some ⟨kx, 0, none⟩)), .int .i32 tl, .string nm, .int .i32 nl, .int .u8 0, .bool false, .bool false, .bool false]] X) (hl : PC[338]? = some (.bool true)) (hT : kT ≠ 204) :
    Calls Tryz.prog 35 #[.pointer (some ⟨pb, 0, none⟩), .agg #[.iface 207 (.pointer (some ⟨d, 0, none⟩)), .int .i32 ll], .int .u8 op, .agg #[.iface 192 (.pointer (some ⟨rx, 0, none⟩)), .int .i32 rl]] w (refDot1Post pb PC op rx rl ll d tl nl nm kT kx w0 X) := by
  go_enter Tryz.func35, Tryz.ntmps35
  have c9_0_338 : w.cell? ⟨pb, 338, none⟩ = some (.bool true) := hO.cell 0 rfl 338 (hl)
  have lt9_0 : pb < w.heap.size := hO.lt 0 rfl
  have y9_0 : ∀ o, w.frozen? ⟨pb, o, none⟩ = false := hO.free 0 rfl
  obtain ⟨c9_1_0, c9_1_1, c9_1_2, c9_1_3, c9_1_4, c9_1_5, c9_1_6, c9_1_7, lt9_1, y9_1, -⟩ := hO.k8 1 rfl
  have HO := Lib.hid hO
  clear hO
  go_wp2_with (first | (go_at_call 43; go_in) | (go_at_call 45; go_in) | (go_at_call 52; go_in))
  have hO := HO.out
  clear HO c9_0_338 lt9_0 y9_0 c9_1_0 c9_1_1 c9_1_2 c9_1_3 c9_1_4 c9_1_5 c9_1_6 c9_1_7 lt9_1 y9_1
  generalize hW : World.alloc _ _ = W2
  have hN : Own w0 W2 [row (w.heap.size + 1 + 1 + 1 + 1 + 1 + 1 + 1 + 1 + 1 + 1 + 1) 32 #[.nilIface, .int .i32 0], row (w.heap.size + 1 + 1 + 1 + 1 + 1 + 1 + 1 + 1 + 1 + 1) 32 #[.iface kT (.pointer (some ⟨kx, 0, none⟩)), .int .i32 tl], row (w.heap.size + 1 + 1 + 1 + 1 + 1 + 1 + 1 + 1 + 1) 32 #[.nilIface, .int .i32 0], row (w.heap.size + 1 + 1 + 1 + 1 + 1 + 1 + 1 + 1) 32 #[.iface 207 (.pointer (some ⟨d, 0, none⟩)), .int .i32 ll], row (w.heap.size + 1 + 1 + 1 + 1 + 1 + 1 + 1) 30 #[.int .i32 0], row (w.heap.size + 1 + 1 + 1 + 1 + 1 + 1) 32 #[.nilIface, .int .i32 0], row (w.heap.size + 1 + 1 + 1 + 1 + 1) 30 #[.int .i32 0], row (w.heap.size + 1 + 1 + 1 + 1) 32 #[.nilIface, .int .i32 0], row (w.heap.size + 1 + 1 + 1) 32 #[.iface 207 (.pointer (some ⟨d, 0, none⟩)), .int .i32 ll], row (w.heap.size + 1 + 1) 32 #[.nilIface, .int .i32 0], row (w.heap.size + 1) 32 #[.iface 192 (.pointer (some ⟨rx, 0, none⟩)), .int .i32 rl], row (w.heap.size) 32 #[.iface 207 (.pointer (some ⟨d, 0, none⟩)), .int .i32 ll], row (pb) 188 PC, row (d) 210 #[.iface kT (.pointer (some ⟨kx, 0, none⟩)), .int .i32 tl, .string nm, .int .i32 nl, .int .u8 0, .bool false, .bool false, .bool false]] X := by
    rw [← hW]
    exact ((((((((((((hO).alloc' _ (w.heap.size) (by simp)).alloc' _ (w.heap.size + 1) (by simp)).alloc' _ (w.heap.size + 1 + 1) (by simp)).alloc' _ (w.heap.size + 1 + 1 + 1) (by simp)).alloc' _ (w.heap.size + 1 + 1 + 1 + 1) (by simp)).alloc' _ (w.heap.size + 1 + 1 + 1 + 1 + 1) (by simp)).alloc' _ (w.heap.size + 1 + 1 + 1 + 1 + 1 + 1) (by simp)).alloc' _ (w.heap.size + 1 + 1 + 1 + 1 + 1 + 1 + 1) (by simp)).alloc' _ (w.heap.size + 1 + 1 + 1 + 1 + 1 + 1 + 1 + 1) (by simp)).alloc' _ (w.heap.size + 1 + 1 + 1 + 1 + 1 + 1 + 1 + 1 + 1) (by simp)).alloc' _ (w.heap.size + 1 + 1 + 1 + 1 + 1 + 1 + 1 + 1 + 1 + 1) (by simp)).alloc' _ (w.heap.size + 1 + 1 + 1 + 1 + 1 + 1 + 1 + 1 + 1 + 1 + 1) (by simp)
  clear hW hO
  generalize w.heap.size + 1 + 1 + 1 + 1 + 1 + 1 + 1 + 1 + 1 + 1 + 1 = B1_11 at hN ⊢
  generalize w.heap.size + 1 + 1 + 1 + 1 + 1 + 1 + 1 + 1 + 1 + 1 = B1_10 at hN ⊢
  generalize w.heap.size + 1 + 1 + 1 + 1 + 1 + 1 + 1 + 1 + 1 = B1_9 at hN ⊢
  generalize w.heap.size + 1 + 1 + 1 + 1 + 1 + 1 + 1 + 1 = B1_8 at hN ⊢
  generalize w.heap.size + 1 + 1 + 1 + 1 + 1 + 1 + 1 = B1_7 at hN ⊢
  generalize w.heap.size + 1 + 1 + 1 + 1 + 1 + 1 = B1_6 at hN ⊢
  generalize w.heap.size + 1 + 1 + 1 + 1 + 1 = B1_5 at hN ⊢
  generalize w.heap.size + 1 + 1 + 1 + 1 = B1_4 at hN ⊢
  generalize w.heap.size + 1 + 1 + 1 = B1_3 at hN ⊢
  generalize w.heap.size + 1 + 1 = B1_2 at hN ⊢
  generalize w.heap.size + 1 = B1_1 at hN ⊢
  generalize w.heap.size = B1 at hN ⊢
  have hO := hN
  clear hN
  have z9_9_0 : W2.cell? ⟨B1_2, 0, none⟩ = some (.nilIface) := hO.cell 9 rfl 0 rfl
  have z9_9_1 : W2.cell? ⟨B1_2, 1, none⟩ = some (.int .i32 0) := hO.cell 9 rfl 1 rfl
  refine bodyPost_ret (v := .agg #[.nilIface, .int .i32 0]) ?_ rfl ⟨rfl, hO.sub [12, 13] (by decide)⟩
  simp [results, Tryz.results35, go_sem, z9_9_0, z9_9_1]
def refIdx0Post (pb : Nat) (PC : Array Value) (op : Int) (rx : Nat) (rl ll : Int) (d : Nat) (tl xl : Int) (jT jx kT kx : Nat) (w0 : World) (X : Nat → Obj → Prop) (e : Ending) (w' : World) : Prop :=
  e = .returned (.agg #[.nilIface, .int .i32 0]) ∧ Own w0 w' [row (pb) 188 PC, row (d) 213 #[.iface kT (.pointer (some ⟨kx, 0, none⟩)), .int .i32 tl, .iface jT (.pointer (some ⟨jx, 0, none⟩)), .int .i32 xl, .int .i32 0, .int .u8 0, .bool false, .bool false, .bool false]] X
set_option maxRecDepth 100000 in
set_option maxHeartbeats 1000000 in
theorem refIdx0 (pb : Nat) (PC : Array Value) (op : Int) (rx : Nat) (rl ll : Int) (d : Nat) (tl xl : Int) (jT jx kT kx : Nat) (w0 w : World) (X : Nat → Obj → Prop) (hO : Own w0 w [row (pb) 188 PC, row (d) 213 #[.iface kT (.pointer (some ⟨kx, 0, none⟩)), .int .i32 tl, .iface jT (.pointer (some ⟨jx, 0, none⟩)), .int .i32 xl, .int .i32 0, .int .u8 0, .bool false, .bool false, .bool false]] X) (hl : PC[338]? = some (.bool false)) (hJ : jT ≠ 240) :
    Calls Tryz.prog 35 #[.pointer (some ⟨pb, 0, none⟩), .agg #[.iface 211 (.pointer (some ⟨d, 0, none⟩)), .int .i32 ll], .int .u8 op, .agg #[.iface 192 (.pointer (some ⟨rx, 0, none⟩)), .int .i32 rl]] w (refIdx0Post pb PC op rx rl ll d tl xl jT jx kT kx w0 X) := by
  go_enter Tryz.func35, Tryz.ntmps35
  have c9_0_338 : w.cell? ⟨pb, 338, none⟩ = some (.bool false) := hO.cell 0 rfl 338 (hl)
  have lt9_0 : pb < w.heap.size := hO.lt 0 rfl
  have y9_0 : ∀ o, w.frozen? ⟨pb, o, none⟩ = false := hO.free 0 rfl
  obtain ⟨c9_1_0, c9_1_1, c9_1_2, c9_1_3, c9_1_4, c9_1_5, c9_1_6, c9_1_7, c9_1_8, lt9_1, y9_1, -⟩ := hO.k9 1 rfl
  have HO := Lib.hid hO
  clear hO
  go_wp2_with (first | (go_at_call 43; go_in) | (go_at_call 45; go_in) | (go_at_call 52; go_in))
  have hO := HO.out
  clear HO c9_0_338 lt9_0 y9_0 c9_1_0 c9_1_1 c9_1_2 c9_1_3 c9_1_4 c9_1_5 c9_1_6 c9_1_7 c9_1_8 lt9_1 y9_1
  generalize hW : World.alloc _ _ = W2
  have hN : Own w0 W2 [row (w.heap.size + 1 + 1 + 1 + 1 + 1 + 1 + 1 + 1 + 1 + 1 + 1) 32 #[.nilIface, .int .i32 0], row (w.heap.size + 1 + 1 + 1 + 1 + 1 + 1 + 1 + 1 + 1 + 1) 32 #[.iface kT (.pointer (some ⟨kx, 0, none⟩)), .int .i32 tl], row (w.heap.size + 1 + 1 + 1 + 1 + 1 + 1 + 1 + 1 + 1) 32 #[.nilIface, .int .i32 0], row (w.heap.size + 1 + 1 + 1 + 1 + 1 + 1 + 1 + 1) 32 #[.iface 211 (.pointer (some ⟨d, 0, none⟩)), .int .i32 ll], row (w.heap.size + 1 + 1 + 1 + 1 + 1 + 1 + 1) 30 #[.int .i32 0], row (w.heap.size + 1 + 1 + 1 + 1 + 1 + 1) 32 #[.nilIface, .int .i32 0], row (w.heap.size + 1 + 1 + 1 + 1 + 1) 30 #[.int .i32 0], row (w.heap.size + 1 + 1 + 1 + 1) 32 #[.nilIface, .int .i32 0], row (w.heap.size + 1 + 1 + 1) 32 #[.iface 211 (.pointer (some ⟨d, 0, none⟩)), .int .i32 ll], row (w.heap.size + 1 + 1) 32 #[.nilIface, .int .i32 0], row (w.heap.size + 1) 32 #[.iface 192 (.pointer (some ⟨rx, 0, none⟩)), .int .i32 rl], row (w.heap.size) 32 #[.iface 211 (.pointer (some ⟨d, 0, none⟩)), .int .i32 ll], row (pb) 188 PC, row (d) 213 #[.iface kT (.pointer (some ⟨kx, 0, none⟩)), .int .i32 tl, .iface jT (.pointer (some ⟨jx, 0, none⟩)), .int .i32 xl, .int .i32 0, .int .u8 0, .bool false, .bool false, .bool false]] X := by
    rw [← hW]
    exact ((((((((((((hO).alloc' _ (w.heap.size) (by simp)).alloc' _ (w.heap.size + 1) (by simp)).alloc' _ (w.heap.size + 1 + 1) (by simp)).alloc' _ (w.heap.size + 1 + 1 + 1) (by simp)).alloc' _ (w.heap.size + 1 + 1 + 1 + 1) (by simp)).alloc' _ (w.heap.size + 1 + 1 + 1 + 1 + 1) (by simp)).alloc' _ (w.heap.size + 1 + 1 + 1 + 1 + 1 + 1) (by simp)).alloc' _ (w.heap.size + 1 + 1 + 1 + 1 + 1 + 1 + 1) (by simp)).alloc' _ (w.heap.size + 1 + 1 + 1 + 1 + 1 + 1 + 1 + 1) (by simp)).alloc' _ (w.heap.size + 1 + 1 + 1 + 1 + 1 + 1 + 1 + 1 + 1) (by simp)).alloc' _ (w.heap.size + 1 + 1 + 1 + 1 + 1 + 1 + 1 + 1 + 1 + 1) (by simp)).alloc' _ (w.heap.size + 1 + 1 + 1 + 1 + 1 + 1 + 1 + 1 + 1 + 1 + 1) (by simp)
  clear hW hO
  generalize w.heap.size + 1 + 1 + 1 + 1 + 1 + 1 + 1 + 1 + 1 + 1 + 1 = B1_11 at hN ⊢
  generalize w.heap.size + 1 + 1 + 1 + 1 + 1 + 1 + 1 + 1 + 1 + 1 = B1_10 at hN ⊢
  generalize w.heap.size + 1 + 1 + 1 + 1 + 1 + 1 + 1 + 1 + 1 = B1_9 at hN ⊢
  generalize w.heap.size + 1 + 1 + 1 + 1 + 1 + 1 + 1 + 1 = B1_8 at hN ⊢
  generalize w.heap.size + 1 + 1 + 1 + 1 + 1 + 1 + 1 = B1_7 at hN ⊢
  generalize w.heap.size + 1 + 1 + 1 + 1 + 1 + 1 = B1_6 at hN ⊢
  generalize w.heap.size + 1 + 1 + 1 + 1 + 1 = B1_5 at hN ⊢
  generalize w.heap.size + 1 + 1 + 1 + 1 = B1_4 at hN ⊢
  generalize w.heap.size + 1 + 1 + 1 = B1_3 at hN ⊢
  generalize w.heap.size + 1 + 1 = B1_2 at hN ⊢
  generalize w.heap.size + 1 = B1_1 at hN ⊢
  generalize w.heap.size = B1 at hN ⊢
  have hO := hN
  clear hN
  have z9_9_0 : W2.cell? ⟨B1_2, 0, none⟩ = some (.nilIface) := hO.cell 9 rfl 0 rfl
  have z9_9_1 : W2.cell? ⟨B1_2, 1, none⟩ = some (.int .i32 0) := hO.cell 9 rfl 1 rfl
  refine bodyPost_ret (v := .agg #[.nilIface, .int .i32 0]) ?_ rfl ⟨rfl, hO.sub [12, 13] (by decide)⟩
  simp [results, Tryz.results35, go_sem, z9_9_0, z9_9_1]
def refIdx1Post (pb : Nat) (PC : Array Value) (op : Int) (rx : Nat) (rl ll : Int) (d : Nat) (tl xl : Int) (jT jx kT kx : Nat) (w0 : World) (X : Nat → Obj → Prop) (e : Ending) (w' : World) : Prop :=
  e = .returned (.agg #[.nilIface, .int .i32 0]) ∧ Own w0 w' [row (pb) 188 PC, row (d) 213 #[.iface kT (.pointer (some ⟨kx, 0, none⟩)), .int .i32 tl, .iface jT (.pointer (some ⟨jx, 0, none⟩)), .int .i32 xl, .int .i32 0, .int .u8 0, .bool false, .bool false, .bool false]] X
set_option maxRecDepth 100000 in
set_option maxHeartbeats 1000000 in
theorem refIdx1 (pb : Nat) (PC : Array Value) (op : Int) (rx : Nat) (rl ll : Int) (d : Nat) (tl xl : Int) (jT jx kT kx : Nat) (w0 w : World) (X : Nat → Obj → Prop) (hO : Own w0 w [row (pb) 188 PC, row (d) 213 #[.iface kT (.pointer (some ⟨kx, 0, none⟩)), .int .i32 tl, .iface jT (.pointer (some ⟨jx, 0, none⟩)), .int .i32 xl, .int .i32 0, .int .u8 0, .bool false, .bool false, .bool false]] X) (hl : PC[338]? = some (.bool true)) (hT : kT ≠ 204) (hJ : jT ≠ 240) :
    Calls Tryz.prog 35 #[.pointer (some ⟨pb, 0, none⟩), .agg #[.iface 211 (.pointer (some ⟨d, 0, none⟩)), .int .i32 ll], .int .u8 op, .agg #[.iface 192 (.pointer (some ⟨rx, 0, none⟩)), .int .i32 rl]] w (refIdx1Post pb PC op rx rl ll d tl xl jT jx kT kx w0 X) := by
  go_enter Tryz.func35, Tryz.ntmps35
  have c9_0_338 : w.cell? ⟨pb, 338, none⟩ = some (.bool true) := hO.cell 0 rfl 338 (hl)
  have lt9_0 : pb < w.heap.size := hO.lt 0 rfl
  have y9_0 : ∀ o, w.frozen? ⟨pb, o, none⟩ = false := hO.free 0 rfl
  obtain ⟨c9_1_0, c9_1_1, c9_1_2, c9_1_3, c9_1_4, c9_1_5, c9_1_6, c9_1_7, c9_1_8, lt9_1, y9_1, -⟩ := hO.k9 1 rfl
  have HO := Lib.hid hO
  clear hO
  go_wp2_with (first | (go_at_call 43; go_in) | (go_at_call 45; go_in) | (go_at_call 52; go_in))
  have hO := HO.out
  clear HO c9_0_338 lt9_0 y9_0 c9_1_0 c9_1_1 c9_1_2 c9_1_3 c9_1_4 c9_1_5 c9_1_6 c9_1_7 c9_1_8 lt9_1 y9_1
  generalize hW : World.alloc _ _ = W2
  have hN : Own w0 W2 [row (w.heap.size + 1 + 1 + 1 + 1 + 1 + 1 + 1 + 1 + 1 + 1 + 1) 32 #[.nilIface, .int .i32 0], row (w.heap.size + 1 + 1 + 1 + 1 + 1 + 1 + 1 + 1 + 1 + 1) 32 #[.iface kT (.pointer (some ⟨kx, 0, none⟩)), .int .i32 tl], row (w.heap.size + 1 + 1 + 1 + 1 + 1 + 1 + 1 + 1 + 1) 32 #[.nilIface, .int .i32 0], row (w.heap.size + 1 + 1 + 1 + 1 + 1 + 1 + 1 + 1) 32 #[.iface 211 (.pointer (some ⟨d, 0, none⟩)), .int .i32 ll], row (w.heap.size + 1 + 1 + 1 + 1 + 1 + 1 + 1) 30 #[.int .i32 0], row (w.heap.size + 1 + 1 + 1 + 1 + 1 + 1) 32 #[.nilIface, .int .i32 0], row (w.heap.size + 1 + 1 + 1 + 1 + 1) 30 #[.int .i32 0], row (w.heap.size + 1 + 1 + 1 + 1) 32 #[.nilIface, .int .i32 0], row (w.heap.size + 1 + 1 + 1) 32 #[.iface 211 (.pointer (some ⟨d, 0, none⟩)), .int .i32 ll], row (w.heap.size + 1 + 1) 32 #[.nilIface, .int .i32 0], row (w.heap.size + 1) 32 #[.iface 192 (.pointer (some ⟨rx, 0, none⟩)), .int .i32 rl], row (w.heap.size) 32 #[.iface 211 (.pointer (some ⟨d, 0, none⟩)), .int .i32 ll], row (pb) 188 PC, row (d) 213 #[.iface kT (.pointer (some ⟨kx, 0, none⟩)), .int .i32 tl, .iface jT (.pointer (some ⟨jx, 0, none⟩)), .int .i32 xl, .int .i32 0, .int .u8 0, .bool false, .bool false, .bool false]] X := by
    rw [← hW]
    exact ((((((((((((hO).alloc' _ (w.heap.size) (by simp)).alloc' _ (w.heap.size + 1) (by simp)).alloc' _ (w.heap.size + 1 + 1) (by simp)).alloc' _ (w.heap.size + 1 + 1 + 1) (by simp)).alloc' _ (w.heap.size + 1 + 1 + 1 + 1) (by simp)).alloc' _ (w.heap.size + 1 + 1 + 1 + 1 + 1) (by simp)).alloc' _ (w.heap.size + 1 + 1 + 1 + 1 + 1 + 1) (by simp)).alloc' _ (w.heap.size + 1 + 1 + 1 + 1 + 1 + 1 + 1) (by simp)).alloc' _ (w.heap.size + 1 + 1 + 1 + 1 + 1 + 1 + 1 + 1) (by simp)).alloc' _ (w.heap.size + 1 + 1 + 1 + 1 + 1 + 1 + 1 + 1 + 1) (by simp)).alloc' _ (w.heap.size + 1 + 1 + 1 + 1 + 1 + 1 + 1 + 1 + 1 + 1) (by simp)).alloc' _ (w.heap.size + 1 + 1 + 1 + 1 + 1 + 1 + 1 + 1 + 1 + 1 + 1) (by simp)
  clear hW hO
  generalize w.heap.size + 1 + 1 + 1 + 1 + 1 + 1 + 1 + 1 + 1 + 1 + 1 = B1_11 at hN ⊢
  generalize w.heap.size + 1 + 1 + 1 + 1 + 1 + 1 + 1 + 1 + 1 + 1 = B1_10 at hN ⊢
  generalize w.heap.size + 1 + 1 + 1 + 1 + 1 + 1 + 1 + 1 + 1 = B1_9 at hN ⊢
  generalize w.heap.size + 1 + 1 + 1 + 1 + 1 + 1 + 1 + 1 = B1_8 at hN ⊢
  generalize w.heap.size + 1 + 1 + 1 + 1 + 1 + 1 + 1 = B1_7 at hN ⊢
  generalize w.heap.size + 1 + 1 + 1 + 1 + 1 + 1 = B1_6 at hN ⊢
  generalize w.heap.size + 1 + 1 + 1 + 1 + 1 = B1_5 at hN ⊢
  generalize w.heap.size + 1 + 1 + 1 + 1 = B1_4 at hN ⊢
  generalize w.heap.size + 1 + 1 + 1 = B1_3 at hN ⊢
  generalize w.heap.size + 1 + 1 = B1_2 at hN ⊢
  generalize w.heap.size + 1 = B1_1 at hN ⊢
  generalize w.heap.size = B1 at hN ⊢
  have hO := hN
  clear hN
  have z9_9_0 : W2.cell? ⟨B1_2, 0, none⟩ = some (.nilIface) := hO.cell 9 rfl 0 rfl
  have z9_9_1 : W2.cell? ⟨B1_2, 1, none⟩ = some (.int .i32 0) := hO.cell 9 rfl 1 rfl
  refine bodyPost_ret (v := .agg #[.nilIface, .int .i32 0]) ?_ rfl ⟨rfl, hO.sub [12, 13] (by decide)⟩
  simp [results, Tryz.results35, go_sem, z9_9_0, z9_9_1]
def sc42Post (pb : Nat) (PC : Array Value) (w0 : World) (X : Nat → Obj → Prop) (e : Ending) (w' : World) : Prop :=
  e = .returned (.int .i64 0) ∧ Own w0 w' [row (pb) 188 PC] X
set_option maxRecDepth 100000 in
set_option maxHeartbeats 1000000 in
theorem sc42 (pb : Nat) (PC : Array Value) (w0 w : World) (X : Nat → Obj → Prop) (hO : Own w0 w [row (pb) 188 PC] X) (hs : PC[106]? = some (.slice none 0 0)) :
    Calls Tryz.prog 14 #[.pointer (some ⟨pb, 0, none⟩)] w (sc42Post pb PC w0 X) := by
  go_enter Tryz.func14, Tryz.ntmps14
  have c9_0_106 : w.cell? ⟨pb, 106, none⟩ = some (.slice none 0 0) := hO.cell 0 rfl 106 (hs)
  have lt9_0 : pb < w.heap.size := hO.lt 0 rfl
  have y9_0 : ∀ o, w.frozen? ⟨pb, o, none⟩ = false := hO.free 0 rfl
  have HO := Lib.hid hO
  clear hO
  go_wp2_with fail
  have hO := HO.out
  clear HO c9_0_106 lt9_0 y9_0
  refine bodyPost_ret (v := .int .i64 0) ?_ rfl ⟨rfl, hO.sub [0] (by decide)⟩
  simp [results, Tryz.results14, go_sem]
end Go.Proofs.YtkhmjppfogppoaaGreatDoor.Use
