/- An assignment's target that is not lowered. No condition. -/
import Derived.Test.YtcbdjbjbikiaeaaDoorOwnK
import Derived.Test.YtcbdjbjbikiaeaaDoorOwn
import Derived.Test.YtcbdjbjbikiaeaaDoorDeepCells
import Derived.Test.YtcbdjbjbikiaeaaDoorRows
import Derived.Test.YtcbdjbjbikiaeaaDoorDead
import Derived.Test.YtcbdjbjbikiaeaaDoorNew
import Derived.Test.YtcbdjbjbikiaeaaDoorNewL
import Derived.Test.YtcbdjbjbikiaeaaDoorStr
import Derived.Test.YtcbdjbjbikiaeaaDoorStrX
namespace Go.Proofs.YtcbdjbjbikiaeaaDoor.Use
open Go.ChangeShapes Go.WideShapes Go.ChangeAt Go.RowKit Go.Sort Own
set_option linter.unusedVariables false
def shlanyPost (pb : Nat) (PC : Array Value) (mp cr : Nat) (r s : Bool) (loc : Int) (tv : Value) (w0 : World) (X : Nat → Obj → Prop) (e : Ending) (w' : World) : Prop :=
  e = .returned (.bool false) ∧ Own w0 w' [row (pb) 206 PC] X
set_option maxRecDepth 100000 in
set_option maxHeartbeats 1000000 in
theorem shlany (pb : Nat) (PC : Array Value) (mp cr : Nat) (r s : Bool) (loc : Int) (tv : Value) (w0 w : World) (X : Nat → Obj → Prop) (hO : Own w0 w [row (pb) 206 PC] X) (hD : Dead PC mp cr r s) (hl : PC[338]? = some (.bool false)) :
    Calls Tryd.prog 13 #[.pointer (some ⟨pb, 0, none⟩), .agg #[tv, .int .i32 loc]] w (shlanyPost pb PC mp cr r s loc tv w0 X) := by
  go_enter Tryd.func13, Tryd.ntmps13
  have c9_0_32 : w.cell? ⟨pb, 32, none⟩ = some (.bool false) := hO.cell 0 rfl 32 (hD.ts)
  have c9_0_95 : w.cell? ⟨pb, 95, none⟩ = some (.bool r) := hO.cell 0 rfl 95 (hD.rep)
  have c9_0_96 : w.cell? ⟨pb, 96, none⟩ = some (.bool s) := hO.cell 0 rfl 96 (hD.stat)
  have c9_0_97 : w.cell? ⟨pb, 97, none⟩ = some (.pointer (some ⟨cr, 0, none⟩)) := hO.cell 0 rfl 97 (hD.cls)
  have c9_0_117 : w.cell? ⟨pb, 117, none⟩ = some (.map (some mp)) := hO.cell 0 rfl 117 (hD.imp)
  have c9_0_338 : w.cell? ⟨pb, 338, none⟩ = some (.bool false) := hO.cell 0 rfl 338 (hl)
  have c9_0_350 : w.cell? ⟨pb, 350, none⟩ = some (.bool true) := hO.cell 0 rfl 350 (hD.dead)
  have lt9_0 : pb < w.heap.size := hO.lt 0 rfl
  have y9_0 : ∀ o, w.frozen? ⟨pb, o, none⟩ = false := hO.free 0 rfl
  have HO := Lib.hid hO
  clear hO
  go_wp2_with (first | (go_at_call 34; go_in) | (go_at_call 14; go_in) | (go_at_call 30; go_in) | (go_at_call 31; go_in) | (go_at_call 32; go_in) | (go_at_call 12; go_in) | (go_at_call 10; go_in) | (go_at_call 9; go_in) | (go_at_call 7; go_in))
  have hO := HO.out
  clear HO c9_0_32 c9_0_95 c9_0_96 c9_0_97 c9_0_117 c9_0_338 c9_0_350 lt9_0 y9_0
  generalize hW : World.alloc _ _ = W2
  have hN : Own w0 W2 [row (w.heap.size + 1) 30 #[tv, .int .i32 loc], row (w.heap.size) 30 #[tv, .int .i32 loc], row (pb) 206 PC] X := by
    rw [← hW]
    exact ((hO).alloc' _ (w.heap.size) (by simp)).alloc' _ (w.heap.size + 1) (by simp)
  clear hW hO
  generalize w.heap.size + 1 = B1_1 at hN ⊢
  generalize w.heap.size = B1 at hN ⊢
  have hO := hN
  clear hN
  refine bodyPost_ret (v := .bool false) ?_ rfl ⟨rfl, hO.sub [2] (by decide)⟩
  simp [results, Tryd.results13, go_sem]
def asgDanyPost (pb : Nat) (PC : Array Value) (mp cr : Nat) (r s : Bool) (d : Nat) (loc : Int) (tv : Value) (nm : ByteArray) (w0 : World) (X : Nat → Obj → Prop) (e : Ending) (w' : World) : Prop :=
  e = .returned (.tuple #[.agg #[.iface 40 (.pointer (some ⟨d, 0, none⟩)), .int .i32 loc], .bool false]) ∧ Own w0 w' [row (pb) 206 PC, row (d) 44 #[tv, .int .i32 loc, .string nm, .int .i32 loc, .int .u8 0, .bool false, .bool false, .bool false]] X
set_option maxRecDepth 100000 in
set_option maxHeartbeats 1000000 in
theorem asgDany (pb : Nat) (PC : Array Value) (mp cr : Nat) (r s : Bool) (d : Nat) (loc : Int) (tv : Value) (nm : ByteArray) (w0 w : World) (X : Nat → Obj → Prop) (hO : Own w0 w [row (pb) 206 PC, row (d) 44 #[tv, .int .i32 loc, .string nm, .int .i32 loc, .int .u8 0, .bool false, .bool false, .bool false]] X) (hD : Dead PC mp cr r s) (hl : PC[338]? = some (.bool false)) :
    Calls Tryd.prog 35 #[.pointer (some ⟨pb, 0, none⟩), .agg #[.iface 40 (.pointer (some ⟨d, 0, none⟩)), .int .i32 loc]] w (asgDanyPost pb PC mp cr r s d loc tv nm w0 X) := by
  go_enter Tryd.func35, Tryd.ntmps35
  have c9_0_32 : w.cell? ⟨pb, 32, none⟩ = some (.bool false) := hO.cell 0 rfl 32 (hD.ts)
  have c9_0_95 : w.cell? ⟨pb, 95, none⟩ = some (.bool r) := hO.cell 0 rfl 95 (hD.rep)
  have c9_0_96 : w.cell? ⟨pb, 96, none⟩ = some (.bool s) := hO.cell 0 rfl 96 (hD.stat)
  have c9_0_97 : w.cell? ⟨pb, 97, none⟩ = some (.pointer (some ⟨cr, 0, none⟩)) := hO.cell 0 rfl 97 (hD.cls)
  have c9_0_117 : w.cell? ⟨pb, 117, none⟩ = some (.map (some mp)) := hO.cell 0 rfl 117 (hD.imp)
  have c9_0_338 : w.cell? ⟨pb, 338, none⟩ = some (.bool false) := hO.cell 0 rfl 338 (hl)
  have c9_0_350 : w.cell? ⟨pb, 350, none⟩ = some (.bool true) := hO.cell 0 rfl 350 (hD.dead)
  have lt9_0 : pb < w.heap.size := hO.lt 0 rfl
  have y9_0 : ∀ o, w.frozen? ⟨pb, o, none⟩ = false := hO.free 0 rfl
  obtain ⟨c9_1_0, c9_1_1, c9_1_2, c9_1_3, c9_1_4, c9_1_5, c9_1_6, c9_1_7, lt9_1, y9_1, -⟩ := hO.k8 1 rfl
  have HO := Lib.hid hO
  clear hO
  go_wp2_with (first | (go_at_call 34; go_in) | (go_at_call 14; go_in) | (go_at_call 30; go_in) | (go_at_call 31; go_in) | (go_at_call 32; go_in) | (go_at_call 12; go_in) | (go_at_call 10; go_in) | (go_at_call 9; go_in) | (go_at_call 7; go_in))
  have hO := HO.out
  clear HO c9_0_32 c9_0_95 c9_0_96 c9_0_97 c9_0_117 c9_0_338 c9_0_350 lt9_0 y9_0 c9_1_0 c9_1_1 c9_1_2 c9_1_3 c9_1_4 c9_1_5 c9_1_6 c9_1_7 lt9_1 y9_1
  generalize hW : World.alloc _ _ = W2
  have hN : Own w0 W2 [row (w.heap.size + 1 + 1) 30 #[tv, .int .i32 loc], row (w.heap.size + 1) 30 #[.iface 40 (.pointer (some ⟨d, 0, none⟩)), .int .i32 loc], row (w.heap.size) 30 #[.iface 40 (.pointer (some ⟨d, 0, none⟩)), .int .i32 loc], row (pb) 206 PC, row (d) 44 #[tv, .int .i32 loc, .string nm, .int .i32 loc, .int .u8 0, .bool false, .bool false, .bool false]] X := by
    rw [← hW]
    exact (((hO).alloc' _ (w.heap.size) (by simp)).alloc' _ (w.heap.size + 1) (by simp)).alloc' _ (w.heap.size + 1 + 1) (by simp)
  clear hW hO
  generalize w.heap.size + 1 + 1 = B1_2 at hN ⊢
  generalize w.heap.size + 1 = B1_1 at hN ⊢
  generalize w.heap.size = B1 at hN ⊢
  have hO := hN
  clear hN
  have z9_1_0 : W2.cell? ⟨B1_1, 0, none⟩ = some (.iface 40 (.pointer (some ⟨d, 0, none⟩))) := hO.cell 1 rfl 0 rfl
  have z9_1_1 : W2.cell? ⟨B1_1, 1, none⟩ = some (.int .i32 loc) := hO.cell 1 rfl 1 rfl
  refine bodyPost_ret (v := .tuple #[.agg #[.iface 40 (.pointer (some ⟨d, 0, none⟩)), .int .i32 loc], .bool false]) ?_ rfl ⟨rfl, hO.sub [3, 4] (by decide)⟩
  simp [results, Tryd.results35, go_sem, z9_1_0, z9_1_1]
def asgXanyPost (pb : Nat) (PC : Array Value) (mp cr : Nat) (r s : Bool) (d : Nat) (loc : Int) (tv : Value) (gx : Nat) (w0 : World) (X : Nat → Obj → Prop) (e : Ending) (w' : World) : Prop :=
  e = .returned (.tuple #[.agg #[.iface 209 (.pointer (some ⟨d, 0, none⟩)), .int .i32 loc], .bool false]) ∧ Own w0 w' [row (pb) 206 PC, row (d) 211 #[tv, .int .i32 loc, .iface 50 (.pointer (some ⟨gx, 0, none⟩)), .int .i32 loc, .int .i32 0, .int .u8 0, .bool false, .bool false, .bool false]] X
set_option maxRecDepth 100000 in
set_option maxHeartbeats 1000000 in
theorem asgXany (pb : Nat) (PC : Array Value) (mp cr : Nat) (r s : Bool) (d : Nat) (loc : Int) (tv : Value) (gx : Nat) (w0 w : World) (X : Nat → Obj → Prop) (hO : Own w0 w [row (pb) 206 PC, row (d) 211 #[tv, .int .i32 loc, .iface 50 (.pointer (some ⟨gx, 0, none⟩)), .int .i32 loc, .int .i32 0, .int .u8 0, .bool false, .bool false, .bool false]] X) (hD : Dead PC mp cr r s) (hl : PC[338]? = some (.bool false)) :
    Calls Tryd.prog 35 #[.pointer (some ⟨pb, 0, none⟩), .agg #[.iface 209 (.pointer (some ⟨d, 0, none⟩)), .int .i32 loc]] w (asgXanyPost pb PC mp cr r s d loc tv gx w0 X) := by
  go_enter Tryd.func35, Tryd.ntmps35
  have c9_0_32 : w.cell? ⟨pb, 32, none⟩ = some (.bool false) := hO.cell 0 rfl 32 (hD.ts)
  have c9_0_95 : w.cell? ⟨pb, 95, none⟩ = some (.bool r) := hO.cell 0 rfl 95 (hD.rep)
  have c9_0_96 : w.cell? ⟨pb, 96, none⟩ = some (.bool s) := hO.cell 0 rfl 96 (hD.stat)
  have c9_0_97 : w.cell? ⟨pb, 97, none⟩ = some (.pointer (some ⟨cr, 0, none⟩)) := hO.cell 0 rfl 97 (hD.cls)
  have c9_0_117 : w.cell? ⟨pb, 117, none⟩ = some (.map (some mp)) := hO.cell 0 rfl 117 (hD.imp)
  have c9_0_338 : w.cell? ⟨pb, 338, none⟩ = some (.bool false) := hO.cell 0 rfl 338 (hl)
  have c9_0_350 : w.cell? ⟨pb, 350, none⟩ = some (.bool true) := hO.cell 0 rfl 350 (hD.dead)
  have lt9_0 : pb < w.heap.size := hO.lt 0 rfl
  have y9_0 : ∀ o, w.frozen? ⟨pb, o, none⟩ = false := hO.free 0 rfl
  obtain ⟨c9_1_0, c9_1_1, c9_1_2, c9_1_3, c9_1_4, c9_1_5, c9_1_6, c9_1_7, c9_1_8, lt9_1, y9_1, -⟩ := hO.k9 1 rfl
  have HO := Lib.hid hO
  clear hO
  go_wp2_with (first | (go_at_call 34; go_in) | (go_at_call 14; go_in) | (go_at_call 30; go_in) | (go_at_call 31; go_in) | (go_at_call 32; go_in) | (go_at_call 12; go_in) | (go_at_call 10; go_in) | (go_at_call 9; go_in) | (go_at_call 7; go_in))
  have hO := HO.out
  clear HO c9_0_32 c9_0_95 c9_0_96 c9_0_97 c9_0_117 c9_0_338 c9_0_350 lt9_0 y9_0 c9_1_0 c9_1_1 c9_1_2 c9_1_3 c9_1_4 c9_1_5 c9_1_6 c9_1_7 c9_1_8 lt9_1 y9_1
  generalize hW : World.alloc _ _ = W2
  have hN : Own w0 W2 [row (w.heap.size + 1 + 1) 30 #[tv, .int .i32 loc], row (w.heap.size + 1) 30 #[.iface 209 (.pointer (some ⟨d, 0, none⟩)), .int .i32 loc], row (w.heap.size) 30 #[.iface 209 (.pointer (some ⟨d, 0, none⟩)), .int .i32 loc], row (pb) 206 PC, row (d) 211 #[tv, .int .i32 loc, .iface 50 (.pointer (some ⟨gx, 0, none⟩)), .int .i32 loc, .int .i32 0, .int .u8 0, .bool false, .bool false, .bool false]] X := by
    rw [← hW]
    exact (((hO).alloc' _ (w.heap.size) (by simp)).alloc' _ (w.heap.size + 1) (by simp)).alloc' _ (w.heap.size + 1 + 1) (by simp)
  clear hW hO
  generalize w.heap.size + 1 + 1 = B1_2 at hN ⊢
  generalize w.heap.size + 1 = B1_1 at hN ⊢
  generalize w.heap.size = B1 at hN ⊢
  have hO := hN
  clear hN
  have z9_1_0 : W2.cell? ⟨B1_1, 0, none⟩ = some (.iface 209 (.pointer (some ⟨d, 0, none⟩))) := hO.cell 1 rfl 0 rfl
  have z9_1_1 : W2.cell? ⟨B1_1, 1, none⟩ = some (.int .i32 loc) := hO.cell 1 rfl 1 rfl
  refine bodyPost_ret (v := .tuple #[.agg #[.iface 209 (.pointer (some ⟨d, 0, none⟩)), .int .i32 loc], .bool false]) ?_ rfl ⟨rfl, hO.sub [3, 4] (by decide)⟩
  simp [results, Tryd.results35, go_sem, z9_1_0, z9_1_1]
def shlptrPost (pb : Nat) (PC : Array Value) (mp cr : Nat) (r s : Bool) (loc : Int) (kT kx : Nat) (w0 : World) (X : Nat → Obj → Prop) (e : Ending) (w' : World) : Prop :=
  e = .returned (.bool false) ∧ Own w0 w' [row (pb) 206 PC] X
set_option maxRecDepth 100000 in
set_option maxHeartbeats 1000000 in
theorem shlptr (pb : Nat) (PC : Array Value) (mp cr : Nat) (r s : Bool) (loc : Int) (kT kx : Nat) (w0 w : World) (X : Nat → Obj → Prop) (hO : Own w0 w [row (pb) 206 PC] X) (hD : Dead PC mp cr r s) (hl : PC[338]? = some (.bool true)) (hT : kT ≠ 244) :
    Calls Tryd.prog 13 #[.pointer (some ⟨pb, 0, none⟩), .agg #[.iface kT (.pointer (some ⟨kx, 0, none⟩)), .int .i32 loc]] w (shlptrPost pb PC mp cr r s loc kT kx w0 X) := by
  go_enter Tryd.func13, Tryd.ntmps13
  have c9_0_32 : w.cell? ⟨pb, 32, none⟩ = some (.bool false) := hO.cell 0 rfl 32 (hD.ts)
  have c9_0_95 : w.cell? ⟨pb, 95, none⟩ = some (.bool r) := hO.cell 0 rfl 95 (hD.rep)
  have c9_0_96 : w.cell? ⟨pb, 96, none⟩ = some (.bool s) := hO.cell 0 rfl 96 (hD.stat)
  have c9_0_97 : w.cell? ⟨pb, 97, none⟩ = some (.pointer (some ⟨cr, 0, none⟩)) := hO.cell 0 rfl 97 (hD.cls)
  have c9_0_117 : w.cell? ⟨pb, 117, none⟩ = some (.map (some mp)) := hO.cell 0 rfl 117 (hD.imp)
  have c9_0_338 : w.cell? ⟨pb, 338, none⟩ = some (.bool true) := hO.cell 0 rfl 338 (hl)
  have c9_0_350 : w.cell? ⟨pb, 350, none⟩ = some (.bool true) := hO.cell 0 rfl 350 (hD.dead)
  have lt9_0 : pb < w.heap.size := hO.lt 0 rfl
  have y9_0 : ∀ o, w.frozen? ⟨pb, o, none⟩ = false := hO.free 0 rfl
  have HO := Lib.hid hO
  clear hO
  go_wp2_with (first | (go_at_call 34; go_in) | (go_at_call 14; go_in) | (go_at_call 30; go_in) | (go_at_call 31; go_in) | (go_at_call 32; go_in) | (go_at_call 12; go_in) | (go_at_call 10; go_in) | (go_at_call 9; go_in) | (go_at_call 7; go_in))
  have hO := HO.out
  clear HO c9_0_32 c9_0_95 c9_0_96 c9_0_97 c9_0_117 c9_0_338 c9_0_350 lt9_0 y9_0
  generalize hW : World.alloc _ _ = W2
  have hN : Own w0 W2 [row (w.heap.size + 1) 30 #[.iface kT (.pointer (some ⟨kx, 0, none⟩)), .int .i32 loc], row (w.heap.size) 30 #[.iface kT (.pointer (some ⟨kx, 0, none⟩)), .int .i32 loc], row (pb) 206 PC] X := by
    rw [← hW]
    exact ((hO).alloc' _ (w.heap.size) (by simp)).alloc' _ (w.heap.size + 1) (by simp)
  clear hW hO
  generalize w.heap.size + 1 = B1_1 at hN ⊢
  generalize w.heap.size = B1 at hN ⊢
  have hO := hN
  clear hN
  refine bodyPost_ret (v := .bool false) ?_ rfl ⟨rfl, hO.sub [2] (by decide)⟩
  simp [results, Tryd.results13, go_sem]
def asgDptrPost (pb : Nat) (PC : Array Value) (mp cr : Nat) (r s : Bool) (d : Nat) (loc : Int) (kT kx : Nat) (nm : ByteArray) (w0 : World) (X : Nat → Obj → Prop) (e : Ending) (w' : World) : Prop :=
  e = .returned (.tuple #[.agg #[.iface 40 (.pointer (some ⟨d, 0, none⟩)), .int .i32 loc], .bool false]) ∧ Own w0 w' [row (pb) 206 PC, row (d) 44 #[.iface kT (.pointer (some ⟨kx, 0, none⟩)), .int .i32 loc, .string nm, .int .i32 loc, .int .u8 0, .bool false, .bool false, .bool false]] X
set_option maxRecDepth 100000 in
set_option maxHeartbeats 1000000 in
theorem asgDptr (pb : Nat) (PC : Array Value) (mp cr : Nat) (r s : Bool) (d : Nat) (loc : Int) (kT kx : Nat) (nm : ByteArray) (w0 w : World) (X : Nat → Obj → Prop) (hO : Own w0 w [row (pb) 206 PC, row (d) 44 #[.iface kT (.pointer (some ⟨kx, 0, none⟩)), .int .i32 loc, .string nm, .int .i32 loc, .int .u8 0, .bool false, .bool false, .bool false]] X) (hD : Dead PC mp cr r s) (hl : PC[338]? = some (.bool true)) (hT : kT ≠ 244) :
    Calls Tryd.prog 35 #[.pointer (some ⟨pb, 0, none⟩), .agg #[.iface 40 (.pointer (some ⟨d, 0, none⟩)), .int .i32 loc]] w (asgDptrPost pb PC mp cr r s d loc kT kx nm w0 X) := by
  go_enter Tryd.func35, Tryd.ntmps35
  have c9_0_32 : w.cell? ⟨pb, 32, none⟩ = some (.bool false) := hO.cell 0 rfl 32 (hD.ts)
  have c9_0_95 : w.cell? ⟨pb, 95, none⟩ = some (.bool r) := hO.cell 0 rfl 95 (hD.rep)
  have c9_0_96 : w.cell? ⟨pb, 96, none⟩ = some (.bool s) := hO.cell 0 rfl 96 (hD.stat)
  have c9_0_97 : w.cell? ⟨pb, 97, none⟩ = some (.pointer (some ⟨cr, 0, none⟩)) := hO.cell 0 rfl 97 (hD.cls)
  have c9_0_117 : w.cell? ⟨pb, 117, none⟩ = some (.map (some mp)) := hO.cell 0 rfl 117 (hD.imp)
  have c9_0_338 : w.cell? ⟨pb, 338, none⟩ = some (.bool true) := hO.cell 0 rfl 338 (hl)
  have c9_0_350 : w.cell? ⟨pb, 350, none⟩ = some (.bool true) := hO.cell 0 rfl 350 (hD.dead)
  have lt9_0 : pb < w.heap.size := hO.lt 0 rfl
  have y9_0 : ∀ o, w.frozen? ⟨pb, o, none⟩ = false := hO.free 0 rfl
  obtain ⟨c9_1_0, c9_1_1, c9_1_2, c9_1_3, c9_1_4, c9_1_5, c9_1_6, c9_1_7, lt9_1, y9_1, -⟩ := hO.k8 1 rfl
  have HO := Lib.hid hO
  clear hO
  go_wp2_with (first | (go_at_call 34; go_in) | (go_at_call 14; go_in) | (go_at_call 30; go_in) | (go_at_call 31; go_in) | (go_at_call 32; go_in) | (go_at_call 12; go_in) | (go_at_call 10; go_in) | (go_at_call 9; go_in) | (go_at_call 7; go_in))
  have hO := HO.out
  clear HO c9_0_32 c9_0_95 c9_0_96 c9_0_97 c9_0_117 c9_0_338 c9_0_350 lt9_0 y9_0 c9_1_0 c9_1_1 c9_1_2 c9_1_3 c9_1_4 c9_1_5 c9_1_6 c9_1_7 lt9_1 y9_1
  generalize hW : World.alloc _ _ = W2
  have hN : Own w0 W2 [row (w.heap.size + 1 + 1) 30 #[.iface kT (.pointer (some ⟨kx, 0, none⟩)), .int .i32 loc], row (w.heap.size + 1) 30 #[.iface 40 (.pointer (some ⟨d, 0, none⟩)), .int .i32 loc], row (w.heap.size) 30 #[.iface 40 (.pointer (some ⟨d, 0, none⟩)), .int .i32 loc], row (pb) 206 PC, row (d) 44 #[.iface kT (.pointer (some ⟨kx, 0, none⟩)), .int .i32 loc, .string nm, .int .i32 loc, .int .u8 0, .bool false, .bool false, .bool false]] X := by
    rw [← hW]
    exact (((hO).alloc' _ (w.heap.size) (by simp)).alloc' _ (w.heap.size + 1) (by simp)).alloc' _ (w.heap.size + 1 + 1) (by simp)
  clear hW hO
  generalize w.heap.size + 1 + 1 = B1_2 at hN ⊢
  generalize w.heap.size + 1 = B1_1 at hN ⊢
  generalize w.heap.size = B1 at hN ⊢
  have hO := hN
  clear hN
  have z9_1_0 : W2.cell? ⟨B1_1, 0, none⟩ = some (.iface 40 (.pointer (some ⟨d, 0, none⟩))) := hO.cell 1 rfl 0 rfl
  have z9_1_1 : W2.cell? ⟨B1_1, 1, none⟩ = some (.int .i32 loc) := hO.cell 1 rfl 1 rfl
  refine bodyPost_ret (v := .tuple #[.agg #[.iface 40 (.pointer (some ⟨d, 0, none⟩)), .int .i32 loc], .bool false]) ?_ rfl ⟨rfl, hO.sub [3, 4] (by decide)⟩
  simp [results, Tryd.results35, go_sem, z9_1_0, z9_1_1]
def asgXptrPost (pb : Nat) (PC : Array Value) (mp cr : Nat) (r s : Bool) (d : Nat) (loc : Int) (kT kx gx : Nat) (w0 : World) (X : Nat → Obj → Prop) (e : Ending) (w' : World) : Prop :=
  e = .returned (.tuple #[.agg #[.iface 209 (.pointer (some ⟨d, 0, none⟩)), .int .i32 loc], .bool false]) ∧ Own w0 w' [row (pb) 206 PC, row (d) 211 #[.iface kT (.pointer (some ⟨kx, 0, none⟩)), .int .i32 loc, .iface 50 (.pointer (some ⟨gx, 0, none⟩)), .int .i32 loc, .int .i32 0, .int .u8 0, .bool false, .bool false, .bool false]] X
set_option maxRecDepth 100000 in
set_option maxHeartbeats 1000000 in
theorem asgXptr (pb : Nat) (PC : Array Value) (mp cr : Nat) (r s : Bool) (d : Nat) (loc : Int) (kT kx gx : Nat) (w0 w : World) (X : Nat → Obj → Prop) (hO : Own w0 w [row (pb) 206 PC, row (d) 211 #[.iface kT (.pointer (some ⟨kx, 0, none⟩)), .int .i32 loc, .iface 50 (.pointer (some ⟨gx, 0, none⟩)), .int .i32 loc, .int .i32 0, .int .u8 0, .bool false, .bool false, .bool false]] X) (hD : Dead PC mp cr r s) (hl : PC[338]? = some (.bool true)) (hT : kT ≠ 244) :
    Calls Tryd.prog 35 #[.pointer (some ⟨pb, 0, none⟩), .agg #[.iface 209 (.pointer (some ⟨d, 0, none⟩)), .int .i32 loc]] w (asgXptrPost pb PC mp cr r s d loc kT kx gx w0 X) := by
  go_enter Tryd.func35, Tryd.ntmps35
  have c9_0_32 : w.cell? ⟨pb, 32, none⟩ = some (.bool false) := hO.cell 0 rfl 32 (hD.ts)
  have c9_0_95 : w.cell? ⟨pb, 95, none⟩ = some (.bool r) := hO.cell 0 rfl 95 (hD.rep)
  have c9_0_96 : w.cell? ⟨pb, 96, none⟩ = some (.bool s) := hO.cell 0 rfl 96 (hD.stat)
  have c9_0_97 : w.cell? ⟨pb, 97, none⟩ = some (.pointer (some ⟨cr, 0, none⟩)) := hO.cell 0 rfl 97 (hD.cls)
  have c9_0_117 : w.cell? ⟨pb, 117, none⟩ = some (.map (some mp)) := hO.cell 0 rfl 117 (hD.imp)
  have c9_0_338 : w.cell? ⟨pb, 338, none⟩ = some (.bool true) := hO.cell 0 rfl 338 (hl)
  have c9_0_350 : w.cell? ⟨pb, 350, none⟩ = some (.bool true) := hO.cell 0 rfl 350 (hD.dead)
  have lt9_0 : pb < w.heap.size := hO.lt 0 rfl
  have y9_0 : ∀ o, w.frozen? ⟨pb, o, none⟩ = false := hO.free 0 rfl
  obtain ⟨c9_1_0, c9_1_1, c9_1_2, c9_1_3, c9_1_4, c9_1_5, c9_1_6, c9_1_7, c9_1_8, lt9_1, y9_1, -⟩ := hO.k9 1 rfl
  have HO := Lib.hid hO
  clear hO
  go_wp2_with (first | (go_at_call 34; go_in) | (go_at_call 14; go_in) | (go_at_call 30; go_in) | (go_at_call 31; go_in) | (go_at_call 32; go_in) | (go_at_call 12; go_in) | (go_at_call 10; go_in) | (go_at_call 9; go_in) | (go_at_call 7; go_in))
  have hO := HO.out
  clear HO c9_0_32 c9_0_95 c9_0_96 c9_0_97 c9_0_117 c9_0_338 c9_0_350 lt9_0 y9_0 c9_1_0 c9_1_1 c9_1_2 c9_1_3 c9_1_4 c9_1_5 c9_1_6 c9_1_7 c9_1_8 lt9_1 y9_1
  generalize hW : World.alloc _ _ = W2
  have hN : Own w0 W2 [row (w.heap.size + 1 + 1) 30 #[.iface kT (.pointer (some ⟨kx, 0, none⟩)), .int .i32 loc], row (w.heap.size + 1) 30 #[.iface 209 (.pointer (some ⟨d, 0, none⟩)), .int .i32 loc], row (w.heap.size) 30 #[.iface 209 (.pointer (some ⟨d, 0, none⟩)), .int .i32 loc], row (pb) 206 PC, row (d) 211 #[.iface kT (.pointer (some ⟨kx, 0, none⟩)), .int .i32 loc, .iface 50 (.pointer (some ⟨gx, 0, none⟩)), .int .i32 loc, .int .i32 0, .int .u8 0, .bool false, .bool false, .bool false]] X := by
    rw [← hW]
    exact (((hO).alloc' _ (w.heap.size) (by simp)).alloc' _ (w.heap.size + 1) (by simp)).alloc' _ (w.heap.size + 1 + 1) (by simp)
  clear hW hO
  generalize w.heap.size + 1 + 1 = B1_2 at hN ⊢
  generalize w.heap.size + 1 = B1_1 at hN ⊢
  generalize w.heap.size = B1 at hN ⊢
  have hO := hN
  clear hN
  have z9_1_0 : W2.cell? ⟨B1_1, 0, none⟩ = some (.iface 209 (.pointer (some ⟨d, 0, none⟩))) := hO.cell 1 rfl 0 rfl
  have z9_1_1 : W2.cell? ⟨B1_1, 1, none⟩ = some (.int .i32 loc) := hO.cell 1 rfl 1 rfl
  refine bodyPost_ret (v := .tuple #[.agg #[.iface 209 (.pointer (some ⟨d, 0, none⟩)), .int .i32 loc], .bool false]) ?_ rfl ⟨rfl, hO.sub [3, 4] (by decide)⟩
  simp [results, Tryd.results35, go_sem, z9_1_0, z9_1_1]
def shlnilPost (pb : Nat) (PC : Array Value) (mp cr : Nat) (r s : Bool) (loc : Int) (w0 : World) (X : Nat → Obj → Prop) (e : Ending) (w' : World) : Prop :=
  e = .returned (.bool false) ∧ Own w0 w' [row (pb) 206 PC] X
set_option maxRecDepth 100000 in
set_option maxHeartbeats 1000000 in
theorem shlnil (pb : Nat) (PC : Array Value) (mp cr : Nat) (r s : Bool) (loc : Int) (w0 w : World) (X : Nat → Obj → Prop) (hO : Own w0 w [row (pb) 206 PC] X) (hD : Dead PC mp cr r s) (hl : PC[338]? = some (.bool true)) :
    Calls Tryd.prog 13 #[.pointer (some ⟨pb, 0, none⟩), .agg #[.nilIface, .int .i32 loc]] w (shlnilPost pb PC mp cr r s loc w0 X) := by
  go_enter Tryd.func13, Tryd.ntmps13
  have c9_0_32 : w.cell? ⟨pb, 32, none⟩ = some (.bool false) := hO.cell 0 rfl 32 (hD.ts)
  have c9_0_95 : w.cell? ⟨pb, 95, none⟩ = some (.bool r) := hO.cell 0 rfl 95 (hD.rep)
  have c9_0_96 : w.cell? ⟨pb, 96, none⟩ = some (.bool s) := hO.cell 0 rfl 96 (hD.stat)
  have c9_0_97 : w.cell? ⟨pb, 97, none⟩ = some (.pointer (some ⟨cr, 0, none⟩)) := hO.cell 0 rfl 97 (hD.cls)
  have c9_0_117 : w.cell? ⟨pb, 117, none⟩ = some (.map (some mp)) := hO.cell 0 rfl 117 (hD.imp)
  have c9_0_338 : w.cell? ⟨pb, 338, none⟩ = some (.bool true) := hO.cell 0 rfl 338 (hl)
  have c9_0_350 : w.cell? ⟨pb, 350, none⟩ = some (.bool true) := hO.cell 0 rfl 350 (hD.dead)
  have lt9_0 : pb < w.heap.size := hO.lt 0 rfl
  have y9_0 : ∀ o, w.frozen? ⟨pb, o, none⟩ = false := hO.free 0 rfl
  have HO := Lib.hid hO
  clear hO
  go_wp2_with (first | (go_at_call 34; go_in) | (go_at_call 14; go_in) | (go_at_call 30; go_in) | (go_at_call 31; go_in) | (go_at_call 32; go_in) | (go_at_call 12; go_in) | (go_at_call 10; go_in) | (go_at_call 9; go_in) | (go_at_call 7; go_in))
  have hO := HO.out
  clear HO c9_0_32 c9_0_95 c9_0_96 c9_0_97 c9_0_117 c9_0_338 c9_0_350 lt9_0 y9_0
  generalize hW : World.alloc _ _ = W2
  have hN : Own w0 W2 [row (w.heap.size + 1) 30 #[.nilIface, .int .i32 loc], row (w.heap.size) 30 #[.nilIface, .int .i32 loc], row (pb) 206 PC] X := by
    rw [← hW]
    exact ((hO).alloc' _ (w.heap.size) (by simp)).alloc' _ (w.heap.size + 1) (by simp)
  clear hW hO
  generalize w.heap.size + 1 = B1_1 at hN ⊢
  generalize w.heap.size = B1 at hN ⊢
  have hO := hN
  clear hN
  refine bodyPost_ret (v := .bool false) ?_ rfl ⟨rfl, hO.sub [2] (by decide)⟩
  simp [results, Tryd.results13, go_sem]
def asgDnilPost (pb : Nat) (PC : Array Value) (mp cr : Nat) (r s : Bool) (d : Nat) (loc : Int) (nm : ByteArray) (w0 : World) (X : Nat → Obj → Prop) (e : Ending) (w' : World) : Prop :=
  e = .returned (.tuple #[.agg #[.iface 40 (.pointer (some ⟨d, 0, none⟩)), .int .i32 loc], .bool false]) ∧ Own w0 w' [row (pb) 206 PC, row (d) 44 #[.nilIface, .int .i32 loc, .string nm, .int .i32 loc, .int .u8 0, .bool false, .bool false, .bool false]] X
set_option maxRecDepth 100000 in
set_option maxHeartbeats 1000000 in
theorem asgDnil (pb : Nat) (PC : Array Value) (mp cr : Nat) (r s : Bool) (d : Nat) (loc : Int) (nm : ByteArray) (w0 w : World) (X : Nat → Obj → Prop) (hO : Own w0 w [row (pb) 206 PC, row (d) 44 #[.nilIface, .int .i32 loc, .string nm, .int .i32 loc, .int .u8 0, .bool false, .bool false, .bool false]] X) (hD : Dead PC mp cr r s) (hl : PC[338]? = some (.bool true)) :
    Calls Tryd.prog 35 #[.pointer (some ⟨pb, 0, none⟩), .agg #[.iface 40 (.pointer (some ⟨d, 0, none⟩)), .int .i32 loc]] w (asgDnilPost pb PC mp cr r s d loc nm w0 X) := by
  go_enter Tryd.func35, Tryd.ntmps35
  have c9_0_32 : w.cell? ⟨pb, 32, none⟩ = some (.bool false) := hO.cell 0 rfl 32 (hD.ts)
  have c9_0_95 : w.cell? ⟨pb, 95, none⟩ = some (.bool r) := hO.cell 0 rfl 95 (hD.rep)
  have c9_0_96 : w.cell? ⟨pb, 96, none⟩ = some (.bool s) := hO.cell 0 rfl 96 (hD.stat)
  have c9_0_97 : w.cell? ⟨pb, 97, none⟩ = some (.pointer (some ⟨cr, 0, none⟩)) := hO.cell 0 rfl 97 (hD.cls)
  have c9_0_117 : w.cell? ⟨pb, 117, none⟩ = some (.map (some mp)) := hO.cell 0 rfl 117 (hD.imp)
  have c9_0_338 : w.cell? ⟨pb, 338, none⟩ = some (.bool true) := hO.cell 0 rfl 338 (hl)
  have c9_0_350 : w.cell? ⟨pb, 350, none⟩ = some (.bool true) := hO.cell 0 rfl 350 (hD.dead)
  have lt9_0 : pb < w.heap.size := hO.lt 0 rfl
  have y9_0 : ∀ o, w.frozen? ⟨pb, o, none⟩ = false := hO.free 0 rfl
  obtain ⟨c9_1_0, c9_1_1, c9_1_2, c9_1_3, c9_1_4, c9_1_5, c9_1_6, c9_1_7, lt9_1, y9_1, -⟩ := hO.k8 1 rfl
  have HO := Lib.hid hO
  clear hO
  go_wp2_with (first | (go_at_call 34; go_in) | (go_at_call 14; go_in) | (go_at_call 30; go_in) | (go_at_call 31; go_in) | (go_at_call 32; go_in) | (go_at_call 12; go_in) | (go_at_call 10; go_in) | (go_at_call 9; go_in) | (go_at_call 7; go_in))
  have hO := HO.out
  clear HO c9_0_32 c9_0_95 c9_0_96 c9_0_97 c9_0_117 c9_0_338 c9_0_350 lt9_0 y9_0 c9_1_0 c9_1_1 c9_1_2 c9_1_3 c9_1_4 c9_1_5 c9_1_6 c9_1_7 lt9_1 y9_1
  generalize hW : World.alloc _ _ = W2
  have hN : Own w0 W2 [row (w.heap.size + 1 + 1) 30 #[.nilIface, .int .i32 loc], row (w.heap.size + 1) 30 #[.iface 40 (.pointer (some ⟨d, 0, none⟩)), .int .i32 loc], row (w.heap.size) 30 #[.iface 40 (.pointer (some ⟨d, 0, none⟩)), .int .i32 loc], row (pb) 206 PC, row (d) 44 #[.nilIface, .int .i32 loc, .string nm, .int .i32 loc, .int .u8 0, .bool false, .bool false, .bool false]] X := by
    rw [← hW]
    exact (((hO).alloc' _ (w.heap.size) (by simp)).alloc' _ (w.heap.size + 1) (by simp)).alloc' _ (w.heap.size + 1 + 1) (by simp)
  clear hW hO
  generalize w.heap.size + 1 + 1 = B1_2 at hN ⊢
  generalize w.heap.size + 1 = B1_1 at hN ⊢
  generalize w.heap.size = B1 at hN ⊢
  have hO := hN
  clear hN
  have z9_1_0 : W2.cell? ⟨B1_1, 0, none⟩ = some (.iface 40 (.pointer (some ⟨d, 0, none⟩))) := hO.cell 1 rfl 0 rfl
  have z9_1_1 : W2.cell? ⟨B1_1, 1, none⟩ = some (.int .i32 loc) := hO.cell 1 rfl 1 rfl
  refine bodyPost_ret (v := .tuple #[.agg #[.iface 40 (.pointer (some ⟨d, 0, none⟩)), .int .i32 loc], .bool false]) ?_ rfl ⟨rfl, hO.sub [3, 4] (by decide)⟩
  simp [results, Tryd.results35, go_sem, z9_1_0, z9_1_1]
def asgXnilPost (pb : Nat) (PC : Array Value) (mp cr : Nat) (r s : Bool) (d : Nat) (loc : Int) (gx : Nat) (w0 : World) (X : Nat → Obj → Prop) (e : Ending) (w' : World) : Prop :=
  e = .returned (.tuple #[.agg #[.iface 209 (.pointer (some ⟨d, 0, none⟩)), .int .i32 loc], .bool false]) ∧ Own w0 w' [row (pb) 206 PC, row (d) 211 #[.nilIface, .int .i32 loc, .iface 50 (.pointer (some ⟨gx, 0, none⟩)), .int .i32 loc, .int .i32 0, .int .u8 0, .bool false, .bool false, .bool false]] X
set_option maxRecDepth 100000 in
set_option maxHeartbeats 1000000 in
theorem asgXnil (pb : Nat) (PC : Array Value) (mp cr : Nat) (r s : Bool) (d : Nat) (loc : Int) (gx : Nat) (w0 w : World) (X : Nat → Obj → Prop) (hO : Own w0 w [row (pb) 206 PC, row (d) 211 #[.nilIface, .int .i32 loc, .iface 50 (.pointer (some ⟨gx, 0, none⟩)), .int .i32 loc, .int .i32 0, .int .u8 0, .bool false, .bool false, .bool false]] X) (hD : Dead PC mp cr r s) (hl : PC[338]? = some (.bool true)) :
    Calls Tryd.prog 35 #[.pointer (some ⟨pb, 0, none⟩), .agg #[.iface 209 (.pointer (some ⟨d, 0, none⟩)), .int .i32 loc]] w (asgXnilPost pb PC mp cr r s d loc gx w0 X) := by
  go_enter Tryd.func35, Tryd.ntmps35
  have c9_0_32 : w.cell? ⟨pb, 32, none⟩ = some (.bool false) := hO.cell 0 rfl 32 (hD.ts)
  have c9_0_95 : w.cell? ⟨pb, 95, none⟩ = some (.bool r) := hO.cell 0 rfl 95 (hD.rep)
  have c9_0_96 : w.cell? ⟨pb, 96, none⟩ = some (.bool s) := hO.cell 0 rfl 96 (hD.stat)
  have c9_0_97 : w.cell? ⟨pb, 97, none⟩ = some (.pointer (some ⟨cr, 0, none⟩)) := hO.cell 0 rfl 97 (hD.cls)
  have c9_0_117 : w.cell? ⟨pb, 117, none⟩ = some (.map (some mp)) := hO.cell 0 rfl 117 (hD.imp)
  have c9_0_338 : w.cell? ⟨pb, 338, none⟩ = some (.bool true) := hO.cell 0 rfl 338 (hl)
  have c9_0_350 : w.cell? ⟨pb, 350, none⟩ = some (.bool true) := hO.cell 0 rfl 350 (hD.dead)
  have lt9_0 : pb < w.heap.size := hO.lt 0 rfl
  have y9_0 : ∀ o, w.frozen? ⟨pb, o, none⟩ = false := hO.free 0 rfl
  obtain ⟨c9_1_0, c9_1_1, c9_1_2, c9_1_3, c9_1_4, c9_1_5, c9_1_6, c9_1_7, c9_1_8, lt9_1, y9_1, -⟩ := hO.k9 1 rfl
  have HO := Lib.hid hO
  clear hO
  go_wp2_with (first | (go_at_call 34; go_in) | (go_at_call 14; go_in) | (go_at_call 30; go_in) | (go_at_call 31; go_in) | (go_at_call 32; go_in) | (go_at_call 12; go_in) | (go_at_call 10; go_in) | (go_at_call 9; go_in) | (go_at_call 7; go_in))
  have hO := HO.out
  clear HO c9_0_32 c9_0_95 c9_0_96 c9_0_97 c9_0_117 c9_0_338 c9_0_350 lt9_0 y9_0 c9_1_0 c9_1_1 c9_1_2 c9_1_3 c9_1_4 c9_1_5 c9_1_6 c9_1_7 c9_1_8 lt9_1 y9_1
  generalize hW : World.alloc _ _ = W2
  have hN : Own w0 W2 [row (w.heap.size + 1 + 1) 30 #[.nilIface, .int .i32 loc], row (w.heap.size + 1) 30 #[.iface 209 (.pointer (some ⟨d, 0, none⟩)), .int .i32 loc], row (w.heap.size) 30 #[.iface 209 (.pointer (some ⟨d, 0, none⟩)), .int .i32 loc], row (pb) 206 PC, row (d) 211 #[.nilIface, .int .i32 loc, .iface 50 (.pointer (some ⟨gx, 0, none⟩)), .int .i32 loc, .int .i32 0, .int .u8 0, .bool false, .bool false, .bool false]] X := by
    rw [← hW]
    exact (((hO).alloc' _ (w.heap.size) (by simp)).alloc' _ (w.heap.size + 1) (by simp)).alloc' _ (w.heap.size + 1 + 1) (by simp)
  clear hW hO
  generalize w.heap.size + 1 + 1 = B1_2 at hN ⊢
  generalize w.heap.size + 1 = B1_1 at hN ⊢
  generalize w.heap.size = B1 at hN ⊢
  have hO := hN
  clear hN
  have z9_1_0 : W2.cell? ⟨B1_1, 0, none⟩ = some (.iface 209 (.pointer (some ⟨d, 0, none⟩))) := hO.cell 1 rfl 0 rfl
  have z9_1_1 : W2.cell? ⟨B1_1, 1, none⟩ = some (.int .i32 loc) := hO.cell 1 rfl 1 rfl
  refine bodyPost_ret (v := .tuple #[.agg #[.iface 209 (.pointer (some ⟨d, 0, none⟩)), .int .i32 loc], .bool false]) ?_ rfl ⟨rfl, hO.sub [3, 4] (by decide)⟩
  simp [results, Tryd.results35, go_sem, z9_1_0, z9_1_1]
def shlYesPost (pb : Nat) (PC : Array Value) (mp cr : Nat) (r s : Bool) (loc : Int) (kx : Nat) (w0 : World) (X : Nat → Obj → Prop) (e : Ending) (w' : World) : Prop :=
  e = .returned (.bool true) ∧ Own w0 w' [row (pb) 206 PC] X
set_option maxRecDepth 100000 in
set_option maxHeartbeats 1000000 in
theorem shlYes (pb : Nat) (PC : Array Value) (mp cr : Nat) (r s : Bool) (loc : Int) (kx : Nat) (w0 w : World) (X : Nat → Obj → Prop) (hO : Own w0 w [row (pb) 206 PC] X) (hD : Dead PC mp cr r s) (hl : PC[338]? = some (.bool true)) :
    Calls Tryd.prog 13 #[.pointer (some ⟨pb, 0, none⟩), .agg #[.iface 244 (.pointer (some ⟨kx, 0, none⟩)), .int .i32 loc]] w (shlYesPost pb PC mp cr r s loc kx w0 X) := by
  go_enter Tryd.func13, Tryd.ntmps13
  have c9_0_32 : w.cell? ⟨pb, 32, none⟩ = some (.bool false) := hO.cell 0 rfl 32 (hD.ts)
  have c9_0_95 : w.cell? ⟨pb, 95, none⟩ = some (.bool r) := hO.cell 0 rfl 95 (hD.rep)
  have c9_0_96 : w.cell? ⟨pb, 96, none⟩ = some (.bool s) := hO.cell 0 rfl 96 (hD.stat)
  have c9_0_97 : w.cell? ⟨pb, 97, none⟩ = some (.pointer (some ⟨cr, 0, none⟩)) := hO.cell 0 rfl 97 (hD.cls)
  have c9_0_117 : w.cell? ⟨pb, 117, none⟩ = some (.map (some mp)) := hO.cell 0 rfl 117 (hD.imp)
  have c9_0_338 : w.cell? ⟨pb, 338, none⟩ = some (.bool true) := hO.cell 0 rfl 338 (hl)
  have c9_0_350 : w.cell? ⟨pb, 350, none⟩ = some (.bool true) := hO.cell 0 rfl 350 (hD.dead)
  have lt9_0 : pb < w.heap.size := hO.lt 0 rfl
  have y9_0 : ∀ o, w.frozen? ⟨pb, o, none⟩ = false := hO.free 0 rfl
  have HO := Lib.hid hO
  clear hO
  go_wp2_with (first | (go_at_call 34; go_in) | (go_at_call 14; go_in) | (go_at_call 30; go_in) | (go_at_call 31; go_in) | (go_at_call 32; go_in) | (go_at_call 12; go_in) | (go_at_call 10; go_in) | (go_at_call 9; go_in) | (go_at_call 7; go_in))
  have hO := HO.out
  clear HO c9_0_32 c9_0_95 c9_0_96 c9_0_97 c9_0_117 c9_0_338 c9_0_350 lt9_0 y9_0
  generalize hW : World.alloc _ _ = W2
  have hN : Own w0 W2 [row (w.heap.size + 1) 30 #[.iface 244 (.pointer (some ⟨kx, 0, none⟩)), .int .i32 loc], row (w.heap.size) 30 #[.iface 244 (.pointer (some ⟨kx, 0, none⟩)), .int .i32 loc], row (pb) 206 PC] X := by
    rw [← hW]
    exact ((hO).alloc' _ (w.heap.size) (by simp)).alloc' _ (w.heap.size + 1) (by simp)
  clear hW hO
  generalize w.heap.size + 1 = B1_1 at hN ⊢
  generalize w.heap.size = B1 at hN ⊢
  have hO := hN
  clear hN
  refine bodyPost_ret (v := .bool true) ?_ rfl ⟨rfl, hO.sub [2] (by decide)⟩
  simp [results, Tryd.results13, go_sem]
end Go.Proofs.YtcbdjbjbikiaeaaDoor.Use
