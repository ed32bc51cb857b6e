/- The helper refuses. No condition. -/
import Derived.Test.YtghofdhhhbbaaaaGreatDoorVl
import Derived.Test.YtghofdhhhbbaaaaGreatDoorIts
import Derived.Test.YtghofdhhhbbaaaaGreatDoorIfm
import Derived.Test.YtghofdhhhbbaaaaGreatDoorSla
import Derived.Test.YtghofdhhhbbaaaaGreatDoorLoop
import Derived.Test.YtghofdhhhbbaaaaGreatDoorMini
import Derived.Test.YtghofdhhhbbaaaaGreatDoorAppL
import Derived.Test.YtghofdhhhbbaaaaGreatDoorApp
import Derived.Test.YtghofdhhhbbaaaaGreatDoorOwnK
import Derived.Test.YtghofdhhhbbaaaaGreatDoorOwn
import Derived.Test.YtghofdhhhbbaaaaGreatDoorDeepCells
import Derived.Test.YtghofdhhhbbaaaaGreatDoorRows
import Derived.Test.YtghofdhhhbbaaaaGreatDoorLive
namespace Go.Proofs.YtghofdhhhbbaaaaGreatDoor.Use
open Go.ChangeShapes Go.WideShapes Go.ChangeAt Go.RowKit Go.Sort Own
set_option linter.unusedVariables false
def hlpN0Post (pb : Nat) (PC : Array Value) (tl vl eb : Nat) (lo : Int) (vi : Nat) (li : Int) (w0 : World) (X : Nat → Obj → Prop) (e : Ending) (w' : World) : Prop :=
  e = .returned (.tuple #[.nilFunc, .bool false]) ∧ Own w0 w' [row (pb) 182 PC] X
set_option maxRecDepth 100000 in
set_option maxHeartbeats 1000000 in
theorem hlpN0 (pb : Nat) (PC : Array Value) (tl vl eb : Nat) (lo : Int) (vi : Nat) (li : Int) (w0 w : World) (X : Nat → Obj → Prop) (hO : Own w0 w [row (pb) 182 PC] X) (hk23 : PC[23]? = some (.int .u64 0)) :
    Calls Tryz.prog 28 #[.pointer (some ⟨pb, 0, none⟩), .agg #[.iface tl (.pointer (some ⟨vl, 0, none⟩)), .int .i32 lo], .agg #[.iface 56 (.pointer (some ⟨vi, 0, none⟩)), .int .i32 li], .func (Fn.func 25) #[] #[.pointer (some ⟨eb, 0, none⟩)], .int .u8 0, .int .u8 0] w (hlpN0Post pb PC tl vl eb lo vi li w0 X) := by
  go_enter Tryz.func28, Tryz.ntmps28
  obtain ⟨ix9, hix9, hax9, hjx9⟩ := hO.ix
  have ix9_0 : ix9 pb = 0 := hjx9 0 _ _ rfl
  clear hjx9
  have c9_0_23 : w.cell? ⟨pb, 23, none⟩ = some (.int .u64 0) := hO.cell 0 rfl (23) (hk23)
  have lt9_0 : pb < w.heap.size := hO.lt 0 rfl
  have y9_0 : ∀ o, w.frozen? ⟨pb, o, none⟩ = false := hO.free 0 rfl
  have HO := Lib.hid hO
  clear hO
  go_wp2_with (first | (with_reducible refine Own.stay (fn := Tryz.f28) ?_) | (go_at_call 38; go_in))
  try with_reducible refine Own.Stay.mk ?_
  have hO := HO.out
  clear HO hix9 hax9 ix9_0 ix9 c9_0_23 lt9_0 y9_0
  generalize hW : World.alloc _ _ = W2
  have hN : Own w0 W2 [row (w.heap.size + 1 + 1 + 1 + 1) 214 #[.int .u8 0], row (w.heap.size + 1 + 1 + 1) 210 #[.func (Fn.func 25) #[] #[.pointer (some ⟨eb, 0, none⟩)]], row (w.heap.size + 1 + 1) 29 #[.iface 56 (.pointer (some ⟨vi, 0, none⟩)), .int .i32 li], row (w.heap.size + 1) 29 #[.iface tl (.pointer (some ⟨vl, 0, none⟩)), .int .i32 lo], row (w.heap.size) 22 #[.pointer (some ⟨pb, 0, none⟩)], row (pb) 182 PC] X := by
    rw [← hW]
    exact (((((hO).alloc' _ (w.heap.size) (by simp)).alloc' _ (w.heap.size + 1) (by simp)).alloc' _ (w.heap.size + 1 + 1) (by simp)).alloc' _ (w.heap.size + 1 + 1 + 1) (by simp)).alloc' _ (w.heap.size + 1 + 1 + 1 + 1) (by simp)
  clear hW hO
  generalize w.heap.size + 1 + 1 + 1 + 1 = B1_4 at hN ⊢
  generalize w.heap.size + 1 + 1 + 1 = B1_3 at hN ⊢
  generalize w.heap.size + 1 + 1 = B1_2 at hN ⊢
  generalize w.heap.size + 1 = B1_1 at hN ⊢
  generalize w.heap.size = B1 at hN ⊢
  have hO := hN
  clear hN
  refine bodyPost_ret (v := .tuple #[.nilFunc, .bool false]) ?_ rfl ⟨rfl, hO.sub [5] (by decide)⟩
  simp [results, Tryz.results28, go_sem]
def hlpN1Post (pb : Nat) (PC : Array Value) (vl eb : Nat) (lo : Int) (vi : Nat) (li : Int) (w0 : World) (X : Nat → Obj → Prop) (e : Ending) (w' : World) : Prop :=
  e = .returned (.tuple #[.nilFunc, .bool false]) ∧ Own w0 w' [row (pb) 182 PC] X
set_option maxRecDepth 100000 in
set_option maxHeartbeats 1000000 in
theorem hlpN1 (pb : Nat) (PC : Array Value) (vl eb : Nat) (lo : Int) (vi : Nat) (li : Int) (w0 w : World) (X : Nat → Obj → Prop) (hO : Own w0 w [row (pb) 182 PC] X) (hk23 : PC[23]? = some (.int .u64 35184372088832)) :
    Calls Tryz.prog 28 #[.pointer (some ⟨pb, 0, none⟩), .agg #[.iface 56 (.pointer (some ⟨vl, 0, none⟩)), .int .i32 lo], .agg #[.iface 56 (.pointer (some ⟨vi, 0, none⟩)), .int .i32 li], .func (Fn.func 25) #[] #[.pointer (some ⟨eb, 0, none⟩)], .int .u8 0, .int .u8 0] w (hlpN1Post pb PC vl eb lo vi li w0 X) := by
  go_enter Tryz.func28, Tryz.ntmps28
  obtain ⟨ix9, hix9, hax9, hjx9⟩ := hO.ix
  have ix9_0 : ix9 pb = 0 := hjx9 0 _ _ rfl
  clear hjx9
  have c9_0_23 : w.cell? ⟨pb, 23, none⟩ = some (.int .u64 35184372088832) := hO.cell 0 rfl (23) (hk23)
  have lt9_0 : pb < w.heap.size := hO.lt 0 rfl
  have y9_0 : ∀ o, w.frozen? ⟨pb, o, none⟩ = false := hO.free 0 rfl
  have HO := Lib.hid hO
  clear hO
  go_wp2_with (first | (with_reducible refine Own.stay (fn := Tryz.f28) ?_) | (go_at_call 38; go_in))
  try with_reducible refine Own.Stay.mk ?_
  have hO := HO.out
  clear HO hix9 hax9 ix9_0 ix9 c9_0_23 lt9_0 y9_0
  generalize hW : World.alloc _ _ = W2
  have hN : Own w0 W2 [row (w.heap.size + 1 + 1 + 1 + 1) 214 #[.int .u8 0], row (w.heap.size + 1 + 1 + 1) 210 #[.func (Fn.func 25) #[] #[.pointer (some ⟨eb, 0, none⟩)]], row (w.heap.size + 1 + 1) 29 #[.iface 56 (.pointer (some ⟨vi, 0, none⟩)), .int .i32 li], row (w.heap.size + 1) 29 #[.iface 56 (.pointer (some ⟨vl, 0, none⟩)), .int .i32 lo], row (w.heap.size) 22 #[.pointer (some ⟨pb, 0, none⟩)], row (pb) 182 PC] X := by
    rw [← hW]
    exact (((((hO).alloc' _ (w.heap.size) (by simp)).alloc' _ (w.heap.size + 1) (by simp)).alloc' _ (w.heap.size + 1 + 1) (by simp)).alloc' _ (w.heap.size + 1 + 1 + 1) (by simp)).alloc' _ (w.heap.size + 1 + 1 + 1 + 1) (by simp)
  clear hW hO
  generalize w.heap.size + 1 + 1 + 1 + 1 = B1_4 at hN ⊢
  generalize w.heap.size + 1 + 1 + 1 = B1_3 at hN ⊢
  generalize w.heap.size + 1 + 1 = B1_2 at hN ⊢
  generalize w.heap.size + 1 = B1_1 at hN ⊢
  generalize w.heap.size = B1 at hN ⊢
  have hO := hN
  clear hN
  refine bodyPost_ret (v := .tuple #[.nilFunc, .bool false]) ?_ rfl ⟨rfl, hO.sub [5] (by decide)⟩
  simp [results, Tryz.results28, go_sem]
end Go.Proofs.YtghofdhhhbbaaaaGreatDoor.Use
