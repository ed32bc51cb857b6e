/- zzAssignItem. No condition. -/
import Derived.Test.YtcbdjbjbikiaeaaDoorItm
import Derived.Test.YtcbdjbjbikiaeaaDoorOwn
import Derived.Test.YtcbdjbjbikiaeaaDoorOwnK
import Derived.Test.YtcbdjbjbikiaeaaDoorLoop
import Derived.Test.YtcbdjbjbikiaeaaDoorApp
import Derived.Test.YtcbdjbjbikiaeaaDoorDeepCells
import Derived.Test.YtcbdjbjbikiaeaaDoorRows
import Derived.Test.YtcbdjbjbikiaeaaDoorDead
namespace Go.Proofs.YtcbdjbjbikiaeaaDoor.Use
open Go.ChangeShapes Go.WideShapes Go.ChangeAt Go.RowKit Go.Sort Own
set_option linter.unusedVariables false
def asn0Post (kd loc nl : Int) (nm : ByteArray) (w0 : World) (X : Nat → Obj → Prop) (e : Ending) (w' : World) : Prop :=
  ∃ d : Nat, ∃ kx : Nat, e = .returned (.agg #[.iface 40 (.pointer (some ⟨d, 0, none⟩)), .int .i32 loc]) ∧ Own w0 w' [row (d) 44 #[.iface 244 (.pointer (some ⟨kx, 0, none⟩)), .int .i32 loc, .string nm, .int .i32 nl, .int .u8 0, .bool false, .bool false, .bool false]] X
set_option maxRecDepth 100000 in
set_option maxHeartbeats 2000000 in
theorem asn0 (kd loc nl : Int) (nm : ByteArray) (w0 w : World) (X : Nat → Obj → Prop) (hO : Own w0 w [] X) (hk0 : (kd.tmod 6 == 0) = true) :
    Calls Tryd.prog 26 #[.int .u8 kd, .int .i32 loc, .int .i32 nl, .string nm] w (asn0Post kd loc nl nm w0 X) := by
  go_enter Tryd.func26, Tryd.ntmps26
  go_wp2_with (first | (with_reducible refine Own.stay (fn := Tryd.f26) ?_) | (first | (go_at_call 30; go_in) | (go_at_call 32; go_in) | (go_at_call 12; go_in) | (go_at_call 10; go_in) | (go_at_call 44; go_in) | (go_at_call 45; go_in)))
  try with_reducible refine Own.Stay.mk ?_
  generalize hW : World.alloc _ _ = W2
  have hN : Own w0 W2 [row (w.heap.size + 1 + 1 + 1 + 1 + 1) 44 #[.iface 244 (.pointer (some ⟨w.heap.size + 1 + 1, 0, none⟩)), .int .i32 loc, .string nm, .int .i32 nl, .int .u8 0, .bool false, .bool false, .bool false], row (w.heap.size + 1 + 1 + 1 + 1) 30 #[.iface 40 (.pointer (some ⟨w.heap.size + 1 + 1 + 1 + 1 + 1, 0, none⟩)), .int .i32 loc], row (w.heap.size + 1 + 1 + 1) 30 #[.iface 244 (.pointer (some ⟨w.heap.size + 1 + 1, 0, none⟩)), .int .i32 loc], row (w.heap.size + 1 + 1) 246 #[], row (w.heap.size + 1) 30 #[.iface 244 (.pointer (some ⟨w.heap.size + 1 + 1, 0, none⟩)), .int .i32 loc], row (w.heap.size) 30 #[.iface 40 (.pointer (some ⟨w.heap.size + 1 + 1 + 1 + 1 + 1, 0, none⟩)), .int .i32 loc]] X := by
    rw [← hW]
    exact ((((((hO).alloc' _ (w.heap.size) (by simp)).alloc' _ (w.heap.size + 1) (by simp)).alloc' _ (w.heap.size + 1 + 1) (by simp)).alloc' _ (w.heap.size + 1 + 1 + 1) (by simp)).alloc' _ (w.heap.size + 1 + 1 + 1 + 1) (by simp)).alloc' _ (w.heap.size + 1 + 1 + 1 + 1 + 1) (by simp)
  clear hW hO
  generalize w.heap.size + 1 + 1 + 1 + 1 + 1 = B1_5 at hN ⊢
  generalize w.heap.size + 1 + 1 + 1 + 1 = B1_4 at hN ⊢
  generalize w.heap.size + 1 + 1 + 1 = B1_3 at hN ⊢
  generalize w.heap.size + 1 + 1 = B1_2 at hN ⊢
  generalize w.heap.size + 1 = B1_1 at hN ⊢
  generalize w.heap.size = B1 at hN ⊢
  have hO := hN
  clear hN
  have z9_5_0 : W2.cell? ⟨B1, 0, none⟩ = some (.iface 40 (.pointer (some ⟨B1_5, 0, none⟩))) := hO.cell 5 rfl 0 rfl
  have z9_5_1 : W2.cell? ⟨B1, 1, none⟩ = some (.int .i32 loc) := hO.cell 5 rfl 1 rfl
  refine bodyPost_ret (v := .agg #[.iface 40 (.pointer (some ⟨B1_5, 0, none⟩)), .int .i32 loc]) ?_ rfl ⟨B1_5, B1_2, rfl, hO.sub [0] (by decide)⟩
  simp [results, Tryd.results26, go_sem, z9_5_0, z9_5_1]
def asn1Post (kd loc nl : Int) (nm : ByteArray) (w0 : World) (X : Nat → Obj → Prop) (e : Ending) (w' : World) : Prop :=
  ∃ d : Nat, ∃ kx : Nat, ∃ ib : Nat, e = .returned (.agg #[.iface 209 (.pointer (some ⟨d, 0, none⟩)), .int .i32 loc]) ∧ Own w0 w' [row (d) 211 #[.iface 244 (.pointer (some ⟨kx, 0, none⟩)), .int .i32 loc, .iface 220 (.pointer (some ⟨ib, 0, none⟩)), .int .i32 nl, .int .i32 0, .int .u8 0, .bool false, .bool false, .bool false]] X
set_option maxRecDepth 100000 in
set_option maxHeartbeats 2000000 in
theorem asn1 (kd loc nl : Int) (nm : ByteArray) (w0 w : World) (X : Nat → Obj → Prop) (hO : Own w0 w [] X) (hk0 : (kd.tmod 6 == 0) = false) (hk1 : (kd.tmod 6 == 1) = true) :
    Calls Tryd.prog 26 #[.int .u8 kd, .int .i32 loc, .int .i32 nl, .string nm] w (asn1Post kd loc nl nm w0 X) := by
  go_enter Tryd.func26, Tryd.ntmps26
  go_wp2_with (first | (with_reducible refine Own.stay (fn := Tryd.f26) ?_) | (first | (go_at_call 30; go_in) | (go_at_call 32; go_in) | (go_at_call 12; go_in) | (go_at_call 10; go_in) | (go_at_call 44; go_in) | (go_at_call 45; go_in)))
  try with_reducible refine Own.Stay.mk ?_
  generalize hW : World.alloc _ _ = W2
  have hN : Own w0 W2 [row (w.heap.size + 1 + 1 + 1 + 1 + 1 + 1 + 1 + 1) 211 #[.iface 244 (.pointer (some ⟨w.heap.size + 1 + 1, 0, none⟩)), .int .i32 loc, .iface 220 (.pointer (some ⟨w.heap.size + 1 + 1 + 1 + 1, 0, none⟩)), .int .i32 nl, .int .i32 0, .int .u8 0, .bool false, .bool false, .bool false], row (w.heap.size + 1 + 1 + 1 + 1 + 1 + 1 + 1) 30 #[.iface 209 (.pointer (some ⟨w.heap.size + 1 + 1 + 1 + 1 + 1 + 1 + 1 + 1, 0, none⟩)), .int .i32 loc], row (w.heap.size + 1 + 1 + 1 + 1 + 1 + 1) 30 #[.iface 220 (.pointer (some ⟨w.heap.size + 1 + 1 + 1 + 1, 0, none⟩)), .int .i32 nl], row (w.heap.size + 1 + 1 + 1 + 1 + 1) 30 #[.iface 244 (.pointer (some ⟨w.heap.size + 1 + 1, 0, none⟩)), .int .i32 loc], row (w.heap.size + 1 + 1 + 1 + 1) 223 #[.int .u32 0, .int .u32 5, .bool false, .bool false, .bool false], row (w.heap.size + 1 + 1 + 1) 30 #[.iface 220 (.pointer (some ⟨w.heap.size + 1 + 1 + 1 + 1, 0, none⟩)), .int .i32 nl], row (w.heap.size + 1 + 1) 246 #[], row (w.heap.size + 1) 30 #[.iface 244 (.pointer (some ⟨w.heap.size + 1 + 1, 0, none⟩)), .int .i32 loc], row (w.heap.size) 30 #[.iface 209 (.pointer (some ⟨w.heap.size + 1 + 1 + 1 + 1 + 1 + 1 + 1 + 1, 0, none⟩)), .int .i32 loc]] X := by
    rw [← hW]
    exact (((((((((hO).alloc' _ (w.heap.size) (by simp)).alloc' _ (w.heap.size + 1) (by simp)).alloc' _ (w.heap.size + 1 + 1) (by simp)).alloc' _ (w.heap.size + 1 + 1 + 1) (by simp)).alloc' _ (w.heap.size + 1 + 1 + 1 + 1) (by simp)).alloc' _ (w.heap.size + 1 + 1 + 1 + 1 + 1) (by simp)).alloc' _ (w.heap.size + 1 + 1 + 1 + 1 + 1 + 1) (by simp)).alloc' _ (w.heap.size + 1 + 1 + 1 + 1 + 1 + 1 + 1) (by simp)).alloc' _ (w.heap.size + 1 + 1 + 1 + 1 + 1 + 1 + 1 + 1) (by simp)
  clear hW hO
  generalize w.heap.size + 1 + 1 + 1 + 1 + 1 + 1 + 1 + 1 = B1_8 at hN ⊢
  generalize w.heap.size + 1 + 1 + 1 + 1 + 1 + 1 + 1 = B1_7 at hN ⊢
  generalize w.heap.size + 1 + 1 + 1 + 1 + 1 + 1 = B1_6 at hN ⊢
  generalize w.heap.size + 1 + 1 + 1 + 1 + 1 = B1_5 at hN ⊢
  generalize w.heap.size + 1 + 1 + 1 + 1 = B1_4 at hN ⊢
  generalize w.heap.size + 1 + 1 + 1 = B1_3 at hN ⊢
  generalize w.heap.size + 1 + 1 = B1_2 at hN ⊢
  generalize w.heap.size + 1 = B1_1 at hN ⊢
  generalize w.heap.size = B1 at hN ⊢
  have hO := hN
  clear hN
  have z9_8_0 : W2.cell? ⟨B1, 0, none⟩ = some (.iface 209 (.pointer (some ⟨B1_8, 0, none⟩))) := hO.cell 8 rfl 0 rfl
  have z9_8_1 : W2.cell? ⟨B1, 1, none⟩ = some (.int .i32 loc) := hO.cell 8 rfl 1 rfl
  refine bodyPost_ret (v := .agg #[.iface 209 (.pointer (some ⟨B1_8, 0, none⟩)), .int .i32 loc]) ?_ rfl ⟨B1_8, B1_2, B1_4, rfl, hO.sub [0] (by decide)⟩
  simp [results, Tryd.results26, go_sem, z9_8_0, z9_8_1]
def asn2Post (kd loc nl : Int) (nm : ByteArray) (w0 : World) (X : Nat → Obj → Prop) (e : Ending) (w' : World) : Prop :=
  ∃ d : Nat, ∃ kx : Nat, e = .returned (.agg #[.iface 40 (.pointer (some ⟨d, 0, none⟩)), .int .i32 loc]) ∧ Own w0 w' [row (d) 44 #[.iface 220 (.pointer (some ⟨kx, 0, none⟩)), .int .i32 loc, .string nm, .int .i32 nl, .int .u8 0, .bool false, .bool false, .bool false]] X
set_option maxRecDepth 100000 in
set_option maxHeartbeats 2000000 in
theorem asn2 (kd loc nl : Int) (nm : ByteArray) (w0 w : World) (X : Nat → Obj → Prop) (hO : Own w0 w [] X) (hk0 : (kd.tmod 6 == 0) = false) (hk1 : (kd.tmod 6 == 1) = false) (hk2 : (kd.tmod 6 == 2) = true) :
    Calls Tryd.prog 26 #[.int .u8 kd, .int .i32 loc, .int .i32 nl, .string nm] w (asn2Post kd loc nl nm w0 X) := by
  go_enter Tryd.func26, Tryd.ntmps26
  go_wp2_with (first | (with_reducible refine Own.stay (fn := Tryd.f26) ?_) | (first | (go_at_call 30; go_in) | (go_at_call 32; go_in) | (go_at_call 12; go_in) | (go_at_call 10; go_in) | (go_at_call 44; go_in) | (go_at_call 45; go_in)))
  try with_reducible refine Own.Stay.mk ?_
  generalize hW : World.alloc _ _ = W2
  have hN : Own w0 W2 [row (w.heap.size + 1 + 1 + 1 + 1 + 1) 44 #[.iface 220 (.pointer (some ⟨w.heap.size + 1 + 1, 0, none⟩)), .int .i32 loc, .string nm, .int .i32 nl, .int .u8 0, .bool false, .bool false, .bool false], row (w.heap.size + 1 + 1 + 1 + 1) 30 #[.iface 40 (.pointer (some ⟨w.heap.size + 1 + 1 + 1 + 1 + 1, 0, none⟩)), .int .i32 loc], row (w.heap.size + 1 + 1 + 1) 30 #[.iface 220 (.pointer (some ⟨w.heap.size + 1 + 1, 0, none⟩)), .int .i32 loc], row (w.heap.size + 1 + 1) 223 #[.int .u32 0, .int .u32 5, .bool false, .bool false, .bool false], row (w.heap.size + 1) 30 #[.iface 220 (.pointer (some ⟨w.heap.size + 1 + 1, 0, none⟩)), .int .i32 loc], row (w.heap.size) 30 #[.iface 40 (.pointer (some ⟨w.heap.size + 1 + 1 + 1 + 1 + 1, 0, none⟩)), .int .i32 loc]] X := by
    rw [← hW]
    exact ((((((hO).alloc' _ (w.heap.size) (by simp)).alloc' _ (w.heap.size + 1) (by simp)).alloc' _ (w.heap.size + 1 + 1) (by simp)).alloc' _ (w.heap.size + 1 + 1 + 1) (by simp)).alloc' _ (w.heap.size + 1 + 1 + 1 + 1) (by simp)).alloc' _ (w.heap.size + 1 + 1 + 1 + 1 + 1) (by simp)
  clear hW hO
  generalize w.heap.size + 1 + 1 + 1 + 1 + 1 = B1_5 at hN ⊢
  generalize w.heap.size + 1 + 1 + 1 + 1 = B1_4 at hN ⊢
  generalize w.heap.size + 1 + 1 + 1 = B1_3 at hN ⊢
  generalize w.heap.size + 1 + 1 = B1_2 at hN ⊢
  generalize w.heap.size + 1 = B1_1 at hN ⊢
  generalize w.heap.size = B1 at hN ⊢
  have hO := hN
  clear hN
  have z9_5_0 : W2.cell? ⟨B1, 0, none⟩ = some (.iface 40 (.pointer (some ⟨B1_5, 0, none⟩))) := hO.cell 5 rfl 0 rfl
  have z9_5_1 : W2.cell? ⟨B1, 1, none⟩ = some (.int .i32 loc) := hO.cell 5 rfl 1 rfl
  refine bodyPost_ret (v := .agg #[.iface 40 (.pointer (some ⟨B1_5, 0, none⟩)), .int .i32 loc]) ?_ rfl ⟨B1_5, B1_2, rfl, hO.sub [0] (by decide)⟩
  simp [results, Tryd.results26, go_sem, z9_5_0, z9_5_1]
def asn3Post (kd loc nl : Int) (nm : ByteArray) (w0 : World) (X : Nat → Obj → Prop) (e : Ending) (w' : World) : Prop :=
  ∃ b : Nat, ∃ d : Nat, ∃ kx : Nat, e = .returned (.agg #[.iface 227 (.pointer (some ⟨b, 0, none⟩)), .int .i32 loc]) ∧ Own w0 w' [row (b) 234 #[.iface 40 (.pointer (some ⟨d, 0, none⟩)), .int .i32 loc], row (d) 44 #[.iface 244 (.pointer (some ⟨kx, 0, none⟩)), .int .i32 loc, .string nm, .int .i32 nl, .int .u8 0, .bool false, .bool false, .bool false]] X
set_option maxRecDepth 100000 in
set_option maxHeartbeats 2000000 in
theorem asn3 (kd loc nl : Int) (nm : ByteArray) (w0 w : World) (X : Nat → Obj → Prop) (hO : Own w0 w [] X) (hk0 : (kd.tmod 6 == 0) = false) (hk1 : (kd.tmod 6 == 1) = false) (hk2 : (kd.tmod 6 == 2) = false) (hk3 : (kd.tmod 6 == 3) = true) :
    Calls Tryd.prog 26 #[.int .u8 kd, .int .i32 loc, .int .i32 nl, .string nm] w (asn3Post kd loc nl nm w0 X) := by
  go_enter Tryd.func26, Tryd.ntmps26
  go_wp2_with (first | (with_reducible refine Own.stay (fn := Tryd.f26) ?_) | (first | (go_at_call 30; go_in) | (go_at_call 32; go_in) | (go_at_call 12; go_in) | (go_at_call 10; go_in) | (go_at_call 44; go_in) | (go_at_call 45; go_in)))
  try with_reducible refine Own.Stay.mk ?_
  generalize hW : World.alloc _ _ = W2
  have hN : Own w0 W2 [row (w.heap.size + 1 + 1 + 1 + 1 + 1 + 1 + 1 + 1) 234 #[.iface 40 (.pointer (some ⟨w.heap.size + 1 + 1 + 1 + 1 + 1, 0, none⟩)), .int .i32 loc], row (w.heap.size + 1 + 1 + 1 + 1 + 1 + 1 + 1) 30 #[.iface 227 (.pointer (some ⟨w.heap.size + 1 + 1 + 1 + 1 + 1 + 1 + 1 + 1, 0, none⟩)), .int .i32 loc], row (w.heap.size + 1 + 1 + 1 + 1 + 1 + 1) 30 #[.iface 40 (.pointer (some ⟨w.heap.size + 1 + 1 + 1 + 1 + 1, 0, none⟩)), .int .i32 loc], row (w.heap.size + 1 + 1 + 1 + 1 + 1) 44 #[.iface 244 (.pointer (some ⟨w.heap.size + 1 + 1, 0, none⟩)), .int .i32 loc, .string nm, .int .i32 nl, .int .u8 0, .bool false, .bool false, .bool false], row (w.heap.size + 1 + 1 + 1 + 1) 30 #[.iface 40 (.pointer (some ⟨w.heap.size + 1 + 1 + 1 + 1 + 1, 0, none⟩)), .int .i32 loc], row (w.heap.size + 1 + 1 + 1) 30 #[.iface 244 (.pointer (some ⟨w.heap.size + 1 + 1, 0, none⟩)), .int .i32 loc], row (w.heap.size + 1 + 1) 246 #[], row (w.heap.size + 1) 30 #[.iface 244 (.pointer (some ⟨w.heap.size + 1 + 1, 0, none⟩)), .int .i32 loc], row (w.heap.size) 30 #[.iface 227 (.pointer (some ⟨w.heap.size + 1 + 1 + 1 + 1 + 1 + 1 + 1 + 1, 0, none⟩)), .int .i32 loc]] X := by
    rw [← hW]
    exact (((((((((hO).alloc' _ (w.heap.size) (by simp)).alloc' _ (w.heap.size + 1) (by simp)).alloc' _ (w.heap.size + 1 + 1) (by simp)).alloc' _ (w.heap.size + 1 + 1 + 1) (by simp)).alloc' _ (w.heap.size + 1 + 1 + 1 + 1) (by simp)).alloc' _ (w.heap.size + 1 + 1 + 1 + 1 + 1) (by simp)).alloc' _ (w.heap.size + 1 + 1 + 1 + 1 + 1 + 1) (by simp)).alloc' _ (w.heap.size + 1 + 1 + 1 + 1 + 1 + 1 + 1) (by simp)).alloc' _ (w.heap.size + 1 + 1 + 1 + 1 + 1 + 1 + 1 + 1) (by simp)
  clear hW hO
  generalize w.heap.size + 1 + 1 + 1 + 1 + 1 + 1 + 1 + 1 = B1_8 at hN ⊢
  generalize w.heap.size + 1 + 1 + 1 + 1 + 1 + 1 + 1 = B1_7 at hN ⊢
  generalize w.heap.size + 1 + 1 + 1 + 1 + 1 + 1 = B1_6 at hN ⊢
  generalize w.heap.size + 1 + 1 + 1 + 1 + 1 = B1_5 at hN ⊢
  generalize w.heap.size + 1 + 1 + 1 + 1 = B1_4 at hN ⊢
  generalize w.heap.size + 1 + 1 + 1 = B1_3 at hN ⊢
  generalize w.heap.size + 1 + 1 = B1_2 at hN ⊢
  generalize w.heap.size + 1 = B1_1 at hN ⊢
  generalize w.heap.size = B1 at hN ⊢
  have hO := hN
  clear hN
  have z9_8_0 : W2.cell? ⟨B1, 0, none⟩ = some (.iface 227 (.pointer (some ⟨B1_8, 0, none⟩))) := hO.cell 8 rfl 0 rfl
  have z9_8_1 : W2.cell? ⟨B1, 1, none⟩ = some (.int .i32 loc) := hO.cell 8 rfl 1 rfl
  refine bodyPost_ret (v := .agg #[.iface 227 (.pointer (some ⟨B1_8, 0, none⟩)), .int .i32 loc]) ?_ rfl ⟨B1_8, B1_5, B1_2, rfl, hO.sub [0, 3] (by decide)⟩
  simp [results, Tryd.results26, go_sem, z9_8_0, z9_8_1]
def asn4Post (kd loc nl : Int) (nm : ByteArray) (w0 : World) (X : Nat → Obj → Prop) (e : Ending) (w' : World) : Prop :=
  ∃ ib : Nat, e = .returned (.agg #[.iface 220 (.pointer (some ⟨ib, 0, none⟩)), .int .i32 loc]) ∧ Own w0 w' [] X
set_option maxRecDepth 100000 in
set_option maxHeartbeats 2000000 in
theorem asn4 (kd loc nl : Int) (nm : ByteArray) (w0 w : World) (X : Nat → Obj → Prop) (hO : Own w0 w [] X) (hk0 : (kd.tmod 6 == 0) = false) (hk1 : (kd.tmod 6 == 1) = false) (hk2 : (kd.tmod 6 == 2) = false) (hk3 : (kd.tmod 6 == 3) = false) (hk4 : (kd.tmod 6 == 4) = true) :
    Calls Tryd.prog 26 #[.int .u8 kd, .int .i32 loc, .int .i32 nl, .string nm] w (asn4Post kd loc nl nm w0 X) := by
  go_enter Tryd.func26, Tryd.ntmps26
  go_wp2_with (first | (with_reducible refine Own.stay (fn := Tryd.f26) ?_) | (first | (go_at_call 30; go_in) | (go_at_call 32; go_in) | (go_at_call 12; go_in) | (go_at_call 10; go_in) | (go_at_call 44; go_in) | (go_at_call 45; go_in)))
  try with_reducible refine Own.Stay.mk ?_
  generalize hW : World.alloc _ _ = W2
  have hN : Own w0 W2 [row (w.heap.size + 1 + 1) 223 #[.int .u32 0, .int .u32 5, .bool false, .bool false, .bool false], row (w.heap.size + 1) 30 #[.iface 220 (.pointer (some ⟨w.heap.size + 1 + 1, 0, none⟩)), .int .i32 loc], row (w.heap.size) 30 #[.iface 220 (.pointer (some ⟨w.heap.size + 1 + 1, 0, none⟩)), .int .i32 loc]] X := by
    rw [← hW]
    exact (((hO).alloc' _ (w.heap.size) (by simp)).alloc' _ (w.heap.size + 1) (by simp)).alloc' _ (w.heap.size + 1 + 1) (by simp)
  clear hW hO
  generalize w.heap.size + 1 + 1 = B1_2 at hN ⊢
  generalize w.heap.size + 1 = B1_1 at hN ⊢
  generalize w.heap.size = B1 at hN ⊢
  have hO := hN
  clear hN
  have z9_2_0 : W2.cell? ⟨B1, 0, none⟩ = some (.iface 220 (.pointer (some ⟨B1_2, 0, none⟩))) := hO.cell 2 rfl 0 rfl
  have z9_2_1 : W2.cell? ⟨B1, 1, none⟩ = some (.int .i32 loc) := hO.cell 2 rfl 1 rfl
  refine bodyPost_ret (v := .agg #[.iface 220 (.pointer (some ⟨B1_2, 0, none⟩)), .int .i32 loc]) ?_ rfl ⟨B1_2, rfl, hO.sub [] (by decide)⟩
  simp [results, Tryd.results26, go_sem, z9_2_0, z9_2_1]
def asn5Post (kd loc nl : Int) (nm : ByteArray) (w0 : World) (X : Nat → Obj → Prop) (e : Ending) (w' : World) : Prop :=
  ∃ b : Nat, ∃ pp : Nat, ∃ d : Nat, ∃ kx : Nat, e = .returned (.agg #[.iface 229 (.pointer (some ⟨b, 0, none⟩)), .int .i32 loc]) ∧ Own w0 w' [row (b) 237 #[.slice (some ⟨pp, 0, none⟩) 1 1, .int .i32 0, .int .i32 0, .bool false, .bool false], row (pp) 243 #[.pointer none, .nilIface, .int .i32 0, .iface 40 (.pointer (some ⟨d, 0, none⟩)), .int .i32 loc, .nilIface, .int .i32 0, .slice none 0 0, .int .i32 0, .int .i32 0, .int .u8 0, .int .u8 0], row (d) 44 #[.iface 244 (.pointer (some ⟨kx, 0, none⟩)), .int .i32 loc, .string nm, .int .i32 nl, .int .u8 0, .bool false, .bool false, .bool false]] X
set_option maxRecDepth 100000 in
set_option maxHeartbeats 2000000 in
theorem asn5 (kd loc nl : Int) (nm : ByteArray) (w0 w : World) (X : Nat → Obj → Prop) (hO : Own w0 w [] X) (hk0 : (kd.tmod 6 == 0) = false) (hk1 : (kd.tmod 6 == 1) = false) (hk2 : (kd.tmod 6 == 2) = false) (hk3 : (kd.tmod 6 == 3) = false) (hk4 : (kd.tmod 6 == 4) = false) :
    Calls Tryd.prog 26 #[.int .u8 kd, .int .i32 loc, .int .i32 nl, .string nm] w (asn5Post kd loc nl nm w0 X) := by
  go_enter Tryd.func26, Tryd.ntmps26
  go_wp2_with (first | (with_reducible refine Own.stay (fn := Tryd.f26) ?_) | (first | (go_at_call 30; go_in) | (go_at_call 32; go_in) | (go_at_call 12; go_in) | (go_at_call 10; go_in) | (go_at_call 44; go_in) | (go_at_call 45; go_in)))
  try with_reducible refine Own.Stay.mk ?_
  generalize hW : World.alloc _ _ = W2
  have hN : Own w0 W2 [row (w.heap.size + 1 + 1 + 1 + 1 + 1 + 1 + 1 + 1 + 1) 237 #[.slice (some ⟨w.heap.size + 1 + 1 + 1 + 1 + 1 + 1 + 1 + 1, 0, none⟩) 1 1, .int .i32 0, .int .i32 0, .bool false, .bool false], row (w.heap.size + 1 + 1 + 1 + 1 + 1 + 1 + 1 + 1) 243 #[.pointer none, .nilIface, .int .i32 0, .iface 40 (.pointer (some ⟨w.heap.size + 1 + 1 + 1 + 1 + 1, 0, none⟩)), .int .i32 loc, .nilIface, .int .i32 0, .slice none 0 0, .int .i32 0, .int .i32 0, .int .u8 0, .int .u8 0], row (w.heap.size + 1 + 1 + 1 + 1 + 1 + 1 + 1) 30 #[.iface 229 (.pointer (some ⟨w.heap.size + 1 + 1 + 1 + 1 + 1 + 1 + 1 + 1 + 1, 0, none⟩)), .int .i32 loc], row (w.heap.size + 1 + 1 + 1 + 1 + 1 + 1) 30 #[.iface 40 (.pointer (some ⟨w.heap.size + 1 + 1 + 1 + 1 + 1, 0, none⟩)), .int .i32 loc], row (w.heap.size + 1 + 1 + 1 + 1 + 1) 44 #[.iface 244 (.pointer (some ⟨w.heap.size + 1 + 1, 0, none⟩)), .int .i32 loc, .string nm, .int .i32 nl, .int .u8 0, .bool false, .bool false, .bool false], row (w.heap.size + 1 + 1 + 1 + 1) 30 #[.iface 40 (.pointer (some ⟨w.heap.size + 1 + 1 + 1 + 1 + 1, 0, none⟩)), .int .i32 loc], row (w.heap.size + 1 + 1 + 1) 30 #[.iface 244 (.pointer (some ⟨w.heap.size + 1 + 1, 0, none⟩)), .int .i32 loc], row (w.heap.size + 1 + 1) 246 #[], row (w.heap.size + 1) 30 #[.iface 244 (.pointer (some ⟨w.heap.size + 1 + 1, 0, none⟩)), .int .i32 loc], row (w.heap.size) 30 #[.iface 229 (.pointer (some ⟨w.heap.size + 1 + 1 + 1 + 1 + 1 + 1 + 1 + 1 + 1, 0, none⟩)), .int .i32 loc]] X := by
    rw [← hW]
    exact ((((((((((hO).alloc' _ (w.heap.size) (by simp)).alloc' _ (w.heap.size + 1) (by simp)).alloc' _ (w.heap.size + 1 + 1) (by simp)).alloc' _ (w.heap.size + 1 + 1 + 1) (by simp)).alloc' _ (w.heap.size + 1 + 1 + 1 + 1) (by simp)).alloc' _ (w.heap.size + 1 + 1 + 1 + 1 + 1) (by simp)).alloc' _ (w.heap.size + 1 + 1 + 1 + 1 + 1 + 1) (by simp)).alloc' _ (w.heap.size + 1 + 1 + 1 + 1 + 1 + 1 + 1) (by simp)).alloc' _ (w.heap.size + 1 + 1 + 1 + 1 + 1 + 1 + 1 + 1) (by simp)).alloc' _ (w.heap.size + 1 + 1 + 1 + 1 + 1 + 1 + 1 + 1 + 1) (by simp)
  clear hW hO
  generalize w.heap.size + 1 + 1 + 1 + 1 + 1 + 1 + 1 + 1 + 1 = B1_9 at hN ⊢
  generalize w.heap.size + 1 + 1 + 1 + 1 + 1 + 1 + 1 + 1 = B1_8 at hN ⊢
  generalize w.heap.size + 1 + 1 + 1 + 1 + 1 + 1 + 1 = B1_7 at hN ⊢
  generalize w.heap.size + 1 + 1 + 1 + 1 + 1 + 1 = B1_6 at hN ⊢
  generalize w.heap.size + 1 + 1 + 1 + 1 + 1 = B1_5 at hN ⊢
  generalize w.heap.size + 1 + 1 + 1 + 1 = B1_4 at hN ⊢
  generalize w.heap.size + 1 + 1 + 1 = B1_3 at hN ⊢
  generalize w.heap.size + 1 + 1 = B1_2 at hN ⊢
  generalize w.heap.size + 1 = B1_1 at hN ⊢
  generalize w.heap.size = B1 at hN ⊢
  have hO := hN
  clear hN
  have z9_9_0 : W2.cell? ⟨B1, 0, none⟩ = some (.iface 229 (.pointer (some ⟨B1_9, 0, none⟩))) := hO.cell 9 rfl 0 rfl
  have z9_9_1 : W2.cell? ⟨B1, 1, none⟩ = some (.int .i32 loc) := hO.cell 9 rfl 1 rfl
  refine bodyPost_ret (v := .agg #[.iface 229 (.pointer (some ⟨B1_9, 0, none⟩)), .int .i32 loc]) ?_ rfl ⟨B1_9, B1_8, B1_5, B1_2, rfl, hO.sub [0, 1, 4] (by decide)⟩
  simp [results, Tryd.results26, go_sem, z9_9_0, z9_9_1]
end Go.Proofs.YtcbdjbjbikiaeaaDoor.Use
