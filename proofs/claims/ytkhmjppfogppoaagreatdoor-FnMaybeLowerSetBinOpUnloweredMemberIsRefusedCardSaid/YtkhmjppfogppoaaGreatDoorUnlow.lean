/- The law on members that are not lowered, walked: cases. No condition. -/
import Derived.Test.YtkhmjppfogppoaaGreatDoorOwnK
import Derived.Test.YtkhmjppfogppoaaGreatDoorOwn
import Derived.Test.YtkhmjppfogppoaaGreatDoorDeepCells
import Derived.Test.YtkhmjppfogppoaaGreatDoorRows
import Derived.Test.YtkhmjppfogppoaaGreatDoorNew
import Derived.Test.YtkhmjppfogppoaaGreatDoorRef
import Derived.Test.YtkhmjppfogppoaaGreatDoorDoors
namespace Go.Proofs.YtkhmjppfogppoaaGreatDoor.Use
open Go.ChangeShapes Go.WideShapes Go.ChangeAt Go.RowKit Go.Sort Own
set_option linter.unusedVariables false
def law18k00Post (x : Int) (g : Bool) (op : Int) (nm : ByteArray) (v : Nat) (w0 : World) (X : Nat → Obj → Prop) (e : Ending) (w' : World) : Prop :=
  e = .returned (.bool true) ∧ Own w0 w' [] X
set_option maxRecDepth 100000 in
set_option maxHeartbeats 1000000 in
theorem law18k00 (x : Int) (g : Bool) (op : Int) (nm : ByteArray) (v : Nat) (w0 w : World) (X : Nat → Obj → Prop) (hO : Own w0 w [] X) (hlen : nm.size ≤ 1048576) :
    Calls Tryz.prog 4 #[.int .i64 0, .int .u64 x, .bool false, .bool g, .int .u8 op, .string nm, .float .f64 v] w (law18k00Post x g op nm v w0 X) := by
  go_enter Tryz.func4, Tryz.ntmps4
  have hl9 : (nm.size : Int) ≤ 1048576 := by omega
  go_wp2_with (first | (go_at_call 7; go_in) | (go_at_call 8; go_in) | (go_at_call 9; go_in) | (go_at_call 10; go_in) | (go_at_call 11; go_in) | (go_at_call 12; go_in) | (go_at_call 16; go_in) | (go_at_call 17; go_in) | (go_at_call 15; go_in))
  have hL := hO.apart
  have hX := hO.apartX
  have HL := Lib.hid hL
  have HX := Lib.hid hX
  clear hL hX
  have hP9 := hO.pick [] (by decide)
  have T9 := new42 x g false _ _ _ hP9 
  refine Calls.mono T9 ?_
  clear hP9 T9
  rintro e u1 ⟨nd2, nd3, rfl, pr4, pr5, hQ⟩
  have hN : Own w0 u1 [row (nd2) 188 nd3] X := hQ.back HL.out HX.out [] (by decide) (by decide)
  clear hQ HL HX hO
  have hO := hN
  clear hN
  go_wp2_with (first | (go_at_call 7; go_in) | (go_at_call 8; go_in) | (go_at_call 9; go_in) | (go_at_call 10; go_in) | (go_at_call 11; go_in) | (go_at_call 12; go_in) | (go_at_call 16; go_in) | (go_at_call 17; go_in) | (go_at_call 15; go_in))
  generalize hW : World.alloc _ _ = W7
  have hN : Own w0 W7 [row (u1.heap.size + 1 + 1 + 1 + 1 + 1 + 1 + 1 + 1) 32 #[.iface 192 (.pointer (some ⟨u1.heap.size + 1 + 1 + 1 + 1 + 1 + 1 + 1, 0, none⟩)), .int .i32 4], row (u1.heap.size + 1 + 1 + 1 + 1 + 1 + 1 + 1) 194 #[.float .f64 v], row (u1.heap.size + 1 + 1 + 1 + 1 + 1 + 1) 32 #[.iface 192 (.pointer (some ⟨u1.heap.size + 1 + 1 + 1 + 1 + 1 + 1 + 1, 0, none⟩)), .int .i32 4], row (u1.heap.size + 1 + 1 + 1 + 1 + 1) 210 #[.iface 189 (.pointer (some ⟨u1.heap.size + 1 + 1, 0, none⟩)), .int .i32 2, .string nm, .int .i32 3, .int .u8 0, .bool false, .bool false, .bool false], row (u1.heap.size + 1 + 1 + 1 + 1) 32 #[.iface 207 (.pointer (some ⟨u1.heap.size + 1 + 1 + 1 + 1 + 1, 0, none⟩)), .int .i32 1], row (u1.heap.size + 1 + 1 + 1) 32 #[.iface 189 (.pointer (some ⟨u1.heap.size + 1 + 1, 0, none⟩)), .int .i32 2], row (u1.heap.size + 1 + 1) 191 #[.int .u32 0, .int .u32 0, .bool false, .bool false, .bool false], row (u1.heap.size + 1) 32 #[.iface 189 (.pointer (some ⟨u1.heap.size + 1 + 1, 0, none⟩)), .int .i32 2], row (u1.heap.size) 32 #[.iface 207 (.pointer (some ⟨u1.heap.size + 1 + 1 + 1 + 1 + 1, 0, none⟩)), .int .i32 1], row (nd2) 188 nd3] X := by
    rw [← hW]
    exact (((((((((hO).alloc' _ (u1.heap.size) (by simp)).alloc' _ (u1.heap.size + 1) (by simp)).alloc' _ (u1.heap.size + 1 + 1) (by simp)).alloc' _ (u1.heap.size + 1 + 1 + 1) (by simp)).alloc' _ (u1.heap.size + 1 + 1 + 1 + 1) (by simp)).alloc' _ (u1.heap.size + 1 + 1 + 1 + 1 + 1) (by simp)).alloc' _ (u1.heap.size + 1 + 1 + 1 + 1 + 1 + 1) (by simp)).alloc' _ (u1.heap.size + 1 + 1 + 1 + 1 + 1 + 1 + 1) (by simp)).alloc' _ (u1.heap.size + 1 + 1 + 1 + 1 + 1 + 1 + 1 + 1) (by simp)
  clear hW hO
  generalize u1.heap.size + 1 + 1 + 1 + 1 + 1 + 1 + 1 + 1 = B6_8 at hN ⊢
  generalize u1.heap.size + 1 + 1 + 1 + 1 + 1 + 1 + 1 = B6_7 at hN ⊢
  generalize u1.heap.size + 1 + 1 + 1 + 1 + 1 + 1 = B6_6 at hN ⊢
  generalize u1.heap.size + 1 + 1 + 1 + 1 + 1 = B6_5 at hN ⊢
  generalize u1.heap.size + 1 + 1 + 1 + 1 = B6_4 at hN ⊢
  generalize u1.heap.size + 1 + 1 + 1 = B6_3 at hN ⊢
  generalize u1.heap.size + 1 + 1 = B6_2 at hN ⊢
  generalize u1.heap.size + 1 = B6_1 at hN ⊢
  generalize u1.heap.size = B6 at hN ⊢
  have hO := hN
  clear hN
  have hL := hO.apart
  have hX := hO.apartX
  have HL := Lib.hid hL
  have HX := Lib.hid hX
  clear hL hX
  have hP9 := hO.pick [9, 3] (by decide)
  have T9 := drefDot0 nd2 nd3 op B6_7 4 1 B6_5 2 3 nm 189 B6_2 _ _ _ hP9 pr4
  refine Calls.mono T9 ?_
  clear hP9 T9
  rintro e u8 ⟨rfl, hQ⟩
  have hN : Own w0 u8 [row (nd2) 188 nd3, row (B6_5) 210 #[.iface 189 (.pointer (some ⟨B6_2, 0, none⟩)), .int .i32 2, .string nm, .int .i32 3, .int .u8 0, .bool false, .bool false, .bool false], row (B6_8) 32 #[.iface 192 (.pointer (some ⟨B6_7, 0, none⟩)), .int .i32 4], row (B6_7) 194 #[.float .f64 v], row (B6_6) 32 #[.iface 192 (.pointer (some ⟨B6_7, 0, none⟩)), .int .i32 4], row (B6_4) 32 #[.iface 207 (.pointer (some ⟨B6_5, 0, none⟩)), .int .i32 1], row (B6_3) 32 #[.iface 189 (.pointer (some ⟨B6_2, 0, none⟩)), .int .i32 2], row (B6_2) 191 #[.int .u32 0, .int .u32 0, .bool false, .bool false, .bool false], row (B6_1) 32 #[.iface 189 (.pointer (some ⟨B6_2, 0, none⟩)), .int .i32 2], row (B6) 32 #[.iface 207 (.pointer (some ⟨B6_5, 0, none⟩)), .int .i32 1]] X := hQ.back HL.out HX.out [0, 1, 2, 4, 5, 6, 7, 8] (by decide) (by decide)
  clear hQ HL HX hO
  have hO := hN
  clear hN
  obtain ⟨c9_1_0, c9_1_1, c9_1_2, c9_1_3, c9_1_4, c9_1_5, c9_1_6, c9_1_7, lt9_1, y9_1, -⟩ := hO.k8 1 rfl
  obtain ⟨c9_2_0, c9_2_1, lt9_2, y9_2, -⟩ := hO.k2 2 rfl
  obtain ⟨c9_3_0, lt9_3, y9_3, -⟩ := hO.k1 3 rfl
  obtain ⟨c9_4_0, c9_4_1, lt9_4, y9_4, -⟩ := hO.k2 4 rfl
  obtain ⟨c9_5_0, c9_5_1, lt9_5, y9_5, -⟩ := hO.k2 5 rfl
  obtain ⟨c9_6_0, c9_6_1, lt9_6, y9_6, -⟩ := hO.k2 6 rfl
  obtain ⟨c9_7_0, c9_7_1, c9_7_2, c9_7_3, c9_7_4, lt9_7, y9_7, -⟩ := hO.k5 7 rfl
  obtain ⟨c9_8_0, c9_8_1, lt9_8, y9_8, -⟩ := hO.k2 8 rfl
  obtain ⟨c9_9_0, c9_9_1, lt9_9, y9_9, -⟩ := hO.k2 9 rfl
  have HO := Lib.hid hO
  clear hO
  go_wp2_with (first | (go_at_call 7; go_in) | (go_at_call 8; go_in) | (go_at_call 9; go_in) | (go_at_call 10; go_in) | (go_at_call 11; go_in) | (go_at_call 12; go_in) | (go_at_call 16; go_in) | (go_at_call 17; go_in) | (go_at_call 15; go_in))
  have hO := HO.out
  clear HO c9_1_0 c9_1_1 c9_1_2 c9_1_3 c9_1_4 c9_1_5 c9_1_6 c9_1_7 lt9_1 y9_1 c9_2_0 c9_2_1 lt9_2 y9_2 c9_3_0 lt9_3 y9_3 c9_4_0 c9_4_1 lt9_4 y9_4 c9_5_0 c9_5_1 lt9_5 y9_5 c9_6_0 c9_6_1 lt9_6 y9_6 c9_7_0 c9_7_1 c9_7_2 c9_7_3 c9_7_4 lt9_7 y9_7 c9_8_0 c9_8_1 lt9_8 y9_8 c9_9_0 c9_9_1 lt9_9 y9_9
  generalize hW : World.alloc _ _ = W10
  have hN : Own w0 W10 [row (u8.heap.size) 32 #[.nilIface, .int .i32 0], row (nd2) 188 nd3, row (B6_5) 210 #[.iface 189 (.pointer (some ⟨B6_2, 0, none⟩)), .int .i32 2, .string nm, .int .i32 3, .int .u8 0, .bool false, .bool false, .bool false], row (B6_8) 32 #[.iface 192 (.pointer (some ⟨B6_7, 0, none⟩)), .int .i32 4], row (B6_7) 194 #[.float .f64 v], row (B6_6) 32 #[.iface 192 (.pointer (some ⟨B6_7, 0, none⟩)), .int .i32 4], row (B6_4) 32 #[.iface 207 (.pointer (some ⟨B6_5, 0, none⟩)), .int .i32 1], row (B6_3) 32 #[.iface 189 (.pointer (some ⟨B6_2, 0, none⟩)), .int .i32 2], row (B6_2) 191 #[.int .u32 0, .int .u32 0, .bool false, .bool false, .bool false], row (B6_1) 32 #[.iface 189 (.pointer (some ⟨B6_2, 0, none⟩)), .int .i32 2], row (B6) 32 #[.iface 207 (.pointer (some ⟨B6_5, 0, none⟩)), .int .i32 1]] X := by
    rw [← hW]
    exact (hO).alloc' _ (u8.heap.size) (by simp)
  clear hW hO
  generalize u8.heap.size = B9 at hN ⊢
  have hO := hN
  clear hN
  have hL := hO.apart
  have hX := hO.apartX
  have HL := Lib.hid hL
  have HX := Lib.hid hX
  clear hL hX
  have hP9 := hO.pick [1] (by decide)
  have T9 := sc42 nd2 nd3 _ _ _ hP9 pr5
  refine Calls.mono T9 ?_
  clear hP9 T9
  rintro e u11 ⟨rfl, hQ⟩
  have hN : Own w0 u11 [row (nd2) 188 nd3, row (B9) 32 #[.nilIface, .int .i32 0], row (B6_5) 210 #[.iface 189 (.pointer (some ⟨B6_2, 0, none⟩)), .int .i32 2, .string nm, .int .i32 3, .int .u8 0, .bool false, .bool false, .bool false], row (B6_8) 32 #[.iface 192 (.pointer (some ⟨B6_7, 0, none⟩)), .int .i32 4], row (B6_7) 194 #[.float .f64 v], row (B6_6) 32 #[.iface 192 (.pointer (some ⟨B6_7, 0, none⟩)), .int .i32 4], row (B6_4) 32 #[.iface 207 (.pointer (some ⟨B6_5, 0, none⟩)), .int .i32 1], row (B6_3) 32 #[.iface 189 (.pointer (some ⟨B6_2, 0, none⟩)), .int .i32 2], row (B6_2) 191 #[.int .u32 0, .int .u32 0, .bool false, .bool false, .bool false], row (B6_1) 32 #[.iface 189 (.pointer (some ⟨B6_2, 0, none⟩)), .int .i32 2], row (B6) 32 #[.iface 207 (.pointer (some ⟨B6_5, 0, none⟩)), .int .i32 1]] X := hQ.back HL.out HX.out [0, 2, 3, 4, 5, 6, 7, 8, 9, 10] (by decide) (by decide)
  clear hQ HL HX hO
  have hO := hN
  clear hN
  obtain ⟨c9_1_0, c9_1_1, lt9_1, y9_1, -⟩ := hO.k2 1 rfl
  obtain ⟨c9_2_0, c9_2_1, c9_2_2, c9_2_3, c9_2_4, c9_2_5, c9_2_6, c9_2_7, lt9_2, y9_2, -⟩ := hO.k8 2 rfl
  obtain ⟨c9_3_0, c9_3_1, lt9_3, y9_3, -⟩ := hO.k2 3 rfl
  obtain ⟨c9_4_0, lt9_4, y9_4, -⟩ := hO.k1 4 rfl
  obtain ⟨c9_5_0, c9_5_1, lt9_5, y9_5, -⟩ := hO.k2 5 rfl
  obtain ⟨c9_6_0, c9_6_1, lt9_6, y9_6, -⟩ := hO.k2 6 rfl
  obtain ⟨c9_7_0, c9_7_1, lt9_7, y9_7, -⟩ := hO.k2 7 rfl
  obtain ⟨c9_8_0, c9_8_1, c9_8_2, c9_8_3, c9_8_4, lt9_8, y9_8, -⟩ := hO.k5 8 rfl
  obtain ⟨c9_9_0, c9_9_1, lt9_9, y9_9, -⟩ := hO.k2 9 rfl
  obtain ⟨c9_10_0, c9_10_1, lt9_10, y9_10, -⟩ := hO.k2 10 rfl
  have HO := Lib.hid hO
  clear hO
  go_wp2_with (first | (go_at_call 7; go_in) | (go_at_call 8; go_in) | (go_at_call 9; go_in) | (go_at_call 10; go_in) | (go_at_call 11; go_in) | (go_at_call 12; go_in) | (go_at_call 16; go_in) | (go_at_call 17; go_in) | (go_at_call 15; go_in))
  have hO := HO.out
  clear HO c9_1_0 c9_1_1 lt9_1 y9_1 c9_2_0 c9_2_1 c9_2_2 c9_2_3 c9_2_4 c9_2_5 c9_2_6 c9_2_7 lt9_2 y9_2 c9_3_0 c9_3_1 lt9_3 y9_3 c9_4_0 lt9_4 y9_4 c9_5_0 c9_5_1 lt9_5 y9_5 c9_6_0 c9_6_1 lt9_6 y9_6 c9_7_0 c9_7_1 lt9_7 y9_7 c9_8_0 c9_8_1 c9_8_2 c9_8_3 c9_8_4 lt9_8 y9_8 c9_9_0 c9_9_1 lt9_9 y9_9 c9_10_0 c9_10_1 lt9_10 y9_10
  refine bodyPost_ret (v := .bool true) ?_ rfl ⟨rfl, hO.sub [] (by decide)⟩
  simp [results, Tryz.results4, go_sem]
def law18k01Post (x : Int) (g : Bool) (op : Int) (nm : ByteArray) (v : Nat) (w0 : World) (X : Nat → Obj → Prop) (e : Ending) (w' : World) : Prop :=
  e = .returned (.bool true) ∧ Own w0 w' [] X
set_option maxRecDepth 100000 in
set_option maxHeartbeats 1000000 in
theorem law18k01 (x : Int) (g : Bool) (op : Int) (nm : ByteArray) (v : Nat) (w0 w : World) (X : Nat → Obj → Prop) (hO : Own w0 w [] X) (hlen : nm.size ≤ 1048576) :
    Calls Tryz.prog 4 #[.int .i64 0, .int .u64 x, .bool true, .bool g, .int .u8 op, .string nm, .float .f64 v] w (law18k01Post x g op nm v w0 X) := by
  go_enter Tryz.func4, Tryz.ntmps4
  have hl9 : (nm.size : Int) ≤ 1048576 := by omega
  go_wp2_with (first | (go_at_call 7; go_in) | (go_at_call 8; go_in) | (go_at_call 9; go_in) | (go_at_call 10; go_in) | (go_at_call 11; go_in) | (go_at_call 12; go_in) | (go_at_call 16; go_in) | (go_at_call 17; go_in) | (go_at_call 15; go_in))
  have hL := hO.apart
  have hX := hO.apartX
  have HL := Lib.hid hL
  have HX := Lib.hid hX
  clear hL hX
  have hP9 := hO.pick [] (by decide)
  have T9 := new42 x g true _ _ _ hP9 
  refine Calls.mono T9 ?_
  clear hP9 T9
  rintro e u1 ⟨nd2, nd3, rfl, pr4, pr5, hQ⟩
  have hN : Own w0 u1 [row (nd2) 188 nd3] X := hQ.back HL.out HX.out [] (by decide) (by decide)
  clear hQ HL HX hO
  have hO := hN
  clear hN
  go_wp2_with (first | (go_at_call 7; go_in) | (go_at_call 8; go_in) | (go_at_call 9; go_in) | (go_at_call 10; go_in) | (go_at_call 11; go_in) | (go_at_call 12; go_in) | (go_at_call 16; go_in) | (go_at_call 17; go_in) | (go_at_call 15; go_in))
  generalize hW : World.alloc _ _ = W7
  have hN : Own w0 W7 [row (u1.heap.size + 1 + 1 + 1 + 1 + 1 + 1 + 1 + 1) 32 #[.iface 192 (.pointer (some ⟨u1.heap.size + 1 + 1 + 1 + 1 + 1 + 1 + 1, 0, none⟩)), .int .i32 4], row (u1.heap.size + 1 + 1 + 1 + 1 + 1 + 1 + 1) 194 #[.float .f64 v], row (u1.heap.size + 1 + 1 + 1 + 1 + 1 + 1) 32 #[.iface 192 (.pointer (some ⟨u1.heap.size + 1 + 1 + 1 + 1 + 1 + 1 + 1, 0, none⟩)), .int .i32 4], row (u1.heap.size + 1 + 1 + 1 + 1 + 1) 210 #[.iface 189 (.pointer (some ⟨u1.heap.size + 1 + 1, 0, none⟩)), .int .i32 2, .string nm, .int .i32 3, .int .u8 0, .bool false, .bool false, .bool false], row (u1.heap.size + 1 + 1 + 1 + 1) 32 #[.iface 207 (.pointer (some ⟨u1.heap.size + 1 + 1 + 1 + 1 + 1, 0, none⟩)), .int .i32 1], row (u1.heap.size + 1 + 1 + 1) 32 #[.iface 189 (.pointer (some ⟨u1.heap.size + 1 + 1, 0, none⟩)), .int .i32 2], row (u1.heap.size + 1 + 1) 191 #[.int .u32 0, .int .u32 0, .bool false, .bool false, .bool false], row (u1.heap.size + 1) 32 #[.iface 189 (.pointer (some ⟨u1.heap.size + 1 + 1, 0, none⟩)), .int .i32 2], row (u1.heap.size) 32 #[.iface 207 (.pointer (some ⟨u1.heap.size + 1 + 1 + 1 + 1 + 1, 0, none⟩)), .int .i32 1], row (nd2) 188 nd3] X := by
    rw [← hW]
    exact (((((((((hO).alloc' _ (u1.heap.size) (by simp)).alloc' _ (u1.heap.size + 1) (by simp)).alloc' _ (u1.heap.size + 1 + 1) (by simp)).alloc' _ (u1.heap.size + 1 + 1 + 1) (by simp)).alloc' _ (u1.heap.size + 1 + 1 + 1 + 1) (by simp)).alloc' _ (u1.heap.size + 1 + 1 + 1 + 1 + 1) (by simp)).alloc' _ (u1.heap.size + 1 + 1 + 1 + 1 + 1 + 1) (by simp)).alloc' _ (u1.heap.size + 1 + 1 + 1 + 1 + 1 + 1 + 1) (by simp)).alloc' _ (u1.heap.size + 1 + 1 + 1 + 1 + 1 + 1 + 1 + 1) (by simp)
  clear hW hO
  generalize u1.heap.size + 1 + 1 + 1 + 1 + 1 + 1 + 1 + 1 = B6_8 at hN ⊢
  generalize u1.heap.size + 1 + 1 + 1 + 1 + 1 + 1 + 1 = B6_7 at hN ⊢
  generalize u1.heap.size + 1 + 1 + 1 + 1 + 1 + 1 = B6_6 at hN ⊢
  generalize u1.heap.size + 1 + 1 + 1 + 1 + 1 = B6_5 at hN ⊢
  generalize u1.heap.size + 1 + 1 + 1 + 1 = B6_4 at hN ⊢
  generalize u1.heap.size + 1 + 1 + 1 = B6_3 at hN ⊢
  generalize u1.heap.size + 1 + 1 = B6_2 at hN ⊢
  generalize u1.heap.size + 1 = B6_1 at hN ⊢
  generalize u1.heap.size = B6 at hN ⊢
  have hO := hN
  clear hN
  have hL := hO.apart
  have hX := hO.apartX
  have HL := Lib.hid hL
  have HX := Lib.hid hX
  clear hL hX
  have hP9 := hO.pick [9, 3] (by decide)
  have h9_hT : 189 ≠ 204 := (by decide)
  have T9 := drefDot1 nd2 nd3 op B6_7 4 1 B6_5 2 3 nm 189 B6_2 _ _ _ hP9 pr4 h9_hT
  refine Calls.mono T9 ?_
  clear hP9 T9 h9_hT
  rintro e u8 ⟨rfl, hQ⟩
  have hN : Own w0 u8 [row (nd2) 188 nd3, row (B6_5) 210 #[.iface 189 (.pointer (some ⟨B6_2, 0, none⟩)), .int .i32 2, .string nm, .int .i32 3, .int .u8 0, .bool false, .bool false, .bool false], row (B6_8) 32 #[.iface 192 (.pointer (some ⟨B6_7, 0, none⟩)), .int .i32 4], row (B6_7) 194 #[.float .f64 v], row (B6_6) 32 #[.iface 192 (.pointer (some ⟨B6_7, 0, none⟩)), .int .i32 4], row (B6_4) 32 #[.iface 207 (.pointer (some ⟨B6_5, 0, none⟩)), .int .i32 1], row (B6_3) 32 #[.iface 189 (.pointer (some ⟨B6_2, 0, none⟩)), .int .i32 2], row (B6_2) 191 #[.int .u32 0, .int .u32 0, .bool false, .bool false, .bool false], row (B6_1) 32 #[.iface 189 (.pointer (some ⟨B6_2, 0, none⟩)), .int .i32 2], row (B6) 32 #[.iface 207 (.pointer (some ⟨B6_5, 0, none⟩)), .int .i32 1]] X := hQ.back HL.out HX.out [0, 1, 2, 4, 5, 6, 7, 8] (by decide) (by decide)
  clear hQ HL HX hO
  have hO := hN
  clear hN
  obtain ⟨c9_1_0, c9_1_1, c9_1_2, c9_1_3, c9_1_4, c9_1_5, c9_1_6, c9_1_7, lt9_1, y9_1, -⟩ := hO.k8 1 rfl
  obtain ⟨c9_2_0, c9_2_1, lt9_2, y9_2, -⟩ := hO.k2 2 rfl
  obtain ⟨c9_3_0, lt9_3, y9_3, -⟩ := hO.k1 3 rfl
  obtain ⟨c9_4_0, c9_4_1, lt9_4, y9_4, -⟩ := hO.k2 4 rfl
  obtain ⟨c9_5_0, c9_5_1, lt9_5, y9_5, -⟩ := hO.k2 5 rfl
  obtain ⟨c9_6_0, c9_6_1, lt9_6, y9_6, -⟩ := hO.k2 6 rfl
  obtain ⟨c9_7_0, c9_7_1, c9_7_2, c9_7_3, c9_7_4, lt9_7, y9_7, -⟩ := hO.k5 7 rfl
  obtain ⟨c9_8_0, c9_8_1, lt9_8, y9_8, -⟩ := hO.k2 8 rfl
  obtain ⟨c9_9_0, c9_9_1, lt9_9, y9_9, -⟩ := hO.k2 9 rfl
  have HO := Lib.hid hO
  clear hO
  go_wp2_with (first | (go_at_call 7; go_in) | (go_at_call 8; go_in) | (go_at_call 9; go_in) | (go_at_call 10; go_in) | (go_at_call 11; go_in) | (go_at_call 12; go_in) | (go_at_call 16; go_in) | (go_at_call 17; go_in) | (go_at_call 15; go_in))
  have hO := HO.out
  clear HO c9_1_0 c9_1_1 c9_1_2 c9_1_3 c9_1_4 c9_1_5 c9_1_6 c9_1_7 lt9_1 y9_1 c9_2_0 c9_2_1 lt9_2 y9_2 c9_3_0 lt9_3 y9_3 c9_4_0 c9_4_1 lt9_4 y9_4 c9_5_0 c9_5_1 lt9_5 y9_5 c9_6_0 c9_6_1 lt9_6 y9_6 c9_7_0 c9_7_1 c9_7_2 c9_7_3 c9_7_4 lt9_7 y9_7 c9_8_0 c9_8_1 lt9_8 y9_8 c9_9_0 c9_9_1 lt9_9 y9_9
  generalize hW : World.alloc _ _ = W10
  have hN : Own w0 W10 [row (u8.heap.size) 32 #[.nilIface, .int .i32 0], row (nd2) 188 nd3, row (B6_5) 210 #[.iface 189 (.pointer (some ⟨B6_2, 0, none⟩)), .int .i32 2, .string nm, .int .i32 3, .int .u8 0, .bool false, .bool false, .bool false], row (B6_8) 32 #[.iface 192 (.pointer (some ⟨B6_7, 0, none⟩)), .int .i32 4], row (B6_7) 194 #[.float .f64 v], row (B6_6) 32 #[.iface 192 (.pointer (some ⟨B6_7, 0, none⟩)), .int .i32 4], row (B6_4) 32 #[.iface 207 (.pointer (some ⟨B6_5, 0, none⟩)), .int .i32 1], row (B6_3) 32 #[.iface 189 (.pointer (some ⟨B6_2, 0, none⟩)), .int .i32 2], row (B6_2) 191 #[.int .u32 0, .int .u32 0, .bool false, .bool false, .bool false], row (B6_1) 32 #[.iface 189 (.pointer (some ⟨B6_2, 0, none⟩)), .int .i32 2], row (B6) 32 #[.iface 207 (.pointer (some ⟨B6_5, 0, none⟩)), .int .i32 1]] X := by
    rw [← hW]
    exact (hO).alloc' _ (u8.heap.size) (by simp)
  clear hW hO
  generalize u8.heap.size = B9 at hN ⊢
  have hO := hN
  clear hN
  have hL := hO.apart
  have hX := hO.apartX
  have HL := Lib.hid hL
  have HX := Lib.hid hX
  clear hL hX
  have hP9 := hO.pick [1] (by decide)
  have T9 := sc42 nd2 nd3 _ _ _ hP9 pr5
  refine Calls.mono T9 ?_
  clear hP9 T9
  rintro e u11 ⟨rfl, hQ⟩
  have hN : Own w0 u11 [row (nd2) 188 nd3, row (B9) 32 #[.nilIface, .int .i32 0], row (B6_5) 210 #[.iface 189 (.pointer (some ⟨B6_2, 0, none⟩)), .int .i32 2, .string nm, .int .i32 3, .int .u8 0, .bool false, .bool false, .bool false], row (B6_8) 32 #[.iface 192 (.pointer (some ⟨B6_7, 0, none⟩)), .int .i32 4], row (B6_7) 194 #[.float .f64 v], row (B6_6) 32 #[.iface 192 (.pointer (some ⟨B6_7, 0, none⟩)), .int .i32 4], row (B6_4) 32 #[.iface 207 (.pointer (some ⟨B6_5, 0, none⟩)), .int .i32 1], row (B6_3) 32 #[.iface 189 (.pointer (some ⟨B6_2, 0, none⟩)), .int .i32 2], row (B6_2) 191 #[.int .u32 0, .int .u32 0, .bool false, .bool false, .bool false], row (B6_1) 32 #[.iface 189 (.pointer (some ⟨B6_2, 0, none⟩)), .int .i32 2], row (B6) 32 #[.iface 207 (.pointer (some ⟨B6_5, 0, none⟩)), .int .i32 1]] X := hQ.back HL.out HX.out [0, 2, 3, 4, 5, 6, 7, 8, 9, 10] (by decide) (by decide)
  clear hQ HL HX hO
  have hO := hN
  clear hN
  obtain ⟨c9_1_0, c9_1_1, lt9_1, y9_1, -⟩ := hO.k2 1 rfl
  obtain ⟨c9_2_0, c9_2_1, c9_2_2, c9_2_3, c9_2_4, c9_2_5, c9_2_6, c9_2_7, lt9_2, y9_2, -⟩ := hO.k8 2 rfl
  obtain ⟨c9_3_0, c9_3_1, lt9_3, y9_3, -⟩ := hO.k2 3 rfl
  obtain ⟨c9_4_0, lt9_4, y9_4, -⟩ := hO.k1 4 rfl
  obtain ⟨c9_5_0, c9_5_1, lt9_5, y9_5, -⟩ := hO.k2 5 rfl
  obtain ⟨c9_6_0, c9_6_1, lt9_6, y9_6, -⟩ := hO.k2 6 rfl
  obtain ⟨c9_7_0, c9_7_1, lt9_7, y9_7, -⟩ := hO.k2 7 rfl
  obtain ⟨c9_8_0, c9_8_1, c9_8_2, c9_8_3, c9_8_4, lt9_8, y9_8, -⟩ := hO.k5 8 rfl
  obtain ⟨c9_9_0, c9_9_1, lt9_9, y9_9, -⟩ := hO.k2 9 rfl
  obtain ⟨c9_10_0, c9_10_1, lt9_10, y9_10, -⟩ := hO.k2 10 rfl
  have HO := Lib.hid hO
  clear hO
  go_wp2_with (first | (go_at_call 7; go_in) | (go_at_call 8; go_in) | (go_at_call 9; go_in) | (go_at_call 10; go_in) | (go_at_call 11; go_in) | (go_at_call 12; go_in) | (go_at_call 16; go_in) | (go_at_call 17; go_in) | (go_at_call 15; go_in))
  have hO := HO.out
  clear HO c9_1_0 c9_1_1 lt9_1 y9_1 c9_2_0 c9_2_1 c9_2_2 c9_2_3 c9_2_4 c9_2_5 c9_2_6 c9_2_7 lt9_2 y9_2 c9_3_0 c9_3_1 lt9_3 y9_3 c9_4_0 lt9_4 y9_4 c9_5_0 c9_5_1 lt9_5 y9_5 c9_6_0 c9_6_1 lt9_6 y9_6 c9_7_0 c9_7_1 lt9_7 y9_7 c9_8_0 c9_8_1 c9_8_2 c9_8_3 c9_8_4 lt9_8 y9_8 c9_9_0 c9_9_1 lt9_9 y9_9 c9_10_0 c9_10_1 lt9_10 y9_10
  refine bodyPost_ret (v := .bool true) ?_ rfl ⟨rfl, hO.sub [] (by decide)⟩
  simp [results, Tryz.results4, go_sem]
def law18k10Post (x : Int) (g : Bool) (op : Int) (nm : ByteArray) (v : Nat) (w0 : World) (X : Nat → Obj → Prop) (e : Ending) (w' : World) : Prop :=
  e = .returned (.bool true) ∧ Own w0 w' [] X
set_option maxRecDepth 100000 in
set_option maxHeartbeats 1000000 in
theorem law18k10 (x : Int) (g : Bool) (op : Int) (nm : ByteArray) (v : Nat) (w0 w : World) (X : Nat → Obj → Prop) (hO : Own w0 w [] X) (hlen : nm.size ≤ 1048576) :
    Calls Tryz.prog 4 #[.int .i64 1, .int .u64 x, .bool false, .bool g, .int .u8 op, .string nm, .float .f64 v] w (law18k10Post x g op nm v w0 X) := by
  go_enter Tryz.func4, Tryz.ntmps4
  have hl9 : (nm.size : Int) ≤ 1048576 := by omega
  go_wp2_with (first | (go_at_call 7; go_in) | (go_at_call 8; go_in) | (go_at_call 9; go_in) | (go_at_call 10; go_in) | (go_at_call 11; go_in) | (go_at_call 12; go_in) | (go_at_call 16; go_in) | (go_at_call 17; go_in) | (go_at_call 15; go_in))
  have hL := hO.apart
  have hX := hO.apartX
  have HL := Lib.hid hL
  have HX := Lib.hid hX
  clear hL hX
  have hP9 := hO.pick [] (by decide)
  have T9 := new42 x g false _ _ _ hP9 
  refine Calls.mono T9 ?_
  clear hP9 T9
  rintro e u1 ⟨nd2, nd3, rfl, pr4, pr5, hQ⟩
  have hN : Own w0 u1 [row (nd2) 188 nd3] X := hQ.back HL.out HX.out [] (by decide) (by decide)
  clear hQ HL HX hO
  have hO := hN
  clear hN
  go_wp2_with (first | (go_at_call 7; go_in) | (go_at_call 8; go_in) | (go_at_call 9; go_in) | (go_at_call 10; go_in) | (go_at_call 11; go_in) | (go_at_call 12; go_in) | (go_at_call 16; go_in) | (go_at_call 17; go_in) | (go_at_call 15; go_in))
  generalize hW : World.alloc _ _ = W7
  have hN : Own w0 W7 [row (u1.heap.size + 1 + 1 + 1 + 1 + 1 + 1 + 1 + 1 + 1 + 1 + 1) 32 #[.iface 192 (.pointer (some ⟨u1.heap.size + 1 + 1 + 1 + 1 + 1 + 1 + 1 + 1 + 1 + 1, 0, none⟩)), .int .i32 4], row (u1.heap.size + 1 + 1 + 1 + 1 + 1 + 1 + 1 + 1 + 1 + 1) 194 #[.float .f64 v], row (u1.heap.size + 1 + 1 + 1 + 1 + 1 + 1 + 1 + 1 + 1) 32 #[.iface 192 (.pointer (some ⟨u1.heap.size + 1 + 1 + 1 + 1 + 1 + 1 + 1 + 1 + 1 + 1, 0, none⟩)), .int .i32 4], row (u1.heap.size + 1 + 1 + 1 + 1 + 1 + 1 + 1 + 1) 213 #[.iface 189 (.pointer (some ⟨u1.heap.size + 1 + 1, 0, none⟩)), .int .i32 2, .iface 192 (.pointer (some ⟨u1.heap.size + 1 + 1 + 1 + 1, 0, none⟩)), .int .i32 3, .int .i32 0, .int .u8 0, .bool false, .bool false, .bool false], row (u1.heap.size + 1 + 1 + 1 + 1 + 1 + 1 + 1) 32 #[.iface 211 (.pointer (some ⟨u1.heap.size + 1 + 1 + 1 + 1 + 1 + 1 + 1 + 1, 0, none⟩)), .int .i32 1], row (u1.heap.size + 1 + 1 + 1 + 1 + 1 + 1) 32 #[.iface 192 (.pointer (some ⟨u1.heap.size + 1 + 1 + 1 + 1, 0, none⟩)), .int .i32 3], row (u1.heap.size + 1 + 1 + 1 + 1 + 1) 32 #[.iface 189 (.pointer (some ⟨u1.heap.size + 1 + 1, 0, none⟩)), .int .i32 2], row (u1.heap.size + 1 + 1 + 1 + 1) 194 #[.float .f64 v], row (u1.heap.size + 1 + 1 + 1) 32 #[.iface 192 (.pointer (some ⟨u1.heap.size + 1 + 1 + 1 + 1, 0, none⟩)), .int .i32 3], row (u1.heap.size + 1 + 1) 191 #[.int .u32 0, .int .u32 0, .bool false, .bool false, .bool false], row (u1.heap.size + 1) 32 #[.iface 189 (.pointer (some ⟨u1.heap.size + 1 + 1, 0, none⟩)), .int .i32 2], row (u1.heap.size) 32 #[.iface 211 (.pointer (some ⟨u1.heap.size + 1 + 1 + 1 + 1 + 1 + 1 + 1 + 1, 0, none⟩)), .int .i32 1], row (nd2) 188 nd3] X := by
    rw [← hW]
    exact ((((((((((((hO).alloc' _ (u1.heap.size) (by simp)).alloc' _ (u1.heap.size + 1) (by simp)).alloc' _ (u1.heap.size + 1 + 1) (by simp)).alloc' _ (u1.heap.size + 1 + 1 + 1) (by simp)).alloc' _ (u1.heap.size + 1 + 1 + 1 + 1) (by simp)).alloc' _ (u1.heap.size + 1 + 1 + 1 + 1 + 1) (by simp)).alloc' _ (u1.heap.size + 1 + 1 + 1 + 1 + 1 + 1) (by simp)).alloc' _ (u1.heap.size + 1 + 1 + 1 + 1 + 1 + 1 + 1) (by simp)).alloc' _ (u1.heap.size + 1 + 1 + 1 + 1 + 1 + 1 + 1 + 1) (by simp)).alloc' _ (u1.heap.size + 1 + 1 + 1 + 1 + 1 + 1 + 1 + 1 + 1) (by simp)).alloc' _ (u1.heap.size + 1 + 1 + 1 + 1 + 1 + 1 + 1 + 1 + 1 + 1) (by simp)).alloc' _ (u1.heap.size + 1 + 1 + 1 + 1 + 1 + 1 + 1 + 1 + 1 + 1 + 1) (by simp)
  clear hW hO
  generalize u1.heap.size + 1 + 1 + 1 + 1 + 1 + 1 + 1 + 1 + 1 + 1 + 1 = B6_11 at hN ⊢
  generalize u1.heap.size + 1 + 1 + 1 + 1 + 1 + 1 + 1 + 1 + 1 + 1 = B6_10 at hN ⊢
  generalize u1.heap.size + 1 + 1 + 1 + 1 + 1 + 1 + 1 + 1 + 1 = B6_9 at hN ⊢
  generalize u1.heap.size + 1 + 1 + 1 + 1 + 1 + 1 + 1 + 1 = B6_8 at hN ⊢
  generalize u1.heap.size + 1 + 1 + 1 + 1 + 1 + 1 + 1 = B6_7 at hN ⊢
  generalize u1.heap.size + 1 + 1 + 1 + 1 + 1 + 1 = B6_6 at hN ⊢
  generalize u1.heap.size + 1 + 1 + 1 + 1 + 1 = B6_5 at hN ⊢
  generalize u1.heap.size + 1 + 1 + 1 + 1 = B6_4 at hN ⊢
  generalize u1.heap.size + 1 + 1 + 1 = B6_3 at hN ⊢
  generalize u1.heap.size + 1 + 1 = B6_2 at hN ⊢
  generalize u1.heap.size + 1 = B6_1 at hN ⊢
  generalize u1.heap.size = B6 at hN ⊢
  have hO := hN
  clear hN
  have hL := hO.apart
  have hX := hO.apartX
  have HL := Lib.hid hL
  have HX := Lib.hid hX
  clear hL hX
  have hP9 := hO.pick [12, 3] (by decide)
  have h9_hJ : 192 ≠ 240 := (by decide)
  have T9 := drefIdx0 nd2 nd3 op B6_10 4 1 B6_8 2 3 192 B6_4 189 B6_2 _ _ _ hP9 pr4 h9_hJ
  refine Calls.mono T9 ?_
  clear hP9 T9 h9_hJ
  rintro e u8 ⟨rfl, hQ⟩
  have hN : Own w0 u8 [row (nd2) 188 nd3, row (B6_8) 213 #[.iface 189 (.pointer (some ⟨B6_2, 0, none⟩)), .int .i32 2, .iface 192 (.pointer (some ⟨B6_4, 0, none⟩)), .int .i32 3, .int .i32 0, .int .u8 0, .bool false, .bool false, .bool false], row (B6_11) 32 #[.iface 192 (.pointer (some ⟨B6_10, 0, none⟩)), .int .i32 4], row (B6_10) 194 #[.float .f64 v], row (B6_9) 32 #[.iface 192 (.pointer (some ⟨B6_10, 0, none⟩)), .int .i32 4], row (B6_7) 32 #[.iface 211 (.pointer (some ⟨B6_8, 0, none⟩)), .int .i32 1], row (B6_6) 32 #[.iface 192 (.pointer (some ⟨B6_4, 0, none⟩)), .int .i32 3], row (B6_5) 32 #[.iface 189 (.pointer (some ⟨B6_2, 0, none⟩)), .int .i32 2], row (B6_4) 194 #[.float .f64 v], row (B6_3) 32 #[.iface 192 (.pointer (some ⟨B6_4, 0, none⟩)), .int .i32 3], row (B6_2) 191 #[.int .u32 0, .int .u32 0, .bool false, .bool false, .bool false], row (B6_1) 32 #[.iface 189 (.pointer (some ⟨B6_2, 0, none⟩)), .int .i32 2], row (B6) 32 #[.iface 211 (.pointer (some ⟨B6_8, 0, none⟩)), .int .i32 1]] X := hQ.back HL.out HX.out [0, 1, 2, 4, 5, 6, 7, 8, 9, 10, 11] (by decide) (by decide)
  clear hQ HL HX hO
  have hO := hN
  clear hN
  obtain ⟨c9_1_0, c9_1_1, c9_1_2, c9_1_3, c9_1_4, c9_1_5, c9_1_6, c9_1_7, c9_1_8, lt9_1, y9_1, -⟩ := hO.k9 1 rfl
  obtain ⟨c9_2_0, c9_2_1, lt9_2, y9_2, -⟩ := hO.k2 2 rfl
  obtain ⟨c9_3_0, lt9_3, y9_3, -⟩ := hO.k1 3 rfl
  obtain ⟨c9_4_0, c9_4_1, lt9_4, y9_4, -⟩ := hO.k2 4 rfl
  obtain ⟨c9_5_0, c9_5_1, lt9_5, y9_5, -⟩ := hO.k2 5 rfl
  obtain ⟨c9_6_0, c9_6_1, lt9_6, y9_6, -⟩ := hO.k2 6 rfl
  obtain ⟨c9_7_0, c9_7_1, lt9_7, y9_7, -⟩ := hO.k2 7 rfl
  obtain ⟨c9_8_0, lt9_8, y9_8, -⟩ := hO.k1 8 rfl
  obtain ⟨c9_9_0, c9_9_1, lt9_9, y9_9, -⟩ := hO.k2 9 rfl
  obtain ⟨c9_10_0, c9_10_1, c9_10_2, c9_10_3, c9_10_4, lt9_10, y9_10, -⟩ := hO.k5 10 rfl
  obtain ⟨c9_11_0, c9_11_1, lt9_11, y9_11, -⟩ := hO.k2 11 rfl
  obtain ⟨c9_12_0, c9_12_1, lt9_12, y9_12, -⟩ := hO.k2 12 rfl
  have HO := Lib.hid hO
  clear hO
  go_wp2_with (first | (go_at_call 7; go_in) | (go_at_call 8; go_in) | (go_at_call 9; go_in) | (go_at_call 10; go_in) | (go_at_call 11; go_in) | (go_at_call 12; go_in) | (go_at_call 16; go_in) | (go_at_call 17; go_in) | (go_at_call 15; go_in))
  have hO := HO.out
  clear HO c9_1_0 c9_1_1 c9_1_2 c9_1_3 c9_1_4 c9_1_5 c9_1_6 c9_1_7 c9_1_8 lt9_1 y9_1 c9_2_0 c9_2_1 lt9_2 y9_2 c9_3_0 lt9_3 y9_3 c9_4_0 c9_4_1 lt9_4 y9_4 c9_5_0 c9_5_1 lt9_5 y9_5 c9_6_0 c9_6_1 lt9_6 y9_6 c9_7_0 c9_7_1 lt9_7 y9_7 c9_8_0 lt9_8 y9_8 c9_9_0 c9_9_1 lt9_9 y9_9 c9_10_0 c9_10_1 c9_10_2 c9_10_3 c9_10_4 lt9_10 y9_10 c9_11_0 c9_11_1 lt9_11 y9_11 c9_12_0 c9_12_1 lt9_12 y9_12
  generalize hW : World.alloc _ _ = W10
  have hN : Own w0 W10 [row (u8.heap.size) 32 #[.nilIface, .int .i32 0], row (nd2) 188 nd3, row (B6_8) 213 #[.iface 189 (.pointer (some ⟨B6_2, 0, none⟩)), .int .i32 2, .iface 192 (.pointer (some ⟨B6_4, 0, none⟩)), .int .i32 3, .int .i32 0, .int .u8 0, .bool false, .bool false, .bool false], row (B6_11) 32 #[.iface 192 (.pointer (some ⟨B6_10, 0, none⟩)), .int .i32 4], row (B6_10) 194 #[.float .f64 v], row (B6_9) 32 #[.iface 192 (.pointer (some ⟨B6_10, 0, none⟩)), .int .i32 4], row (B6_7) 32 #[.iface 211 (.pointer (some ⟨B6_8, 0, none⟩)), .int .i32 1], row (B6_6) 32 #[.iface 192 (.pointer (some ⟨B6_4, 0, none⟩)), .int .i32 3], row (B6_5) 32 #[.iface 189 (.pointer (some ⟨B6_2, 0, none⟩)), .int .i32 2], row (B6_4) 194 #[.float .f64 v], row (B6_3) 32 #[.iface 192 (.pointer (some ⟨B6_4, 0, none⟩)), .int .i32 3], row (B6_2) 191 #[.int .u32 0, .int .u32 0, .bool false, .bool false, .bool false], row (B6_1) 32 #[.iface 189 (.pointer (some ⟨B6_2, 0, none⟩)), .int .i32 2], row (B6) 32 #[.iface 211 (.pointer (some ⟨B6_8, 0, none⟩)), .int .i32 1]] X := by
    rw [← hW]
    exact (hO).alloc' _ (u8.heap.size) (by simp)
  clear hW hO
  generalize u8.heap.size = B9 at hN ⊢
  have hO := hN
  clear hN
  have hL := hO.apart
  have hX := hO.apartX
  have HL := Lib.hid hL
  have HX := Lib.hid hX
  clear hL hX
  have hP9 := hO.pick [1] (by decide)
  have T9 := sc42 nd2 nd3 _ _ _ hP9 pr5
  refine Calls.mono T9 ?_
  clear hP9 T9
  rintro e u11 ⟨rfl, hQ⟩
  have hN : Own w0 u11 [row (nd2) 188 nd3, row (B9) 32 #[.nilIface, .int .i32 0], row (B6_8) 213 #[.iface 189 (.pointer (some ⟨B6_2, 0, none⟩)), .int .i32 2, .iface 192 (.pointer (some ⟨B6_4, 0, none⟩)), .int .i32 3, .int .i32 0, .int .u8 0, .bool false, .bool false, .bool false], row (B6_11) 32 #[.iface 192 (.pointer (some ⟨B6_10, 0, none⟩)), .int .i32 4], row (B6_10) 194 #[.float .f64 v], row (B6_9) 32 #[.iface 192 (.pointer (some ⟨B6_10, 0, none⟩)), .int .i32 4], row (B6_7) 32 #[.iface 211 (.pointer (some ⟨B6_8, 0, none⟩)), .int .i32 1], row (B6_6) 32 #[.iface 192 (.pointer (some ⟨B6_4, 0, none⟩)), .int .i32 3], row (B6_5) 32 #[.iface 189 (.pointer (some ⟨B6_2, 0, none⟩)), .int .i32 2], row (B6_4) 194 #[.float .f64 v], row (B6_3) 32 #[.iface 192 (.pointer (some ⟨B6_4, 0, none⟩)), .int .i32 3], row (B6_2) 191 #[.int .u32 0, .int .u32 0, .bool false, .bool false, .bool false], row (B6_1) 32 #[.iface 189 (.pointer (some ⟨B6_2, 0, none⟩)), .int .i32 2], row (B6) 32 #[.iface 211 (.pointer (some ⟨B6_8, 0, none⟩)), .int .i32 1]] X := hQ.back HL.out HX.out [0, 2, 3, 4, 5, 6, 7, 8, 9, 10, 11, 12, 13] (by decide) (by decide)
  clear hQ HL HX hO
  have hO := hN
  clear hN
  obtain ⟨c9_1_0, c9_1_1, lt9_1, y9_1, -⟩ := hO.k2 1 rfl
  obtain ⟨c9_2_0, c9_2_1, c9_2_2, c9_2_3, c9_2_4, c9_2_5, c9_2_6, c9_2_7, c9_2_8, lt9_2, y9_2, -⟩ := hO.k9 2 rfl
  obtain ⟨c9_3_0, c9_3_1, lt9_3, y9_3, -⟩ := hO.k2 3 rfl
  obtain ⟨c9_4_0, lt9_4, y9_4, -⟩ := hO.k1 4 rfl
  obtain ⟨c9_5_0, c9_5_1, lt9_5, y9_5, -⟩ := hO.k2 5 rfl
  obtain ⟨c9_6_0, c9_6_1, lt9_6, y9_6, -⟩ := hO.k2 6 rfl
  obtain ⟨c9_7_0, c9_7_1, lt9_7, y9_7, -⟩ := hO.k2 7 rfl
  obtain ⟨c9_8_0, c9_8_1, lt9_8, y9_8, -⟩ := hO.k2 8 rfl
  obtain ⟨c9_9_0, lt9_9, y9_9, -⟩ := hO.k1 9 rfl
  obtain ⟨c9_10_0, c9_10_1, lt9_10, y9_10, -⟩ := hO.k2 10 rfl
  obtain ⟨c9_11_0, c9_11_1, c9_11_2, c9_11_3, c9_11_4, lt9_11, y9_11, -⟩ := hO.k5 11 rfl
  obtain ⟨c9_12_0, c9_12_1, lt9_12, y9_12, -⟩ := hO.k2 12 rfl
  obtain ⟨c9_13_0, c9_13_1, lt9_13, y9_13, -⟩ := hO.k2 13 rfl
  have HO := Lib.hid hO
  clear hO
  go_wp2_with (first | (go_at_call 7; go_in) | (go_at_call 8; go_in) | (go_at_call 9; go_in) | (go_at_call 10; go_in) | (go_at_call 11; go_in) | (go_at_call 12; go_in) | (go_at_call 16; go_in) | (go_at_call 17; go_in) | (go_at_call 15; go_in))
  have hO := HO.out
  clear HO c9_1_0 c9_1_1 lt9_1 y9_1 c9_2_0 c9_2_1 c9_2_2 c9_2_3 c9_2_4 c9_2_5 c9_2_6 c9_2_7 c9_2_8 lt9_2 y9_2 c9_3_0 c9_3_1 lt9_3 y9_3 c9_4_0 lt9_4 y9_4 c9_5_0 c9_5_1 lt9_5 y9_5 c9_6_0 c9_6_1 lt9_6 y9_6 c9_7_0 c9_7_1 lt9_7 y9_7 c9_8_0 c9_8_1 lt9_8 y9_8 c9_9_0 lt9_9 y9_9 c9_10_0 c9_10_1 lt9_10 y9_10 c9_11_0 c9_11_1 c9_11_2 c9_11_3 c9_11_4 lt9_11 y9_11 c9_12_0 c9_12_1 lt9_12 y9_12 c9_13_0 c9_13_1 lt9_13 y9_13
  refine bodyPost_ret (v := .bool true) ?_ rfl ⟨rfl, hO.sub [] (by decide)⟩
  simp [results, Tryz.results4, go_sem]
def law18k11Post (x : Int) (g : Bool) (op : Int) (nm : ByteArray) (v : Nat) (w0 : World) (X : Nat → Obj → Prop) (e : Ending) (w' : World) : Prop :=
  e = .returned (.bool true) ∧ Own w0 w' [] X
set_option maxRecDepth 100000 in
set_option maxHeartbeats 1000000 in
theorem law18k11 (x : Int) (g : Bool) (op : Int) (nm : ByteArray) (v : Nat) (w0 w : World) (X : Nat → Obj → Prop) (hO : Own w0 w [] X) (hlen : nm.size ≤ 1048576) :
    Calls Tryz.prog 4 #[.int .i64 1, .int .u64 x, .bool true, .bool g, .int .u8 op, .string nm, .float .f64 v] w (law18k11Post x g op nm v w0 X) := by
  go_enter Tryz.func4, Tryz.ntmps4
  have hl9 : (nm.size : Int) ≤ 1048576 := by omega
  go_wp2_with (first | (go_at_call 7; go_in) | (go_at_call 8; go_in) | (go_at_call 9; go_in) | (go_at_call 10; go_in) | (go_at_call 11; go_in) | (go_at_call 12; go_in) | (go_at_call 16; go_in) | (go_at_call 17; go_in) | (go_at_call 15; go_in))
  have hL := hO.apart
  have hX := hO.apartX
  have HL := Lib.hid hL
  have HX := Lib.hid hX
  clear hL hX
  have hP9 := hO.pick [] (by decide)
  have T9 := new42 x g true _ _ _ hP9 
  refine Calls.mono T9 ?_
  clear hP9 T9
  rintro e u1 ⟨nd2, nd3, rfl, pr4, pr5, hQ⟩
  have hN : Own w0 u1 [row (nd2) 188 nd3] X := hQ.back HL.out HX.out [] (by decide) (by decide)
  clear hQ HL HX hO
  have hO := hN
  clear hN
  go_wp2_with (first | (go_at_call 7; go_in) | (go_at_call 8; go_in) | (go_at_call 9; go_in) | (go_at_call 10; go_in) | (go_at_call 11; go_in) | (go_at_call 12; go_in) | (go_at_call 16; go_in) | (go_at_call 17; go_in) | (go_at_call 15; go_in))
  generalize hW : World.alloc _ _ = W7
  have hN : Own w0 W7 [row (u1.heap.size + 1 + 1 + 1 + 1 + 1 + 1 + 1 + 1 + 1 + 1 + 1) 32 #[.iface 192 (.pointer (some ⟨u1.heap.size + 1 + 1 + 1 + 1 + 1 + 1 + 1 + 1 + 1 + 1, 0, none⟩)), .int .i32 4], row (u1.heap.size + 1 + 1 + 1 + 1 + 1 + 1 + 1 + 1 + 1 + 1) 194 #[.float .f64 v], row (u1.heap.size + 1 + 1 + 1 + 1 + 1 + 1 + 1 + 1 + 1) 32 #[.iface 192 (.pointer (some ⟨u1.heap.size + 1 + 1 + 1 + 1 + 1 + 1 + 1 + 1 + 1 + 1, 0, none⟩)), .int .i32 4], row (u1.heap.size + 1 + 1 + 1 + 1 + 1 + 1 + 1 + 1) 213 #[.iface 189 (.pointer (some ⟨u1.heap.size + 1 + 1, 0, none⟩)), .int .i32 2, .iface 192 (.pointer (some ⟨u1.heap.size + 1 + 1 + 1 + 1, 0, none⟩)), .int .i32 3, .int .i32 0, .int .u8 0, .bool false, .bool false, .bool false], row (u1.heap.size + 1 + 1 + 1 + 1 + 1 + 1 + 1) 32 #[.iface 211 (.pointer (some ⟨u1.heap.size + 1 + 1 + 1 + 1 + 1 + 1 + 1 + 1, 0, none⟩)), .int .i32 1], row (u1.heap.size + 1 + 1 + 1 + 1 + 1 + 1) 32 #[.iface 192 (.pointer (some ⟨u1.heap.size + 1 + 1 + 1 + 1, 0, none⟩)), .int .i32 3], row (u1.heap.size + 1 + 1 + 1 + 1 + 1) 32 #[.iface 189 (.pointer (some ⟨u1.heap.size + 1 + 1, 0, none⟩)), .int .i32 2], row (u1.heap.size + 1 + 1 + 1 + 1) 194 #[.float .f64 v], row (u1.heap.size + 1 + 1 + 1) 32 #[.iface 192 (.pointer (some ⟨u1.heap.size + 1 + 1 + 1 + 1, 0, none⟩)), .int .i32 3], row (u1.heap.size + 1 + 1) 191 #[.int .u32 0, .int .u32 0, .bool false, .bool false, .bool false], row (u1.heap.size + 1) 32 #[.iface 189 (.pointer (some ⟨u1.heap.size + 1 + 1, 0, none⟩)), .int .i32 2], row (u1.heap.size) 32 #[.iface 211 (.pointer (some ⟨u1.heap.size + 1 + 1 + 1 + 1 + 1 + 1 + 1 + 1, 0, none⟩)), .int .i32 1], row (nd2) 188 nd3] X := by
    rw [← hW]
    exact ((((((((((((hO).alloc' _ (u1.heap.size) (by simp)).alloc' _ (u1.heap.size + 1) (by simp)).alloc' _ (u1.heap.size + 1 + 1) (by simp)).alloc' _ (u1.heap.size + 1 + 1 + 1) (by simp)).alloc' _ (u1.heap.size + 1 + 1 + 1 + 1) (by simp)).alloc' _ (u1.heap.size + 1 + 1 + 1 + 1 + 1) (by simp)).alloc' _ (u1.heap.size + 1 + 1 + 1 + 1 + 1 + 1) (by simp)).alloc' _ (u1.heap.size + 1 + 1 + 1 + 1 + 1 + 1 + 1) (by simp)).alloc' _ (u1.heap.size + 1 + 1 + 1 + 1 + 1 + 1 + 1 + 1) (by simp)).alloc' _ (u1.heap.size + 1 + 1 + 1 + 1 + 1 + 1 + 1 + 1 + 1) (by simp)).alloc' _ (u1.heap.size + 1 + 1 + 1 + 1 + 1 + 1 + 1 + 1 + 1 + 1) (by simp)).alloc' _ (u1.heap.size + 1 + 1 + 1 + 1 + 1 + 1 + 1 + 1 + 1 + 1 + 1) (by simp)
  clear hW hO
  generalize u1.heap.size + 1 + 1 + 1 + 1 + 1 + 1 + 1 + 1 + 1 + 1 + 1 = B6_11 at hN ⊢
  generalize u1.heap.size + 1 + 1 + 1 + 1 + 1 + 1 + 1 + 1 + 1 + 1 = B6_10 at hN ⊢
  generalize u1.heap.size + 1 + 1 + 1 + 1 + 1 + 1 + 1 + 1 + 1 = B6_9 at hN ⊢
  generalize u1.heap.size + 1 + 1 + 1 + 1 + 1 + 1 + 1 + 1 = B6_8 at hN ⊢
  generalize u1.heap.size + 1 + 1 + 1 + 1 + 1 + 1 + 1 = B6_7 at hN ⊢
  generalize u1.heap.size + 1 + 1 + 1 + 1 + 1 + 1 = B6_6 at hN ⊢
  generalize u1.heap.size + 1 + 1 + 1 + 1 + 1 = B6_5 at hN ⊢
  generalize u1.heap.size + 1 + 1 + 1 + 1 = B6_4 at hN ⊢
  generalize u1.heap.size + 1 + 1 + 1 = B6_3 at hN ⊢
  generalize u1.heap.size + 1 + 1 = B6_2 at hN ⊢
  generalize u1.heap.size + 1 = B6_1 at hN ⊢
  generalize u1.heap.size = B6 at hN ⊢
  have hO := hN
  clear hN
  have hL := hO.apart
  have hX := hO.apartX
  have HL := Lib.hid hL
  have HX := Lib.hid hX
  clear hL hX
  have hP9 := hO.pick [12, 3] (by decide)
  have h9_hT : 189 ≠ 204 := (by decide)
  have h9_hJ : 192 ≠ 240 := (by decide)
  have T9 := drefIdx1 nd2 nd3 op B6_10 4 1 B6_8 2 3 192 B6_4 189 B6_2 _ _ _ hP9 pr4 h9_hT h9_hJ
  refine Calls.mono T9 ?_
  clear hP9 T9 h9_hT h9_hJ
  rintro e u8 ⟨rfl, hQ⟩
  have hN : Own w0 u8 [row (nd2) 188 nd3, row (B6_8) 213 #[.iface 189 (.pointer (some ⟨B6_2, 0, none⟩)), .int .i32 2, .iface 192 (.pointer (some ⟨B6_4, 0, none⟩)), .int .i32 3, .int .i32 0, .int .u8 0, .bool false, .bool false, .bool false], row (B6_11) 32 #[.iface 192 (.pointer (some ⟨B6_10, 0, none⟩)), .int .i32 4], row (B6_10) 194 #[.float .f64 v], row (B6_9) 32 #[.iface 192 (.pointer (some ⟨B6_10, 0, none⟩)), .int .i32 4], row (B6_7) 32 #[.iface 211 (.pointer (some ⟨B6_8, 0, none⟩)), .int .i32 1], row (B6_6) 32 #[.iface 192 (.pointer (some ⟨B6_4, 0, none⟩)), .int .i32 3], row (B6_5) 32 #[.iface 189 (.pointer (some ⟨B6_2, 0, none⟩)), .int .i32 2], row (B6_4) 194 #[.float .f64 v], row (B6_3) 32 #[.iface 192 (.pointer (some ⟨B6_4, 0, none⟩)), .int .i32 3], row (B6_2) 191 #[.int .u32 0, .int .u32 0, .bool false, .bool false, .bool false], row (B6_1) 32 #[.iface 189 (.pointer (some ⟨B6_2, 0, none⟩)), .int .i32 2], row (B6) 32 #[.iface 211 (.pointer (some ⟨B6_8, 0, none⟩)), .int .i32 1]] X := hQ.back HL.out HX.out [0, 1, 2, 4, 5, 6, 7, 8, 9, 10, 11] (by decide) (by decide)
  clear hQ HL HX hO
  have hO := hN
  clear hN
  obtain ⟨c9_1_0, c9_1_1, c9_1_2, c9_1_3, c9_1_4, c9_1_5, c9_1_6, c9_1_7, c9_1_8, lt9_1, y9_1, -⟩ := hO.k9 1 rfl
  obtain ⟨c9_2_0, c9_2_1, lt9_2, y9_2, -⟩ := hO.k2 2 rfl
  obtain ⟨c9_3_0, lt9_3, y9_3, -⟩ := hO.k1 3 rfl
  obtain ⟨c9_4_0, c9_4_1, lt9_4, y9_4, -⟩ := hO.k2 4 rfl
  obtain ⟨c9_5_0, c9_5_1, lt9_5, y9_5, -⟩ := hO.k2 5 rfl
  obtain ⟨c9_6_0, c9_6_1, lt9_6, y9_6, -⟩ := hO.k2 6 rfl
  obtain ⟨c9_7_0, c9_7_1, lt9_7, y9_7, -⟩ := hO.k2 7 rfl
  obtain ⟨c9_8_0, lt9_8, y9_8, -⟩ := hO.k1 8 rfl
  obtain ⟨c9_9_0, c9_9_1, lt9_9, y9_9, -⟩ := hO.k2 9 rfl
  obtain ⟨c9_10_0, c9_10_1, c9_10_2, c9_10_3, c9_10_4, lt9_10, y9_10, -⟩ := hO.k5 10 rfl
  obtain ⟨c9_11_0, c9_11_1, lt9_11, y9_11, -⟩ := hO.k2 11 rfl
  obtain ⟨c9_12_0, c9_12_1, lt9_12, y9_12, -⟩ := hO.k2 12 rfl
  have HO := Lib.hid hO
  clear hO
  go_wp2_with (first | (go_at_call 7; go_in) | (go_at_call 8; go_in) | (go_at_call 9; go_in) | (go_at_call 10; go_in) | (go_at_call 11; go_in) | (go_at_call 12; go_in) | (go_at_call 16; go_in) | (go_at_call 17; go_in) | (go_at_call 15; go_in))
  have hO := HO.out
  clear HO c9_1_0 c9_1_1 c9_1_2 c9_1_3 c9_1_4 c9_1_5 c9_1_6 c9_1_7 c9_1_8 lt9_1 y9_1 c9_2_0 c9_2_1 lt9_2 y9_2 c9_3_0 lt9_3 y9_3 c9_4_0 c9_4_1 lt9_4 y9_4 c9_5_0 c9_5_1 lt9_5 y9_5 c9_6_0 c9_6_1 lt9_6 y9_6 c9_7_0 c9_7_1 lt9_7 y9_7 c9_8_0 lt9_8 y9_8 c9_9_0 c9_9_1 lt9_9 y9_9 c9_10_0 c9_10_1 c9_10_2 c9_10_3 c9_10_4 lt9_10 y9_10 c9_11_0 c9_11_1 lt9_11 y9_11 c9_12_0 c9_12_1 lt9_12 y9_12
  generalize hW : World.alloc _ _ = W10
  have hN : Own w0 W10 [row (u8.heap.size) 32 #[.nilIface, .int .i32 0], row (nd2) 188 nd3, row (B6_8) 213 #[.iface 189 (.pointer (some ⟨B6_2, 0, none⟩)), .int .i32 2, .iface 192 (.pointer (some ⟨B6_4, 0, none⟩)), .int .i32 3, .int .i32 0, .int .u8 0, .bool false, .bool false, .bool false], row (B6_11) 32 #[.iface 192 (.pointer (some ⟨B6_10, 0, none⟩)), .int .i32 4], row (B6_10) 194 #[.float .f64 v], row (B6_9) 32 #[.iface 192 (.pointer (some ⟨B6_10, 0, none⟩)), .int .i32 4], row (B6_7) 32 #[.iface 211 (.pointer (some ⟨B6_8, 0, none⟩)), .int .i32 1], row (B6_6) 32 #[.iface 192 (.pointer (some ⟨B6_4, 0, none⟩)), .int .i32 3], row (B6_5) 32 #[.iface 189 (.pointer (some ⟨B6_2, 0, none⟩)), .int .i32 2], row (B6_4) 194 #[.float .f64 v], row (B6_3) 32 #[.iface 192 (.pointer (some ⟨B6_4, 0, none⟩)), .int .i32 3], row (B6_2) 191 #[.int .u32 0, .int .u32 0, .bool false, .bool false, .bool false], row (B6_1) 32 #[.iface 189 (.pointer (some ⟨B6_2, 0, none⟩)), .int .i32 2], row (B6) 32 #[.iface 211 (.pointer (some ⟨B6_8, 0, none⟩)), .int .i32 1]] X := by
    rw [← hW]
    exact (hO).alloc' _ (u8.heap.size) (by simp)
  clear hW hO
  generalize u8.heap.size = B9 at hN ⊢
  have hO := hN
  clear hN
  have hL := hO.apart
  have hX := hO.apartX
  have HL := Lib.hid hL
  have HX := Lib.hid hX
  clear hL hX
  have hP9 := hO.pick [1] (by decide)
  have T9 := sc42 nd2 nd3 _ _ _ hP9 pr5
  refine Calls.mono T9 ?_
  clear hP9 T9
  rintro e u11 ⟨rfl, hQ⟩
  have hN : Own w0 u11 [row (nd2) 188 nd3, row (B9) 32 #[.nilIface, .int .i32 0], row (B6_8) 213 #[.iface 189 (.pointer (some ⟨B6_2, 0, none⟩)), .int .i32 2, .iface 192 (.pointer (some ⟨B6_4, 0, none⟩)), .int .i32 3, .int .i32 0, .int .u8 0, .bool false, .bool false, .bool false], row (B6_11) 32 #[.iface 192 (.pointer (some ⟨B6_10, 0, none⟩)), .int .i32 4], row (B6_10) 194 #[.float .f64 v], row (B6_9) 32 #[.iface 192 (.pointer (some ⟨B6_10, 0, none⟩)), .int .i32 4], row (B6_7) 32 #[.iface 211 (.pointer (some ⟨B6_8, 0, none⟩)), .int .i32 1], row (B6_6) 32 #[.iface 192 (.pointer (some ⟨B6_4, 0, none⟩)), .int .i32 3], row (B6_5) 32 #[.iface 189 (.pointer (some ⟨B6_2, 0, none⟩)), .int .i32 2], row (B6_4) 194 #[.float .f64 v], row (B6_3) 32 #[.iface 192 (.pointer (some ⟨B6_4, 0, none⟩)), .int .i32 3], row (B6_2) 191 #[.int .u32 0, .int .u32 0, .bool false, .bool false, .bool false], row (B6_1) 32 #[.iface 189 (.pointer (some ⟨B6_2, 0, none⟩)), .int .i32 2], row (B6) 32 #[.iface 211 (.pointer (some ⟨B6_8, 0, none⟩)), .int .i32 1]] X := hQ.back HL.out HX.out [0, 2, 3, 4, 5, 6, 7, 8, 9, 10, 11, 12, 13] (by decide) (by decide)
  clear hQ HL HX hO
  have hO := hN
  clear hN
  obtain ⟨c9_1_0, c9_1_1, lt9_1, y9_1, -⟩ := hO.k2 1 rfl
  obtain ⟨c9_2_0, c9_2_1, c9_2_2, c9_2_3, c9_2_4, c9_2_5, c9_2_6, c9_2_7, c9_2_8, lt9_2, y9_2, -⟩ := hO.k9 2 rfl
  obtain ⟨c9_3_0, c9_3_1, lt9_3, y9_3, -⟩ := hO.k2 3 rfl
  obtain ⟨c9_4_0, lt9_4, y9_4, -⟩ := hO.k1 4 rfl
  obtain ⟨c9_5_0, c9_5_1, lt9_5, y9_5, -⟩ := hO.k2 5 rfl
  obtain ⟨c9_6_0, c9_6_1, lt9_6, y9_6, -⟩ := hO.k2 6 rfl
  obtain ⟨c9_7_0, c9_7_1, lt9_7, y9_7, -⟩ := hO.k2 7 rfl
  obtain ⟨c9_8_0, c9_8_1, lt9_8, y9_8, -⟩ := hO.k2 8 rfl
  obtain ⟨c9_9_0, lt9_9, y9_9, -⟩ := hO.k1 9 rfl
  obtain ⟨c9_10_0, c9_10_1, lt9_10, y9_10, -⟩ := hO.k2 10 rfl
  obtain ⟨c9_11_0, c9_11_1, c9_11_2, c9_11_3, c9_11_4, lt9_11, y9_11, -⟩ := hO.k5 11 rfl
  obtain ⟨c9_12_0, c9_12_1, lt9_12, y9_12, -⟩ := hO.k2 12 rfl
  obtain ⟨c9_13_0, c9_13_1, lt9_13, y9_13, -⟩ := hO.k2 13 rfl
  have HO := Lib.hid hO
  clear hO
  go_wp2_with (first | (go_at_call 7; go_in) | (go_at_call 8; go_in) | (go_at_call 9; go_in) | (go_at_call 10; go_in) | (go_at_call 11; go_in) | (go_at_call 12; go_in) | (go_at_call 16; go_in) | (go_at_call 17; go_in) | (go_at_call 15; go_in))
  have hO := HO.out
  clear HO c9_1_0 c9_1_1 lt9_1 y9_1 c9_2_0 c9_2_1 c9_2_2 c9_2_3 c9_2_4 c9_2_5 c9_2_6 c9_2_7 c9_2_8 lt9_2 y9_2 c9_3_0 c9_3_1 lt9_3 y9_3 c9_4_0 lt9_4 y9_4 c9_5_0 c9_5_1 lt9_5 y9_5 c9_6_0 c9_6_1 lt9_6 y9_6 c9_7_0 c9_7_1 lt9_7 y9_7 c9_8_0 c9_8_1 lt9_8 y9_8 c9_9_0 lt9_9 y9_9 c9_10_0 c9_10_1 lt9_10 y9_10 c9_11_0 c9_11_1 c9_11_2 c9_11_3 c9_11_4 lt9_11 y9_11 c9_12_0 c9_12_1 lt9_12 y9_12 c9_13_0 c9_13_1 lt9_13 y9_13
  refine bodyPost_ret (v := .bool true) ?_ rfl ⟨rfl, hO.sub [] (by decide)⟩
  simp [results, Tryz.results4, go_sem]
def law18k20Post (x : Int) (g : Bool) (op : Int) (nm : ByteArray) (v : Nat) (w0 : World) (X : Nat → Obj → Prop) (e : Ending) (w' : World) : Prop :=
  e = .returned (.bool true) ∧ Own w0 w' [] X
set_option maxRecDepth 100000 in
set_option maxHeartbeats 1000000 in
theorem law18k20 (x : Int) (g : Bool) (op : Int) (nm : ByteArray) (v : Nat) (w0 w : World) (X : Nat → Obj → Prop) (hO : Own w0 w [] X) (hlen : nm.size ≤ 1048576) :
    Calls Tryz.prog 4 #[.int .i64 2, .int .u64 x, .bool false, .bool g, .int .u8 op, .string nm, .float .f64 v] w (law18k20Post x g op nm v w0 X) := by
  go_enter Tryz.func4, Tryz.ntmps4
  have hl9 : (nm.size : Int) ≤ 1048576 := by omega
  go_wp2_with (first | (go_at_call 7; go_in) | (go_at_call 8; go_in) | (go_at_call 9; go_in) | (go_at_call 10; go_in) | (go_at_call 11; go_in) | (go_at_call 12; go_in) | (go_at_call 16; go_in) | (go_at_call 17; go_in) | (go_at_call 15; go_in))
  have hL := hO.apart
  have hX := hO.apartX
  have HL := Lib.hid hL
  have HX := Lib.hid hX
  clear hL hX
  have hP9 := hO.pick [] (by decide)
  have T9 := new42 x g false _ _ _ hP9 
  refine Calls.mono T9 ?_
  clear hP9 T9
  rintro e u1 ⟨nd2, nd3, rfl, pr4, pr5, hQ⟩
  have hN : Own w0 u1 [row (nd2) 188 nd3] X := hQ.back HL.out HX.out [] (by decide) (by decide)
  clear hQ HL HX hO
  have hO := hN
  clear hN
  go_wp2_with (first | (go_at_call 7; go_in) | (go_at_call 8; go_in) | (go_at_call 9; go_in) | (go_at_call 10; go_in) | (go_at_call 11; go_in) | (go_at_call 12; go_in) | (go_at_call 16; go_in) | (go_at_call 17; go_in) | (go_at_call 15; go_in))
  generalize hW : World.alloc _ _ = W7
  have hN : Own w0 W7 [row (u1.heap.size + 1 + 1 + 1 + 1 + 1 + 1 + 1 + 1) 32 #[.iface 192 (.pointer (some ⟨u1.heap.size + 1 + 1 + 1 + 1 + 1 + 1 + 1, 0, none⟩)), .int .i32 4], row (u1.heap.size + 1 + 1 + 1 + 1 + 1 + 1 + 1) 194 #[.float .f64 v], row (u1.heap.size + 1 + 1 + 1 + 1 + 1 + 1) 32 #[.iface 192 (.pointer (some ⟨u1.heap.size + 1 + 1 + 1 + 1 + 1 + 1 + 1, 0, none⟩)), .int .i32 4], row (u1.heap.size + 1 + 1 + 1 + 1 + 1) 210 #[.iface 204 (.pointer (some ⟨u1.heap.size + 1 + 1, 0, none⟩)), .int .i32 2, .string nm, .int .i32 3, .int .u8 0, .bool false, .bool false, .bool false], row (u1.heap.size + 1 + 1 + 1 + 1) 32 #[.iface 207 (.pointer (some ⟨u1.heap.size + 1 + 1 + 1 + 1 + 1, 0, none⟩)), .int .i32 1], row (u1.heap.size + 1 + 1 + 1) 32 #[.iface 204 (.pointer (some ⟨u1.heap.size + 1 + 1, 0, none⟩)), .int .i32 2], row (u1.heap.size + 1 + 1) 205 #[], row (u1.heap.size + 1) 32 #[.iface 204 (.pointer (some ⟨u1.heap.size + 1 + 1, 0, none⟩)), .int .i32 2], row (u1.heap.size) 32 #[.iface 207 (.pointer (some ⟨u1.heap.size + 1 + 1 + 1 + 1 + 1, 0, none⟩)), .int .i32 1], row (nd2) 188 nd3] X := by
    rw [← hW]
    exact (((((((((hO).alloc' _ (u1.heap.size) (by simp)).alloc' _ (u1.heap.size + 1) (by simp)).alloc' _ (u1.heap.size + 1 + 1) (by simp)).alloc' _ (u1.heap.size + 1 + 1 + 1) (by simp)).alloc' _ (u1.heap.size + 1 + 1 + 1 + 1) (by simp)).alloc' _ (u1.heap.size + 1 + 1 + 1 + 1 + 1) (by simp)).alloc' _ (u1.heap.size + 1 + 1 + 1 + 1 + 1 + 1) (by simp)).alloc' _ (u1.heap.size + 1 + 1 + 1 + 1 + 1 + 1 + 1) (by simp)).alloc' _ (u1.heap.size + 1 + 1 + 1 + 1 + 1 + 1 + 1 + 1) (by simp)
  clear hW hO
  generalize u1.heap.size + 1 + 1 + 1 + 1 + 1 + 1 + 1 + 1 = B6_8 at hN ⊢
  generalize u1.heap.size + 1 + 1 + 1 + 1 + 1 + 1 + 1 = B6_7 at hN ⊢
  generalize u1.heap.size + 1 + 1 + 1 + 1 + 1 + 1 = B6_6 at hN ⊢
  generalize u1.heap.size + 1 + 1 + 1 + 1 + 1 = B6_5 at hN ⊢
  generalize u1.heap.size + 1 + 1 + 1 + 1 = B6_4 at hN ⊢
  generalize u1.heap.size + 1 + 1 + 1 = B6_3 at hN ⊢
  generalize u1.heap.size + 1 + 1 = B6_2 at hN ⊢
  generalize u1.heap.size + 1 = B6_1 at hN ⊢
  generalize u1.heap.size = B6 at hN ⊢
  have hO := hN
  clear hN
  have hL := hO.apart
  have hX := hO.apartX
  have HL := Lib.hid hL
  have HX := Lib.hid hX
  clear hL hX
  have hP9 := hO.pick [9, 3] (by decide)
  have T9 := drefDot0 nd2 nd3 op B6_7 4 1 B6_5 2 3 nm 204 B6_2 _ _ _ hP9 pr4
  refine Calls.mono T9 ?_
  clear hP9 T9
  rintro e u8 ⟨rfl, hQ⟩
  have hN : Own w0 u8 [row (nd2) 188 nd3, row (B6_5) 210 #[.iface 204 (.pointer (some ⟨B6_2, 0, none⟩)), .int .i32 2, .string nm, .int .i32 3, .int .u8 0, .bool false, .bool false, .bool false], row (B6_8) 32 #[.iface 192 (.pointer (some ⟨B6_7, 0, none⟩)), .int .i32 4], row (B6_7) 194 #[.float .f64 v], row (B6_6) 32 #[.iface 192 (.pointer (some ⟨B6_7, 0, none⟩)), .int .i32 4], row (B6_4) 32 #[.iface 207 (.pointer (some ⟨B6_5, 0, none⟩)), .int .i32 1], row (B6_3) 32 #[.iface 204 (.pointer (some ⟨B6_2, 0, none⟩)), .int .i32 2], row (B6_2) 205 #[], row (B6_1) 32 #[.iface 204 (.pointer (some ⟨B6_2, 0, none⟩)), .int .i32 2], row (B6) 32 #[.iface 207 (.pointer (some ⟨B6_5, 0, none⟩)), .int .i32 1]] X := hQ.back HL.out HX.out [0, 1, 2, 4, 5, 6, 7, 8] (by decide) (by decide)
  clear hQ HL HX hO
  have hO := hN
  clear hN
  obtain ⟨c9_1_0, c9_1_1, c9_1_2, c9_1_3, c9_1_4, c9_1_5, c9_1_6, c9_1_7, lt9_1, y9_1, -⟩ := hO.k8 1 rfl
  obtain ⟨c9_2_0, c9_2_1, lt9_2, y9_2, -⟩ := hO.k2 2 rfl
  obtain ⟨c9_3_0, lt9_3, y9_3, -⟩ := hO.k1 3 rfl
  obtain ⟨c9_4_0, c9_4_1, lt9_4, y9_4, -⟩ := hO.k2 4 rfl
  obtain ⟨c9_5_0, c9_5_1, lt9_5, y9_5, -⟩ := hO.k2 5 rfl
  obtain ⟨c9_6_0, c9_6_1, lt9_6, y9_6, -⟩ := hO.k2 6 rfl
  obtain ⟨lt9_7, y9_7, -⟩ := hO.k0 7 rfl
  obtain ⟨c9_8_0, c9_8_1, lt9_8, y9_8, -⟩ := hO.k2 8 rfl
  obtain ⟨c9_9_0, c9_9_1, lt9_9, y9_9, -⟩ := hO.k2 9 rfl
  have HO := Lib.hid hO
  clear hO
  go_wp2_with (first | (go_at_call 7; go_in) | (go_at_call 8; go_in) | (go_at_call 9; go_in) | (go_at_call 10; go_in) | (go_at_call 11; go_in) | (go_at_call 12; go_in) | (go_at_call 16; go_in) | (go_at_call 17; go_in) | (go_at_call 15; go_in))
  have hO := HO.out
  clear HO c9_1_0 c9_1_1 c9_1_2 c9_1_3 c9_1_4 c9_1_5 c9_1_6 c9_1_7 lt9_1 y9_1 c9_2_0 c9_2_1 lt9_2 y9_2 c9_3_0 lt9_3 y9_3 c9_4_0 c9_4_1 lt9_4 y9_4 c9_5_0 c9_5_1 lt9_5 y9_5 c9_6_0 c9_6_1 lt9_6 y9_6 lt9_7 y9_7 c9_8_0 c9_8_1 lt9_8 y9_8 c9_9_0 c9_9_1 lt9_9 y9_9
  generalize hW : World.alloc _ _ = W10
  have hN : Own w0 W10 [row (u8.heap.size) 32 #[.nilIface, .int .i32 0], row (nd2) 188 nd3, row (B6_5) 210 #[.iface 204 (.pointer (some ⟨B6_2, 0, none⟩)), .int .i32 2, .string nm, .int .i32 3, .int .u8 0, .bool false, .bool false, .bool false], row (B6_8) 32 #[.iface 192 (.pointer (some ⟨B6_7, 0, none⟩)), .int .i32 4], row (B6_7) 194 #[.float .f64 v], row (B6_6) 32 #[.iface 192 (.pointer (some ⟨B6_7, 0, none⟩)), .int .i32 4], row (B6_4) 32 #[.iface 207 (.pointer (some ⟨B6_5, 0, none⟩)), .int .i32 1], row (B6_3) 32 #[.iface 204 (.pointer (some ⟨B6_2, 0, none⟩)), .int .i32 2], row (B6_2) 205 #[], row (B6_1) 32 #[.iface 204 (.pointer (some ⟨B6_2, 0, none⟩)), .int .i32 2], row (B6) 32 #[.iface 207 (.pointer (some ⟨B6_5, 0, none⟩)), .int .i32 1]] X := by
    rw [← hW]
    exact (hO).alloc' _ (u8.heap.size) (by simp)
  clear hW hO
  generalize u8.heap.size = B9 at hN ⊢
  have hO := hN
  clear hN
  have hL := hO.apart
  have hX := hO.apartX
  have HL := Lib.hid hL
  have HX := Lib.hid hX
  clear hL hX
  have hP9 := hO.pick [1] (by decide)
  have T9 := sc42 nd2 nd3 _ _ _ hP9 pr5
  refine Calls.mono T9 ?_
  clear hP9 T9
  rintro e u11 ⟨rfl, hQ⟩
  have hN : Own w0 u11 [row (nd2) 188 nd3, row (B9) 32 #[.nilIface, .int .i32 0], row (B6_5) 210 #[.iface 204 (.pointer (some ⟨B6_2, 0, none⟩)), .int .i32 2, .string nm, .int .i32 3, .int .u8 0, .bool false, .bool false, .bool false], row (B6_8) 32 #[.iface 192 (.pointer (some ⟨B6_7, 0, none⟩)), .int .i32 4], row (B6_7) 194 #[.float .f64 v], row (B6_6) 32 #[.iface 192 (.pointer (some ⟨B6_7, 0, none⟩)), .int .i32 4], row (B6_4) 32 #[.iface 207 (.pointer (some ⟨B6_5, 0, none⟩)), .int .i32 1], row (B6_3) 32 #[.iface 204 (.pointer (some ⟨B6_2, 0, none⟩)), .int .i32 2], row (B6_2) 205 #[], row (B6_1) 32 #[.iface 204 (.pointer (some ⟨B6_2, 0, none⟩)), .int .i32 2], row (B6) 32 #[.iface 207 (.pointer (some ⟨B6_5, 0, none⟩)), .int .i32 1]] X := hQ.back HL.out HX.out [0, 2, 3, 4, 5, 6, 7, 8, 9, 10] (by decide) (by decide)
  clear hQ HL HX hO
  have hO := hN
  clear hN
  obtain ⟨c9_1_0, c9_1_1, lt9_1, y9_1, -⟩ := hO.k2 1 rfl
  obtain ⟨c9_2_0, c9_2_1, c9_2_2, c9_2_3, c9_2_4, c9_2_5, c9_2_6, c9_2_7, lt9_2, y9_2, -⟩ := hO.k8 2 rfl
  obtain ⟨c9_3_0, c9_3_1, lt9_3, y9_3, -⟩ := hO.k2 3 rfl
  obtain ⟨c9_4_0, lt9_4, y9_4, -⟩ := hO.k1 4 rfl
  obtain ⟨c9_5_0, c9_5_1, lt9_5, y9_5, -⟩ := hO.k2 5 rfl
  obtain ⟨c9_6_0, c9_6_1, lt9_6, y9_6, -⟩ := hO.k2 6 rfl
  obtain ⟨c9_7_0, c9_7_1, lt9_7, y9_7, -⟩ := hO.k2 7 rfl
  obtain ⟨lt9_8, y9_8, -⟩ := hO.k0 8 rfl
  obtain ⟨c9_9_0, c9_9_1, lt9_9, y9_9, -⟩ := hO.k2 9 rfl
  obtain ⟨c9_10_0, c9_10_1, lt9_10, y9_10, -⟩ := hO.k2 10 rfl
  have HO := Lib.hid hO
  clear hO
  go_wp2_with (first | (go_at_call 7; go_in) | (go_at_call 8; go_in) | (go_at_call 9; go_in) | (go_at_call 10; go_in) | (go_at_call 11; go_in) | (go_at_call 12; go_in) | (go_at_call 16; go_in) | (go_at_call 17; go_in) | (go_at_call 15; go_in))
  have hO := HO.out
  clear HO c9_1_0 c9_1_1 lt9_1 y9_1 c9_2_0 c9_2_1 c9_2_2 c9_2_3 c9_2_4 c9_2_5 c9_2_6 c9_2_7 lt9_2 y9_2 c9_3_0 c9_3_1 lt9_3 y9_3 c9_4_0 lt9_4 y9_4 c9_5_0 c9_5_1 lt9_5 y9_5 c9_6_0 c9_6_1 lt9_6 y9_6 c9_7_0 c9_7_1 lt9_7 y9_7 lt9_8 y9_8 c9_9_0 c9_9_1 lt9_9 y9_9 c9_10_0 c9_10_1 lt9_10 y9_10
  refine bodyPost_ret (v := .bool true) ?_ rfl ⟨rfl, hO.sub [] (by decide)⟩
  simp [results, Tryz.results4, go_sem]
def law18k30Post (x : Int) (g : Bool) (op : Int) (nm : ByteArray) (v : Nat) (w0 : World) (X : Nat → Obj → Prop) (e : Ending) (w' : World) : Prop :=
  e = .returned (.bool true) ∧ Own w0 w' [] X
set_option maxRecDepth 100000 in
set_option maxHeartbeats 1000000 in
theorem law18k30 (x : Int) (g : Bool) (op : Int) (nm : ByteArray) (v : Nat) (w0 w : World) (X : Nat → Obj → Prop) (hO : Own w0 w [] X) (hlen : nm.size ≤ 1048576) :
    Calls Tryz.prog 4 #[.int .i64 3, .int .u64 x, .bool false, .bool g, .int .u8 op, .string nm, .float .f64 v] w (law18k30Post x g op nm v w0 X) := by
  go_enter Tryz.func4, Tryz.ntmps4
  have hl9 : (nm.size : Int) ≤ 1048576 := by omega
  go_wp2_with (first | (go_at_call 7; go_in) | (go_at_call 8; go_in) | (go_at_call 9; go_in) | (go_at_call 10; go_in) | (go_at_call 11; go_in) | (go_at_call 12; go_in) | (go_at_call 16; go_in) | (go_at_call 17; go_in) | (go_at_call 15; go_in))
  have hL := hO.apart
  have hX := hO.apartX
  have HL := Lib.hid hL
  have HX := Lib.hid hX
  clear hL hX
  have hP9 := hO.pick [] (by decide)
  have T9 := new42 x g false _ _ _ hP9 
  refine Calls.mono T9 ?_
  clear hP9 T9
  rintro e u1 ⟨nd2, nd3, rfl, pr4, pr5, hQ⟩
  have hN : Own w0 u1 [row (nd2) 188 nd3] X := hQ.back HL.out HX.out [] (by decide) (by decide)
  clear hQ HL HX hO
  have hO := hN
  clear hN
  go_wp2_with (first | (go_at_call 7; go_in) | (go_at_call 8; go_in) | (go_at_call 9; go_in) | (go_at_call 10; go_in) | (go_at_call 11; go_in) | (go_at_call 12; go_in) | (go_at_call 16; go_in) | (go_at_call 17; go_in) | (go_at_call 15; go_in))
  generalize hW : World.alloc _ _ = W7
  have hN : Own w0 W7 [row (u1.heap.size + 1 + 1 + 1 + 1 + 1 + 1 + 1 + 1 + 1 + 1 + 1) 32 #[.iface 192 (.pointer (some ⟨u1.heap.size + 1 + 1 + 1 + 1 + 1 + 1 + 1 + 1 + 1 + 1, 0, none⟩)), .int .i32 4], row (u1.heap.size + 1 + 1 + 1 + 1 + 1 + 1 + 1 + 1 + 1 + 1) 194 #[.float .f64 v], row (u1.heap.size + 1 + 1 + 1 + 1 + 1 + 1 + 1 + 1 + 1) 32 #[.iface 192 (.pointer (some ⟨u1.heap.size + 1 + 1 + 1 + 1 + 1 + 1 + 1 + 1 + 1 + 1, 0, none⟩)), .int .i32 4], row (u1.heap.size + 1 + 1 + 1 + 1 + 1 + 1 + 1 + 1) 213 #[.iface 204 (.pointer (some ⟨u1.heap.size + 1 + 1, 0, none⟩)), .int .i32 2, .iface 192 (.pointer (some ⟨u1.heap.size + 1 + 1 + 1 + 1, 0, none⟩)), .int .i32 3, .int .i32 0, .int .u8 0, .bool false, .bool false, .bool false], row (u1.heap.size + 1 + 1 + 1 + 1 + 1 + 1 + 1) 32 #[.iface 211 (.pointer (some ⟨u1.heap.size + 1 + 1 + 1 + 1 + 1 + 1 + 1 + 1, 0, none⟩)), .int .i32 1], row (u1.heap.size + 1 + 1 + 1 + 1 + 1 + 1) 32 #[.iface 192 (.pointer (some ⟨u1.heap.size + 1 + 1 + 1 + 1, 0, none⟩)), .int .i32 3], row (u1.heap.size + 1 + 1 + 1 + 1 + 1) 32 #[.iface 204 (.pointer (some ⟨u1.heap.size + 1 + 1, 0, none⟩)), .int .i32 2], row (u1.heap.size + 1 + 1 + 1 + 1) 194 #[.float .f64 v], row (u1.heap.size + 1 + 1 + 1) 32 #[.iface 192 (.pointer (some ⟨u1.heap.size + 1 + 1 + 1 + 1, 0, none⟩)), .int .i32 3], row (u1.heap.size + 1 + 1) 205 #[], row (u1.heap.size + 1) 32 #[.iface 204 (.pointer (some ⟨u1.heap.size + 1 + 1, 0, none⟩)), .int .i32 2], row (u1.heap.size) 32 #[.iface 211 (.pointer (some ⟨u1.heap.size + 1 + 1 + 1 + 1 + 1 + 1 + 1 + 1, 0, none⟩)), .int .i32 1], row (nd2) 188 nd3] X := by
    rw [← hW]
    exact ((((((((((((hO).alloc' _ (u1.heap.size) (by simp)).alloc' _ (u1.heap.size + 1) (by simp)).alloc' _ (u1.heap.size + 1 + 1) (by simp)).alloc' _ (u1.heap.size + 1 + 1 + 1) (by simp)).alloc' _ (u1.heap.size + 1 + 1 + 1 + 1) (by simp)).alloc' _ (u1.heap.size + 1 + 1 + 1 + 1 + 1) (by simp)).alloc' _ (u1.heap.size + 1 + 1 + 1 + 1 + 1 + 1) (by simp)).alloc' _ (u1.heap.size + 1 + 1 + 1 + 1 + 1 + 1 + 1) (by simp)).alloc' _ (u1.heap.size + 1 + 1 + 1 + 1 + 1 + 1 + 1 + 1) (by simp)).alloc' _ (u1.heap.size + 1 + 1 + 1 + 1 + 1 + 1 + 1 + 1 + 1) (by simp)).alloc' _ (u1.heap.size + 1 + 1 + 1 + 1 + 1 + 1 + 1 + 1 + 1 + 1) (by simp)).alloc' _ (u1.heap.size + 1 + 1 + 1 + 1 + 1 + 1 + 1 + 1 + 1 + 1 + 1) (by simp)
  clear hW hO
  generalize u1.heap.size + 1 + 1 + 1 + 1 + 1 + 1 + 1 + 1 + 1 + 1 + 1 = B6_11 at hN ⊢
  generalize u1.heap.size + 1 + 1 + 1 + 1 + 1 + 1 + 1 + 1 + 1 + 1 = B6_10 at hN ⊢
  generalize u1.heap.size + 1 + 1 + 1 + 1 + 1 + 1 + 1 + 1 + 1 = B6_9 at hN ⊢
  generalize u1.heap.size + 1 + 1 + 1 + 1 + 1 + 1 + 1 + 1 = B6_8 at hN ⊢
  generalize u1.heap.size + 1 + 1 + 1 + 1 + 1 + 1 + 1 = B6_7 at hN ⊢
  generalize u1.heap.size + 1 + 1 + 1 + 1 + 1 + 1 = B6_6 at hN ⊢
  generalize u1.heap.size + 1 + 1 + 1 + 1 + 1 = B6_5 at hN ⊢
  generalize u1.heap.size + 1 + 1 + 1 + 1 = B6_4 at hN ⊢
  generalize u1.heap.size + 1 + 1 + 1 = B6_3 at hN ⊢
  generalize u1.heap.size + 1 + 1 = B6_2 at hN ⊢
  generalize u1.heap.size + 1 = B6_1 at hN ⊢
  generalize u1.heap.size = B6 at hN ⊢
  have hO := hN
  clear hN
  have hL := hO.apart
  have hX := hO.apartX
  have HL := Lib.hid hL
  have HX := Lib.hid hX
  clear hL hX
  have hP9 := hO.pick [12, 3] (by decide)
  have h9_hJ : 192 ≠ 240 := (by decide)
  have T9 := drefIdx0 nd2 nd3 op B6_10 4 1 B6_8 2 3 192 B6_4 204 B6_2 _ _ _ hP9 pr4 h9_hJ
  refine Calls.mono T9 ?_
  clear hP9 T9 h9_hJ
  rintro e u8 ⟨rfl, hQ⟩
  have hN : Own w0 u8 [row (nd2) 188 nd3, row (B6_8) 213 #[.iface 204 (.pointer (some ⟨B6_2, 0, none⟩)), .int .i32 2, .iface 192 (.pointer (some ⟨B6_4, 0, none⟩)), .int .i32 3, .int .i32 0, .int .u8 0, .bool false, .bool false, .bool false], row (B6_11) 32 #[.iface 192 (.pointer (some ⟨B6_10, 0, none⟩)), .int .i32 4], row (B6_10) 194 #[.float .f64 v], row (B6_9) 32 #[.iface 192 (.pointer (some ⟨B6_10, 0, none⟩)), .int .i32 4], row (B6_7) 32 #[.iface 211 (.pointer (some ⟨B6_8, 0, none⟩)), .int .i32 1], row (B6_6) 32 #[.iface 192 (.pointer (some ⟨B6_4, 0, none⟩)), .int .i32 3], row (B6_5) 32 #[.iface 204 (.pointer (some ⟨B6_2, 0, none⟩)), .int .i32 2], row (B6_4) 194 #[.float .f64 v], row (B6_3) 32 #[.iface 192 (.pointer (some ⟨B6_4, 0, none⟩)), .int .i32 3], row (B6_2) 205 #[], row (B6_1) 32 #[.iface 204 (.pointer (some ⟨B6_2, 0, none⟩)), .int .i32 2], row (B6) 32 #[.iface 211 (.pointer (some ⟨B6_8, 0, none⟩)), .int .i32 1]] X := hQ.back HL.out HX.out [0, 1, 2, 4, 5, 6, 7, 8, 9, 10, 11] (by decide) (by decide)
  clear hQ HL HX hO
  have hO := hN
  clear hN
  obtain ⟨c9_1_0, c9_1_1, c9_1_2, c9_1_3, c9_1_4, c9_1_5, c9_1_6, c9_1_7, c9_1_8, lt9_1, y9_1, -⟩ := hO.k9 1 rfl
  obtain ⟨c9_2_0, c9_2_1, lt9_2, y9_2, -⟩ := hO.k2 2 rfl
  obtain ⟨c9_3_0, lt9_3, y9_3, -⟩ := hO.k1 3 rfl
  obtain ⟨c9_4_0, c9_4_1, lt9_4, y9_4, -⟩ := hO.k2 4 rfl
  obtain ⟨c9_5_0, c9_5_1, lt9_5, y9_5, -⟩ := hO.k2 5 rfl
  obtain ⟨c9_6_0, c9_6_1, lt9_6, y9_6, -⟩ := hO.k2 6 rfl
  obtain ⟨c9_7_0, c9_7_1, lt9_7, y9_7, -⟩ := hO.k2 7 rfl
  obtain ⟨c9_8_0, lt9_8, y9_8, -⟩ := hO.k1 8 rfl
  obtain ⟨c9_9_0, c9_9_1, lt9_9, y9_9, -⟩ := hO.k2 9 rfl
  obtain ⟨lt9_10, y9_10, -⟩ := hO.k0 10 rfl
  obtain ⟨c9_11_0, c9_11_1, lt9_11, y9_11, -⟩ := hO.k2 11 rfl
  obtain ⟨c9_12_0, c9_12_1, lt9_12, y9_12, -⟩ := hO.k2 12 rfl
  have HO := Lib.hid hO
  clear hO
  go_wp2_with (first | (go_at_call 7; go_in) | (go_at_call 8; go_in) | (go_at_call 9; go_in) | (go_at_call 10; go_in) | (go_at_call 11; go_in) | (go_at_call 12; go_in) | (go_at_call 16; go_in) | (go_at_call 17; go_in) | (go_at_call 15; go_in))
  have hO := HO.out
  clear HO c9_1_0 c9_1_1 c9_1_2 c9_1_3 c9_1_4 c9_1_5 c9_1_6 c9_1_7 c9_1_8 lt9_1 y9_1 c9_2_0 c9_2_1 lt9_2 y9_2 c9_3_0 lt9_3 y9_3 c9_4_0 c9_4_1 lt9_4 y9_4 c9_5_0 c9_5_1 lt9_5 y9_5 c9_6_0 c9_6_1 lt9_6 y9_6 c9_7_0 c9_7_1 lt9_7 y9_7 c9_8_0 lt9_8 y9_8 c9_9_0 c9_9_1 lt9_9 y9_9 lt9_10 y9_10 c9_11_0 c9_11_1 lt9_11 y9_11 c9_12_0 c9_12_1 lt9_12 y9_12
  generalize hW : World.alloc _ _ = W10
  have hN : Own w0 W10 [row (u8.heap.size) 32 #[.nilIface, .int .i32 0], row (nd2) 188 nd3, row (B6_8) 213 #[.iface 204 (.pointer (some ⟨B6_2, 0, none⟩)), .int .i32 2, .iface 192 (.pointer (some ⟨B6_4, 0, none⟩)), .int .i32 3, .int .i32 0, .int .u8 0, .bool false, .bool false, .bool false], row (B6_11) 32 #[.iface 192 (.pointer (some ⟨B6_10, 0, none⟩)), .int .i32 4], row (B6_10) 194 #[.float .f64 v], row (B6_9) 32 #[.iface 192 (.pointer (some ⟨B6_10, 0, none⟩)), .int .i32 4], row (B6_7) 32 #[.iface 211 (.pointer (some ⟨B6_8, 0, none⟩)), .int .i32 1], row (B6_6) 32 #[.iface 192 (.pointer (some ⟨B6_4, 0, none⟩)), .int .i32 3], row (B6_5) 32 #[.iface 204 (.pointer (some ⟨B6_2, 0, none⟩)), .int .i32 2], row (B6_4) 194 #[.float .f64 v], row (B6_3) 32 #[.iface 192 (.pointer (some ⟨B6_4, 0, none⟩)), .int .i32 3], row (B6_2) 205 #[], row (B6_1) 32 #[.iface 204 (.pointer (some ⟨B6_2, 0, none⟩)), .int .i32 2], row (B6) 32 #[.iface 211 (.pointer (some ⟨B6_8, 0, none⟩)), .int .i32 1]] X := by
    rw [← hW]
    exact (hO).alloc' _ (u8.heap.size) (by simp)
  clear hW hO
  generalize u8.heap.size = B9 at hN ⊢
  have hO := hN
  clear hN
  have hL := hO.apart
  have hX := hO.apartX
  have HL := Lib.hid hL
  have HX := Lib.hid hX
  clear hL hX
  have hP9 := hO.pick [1] (by decide)
  have T9 := sc42 nd2 nd3 _ _ _ hP9 pr5
  refine Calls.mono T9 ?_
  clear hP9 T9
  rintro e u11 ⟨rfl, hQ⟩
  have hN : Own w0 u11 [row (nd2) 188 nd3, row (B9) 32 #[.nilIface, .int .i32 0], row (B6_8) 213 #[.iface 204 (.pointer (some ⟨B6_2, 0, none⟩)), .int .i32 2, .iface 192 (.pointer (some ⟨B6_4, 0, none⟩)), .int .i32 3, .int .i32 0, .int .u8 0, .bool false, .bool false, .bool false], row (B6_11) 32 #[.iface 192 (.pointer (some ⟨B6_10, 0, none⟩)), .int .i32 4], row (B6_10) 194 #[.float .f64 v], row (B6_9) 32 #[.iface 192 (.pointer (some ⟨B6_10, 0, none⟩)), .int .i32 4], row (B6_7) 32 #[.iface 211 (.pointer (some ⟨B6_8, 0, none⟩)), .int .i32 1], row (B6_6) 32 #[.iface 192 (.pointer (some ⟨B6_4, 0, none⟩)), .int .i32 3], row (B6_5) 32 #[.iface 204 (.pointer (some ⟨B6_2, 0, none⟩)), .int .i32 2], row (B6_4) 194 #[.float .f64 v], row (B6_3) 32 #[.iface 192 (.pointer (some ⟨B6_4, 0, none⟩)), .int .i32 3], row (B6_2) 205 #[], row (B6_1) 32 #[.iface 204 (.pointer (some ⟨B6_2, 0, none⟩)), .int .i32 2], row (B6) 32 #[.iface 211 (.pointer (some ⟨B6_8, 0, none⟩)), .int .i32 1]] X := hQ.back HL.out HX.out [0, 2, 3, 4, 5, 6, 7, 8, 9, 10, 11, 12, 13] (by decide) (by decide)
  clear hQ HL HX hO
  have hO := hN
  clear hN
  obtain ⟨c9_1_0, c9_1_1, lt9_1, y9_1, -⟩ := hO.k2 1 rfl
  obtain ⟨c9_2_0, c9_2_1, c9_2_2, c9_2_3, c9_2_4, c9_2_5, c9_2_6, c9_2_7, c9_2_8, lt9_2, y9_2, -⟩ := hO.k9 2 rfl
  obtain ⟨c9_3_0, c9_3_1, lt9_3, y9_3, -⟩ := hO.k2 3 rfl
  obtain ⟨c9_4_0, lt9_4, y9_4, -⟩ := hO.k1 4 rfl
  obtain ⟨c9_5_0, c9_5_1, lt9_5, y9_5, -⟩ := hO.k2 5 rfl
  obtain ⟨c9_6_0, c9_6_1, lt9_6, y9_6, -⟩ := hO.k2 6 rfl
  obtain ⟨c9_7_0, c9_7_1, lt9_7, y9_7, -⟩ := hO.k2 7 rfl
  obtain ⟨c9_8_0, c9_8_1, lt9_8, y9_8, -⟩ := hO.k2 8 rfl
  obtain ⟨c9_9_0, lt9_9, y9_9, -⟩ := hO.k1 9 rfl
  obtain ⟨c9_10_0, c9_10_1, lt9_10, y9_10, -⟩ := hO.k2 10 rfl
  obtain ⟨lt9_11, y9_11, -⟩ := hO.k0 11 rfl
  obtain ⟨c9_12_0, c9_12_1, lt9_12, y9_12, -⟩ := hO.k2 12 rfl
  obtain ⟨c9_13_0, c9_13_1, lt9_13, y9_13, -⟩ := hO.k2 13 rfl
  have HO := Lib.hid hO
  clear hO
  go_wp2_with (first | (go_at_call 7; go_in) | (go_at_call 8; go_in) | (go_at_call 9; go_in) | (go_at_call 10; go_in) | (go_at_call 11; go_in) | (go_at_call 12; go_in) | (go_at_call 16; go_in) | (go_at_call 17; go_in) | (go_at_call 15; go_in))
  have hO := HO.out
  clear HO c9_1_0 c9_1_1 lt9_1 y9_1 c9_2_0 c9_2_1 c9_2_2 c9_2_3 c9_2_4 c9_2_5 c9_2_6 c9_2_7 c9_2_8 lt9_2 y9_2 c9_3_0 c9_3_1 lt9_3 y9_3 c9_4_0 lt9_4 y9_4 c9_5_0 c9_5_1 lt9_5 y9_5 c9_6_0 c9_6_1 lt9_6 y9_6 c9_7_0 c9_7_1 lt9_7 y9_7 c9_8_0 c9_8_1 lt9_8 y9_8 c9_9_0 lt9_9 y9_9 c9_10_0 c9_10_1 lt9_10 y9_10 lt9_11 y9_11 c9_12_0 c9_12_1 lt9_12 y9_12 c9_13_0 c9_13_1 lt9_13 y9_13
  refine bodyPost_ret (v := .bool true) ?_ rfl ⟨rfl, hO.sub [] (by decide)⟩
  simp [results, Tryz.results4, go_sem]
def law18k40Post (x : Int) (g : Bool) (op : Int) (nm : ByteArray) (v : Nat) (w0 : World) (X : Nat → Obj → Prop) (e : Ending) (w' : World) : Prop :=
  e = .returned (.bool true) ∧ Own w0 w' [] X
set_option maxRecDepth 100000 in
set_option maxHeartbeats 1000000 in
theorem law18k40 (x : Int) (g : Bool) (op : Int) (nm : ByteArray) (v : Nat) (w0 w : World) (X : Nat → Obj → Prop) (hO : Own w0 w [] X) (hlen : nm.size ≤ 1048576) :
    Calls Tryz.prog 4 #[.int .i64 4, .int .u64 x, .bool false, .bool g, .int .u8 op, .string nm, .float .f64 v] w (law18k40Post x g op nm v w0 X) := by
  go_enter Tryz.func4, Tryz.ntmps4
  have hl9 : (nm.size : Int) ≤ 1048576 := by omega
  go_wp2_with (first | (go_at_call 7; go_in) | (go_at_call 8; go_in) | (go_at_call 9; go_in) | (go_at_call 10; go_in) | (go_at_call 11; go_in) | (go_at_call 12; go_in) | (go_at_call 16; go_in) | (go_at_call 17; go_in) | (go_at_call 15; go_in))
  have hL := hO.apart
  have hX := hO.apartX
  have HL := Lib.hid hL
  have HX := Lib.hid hX
  clear hL hX
  have hP9 := hO.pick [] (by decide)
  have T9 := new42 x g false _ _ _ hP9 
  refine Calls.mono T9 ?_
  clear hP9 T9
  rintro e u1 ⟨nd2, nd3, rfl, pr4, pr5, hQ⟩
  have hN : Own w0 u1 [row (nd2) 188 nd3] X := hQ.back HL.out HX.out [] (by decide) (by decide)
  clear hQ HL HX hO
  have hO := hN
  clear hN
  go_wp2_with (first | (go_at_call 7; go_in) | (go_at_call 8; go_in) | (go_at_call 9; go_in) | (go_at_call 10; go_in) | (go_at_call 11; go_in) | (go_at_call 12; go_in) | (go_at_call 16; go_in) | (go_at_call 17; go_in) | (go_at_call 15; go_in))
  generalize hW : World.alloc _ _ = W7
  have hN : Own w0 W7 [row (u1.heap.size + 1 + 1 + 1 + 1 + 1 + 1 + 1 + 1) 32 #[.iface 192 (.pointer (some ⟨u1.heap.size + 1 + 1 + 1 + 1 + 1 + 1 + 1, 0, none⟩)), .int .i32 4], row (u1.heap.size + 1 + 1 + 1 + 1 + 1 + 1 + 1) 194 #[.float .f64 v], row (u1.heap.size + 1 + 1 + 1 + 1 + 1 + 1) 32 #[.iface 192 (.pointer (some ⟨u1.heap.size + 1 + 1 + 1 + 1 + 1 + 1 + 1, 0, none⟩)), .int .i32 4], row (u1.heap.size + 1 + 1 + 1 + 1 + 1) 210 #[.iface 198 (.pointer (some ⟨u1.heap.size + 1 + 1, 0, none⟩)), .int .i32 2, .string nm, .int .i32 3, .int .u8 0, .bool false, .bool false, .bool false], row (u1.heap.size + 1 + 1 + 1 + 1) 32 #[.iface 207 (.pointer (some ⟨u1.heap.size + 1 + 1 + 1 + 1 + 1, 0, none⟩)), .int .i32 1], row (u1.heap.size + 1 + 1 + 1) 32 #[.iface 198 (.pointer (some ⟨u1.heap.size + 1 + 1, 0, none⟩)), .int .i32 2], row (u1.heap.size + 1 + 1) 200 #[], row (u1.heap.size + 1) 32 #[.iface 198 (.pointer (some ⟨u1.heap.size + 1 + 1, 0, none⟩)), .int .i32 2], row (u1.heap.size) 32 #[.iface 207 (.pointer (some ⟨u1.heap.size + 1 + 1 + 1 + 1 + 1, 0, none⟩)), .int .i32 1], row (nd2) 188 nd3] X := by
    rw [← hW]
    exact (((((((((hO).alloc' _ (u1.heap.size) (by simp)).alloc' _ (u1.heap.size + 1) (by simp)).alloc' _ (u1.heap.size + 1 + 1) (by simp)).alloc' _ (u1.heap.size + 1 + 1 + 1) (by simp)).alloc' _ (u1.heap.size + 1 + 1 + 1 + 1) (by simp)).alloc' _ (u1.heap.size + 1 + 1 + 1 + 1 + 1) (by simp)).alloc' _ (u1.heap.size + 1 + 1 + 1 + 1 + 1 + 1) (by simp)).alloc' _ (u1.heap.size + 1 + 1 + 1 + 1 + 1 + 1 + 1) (by simp)).alloc' _ (u1.heap.size + 1 + 1 + 1 + 1 + 1 + 1 + 1 + 1) (by simp)
  clear hW hO
  generalize u1.heap.size + 1 + 1 + 1 + 1 + 1 + 1 + 1 + 1 = B6_8 at hN ⊢
  generalize u1.heap.size + 1 + 1 + 1 + 1 + 1 + 1 + 1 = B6_7 at hN ⊢
  generalize u1.heap.size + 1 + 1 + 1 + 1 + 1 + 1 = B6_6 at hN ⊢
  generalize u1.heap.size + 1 + 1 + 1 + 1 + 1 = B6_5 at hN ⊢
  generalize u1.heap.size + 1 + 1 + 1 + 1 = B6_4 at hN ⊢
  generalize u1.heap.size + 1 + 1 + 1 = B6_3 at hN ⊢
  generalize u1.heap.size + 1 + 1 = B6_2 at hN ⊢
  generalize u1.heap.size + 1 = B6_1 at hN ⊢
  generalize u1.heap.size = B6 at hN ⊢
  have hO := hN
  clear hN
  have hL := hO.apart
  have hX := hO.apartX
  have HL := Lib.hid hL
  have HX := Lib.hid hX
  clear hL hX
  have hP9 := hO.pick [9, 3] (by decide)
  have T9 := drefDot0 nd2 nd3 op B6_7 4 1 B6_5 2 3 nm 198 B6_2 _ _ _ hP9 pr4
  refine Calls.mono T9 ?_
  clear hP9 T9
  rintro e u8 ⟨rfl, hQ⟩
  have hN : Own w0 u8 [row (nd2) 188 nd3, row (B6_5) 210 #[.iface 198 (.pointer (some ⟨B6_2, 0, none⟩)), .int .i32 2, .string nm, .int .i32 3, .int .u8 0, .bool false, .bool false, .bool false], row (B6_8) 32 #[.iface 192 (.pointer (some ⟨B6_7, 0, none⟩)), .int .i32 4], row (B6_7) 194 #[.float .f64 v], row (B6_6) 32 #[.iface 192 (.pointer (some ⟨B6_7, 0, none⟩)), .int .i32 4], row (B6_4) 32 #[.iface 207 (.pointer (some ⟨B6_5, 0, none⟩)), .int .i32 1], row (B6_3) 32 #[.iface 198 (.pointer (some ⟨B6_2, 0, none⟩)), .int .i32 2], row (B6_2) 200 #[], row (B6_1) 32 #[.iface 198 (.pointer (some ⟨B6_2, 0, none⟩)), .int .i32 2], row (B6) 32 #[.iface 207 (.pointer (some ⟨B6_5, 0, none⟩)), .int .i32 1]] X := hQ.back HL.out HX.out [0, 1, 2, 4, 5, 6, 7, 8] (by decide) (by decide)
  clear hQ HL HX hO
  have hO := hN
  clear hN
  obtain ⟨c9_1_0, c9_1_1, c9_1_2, c9_1_3, c9_1_4, c9_1_5, c9_1_6, c9_1_7, lt9_1, y9_1, -⟩ := hO.k8 1 rfl
  obtain ⟨c9_2_0, c9_2_1, lt9_2, y9_2, -⟩ := hO.k2 2 rfl
  obtain ⟨c9_3_0, lt9_3, y9_3, -⟩ := hO.k1 3 rfl
  obtain ⟨c9_4_0, c9_4_1, lt9_4, y9_4, -⟩ := hO.k2 4 rfl
  obtain ⟨c9_5_0, c9_5_1, lt9_5, y9_5, -⟩ := hO.k2 5 rfl
  obtain ⟨c9_6_0, c9_6_1, lt9_6, y9_6, -⟩ := hO.k2 6 rfl
  obtain ⟨lt9_7, y9_7, -⟩ := hO.k0 7 rfl
  obtain ⟨c9_8_0, c9_8_1, lt9_8, y9_8, -⟩ := hO.k2 8 rfl
  obtain ⟨c9_9_0, c9_9_1, lt9_9, y9_9, -⟩ := hO.k2 9 rfl
  have HO := Lib.hid hO
  clear hO
  go_wp2_with (first | (go_at_call 7; go_in) | (go_at_call 8; go_in) | (go_at_call 9; go_in) | (go_at_call 10; go_in) | (go_at_call 11; go_in) | (go_at_call 12; go_in) | (go_at_call 16; go_in) | (go_at_call 17; go_in) | (go_at_call 15; go_in))
  have hO := HO.out
  clear HO c9_1_0 c9_1_1 c9_1_2 c9_1_3 c9_1_4 c9_1_5 c9_1_6 c9_1_7 lt9_1 y9_1 c9_2_0 c9_2_1 lt9_2 y9_2 c9_3_0 lt9_3 y9_3 c9_4_0 c9_4_1 lt9_4 y9_4 c9_5_0 c9_5_1 lt9_5 y9_5 c9_6_0 c9_6_1 lt9_6 y9_6 lt9_7 y9_7 c9_8_0 c9_8_1 lt9_8 y9_8 c9_9_0 c9_9_1 lt9_9 y9_9
  generalize hW : World.alloc _ _ = W10
  have hN : Own w0 W10 [row (u8.heap.size) 32 #[.nilIface, .int .i32 0], row (nd2) 188 nd3, row (B6_5) 210 #[.iface 198 (.pointer (some ⟨B6_2, 0, none⟩)), .int .i32 2, .string nm, .int .i32 3, .int .u8 0, .bool false, .bool false, .bool false], row (B6_8) 32 #[.iface 192 (.pointer (some ⟨B6_7, 0, none⟩)), .int .i32 4], row (B6_7) 194 #[.float .f64 v], row (B6_6) 32 #[.iface 192 (.pointer (some ⟨B6_7, 0, none⟩)), .int .i32 4], row (B6_4) 32 #[.iface 207 (.pointer (some ⟨B6_5, 0, none⟩)), .int .i32 1], row (B6_3) 32 #[.iface 198 (.pointer (some ⟨B6_2, 0, none⟩)), .int .i32 2], row (B6_2) 200 #[], row (B6_1) 32 #[.iface 198 (.pointer (some ⟨B6_2, 0, none⟩)), .int .i32 2], row (B6) 32 #[.iface 207 (.pointer (some ⟨B6_5, 0, none⟩)), .int .i32 1]] X := by
    rw [← hW]
    exact (hO).alloc' _ (u8.heap.size) (by simp)
  clear hW hO
  generalize u8.heap.size = B9 at hN ⊢
  have hO := hN
  clear hN
  have hL := hO.apart
  have hX := hO.apartX
  have HL := Lib.hid hL
  have HX := Lib.hid hX
  clear hL hX
  have hP9 := hO.pick [1] (by decide)
  have T9 := sc42 nd2 nd3 _ _ _ hP9 pr5
  refine Calls.mono T9 ?_
  clear hP9 T9
  rintro e u11 ⟨rfl, hQ⟩
  have hN : Own w0 u11 [row (nd2) 188 nd3, row (B9) 32 #[.nilIface, .int .i32 0], row (B6_5) 210 #[.iface 198 (.pointer (some ⟨B6_2, 0, none⟩)), .int .i32 2, .string nm, .int .i32 3, .int .u8 0, .bool false, .bool false, .bool false], row (B6_8) 32 #[.iface 192 (.pointer (some ⟨B6_7, 0, none⟩)), .int .i32 4], row (B6_7) 194 #[.float .f64 v], row (B6_6) 32 #[.iface 192 (.pointer (some ⟨B6_7, 0, none⟩)), .int .i32 4], row (B6_4) 32 #[.iface 207 (.pointer (some ⟨B6_5, 0, none⟩)), .int .i32 1], row (B6_3) 32 #[.iface 198 (.pointer (some ⟨B6_2, 0, none⟩)), .int .i32 2], row (B6_2) 200 #[], row (B6_1) 32 #[.iface 198 (.pointer (some ⟨B6_2, 0, none⟩)), .int .i32 2], row (B6) 32 #[.iface 207 (.pointer (some ⟨B6_5, 0, none⟩)), .int .i32 1]] X := hQ.back HL.out HX.out [0, 2, 3, 4, 5, 6, 7, 8, 9, 10] (by decide) (by decide)
  clear hQ HL HX hO
  have hO := hN
  clear hN
  obtain ⟨c9_1_0, c9_1_1, lt9_1, y9_1, -⟩ := hO.k2 1 rfl
  obtain ⟨c9_2_0, c9_2_1, c9_2_2, c9_2_3, c9_2_4, c9_2_5, c9_2_6, c9_2_7, lt9_2, y9_2, -⟩ := hO.k8 2 rfl
  obtain ⟨c9_3_0, c9_3_1, lt9_3, y9_3, -⟩ := hO.k2 3 rfl
  obtain ⟨c9_4_0, lt9_4, y9_4, -⟩ := hO.k1 4 rfl
  obtain ⟨c9_5_0, c9_5_1, lt9_5, y9_5, -⟩ := hO.k2 5 rfl
  obtain ⟨c9_6_0, c9_6_1, lt9_6, y9_6, -⟩ := hO.k2 6 rfl
  obtain ⟨c9_7_0, c9_7_1, lt9_7, y9_7, -⟩ := hO.k2 7 rfl
  obtain ⟨lt9_8, y9_8, -⟩ := hO.k0 8 rfl
  obtain ⟨c9_9_0, c9_9_1, lt9_9, y9_9, -⟩ := hO.k2 9 rfl
  obtain ⟨c9_10_0, c9_10_1, lt9_10, y9_10, -⟩ := hO.k2 10 rfl
  have HO := Lib.hid hO
  clear hO
  go_wp2_with (first | (go_at_call 7; go_in) | (go_at_call 8; go_in) | (go_at_call 9; go_in) | (go_at_call 10; go_in) | (go_at_call 11; go_in) | (go_at_call 12; go_in) | (go_at_call 16; go_in) | (go_at_call 17; go_in) | (go_at_call 15; go_in))
  have hO := HO.out
  clear HO c9_1_0 c9_1_1 lt9_1 y9_1 c9_2_0 c9_2_1 c9_2_2 c9_2_3 c9_2_4 c9_2_5 c9_2_6 c9_2_7 lt9_2 y9_2 c9_3_0 c9_3_1 lt9_3 y9_3 c9_4_0 lt9_4 y9_4 c9_5_0 c9_5_1 lt9_5 y9_5 c9_6_0 c9_6_1 lt9_6 y9_6 c9_7_0 c9_7_1 lt9_7 y9_7 lt9_8 y9_8 c9_9_0 c9_9_1 lt9_9 y9_9 c9_10_0 c9_10_1 lt9_10 y9_10
  refine bodyPost_ret (v := .bool true) ?_ rfl ⟨rfl, hO.sub [] (by decide)⟩
  simp [results, Tryz.results4, go_sem]
def law18k41Post (x : Int) (g : Bool) (op : Int) (nm : ByteArray) (v : Nat) (w0 : World) (X : Nat → Obj → Prop) (e : Ending) (w' : World) : Prop :=
  e = .returned (.bool true) ∧ Own w0 w' [] X
set_option maxRecDepth 100000 in
set_option maxHeartbeats 1000000 in
theorem law18k41 (x : Int) (g : Bool) (op : Int) (nm : ByteArray) (v : Nat) (w0 w : World) (X : Nat → Obj → Prop) (hO : Own w0 w [] X) (hlen : nm.size ≤ 1048576) :
    Calls Tryz.prog 4 #[.int .i64 4, .int .u64 x, .bool true, .bool g, .int .u8 op, .string nm, .float .f64 v] w (law18k41Post x g op nm v w0 X) := by
  go_enter Tryz.func4, Tryz.ntmps4
  have hl9 : (nm.size : Int) ≤ 1048576 := by omega
  go_wp2_with (first | (go_at_call 7; go_in) | (go_at_call 8; go_in) | (go_at_call 9; go_in) | (go_at_call 10; go_in) | (go_at_call 11; go_in) | (go_at_call 12; go_in) | (go_at_call 16; go_in) | (go_at_call 17; go_in) | (go_at_call 15; go_in))
  have hL := hO.apart
  have hX := hO.apartX
  have HL := Lib.hid hL
  have HX := Lib.hid hX
  clear hL hX
  have hP9 := hO.pick [] (by decide)
  have T9 := new42 x g true _ _ _ hP9 
  refine Calls.mono T9 ?_
  clear hP9 T9
  rintro e u1 ⟨nd2, nd3, rfl, pr4, pr5, hQ⟩
  have hN : Own w0 u1 [row (nd2) 188 nd3] X := hQ.back HL.out HX.out [] (by decide) (by decide)
  clear hQ HL HX hO
  have hO := hN
  clear hN
  go_wp2_with (first | (go_at_call 7; go_in) | (go_at_call 8; go_in) | (go_at_call 9; go_in) | (go_at_call 10; go_in) | (go_at_call 11; go_in) | (go_at_call 12; go_in) | (go_at_call 16; go_in) | (go_at_call 17; go_in) | (go_at_call 15; go_in))
  generalize hW : World.alloc _ _ = W7
  have hN : Own w0 W7 [row (u1.heap.size + 1 + 1 + 1 + 1 + 1 + 1 + 1 + 1) 32 #[.iface 192 (.pointer (some ⟨u1.heap.size + 1 + 1 + 1 + 1 + 1 + 1 + 1, 0, none⟩)), .int .i32 4], row (u1.heap.size + 1 + 1 + 1 + 1 + 1 + 1 + 1) 194 #[.float .f64 v], row (u1.heap.size + 1 + 1 + 1 + 1 + 1 + 1) 32 #[.iface 192 (.pointer (some ⟨u1.heap.size + 1 + 1 + 1 + 1 + 1 + 1 + 1, 0, none⟩)), .int .i32 4], row (u1.heap.size + 1 + 1 + 1 + 1 + 1) 210 #[.iface 198 (.pointer (some ⟨u1.heap.size + 1 + 1, 0, none⟩)), .int .i32 2, .string nm, .int .i32 3, .int .u8 0, .bool false, .bool false, .bool false], row (u1.heap.size + 1 + 1 + 1 + 1) 32 #[.iface 207 (.pointer (some ⟨u1.heap.size + 1 + 1 + 1 + 1 + 1, 0, none⟩)), .int .i32 1], row (u1.heap.size + 1 + 1 + 1) 32 #[.iface 198 (.pointer (some ⟨u1.heap.size + 1 + 1, 0, none⟩)), .int .i32 2], row (u1.heap.size + 1 + 1) 200 #[], row (u1.heap.size + 1) 32 #[.iface 198 (.pointer (some ⟨u1.heap.size + 1 + 1, 0, none⟩)), .int .i32 2], row (u1.heap.size) 32 #[.iface 207 (.pointer (some ⟨u1.heap.size + 1 + 1 + 1 + 1 + 1, 0, none⟩)), .int .i32 1], row (nd2) 188 nd3] X := by
    rw [← hW]
    exact (((((((((hO).alloc' _ (u1.heap.size) (by simp)).alloc' _ (u1.heap.size + 1) (by simp)).alloc' _ (u1.heap.size + 1 + 1) (by simp)).alloc' _ (u1.heap.size + 1 + 1 + 1) (by simp)).alloc' _ (u1.heap.size + 1 + 1 + 1 + 1) (by simp)).alloc' _ (u1.heap.size + 1 + 1 + 1 + 1 + 1) (by simp)).alloc' _ (u1.heap.size + 1 + 1 + 1 + 1 + 1 + 1) (by simp)).alloc' _ (u1.heap.size + 1 + 1 + 1 + 1 + 1 + 1 + 1) (by simp)).alloc' _ (u1.heap.size + 1 + 1 + 1 + 1 + 1 + 1 + 1 + 1) (by simp)
  clear hW hO
  generalize u1.heap.size + 1 + 1 + 1 + 1 + 1 + 1 + 1 + 1 = B6_8 at hN ⊢
  generalize u1.heap.size + 1 + 1 + 1 + 1 + 1 + 1 + 1 = B6_7 at hN ⊢
  generalize u1.heap.size + 1 + 1 + 1 + 1 + 1 + 1 = B6_6 at hN ⊢
  generalize u1.heap.size + 1 + 1 + 1 + 1 + 1 = B6_5 at hN ⊢
  generalize u1.heap.size + 1 + 1 + 1 + 1 = B6_4 at hN ⊢
  generalize u1.heap.size + 1 + 1 + 1 = B6_3 at hN ⊢
  generalize u1.heap.size + 1 + 1 = B6_2 at hN ⊢
  generalize u1.heap.size + 1 = B6_1 at hN ⊢
  generalize u1.heap.size = B6 at hN ⊢
  have hO := hN
  clear hN
  have hL := hO.apart
  have hX := hO.apartX
  have HL := Lib.hid hL
  have HX := Lib.hid hX
  clear hL hX
  have hP9 := hO.pick [9, 3] (by decide)
  have h9_hT : 198 ≠ 204 := (by decide)
  have T9 := drefDot1 nd2 nd3 op B6_7 4 1 B6_5 2 3 nm 198 B6_2 _ _ _ hP9 pr4 h9_hT
  refine Calls.mono T9 ?_
  clear hP9 T9 h9_hT
  rintro e u8 ⟨rfl, hQ⟩
  have hN : Own w0 u8 [row (nd2) 188 nd3, row (B6_5) 210 #[.iface 198 (.pointer (some ⟨B6_2, 0, none⟩)), .int .i32 2, .string nm, .int .i32 3, .int .u8 0, .bool false, .bool false, .bool false], row (B6_8) 32 #[.iface 192 (.pointer (some ⟨B6_7, 0, none⟩)), .int .i32 4], row (B6_7) 194 #[.float .f64 v], row (B6_6) 32 #[.iface 192 (.pointer (some ⟨B6_7, 0, none⟩)), .int .i32 4], row (B6_4) 32 #[.iface 207 (.pointer (some ⟨B6_5, 0, none⟩)), .int .i32 1], row (B6_3) 32 #[.iface 198 (.pointer (some ⟨B6_2, 0, none⟩)), .int .i32 2], row (B6_2) 200 #[], row (B6_1) 32 #[.iface 198 (.pointer (some ⟨B6_2, 0, none⟩)), .int .i32 2], row (B6) 32 #[.iface 207 (.pointer (some ⟨B6_5, 0, none⟩)), .int .i32 1]] X := hQ.back HL.out HX.out [0, 1, 2, 4, 5, 6, 7, 8] (by decide) (by decide)
  clear hQ HL HX hO
  have hO := hN
  clear hN
  obtain ⟨c9_1_0, c9_1_1, c9_1_2, c9_1_3, c9_1_4, c9_1_5, c9_1_6, c9_1_7, lt9_1, y9_1, -⟩ := hO.k8 1 rfl
  obtain ⟨c9_2_0, c9_2_1, lt9_2, y9_2, -⟩ := hO.k2 2 rfl
  obtain ⟨c9_3_0, lt9_3, y9_3, -⟩ := hO.k1 3 rfl
  obtain ⟨c9_4_0, c9_4_1, lt9_4, y9_4, -⟩ := hO.k2 4 rfl
  obtain ⟨c9_5_0, c9_5_1, lt9_5, y9_5, -⟩ := hO.k2 5 rfl
  obtain ⟨c9_6_0, c9_6_1, lt9_6, y9_6, -⟩ := hO.k2 6 rfl
  obtain ⟨lt9_7, y9_7, -⟩ := hO.k0 7 rfl
  obtain ⟨c9_8_0, c9_8_1, lt9_8, y9_8, -⟩ := hO.k2 8 rfl
  obtain ⟨c9_9_0, c9_9_1, lt9_9, y9_9, -⟩ := hO.k2 9 rfl
  have HO := Lib.hid hO
  clear hO
  go_wp2_with (first | (go_at_call 7; go_in) | (go_at_call 8; go_in) | (go_at_call 9; go_in) | (go_at_call 10; go_in) | (go_at_call 11; go_in) | (go_at_call 12; go_in) | (go_at_call 16; go_in) | (go_at_call 17; go_in) | (go_at_call 15; go_in))
  have hO := HO.out
  clear HO c9_1_0 c9_1_1 c9_1_2 c9_1_3 c9_1_4 c9_1_5 c9_1_6 c9_1_7 lt9_1 y9_1 c9_2_0 c9_2_1 lt9_2 y9_2 c9_3_0 lt9_3 y9_3 c9_4_0 c9_4_1 lt9_4 y9_4 c9_5_0 c9_5_1 lt9_5 y9_5 c9_6_0 c9_6_1 lt9_6 y9_6 lt9_7 y9_7 c9_8_0 c9_8_1 lt9_8 y9_8 c9_9_0 c9_9_1 lt9_9 y9_9
  generalize hW : World.alloc _ _ = W10
  have hN : Own w0 W10 [row (u8.heap.size) 32 #[.nilIface, .int .i32 0], row (nd2) 188 nd3, row (B6_5) 210 #[.iface 198 (.pointer (some ⟨B6_2, 0, none⟩)), .int .i32 2, .string nm, .int .i32 3, .int .u8 0, .bool false, .bool false, .bool false], row (B6_8) 32 #[.iface 192 (.pointer (some ⟨B6_7, 0, none⟩)), .int .i32 4], row (B6_7) 194 #[.float .f64 v], row (B6_6) 32 #[.iface 192 (.pointer (some ⟨B6_7, 0, none⟩)), .int .i32 4], row (B6_4) 32 #[.iface 207 (.pointer (some ⟨B6_5, 0, none⟩)), .int .i32 1], row (B6_3) 32 #[.iface 198 (.pointer (some ⟨B6_2, 0, none⟩)), .int .i32 2], row (B6_2) 200 #[], row (B6_1) 32 #[.iface 198 (.pointer (some ⟨B6_2, 0, none⟩)), .int .i32 2], row (B6) 32 #[.iface 207 (.pointer (some ⟨B6_5, 0, none⟩)), .int .i32 1]] X := by
    rw [← hW]
    exact (hO).alloc' _ (u8.heap.size) (by simp)
  clear hW hO
  generalize u8.heap.size = B9 at hN ⊢
  have hO := hN
  clear hN
  have hL := hO.apart
  have hX := hO.apartX
  have HL := Lib.hid hL
  have HX := Lib.hid hX
  clear hL hX
  have hP9 := hO.pick [1] (by decide)
  have T9 := sc42 nd2 nd3 _ _ _ hP9 pr5
  refine Calls.mono T9 ?_
  clear hP9 T9
  rintro e u11 ⟨rfl, hQ⟩
  have hN : Own w0 u11 [row (nd2) 188 nd3, row (B9) 32 #[.nilIface, .int .i32 0], row (B6_5) 210 #[.iface 198 (.pointer (some ⟨B6_2, 0, none⟩)), .int .i32 2, .string nm, .int .i32 3, .int .u8 0, .bool false, .bool false, .bool false], row (B6_8) 32 #[.iface 192 (.pointer (some ⟨B6_7, 0, none⟩)), .int .i32 4], row (B6_7) 194 #[.float .f64 v], row (B6_6) 32 #[.iface 192 (.pointer (some ⟨B6_7, 0, none⟩)), .int .i32 4], row (B6_4) 32 #[.iface 207 (.pointer (some ⟨B6_5, 0, none⟩)), .int .i32 1], row (B6_3) 32 #[.iface 198 (.pointer (some ⟨B6_2, 0, none⟩)), .int .i32 2], row (B6_2) 200 #[], row (B6_1) 32 #[.iface 198 (.pointer (some ⟨B6_2, 0, none⟩)), .int .i32 2], row (B6) 32 #[.iface 207 (.pointer (some ⟨B6_5, 0, none⟩)), .int .i32 1]] X := hQ.back HL.out HX.out [0, 2, 3, 4, 5, 6, 7, 8, 9, 10] (by decide) (by decide)
  clear hQ HL HX hO
  have hO := hN
  clear hN
  obtain ⟨c9_1_0, c9_1_1, lt9_1, y9_1, -⟩ := hO.k2 1 rfl
  obtain ⟨c9_2_0, c9_2_1, c9_2_2, c9_2_3, c9_2_4, c9_2_5, c9_2_6, c9_2_7, lt9_2, y9_2, -⟩ := hO.k8 2 rfl
  obtain ⟨c9_3_0, c9_3_1, lt9_3, y9_3, -⟩ := hO.k2 3 rfl
  obtain ⟨c9_4_0, lt9_4, y9_4, -⟩ := hO.k1 4 rfl
  obtain ⟨c9_5_0, c9_5_1, lt9_5, y9_5, -⟩ := hO.k2 5 rfl
  obtain ⟨c9_6_0, c9_6_1, lt9_6, y9_6, -⟩ := hO.k2 6 rfl
  obtain ⟨c9_7_0, c9_7_1, lt9_7, y9_7, -⟩ := hO.k2 7 rfl
  obtain ⟨lt9_8, y9_8, -⟩ := hO.k0 8 rfl
  obtain ⟨c9_9_0, c9_9_1, lt9_9, y9_9, -⟩ := hO.k2 9 rfl
  obtain ⟨c9_10_0, c9_10_1, lt9_10, y9_10, -⟩ := hO.k2 10 rfl
  have HO := Lib.hid hO
  clear hO
  go_wp2_with (first | (go_at_call 7; go_in) | (go_at_call 8; go_in) | (go_at_call 9; go_in) | (go_at_call 10; go_in) | (go_at_call 11; go_in) | (go_at_call 12; go_in) | (go_at_call 16; go_in) | (go_at_call 17; go_in) | (go_at_call 15; go_in))
  have hO := HO.out
  clear HO c9_1_0 c9_1_1 lt9_1 y9_1 c9_2_0 c9_2_1 c9_2_2 c9_2_3 c9_2_4 c9_2_5 c9_2_6 c9_2_7 lt9_2 y9_2 c9_3_0 c9_3_1 lt9_3 y9_3 c9_4_0 lt9_4 y9_4 c9_5_0 c9_5_1 lt9_5 y9_5 c9_6_0 c9_6_1 lt9_6 y9_6 c9_7_0 c9_7_1 lt9_7 y9_7 lt9_8 y9_8 c9_9_0 c9_9_1 lt9_9 y9_9 c9_10_0 c9_10_1 lt9_10 y9_10
  refine bodyPost_ret (v := .bool true) ?_ rfl ⟨rfl, hO.sub [] (by decide)⟩
  simp [results, Tryz.results4, go_sem]
def law18k50Post (x : Int) (g : Bool) (op : Int) (nm : ByteArray) (v : Nat) (w0 : World) (X : Nat → Obj → Prop) (e : Ending) (w' : World) : Prop :=
  e = .returned (.bool true) ∧ Own w0 w' [] X
set_option maxRecDepth 100000 in
set_option maxHeartbeats 1000000 in
theorem law18k50 (x : Int) (g : Bool) (op : Int) (nm : ByteArray) (v : Nat) (w0 w : World) (X : Nat → Obj → Prop) (hO : Own w0 w [] X) (hlen : nm.size ≤ 1048576) :
    Calls Tryz.prog 4 #[.int .i64 5, .int .u64 x, .bool false, .bool g, .int .u8 op, .string nm, .float .f64 v] w (law18k50Post x g op nm v w0 X) := by
  go_enter Tryz.func4, Tryz.ntmps4
  have hl9 : (nm.size : Int) ≤ 1048576 := by omega
  go_wp2_with (first | (go_at_call 7; go_in) | (go_at_call 8; go_in) | (go_at_call 9; go_in) | (go_at_call 10; go_in) | (go_at_call 11; go_in) | (go_at_call 12; go_in) | (go_at_call 16; go_in) | (go_at_call 17; go_in) | (go_at_call 15; go_in))
  have hL := hO.apart
  have hX := hO.apartX
  have HL := Lib.hid hL
  have HX := Lib.hid hX
  clear hL hX
  have hP9 := hO.pick [] (by decide)
  have T9 := new42 x g false _ _ _ hP9 
  refine Calls.mono T9 ?_
  clear hP9 T9
  rintro e u1 ⟨nd2, nd3, rfl, pr4, pr5, hQ⟩
  have hN : Own w0 u1 [row (nd2) 188 nd3] X := hQ.back HL.out HX.out [] (by decide) (by decide)
  clear hQ HL HX hO
  have hO := hN
  clear hN
  go_wp2_with (first | (go_at_call 7; go_in) | (go_at_call 8; go_in) | (go_at_call 9; go_in) | (go_at_call 10; go_in) | (go_at_call 11; go_in) | (go_at_call 12; go_in) | (go_at_call 16; go_in) | (go_at_call 17; go_in) | (go_at_call 15; go_in))
  generalize hW : World.alloc _ _ = W7
  have hN : Own w0 W7 [row (u1.heap.size + 1 + 1 + 1 + 1 + 1 + 1 + 1 + 1 + 1 + 1 + 1) 32 #[.iface 192 (.pointer (some ⟨u1.heap.size + 1 + 1 + 1 + 1 + 1 + 1 + 1 + 1 + 1 + 1, 0, none⟩)), .int .i32 4], row (u1.heap.size + 1 + 1 + 1 + 1 + 1 + 1 + 1 + 1 + 1 + 1) 194 #[.float .f64 v], row (u1.heap.size + 1 + 1 + 1 + 1 + 1 + 1 + 1 + 1 + 1) 32 #[.iface 192 (.pointer (some ⟨u1.heap.size + 1 + 1 + 1 + 1 + 1 + 1 + 1 + 1 + 1 + 1, 0, none⟩)), .int .i32 4], row (u1.heap.size + 1 + 1 + 1 + 1 + 1 + 1 + 1 + 1) 213 #[.iface 198 (.pointer (some ⟨u1.heap.size + 1 + 1, 0, none⟩)), .int .i32 2, .iface 195 (.pointer (some ⟨u1.heap.size + 1 + 1 + 1 + 1, 0, none⟩)), .int .i32 3, .int .i32 0, .int .u8 0, .bool false, .bool false, .bool false], row (u1.heap.size + 1 + 1 + 1 + 1 + 1 + 1 + 1) 32 #[.iface 211 (.pointer (some ⟨u1.heap.size + 1 + 1 + 1 + 1 + 1 + 1 + 1 + 1, 0, none⟩)), .int .i32 1], row (u1.heap.size + 1 + 1 + 1 + 1 + 1 + 1) 32 #[.iface 195 (.pointer (some ⟨u1.heap.size + 1 + 1 + 1 + 1, 0, none⟩)), .int .i32 3], row (u1.heap.size + 1 + 1 + 1 + 1 + 1) 32 #[.iface 198 (.pointer (some ⟨u1.heap.size + 1 + 1, 0, none⟩)), .int .i32 2], row (u1.heap.size + 1 + 1 + 1 + 1) 197 #[.slice none 0 0, .int .i32 0, .bool false, .bool false, .bool false], row (u1.heap.size + 1 + 1 + 1) 32 #[.iface 195 (.pointer (some ⟨u1.heap.size + 1 + 1 + 1 + 1, 0, none⟩)), .int .i32 3], row (u1.heap.size + 1 + 1) 200 #[], row (u1.heap.size + 1) 32 #[.iface 198 (.pointer (some ⟨u1.heap.size + 1 + 1, 0, none⟩)), .int .i32 2], row (u1.heap.size) 32 #[.iface 211 (.pointer (some ⟨u1.heap.size + 1 + 1 + 1 + 1 + 1 + 1 + 1 + 1, 0, none⟩)), .int .i32 1], row (nd2) 188 nd3] X := by
    rw [← hW]
    exact ((((((((((((hO).alloc' _ (u1.heap.size) (by simp)).alloc' _ (u1.heap.size + 1) (by simp)).alloc' _ (u1.heap.size + 1 + 1) (by simp)).alloc' _ (u1.heap.size + 1 + 1 + 1) (by simp)).alloc' _ (u1.heap.size + 1 + 1 + 1 + 1) (by simp)).alloc' _ (u1.heap.size + 1 + 1 + 1 + 1 + 1) (by simp)).alloc' _ (u1.heap.size + 1 + 1 + 1 + 1 + 1 + 1) (by simp)).alloc' _ (u1.heap.size + 1 + 1 + 1 + 1 + 1 + 1 + 1) (by simp)).alloc' _ (u1.heap.size + 1 + 1 + 1 + 1 + 1 + 1 + 1 + 1) (by simp)).alloc' _ (u1.heap.size + 1 + 1 + 1 + 1 + 1 + 1 + 1 + 1 + 1) (by simp)).alloc' _ (u1.heap.size + 1 + 1 + 1 + 1 + 1 + 1 + 1 + 1 + 1 + 1) (by simp)).alloc' _ (u1.heap.size + 1 + 1 + 1 + 1 + 1 + 1 + 1 + 1 + 1 + 1 + 1) (by simp)
  clear hW hO
  generalize u1.heap.size + 1 + 1 + 1 + 1 + 1 + 1 + 1 + 1 + 1 + 1 + 1 = B6_11 at hN ⊢
  generalize u1.heap.size + 1 + 1 + 1 + 1 + 1 + 1 + 1 + 1 + 1 + 1 = B6_10 at hN ⊢
  generalize u1.heap.size + 1 + 1 + 1 + 1 + 1 + 1 + 1 + 1 + 1 = B6_9 at hN ⊢
  generalize u1.heap.size + 1 + 1 + 1 + 1 + 1 + 1 + 1 + 1 = B6_8 at hN ⊢
  generalize u1.heap.size + 1 + 1 + 1 + 1 + 1 + 1 + 1 = B6_7 at hN ⊢
  generalize u1.heap.size + 1 + 1 + 1 + 1 + 1 + 1 = B6_6 at hN ⊢
  generalize u1.heap.size + 1 + 1 + 1 + 1 + 1 = B6_5 at hN ⊢
  generalize u1.heap.size + 1 + 1 + 1 + 1 = B6_4 at hN ⊢
  generalize u1.heap.size + 1 + 1 + 1 = B6_3 at hN ⊢
  generalize u1.heap.size + 1 + 1 = B6_2 at hN ⊢
  generalize u1.heap.size + 1 = B6_1 at hN ⊢
  generalize u1.heap.size = B6 at hN ⊢
  have hO := hN
  clear hN
  have hL := hO.apart
  have hX := hO.apartX
  have HL := Lib.hid hL
  have HX := Lib.hid hX
  clear hL hX
  have hP9 := hO.pick [12, 3] (by decide)
  have h9_hJ : 195 ≠ 240 := (by decide)
  have T9 := drefIdx0 nd2 nd3 op B6_10 4 1 B6_8 2 3 195 B6_4 198 B6_2 _ _ _ hP9 pr4 h9_hJ
  refine Calls.mono T9 ?_
  clear hP9 T9 h9_hJ
  rintro e u8 ⟨rfl, hQ⟩
  have hN : Own w0 u8 [row (nd2) 188 nd3, row (B6_8) 213 #[.iface 198 (.pointer (some ⟨B6_2, 0, none⟩)), .int .i32 2, .iface 195 (.pointer (some ⟨B6_4, 0, none⟩)), .int .i32 3, .int .i32 0, .int .u8 0, .bool false, .bool false, .bool false], row (B6_11) 32 #[.iface 192 (.pointer (some ⟨B6_10, 0, none⟩)), .int .i32 4], row (B6_10) 194 #[.float .f64 v], row (B6_9) 32 #[.iface 192 (.pointer (some ⟨B6_10, 0, none⟩)), .int .i32 4], row (B6_7) 32 #[.iface 211 (.pointer (some ⟨B6_8, 0, none⟩)), .int .i32 1], row (B6_6) 32 #[.iface 195 (.pointer (some ⟨B6_4, 0, none⟩)), .int .i32 3], row (B6_5) 32 #[.iface 198 (.pointer (some ⟨B6_2, 0, none⟩)), .int .i32 2], row (B6_4) 197 #[.slice none 0 0, .int .i32 0, .bool false, .bool false, .bool false], row (B6_3) 32 #[.iface 195 (.pointer (some ⟨B6_4, 0, none⟩)), .int .i32 3], row (B6_2) 200 #[], row (B6_1) 32 #[.iface 198 (.pointer (some ⟨B6_2, 0, none⟩)), .int .i32 2], row (B6) 32 #[.iface 211 (.pointer (some ⟨B6_8, 0, none⟩)), .int .i32 1]] X := hQ.back HL.out HX.out [0, 1, 2, 4, 5, 6, 7, 8, 9, 10, 11] (by decide) (by decide)
  clear hQ HL HX hO
  have hO := hN
  clear hN
  obtain ⟨c9_1_0, c9_1_1, c9_1_2, c9_1_3, c9_1_4, c9_1_5, c9_1_6, c9_1_7, c9_1_8, lt9_1, y9_1, -⟩ := hO.k9 1 rfl
  obtain ⟨c9_2_0, c9_2_1, lt9_2, y9_2, -⟩ := hO.k2 2 rfl
  obtain ⟨c9_3_0, lt9_3, y9_3, -⟩ := hO.k1 3 rfl
  obtain ⟨c9_4_0, c9_4_1, lt9_4, y9_4, -⟩ := hO.k2 4 rfl
  obtain ⟨c9_5_0, c9_5_1, lt9_5, y9_5, -⟩ := hO.k2 5 rfl
  obtain ⟨c9_6_0, c9_6_1, lt9_6, y9_6, -⟩ := hO.k2 6 rfl
  obtain ⟨c9_7_0, c9_7_1, lt9_7, y9_7, -⟩ := hO.k2 7 rfl
  obtain ⟨c9_8_0, c9_8_1, c9_8_2, c9_8_3, c9_8_4, lt9_8, y9_8, -⟩ := hO.k5 8 rfl
  obtain ⟨c9_9_0, c9_9_1, lt9_9, y9_9, -⟩ := hO.k2 9 rfl
  obtain ⟨lt9_10, y9_10, -⟩ := hO.k0 10 rfl
  obtain ⟨c9_11_0, c9_11_1, lt9_11, y9_11, -⟩ := hO.k2 11 rfl
  obtain ⟨c9_12_0, c9_12_1, lt9_12, y9_12, -⟩ := hO.k2 12 rfl
  have HO := Lib.hid hO
  clear hO
  go_wp2_with (first | (go_at_call 7; go_in) | (go_at_call 8; go_in) | (go_at_call 9; go_in) | (go_at_call 10; go_in) | (go_at_call 11; go_in) | (go_at_call 12; go_in) | (go_at_call 16; go_in) | (go_at_call 17; go_in) | (go_at_call 15; go_in))
  have hO := HO.out
  clear HO c9_1_0 c9_1_1 c9_1_2 c9_1_3 c9_1_4 c9_1_5 c9_1_6 c9_1_7 c9_1_8 lt9_1 y9_1 c9_2_0 c9_2_1 lt9_2 y9_2 c9_3_0 lt9_3 y9_3 c9_4_0 c9_4_1 lt9_4 y9_4 c9_5_0 c9_5_1 lt9_5 y9_5 c9_6_0 c9_6_1 lt9_6 y9_6 c9_7_0 c9_7_1 lt9_7 y9_7 c9_8_0 c9_8_1 c9_8_2 c9_8_3 c9_8_4 lt9_8 y9_8 c9_9_0 c9_9_1 lt9_9 y9_9 lt9_10 y9_10 c9_11_0 c9_11_1 lt9_11 y9_11 c9_12_0 c9_12_1 lt9_12 y9_12
  generalize hW : World.alloc _ _ = W10
  have hN : Own w0 W10 [row (u8.heap.size) 32 #[.nilIface, .int .i32 0], row (nd2) 188 nd3, row (B6_8) 213 #[.iface 198 (.pointer (some ⟨B6_2, 0, none⟩)), .int .i32 2, .iface 195 (.pointer (some ⟨B6_4, 0, none⟩)), .int .i32 3, .int .i32 0, .int .u8 0, .bool false, .bool false, .bool false], row (B6_11) 32 #[.iface 192 (.pointer (some ⟨B6_10, 0, none⟩)), .int .i32 4], row (B6_10) 194 #[.float .f64 v], row (B6_9) 32 #[.iface 192 (.pointer (some ⟨B6_10, 0, none⟩)), .int .i32 4], row (B6_7) 32 #[.iface 211 (.pointer (some ⟨B6_8, 0, none⟩)), .int .i32 1], row (B6_6) 32 #[.iface 195 (.pointer (some ⟨B6_4, 0, none⟩)), .int .i32 3], row (B6_5) 32 #[.iface 198 (.pointer (some ⟨B6_2, 0, none⟩)), .int .i32 2], row (B6_4) 197 #[.slice none 0 0, .int .i32 0, .bool false, .bool false, .bool false], row (B6_3) 32 #[.iface 195 (.pointer (some ⟨B6_4, 0, none⟩)), .int .i32 3], row (B6_2) 200 #[], row (B6_1) 32 #[.iface 198 (.pointer (some ⟨B6_2, 0, none⟩)), .int .i32 2], row (B6) 32 #[.iface 211 (.pointer (some ⟨B6_8, 0, none⟩)), .int .i32 1]] X := by
    rw [← hW]
    exact (hO).alloc' _ (u8.heap.size) (by simp)
  clear hW hO
  generalize u8.heap.size = B9 at hN ⊢
  have hO := hN
  clear hN
  have hL := hO.apart
  have hX := hO.apartX
  have HL := Lib.hid hL
  have HX := Lib.hid hX
  clear hL hX
  have hP9 := hO.pick [1] (by decide)
  have T9 := sc42 nd2 nd3 _ _ _ hP9 pr5
  refine Calls.mono T9 ?_
  clear hP9 T9
  rintro e u11 ⟨rfl, hQ⟩
  have hN : Own w0 u11 [row (nd2) 188 nd3, row (B9) 32 #[.nilIface, .int .i32 0], row (B6_8) 213 #[.iface 198 (.pointer (some ⟨B6_2, 0, none⟩)), .int .i32 2, .iface 195 (.pointer (some ⟨B6_4, 0, none⟩)), .int .i32 3, .int .i32 0, .int .u8 0, .bool false, .bool false, .bool false], row (B6_11) 32 #[.iface 192 (.pointer (some ⟨B6_10, 0, none⟩)), .int .i32 4], row (B6_10) 194 #[.float .f64 v], row (B6_9) 32 #[.iface 192 (.pointer (some ⟨B6_10, 0, none⟩)), .int .i32 4], row (B6_7) 32 #[.iface 211 (.pointer (some ⟨B6_8, 0, none⟩)), .int .i32 1], row (B6_6) 32 #[.iface 195 (.pointer (some ⟨B6_4, 0, none⟩)), .int .i32 3], row (B6_5) 32 #[.iface 198 (.pointer (some ⟨B6_2, 0, none⟩)), .int .i32 2], row (B6_4) 197 #[.slice none 0 0, .int .i32 0, .bool false, .bool false, .bool false], row (B6_3) 32 #[.iface 195 (.pointer (some ⟨B6_4, 0, none⟩)), .int .i32 3], row (B6_2) 200 #[], row (B6_1) 32 #[.iface 198 (.pointer (some ⟨B6_2, 0, none⟩)), .int .i32 2], row (B6) 32 #[.iface 211 (.pointer (some ⟨B6_8, 0, none⟩)), .int .i32 1]] X := hQ.back HL.out HX.out [0, 2, 3, 4, 5, 6, 7, 8, 9, 10, 11, 12, 13] (by decide) (by decide)
  clear hQ HL HX hO
  have hO := hN
  clear hN
  obtain ⟨c9_1_0, c9_1_1, lt9_1, y9_1, -⟩ := hO.k2 1 rfl
  obtain ⟨c9_2_0, c9_2_1, c9_2_2, c9_2_3, c9_2_4, c9_2_5, c9_2_6, c9_2_7, c9_2_8, lt9_2, y9_2, -⟩ := hO.k9 2 rfl
  obtain ⟨c9_3_0, c9_3_1, lt9_3, y9_3, -⟩ := hO.k2 3 rfl
  obtain ⟨c9_4_0, lt9_4, y9_4, -⟩ := hO.k1 4 rfl
  obtain ⟨c9_5_0, c9_5_1, lt9_5, y9_5, -⟩ := hO.k2 5 rfl
  obtain ⟨c9_6_0, c9_6_1, lt9_6, y9_6, -⟩ := hO.k2 6 rfl
  obtain ⟨c9_7_0, c9_7_1, lt9_7, y9_7, -⟩ := hO.k2 7 rfl
  obtain ⟨c9_8_0, c9_8_1, lt9_8, y9_8, -⟩ := hO.k2 8 rfl
  obtain ⟨c9_9_0, c9_9_1, c9_9_2, c9_9_3, c9_9_4, lt9_9, y9_9, -⟩ := hO.k5 9 rfl
  obtain ⟨c9_10_0, c9_10_1, lt9_10, y9_10, -⟩ := hO.k2 10 rfl
  obtain ⟨lt9_11, y9_11, -⟩ := hO.k0 11 rfl
  obtain ⟨c9_12_0, c9_12_1, lt9_12, y9_12, -⟩ := hO.k2 12 rfl
  obtain ⟨c9_13_0, c9_13_1, lt9_13, y9_13, -⟩ := hO.k2 13 rfl
  have HO := Lib.hid hO
  clear hO
  go_wp2_with (first | (go_at_call 7; go_in) | (go_at_call 8; go_in) | (go_at_call 9; go_in) | (go_at_call 10; go_in) | (go_at_call 11; go_in) | (go_at_call 12; go_in) | (go_at_call 16; go_in) | (go_at_call 17; go_in) | (go_at_call 15; go_in))
  have hO := HO.out
  clear HO c9_1_0 c9_1_1 lt9_1 y9_1 c9_2_0 c9_2_1 c9_2_2 c9_2_3 c9_2_4 c9_2_5 c9_2_6 c9_2_7 c9_2_8 lt9_2 y9_2 c9_3_0 c9_3_1 lt9_3 y9_3 c9_4_0 lt9_4 y9_4 c9_5_0 c9_5_1 lt9_5 y9_5 c9_6_0 c9_6_1 lt9_6 y9_6 c9_7_0 c9_7_1 lt9_7 y9_7 c9_8_0 c9_8_1 lt9_8 y9_8 c9_9_0 c9_9_1 c9_9_2 c9_9_3 c9_9_4 lt9_9 y9_9 c9_10_0 c9_10_1 lt9_10 y9_10 lt9_11 y9_11 c9_12_0 c9_12_1 lt9_12 y9_12 c9_13_0 c9_13_1 lt9_13 y9_13
  refine bodyPost_ret (v := .bool true) ?_ rfl ⟨rfl, hO.sub [] (by decide)⟩
  simp [results, Tryz.results4, go_sem]
def law18k51Post (x : Int) (g : Bool) (op : Int) (nm : ByteArray) (v : Nat) (w0 : World) (X : Nat → Obj → Prop) (e : Ending) (w' : World) : Prop :=
  e = .returned (.bool true) ∧ Own w0 w' [] X
set_option maxRecDepth 100000 in
set_option maxHeartbeats 1000000 in
theorem law18k51 (x : Int) (g : Bool) (op : Int) (nm : ByteArray) (v : Nat) (w0 w : World) (X : Nat → Obj → Prop) (hO : Own w0 w [] X) (hlen : nm.size ≤ 1048576) :
    Calls Tryz.prog 4 #[.int .i64 5, .int .u64 x, .bool true, .bool g, .int .u8 op, .string nm, .float .f64 v] w (law18k51Post x g op nm v w0 X) := by
  go_enter Tryz.func4, Tryz.ntmps4
  have hl9 : (nm.size : Int) ≤ 1048576 := by omega
  go_wp2_with (first | (go_at_call 7; go_in) | (go_at_call 8; go_in) | (go_at_call 9; go_in) | (go_at_call 10; go_in) | (go_at_call 11; go_in) | (go_at_call 12; go_in) | (go_at_call 16; go_in) | (go_at_call 17; go_in) | (go_at_call 15; go_in))
  have hL := hO.apart
  have hX := hO.apartX
  have HL := Lib.hid hL
  have HX := Lib.hid hX
  clear hL hX
  have hP9 := hO.pick [] (by decide)
  have T9 := new42 x g true _ _ _ hP9 
  refine Calls.mono T9 ?_
  clear hP9 T9
  rintro e u1 ⟨nd2, nd3, rfl, pr4, pr5, hQ⟩
  have hN : Own w0 u1 [row (nd2) 188 nd3] X := hQ.back HL.out HX.out [] (by decide) (by decide)
  clear hQ HL HX hO
  have hO := hN
  clear hN
  go_wp2_with (first | (go_at_call 7; go_in) | (go_at_call 8; go_in) | (go_at_call 9; go_in) | (go_at_call 10; go_in) | (go_at_call 11; go_in) | (go_at_call 12; go_in) | (go_at_call 16; go_in) | (go_at_call 17; go_in) | (go_at_call 15; go_in))
  generalize hW : World.alloc _ _ = W7
  have hN : Own w0 W7 [row (u1.heap.size + 1 + 1 + 1 + 1 + 1 + 1 + 1 + 1 + 1 + 1 + 1) 32 #[.iface 192 (.pointer (some ⟨u1.heap.size + 1 + 1 + 1 + 1 + 1 + 1 + 1 + 1 + 1 + 1, 0, none⟩)), .int .i32 4], row (u1.heap.size + 1 + 1 + 1 + 1 + 1 + 1 + 1 + 1 + 1 + 1) 194 #[.float .f64 v], row (u1.heap.size + 1 + 1 + 1 + 1 + 1 + 1 + 1 + 1 + 1) 32 #[.iface 192 (.pointer (some ⟨u1.heap.size + 1 + 1 + 1 + 1 + 1 + 1 + 1 + 1 + 1 + 1, 0, none⟩)), .int .i32 4], row (u1.heap.size + 1 + 1 + 1 + 1 + 1 + 1 + 1 + 1) 213 #[.iface 198 (.pointer (some ⟨u1.heap.size + 1 + 1, 0, none⟩)), .int .i32 2, .iface 195 (.pointer (some ⟨u1.heap.size + 1 + 1 + 1 + 1, 0, none⟩)), .int .i32 3, .int .i32 0, .int .u8 0, .bool false, .bool false, .bool false], row (u1.heap.size + 1 + 1 + 1 + 1 + 1 + 1 + 1) 32 #[.iface 211 (.pointer (some ⟨u1.heap.size + 1 + 1 + 1 + 1 + 1 + 1 + 1 + 1, 0, none⟩)), .int .i32 1], row (u1.heap.size + 1 + 1 + 1 + 1 + 1 + 1) 32 #[.iface 195 (.pointer (some ⟨u1.heap.size + 1 + 1 + 1 + 1, 0, none⟩)), .int .i32 3], row (u1.heap.size + 1 + 1 + 1 + 1 + 1) 32 #[.iface 198 (.pointer (some ⟨u1.heap.size + 1 + 1, 0, none⟩)), .int .i32 2], row (u1.heap.size + 1 + 1 + 1 + 1) 197 #[.slice none 0 0, .int .i32 0, .bool false, .bool false, .bool false], row (u1.heap.size + 1 + 1 + 1) 32 #[.iface 195 (.pointer (some ⟨u1.heap.size + 1 + 1 + 1 + 1, 0, none⟩)), .int .i32 3], row (u1.heap.size + 1 + 1) 200 #[], row (u1.heap.size + 1) 32 #[.iface 198 (.pointer (some ⟨u1.heap.size + 1 + 1, 0, none⟩)), .int .i32 2], row (u1.heap.size) 32 #[.iface 211 (.pointer (some ⟨u1.heap.size + 1 + 1 + 1 + 1 + 1 + 1 + 1 + 1, 0, none⟩)), .int .i32 1], row (nd2) 188 nd3] X := by
    rw [← hW]
    exact ((((((((((((hO).alloc' _ (u1.heap.size) (by simp)).alloc' _ (u1.heap.size + 1) (by simp)).alloc' _ (u1.heap.size + 1 + 1) (by simp)).alloc' _ (u1.heap.size + 1 + 1 + 1) (by simp)).alloc' _ (u1.heap.size + 1 + 1 + 1 + 1) (by simp)).alloc' _ (u1.heap.size + 1 + 1 + 1 + 1 + 1) (by simp)).alloc' _ (u1.heap.size + 1 + 1 + 1 + 1 + 1 + 1) (by simp)).alloc' _ (u1.heap.size + 1 + 1 + 1 + 1 + 1 + 1 + 1) (by simp)).alloc' _ (u1.heap.size + 1 + 1 + 1 + 1 + 1 + 1 + 1 + 1) (by simp)).alloc' _ (u1.heap.size + 1 + 1 + 1 + 1 + 1 + 1 + 1 + 1 + 1) (by simp)).alloc' _ (u1.heap.size + 1 + 1 + 1 + 1 + 1 + 1 + 1 + 1 + 1 + 1) (by simp)).alloc' _ (u1.heap.size + 1 + 1 + 1 + 1 + 1 + 1 + 1 + 1 + 1 + 1 + 1) (by simp)
  clear hW hO
  generalize u1.heap.size + 1 + 1 + 1 + 1 + 1 + 1 + 1 + 1 + 1 + 1 + 1 = B6_11 at hN ⊢
  generalize u1.heap.size + 1 + 1 + 1 + 1 + 1 + 1 + 1 + 1 + 1 + 1 = B6_10 at hN ⊢
  generalize u1.heap.size + 1 + 1 + 1 + 1 + 1 + 1 + 1 + 1 + 1 = B6_9 at hN ⊢
  generalize u1.heap.size + 1 + 1 + 1 + 1 + 1 + 1 + 1 + 1 = B6_8 at hN ⊢
  generalize u1.heap.size + 1 + 1 + 1 + 1 + 1 + 1 + 1 = B6_7 at hN ⊢
  generalize u1.heap.size + 1 + 1 + 1 + 1 + 1 + 1 = B6_6 at hN ⊢
  generalize u1.heap.size + 1 + 1 + 1 + 1 + 1 = B6_5 at hN ⊢
  generalize u1.heap.size + 1 + 1 + 1 + 1 = B6_4 at hN ⊢
  generalize u1.heap.size + 1 + 1 + 1 = B6_3 at hN ⊢
  generalize u1.heap.size + 1 + 1 = B6_2 at hN ⊢
  generalize u1.heap.size + 1 = B6_1 at hN ⊢
  generalize u1.heap.size = B6 at hN ⊢
  have hO := hN
  clear hN
  have hL := hO.apart
  have hX := hO.apartX
  have HL := Lib.hid hL
  have HX := Lib.hid hX
  clear hL hX
  have hP9 := hO.pick [12, 3] (by decide)
  have h9_hT : 198 ≠ 204 := (by decide)
  have h9_hJ : 195 ≠ 240 := (by decide)
  have T9 := drefIdx1 nd2 nd3 op B6_10 4 1 B6_8 2 3 195 B6_4 198 B6_2 _ _ _ hP9 pr4 h9_hT h9_hJ
  refine Calls.mono T9 ?_
  clear hP9 T9 h9_hT h9_hJ
  rintro e u8 ⟨rfl, hQ⟩
  have hN : Own w0 u8 [row (nd2) 188 nd3, row (B6_8) 213 #[.iface 198 (.pointer (some ⟨B6_2, 0, none⟩)), .int .i32 2, .iface 195 (.pointer (some ⟨B6_4, 0, none⟩)), .int .i32 3, .int .i32 0, .int .u8 0, .bool false, .bool false, .bool false], row (B6_11) 32 #[.iface 192 (.pointer (some ⟨B6_10, 0, none⟩)), .int .i32 4], row (B6_10) 194 #[.float .f64 v], row (B6_9) 32 #[.iface 192 (.pointer (some ⟨B6_10, 0, none⟩)), .int .i32 4], row (B6_7) 32 #[.iface 211 (.pointer (some ⟨B6_8, 0, none⟩)), .int .i32 1], row (B6_6) 32 #[.iface 195 (.pointer (some ⟨B6_4, 0, none⟩)), .int .i32 3], row (B6_5) 32 #[.iface 198 (.pointer (some ⟨B6_2, 0, none⟩)), .int .i32 2], row (B6_4) 197 #[.slice none 0 0, .int .i32 0, .bool false, .bool false, .bool false], row (B6_3) 32 #[.iface 195 (.pointer (some ⟨B6_4, 0, none⟩)), .int .i32 3], row (B6_2) 200 #[], row (B6_1) 32 #[.iface 198 (.pointer (some ⟨B6_2, 0, none⟩)), .int .i32 2], row (B6) 32 #[.iface 211 (.pointer (some ⟨B6_8, 0, none⟩)), .int .i32 1]] X := hQ.back HL.out HX.out [0, 1, 2, 4, 5, 6, 7, 8, 9, 10, 11] (by decide) (by decide)
  clear hQ HL HX hO
  have hO := hN
  clear hN
  obtain ⟨c9_1_0, c9_1_1, c9_1_2, c9_1_3, c9_1_4, c9_1_5, c9_1_6, c9_1_7, c9_1_8, lt9_1, y9_1, -⟩ := hO.k9 1 rfl
  obtain ⟨c9_2_0, c9_2_1, lt9_2, y9_2, -⟩ := hO.k2 2 rfl
  obtain ⟨c9_3_0, lt9_3, y9_3, -⟩ := hO.k1 3 rfl
  obtain ⟨c9_4_0, c9_4_1, lt9_4, y9_4, -⟩ := hO.k2 4 rfl
  obtain ⟨c9_5_0, c9_5_1, lt9_5, y9_5, -⟩ := hO.k2 5 rfl
  obtain ⟨c9_6_0, c9_6_1, lt9_6, y9_6, -⟩ := hO.k2 6 rfl
  obtain ⟨c9_7_0, c9_7_1, lt9_7, y9_7, -⟩ := hO.k2 7 rfl
  obtain ⟨c9_8_0, c9_8_1, c9_8_2, c9_8_3, c9_8_4, lt9_8, y9_8, -⟩ := hO.k5 8 rfl
  obtain ⟨c9_9_0, c9_9_1, lt9_9, y9_9, -⟩ := hO.k2 9 rfl
  obtain ⟨lt9_10, y9_10, -⟩ := hO.k0 10 rfl
  obtain ⟨c9_11_0, c9_11_1, lt9_11, y9_11, -⟩ := hO.k2 11 rfl
  obtain ⟨c9_12_0, c9_12_1, lt9_12, y9_12, -⟩ := hO.k2 12 rfl
  have HO := Lib.hid hO
  clear hO
  go_wp2_with (first | (go_at_call 7; go_in) | (go_at_call 8; go_in) | (go_at_call 9; go_in) | (go_at_call 10; go_in) | (go_at_call 11; go_in) | (go_at_call 12; go_in) | (go_at_call 16; go_in) | (go_at_call 17; go_in) | (go_at_call 15; go_in))
  have hO := HO.out
  clear HO c9_1_0 c9_1_1 c9_1_2 c9_1_3 c9_1_4 c9_1_5 c9_1_6 c9_1_7 c9_1_8 lt9_1 y9_1 c9_2_0 c9_2_1 lt9_2 y9_2 c9_3_0 lt9_3 y9_3 c9_4_0 c9_4_1 lt9_4 y9_4 c9_5_0 c9_5_1 lt9_5 y9_5 c9_6_0 c9_6_1 lt9_6 y9_6 c9_7_0 c9_7_1 lt9_7 y9_7 c9_8_0 c9_8_1 c9_8_2 c9_8_3 c9_8_4 lt9_8 y9_8 c9_9_0 c9_9_1 lt9_9 y9_9 lt9_10 y9_10 c9_11_0 c9_11_1 lt9_11 y9_11 c9_12_0 c9_12_1 lt9_12 y9_12
  generalize hW : World.alloc _ _ = W10
  have hN : Own w0 W10 [row (u8.heap.size) 32 #[.nilIface, .int .i32 0], row (nd2) 188 nd3, row (B6_8) 213 #[.iface 198 (.pointer (some ⟨B6_2, 0, none⟩)), .int .i32 2, .iface 195 (.pointer (some ⟨B6_4, 0, none⟩)), .int .i32 3, .int .i32 0, .int .u8 0, .bool false, .bool false, .bool false], row (B6_11) 32 #[.iface 192 (.pointer (some ⟨B6_10, 0, none⟩)), .int .i32 4], row (B6_10) 194 #[.float .f64 v], row (B6_9) 32 #[.iface 192 (.pointer (some ⟨B6_10, 0, none⟩)), .int .i32 4], row (B6_7) 32 #[.iface 211 (.pointer (some ⟨B6_8, 0, none⟩)), .int .i32 1], row (B6_6) 32 #[.iface 195 (.pointer (some ⟨B6_4, 0, none⟩)), .int .i32 3], row (B6_5) 32 #[.iface 198 (.pointer (some ⟨B6_2, 0, none⟩)), .int .i32 2], row (B6_4) 197 #[.slice none 0 0, .int .i32 0, .bool false, .bool false, .bool false], row (B6_3) 32 #[.iface 195 (.pointer (some ⟨B6_4, 0, none⟩)), .int .i32 3], row (B6_2) 200 #[], row (B6_1) 32 #[.iface 198 (.pointer (some ⟨B6_2, 0, none⟩)), .int .i32 2], row (B6) 32 #[.iface 211 (.pointer (some ⟨B6_8, 0, none⟩)), .int .i32 1]] X := by
    rw [← hW]
    exact (hO).alloc' _ (u8.heap.size) (by simp)
  clear hW hO
  generalize u8.heap.size = B9 at hN ⊢
  have hO := hN
  clear hN
  have hL := hO.apart
  have hX := hO.apartX
  have HL := Lib.hid hL
  have HX := Lib.hid hX
  clear hL hX
  have hP9 := hO.pick [1] (by decide)
  have T9 := sc42 nd2 nd3 _ _ _ hP9 pr5
  refine Calls.mono T9 ?_
  clear hP9 T9
  rintro e u11 ⟨rfl, hQ⟩
  have hN : Own w0 u11 [row (nd2) 188 nd3, row (B9) 32 #[.nilIface, .int .i32 0], row (B6_8) 213 #[.iface 198 (.pointer (some ⟨B6_2, 0, none⟩)), .int .i32 2, .iface 195 (.pointer (some ⟨B6_4, 0, none⟩)), .int .i32 3, .int .i32 0, .int .u8 0, .bool false, .bool false, .bool false], row (B6_11) 32 #[.iface 192 (.pointer (some ⟨B6_10, 0, none⟩)), .int .i32 4], row (B6_10) 194 #[.float .f64 v], row (B6_9) 32 #[.iface 192 (.pointer (some ⟨B6_10, 0, none⟩)), .int .i32 4], row (B6_7) 32 #[.iface 211 (.pointer (some ⟨B6_8, 0, none⟩)), .int .i32 1], row (B6_6) 32 #[.iface 195 (.pointer (some ⟨B6_4, 0, none⟩)), .int .i32 3], row (B6_5) 32 #[.iface 198 (.pointer (some ⟨B6_2, 0, none⟩)), .int .i32 2], row (B6_4) 197 #[.slice none 0 0, .int .i32 0, .bool false, .bool false, .bool false], row (B6_3) 32 #[.iface 195 (.pointer (some ⟨B6_4, 0, none⟩)), .int .i32 3], row (B6_2) 200 #[], row (B6_1) 32 #[.iface 198 (.pointer (some ⟨B6_2, 0, none⟩)), .int .i32 2], row (B6) 32 #[.iface 211 (.pointer (some ⟨B6_8, 0, none⟩)), .int .i32 1]] X := hQ.back HL.out HX.out [0, 2, 3, 4, 5, 6, 7, 8, 9, 10, 11, 12, 13] (by decide) (by decide)
  clear hQ HL HX hO
  have hO := hN
  clear hN
  obtain ⟨c9_1_0, c9_1_1, lt9_1, y9_1, -⟩ := hO.k2 1 rfl
  obtain ⟨c9_2_0, c9_2_1, c9_2_2, c9_2_3, c9_2_4, c9_2_5, c9_2_6, c9_2_7, c9_2_8, lt9_2, y9_2, -⟩ := hO.k9 2 rfl
  obtain ⟨c9_3_0, c9_3_1, lt9_3, y9_3, -⟩ := hO.k2 3 rfl
  obtain ⟨c9_4_0, lt9_4, y9_4, -⟩ := hO.k1 4 rfl
  obtain ⟨c9_5_0, c9_5_1, lt9_5, y9_5, -⟩ := hO.k2 5 rfl
  obtain ⟨c9_6_0, c9_6_1, lt9_6, y9_6, -⟩ := hO.k2 6 rfl
  obtain ⟨c9_7_0, c9_7_1, lt9_7, y9_7, -⟩ := hO.k2 7 rfl
  obtain ⟨c9_8_0, c9_8_1, lt9_8, y9_8, -⟩ := hO.k2 8 rfl
  obtain ⟨c9_9_0, c9_9_1, c9_9_2, c9_9_3, c9_9_4, lt9_9, y9_9, -⟩ := hO.k5 9 rfl
  obtain ⟨c9_10_0, c9_10_1, lt9_10, y9_10, -⟩ := hO.k2 10 rfl
  obtain ⟨lt9_11, y9_11, -⟩ := hO.k0 11 rfl
  obtain ⟨c9_12_0, c9_12_1, lt9_12, y9_12, -⟩ := hO.k2 12 rfl
  obtain ⟨c9_13_0, c9_13_1, lt9_13, y9_13, -⟩ := hO.k2 13 rfl
  have HO := Lib.hid hO
  clear hO
  go_wp2_with (first | (go_at_call 7; go_in) | (go_at_call 8; go_in) | (go_at_call 9; go_in) | (go_at_call 10; go_in) | (go_at_call 11; go_in) | (go_at_call 12; go_in) | (go_at_call 16; go_in) | (go_at_call 17; go_in) | (go_at_call 15; go_in))
  have hO := HO.out
  clear HO c9_1_0 c9_1_1 lt9_1 y9_1 c9_2_0 c9_2_1 c9_2_2 c9_2_3 c9_2_4 c9_2_5 c9_2_6 c9_2_7 c9_2_8 lt9_2 y9_2 c9_3_0 c9_3_1 lt9_3 y9_3 c9_4_0 lt9_4 y9_4 c9_5_0 c9_5_1 lt9_5 y9_5 c9_6_0 c9_6_1 lt9_6 y9_6 c9_7_0 c9_7_1 lt9_7 y9_7 c9_8_0 c9_8_1 lt9_8 y9_8 c9_9_0 c9_9_1 c9_9_2 c9_9_3 c9_9_4 lt9_9 y9_9 c9_10_0 c9_10_1 lt9_10 y9_10 lt9_11 y9_11 c9_12_0 c9_12_1 lt9_12 y9_12 c9_13_0 c9_13_1 lt9_13 y9_13
  refine bodyPost_ret (v := .bool true) ?_ rfl ⟨rfl, hO.sub [] (by decide)⟩
  simp [results, Tryz.results4, go_sem]
end Go.Proofs.YtkhmjppfogppoaaGreatDoor.Use
