/- The law on targets that are no members, walked: cases. No condition. -/
import Derived.Test.YtkhmjppfogppoaaGreatDoorOwnK
import Derived.Test.YtkhmjppfogppoaaGreatDoorOwn
import Derived.Test.YtkhmjppfogppoaaGreatDoorDeepCells
import Derived.Test.YtkhmjppfogppoaaGreatDoorRows
import Derived.Test.YtkhmjppfogppoaaGreatDoorNew
import Derived.Test.YtkhmjppfogppoaaGreatDoorRef
import Derived.Test.YtkhmjppfogppoaaGreatDoorDoors
namespace Go.Proofs.YtkhmjppfogppoaaGreatDoor.Use
open Go.ChangeShapes Go.WideShapes Go.ChangeAt Go.RowKit Go.Sort Own
set_option linter.unusedVariables false
def law11k0Post (x : Int) (l g : Bool) (op ll rl : Int) (v : Nat) (w0 : World) (X : Nat → Obj → Prop) (e : Ending) (w' : World) : Prop :=
  e = .returned (.bool true) ∧ Own w0 w' [] X
set_option maxRecDepth 100000 in
set_option maxHeartbeats 1000000 in
theorem law11k0 (x : Int) (l g : Bool) (op ll rl : Int) (v : Nat) (w0 w : World) (X : Nat → Obj → Prop) (hO : Own w0 w [] X)  :
    Calls Tryz.prog 3 #[.int .i64 0, .int .u64 x, .bool l, .bool g, .int .u8 op, .int .i32 ll, .int .i32 rl, .float .f64 v] w (law11k0Post x l g op ll rl v w0 X) := by
  go_enter Tryz.func3, Tryz.ntmps3
  go_wp2_with (first | (go_at_call 7; go_in) | (go_at_call 8; go_in) | (go_at_call 9; go_in) | (go_at_call 10; go_in) | (go_at_call 11; go_in) | (go_at_call 12; go_in) | (go_at_call 16; go_in) | (go_at_call 17; go_in) | (go_at_call 15; go_in))
  have hL := hO.apart
  have hX := hO.apartX
  have HL := Lib.hid hL
  have HX := Lib.hid hX
  clear hL hX
  have hP9 := hO.pick [] (by decide)
  have T9 := new42 x g l _ _ _ hP9 
  refine Calls.mono T9 ?_
  clear hP9 T9
  rintro e u1 ⟨nd2, nd3, rfl, pr4, pr5, hQ⟩
  have hN : Own w0 u1 [row (nd2) 188 nd3] X := hQ.back HL.out HX.out [] (by decide) (by decide)
  clear hQ HL HX hO
  have hO := hN
  clear hN
  go_wp2_with (first | (go_at_call 7; go_in) | (go_at_call 8; go_in) | (go_at_call 9; go_in) | (go_at_call 10; go_in) | (go_at_call 11; go_in) | (go_at_call 12; go_in) | (go_at_call 16; go_in) | (go_at_call 17; go_in) | (go_at_call 15; go_in))
  generalize hW : World.alloc _ _ = W7
  have hN : Own w0 W7 [row (u1.heap.size + 1 + 1 + 1 + 1 + 1) 32 #[.iface 192 (.pointer (some ⟨u1.heap.size + 1 + 1 + 1 + 1, 0, none⟩)), .int .i32 rl], row (u1.heap.size + 1 + 1 + 1 + 1) 194 #[.float .f64 v], row (u1.heap.size + 1 + 1 + 1) 32 #[.iface 192 (.pointer (some ⟨u1.heap.size + 1 + 1 + 1 + 1, 0, none⟩)), .int .i32 rl], row (u1.heap.size + 1 + 1) 191 #[.int .u32 0, .int .u32 0, .bool false, .bool false, .bool false], row (u1.heap.size + 1) 32 #[.iface 189 (.pointer (some ⟨u1.heap.size + 1 + 1, 0, none⟩)), .int .i32 ll], row (u1.heap.size) 32 #[.iface 189 (.pointer (some ⟨u1.heap.size + 1 + 1, 0, none⟩)), .int .i32 ll], row (nd2) 188 nd3] X := by
    rw [← hW]
    exact ((((((hO).alloc' _ (u1.heap.size) (by simp)).alloc' _ (u1.heap.size + 1) (by simp)).alloc' _ (u1.heap.size + 1 + 1) (by simp)).alloc' _ (u1.heap.size + 1 + 1 + 1) (by simp)).alloc' _ (u1.heap.size + 1 + 1 + 1 + 1) (by simp)).alloc' _ (u1.heap.size + 1 + 1 + 1 + 1 + 1) (by simp)
  clear hW hO
  generalize u1.heap.size + 1 + 1 + 1 + 1 + 1 = B6_5 at hN ⊢
  generalize u1.heap.size + 1 + 1 + 1 + 1 = B6_4 at hN ⊢
  generalize u1.heap.size + 1 + 1 + 1 = B6_3 at hN ⊢
  generalize u1.heap.size + 1 + 1 = B6_2 at hN ⊢
  generalize u1.heap.size + 1 = B6_1 at hN ⊢
  generalize u1.heap.size = B6 at hN ⊢
  have hO := hN
  clear hN
  have hL := hO.apart
  have hX := hO.apartX
  have HL := Lib.hid hL
  have HX := Lib.hid hX
  clear hL hX
  have hP9 := hO.pick [6] (by decide)
  have h9_hT1 : 189 ≠ 211 := (by decide)
  have h9_hT2 : 189 ≠ 207 := (by decide)
  have T9 := drefNode nd2 nd3 op B6_4 rl ll 189 B6_2 _ _ _ hP9 h9_hT1 h9_hT2
  refine Calls.mono T9 ?_
  clear hP9 T9 h9_hT1 h9_hT2
  rintro e u8 ⟨rfl, hQ⟩
  have hN : Own w0 u8 [row (nd2) 188 nd3, row (B6_5) 32 #[.iface 192 (.pointer (some ⟨B6_4, 0, none⟩)), .int .i32 rl], row (B6_4) 194 #[.float .f64 v], row (B6_3) 32 #[.iface 192 (.pointer (some ⟨B6_4, 0, none⟩)), .int .i32 rl], row (B6_2) 191 #[.int .u32 0, .int .u32 0, .bool false, .bool false, .bool false], row (B6_1) 32 #[.iface 189 (.pointer (some ⟨B6_2, 0, none⟩)), .int .i32 ll], row (B6) 32 #[.iface 189 (.pointer (some ⟨B6_2, 0, none⟩)), .int .i32 ll]] X := hQ.back HL.out HX.out [0, 1, 2, 3, 4, 5] (by decide) (by decide)
  clear hQ HL HX hO
  have hO := hN
  clear hN
  obtain ⟨c9_1_0, c9_1_1, lt9_1, y9_1, -⟩ := hO.k2 1 rfl
  obtain ⟨c9_2_0, lt9_2, y9_2, -⟩ := hO.k1 2 rfl
  obtain ⟨c9_3_0, c9_3_1, lt9_3, y9_3, -⟩ := hO.k2 3 rfl
  obtain ⟨c9_4_0, c9_4_1, c9_4_2, c9_4_3, c9_4_4, lt9_4, y9_4, -⟩ := hO.k5 4 rfl
  obtain ⟨c9_5_0, c9_5_1, lt9_5, y9_5, -⟩ := hO.k2 5 rfl
  obtain ⟨c9_6_0, c9_6_1, lt9_6, y9_6, -⟩ := hO.k2 6 rfl
  have HO := Lib.hid hO
  clear hO
  go_wp2_with (first | (go_at_call 7; go_in) | (go_at_call 8; go_in) | (go_at_call 9; go_in) | (go_at_call 10; go_in) | (go_at_call 11; go_in) | (go_at_call 12; go_in) | (go_at_call 16; go_in) | (go_at_call 17; go_in) | (go_at_call 15; go_in))
  have hO := HO.out
  clear HO c9_1_0 c9_1_1 lt9_1 y9_1 c9_2_0 lt9_2 y9_2 c9_3_0 c9_3_1 lt9_3 y9_3 c9_4_0 c9_4_1 c9_4_2 c9_4_3 c9_4_4 lt9_4 y9_4 c9_5_0 c9_5_1 lt9_5 y9_5 c9_6_0 c9_6_1 lt9_6 y9_6
  generalize hW : World.alloc _ _ = W10
  have hN : Own w0 W10 [row (u8.heap.size) 32 #[.nilIface, .int .i32 0], row (nd2) 188 nd3, row (B6_5) 32 #[.iface 192 (.pointer (some ⟨B6_4, 0, none⟩)), .int .i32 rl], row (B6_4) 194 #[.float .f64 v], row (B6_3) 32 #[.iface 192 (.pointer (some ⟨B6_4, 0, none⟩)), .int .i32 rl], row (B6_2) 191 #[.int .u32 0, .int .u32 0, .bool false, .bool false, .bool false], row (B6_1) 32 #[.iface 189 (.pointer (some ⟨B6_2, 0, none⟩)), .int .i32 ll], row (B6) 32 #[.iface 189 (.pointer (some ⟨B6_2, 0, none⟩)), .int .i32 ll]] X := by
    rw [← hW]
    exact (hO).alloc' _ (u8.heap.size) (by simp)
  clear hW hO
  generalize u8.heap.size = B9 at hN ⊢
  have hO := hN
  clear hN
  have hL := hO.apart
  have hX := hO.apartX
  have HL := Lib.hid hL
  have HX := Lib.hid hX
  clear hL hX
  have hP9 := hO.pick [1] (by decide)
  have T9 := sc42 nd2 nd3 _ _ _ hP9 pr5
  refine Calls.mono T9 ?_
  clear hP9 T9
  rintro e u11 ⟨rfl, hQ⟩
  have hN : Own w0 u11 [row (nd2) 188 nd3, row (B9) 32 #[.nilIface, .int .i32 0], row (B6_5) 32 #[.iface 192 (.pointer (some ⟨B6_4, 0, none⟩)), .int .i32 rl], row (B6_4) 194 #[.float .f64 v], row (B6_3) 32 #[.iface 192 (.pointer (some ⟨B6_4, 0, none⟩)), .int .i32 rl], row (B6_2) 191 #[.int .u32 0, .int .u32 0, .bool false, .bool false, .bool false], row (B6_1) 32 #[.iface 189 (.pointer (some ⟨B6_2, 0, none⟩)), .int .i32 ll], row (B6) 32 #[.iface 189 (.pointer (some ⟨B6_2, 0, none⟩)), .int .i32 ll]] X := hQ.back HL.out HX.out [0, 2, 3, 4, 5, 6, 7] (by decide) (by decide)
  clear hQ HL HX hO
  have hO := hN
  clear hN
  obtain ⟨c9_1_0, c9_1_1, lt9_1, y9_1, -⟩ := hO.k2 1 rfl
  obtain ⟨c9_2_0, c9_2_1, lt9_2, y9_2, -⟩ := hO.k2 2 rfl
  obtain ⟨c9_3_0, lt9_3, y9_3, -⟩ := hO.k1 3 rfl
  obtain ⟨c9_4_0, c9_4_1, lt9_4, y9_4, -⟩ := hO.k2 4 rfl
  obtain ⟨c9_5_0, c9_5_1, c9_5_2, c9_5_3, c9_5_4, lt9_5, y9_5, -⟩ := hO.k5 5 rfl
  obtain ⟨c9_6_0, c9_6_1, lt9_6, y9_6, -⟩ := hO.k2 6 rfl
  obtain ⟨c9_7_0, c9_7_1, lt9_7, y9_7, -⟩ := hO.k2 7 rfl
  have HO := Lib.hid hO
  clear hO
  go_wp2_with (first | (go_at_call 7; go_in) | (go_at_call 8; go_in) | (go_at_call 9; go_in) | (go_at_call 10; go_in) | (go_at_call 11; go_in) | (go_at_call 12; go_in) | (go_at_call 16; go_in) | (go_at_call 17; go_in) | (go_at_call 15; go_in))
  have hO := HO.out
  clear HO c9_1_0 c9_1_1 lt9_1 y9_1 c9_2_0 c9_2_1 lt9_2 y9_2 c9_3_0 lt9_3 y9_3 c9_4_0 c9_4_1 lt9_4 y9_4 c9_5_0 c9_5_1 c9_5_2 c9_5_3 c9_5_4 lt9_5 y9_5 c9_6_0 c9_6_1 lt9_6 y9_6 c9_7_0 c9_7_1 lt9_7 y9_7
  refine bodyPost_ret (v := .bool true) ?_ rfl ⟨rfl, hO.sub [] (by decide)⟩
  simp [results, Tryz.results3, go_sem]
def law11k1Post (x : Int) (l g : Bool) (op ll rl : Int) (v : Nat) (w0 : World) (X : Nat → Obj → Prop) (e : Ending) (w' : World) : Prop :=
  e = .returned (.bool true) ∧ Own w0 w' [] X
set_option maxRecDepth 100000 in
set_option maxHeartbeats 1000000 in
theorem law11k1 (x : Int) (l g : Bool) (op ll rl : Int) (v : Nat) (w0 w : World) (X : Nat → Obj → Prop) (hO : Own w0 w [] X)  :
    Calls Tryz.prog 3 #[.int .i64 1, .int .u64 x, .bool l, .bool g, .int .u8 op, .int .i32 ll, .int .i32 rl, .float .f64 v] w (law11k1Post x l g op ll rl v w0 X) := by
  go_enter Tryz.func3, Tryz.ntmps3
  go_wp2_with (first | (go_at_call 7; go_in) | (go_at_call 8; go_in) | (go_at_call 9; go_in) | (go_at_call 10; go_in) | (go_at_call 11; go_in) | (go_at_call 12; go_in) | (go_at_call 16; go_in) | (go_at_call 17; go_in) | (go_at_call 15; go_in))
  have hL := hO.apart
  have hX := hO.apartX
  have HL := Lib.hid hL
  have HX := Lib.hid hX
  clear hL hX
  have hP9 := hO.pick [] (by decide)
  have T9 := new42 x g l _ _ _ hP9 
  refine Calls.mono T9 ?_
  clear hP9 T9
  rintro e u1 ⟨nd2, nd3, rfl, pr4, pr5, hQ⟩
  have hN : Own w0 u1 [row (nd2) 188 nd3] X := hQ.back HL.out HX.out [] (by decide) (by decide)
  clear hQ HL HX hO
  have hO := hN
  clear hN
  go_wp2_with (first | (go_at_call 7; go_in) | (go_at_call 8; go_in) | (go_at_call 9; go_in) | (go_at_call 10; go_in) | (go_at_call 11; go_in) | (go_at_call 12; go_in) | (go_at_call 16; go_in) | (go_at_call 17; go_in) | (go_at_call 15; go_in))
  generalize hW : World.alloc _ _ = W7
  have hN : Own w0 W7 [row (u1.heap.size + 1 + 1 + 1 + 1 + 1) 32 #[.iface 192 (.pointer (some ⟨u1.heap.size + 1 + 1 + 1 + 1, 0, none⟩)), .int .i32 rl], row (u1.heap.size + 1 + 1 + 1 + 1) 194 #[.float .f64 v], row (u1.heap.size + 1 + 1 + 1) 32 #[.iface 192 (.pointer (some ⟨u1.heap.size + 1 + 1 + 1 + 1, 0, none⟩)), .int .i32 rl], row (u1.heap.size + 1 + 1) 194 #[.float .f64 v], row (u1.heap.size + 1) 32 #[.iface 192 (.pointer (some ⟨u1.heap.size + 1 + 1, 0, none⟩)), .int .i32 ll], row (u1.heap.size) 32 #[.iface 192 (.pointer (some ⟨u1.heap.size + 1 + 1, 0, none⟩)), .int .i32 ll], row (nd2) 188 nd3] X := by
    rw [← hW]
    exact ((((((hO).alloc' _ (u1.heap.size) (by simp)).alloc' _ (u1.heap.size + 1) (by simp)).alloc' _ (u1.heap.size + 1 + 1) (by simp)).alloc' _ (u1.heap.size + 1 + 1 + 1) (by simp)).alloc' _ (u1.heap.size + 1 + 1 + 1 + 1) (by simp)).alloc' _ (u1.heap.size + 1 + 1 + 1 + 1 + 1) (by simp)
  clear hW hO
  generalize u1.heap.size + 1 + 1 + 1 + 1 + 1 = B6_5 at hN ⊢
  generalize u1.heap.size + 1 + 1 + 1 + 1 = B6_4 at hN ⊢
  generalize u1.heap.size + 1 + 1 + 1 = B6_3 at hN ⊢
  generalize u1.heap.size + 1 + 1 = B6_2 at hN ⊢
  generalize u1.heap.size + 1 = B6_1 at hN ⊢
  generalize u1.heap.size = B6 at hN ⊢
  have hO := hN
  clear hN
  have hL := hO.apart
  have hX := hO.apartX
  have HL := Lib.hid hL
  have HX := Lib.hid hX
  clear hL hX
  have hP9 := hO.pick [6] (by decide)
  have h9_hT1 : 192 ≠ 211 := (by decide)
  have h9_hT2 : 192 ≠ 207 := (by decide)
  have T9 := drefNode nd2 nd3 op B6_4 rl ll 192 B6_2 _ _ _ hP9 h9_hT1 h9_hT2
  refine Calls.mono T9 ?_
  clear hP9 T9 h9_hT1 h9_hT2
  rintro e u8 ⟨rfl, hQ⟩
  have hN : Own w0 u8 [row (nd2) 188 nd3, row (B6_5) 32 #[.iface 192 (.pointer (some ⟨B6_4, 0, none⟩)), .int .i32 rl], row (B6_4) 194 #[.float .f64 v], row (B6_3) 32 #[.iface 192 (.pointer (some ⟨B6_4, 0, none⟩)), .int .i32 rl], row (B6_2) 194 #[.float .f64 v], row (B6_1) 32 #[.iface 192 (.pointer (some ⟨B6_2, 0, none⟩)), .int .i32 ll], row (B6) 32 #[.iface 192 (.pointer (some ⟨B6_2, 0, none⟩)), .int .i32 ll]] X := hQ.back HL.out HX.out [0, 1, 2, 3, 4, 5] (by decide) (by decide)
  clear hQ HL HX hO
  have hO := hN
  clear hN
  obtain ⟨c9_1_0, c9_1_1, lt9_1, y9_1, -⟩ := hO.k2 1 rfl
  obtain ⟨c9_2_0, lt9_2, y9_2, -⟩ := hO.k1 2 rfl
  obtain ⟨c9_3_0, c9_3_1, lt9_3, y9_3, -⟩ := hO.k2 3 rfl
  obtain ⟨c9_4_0, lt9_4, y9_4, -⟩ := hO.k1 4 rfl
  obtain ⟨c9_5_0, c9_5_1, lt9_5, y9_5, -⟩ := hO.k2 5 rfl
  obtain ⟨c9_6_0, c9_6_1, lt9_6, y9_6, -⟩ := hO.k2 6 rfl
  have HO := Lib.hid hO
  clear hO
  go_wp2_with (first | (go_at_call 7; go_in) | (go_at_call 8; go_in) | (go_at_call 9; go_in) | (go_at_call 10; go_in) | (go_at_call 11; go_in) | (go_at_call 12; go_in) | (go_at_call 16; go_in) | (go_at_call 17; go_in) | (go_at_call 15; go_in))
  have hO := HO.out
  clear HO c9_1_0 c9_1_1 lt9_1 y9_1 c9_2_0 lt9_2 y9_2 c9_3_0 c9_3_1 lt9_3 y9_3 c9_4_0 lt9_4 y9_4 c9_5_0 c9_5_1 lt9_5 y9_5 c9_6_0 c9_6_1 lt9_6 y9_6
  generalize hW : World.alloc _ _ = W10
  have hN : Own w0 W10 [row (u8.heap.size) 32 #[.nilIface, .int .i32 0], row (nd2) 188 nd3, row (B6_5) 32 #[.iface 192 (.pointer (some ⟨B6_4, 0, none⟩)), .int .i32 rl], row (B6_4) 194 #[.float .f64 v], row (B6_3) 32 #[.iface 192 (.pointer (some ⟨B6_4, 0, none⟩)), .int .i32 rl], row (B6_2) 194 #[.float .f64 v], row (B6_1) 32 #[.iface 192 (.pointer (some ⟨B6_2, 0, none⟩)), .int .i32 ll], row (B6) 32 #[.iface 192 (.pointer (some ⟨B6_2, 0, none⟩)), .int .i32 ll]] X := by
    rw [← hW]
    exact (hO).alloc' _ (u8.heap.size) (by simp)
  clear hW hO
  generalize u8.heap.size = B9 at hN ⊢
  have hO := hN
  clear hN
  have hL := hO.apart
  have hX := hO.apartX
  have HL := Lib.hid hL
  have HX := Lib.hid hX
  clear hL hX
  have hP9 := hO.pick [1] (by decide)
  have T9 := sc42 nd2 nd3 _ _ _ hP9 pr5
  refine Calls.mono T9 ?_
  clear hP9 T9
  rintro e u11 ⟨rfl, hQ⟩
  have hN : Own w0 u11 [row (nd2) 188 nd3, row (B9) 32 #[.nilIface, .int .i32 0], row (B6_5) 32 #[.iface 192 (.pointer (some ⟨B6_4, 0, none⟩)), .int .i32 rl], row (B6_4) 194 #[.float .f64 v], row (B6_3) 32 #[.iface 192 (.pointer (some ⟨B6_4, 0, none⟩)), .int .i32 rl], row (B6_2) 194 #[.float .f64 v], row (B6_1) 32 #[.iface 192 (.pointer (some ⟨B6_2, 0, none⟩)), .int .i32 ll], row (B6) 32 #[.iface 192 (.pointer (some ⟨B6_2, 0, none⟩)), .int .i32 ll]] X := hQ.back HL.out HX.out [0, 2, 3, 4, 5, 6, 7] (by decide) (by decide)
  clear hQ HL HX hO
  have hO := hN
  clear hN
  obtain ⟨c9_1_0, c9_1_1, lt9_1, y9_1, -⟩ := hO.k2 1 rfl
  obtain ⟨c9_2_0, c9_2_1, lt9_2, y9_2, -⟩ := hO.k2 2 rfl
  obtain ⟨c9_3_0, lt9_3, y9_3, -⟩ := hO.k1 3 rfl
  obtain ⟨c9_4_0, c9_4_1, lt9_4, y9_4, -⟩ := hO.k2 4 rfl
  obtain ⟨c9_5_0, lt9_5, y9_5, -⟩ := hO.k1 5 rfl
  obtain ⟨c9_6_0, c9_6_1, lt9_6, y9_6, -⟩ := hO.k2 6 rfl
  obtain ⟨c9_7_0, c9_7_1, lt9_7, y9_7, -⟩ := hO.k2 7 rfl
  have HO := Lib.hid hO
  clear hO
  go_wp2_with (first | (go_at_call 7; go_in) | (go_at_call 8; go_in) | (go_at_call 9; go_in) | (go_at_call 10; go_in) | (go_at_call 11; go_in) | (go_at_call 12; go_in) | (go_at_call 16; go_in) | (go_at_call 17; go_in) | (go_at_call 15; go_in))
  have hO := HO.out
  clear HO c9_1_0 c9_1_1 lt9_1 y9_1 c9_2_0 c9_2_1 lt9_2 y9_2 c9_3_0 lt9_3 y9_3 c9_4_0 c9_4_1 lt9_4 y9_4 c9_5_0 lt9_5 y9_5 c9_6_0 c9_6_1 lt9_6 y9_6 c9_7_0 c9_7_1 lt9_7 y9_7
  refine bodyPost_ret (v := .bool true) ?_ rfl ⟨rfl, hO.sub [] (by decide)⟩
  simp [results, Tryz.results3, go_sem]
def law11k2Post (x : Int) (l g : Bool) (op ll rl : Int) (v : Nat) (w0 : World) (X : Nat → Obj → Prop) (e : Ending) (w' : World) : Prop :=
  e = .returned (.bool true) ∧ Own w0 w' [] X
set_option maxRecDepth 100000 in
set_option maxHeartbeats 1000000 in
theorem law11k2 (x : Int) (l g : Bool) (op ll rl : Int) (v : Nat) (w0 w : World) (X : Nat → Obj → Prop) (hO : Own w0 w [] X)  :
    Calls Tryz.prog 3 #[.int .i64 2, .int .u64 x, .bool l, .bool g, .int .u8 op, .int .i32 ll, .int .i32 rl, .float .f64 v] w (law11k2Post x l g op ll rl v w0 X) := by
  go_enter Tryz.func3, Tryz.ntmps3
  go_wp2_with (first | (go_at_call 7; go_in) | (go_at_call 8; go_in) | (go_at_call 9; go_in) | (go_at_call 10; go_in) | (go_at_call 11; go_in) | (go_at_call 12; go_in) | (go_at_call 16; go_in) | (go_at_call 17; go_in) | (go_at_call 15; go_in))
  have hL := hO.apart
  have hX := hO.apartX
  have HL := Lib.hid hL
  have HX := Lib.hid hX
  clear hL hX
  have hP9 := hO.pick [] (by decide)
  have T9 := new42 x g l _ _ _ hP9 
  refine Calls.mono T9 ?_
  clear hP9 T9
  rintro e u1 ⟨nd2, nd3, rfl, pr4, pr5, hQ⟩
  have hN : Own w0 u1 [row (nd2) 188 nd3] X := hQ.back HL.out HX.out [] (by decide) (by decide)
  clear hQ HL HX hO
  have hO := hN
  clear hN
  go_wp2_with (first | (go_at_call 7; go_in) | (go_at_call 8; go_in) | (go_at_call 9; go_in) | (go_at_call 10; go_in) | (go_at_call 11; go_in) | (go_at_call 12; go_in) | (go_at_call 16; go_in) | (go_at_call 17; go_in) | (go_at_call 15; go_in))
  generalize hW : World.alloc _ _ = W7
  have hN : Own w0 W7 [row (u1.heap.size + 1 + 1 + 1 + 1 + 1) 32 #[.iface 192 (.pointer (some ⟨u1.heap.size + 1 + 1 + 1 + 1, 0, none⟩)), .int .i32 rl], row (u1.heap.size + 1 + 1 + 1 + 1) 194 #[.float .f64 v], row (u1.heap.size + 1 + 1 + 1) 32 #[.iface 192 (.pointer (some ⟨u1.heap.size + 1 + 1 + 1 + 1, 0, none⟩)), .int .i32 rl], row (u1.heap.size + 1 + 1) 197 #[.slice none 0 0, .int .i32 0, .bool false, .bool false, .bool false], row (u1.heap.size + 1) 32 #[.iface 195 (.pointer (some ⟨u1.heap.size + 1 + 1, 0, none⟩)), .int .i32 ll], row (u1.heap.size) 32 #[.iface 195 (.pointer (some ⟨u1.heap.size + 1 + 1, 0, none⟩)), .int .i32 ll], row (nd2) 188 nd3] X := by
    rw [← hW]
    exact ((((((hO).alloc' _ (u1.heap.size) (by simp)).alloc' _ (u1.heap.size + 1) (by simp)).alloc' _ (u1.heap.size + 1 + 1) (by simp)).alloc' _ (u1.heap.size + 1 + 1 + 1) (by simp)).alloc' _ (u1.heap.size + 1 + 1 + 1 + 1) (by simp)).alloc' _ (u1.heap.size + 1 + 1 + 1 + 1 + 1) (by simp)
  clear hW hO
  generalize u1.heap.size + 1 + 1 + 1 + 1 + 1 = B6_5 at hN ⊢
  generalize u1.heap.size + 1 + 1 + 1 + 1 = B6_4 at hN ⊢
  generalize u1.heap.size + 1 + 1 + 1 = B6_3 at hN ⊢
  generalize u1.heap.size + 1 + 1 = B6_2 at hN ⊢
  generalize u1.heap.size + 1 = B6_1 at hN ⊢
  generalize u1.heap.size = B6 at hN ⊢
  have hO := hN
  clear hN
  have hL := hO.apart
  have hX := hO.apartX
  have HL := Lib.hid hL
  have HX := Lib.hid hX
  clear hL hX
  have hP9 := hO.pick [6] (by decide)
  have h9_hT1 : 195 ≠ 211 := (by decide)
  have h9_hT2 : 195 ≠ 207 := (by decide)
  have T9 := drefNode nd2 nd3 op B6_4 rl ll 195 B6_2 _ _ _ hP9 h9_hT1 h9_hT2
  refine Calls.mono T9 ?_
  clear hP9 T9 h9_hT1 h9_hT2
  rintro e u8 ⟨rfl, hQ⟩
  have hN : Own w0 u8 [row (nd2) 188 nd3, row (B6_5) 32 #[.iface 192 (.pointer (some ⟨B6_4, 0, none⟩)), .int .i32 rl], row (B6_4) 194 #[.float .f64 v], row (B6_3) 32 #[.iface 192 (.pointer (some ⟨B6_4, 0, none⟩)), .int .i32 rl], row (B6_2) 197 #[.slice none 0 0, .int .i32 0, .bool false, .bool false, .bool false], row (B6_1) 32 #[.iface 195 (.pointer (some ⟨B6_2, 0, none⟩)), .int .i32 ll], row (B6) 32 #[.iface 195 (.pointer (some ⟨B6_2, 0, none⟩)), .int .i32 ll]] X := hQ.back HL.out HX.out [0, 1, 2, 3, 4, 5] (by decide) (by decide)
  clear hQ HL HX hO
  have hO := hN
  clear hN
  obtain ⟨c9_1_0, c9_1_1, lt9_1, y9_1, -⟩ := hO.k2 1 rfl
  obtain ⟨c9_2_0, lt9_2, y9_2, -⟩ := hO.k1 2 rfl
  obtain ⟨c9_3_0, c9_3_1, lt9_3, y9_3, -⟩ := hO.k2 3 rfl
  obtain ⟨c9_4_0, c9_4_1, c9_4_2, c9_4_3, c9_4_4, lt9_4, y9_4, -⟩ := hO.k5 4 rfl
  obtain ⟨c9_5_0, c9_5_1, lt9_5, y9_5, -⟩ := hO.k2 5 rfl
  obtain ⟨c9_6_0, c9_6_1, lt9_6, y9_6, -⟩ := hO.k2 6 rfl
  have HO := Lib.hid hO
  clear hO
  go_wp2_with (first | (go_at_call 7; go_in) | (go_at_call 8; go_in) | (go_at_call 9; go_in) | (go_at_call 10; go_in) | (go_at_call 11; go_in) | (go_at_call 12; go_in) | (go_at_call 16; go_in) | (go_at_call 17; go_in) | (go_at_call 15; go_in))
  have hO := HO.out
  clear HO c9_1_0 c9_1_1 lt9_1 y9_1 c9_2_0 lt9_2 y9_2 c9_3_0 c9_3_1 lt9_3 y9_3 c9_4_0 c9_4_1 c9_4_2 c9_4_3 c9_4_4 lt9_4 y9_4 c9_5_0 c9_5_1 lt9_5 y9_5 c9_6_0 c9_6_1 lt9_6 y9_6
  generalize hW : World.alloc _ _ = W10
  have hN : Own w0 W10 [row (u8.heap.size) 32 #[.nilIface, .int .i32 0], row (nd2) 188 nd3, row (B6_5) 32 #[.iface 192 (.pointer (some ⟨B6_4, 0, none⟩)), .int .i32 rl], row (B6_4) 194 #[.float .f64 v], row (B6_3) 32 #[.iface 192 (.pointer (some ⟨B6_4, 0, none⟩)), .int .i32 rl], row (B6_2) 197 #[.slice none 0 0, .int .i32 0, .bool false, .bool false, .bool false], row (B6_1) 32 #[.iface 195 (.pointer (some ⟨B6_2, 0, none⟩)), .int .i32 ll], row (B6) 32 #[.iface 195 (.pointer (some ⟨B6_2, 0, none⟩)), .int .i32 ll]] X := by
    rw [← hW]
    exact (hO).alloc' _ (u8.heap.size) (by simp)
  clear hW hO
  generalize u8.heap.size = B9 at hN ⊢
  have hO := hN
  clear hN
  have hL := hO.apart
  have hX := hO.apartX
  have HL := Lib.hid hL
  have HX := Lib.hid hX
  clear hL hX
  have hP9 := hO.pick [1] (by decide)
  have T9 := sc42 nd2 nd3 _ _ _ hP9 pr5
  refine Calls.mono T9 ?_
  clear hP9 T9
  rintro e u11 ⟨rfl, hQ⟩
  have hN : Own w0 u11 [row (nd2) 188 nd3, row (B9) 32 #[.nilIface, .int .i32 0], row (B6_5) 32 #[.iface 192 (.pointer (some ⟨B6_4, 0, none⟩)), .int .i32 rl], row (B6_4) 194 #[.float .f64 v], row (B6_3) 32 #[.iface 192 (.pointer (some ⟨B6_4, 0, none⟩)), .int .i32 rl], row (B6_2) 197 #[.slice none 0 0, .int .i32 0, .bool false, .bool false, .bool false], row (B6_1) 32 #[.iface 195 (.pointer (some ⟨B6_2, 0, none⟩)), .int .i32 ll], row (B6) 32 #[.iface 195 (.pointer (some ⟨B6_2, 0, none⟩)), .int .i32 ll]] X := hQ.back HL.out HX.out [0, 2, 3, 4, 5, 6, 7] (by decide) (by decide)
  clear hQ HL HX hO
  have hO := hN
  clear hN
  obtain ⟨c9_1_0, c9_1_1, lt9_1, y9_1, -⟩ := hO.k2 1 rfl
  obtain ⟨c9_2_0, c9_2_1, lt9_2, y9_2, -⟩ := hO.k2 2 rfl
  obtain ⟨c9_3_0, lt9_3, y9_3, -⟩ := hO.k1 3 rfl
  obtain ⟨c9_4_0, c9_4_1, lt9_4, y9_4, -⟩ := hO.k2 4 rfl
  obtain ⟨c9_5_0, c9_5_1, c9_5_2, c9_5_3, c9_5_4, lt9_5, y9_5, -⟩ := hO.k5 5 rfl
  obtain ⟨c9_6_0, c9_6_1, lt9_6, y9_6, -⟩ := hO.k2 6 rfl
  obtain ⟨c9_7_0, c9_7_1, lt9_7, y9_7, -⟩ := hO.k2 7 rfl
  have HO := Lib.hid hO
  clear hO
  go_wp2_with (first | (go_at_call 7; go_in) | (go_at_call 8; go_in) | (go_at_call 9; go_in) | (go_at_call 10; go_in) | (go_at_call 11; go_in) | (go_at_call 12; go_in) | (go_at_call 16; go_in) | (go_at_call 17; go_in) | (go_at_call 15; go_in))
  have hO := HO.out
  clear HO c9_1_0 c9_1_1 lt9_1 y9_1 c9_2_0 c9_2_1 lt9_2 y9_2 c9_3_0 lt9_3 y9_3 c9_4_0 c9_4_1 lt9_4 y9_4 c9_5_0 c9_5_1 c9_5_2 c9_5_3 c9_5_4 lt9_5 y9_5 c9_6_0 c9_6_1 lt9_6 y9_6 c9_7_0 c9_7_1 lt9_7 y9_7
  refine bodyPost_ret (v := .bool true) ?_ rfl ⟨rfl, hO.sub [] (by decide)⟩
  simp [results, Tryz.results3, go_sem]
def law11k3Post (x : Int) (l g : Bool) (op ll rl : Int) (v : Nat) (w0 : World) (X : Nat → Obj → Prop) (e : Ending) (w' : World) : Prop :=
  e = .returned (.bool true) ∧ Own w0 w' [] X
set_option maxRecDepth 100000 in
set_option maxHeartbeats 1000000 in
theorem law11k3 (x : Int) (l g : Bool) (op ll rl : Int) (v : Nat) (w0 w : World) (X : Nat → Obj → Prop) (hO : Own w0 w [] X)  :
    Calls Tryz.prog 3 #[.int .i64 3, .int .u64 x, .bool l, .bool g, .int .u8 op, .int .i32 ll, .int .i32 rl, .float .f64 v] w (law11k3Post x l g op ll rl v w0 X) := by
  go_enter Tryz.func3, Tryz.ntmps3
  go_wp2_with (first | (go_at_call 7; go_in) | (go_at_call 8; go_in) | (go_at_call 9; go_in) | (go_at_call 10; go_in) | (go_at_call 11; go_in) | (go_at_call 12; go_in) | (go_at_call 16; go_in) | (go_at_call 17; go_in) | (go_at_call 15; go_in))
  have hL := hO.apart
  have hX := hO.apartX
  have HL := Lib.hid hL
  have HX := Lib.hid hX
  clear hL hX
  have hP9 := hO.pick [] (by decide)
  have T9 := new42 x g l _ _ _ hP9 
  refine Calls.mono T9 ?_
  clear hP9 T9
  rintro e u1 ⟨nd2, nd3, rfl, pr4, pr5, hQ⟩
  have hN : Own w0 u1 [row (nd2) 188 nd3] X := hQ.back HL.out HX.out [] (by decide) (by decide)
  clear hQ HL HX hO
  have hO := hN
  clear hN
  go_wp2_with (first | (go_at_call 7; go_in) | (go_at_call 8; go_in) | (go_at_call 9; go_in) | (go_at_call 10; go_in) | (go_at_call 11; go_in) | (go_at_call 12; go_in) | (go_at_call 16; go_in) | (go_at_call 17; go_in) | (go_at_call 15; go_in))
  generalize hW : World.alloc _ _ = W7
  have hN : Own w0 W7 [row (u1.heap.size + 1 + 1 + 1 + 1 + 1) 32 #[.iface 192 (.pointer (some ⟨u1.heap.size + 1 + 1 + 1 + 1, 0, none⟩)), .int .i32 rl], row (u1.heap.size + 1 + 1 + 1 + 1) 194 #[.float .f64 v], row (u1.heap.size + 1 + 1 + 1) 32 #[.iface 192 (.pointer (some ⟨u1.heap.size + 1 + 1 + 1 + 1, 0, none⟩)), .int .i32 rl], row (u1.heap.size + 1 + 1) 200 #[], row (u1.heap.size + 1) 32 #[.iface 198 (.pointer (some ⟨u1.heap.size + 1 + 1, 0, none⟩)), .int .i32 ll], row (u1.heap.size) 32 #[.iface 198 (.pointer (some ⟨u1.heap.size + 1 + 1, 0, none⟩)), .int .i32 ll], row (nd2) 188 nd3] X := by
    rw [← hW]
    exact ((((((hO).alloc' _ (u1.heap.size) (by simp)).alloc' _ (u1.heap.size + 1) (by simp)).alloc' _ (u1.heap.size + 1 + 1) (by simp)).alloc' _ (u1.heap.size + 1 + 1 + 1) (by simp)).alloc' _ (u1.heap.size + 1 + 1 + 1 + 1) (by simp)).alloc' _ (u1.heap.size + 1 + 1 + 1 + 1 + 1) (by simp)
  clear hW hO
  generalize u1.heap.size + 1 + 1 + 1 + 1 + 1 = B6_5 at hN ⊢
  generalize u1.heap.size + 1 + 1 + 1 + 1 = B6_4 at hN ⊢
  generalize u1.heap.size + 1 + 1 + 1 = B6_3 at hN ⊢
  generalize u1.heap.size + 1 + 1 = B6_2 at hN ⊢
  generalize u1.heap.size + 1 = B6_1 at hN ⊢
  generalize u1.heap.size = B6 at hN ⊢
  have hO := hN
  clear hN
  have hL := hO.apart
  have hX := hO.apartX
  have HL := Lib.hid hL
  have HX := Lib.hid hX
  clear hL hX
  have hP9 := hO.pick [6] (by decide)
  have h9_hT1 : 198 ≠ 211 := (by decide)
  have h9_hT2 : 198 ≠ 207 := (by decide)
  have T9 := drefNode nd2 nd3 op B6_4 rl ll 198 B6_2 _ _ _ hP9 h9_hT1 h9_hT2
  refine Calls.mono T9 ?_
  clear hP9 T9 h9_hT1 h9_hT2
  rintro e u8 ⟨rfl, hQ⟩
  have hN : Own w0 u8 [row (nd2) 188 nd3, row (B6_5) 32 #[.iface 192 (.pointer (some ⟨B6_4, 0, none⟩)), .int .i32 rl], row (B6_4) 194 #[.float .f64 v], row (B6_3) 32 #[.iface 192 (.pointer (some ⟨B6_4, 0, none⟩)), .int .i32 rl], row (B6_2) 200 #[], row (B6_1) 32 #[.iface 198 (.pointer (some ⟨B6_2, 0, none⟩)), .int .i32 ll], row (B6) 32 #[.iface 198 (.pointer (some ⟨B6_2, 0, none⟩)), .int .i32 ll]] X := hQ.back HL.out HX.out [0, 1, 2, 3, 4, 5] (by decide) (by decide)
  clear hQ HL HX hO
  have hO := hN
  clear hN
  obtain ⟨c9_1_0, c9_1_1, lt9_1, y9_1, -⟩ := hO.k2 1 rfl
  obtain ⟨c9_2_0, lt9_2, y9_2, -⟩ := hO.k1 2 rfl
  obtain ⟨c9_3_0, c9_3_1, lt9_3, y9_3, -⟩ := hO.k2 3 rfl
  obtain ⟨lt9_4, y9_4, -⟩ := hO.k0 4 rfl
  obtain ⟨c9_5_0, c9_5_1, lt9_5, y9_5, -⟩ := hO.k2 5 rfl
  obtain ⟨c9_6_0, c9_6_1, lt9_6, y9_6, -⟩ := hO.k2 6 rfl
  have HO := Lib.hid hO
  clear hO
  go_wp2_with (first | (go_at_call 7; go_in) | (go_at_call 8; go_in) | (go_at_call 9; go_in) | (go_at_call 10; go_in) | (go_at_call 11; go_in) | (go_at_call 12; go_in) | (go_at_call 16; go_in) | (go_at_call 17; go_in) | (go_at_call 15; go_in))
  have hO := HO.out
  clear HO c9_1_0 c9_1_1 lt9_1 y9_1 c9_2_0 lt9_2 y9_2 c9_3_0 c9_3_1 lt9_3 y9_3 lt9_4 y9_4 c9_5_0 c9_5_1 lt9_5 y9_5 c9_6_0 c9_6_1 lt9_6 y9_6
  generalize hW : World.alloc _ _ = W10
  have hN : Own w0 W10 [row (u8.heap.size) 32 #[.nilIface, .int .i32 0], row (nd2) 188 nd3, row (B6_5) 32 #[.iface 192 (.pointer (some ⟨B6_4, 0, none⟩)), .int .i32 rl], row (B6_4) 194 #[.float .f64 v], row (B6_3) 32 #[.iface 192 (.pointer (some ⟨B6_4, 0, none⟩)), .int .i32 rl], row (B6_2) 200 #[], row (B6_1) 32 #[.iface 198 (.pointer (some ⟨B6_2, 0, none⟩)), .int .i32 ll], row (B6) 32 #[.iface 198 (.pointer (some ⟨B6_2, 0, none⟩)), .int .i32 ll]] X := by
    rw [← hW]
    exact (hO).alloc' _ (u8.heap.size) (by simp)
  clear hW hO
  generalize u8.heap.size = B9 at hN ⊢
  have hO := hN
  clear hN
  have hL := hO.apart
  have hX := hO.apartX
  have HL := Lib.hid hL
  have HX := Lib.hid hX
  clear hL hX
  have hP9 := hO.pick [1] (by decide)
  have T9 := sc42 nd2 nd3 _ _ _ hP9 pr5
  refine Calls.mono T9 ?_
  clear hP9 T9
  rintro e u11 ⟨rfl, hQ⟩
  have hN : Own w0 u11 [row (nd2) 188 nd3, row (B9) 32 #[.nilIface, .int .i32 0], row (B6_5) 32 #[.iface 192 (.pointer (some ⟨B6_4, 0, none⟩)), .int .i32 rl], row (B6_4) 194 #[.float .f64 v], row (B6_3) 32 #[.iface 192 (.pointer (some ⟨B6_4, 0, none⟩)), .int .i32 rl], row (B6_2) 200 #[], row (B6_1) 32 #[.iface 198 (.pointer (some ⟨B6_2, 0, none⟩)), .int .i32 ll], row (B6) 32 #[.iface 198 (.pointer (some ⟨B6_2, 0, none⟩)), .int .i32 ll]] X := hQ.back HL.out HX.out [0, 2, 3, 4, 5, 6, 7] (by decide) (by decide)
  clear hQ HL HX hO
  have hO := hN
  clear hN
  obtain ⟨c9_1_0, c9_1_1, lt9_1, y9_1, -⟩ := hO.k2 1 rfl
  obtain ⟨c9_2_0, c9_2_1, lt9_2, y9_2, -⟩ := hO.k2 2 rfl
  obtain ⟨c9_3_0, lt9_3, y9_3, -⟩ := hO.k1 3 rfl
  obtain ⟨c9_4_0, c9_4_1, lt9_4, y9_4, -⟩ := hO.k2 4 rfl
  obtain ⟨lt9_5, y9_5, -⟩ := hO.k0 5 rfl
  obtain ⟨c9_6_0, c9_6_1, lt9_6, y9_6, -⟩ := hO.k2 6 rfl
  obtain ⟨c9_7_0, c9_7_1, lt9_7, y9_7, -⟩ := hO.k2 7 rfl
  have HO := Lib.hid hO
  clear hO
  go_wp2_with (first | (go_at_call 7; go_in) | (go_at_call 8; go_in) | (go_at_call 9; go_in) | (go_at_call 10; go_in) | (go_at_call 11; go_in) | (go_at_call 12; go_in) | (go_at_call 16; go_in) | (go_at_call 17; go_in) | (go_at_call 15; go_in))
  have hO := HO.out
  clear HO c9_1_0 c9_1_1 lt9_1 y9_1 c9_2_0 c9_2_1 lt9_2 y9_2 c9_3_0 lt9_3 y9_3 c9_4_0 c9_4_1 lt9_4 y9_4 lt9_5 y9_5 c9_6_0 c9_6_1 lt9_6 y9_6 c9_7_0 c9_7_1 lt9_7 y9_7
  refine bodyPost_ret (v := .bool true) ?_ rfl ⟨rfl, hO.sub [] (by decide)⟩
  simp [results, Tryz.results3, go_sem]
def law11k4Post (x : Int) (l g : Bool) (op ll rl : Int) (v : Nat) (w0 : World) (X : Nat → Obj → Prop) (e : Ending) (w' : World) : Prop :=
  e = .returned (.bool true) ∧ Own w0 w' [] X
set_option maxRecDepth 100000 in
set_option maxHeartbeats 1000000 in
theorem law11k4 (x : Int) (l g : Bool) (op ll rl : Int) (v : Nat) (w0 w : World) (X : Nat → Obj → Prop) (hO : Own w0 w [] X)  :
    Calls Tryz.prog 3 #[.int .i64 4, .int .u64 x, .bool l, .bool g, .int .u8 op, .int .i32 ll, .int .i32 rl, .float .f64 v] w (law11k4Post x l g op ll rl v w0 X) := by
  go_enter Tryz.func3, Tryz.ntmps3
  go_wp2_with (first | (go_at_call 7; go_in) | (go_at_call 8; go_in) | (go_at_call 9; go_in) | (go_at_call 10; go_in) | (go_at_call 11; go_in) | (go_at_call 12; go_in) | (go_at_call 16; go_in) | (go_at_call 17; go_in) | (go_at_call 15; go_in))
  have hL := hO.apart
  have hX := hO.apartX
  have HL := Lib.hid hL
  have HX := Lib.hid hX
  clear hL hX
  have hP9 := hO.pick [] (by decide)
  have T9 := new42 x g l _ _ _ hP9 
  refine Calls.mono T9 ?_
  clear hP9 T9
  rintro e u1 ⟨nd2, nd3, rfl, pr4, pr5, hQ⟩
  have hN : Own w0 u1 [row (nd2) 188 nd3] X := hQ.back HL.out HX.out [] (by decide) (by decide)
  clear hQ HL HX hO
  have hO := hN
  clear hN
  go_wp2_with (first | (go_at_call 7; go_in) | (go_at_call 8; go_in) | (go_at_call 9; go_in) | (go_at_call 10; go_in) | (go_at_call 11; go_in) | (go_at_call 12; go_in) | (go_at_call 16; go_in) | (go_at_call 17; go_in) | (go_at_call 15; go_in))
  generalize hW : World.alloc _ _ = W7
  have hN : Own w0 W7 [row (u1.heap.size + 1 + 1 + 1 + 1 + 1 + 1 + 1 + 1) 32 #[.iface 192 (.pointer (some ⟨u1.heap.size + 1 + 1 + 1 + 1 + 1 + 1 + 1, 0, none⟩)), .int .i32 rl], row (u1.heap.size + 1 + 1 + 1 + 1 + 1 + 1 + 1) 194 #[.float .f64 v], row (u1.heap.size + 1 + 1 + 1 + 1 + 1 + 1) 32 #[.iface 192 (.pointer (some ⟨u1.heap.size + 1 + 1 + 1 + 1 + 1 + 1 + 1, 0, none⟩)), .int .i32 rl], row (u1.heap.size + 1 + 1 + 1 + 1 + 1) 203 #[.slice (some ⟨u1.heap.size + 1 + 1 + 1, 0, none⟩) 1 1, .int .i32 0, .int .i32 0, .bool false, .bool false], row (u1.heap.size + 1 + 1 + 1 + 1) 32 #[.iface 201 (.pointer (some ⟨u1.heap.size + 1 + 1 + 1 + 1 + 1, 0, none⟩)), .int .i32 ll], row (u1.heap.size + 1 + 1 + 1) 32 #[.iface 189 (.pointer (some ⟨u1.heap.size + 1 + 1, 0, none⟩)), .int .i32 ll], row (u1.heap.size + 1 + 1) 191 #[.int .u32 0, .int .u32 0, .bool false, .bool false, .bool false], row (u1.heap.size + 1) 32 #[.iface 189 (.pointer (some ⟨u1.heap.size + 1 + 1, 0, none⟩)), .int .i32 ll], row (u1.heap.size) 32 #[.iface 201 (.pointer (some ⟨u1.heap.size + 1 + 1 + 1 + 1 + 1, 0, none⟩)), .int .i32 ll], row (nd2) 188 nd3] X := by
    rw [← hW]
    exact (((((((((hO).alloc' _ (u1.heap.size) (by simp)).alloc' _ (u1.heap.size + 1) (by simp)).alloc' _ (u1.heap.size + 1 + 1) (by simp)).alloc' _ (u1.heap.size + 1 + 1 + 1) (by simp)).alloc' _ (u1.heap.size + 1 + 1 + 1 + 1) (by simp)).alloc' _ (u1.heap.size + 1 + 1 + 1 + 1 + 1) (by simp)).alloc' _ (u1.heap.size + 1 + 1 + 1 + 1 + 1 + 1) (by simp)).alloc' _ (u1.heap.size + 1 + 1 + 1 + 1 + 1 + 1 + 1) (by simp)).alloc' _ (u1.heap.size + 1 + 1 + 1 + 1 + 1 + 1 + 1 + 1) (by simp)
  clear hW hO
  generalize u1.heap.size + 1 + 1 + 1 + 1 + 1 + 1 + 1 + 1 = B6_8 at hN ⊢
  generalize u1.heap.size + 1 + 1 + 1 + 1 + 1 + 1 + 1 = B6_7 at hN ⊢
  generalize u1.heap.size + 1 + 1 + 1 + 1 + 1 + 1 = B6_6 at hN ⊢
  generalize u1.heap.size + 1 + 1 + 1 + 1 + 1 = B6_5 at hN ⊢
  generalize u1.heap.size + 1 + 1 + 1 + 1 = B6_4 at hN ⊢
  generalize u1.heap.size + 1 + 1 + 1 = B6_3 at hN ⊢
  generalize u1.heap.size + 1 + 1 = B6_2 at hN ⊢
  generalize u1.heap.size + 1 = B6_1 at hN ⊢
  generalize u1.heap.size = B6 at hN ⊢
  have hO := hN
  clear hN
  have hL := hO.apart
  have hX := hO.apartX
  have HL := Lib.hid hL
  have HX := Lib.hid hX
  clear hL hX
  have hP9 := hO.pick [9] (by decide)
  have h9_hT1 : 201 ≠ 211 := (by decide)
  have h9_hT2 : 201 ≠ 207 := (by decide)
  have T9 := drefNode nd2 nd3 op B6_7 rl ll 201 B6_5 _ _ _ hP9 h9_hT1 h9_hT2
  refine Calls.mono T9 ?_
  clear hP9 T9 h9_hT1 h9_hT2
  rintro e u8 ⟨rfl, hQ⟩
  have hN : Own w0 u8 [row (nd2) 188 nd3, row (B6_8) 32 #[.iface 192 (.pointer (some ⟨B6_7, 0, none⟩)), .int .i32 rl], row (B6_7) 194 #[.float .f64 v], row (B6_6) 32 #[.iface 192 (.pointer (some ⟨B6_7, 0, none⟩)), .int .i32 rl], row (B6_5) 203 #[.slice (some ⟨B6_3, 0, none⟩) 1 1, .int .i32 0, .int .i32 0, .bool false, .bool false], row (B6_4) 32 #[.iface 201 (.pointer (some ⟨B6_5, 0, none⟩)), .int .i32 ll], row (B6_3) 32 #[.iface 189 (.pointer (some ⟨B6_2, 0, none⟩)), .int .i32 ll], row (B6_2) 191 #[.int .u32 0, .int .u32 0, .bool false, .bool false, .bool false], row (B6_1) 32 #[.iface 189 (.pointer (some ⟨B6_2, 0, none⟩)), .int .i32 ll], row (B6) 32 #[.iface 201 (.pointer (some ⟨B6_5, 0, none⟩)), .int .i32 ll]] X := hQ.back HL.out HX.out [0, 1, 2, 3, 4, 5, 6, 7, 8] (by decide) (by decide)
  clear hQ HL HX hO
  have hO := hN
  clear hN
  obtain ⟨c9_1_0, c9_1_1, lt9_1, y9_1, -⟩ := hO.k2 1 rfl
  obtain ⟨c9_2_0, lt9_2, y9_2, -⟩ := hO.k1 2 rfl
  obtain ⟨c9_3_0, c9_3_1, lt9_3, y9_3, -⟩ := hO.k2 3 rfl
  obtain ⟨c9_4_0, c9_4_1, c9_4_2, c9_4_3, c9_4_4, lt9_4, y9_4, -⟩ := hO.k5 4 rfl
  obtain ⟨c9_5_0, c9_5_1, lt9_5, y9_5, -⟩ := hO.k2 5 rfl
  obtain ⟨c9_6_0, c9_6_1, lt9_6, y9_6, -⟩ := hO.k2 6 rfl
  obtain ⟨c9_7_0, c9_7_1, c9_7_2, c9_7_3, c9_7_4, lt9_7, y9_7, -⟩ := hO.k5 7 rfl
  obtain ⟨c9_8_0, c9_8_1, lt9_8, y9_8, -⟩ := hO.k2 8 rfl
  obtain ⟨c9_9_0, c9_9_1, lt9_9, y9_9, -⟩ := hO.k2 9 rfl
  have HO := Lib.hid hO
  clear hO
  go_wp2_with (first | (go_at_call 7; go_in) | (go_at_call 8; go_in) | (go_at_call 9; go_in) | (go_at_call 10; go_in) | (go_at_call 11; go_in) | (go_at_call 12; go_in) | (go_at_call 16; go_in) | (go_at_call 17; go_in) | (go_at_call 15; go_in))
  have hO := HO.out
  clear HO c9_1_0 c9_1_1 lt9_1 y9_1 c9_2_0 lt9_2 y9_2 c9_3_0 c9_3_1 lt9_3 y9_3 c9_4_0 c9_4_1 c9_4_2 c9_4_3 c9_4_4 lt9_4 y9_4 c9_5_0 c9_5_1 lt9_5 y9_5 c9_6_0 c9_6_1 lt9_6 y9_6 c9_7_0 c9_7_1 c9_7_2 c9_7_3 c9_7_4 lt9_7 y9_7 c9_8_0 c9_8_1 lt9_8 y9_8 c9_9_0 c9_9_1 lt9_9 y9_9
  generalize hW : World.alloc _ _ = W10
  have hN : Own w0 W10 [row (u8.heap.size) 32 #[.nilIface, .int .i32 0], row (nd2) 188 nd3, row (B6_8) 32 #[.iface 192 (.pointer (some ⟨B6_7, 0, none⟩)), .int .i32 rl], row (B6_7) 194 #[.float .f64 v], row (B6_6) 32 #[.iface 192 (.pointer (some ⟨B6_7, 0, none⟩)), .int .i32 rl], row (B6_5) 203 #[.slice (some ⟨B6_3, 0, none⟩) 1 1, .int .i32 0, .int .i32 0, .bool false, .bool false], row (B6_4) 32 #[.iface 201 (.pointer (some ⟨B6_5, 0, none⟩)), .int .i32 ll], row (B6_3) 32 #[.iface 189 (.pointer (some ⟨B6_2, 0, none⟩)), .int .i32 ll], row (B6_2) 191 #[.int .u32 0, .int .u32 0, .bool false, .bool false, .bool false], row (B6_1) 32 #[.iface 189 (.pointer (some ⟨B6_2, 0, none⟩)), .int .i32 ll], row (B6) 32 #[.iface 201 (.pointer (some ⟨B6_5, 0, none⟩)), .int .i32 ll]] X := by
    rw [← hW]
    exact (hO).alloc' _ (u8.heap.size) (by simp)
  clear hW hO
  generalize u8.heap.size = B9 at hN ⊢
  have hO := hN
  clear hN
  have hL := hO.apart
  have hX := hO.apartX
  have HL := Lib.hid hL
  have HX := Lib.hid hX
  clear hL hX
  have hP9 := hO.pick [1] (by decide)
  have T9 := sc42 nd2 nd3 _ _ _ hP9 pr5
  refine Calls.mono T9 ?_
  clear hP9 T9
  rintro e u11 ⟨rfl, hQ⟩
  have hN : Own w0 u11 [row (nd2) 188 nd3, row (B9) 32 #[.nilIface, .int .i32 0], row (B6_8) 32 #[.iface 192 (.pointer (some ⟨B6_7, 0, none⟩)), .int .i32 rl], row (B6_7) 194 #[.float .f64 v], row (B6_6) 32 #[.iface 192 (.pointer (some ⟨B6_7, 0, none⟩)), .int .i32 rl], row (B6_5) 203 #[.slice (some ⟨B6_3, 0, none⟩) 1 1, .int .i32 0, .int .i32 0, .bool false, .bool false], row (B6_4) 32 #[.iface 201 (.pointer (some ⟨B6_5, 0, none⟩)), .int .i32 ll], row (B6_3) 32 #[.iface 189 (.pointer (some ⟨B6_2, 0, none⟩)), .int .i32 ll], row (B6_2) 191 #[.int .u32 0, .int .u32 0, .bool false, .bool false, .bool false], row (B6_1) 32 #[.iface 189 (.pointer (some ⟨B6_2, 0, none⟩)), .int .i32 ll], row (B6) 32 #[.iface 201 (.pointer (some ⟨B6_5, 0, none⟩)), .int .i32 ll]] X := hQ.back HL.out HX.out [0, 2, 3, 4, 5, 6, 7, 8, 9, 10] (by decide) (by decide)
  clear hQ HL HX hO
  have hO := hN
  clear hN
  obtain ⟨c9_1_0, c9_1_1, lt9_1, y9_1, -⟩ := hO.k2 1 rfl
  obtain ⟨c9_2_0, c9_2_1, lt9_2, y9_2, -⟩ := hO.k2 2 rfl
  obtain ⟨c9_3_0, lt9_3, y9_3, -⟩ := hO.k1 3 rfl
  obtain ⟨c9_4_0, c9_4_1, lt9_4, y9_4, -⟩ := hO.k2 4 rfl
  obtain ⟨c9_5_0, c9_5_1, c9_5_2, c9_5_3, c9_5_4, lt9_5, y9_5, -⟩ := hO.k5 5 rfl
  obtain ⟨c9_6_0, c9_6_1, lt9_6, y9_6, -⟩ := hO.k2 6 rfl
  obtain ⟨c9_7_0, c9_7_1, lt9_7, y9_7, -⟩ := hO.k2 7 rfl
  obtain ⟨c9_8_0, c9_8_1, c9_8_2, c9_8_3, c9_8_4, lt9_8, y9_8, -⟩ := hO.k5 8 rfl
  obtain ⟨c9_9_0, c9_9_1, lt9_9, y9_9, -⟩ := hO.k2 9 rfl
  obtain ⟨c9_10_0, c9_10_1, lt9_10, y9_10, -⟩ := hO.k2 10 rfl
  have HO := Lib.hid hO
  clear hO
  go_wp2_with (first | (go_at_call 7; go_in) | (go_at_call 8; go_in) | (go_at_call 9; go_in) | (go_at_call 10; go_in) | (go_at_call 11; go_in) | (go_at_call 12; go_in) | (go_at_call 16; go_in) | (go_at_call 17; go_in) | (go_at_call 15; go_in))
  have hO := HO.out
  clear HO c9_1_0 c9_1_1 lt9_1 y9_1 c9_2_0 c9_2_1 lt9_2 y9_2 c9_3_0 lt9_3 y9_3 c9_4_0 c9_4_1 lt9_4 y9_4 c9_5_0 c9_5_1 c9_5_2 c9_5_3 c9_5_4 lt9_5 y9_5 c9_6_0 c9_6_1 lt9_6 y9_6 c9_7_0 c9_7_1 lt9_7 y9_7 c9_8_0 c9_8_1 c9_8_2 c9_8_3 c9_8_4 lt9_8 y9_8 c9_9_0 c9_9_1 lt9_9 y9_9 c9_10_0 c9_10_1 lt9_10 y9_10
  refine bodyPost_ret (v := .bool true) ?_ rfl ⟨rfl, hO.sub [] (by decide)⟩
  simp [results, Tryz.results3, go_sem]
def law11k5Post (x : Int) (l g : Bool) (op ll rl : Int) (v : Nat) (w0 : World) (X : Nat → Obj → Prop) (e : Ending) (w' : World) : Prop :=
  e = .returned (.bool true) ∧ Own w0 w' [] X
set_option maxRecDepth 100000 in
set_option maxHeartbeats 1000000 in
theorem law11k5 (x : Int) (l g : Bool) (op ll rl : Int) (v : Nat) (w0 w : World) (X : Nat → Obj → Prop) (hO : Own w0 w [] X)  :
    Calls Tryz.prog 3 #[.int .i64 5, .int .u64 x, .bool l, .bool g, .int .u8 op, .int .i32 ll, .int .i32 rl, .float .f64 v] w (law11k5Post x l g op ll rl v w0 X) := by
  go_enter Tryz.func3, Tryz.ntmps3
  go_wp2_with (first | (go_at_call 7; go_in) | (go_at_call 8; go_in) | (go_at_call 9; go_in) | (go_at_call 10; go_in) | (go_at_call 11; go_in) | (go_at_call 12; go_in) | (go_at_call 16; go_in) | (go_at_call 17; go_in) | (go_at_call 15; go_in))
  have hL := hO.apart
  have hX := hO.apartX
  have HL := Lib.hid hL
  have HX := Lib.hid hX
  clear hL hX
  have hP9 := hO.pick [] (by decide)
  have T9 := new42 x g l _ _ _ hP9 
  refine Calls.mono T9 ?_
  clear hP9 T9
  rintro e u1 ⟨nd2, nd3, rfl, pr4, pr5, hQ⟩
  have hN : Own w0 u1 [row (nd2) 188 nd3] X := hQ.back HL.out HX.out [] (by decide) (by decide)
  clear hQ HL HX hO
  have hO := hN
  clear hN
  go_wp2_with (first | (go_at_call 7; go_in) | (go_at_call 8; go_in) | (go_at_call 9; go_in) | (go_at_call 10; go_in) | (go_at_call 11; go_in) | (go_at_call 12; go_in) | (go_at_call 16; go_in) | (go_at_call 17; go_in) | (go_at_call 15; go_in))
  generalize hW : World.alloc _ _ = W7
  have hN : Own w0 W7 [row (u1.heap.size + 1 + 1 + 1) 32 #[.iface 192 (.pointer (some ⟨u1.heap.size + 1 + 1, 0, none⟩)), .int .i32 rl], row (u1.heap.size + 1 + 1) 194 #[.float .f64 v], row (u1.heap.size + 1) 32 #[.iface 192 (.pointer (some ⟨u1.heap.size + 1 + 1, 0, none⟩)), .int .i32 rl], row (u1.heap.size) 32 #[.nilIface, .int .i32 ll], row (nd2) 188 nd3] X := by
    rw [← hW]
    exact ((((hO).alloc' _ (u1.heap.size) (by simp)).alloc' _ (u1.heap.size + 1) (by simp)).alloc' _ (u1.heap.size + 1 + 1) (by simp)).alloc' _ (u1.heap.size + 1 + 1 + 1) (by simp)
  clear hW hO
  generalize u1.heap.size + 1 + 1 + 1 = B6_3 at hN ⊢
  generalize u1.heap.size + 1 + 1 = B6_2 at hN ⊢
  generalize u1.heap.size + 1 = B6_1 at hN ⊢
  generalize u1.heap.size = B6 at hN ⊢
  have hO := hN
  clear hN
  have hL := hO.apart
  have hX := hO.apartX
  have HL := Lib.hid hL
  have HX := Lib.hid hX
  clear hL hX
  have hP9 := hO.pick [4] (by decide)
  have T9 := drefNil nd2 nd3 op B6_2 rl ll _ _ _ hP9 
  refine Calls.mono T9 ?_
  clear hP9 T9
  rintro e u8 ⟨rfl, hQ⟩
  have hN : Own w0 u8 [row (nd2) 188 nd3, row (B6_3) 32 #[.iface 192 (.pointer (some ⟨B6_2, 0, none⟩)), .int .i32 rl], row (B6_2) 194 #[.float .f64 v], row (B6_1) 32 #[.iface 192 (.pointer (some ⟨B6_2, 0, none⟩)), .int .i32 rl], row (B6) 32 #[.nilIface, .int .i32 ll]] X := hQ.back HL.out HX.out [0, 1, 2, 3] (by decide) (by decide)
  clear hQ HL HX hO
  have hO := hN
  clear hN
  obtain ⟨c9_1_0, c9_1_1, lt9_1, y9_1, -⟩ := hO.k2 1 rfl
  obtain ⟨c9_2_0, lt9_2, y9_2, -⟩ := hO.k1 2 rfl
  obtain ⟨c9_3_0, c9_3_1, lt9_3, y9_3, -⟩ := hO.k2 3 rfl
  obtain ⟨c9_4_0, c9_4_1, lt9_4, y9_4, -⟩ := hO.k2 4 rfl
  have HO := Lib.hid hO
  clear hO
  go_wp2_with (first | (go_at_call 7; go_in) | (go_at_call 8; go_in) | (go_at_call 9; go_in) | (go_at_call 10; go_in) | (go_at_call 11; go_in) | (go_at_call 12; go_in) | (go_at_call 16; go_in) | (go_at_call 17; go_in) | (go_at_call 15; go_in))
  have hO := HO.out
  clear HO c9_1_0 c9_1_1 lt9_1 y9_1 c9_2_0 lt9_2 y9_2 c9_3_0 c9_3_1 lt9_3 y9_3 c9_4_0 c9_4_1 lt9_4 y9_4
  generalize hW : World.alloc _ _ = W10
  have hN : Own w0 W10 [row (u8.heap.size) 32 #[.nilIface, .int .i32 0], row (nd2) 188 nd3, row (B6_3) 32 #[.iface 192 (.pointer (some ⟨B6_2, 0, none⟩)), .int .i32 rl], row (B6_2) 194 #[.float .f64 v], row (B6_1) 32 #[.iface 192 (.pointer (some ⟨B6_2, 0, none⟩)), .int .i32 rl], row (B6) 32 #[.nilIface, .int .i32 ll]] X := by
    rw [← hW]
    exact (hO).alloc' _ (u8.heap.size) (by simp)
  clear hW hO
  generalize u8.heap.size = B9 at hN ⊢
  have hO := hN
  clear hN
  have hL := hO.apart
  have hX := hO.apartX
  have HL := Lib.hid hL
  have HX := Lib.hid hX
  clear hL hX
  have hP9 := hO.pick [1] (by decide)
  have T9 := sc42 nd2 nd3 _ _ _ hP9 pr5
  refine Calls.mono T9 ?_
  clear hP9 T9
  rintro e u11 ⟨rfl, hQ⟩
  have hN : Own w0 u11 [row (nd2) 188 nd3, row (B9) 32 #[.nilIface, .int .i32 0], row (B6_3) 32 #[.iface 192 (.pointer (some ⟨B6_2, 0, none⟩)), .int .i32 rl], row (B6_2) 194 #[.float .f64 v], row (B6_1) 32 #[.iface 192 (.pointer (some ⟨B6_2, 0, none⟩)), .int .i32 rl], row (B6) 32 #[.nilIface, .int .i32 ll]] X := hQ.back HL.out HX.out [0, 2, 3, 4, 5] (by decide) (by decide)
  clear hQ HL HX hO
  have hO := hN
  clear hN
  obtain ⟨c9_1_0, c9_1_1, lt9_1, y9_1, -⟩ := hO.k2 1 rfl
  obtain ⟨c9_2_0, c9_2_1, lt9_2, y9_2, -⟩ := hO.k2 2 rfl
  obtain ⟨c9_3_0, lt9_3, y9_3, -⟩ := hO.k1 3 rfl
  obtain ⟨c9_4_0, c9_4_1, lt9_4, y9_4, -⟩ := hO.k2 4 rfl
  obtain ⟨c9_5_0, c9_5_1, lt9_5, y9_5, -⟩ := hO.k2 5 rfl
  have HO := Lib.hid hO
  clear hO
  go_wp2_with (first | (go_at_call 7; go_in) | (go_at_call 8; go_in) | (go_at_call 9; go_in) | (go_at_call 10; go_in) | (go_at_call 11; go_in) | (go_at_call 12; go_in) | (go_at_call 16; go_in) | (go_at_call 17; go_in) | (go_at_call 15; go_in))
  have hO := HO.out
  clear HO c9_1_0 c9_1_1 lt9_1 y9_1 c9_2_0 c9_2_1 lt9_2 y9_2 c9_3_0 lt9_3 y9_3 c9_4_0 c9_4_1 lt9_4 y9_4 c9_5_0 c9_5_1 lt9_5 y9_5
  refine bodyPost_ret (v := .bool true) ?_ rfl ⟨rfl, hO.sub [] (by decide)⟩
  simp [results, Tryz.results3, go_sem]
def law11k6Post (x : Int) (l g : Bool) (op ll rl : Int) (v : Nat) (w0 : World) (X : Nat → Obj → Prop) (e : Ending) (w' : World) : Prop :=
  e = .returned (.bool true) ∧ Own w0 w' [] X
set_option maxRecDepth 100000 in
set_option maxHeartbeats 1000000 in
theorem law11k6 (x : Int) (l g : Bool) (op ll rl : Int) (v : Nat) (w0 w : World) (X : Nat → Obj → Prop) (hO : Own w0 w [] X)  :
    Calls Tryz.prog 3 #[.int .i64 6, .int .u64 x, .bool l, .bool g, .int .u8 op, .int .i32 ll, .int .i32 rl, .float .f64 v] w (law11k6Post x l g op ll rl v w0 X) := by
  go_enter Tryz.func3, Tryz.ntmps3
  go_wp2_with (first | (go_at_call 7; go_in) | (go_at_call 8; go_in) | (go_at_call 9; go_in) | (go_at_call 10; go_in) | (go_at_call 11; go_in) | (go_at_call 12; go_in) | (go_at_call 16; go_in) | (go_at_call 17; go_in) | (go_at_call 15; go_in))
  have hL := hO.apart
  have hX := hO.apartX
  have HL := Lib.hid hL
  have HX := Lib.hid hX
  clear hL hX
  have hP9 := hO.pick [] (by decide)
  have T9 := new42 x g l _ _ _ hP9 
  refine Calls.mono T9 ?_
  clear hP9 T9
  rintro e u1 ⟨nd2, nd3, rfl, pr4, pr5, hQ⟩
  have hN : Own w0 u1 [row (nd2) 188 nd3] X := hQ.back HL.out HX.out [] (by decide) (by decide)
  clear hQ HL HX hO
  have hO := hN
  clear hN
  go_wp2_with (first | (go_at_call 7; go_in) | (go_at_call 8; go_in) | (go_at_call 9; go_in) | (go_at_call 10; go_in) | (go_at_call 11; go_in) | (go_at_call 12; go_in) | (go_at_call 16; go_in) | (go_at_call 17; go_in) | (go_at_call 15; go_in))
  generalize hW : World.alloc _ _ = W7
  have hN : Own w0 W7 [row (u1.heap.size + 1 + 1 + 1 + 1 + 1) 32 #[.iface 192 (.pointer (some ⟨u1.heap.size + 1 + 1 + 1 + 1, 0, none⟩)), .int .i32 rl], row (u1.heap.size + 1 + 1 + 1 + 1) 194 #[.float .f64 v], row (u1.heap.size + 1 + 1 + 1) 32 #[.iface 192 (.pointer (some ⟨u1.heap.size + 1 + 1 + 1 + 1, 0, none⟩)), .int .i32 rl], row (u1.heap.size + 1 + 1) 205 #[], row (u1.heap.size + 1) 32 #[.iface 204 (.pointer (some ⟨u1.heap.size + 1 + 1, 0, none⟩)), .int .i32 ll], row (u1.heap.size) 32 #[.iface 204 (.pointer (some ⟨u1.heap.size + 1 + 1, 0, none⟩)), .int .i32 ll], row (nd2) 188 nd3] X := by
    rw [← hW]
    exact ((((((hO).alloc' _ (u1.heap.size) (by simp)).alloc' _ (u1.heap.size + 1) (by simp)).alloc' _ (u1.heap.size + 1 + 1) (by simp)).alloc' _ (u1.heap.size + 1 + 1 + 1) (by simp)).alloc' _ (u1.heap.size + 1 + 1 + 1 + 1) (by simp)).alloc' _ (u1.heap.size + 1 + 1 + 1 + 1 + 1) (by simp)
  clear hW hO
  generalize u1.heap.size + 1 + 1 + 1 + 1 + 1 = B6_5 at hN ⊢
  generalize u1.heap.size + 1 + 1 + 1 + 1 = B6_4 at hN ⊢
  generalize u1.heap.size + 1 + 1 + 1 = B6_3 at hN ⊢
  generalize u1.heap.size + 1 + 1 = B6_2 at hN ⊢
  generalize u1.heap.size + 1 = B6_1 at hN ⊢
  generalize u1.heap.size = B6 at hN ⊢
  have hO := hN
  clear hN
  have hL := hO.apart
  have hX := hO.apartX
  have HL := Lib.hid hL
  have HX := Lib.hid hX
  clear hL hX
  have hP9 := hO.pick [6] (by decide)
  have h9_hT1 : 204 ≠ 211 := (by decide)
  have h9_hT2 : 204 ≠ 207 := (by decide)
  have T9 := drefNode nd2 nd3 op B6_4 rl ll 204 B6_2 _ _ _ hP9 h9_hT1 h9_hT2
  refine Calls.mono T9 ?_
  clear hP9 T9 h9_hT1 h9_hT2
  rintro e u8 ⟨rfl, hQ⟩
  have hN : Own w0 u8 [row (nd2) 188 nd3, row (B6_5) 32 #[.iface 192 (.pointer (some ⟨B6_4, 0, none⟩)), .int .i32 rl], row (B6_4) 194 #[.float .f64 v], row (B6_3) 32 #[.iface 192 (.pointer (some ⟨B6_4, 0, none⟩)), .int .i32 rl], row (B6_2) 205 #[], row (B6_1) 32 #[.iface 204 (.pointer (some ⟨B6_2, 0, none⟩)), .int .i32 ll], row (B6) 32 #[.iface 204 (.pointer (some ⟨B6_2, 0, none⟩)), .int .i32 ll]] X := hQ.back HL.out HX.out [0, 1, 2, 3, 4, 5] (by decide) (by decide)
  clear hQ HL HX hO
  have hO := hN
  clear hN
  obtain ⟨c9_1_0, c9_1_1, lt9_1, y9_1, -⟩ := hO.k2 1 rfl
  obtain ⟨c9_2_0, lt9_2, y9_2, -⟩ := hO.k1 2 rfl
  obtain ⟨c9_3_0, c9_3_1, lt9_3, y9_3, -⟩ := hO.k2 3 rfl
  obtain ⟨lt9_4, y9_4, -⟩ := hO.k0 4 rfl
  obtain ⟨c9_5_0, c9_5_1, lt9_5, y9_5, -⟩ := hO.k2 5 rfl
  obtain ⟨c9_6_0, c9_6_1, lt9_6, y9_6, -⟩ := hO.k2 6 rfl
  have HO := Lib.hid hO
  clear hO
  go_wp2_with (first | (go_at_call 7; go_in) | (go_at_call 8; go_in) | (go_at_call 9; go_in) | (go_at_call 10; go_in) | (go_at_call 11; go_in) | (go_at_call 12; go_in) | (go_at_call 16; go_in) | (go_at_call 17; go_in) | (go_at_call 15; go_in))
  have hO := HO.out
  clear HO c9_1_0 c9_1_1 lt9_1 y9_1 c9_2_0 lt9_2 y9_2 c9_3_0 c9_3_1 lt9_3 y9_3 lt9_4 y9_4 c9_5_0 c9_5_1 lt9_5 y9_5 c9_6_0 c9_6_1 lt9_6 y9_6
  generalize hW : World.alloc _ _ = W10
  have hN : Own w0 W10 [row (u8.heap.size) 32 #[.nilIface, .int .i32 0], row (nd2) 188 nd3, row (B6_5) 32 #[.iface 192 (.pointer (some ⟨B6_4, 0, none⟩)), .int .i32 rl], row (B6_4) 194 #[.float .f64 v], row (B6_3) 32 #[.iface 192 (.pointer (some ⟨B6_4, 0, none⟩)), .int .i32 rl], row (B6_2) 205 #[], row (B6_1) 32 #[.iface 204 (.pointer (some ⟨B6_2, 0, none⟩)), .int .i32 ll], row (B6) 32 #[.iface 204 (.pointer (some ⟨B6_2, 0, none⟩)), .int .i32 ll]] X := by
    rw [← hW]
    exact (hO).alloc' _ (u8.heap.size) (by simp)
  clear hW hO
  generalize u8.heap.size = B9 at hN ⊢
  have hO := hN
  clear hN
  have hL := hO.apart
  have hX := hO.apartX
  have HL := Lib.hid hL
  have HX := Lib.hid hX
  clear hL hX
  have hP9 := hO.pick [1] (by decide)
  have T9 := sc42 nd2 nd3 _ _ _ hP9 pr5
  refine Calls.mono T9 ?_
  clear hP9 T9
  rintro e u11 ⟨rfl, hQ⟩
  have hN : Own w0 u11 [row (nd2) 188 nd3, row (B9) 32 #[.nilIface, .int .i32 0], row (B6_5) 32 #[.iface 192 (.pointer (some ⟨B6_4, 0, none⟩)), .int .i32 rl], row (B6_4) 194 #[.float .f64 v], row (B6_3) 32 #[.iface 192 (.pointer (some ⟨B6_4, 0, none⟩)), .int .i32 rl], row (B6_2) 205 #[], row (B6_1) 32 #[.iface 204 (.pointer (some ⟨B6_2, 0, none⟩)), .int .i32 ll], row (B6) 32 #[.iface 204 (.pointer (some ⟨B6_2, 0, none⟩)), .int .i32 ll]] X := hQ.back HL.out HX.out [0, 2, 3, 4, 5, 6, 7] (by decide) (by decide)
  clear hQ HL HX hO
  have hO := hN
  clear hN
  obtain ⟨c9_1_0, c9_1_1, lt9_1, y9_1, -⟩ := hO.k2 1 rfl
  obtain ⟨c9_2_0, c9_2_1, lt9_2, y9_2, -⟩ := hO.k2 2 rfl
  obtain ⟨c9_3_0, lt9_3, y9_3, -⟩ := hO.k1 3 rfl
  obtain ⟨c9_4_0, c9_4_1, lt9_4, y9_4, -⟩ := hO.k2 4 rfl
  obtain ⟨lt9_5, y9_5, -⟩ := hO.k0 5 rfl
  obtain ⟨c9_6_0, c9_6_1, lt9_6, y9_6, -⟩ := hO.k2 6 rfl
  obtain ⟨c9_7_0, c9_7_1, lt9_7, y9_7, -⟩ := hO.k2 7 rfl
  have HO := Lib.hid hO
  clear hO
  go_wp2_with (first | (go_at_call 7; go_in) | (go_at_call 8; go_in) | (go_at_call 9; go_in) | (go_at_call 10; go_in) | (go_at_call 11; go_in) | (go_at_call 12; go_in) | (go_at_call 16; go_in) | (go_at_call 17; go_in) | (go_at_call 15; go_in))
  have hO := HO.out
  clear HO c9_1_0 c9_1_1 lt9_1 y9_1 c9_2_0 c9_2_1 lt9_2 y9_2 c9_3_0 lt9_3 y9_3 c9_4_0 c9_4_1 lt9_4 y9_4 lt9_5 y9_5 c9_6_0 c9_6_1 lt9_6 y9_6 c9_7_0 c9_7_1 lt9_7 y9_7
  refine bodyPost_ret (v := .bool true) ?_ rfl ⟨rfl, hO.sub [] (by decide)⟩
  simp [results, Tryz.results3, go_sem]
end Go.Proofs.YtkhmjppfogppoaaGreatDoor.Use
