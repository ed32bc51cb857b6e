/- The law on a nullish assignment over an index, walked: one of two cases. No condition. -/
import Derived.Test.YtlgefnjkoklboaaGreatDoorOwn
import Derived.Test.YtlgefnjkoklboaaGreatDoorDeepCells
import Derived.Test.YtlgefnjkoklboaaGreatDoorRows
import Derived.Test.YtlgefnjkoklboaaGreatDoorUse
import Derived.Test.YtlgefnjkoklboaaGreatDoorKitz
import Derived.Test.YtlgefnjkoklboaaGreatDoorLawKitz
import Derived.Test.YtlgefnjkoklboaaGreatDoorCapz
import Derived.Test.YtlgefnjkoklboaaGreatDoorNullFnz
import Derived.Test.YtlgefnjkoklboaaGreatDoorLowIxz
import Derived.Test.YtlgefnjkoklboaaGreatDoorDoorz
namespace Go.Proofs.YtlgefnjkoklboaaGreatDoor.Use
open Go.ChangeShapes Go.WideShapes Go.ChangeAt Go.RowKit Go.Sort Own
set_option linter.unusedVariables false
def law25noPost (x src : Int) (m : Nat) (tl kl ll loc : Int) (kv v : Nat) (w0 : World) (X : Nat → Obj → Prop) (e : Ending) (w' : World) : Prop :=
  e = .returned (.bool true) ∧ Own w0 w' [] X
set_option maxRecDepth 100000 in
set_option maxHeartbeats 1000000 in
theorem law25no (x src : Int) (m : Nat) (tl kl ll loc : Int) (kv v : Nat) (w0 w : World) (X : Nat → Obj → Prop) (hO : Own w0 w [] X) (hm : m ≤ 65536) (hx1 : (bits BinOp.and IntKind.u64 x 4398046511104 != 0) = false) (hx2 : (bits BinOp.and IntKind.u64 x 137438953472 != 0) = false) :
    Calls Tryz.prog 3 #[.int .u64 x, .int .u32 src, .int .u32 (m : Int), .int .i32 tl, .int .i32 kl, .int .i32 ll, .int .i32 loc, .float .f64 kv, .float .f64 v] w (law25noPost x src m tl kl ll loc kv v w0 X) := by
  go_enter Tryz.func3, Tryz.ntmps3
  have hq : (m : Int) ≤ 65536 := by omega
  go_wp2_with fail
  rw [show ((m : Int) + 1) = ((m + 1 : Nat) : Int) from rfl]
  have hL := hO.apart
  have hX := hO.apartX
  have HL := Lib.hid hL
  have HX := Lib.hid hX
  clear hL hX
  have hP9 := hO.pick [] (by decide)
  have h9_hn : (m + 1 : Nat) ≤ 65537 := (by first | assumption | omega | (simp; done) | (simp; omega))
  have T9 := newParserO x (m + 1 : Nat) 0 0 _ _ _ hP9 h9_hn
  refine Calls.mono T9 ?_
  clear hP9 T9 h9_hn
  rintro e u1 ⟨nd2, nd3, nd4, nd5, nd6, rfl, pr7, pr8, pr9, pr10, hQ⟩
  have hN : Own w0 u1 [row (nd2) 178 nd5, row (nd3) 196 nd6, (nd4, .map #[⟨.string ⟨#[95, 95, 112, 111, 119]⟩, .agg #[.int .i32 0, .int .u32 0, .int .u32 0], 0⟩] 1)] X := hQ.back HL.out HX.out [] (by decide) (by decide)
  clear hQ HL HX hO
  have hO := hN
  clear hN
  go_wp2_with (first | (go_at_call 6; go_in) | (go_at_call 7; go_in) | (go_at_call 5; go_in) | (go_at_call 8; go_in) | (go_at_call 9; go_in) | (go_at_call 13; go_in) | (go_at_call 15; go_in) | (go_at_call 11; go_in))
  generalize hW : World.alloc _ _ = W12
  have hN : Own w0 W12 [row (u1.heap.size + 1 + 1 + 1 + 1 + 1 + 1 + 1 + 1 + 1 + 1 + 1 + 1 + 1 + 1 + 1 + 1 + 1 + 1 + 1 + 1) 45 #[.iface 38 (.pointer (some ⟨u1.heap.size + 1 + 1 + 1 + 1 + 1 + 1 + 1 + 1 + 1 + 1 + 1 + 1, 0, none⟩)), .int .i32 ll, .iface 40 (.pointer (some ⟨u1.heap.size + 1 + 1 + 1 + 1 + 1 + 1 + 1 + 1 + 1 + 1 + 1 + 1 + 1 + 1 + 1 + 1, 0, none⟩)), .int .i32 loc, .int .u8 0, .bool false], row (u1.heap.size + 1 + 1 + 1 + 1 + 1 + 1 + 1 + 1 + 1 + 1 + 1 + 1 + 1 + 1 + 1 + 1 + 1 + 1 + 1) 34 #[.iface 40 (.pointer (some ⟨u1.heap.size + 1 + 1 + 1 + 1 + 1 + 1 + 1 + 1 + 1 + 1 + 1 + 1 + 1 + 1 + 1 + 1, 0, none⟩)), .int .i32 loc], row (u1.heap.size + 1 + 1 + 1 + 1 + 1 + 1 + 1 + 1 + 1 + 1 + 1 + 1 + 1 + 1 + 1 + 1 + 1 + 1) 34 #[.iface 38 (.pointer (some ⟨u1.heap.size + 1 + 1 + 1 + 1 + 1 + 1 + 1 + 1 + 1 + 1 + 1 + 1, 0, none⟩)), .int .i32 ll], row (u1.heap.size + 1 + 1 + 1 + 1 + 1 + 1 + 1 + 1 + 1 + 1 + 1 + 1 + 1 + 1 + 1 + 1 + 1) 34 #[.iface 40 (.pointer (some ⟨u1.heap.size + 1 + 1 + 1 + 1 + 1 + 1 + 1 + 1 + 1 + 1 + 1 + 1 + 1 + 1 + 1 + 1, 0, none⟩)), .int .i32 loc], row (u1.heap.size + 1 + 1 + 1 + 1 + 1 + 1 + 1 + 1 + 1 + 1 + 1 + 1 + 1 + 1 + 1 + 1) 182 #[.float .f64 v], row (u1.heap.size + 1 + 1 + 1 + 1 + 1 + 1 + 1 + 1 + 1 + 1 + 1 + 1 + 1 + 1 + 1) 34 #[.iface 40 (.pointer (some ⟨u1.heap.size + 1 + 1 + 1 + 1 + 1 + 1 + 1 + 1 + 1 + 1 + 1 + 1 + 1 + 1 + 1 + 1, 0, none⟩)), .int .i32 loc], row (u1.heap.size + 1 + 1 + 1 + 1 + 1 + 1 + 1 + 1 + 1 + 1 + 1 + 1 + 1 + 1) 32 #[.int .i32 loc], row (u1.heap.size + 1 + 1 + 1 + 1 + 1 + 1 + 1 + 1 + 1 + 1 + 1 + 1 + 1) 34 #[.iface 38 (.pointer (some ⟨u1.heap.size + 1 + 1 + 1 + 1 + 1 + 1 + 1 + 1 + 1 + 1 + 1 + 1, 0, none⟩)), .int .i32 ll], row (u1.heap.size + 1 + 1 + 1 + 1 + 1 + 1 + 1 + 1 + 1 + 1 + 1 + 1) 56 #[.iface 52 (.pointer (some ⟨u1.heap.size + 1 + 1 + 1 + 1, 0, none⟩)), .int .i32 tl, .iface 40 (.pointer (some ⟨u1.heap.size + 1 + 1 + 1 + 1 + 1 + 1 + 1, 0, none⟩)), .int .i32 kl, .int .i32 0, .int .u8 0, .bool false, .bool false, .bool false], row (u1.heap.size + 1 + 1 + 1 + 1 + 1 + 1 + 1 + 1 + 1 + 1 + 1) 34 #[.iface 38 (.pointer (some ⟨u1.heap.size + 1 + 1 + 1 + 1 + 1 + 1 + 1 + 1 + 1 + 1 + 1 + 1, 0, none⟩)), .int .i32 ll], row (u1.heap.size + 1 + 1 + 1 + 1 + 1 + 1 + 1 + 1 + 1 + 1) 34 #[.iface 40 (.pointer (some ⟨u1.heap.size + 1 + 1 + 1 + 1 + 1 + 1 + 1, 0, none⟩)), .int .i32 kl], row (u1.heap.size + 1 + 1 + 1 + 1 + 1 + 1 + 1 + 1 + 1) 34 #[.iface 52 (.pointer (some ⟨u1.heap.size + 1 + 1 + 1 + 1, 0, none⟩)), .int .i32 tl], row (u1.heap.size + 1 + 1 + 1 + 1 + 1 + 1 + 1 + 1) 32 #[.int .i32 ll], row (u1.heap.size + 1 + 1 + 1 + 1 + 1 + 1 + 1) 182 #[.float .f64 kv], row (u1.heap.size + 1 + 1 + 1 + 1 + 1 + 1) 34 #[.iface 40 (.pointer (some ⟨u1.heap.size + 1 + 1 + 1 + 1 + 1 + 1 + 1, 0, none⟩)), .int .i32 kl], row (u1.heap.size + 1 + 1 + 1 + 1 + 1) 32 #[.int .i32 kl], row (u1.heap.size + 1 + 1 + 1 + 1) 180 #[.int .u32 src, .int .u32 (m : Int), .bool false, .bool false, .bool false], row (u1.heap.size + 1 + 1 + 1) 34 #[.iface 52 (.pointer (some ⟨u1.heap.size + 1 + 1 + 1 + 1, 0, none⟩)), .int .i32 tl], row (u1.heap.size + 1 + 1) 28 #[.int .u32 src, .int .u32 (m : Int)], row (u1.heap.size + 1) 32 #[.int .i32 tl], row (u1.heap.size) 28 #[.int .u32 src, .int .u32 (m : Int)], row (nd2) 178 nd5, row (nd3) 196 nd6, (nd4, .map #[⟨.string ⟨#[95, 95, 112, 111, 119]⟩, .agg #[.int .i32 0, .int .u32 0, .int .u32 0], 0⟩] 1)] X := by
    rw [← hW]
    exact (((((((((((((((((((((hO).alloc' _ (u1.heap.size) (by simp)).alloc' _ (u1.heap.size + 1) (by simp)).alloc' _ (u1.heap.size + 1 + 1) (by simp)).alloc' _ (u1.heap.size + 1 + 1 + 1) (by simp)).alloc' _ (u1.heap.size + 1 + 1 + 1 + 1) (by simp)).alloc' _ (u1.heap.size + 1 + 1 + 1 + 1 + 1) (by simp)).alloc' _ (u1.heap.size + 1 + 1 + 1 + 1 + 1 + 1) (by simp)).alloc' _ (u1.heap.size + 1 + 1 + 1 + 1 + 1 + 1 + 1) (by simp)).alloc' _ (u1.heap.size + 1 + 1 + 1 + 1 + 1 + 1 + 1 + 1) (by simp)).alloc' _ (u1.heap.size + 1 + 1 + 1 + 1 + 1 + 1 + 1 + 1 + 1) (by simp)).alloc' _ (u1.heap.size + 1 + 1 + 1 + 1 + 1 + 1 + 1 + 1 + 1 + 1) (by simp)).alloc' _ (u1.heap.size + 1 + 1 + 1 + 1 + 1 + 1 + 1 + 1 + 1 + 1 + 1) (by simp)).alloc' _ (u1.heap.size + 1 + 1 + 1 + 1 + 1 + 1 + 1 + 1 + 1 + 1 + 1 + 1) (by simp)).alloc' _ (u1.heap.size + 1 + 1 + 1 + 1 + 1 + 1 + 1 + 1 + 1 + 1 + 1 + 1 + 1) (by simp)).alloc' _ (u1.heap.size + 1 + 1 + 1 + 1 + 1 + 1 + 1 + 1 + 1 + 1 + 1 + 1 + 1 + 1) (by simp)).alloc' _ (u1.heap.size + 1 + 1 + 1 + 1 + 1 + 1 + 1 + 1 + 1 + 1 + 1 + 1 + 1 + 1 + 1) (by simp)).alloc' _ (u1.heap.size + 1 + 1 + 1 + 1 + 1 + 1 + 1 + 1 + 1 + 1 + 1 + 1 + 1 + 1 + 1 + 1) (by simp)).alloc' _ (u1.heap.size + 1 + 1 + 1 + 1 + 1 + 1 + 1 + 1 + 1 + 1 + 1 + 1 + 1 + 1 + 1 + 1 + 1) (by simp)).alloc' _ (u1.heap.size + 1 + 1 + 1 + 1 + 1 + 1 + 1 + 1 + 1 + 1 + 1 + 1 + 1 + 1 + 1 + 1 + 1 + 1) (by simp)).alloc' _ (u1.heap.size + 1 + 1 + 1 + 1 + 1 + 1 + 1 + 1 + 1 + 1 + 1 + 1 + 1 + 1 + 1 + 1 + 1 + 1 + 1) (by simp)).alloc' _ (u1.heap.size + 1 + 1 + 1 + 1 + 1 + 1 + 1 + 1 + 1 + 1 + 1 + 1 + 1 + 1 + 1 + 1 + 1 + 1 + 1 + 1) (by simp)
  clear hW hO
  generalize u1.heap.size + 1 + 1 + 1 + 1 + 1 + 1 + 1 + 1 + 1 + 1 + 1 + 1 + 1 + 1 + 1 + 1 + 1 + 1 + 1 + 1 = B11_20 at hN ⊢
  generalize u1.heap.size + 1 + 1 + 1 + 1 + 1 + 1 + 1 + 1 + 1 + 1 + 1 + 1 + 1 + 1 + 1 + 1 + 1 + 1 + 1 = B11_19 at hN ⊢
  generalize u1.heap.size + 1 + 1 + 1 + 1 + 1 + 1 + 1 + 1 + 1 + 1 + 1 + 1 + 1 + 1 + 1 + 1 + 1 + 1 = B11_18 at hN ⊢
  generalize u1.heap.size + 1 + 1 + 1 + 1 + 1 + 1 + 1 + 1 + 1 + 1 + 1 + 1 + 1 + 1 + 1 + 1 + 1 = B11_17 at hN ⊢
  generalize u1.heap.size + 1 + 1 + 1 + 1 + 1 + 1 + 1 + 1 + 1 + 1 + 1 + 1 + 1 + 1 + 1 + 1 = B11_16 at hN ⊢
  generalize u1.heap.size + 1 + 1 + 1 + 1 + 1 + 1 + 1 + 1 + 1 + 1 + 1 + 1 + 1 + 1 + 1 = B11_15 at hN ⊢
  generalize u1.heap.size + 1 + 1 + 1 + 1 + 1 + 1 + 1 + 1 + 1 + 1 + 1 + 1 + 1 + 1 = B11_14 at hN ⊢
  generalize u1.heap.size + 1 + 1 + 1 + 1 + 1 + 1 + 1 + 1 + 1 + 1 + 1 + 1 + 1 = B11_13 at hN ⊢
  generalize u1.heap.size + 1 + 1 + 1 + 1 + 1 + 1 + 1 + 1 + 1 + 1 + 1 + 1 = B11_12 at hN ⊢
  generalize u1.heap.size + 1 + 1 + 1 + 1 + 1 + 1 + 1 + 1 + 1 + 1 + 1 = B11_11 at hN ⊢
  generalize u1.heap.size + 1 + 1 + 1 + 1 + 1 + 1 + 1 + 1 + 1 + 1 = B11_10 at hN ⊢
  generalize u1.heap.size + 1 + 1 + 1 + 1 + 1 + 1 + 1 + 1 + 1 = B11_9 at hN ⊢
  generalize u1.heap.size + 1 + 1 + 1 + 1 + 1 + 1 + 1 + 1 = B11_8 at hN ⊢
  generalize u1.heap.size + 1 + 1 + 1 + 1 + 1 + 1 + 1 = B11_7 at hN ⊢
  generalize u1.heap.size + 1 + 1 + 1 + 1 + 1 + 1 = B11_6 at hN ⊢
  generalize u1.heap.size + 1 + 1 + 1 + 1 + 1 = B11_5 at hN ⊢
  generalize u1.heap.size + 1 + 1 + 1 + 1 = B11_4 at hN ⊢
  generalize u1.heap.size + 1 + 1 + 1 = B11_3 at hN ⊢
  generalize u1.heap.size + 1 + 1 = B11_2 at hN ⊢
  generalize u1.heap.size + 1 = B11_1 at hN ⊢
  generalize u1.heap.size = B11 at hN ⊢
  have hO := hN
  clear hN
  have hL := hO.apart
  have hX := hO.apartX
  have HL := Lib.hid hL
  have HX := Lib.hid hX
  clear hL hX
  have hP9 := hO.pick [21, 0, 8] (by decide)
  have T9 := doorNo nd2 nd5 x B11_4 B11_12 tl B11_7 kl B11_20 ll 40 B11_16 loc 0 false loc _ _ _ hP9 pr8 hx2
  refine Calls.mono T9 ?_
  clear hP9 T9
  rintro e u13 ⟨rfl, hQ⟩
  have hN : Own w0 u13 [row (nd2) 178 nd5, row (B11_20) 45 #[.iface 38 (.pointer (some ⟨B11_12, 0, none⟩)), .int .i32 ll, .iface 40 (.pointer (some ⟨B11_16, 0, none⟩)), .int .i32 loc, .int .u8 0, .bool false], row (B11_12) 56 #[.iface 52 (.pointer (some ⟨B11_4, 0, none⟩)), .int .i32 tl, .iface 40 (.pointer (some ⟨B11_7, 0, none⟩)), .int .i32 kl, .int .i32 0, .int .u8 0, .bool false, .bool false, .bool false], row (B11_19) 34 #[.iface 40 (.pointer (some ⟨B11_16, 0, none⟩)), .int .i32 loc], row (B11_18) 34 #[.iface 38 (.pointer (some ⟨B11_12, 0, none⟩)), .int .i32 ll], row (B11_17) 34 #[.iface 40 (.pointer (some ⟨B11_16, 0, none⟩)), .int .i32 loc], row (B11_16) 182 #[.float .f64 v], row (B11_15) 34 #[.iface 40 (.pointer (some ⟨B11_16, 0, none⟩)), .int .i32 loc], row (B11_14) 32 #[.int .i32 loc], row (B11_13) 34 #[.iface 38 (.pointer (some ⟨B11_12, 0, none⟩)), .int .i32 ll], row (B11_11) 34 #[.iface 38 (.pointer (some ⟨B11_12, 0, none⟩)), .int .i32 ll], row (B11_10) 34 #[.iface 40 (.pointer (some ⟨B11_7, 0, none⟩)), .int .i32 kl], row (B11_9) 34 #[.iface 52 (.pointer (some ⟨B11_4, 0, none⟩)), .int .i32 tl], row (B11_8) 32 #[.int .i32 ll], row (B11_7) 182 #[.float .f64 kv], row (B11_6) 34 #[.iface 40 (.pointer (some ⟨B11_7, 0, none⟩)), .int .i32 kl], row (B11_5) 32 #[.int .i32 kl], row (B11_4) 180 #[.int .u32 src, .int .u32 (m : Int), .bool false, .bool false, .bool false], row (B11_3) 34 #[.iface 52 (.pointer (some ⟨B11_4, 0, none⟩)), .int .i32 tl], row (B11_2) 28 #[.int .u32 src, .int .u32 (m : Int)], row (B11_1) 32 #[.int .i32 tl], row (B11) 28 #[.int .u32 src, .int .u32 (m : Int)], row (nd3) 196 nd6, (nd4, .map #[⟨.string ⟨#[95, 95, 112, 111, 119]⟩, .agg #[.int .i32 0, .int .u32 0, .int .u32 0], 0⟩] 1)] X := hQ.back HL.out HX.out [1, 2, 3, 4, 5, 6, 7, 9, 10, 11, 12, 13, 14, 15, 16, 17, 18, 19, 20, 22, 23] (by decide) (by decide)
  clear hQ HL HX hO
  have hO := hN
  clear hN
  have hN : Own w0 u13 [row (nd2) 178 nd5, row (B11_19) 34 #[.iface 40 (.pointer (some ⟨B11_16, 0, none⟩)), .int .i32 loc], row (B11_18) 34 #[.iface 38 (.pointer (some ⟨B11_12, 0, none⟩)), .int .i32 ll], row (B11_17) 34 #[.iface 40 (.pointer (some ⟨B11_16, 0, none⟩)), .int .i32 loc], row (B11_15) 34 #[.iface 40 (.pointer (some ⟨B11_16, 0, none⟩)), .int .i32 loc], row (B11_13) 34 #[.iface 38 (.pointer (some ⟨B11_12, 0, none⟩)), .int .i32 ll], row (B11_11) 34 #[.iface 38 (.pointer (some ⟨B11_12, 0, none⟩)), .int .i32 ll], row (B11_10) 34 #[.iface 40 (.pointer (some ⟨B11_7, 0, none⟩)), .int .i32 kl], row (B11_9) 34 #[.iface 52 (.pointer (some ⟨B11_4, 0, none⟩)), .int .i32 tl], row (B11_6) 34 #[.iface 40 (.pointer (some ⟨B11_7, 0, none⟩)), .int .i32 kl], row (B11_3) 34 #[.iface 52 (.pointer (some ⟨B11_4, 0, none⟩)), .int .i32 tl], row (nd3) 196 nd6] X := hO.sub [0, 3, 4, 5, 7, 9, 10, 11, 12, 15, 18, 22] (by decide)
  clear hO
  have hO := hN
  clear hN
  have c9_1_0 : u13.cell? ⟨B11_19, 0, none⟩ = some (.iface 40 (.pointer (some ⟨B11_16, 0, none⟩))) := hO.cell 1 rfl 0 rfl
  have c9_1_1 : u13.cell? ⟨B11_19, 1, none⟩ = some (.int .i32 loc) := hO.cell 1 rfl 1 rfl
  have lt9_1 : B11_19 < u13.heap.size := hO.lt 1 rfl
  have y9_1 : ∀ o, u13.frozen? ⟨B11_19, o, none⟩ = false := hO.free 1 rfl
  have c9_2_0 : u13.cell? ⟨B11_18, 0, none⟩ = some (.iface 38 (.pointer (some ⟨B11_12, 0, none⟩))) := hO.cell 2 rfl 0 rfl
  have c9_2_1 : u13.cell? ⟨B11_18, 1, none⟩ = some (.int .i32 ll) := hO.cell 2 rfl 1 rfl
  have lt9_2 : B11_18 < u13.heap.size := hO.lt 2 rfl
  have y9_2 : ∀ o, u13.frozen? ⟨B11_18, o, none⟩ = false := hO.free 2 rfl
  have c9_3_0 : u13.cell? ⟨B11_17, 0, none⟩ = some (.iface 40 (.pointer (some ⟨B11_16, 0, none⟩))) := hO.cell 3 rfl 0 rfl
  have c9_3_1 : u13.cell? ⟨B11_17, 1, none⟩ = some (.int .i32 loc) := hO.cell 3 rfl 1 rfl
  have lt9_3 : B11_17 < u13.heap.size := hO.lt 3 rfl
  have y9_3 : ∀ o, u13.frozen? ⟨B11_17, o, none⟩ = false := hO.free 3 rfl
  have c9_4_0 : u13.cell? ⟨B11_15, 0, none⟩ = some (.iface 40 (.pointer (some ⟨B11_16, 0, none⟩))) := hO.cell 4 rfl 0 rfl
  have c9_4_1 : u13.cell? ⟨B11_15, 1, none⟩ = some (.int .i32 loc) := hO.cell 4 rfl 1 rfl
  have lt9_4 : B11_15 < u13.heap.size := hO.lt 4 rfl
  have y9_4 : ∀ o, u13.frozen? ⟨B11_15, o, none⟩ = false := hO.free 4 rfl
  have c9_5_0 : u13.cell? ⟨B11_13, 0, none⟩ = some (.iface 38 (.pointer (some ⟨B11_12, 0, none⟩))) := hO.cell 5 rfl 0 rfl
  have c9_5_1 : u13.cell? ⟨B11_13, 1, none⟩ = some (.int .i32 ll) := hO.cell 5 rfl 1 rfl
  have lt9_5 : B11_13 < u13.heap.size := hO.lt 5 rfl
  have y9_5 : ∀ o, u13.frozen? ⟨B11_13, o, none⟩ = false := hO.free 5 rfl
  have c9_6_0 : u13.cell? ⟨B11_11, 0, none⟩ = some (.iface 38 (.pointer (some ⟨B11_12, 0, none⟩))) := hO.cell 6 rfl 0 rfl
  have c9_6_1 : u13.cell? ⟨B11_11, 1, none⟩ = some (.int .i32 ll) := hO.cell 6 rfl 1 rfl
  have lt9_6 : B11_11 < u13.heap.size := hO.lt 6 rfl
  have y9_6 : ∀ o, u13.frozen? ⟨B11_11, o, none⟩ = false := hO.free 6 rfl
  have c9_7_0 : u13.cell? ⟨B11_10, 0, none⟩ = some (.iface 40 (.pointer (some ⟨B11_7, 0, none⟩))) := hO.cell 7 rfl 0 rfl
  have c9_7_1 : u13.cell? ⟨B11_10, 1, none⟩ = some (.int .i32 kl) := hO.cell 7 rfl 1 rfl
  have lt9_7 : B11_10 < u13.heap.size := hO.lt 7 rfl
  have y9_7 : ∀ o, u13.frozen? ⟨B11_10, o, none⟩ = false := hO.free 7 rfl
  have c9_8_0 : u13.cell? ⟨B11_9, 0, none⟩ = some (.iface 52 (.pointer (some ⟨B11_4, 0, none⟩))) := hO.cell 8 rfl 0 rfl
  have c9_8_1 : u13.cell? ⟨B11_9, 1, none⟩ = some (.int .i32 tl) := hO.cell 8 rfl 1 rfl
  have lt9_8 : B11_9 < u13.heap.size := hO.lt 8 rfl
  have y9_8 : ∀ o, u13.frozen? ⟨B11_9, o, none⟩ = false := hO.free 8 rfl
  have c9_9_0 : u13.cell? ⟨B11_6, 0, none⟩ = some (.iface 40 (.pointer (some ⟨B11_7, 0, none⟩))) := hO.cell 9 rfl 0 rfl
  have c9_9_1 : u13.cell? ⟨B11_6, 1, none⟩ = some (.int .i32 kl) := hO.cell 9 rfl 1 rfl
  have lt9_9 : B11_6 < u13.heap.size := hO.lt 9 rfl
  have y9_9 : ∀ o, u13.frozen? ⟨B11_6, o, none⟩ = false := hO.free 9 rfl
  have c9_10_0 : u13.cell? ⟨B11_3, 0, none⟩ = some (.iface 52 (.pointer (some ⟨B11_4, 0, none⟩))) := hO.cell 10 rfl 0 rfl
  have c9_10_1 : u13.cell? ⟨B11_3, 1, none⟩ = some (.int .i32 tl) := hO.cell 10 rfl 1 rfl
  have lt9_10 : B11_3 < u13.heap.size := hO.lt 10 rfl
  have y9_10 : ∀ o, u13.frozen? ⟨B11_3, o, none⟩ = false := hO.free 10 rfl
  have HO := Lib.hid hO
  clear hO
  go_wp2_with (first | (go_at_call 6; go_in) | (go_at_call 7; go_in) | (go_at_call 5; go_in) | (go_at_call 8; go_in) | (go_at_call 9; go_in) | (go_at_call 13; go_in) | (go_at_call 15; go_in) | (go_at_call 11; go_in))
  have hO := HO.out
  clear HO c9_1_0 c9_1_1 lt9_1 y9_1 c9_2_0 c9_2_1 lt9_2 y9_2 c9_3_0 c9_3_1 lt9_3 y9_3 c9_4_0 c9_4_1 lt9_4 y9_4 c9_5_0 c9_5_1 lt9_5 y9_5 c9_6_0 c9_6_1 lt9_6 y9_6 c9_7_0 c9_7_1 lt9_7 y9_7 c9_8_0 c9_8_1 lt9_8 y9_8 c9_9_0 c9_9_1 lt9_9 y9_9 c9_10_0 c9_10_1 lt9_10 y9_10
  generalize hW : World.alloc _ _ = W15
  have hN : Own w0 W15 [row (u13.heap.size + 1) 34 #[.nilIface, .int .i32 0], row (u13.heap.size) 34 #[.nilIface, .int .i32 0], row (nd2) 178 nd5, row (B11_19) 34 #[.iface 40 (.pointer (some ⟨B11_16, 0, none⟩)), .int .i32 loc], row (B11_18) 34 #[.iface 38 (.pointer (some ⟨B11_12, 0, none⟩)), .int .i32 ll], row (B11_17) 34 #[.iface 40 (.pointer (some ⟨B11_16, 0, none⟩)), .int .i32 loc], row (B11_15) 34 #[.iface 40 (.pointer (some ⟨B11_16, 0, none⟩)), .int .i32 loc], row (B11_13) 34 #[.iface 38 (.pointer (some ⟨B11_12, 0, none⟩)), .int .i32 ll], row (B11_11) 34 #[.iface 38 (.pointer (some ⟨B11_12, 0, none⟩)), .int .i32 ll], row (B11_10) 34 #[.iface 40 (.pointer (some ⟨B11_7, 0, none⟩)), .int .i32 kl], row (B11_9) 34 #[.iface 52 (.pointer (some ⟨B11_4, 0, none⟩)), .int .i32 tl], row (B11_6) 34 #[.iface 40 (.pointer (some ⟨B11_7, 0, none⟩)), .int .i32 kl], row (B11_3) 34 #[.iface 52 (.pointer (some ⟨B11_4, 0, none⟩)), .int .i32 tl], row (nd3) 196 nd6] X := by
    rw [← hW]
    exact ((hO).alloc' _ (u13.heap.size) (by simp)).alloc' _ (u13.heap.size + 1) (by simp)
  clear hW hO
  generalize u13.heap.size + 1 = B14_1 at hN ⊢
  generalize u13.heap.size = B14 at hN ⊢
  have hO := hN
  clear hN
  rw [show ((m : Int) + 1) = ((m + 1 : Nat) : Int) from rfl]
  have hN : Own w0 W15 [row (nd2) 178 nd5, row (nd3) 196 nd6] X := hO.sub [2, 13] (by decide)
  clear hO
  have hO := hN
  clear hN
  have hL := hO.apart
  have hX := hO.apartX
  have HL := Lib.hid hL
  have HX := Lib.hid hX
  clear hL hX
  have hP9 := hO.pick [0, 1] (by decide)
  have h9_hn : (m + 1 : Nat) ≤ 65537 := (by omega)
  have h9_hu : ∀ i, i < (m + 1 : Nat) → (fun _ => 0) i ≤ 4294967295 := (le0 _)
  have h9_ht : ((l131.sumTo (fun _ => 0) (m + 1 : Nat) : Nat) : Int) = 0 := (by rw [sum_zero]; rfl)
  have T9 := totalO nd2 nd3 (m + 1 : Nat) nd5 nd6 (fun _ => 0) 0 _ _ _ hP9 pr7 h9_hn pr10 h9_hu h9_ht
  refine Calls.mono T9 ?_
  clear hP9 T9 h9_hn h9_hu h9_ht
  rintro e u16 ⟨rfl, hQ⟩
  have hN : Own w0 u16 [row (nd2) 178 nd5, row (nd3) 196 nd6] X := hQ.back HL.out HX.out [] (by decide) (by decide)
  clear hQ HL HX hO
  have hO := hN
  clear hN
  go_wp2_with fail
  refine bodyPost_ret (v := .bool true) ?_ rfl ⟨rfl, hO.sub [] (by decide)⟩
  simp [results, Tryz.results3, go_sem]
end Go.Proofs.YtlgefnjkoklboaaGreatDoor.Use
