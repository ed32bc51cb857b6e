/- The law on an exponent's assignment to an identifier, walked: one of three cases. No condition. -/
import Derived.Test.YtlgefnjkoklboaaDoorOwn
import Derived.Test.YtlgefnjkoklboaaDoorDeepCells
import Derived.Test.YtlgefnjkoklboaaDoorRows
import Derived.Test.YtlgefnjkoklboaaDoorUse
import Derived.Test.YtlgefnjkoklboaaDoorPow
import Derived.Test.YtlgefnjkoklboaaDoorPowFn
import Derived.Test.YtlgefnjkoklboaaDoorLowExp
import Derived.Test.YtlgefnjkoklboaaDoorNew
import Derived.Test.YtlgefnjkoklboaaDoorLaws
import Derived.Test.YtlgefnjkoklboaaDoorHelp
import Derived.Test.YtlgefnjkoklboaaDoorLawKit
namespace Go.Proofs.YtlgefnjkoklboaaDoor.Use
open Go.ChangeShapes Go.WideShapes Go.ChangeAt Go.RowKit Go.Sort Own
set_option linter.unusedVariables false
def law23gtPost (x src : Int) (m k : Nat) (ll loc rl : Int) (v : Nat) (w0 : World) (X : Nat → Obj → Prop) (e : Ending) (w' : World) : Prop :=
  e = .returned (.bool true) ∧ Own w0 w' [] X
set_option maxRecDepth 100000 in
set_option maxHeartbeats 1000000 in
theorem law23gt (x src : Int) (m k : Nat) (ll loc rl : Int) (v : Nat) (w0 w : World) (X : Nat → Obj → Prop) (hO : Own w0 w [] X) (hm : m ≤ 65536) (hk : k ≤ 65536) (hmk : k < m) :
    Calls Tryd.prog 7 #[.int .u64 x, .int .u32 src, .int .u32 (m : Int), .int .u32 (k : Int), .int .i32 ll, .int .i32 loc, .int .i32 rl, .float .f64 v] w (law23gtPost x src m k ll loc rl v w0 X) := by
  go_enter Tryd.func7, Tryd.ntmps7
  have hq : (m : Int) ≤ 65536 := by omega
  have hq2 : (k : Int) ≤ 65536 := by omega
  go_wp2_with fail
  generalize hW : World.alloc _ _ = W2
  have hN : Own w0 W2 [row (w.heap.size) 28 #[.int .u32 0, .int .u32 (k : Int)]] X := by
    rw [← hW]
    exact (hO).alloc' _ (w.heap.size) (by simp)
  clear hW hO
  generalize w.heap.size = B1 at hN ⊢
  have hO := hN
  clear hN
  rw [show ((m : Int) + 1) = ((m + 1 : Nat) : Int) from rfl]
  have hL := hO.apart
  have hX := hO.apartX
  have HL := Lib.hid hL
  have HX := Lib.hid hX
  clear hL hX
  have hP9 := hO.pick [] (by decide)
  have h9_hn : (m + 1 : Nat) ≤ 65537 := (by first | assumption | omega | (simp; done) | (simp; omega))
  have T9 := newParserO x (m + 1 : Nat) 0 k _ _ _ hP9 h9_hn
  refine Calls.mono T9 ?_
  clear hP9 T9 h9_hn
  rintro e u3 ⟨nd4, nd5, nd6, nd7, nd8, rfl, pr9, pr10, pr11, pr12, hQ⟩
  have hN : Own w0 u3 [row (nd4) 207 nd7, row (nd5) 223 nd8, (nd6, .map #[⟨.string ⟨#[95, 95, 112, 111, 119]⟩, .agg #[.int .i32 0, .int .u32 0, .int .u32 (k : Int)], 0⟩] 1), row (B1) 28 #[.int .u32 0, .int .u32 (k : Int)]] X := hQ.back HL.out HX.out [0] (by decide) (by decide)
  clear hQ HL HX hO
  have hO := hN
  clear hN
  have c9_3_0 : u3.cell? ⟨B1, 0, none⟩ = some (.int .u32 0) := hO.cell 3 rfl 0 rfl
  have c9_3_1 : u3.cell? ⟨B1, 1, none⟩ = some (.int .u32 (k : Int)) := hO.cell 3 rfl 1 rfl
  have lt9_3 : B1 < u3.heap.size := hO.lt 3 rfl
  have y9_3 : ∀ o, u3.frozen? ⟨B1, o, none⟩ = false := hO.free 3 rfl
  have HO := Lib.hid hO
  clear hO
  go_wp2_with (first | (go_at_call 11; go_in) | (go_at_call 12; go_in) | (go_at_call 15; go_in) | (go_at_call 19; go_in) | (go_at_call 20; go_in) | (go_at_call 29; go_in))
  have hO := HO.out
  clear HO c9_3_0 c9_3_1 lt9_3 y9_3
  generalize hW : World.alloc _ _ = W14
  have hN : Own w0 W14 [row (u3.heap.size + 1 + 1 + 1 + 1 + 1 + 1 + 1 + 1 + 1 + 1 + 1 + 1) 47 #[.iface 55 (.pointer (some ⟨u3.heap.size + 1 + 1 + 1 + 1, 0, none⟩)), .int .i32 ll, .iface 36 (.pointer (some ⟨u3.heap.size + 1 + 1 + 1 + 1 + 1 + 1 + 1 + 1, 0, none⟩)), .int .i32 rl, .int .u8 0, .bool false], row (u3.heap.size + 1 + 1 + 1 + 1 + 1 + 1 + 1 + 1 + 1 + 1 + 1) 34 #[.iface 36 (.pointer (some ⟨u3.heap.size + 1 + 1 + 1 + 1 + 1 + 1 + 1 + 1, 0, none⟩)), .int .i32 rl], row (u3.heap.size + 1 + 1 + 1 + 1 + 1 + 1 + 1 + 1 + 1 + 1) 34 #[.iface 55 (.pointer (some ⟨u3.heap.size + 1 + 1 + 1 + 1, 0, none⟩)), .int .i32 ll], row (u3.heap.size + 1 + 1 + 1 + 1 + 1 + 1 + 1 + 1 + 1) 34 #[.iface 36 (.pointer (some ⟨u3.heap.size + 1 + 1 + 1 + 1 + 1 + 1 + 1 + 1, 0, none⟩)), .int .i32 rl], row (u3.heap.size + 1 + 1 + 1 + 1 + 1 + 1 + 1 + 1) 50 #[.float .f64 v], row (u3.heap.size + 1 + 1 + 1 + 1 + 1 + 1 + 1) 34 #[.iface 36 (.pointer (some ⟨u3.heap.size + 1 + 1 + 1 + 1 + 1 + 1 + 1 + 1, 0, none⟩)), .int .i32 rl], row (u3.heap.size + 1 + 1 + 1 + 1 + 1 + 1) 32 #[.int .i32 rl], row (u3.heap.size + 1 + 1 + 1 + 1 + 1) 34 #[.iface 55 (.pointer (some ⟨u3.heap.size + 1 + 1 + 1 + 1, 0, none⟩)), .int .i32 ll], row (u3.heap.size + 1 + 1 + 1 + 1) 214 #[.int .u32 src, .int .u32 (m : Int), .bool false, .bool false, .bool false], row (u3.heap.size + 1 + 1 + 1) 34 #[.iface 55 (.pointer (some ⟨u3.heap.size + 1 + 1 + 1 + 1, 0, none⟩)), .int .i32 ll], row (u3.heap.size + 1 + 1) 28 #[.int .u32 src, .int .u32 (m : Int)], row (u3.heap.size + 1) 32 #[.int .i32 ll], row (u3.heap.size) 28 #[.int .u32 src, .int .u32 (m : Int)], row (nd4) 207 nd7, row (nd5) 223 nd8, (nd6, .map #[⟨.string ⟨#[95, 95, 112, 111, 119]⟩, .agg #[.int .i32 0, .int .u32 0, .int .u32 (k : Int)], 0⟩] 1), row (B1) 28 #[.int .u32 0, .int .u32 (k : Int)]] X := by
    rw [← hW]
    exact (((((((((((((hO).alloc' _ (u3.heap.size) (by simp)).alloc' _ (u3.heap.size + 1) (by simp)).alloc' _ (u3.heap.size + 1 + 1) (by simp)).alloc' _ (u3.heap.size + 1 + 1 + 1) (by simp)).alloc' _ (u3.heap.size + 1 + 1 + 1 + 1) (by simp)).alloc' _ (u3.heap.size + 1 + 1 + 1 + 1 + 1) (by simp)).alloc' _ (u3.heap.size + 1 + 1 + 1 + 1 + 1 + 1) (by simp)).alloc' _ (u3.heap.size + 1 + 1 + 1 + 1 + 1 + 1 + 1) (by simp)).alloc' _ (u3.heap.size + 1 + 1 + 1 + 1 + 1 + 1 + 1 + 1) (by simp)).alloc' _ (u3.heap.size + 1 + 1 + 1 + 1 + 1 + 1 + 1 + 1 + 1) (by simp)).alloc' _ (u3.heap.size + 1 + 1 + 1 + 1 + 1 + 1 + 1 + 1 + 1 + 1) (by simp)).alloc' _ (u3.heap.size + 1 + 1 + 1 + 1 + 1 + 1 + 1 + 1 + 1 + 1 + 1) (by simp)).alloc' _ (u3.heap.size + 1 + 1 + 1 + 1 + 1 + 1 + 1 + 1 + 1 + 1 + 1 + 1) (by simp)
  clear hW hO
  generalize u3.heap.size + 1 + 1 + 1 + 1 + 1 + 1 + 1 + 1 + 1 + 1 + 1 + 1 = B13_12 at hN ⊢
  generalize u3.heap.size + 1 + 1 + 1 + 1 + 1 + 1 + 1 + 1 + 1 + 1 + 1 = B13_11 at hN ⊢
  generalize u3.heap.size + 1 + 1 + 1 + 1 + 1 + 1 + 1 + 1 + 1 + 1 = B13_10 at hN ⊢
  generalize u3.heap.size + 1 + 1 + 1 + 1 + 1 + 1 + 1 + 1 + 1 = B13_9 at hN ⊢
  generalize u3.heap.size + 1 + 1 + 1 + 1 + 1 + 1 + 1 + 1 = B13_8 at hN ⊢
  generalize u3.heap.size + 1 + 1 + 1 + 1 + 1 + 1 + 1 = B13_7 at hN ⊢
  generalize u3.heap.size + 1 + 1 + 1 + 1 + 1 + 1 = B13_6 at hN ⊢
  generalize u3.heap.size + 1 + 1 + 1 + 1 + 1 = B13_5 at hN ⊢
  generalize u3.heap.size + 1 + 1 + 1 + 1 = B13_4 at hN ⊢
  generalize u3.heap.size + 1 + 1 + 1 = B13_3 at hN ⊢
  generalize u3.heap.size + 1 + 1 = B13_2 at hN ⊢
  generalize u3.heap.size + 1 = B13_1 at hN ⊢
  generalize u3.heap.size = B13 at hN ⊢
  have hO := hN
  clear hN
  have hc9 : nd8[m * 10 + 4]? = some (.int .u32 ((0 : Nat) : Int)) := pr12.2 m (by omega)
  have hC1 : Cnt (bumped nd8 m (0 : Nat)) (m + 1) (bump (fun _ => 0) m) := pr12.bumped (by omega) rfl
  have hv9 : bump (fun _ => 0) m k = (0 : Nat) := by simp [bump]; omega
  have hj9 : (bumped nd8 m (0 : Nat))[k * 10 + 4]? = some (.int .u32 ((0 : Nat) : Int)) := by
    have := hC1.2 k (by omega)
    rwa [hv9] at this
  have hC2 : Cnt (bumped (bumped nd8 m (0 : Nat)) k (0 : Nat)) (m + 1) (bump (bump (fun _ => 0) m) k) := hC1.bumped (by omega) hv9
  have HC2 := Lib.hid hC2
  clear hC2 hC1 hv9
  have hL := hO.apart
  have hX := hO.apartX
  have HL := Lib.hid hL
  have HX := Lib.hid hX
  clear hL hX
  have hP9 := hO.pick [13, 14, 15, 0, 8] (by decide)
  have h9_hn : (m + 1 : Nat) ≤ 4294967295 := (by first | assumption | omega | (simp; done) | (simp; omega))
  have h9_hi : m < (m + 1 : Nat) := (by first | assumption | omega | (simp; done) | (simp; omega))
  have h9_hcm : (0 : Nat) < 4294967295 := (by first | assumption | omega | (simp; done) | (simp; omega))
  have h9_hj : k < (m + 1 : Nat) := (by first | assumption | omega | (simp; done) | (simp; omega))
  have h9_hcjm : (0 : Nat) < 4294967295 := (by first | assumption | omega | (simp; done) | (simp; omega))
  have T9 := low28 nd4 nd5 (m + 1 : Nat) (m + 1 : Nat) nd7 nd8 nd6 0 k (0 : Nat) m (0 : Nat) src B13_4 B13_12 ll 36 B13_8 rl 0 false loc _ _ _ hP9 pr9 h9_hn h9_hi hc9 h9_hcm h9_hj hj9 h9_hcjm pr11
  refine Calls.mono T9 ?_
  clear hP9 T9 h9_hn h9_hi h9_hcm h9_hj h9_hcjm
  rintro e u15 ⟨nd16, nd17, nd18, nd19, nd20, rfl, hQ⟩
  have hN : Own w0 u15 [row (nd4) 207 nd7, row (nd5) 223 (bumped (bumped nd8 m (0 : Nat)) k (0 : Nat)), (nd6, .map #[⟨.string ⟨#[95, 95, 112, 111, 119]⟩, .agg #[.int .i32 0, .int .u32 0, .int .u32 (k : Int)], 0⟩] 1), row (B13_12) 47 #[.iface 55 (.pointer (some ⟨B13_4, 0, none⟩)), .int .i32 ll, .iface 36 (.pointer (some ⟨B13_8, 0, none⟩)), .int .i32 rl, .int .u8 0, .bool false], row (B13_4) 214 #[.int .u32 src, .int .u32 (m : Int), .bool false, .bool false, .bool false], row (nd16) 47 #[.iface 55 (.pointer (some ⟨nd20, 0, none⟩)), .int .i32 ll, .iface 72 (.pointer (some ⟨nd17, 0, none⟩)), .int .i32 loc, .int .u8 37, .bool false], row (nd17) 77 #[.iface 55 (.pointer (some ⟨nd18, 0, none⟩)), .int .i32 loc, .slice (some ⟨nd19, 0, none⟩) 2 2, .int .i32 0, .int .u8 0, .int .u8 0, .bool false, .bool false], row (nd18) 214 #[.int .u32 0, .int .u32 (k : Int), .bool false, .bool false, .bool false], row (nd19) 34 #[.iface 55 (.pointer (some ⟨B13_4, 0, none⟩)), .int .i32 ll, .iface 36 (.pointer (some ⟨B13_8, 0, none⟩)), .int .i32 rl], row (nd20) 214 #[.int .u32 src, .int .u32 (m : Int), .bool false, .bool false, .bool false], row (B13_11) 34 #[.iface 36 (.pointer (some ⟨B13_8, 0, none⟩)), .int .i32 rl], row (B13_10) 34 #[.iface 55 (.pointer (some ⟨B13_4, 0, none⟩)), .int .i32 ll], row (B13_9) 34 #[.iface 36 (.pointer (some ⟨B13_8, 0, none⟩)), .int .i32 rl], row (B13_8) 50 #[.float .f64 v], row (B13_7) 34 #[.iface 36 (.pointer (some ⟨B13_8, 0, none⟩)), .int .i32 rl], row (B13_6) 32 #[.int .i32 rl], row (B13_5) 34 #[.iface 55 (.pointer (some ⟨B13_4, 0, none⟩)), .int .i32 ll], row (B13_3) 34 #[.iface 55 (.pointer (some ⟨B13_4, 0, none⟩)), .int .i32 ll], row (B13_2) 28 #[.int .u32 src, .int .u32 (m : Int)], row (B13_1) 32 #[.int .i32 ll], row (B13) 28 #[.int .u32 src, .int .u32 (m : Int)], row (B1) 28 #[.int .u32 0, .int .u32 (k : Int)]] X := hQ.back HL.out HX.out [1, 2, 3, 4, 5, 6, 7, 9, 10, 11, 12, 16] (by decide) (by decide)
  clear hQ HL HX hO
  have hO := hN
  clear hN
  clear hc9 hj9
  have hN : Own w0 u15 [row (nd4) 207 nd7, row (nd5) 223 (bumped (bumped nd8 m (0 : Nat)) k (0 : Nat)), row (B13_4) 214 #[.int .u32 src, .int .u32 (m : Int), .bool false, .bool false, .bool false], row (nd16) 47 #[.iface 55 (.pointer (some ⟨nd20, 0, none⟩)), .int .i32 ll, .iface 72 (.pointer (some ⟨nd17, 0, none⟩)), .int .i32 loc, .int .u8 37, .bool false], row (nd17) 77 #[.iface 55 (.pointer (some ⟨nd18, 0, none⟩)), .int .i32 loc, .slice (some ⟨nd19, 0, none⟩) 2 2, .int .i32 0, .int .u8 0, .int .u8 0, .bool false, .bool false], row (nd18) 214 #[.int .u32 0, .int .u32 (k : Int), .bool false, .bool false, .bool false], row (nd19) 34 #[.iface 55 (.pointer (some ⟨B13_4, 0, none⟩)), .int .i32 ll, .iface 36 (.pointer (some ⟨B13_8, 0, none⟩)), .int .i32 rl], row (nd20) 214 #[.int .u32 src, .int .u32 (m : Int), .bool false, .bool false, .bool false], row (B13_8) 50 #[.float .f64 v], row (B13_2) 28 #[.int .u32 src, .int .u32 (m : Int)], row (B13) 28 #[.int .u32 src, .int .u32 (m : Int)], row (B1) 28 #[.int .u32 0, .int .u32 (k : Int)]] X := hO.sub [0, 1, 4, 5, 6, 7, 8, 9, 13, 18, 20, 21] (by decide)
  clear hO
  have hO := hN
  clear hN
  have c9_2_0 : u15.cell? ⟨B13_4, 0, none⟩ = some (.int .u32 src) := hO.cell 2 rfl 0 rfl
  have c9_2_1 : u15.cell? ⟨B13_4, 1, none⟩ = some (.int .u32 (m : Int)) := hO.cell 2 rfl 1 rfl
  have c9_2_2 : u15.cell? ⟨B13_4, 2, none⟩ = some (.bool false) := hO.cell 2 rfl 2 rfl
  have c9_2_3 : u15.cell? ⟨B13_4, 3, none⟩ = some (.bool false) := hO.cell 2 rfl 3 rfl
  have c9_2_4 : u15.cell? ⟨B13_4, 4, none⟩ = some (.bool false) := hO.cell 2 rfl 4 rfl
  have lt9_2 : B13_4 < u15.heap.size := hO.lt 2 rfl
  have y9_2 : ∀ o, u15.frozen? ⟨B13_4, o, none⟩ = false := hO.free 2 rfl
  have c9_3_0 : u15.cell? ⟨nd16, 0, none⟩ = some (.iface 55 (.pointer (some ⟨nd20, 0, none⟩))) := hO.cell 3 rfl 0 rfl
  have c9_3_1 : u15.cell? ⟨nd16, 1, none⟩ = some (.int .i32 ll) := hO.cell 3 rfl 1 rfl
  have c9_3_2 : u15.cell? ⟨nd16, 2, none⟩ = some (.iface 72 (.pointer (some ⟨nd17, 0, none⟩))) := hO.cell 3 rfl 2 rfl
  have c9_3_3 : u15.cell? ⟨nd16, 3, none⟩ = some (.int .i32 loc) := hO.cell 3 rfl 3 rfl
  have c9_3_4 : u15.cell? ⟨nd16, 4, none⟩ = some (.int .u8 37) := hO.cell 3 rfl 4 rfl
  have c9_3_5 : u15.cell? ⟨nd16, 5, none⟩ = some (.bool false) := hO.cell 3 rfl 5 rfl
  have lt9_3 : nd16 < u15.heap.size := hO.lt 3 rfl
  have y9_3 : ∀ o, u15.frozen? ⟨nd16, o, none⟩ = false := hO.free 3 rfl
  have c9_4_0 : u15.cell? ⟨nd17, 0, none⟩ = some (.iface 55 (.pointer (some ⟨nd18, 0, none⟩))) := hO.cell 4 rfl 0 rfl
  have c9_4_1 : u15.cell? ⟨nd17, 1, none⟩ = some (.int .i32 loc) := hO.cell 4 rfl 1 rfl
  have c9_4_2 : u15.cell? ⟨nd17, 2, none⟩ = some (.slice (some ⟨nd19, 0, none⟩) 2 2) := hO.cell 4 rfl 2 rfl
  have c9_4_3 : u15.cell? ⟨nd17, 3, none⟩ = some (.int .i32 0) := hO.cell 4 rfl 3 rfl
  have c9_4_4 : u15.cell? ⟨nd17, 4, none⟩ = some (.int .u8 0) := hO.cell 4 rfl 4 rfl
  have c9_4_5 : u15.cell? ⟨nd17, 5, none⟩ = some (.int .u8 0) := hO.cell 4 rfl 5 rfl
  have c9_4_6 : u15.cell? ⟨nd17, 6, none⟩ = some (.bool false) := hO.cell 4 rfl 6 rfl
  have c9_4_7 : u15.cell? ⟨nd17, 7, none⟩ = some (.bool false) := hO.cell 4 rfl 7 rfl
  have lt9_4 : nd17 < u15.heap.size := hO.lt 4 rfl
  have y9_4 : ∀ o, u15.frozen? ⟨nd17, o, none⟩ = false := hO.free 4 rfl
  have c9_5_0 : u15.cell? ⟨nd18, 0, none⟩ = some (.int .u32 0) := hO.cell 5 rfl 0 rfl
  have c9_5_1 : u15.cell? ⟨nd18, 1, none⟩ = some (.int .u32 (k : Int)) := hO.cell 5 rfl 1 rfl
  have c9_5_2 : u15.cell? ⟨nd18, 2, none⟩ = some (.bool false) := hO.cell 5 rfl 2 rfl
  have c9_5_3 : u15.cell? ⟨nd18, 3, none⟩ = some (.bool false) := hO.cell 5 rfl 3 rfl
  have c9_5_4 : u15.cell? ⟨nd18, 4, none⟩ = some (.bool false) := hO.cell 5 rfl 4 rfl
  have lt9_5 : nd18 < u15.heap.size := hO.lt 5 rfl
  have y9_5 : ∀ o, u15.frozen? ⟨nd18, o, none⟩ = false := hO.free 5 rfl
  have c9_6_0 : u15.cell? ⟨nd19, 0, none⟩ = some (.iface 55 (.pointer (some ⟨B13_4, 0, none⟩))) := hO.cell 6 rfl 0 rfl
  have c9_6_1 : u15.cell? ⟨nd19, 1, none⟩ = some (.int .i32 ll) := hO.cell 6 rfl 1 rfl
  have c9_6_2 : u15.cell? ⟨nd19, 2, none⟩ = some (.iface 36 (.pointer (some ⟨B13_8, 0, none⟩))) := hO.cell 6 rfl 2 rfl
  have c9_6_3 : u15.cell? ⟨nd19, 3, none⟩ = some (.int .i32 rl) := hO.cell 6 rfl 3 rfl
  have lt9_6 : nd19 < u15.heap.size := hO.lt 6 rfl
  have y9_6 : ∀ o, u15.frozen? ⟨nd19, o, none⟩ = false := hO.free 6 rfl
  have c9_7_0 : u15.cell? ⟨nd20, 0, none⟩ = some (.int .u32 src) := hO.cell 7 rfl 0 rfl
  have c9_7_1 : u15.cell? ⟨nd20, 1, none⟩ = some (.int .u32 (m : Int)) := hO.cell 7 rfl 1 rfl
  have c9_7_2 : u15.cell? ⟨nd20, 2, none⟩ = some (.bool false) := hO.cell 7 rfl 2 rfl
  have c9_7_3 : u15.cell? ⟨nd20, 3, none⟩ = some (.bool false) := hO.cell 7 rfl 3 rfl
  have c9_7_4 : u15.cell? ⟨nd20, 4, none⟩ = some (.bool false) := hO.cell 7 rfl 4 rfl
  have lt9_7 : nd20 < u15.heap.size := hO.lt 7 rfl
  have y9_7 : ∀ o, u15.frozen? ⟨nd20, o, none⟩ = false := hO.free 7 rfl
  have c9_8_0 : u15.cell? ⟨B13_8, 0, none⟩ = some (.float .f64 v) := hO.cell 8 rfl 0 rfl
  have lt9_8 : B13_8 < u15.heap.size := hO.lt 8 rfl
  have y9_8 : ∀ o, u15.frozen? ⟨B13_8, o, none⟩ = false := hO.free 8 rfl
  have c9_9_0 : u15.cell? ⟨B13_2, 0, none⟩ = some (.int .u32 src) := hO.cell 9 rfl 0 rfl
  have c9_9_1 : u15.cell? ⟨B13_2, 1, none⟩ = some (.int .u32 (m : Int)) := hO.cell 9 rfl 1 rfl
  have lt9_9 : B13_2 < u15.heap.size := hO.lt 9 rfl
  have y9_9 : ∀ o, u15.frozen? ⟨B13_2, o, none⟩ = false := hO.free 9 rfl
  have c9_10_0 : u15.cell? ⟨B13, 0, none⟩ = some (.int .u32 src) := hO.cell 10 rfl 0 rfl
  have c9_10_1 : u15.cell? ⟨B13, 1, none⟩ = some (.int .u32 (m : Int)) := hO.cell 10 rfl 1 rfl
  have lt9_10 : B13 < u15.heap.size := hO.lt 10 rfl
  have y9_10 : ∀ o, u15.frozen? ⟨B13, o, none⟩ = false := hO.free 10 rfl
  have c9_11_0 : u15.cell? ⟨B1, 0, none⟩ = some (.int .u32 0) := hO.cell 11 rfl 0 rfl
  have c9_11_1 : u15.cell? ⟨B1, 1, none⟩ = some (.int .u32 (k : Int)) := hO.cell 11 rfl 1 rfl
  have lt9_11 : B1 < u15.heap.size := hO.lt 11 rfl
  have y9_11 : ∀ o, u15.frozen? ⟨B1, o, none⟩ = false := hO.free 11 rfl
  have HO := Lib.hid hO
  clear hO
  go_wp2_with (first | (go_at_call 11; go_in) | (go_at_call 12; go_in) | (go_at_call 15; go_in) | (go_at_call 19; go_in) | (go_at_call 20; go_in) | (go_at_call 29; go_in))
  have hO := HO.out
  clear HO c9_2_0 c9_2_1 c9_2_2 c9_2_3 c9_2_4 lt9_2 y9_2 c9_3_0 c9_3_1 c9_3_2 c9_3_3 c9_3_4 c9_3_5 lt9_3 y9_3 c9_4_0 c9_4_1 c9_4_2 c9_4_3 c9_4_4 c9_4_5 c9_4_6 c9_4_7 lt9_4 y9_4 c9_5_0 c9_5_1 c9_5_2 c9_5_3 c9_5_4 lt9_5 y9_5 c9_6_0 c9_6_1 c9_6_2 c9_6_3 lt9_6 y9_6 c9_7_0 c9_7_1 c9_7_2 c9_7_3 c9_7_4 lt9_7 y9_7 c9_8_0 lt9_8 y9_8 c9_9_0 c9_9_1 lt9_9 y9_9 c9_10_0 c9_10_1 lt9_10 y9_10 c9_11_0 c9_11_1 lt9_11 y9_11
  generalize hW : World.alloc _ _ = W22
  have hN : Own w0 W22 [row (u15.heap.size + 1) 34 #[.iface 41 (.pointer (some ⟨nd16, 0, none⟩)), .int .i32 ll], row (u15.heap.size) 34 #[.iface 41 (.pointer (some ⟨nd16, 0, none⟩)), .int .i32 ll], row (nd4) 207 nd7, row (nd5) 223 (bumped (bumped nd8 m (0 : Nat)) k (0 : Nat)), row (B13_4) 214 #[.int .u32 src, .int .u32 (m : Int), .bool false, .bool false, .bool false], row (nd16) 47 #[.iface 55 (.pointer (some ⟨nd20, 0, none⟩)), .int .i32 ll, .iface 72 (.pointer (some ⟨nd17, 0, none⟩)), .int .i32 loc, .int .u8 37, .bool false], row (nd17) 77 #[.iface 55 (.pointer (some ⟨nd18, 0, none⟩)), .int .i32 loc, .slice (some ⟨nd19, 0, none⟩) 2 2, .int .i32 0, .int .u8 0, .int .u8 0, .bool false, .bool false], row (nd18) 214 #[.int .u32 0, .int .u32 (k : Int), .bool false, .bool false, .bool false], row (nd19) 34 #[.iface 55 (.pointer (some ⟨B13_4, 0, none⟩)), .int .i32 ll, .iface 36 (.pointer (some ⟨B13_8, 0, none⟩)), .int .i32 rl], row (nd20) 214 #[.int .u32 src, .int .u32 (m : Int), .bool false, .bool false, .bool false], row (B13_8) 50 #[.float .f64 v], row (B13_2) 28 #[.int .u32 src, .int .u32 (m : Int)], row (B13) 28 #[.int .u32 src, .int .u32 (m : Int)], row (B1) 28 #[.int .u32 0, .int .u32 (k : Int)]] X := by
    rw [← hW]
    exact ((hO).alloc' _ (u15.heap.size) (by simp)).alloc' _ (u15.heap.size + 1) (by simp)
  clear hW hO
  generalize u15.heap.size + 1 = B21_1 at hN ⊢
  generalize u15.heap.size = B21 at hN ⊢
  have hO := hN
  clear hN
  have kq9_4_0 := cell_regrown (show W22.cell? ⟨B13_4, 0, none⟩ = some (.int .u32 src) from hO.cell 4 rfl 0 (rfl))
  have kq9_4_1 := cell_regrown (show W22.cell? ⟨B13_4, 1, none⟩ = some (.int .u32 (m : Int)) from hO.cell 4 rfl 1 (rfl))
  have kq9_4_2 := cell_regrown (show W22.cell? ⟨B13_4, 2, none⟩ = some (.bool false) from hO.cell 4 rfl 2 (rfl))
  have kq9_4_3 := cell_regrown (show W22.cell? ⟨B13_4, 3, none⟩ = some (.bool false) from hO.cell 4 rfl 3 (rfl))
  have kq9_4_4 := cell_regrown (show W22.cell? ⟨B13_4, 4, none⟩ = some (.bool false) from hO.cell 4 rfl 4 (rfl))
  have kq9_5_0 := cell_regrown (show W22.cell? ⟨nd16, 0, none⟩ = some (.iface 55 (.pointer (some ⟨nd20, 0, none⟩))) from hO.cell 5 rfl 0 (rfl))
  have kq9_5_1 := cell_regrown (show W22.cell? ⟨nd16, 1, none⟩ = some (.int .i32 ll) from hO.cell 5 rfl 1 (rfl))
  have kq9_5_2 := cell_regrown (show W22.cell? ⟨nd16, 2, none⟩ = some (.iface 72 (.pointer (some ⟨nd17, 0, none⟩))) from hO.cell 5 rfl 2 (rfl))
  have kq9_5_3 := cell_regrown (show W22.cell? ⟨nd16, 3, none⟩ = some (.int .i32 loc) from hO.cell 5 rfl 3 (rfl))
  have kq9_5_4 := cell_regrown (show W22.cell? ⟨nd16, 4, none⟩ = some (.int .u8 37) from hO.cell 5 rfl 4 (rfl))
  have kq9_5_5 := cell_regrown (show W22.cell? ⟨nd16, 5, none⟩ = some (.bool false) from hO.cell 5 rfl 5 (rfl))
  have kq9_6_0 := cell_regrown (show W22.cell? ⟨nd17, 0, none⟩ = some (.iface 55 (.pointer (some ⟨nd18, 0, none⟩))) from hO.cell 6 rfl 0 (rfl))
  have kq9_6_1 := cell_regrown (show W22.cell? ⟨nd17, 1, none⟩ = some (.int .i32 loc) from hO.cell 6 rfl 1 (rfl))
  have kq9_6_2 := cell_regrown (show W22.cell? ⟨nd17, 2, none⟩ = some (.slice (some ⟨nd19, 0, none⟩) 2 2) from hO.cell 6 rfl 2 (rfl))
  have kq9_6_3 := cell_regrown (show W22.cell? ⟨nd17, 3, none⟩ = some (.int .i32 0) from hO.cell 6 rfl 3 (rfl))
  have kq9_6_4 := cell_regrown (show W22.cell? ⟨nd17, 4, none⟩ = some (.int .u8 0) from hO.cell 6 rfl 4 (rfl))
  have kq9_6_5 := cell_regrown (show W22.cell? ⟨nd17, 5, none⟩ = some (.int .u8 0) from hO.cell 6 rfl 5 (rfl))
  have kq9_6_6 := cell_regrown (show W22.cell? ⟨nd17, 6, none⟩ = some (.bool false) from hO.cell 6 rfl 6 (rfl))
  have kq9_6_7 := cell_regrown (show W22.cell? ⟨nd17, 7, none⟩ = some (.bool false) from hO.cell 6 rfl 7 (rfl))
  have kq9_7_0 := cell_regrown (show W22.cell? ⟨nd18, 0, none⟩ = some (.int .u32 0) from hO.cell 7 rfl 0 (rfl))
  have kq9_7_1 := cell_regrown (show W22.cell? ⟨nd18, 1, none⟩ = some (.int .u32 (k : Int)) from hO.cell 7 rfl 1 (rfl))
  have kq9_7_2 := cell_regrown (show W22.cell? ⟨nd18, 2, none⟩ = some (.bool false) from hO.cell 7 rfl 2 (rfl))
  have kq9_7_3 := cell_regrown (show W22.cell? ⟨nd18, 3, none⟩ = some (.bool false) from hO.cell 7 rfl 3 (rfl))
  have kq9_7_4 := cell_regrown (show W22.cell? ⟨nd18, 4, none⟩ = some (.bool false) from hO.cell 7 rfl 4 (rfl))
  have kq9_8_0 := cell_regrown (show W22.cell? ⟨nd19, 0, none⟩ = some (.iface 55 (.pointer (some ⟨B13_4, 0, none⟩))) from hO.cell 8 rfl 0 (rfl))
  have kq9_8_1 := cell_regrown (show W22.cell? ⟨nd19, 1, none⟩ = some (.int .i32 ll) from hO.cell 8 rfl 1 (rfl))
  have kq9_8_2 := cell_regrown (show W22.cell? ⟨nd19, 2, none⟩ = some (.iface 36 (.pointer (some ⟨B13_8, 0, none⟩))) from hO.cell 8 rfl 2 (rfl))
  have kq9_8_3 := cell_regrown (show W22.cell? ⟨nd19, 3, none⟩ = some (.int .i32 rl) from hO.cell 8 rfl 3 (rfl))
  have kq9_9_0 := cell_regrown (show W22.cell? ⟨nd20, 0, none⟩ = some (.int .u32 src) from hO.cell 9 rfl 0 (rfl))
  have kq9_9_1 := cell_regrown (show W22.cell? ⟨nd20, 1, none⟩ = some (.int .u32 (m : Int)) from hO.cell 9 rfl 1 (rfl))
  have kq9_9_2 := cell_regrown (show W22.cell? ⟨nd20, 2, none⟩ = some (.bool false) from hO.cell 9 rfl 2 (rfl))
  have kq9_9_3 := cell_regrown (show W22.cell? ⟨nd20, 3, none⟩ = some (.bool false) from hO.cell 9 rfl 3 (rfl))
  have kq9_9_4 := cell_regrown (show W22.cell? ⟨nd20, 4, none⟩ = some (.bool false) from hO.cell 9 rfl 4 (rfl))
  have kq9_11_0 := cell_regrown (show W22.cell? ⟨B13_2, 0, none⟩ = some (.int .u32 src) from hO.cell 11 rfl 0 (rfl))
  have kq9_11_1 := cell_regrown (show W22.cell? ⟨B13_2, 1, none⟩ = some (.int .u32 (m : Int)) from hO.cell 11 rfl 1 (rfl))
  have kq9_12_0 := cell_regrown (show W22.cell? ⟨B13, 0, none⟩ = some (.int .u32 src) from hO.cell 12 rfl 0 (rfl))
  have kq9_12_1 := cell_regrown (show W22.cell? ⟨B13, 1, none⟩ = some (.int .u32 (m : Int)) from hO.cell 12 rfl 1 (rfl))
  have kq9_13_0 := cell_regrown (show W22.cell? ⟨B1, 0, none⟩ = some (.int .u32 0) from hO.cell 13 rfl 0 (rfl))
  have kq9_13_1 := cell_regrown (show W22.cell? ⟨B1, 1, none⟩ = some (.int .u32 (k : Int)) from hO.cell 13 rfl 1 (rfl))
  have pl9_4 := plain_regrown (show Base.plainAt W22 (B13_4) = true from hO.plain 4 rfl)
  have pl9_7 := plain_regrown (show Base.plainAt W22 (nd18) = true from hO.plain 7 rfl)
  have pl9_9 := plain_regrown (show Base.plainAt W22 (nd20) = true from hO.plain 9 rfl)
  have ne9_4_7 : ¬ B13_4 = nd18 := hO.ne 4 7 rfl rfl (by decide)
  have ne9_4_9 : ¬ B13_4 = nd20 := hO.ne 4 9 rfl rfl (by decide)
  have ne9_7_4 : ¬ nd18 = B13_4 := hO.ne 7 4 rfl rfl (by decide)
  have ne9_7_9 : ¬ nd18 = nd20 := hO.ne 7 9 rfl rfl (by decide)
  have ne9_9_4 : ¬ nd20 = B13_4 := hO.ne 9 4 rfl rfl (by decide)
  have ne9_9_7 : ¬ nd20 = nd18 := hO.ne 9 7 rfl rfl (by decide)
  have HO := Lib.hid hO
  clear hO
  refine wp_region_quiet_below (by kernel_rfl) (by kernel_rfl) ?_
  repeat (quiet_step (first | (go_at_call 23; exact Calls.regrown_of (identIs _ _ _ _ _ (kq9_9_0 _ _) (kq9_9_1 _ _))) | (go_at_call 20; exact Calls.regrown_of (asIdent _ _ _))))
  refine wpQuiet_nil ?_
  intro _ hw'
  obtain ⟨⟨dq, osq⟩, hw''⟩ := hw'
  subst hw''
  have hO := HO.out.step (below_regrown W22 dq osq)
  clear HO kq9_4_0 kq9_4_1 kq9_4_2 kq9_4_3 kq9_4_4 kq9_5_0 kq9_5_1 kq9_5_2 kq9_5_3 kq9_5_4 kq9_5_5 kq9_6_0 kq9_6_1 kq9_6_2 kq9_6_3 kq9_6_4 kq9_6_5 kq9_6_6 kq9_6_7 kq9_7_0 kq9_7_1 kq9_7_2 kq9_7_3 kq9_7_4 kq9_8_0 kq9_8_1 kq9_8_2 kq9_8_3 kq9_9_0 kq9_9_1 kq9_9_2 kq9_9_3 kq9_9_4 kq9_11_0 kq9_11_1 kq9_12_0 kq9_12_1 kq9_13_0 kq9_13_1 pl9_4 pl9_7 pl9_9 ne9_4_7 ne9_4_9 ne9_7_4 ne9_7_9 ne9_9_4 ne9_9_7
  generalize grow (redrawn W22 dq) osq = V23 at hO ⊢
  clear dq osq
  have c9_0_0 : V23.cell? ⟨B21_1, 0, none⟩ = some (.iface 41 (.pointer (some ⟨nd16, 0, none⟩))) := hO.cell 0 rfl 0 rfl
  have c9_0_1 : V23.cell? ⟨B21_1, 1, none⟩ = some (.int .i32 ll) := hO.cell 0 rfl 1 rfl
  have lt9_0 : B21_1 < V23.heap.size := hO.lt 0 rfl
  have y9_0 : ∀ o, V23.frozen? ⟨B21_1, o, none⟩ = false := hO.free 0 rfl
  have c9_1_0 : V23.cell? ⟨B21, 0, none⟩ = some (.iface 41 (.pointer (some ⟨nd16, 0, none⟩))) := hO.cell 1 rfl 0 rfl
  have c9_1_1 : V23.cell? ⟨B21, 1, none⟩ = some (.int .i32 ll) := hO.cell 1 rfl 1 rfl
  have lt9_1 : B21 < V23.heap.size := hO.lt 1 rfl
  have y9_1 : ∀ o, V23.frozen? ⟨B21, o, none⟩ = false := hO.free 1 rfl
  have c9_4_0 : V23.cell? ⟨B13_4, 0, none⟩ = some (.int .u32 src) := hO.cell 4 rfl 0 rfl
  have c9_4_1 : V23.cell? ⟨B13_4, 1, none⟩ = some (.int .u32 (m : Int)) := hO.cell 4 rfl 1 rfl
  have c9_4_2 : V23.cell? ⟨B13_4, 2, none⟩ = some (.bool false) := hO.cell 4 rfl 2 rfl
  have c9_4_3 : V23.cell? ⟨B13_4, 3, none⟩ = some (.bool false) := hO.cell 4 rfl 3 rfl
  have c9_4_4 : V23.cell? ⟨B13_4, 4, none⟩ = some (.bool false) := hO.cell 4 rfl 4 rfl
  have lt9_4 : B13_4 < V23.heap.size := hO.lt 4 rfl
  have y9_4 : ∀ o, V23.frozen? ⟨B13_4, o, none⟩ = false := hO.free 4 rfl
  have c9_5_0 : V23.cell? ⟨nd16, 0, none⟩ = some (.iface 55 (.pointer (some ⟨nd20, 0, none⟩))) := hO.cell 5 rfl 0 rfl
  have c9_5_1 : V23.cell? ⟨nd16, 1, none⟩ = some (.int .i32 ll) := hO.cell 5 rfl 1 rfl
  have c9_5_2 : V23.cell? ⟨nd16, 2, none⟩ = some (.iface 72 (.pointer (some ⟨nd17, 0, none⟩))) := hO.cell 5 rfl 2 rfl
  have c9_5_3 : V23.cell? ⟨nd16, 3, none⟩ = some (.int .i32 loc) := hO.cell 5 rfl 3 rfl
  have c9_5_4 : V23.cell? ⟨nd16, 4, none⟩ = some (.int .u8 37) := hO.cell 5 rfl 4 rfl
  have c9_5_5 : V23.cell? ⟨nd16, 5, none⟩ = some (.bool false) := hO.cell 5 rfl 5 rfl
  have lt9_5 : nd16 < V23.heap.size := hO.lt 5 rfl
  have y9_5 : ∀ o, V23.frozen? ⟨nd16, o, none⟩ = false := hO.free 5 rfl
  have c9_6_0 : V23.cell? ⟨nd17, 0, none⟩ = some (.iface 55 (.pointer (some ⟨nd18, 0, none⟩))) := hO.cell 6 rfl 0 rfl
  have c9_6_1 : V23.cell? ⟨nd17, 1, none⟩ = some (.int .i32 loc) := hO.cell 6 rfl 1 rfl
  have c9_6_2 : V23.cell? ⟨nd17, 2, none⟩ = some (.slice (some ⟨nd19, 0, none⟩) 2 2) := hO.cell 6 rfl 2 rfl
  have c9_6_3 : V23.cell? ⟨nd17, 3, none⟩ = some (.int .i32 0) := hO.cell 6 rfl 3 rfl
  have c9_6_4 : V23.cell? ⟨nd17, 4, none⟩ = some (.int .u8 0) := hO.cell 6 rfl 4 rfl
  have c9_6_5 : V23.cell? ⟨nd17, 5, none⟩ = some (.int .u8 0) := hO.cell 6 rfl 5 rfl
  have c9_6_6 : V23.cell? ⟨nd17, 6, none⟩ = some (.bool false) := hO.cell 6 rfl 6 rfl
  have c9_6_7 : V23.cell? ⟨nd17, 7, none⟩ = some (.bool false) := hO.cell 6 rfl 7 rfl
  have lt9_6 : nd17 < V23.heap.size := hO.lt 6 rfl
  have y9_6 : ∀ o, V23.frozen? ⟨nd17, o, none⟩ = false := hO.free 6 rfl
  have c9_7_0 : V23.cell? ⟨nd18, 0, none⟩ = some (.int .u32 0) := hO.cell 7 rfl 0 rfl
  have c9_7_1 : V23.cell? ⟨nd18, 1, none⟩ = some (.int .u32 (k : Int)) := hO.cell 7 rfl 1 rfl
  have c9_7_2 : V23.cell? ⟨nd18, 2, none⟩ = some (.bool false) := hO.cell 7 rfl 2 rfl
  have c9_7_3 : V23.cell? ⟨nd18, 3, none⟩ = some (.bool false) := hO.cell 7 rfl 3 rfl
  have c9_7_4 : V23.cell? ⟨nd18, 4, none⟩ = some (.bool false) := hO.cell 7 rfl 4 rfl
  have lt9_7 : nd18 < V23.heap.size := hO.lt 7 rfl
  have y9_7 : ∀ o, V23.frozen? ⟨nd18, o, none⟩ = false := hO.free 7 rfl
  have c9_8_0 : V23.cell? ⟨nd19, 0, none⟩ = some (.iface 55 (.pointer (some ⟨B13_4, 0, none⟩))) := hO.cell 8 rfl 0 rfl
  have c9_8_1 : V23.cell? ⟨nd19, 1, none⟩ = some (.int .i32 ll) := hO.cell 8 rfl 1 rfl
  have c9_8_2 : V23.cell? ⟨nd19, 2, none⟩ = some (.iface 36 (.pointer (some ⟨B13_8, 0, none⟩))) := hO.cell 8 rfl 2 rfl
  have c9_8_3 : V23.cell? ⟨nd19, 3, none⟩ = some (.int .i32 rl) := hO.cell 8 rfl 3 rfl
  have lt9_8 : nd19 < V23.heap.size := hO.lt 8 rfl
  have y9_8 : ∀ o, V23.frozen? ⟨nd19, o, none⟩ = false := hO.free 8 rfl
  have c9_9_0 : V23.cell? ⟨nd20, 0, none⟩ = some (.int .u32 src) := hO.cell 9 rfl 0 rfl
  have c9_9_1 : V23.cell? ⟨nd20, 1, none⟩ = some (.int .u32 (m : Int)) := hO.cell 9 rfl 1 rfl
  have c9_9_2 : V23.cell? ⟨nd20, 2, none⟩ = some (.bool false) := hO.cell 9 rfl 2 rfl
  have c9_9_3 : V23.cell? ⟨nd20, 3, none⟩ = some (.bool false) := hO.cell 9 rfl 3 rfl
  have c9_9_4 : V23.cell? ⟨nd20, 4, none⟩ = some (.bool false) := hO.cell 9 rfl 4 rfl
  have lt9_9 : nd20 < V23.heap.size := hO.lt 9 rfl
  have y9_9 : ∀ o, V23.frozen? ⟨nd20, o, none⟩ = false := hO.free 9 rfl
  have c9_10_0 : V23.cell? ⟨B13_8, 0, none⟩ = some (.float .f64 v) := hO.cell 10 rfl 0 rfl
  have lt9_10 : B13_8 < V23.heap.size := hO.lt 10 rfl
  have y9_10 : ∀ o, V23.frozen? ⟨B13_8, o, none⟩ = false := hO.free 10 rfl
  have c9_11_0 : V23.cell? ⟨B13_2, 0, none⟩ = some (.int .u32 src) := hO.cell 11 rfl 0 rfl
  have c9_11_1 : V23.cell? ⟨B13_2, 1, none⟩ = some (.int .u32 (m : Int)) := hO.cell 11 rfl 1 rfl
  have lt9_11 : B13_2 < V23.heap.size := hO.lt 11 rfl
  have y9_11 : ∀ o, V23.frozen? ⟨B13_2, o, none⟩ = false := hO.free 11 rfl
  have c9_12_0 : V23.cell? ⟨B13, 0, none⟩ = some (.int .u32 src) := hO.cell 12 rfl 0 rfl
  have c9_12_1 : V23.cell? ⟨B13, 1, none⟩ = some (.int .u32 (m : Int)) := hO.cell 12 rfl 1 rfl
  have lt9_12 : B13 < V23.heap.size := hO.lt 12 rfl
  have y9_12 : ∀ o, V23.frozen? ⟨B13, o, none⟩ = false := hO.free 12 rfl
  have c9_13_0 : V23.cell? ⟨B1, 0, none⟩ = some (.int .u32 0) := hO.cell 13 rfl 0 rfl
  have c9_13_1 : V23.cell? ⟨B1, 1, none⟩ = some (.int .u32 (k : Int)) := hO.cell 13 rfl 1 rfl
  have lt9_13 : B1 < V23.heap.size := hO.lt 13 rfl
  have y9_13 : ∀ o, V23.frozen? ⟨B1, o, none⟩ = false := hO.free 13 rfl
  have HO := Lib.hid hO
  clear hO
  go_wp2_with (first | (go_at_call 11; go_in) | (go_at_call 12; go_in) | (go_at_call 15; go_in) | (go_at_call 19; go_in) | (go_at_call 20; go_in) | (go_at_call 29; go_in))
  have hO := HO.out
  clear HO c9_0_0 c9_0_1 lt9_0 y9_0 c9_1_0 c9_1_1 lt9_1 y9_1 c9_4_0 c9_4_1 c9_4_2 c9_4_3 c9_4_4 lt9_4 y9_4 c9_5_0 c9_5_1 c9_5_2 c9_5_3 c9_5_4 c9_5_5 lt9_5 y9_5 c9_6_0 c9_6_1 c9_6_2 c9_6_3 c9_6_4 c9_6_5 c9_6_6 c9_6_7 lt9_6 y9_6 c9_7_0 c9_7_1 c9_7_2 c9_7_3 c9_7_4 lt9_7 y9_7 c9_8_0 c9_8_1 c9_8_2 c9_8_3 lt9_8 y9_8 c9_9_0 c9_9_1 c9_9_2 c9_9_3 c9_9_4 lt9_9 y9_9 c9_10_0 lt9_10 y9_10 c9_11_0 c9_11_1 lt9_11 y9_11 c9_12_0 c9_12_1 lt9_12 y9_12 c9_13_0 c9_13_1 lt9_13 y9_13
  generalize hW : World.alloc _ _ = W25
  have hN : Own w0 W25 [row (V23.heap.size) 34 #[.iface 72 (.pointer (some ⟨nd17, 0, none⟩)), .int .i32 loc], row (B21_1) 34 #[.iface 41 (.pointer (some ⟨nd16, 0, none⟩)), .int .i32 ll], row (B21) 34 #[.iface 41 (.pointer (some ⟨nd16, 0, none⟩)), .int .i32 ll], row (nd4) 207 nd7, row (nd5) 223 (bumped (bumped nd8 m (0 : Nat)) k (0 : Nat)), row (B13_4) 214 #[.int .u32 src, .int .u32 (m : Int), .bool false, .bool false, .bool false], row (nd16) 47 #[.iface 55 (.pointer (some ⟨nd20, 0, none⟩)), .int .i32 ll, .iface 72 (.pointer (some ⟨nd17, 0, none⟩)), .int .i32 loc, .int .u8 37, .bool false], row (nd17) 77 #[.iface 55 (.pointer (some ⟨nd18, 0, none⟩)), .int .i32 loc, .slice (some ⟨nd19, 0, none⟩) 2 2, .int .i32 0, .int .u8 0, .int .u8 0, .bool false, .bool false], row (nd18) 214 #[.int .u32 0, .int .u32 (k : Int), .bool false, .bool false, .bool false], row (nd19) 34 #[.iface 55 (.pointer (some ⟨B13_4, 0, none⟩)), .int .i32 ll, .iface 36 (.pointer (some ⟨B13_8, 0, none⟩)), .int .i32 rl], row (nd20) 214 #[.int .u32 src, .int .u32 (m : Int), .bool false, .bool false, .bool false], row (B13_8) 50 #[.float .f64 v], row (B13_2) 28 #[.int .u32 src, .int .u32 (m : Int)], row (B13) 28 #[.int .u32 src, .int .u32 (m : Int)], row (B1) 28 #[.int .u32 0, .int .u32 (k : Int)]] X := by
    rw [← hW]
    exact (hO).alloc' _ (V23.heap.size) (by simp)
  clear hW hO
  generalize V23.heap.size = B24 at hN ⊢
  have hO := hN
  clear hN
  have kq9_5_0 := cell_regrown (show W25.cell? ⟨B13_4, 0, none⟩ = some (.int .u32 src) from hO.cell 5 rfl 0 (rfl))
  have kq9_5_1 := cell_regrown (show W25.cell? ⟨B13_4, 1, none⟩ = some (.int .u32 (m : Int)) from hO.cell 5 rfl 1 (rfl))
  have kq9_5_2 := cell_regrown (show W25.cell? ⟨B13_4, 2, none⟩ = some (.bool false) from hO.cell 5 rfl 2 (rfl))
  have kq9_5_3 := cell_regrown (show W25.cell? ⟨B13_4, 3, none⟩ = some (.bool false) from hO.cell 5 rfl 3 (rfl))
  have kq9_5_4 := cell_regrown (show W25.cell? ⟨B13_4, 4, none⟩ = some (.bool false) from hO.cell 5 rfl 4 (rfl))
  have kq9_6_0 := cell_regrown (show W25.cell? ⟨nd16, 0, none⟩ = some (.iface 55 (.pointer (some ⟨nd20, 0, none⟩))) from hO.cell 6 rfl 0 (rfl))
  have kq9_6_1 := cell_regrown (show W25.cell? ⟨nd16, 1, none⟩ = some (.int .i32 ll) from hO.cell 6 rfl 1 (rfl))
  have kq9_6_2 := cell_regrown (show W25.cell? ⟨nd16, 2, none⟩ = some (.iface 72 (.pointer (some ⟨nd17, 0, none⟩))) from hO.cell 6 rfl 2 (rfl))
  have kq9_6_3 := cell_regrown (show W25.cell? ⟨nd16, 3, none⟩ = some (.int .i32 loc) from hO.cell 6 rfl 3 (rfl))
  have kq9_6_4 := cell_regrown (show W25.cell? ⟨nd16, 4, none⟩ = some (.int .u8 37) from hO.cell 6 rfl 4 (rfl))
  have kq9_6_5 := cell_regrown (show W25.cell? ⟨nd16, 5, none⟩ = some (.bool false) from hO.cell 6 rfl 5 (rfl))
  have kq9_7_0 := cell_regrown (show W25.cell? ⟨nd17, 0, none⟩ = some (.iface 55 (.pointer (some ⟨nd18, 0, none⟩))) from hO.cell 7 rfl 0 (rfl))
  have kq9_7_1 := cell_regrown (show W25.cell? ⟨nd17, 1, none⟩ = some (.int .i32 loc) from hO.cell 7 rfl 1 (rfl))
  have kq9_7_2 := cell_regrown (show W25.cell? ⟨nd17, 2, none⟩ = some (.slice (some ⟨nd19, 0, none⟩) 2 2) from hO.cell 7 rfl 2 (rfl))
  have kq9_7_3 := cell_regrown (show W25.cell? ⟨nd17, 3, none⟩ = some (.int .i32 0) from hO.cell 7 rfl 3 (rfl))
  have kq9_7_4 := cell_regrown (show W25.cell? ⟨nd17, 4, none⟩ = some (.int .u8 0) from hO.cell 7 rfl 4 (rfl))
  have kq9_7_5 := cell_regrown (show W25.cell? ⟨nd17, 5, none⟩ = some (.int .u8 0) from hO.cell 7 rfl 5 (rfl))
  have kq9_7_6 := cell_regrown (show W25.cell? ⟨nd17, 6, none⟩ = some (.bool false) from hO.cell 7 rfl 6 (rfl))
  have kq9_7_7 := cell_regrown (show W25.cell? ⟨nd17, 7, none⟩ = some (.bool false) from hO.cell 7 rfl 7 (rfl))
  have kq9_8_0 := cell_regrown (show W25.cell? ⟨nd18, 0, none⟩ = some (.int .u32 0) from hO.cell 8 rfl 0 (rfl))
  have kq9_8_1 := cell_regrown (show W25.cell? ⟨nd18, 1, none⟩ = some (.int .u32 (k : Int)) from hO.cell 8 rfl 1 (rfl))
  have kq9_8_2 := cell_regrown (show W25.cell? ⟨nd18, 2, none⟩ = some (.bool false) from hO.cell 8 rfl 2 (rfl))
  have kq9_8_3 := cell_regrown (show W25.cell? ⟨nd18, 3, none⟩ = some (.bool false) from hO.cell 8 rfl 3 (rfl))
  have kq9_8_4 := cell_regrown (show W25.cell? ⟨nd18, 4, none⟩ = some (.bool false) from hO.cell 8 rfl 4 (rfl))
  have kq9_9_0 := cell_regrown (show W25.cell? ⟨nd19, 0, none⟩ = some (.iface 55 (.pointer (some ⟨B13_4, 0, none⟩))) from hO.cell 9 rfl 0 (rfl))
  have kq9_9_1 := cell_regrown (show W25.cell? ⟨nd19, 1, none⟩ = some (.int .i32 ll) from hO.cell 9 rfl 1 (rfl))
  have kq9_9_2 := cell_regrown (show W25.cell? ⟨nd19, 2, none⟩ = some (.iface 36 (.pointer (some ⟨B13_8, 0, none⟩))) from hO.cell 9 rfl 2 (rfl))
  have kq9_9_3 := cell_regrown (show W25.cell? ⟨nd19, 3, none⟩ = some (.int .i32 rl) from hO.cell 9 rfl 3 (rfl))
  have kq9_10_0 := cell_regrown (show W25.cell? ⟨nd20, 0, none⟩ = some (.int .u32 src) from hO.cell 10 rfl 0 (rfl))
  have kq9_10_1 := cell_regrown (show W25.cell? ⟨nd20, 1, none⟩ = some (.int .u32 (m : Int)) from hO.cell 10 rfl 1 (rfl))
  have kq9_10_2 := cell_regrown (show W25.cell? ⟨nd20, 2, none⟩ = some (.bool false) from hO.cell 10 rfl 2 (rfl))
  have kq9_10_3 := cell_regrown (show W25.cell? ⟨nd20, 3, none⟩ = some (.bool false) from hO.cell 10 rfl 3 (rfl))
  have kq9_10_4 := cell_regrown (show W25.cell? ⟨nd20, 4, none⟩ = some (.bool false) from hO.cell 10 rfl 4 (rfl))
  have kq9_12_0 := cell_regrown (show W25.cell? ⟨B13_2, 0, none⟩ = some (.int .u32 src) from hO.cell 12 rfl 0 (rfl))
  have kq9_12_1 := cell_regrown (show W25.cell? ⟨B13_2, 1, none⟩ = some (.int .u32 (m : Int)) from hO.cell 12 rfl 1 (rfl))
  have kq9_13_0 := cell_regrown (show W25.cell? ⟨B13, 0, none⟩ = some (.int .u32 src) from hO.cell 13 rfl 0 (rfl))
  have kq9_13_1 := cell_regrown (show W25.cell? ⟨B13, 1, none⟩ = some (.int .u32 (m : Int)) from hO.cell 13 rfl 1 (rfl))
  have kq9_14_0 := cell_regrown (show W25.cell? ⟨B1, 0, none⟩ = some (.int .u32 0) from hO.cell 14 rfl 0 (rfl))
  have kq9_14_1 := cell_regrown (show W25.cell? ⟨B1, 1, none⟩ = some (.int .u32 (k : Int)) from hO.cell 14 rfl 1 (rfl))
  have pl9_5 := plain_regrown (show Base.plainAt W25 (B13_4) = true from hO.plain 5 rfl)
  have pl9_8 := plain_regrown (show Base.plainAt W25 (nd18) = true from hO.plain 8 rfl)
  have pl9_10 := plain_regrown (show Base.plainAt W25 (nd20) = true from hO.plain 10 rfl)
  have ne9_5_8 : ¬ B13_4 = nd18 := hO.ne 5 8 rfl rfl (by decide)
  have ne9_5_10 : ¬ B13_4 = nd20 := hO.ne 5 10 rfl rfl (by decide)
  have ne9_8_5 : ¬ nd18 = B13_4 := hO.ne 8 5 rfl rfl (by decide)
  have ne9_8_10 : ¬ nd18 = nd20 := hO.ne 8 10 rfl rfl (by decide)
  have ne9_10_5 : ¬ nd20 = B13_4 := hO.ne 10 5 rfl rfl (by decide)
  have ne9_10_8 : ¬ nd20 = nd18 := hO.ne 10 8 rfl rfl (by decide)
  have HO := Lib.hid hO
  clear hO
  refine wp_region_quiet_below (by kernel_rfl) (by kernel_rfl) ?_
  repeat (quiet_step (first | (go_at_call 23; exact Calls.regrown_of (identIs _ _ _ _ _ (kq9_8_0 _ _) (kq9_8_1 _ _))) | (go_at_call 20; exact Calls.regrown_of (asIdent _ _ _))))
  refine wpQuiet_nil ?_
  intro _ hw'
  obtain ⟨⟨dq, osq⟩, hw''⟩ := hw'
  subst hw''
  have hO := HO.out.step (below_regrown W25 dq osq)
  clear HO kq9_5_0 kq9_5_1 kq9_5_2 kq9_5_3 kq9_5_4 kq9_6_0 kq9_6_1 kq9_6_2 kq9_6_3 kq9_6_4 kq9_6_5 kq9_7_0 kq9_7_1 kq9_7_2 kq9_7_3 kq9_7_4 kq9_7_5 kq9_7_6 kq9_7_7 kq9_8_0 kq9_8_1 kq9_8_2 kq9_8_3 kq9_8_4 kq9_9_0 kq9_9_1 kq9_9_2 kq9_9_3 kq9_10_0 kq9_10_1 kq9_10_2 kq9_10_3 kq9_10_4 kq9_12_0 kq9_12_1 kq9_13_0 kq9_13_1 kq9_14_0 kq9_14_1 pl9_5 pl9_8 pl9_10 ne9_5_8 ne9_5_10 ne9_8_5 ne9_8_10 ne9_10_5 ne9_10_8
  generalize grow (redrawn W25 dq) osq = V26 at hO ⊢
  clear dq osq
  have pl9_0 : Base.plainAt V26 (B24) = true := hO.plain 0 rfl
  have pl9_1 : Base.plainAt V26 (B21_1) = true := hO.plain 1 rfl
  have pl9_2 : Base.plainAt V26 (B21) = true := hO.plain 2 rfl
  have pl9_3 : Base.plainAt V26 (nd4) = true := hO.plain 3 rfl
  have pl9_4 : Base.plainAt V26 (nd5) = true := hO.plain 4 rfl
  have pl9_5 : Base.plainAt V26 (B13_4) = true := hO.plain 5 rfl
  have pl9_6 : Base.plainAt V26 (nd16) = true := hO.plain 6 rfl
  have pl9_7 : Base.plainAt V26 (nd17) = true := hO.plain 7 rfl
  have pl9_8 : Base.plainAt V26 (nd18) = true := hO.plain 8 rfl
  have pl9_9 : Base.plainAt V26 (nd19) = true := hO.plain 9 rfl
  have pl9_10 : Base.plainAt V26 (nd20) = true := hO.plain 10 rfl
  have pl9_11 : Base.plainAt V26 (B13_8) = true := hO.plain 11 rfl
  have pl9_12 : Base.plainAt V26 (B13_2) = true := hO.plain 12 rfl
  have pl9_13 : Base.plainAt V26 (B13) = true := hO.plain 13 rfl
  have pl9_14 : Base.plainAt V26 (B1) = true := hO.plain 14 rfl
  have ne9_0_1 : ¬ B24 = B21_1 := hO.ne 0 1 rfl rfl (by decide)
  have ne9_0_2 : ¬ B24 = B21 := hO.ne 0 2 rfl rfl (by decide)
  have ne9_0_9 : ¬ B24 = nd19 := hO.ne 0 9 rfl rfl (by decide)
  have ne9_1_0 : ¬ B21_1 = B24 := hO.ne 1 0 rfl rfl (by decide)
  have ne9_1_2 : ¬ B21_1 = B21 := hO.ne 1 2 rfl rfl (by decide)
  have ne9_1_9 : ¬ B21_1 = nd19 := hO.ne 1 9 rfl rfl (by decide)
  have ne9_2_0 : ¬ B21 = B24 := hO.ne 2 0 rfl rfl (by decide)
  have ne9_2_1 : ¬ B21 = B21_1 := hO.ne 2 1 rfl rfl (by decide)
  have ne9_2_9 : ¬ B21 = nd19 := hO.ne 2 9 rfl rfl (by decide)
  have ne9_5_8 : ¬ B13_4 = nd18 := hO.ne 5 8 rfl rfl (by decide)
  have ne9_5_10 : ¬ B13_4 = nd20 := hO.ne 5 10 rfl rfl (by decide)
  have ne9_8_5 : ¬ nd18 = B13_4 := hO.ne 8 5 rfl rfl (by decide)
  have ne9_8_10 : ¬ nd18 = nd20 := hO.ne 8 10 rfl rfl (by decide)
  have ne9_9_0 : ¬ nd19 = B24 := hO.ne 9 0 rfl rfl (by decide)
  have ne9_9_1 : ¬ nd19 = B21_1 := hO.ne 9 1 rfl rfl (by decide)
  have ne9_9_2 : ¬ nd19 = B21 := hO.ne 9 2 rfl rfl (by decide)
  have ne9_10_5 : ¬ nd20 = B13_4 := hO.ne 10 5 rfl rfl (by decide)
  have ne9_10_8 : ¬ nd20 = nd18 := hO.ne 10 8 rfl rfl (by decide)
  have ne9_12_13 : ¬ B13_2 = B13 := hO.ne 12 13 rfl rfl (by decide)
  have ne9_12_14 : ¬ B13_2 = B1 := hO.ne 12 14 rfl rfl (by decide)
  have ne9_13_12 : ¬ B13 = B13_2 := hO.ne 13 12 rfl rfl (by decide)
  have ne9_13_14 : ¬ B13 = B1 := hO.ne 13 14 rfl rfl (by decide)
  have ne9_14_12 : ¬ B1 = B13_2 := hO.ne 14 12 rfl rfl (by decide)
  have ne9_14_13 : ¬ B1 = B13 := hO.ne 14 13 rfl rfl (by decide)
  have c9_0_0 : V26.cell? ⟨B24, 0, none⟩ = some (.iface 72 (.pointer (some ⟨nd17, 0, none⟩))) := hO.cell 0 rfl 0 rfl
  have c9_0_1 : V26.cell? ⟨B24, 1, none⟩ = some (.int .i32 loc) := hO.cell 0 rfl 1 rfl
  have lt9_0 : B24 < V26.heap.size := hO.lt 0 rfl
  have y9_0 : ∀ o, V26.frozen? ⟨B24, o, none⟩ = false := hO.free 0 rfl
  have c9_1_0 : V26.cell? ⟨B21_1, 0, none⟩ = some (.iface 41 (.pointer (some ⟨nd16, 0, none⟩))) := hO.cell 1 rfl 0 rfl
  have c9_1_1 : V26.cell? ⟨B21_1, 1, none⟩ = some (.int .i32 ll) := hO.cell 1 rfl 1 rfl
  have lt9_1 : B21_1 < V26.heap.size := hO.lt 1 rfl
  have y9_1 : ∀ o, V26.frozen? ⟨B21_1, o, none⟩ = false := hO.free 1 rfl
  have c9_2_0 : V26.cell? ⟨B21, 0, none⟩ = some (.iface 41 (.pointer (some ⟨nd16, 0, none⟩))) := hO.cell 2 rfl 0 rfl
  have c9_2_1 : V26.cell? ⟨B21, 1, none⟩ = some (.int .i32 ll) := hO.cell 2 rfl 1 rfl
  have lt9_2 : B21 < V26.heap.size := hO.lt 2 rfl
  have y9_2 : ∀ o, V26.frozen? ⟨B21, o, none⟩ = false := hO.free 2 rfl
  have c9_5_0 : V26.cell? ⟨B13_4, 0, none⟩ = some (.int .u32 src) := hO.cell 5 rfl 0 rfl
  have c9_5_1 : V26.cell? ⟨B13_4, 1, none⟩ = some (.int .u32 (m : Int)) := hO.cell 5 rfl 1 rfl
  have c9_5_2 : V26.cell? ⟨B13_4, 2, none⟩ = some (.bool false) := hO.cell 5 rfl 2 rfl
  have c9_5_3 : V26.cell? ⟨B13_4, 3, none⟩ = some (.bool false) := hO.cell 5 rfl 3 rfl
  have c9_5_4 : V26.cell? ⟨B13_4, 4, none⟩ = some (.bool false) := hO.cell 5 rfl 4 rfl
  have lt9_5 : B13_4 < V26.heap.size := hO.lt 5 rfl
  have y9_5 : ∀ o, V26.frozen? ⟨B13_4, o, none⟩ = false := hO.free 5 rfl
  have c9_6_0 : V26.cell? ⟨nd16, 0, none⟩ = some (.iface 55 (.pointer (some ⟨nd20, 0, none⟩))) := hO.cell 6 rfl 0 rfl
  have c9_6_1 : V26.cell? ⟨nd16, 1, none⟩ = some (.int .i32 ll) := hO.cell 6 rfl 1 rfl
  have c9_6_2 : V26.cell? ⟨nd16, 2, none⟩ = some (.iface 72 (.pointer (some ⟨nd17, 0, none⟩))) := hO.cell 6 rfl 2 rfl
  have c9_6_3 : V26.cell? ⟨nd16, 3, none⟩ = some (.int .i32 loc) := hO.cell 6 rfl 3 rfl
  have c9_6_4 : V26.cell? ⟨nd16, 4, none⟩ = some (.int .u8 37) := hO.cell 6 rfl 4 rfl
  have c9_6_5 : V26.cell? ⟨nd16, 5, none⟩ = some (.bool false) := hO.cell 6 rfl 5 rfl
  have lt9_6 : nd16 < V26.heap.size := hO.lt 6 rfl
  have y9_6 : ∀ o, V26.frozen? ⟨nd16, o, none⟩ = false := hO.free 6 rfl
  have c9_7_0 : V26.cell? ⟨nd17, 0, none⟩ = some (.iface 55 (.pointer (some ⟨nd18, 0, none⟩))) := hO.cell 7 rfl 0 rfl
  have c9_7_1 : V26.cell? ⟨nd17, 1, none⟩ = some (.int .i32 loc) := hO.cell 7 rfl 1 rfl
  have c9_7_2 : V26.cell? ⟨nd17, 2, none⟩ = some (.slice (some ⟨nd19, 0, none⟩) 2 2) := hO.cell 7 rfl 2 rfl
  have c9_7_3 : V26.cell? ⟨nd17, 3, none⟩ = some (.int .i32 0) := hO.cell 7 rfl 3 rfl
  have c9_7_4 : V26.cell? ⟨nd17, 4, none⟩ = some (.int .u8 0) := hO.cell 7 rfl 4 rfl
  have c9_7_5 : V26.cell? ⟨nd17, 5, none⟩ = some (.int .u8 0) := hO.cell 7 rfl 5 rfl
  have c9_7_6 : V26.cell? ⟨nd17, 6, none⟩ = some (.bool false) := hO.cell 7 rfl 6 rfl
  have c9_7_7 : V26.cell? ⟨nd17, 7, none⟩ = some (.bool false) := hO.cell 7 rfl 7 rfl
  have lt9_7 : nd17 < V26.heap.size := hO.lt 7 rfl
  have y9_7 : ∀ o, V26.frozen? ⟨nd17, o, none⟩ = false := hO.free 7 rfl
  have c9_8_0 : V26.cell? ⟨nd18, 0, none⟩ = some (.int .u32 0) := hO.cell 8 rfl 0 rfl
  have c9_8_1 : V26.cell? ⟨nd18, 1, none⟩ = some (.int .u32 (k : Int)) := hO.cell 8 rfl 1 rfl
  have c9_8_2 : V26.cell? ⟨nd18, 2, none⟩ = some (.bool false) := hO.cell 8 rfl 2 rfl
  have c9_8_3 : V26.cell? ⟨nd18, 3, none⟩ = some (.bool false) := hO.cell 8 rfl 3 rfl
  have c9_8_4 : V26.cell? ⟨nd18, 4, none⟩ = some (.bool false) := hO.cell 8 rfl 4 rfl
  have lt9_8 : nd18 < V26.heap.size := hO.lt 8 rfl
  have y9_8 : ∀ o, V26.frozen? ⟨nd18, o, none⟩ = false := hO.free 8 rfl
  have c9_9_0 : V26.cell? ⟨nd19, 0, none⟩ = some (.iface 55 (.pointer (some ⟨B13_4, 0, none⟩))) := hO.cell 9 rfl 0 rfl
  have c9_9_1 : V26.cell? ⟨nd19, 1, none⟩ = some (.int .i32 ll) := hO.cell 9 rfl 1 rfl
  have c9_9_2 : V26.cell? ⟨nd19, 2, none⟩ = some (.iface 36 (.pointer (some ⟨B13_8, 0, none⟩))) := hO.cell 9 rfl 2 rfl
  have c9_9_3 : V26.cell? ⟨nd19, 3, none⟩ = some (.int .i32 rl) := hO.cell 9 rfl 3 rfl
  have lt9_9 : nd19 < V26.heap.size := hO.lt 9 rfl
  have y9_9 : ∀ o, V26.frozen? ⟨nd19, o, none⟩ = false := hO.free 9 rfl
  have c9_10_0 : V26.cell? ⟨nd20, 0, none⟩ = some (.int .u32 src) := hO.cell 10 rfl 0 rfl
  have c9_10_1 : V26.cell? ⟨nd20, 1, none⟩ = some (.int .u32 (m : Int)) := hO.cell 10 rfl 1 rfl
  have c9_10_2 : V26.cell? ⟨nd20, 2, none⟩ = some (.bool false) := hO.cell 10 rfl 2 rfl
  have c9_10_3 : V26.cell? ⟨nd20, 3, none⟩ = some (.bool false) := hO.cell 10 rfl 3 rfl
  have c9_10_4 : V26.cell? ⟨nd20, 4, none⟩ = some (.bool false) := hO.cell 10 rfl 4 rfl
  have lt9_10 : nd20 < V26.heap.size := hO.lt 10 rfl
  have y9_10 : ∀ o, V26.frozen? ⟨nd20, o, none⟩ = false := hO.free 10 rfl
  have c9_11_0 : V26.cell? ⟨B13_8, 0, none⟩ = some (.float .f64 v) := hO.cell 11 rfl 0 rfl
  have lt9_11 : B13_8 < V26.heap.size := hO.lt 11 rfl
  have y9_11 : ∀ o, V26.frozen? ⟨B13_8, o, none⟩ = false := hO.free 11 rfl
  have c9_12_0 : V26.cell? ⟨B13_2, 0, none⟩ = some (.int .u32 src) := hO.cell 12 rfl 0 rfl
  have c9_12_1 : V26.cell? ⟨B13_2, 1, none⟩ = some (.int .u32 (m : Int)) := hO.cell 12 rfl 1 rfl
  have lt9_12 : B13_2 < V26.heap.size := hO.lt 12 rfl
  have y9_12 : ∀ o, V26.frozen? ⟨B13_2, o, none⟩ = false := hO.free 12 rfl
  have c9_13_0 : V26.cell? ⟨B13, 0, none⟩ = some (.int .u32 src) := hO.cell 13 rfl 0 rfl
  have c9_13_1 : V26.cell? ⟨B13, 1, none⟩ = some (.int .u32 (m : Int)) := hO.cell 13 rfl 1 rfl
  have lt9_13 : B13 < V26.heap.size := hO.lt 13 rfl
  have y9_13 : ∀ o, V26.frozen? ⟨B13, o, none⟩ = false := hO.free 13 rfl
  have c9_14_0 : V26.cell? ⟨B1, 0, none⟩ = some (.int .u32 0) := hO.cell 14 rfl 0 rfl
  have c9_14_1 : V26.cell? ⟨B1, 1, none⟩ = some (.int .u32 (k : Int)) := hO.cell 14 rfl 1 rfl
  have lt9_14 : B1 < V26.heap.size := hO.lt 14 rfl
  have y9_14 : ∀ o, V26.frozen? ⟨B1, o, none⟩ = false := hO.free 14 rfl
  have HO := Lib.hid hO
  clear hO
  go_wp2_with (first | (go_at_call 11; go_in) | (go_at_call 12; go_in) | (go_at_call 15; go_in) | (go_at_call 19; go_in) | (go_at_call 20; go_in) | (go_at_call 29; go_in))
  have hO := HO.out
  clear HO pl9_0 pl9_1 pl9_2 pl9_3 pl9_4 pl9_5 pl9_6 pl9_7 pl9_8 pl9_9 pl9_10 pl9_11 pl9_12 pl9_13 pl9_14 ne9_0_1 ne9_0_2 ne9_0_9 ne9_1_0 ne9_1_2 ne9_1_9 ne9_2_0 ne9_2_1 ne9_2_9 ne9_5_8 ne9_5_10 ne9_8_5 ne9_8_10 ne9_9_0 ne9_9_1 ne9_9_2 ne9_10_5 ne9_10_8 ne9_12_13 ne9_12_14 ne9_13_12 ne9_13_14 ne9_14_12 ne9_14_13 c9_0_0 c9_0_1 lt9_0 y9_0 c9_1_0 c9_1_1 lt9_1 y9_1 c9_2_0 c9_2_1 lt9_2 y9_2 c9_5_0 c9_5_1 c9_5_2 c9_5_3 c9_5_4 lt9_5 y9_5 c9_6_0 c9_6_1 c9_6_2 c9_6_3 c9_6_4 c9_6_5 lt9_6 y9_6 c9_7_0 c9_7_1 c9_7_2 c9_7_3 c9_7_4 c9_7_5 c9_7_6 c9_7_7 lt9_7 y9_7 c9_8_0 c9_8_1 c9_8_2 c9_8_3 c9_8_4 lt9_8 y9_8 c9_9_0 c9_9_1 c9_9_2 c9_9_3 lt9_9 y9_9 c9_10_0 c9_10_1 c9_10_2 c9_10_3 c9_10_4 lt9_10 y9_10 c9_11_0 lt9_11 y9_11 c9_12_0 c9_12_1 lt9_12 y9_12 c9_13_0 c9_13_1 lt9_13 y9_13 c9_14_0 c9_14_1 lt9_14 y9_14
  generalize hW : World.alloc _ _ = W28
  have hN : Own w0 W28 [row (V26.heap.size + 1) 34 #[.iface 36 (.pointer (some ⟨B13_8, 0, none⟩)), .int .i32 rl], row (V26.heap.size) 34 #[.iface 55 (.pointer (some ⟨B13_4, 0, none⟩)), .int .i32 ll], row (B24) 34 #[.iface 72 (.pointer (some ⟨nd17, 0, none⟩)), .int .i32 loc], row (B21_1) 34 #[.iface 41 (.pointer (some ⟨nd16, 0, none⟩)), .int .i32 ll], row (B21) 34 #[.iface 41 (.pointer (some ⟨nd16, 0, none⟩)), .int .i32 ll], row (nd4) 207 nd7, row (nd5) 223 (bumped (bumped nd8 m (0 : Nat)) k (0 : Nat)), row (B13_4) 214 #[.int .u32 src, .int .u32 (m : Int), .bool false, .bool false, .bool false], row (nd16) 47 #[.iface 55 (.pointer (some ⟨nd20, 0, none⟩)), .int .i32 ll, .iface 72 (.pointer (some ⟨nd17, 0, none⟩)), .int .i32 loc, .int .u8 37, .bool false], row (nd17) 77 #[.iface 55 (.pointer (some ⟨nd18, 0, none⟩)), .int .i32 loc, .slice (some ⟨nd19, 0, none⟩) 2 2, .int .i32 0, .int .u8 0, .int .u8 0, .bool false, .bool false], row (nd18) 214 #[.int .u32 0, .int .u32 (k : Int), .bool false, .bool false, .bool false], row (nd19) 34 #[.iface 55 (.pointer (some ⟨B13_4, 0, none⟩)), .int .i32 ll, .iface 36 (.pointer (some ⟨B13_8, 0, none⟩)), .int .i32 rl], row (nd20) 214 #[.int .u32 src, .int .u32 (m : Int), .bool false, .bool false, .bool false], row (B13_8) 50 #[.float .f64 v], row (B13_2) 28 #[.int .u32 src, .int .u32 (m : Int)], row (B13) 28 #[.int .u32 src, .int .u32 (m : Int)], row (B1) 28 #[.int .u32 0, .int .u32 (k : Int)]] X := by
    rw [← hW]
    exact ((hO).alloc' _ (V26.heap.size) (by simp)).alloc' _ (V26.heap.size + 1) (by simp)
  clear hW hO
  generalize V26.heap.size + 1 = B27_1 at hN ⊢
  generalize V26.heap.size = B27 at hN ⊢
  have hO := hN
  clear hN
  rw [show ((m : Int) + 1) = ((m + 1 : Nat) : Int) from rfl]
  have hN : Own w0 W28 [row (nd4) 207 nd7, row (nd5) 223 (bumped (bumped nd8 m (0 : Nat)) k (0 : Nat))] X := hO.sub [5, 6] (by decide)
  clear hO
  have hO := hN
  clear hN
  have hL := hO.apart
  have hX := hO.apartX
  have HL := Lib.hid hL
  have HX := Lib.hid hX
  clear hL hX
  have hP9 := hO.pick [0, 1] (by decide)
  have h9_hn : (m + 1 : Nat) ≤ 65537 := (by omega)
  have h9_hu : ∀ i, i < (m + 1 : Nat) → (bump (bump (fun _ => 0) m) k) i ≤ 4294967295 := (le2 _ _ _)
  have h9_ht : ((l131.sumTo (bump (bump (fun _ => 0) m) k) (m + 1 : Nat) : Nat) : Int) = 2 := (by rw [sum2 (by omega) (by omega)]; rfl)
  have T9 := totalO nd4 nd5 (m + 1 : Nat) nd7 (bumped (bumped nd8 m (0 : Nat)) k (0 : Nat)) (bump (bump (fun _ => 0) m) k) 2 _ _ _ hP9 pr9 h9_hn HC2.out h9_hu h9_ht
  refine Calls.mono T9 ?_
  clear hP9 T9 h9_hn h9_hu h9_ht
  rintro e u29 ⟨rfl, hQ⟩
  have hN : Own w0 u29 [row (nd4) 207 nd7, row (nd5) 223 (bumped (bumped nd8 m (0 : Nat)) k (0 : Nat))] X := hQ.back HL.out HX.out [] (by decide) (by decide)
  clear hQ HL HX hO
  have hO := hN
  clear hN
  have hmk9 : ((m : Int) == (k : Int)) = false := beq_eq_false_iff_ne.2 (by omega)
  go_wp2_with fail
  have hL := hO.apart
  have hX := hO.apartX
  have HL := Lib.hid hL
  have HX := Lib.hid hX
  clear hL hX
  have hP9 := hO.pick [0, 1] (by decide)
  have h9_hn : (m + 1 : Nat) ≤ 65537 := (by omega)
  have h9_hi : m < (m + 1 : Nat) := (by omega)
  have h9_ht : (((bump (bump (fun _ => 0) m) k) m : Nat) : Int) = 1 := (by rw [two_l (by omega)]; rfl)
  have T9 := useCountO nd4 nd5 (m + 1 : Nat) nd7 (bumped (bumped nd8 m (0 : Nat)) k (0 : Nat)) (bump (bump (fun _ => 0) m) k) m 1 _ _ _ hP9 pr9 h9_hn h9_hi HC2.out h9_ht
  refine Calls.mono T9 ?_
  clear hP9 T9 h9_hn h9_hi h9_ht
  rintro e u30 ⟨rfl, hQ⟩
  have hN : Own w0 u30 [row (nd4) 207 nd7, row (nd5) 223 (bumped (bumped nd8 m (0 : Nat)) k (0 : Nat))] X := hQ.back HL.out HX.out [] (by decide) (by decide)
  clear hQ HL HX hO
  have hO := hN
  clear hN
  go_wp2_with fail
  have hL := hO.apart
  have hX := hO.apartX
  have HL := Lib.hid hL
  have HX := Lib.hid hX
  clear hL hX
  have hP9 := hO.pick [0, 1] (by decide)
  have h9_hn : (m + 1 : Nat) ≤ 65537 := (by omega)
  have h9_hi : k < (m + 1 : Nat) := (by omega)
  have h9_ht : (((bump (bump (fun _ => 0) m) k) k : Nat) : Int) = 1 := (by rw [two_r (by omega)]; rfl)
  have T9 := useCountO nd4 nd5 (m + 1 : Nat) nd7 (bumped (bumped nd8 m (0 : Nat)) k (0 : Nat)) (bump (bump (fun _ => 0) m) k) k 1 _ _ _ hP9 pr9 h9_hn h9_hi HC2.out h9_ht
  refine Calls.mono T9 ?_
  clear hP9 T9 h9_hn h9_hi h9_ht
  rintro e u31 ⟨rfl, hQ⟩
  have hN : Own w0 u31 [row (nd4) 207 nd7, row (nd5) 223 (bumped (bumped nd8 m (0 : Nat)) k (0 : Nat))] X := hQ.back HL.out HX.out [] (by decide) (by decide)
  clear hQ HL HX hO
  have hO := hN
  clear hN
  go_wp2_with fail
  refine bodyPost_ret (v := .bool true) ?_ rfl ⟨rfl, hO.sub [] (by decide)⟩
  simp [results, Tryd.results7, go_sem]
end Go.Proofs.YtlgefnjkoklboaaDoor.Use
