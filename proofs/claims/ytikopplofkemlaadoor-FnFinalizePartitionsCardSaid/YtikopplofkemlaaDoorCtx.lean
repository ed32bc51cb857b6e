/- The context of using declarations, made. No condition. -/
import Derived.Test.YtikopplofkemlaaDoorUmp
import Derived.Test.YtikopplofkemlaaDoorLive
import Derived.Test.YtikopplofkemlaaDoorLoop
import Derived.Test.YtikopplofkemlaaDoorUms
import Derived.Test.YtikopplofkemlaaDoorAppL
import Derived.Test.YtikopplofkemlaaDoorApp
import Derived.Test.YtikopplofkemlaaDoorOwnK
import Derived.Test.YtikopplofkemlaaDoorOwn
import Derived.Test.YtikopplofkemlaaDoorDeepCells
import Derived.Test.YtikopplofkemlaaDoorRows
import Derived.Test.YtikopplofkemlaaDoorUse
namespace Go.Proofs.YtikopplofkemlaaDoor.Use
open Go.ChangeShapes Go.WideShapes Go.ChangeAt Go.RowKit Go.Sort Own
set_option linter.unusedVariables false
def newCtxIPost (pb : Nat) (PC : Array Value) (sb c : Nat) (st : List Sy) (n : Nat) (src : Int) (w0 : World) (X : Nat → Obj → Prop) (e : Ending) (w' : World) : Prop :=
  ∃ sb2 : Nat, ∃ c2 : Nat, e = .returned (.agg #[.int .i32 0, .int .u32 src, .int .u32 (n : Int), .bool false]) ∧ Own w0 w' [row (pb) 252 (PC.setIfInBounds 106 (.slice (some ⟨sb2, 0, none⟩) (n + 1) (n + 1 + c2))), row (sb2) 260 (full symZ (symL (st ++ [syk ⟨#[95, 115, 116, 97, 99, 107]⟩ 27])) c2)] X
set_option maxRecDepth 100000 in
set_option maxHeartbeats 1000000 in
theorem newCtxI (pb : Nat) (PC : Array Value) (sb c : Nat) (st : List Sy) (n : Nat) (src : Int) (w0 w : World) (X : Nat → Obj → Prop) (hO : Own w0 w [row (pb) 252 PC, row (sb) 260 (full symZ (symL st) c)] X) (hk66 : PC[66]? = some (.int .u32 src)) (hk32 : PC[32]? = some (.bool false)) (hk106 : PC[106]? = some (.slice (some ⟨sb, 0, none⟩) n (n + c))) (hn : st.length = n) (hnb : n ≤ 1000000) (hg0 : w0.cell? ⟨0, 0, none⟩ = some (.int .u32 4294967295)) (hg1 : w0.cell? ⟨0, 1, none⟩ = some (.int .u32 4294967295)) :
    Calls Tryd.prog 42 #[.pointer (some ⟨pb, 0, none⟩)] w (newCtxIPost pb PC sb c st n src w0 X) := by
  go_enter Tryd.func42, Tryd.ntmps42
  go_wp2_with (first | (with_reducible refine Own.stay (fn := Tryd.f42) ?_) | fail)
  try with_reducible refine Own.Stay.mk ?_
  generalize hW : World.alloc _ _ = W2
  have hN : Own w0 W2 [row (w.heap.size) 33 #[.int .i32 0, .int .u32 0, .int .u32 0, .bool false], row (pb) 252 PC, row (sb) 260 (full symZ (symL st) c)] X := by
    rw [← hW]
    exact (hO).alloc' _ (w.heap.size) (by simp)
  clear hW hO
  generalize w.heap.size = B1 at hN ⊢
  have hO := hN
  clear hN
  have hL := hO.apart
  have hX := hO.apartX
  have HL := Lib.hid hL
  have HX := Lib.hid hX
  clear hL hX
  have hP9 := hO.pick [1, 2] (by decide)
  have h9_hnb : n ≤ 2000000 := (by first | assumption | omega | (simp; done) | (simp; omega))
  have T9 := newSymG pb PC sb c st n src 27 ⟨#[95, 115, 116, 97, 99, 107]⟩ _ _ _ hP9 hk66 hk32 hk106 hn h9_hnb hg0 hg1
  refine Calls.mono T9 ?_
  clear hP9 T9 h9_hnb
  rintro e u3 ⟨nd4, nd5, rfl, hQ⟩
  have hN : Own w0 u3 [row (pb) 252 (PC.setIfInBounds 106 (.slice (some ⟨nd4, 0, none⟩) (n + 1) (n + 1 + nd5))), row (nd4) 260 (full symZ (symL (st ++ [syk ⟨#[95, 115, 116, 97, 99, 107]⟩ 27])) nd5), row (B1) 33 #[.int .i32 0, .int .u32 0, .int .u32 0, .bool false]] X := hQ.back HL.out HX.out [0] (by decide) (by decide)
  clear hQ HL HX hO
  have hO := hN
  clear hN
  obtain ⟨c9_2_0, c9_2_1, c9_2_2, c9_2_3, lt9_2, y9_2, -⟩ := hO.k4 2 rfl
  have HO := Lib.hid hO
  clear hO
  go_wp2_with (first | (with_reducible refine Own.stay (fn := Tryd.f42) ?_) | fail)
  try with_reducible refine Own.Stay.mk ?_
  have hO := HO.out
  clear HO c9_2_0 c9_2_1 c9_2_2 c9_2_3 lt9_2 y9_2
  generalize hW : World.setCell _ _ _ = W7
  have hN : Own w0 W7 [row (pb) 252 (PC.setIfInBounds 106 (.slice (some ⟨nd4, 0, none⟩) (n + 1) (n + 1 + nd5))), row (nd4) 260 (full symZ (symL (st ++ [syk ⟨#[95, 115, 116, 97, 99, 107]⟩ 27])) nd5), row (B1) 33 #[.int .i32 0, .int .u32 src, .int .u32 (n : Int), .bool false]] X := by
    rw [← hW]
    exact ((((hO).set 2 rfl 0 _).set 2 rfl 1 _).set 2 rfl 2 _).set 2 rfl 3 _
  clear hW hO
  have hO := hN
  clear hN
  have z9_2_0 : W7.cell? ⟨B1, 0, none⟩ = some (.int .i32 0) := hO.cell 2 rfl 0 rfl
  have z9_2_1 : W7.cell? ⟨B1, 1, none⟩ = some (.int .u32 src) := hO.cell 2 rfl 1 rfl
  have z9_2_2 : W7.cell? ⟨B1, 2, none⟩ = some (.int .u32 (n : Int)) := hO.cell 2 rfl 2 rfl
  have z9_2_3 : W7.cell? ⟨B1, 3, none⟩ = some (.bool false) := hO.cell 2 rfl 3 rfl
  refine bodyPost_ret (v := .agg #[.int .i32 0, .int .u32 src, .int .u32 (n : Int), .bool false]) ?_ rfl ⟨nd4, nd5, rfl, hO.sub [0, 1] (by decide)⟩
  simp [results, Tryd.results42, go_sem, z9_2_0, z9_2_1, z9_2_2, z9_2_3]
def newCtxPost (pb : Nat) (PC : Array Value) (sb c : Nat) (st : List Sy) (n : Nat) (src : Int) (w0 : World) (X : Nat → Obj → Prop) (e : Ending) (w' : World) : Prop :=
  ∃ sb2 : Nat, ∃ c2 : Nat, e = .returned (.agg #[.int .i32 0, .int .u32 src, .int .u32 (n : Int), .bool false]) ∧ Own w0 w' [row (pb) 252 (PC.setIfInBounds 106 (.slice (some ⟨sb2, 0, none⟩) (n + 1) (n + 1 + c2))), row (sb2) 260 (full symZ (symL (st ++ [syk ⟨#[95, 115, 116, 97, 99, 107]⟩ 27])) c2)] X
set_option maxRecDepth 100000 in
set_option maxHeartbeats 1000000 in
theorem newCtx (pb : Nat) (PC : Array Value) (sb c : Nat) (st : List Sy) (n : Nat) (src : Int) (w0 w : World) (X : Nat → Obj → Prop) (hO : Own w0 w [row (pb) 252 PC, row (sb) 260 (full symZ (symL st) c)] X) (hk66 : PC[66]? = some (.int .u32 src)) (hk32 : PC[32]? = some (.bool false)) (hk106 : PC[106]? = some (.slice (some ⟨sb, 0, none⟩) n (n + c))) (hn : st.length = n) (hnb : n ≤ 1000000) (hg0 : w0.cell? ⟨0, 0, none⟩ = some (.int .u32 4294967295)) (hg1 : w0.cell? ⟨0, 1, none⟩ = some (.int .u32 4294967295)) :
    Calls Tryd.prog 36 #[.pointer (some ⟨pb, 0, none⟩)] w (newCtxPost pb PC sb c st n src w0 X) := by
  go_enter Tryd.func36, Tryd.ntmps36
  go_wp2_with (first | (with_reducible refine Own.stay (fn := Tryd.f36) ?_) | fail)
  try with_reducible refine Own.Stay.mk ?_
  generalize hW : World.alloc _ _ = W2
  have hN : Own w0 W2 [row (w.heap.size) 33 #[.int .i32 0, .int .u32 0, .int .u32 0, .bool false], row (pb) 252 PC, row (sb) 260 (full symZ (symL st) c)] X := by
    rw [← hW]
    exact (hO).alloc' _ (w.heap.size) (by simp)
  clear hW hO
  generalize w.heap.size = B1 at hN ⊢
  have hO := hN
  clear hN
  have hL := hO.apart
  have hX := hO.apartX
  have HL := Lib.hid hL
  have HX := Lib.hid hX
  clear hL hX
  have hP9 := hO.pick [1, 2] (by decide)
  have T9 := newCtxI pb PC sb c st n src _ _ _ hP9 hk66 hk32 hk106 hn hnb hg0 hg1
  refine Calls.mono T9 ?_
  clear hP9 T9
  rintro e u3 ⟨nd4, nd5, rfl, hQ⟩
  have hN : Own w0 u3 [row (pb) 252 (PC.setIfInBounds 106 (.slice (some ⟨nd4, 0, none⟩) (n + 1) (n + 1 + nd5))), row (nd4) 260 (full symZ (symL (st ++ [syk ⟨#[95, 115, 116, 97, 99, 107]⟩ 27])) nd5), row (B1) 33 #[.int .i32 0, .int .u32 0, .int .u32 0, .bool false]] X := hQ.back HL.out HX.out [0] (by decide) (by decide)
  clear hQ HL HX hO
  have hO := hN
  clear hN
  obtain ⟨c9_2_0, c9_2_1, c9_2_2, c9_2_3, lt9_2, y9_2, -⟩ := hO.k4 2 rfl
  have HO := Lib.hid hO
  clear hO
  go_wp2_with (first | (with_reducible refine Own.stay (fn := Tryd.f36) ?_) | fail)
  try with_reducible refine Own.Stay.mk ?_
  have hO := HO.out
  clear HO c9_2_0 c9_2_1 c9_2_2 c9_2_3 lt9_2 y9_2
  generalize hW : World.setCell _ _ _ = W7
  have hN : Own w0 W7 [row (pb) 252 (PC.setIfInBounds 106 (.slice (some ⟨nd4, 0, none⟩) (n + 1) (n + 1 + nd5))), row (nd4) 260 (full symZ (symL (st ++ [syk ⟨#[95, 115, 116, 97, 99, 107]⟩ 27])) nd5), row (B1) 33 #[.int .i32 0, .int .u32 src, .int .u32 (n : Int), .bool false]] X := by
    rw [← hW]
    exact ((((hO).set 2 rfl 0 _).set 2 rfl 1 _).set 2 rfl 2 _).set 2 rfl 3 _
  clear hW hO
  have hO := hN
  clear hN
  have z9_2_0 : W7.cell? ⟨B1, 0, none⟩ = some (.int .i32 0) := hO.cell 2 rfl 0 rfl
  have z9_2_1 : W7.cell? ⟨B1, 1, none⟩ = some (.int .u32 src) := hO.cell 2 rfl 1 rfl
  have z9_2_2 : W7.cell? ⟨B1, 2, none⟩ = some (.int .u32 (n : Int)) := hO.cell 2 rfl 2 rfl
  have z9_2_3 : W7.cell? ⟨B1, 3, none⟩ = some (.bool false) := hO.cell 2 rfl 3 rfl
  refine bodyPost_ret (v := .agg #[.int .i32 0, .int .u32 src, .int .u32 (n : Int), .bool false]) ?_ rfl ⟨nd4, nd5, rfl, hO.sub [0, 1] (by decide)⟩
  simp [results, Tryd.results36, go_sem, z9_2_0, z9_2_1, z9_2_2, z9_2_3]
end Go.Proofs.YtikopplofkemlaaDoor.Use
