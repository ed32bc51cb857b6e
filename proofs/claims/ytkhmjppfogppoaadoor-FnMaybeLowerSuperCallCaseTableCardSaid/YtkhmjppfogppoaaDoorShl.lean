/- shouldLowerSuperPropertyAccess. No condition. -/
import Derived.Test.YtkhmjppfogppoaaDoorCall
import Derived.Test.YtkhmjppfogppoaaDoorLoop
import Derived.Test.YtkhmjppfogppoaaDoorLive
import Derived.Test.YtkhmjppfogppoaaDoorApp
import Derived.Test.YtkhmjppfogppoaaDoorOwnK
import Derived.Test.YtkhmjppfogppoaaDoorOwn
import Derived.Test.YtkhmjppfogppoaaDoorDeepCells
import Derived.Test.YtkhmjppfogppoaaDoorRows
import Derived.Test.YtkhmjppfogppoaaDoorUse
namespace Go.Proofs.YtkhmjppfogppoaaDoor.Use
open Go.ChangeShapes Go.WideShapes Go.ChangeAt Go.RowKit Go.Sort Own
set_option linter.unusedVariables false
def shouldYPost (pb : Nat) (PC : Array Value) (tb : Nat) (l2 : Int) (w0 : World) (X : Nat → Obj → Prop) (e : Ending) (w' : World) : Prop :=
  e = .returned (.bool true) ∧ Own w0 w' [row (pb) 193 PC] X
set_option maxRecDepth 100000 in
set_option maxHeartbeats 1000000 in
theorem shouldY (pb : Nat) (PC : Array Value) (tb : Nat) (l2 : Int) (w0 w : World) (X : Nat → Obj → Prop) (hO : Own w0 w [row (pb) 193 PC] X) (hk338 : PC[338]? = some (.bool true)) :
    Calls Tryd.prog 53 #[.pointer (some ⟨pb, 0, none⟩), .agg #[.iface 229 (.pointer (some ⟨tb, 0, none⟩)), .int .i32 l2]] w (shouldYPost pb PC tb l2 w0 X) := by
  go_enter Tryd.func53, Tryd.ntmps53
  have c9_0_338 : w.cell? ⟨pb, 338, none⟩ = some (.bool true) := hO.cell 0 rfl (338) (hk338)
  have lt9_0 : pb < w.heap.size := hO.lt 0 rfl
  have y9_0 : ∀ o, w.frozen? ⟨pb, o, none⟩ = false := hO.free 0 rfl
  have HO := Lib.hid hO
  clear hO
  go_wp2_with (first | (with_reducible refine Own.stay (fn := Tryd.f53) ?_) | fail)
  try with_reducible refine Own.Stay.mk ?_
  have hO := HO.out
  clear HO c9_0_338 lt9_0 y9_0
  generalize hW : World.alloc _ _ = W2
  have hN : Own w0 W2 [row (w.heap.size) 35 #[.iface 229 (.pointer (some ⟨tb, 0, none⟩)), .int .i32 l2], row (pb) 193 PC] X := by
    rw [← hW]
    exact (hO).alloc' _ (w.heap.size) (by simp)
  clear hW hO
  generalize w.heap.size = B1 at hN ⊢
  have hO := hN
  clear hN
  refine bodyPost_ret (v := .bool true) ?_ rfl ⟨rfl, hO.sub [1] (by decide)⟩
  simp [results, Tryd.results53, go_sem]
def shouldNPost (pb : Nat) (PC : Array Value) (tb : Nat) (l2 : Int) (w0 : World) (X : Nat → Obj → Prop) (e : Ending) (w' : World) : Prop :=
  e = .returned (.bool false) ∧ Own w0 w' [row (pb) 193 PC] X
set_option maxRecDepth 100000 in
set_option maxHeartbeats 1000000 in
theorem shouldN (pb : Nat) (PC : Array Value) (tb : Nat) (l2 : Int) (w0 w : World) (X : Nat → Obj → Prop) (hO : Own w0 w [row (pb) 193 PC] X) (hk338 : PC[338]? = some (.bool false)) :
    Calls Tryd.prog 53 #[.pointer (some ⟨pb, 0, none⟩), .agg #[.iface 229 (.pointer (some ⟨tb, 0, none⟩)), .int .i32 l2]] w (shouldNPost pb PC tb l2 w0 X) := by
  go_enter Tryd.func53, Tryd.ntmps53
  have c9_0_338 : w.cell? ⟨pb, 338, none⟩ = some (.bool false) := hO.cell 0 rfl (338) (hk338)
  have lt9_0 : pb < w.heap.size := hO.lt 0 rfl
  have y9_0 : ∀ o, w.frozen? ⟨pb, o, none⟩ = false := hO.free 0 rfl
  have HO := Lib.hid hO
  clear hO
  go_wp2_with (first | (with_reducible refine Own.stay (fn := Tryd.f53) ?_) | fail)
  try with_reducible refine Own.Stay.mk ?_
  have hO := HO.out
  clear HO c9_0_338 lt9_0 y9_0
  generalize hW : World.alloc _ _ = W2
  have hN : Own w0 W2 [row (w.heap.size) 35 #[.iface 229 (.pointer (some ⟨tb, 0, none⟩)), .int .i32 l2], row (pb) 193 PC] X := by
    rw [← hW]
    exact (hO).alloc' _ (w.heap.size) (by simp)
  clear hW hO
  generalize w.heap.size = B1 at hN ⊢
  have hO := hN
  clear hN
  refine bodyPost_ret (v := .bool false) ?_ rfl ⟨rfl, hO.sub [1] (by decide)⟩
  simp [results, Tryd.results53, go_sem]
def shouldI0Post (pb : Nat) (PC : Array Value) (tb : Nat) (l2 : Int) (w0 : World) (X : Nat → Obj → Prop) (e : Ending) (w' : World) : Prop :=
  e = .returned (.bool false) ∧ Own w0 w' [row (pb) 193 PC] X
set_option maxRecDepth 100000 in
set_option maxHeartbeats 1000000 in
theorem shouldI0 (pb : Nat) (PC : Array Value) (tb : Nat) (l2 : Int) (w0 w : World) (X : Nat → Obj → Prop) (hO : Own w0 w [row (pb) 193 PC] X) (hk338 : PC[338]? = some (.bool false)) :
    Calls Tryd.prog 53 #[.pointer (some ⟨pb, 0, none⟩), .agg #[.iface 209 (.pointer (some ⟨tb, 0, none⟩)), .int .i32 l2]] w (shouldI0Post pb PC tb l2 w0 X) := by
  go_enter Tryd.func53, Tryd.ntmps53
  have c9_0_338 : w.cell? ⟨pb, 338, none⟩ = some (.bool false) := hO.cell 0 rfl (338) (hk338)
  have lt9_0 : pb < w.heap.size := hO.lt 0 rfl
  have y9_0 : ∀ o, w.frozen? ⟨pb, o, none⟩ = false := hO.free 0 rfl
  have HO := Lib.hid hO
  clear hO
  go_wp2_with (first | (with_reducible refine Own.stay (fn := Tryd.f53) ?_) | fail)
  try with_reducible refine Own.Stay.mk ?_
  have hO := HO.out
  clear HO c9_0_338 lt9_0 y9_0
  generalize hW : World.alloc _ _ = W2
  have hN : Own w0 W2 [row (w.heap.size) 35 #[.iface 209 (.pointer (some ⟨tb, 0, none⟩)), .int .i32 l2], row (pb) 193 PC] X := by
    rw [← hW]
    exact (hO).alloc' _ (w.heap.size) (by simp)
  clear hW hO
  generalize w.heap.size = B1 at hN ⊢
  have hO := hN
  clear hN
  refine bodyPost_ret (v := .bool false) ?_ rfl ⟨rfl, hO.sub [1] (by decide)⟩
  simp [results, Tryd.results53, go_sem]
def shouldI1Post (pb : Nat) (PC : Array Value) (tb : Nat) (l2 : Int) (w0 : World) (X : Nat → Obj → Prop) (e : Ending) (w' : World) : Prop :=
  e = .returned (.bool false) ∧ Own w0 w' [row (pb) 193 PC] X
set_option maxRecDepth 100000 in
set_option maxHeartbeats 1000000 in
theorem shouldI1 (pb : Nat) (PC : Array Value) (tb : Nat) (l2 : Int) (w0 w : World) (X : Nat → Obj → Prop) (hO : Own w0 w [row (pb) 193 PC] X) (hk338 : PC[338]? = some (.bool true)) :
    Calls Tryd.prog 53 #[.pointer (some ⟨pb, 0, none⟩), .agg #[.iface 209 (.pointer (some ⟨tb, 0, none⟩)), .int .i32 l2]] w (shouldI1Post pb PC tb l2 w0 X) := by
  go_enter Tryd.func53, Tryd.ntmps53
  have c9_0_338 : w.cell? ⟨pb, 338, none⟩ = some (.bool true) := hO.cell 0 rfl (338) (hk338)
  have lt9_0 : pb < w.heap.size := hO.lt 0 rfl
  have y9_0 : ∀ o, w.frozen? ⟨pb, o, none⟩ = false := hO.free 0 rfl
  have HO := Lib.hid hO
  clear hO
  go_wp2_with (first | (with_reducible refine Own.stay (fn := Tryd.f53) ?_) | fail)
  try with_reducible refine Own.Stay.mk ?_
  have hO := HO.out
  clear HO c9_0_338 lt9_0 y9_0
  generalize hW : World.alloc _ _ = W2
  have hN : Own w0 W2 [row (w.heap.size) 35 #[.iface 209 (.pointer (some ⟨tb, 0, none⟩)), .int .i32 l2], row (pb) 193 PC] X := by
    rw [← hW]
    exact (hO).alloc' _ (w.heap.size) (by simp)
  clear hW hO
  generalize w.heap.size = B1 at hN ⊢
  have hO := hN
  clear hN
  refine bodyPost_ret (v := .bool false) ?_ rfl ⟨rfl, hO.sub [1] (by decide)⟩
  simp [results, Tryd.results53, go_sem]
def shouldIPost (pb : Nat) (PC : Array Value) (tb : Nat) (l2 : Int) (l : Bool) (w0 : World) (X : Nat → Obj → Prop) (e : Ending) (w' : World) : Prop :=
  e = .returned (.bool false) ∧ Own w0 w' [row (pb) 193 PC] X
set_option maxRecDepth 100000 in
theorem shouldI (pb : Nat) (PC : Array Value) (tb : Nat) (l2 : Int) (l : Bool) (w0 w : World) (X : Nat → Obj → Prop) (hO : Own w0 w [row (pb) 193 PC] X) (hk338 : PC[338]? = some (.bool l)) :
    Calls Tryd.prog 53 #[.pointer (some ⟨pb, 0, none⟩), .agg #[.iface 209 (.pointer (some ⟨tb, 0, none⟩)), .int .i32 l2]] w (shouldIPost pb PC tb l2 l w0 X) := by
  cases l
  · exact shouldI0 pb PC tb l2 _ _ _ hO hk338
  · exact shouldI1 pb PC tb l2 _ _ _ hO hk338

def shouldK0Post (pb : Nat) (PC : Array Value) (tb : Nat) (l2 : Int) (w0 : World) (X : Nat → Obj → Prop) (e : Ending) (w' : World) : Prop :=
  e = .returned (.bool false) ∧ Own w0 w' [row (pb) 193 PC] X
set_option maxRecDepth 100000 in
set_option maxHeartbeats 1000000 in
theorem shouldK0 (pb : Nat) (PC : Array Value) (tb : Nat) (l2 : Int) (w0 w : World) (X : Nat → Obj → Prop) (hO : Own w0 w [row (pb) 193 PC] X) (hk338 : PC[338]? = some (.bool false)) :
    Calls Tryd.prog 53 #[.pointer (some ⟨pb, 0, none⟩), .agg #[.iface 65 (.pointer (some ⟨tb, 0, none⟩)), .int .i32 l2]] w (shouldK0Post pb PC tb l2 w0 X) := by
  go_enter Tryd.func53, Tryd.ntmps53
  have c9_0_338 : w.cell? ⟨pb, 338, none⟩ = some (.bool false) := hO.cell 0 rfl (338) (hk338)
  have lt9_0 : pb < w.heap.size := hO.lt 0 rfl
  have y9_0 : ∀ o, w.frozen? ⟨pb, o, none⟩ = false := hO.free 0 rfl
  have HO := Lib.hid hO
  clear hO
  go_wp2_with (first | (with_reducible refine Own.stay (fn := Tryd.f53) ?_) | fail)
  try with_reducible refine Own.Stay.mk ?_
  have hO := HO.out
  clear HO c9_0_338 lt9_0 y9_0
  generalize hW : World.alloc _ _ = W2
  have hN : Own w0 W2 [row (w.heap.size) 35 #[.iface 65 (.pointer (some ⟨tb, 0, none⟩)), .int .i32 l2], row (pb) 193 PC] X := by
    rw [← hW]
    exact (hO).alloc' _ (w.heap.size) (by simp)
  clear hW hO
  generalize w.heap.size = B1 at hN ⊢
  have hO := hN
  clear hN
  refine bodyPost_ret (v := .bool false) ?_ rfl ⟨rfl, hO.sub [1] (by decide)⟩
  simp [results, Tryd.results53, go_sem]
def shouldK1Post (pb : Nat) (PC : Array Value) (tb : Nat) (l2 : Int) (w0 : World) (X : Nat → Obj → Prop) (e : Ending) (w' : World) : Prop :=
  e = .returned (.bool false) ∧ Own w0 w' [row (pb) 193 PC] X
set_option maxRecDepth 100000 in
set_option maxHeartbeats 1000000 in
theorem shouldK1 (pb : Nat) (PC : Array Value) (tb : Nat) (l2 : Int) (w0 w : World) (X : Nat → Obj → Prop) (hO : Own w0 w [row (pb) 193 PC] X) (hk338 : PC[338]? = some (.bool true)) :
    Calls Tryd.prog 53 #[.pointer (some ⟨pb, 0, none⟩), .agg #[.iface 65 (.pointer (some ⟨tb, 0, none⟩)), .int .i32 l2]] w (shouldK1Post pb PC tb l2 w0 X) := by
  go_enter Tryd.func53, Tryd.ntmps53
  have c9_0_338 : w.cell? ⟨pb, 338, none⟩ = some (.bool true) := hO.cell 0 rfl (338) (hk338)
  have lt9_0 : pb < w.heap.size := hO.lt 0 rfl
  have y9_0 : ∀ o, w.frozen? ⟨pb, o, none⟩ = false := hO.free 0 rfl
  have HO := Lib.hid hO
  clear hO
  go_wp2_with (first | (with_reducible refine Own.stay (fn := Tryd.f53) ?_) | fail)
  try with_reducible refine Own.Stay.mk ?_
  have hO := HO.out
  clear HO c9_0_338 lt9_0 y9_0
  generalize hW : World.alloc _ _ = W2
  have hN : Own w0 W2 [row (w.heap.size) 35 #[.iface 65 (.pointer (some ⟨tb, 0, none⟩)), .int .i32 l2], row (pb) 193 PC] X := by
    rw [← hW]
    exact (hO).alloc' _ (w.heap.size) (by simp)
  clear hW hO
  generalize w.heap.size = B1 at hN ⊢
  have hO := hN
  clear hN
  refine bodyPost_ret (v := .bool false) ?_ rfl ⟨rfl, hO.sub [1] (by decide)⟩
  simp [results, Tryd.results53, go_sem]
def shouldKPost (pb : Nat) (PC : Array Value) (tb : Nat) (l2 : Int) (l : Bool) (w0 : World) (X : Nat → Obj → Prop) (e : Ending) (w' : World) : Prop :=
  e = .returned (.bool false) ∧ Own w0 w' [row (pb) 193 PC] X
set_option maxRecDepth 100000 in
theorem shouldK (pb : Nat) (PC : Array Value) (tb : Nat) (l2 : Int) (l : Bool) (w0 w : World) (X : Nat → Obj → Prop) (hO : Own w0 w [row (pb) 193 PC] X) (hk338 : PC[338]? = some (.bool l)) :
    Calls Tryd.prog 53 #[.pointer (some ⟨pb, 0, none⟩), .agg #[.iface 65 (.pointer (some ⟨tb, 0, none⟩)), .int .i32 l2]] w (shouldKPost pb PC tb l2 l w0 X) := by
  cases l
  · exact shouldK0 pb PC tb l2 _ _ _ hO hk338
  · exact shouldK1 pb PC tb l2 _ _ _ hO hk338

end Go.Proofs.YtkhmjppfogppoaaDoor.Use
