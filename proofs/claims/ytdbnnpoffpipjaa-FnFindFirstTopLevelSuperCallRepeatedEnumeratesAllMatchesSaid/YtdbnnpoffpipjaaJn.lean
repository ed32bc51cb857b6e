/- Two trees joined by a comma. No condition. -/
import Derived.Test.YtdbnnpoffpipjaaTre
import Derived.Test.YtdbnnpoffpipjaaLoop
import Derived.Test.YtdbnnpoffpipjaaAppL
import Derived.Test.YtdbnnpoffpipjaaApp
import Derived.Test.YtdbnnpoffpipjaaOwnK
import Derived.Test.YtdbnnpoffpipjaaOwn
import Derived.Test.YtdbnnpoffpipjaaDeepCells
import Derived.Test.YtdbnnpoffpipjaaRows
namespace Go.Proofs.Ytdbnnpoffpipjaa.Use
open Go.ChangeShapes Go.WideShapes Go.ChangeAt Go.RowKit Go.Sort Own
set_option linter.unusedVariables false
def joinI0Post (ty : TypeId) (v : Value) (y x : Int) (w0 : World) (X : Nat → Obj → Prop) (e : Ending) (w' : World) : Prop :=
  e = .returned (.agg #[.iface ty v, .int .i32 y]) ∧ Own w0 w' [] X
set_option maxRecDepth 100000 in
set_option maxHeartbeats 1000000 in
theorem joinI0 (ty : TypeId) (v : Value) (y x : Int) (w0 w : World) (X : Nat → Obj → Prop) (hO : Own w0 w [] X)  :
    Calls Try.prog 20 #[.agg #[.nilIface, .int .i32 x], .agg #[.iface ty v, .int .i32 y]] w (joinI0Post ty v y x w0 X) := by
  go_enter Try.func20, Try.ntmps20
  go_wp2_with (first | (with_reducible refine Own.stay (fn := Try.f20) ?_) | fail)
  try with_reducible refine Own.Stay.mk ?_
  generalize hW : World.alloc _ _ = W2
  have hN : Own w0 W2 [row (w.heap.size + 1 + 1) 35 #[.iface ty v, .int .i32 y], row (w.heap.size + 1) 35 #[.iface ty v, .int .i32 y], row (w.heap.size) 35 #[.nilIface, .int .i32 x]] X := by
    rw [← hW]
    exact (((hO).alloc' _ (w.heap.size) (by simp)).alloc' _ (w.heap.size + 1) (by simp)).alloc' _ (w.heap.size + 1 + 1) (by simp)
  clear hW hO
  generalize w.heap.size + 1 + 1 = B1_2 at hN ⊢
  generalize w.heap.size + 1 = B1_1 at hN ⊢
  generalize w.heap.size = B1 at hN ⊢
  have hO := hN
  clear hN
  have z9_0_0 : W2.cell? ⟨B1_2, 0, none⟩ = some (.iface ty v) := hO.cell 0 rfl 0 rfl
  have z9_0_1 : W2.cell? ⟨B1_2, 1, none⟩ = some (.int .i32 y) := hO.cell 0 rfl 1 rfl
  refine bodyPost_ret (v := .agg #[.iface ty v, .int .i32 y]) ?_ rfl ⟨rfl, hO.sub [] (by decide)⟩
  simp [results, Try.results20, go_sem, z9_0_0, z9_0_1]
def joinI1Post (ty : TypeId) (v : Value) (x y : Int) (w0 : World) (X : Nat → Obj → Prop) (e : Ending) (w' : World) : Prop :=
  e = .returned (.agg #[.iface ty v, .int .i32 x]) ∧ Own w0 w' [] X
set_option maxRecDepth 100000 in
set_option maxHeartbeats 1000000 in
theorem joinI1 (ty : TypeId) (v : Value) (x y : Int) (w0 w : World) (X : Nat → Obj → Prop) (hO : Own w0 w [] X)  :
    Calls Try.prog 20 #[.agg #[.iface ty v, .int .i32 x], .agg #[.nilIface, .int .i32 y]] w (joinI1Post ty v x y w0 X) := by
  go_enter Try.func20, Try.ntmps20
  go_wp2_with (first | (with_reducible refine Own.stay (fn := Try.f20) ?_) | fail)
  try with_reducible refine Own.Stay.mk ?_
  generalize hW : World.alloc _ _ = W2
  have hN : Own w0 W2 [row (w.heap.size + 1 + 1) 35 #[.iface ty v, .int .i32 x], row (w.heap.size + 1) 35 #[.nilIface, .int .i32 y], row (w.heap.size) 35 #[.iface ty v, .int .i32 x]] X := by
    rw [← hW]
    exact (((hO).alloc' _ (w.heap.size) (by simp)).alloc' _ (w.heap.size + 1) (by simp)).alloc' _ (w.heap.size + 1 + 1) (by simp)
  clear hW hO
  generalize w.heap.size + 1 + 1 = B1_2 at hN ⊢
  generalize w.heap.size + 1 = B1_1 at hN ⊢
  generalize w.heap.size = B1 at hN ⊢
  have hO := hN
  clear hN
  have z9_0_0 : W2.cell? ⟨B1_2, 0, none⟩ = some (.iface ty v) := hO.cell 0 rfl 0 rfl
  have z9_0_1 : W2.cell? ⟨B1_2, 1, none⟩ = some (.int .i32 x) := hO.cell 0 rfl 1 rfl
  refine bodyPost_ret (v := .agg #[.iface ty v, .int .i32 x]) ?_ rfl ⟨rfl, hO.sub [] (by decide)⟩
  simp [results, Try.results20, go_sem, z9_0_0, z9_0_1]
def joinI2Post (ty : TypeId) (v : Value) (x : Int) (ty2 : TypeId) (v2 : Value) (y : Int) (w0 : World) (X : Nat → Obj → Prop) (e : Ending) (w' : World) : Prop :=
  ∃ nb : Nat, e = .returned (.agg #[.iface 63 (.pointer (some ⟨nb, 0, none⟩)), .int .i32 x]) ∧ Own w0 w' [row (nb) 66 #[.iface ty v, .int .i32 x, .iface ty2 v2, .int .i32 y, .int .u8 36, .bool false]] X
set_option maxRecDepth 100000 in
set_option maxHeartbeats 1000000 in
theorem joinI2 (ty : TypeId) (v : Value) (x : Int) (ty2 : TypeId) (v2 : Value) (y : Int) (w0 w : World) (X : Nat → Obj → Prop) (hO : Own w0 w [] X)  :
    Calls Try.prog 20 #[.agg #[.iface ty v, .int .i32 x], .agg #[.iface ty2 v2, .int .i32 y]] w (joinI2Post ty v x ty2 v2 y w0 X) := by
  go_enter Try.func20, Try.ntmps20
  go_wp2_with (first | (with_reducible refine Own.stay (fn := Try.f20) ?_) | fail)
  try with_reducible refine Own.Stay.mk ?_
  generalize hW : World.alloc _ _ = W2
  have hN : Own w0 W2 [row (w.heap.size + 1 + 1 + 1) 66 #[.iface ty v, .int .i32 x, .iface ty2 v2, .int .i32 y, .int .u8 36, .bool false], row (w.heap.size + 1 + 1) 35 #[.iface 63 (.pointer (some ⟨w.heap.size + 1 + 1 + 1, 0, none⟩)), .int .i32 x], row (w.heap.size + 1) 35 #[.iface ty2 v2, .int .i32 y], row (w.heap.size) 35 #[.iface ty v, .int .i32 x]] X := by
    rw [← hW]
    exact ((((hO).alloc' _ (w.heap.size) (by simp)).alloc' _ (w.heap.size + 1) (by simp)).alloc' _ (w.heap.size + 1 + 1) (by simp)).alloc' _ (w.heap.size + 1 + 1 + 1) (by simp)
  clear hW hO
  generalize w.heap.size + 1 + 1 + 1 = B1_3 at hN ⊢
  generalize w.heap.size + 1 + 1 = B1_2 at hN ⊢
  generalize w.heap.size + 1 = B1_1 at hN ⊢
  generalize w.heap.size = B1 at hN ⊢
  have hO := hN
  clear hN
  have z9_1_0 : W2.cell? ⟨B1_2, 0, none⟩ = some (.iface 63 (.pointer (some ⟨B1_3, 0, none⟩))) := hO.cell 1 rfl 0 rfl
  have z9_1_1 : W2.cell? ⟨B1_2, 1, none⟩ = some (.int .i32 x) := hO.cell 1 rfl 1 rfl
  refine bodyPost_ret (v := .agg #[.iface 63 (.pointer (some ⟨B1_3, 0, none⟩)), .int .i32 x]) ?_ rfl ⟨B1_3, rfl, hO.sub [0] (by decide)⟩
  simp [results, Try.results20, go_sem, z9_1_0, z9_1_1]
def commaI2Post (ty : TypeId) (v : Value) (x : Int) (ty2 : TypeId) (v2 : Value) (y : Int) (w0 : World) (X : Nat → Obj → Prop) (e : Ending) (w' : World) : Prop :=
  ∃ nb : Nat, e = .returned (.agg #[.iface 63 (.pointer (some ⟨nb, 0, none⟩)), .int .i32 x]) ∧ Own w0 w' [row (nb) 66 #[.iface ty v, .int .i32 x, .iface ty2 v2, .int .i32 y, .int .u8 36, .bool false]] X
set_option maxRecDepth 100000 in
set_option maxHeartbeats 1000000 in
theorem commaI2 (ty : TypeId) (v : Value) (x : Int) (ty2 : TypeId) (v2 : Value) (y : Int) (w0 w : World) (X : Nat → Obj → Prop) (hO : Own w0 w [] X)  :
    Calls Try.prog 8 #[.agg #[.iface ty v, .int .i32 x], .agg #[.iface ty2 v2, .int .i32 y]] w (commaI2Post ty v x ty2 v2 y w0 X) := by
  go_enter Try.func8, Try.ntmps8
  go_wp2_with (first | (with_reducible refine Own.stay (fn := Try.f8) ?_) | fail)
  try with_reducible refine Own.Stay.mk ?_
  generalize hW : World.alloc _ _ = W2
  have hN : Own w0 W2 [row (w.heap.size + 1 + 1 + 1) 66 #[.iface ty v, .int .i32 x, .iface ty2 v2, .int .i32 y, .int .u8 36, .bool false], row (w.heap.size + 1 + 1) 35 #[.iface 63 (.pointer (some ⟨w.heap.size + 1 + 1 + 1, 0, none⟩)), .int .i32 x], row (w.heap.size + 1) 35 #[.iface ty2 v2, .int .i32 y], row (w.heap.size) 35 #[.iface ty v, .int .i32 x]] X := by
    rw [← hW]
    exact ((((hO).alloc' _ (w.heap.size) (by simp)).alloc' _ (w.heap.size + 1) (by simp)).alloc' _ (w.heap.size + 1 + 1) (by simp)).alloc' _ (w.heap.size + 1 + 1 + 1) (by simp)
  clear hW hO
  generalize w.heap.size + 1 + 1 + 1 = B1_3 at hN ⊢
  generalize w.heap.size + 1 + 1 = B1_2 at hN ⊢
  generalize w.heap.size + 1 = B1_1 at hN ⊢
  generalize w.heap.size = B1 at hN ⊢
  have hO := hN
  clear hN
  have z9_1_0 : W2.cell? ⟨B1_2, 0, none⟩ = some (.iface 63 (.pointer (some ⟨B1_3, 0, none⟩))) := hO.cell 1 rfl 0 rfl
  have z9_1_1 : W2.cell? ⟨B1_2, 1, none⟩ = some (.int .i32 x) := hO.cell 1 rfl 1 rfl
  refine bodyPost_ret (v := .agg #[.iface 63 (.pointer (some ⟨B1_3, 0, none⟩)), .int .i32 x]) ?_ rfl ⟨B1_3, rfl, hO.sub [0] (by decide)⟩
  simp [results, Try.results8, go_sem, z9_1_0, z9_1_1]
theorem dV_iface (D : Dat) (t : Tr) : ∃ ty v, dV D t = .iface ty v := by
  cases t with
  | leaf i =>
    show ∃ ty v, lfD D i = _
    unfold lfD
    split
    · exact ⟨_, _, rfl⟩
    · exact ⟨_, _, rfl⟩
  | node b l r => exact ⟨_, _, rfl⟩

def joinT0Post (D : Dat) (r : Tr) (w0 : World) (X : Nat → Obj → Prop) (e : Ending) (w' : World) : Prop :=
  e = .returned (.agg #[dV D r, .int .i32 (lV r)]) ∧ Own w0 w' [] X
theorem joinT0 (D : Dat) (r : Tr) (w0 w : World) (X : Nat → Obj → Prop) (hO : Own w0 w [] X)  :
    Calls Try.prog 20 #[.agg #[.nilIface, .int .i32 0], .agg #[dV D r, .int .i32 (lV r)]] w (joinT0Post D r w0 X) := by
  obtain ⟨ty, v, hv⟩ := dV_iface D r
  have h := joinI0 ty v (lV r) 0 w0 w X hO
  rw [← hv] at h
  exact h.mono fun e w' q => ⟨by rw [hv]; exact q.1, q.2⟩

def joinT1Post (D : Dat) (l : Tr) (w0 : World) (X : Nat → Obj → Prop) (e : Ending) (w' : World) : Prop :=
  e = .returned (.agg #[dV D l, .int .i32 (lV l)]) ∧ Own w0 w' [] X
theorem joinT1 (D : Dat) (l : Tr) (w0 w : World) (X : Nat → Obj → Prop) (hO : Own w0 w [] X)  :
    Calls Try.prog 20 #[.agg #[dV D l, .int .i32 (lV l)], .agg #[.nilIface, .int .i32 0]] w (joinT1Post D l w0 X) := by
  obtain ⟨ty, v, hv⟩ := dV_iface D l
  have h := joinI1 ty v (lV l) 0 w0 w X hO
  rw [← hv] at h
  exact h.mono fun e w' q => ⟨by rw [hv]; exact q.1, q.2⟩

def joinT2Post (D : Dat) (l r : Tr) (w0 : World) (X : Nat → Obj → Prop) (e : Ending) (w' : World) : Prop :=
  ∃ nb : Nat, e = .returned (.agg #[.iface 63 (.pointer (some ⟨nb, 0, none⟩)), .int .i32 (lV l)]) ∧ Own w0 w' [row (nb) 66 (binC D l r)] X
theorem joinT2 (D : Dat) (l r : Tr) (w0 w : World) (X : Nat → Obj → Prop) (hO : Own w0 w [] X)  :
    Calls Try.prog 20 #[.agg #[dV D l, .int .i32 (lV l)], .agg #[dV D r, .int .i32 (lV r)]] w (joinT2Post D l r w0 X) := by
  obtain ⟨ty, v, hv⟩ := dV_iface D l
  obtain ⟨ty2, v2, hv2⟩ := dV_iface D r
  have h := joinI2 ty v (lV l) ty2 v2 (lV r) w0 w X hO
  rw [hv, hv2]
  refine h.mono ?_
  rintro e w' ⟨nb, rfl, hQ⟩
  exact ⟨nb, rfl, hQ.conv (by unfold binC; rw [hv, hv2])⟩

def commaT2Post (D : Dat) (l r : Tr) (w0 : World) (X : Nat → Obj → Prop) (e : Ending) (w' : World) : Prop :=
  ∃ nb : Nat, e = .returned (.agg #[.iface 63 (.pointer (some ⟨nb, 0, none⟩)), .int .i32 (lV l)]) ∧ Own w0 w' [row (nb) 66 (binC D l r)] X
theorem commaT2 (D : Dat) (l r : Tr) (w0 w : World) (X : Nat → Obj → Prop) (hO : Own w0 w [] X)  :
    Calls Try.prog 8 #[.agg #[dV D l, .int .i32 (lV l)], .agg #[dV D r, .int .i32 (lV r)]] w (commaT2Post D l r w0 X) := by
  obtain ⟨ty, v, hv⟩ := dV_iface D l
  obtain ⟨ty2, v2, hv2⟩ := dV_iface D r
  have h := commaI2 ty v (lV l) ty2 v2 (lV r) w0 w X hO
  rw [hv, hv2]
  refine h.mono ?_
  rintro e w' ⟨nb, rfl, hQ⟩
  exact ⟨nb, rfl, hQ.conv (by unfold binC; rw [hv, hv2])⟩

end Go.Proofs.Ytdbnnpoffpipjaa.Use
