/- zzInner, zzSameNode. No condition. -/
import Derived.Test.YtcbdjbjbikiaeaaDoorNdt
import Derived.Test.YtcbdjbjbikiaeaaDoorItm
import Derived.Test.YtcbdjbjbikiaeaaDoorOwn
import Derived.Test.YtcbdjbjbikiaeaaDoorOwnK
import Derived.Test.YtcbdjbjbikiaeaaDoorLoop
import Derived.Test.YtcbdjbjbikiaeaaDoorApp
import Derived.Test.YtcbdjbjbikiaeaaDoorDeepCells
import Derived.Test.YtcbdjbjbikiaeaaDoorRows
import Derived.Test.YtcbdjbjbikiaeaaDoorDead
namespace Go.Proofs.YtcbdjbjbikiaeaaDoor.Use
open Go.ChangeShapes Go.WideShapes Go.ChangeAt Go.RowKit Go.Sort Own
set_option linter.unusedVariables false
def innDPost (loc : Int) (b : Nat) (w0 : World) (X : Nat → Obj → Prop) (e : Ending) (w' : World) : Prop :=
  e = .returned (.agg #[.iface 40 (.pointer (some ⟨b, 0, none⟩)), .int .i32 loc]) ∧ Own w0 w' [] X
set_option maxRecDepth 100000 in
set_option maxHeartbeats 2000000 in
theorem innD (loc : Int) (b : Nat) (w0 w : World) (X : Nat → Obj → Prop) (hO : Own w0 w [] X)  :
    Calls Tryd.prog 29 #[.agg #[.iface 40 (.pointer (some ⟨b, 0, none⟩)), .int .i32 loc]] w (innDPost loc b w0 X) := by
  go_enter Tryd.func29, Tryd.ntmps29
  go_wp2_with (first | (with_reducible refine Own.stay (fn := Tryd.f29) ?_) | (first | (go_at_call 42; go_in) | (go_at_call 43; go_in)))
  try with_reducible refine Own.Stay.mk ?_
  generalize hW : World.alloc _ _ = W2
  have hN : Own w0 W2 [row (w.heap.size + 1 + 1 + 1) 30 #[.iface 40 (.pointer (some ⟨b, 0, none⟩)), .int .i32 loc], row (w.heap.size + 1 + 1) 30 #[.iface 40 (.pointer (some ⟨b, 0, none⟩)), .int .i32 loc], row (w.heap.size + 1) 30 #[.iface 40 (.pointer (some ⟨b, 0, none⟩)), .int .i32 loc], row (w.heap.size) 30 #[.iface 40 (.pointer (some ⟨b, 0, none⟩)), .int .i32 loc]] X := by
    rw [← hW]
    exact ((((hO).alloc' _ (w.heap.size) (by simp)).alloc' _ (w.heap.size + 1) (by simp)).alloc' _ (w.heap.size + 1 + 1) (by simp)).alloc' _ (w.heap.size + 1 + 1 + 1) (by simp)
  clear hW hO
  generalize w.heap.size + 1 + 1 + 1 = B1_3 at hN ⊢
  generalize w.heap.size + 1 + 1 = B1_2 at hN ⊢
  generalize w.heap.size + 1 = B1_1 at hN ⊢
  generalize w.heap.size = B1 at hN ⊢
  have hO := hN
  clear hN
  have z9_2_0 : W2.cell? ⟨B1_1, 0, none⟩ = some (.iface 40 (.pointer (some ⟨b, 0, none⟩))) := hO.cell 2 rfl 0 rfl
  have z9_2_1 : W2.cell? ⟨B1_1, 1, none⟩ = some (.int .i32 loc) := hO.cell 2 rfl 1 rfl
  refine bodyPost_ret (v := .agg #[.iface 40 (.pointer (some ⟨b, 0, none⟩)), .int .i32 loc]) ?_ rfl ⟨rfl, hO.sub [] (by decide)⟩
  simp [results, Tryd.results29, go_sem, z9_2_0, z9_2_1]
def innXPost (loc : Int) (b : Nat) (w0 : World) (X : Nat → Obj → Prop) (e : Ending) (w' : World) : Prop :=
  e = .returned (.agg #[.iface 209 (.pointer (some ⟨b, 0, none⟩)), .int .i32 loc]) ∧ Own w0 w' [] X
set_option maxRecDepth 100000 in
set_option maxHeartbeats 2000000 in
theorem innX (loc : Int) (b : Nat) (w0 w : World) (X : Nat → Obj → Prop) (hO : Own w0 w [] X)  :
    Calls Tryd.prog 29 #[.agg #[.iface 209 (.pointer (some ⟨b, 0, none⟩)), .int .i32 loc]] w (innXPost loc b w0 X) := by
  go_enter Tryd.func29, Tryd.ntmps29
  go_wp2_with (first | (with_reducible refine Own.stay (fn := Tryd.f29) ?_) | (first | (go_at_call 42; go_in) | (go_at_call 43; go_in)))
  try with_reducible refine Own.Stay.mk ?_
  generalize hW : World.alloc _ _ = W2
  have hN : Own w0 W2 [row (w.heap.size + 1 + 1 + 1) 30 #[.iface 209 (.pointer (some ⟨b, 0, none⟩)), .int .i32 loc], row (w.heap.size + 1 + 1) 30 #[.iface 209 (.pointer (some ⟨b, 0, none⟩)), .int .i32 loc], row (w.heap.size + 1) 30 #[.iface 209 (.pointer (some ⟨b, 0, none⟩)), .int .i32 loc], row (w.heap.size) 30 #[.iface 209 (.pointer (some ⟨b, 0, none⟩)), .int .i32 loc]] X := by
    rw [← hW]
    exact ((((hO).alloc' _ (w.heap.size) (by simp)).alloc' _ (w.heap.size + 1) (by simp)).alloc' _ (w.heap.size + 1 + 1) (by simp)).alloc' _ (w.heap.size + 1 + 1 + 1) (by simp)
  clear hW hO
  generalize w.heap.size + 1 + 1 + 1 = B1_3 at hN ⊢
  generalize w.heap.size + 1 + 1 = B1_2 at hN ⊢
  generalize w.heap.size + 1 = B1_1 at hN ⊢
  generalize w.heap.size = B1 at hN ⊢
  have hO := hN
  clear hN
  have z9_2_0 : W2.cell? ⟨B1_1, 0, none⟩ = some (.iface 209 (.pointer (some ⟨b, 0, none⟩))) := hO.cell 2 rfl 0 rfl
  have z9_2_1 : W2.cell? ⟨B1_1, 1, none⟩ = some (.int .i32 loc) := hO.cell 2 rfl 1 rfl
  refine bodyPost_ret (v := .agg #[.iface 209 (.pointer (some ⟨b, 0, none⟩)), .int .i32 loc]) ?_ rfl ⟨rfl, hO.sub [] (by decide)⟩
  simp [results, Tryd.results29, go_sem, z9_2_0, z9_2_1]
def innIPost (loc : Int) (b : Nat) (w0 : World) (X : Nat → Obj → Prop) (e : Ending) (w' : World) : Prop :=
  e = .returned (.agg #[.iface 220 (.pointer (some ⟨b, 0, none⟩)), .int .i32 loc]) ∧ Own w0 w' [] X
set_option maxRecDepth 100000 in
set_option maxHeartbeats 2000000 in
theorem innI (loc : Int) (b : Nat) (w0 w : World) (X : Nat → Obj → Prop) (hO : Own w0 w [] X)  :
    Calls Tryd.prog 29 #[.agg #[.iface 220 (.pointer (some ⟨b, 0, none⟩)), .int .i32 loc]] w (innIPost loc b w0 X) := by
  go_enter Tryd.func29, Tryd.ntmps29
  go_wp2_with (first | (with_reducible refine Own.stay (fn := Tryd.f29) ?_) | (first | (go_at_call 42; go_in) | (go_at_call 43; go_in)))
  try with_reducible refine Own.Stay.mk ?_
  generalize hW : World.alloc _ _ = W2
  have hN : Own w0 W2 [row (w.heap.size + 1 + 1 + 1) 30 #[.iface 220 (.pointer (some ⟨b, 0, none⟩)), .int .i32 loc], row (w.heap.size + 1 + 1) 30 #[.iface 220 (.pointer (some ⟨b, 0, none⟩)), .int .i32 loc], row (w.heap.size + 1) 30 #[.iface 220 (.pointer (some ⟨b, 0, none⟩)), .int .i32 loc], row (w.heap.size) 30 #[.iface 220 (.pointer (some ⟨b, 0, none⟩)), .int .i32 loc]] X := by
    rw [← hW]
    exact ((((hO).alloc' _ (w.heap.size) (by simp)).alloc' _ (w.heap.size + 1) (by simp)).alloc' _ (w.heap.size + 1 + 1) (by simp)).alloc' _ (w.heap.size + 1 + 1 + 1) (by simp)
  clear hW hO
  generalize w.heap.size + 1 + 1 + 1 = B1_3 at hN ⊢
  generalize w.heap.size + 1 + 1 = B1_2 at hN ⊢
  generalize w.heap.size + 1 = B1_1 at hN ⊢
  generalize w.heap.size = B1 at hN ⊢
  have hO := hN
  clear hN
  have z9_2_0 : W2.cell? ⟨B1_1, 0, none⟩ = some (.iface 220 (.pointer (some ⟨b, 0, none⟩))) := hO.cell 2 rfl 0 rfl
  have z9_2_1 : W2.cell? ⟨B1_1, 1, none⟩ = some (.int .i32 loc) := hO.cell 2 rfl 1 rfl
  refine bodyPost_ret (v := .agg #[.iface 220 (.pointer (some ⟨b, 0, none⟩)), .int .i32 loc]) ?_ rfl ⟨rfl, hO.sub [] (by decide)⟩
  simp [results, Tryd.results29, go_sem, z9_2_0, z9_2_1]
def innSPost (loc : Int) (b d : Nat) (dl : Int) (w0 : World) (X : Nat → Obj → Prop) (e : Ending) (w' : World) : Prop :=
  e = .returned (.agg #[.iface 40 (.pointer (some ⟨d, 0, none⟩)), .int .i32 dl]) ∧ Own w0 w' [] X
set_option maxRecDepth 100000 in
set_option maxHeartbeats 2000000 in
theorem innS (loc : Int) (b d : Nat) (dl : Int) (w0 w : World) (X : Nat → Obj → Prop) (hO : Own w0 w [] X) (hxs : X b (.cells #[.iface 40 (.pointer (some ⟨d, 0, none⟩)), .int .i32 dl] 234 (0, 0))) :
    Calls Tryd.prog 29 #[.agg #[.iface 227 (.pointer (some ⟨b, 0, none⟩)), .int .i32 loc]] w (innSPost loc b d dl w0 X) := by
  go_enter Tryd.func29, Tryd.ntmps29
  have fs0 : w.cell? ⟨b, 0, none⟩ = some (.iface 40 (.pointer (some ⟨d, 0, none⟩))) := Base.RowAt.cell (show Base.RowAt w b 234 #[.iface 40 (.pointer (some ⟨d, 0, none⟩)), .int .i32 dl] from (hO.frame _ _ hxs).2.1) rfl
  have fs1 : w.cell? ⟨b, 1, none⟩ = some (.int .i32 dl) := Base.RowAt.cell (show Base.RowAt w b 234 #[.iface 40 (.pointer (some ⟨d, 0, none⟩)), .int .i32 dl] from (hO.frame _ _ hxs).2.1) rfl
  have fsl : b < w.heap.size := Base.block_of_cell fs0
  go_wp2_with (first | (with_reducible refine Own.stay (fn := Tryd.f29) ?_) | (first | (go_at_call 42; go_in) | (go_at_call 43; go_in)))
  try with_reducible refine Own.Stay.mk ?_
  have HO := Lib.hid hO
  clear hO
  have hO := HO.out
  clear HO fs0 fs1 fsl
  generalize hW : World.alloc _ _ = W2
  have hN : Own w0 W2 [row (w.heap.size + 1 + 1) 30 #[.iface 227 (.pointer (some ⟨b, 0, none⟩)), .int .i32 loc], row (w.heap.size + 1) 30 #[.iface 40 (.pointer (some ⟨d, 0, none⟩)), .int .i32 dl], row (w.heap.size) 30 #[.iface 227 (.pointer (some ⟨b, 0, none⟩)), .int .i32 loc]] X := by
    rw [← hW]
    exact (((hO).alloc' _ (w.heap.size) (by simp)).alloc' _ (w.heap.size + 1) (by simp)).alloc' _ (w.heap.size + 1 + 1) (by simp)
  clear hW hO
  generalize w.heap.size + 1 + 1 = B1_2 at hN ⊢
  generalize w.heap.size + 1 = B1_1 at hN ⊢
  generalize w.heap.size = B1 at hN ⊢
  have hO := hN
  clear hN
  have z9_1_0 : W2.cell? ⟨B1_1, 0, none⟩ = some (.iface 40 (.pointer (some ⟨d, 0, none⟩))) := hO.cell 1 rfl 0 rfl
  have z9_1_1 : W2.cell? ⟨B1_1, 1, none⟩ = some (.int .i32 dl) := hO.cell 1 rfl 1 rfl
  refine bodyPost_ret (v := .agg #[.iface 40 (.pointer (some ⟨d, 0, none⟩)), .int .i32 dl]) ?_ rfl ⟨rfl, hO.sub [] (by decide)⟩
  simp [results, Tryd.results29, go_sem, z9_1_0, z9_1_1]
def innOPost (loc : Int) (b d : Nat) (dl : Int) (pp : Nat) (w0 : World) (X : Nat → Obj → Prop) (e : Ending) (w' : World) : Prop :=
  e = .returned (.agg #[.iface 40 (.pointer (some ⟨d, 0, none⟩)), .int .i32 dl]) ∧ Own w0 w' [] X
set_option maxRecDepth 100000 in
set_option maxHeartbeats 2000000 in
theorem innO (loc : Int) (b d : Nat) (dl : Int) (pp : Nat) (w0 w : World) (X : Nat → Obj → Prop) (hO : Own w0 w [] X) (hxo : X b (.cells #[.slice (some ⟨pp, 0, none⟩) 1 1, .int .i32 0, .int .i32 0, .bool false, .bool false] 237 (0, 0))) (hxp : X pp (.cells #[.pointer none, .nilIface, .int .i32 0, .iface 40 (.pointer (some ⟨d, 0, none⟩)), .int .i32 dl, .nilIface, .int .i32 0, .slice none 0 0, .int .i32 0, .int .i32 0, .int .u8 0, .int .u8 0] 243 (0, 0))) :
    Calls Tryd.prog 29 #[.agg #[.iface 229 (.pointer (some ⟨b, 0, none⟩)), .int .i32 loc]] w (innOPost loc b d dl pp w0 X) := by
  go_enter Tryd.func29, Tryd.ntmps29
  have fo0 : w.cell? ⟨b, 0, none⟩ = some (.slice (some ⟨pp, 0, none⟩) 1 1) := Base.RowAt.cell (show Base.RowAt w b 237 #[.slice (some ⟨pp, 0, none⟩) 1 1, .int .i32 0, .int .i32 0, .bool false, .bool false] from (hO.frame _ _ hxo).2.1) rfl
  have fo1 : w.cell? ⟨b, 1, none⟩ = some (.int .i32 0) := Base.RowAt.cell (show Base.RowAt w b 237 #[.slice (some ⟨pp, 0, none⟩) 1 1, .int .i32 0, .int .i32 0, .bool false, .bool false] from (hO.frame _ _ hxo).2.1) rfl
  have fo2 : w.cell? ⟨b, 2, none⟩ = some (.int .i32 0) := Base.RowAt.cell (show Base.RowAt w b 237 #[.slice (some ⟨pp, 0, none⟩) 1 1, .int .i32 0, .int .i32 0, .bool false, .bool false] from (hO.frame _ _ hxo).2.1) rfl
  have fo3 : w.cell? ⟨b, 3, none⟩ = some (.bool false) := Base.RowAt.cell (show Base.RowAt w b 237 #[.slice (some ⟨pp, 0, none⟩) 1 1, .int .i32 0, .int .i32 0, .bool false, .bool false] from (hO.frame _ _ hxo).2.1) rfl
  have fo4 : w.cell? ⟨b, 4, none⟩ = some (.bool false) := Base.RowAt.cell (show Base.RowAt w b 237 #[.slice (some ⟨pp, 0, none⟩) 1 1, .int .i32 0, .int .i32 0, .bool false, .bool false] from (hO.frame _ _ hxo).2.1) rfl
  have fol : b < w.heap.size := Base.block_of_cell fo0
  have fp0 : w.cell? ⟨pp, 0, none⟩ = some (.pointer none) := Base.RowAt.cell (show Base.RowAt w pp 243 #[.pointer none, .nilIface, .int .i32 0, .iface 40 (.pointer (some ⟨d, 0, none⟩)), .int .i32 dl, .nilIface, .int .i32 0, .slice none 0 0, .int .i32 0, .int .i32 0, .int .u8 0, .int .u8 0] from (hO.frame _ _ hxp).2.1) rfl
  have fp1 : w.cell? ⟨pp, 1, none⟩ = some (.nilIface) := Base.RowAt.cell (show Base.RowAt w pp 243 #[.pointer none, .nilIface, .int .i32 0, .iface 40 (.pointer (some ⟨d, 0, none⟩)), .int .i32 dl, .nilIface, .int .i32 0, .slice none 0 0, .int .i32 0, .int .i32 0, .int .u8 0, .int .u8 0] from (hO.frame _ _ hxp).2.1) rfl
  have fp2 : w.cell? ⟨pp, 2, none⟩ = some (.int .i32 0) := Base.RowAt.cell (show Base.RowAt w pp 243 #[.pointer none, .nilIface, .int .i32 0, .iface 40 (.pointer (some ⟨d, 0, none⟩)), .int .i32 dl, .nilIface, .int .i32 0, .slice none 0 0, .int .i32 0, .int .i32 0, .int .u8 0, .int .u8 0] from (hO.frame _ _ hxp).2.1) rfl
  have fp3 : w.cell? ⟨pp, 3, none⟩ = some (.iface 40 (.pointer (some ⟨d, 0, none⟩))) := Base.RowAt.cell (show Base.RowAt w pp 243 #[.pointer none, .nilIface, .int .i32 0, .iface 40 (.pointer (some ⟨d, 0, none⟩)), .int .i32 dl, .nilIface, .int .i32 0, .slice none 0 0, .int .i32 0, .int .i32 0, .int .u8 0, .int .u8 0] from (hO.frame _ _ hxp).2.1) rfl
  have fp4 : w.cell? ⟨pp, 4, none⟩ = some (.int .i32 dl) := Base.RowAt.cell (show Base.RowAt w pp 243 #[.pointer none, .nilIface, .int .i32 0, .iface 40 (.pointer (some ⟨d, 0, none⟩)), .int .i32 dl, .nilIface, .int .i32 0, .slice none 0 0, .int .i32 0, .int .i32 0, .int .u8 0, .int .u8 0] from (hO.frame _ _ hxp).2.1) rfl
  have fp5 : w.cell? ⟨pp, 5, none⟩ = some (.nilIface) := Base.RowAt.cell (show Base.RowAt w pp 243 #[.pointer none, .nilIface, .int .i32 0, .iface 40 (.pointer (some ⟨d, 0, none⟩)), .int .i32 dl, .nilIface, .int .i32 0, .slice none 0 0, .int .i32 0, .int .i32 0, .int .u8 0, .int .u8 0] from (hO.frame _ _ hxp).2.1) rfl
  have fp6 : w.cell? ⟨pp, 6, none⟩ = some (.int .i32 0) := Base.RowAt.cell (show Base.RowAt w pp 243 #[.pointer none, .nilIface, .int .i32 0, .iface 40 (.pointer (some ⟨d, 0, none⟩)), .int .i32 dl, .nilIface, .int .i32 0, .slice none 0 0, .int .i32 0, .int .i32 0, .int .u8 0, .int .u8 0] from (hO.frame _ _ hxp).2.1) rfl
  have fp7 : w.cell? ⟨pp, 7, none⟩ = some (.slice none 0 0) := Base.RowAt.cell (show Base.RowAt w pp 243 #[.pointer none, .nilIface, .int .i32 0, .iface 40 (.pointer (some ⟨d, 0, none⟩)), .int .i32 dl, .nilIface, .int .i32 0, .slice none 0 0, .int .i32 0, .int .i32 0, .int .u8 0, .int .u8 0] from (hO.frame _ _ hxp).2.1) rfl
  have fp8 : w.cell? ⟨pp, 8, none⟩ = some (.int .i32 0) := Base.RowAt.cell (show Base.RowAt w pp 243 #[.pointer none, .nilIface, .int .i32 0, .iface 40 (.pointer (some ⟨d, 0, none⟩)), .int .i32 dl, .nilIface, .int .i32 0, .slice none 0 0, .int .i32 0, .int .i32 0, .int .u8 0, .int .u8 0] from (hO.frame _ _ hxp).2.1) rfl
  have fp9 : w.cell? ⟨pp, 9, none⟩ = some (.int .i32 0) := Base.RowAt.cell (show Base.RowAt w pp 243 #[.pointer none, .nilIface, .int .i32 0, .iface 40 (.pointer (some ⟨d, 0, none⟩)), .int .i32 dl, .nilIface, .int .i32 0, .slice none 0 0, .int .i32 0, .int .i32 0, .int .u8 0, .int .u8 0] from (hO.frame _ _ hxp).2.1) rfl
  have fp10 : w.cell? ⟨pp, 10, none⟩ = some (.int .u8 0) := Base.RowAt.cell (show Base.RowAt w pp 243 #[.pointer none, .nilIface, .int .i32 0, .iface 40 (.pointer (some ⟨d, 0, none⟩)), .int .i32 dl, .nilIface, .int .i32 0, .slice none 0 0, .int .i32 0, .int .i32 0, .int .u8 0, .int .u8 0] from (hO.frame _ _ hxp).2.1) rfl
  have fp11 : w.cell? ⟨pp, 11, none⟩ = some (.int .u8 0) := Base.RowAt.cell (show Base.RowAt w pp 243 #[.pointer none, .nilIface, .int .i32 0, .iface 40 (.pointer (some ⟨d, 0, none⟩)), .int .i32 dl, .nilIface, .int .i32 0, .slice none 0 0, .int .i32 0, .int .i32 0, .int .u8 0, .int .u8 0] from (hO.frame _ _ hxp).2.1) rfl
  have fpl : pp < w.heap.size := Base.block_of_cell fp0
  go_wp2_with (first | (with_reducible refine Own.stay (fn := Tryd.f29) ?_) | (first | (go_at_call 42; go_in) | (go_at_call 43; go_in)))
  try with_reducible refine Own.Stay.mk ?_
  have HO := Lib.hid hO
  clear hO
  have hO := HO.out
  clear HO fo0 fo1 fo2 fo3 fo4 fol fp0 fp1 fp2 fp3 fp4 fp5 fp6 fp7 fp8 fp9 fp10 fp11 fpl
  generalize hW : World.alloc _ _ = W2
  have hN : Own w0 W2 [row (w.heap.size + 1 + 1 + 1) 30 #[.iface 229 (.pointer (some ⟨b, 0, none⟩)), .int .i32 loc], row (w.heap.size + 1 + 1) 30 #[.iface 229 (.pointer (some ⟨b, 0, none⟩)), .int .i32 loc], row (w.heap.size + 1) 30 #[.iface 40 (.pointer (some ⟨d, 0, none⟩)), .int .i32 dl], row (w.heap.size) 30 #[.iface 229 (.pointer (some ⟨b, 0, none⟩)), .int .i32 loc]] X := by
    rw [← hW]
    exact ((((hO).alloc' _ (w.heap.size) (by simp)).alloc' _ (w.heap.size + 1) (by simp)).alloc' _ (w.heap.size + 1 + 1) (by simp)).alloc' _ (w.heap.size + 1 + 1 + 1) (by simp)
  clear hW hO
  generalize w.heap.size + 1 + 1 + 1 = B1_3 at hN ⊢
  generalize w.heap.size + 1 + 1 = B1_2 at hN ⊢
  generalize w.heap.size + 1 = B1_1 at hN ⊢
  generalize w.heap.size = B1 at hN ⊢
  have hO := hN
  clear hN
  have z9_2_0 : W2.cell? ⟨B1_1, 0, none⟩ = some (.iface 40 (.pointer (some ⟨d, 0, none⟩))) := hO.cell 2 rfl 0 rfl
  have z9_2_1 : W2.cell? ⟨B1_1, 1, none⟩ = some (.int .i32 dl) := hO.cell 2 rfl 1 rfl
  refine bodyPost_ret (v := .agg #[.iface 40 (.pointer (some ⟨d, 0, none⟩)), .int .i32 dl]) ?_ rfl ⟨rfl, hO.sub [] (by decide)⟩
  simp [results, Tryd.results29, go_sem, z9_2_0, z9_2_1]
def innItemPost (t b : Nat) (loc : Int) (t' b' : Nat) (l' : Int) (w0 : World) (X : Nat → Obj → Prop) (e : Ending) (w' : World) : Prop :=
  e = .returned (.agg #[.iface t' (.pointer (some ⟨b', 0, none⟩)), .int .i32 l']) ∧ Own w0 w' [] X
theorem innItem (t b : Nat) (loc : Int) (t' b' : Nat) (l' : Int) (w0 w : World) (X : Nat → Obj → Prop) (hO : Own w0 w [] X) (hi : InnV X t b loc t' b' l') :
    Calls Tryd.prog 29 #[.agg #[.iface t (.pointer (some ⟨b, 0, none⟩)), .int .i32 loc]] w (innItemPost t b loc t' b' l' w0 X) := by
  rcases hi with ⟨rfl | rfl | rfl, rfl, rfl, rfl⟩ | ⟨rfl, rfl, h⟩ | ⟨rfl, rfl, pp, h1, h2⟩
  · exact innD _ _ w0 w X hO
  · exact innX _ _ w0 w X hO
  · exact innI _ _ w0 w X hO
  · exact innS _ _ _ _ w0 w X hO h
  · exact innO _ _ _ _ _ w0 w X hO h1 h2

def samDPost (b : Nat) (loc : Int) (w0 : World) (X : Nat → Obj → Prop) (e : Ending) (w' : World) : Prop :=
  e = .returned (.bool true) ∧ Own w0 w' [] X
set_option maxRecDepth 100000 in
set_option maxHeartbeats 2000000 in
theorem samD (b : Nat) (loc : Int) (w0 w : World) (X : Nat → Obj → Prop) (hO : Own w0 w [] X)  :
    Calls Tryd.prog 24 #[.agg #[.iface 40 (.pointer (some ⟨b, 0, none⟩)), .int .i32 loc], .agg #[.iface 40 (.pointer (some ⟨b, 0, none⟩)), .int .i32 loc]] w (samDPost b loc w0 X) := by
  go_enter Tryd.func24, Tryd.ntmps24
  go_wp2_with (first | (with_reducible refine Own.stay (fn := Tryd.f24) ?_) | (first | (go_at_call 39; go_in) | (go_at_call 40; go_in) | (go_at_call 18; go_in) | (go_at_call 23; go_in) | (go_at_call 21; go_in) | (go_at_call 41; go_in) | (go_at_call 42; go_in) | (go_at_call 28; go_in) | (go_at_call 43; go_in)))
  try with_reducible refine Own.Stay.mk ?_
  generalize hW : World.alloc _ _ = W2
  have hN : Own w0 W2 [row (w.heap.size + 1 + 1 + 1) 30 #[.iface 40 (.pointer (some ⟨b, 0, none⟩)), .int .i32 loc], row (w.heap.size + 1 + 1) 30 #[.iface 40 (.pointer (some ⟨b, 0, none⟩)), .int .i32 loc], row (w.heap.size + 1) 30 #[.iface 40 (.pointer (some ⟨b, 0, none⟩)), .int .i32 loc], row (w.heap.size) 30 #[.iface 40 (.pointer (some ⟨b, 0, none⟩)), .int .i32 loc]] X := by
    rw [← hW]
    exact ((((hO).alloc' _ (w.heap.size) (by simp)).alloc' _ (w.heap.size + 1) (by simp)).alloc' _ (w.heap.size + 1 + 1) (by simp)).alloc' _ (w.heap.size + 1 + 1 + 1) (by simp)
  clear hW hO
  generalize w.heap.size + 1 + 1 + 1 = B1_3 at hN ⊢
  generalize w.heap.size + 1 + 1 = B1_2 at hN ⊢
  generalize w.heap.size + 1 = B1_1 at hN ⊢
  generalize w.heap.size = B1 at hN ⊢
  have hO := hN
  clear hN
  refine bodyPost_ret (v := .bool true) ?_ rfl ⟨rfl, hO.sub [] (by decide)⟩
  simp [results, Tryd.results24, go_sem]
def samXPost (b : Nat) (loc : Int) (w0 : World) (X : Nat → Obj → Prop) (e : Ending) (w' : World) : Prop :=
  e = .returned (.bool true) ∧ Own w0 w' [] X
set_option maxRecDepth 100000 in
set_option maxHeartbeats 2000000 in
theorem samX (b : Nat) (loc : Int) (w0 w : World) (X : Nat → Obj → Prop) (hO : Own w0 w [] X)  :
    Calls Tryd.prog 24 #[.agg #[.iface 209 (.pointer (some ⟨b, 0, none⟩)), .int .i32 loc], .agg #[.iface 209 (.pointer (some ⟨b, 0, none⟩)), .int .i32 loc]] w (samXPost b loc w0 X) := by
  go_enter Tryd.func24, Tryd.ntmps24
  go_wp2_with (first | (with_reducible refine Own.stay (fn := Tryd.f24) ?_) | (first | (go_at_call 39; go_in) | (go_at_call 40; go_in) | (go_at_call 18; go_in) | (go_at_call 23; go_in) | (go_at_call 21; go_in) | (go_at_call 41; go_in) | (go_at_call 42; go_in) | (go_at_call 28; go_in) | (go_at_call 43; go_in)))
  try with_reducible refine Own.Stay.mk ?_
  generalize hW : World.alloc _ _ = W2
  have hN : Own w0 W2 [row (w.heap.size + 1 + 1 + 1 + 1 + 1) 30 #[.iface 209 (.pointer (some ⟨b, 0, none⟩)), .int .i32 loc], row (w.heap.size + 1 + 1 + 1 + 1) 30 #[.iface 209 (.pointer (some ⟨b, 0, none⟩)), .int .i32 loc], row (w.heap.size + 1 + 1 + 1) 30 #[.iface 209 (.pointer (some ⟨b, 0, none⟩)), .int .i32 loc], row (w.heap.size + 1 + 1) 30 #[.iface 209 (.pointer (some ⟨b, 0, none⟩)), .int .i32 loc], row (w.heap.size + 1) 30 #[.iface 209 (.pointer (some ⟨b, 0, none⟩)), .int .i32 loc], row (w.heap.size) 30 #[.iface 209 (.pointer (some ⟨b, 0, none⟩)), .int .i32 loc]] X := by
    rw [← hW]
    exact ((((((hO).alloc' _ (w.heap.size) (by simp)).alloc' _ (w.heap.size + 1) (by simp)).alloc' _ (w.heap.size + 1 + 1) (by simp)).alloc' _ (w.heap.size + 1 + 1 + 1) (by simp)).alloc' _ (w.heap.size + 1 + 1 + 1 + 1) (by simp)).alloc' _ (w.heap.size + 1 + 1 + 1 + 1 + 1) (by simp)
  clear hW hO
  generalize w.heap.size + 1 + 1 + 1 + 1 + 1 = B1_5 at hN ⊢
  generalize w.heap.size + 1 + 1 + 1 + 1 = B1_4 at hN ⊢
  generalize w.heap.size + 1 + 1 + 1 = B1_3 at hN ⊢
  generalize w.heap.size + 1 + 1 = B1_2 at hN ⊢
  generalize w.heap.size + 1 = B1_1 at hN ⊢
  generalize w.heap.size = B1 at hN ⊢
  have hO := hN
  clear hN
  refine bodyPost_ret (v := .bool true) ?_ rfl ⟨rfl, hO.sub [] (by decide)⟩
  simp [results, Tryd.results24, go_sem]
def samSPost (b : Nat) (loc : Int) (w0 : World) (X : Nat → Obj → Prop) (e : Ending) (w' : World) : Prop :=
  e = .returned (.bool true) ∧ Own w0 w' [] X
set_option maxRecDepth 100000 in
set_option maxHeartbeats 2000000 in
theorem samS (b : Nat) (loc : Int) (w0 w : World) (X : Nat → Obj → Prop) (hO : Own w0 w [] X)  :
    Calls Tryd.prog 24 #[.agg #[.iface 227 (.pointer (some ⟨b, 0, none⟩)), .int .i32 loc], .agg #[.iface 227 (.pointer (some ⟨b, 0, none⟩)), .int .i32 loc]] w (samSPost b loc w0 X) := by
  go_enter Tryd.func24, Tryd.ntmps24
  go_wp2_with (first | (with_reducible refine Own.stay (fn := Tryd.f24) ?_) | (first | (go_at_call 39; go_in) | (go_at_call 40; go_in) | (go_at_call 18; go_in) | (go_at_call 23; go_in) | (go_at_call 21; go_in) | (go_at_call 41; go_in) | (go_at_call 42; go_in) | (go_at_call 28; go_in) | (go_at_call 43; go_in)))
  try with_reducible refine Own.Stay.mk ?_
  generalize hW : World.alloc _ _ = W2
  have hN : Own w0 W2 [row (w.heap.size + 1 + 1 + 1 + 1 + 1 + 1) 30 #[.iface 227 (.pointer (some ⟨b, 0, none⟩)), .int .i32 loc], row (w.heap.size + 1 + 1 + 1 + 1 + 1) 30 #[.iface 227 (.pointer (some ⟨b, 0, none⟩)), .int .i32 loc], row (w.heap.size + 1 + 1 + 1 + 1) 30 #[.iface 227 (.pointer (some ⟨b, 0, none⟩)), .int .i32 loc], row (w.heap.size + 1 + 1 + 1) 30 #[.iface 227 (.pointer (some ⟨b, 0, none⟩)), .int .i32 loc], row (w.heap.size + 1 + 1) 30 #[.iface 227 (.pointer (some ⟨b, 0, none⟩)), .int .i32 loc], row (w.heap.size + 1) 30 #[.iface 227 (.pointer (some ⟨b, 0, none⟩)), .int .i32 loc], row (w.heap.size) 30 #[.iface 227 (.pointer (some ⟨b, 0, none⟩)), .int .i32 loc]] X := by
    rw [← hW]
    exact (((((((hO).alloc' _ (w.heap.size) (by simp)).alloc' _ (w.heap.size + 1) (by simp)).alloc' _ (w.heap.size + 1 + 1) (by simp)).alloc' _ (w.heap.size + 1 + 1 + 1) (by simp)).alloc' _ (w.heap.size + 1 + 1 + 1 + 1) (by simp)).alloc' _ (w.heap.size + 1 + 1 + 1 + 1 + 1) (by simp)).alloc' _ (w.heap.size + 1 + 1 + 1 + 1 + 1 + 1) (by simp)
  clear hW hO
  generalize w.heap.size + 1 + 1 + 1 + 1 + 1 + 1 = B1_6 at hN ⊢
  generalize w.heap.size + 1 + 1 + 1 + 1 + 1 = B1_5 at hN ⊢
  generalize w.heap.size + 1 + 1 + 1 + 1 = B1_4 at hN ⊢
  generalize w.heap.size + 1 + 1 + 1 = B1_3 at hN ⊢
  generalize w.heap.size + 1 + 1 = B1_2 at hN ⊢
  generalize w.heap.size + 1 = B1_1 at hN ⊢
  generalize w.heap.size = B1 at hN ⊢
  have hO := hN
  clear hN
  refine bodyPost_ret (v := .bool true) ?_ rfl ⟨rfl, hO.sub [] (by decide)⟩
  simp [results, Tryd.results24, go_sem]
def samIPost (b : Nat) (loc : Int) (w0 : World) (X : Nat → Obj → Prop) (e : Ending) (w' : World) : Prop :=
  e = .returned (.bool true) ∧ Own w0 w' [] X
set_option maxRecDepth 100000 in
set_option maxHeartbeats 2000000 in
theorem samI (b : Nat) (loc : Int) (w0 w : World) (X : Nat → Obj → Prop) (hO : Own w0 w [] X)  :
    Calls Tryd.prog 24 #[.agg #[.iface 220 (.pointer (some ⟨b, 0, none⟩)), .int .i32 loc], .agg #[.iface 220 (.pointer (some ⟨b, 0, none⟩)), .int .i32 loc]] w (samIPost b loc w0 X) := by
  go_enter Tryd.func24, Tryd.ntmps24
  go_wp2_with (first | (with_reducible refine Own.stay (fn := Tryd.f24) ?_) | (first | (go_at_call 39; go_in) | (go_at_call 40; go_in) | (go_at_call 18; go_in) | (go_at_call 23; go_in) | (go_at_call 21; go_in) | (go_at_call 41; go_in) | (go_at_call 42; go_in) | (go_at_call 28; go_in) | (go_at_call 43; go_in)))
  try with_reducible refine Own.Stay.mk ?_
  generalize hW : World.alloc _ _ = W2
  have hN : Own w0 W2 [row (w.heap.size + 1 + 1 + 1 + 1) 30 #[.iface 220 (.pointer (some ⟨b, 0, none⟩)), .int .i32 loc], row (w.heap.size + 1 + 1 + 1) 30 #[.iface 220 (.pointer (some ⟨b, 0, none⟩)), .int .i32 loc], row (w.heap.size + 1 + 1) 30 #[.iface 220 (.pointer (some ⟨b, 0, none⟩)), .int .i32 loc], row (w.heap.size + 1) 30 #[.iface 220 (.pointer (some ⟨b, 0, none⟩)), .int .i32 loc], row (w.heap.size) 30 #[.iface 220 (.pointer (some ⟨b, 0, none⟩)), .int .i32 loc]] X := by
    rw [← hW]
    exact (((((hO).alloc' _ (w.heap.size) (by simp)).alloc' _ (w.heap.size + 1) (by simp)).alloc' _ (w.heap.size + 1 + 1) (by simp)).alloc' _ (w.heap.size + 1 + 1 + 1) (by simp)).alloc' _ (w.heap.size + 1 + 1 + 1 + 1) (by simp)
  clear hW hO
  generalize w.heap.size + 1 + 1 + 1 + 1 = B1_4 at hN ⊢
  generalize w.heap.size + 1 + 1 + 1 = B1_3 at hN ⊢
  generalize w.heap.size + 1 + 1 = B1_2 at hN ⊢
  generalize w.heap.size + 1 = B1_1 at hN ⊢
  generalize w.heap.size = B1 at hN ⊢
  have hO := hN
  clear hN
  refine bodyPost_ret (v := .bool true) ?_ rfl ⟨rfl, hO.sub [] (by decide)⟩
  simp [results, Tryd.results24, go_sem]
def samOPost (b : Nat) (loc : Int) (w0 : World) (X : Nat → Obj → Prop) (e : Ending) (w' : World) : Prop :=
  e = .returned (.bool true) ∧ Own w0 w' [] X
set_option maxRecDepth 100000 in
set_option maxHeartbeats 2000000 in
theorem samO (b : Nat) (loc : Int) (w0 w : World) (X : Nat → Obj → Prop) (hO : Own w0 w [] X)  :
    Calls Tryd.prog 24 #[.agg #[.iface 229 (.pointer (some ⟨b, 0, none⟩)), .int .i32 loc], .agg #[.iface 229 (.pointer (some ⟨b, 0, none⟩)), .int .i32 loc]] w (samOPost b loc w0 X) := by
  go_enter Tryd.func24, Tryd.ntmps24
  go_wp2_with (first | (with_reducible refine Own.stay (fn := Tryd.f24) ?_) | (first | (go_at_call 39; go_in) | (go_at_call 40; go_in) | (go_at_call 18; go_in) | (go_at_call 23; go_in) | (go_at_call 21; go_in) | (go_at_call 41; go_in) | (go_at_call 42; go_in) | (go_at_call 28; go_in) | (go_at_call 43; go_in)))
  try with_reducible refine Own.Stay.mk ?_
  generalize hW : World.alloc _ _ = W2
  have hN : Own w0 W2 [row (w.heap.size + 1 + 1 + 1 + 1 + 1 + 1 + 1) 30 #[.iface 229 (.pointer (some ⟨b, 0, none⟩)), .int .i32 loc], row (w.heap.size + 1 + 1 + 1 + 1 + 1 + 1) 30 #[.iface 229 (.pointer (some ⟨b, 0, none⟩)), .int .i32 loc], row (w.heap.size + 1 + 1 + 1 + 1 + 1) 30 #[.iface 229 (.pointer (some ⟨b, 0, none⟩)), .int .i32 loc], row (w.heap.size + 1 + 1 + 1 + 1) 30 #[.iface 229 (.pointer (some ⟨b, 0, none⟩)), .int .i32 loc], row (w.heap.size + 1 + 1 + 1) 30 #[.iface 229 (.pointer (some ⟨b, 0, none⟩)), .int .i32 loc], row (w.heap.size + 1 + 1) 30 #[.iface 229 (.pointer (some ⟨b, 0, none⟩)), .int .i32 loc], row (w.heap.size + 1) 30 #[.iface 229 (.pointer (some ⟨b, 0, none⟩)), .int .i32 loc], row (w.heap.size) 30 #[.iface 229 (.pointer (some ⟨b, 0, none⟩)), .int .i32 loc]] X := by
    rw [← hW]
    exact ((((((((hO).alloc' _ (w.heap.size) (by simp)).alloc' _ (w.heap.size + 1) (by simp)).alloc' _ (w.heap.size + 1 + 1) (by simp)).alloc' _ (w.heap.size + 1 + 1 + 1) (by simp)).alloc' _ (w.heap.size + 1 + 1 + 1 + 1) (by simp)).alloc' _ (w.heap.size + 1 + 1 + 1 + 1 + 1) (by simp)).alloc' _ (w.heap.size + 1 + 1 + 1 + 1 + 1 + 1) (by simp)).alloc' _ (w.heap.size + 1 + 1 + 1 + 1 + 1 + 1 + 1) (by simp)
  clear hW hO
  generalize w.heap.size + 1 + 1 + 1 + 1 + 1 + 1 + 1 = B1_7 at hN ⊢
  generalize w.heap.size + 1 + 1 + 1 + 1 + 1 + 1 = B1_6 at hN ⊢
  generalize w.heap.size + 1 + 1 + 1 + 1 + 1 = B1_5 at hN ⊢
  generalize w.heap.size + 1 + 1 + 1 + 1 = B1_4 at hN ⊢
  generalize w.heap.size + 1 + 1 + 1 = B1_3 at hN ⊢
  generalize w.heap.size + 1 + 1 = B1_2 at hN ⊢
  generalize w.heap.size + 1 = B1_1 at hN ⊢
  generalize w.heap.size = B1 at hN ⊢
  have hO := hN
  clear hN
  refine bodyPost_ret (v := .bool true) ?_ rfl ⟨rfl, hO.sub [] (by decide)⟩
  simp [results, Tryd.results24, go_sem]
def samItemPost (t b : Nat) (loc : Int) (w0 : World) (X : Nat → Obj → Prop) (e : Ending) (w' : World) : Prop :=
  e = .returned (.bool true) ∧ Own w0 w' [] X
theorem samItem (t b : Nat) (loc : Int) (w0 w : World) (X : Nat → Obj → Prop) (hO : Own w0 w [] X) (ht : t = 40 ∨ t = 209 ∨ t = 227 ∨ t = 220 ∨ t = 229) :
    Calls Tryd.prog 24 #[.agg #[.iface t (.pointer (some ⟨b, 0, none⟩)), .int .i32 loc], .agg #[.iface t (.pointer (some ⟨b, 0, none⟩)), .int .i32 loc]] w (samItemPost t b loc w0 X) := by
  rcases ht with rfl | rfl | rfl | rfl | rfl
  · exact samD _ _ w0 w X hO
  · exact samX _ _ w0 w X hO
  · exact samS _ _ w0 w X hO
  · exact samI _ _ w0 w X hO
  · exact samO _ _ w0 w X hO

end Go.Proofs.YtcbdjbjbikiaeaaDoor.Use
