/- Items that are not lowered: spreads, objects; any. No condition. -/
import Derived.Test.YtcbdjbjbikiaeaaDoorItm
import Derived.Test.YtcbdjbjbikiaeaaDoorCld
import Derived.Test.YtcbdjbjbikiaeaaDoorOwn
import Derived.Test.YtcbdjbjbikiaeaaDoorOwnK
import Derived.Test.YtcbdjbjbikiaeaaDoorLoop
import Derived.Test.YtcbdjbjbikiaeaaDoorApp
import Derived.Test.YtcbdjbjbikiaeaaDoorDeepCells
import Derived.Test.YtcbdjbjbikiaeaaDoorRows
import Derived.Test.YtcbdjbjbikiaeaaDoorDead
namespace Go.Proofs.YtcbdjbjbikiaeaaDoor.Use
open Go.ChangeShapes Go.WideShapes Go.ChangeAt Go.RowKit Go.Sort Own
set_option linter.unusedVariables false
def coldsfPost (pb : Nat) (PC : Array Value) (mp cr : Nat) (r s : Bool) (loc : Int) (d kT kx : Nat) (tl nl : Int) (nm : ByteArray) (b : Nat) (dl : Int) (w0 : World) (X : Nat → Obj → Prop) (e : Ending) (w' : World) : Prop :=
  e = .returned (.tuple #[.agg #[.iface 227 (.pointer (some ⟨b, 0, none⟩)), .int .i32 loc], .bool false]) ∧ Own w0 w' [row (pb) 206 PC] X
set_option maxRecDepth 100000 in
set_option maxHeartbeats 2000000 in
theorem coldsf (pb : Nat) (PC : Array Value) (mp cr : Nat) (r s : Bool) (loc : Int) (d kT kx : Nat) (tl nl : Int) (nm : ByteArray) (b : Nat) (dl : Int) (w0 w : World) (X : Nat → Obj → Prop) (hO : Own w0 w [row (pb) 206 PC] X) (hD : Dead PC mp cr r s) (hl : PC[338]? = some (.bool false)) (hxd : X d (.cells #[.iface kT (.pointer (some ⟨kx, 0, none⟩)), .int .i32 tl, .string nm, .int .i32 nl, .int .u8 0, .bool false, .bool false, .bool false] 44 (0, 0))) (hxs : X b (.cells #[.iface 40 (.pointer (some ⟨d, 0, none⟩)), .int .i32 dl] 234 (0, 0))) :
    Calls Tryd.prog 35 #[.pointer (some ⟨pb, 0, none⟩), .agg #[.iface 227 (.pointer (some ⟨b, 0, none⟩)), .int .i32 loc]] w (coldsfPost pb PC mp cr r s loc d kT kx tl nl nm b dl w0 X) := by
  go_enter Tryd.func35, Tryd.ntmps35
  have fs0 : w.cell? ⟨b, 0, none⟩ = some (.iface 40 (.pointer (some ⟨d, 0, none⟩))) := Base.RowAt.cell (show Base.RowAt w b 234 #[.iface 40 (.pointer (some ⟨d, 0, none⟩)), .int .i32 dl] from (hO.frame _ _ hxs).2.1) rfl
  have fs1 : w.cell? ⟨b, 1, none⟩ = some (.int .i32 dl) := Base.RowAt.cell (show Base.RowAt w b 234 #[.iface 40 (.pointer (some ⟨d, 0, none⟩)), .int .i32 dl] from (hO.frame _ _ hxs).2.1) rfl
  have fsl : b < w.heap.size := Base.block_of_cell fs0
  go_wp2_with (first | (with_reducible refine Own.stay (fn := Tryd.f35) ?_) | (first | (go_at_call 34; go_in)))
  try with_reducible refine Own.Stay.mk ?_
  have HO := Lib.hid hO
  clear hO
  have hO := HO.out
  clear HO fs0 fs1 fsl
  generalize hW : World.alloc _ _ = W2
  have hN : Own w0 W2 [row (w.heap.size + 1) 30 #[.nilIface, .int .i32 0], row (w.heap.size) 30 #[.iface 227 (.pointer (some ⟨b, 0, none⟩)), .int .i32 loc], row (pb) 206 PC] X := by
    rw [← hW]
    exact ((hO).alloc' _ (w.heap.size) (by simp)).alloc' _ (w.heap.size + 1) (by simp)
  clear hW hO
  generalize w.heap.size + 1 = B1_1 at hN ⊢
  generalize w.heap.size = B1 at hN ⊢
  have hO := hN
  clear hN
  have hL := hO.apart
  have hX := hO.apartX
  have HL := Lib.hid hL
  have HX := Lib.hid hX
  clear hL hX
  have hP9 := hO.pick [2] (by decide)
  have T9 := colddf pb PC mp cr r s dl d _ _ _ _ _ _ _ _ hP9 hD hl (Or.inl hxd)
  refine Calls.mono T9 ?_
  clear hP9 T9
  rintro e uw3 ⟨rfl, hQ⟩
  have hN : Own w0 uw3 [row (pb) 206 PC, row (B1_1) 30 #[.nilIface, .int .i32 0], row (B1) 30 #[.iface 227 (.pointer (some ⟨b, 0, none⟩)), .int .i32 loc]] X := hQ.back HL.out HX.out [0, 1] (by decide) (by decide)
  clear hQ HL HX hO
  have hO := hN
  clear hN
  obtain ⟨c9_1_0, c9_1_1, lt9_1, y9_1, -⟩ := hO.k2 1 rfl
  obtain ⟨c9_2_0, c9_2_1, lt9_2, y9_2, -⟩ := hO.k2 2 rfl
  have HO := Lib.hid hO
  clear hO
  have fs0 : uw3.cell? ⟨b, 0, none⟩ = some (.iface 40 (.pointer (some ⟨d, 0, none⟩))) := Base.RowAt.cell (show Base.RowAt uw3 b 234 #[.iface 40 (.pointer (some ⟨d, 0, none⟩)), .int .i32 dl] from (HO.out.frame _ _ hxs).2.1) rfl
  have fs1 : uw3.cell? ⟨b, 1, none⟩ = some (.int .i32 dl) := Base.RowAt.cell (show Base.RowAt uw3 b 234 #[.iface 40 (.pointer (some ⟨d, 0, none⟩)), .int .i32 dl] from (HO.out.frame _ _ hxs).2.1) rfl
  have fsl : b < uw3.heap.size := Base.block_of_cell fs0
  go_wp2_with (first | (with_reducible refine Own.stay (fn := Tryd.f35) ?_) | (first | (go_at_call 34; go_in)))
  try with_reducible refine Own.Stay.mk ?_
  have hO := HO.out
  clear HO fs0 fs1 fsl c9_1_0 c9_1_1 lt9_1 y9_1 c9_2_0 c9_2_1 lt9_2 y9_2
  generalize hW : World.alloc _ _ = W5
  have hN : Own w0 W5 [row (uw3.heap.size) 30 #[.iface 40 (.pointer (some ⟨d, 0, none⟩)), .int .i32 dl], row (pb) 206 PC, row (B1_1) 30 #[.iface 227 (.pointer (some ⟨b, 0, none⟩)), .int .i32 loc], row (B1) 30 #[.iface 227 (.pointer (some ⟨b, 0, none⟩)), .int .i32 loc]] X := by
    rw [← hW]
    exact (((hO).set 1 rfl 0 _).set 1 rfl 1 _).alloc' _ (uw3.heap.size) (by simp)
  clear hW hO
  generalize uw3.heap.size = B4 at hN ⊢
  have hO := hN
  clear hN
  have z9_2_0 : W5.cell? ⟨B1_1, 0, none⟩ = some (.iface 227 (.pointer (some ⟨b, 0, none⟩))) := hO.cell 2 rfl 0 rfl
  have z9_2_1 : W5.cell? ⟨B1_1, 1, none⟩ = some (.int .i32 loc) := hO.cell 2 rfl 1 rfl
  refine bodyPost_ret (v := .tuple #[.agg #[.iface 227 (.pointer (some ⟨b, 0, none⟩)), .int .i32 loc], .bool false]) ?_ rfl ⟨rfl, hO.sub [1] (by decide)⟩
  simp [results, Tryd.results35, go_sem, z9_2_0, z9_2_1]
def coldstPost (pb : Nat) (PC : Array Value) (mp cr : Nat) (r s : Bool) (loc : Int) (d kT kx : Nat) (tl nl : Int) (nm : ByteArray) (b : Nat) (dl : Int) (w0 : World) (X : Nat → Obj → Prop) (e : Ending) (w' : World) : Prop :=
  e = .returned (.tuple #[.agg #[.iface 227 (.pointer (some ⟨b, 0, none⟩)), .int .i32 loc], .bool false]) ∧ Own w0 w' [row (pb) 206 PC] X
set_option maxRecDepth 100000 in
set_option maxHeartbeats 2000000 in
theorem coldst (pb : Nat) (PC : Array Value) (mp cr : Nat) (r s : Bool) (loc : Int) (d kT kx : Nat) (tl nl : Int) (nm : ByteArray) (b : Nat) (dl : Int) (w0 w : World) (X : Nat → Obj → Prop) (hO : Own w0 w [row (pb) 206 PC] X) (hD : Dead PC mp cr r s) (hl : PC[338]? = some (.bool true)) (hT : kT ≠ 244) (hxd : X d (.cells #[.iface kT (.pointer (some ⟨kx, 0, none⟩)), .int .i32 tl, .string nm, .int .i32 nl, .int .u8 0, .bool false, .bool false, .bool false] 44 (0, 0))) (hxs : X b (.cells #[.iface 40 (.pointer (some ⟨d, 0, none⟩)), .int .i32 dl] 234 (0, 0))) :
    Calls Tryd.prog 35 #[.pointer (some ⟨pb, 0, none⟩), .agg #[.iface 227 (.pointer (some ⟨b, 0, none⟩)), .int .i32 loc]] w (coldstPost pb PC mp cr r s loc d kT kx tl nl nm b dl w0 X) := by
  go_enter Tryd.func35, Tryd.ntmps35
  have fs0 : w.cell? ⟨b, 0, none⟩ = some (.iface 40 (.pointer (some ⟨d, 0, none⟩))) := Base.RowAt.cell (show Base.RowAt w b 234 #[.iface 40 (.pointer (some ⟨d, 0, none⟩)), .int .i32 dl] from (hO.frame _ _ hxs).2.1) rfl
  have fs1 : w.cell? ⟨b, 1, none⟩ = some (.int .i32 dl) := Base.RowAt.cell (show Base.RowAt w b 234 #[.iface 40 (.pointer (some ⟨d, 0, none⟩)), .int .i32 dl] from (hO.frame _ _ hxs).2.1) rfl
  have fsl : b < w.heap.size := Base.block_of_cell fs0
  go_wp2_with (first | (with_reducible refine Own.stay (fn := Tryd.f35) ?_) | (first | (go_at_call 34; go_in)))
  try with_reducible refine Own.Stay.mk ?_
  have HO := Lib.hid hO
  clear hO
  have hO := HO.out
  clear HO fs0 fs1 fsl
  generalize hW : World.alloc _ _ = W2
  have hN : Own w0 W2 [row (w.heap.size + 1) 30 #[.nilIface, .int .i32 0], row (w.heap.size) 30 #[.iface 227 (.pointer (some ⟨b, 0, none⟩)), .int .i32 loc], row (pb) 206 PC] X := by
    rw [← hW]
    exact ((hO).alloc' _ (w.heap.size) (by simp)).alloc' _ (w.heap.size + 1) (by simp)
  clear hW hO
  generalize w.heap.size + 1 = B1_1 at hN ⊢
  generalize w.heap.size = B1 at hN ⊢
  have hO := hN
  clear hN
  have hL := hO.apart
  have hX := hO.apartX
  have HL := Lib.hid hL
  have HX := Lib.hid hX
  clear hL hX
  have hP9 := hO.pick [2] (by decide)
  have T9 := colddt pb PC mp cr r s dl d kT _ _ _ _ _ _ _ hP9 hD hl hT (Or.inl hxd)
  refine Calls.mono T9 ?_
  clear hP9 T9
  rintro e uw3 ⟨rfl, hQ⟩
  have hN : Own w0 uw3 [row (pb) 206 PC, row (B1_1) 30 #[.nilIface, .int .i32 0], row (B1) 30 #[.iface 227 (.pointer (some ⟨b, 0, none⟩)), .int .i32 loc]] X := hQ.back HL.out HX.out [0, 1] (by decide) (by decide)
  clear hQ HL HX hO
  have hO := hN
  clear hN
  obtain ⟨c9_1_0, c9_1_1, lt9_1, y9_1, -⟩ := hO.k2 1 rfl
  obtain ⟨c9_2_0, c9_2_1, lt9_2, y9_2, -⟩ := hO.k2 2 rfl
  have HO := Lib.hid hO
  clear hO
  have fs0 : uw3.cell? ⟨b, 0, none⟩ = some (.iface 40 (.pointer (some ⟨d, 0, none⟩))) := Base.RowAt.cell (show Base.RowAt uw3 b 234 #[.iface 40 (.pointer (some ⟨d, 0, none⟩)), .int .i32 dl] from (HO.out.frame _ _ hxs).2.1) rfl
  have fs1 : uw3.cell? ⟨b, 1, none⟩ = some (.int .i32 dl) := Base.RowAt.cell (show Base.RowAt uw3 b 234 #[.iface 40 (.pointer (some ⟨d, 0, none⟩)), .int .i32 dl] from (HO.out.frame _ _ hxs).2.1) rfl
  have fsl : b < uw3.heap.size := Base.block_of_cell fs0
  go_wp2_with (first | (with_reducible refine Own.stay (fn := Tryd.f35) ?_) | (first | (go_at_call 34; go_in)))
  try with_reducible refine Own.Stay.mk ?_
  have hO := HO.out
  clear HO fs0 fs1 fsl c9_1_0 c9_1_1 lt9_1 y9_1 c9_2_0 c9_2_1 lt9_2 y9_2
  generalize hW : World.alloc _ _ = W5
  have hN : Own w0 W5 [row (uw3.heap.size) 30 #[.iface 40 (.pointer (some ⟨d, 0, none⟩)), .int .i32 dl], row (pb) 206 PC, row (B1_1) 30 #[.iface 227 (.pointer (some ⟨b, 0, none⟩)), .int .i32 loc], row (B1) 30 #[.iface 227 (.pointer (some ⟨b, 0, none⟩)), .int .i32 loc]] X := by
    rw [← hW]
    exact (((hO).set 1 rfl 0 _).set 1 rfl 1 _).alloc' _ (uw3.heap.size) (by simp)
  clear hW hO
  generalize uw3.heap.size = B4 at hN ⊢
  have hO := hN
  clear hN
  have z9_2_0 : W5.cell? ⟨B1_1, 0, none⟩ = some (.iface 227 (.pointer (some ⟨b, 0, none⟩))) := hO.cell 2 rfl 0 rfl
  have z9_2_1 : W5.cell? ⟨B1_1, 1, none⟩ = some (.int .i32 loc) := hO.cell 2 rfl 1 rfl
  refine bodyPost_ret (v := .tuple #[.agg #[.iface 227 (.pointer (some ⟨b, 0, none⟩)), .int .i32 loc], .bool false]) ?_ rfl ⟨rfl, hO.sub [1] (by decide)⟩
  simp [results, Tryd.results35, go_sem, z9_2_0, z9_2_1]
def coldofPost (pb : Nat) (PC : Array Value) (mp cr : Nat) (r s : Bool) (loc : Int) (d kT kx : Nat) (tl nl : Int) (nm : ByteArray) (b pp : Nat) (dl : Int) (w0 : World) (X : Nat → Obj → Prop) (e : Ending) (w' : World) : Prop :=
  e = .returned (.tuple #[.agg #[.iface 229 (.pointer (some ⟨b, 0, none⟩)), .int .i32 loc], .bool false]) ∧ Own w0 w' [row (pb) 206 PC] X
set_option maxRecDepth 100000 in
set_option maxHeartbeats 2000000 in
theorem coldof (pb : Nat) (PC : Array Value) (mp cr : Nat) (r s : Bool) (loc : Int) (d kT kx : Nat) (tl nl : Int) (nm : ByteArray) (b pp : Nat) (dl : Int) (w0 w : World) (X : Nat → Obj → Prop) (hO : Own w0 w [row (pb) 206 PC] X) (hD : Dead PC mp cr r s) (hl : PC[338]? = some (.bool false)) (hxd : X d (.cells #[.iface kT (.pointer (some ⟨kx, 0, none⟩)), .int .i32 tl, .string nm, .int .i32 nl, .int .u8 0, .bool false, .bool false, .bool false] 44 (0, 0))) (hxo : X b (.cells #[.slice (some ⟨pp, 0, none⟩) 1 1, .int .i32 0, .int .i32 0, .bool false, .bool false] 237 (0, 0))) (hxp : X pp (.cells #[.pointer none, .nilIface, .int .i32 0, .iface 40 (.pointer (some ⟨d, 0, none⟩)), .int .i32 dl, .nilIface, .int .i32 0, .slice none 0 0, .int .i32 0, .int .i32 0, .int .u8 0, .int .u8 0] 243 (0, 0))) :
    Calls Tryd.prog 35 #[.pointer (some ⟨pb, 0, none⟩), .agg #[.iface 229 (.pointer (some ⟨b, 0, none⟩)), .int .i32 loc]] w (coldofPost pb PC mp cr r s loc d kT kx tl nl nm b pp dl w0 X) := by
  go_enter Tryd.func35, Tryd.ntmps35
  have fo0 : w.cell? ⟨b, 0, none⟩ = some (.slice (some ⟨pp, 0, none⟩) 1 1) := Base.RowAt.cell (show Base.RowAt w b 237 #[.slice (some ⟨pp, 0, none⟩) 1 1, .int .i32 0, .int .i32 0, .bool false, .bool false] from (hO.frame _ _ hxo).2.1) rfl
  have fo1 : w.cell? ⟨b, 1, none⟩ = some (.int .i32 0) := Base.RowAt.cell (show Base.RowAt w b 237 #[.slice (some ⟨pp, 0, none⟩) 1 1, .int .i32 0, .int .i32 0, .bool false, .bool false] from (hO.frame _ _ hxo).2.1) rfl
  have fo2 : w.cell? ⟨b, 2, none⟩ = some (.int .i32 0) := Base.RowAt.cell (show Base.RowAt w b 237 #[.slice (some ⟨pp, 0, none⟩) 1 1, .int .i32 0, .int .i32 0, .bool false, .bool false] from (hO.frame _ _ hxo).2.1) rfl
  have fo3 : w.cell? ⟨b, 3, none⟩ = some (.bool false) := Base.RowAt.cell (show Base.RowAt w b 237 #[.slice (some ⟨pp, 0, none⟩) 1 1, .int .i32 0, .int .i32 0, .bool false, .bool false] from (hO.frame _ _ hxo).2.1) rfl
  have fo4 : w.cell? ⟨b, 4, none⟩ = some (.bool false) := Base.RowAt.cell (show Base.RowAt w b 237 #[.slice (some ⟨pp, 0, none⟩) 1 1, .int .i32 0, .int .i32 0, .bool false, .bool false] from (hO.frame _ _ hxo).2.1) rfl
  have fol : b < w.heap.size := Base.block_of_cell fo0
  have fp0 : w.cell? ⟨pp, 0, none⟩ = some (.pointer none) := Base.RowAt.cell (show Base.RowAt w pp 243 #[.pointer none, .nilIface, .int .i32 0, .iface 40 (.pointer (some ⟨d, 0, none⟩)), .int .i32 dl, .nilIface, .int .i32 0, .slice none 0 0, .int .i32 0, .int .i32 0, .int .u8 0, .int .u8 0] from (hO.frame _ _ hxp).2.1) rfl
  have fp1 : w.cell? ⟨pp, 1, none⟩ = some (.nilIface) := Base.RowAt.cell (show Base.RowAt w pp 243 #[.pointer none, .nilIface, .int .i32 0, .iface 40 (.pointer (some ⟨d, 0, none⟩)), .int .i32 dl, .nilIface, .int .i32 0, .slice none 0 0, .int .i32 0, .int .i32 0, .int .u8 0, .int .u8 0] from (hO.frame _ _ hxp).2.1) rfl
  have fp2 : w.cell? ⟨pp, 2, none⟩ = some (.int .i32 0) := Base.RowAt.cell (show Base.RowAt w pp 243 #[.pointer none, .nilIface, .int .i32 0, .iface 40 (.pointer (some ⟨d, 0, none⟩)), .int .i32 dl, .nilIface, .int .i32 0, .slice none 0 0, .int .i32 0, .int .i32 0, .int .u8 0, .int .u8 0] from (hO.frame _ _ hxp).2.1) rfl
  have fp3 : w.cell? ⟨pp, 3, none⟩ = some (.iface 40 (.pointer (some ⟨d, 0, none⟩))) := Base.RowAt.cell (show Base.RowAt w pp 243 #[.pointer none, .nilIface, .int .i32 0, .iface 40 (.pointer (some ⟨d, 0, none⟩)), .int .i32 dl, .nilIface, .int .i32 0, .slice none 0 0, .int .i32 0, .int .i32 0, .int .u8 0, .int .u8 0] from (hO.frame _ _ hxp).2.1) rfl
  have fp4 : w.cell? ⟨pp, 4, none⟩ = some (.int .i32 dl) := Base.RowAt.cell (show Base.RowAt w pp 243 #[.pointer none, .nilIface, .int .i32 0, .iface 40 (.pointer (some ⟨d, 0, none⟩)), .int .i32 dl, .nilIface, .int .i32 0, .slice none 0 0, .int .i32 0, .int .i32 0, .int .u8 0, .int .u8 0] from (hO.frame _ _ hxp).2.1) rfl
  have fp5 : w.cell? ⟨pp, 5, none⟩ = some (.nilIface) := Base.RowAt.cell (show Base.RowAt w pp 243 #[.pointer none, .nilIface, .int .i32 0, .iface 40 (.pointer (some ⟨d, 0, none⟩)), .int .i32 dl, .nilIface, .int .i32 0, .slice none 0 0, .int .i32 0, .int .i32 0, .int .u8 0, .int .u8 0] from (hO.frame _ _ hxp).2.1) rfl
  have fp6 : w.cell? ⟨pp, 6, none⟩ = some (.int .i32 0) := Base.RowAt.cell (show Base.RowAt w pp 243 #[.pointer none, .nilIface, .int .i32 0, .iface 40 (.pointer (some ⟨d, 0, none⟩)), .int .i32 dl, .nilIface, .int .i32 0, .slice none 0 0, .int .i32 0, .int .i32 0, .int .u8 0, .int .u8 0] from (hO.frame _ _ hxp).2.1) rfl
  have fp7 : w.cell? ⟨pp, 7, none⟩ = some (.slice none 0 0) := Base.RowAt.cell (show Base.RowAt w pp 243 #[.pointer none, .nilIface, .int .i32 0, .iface 40 (.pointer (some ⟨d, 0, none⟩)), .int .i32 dl, .nilIface, .int .i32 0, .slice none 0 0, .int .i32 0, .int .i32 0, .int .u8 0, .int .u8 0] from (hO.frame _ _ hxp).2.1) rfl
  have fp8 : w.cell? ⟨pp, 8, none⟩ = some (.int .i32 0) := Base.RowAt.cell (show Base.RowAt w pp 243 #[.pointer none, .nilIface, .int .i32 0, .iface 40 (.pointer (some ⟨d, 0, none⟩)), .int .i32 dl, .nilIface, .int .i32 0, .slice none 0 0, .int .i32 0, .int .i32 0, .int .u8 0, .int .u8 0] from (hO.frame _ _ hxp).2.1) rfl
  have fp9 : w.cell? ⟨pp, 9, none⟩ = some (.int .i32 0) := Base.RowAt.cell (show Base.RowAt w pp 243 #[.pointer none, .nilIface, .int .i32 0, .iface 40 (.pointer (some ⟨d, 0, none⟩)), .int .i32 dl, .nilIface, .int .i32 0, .slice none 0 0, .int .i32 0, .int .i32 0, .int .u8 0, .int .u8 0] from (hO.frame _ _ hxp).2.1) rfl
  have fp10 : w.cell? ⟨pp, 10, none⟩ = some (.int .u8 0) := Base.RowAt.cell (show Base.RowAt w pp 243 #[.pointer none, .nilIface, .int .i32 0, .iface 40 (.pointer (some ⟨d, 0, none⟩)), .int .i32 dl, .nilIface, .int .i32 0, .slice none 0 0, .int .i32 0, .int .i32 0, .int .u8 0, .int .u8 0] from (hO.frame _ _ hxp).2.1) rfl
  have fp11 : w.cell? ⟨pp, 11, none⟩ = some (.int .u8 0) := Base.RowAt.cell (show Base.RowAt w pp 243 #[.pointer none, .nilIface, .int .i32 0, .iface 40 (.pointer (some ⟨d, 0, none⟩)), .int .i32 dl, .nilIface, .int .i32 0, .slice none 0 0, .int .i32 0, .int .i32 0, .int .u8 0, .int .u8 0] from (hO.frame _ _ hxp).2.1) rfl
  have fpl : pp < w.heap.size := Base.block_of_cell fp0
  go_wp2_with (first | (with_reducible refine Own.stay (fn := Tryd.f35) ?_) | (first | (go_at_call 34; go_in)))
  try with_reducible refine Own.Stay.mk ?_
  have HO := Lib.hid hO
  clear hO
  have hO := HO.out
  clear HO fo0 fo1 fo2 fo3 fo4 fol fp0 fp1 fp2 fp3 fp4 fp5 fp6 fp7 fp8 fp9 fp10 fp11 fpl
  generalize hW : World.alloc _ _ = W2
  have hN : Own w0 W2 [row (w.heap.size + 1) 30 #[.nilIface, .int .i32 0], row (w.heap.size) 30 #[.iface 229 (.pointer (some ⟨b, 0, none⟩)), .int .i32 loc], row (pb) 206 PC] X := by
    rw [← hW]
    exact ((hO).alloc' _ (w.heap.size) (by simp)).alloc' _ (w.heap.size + 1) (by simp)
  clear hW hO
  generalize w.heap.size + 1 = B1_1 at hN ⊢
  generalize w.heap.size = B1 at hN ⊢
  have hO := hN
  clear hN
  go_loopg [6, 222] 2 (fun gf s6 s222 wx => s6 = .bool false ∧ ((gf = 2 ∧ s222 = .int .i64 0) ∨ (gf = 1 ∧ s222 = .int .i64 1)) ∧ Own w0 wx [row (B1_1) 30 #[.nilIface, .int .i32 0], row (B1) 30 #[.iface 229 (.pointer (some ⟨b, 0, none⟩)), .int .i32 loc], row (pb) 206 PC] X)
  case atStart => exact ⟨rfl, Or.inl ⟨rfl, rfl⟩, hO⟩
  obtain ⟨rfl, ⟨rfl, rfl⟩ | ⟨rfl, rfl⟩, hO⟩ := hrel
  · skip
    obtain ⟨c9_0_0, c9_0_1, lt9_0, y9_0, -⟩ := hO.k2 0 rfl
    obtain ⟨c9_1_0, c9_1_1, lt9_1, y9_1, -⟩ := hO.k2 1 rfl
    have HO := Lib.hid hO
    clear hO
    have fo0 : wr.cell? ⟨b, 0, none⟩ = some (.slice (some ⟨pp, 0, none⟩) 1 1) := Base.RowAt.cell (show Base.RowAt wr b 237 #[.slice (some ⟨pp, 0, none⟩) 1 1, .int .i32 0, .int .i32 0, .bool false, .bool false] from (HO.out.frame _ _ hxo).2.1) rfl
    have fo1 : wr.cell? ⟨b, 1, none⟩ = some (.int .i32 0) := Base.RowAt.cell (show Base.RowAt wr b 237 #[.slice (some ⟨pp, 0, none⟩) 1 1, .int .i32 0, .int .i32 0, .bool false, .bool false] from (HO.out.frame _ _ hxo).2.1) rfl
    have fo2 : wr.cell? ⟨b, 2, none⟩ = some (.int .i32 0) := Base.RowAt.cell (show Base.RowAt wr b 237 #[.slice (some ⟨pp, 0, none⟩) 1 1, .int .i32 0, .int .i32 0, .bool false, .bool false] from (HO.out.frame _ _ hxo).2.1) rfl
    have fo3 : wr.cell? ⟨b, 3, none⟩ = some (.bool false) := Base.RowAt.cell (show Base.RowAt wr b 237 #[.slice (some ⟨pp, 0, none⟩) 1 1, .int .i32 0, .int .i32 0, .bool false, .bool false] from (HO.out.frame _ _ hxo).2.1) rfl
    have fo4 : wr.cell? ⟨b, 4, none⟩ = some (.bool false) := Base.RowAt.cell (show Base.RowAt wr b 237 #[.slice (some ⟨pp, 0, none⟩) 1 1, .int .i32 0, .int .i32 0, .bool false, .bool false] from (HO.out.frame _ _ hxo).2.1) rfl
    have fol : b < wr.heap.size := Base.block_of_cell fo0
    have fp0 : wr.cell? ⟨pp, 0, none⟩ = some (.pointer none) := Base.RowAt.cell (show Base.RowAt wr pp 243 #[.pointer none, .nilIface, .int .i32 0, .iface 40 (.pointer (some ⟨d, 0, none⟩)), .int .i32 dl, .nilIface, .int .i32 0, .slice none 0 0, .int .i32 0, .int .i32 0, .int .u8 0, .int .u8 0] from (HO.out.frame _ _ hxp).2.1) rfl
    have fp1 : wr.cell? ⟨pp, 1, none⟩ = some (.nilIface) := Base.RowAt.cell (show Base.RowAt wr pp 243 #[.pointer none, .nilIface, .int .i32 0, .iface 40 (.pointer (some ⟨d, 0, none⟩)), .int .i32 dl, .nilIface, .int .i32 0, .slice none 0 0, .int .i32 0, .int .i32 0, .int .u8 0, .int .u8 0] from (HO.out.frame _ _ hxp).2.1) rfl
    have fp2 : wr.cell? ⟨pp, 2, none⟩ = some (.int .i32 0) := Base.RowAt.cell (show Base.RowAt wr pp 243 #[.pointer none, .nilIface, .int .i32 0, .iface 40 (.pointer (some ⟨d, 0, none⟩)), .int .i32 dl, .nilIface, .int .i32 0, .slice none 0 0, .int .i32 0, .int .i32 0, .int .u8 0, .int .u8 0] from (HO.out.frame _ _ hxp).2.1) rfl
    have fp3 : wr.cell? ⟨pp, 3, none⟩ = some (.iface 40 (.pointer (some ⟨d, 0, none⟩))) := Base.RowAt.cell (show Base.RowAt wr pp 243 #[.pointer none, .nilIface, .int .i32 0, .iface 40 (.pointer (some ⟨d, 0, none⟩)), .int .i32 dl, .nilIface, .int .i32 0, .slice none 0 0, .int .i32 0, .int .i32 0, .int .u8 0, .int .u8 0] from (HO.out.frame _ _ hxp).2.1) rfl
    have fp4 : wr.cell? ⟨pp, 4, none⟩ = some (.int .i32 dl) := Base.RowAt.cell (show Base.RowAt wr pp 243 #[.pointer none, .nilIface, .int .i32 0, .iface 40 (.pointer (some ⟨d, 0, none⟩)), .int .i32 dl, .nilIface, .int .i32 0, .slice none 0 0, .int .i32 0, .int .i32 0, .int .u8 0, .int .u8 0] from (HO.out.frame _ _ hxp).2.1) rfl
    have fp5 : wr.cell? ⟨pp, 5, none⟩ = some (.nilIface) := Base.RowAt.cell (show Base.RowAt wr pp 243 #[.pointer none, .nilIface, .int .i32 0, .iface 40 (.pointer (some ⟨d, 0, none⟩)), .int .i32 dl, .nilIface, .int .i32 0, .slice none 0 0, .int .i32 0, .int .i32 0, .int .u8 0, .int .u8 0] from (HO.out.frame _ _ hxp).2.1) rfl
    have fp6 : wr.cell? ⟨pp, 6, none⟩ = some (.int .i32 0) := Base.RowAt.cell (show Base.RowAt wr pp 243 #[.pointer none, .nilIface, .int .i32 0, .iface 40 (.pointer (some ⟨d, 0, none⟩)), .int .i32 dl, .nilIface, .int .i32 0, .slice none 0 0, .int .i32 0, .int .i32 0, .int .u8 0, .int .u8 0] from (HO.out.frame _ _ hxp).2.1) rfl
    have fp7 : wr.cell? ⟨pp, 7, none⟩ = some (.slice none 0 0) := Base.RowAt.cell (show Base.RowAt wr pp 243 #[.pointer none, .nilIface, .int .i32 0, .iface 40 (.pointer (some ⟨d, 0, none⟩)), .int .i32 dl, .nilIface, .int .i32 0, .slice none 0 0, .int .i32 0, .int .i32 0, .int .u8 0, .int .u8 0] from (HO.out.frame _ _ hxp).2.1) rfl
    have fp8 : wr.cell? ⟨pp, 8, none⟩ = some (.int .i32 0) := Base.RowAt.cell (show Base.RowAt wr pp 243 #[.pointer none, .nilIface, .int .i32 0, .iface 40 (.pointer (some ⟨d, 0, none⟩)), .int .i32 dl, .nilIface, .int .i32 0, .slice none 0 0, .int .i32 0, .int .i32 0, .int .u8 0, .int .u8 0] from (HO.out.frame _ _ hxp).2.1) rfl
    have fp9 : wr.cell? ⟨pp, 9, none⟩ = some (.int .i32 0) := Base.RowAt.cell (show Base.RowAt wr pp 243 #[.pointer none, .nilIface, .int .i32 0, .iface 40 (.pointer (some ⟨d, 0, none⟩)), .int .i32 dl, .nilIface, .int .i32 0, .slice none 0 0, .int .i32 0, .int .i32 0, .int .u8 0, .int .u8 0] from (HO.out.frame _ _ hxp).2.1) rfl
    have fp10 : wr.cell? ⟨pp, 10, none⟩ = some (.int .u8 0) := Base.RowAt.cell (show Base.RowAt wr pp 243 #[.pointer none, .nilIface, .int .i32 0, .iface 40 (.pointer (some ⟨d, 0, none⟩)), .int .i32 dl, .nilIface, .int .i32 0, .slice none 0 0, .int .i32 0, .int .i32 0, .int .u8 0, .int .u8 0] from (HO.out.frame _ _ hxp).2.1) rfl
    have fp11 : wr.cell? ⟨pp, 11, none⟩ = some (.int .u8 0) := Base.RowAt.cell (show Base.RowAt wr pp 243 #[.pointer none, .nilIface, .int .i32 0, .iface 40 (.pointer (some ⟨d, 0, none⟩)), .int .i32 dl, .nilIface, .int .i32 0, .slice none 0 0, .int .i32 0, .int .i32 0, .int .u8 0, .int .u8 0] from (HO.out.frame _ _ hxp).2.1) rfl
    have fpl : pp < wr.heap.size := Base.block_of_cell fp0
    go_wp2_with (first | (with_reducible refine Own.stay (fn := Tryd.f35) ?_) | (first | (go_at_call 34; go_in)))
    try with_reducible refine Own.Stay.mk ?_
    have hO := HO.out
    clear HO fo0 fo1 fo2 fo3 fo4 fol fp0 fp1 fp2 fp3 fp4 fp5 fp6 fp7 fp8 fp9 fp10 fp11 fpl c9_0_0 c9_0_1 lt9_0 y9_0 c9_1_0 c9_1_1 lt9_1 y9_1
    generalize hW : World.alloc _ _ = W4
    have hN : Own w0 W4 [row (wr.heap.size) 243 #[.pointer none, .nilIface, .int .i32 0, .iface 40 (.pointer (some ⟨d, 0, none⟩)), .int .i32 dl, .nilIface, .int .i32 0, .slice none 0 0, .int .i32 0, .int .i32 0, .int .u8 0, .int .u8 0], row (B1_1) 30 #[.nilIface, .int .i32 0], row (B1) 30 #[.iface 229 (.pointer (some ⟨b, 0, none⟩)), .int .i32 loc], row (pb) 206 PC] X := by
      rw [← hW]
      exact (hO).alloc' _ (wr.heap.size) (by simp)
    clear hW hO
    generalize wr.heap.size = B3 at hN ⊢
    have hO := hN
    clear hN
    have hL := hO.apart
    have hX := hO.apartX
    have HL := Lib.hid hL
    have HX := Lib.hid hX
    clear hL hX
    have hP9 := hO.pick [3] (by decide)
    have T9 := colddf pb PC mp cr r s dl d _ _ _ _ _ _ _ _ hP9 hD hl (Or.inl hxd)
    refine Calls.mono T9 ?_
    clear hP9 T9
    rintro e uw5 ⟨rfl, hQ⟩
    have hN : Own w0 uw5 [row (pb) 206 PC, row (B3) 243 #[.pointer none, .nilIface, .int .i32 0, .iface 40 (.pointer (some ⟨d, 0, none⟩)), .int .i32 dl, .nilIface, .int .i32 0, .slice none 0 0, .int .i32 0, .int .i32 0, .int .u8 0, .int .u8 0], row (B1_1) 30 #[.nilIface, .int .i32 0], row (B1) 30 #[.iface 229 (.pointer (some ⟨b, 0, none⟩)), .int .i32 loc]] X := hQ.back HL.out HX.out [0, 1, 2] (by decide) (by decide)
    clear hQ HL HX hO
    have hO := hN
    clear hN
    obtain ⟨c9_2_0, c9_2_1, lt9_2, y9_2, -⟩ := hO.k2 2 rfl
    obtain ⟨c9_3_0, c9_3_1, lt9_3, y9_3, -⟩ := hO.k2 3 rfl
    have HO := Lib.hid hO
    clear hO
    have fo0 : uw5.cell? ⟨b, 0, none⟩ = some (.slice (some ⟨pp, 0, none⟩) 1 1) := Base.RowAt.cell (show Base.RowAt uw5 b 237 #[.slice (some ⟨pp, 0, none⟩) 1 1, .int .i32 0, .int .i32 0, .bool false, .bool false] from (HO.out.frame _ _ hxo).2.1) rfl
    have fo1 : uw5.cell? ⟨b, 1, none⟩ = some (.int .i32 0) := Base.RowAt.cell (show Base.RowAt uw5 b 237 #[.slice (some ⟨pp, 0, none⟩) 1 1, .int .i32 0, .int .i32 0, .bool false, .bool false] from (HO.out.frame _ _ hxo).2.1) rfl
    have fo2 : uw5.cell? ⟨b, 2, none⟩ = some (.int .i32 0) := Base.RowAt.cell (show Base.RowAt uw5 b 237 #[.slice (some ⟨pp, 0, none⟩) 1 1, .int .i32 0, .int .i32 0, .bool false, .bool false] from (HO.out.frame _ _ hxo).2.1) rfl
    have fo3 : uw5.cell? ⟨b, 3, none⟩ = some (.bool false) := Base.RowAt.cell (show Base.RowAt uw5 b 237 #[.slice (some ⟨pp, 0, none⟩) 1 1, .int .i32 0, .int .i32 0, .bool false, .bool false] from (HO.out.frame _ _ hxo).2.1) rfl
    have fo4 : uw5.cell? ⟨b, 4, none⟩ = some (.bool false) := Base.RowAt.cell (show Base.RowAt uw5 b 237 #[.slice (some ⟨pp, 0, none⟩) 1 1, .int .i32 0, .int .i32 0, .bool false, .bool false] from (HO.out.frame _ _ hxo).2.1) rfl
    have fol : b < uw5.heap.size := Base.block_of_cell fo0
    have fp0 : uw5.cell? ⟨pp, 0, none⟩ = some (.pointer none) := Base.RowAt.cell (show Base.RowAt uw5 pp 243 #[.pointer none, .nilIface, .int .i32 0, .iface 40 (.pointer (some ⟨d, 0, none⟩)), .int .i32 dl, .nilIface, .int .i32 0, .slice none 0 0, .int .i32 0, .int .i32 0, .int .u8 0, .int .u8 0] from (HO.out.frame _ _ hxp).2.1) rfl
    have fp1 : uw5.cell? ⟨pp, 1, none⟩ = some (.nilIface) := Base.RowAt.cell (show Base.RowAt uw5 pp 243 #[.pointer none, .nilIface, .int .i32 0, .iface 40 (.pointer (some ⟨d, 0, none⟩)), .int .i32 dl, .nilIface, .int .i32 0, .slice none 0 0, .int .i32 0, .int .i32 0, .int .u8 0, .int .u8 0] from (HO.out.frame _ _ hxp).2.1) rfl
    have fp2 : uw5.cell? ⟨pp, 2, none⟩ = some (.int .i32 0) := Base.RowAt.cell (show Base.RowAt uw5 pp 243 #[.pointer none, .nilIface, .int .i32 0, .iface 40 (.pointer (some ⟨d, 0, none⟩)), .int .i32 dl, .nilIface, .int .i32 0, .slice none 0 0, .int .i32 0, .int .i32 0, .int .u8 0, .int .u8 0] from (HO.out.frame _ _ hxp).2.1) rfl
    have fp3 : uw5.cell? ⟨pp, 3, none⟩ = some (.iface 40 (.pointer (some ⟨d, 0, none⟩))) := Base.RowAt.cell (show Base.RowAt uw5 pp 243 #[.pointer none, .nilIface, .int .i32 0, .iface 40 (.pointer (some ⟨d, 0, none⟩)), .int .i32 dl, .nilIface, .int .i32 0, .slice none 0 0, .int .i32 0, .int .i32 0, .int .u8 0, .int .u8 0] from (HO.out.frame _ _ hxp).2.1) rfl
    have fp4 : uw5.cell? ⟨pp, 4, none⟩ = some (.int .i32 dl) := Base.RowAt.cell (show Base.RowAt uw5 pp 243 #[.pointer none, .nilIface, .int .i32 0, .iface 40 (.pointer (some ⟨d, 0, none⟩)), .int .i32 dl, .nilIface, .int .i32 0, .slice none 0 0, .int .i32 0, .int .i32 0, .int .u8 0, .int .u8 0] from (HO.out.frame _ _ hxp).2.1) rfl
    have fp5 : uw5.cell? ⟨pp, 5, none⟩ = some (.nilIface) := Base.RowAt.cell (show Base.RowAt uw5 pp 243 #[.pointer none, .nilIface, .int .i32 0, .iface 40 (.pointer (some ⟨d, 0, none⟩)), .int .i32 dl, .nilIface, .int .i32 0, .slice none 0 0, .int .i32 0, .int .i32 0, .int .u8 0, .int .u8 0] from (HO.out.frame _ _ hxp).2.1) rfl
    have fp6 : uw5.cell? ⟨pp, 6, none⟩ = some (.int .i32 0) := Base.RowAt.cell (show Base.RowAt uw5 pp 243 #[.pointer none, .nilIface, .int .i32 0, .iface 40 (.pointer (some ⟨d, 0, none⟩)), .int .i32 dl, .nilIface, .int .i32 0, .slice none 0 0, .int .i32 0, .int .i32 0, .int .u8 0, .int .u8 0] from (HO.out.frame _ _ hxp).2.1) rfl
    have fp7 : uw5.cell? ⟨pp, 7, none⟩ = some (.slice none 0 0) := Base.RowAt.cell (show Base.RowAt uw5 pp 243 #[.pointer none, .nilIface, .int .i32 0, .iface 40 (.pointer (some ⟨d, 0, none⟩)), .int .i32 dl, .nilIface, .int .i32 0, .slice none 0 0, .int .i32 0, .int .i32 0, .int .u8 0, .int .u8 0] from (HO.out.frame _ _ hxp).2.1) rfl
    have fp8 : uw5.cell? ⟨pp, 8, none⟩ = some (.int .i32 0) := Base.RowAt.cell (show Base.RowAt uw5 pp 243 #[.pointer none, .nilIface, .int .i32 0, .iface 40 (.pointer (some ⟨d, 0, none⟩)), .int .i32 dl, .nilIface, .int .i32 0, .slice none 0 0, .int .i32 0, .int .i32 0, .int .u8 0, .int .u8 0] from (HO.out.frame _ _ hxp).2.1) rfl
    have fp9 : uw5.cell? ⟨pp, 9, none⟩ = some (.int .i32 0) := Base.RowAt.cell (show Base.RowAt uw5 pp 243 #[.pointer none, .nilIface, .int .i32 0, .iface 40 (.pointer (some ⟨d, 0, none⟩)), .int .i32 dl, .nilIface, .int .i32 0, .slice none 0 0, .int .i32 0, .int .i32 0, .int .u8 0, .int .u8 0] from (HO.out.frame _ _ hxp).2.1) rfl
    have fp10 : uw5.cell? ⟨pp, 10, none⟩ = some (.int .u8 0) := Base.RowAt.cell (show Base.RowAt uw5 pp 243 #[.pointer none, .nilIface, .int .i32 0, .iface 40 (.pointer (some ⟨d, 0, none⟩)), .int .i32 dl, .nilIface, .int .i32 0, .slice none 0 0, .int .i32 0, .int .i32 0, .int .u8 0, .int .u8 0] from (HO.out.frame _ _ hxp).2.1) rfl
    have fp11 : uw5.cell? ⟨pp, 11, none⟩ = some (.int .u8 0) := Base.RowAt.cell (show Base.RowAt uw5 pp 243 #[.pointer none, .nilIface, .int .i32 0, .iface 40 (.pointer (some ⟨d, 0, none⟩)), .int .i32 dl, .nilIface, .int .i32 0, .slice none 0 0, .int .i32 0, .int .i32 0, .int .u8 0, .int .u8 0] from (HO.out.frame _ _ hxp).2.1) rfl
    have fpl : pp < uw5.heap.size := Base.block_of_cell fp0
    go_wp2_with (first | (with_reducible refine Own.stay (fn := Tryd.f35) ?_) | (first | (go_at_call 34; go_in)))
    try with_reducible refine Own.Stay.mk ?_
    have hO := HO.out
    clear HO fo0 fo1 fo2 fo3 fo4 fol fp0 fp1 fp2 fp3 fp4 fp5 fp6 fp7 fp8 fp9 fp10 fp11 fpl c9_2_0 c9_2_1 lt9_2 y9_2 c9_3_0 c9_3_1 lt9_3 y9_3
    generalize hW : World.alloc _ _ = W7
    have hN : Own w0 W7 [row (uw5.heap.size) 30 #[.iface 40 (.pointer (some ⟨d, 0, none⟩)), .int .i32 dl], row (pb) 206 PC, row (B3) 243 #[.pointer none, .nilIface, .int .i32 0, .iface 40 (.pointer (some ⟨d, 0, none⟩)), .int .i32 dl, .nilIface, .int .i32 0, .slice none 0 0, .int .i32 0, .int .i32 0, .int .u8 0, .int .u8 0], row (B1_1) 30 #[.nilIface, .int .i32 0], row (B1) 30 #[.iface 229 (.pointer (some ⟨b, 0, none⟩)), .int .i32 loc]] X := by
      rw [← hW]
      exact (hO).alloc' _ (uw5.heap.size) (by simp)
    clear hW hO
    generalize uw5.heap.size = B6 at hN ⊢
    have hO := hN
    clear hN
    go_roundg 1
    case measure => omega
    case rel => exact ⟨rfl, Or.inr ⟨rfl, rfl⟩, hO.sub [3, 4, 1] (by decide)⟩
  obtain ⟨c9_0_0, c9_0_1, lt9_0, y9_0, -⟩ := hO.k2 0 rfl
  obtain ⟨c9_1_0, c9_1_1, lt9_1, y9_1, -⟩ := hO.k2 1 rfl
  have HO := Lib.hid hO
  clear hO
  have fo0 : wr.cell? ⟨b, 0, none⟩ = some (.slice (some ⟨pp, 0, none⟩) 1 1) := Base.RowAt.cell (show Base.RowAt wr b 237 #[.slice (some ⟨pp, 0, none⟩) 1 1, .int .i32 0, .int .i32 0, .bool false, .bool false] from (HO.out.frame _ _ hxo).2.1) rfl
  have fo1 : wr.cell? ⟨b, 1, none⟩ = some (.int .i32 0) := Base.RowAt.cell (show Base.RowAt wr b 237 #[.slice (some ⟨pp, 0, none⟩) 1 1, .int .i32 0, .int .i32 0, .bool false, .bool false] from (HO.out.frame _ _ hxo).2.1) rfl
  have fo2 : wr.cell? ⟨b, 2, none⟩ = some (.int .i32 0) := Base.RowAt.cell (show Base.RowAt wr b 237 #[.slice (some ⟨pp, 0, none⟩) 1 1, .int .i32 0, .int .i32 0, .bool false, .bool false] from (HO.out.frame _ _ hxo).2.1) rfl
  have fo3 : wr.cell? ⟨b, 3, none⟩ = some (.bool false) := Base.RowAt.cell (show Base.RowAt wr b 237 #[.slice (some ⟨pp, 0, none⟩) 1 1, .int .i32 0, .int .i32 0, .bool false, .bool false] from (HO.out.frame _ _ hxo).2.1) rfl
  have fo4 : wr.cell? ⟨b, 4, none⟩ = some (.bool false) := Base.RowAt.cell (show Base.RowAt wr b 237 #[.slice (some ⟨pp, 0, none⟩) 1 1, .int .i32 0, .int .i32 0, .bool false, .bool false] from (HO.out.frame _ _ hxo).2.1) rfl
  have fol : b < wr.heap.size := Base.block_of_cell fo0
  have fp0 : wr.cell? ⟨pp, 0, none⟩ = some (.pointer none) := Base.RowAt.cell (show Base.RowAt wr pp 243 #[.pointer none, .nilIface, .int .i32 0, .iface 40 (.pointer (some ⟨d, 0, none⟩)), .int .i32 dl, .nilIface, .int .i32 0, .slice none 0 0, .int .i32 0, .int .i32 0, .int .u8 0, .int .u8 0] from (HO.out.frame _ _ hxp).2.1) rfl
  have fp1 : wr.cell? ⟨pp, 1, none⟩ = some (.nilIface) := Base.RowAt.cell (show Base.RowAt wr pp 243 #[.pointer none, .nilIface, .int .i32 0, .iface 40 (.pointer (some ⟨d, 0, none⟩)), .int .i32 dl, .nilIface, .int .i32 0, .slice none 0 0, .int .i32 0, .int .i32 0, .int .u8 0, .int .u8 0] from (HO.out.frame _ _ hxp).2.1) rfl
  have fp2 : wr.cell? ⟨pp, 2, none⟩ = some (.int .i32 0) := Base.RowAt.cell (show Base.RowAt wr pp 243 #[.pointer none, .nilIface, .int .i32 0, .iface 40 (.pointer (some ⟨d, 0, none⟩)), .int .i32 dl, .nilIface, .int .i32 0, .slice none 0 0, .int .i32 0, .int .i32 0, .int .u8 0, .int .u8 0] from (HO.out.frame _ _ hxp).2.1) rfl
  have fp3 : wr.cell? ⟨pp, 3, none⟩ = some (.iface 40 (.pointer (some ⟨d, 0, none⟩))) := Base.RowAt.cell (show Base.RowAt wr pp 243 #[.pointer none, .nilIface, .int .i32 0, .iface 40 (.pointer (some ⟨d, 0, none⟩)), .int .i32 dl, .nilIface, .int .i32 0, .slice none 0 0, .int .i32 0, .int .i32 0, .int .u8 0, .int .u8 0] from (HO.out.frame _ _ hxp).2.1) rfl
  have fp4 : wr.cell? ⟨pp, 4, none⟩ = some (.int .i32 dl) := Base.RowAt.cell (show Base.RowAt wr pp 243 #[.pointer none, .nilIface, .int .i32 0, .iface 40 (.pointer (some ⟨d, 0, none⟩)), .int .i32 dl, .nilIface, .int .i32 0, .slice none 0 0, .int .i32 0, .int .i32 0, .int .u8 0, .int .u8 0] from (HO.out.frame _ _ hxp).2.1) rfl
  have fp5 : wr.cell? ⟨pp, 5, none⟩ = some (.nilIface) := Base.RowAt.cell (show Base.RowAt wr pp 243 #[.pointer none, .nilIface, .int .i32 0, .iface 40 (.pointer (some ⟨d, 0, none⟩)), .int .i32 dl, .nilIface, .int .i32 0, .slice none 0 0, .int .i32 0, .int .i32 0, .int .u8 0, .int .u8 0] from (HO.out.frame _ _ hxp).2.1) rfl
  have fp6 : wr.cell? ⟨pp, 6, none⟩ = some (.int .i32 0) := Base.RowAt.cell (show Base.RowAt wr pp 243 #[.pointer none, .nilIface, .int .i32 0, .iface 40 (.pointer (some ⟨d, 0, none⟩)), .int .i32 dl, .nilIface, .int .i32 0, .slice none 0 0, .int .i32 0, .int .i32 0, .int .u8 0, .int .u8 0] from (HO.out.frame _ _ hxp).2.1) rfl
  have fp7 : wr.cell? ⟨pp, 7, none⟩ = some (.slice none 0 0) := Base.RowAt.cell (show Base.RowAt wr pp 243 #[.pointer none, .nilIface, .int .i32 0, .iface 40 (.pointer (some ⟨d, 0, none⟩)), .int .i32 dl, .nilIface, .int .i32 0, .slice none 0 0, .int .i32 0, .int .i32 0, .int .u8 0, .int .u8 0] from (HO.out.frame _ _ hxp).2.1) rfl
  have fp8 : wr.cell? ⟨pp, 8, none⟩ = some (.int .i32 0) := Base.RowAt.cell (show Base.RowAt wr pp 243 #[.pointer none, .nilIface, .int .i32 0, .iface 40 (.pointer (some ⟨d, 0, none⟩)), .int .i32 dl, .nilIface, .int .i32 0, .slice none 0 0, .int .i32 0, .int .i32 0, .int .u8 0, .int .u8 0] from (HO.out.frame _ _ hxp).2.1) rfl
  have fp9 : wr.cell? ⟨pp, 9, none⟩ = some (.int .i32 0) := Base.RowAt.cell (show Base.RowAt wr pp 243 #[.pointer none, .nilIface, .int .i32 0, .iface 40 (.pointer (some ⟨d, 0, none⟩)), .int .i32 dl, .nilIface, .int .i32 0, .slice none 0 0, .int .i32 0, .int .i32 0, .int .u8 0, .int .u8 0] from (HO.out.frame _ _ hxp).2.1) rfl
  have fp10 : wr.cell? ⟨pp, 10, none⟩ = some (.int .u8 0) := Base.RowAt.cell (show Base.RowAt wr pp 243 #[.pointer none, .nilIface, .int .i32 0, .iface 40 (.pointer (some ⟨d, 0, none⟩)), .int .i32 dl, .nilIface, .int .i32 0, .slice none 0 0, .int .i32 0, .int .i32 0, .int .u8 0, .int .u8 0] from (HO.out.frame _ _ hxp).2.1) rfl
  have fp11 : wr.cell? ⟨pp, 11, none⟩ = some (.int .u8 0) := Base.RowAt.cell (show Base.RowAt wr pp 243 #[.pointer none, .nilIface, .int .i32 0, .iface 40 (.pointer (some ⟨d, 0, none⟩)), .int .i32 dl, .nilIface, .int .i32 0, .slice none 0 0, .int .i32 0, .int .i32 0, .int .u8 0, .int .u8 0] from (HO.out.frame _ _ hxp).2.1) rfl
  have fpl : pp < wr.heap.size := Base.block_of_cell fp0
  go_wp2_with (first | (with_reducible refine Own.stay (fn := Tryd.f35) ?_) | (first | (go_at_call 34; go_in)))
  try with_reducible refine Own.Stay.mk ?_
  have hO := HO.out
  clear HO fo0 fo1 fo2 fo3 fo4 fol fp0 fp1 fp2 fp3 fp4 fp5 fp6 fp7 fp8 fp9 fp10 fp11 fpl c9_0_0 c9_0_1 lt9_0 y9_0 c9_1_0 c9_1_1 lt9_1 y9_1
  generalize hW : World.setCell _ _ _ = W9
  have hN : Own w0 W9 [row (B1_1) 30 #[.iface 229 (.pointer (some ⟨b, 0, none⟩)), .int .i32 loc], row (B1) 30 #[.iface 229 (.pointer (some ⟨b, 0, none⟩)), .int .i32 loc], row (pb) 206 PC] X := by
    rw [← hW]
    exact ((hO).set 0 rfl 0 _).set 0 rfl 1 _
  clear hW hO
  have hO := hN
  clear hN
  have z9_0_0 : W9.cell? ⟨B1_1, 0, none⟩ = some (.iface 229 (.pointer (some ⟨b, 0, none⟩))) := hO.cell 0 rfl 0 rfl
  have z9_0_1 : W9.cell? ⟨B1_1, 1, none⟩ = some (.int .i32 loc) := hO.cell 0 rfl 1 rfl
  refine bodyPost_ret (v := .tuple #[.agg #[.iface 229 (.pointer (some ⟨b, 0, none⟩)), .int .i32 loc], .bool false]) ?_ rfl ⟨rfl, hO.sub [2] (by decide)⟩
  simp [results, Tryd.results35, go_sem, z9_0_0, z9_0_1]
def coldotPost (pb : Nat) (PC : Array Value) (mp cr : Nat) (r s : Bool) (loc : Int) (d kT kx : Nat) (tl nl : Int) (nm : ByteArray) (b pp : Nat) (dl : Int) (w0 : World) (X : Nat → Obj → Prop) (e : Ending) (w' : World) : Prop :=
  e = .returned (.tuple #[.agg #[.iface 229 (.pointer (some ⟨b, 0, none⟩)), .int .i32 loc], .bool false]) ∧ Own w0 w' [row (pb) 206 PC] X
set_option maxRecDepth 100000 in
set_option maxHeartbeats 2000000 in
theorem coldot (pb : Nat) (PC : Array Value) (mp cr : Nat) (r s : Bool) (loc : Int) (d kT kx : Nat) (tl nl : Int) (nm : ByteArray) (b pp : Nat) (dl : Int) (w0 w : World) (X : Nat → Obj → Prop) (hO : Own w0 w [row (pb) 206 PC] X) (hD : Dead PC mp cr r s) (hl : PC[338]? = some (.bool true)) (hT : kT ≠ 244) (hxd : X d (.cells #[.iface kT (.pointer (some ⟨kx, 0, none⟩)), .int .i32 tl, .string nm, .int .i32 nl, .int .u8 0, .bool false, .bool false, .bool false] 44 (0, 0))) (hxo : X b (.cells #[.slice (some ⟨pp, 0, none⟩) 1 1, .int .i32 0, .int .i32 0, .bool false, .bool false] 237 (0, 0))) (hxp : X pp (.cells #[.pointer none, .nilIface, .int .i32 0, .iface 40 (.pointer (some ⟨d, 0, none⟩)), .int .i32 dl, .nilIface, .int .i32 0, .slice none 0 0, .int .i32 0, .int .i32 0, .int .u8 0, .int .u8 0] 243 (0, 0))) :
    Calls Tryd.prog 35 #[.pointer (some ⟨pb, 0, none⟩), .agg #[.iface 229 (.pointer (some ⟨b, 0, none⟩)), .int .i32 loc]] w (coldotPost pb PC mp cr r s loc d kT kx tl nl nm b pp dl w0 X) := by
  go_enter Tryd.func35, Tryd.ntmps35
  have fo0 : w.cell? ⟨b, 0, none⟩ = some (.slice (some ⟨pp, 0, none⟩) 1 1) := Base.RowAt.cell (show Base.RowAt w b 237 #[.slice (some ⟨pp, 0, none⟩) 1 1, .int .i32 0, .int .i32 0, .bool false, .bool false] from (hO.frame _ _ hxo).2.1) rfl
  have fo1 : w.cell? ⟨b, 1, none⟩ = some (.int .i32 0) := Base.RowAt.cell (show Base.RowAt w b 237 #[.slice (some ⟨pp, 0, none⟩) 1 1, .int .i32 0, .int .i32 0, .bool false, .bool false] from (hO.frame _ _ hxo).2.1) rfl
  have fo2 : w.cell? ⟨b, 2, none⟩ = some (.int .i32 0) := Base.RowAt.cell (show Base.RowAt w b 237 #[.slice (some ⟨pp, 0, none⟩) 1 1, .int .i32 0, .int .i32 0, .bool false, .bool false] from (hO.frame _ _ hxo).2.1) rfl
  have fo3 : w.cell? ⟨b, 3, none⟩ = some (.bool false) := Base.RowAt.cell (show Base.RowAt w b 237 #[.slice (some ⟨pp, 0, none⟩) 1 1, .int .i32 0, .int .i32 0, .bool false, .bool false] from (hO.frame _ _ hxo).2.1) rfl
  have fo4 : w.cell? ⟨b, 4, none⟩ = some (.bool false) := Base.RowAt.cell (show Base.RowAt w b 237 #[.slice (some ⟨pp, 0, none⟩) 1 1, .int .i32 0, .int .i32 0, .bool false, .bool false] from (hO.frame _ _ hxo).2.1) rfl
  have fol : b < w.heap.size := Base.block_of_cell fo0
  have fp0 : w.cell? ⟨pp, 0, none⟩ = some (.pointer none) := Base.RowAt.cell (show Base.RowAt w pp 243 #[.pointer none, .nilIface, .int .i32 0, .iface 40 (.pointer (some ⟨d, 0, none⟩)), .int .i32 dl, .nilIface, .int .i32 0, .slice none 0 0, .int .i32 0, .int .i32 0, .int .u8 0, .int .u8 0] from (hO.frame _ _ hxp).2.1) rfl
  have fp1 : w.cell? ⟨pp, 1, none⟩ = some (.nilIface) := Base.RowAt.cell (show Base.RowAt w pp 243 #[.pointer none, .nilIface, .int .i32 0, .iface 40 (.pointer (some ⟨d, 0, none⟩)), .int .i32 dl, .nilIface, .int .i32 0, .slice none 0 0, .int .i32 0, .int .i32 0, .int .u8 0, .int .u8 0] from (hO.frame _ _ hxp).2.1) rfl
  have fp2 : w.cell? ⟨pp, 2, none⟩ = some (.int .i32 0) := Base.RowAt.cell (show Base.RowAt w pp 243 #[.pointer none, .nilIface, .int .i32 0, .iface 40 (.pointer (some ⟨d, 0, none⟩)), .int .i32 dl, .nilIface, .int .i32 0, .slice none 0 0, .int .i32 0, .int .i32 0, .int .u8 0, .int .u8 0] from (hO.frame _ _ hxp).2.1) rfl
  have fp3 : w.cell? ⟨pp, 3, none⟩ = some (.iface 40 (.pointer (some ⟨d, 0, none⟩))) := Base.RowAt.cell (show Base.RowAt w pp 243 #[.pointer none, .nilIface, .int .i32 0, .iface 40 (.pointer (some ⟨d, 0, none⟩)), .int .i32 dl, .nilIface, .int .i32 0, .slice none 0 0, .int .i32 0, .int .i32 0, .int .u8 0, .int .u8 0] from (hO.frame _ _ hxp).2.1) rfl
  have fp4 : w.cell? ⟨pp, 4, none⟩ = some (.int .i32 dl) := Base.RowAt.cell (show Base.RowAt w pp 243 #[.pointer none, .nilIface, .int .i32 0, .iface 40 (.pointer (some ⟨d, 0, none⟩)), .int .i32 dl, .nilIface, .int .i32 0, .slice none 0 0, .int .i32 0, .int .i32 0, .int .u8 0, .int .u8 0] from (hO.frame _ _ hxp).2.1) rfl
  have fp5 : w.cell? ⟨pp, 5, none⟩ = some (.nilIface) := Base.RowAt.cell (show Base.RowAt w pp 243 #[.pointer none, .nilIface, .int .i32 0, .iface 40 (.pointer (some ⟨d, 0, none⟩)), .int .i32 dl, .nilIface, .int .i32 0, .slice none 0 0, .int .i32 0, .int .i32 0, .int .u8 0, .int .u8 0] from (hO.frame _ _ hxp).2.1) rfl
  have fp6 : w.cell? ⟨pp, 6, none⟩ = some (.int .i32 0) := Base.RowAt.cell (show Base.RowAt w pp 243 #[.pointer none, .nilIface, .int .i32 0, .iface 40 (.pointer (some ⟨d, 0, none⟩)), .int .i32 dl, .nilIface, .int .i32 0, .slice none 0 0, .int .i32 0, .int .i32 0, .int .u8 0, .int .u8 0] from (hO.frame _ _ hxp).2.1) rfl
  have fp7 : w.cell? ⟨pp, 7, none⟩ = some (.slice none 0 0) := Base.RowAt.cell (show Base.RowAt w pp 243 #[.pointer none, .nilIface, .int .i32 0, .iface 40 (.pointer (some ⟨d, 0, none⟩)), .int .i32 dl, .nilIface, .int .i32 0, .slice none 0 0, .int .i32 0, .int .i32 0, .int .u8 0, .int .u8 0] from (hO.frame _ _ hxp).2.1) rfl
  have fp8 : w.cell? ⟨pp, 8, none⟩ = some (.int .i32 0) := Base.RowAt.cell (show Base.RowAt w pp 243 #[.pointer none, .nilIface, .int .i32 0, .iface 40 (.pointer (some ⟨d, 0, none⟩)), .int .i32 dl, .nilIface, .int .i32 0, .slice none 0 0, .int .i32 0, .int .i32 0, .int .u8 0, .int .u8 0] from (hO.frame _ _ hxp).2.1) rfl
  have fp9 : w.cell? ⟨pp, 9, none⟩ = some (.int .i32 0) := Base.RowAt.cell (show Base.RowAt w pp 243 #[.pointer none, .nilIface, .int .i32 0, .iface 40 (.pointer (some ⟨d, 0, none⟩)), .int .i32 dl, .nilIface, .int .i32 0, .slice none 0 0, .int .i32 0, .int .i32 0, .int .u8 0, .int .u8 0] from (hO.frame _ _ hxp).2.1) rfl
  have fp10 : w.cell? ⟨pp, 10, none⟩ = some (.int .u8 0) := Base.RowAt.cell (show Base.RowAt w pp 243 #[.pointer none, .nilIface, .int .i32 0, .iface 40 (.pointer (some ⟨d, 0, none⟩)), .int .i32 dl, .nilIface, .int .i32 0, .slice none 0 0, .int .i32 0, .int .i32 0, .int .u8 0, .int .u8 0] from (hO.frame _ _ hxp).2.1) rfl
  have fp11 : w.cell? ⟨pp, 11, none⟩ = some (.int .u8 0) := Base.RowAt.cell (show Base.RowAt w pp 243 #[.pointer none, .nilIface, .int .i32 0, .iface 40 (.pointer (some ⟨d, 0, none⟩)), .int .i32 dl, .nilIface, .int .i32 0, .slice none 0 0, .int .i32 0, .int .i32 0, .int .u8 0, .int .u8 0] from (hO.frame _ _ hxp).2.1) rfl
  have fpl : pp < w.heap.size := Base.block_of_cell fp0
  go_wp2_with (first | (with_reducible refine Own.stay (fn := Tryd.f35) ?_) | (first | (go_at_call 34; go_in)))
  try with_reducible refine Own.Stay.mk ?_
  have HO := Lib.hid hO
  clear hO
  have hO := HO.out
  clear HO fo0 fo1 fo2 fo3 fo4 fol fp0 fp1 fp2 fp3 fp4 fp5 fp6 fp7 fp8 fp9 fp10 fp11 fpl
  generalize hW : World.alloc _ _ = W2
  have hN : Own w0 W2 [row (w.heap.size + 1) 30 #[.nilIface, .int .i32 0], row (w.heap.size) 30 #[.iface 229 (.pointer (some ⟨b, 0, none⟩)), .int .i32 loc], row (pb) 206 PC] X := by
    rw [← hW]
    exact ((hO).alloc' _ (w.heap.size) (by simp)).alloc' _ (w.heap.size + 1) (by simp)
  clear hW hO
  generalize w.heap.size + 1 = B1_1 at hN ⊢
  generalize w.heap.size = B1 at hN ⊢
  have hO := hN
  clear hN
  go_loopg [6, 222] 2 (fun gf s6 s222 wx => s6 = .bool false ∧ ((gf = 2 ∧ s222 = .int .i64 0) ∨ (gf = 1 ∧ s222 = .int .i64 1)) ∧ Own w0 wx [row (B1_1) 30 #[.nilIface, .int .i32 0], row (B1) 30 #[.iface 229 (.pointer (some ⟨b, 0, none⟩)), .int .i32 loc], row (pb) 206 PC] X)
  case atStart => exact ⟨rfl, Or.inl ⟨rfl, rfl⟩, hO⟩
  obtain ⟨rfl, ⟨rfl, rfl⟩ | ⟨rfl, rfl⟩, hO⟩ := hrel
  · skip
    obtain ⟨c9_0_0, c9_0_1, lt9_0, y9_0, -⟩ := hO.k2 0 rfl
    obtain ⟨c9_1_0, c9_1_1, lt9_1, y9_1, -⟩ := hO.k2 1 rfl
    have HO := Lib.hid hO
    clear hO
    have fo0 : wr.cell? ⟨b, 0, none⟩ = some (.slice (some ⟨pp, 0, none⟩) 1 1) := Base.RowAt.cell (show Base.RowAt wr b 237 #[.slice (some ⟨pp, 0, none⟩) 1 1, .int .i32 0, .int .i32 0, .bool false, .bool false] from (HO.out.frame _ _ hxo).2.1) rfl
    have fo1 : wr.cell? ⟨b, 1, none⟩ = some (.int .i32 0) := Base.RowAt.cell (show Base.RowAt wr b 237 #[.slice (some ⟨pp, 0, none⟩) 1 1, .int .i32 0, .int .i32 0, .bool false, .bool false] from (HO.out.frame _ _ hxo).2.1) rfl
    have fo2 : wr.cell? ⟨b, 2, none⟩ = some (.int .i32 0) := Base.RowAt.cell (show Base.RowAt wr b 237 #[.slice (some ⟨pp, 0, none⟩) 1 1, .int .i32 0, .int .i32 0, .bool false, .bool false] from (HO.out.frame _ _ hxo).2.1) rfl
    have fo3 : wr.cell? ⟨b, 3, none⟩ = some (.bool false) := Base.RowAt.cell (show Base.RowAt wr b 237 #[.slice (some ⟨pp, 0, none⟩) 1 1, .int .i32 0, .int .i32 0, .bool false, .bool false] from (HO.out.frame _ _ hxo).2.1) rfl
    have fo4 : wr.cell? ⟨b, 4, none⟩ = some (.bool false) := Base.RowAt.cell (show Base.RowAt wr b 237 #[.slice (some ⟨pp, 0, none⟩) 1 1, .int .i32 0, .int .i32 0, .bool false, .bool false] from (HO.out.frame _ _ hxo).2.1) rfl
    have fol : b < wr.heap.size := Base.block_of_cell fo0
    have fp0 : wr.cell? ⟨pp, 0, none⟩ = some (.pointer none) := Base.RowAt.cell (show Base.RowAt wr pp 243 #[.pointer none, .nilIface, .int .i32 0, .iface 40 (.pointer (some ⟨d, 0, none⟩)), .int .i32 dl, .nilIface, .int .i32 0, .slice none 0 0, .int .i32 0, .int .i32 0, .int .u8 0, .int .u8 0] from (HO.out.frame _ _ hxp).2.1) rfl
    have fp1 : wr.cell? ⟨pp, 1, none⟩ = some (.nilIface) := Base.RowAt.cell (show Base.RowAt wr pp 243 #[.pointer none, .nilIface, .int .i32 0, .iface 40 (.pointer (some ⟨d, 0, none⟩)), .int .i32 dl, .nilIface, .int .i32 0, .slice none 0 0, .int .i32 0, .int .i32 0, .int .u8 0, .int .u8 0] from (HO.out.frame _ _ hxp).2.1) rfl
    have fp2 : wr.cell? ⟨pp, 2, none⟩ = some (.int .i32 0) := Base.RowAt.cell (show Base.RowAt wr pp 243 #[.pointer none, .nilIface, .int .i32 0, .iface 40 (.pointer (some ⟨d, 0, none⟩)), .int .i32 dl, .nilIface, .int .i32 0, .slice none 0 0, .int .i32 0, .int .i32 0, .int .u8 0, .int .u8 0] from (HO.out.frame _ _ hxp).2.1) rfl
    have fp3 : wr.cell? ⟨pp, 3, none⟩ = some (.iface 40 (.pointer (some ⟨d, 0, none⟩))) := Base.RowAt.cell (show Base.RowAt wr pp 243 #[.pointer none, .nilIface, .int .i32 0, .iface 40 (.pointer (some ⟨d, 0, none⟩)), .int .i32 dl, .nilIface, .int .i32 0, .slice none 0 0, .int .i32 0, .int .i32 0, .int .u8 0, .int .u8 0] from (HO.out.frame _ _ hxp).2.1) rfl
    have fp4 : wr.cell? ⟨pp, 4, none⟩ = some (.int .i32 dl) := Base.RowAt.cell (show Base.RowAt wr pp 243 #[.pointer none, .nilIface, .int .i32 0, .iface 40 (.pointer (some ⟨d, 0, none⟩)), .int .i32 dl, .nilIface, .int .i32 0, .slice none 0 0, .int .i32 0, .int .i32 0, .int .u8 0, .int .u8 0] from (HO.out.frame _ _ hxp).2.1) rfl
    have fp5 : wr.cell? ⟨pp, 5, none⟩ = some (.nilIface) := Base.RowAt.cell (show Base.RowAt wr pp 243 #[.pointer none, .nilIface, .int .i32 0, .iface 40 (.pointer (some ⟨d, 0, none⟩)), .int .i32 dl, .nilIface, .int .i32 0, .slice none 0 0, .int .i32 0, .int .i32 0, .int .u8 0, .int .u8 0] from (HO.out.frame _ _ hxp).2.1) rfl
    have fp6 : wr.cell? ⟨pp, 6, none⟩ = some (.int .i32 0) := Base.RowAt.cell (show Base.RowAt wr pp 243 #[.pointer none, .nilIface, .int .i32 0, .iface 40 (.pointer (some ⟨d, 0, none⟩)), .int .i32 dl, .nilIface, .int .i32 0, .slice none 0 0, .int .i32 0, .int .i32 0, .int .u8 0, .int .u8 0] from (HO.out.frame _ _ hxp).2.1) rfl
    have fp7 : wr.cell? ⟨pp, 7, none⟩ = some (.slice none 0 0) := Base.RowAt.cell (show Base.RowAt wr pp 243 #[.pointer none, .nilIface, .int .i32 0, .iface 40 (.pointer (some ⟨d, 0, none⟩)), .int .i32 dl, .nilIface, .int .i32 0, .slice none 0 0, .int .i32 0, .int .i32 0, .int .u8 0, .int .u8 0] from (HO.out.frame _ _ hxp).2.1) rfl
    have fp8 : wr.cell? ⟨pp, 8, none⟩ = some (.int .i32 0) := Base.RowAt.cell (show Base.RowAt wr pp 243 #[.pointer none, .nilIface, .int .i32 0, .iface 40 (.pointer (some ⟨d, 0, none⟩)), .int .i32 dl, .nilIface, .int .i32 0, .slice none 0 0, .int .i32 0, .int .i32 0, .int .u8 0, .int .u8 0] from (HO.out.frame _ _ hxp).2.1) rfl
    have fp9 : wr.cell? ⟨pp, 9, none⟩ = some (.int .i32 0) := Base.RowAt.cell (show Base.RowAt wr pp 243 #[.pointer none, .nilIface, .int .i32 0, .iface 40 (.pointer (some ⟨d, 0, none⟩)), .int .i32 dl, .nilIface, .int .i32 0, .slice none 0 0, .int .i32 0, .int .i32 0, .int .u8 0, .int .u8 0] from (HO.out.frame _ _ hxp).2.1) rfl
    have fp10 : wr.cell? ⟨pp, 10, none⟩ = some (.int .u8 0) := Base.RowAt.cell (show Base.RowAt wr pp 243 #[.pointer none, .nilIface, .int .i32 0, .iface 40 (.pointer (some ⟨d, 0, none⟩)), .int .i32 dl, .nilIface, .int .i32 0, .slice none 0 0, .int .i32 0, .int .i32 0, .int .u8 0, .int .u8 0] from (HO.out.frame _ _ hxp).2.1) rfl
    have fp11 : wr.cell? ⟨pp, 11, none⟩ = some (.int .u8 0) := Base.RowAt.cell (show Base.RowAt wr pp 243 #[.pointer none, .nilIface, .int .i32 0, .iface 40 (.pointer (some ⟨d, 0, none⟩)), .int .i32 dl, .nilIface, .int .i32 0, .slice none 0 0, .int .i32 0, .int .i32 0, .int .u8 0, .int .u8 0] from (HO.out.frame _ _ hxp).2.1) rfl
    have fpl : pp < wr.heap.size := Base.block_of_cell fp0
    go_wp2_with (first | (with_reducible refine Own.stay (fn := Tryd.f35) ?_) | (first | (go_at_call 34; go_in)))
    try with_reducible refine Own.Stay.mk ?_
    have hO := HO.out
    clear HO fo0 fo1 fo2 fo3 fo4 fol fp0 fp1 fp2 fp3 fp4 fp5 fp6 fp7 fp8 fp9 fp10 fp11 fpl c9_0_0 c9_0_1 lt9_0 y9_0 c9_1_0 c9_1_1 lt9_1 y9_1
    generalize hW : World.alloc _ _ = W4
    have hN : Own w0 W4 [row (wr.heap.size) 243 #[.pointer none, .nilIface, .int .i32 0, .iface 40 (.pointer (some ⟨d, 0, none⟩)), .int .i32 dl, .nilIface, .int .i32 0, .slice none 0 0, .int .i32 0, .int .i32 0, .int .u8 0, .int .u8 0], row (B1_1) 30 #[.nilIface, .int .i32 0], row (B1) 30 #[.iface 229 (.pointer (some ⟨b, 0, none⟩)), .int .i32 loc], row (pb) 206 PC] X := by
      rw [← hW]
      exact (hO).alloc' _ (wr.heap.size) (by simp)
    clear hW hO
    generalize wr.heap.size = B3 at hN ⊢
    have hO := hN
    clear hN
    have hL := hO.apart
    have hX := hO.apartX
    have HL := Lib.hid hL
    have HX := Lib.hid hX
    clear hL hX
    have hP9 := hO.pick [3] (by decide)
    have T9 := colddt pb PC mp cr r s dl d kT _ _ _ _ _ _ _ hP9 hD hl hT (Or.inl hxd)
    refine Calls.mono T9 ?_
    clear hP9 T9
    rintro e uw5 ⟨rfl, hQ⟩
    have hN : Own w0 uw5 [row (pb) 206 PC, row (B3) 243 #[.pointer none, .nilIface, .int .i32 0, .iface 40 (.pointer (some ⟨d, 0, none⟩)), .int .i32 dl, .nilIface, .int .i32 0, .slice none 0 0, .int .i32 0, .int .i32 0, .int .u8 0, .int .u8 0], row (B1_1) 30 #[.nilIface, .int .i32 0], row (B1) 30 #[.iface 229 (.pointer (some ⟨b, 0, none⟩)), .int .i32 loc]] X := hQ.back HL.out HX.out [0, 1, 2] (by decide) (by decide)
    clear hQ HL HX hO
    have hO := hN
    clear hN
    obtain ⟨c9_2_0, c9_2_1, lt9_2, y9_2, -⟩ := hO.k2 2 rfl
    obtain ⟨c9_3_0, c9_3_1, lt9_3, y9_3, -⟩ := hO.k2 3 rfl
    have HO := Lib.hid hO
    clear hO
    have fo0 : uw5.cell? ⟨b, 0, none⟩ = some (.slice (some ⟨pp, 0, none⟩) 1 1) := Base.RowAt.cell (show Base.RowAt uw5 b 237 #[.slice (some ⟨pp, 0, none⟩) 1 1, .int .i32 0, .int .i32 0, .bool false, .bool false] from (HO.out.frame _ _ hxo).2.1) rfl
    have fo1 : uw5.cell? ⟨b, 1, none⟩ = some (.int .i32 0) := Base.RowAt.cell (show Base.RowAt uw5 b 237 #[.slice (some ⟨pp, 0, none⟩) 1 1, .int .i32 0, .int .i32 0, .bool false, .bool false] from (HO.out.frame _ _ hxo).2.1) rfl
    have fo2 : uw5.cell? ⟨b, 2, none⟩ = some (.int .i32 0) := Base.RowAt.cell (show Base.RowAt uw5 b 237 #[.slice (some ⟨pp, 0, none⟩) 1 1, .int .i32 0, .int .i32 0, .bool false, .bool false] from (HO.out.frame _ _ hxo).2.1) rfl
    have fo3 : uw5.cell? ⟨b, 3, none⟩ = some (.bool false) := Base.RowAt.cell (show Base.RowAt uw5 b 237 #[.slice (some ⟨pp, 0, none⟩) 1 1, .int .i32 0, .int .i32 0, .bool false, .bool false] from (HO.out.frame _ _ hxo).2.1) rfl
    have fo4 : uw5.cell? ⟨b, 4, none⟩ = some (.bool false) := Base.RowAt.cell (show Base.RowAt uw5 b 237 #[.slice (some ⟨pp, 0, none⟩) 1 1, .int .i32 0, .int .i32 0, .bool false, .bool false] from (HO.out.frame _ _ hxo).2.1) rfl
    have fol : b < uw5.heap.size := Base.block_of_cell fo0
    have fp0 : uw5.cell? ⟨pp, 0, none⟩ = some (.pointer none) := Base.RowAt.cell (show Base.RowAt uw5 pp 243 #[.pointer none, .nilIface, .int .i32 0, .iface 40 (.pointer (some ⟨d, 0, none⟩)), .int .i32 dl, .nilIface, .int .i32 0, .slice none 0 0, .int .i32 0, .int .i32 0, .int .u8 0, .int .u8 0] from (HO.out.frame _ _ hxp).2.1) rfl
    have fp1 : uw5.cell? ⟨pp, 1, none⟩ = some (.nilIface) := Base.RowAt.cell (show Base.RowAt uw5 pp 243 #[.pointer none, .nilIface, .int .i32 0, .iface 40 (.pointer (some ⟨d, 0, none⟩)), .int .i32 dl, .nilIface, .int .i32 0, .slice none 0 0, .int .i32 0, .int .i32 0, .int .u8 0, .int .u8 0] from (HO.out.frame _ _ hxp).2.1) rfl
    have fp2 : uw5.cell? ⟨pp, 2, none⟩ = some (.int .i32 0) := Base.RowAt.cell (show Base.RowAt uw5 pp 243 #[.pointer none, .nilIface, .int .i32 0, .iface 40 (.pointer (some ⟨d, 0, none⟩)), .int .i32 dl, .nilIface, .int .i32 0, .slice none 0 0, .int .i32 0, .int .i32 0, .int .u8 0, .int .u8 0] from (HO.out.frame _ _ hxp).2.1) rfl
    have fp3 : uw5.cell? ⟨pp, 3, none⟩ = some (.iface 40 (.pointer (some ⟨d, 0, none⟩))) := Base.RowAt.cell (show Base.RowAt uw5 pp 243 #[.pointer none, .nilIface, .int .i32 0, .iface 40 (.pointer (some ⟨d, 0, none⟩)), .int .i32 dl, .nilIface, .int .i32 0, .slice none 0 0, .int .i32 0, .int .i32 0, .int .u8 0, .int .u8 0] from (HO.out.frame _ _ hxp).2.1) rfl
    have fp4 : uw5.cell? ⟨pp, 4, none⟩ = some (.int .i32 dl) := Base.RowAt.cell (show Base.RowAt uw5 pp 243 #[.pointer none, .nilIface, .int .i32 0, .iface 40 (.pointer (some ⟨d, 0, none⟩)), .int .i32 dl, .nilIface, .int .i32 0, .slice none 0 0, .int .i32 0, .int .i32 0, .int .u8 0, .int .u8 0] from (HO.out.frame _ _ hxp).2.1) rfl
    have fp5 : uw5.cell? ⟨pp, 5, none⟩ = some (.nilIface) := Base.RowAt.cell (show Base.RowAt uw5 pp 243 #[.pointer none, .nilIface, .int .i32 0, .iface 40 (.pointer (some ⟨d, 0, none⟩)), .int .i32 dl, .nilIface, .int .i32 0, .slice none 0 0, .int .i32 0, .int .i32 0, .int .u8 0, .int .u8 0] from (HO.out.frame _ _ hxp).2.1) rfl
    have fp6 : uw5.cell? ⟨pp, 6, none⟩ = some (.int .i32 0) := Base.RowAt.cell (show Base.RowAt uw5 pp 243 #[.pointer none, .nilIface, .int .i32 0, .iface 40 (.pointer (some ⟨d, 0, none⟩)), .int .i32 dl, .nilIface, .int .i32 0, .slice none 0 0, .int .i32 0, .int .i32 0, .int .u8 0, .int .u8 0] from (HO.out.frame _ _ hxp).2.1) rfl
    have fp7 : uw5.cell? ⟨pp, 7, none⟩ = some (.slice none 0 0) := Base.RowAt.cell (show Base.RowAt uw5 pp 243 #[.pointer none, .nilIface, .int .i32 0, .iface 40 (.pointer (some ⟨d, 0, none⟩)), .int .i32 dl, .nilIface, .int .i32 0, .slice none 0 0, .int .i32 0, .int .i32 0, .int .u8 0, .int .u8 0] from (HO.out.frame _ _ hxp).2.1) rfl
    have fp8 : uw5.cell? ⟨pp, 8, none⟩ = some (.int .i32 0) := Base.RowAt.cell (show Base.RowAt uw5 pp 243 #[.pointer none, .nilIface, .int .i32 0, .iface 40 (.pointer (some ⟨d, 0, none⟩)), .int .i32 dl, .nilIface, .int .i32 0, .slice none 0 0, .int .i32 0, .int .i32 0, .int .u8 0, .int .u8 0] from (HO.out.frame _ _ hxp).2.1) rfl
    have fp9 : uw5.cell? ⟨pp, 9, none⟩ = some (.int .i32 0) := Base.RowAt.cell (show Base.RowAt uw5 pp 243 #[.pointer none, .nilIface, .int .i32 0, .iface 40 (.pointer (some ⟨d, 0, none⟩)), .int .i32 dl, .nilIface, .int .i32 0, .slice none 0 0, .int .i32 0, .int .i32 0, .int .u8 0, .int .u8 0] from (HO.out.frame _ _ hxp).2.1) rfl
    have fp10 : uw5.cell? ⟨pp, 10, none⟩ = some (.int .u8 0) := Base.RowAt.cell (show Base.RowAt uw5 pp 243 #[.pointer none, .nilIface, .int .i32 0, .iface 40 (.pointer (some ⟨d, 0, none⟩)), .int .i32 dl, .nilIface, .int .i32 0, .slice none 0 0, .int .i32 0, .int .i32 0, .int .u8 0, .int .u8 0] from (HO.out.frame _ _ hxp).2.1) rfl
    have fp11 : uw5.cell? ⟨pp, 11, none⟩ = some (.int .u8 0) := Base.RowAt.cell (show Base.RowAt uw5 pp 243 #[.pointer none, .nilIface, .int .i32 0, .iface 40 (.pointer (some ⟨d, 0, none⟩)), .int .i32 dl, .nilIface, .int .i32 0, .slice none 0 0, .int .i32 0, .int .i32 0, .int .u8 0, .int .u8 0] from (HO.out.frame _ _ hxp).2.1) rfl
    have fpl : pp < uw5.heap.size := Base.block_of_cell fp0
    go_wp2_with (first | (with_reducible refine Own.stay (fn := Tryd.f35) ?_) | (first | (go_at_call 34; go_in)))
    try with_reducible refine Own.Stay.mk ?_
    have hO := HO.out
    clear HO fo0 fo1 fo2 fo3 fo4 fol fp0 fp1 fp2 fp3 fp4 fp5 fp6 fp7 fp8 fp9 fp10 fp11 fpl c9_2_0 c9_2_1 lt9_2 y9_2 c9_3_0 c9_3_1 lt9_3 y9_3
    generalize hW : World.alloc _ _ = W7
    have hN : Own w0 W7 [row (uw5.heap.size) 30 #[.iface 40 (.pointer (some ⟨d, 0, none⟩)), .int .i32 dl], row (pb) 206 PC, row (B3) 243 #[.pointer none, .nilIface, .int .i32 0, .iface 40 (.pointer (some ⟨d, 0, none⟩)), .int .i32 dl, .nilIface, .int .i32 0, .slice none 0 0, .int .i32 0, .int .i32 0, .int .u8 0, .int .u8 0], row (B1_1) 30 #[.nilIface, .int .i32 0], row (B1) 30 #[.iface 229 (.pointer (some ⟨b, 0, none⟩)), .int .i32 loc]] X := by
      rw [← hW]
      exact (hO).alloc' _ (uw5.heap.size) (by simp)
    clear hW hO
    generalize uw5.heap.size = B6 at hN ⊢
    have hO := hN
    clear hN
    go_roundg 1
    case measure => omega
    case rel => exact ⟨rfl, Or.inr ⟨rfl, rfl⟩, hO.sub [3, 4, 1] (by decide)⟩
  obtain ⟨c9_0_0, c9_0_1, lt9_0, y9_0, -⟩ := hO.k2 0 rfl
  obtain ⟨c9_1_0, c9_1_1, lt9_1, y9_1, -⟩ := hO.k2 1 rfl
  have HO := Lib.hid hO
  clear hO
  have fo0 : wr.cell? ⟨b, 0, none⟩ = some (.slice (some ⟨pp, 0, none⟩) 1 1) := Base.RowAt.cell (show Base.RowAt wr b 237 #[.slice (some ⟨pp, 0, none⟩) 1 1, .int .i32 0, .int .i32 0, .bool false, .bool false] from (HO.out.frame _ _ hxo).2.1) rfl
  have fo1 : wr.cell? ⟨b, 1, none⟩ = some (.int .i32 0) := Base.RowAt.cell (show Base.RowAt wr b 237 #[.slice (some ⟨pp, 0, none⟩) 1 1, .int .i32 0, .int .i32 0, .bool false, .bool false] from (HO.out.frame _ _ hxo).2.1) rfl
  have fo2 : wr.cell? ⟨b, 2, none⟩ = some (.int .i32 0) := Base.RowAt.cell (show Base.RowAt wr b 237 #[.slice (some ⟨pp, 0, none⟩) 1 1, .int .i32 0, .int .i32 0, .bool false, .bool false] from (HO.out.frame _ _ hxo).2.1) rfl
  have fo3 : wr.cell? ⟨b, 3, none⟩ = some (.bool false) := Base.RowAt.cell (show Base.RowAt wr b 237 #[.slice (some ⟨pp, 0, none⟩) 1 1, .int .i32 0, .int .i32 0, .bool false, .bool false] from (HO.out.frame _ _ hxo).2.1) rfl
  have fo4 : wr.cell? ⟨b, 4, none⟩ = some (.bool false) := Base.RowAt.cell (show Base.RowAt wr b 237 #[.slice (some ⟨pp, 0, none⟩) 1 1, .int .i32 0, .int .i32 0, .bool false, .bool false] from (HO.out.frame _ _ hxo).2.1) rfl
  have fol : b < wr.heap.size := Base.block_of_cell fo0
  have fp0 : wr.cell? ⟨pp, 0, none⟩ = some (.pointer none) := Base.RowAt.cell (show Base.RowAt wr pp 243 #[.pointer none, .nilIface, .int .i32 0, .iface 40 (.pointer (some ⟨d, 0, none⟩)), .int .i32 dl, .nilIface, .int .i32 0, .slice none 0 0, .int .i32 0, .int .i32 0, .int .u8 0, .int .u8 0] from (HO.out.frame _ _ hxp).2.1) rfl
  have fp1 : wr.cell? ⟨pp, 1, none⟩ = some (.nilIface) := Base.RowAt.cell (show Base.RowAt wr pp 243 #[.pointer none, .nilIface, .int .i32 0, .iface 40 (.pointer (some ⟨d, 0, none⟩)), .int .i32 dl, .nilIface, .int .i32 0, .slice none 0 0, .int .i32 0, .int .i32 0, .int .u8 0, .int .u8 0] from (HO.out.frame _ _ hxp).2.1) rfl
  have fp2 : wr.cell? ⟨pp, 2, none⟩ = some (.int .i32 0) := Base.RowAt.cell (show Base.RowAt wr pp 243 #[.pointer none, .nilIface, .int .i32 0, .iface 40 (.pointer (some ⟨d, 0, none⟩)), .int .i32 dl, .nilIface, .int .i32 0, .slice none 0 0, .int .i32 0, .int .i32 0, .int .u8 0, .int .u8 0] from (HO.out.frame _ _ hxp).2.1) rfl
  have fp3 : wr.cell? ⟨pp, 3, none⟩ = some (.iface 40 (.pointer (some ⟨d, 0, none⟩))) := Base.RowAt.cell (show Base.RowAt wr pp 243 #[.pointer none, .nilIface, .int .i32 0, .iface 40 (.pointer (some ⟨d, 0, none⟩)), .int .i32 dl, .nilIface, .int .i32 0, .slice none 0 0, .int .i32 0, .int .i32 0, .int .u8 0, .int .u8 0] from (HO.out.frame _ _ hxp).2.1) rfl
  have fp4 : wr.cell? ⟨pp, 4, none⟩ = some (.int .i32 dl) := Base.RowAt.cell (show Base.RowAt wr pp 243 #[.pointer none, .nilIface, .int .i32 0, .iface 40 (.pointer (some ⟨d, 0, none⟩)), .int .i32 dl, .nilIface, .int .i32 0, .slice none 0 0, .int .i32 0, .int .i32 0, .int .u8 0, .int .u8 0] from (HO.out.frame _ _ hxp).2.1) rfl
  have fp5 : wr.cell? ⟨pp, 5, none⟩ = some (.nilIface) := Base.RowAt.cell (show Base.RowAt wr pp 243 #[.pointer none, .nilIface, .int .i32 0, .iface 40 (.pointer (some ⟨d, 0, none⟩)), .int .i32 dl, .nilIface, .int .i32 0, .slice none 0 0, .int .i32 0, .int .i32 0, .int .u8 0, .int .u8 0] from (HO.out.frame _ _ hxp).2.1) rfl
  have fp6 : wr.cell? ⟨pp, 6, none⟩ = some (.int .i32 0) := Base.RowAt.cell (show Base.RowAt wr pp 243 #[.pointer none, .nilIface, .int .i32 0, .iface 40 (.pointer (some ⟨d, 0, none⟩)), .int .i32 dl, .nilIface, .int .i32 0, .slice none 0 0, .int .i32 0, .int .i32 0, .int .u8 0, .int .u8 0] from (HO.out.frame _ _ hxp).2.1) rfl
  have fp7 : wr.cell? ⟨pp, 7, none⟩ = some (.slice none 0 0) := Base.RowAt.cell (show Base.RowAt wr pp 243 #[.pointer none, .nilIface, .int .i32 0, .iface 40 (.pointer (some ⟨d, 0, none⟩)), .int .i32 dl, .nilIface, .int .i32 0, .slice none 0 0, .int .i32 0, .int .i32 0, .int .u8 0, .int .u8 0] from (HO.out.frame _ _ hxp).2.1) rfl
  have fp8 : wr.cell? ⟨pp, 8, none⟩ = some (.int .i32 0) := Base.RowAt.cell (show Base.RowAt wr pp 243 #[.pointer none, .nilIface, .int .i32 0, .iface 40 (.pointer (some ⟨d, 0, none⟩)), .int .i32 dl, .nilIface, .int .i32 0, .slice none 0 0, .int .i32 0, .int .i32 0, .int .u8 0, .int .u8 0] from (HO.out.frame _ _ hxp).2.1) rfl
  have fp9 : wr.cell? ⟨pp, 9, none⟩ = some (.int .i32 0) := Base.RowAt.cell (show Base.RowAt wr pp 243 #[.pointer none, .nilIface, .int .i32 0, .iface 40 (.pointer (some ⟨d, 0, none⟩)), .int .i32 dl, .nilIface, .int .i32 0, .slice none 0 0, .int .i32 0, .int .i32 0, .int .u8 0, .int .u8 0] from (HO.out.frame _ _ hxp).2.1) rfl
  have fp10 : wr.cell? ⟨pp, 10, none⟩ = some (.int .u8 0) := Base.RowAt.cell (show Base.RowAt wr pp 243 #[.pointer none, .nilIface, .int .i32 0, .iface 40 (.pointer (some ⟨d, 0, none⟩)), .int .i32 dl, .nilIface, .int .i32 0, .slice none 0 0, .int .i32 0, .int .i32 0, .int .u8 0, .int .u8 0] from (HO.out.frame _ _ hxp).2.1) rfl
  have fp11 : wr.cell? ⟨pp, 11, none⟩ = some (.int .u8 0) := Base.RowAt.cell (show Base.RowAt wr pp 243 #[.pointer none, .nilIface, .int .i32 0, .iface 40 (.pointer (some ⟨d, 0, none⟩)), .int .i32 dl, .nilIface, .int .i32 0, .slice none 0 0, .int .i32 0, .int .i32 0, .int .u8 0, .int .u8 0] from (HO.out.frame _ _ hxp).2.1) rfl
  have fpl : pp < wr.heap.size := Base.block_of_cell fp0
  go_wp2_with (first | (with_reducible refine Own.stay (fn := Tryd.f35) ?_) | (first | (go_at_call 34; go_in)))
  try with_reducible refine Own.Stay.mk ?_
  have hO := HO.out
  clear HO fo0 fo1 fo2 fo3 fo4 fol fp0 fp1 fp2 fp3 fp4 fp5 fp6 fp7 fp8 fp9 fp10 fp11 fpl c9_0_0 c9_0_1 lt9_0 y9_0 c9_1_0 c9_1_1 lt9_1 y9_1
  generalize hW : World.setCell _ _ _ = W9
  have hN : Own w0 W9 [row (B1_1) 30 #[.iface 229 (.pointer (some ⟨b, 0, none⟩)), .int .i32 loc], row (B1) 30 #[.iface 229 (.pointer (some ⟨b, 0, none⟩)), .int .i32 loc], row (pb) 206 PC] X := by
    rw [← hW]
    exact ((hO).set 0 rfl 0 _).set 0 rfl 1 _
  clear hW hO
  have hO := hN
  clear hN
  have z9_0_0 : W9.cell? ⟨B1_1, 0, none⟩ = some (.iface 229 (.pointer (some ⟨b, 0, none⟩))) := hO.cell 0 rfl 0 rfl
  have z9_0_1 : W9.cell? ⟨B1_1, 1, none⟩ = some (.int .i32 loc) := hO.cell 0 rfl 1 rfl
  refine bodyPost_ret (v := .tuple #[.agg #[.iface 229 (.pointer (some ⟨b, 0, none⟩)), .int .i32 loc], .bool false]) ?_ rfl ⟨rfl, hO.sub [2] (by decide)⟩
  simp [results, Tryd.results35, go_sem, z9_0_0, z9_0_1]
def coldItemPost (pb : Nat) (PC : Array Value) (mp cr : Nat) (r s : Bool) (loc : Int) (l : Bool) (t b : Nat) (w0 : World) (X : Nat → Obj → Prop) (e : Ending) (w' : World) : Prop :=
  e = .returned (.tuple #[.agg #[.iface t (.pointer (some ⟨b, 0, none⟩)), .int .i32 loc], .bool false]) ∧ Own w0 w' [row (pb) 206 PC] X
theorem coldItem (pb : Nat) (PC : Array Value) (mp cr : Nat) (r s : Bool) (loc : Int) (l : Bool) (t b : Nat) (w0 w : World) (X : Nat → Obj → Prop) (hO : Own w0 w [row (pb) 206 PC] X) (hD : Dead PC mp cr r s) (hl : PC[338]? = some (.bool l)) (hc : ColdV X l t b) :
    Calls Tryd.prog 35 #[.pointer (some ⟨pb, 0, none⟩), .agg #[.iface t (.pointer (some ⟨b, 0, none⟩)), .int .i32 loc]] w (coldItemPost pb PC mp cr r s loc l t b w0 X) := by
  rcases hc with ⟨rfl, kT, kx, tl, nl, nm, hT, hx⟩ | ⟨rfl, rfl, kT, kx, ib, tl, il, hx⟩ | ⟨rfl, d, dl, hs, kT, kx, tl, nl, nm, hT, hx⟩ | rfl | ⟨rfl, pp, d, dl, ho, hp, kT, kx, tl, nl, nm, hT, hx⟩
  · cases l
    · exact colddf pb PC mp cr r s loc b kT kx tl nl nm w0 w X hO hD hl hx
    · exact colddt pb PC mp cr r s loc b kT kx tl nl nm w0 w X hO hD hl (hT rfl) hx
  · exact coldxf pb PC mp cr r s loc b kT kx ib tl il w0 w X hO hD hl hx
  · cases l
    · exact coldsf pb PC mp cr r s loc d kT kx tl nl nm b dl w0 w X hO hD hl hx hs
    · exact coldst pb PC mp cr r s loc d kT kx tl nl nm b dl w0 w X hO hD hl (hT rfl) hx hs
  · exact coldi pb PC mp cr r s loc b l w0 w X hO hD hl
  · cases l
    · exact coldof pb PC mp cr r s loc d kT kx tl nl nm b pp dl w0 w X hO hD hl hx ho hp
    · exact coldot pb PC mp cr r s loc d kT kx tl nl nm b pp dl w0 w X hO hD hl (hT rfl) hx ho hp

end Go.Proofs.YtcbdjbjbikiaeaaDoor.Use
