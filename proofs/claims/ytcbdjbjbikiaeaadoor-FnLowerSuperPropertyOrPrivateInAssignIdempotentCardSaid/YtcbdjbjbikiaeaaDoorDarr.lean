/- The doors of the arrays. No condition. -/
import Derived.Test.YtcbdjbjbikiaeaaDoorDexd
import Derived.Test.YtcbdjbjbikiaeaaDoorArh
import Derived.Test.YtcbdjbjbikiaeaaDoorArc
import Derived.Test.YtcbdjbjbikiaeaaDoorArhd
import Derived.Test.YtcbdjbjbikiaeaaDoorIta
import Derived.Test.YtcbdjbjbikiaeaaDoorNdt
import Derived.Test.YtcbdjbjbikiaeaaDoorItm
import Derived.Test.YtcbdjbjbikiaeaaDoorOwn
import Derived.Test.YtcbdjbjbikiaeaaDoorOwnK
import Derived.Test.YtcbdjbjbikiaeaaDoorLoop
import Derived.Test.YtcbdjbjbikiaeaaDoorApp
import Derived.Test.YtcbdjbjbikiaeaaDoorDeepCells
import Derived.Test.YtcbdjbjbikiaeaaDoorRows
import Derived.Test.YtcbdjbjbikiaeaaDoorDead
namespace Go.Proofs.YtcbdjbjbikiaeaaDoor.Use
open Go.ChangeShapes Go.WideShapes Go.ChangeAt Go.RowKit Go.Sort Own
set_option linter.unusedVariables false
def darrColdPost (pb : Nat) (PC : Array Value) (mp cr : Nat) (r s : Bool) (loc : Int) (l : Bool) (ea it n : Nat) (vt vb : Nat → Nat) (w0 : World) (X : Nat → Obj → Prop) (e : Ending) (w' : World) : Prop :=
  e = .returned (.tuple #[.agg #[.iface 62 (.pointer (some ⟨ea, 0, none⟩)), .int .i32 loc], .bool false]) ∧ Own w0 w' [row (pb) 206 PC, row (ea) 65 #[.slice (some ⟨it, 0, none⟩) n n, .int .i32 0, .int .i32 0, .bool false, .bool false], row (it) 30 (itR vt vb n 0)] X
set_option maxRecDepth 100000 in
set_option maxHeartbeats 1000000 in
theorem darrCold (pb : Nat) (PC : Array Value) (mp cr : Nat) (r s : Bool) (loc : Int) (l : Bool) (ea it n : Nat) (vt vb : Nat → Nat) (w0 w : World) (X : Nat → Obj → Prop) (hO : Own w0 w [row (pb) 206 PC, row (ea) 65 #[.slice (some ⟨it, 0, none⟩) n n, .int .i32 0, .int .i32 0, .bool false, .bool false], row (it) 30 (itR vt vb n 0)] X) (hD : Dead PC mp cr r s) (hl : PC[338]? = some (.bool l)) (hn4 : n ≤ 4096) (hc : ∀ i : Nat, i < n → ColdV X l (vt i) (vb i)) :
    Calls Tryd.prog 14 #[.pointer (some ⟨pb, 0, none⟩), .agg #[.iface 62 (.pointer (some ⟨ea, 0, none⟩)), .int .i32 loc]] w (darrColdPost pb PC mp cr r s loc l ea it n vt vb w0 X) := by
  go_enter Tryd.func14, Tryd.ntmps14
  have HC := Lib.hid hc
  clear hc
  obtain ⟨c9_1_0, c9_1_1, c9_1_2, c9_1_3, c9_1_4, lt9_1, y9_1, -⟩ := hO.k5 1 rfl
  have HO := Lib.hid hO
  clear hO
  go_wp2_with (first | (with_reducible refine Own.stay (fn := Tryd.f14) ?_) | fail)
  try with_reducible refine Own.Stay.mk ?_
  have hO := HO.out
  clear HO c9_1_0 c9_1_1 c9_1_2 c9_1_3 c9_1_4 lt9_1 y9_1
  generalize hW : World.alloc _ _ = W2
  have hN : Own w0 W2 [row (w.heap.size + 1) 30 #[.nilIface, .int .i32 0], row (w.heap.size) 30 #[.iface 62 (.pointer (some ⟨ea, 0, none⟩)), .int .i32 loc], row (pb) 206 PC, row (ea) 65 #[.slice (some ⟨it, 0, none⟩) n n, .int .i32 0, .int .i32 0, .bool false, .bool false], row (it) 30 (itR vt vb n 0)] X := by
    rw [← hW]
    exact ((hO).alloc' _ (w.heap.size) (by simp)).alloc' _ (w.heap.size + 1) (by simp)
  clear hW hO
  generalize w.heap.size + 1 = B1_1 at hN ⊢
  generalize w.heap.size = B1 at hN ⊢
  have hO := hN
  clear hN
  have hL := hO.apart
  have hX := hO.apartX
  have HL := Lib.hid hL
  have HX := Lib.hid hX
  clear hL hX
  have hP9 := hO.pick [2, 3, 4] (by decide)
  have T9 := arrCold pb PC mp cr r s loc l ea it n vt vb _ _ _ hP9 hD hl hn4 (fun i hi => (HC.out i hi).mono fun b o h => Or.inl h)
  refine Calls.mono T9 ?_
  clear hP9 T9
  rintro e uw3 ⟨rfl, hQ⟩
  have hN : Own w0 uw3 [row (pb) 206 PC, row (ea) 65 #[.slice (some ⟨it, 0, none⟩) n n, .int .i32 0, .int .i32 0, .bool false, .bool false], row (it) 30 (itR vt vb n 0), row (B1_1) 30 #[.nilIface, .int .i32 0], row (B1) 30 #[.iface 62 (.pointer (some ⟨ea, 0, none⟩)), .int .i32 loc]] X := hQ.back HL.out HX.out [0, 1] (by decide) (by decide)
  clear hQ HL HX hO
  have hO := hN
  clear hN
  obtain ⟨c9_1_0, c9_1_1, c9_1_2, c9_1_3, c9_1_4, lt9_1, y9_1, -⟩ := hO.k5 1 rfl
  obtain ⟨c9_3_0, c9_3_1, lt9_3, y9_3, -⟩ := hO.k2 3 rfl
  obtain ⟨c9_4_0, c9_4_1, lt9_4, y9_4, -⟩ := hO.k2 4 rfl
  have HO := Lib.hid hO
  clear hO
  go_wp2_with (first | (with_reducible refine Own.stay (fn := Tryd.f14) ?_) | fail)
  try with_reducible refine Own.Stay.mk ?_
  have hO := HO.out
  clear HO c9_1_0 c9_1_1 c9_1_2 c9_1_3 c9_1_4 lt9_1 y9_1 c9_3_0 c9_3_1 lt9_3 y9_3 c9_4_0 c9_4_1 lt9_4 y9_4
  generalize hW : World.setCell _ _ _ = W5
  have hN : Own w0 W5 [row (pb) 206 PC, row (ea) 65 #[.slice (some ⟨it, 0, none⟩) n n, .int .i32 0, .int .i32 0, .bool false, .bool false], row (it) 30 (itR vt vb n 0), row (B1_1) 30 #[.iface 62 (.pointer (some ⟨ea, 0, none⟩)), .int .i32 loc], row (B1) 30 #[.iface 62 (.pointer (some ⟨ea, 0, none⟩)), .int .i32 loc]] X := by
    rw [← hW]
    exact ((hO).set 3 rfl 0 _).set 3 rfl 1 _
  clear hW hO
  have hO := hN
  clear hN
  have z9_3_0 : W5.cell? ⟨B1_1, 0, none⟩ = some (.iface 62 (.pointer (some ⟨ea, 0, none⟩))) := hO.cell 3 rfl 0 rfl
  have z9_3_1 : W5.cell? ⟨B1_1, 1, none⟩ = some (.int .i32 loc) := hO.cell 3 rfl 1 rfl
  refine bodyPost_ret (v := .tuple #[.agg #[.iface 62 (.pointer (some ⟨ea, 0, none⟩)), .int .i32 loc], .bool false]) ?_ rfl ⟨rfl, hO.sub [0, 1, 2] (by decide)⟩
  simp [results, Tryd.results14, go_sem, z9_3_0, z9_3_1]
def darrHotPost (pb : Nat) (PC : Array Value) (mp cr : Nat) (r s : Bool) (loc : Int) (ea it n : Nat) (D : Dm) (nw : Nat → Nat) (nm : ByteArray) (w0 : World) (X : Nat → Obj → Prop) (e : Ending) (w' : World) : Prop :=
  ∃ (b9 : Bool) (nw2 : Nat → Nat) (Y : Nat → Obj → Prop), e = .returned (.tuple #[.agg #[.iface 62 (.pointer (some ⟨ea, 0, none⟩)), .int .i32 loc], .bool b9]) ∧ (∀ b o, X b o → ¬ tyE o → Y b o) ∧ (∀ i : Nat, i < n → D.kd i ≠ 2 → D.kd i ≠ 4 → DotC Y true (nw2 i)) ∧ Own w0 w' [row (pb) 206 PC, ((mp, .map #[⟨.string ⟨#[95, 95, 115, 117, 112, 101, 114, 87, 114, 97, 112, 112, 101, 114]⟩, .agg #[.int .i32 0, .int .u32 0, .int .u32 2], 0⟩, ⟨.string ⟨#[95, 95, 115, 117, 112, 101, 114, 71, 101, 116]⟩, .agg #[.int .i32 0, .int .u32 0, .int .u32 3], 1⟩, ⟨.string ⟨#[95, 95, 112, 114, 105, 118, 97, 116, 101, 87, 114, 97, 112, 112, 101, 114]⟩, .agg #[.int .i32 0, .int .u32 0, .int .u32 4], 2⟩] 3) : Rw), row (cr) 68 #[.int .u32 0, .int .u32 1], row (ea) 65 #[.slice (some ⟨it, 0, none⟩) n n, .int .i32 0, .int .i32 0, .bool false, .bool false], row (it) 30 (itR (vT1 D n) (vB1 D nw2 n) n 0)] (NodT Y D nw2 n n)
set_option maxRecDepth 100000 in
set_option maxHeartbeats 1000000 in
theorem darrHot (pb : Nat) (PC : Array Value) (mp cr : Nat) (r s : Bool) (loc : Int) (ea it n : Nat) (D : Dm) (nw : Nat → Nat) (nm : ByteArray) (w0 w : World) (X : Nat → Obj → Prop) (hO : Own w0 w [row (pb) 206 PC, ((mp, .map #[⟨.string ⟨#[95, 95, 115, 117, 112, 101, 114, 87, 114, 97, 112, 112, 101, 114]⟩, .agg #[.int .i32 0, .int .u32 0, .int .u32 2], 0⟩, ⟨.string ⟨#[95, 95, 115, 117, 112, 101, 114, 71, 101, 116]⟩, .agg #[.int .i32 0, .int .u32 0, .int .u32 3], 1⟩, ⟨.string ⟨#[95, 95, 112, 114, 105, 118, 97, 116, 101, 87, 114, 97, 112, 112, 101, 114]⟩, .agg #[.int .i32 0, .int .u32 0, .int .u32 4], 2⟩] 3) : Rw), row (cr) 68 #[.int .u32 0, .int .u32 1], row (ea) 65 #[.slice (some ⟨it, 0, none⟩) n n, .int .i32 0, .int .i32 0, .bool false, .bool false], row (it) 30 (itR (vT1 D 0) (vB1 D nw 0) n 0)] (NodT X D nw 0 n)) (hD : Dead PC mp cr r s) (hl : PC[338]? = some (.bool true)) (hlen : nm.size ≤ 1048576) (hn4 : n ≤ 4096) (hk6 : ∀ i : Nat, i < n → D.kd i < 6) (hraw : ∀ i : Nat, i < n → RawI X D nm i) (hsp : SepT X D n) (hij : InjT D n) :
    Calls Tryd.prog 14 #[.pointer (some ⟨pb, 0, none⟩), .agg #[.iface 62 (.pointer (some ⟨ea, 0, none⟩)), .int .i32 loc]] w (darrHotPost pb PC mp cr r s loc ea it n D nw nm w0 X) := by
  go_enter Tryd.func14, Tryd.ntmps14
  have H9hk6 := Lib.hid hk6
  have H9hraw := Lib.hid hraw
  have H9hsp := Lib.hid hsp
  have H9hij := Lib.hid hij
  clear hk6 hraw hsp hij
  obtain ⟨c9_2_0, c9_2_1, lt9_2, y9_2, -⟩ := hO.k2 2 rfl
  obtain ⟨c9_3_0, c9_3_1, c9_3_2, c9_3_3, c9_3_4, lt9_3, y9_3, -⟩ := hO.k5 3 rfl
  have HO := Lib.hid hO
  clear hO
  go_wp2_with (first | (with_reducible refine Own.stay (fn := Tryd.f14) ?_) | fail)
  try with_reducible refine Own.Stay.mk ?_
  have hO := HO.out
  clear HO c9_2_0 c9_2_1 lt9_2 y9_2 c9_3_0 c9_3_1 c9_3_2 c9_3_3 c9_3_4 lt9_3 y9_3
  generalize hW : World.alloc _ _ = W2
  have hN : Own w0 W2 [row (w.heap.size + 1) 30 #[.nilIface, .int .i32 0], row (w.heap.size) 30 #[.iface 62 (.pointer (some ⟨ea, 0, none⟩)), .int .i32 loc], row (pb) 206 PC, ((mp, .map #[⟨.string ⟨#[95, 95, 115, 117, 112, 101, 114, 87, 114, 97, 112, 112, 101, 114]⟩, .agg #[.int .i32 0, .int .u32 0, .int .u32 2], 0⟩, ⟨.string ⟨#[95, 95, 115, 117, 112, 101, 114, 71, 101, 116]⟩, .agg #[.int .i32 0, .int .u32 0, .int .u32 3], 1⟩, ⟨.string ⟨#[95, 95, 112, 114, 105, 118, 97, 116, 101, 87, 114, 97, 112, 112, 101, 114]⟩, .agg #[.int .i32 0, .int .u32 0, .int .u32 4], 2⟩] 3) : Rw), row (cr) 68 #[.int .u32 0, .int .u32 1], row (ea) 65 #[.slice (some ⟨it, 0, none⟩) n n, .int .i32 0, .int .i32 0, .bool false, .bool false], row (it) 30 (itR (vT1 D 0) (vB1 D nw 0) n 0)] (NodT X D nw 0 n) := by
    rw [← hW]
    exact ((hO).alloc' _ (w.heap.size) (by simp)).alloc' _ (w.heap.size + 1) (by simp)
  clear hW hO
  generalize w.heap.size + 1 = B1_1 at hN ⊢
  generalize w.heap.size = B1 at hN ⊢
  have hO := hN
  clear hN
  have hL := hO.apart
  have hX := hO.apartX
  have HL := Lib.hid hL
  have HX := Lib.hid hX
  clear hL hX
  have hS9 := SepT.rest (is := [2, 3, 4, 5, 6]) H9hsp.out HX.out
  refine Calls.mono (arrHot pb PC mp cr r s loc ea it n D nw nm w0 W2 _ ((hO.pick [2, 3, 4, 5, 6] (by decide)).weaken NodT.rest) hD hl hlen hn4 H9hk6.out (fun i hi => (H9hraw.out i hi).mono fun b o h => Or.inl h) hS9 H9hij.out) ?_
  rintro e u1 ⟨b9, nw2, Y, rfl, hXY, hDT, hQ⟩
  have hN : Own w0 u1 [row (pb) 206 PC, ((mp, .map #[⟨.string ⟨#[95, 95, 115, 117, 112, 101, 114, 87, 114, 97, 112, 112, 101, 114]⟩, .agg #[.int .i32 0, .int .u32 0, .int .u32 2], 0⟩, ⟨.string ⟨#[95, 95, 115, 117, 112, 101, 114, 71, 101, 116]⟩, .agg #[.int .i32 0, .int .u32 0, .int .u32 3], 1⟩, ⟨.string ⟨#[95, 95, 112, 114, 105, 118, 97, 116, 101, 87, 114, 97, 112, 112, 101, 114]⟩, .agg #[.int .i32 0, .int .u32 0, .int .u32 4], 2⟩] 3) : Rw), row (cr) 68 #[.int .u32 0, .int .u32 1], row (ea) 65 #[.slice (some ⟨it, 0, none⟩) n n, .int .i32 0, .int .i32 0, .bool false, .bool false], row (it) 30 (itR (vT1 D n) (vB1 D nw2 n) n 0), row (B1_1) 30 #[.nilIface, .int .i32 0], row (B1) 30 #[.iface 62 (.pointer (some ⟨ea, 0, none⟩)), .int .i32 loc]] (NodT (fun b o => Y b o ∧ ¬ tyE o) D nw2 n n) := NodT.backE hQ hXY HL.out [0, 1] (by decide) (by decide) (by
    intro r9 hr9
    replace hr9 : r9 ∈ [row (B1_1) 30 #[.nilIface, .int .i32 0], row (B1) 30 #[.iface 62 (.pointer (some ⟨ea, 0, none⟩)), .int .i32 loc]] := hr9
    simp only [List.mem_cons, List.not_mem_nil, or_false] at hr9
    rcases hr9 with rfl | rfl <;> rfl)
  have HXY := Lib.hid (show ∀ b o, X b o → ¬ tyE o → (fun b o => Y b o ∧ ¬ tyE o) b o from fun b o h h9 => ⟨hXY _ _ (Or.inl h), h9⟩)
  have HDT := Lib.hid (show ∀ i : Nat, i < n → D.kd i ≠ 2 → D.kd i ≠ 4 → DotC (fun b o => Y b o ∧ ¬ tyE o) true (nw2 i) from fun i hi h2 h4 => (hDT i hi h2 h4).restE)
  clear hXY hDT hO hQ HL HX hS9
  generalize hY2 : (fun b o => Y b o ∧ ¬ tyE o) = Y2 at hN HXY HDT
  clear hY2
  have hO := hN
  clear hN
  obtain ⟨c9_2_0, c9_2_1, lt9_2, y9_2, -⟩ := hO.k2 2 rfl
  obtain ⟨c9_3_0, c9_3_1, c9_3_2, c9_3_3, c9_3_4, lt9_3, y9_3, -⟩ := hO.k5 3 rfl
  obtain ⟨c9_5_0, c9_5_1, lt9_5, y9_5, -⟩ := hO.k2 5 rfl
  obtain ⟨c9_6_0, c9_6_1, lt9_6, y9_6, -⟩ := hO.k2 6 rfl
  have HO := Lib.hid hO
  clear hO
  go_wp2_with (first | (with_reducible refine Own.stay (fn := Tryd.f14) ?_) | fail)
  try with_reducible refine Own.Stay.mk ?_
  have hO := HO.out
  clear HO c9_2_0 c9_2_1 lt9_2 y9_2 c9_3_0 c9_3_1 c9_3_2 c9_3_3 c9_3_4 lt9_3 y9_3 c9_5_0 c9_5_1 lt9_5 y9_5 c9_6_0 c9_6_1 lt9_6 y9_6
  generalize hW : World.setCell _ _ _ = W4
  have hN : Own w0 W4 [row (pb) 206 PC, ((mp, .map #[⟨.string ⟨#[95, 95, 115, 117, 112, 101, 114, 87, 114, 97, 112, 112, 101, 114]⟩, .agg #[.int .i32 0, .int .u32 0, .int .u32 2], 0⟩, ⟨.string ⟨#[95, 95, 115, 117, 112, 101, 114, 71, 101, 116]⟩, .agg #[.int .i32 0, .int .u32 0, .int .u32 3], 1⟩, ⟨.string ⟨#[95, 95, 112, 114, 105, 118, 97, 116, 101, 87, 114, 97, 112, 112, 101, 114]⟩, .agg #[.int .i32 0, .int .u32 0, .int .u32 4], 2⟩] 3) : Rw), row (cr) 68 #[.int .u32 0, .int .u32 1], row (ea) 65 #[.slice (some ⟨it, 0, none⟩) n n, .int .i32 0, .int .i32 0, .bool false, .bool false], row (it) 30 (itR (vT1 D n) (vB1 D nw2 n) n 0), row (B1_1) 30 #[.iface 62 (.pointer (some ⟨ea, 0, none⟩)), .int .i32 loc], row (B1) 30 #[.iface 62 (.pointer (some ⟨ea, 0, none⟩)), .int .i32 loc]] (NodT Y2 D nw2 n n) := by
    rw [← hW]
    exact ((hO).set 5 rfl 0 _).set 5 rfl 1 _
  clear hW hO
  have hO := hN
  clear hN
  have z9_5_0 : W4.cell? ⟨B1_1, 0, none⟩ = some (.iface 62 (.pointer (some ⟨ea, 0, none⟩))) := hO.cell 5 rfl 0 rfl
  have z9_5_1 : W4.cell? ⟨B1_1, 1, none⟩ = some (.int .i32 loc) := hO.cell 5 rfl 1 rfl
  refine bodyPost_ret (v := .tuple #[.agg #[.iface 62 (.pointer (some ⟨ea, 0, none⟩)), .int .i32 loc], .bool b9]) ?_ rfl ⟨b9, nw2, Y2, rfl, HXY.out, HDT.out, hO.sub [0, 1, 2, 3, 4] (by decide)⟩
  simp [results, Tryd.results14, go_sem, z9_5_0, z9_5_1]
end Go.Proofs.YtcbdjbjbikiaeaaDoor.Use
