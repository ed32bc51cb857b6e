/- The doors of the lowering of a logical assignment to an indexed target. No condition. -/
import Derived.Test.YtlgefnjkoklboaaDoorIxLogic
import Derived.Test.YtlgefnjkoklboaaDoorLow21
namespace Go.Proofs.YtlgefnjkoklboaaDoor.Use
open Go.ChangeShapes Go.WideShapes Go.ChangeAt Go.RowKit Go.Sort
set_option linter.unusedVariables false
set_option maxRecDepth 100000 in
set_option maxHeartbeats 2000000 in
theorem low36xyes (pb sb n cap i c ob ib nb eb xr v : Nat) (x src tl il ll loc op lr : Int) (C : Array Value) (w : World) (hP : ParAt w pb sb n cap) (hi : i < n) (hn : n ≤ 4294967295) (hne : pb ≠ sb)
    (hx : w.cell? ⟨pb, 23, none⟩ = some (.int .u64 x)) (hx1 : (bits BinOp.and IntKind.u64 x 137438953472 != 0) = true)
    (hC : Base.RowAt w sb 223 C) (hc : C[i * 10 + 4]? = some (.int .u32 (c : Int))) (hcm : c < 4294967294)
    (ro : Base.RowAt w ob 69 #[.iface 55 (.pointer (some ⟨ib, 0, none⟩)), .int .i32 tl, .iface 36 (.pointer (some ⟨nb, 0, none⟩)), .int .i32 il, .int .i32 0, .int .u8 0, .bool false, .bool false, .bool false]) (hob : ob ≠ sb)
    (ri : Base.RowAt w ib 214 #[.int .u32 src, .int .u32 (i : Int), .bool false, .bool false, .bool false]) (hib : ib ≠ sb) (rn : Base.RowAt w nb 50 #[.float .f64 v]) (hnb : nb ≠ sb)
    (re : Base.RowAt w eb 47 #[.iface 64 (.pointer (some ⟨ob, 0, none⟩)), .int .i32 ll, .iface 36 (.pointer (some ⟨xr, 0, none⟩)), .int .i32 lr, .int .u8 0, .bool false]) (heb : eb ≠ sb) :
    Calls Tryd.prog 36 #[.pointer (some ⟨pb, 0, none⟩), .agg #[.int .i32 loc], .pointer (some ⟨eb, 0, none⟩), .int .u8 op] w fun e w' => ∃ v1, e = .returned (.tuple #[v1, .bool true]) ∧ LowIxLogical sb i c 36 xr v src ll loc op lr C w (.returned v1) w' := by
  have e0 : w.cell? ⟨eb, 0, none⟩ = some (.iface 64 (.pointer (some ⟨ob, 0, none⟩))) := re.cell rfl
  have e1 : w.cell? ⟨eb, 1, none⟩ = some (.int .i32 ll) := re.cell rfl
  have o2 : w.cell? ⟨ob, 2, none⟩ = some (.iface 36 (.pointer (some ⟨nb, 0, none⟩))) := ro.cell rfl
  have lx := Base.block_of_cell hx
  have le := re.lt
  have lo := ro.lt
  have Hc := Lib.hid hc
  clear hc
  go_enter Tryd.func36, Tryd.ntmps36
  go_wp2_with (first | (go_at_call 40; go_in) | (go_at_call 43; go_in))
  generalize hW : World.alloc _ _ = W
  have hbW : Below w.heap.size w W := by rw [← hW]; go_grown
  have hz : w.heap.size + 4 ≤ W.heap.size := by rw [← hW]; simp <;> omega
  have rl : Base.RowAt W (w.heap.size) 32 #[.int .i32 loc] := by
    rw [← hW]
    repeat (first | (refine Base.RowAt.new' _ _ _ _ ?_; simp; done) | refine Base.RowAt.drew ?_ | refine Base.RowAt.alloc ?_ _)
  have re' : Base.RowAt W (w.heap.size + 1) 41 #[.pointer (some ⟨eb, 0, none⟩)] := by
    rw [← hW]
    repeat (first | (refine Base.RowAt.new' _ _ _ _ ?_; simp; done) | refine Base.RowAt.drew ?_ | refine Base.RowAt.alloc ?_ _)
  have rop : Base.RowAt W (w.heap.size + 1 + 1) 45 #[.int .u8 op] := by
    rw [← hW]
    repeat (first | (refine Base.RowAt.new' _ _ _ _ ?_; simp; done) | refine Base.RowAt.drew ?_ | refine Base.RowAt.alloc ?_ _)
  have rr : Base.RowAt W (w.heap.size + 1 + 1 + 1) 34 #[.nilIface, .int .i32 0] := by
    rw [← hW]
    repeat (first | (refine Base.RowAt.new' _ _ _ _ ?_; simp; done) | refine Base.RowAt.drew ?_ | refine Base.RowAt.alloc ?_ _)
  clear hW
  have re2 := re.below hbW le
  have lsb := hC.lt
  refine Calls.mono (lowIxLogical pb sb n cap i c ob ib nb _ _ _ eb 36 xr v src tl il ll loc op lr C _ (hP.below hbW hP.lt) hi hn hne (hC.below hbW lsb) Hc.out hcm (ro.below hbW lo) hob (ri.below hbW ri.lt) hib (rn.below hbW rn.lt) hnb rl rop re' (by omega) (by omega) (by omega) heb (re2.cell rfl) (re2.cell rfl)) ?_
  rintro e w2 ⟨b, a, x1, x2, i1, i2, m1, m2, rfl, ⟨hk2, hs2⟩, hl, h1, h2, h3, h4, h5, h6, h7, h8, h9, rb, ra, rx1, rx2, ri1, ri2, rm1, rm2⟩
  have rr := rr.kept hk2 (by simp <;> omega)
  have o0 : w2.cell? ⟨w.heap.size + 1 + 1 + 1, 0, none⟩ = some (.nilIface) := rr.cell rfl
  have oo0 := rr.free 0
  have o1 : w2.cell? ⟨w.heap.size + 1 + 1 + 1, 1, none⟩ = some (.int .i32 0) := rr.cell rfl
  have oo1 := rr.free 1
  have hk : Base.KeptBut [sb] w w2 := (Base.KeptBut.of_below hbW).trans hk2
  have HR := Lib.hid rr
  have Hk := Lib.hid hk
  have Hrb := Lib.hid rb
  have Hra := Lib.hid ra
  have Hrx1 := Lib.hid rx1
  have Hrx2 := Lib.hid rx2
  have Hri1 := Lib.hid ri1
  have Hri2 := Lib.hid ri2
  have Hrm1 := Lib.hid rm1
  have Hrm2 := Lib.hid rm2
  have Hhs2 := Lib.hid hs2
  clear rr hk hk2 rb ra rx1 rx2 ri1 ri2 rm1 rm2 hs2 rl re' rop re2 hC hP
  go_wp2
  generalize hV : World.setCell _ _ _ = V
  have rv : Base.RowAt V (w.heap.size + 1 + 1 + 1) 34 #[.iface 41 (.pointer (some ⟨b, 0, none⟩)), .int .i32 loc] := by
    rw [← hV]
    exact ((HR.out.set 0 _).set 1 _)
  have hkV : Base.KeptBut [sb] w V := by
    rw [← hV]
    exact ((Hk.out.setCell (Or.inr (by show w.heap.size ≤ w.heap.size + 1 + 1 + 1; omega)) _).setCell (Or.inr (by show w.heap.size ≤ w.heap.size + 1 + 1 + 1; omega)) _)
  have g : ∀ {b : Nat} {t : TypeId} {c : Array Value}, b ≠ w.heap.size + 1 + 1 + 1 → Base.RowAt w2 b t c → Base.RowAt V b t c := fun {b} {t} {c} hb h => by
    rw [← hV]
    exact ((h.setOther hb _).setOther hb _)
  clear hV
  have z0 : V.cell? ⟨w.heap.size + 1 + 1 + 1, 0, none⟩ = some (.iface 41 (.pointer (some ⟨b, 0, none⟩))) := rv.cell rfl
  have z1 : V.cell? ⟨w.heap.size + 1 + 1 + 1, 1, none⟩ = some (.int .i32 loc) := rv.cell rfl
  refine bodyPost_ret (v := .tuple #[.agg #[.iface 41 (.pointer (some ⟨b, 0, none⟩)), .int .i32 loc], .bool true]) ?_ rfl ?_
  · simp [results, Tryd.results36, go_sem, z0, z1]
  · exact ⟨_, rfl, b, a, x1, x2, i1, i2, m1, m2, rfl, ⟨hkV, (g (by omega) Hhs2.out)⟩, by omega, h1, h2, h3, h4, h5, h6, h7, h8, h9, (g (by omega) Hrb.out), (g (by omega) Hra.out), (g (by omega) Hrx1.out), (g (by omega) Hrx2.out), (g (by omega) Hri1.out), (g (by omega) Hri2.out), (g (by omega) Hrm1.out), (g (by omega) Hrm2.out)⟩
set_option maxRecDepth 100000 in
set_option maxHeartbeats 2000000 in
theorem low36xno (pb ob nb eb : Nat) (x ll loc op : Int) (w : World)
    (hx : w.cell? ⟨pb, 23, none⟩ = some (.int .u64 x)) (hx1 : (bits BinOp.and IntKind.u64 x 137438953472 != 0) = false)
    (e0 : w.cell? ⟨eb, 0, none⟩ = some (.iface 64 (.pointer (some ⟨ob, 0, none⟩)))) (e1 : w.cell? ⟨eb, 1, none⟩ = some (.int .i32 ll)) (o2 : w.cell? ⟨ob, 2, none⟩ = some (.iface 36 (.pointer (some ⟨nb, 0, none⟩)))) :
    Calls Tryd.prog 36 #[.pointer (some ⟨pb, 0, none⟩), .agg #[.int .i32 loc], .pointer (some ⟨eb, 0, none⟩), .int .u8 op] w fun e w' => e = .returned (.tuple #[.agg #[.nilIface, .int .i32 0], .bool false]) ∧ Below w.heap.size w w' := by
  have lx := Base.block_of_cell hx
  have le := Base.block_of_cell e0
  have lo := Base.block_of_cell o2
  go_enter Tryd.func36, Tryd.ntmps36
  go_wp2_with (first | (go_at_call 40; go_in) | (go_at_call 43; go_in))
  go_returns
  exact ⟨rfl, by go_grown⟩
set_option maxRecDepth 100000 in
set_option maxHeartbeats 2000000 in
theorem low21xyes (pb sb n cap i c ob ib nb eb xr v : Nat) (x src tl il ll loc op lr : Int) (C : Array Value) (w : World) (hP : ParAt w pb sb n cap) (hi : i < n) (hn : n ≤ 4294967295) (hne : pb ≠ sb)
    (hx : w.cell? ⟨pb, 23, none⟩ = some (.int .u64 x)) (hx1 : (bits BinOp.and IntKind.u64 x 137438953472 != 0) = true)
    (hC : Base.RowAt w sb 223 C) (hc : C[i * 10 + 4]? = some (.int .u32 (c : Int))) (hcm : c < 4294967294)
    (ro : Base.RowAt w ob 69 #[.iface 55 (.pointer (some ⟨ib, 0, none⟩)), .int .i32 tl, .iface 36 (.pointer (some ⟨nb, 0, none⟩)), .int .i32 il, .int .i32 0, .int .u8 0, .bool false, .bool false, .bool false]) (hob : ob ≠ sb)
    (ri : Base.RowAt w ib 214 #[.int .u32 src, .int .u32 (i : Int), .bool false, .bool false, .bool false]) (hib : ib ≠ sb) (rn : Base.RowAt w nb 50 #[.float .f64 v]) (hnb : nb ≠ sb)
    (re : Base.RowAt w eb 47 #[.iface 64 (.pointer (some ⟨ob, 0, none⟩)), .int .i32 ll, .iface 36 (.pointer (some ⟨xr, 0, none⟩)), .int .i32 lr, .int .u8 0, .bool false]) (heb : eb ≠ sb) :
    Calls Tryd.prog 21 #[.pointer (some ⟨pb, 0, none⟩), .agg #[.int .i32 loc], .pointer (some ⟨eb, 0, none⟩), .int .u8 op] w fun e w' => ∃ v1, e = .returned (.tuple #[v1, .bool true]) ∧ LowIxLogical sb i c 36 xr v src ll loc op lr C w (.returned v1) w' := by
  have Hc := Lib.hid hc
  have lsb := hC.lt
  have le := re.lt
  have lo := ro.lt
  have lx := Base.block_of_cell hx
  clear hc
  go_enter Tryd.func21, Tryd.ntmps21
  go_wp2_with fail
  generalize hW : World.alloc _ _ = W
  have hbW : Below w.heap.size w W := by rw [← hW]; go_grown
  have hz : w.heap.size + 2 ≤ W.heap.size := by rw [← hW]; simp <;> omega
  have rr : Base.RowAt W (w.heap.size + 1) 34 #[.nilIface, .int .i32 0] := by
    rw [← hW]
    repeat (first | (refine Base.RowAt.new' _ _ _ _ ?_; simp; done) | refine Base.RowAt.drew ?_ | refine Base.RowAt.alloc ?_ _)
  clear hW
  refine Calls.mono (low36xyes pb sb n cap i c ob ib nb eb xr v x src tl il ll loc op lr C _ (hP.below hbW hP.lt) hi hn hne (Base.cell_below hbW lx hx) hx1 (hC.below hbW lsb) Hc.out hcm (ro.below hbW lo) hob (ri.below hbW ri.lt) hib (rn.below hbW rn.lt) hnb (re.below hbW le) heb) ?_
  rintro e w2 ⟨v1, rfl, b, a, x1, x2, i1, i2, m1, m2, hv, ⟨hk2, hs2⟩, hl, h1, h2, h3, h4, h5, h6, h7, h8, h9, rb, ra, rx1, rx2, ri1, ri2, rm1, rm2⟩
  obtain rfl := Ending.returned.inj hv
  clear hv
  have rr := rr.kept hk2 (by simp <;> omega)
  have o0 : w2.cell? ⟨w.heap.size + 1, 0, none⟩ = some (.nilIface) := rr.cell rfl
  have oo0 := rr.free 0
  have o1 : w2.cell? ⟨w.heap.size + 1, 1, none⟩ = some (.int .i32 0) := rr.cell rfl
  have oo1 := rr.free 1
  have hk : Base.KeptBut [sb] w w2 := (Base.KeptBut.of_below hbW).trans hk2
  have HR := Lib.hid rr
  have Hk := Lib.hid hk
  have Hrb := Lib.hid rb
  have Hra := Lib.hid ra
  have Hrx1 := Lib.hid rx1
  have Hrx2 := Lib.hid rx2
  have Hri1 := Lib.hid ri1
  have Hri2 := Lib.hid ri2
  have Hrm1 := Lib.hid rm1
  have Hrm2 := Lib.hid rm2
  have Hhs2 := Lib.hid hs2
  clear rr hk hk2 rb ra rx1 rx2 ri1 ri2 rm1 rm2 hs2 hC hP
  go_wp2
  generalize hV : World.setCell _ _ _ = V
  have rv : Base.RowAt V (w.heap.size + 1) 34 #[.iface 41 (.pointer (some ⟨b, 0, none⟩)), .int .i32 loc] := by
    rw [← hV]
    exact ((HR.out.set 0 _).set 1 _)
  have hkV : Base.KeptBut [sb] w V := by
    rw [← hV]
    exact ((Hk.out.setCell (Or.inr (by show w.heap.size ≤ w.heap.size + 1; omega)) _).setCell (Or.inr (by show w.heap.size ≤ w.heap.size + 1; omega)) _)
  have g : ∀ {b : Nat} {t : TypeId} {c : Array Value}, b ≠ w.heap.size + 1 → Base.RowAt w2 b t c → Base.RowAt V b t c := fun {b} {t} {c} hb h => by
    rw [← hV]
    exact ((h.setOther hb _).setOther hb _)
  clear hV
  have z0 : V.cell? ⟨w.heap.size + 1, 0, none⟩ = some (.iface 41 (.pointer (some ⟨b, 0, none⟩))) := rv.cell rfl
  have z1 : V.cell? ⟨w.heap.size + 1, 1, none⟩ = some (.int .i32 loc) := rv.cell rfl
  refine bodyPost_ret (v := .tuple #[.agg #[.iface 41 (.pointer (some ⟨b, 0, none⟩)), .int .i32 loc], .bool true]) ?_ rfl ?_
  · simp [results, Tryd.results21, go_sem, z0, z1]
  · exact ⟨_, rfl, b, a, x1, x2, i1, i2, m1, m2, rfl, ⟨hkV, (g (by omega) Hhs2.out)⟩, by omega, h1, h2, h3, h4, h5, h6, h7, h8, h9, (g (by omega) Hrb.out), (g (by omega) Hra.out), (g (by omega) Hrx1.out), (g (by omega) Hrx2.out), (g (by omega) Hri1.out), (g (by omega) Hri2.out), (g (by omega) Hrm1.out), (g (by omega) Hrm2.out)⟩
set_option maxRecDepth 100000 in
set_option maxHeartbeats 2000000 in
theorem low21xno (pb ob nb eb : Nat) (x ll loc op : Int) (w : World)
    (hx : w.cell? ⟨pb, 23, none⟩ = some (.int .u64 x)) (hx1 : (bits BinOp.and IntKind.u64 x 137438953472 != 0) = false)
    (e0 : w.cell? ⟨eb, 0, none⟩ = some (.iface 64 (.pointer (some ⟨ob, 0, none⟩)))) (e1 : w.cell? ⟨eb, 1, none⟩ = some (.int .i32 ll)) (o2 : w.cell? ⟨ob, 2, none⟩ = some (.iface 36 (.pointer (some ⟨nb, 0, none⟩)))) :
    Calls Tryd.prog 21 #[.pointer (some ⟨pb, 0, none⟩), .agg #[.int .i32 loc], .pointer (some ⟨eb, 0, none⟩), .int .u8 op] w fun e w' => e = .returned (.tuple #[.agg #[.nilIface, .int .i32 0], .bool false]) ∧ Below w.heap.size w w' := by
  have lx := Base.block_of_cell hx
  have le := Base.block_of_cell e0
  have lo := Base.block_of_cell o2
  go_enter Tryd.func21, Tryd.ntmps21
  go_wp2_with fail
  generalize hW : World.alloc _ _ = W
  have hbW : Below w.heap.size w W := by rw [← hW]; go_grown
  have hz : w.heap.size + 2 ≤ W.heap.size := by rw [← hW]; simp <;> omega
  have rr : Base.RowAt W (w.heap.size + 1) 34 #[.nilIface, .int .i32 0] := by
    rw [← hW]
    repeat (first | (refine Base.RowAt.new' _ _ _ _ ?_; simp; done) | refine Base.RowAt.drew ?_ | refine Base.RowAt.alloc ?_ _)
  clear hW
  refine Calls.mono (low36xno pb ob nb eb x ll loc op _ (Base.cell_below hbW lx hx) hx1 (Base.cell_below hbW le e0) (Base.cell_below hbW le e1) (Base.cell_below hbW lo o2)) ?_
  rintro e w2 ⟨rfl, hb2⟩
  have hk2 : Base.KeptBut [] W w2 := .of_below hb2
  have rr := rr.kept hk2 (by simp <;> omega)
  have o0 : w2.cell? ⟨w.heap.size + 1, 0, none⟩ = some (.nilIface) := rr.cell rfl
  have oo0 := rr.free 0
  have o1 : w2.cell? ⟨w.heap.size + 1, 1, none⟩ = some (.int .i32 0) := rr.cell rfl
  have oo1 := rr.free 1
  have hk : Base.KeptBut [] w w2 := (Base.KeptBut.of_below hbW).trans hk2
  have HR := Lib.hid rr
  have Hk := Lib.hid hk
  clear rr hk hk2  hb2
  go_wp2
  generalize hV : World.setCell _ _ _ = V
  have rv : Base.RowAt V (w.heap.size + 1) 34 #[.nilIface, .int .i32 0] := by
    rw [← hV]
    exact ((HR.out.set 0 _).set 1 _)
  have hkV : Base.KeptBut [] w V := by
    rw [← hV]
    exact ((Hk.out.setCell (Or.inr (by show w.heap.size ≤ w.heap.size + 1; omega)) _).setCell (Or.inr (by show w.heap.size ≤ w.heap.size + 1; omega)) _)
  have g : ∀ {b : Nat} {t : TypeId} {c : Array Value}, b ≠ w.heap.size + 1 → Base.RowAt w2 b t c → Base.RowAt V b t c := fun {b} {t} {c} hb h => by
    rw [← hV]
    exact ((h.setOther hb _).setOther hb _)
  clear hV
  have z0 : V.cell? ⟨w.heap.size + 1, 0, none⟩ = some (.nilIface) := rv.cell rfl
  have z1 : V.cell? ⟨w.heap.size + 1, 1, none⟩ = some (.int .i32 0) := rv.cell rfl
  refine bodyPost_ret (v := .tuple #[.agg #[.nilIface, .int .i32 0], .bool false]) ?_ rfl ?_
  · simp [results, Tryd.results21, go_sem, z0, z1]
  · exact ⟨rfl, hkV.below (Nat.le_refl _) (fun k hk => by simp at hk)⟩
end Go.Proofs.YtlgefnjkoklboaaDoor.Use
