/- The door of the lowering of a nullish assignment. No condition. -/
import Derived.Test.YtlgefnjkoklboaaDoorLow38
import Derived.Test.YtlgefnjkoklboaaDoorLaws
namespace Go.Proofs.YtlgefnjkoklboaaDoor.Use
open Go.ChangeShapes Go.WideShapes Go.ChangeAt Go.RowKit Go.Sort
set_option linter.unusedVariables false
set_option maxRecDepth 100000 in
set_option maxHeartbeats 1000000 in
theorem low34No (pb sb n cap i c ib eb nb : Nat) (x src ll loc lr : Int) (C : Array Value) (w : World) (hP : ParAt w pb sb n cap) (hi : i < n) (hn : n ≤ 4294967295) (hne : pb ≠ sb)
    (hx : w.cell? ⟨pb, 23, none⟩ = some (.int .u64 x)) (hx1 : (bits BinOp.and IntKind.u64 x 137438953472 != 0) = true) (hx2 : (bits BinOp.and IntKind.u64 x 4398046511104 != 0) = false)
    (hC : Base.RowAt w sb 223 C) (hc : C[i * 10 + 4]? = some (.int .u32 (c : Int))) (hcm : c < 4294967293)
    (ri : Base.RowAt w ib 214 #[.int .u32 src, .int .u32 (i : Int), .bool false, .bool false, .bool false]) (hib : ib ≠ sb)
    (re : Base.RowAt w eb 47 #[.iface 55 (.pointer (some ⟨ib, 0, none⟩)), .int .i32 ll, .iface 36 (.pointer (some ⟨nb, 0, none⟩)), .int .i32 lr, .int .u8 0, .bool false]) (heb : eb ≠ sb) :
    Calls Tryd.prog 34 #[.pointer (some ⟨pb, 0, none⟩), .agg #[.int .i32 loc], .pointer (some ⟨eb, 0, none⟩)] w fun e w' => ∃ v, e = .returned (.tuple #[v, .bool true]) ∧ LowIdLogical sb i c ib 36 nb src ll loc 30 lr C w (.returned v) w' := by
  have Hc := Lib.hid hc
  have lsb := hC.lt
  have le := re.lt
  have lib := ri.lt
  have lpb := hP.lt
  have lx := Base.block_of_cell hx
  clear hc
  go_enter Tryd.func34, Tryd.ntmps34
  go_wp2_with fail
  generalize hW : World.alloc _ _ = W
  have hbW : Below w.heap.size w W := by rw [← hW]; go_grown
  have hz : w.heap.size + 2 ≤ W.heap.size := by rw [← hW]; simp <;> omega
  have rr : Base.RowAt W (w.heap.size + 1) 34 #[.nilIface, .int .i32 0] := by
    rw [← hW]
    exact (Base.RowAt.new' _ _ _ _ (by simp))
  clear hW
  refine Calls.mono (low38No pb sb n cap i c ib eb nb x src ll loc lr C _ (hP.below hbW lpb) hi hn hne (Base.cell_below hbW lx hx) hx1 hx2 (hC.below hbW lsb) Hc.out hcm (ri.below hbW lib) hib (re.below hbW le) heb) ?_
  rintro e w2 ⟨v, rfl, b, a, xx, hv, ⟨hk2, hs2⟩, hxl, hxa, hab, rb, ra, rx⟩
  obtain rfl := Ending.returned.inj hv
  clear hv
  have rr := rr.kept hk2 (by simp <;> omega)
  have o0 : w2.cell? ⟨w.heap.size + 1, 0, none⟩ = some (.nilIface) := rr.cell rfl
  have oo0 := rr.free 0
  have o1 : w2.cell? ⟨w.heap.size + 1, 1, none⟩ = some (.int .i32 0) := rr.cell rfl
  have oo1 := rr.free 1
  have hk : Base.KeptBut [sb] w w2 := (Base.KeptBut.of_below hbW).trans hk2
  have HR := Lib.hid rr
  have Hk := Lib.hid hk
  have Hrb := Lib.hid rb
  have Hra := Lib.hid ra
  have Hrx := Lib.hid rx
  have Hhs2 := Lib.hid hs2
  clear rr hk hk2 rb ra rx hs2 hC hP
  go_wp2
  generalize hV : World.setCell _ _ _ = V
  have rv : Base.RowAt V (w.heap.size + 1) 34 #[.iface 41 (.pointer (some ⟨b, 0, none⟩)), .int .i32 loc] := by
    rw [← hV]
    exact ((HR.out.set 0 _).set 1 _)
  have hkV : Base.KeptBut [sb] w V := by
    rw [← hV]
    exact ((Hk.out.setCell (Or.inr (by show w.heap.size ≤ w.heap.size + 1; omega)) _).setCell (Or.inr (by show w.heap.size ≤ w.heap.size + 1; omega)) _)
  have g : ∀ {b : Nat} {t : TypeId} {c : Array Value}, b ≠ w.heap.size + 1 → Base.RowAt w2 b t c → Base.RowAt V b t c := fun {b} {t} {c} hb h => by
    rw [← hV]
    exact ((h.setOther hb _).setOther hb _)
  clear hV
  have z0 : V.cell? ⟨w.heap.size + 1, 0, none⟩ = some (.iface 41 (.pointer (some ⟨b, 0, none⟩))) := rv.cell rfl
  have z1 : V.cell? ⟨w.heap.size + 1, 1, none⟩ = some (.int .i32 loc) := rv.cell rfl
  refine bodyPost_ret (v := .tuple #[.agg #[.iface 41 (.pointer (some ⟨b, 0, none⟩)), .int .i32 loc], .bool true]) ?_ rfl ?_
  · simp [results, Tryd.results34, go_sem, z0, z1]
  · exact ⟨_, rfl, b, a, xx, rfl, ⟨hkV, (g (by omega) Hhs2.out)⟩, by omega, hxa, hab, (g (by omega) Hrb.out), (g (by omega) Hra.out), (g (by omega) Hrx.out)⟩
set_option maxRecDepth 100000 in
set_option maxHeartbeats 1000000 in
theorem low34Yes (pb sb n cap i c ib eb nb : Nat) (x src ll loc lr : Int) (C : Array Value) (w : World) (hP : ParAt w pb sb n cap) (hi : i < n) (hn : n ≤ 4294967295) (hne : pb ≠ sb)
    (hx : w.cell? ⟨pb, 23, none⟩ = some (.int .u64 x)) (hx1 : (bits BinOp.and IntKind.u64 x 137438953472 != 0) = true) (hx2 : (bits BinOp.and IntKind.u64 x 4398046511104 != 0) = true)
    (hC : Base.RowAt w sb 223 C) (hc : C[i * 10 + 4]? = some (.int .u32 (c : Int))) (hcm : c < 4294967293)
    (ri : Base.RowAt w ib 214 #[.int .u32 src, .int .u32 (i : Int), .bool false, .bool false, .bool false]) (hib : ib ≠ sb)
    (re : Base.RowAt w eb 47 #[.iface 55 (.pointer (some ⟨ib, 0, none⟩)), .int .i32 ll, .iface 36 (.pointer (some ⟨nb, 0, none⟩)), .int .i32 lr, .int .u8 0, .bool false]) (heb : eb ≠ sb) :
    Calls Tryd.prog 34 #[.pointer (some ⟨pb, 0, none⟩), .agg #[.int .i32 loc], .pointer (some ⟨eb, 0, none⟩)] w fun e w' => ∃ v, e = .returned (.tuple #[v, .bool true]) ∧ LowIdNullIf sb i c ib 36 nb loc ll lr src C w (.returned v) w' := by
  have Hc := Lib.hid hc
  have lsb := hC.lt
  have le := re.lt
  have lib := ri.lt
  have lpb := hP.lt
  have lx := Base.block_of_cell hx
  clear hc
  go_enter Tryd.func34, Tryd.ntmps34
  go_wp2_with fail
  generalize hW : World.alloc _ _ = W
  have hbW : Below w.heap.size w W := by rw [← hW]; go_grown
  have hz : w.heap.size + 2 ≤ W.heap.size := by rw [← hW]; simp <;> omega
  have rr : Base.RowAt W (w.heap.size + 1) 34 #[.nilIface, .int .i32 0] := by
    rw [← hW]
    exact (Base.RowAt.new' _ _ _ _ (by simp))
  clear hW
  refine Calls.mono (low38Yes pb sb n cap i c ib eb nb x src ll loc lr C _ (hP.below hbW lpb) hi hn hne (Base.cell_below hbW lx hx) hx1 hx2 (hC.below hbW lsb) Hc.out hcm (ri.below hbW lib) hib (re.below hbW le) heb) ?_
  rintro e w2 ⟨v, rfl, bi, bt, b1, b2, bn, ba, hv, hk2, hs2, hba, hai, hat, ha1, h12, hbn, ra, rb, rc, rd, rf, rg⟩
  obtain rfl := Ending.returned.inj hv
  clear hv
  have rr := rr.kept hk2 (by simp <;> omega)
  have o0 : w2.cell? ⟨w.heap.size + 1, 0, none⟩ = some (.nilIface) := rr.cell rfl
  have oo0 := rr.free 0
  have o1 : w2.cell? ⟨w.heap.size + 1, 1, none⟩ = some (.int .i32 0) := rr.cell rfl
  have oo1 := rr.free 1
  have hk : Base.KeptBut [sb] w w2 := (Base.KeptBut.of_below hbW).trans hk2
  have HR := Lib.hid rr
  have Hk := Lib.hid hk
  have Hra := Lib.hid ra
  have Hrb := Lib.hid rb
  have Hrc := Lib.hid rc
  have Hrd := Lib.hid rd
  have Hrf := Lib.hid rf
  have Hrg := Lib.hid rg
  have Hhs2 := Lib.hid hs2
  clear rr hk hk2 ra rb rc rd rf rg hs2 hC hP
  go_wp2
  generalize hV : World.setCell _ _ _ = V
  have rv : Base.RowAt V (w.heap.size + 1) 34 #[.iface 39 (.pointer (some ⟨bi, 0, none⟩)), .int .i32 loc] := by
    rw [← hV]
    exact ((HR.out.set 0 _).set 1 _)
  have hkV : Base.KeptBut [sb] w V := by
    rw [← hV]
    exact ((Hk.out.setCell (Or.inr (by show w.heap.size ≤ w.heap.size + 1; omega)) _).setCell (Or.inr (by show w.heap.size ≤ w.heap.size + 1; omega)) _)
  have g : ∀ {b : Nat} {t : TypeId} {c : Array Value}, b ≠ w.heap.size + 1 → Base.RowAt w2 b t c → Base.RowAt V b t c := fun {b} {t} {c} hb h => by
    rw [← hV]
    exact ((h.setOther hb _).setOther hb _)
  clear hV
  have z0 : V.cell? ⟨w.heap.size + 1, 0, none⟩ = some (.iface 39 (.pointer (some ⟨bi, 0, none⟩))) := rv.cell rfl
  have z1 : V.cell? ⟨w.heap.size + 1, 1, none⟩ = some (.int .i32 loc) := rv.cell rfl
  refine bodyPost_ret (v := .tuple #[.agg #[.iface 39 (.pointer (some ⟨bi, 0, none⟩)), .int .i32 loc], .bool true]) ?_ rfl ?_
  · simp [results, Tryd.results34, go_sem, z0, z1]
  · exact ⟨_, rfl, bi, bt, b1, b2, bn, ba, rfl, hkV, (g (by omega) Hhs2.out), by omega, hai, hat, ha1, h12, by omega, (g (by omega) Hra.out), (g (by omega) Hrb.out), (g (by omega) Hrc.out), (g (by omega) Hrd.out), (g (by omega) Hrf.out), (g (by omega) Hrg.out)⟩
set_option maxRecDepth 100000 in
set_option maxHeartbeats 1000000 in
theorem low34no (pb eb T ib : Nat) (x ll loc : Int) (w : World) (hx : w.cell? ⟨pb, 23, none⟩ = some (.int .u64 x))
    (e0 : w.cell? ⟨eb, 0, none⟩ = some (.iface T (.pointer (some ⟨ib, 0, none⟩)))) (e1 : w.cell? ⟨eb, 1, none⟩ = some (.int .i32 ll)) (hpriv : ∀ u : World, Calls Tryd.prog 40 #[.pointer (some ⟨pb, 0, none⟩), .agg #[.iface T (.pointer (some ⟨ib, 0, none⟩)), .int .i32 ll]] u fun e w' => e = .returned (.tuple #[.agg #[.nilIface, .int .i32 0], .agg #[.int .i32 0], .pointer none]) ∧ Below u.heap.size u w') (hx1 : (bits BinOp.and IntKind.u64 x 137438953472 != 0) = false) :
    Calls Tryd.prog 34 #[.pointer (some ⟨pb, 0, none⟩), .agg #[.int .i32 loc], .pointer (some ⟨eb, 0, none⟩)] w fun e w' => e = .returned (.tuple #[.agg #[.nilIface, .int .i32 0], .bool false]) ∧ Below w.heap.size w w' := by
  have lx := Base.block_of_cell hx
  have le := Base.block_of_cell e0
  go_enter Tryd.func34, Tryd.ntmps34
  go_wp2_with fail
  generalize hW : World.alloc _ _ = W
  have hbW : Below w.heap.size w W := by rw [← hW]; go_grown
  have hz : w.heap.size + 2 ≤ W.heap.size := by rw [← hW]; simp <;> omega
  have rr : Base.RowAt W (w.heap.size + 1) 34 #[.nilIface, .int .i32 0] := by
    rw [← hW]
    exact (Base.RowAt.new' _ _ _ _ (by simp))
  clear hW
  refine Calls.mono (low38no pb eb T ib x ll loc _ (Base.cell_below hbW lx hx) (Base.cell_below hbW le e0) (Base.cell_below hbW le e1) hpriv hx1) ?_
  rintro e w2 ⟨rfl, hb2⟩
  have hk2 : Base.KeptBut [] W w2 := .of_below hb2
  have rr := rr.kept hk2 (by simp <;> omega)
  have o0 : w2.cell? ⟨w.heap.size + 1, 0, none⟩ = some (.nilIface) := rr.cell rfl
  have oo0 := rr.free 0
  have o1 : w2.cell? ⟨w.heap.size + 1, 1, none⟩ = some (.int .i32 0) := rr.cell rfl
  have oo1 := rr.free 1
  have hk : Base.KeptBut [] w w2 := (Base.KeptBut.of_below hbW).trans hk2
  have HR := Lib.hid rr
  have Hk := Lib.hid hk
  clear rr hk hk2  hb2
  go_wp2
  generalize hV : World.setCell _ _ _ = V
  have rv : Base.RowAt V (w.heap.size + 1) 34 #[.nilIface, .int .i32 0] := by
    rw [← hV]
    exact ((HR.out.set 0 _).set 1 _)
  have hkV : Base.KeptBut [] w V := by
    rw [← hV]
    exact ((Hk.out.setCell (Or.inr (by show w.heap.size ≤ w.heap.size + 1; omega)) _).setCell (Or.inr (by show w.heap.size ≤ w.heap.size + 1; omega)) _)
  have g : ∀ {b : Nat} {t : TypeId} {c : Array Value}, b ≠ w.heap.size + 1 → Base.RowAt w2 b t c → Base.RowAt V b t c := fun {b} {t} {c} hb h => by
    rw [← hV]
    exact ((h.setOther hb _).setOther hb _)
  clear hV
  have z0 : V.cell? ⟨w.heap.size + 1, 0, none⟩ = some (.nilIface) := rv.cell rfl
  have z1 : V.cell? ⟨w.heap.size + 1, 1, none⟩ = some (.int .i32 0) := rv.cell rfl
  refine bodyPost_ret (v := .tuple #[.agg #[.nilIface, .int .i32 0], .bool false]) ?_ rfl ?_
  · simp [results, Tryd.results34, go_sem, z0, z1]
  · exact ⟨rfl, hkV.below (Nat.le_refl _) (fun k hk => by simp at hk)⟩
end Go.Proofs.YtlgefnjkoklboaaDoor.Use
