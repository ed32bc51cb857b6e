/- The law on a nullish assignment to an identifier, walked. No condition. -/
import Derived.Test.YtlgefnjkoklboaaDoorLow34
import Derived.Test.YtlgefnjkoklboaaDoorDeepCells
namespace Go.Proofs.YtlgefnjkoklboaaDoor.Use
open Go.ChangeShapes Go.WideShapes Go.ChangeAt Go.RowKit Go.Sort
set_option linter.unusedVariables false
set_option maxRecDepth 100000 in
set_option maxHeartbeats 4000000 in
theorem law35no (x src ll loc rl : Int) (m v : Nat) (w : World) (hm : m ≤ 65536) (hx1 : (bits BinOp.and IntKind.u64 x 137438953472 != 0) = false) : Calls Tryd.prog 9 #[.int .u64 x, .int .u32 src, .int .u32 (m : Int), .int .i32 ll, .int .i32 loc, .int .i32 rl, .float .f64 v] w fun e w' => e = .returned (.bool true) ∧ Below w.heap.size w w' := by
  have hbig : (m : Int) ≤ 65536 := by omega
  go_enter Tryd.func9, Tryd.ntmps9
  go_wp2_with fail
  rw [show ((m : Int) + 1) = ((m + 1 : Nat) : Int) from rfl]
  refine Calls.mono (l131.newParser x (m + 1) (by omega) 0 0 _) ?_
  rintro e w1 ⟨pb, sb, mb, rfl, hb1, hsb, hmb, hsp, hmp, rp, rs, rm⟩
  obtain ⟨hP, hx, -⟩ := parAt rp
  have hC0 : Cnt _ (m + 1) (fun _ => 0) := Cnt.made (z := #[.pointer none, .string ⟨#[]⟩, .int .u32 0, .int .u32 0, .int .u32 0, .int .u32 0, .int .u32 0, .int .u16 0, .int .u8 0, .int .u8 0]) (m + 1) rfl rfl
  generalize madeCells _ _ = C at rs hC0
  have lpb := hP.lt
  have lsb := rs.lt
  have HC0 := Lib.hid hC0
  clear rp rm hC0
  go_wp2_with (first | (go_at_call 11; go_in) | (go_at_call 12; go_in) | (go_at_call 19; go_in) | (go_at_call 20; go_in))
  generalize hW : World.alloc _ _ = W
  have hz : w1.heap.size + 13 ≤ W.heap.size := by rw [← hW]; simp <;> omega
  have hbW : Below w1.heap.size w1 W := by rw [← hW]; go_grown
  have rf : Base.RowAt W (w1.heap.size) 28 #[.int .u32 src, .int .u32 ↑m] := by
    rw [← hW]
    exact (((((((((((((Base.RowAt.new' _ _ _ _ (by simp)).alloc _).alloc _).alloc _).alloc _).alloc _).alloc _).alloc _).alloc _).alloc _).alloc _).alloc _).alloc _)
  have ri : Base.RowAt W (w1.heap.size + 1 + 1 + 1 + 1) 214 #[.int .u32 src, .int .u32 ↑m, .bool false, .bool false, .bool false] := by
    rw [← hW]
    exact (((((((((Base.RowAt.new' _ _ _ _ (by simp)).alloc _).alloc _).alloc _).alloc _).alloc _).alloc _).alloc _).alloc _)
  have rn : Base.RowAt W (w1.heap.size + 1 + 1 + 1 + 1 + 1 + 1 + 1 + 1) 50 #[.float .f64 v] := by
    rw [← hW]
    exact (((((Base.RowAt.new' _ _ _ _ (by simp)).alloc _).alloc _).alloc _).alloc _)
  have re : Base.RowAt W (w1.heap.size + 1 + 1 + 1 + 1 + 1 + 1 + 1 + 1 + 1 + 1 + 1 + 1) 47 #[.iface 55 (.pointer (some ⟨w1.heap.size + 1 + 1 + 1 + 1, 0, none⟩)), .int .i32 ll, .iface 36 (.pointer (some ⟨w1.heap.size + 1 + 1 + 1 + 1 + 1 + 1 + 1 + 1, 0, none⟩)), .int .i32 rl, .int .u8 0, .bool false] := by
    rw [← hW]
    exact (Base.RowAt.new' _ _ _ _ (by simp))
  clear hW
  have hP := hP.below hbW lpb
  have hx := Base.cell_below hbW lpb hx
  have rs := rs.below hbW lsb
  have hpriv := fun u => noPriv (.pointer (some ⟨pb, 0, none⟩)) 55 (w1.heap.size + 1 + 1 + 1 + 1) ll u (by decide)
  refine Calls.mono (low34no pb (w1.heap.size + 1 + 1 + 1 + 1 + 1 + 1 + 1 + 1 + 1 + 1 + 1 + 1) 55 (w1.heap.size + 1 + 1 + 1 + 1) x ll loc _ hx (re.cell rfl) (re.cell rfl) hpriv hx1) ?_
  rintro e w2 ⟨rfl, hb2⟩
  have hP2 := hP.below hb2 hP.lt
  have hp2 := hP2.syms
  have rs2 := rs.below hb2 rs.lt
  have hbw : Below w.heap.size w w2 := hb1.trans ((hbW.mono hb1.size).trans (hb2.mono (Nat.le_trans hb1.size hbW.size)))
  have H0 := Lib.hid hbw
  have HS := Lib.hid rs2
  clear ri rn re rf hb2 hbw hP hP2 rs rs2 hbW hb1 hx hpriv
  go_wp2_with (first | (go_at_call 22; go_in))
  rw [show ((m : Int) + 1) = ((m + 1 : Nat) : Int) from rfl]
  generalize hW3 : World.alloc _ _ = W3
  have hbZ : Below w2.heap.size w2 W3 := by rw [← hW3]; go_grown
  clear hW3
  have hp3 := Base.cell_below hbZ (Base.block_of_cell hp2) hp2
  have HS3 := HS.out.below hbZ HS.out.lt
  have H3 := Lib.hid (H0.out.trans (hbZ.mono H0.out.size))
  refine Calls.mono (total1 pb sb (m + 1) (fun _ => 0) 0 _ (by omega) hp3 (Lib.hid (HC0.out.cells HS3)) (Lib.hid (fun i hi => Nat.zero_le _)) (sum_zero _)) ?_
  rintro e w4 ⟨rfl, rfl⟩
  go_wp2
  go_returns
  exact ⟨rfl, H3.out⟩
set_option maxRecDepth 100000 in
set_option maxHeartbeats 4000000 in
theorem law35A (x src ll loc rl : Int) (m v : Nat) (w : World) (hm : m ≤ 65536) (hx1 : (bits BinOp.and IntKind.u64 x 137438953472 != 0) = true) (hx2 : (bits BinOp.and IntKind.u64 x 4398046511104 != 0) = false) : Calls Tryd.prog 9 #[.int .u64 x, .int .u32 src, .int .u32 (m : Int), .int .i32 ll, .int .i32 loc, .int .i32 rl, .float .f64 v] w fun e w' => e = .returned (.bool true) ∧ Below w.heap.size w w' := by
  have hbig : (m : Int) ≤ 65536 := by omega
  go_enter Tryd.func9, Tryd.ntmps9
  go_wp2_with fail
  rw [show ((m : Int) + 1) = ((m + 1 : Nat) : Int) from rfl]
  refine Calls.mono (l131.newParser x (m + 1) (by omega) 0 0 _) ?_
  rintro e w1 ⟨pb, sb, mb, rfl, hb1, hsb, hmb, hsp, hmp, rp, rs, rm⟩
  obtain ⟨hP, hx, -⟩ := parAt rp
  have hC0 : Cnt _ (m + 1) (fun _ => 0) := Cnt.made (z := #[.pointer none, .string ⟨#[]⟩, .int .u32 0, .int .u32 0, .int .u32 0, .int .u32 0, .int .u32 0, .int .u16 0, .int .u8 0, .int .u8 0]) (m + 1) rfl rfl
  generalize madeCells _ _ = C at rs hC0
  have lpb := hP.lt
  have lsb := rs.lt
  have HC0 := Lib.hid hC0
  clear rp rm hC0
  go_wp2_with (first | (go_at_call 11; go_in) | (go_at_call 12; go_in) | (go_at_call 19; go_in) | (go_at_call 20; go_in))
  generalize hW : World.alloc _ _ = W
  have hz : w1.heap.size + 13 ≤ W.heap.size := by rw [← hW]; simp <;> omega
  have hbW : Below w1.heap.size w1 W := by rw [← hW]; go_grown
  have rf : Base.RowAt W (w1.heap.size) 28 #[.int .u32 src, .int .u32 ↑m] := by
    rw [← hW]
    exact (((((((((((((Base.RowAt.new' _ _ _ _ (by simp)).alloc _).alloc _).alloc _).alloc _).alloc _).alloc _).alloc _).alloc _).alloc _).alloc _).alloc _).alloc _)
  have ri : Base.RowAt W (w1.heap.size + 1 + 1 + 1 + 1) 214 #[.int .u32 src, .int .u32 ↑m, .bool false, .bool false, .bool false] := by
    rw [← hW]
    exact (((((((((Base.RowAt.new' _ _ _ _ (by simp)).alloc _).alloc _).alloc _).alloc _).alloc _).alloc _).alloc _).alloc _)
  have rn : Base.RowAt W (w1.heap.size + 1 + 1 + 1 + 1 + 1 + 1 + 1 + 1) 50 #[.float .f64 v] := by
    rw [← hW]
    exact (((((Base.RowAt.new' _ _ _ _ (by simp)).alloc _).alloc _).alloc _).alloc _)
  have re : Base.RowAt W (w1.heap.size + 1 + 1 + 1 + 1 + 1 + 1 + 1 + 1 + 1 + 1 + 1 + 1) 47 #[.iface 55 (.pointer (some ⟨w1.heap.size + 1 + 1 + 1 + 1, 0, none⟩)), .int .i32 ll, .iface 36 (.pointer (some ⟨w1.heap.size + 1 + 1 + 1 + 1 + 1 + 1 + 1 + 1, 0, none⟩)), .int .i32 rl, .int .u8 0, .bool false] := by
    rw [← hW]
    exact (Base.RowAt.new' _ _ _ _ (by simp))
  clear hW
  have hP := hP.below hbW lpb
  have hx := Base.cell_below hbW lpb hx
  have rs := rs.below hbW lsb
  refine Calls.mono (low34No pb sb (m + 1) (m + 1) m 0 (w1.heap.size + 1 + 1 + 1 + 1) (w1.heap.size + 1 + 1 + 1 + 1 + 1 + 1 + 1 + 1 + 1 + 1 + 1 + 1) (w1.heap.size + 1 + 1 + 1 + 1 + 1 + 1 + 1 + 1) x src ll loc rl C _ hP (by omega) (by omega) (by omega) hx hx1 hx2 rs (HC0.out.2 m (by omega)) (by omega) ri (by omega) re (by omega)) ?_
  rintro e w2 ⟨v1, rfl, b, a, xx, hv, ⟨hk2, hs2⟩, hxl, hxa, hab, rb, ra, rx⟩
  obtain rfl := Ending.returned.inj hv
  clear hv
  have hC1 := HC0.out.set (i := m) (by omega)
  have b0 : w2.cell? ⟨b, 0, none⟩ = some (.iface 55 (.pointer (some ⟨xx, 0, none⟩))) := rb.cell rfl
  have b1 : w2.cell? ⟨b, 1, none⟩ = some (.int .i32 ll) := rb.cell rfl
  have b2 : w2.cell? ⟨b, 2, none⟩ = some (.iface 41 (.pointer (some ⟨a, 0, none⟩))) := rb.cell rfl
  have b3 : w2.cell? ⟨b, 3, none⟩ = some (.int .i32 ll) := rb.cell rfl
  have b4 : w2.cell? ⟨b, 4, none⟩ = some (.int .u8 30) := rb.cell rfl
  have a0 : w2.cell? ⟨a, 0, none⟩ = some (.iface 55 (.pointer (some ⟨w1.heap.size + 1 + 1 + 1 + 1, 0, none⟩))) := ra.cell rfl
  have a1 : w2.cell? ⟨a, 1, none⟩ = some (.int .i32 ll) := ra.cell rfl
  have a2 : w2.cell? ⟨a, 2, none⟩ = some (.iface 36 (.pointer (some ⟨w1.heap.size + 1 + 1 + 1 + 1 + 1 + 1 + 1 + 1, 0, none⟩))) := ra.cell rfl
  have a3 : w2.cell? ⟨a, 3, none⟩ = some (.int .i32 rl) := ra.cell rfl
  have a4 : w2.cell? ⟨a, 4, none⟩ = some (.int .u8 37) := ra.cell rfl
  have x0 : w2.cell? ⟨xx, 0, none⟩ = some (.int .u32 src) := rx.cell rfl
  have x1 : w2.cell? ⟨xx, 1, none⟩ = some (.int .u32 (m : Int)) := rx.cell rfl
  have px := rx.plain
  have nx : ¬ xx = w1.heap.size + 1 + 1 + 1 + 1 := by omega
  have lb := rb.lt
  have la := ra.lt
  have lx := rx.lt
  have px9 := hk2.size
  have hP2 := hP.kept hk2 (by simp <;> omega)
  have hp2 := hP2.syms
  have hc2 : w2.cell? ⟨sb, m * 10 + 4, none⟩ = some (.int .u32 1) := by
    have := hC1.cells hs2 m (by omega)
    simpa [bump] using this
  have hbw : Below w.heap.size w w2 := hb1.trans (((hbW.mono hb1.size)).trans (hk2.below (Nat.le_trans hb1.size hbW.size) (fun k hk => by simp at hk; omega)))
  have hsz2 := hbw.size
  have hw12 := hbW.size
  have H0 := Lib.hid hbw
  have HC := Lib.hid hC1
  have HS := Lib.hid hs2
  have lsb2 := hs2.lt
  have rf2 := rf.kept hk2 (by simp <;> omega)
  have rf0 : w2.cell? ⟨w1.heap.size, 0, none⟩ = some (.int .u32 src) := rf2.cell rfl
  have rf1 : w2.cell? ⟨w1.heap.size, 1, none⟩ = some (.int .u32 (m : Int)) := rf2.cell rfl
  have pi := (ri.kept hk2 (by simp <;> omega)).plain
  have pn := (rn.kept hk2 (by simp <;> omega)).plain
  clear rb ra rx ri rn re rf rf2 hk2 hs2 hbw hC1 hP hP2 rs hbW hb1 hx
  go_wp2_with (first | (go_at_call 15; go_in))
  generalize hW2 : World.alloc _ _ = W2
  have hbX : Below w2.heap.size w2 W2 := by rw [← hW2]; go_grown
  have rt : Base.RowAt W2 (w2.heap.size + 1) 34 #[.nilIface, .int .i32 0] := by
    rw [← hW2]
    repeat (first | (refine Base.RowAt.new' _ _ _ _ ?_; simp; done) | refine Base.RowAt.drew ?_ | refine Base.RowAt.alloc ?_ _)
  clear hW2
  have b0 := Base.cell_below hbX (Base.block_of_cell b0) b0
  have b1 := Base.cell_below hbX (Base.block_of_cell b1) b1
  have b2 := Base.cell_below hbX (Base.block_of_cell b2) b2
  have b3 := Base.cell_below hbX (Base.block_of_cell b3) b3
  have b4 := Base.cell_below hbX (Base.block_of_cell b4) b4
  have a0 := Base.cell_below hbX (Base.block_of_cell a0) a0
  have a1 := Base.cell_below hbX (Base.block_of_cell a1) a1
  have a2 := Base.cell_below hbX (Base.block_of_cell a2) a2
  have a3 := Base.cell_below hbX (Base.block_of_cell a3) a3
  have a4 := Base.cell_below hbX (Base.block_of_cell a4) a4
  have x0 := Base.cell_below hbX (Base.block_of_cell x0) x0
  have x1 := Base.cell_below hbX (Base.block_of_cell x1) x1
  have rf0 := Base.cell_below hbX (Base.block_of_cell rf0) rf0
  have rf1 := Base.cell_below hbX (Base.block_of_cell rf1) rf1
  have hp2 := Base.cell_below hbX (Base.block_of_cell hp2) hp2
  have hc2 := Base.cell_below hbX (Base.block_of_cell hc2) hc2
  have px := Base.plainAt_below hbX (Base.plain_lt px) px
  have pi := Base.plainAt_below hbX (Base.plain_lt pi) pi
  have pn := Base.plainAt_below hbX (Base.plain_lt pn) pn
  have kq0 := cell_regrown (b0)
  have kq1 := cell_regrown (b1)
  have kq2 := cell_regrown (rf0)
  have kq3 := cell_regrown (rf1)
  have kq4 := cell_regrown (x0)
  have kq5 := cell_regrown (x1)
  have kp6 := plain_regrown px
  have kp7 := plain_regrown pi
  refine wp_region_quiet_below (by kernel_rfl) (by kernel_rfl) ?_
  repeat (quiet_step (first | (go_at_call 23; exact Calls.regrown_of (identIs _ _ _ _ _ (kq4 _ _) (kq5 _ _))) | (go_at_call 20; exact Calls.regrown_of (asIdent _ _ _))))
  refine wpQuiet_nil ?_
  intro _ hw'
  obtain ⟨⟨dq, osq⟩, hw''⟩ := hw'
  subst hw''
  have hbY := below_regrown W2 dq osq
  have rt := rt.below hbY rt.lt
  have b0 := Base.cell_below hbY (Base.block_of_cell b0) b0
  have b1 := Base.cell_below hbY (Base.block_of_cell b1) b1
  have b2 := Base.cell_below hbY (Base.block_of_cell b2) b2
  have b3 := Base.cell_below hbY (Base.block_of_cell b3) b3
  have b4 := Base.cell_below hbY (Base.block_of_cell b4) b4
  have a0 := Base.cell_below hbY (Base.block_of_cell a0) a0
  have a1 := Base.cell_below hbY (Base.block_of_cell a1) a1
  have a2 := Base.cell_below hbY (Base.block_of_cell a2) a2
  have a3 := Base.cell_below hbY (Base.block_of_cell a3) a3
  have a4 := Base.cell_below hbY (Base.block_of_cell a4) a4
  have x0 := Base.cell_below hbY (Base.block_of_cell x0) x0
  have x1 := Base.cell_below hbY (Base.block_of_cell x1) x1
  have rf0 := Base.cell_below hbY (Base.block_of_cell rf0) rf0
  have rf1 := Base.cell_below hbY (Base.block_of_cell rf1) rf1
  have hp2 := Base.cell_below hbY (Base.block_of_cell hp2) hp2
  have hc2 := Base.cell_below hbY (Base.block_of_cell hc2) hc2
  have px := Base.plainAt_below hbY (Base.plain_lt px) px
  have pi := Base.plainAt_below hbY (Base.plain_lt pi) pi
  have pn := Base.plainAt_below hbY (Base.plain_lt pn) pn
  have ot0 : (grow (redrawn W2 dq) osq).cell? ⟨w2.heap.size + 1, 0, none⟩ = some .nilIface := rt.cell rfl
  have ot1 : (grow (redrawn W2 dq) osq).cell? ⟨w2.heap.size + 1, 1, none⟩ = some (.int .i32 0) := rt.cell rfl
  have ot2 := rt.free 0
  have ot3 := rt.free 1
  have ltt := rt.lt
  have HRT := Lib.hid rt
  clear rt
  have HS := HS.out.below (hbX.trans (hbY.mono hbX.size)) lsb2
  have HS := Lib.hid HS
  have hbw := H0.out.trans ((hbX.trans (hbY.mono hbX.size)).mono (H0.out.size))
  have H0 := Lib.hid hbw
  clear hbw kq0 kq1 kq2 kq3 kq4 kq5 kp6 kp7 hbX
  generalize grow (redrawn W2 dq) osq = V at *
  clear hbY
  go_wp2_with (first | (go_at_call 15; go_in) | (go_at_call 12; go_in) | (go_at_call 20; go_in) | (go_at_call 17; go_in) | (go_at_call 24; (refine Calls.mono (l131.useCount pb sb (m + 1) m 1 _ (by omega) (by omega) (by simp [go_sem, hp2]) (by simp [go_sem, hc2])) ?_; rintro e w3 ⟨rfl, rfl⟩)))
  rw [show ((m : Int) + 1) = ((m + 1 : Nat) : Int) from rfl]
  refine Calls.mono (total1 pb sb (m + 1) (bump (fun _ => 0) m) 1 _ (by omega) hp2 (Lib.hid (HC.out.cells HS.out)) (Lib.hid (fun i hi => by unfold bump; simp; (repeat split) <;> omega)) (by rw [sum_bump, sum_zero]; simp)) ?_
  rintro e w4 ⟨rfl, rfl⟩
  go_wp2_with fail
  have hw9 : w.heap.size ≤ w2.heap.size := hsz2
  generalize hV1 : World.setCell _ _ _ = V1
  have hkV : Base.KeptBut [w2.heap.size + 1] V V1 := by
    rw [← hV1]
    exact ((Base.KeptBut.refl _ _).setCell (Or.inl (by simp)) _).setCell (Or.inl (by simp)) _
  have rt1 : Base.RowAt V1 (w2.heap.size + 1) 34 #[.iface 41 (.pointer (some ⟨a, 0, none⟩)), .int .i32 ll] := by
    rw [← hV1]
    exact (HRT.out.set 0 _).set 1 _
  clear hV1
  have a0 := hkV.cell_some a0 (by simp <;> omega)
  have a1 := hkV.cell_some a1 (by simp <;> omega)
  have a2 := hkV.cell_some a2 (by simp <;> omega)
  have a3 := hkV.cell_some a3 (by simp <;> omega)
  have a4 := hkV.cell_some a4 (by simp <;> omega)
  have pi := hkV.plain pi (Base.plain_lt pi) (by simp <;> omega)
  have pn := hkV.plain pn (Base.plain_lt pn) (by simp <;> omega)
  have hb9 : Below w.heap.size w V1 := H0.out.trans (hkV.below H0.out.size (fun k hk => by simp at hk; omega))
  have H9 := Lib.hid hb9
  clear hb9 hkV rt1
  go_wp2_with (first | (go_at_call 15; go_in) | (go_at_call 12; go_in) | (go_at_call 20; go_in) | (go_at_call 17; go_in))
  go_returns
  refine ⟨rfl, ?_⟩
  have hbw := H9.out
  have hs9 := hbw.size
  go_grown
  all_goals (simp <;> omega)
set_option maxRecDepth 100000 in
set_option maxHeartbeats 4000000 in
theorem law35B (x src ll loc rl : Int) (m v : Nat) (w : World) (hm : m ≤ 65536) (hx1 : (bits BinOp.and IntKind.u64 x 137438953472 != 0) = true) (hx2 : (bits BinOp.and IntKind.u64 x 4398046511104 != 0) = true) : Calls Tryd.prog 9 #[.int .u64 x, .int .u32 src, .int .u32 (m : Int), .int .i32 ll, .int .i32 loc, .int .i32 rl, .float .f64 v] w fun e w' => e = .returned (.bool true) ∧ Below w.heap.size w w' := by
  have hbig : (m : Int) ≤ 65536 := by omega
  go_enter Tryd.func9, Tryd.ntmps9
  go_wp2_with fail
  rw [show ((m : Int) + 1) = ((m + 1 : Nat) : Int) from rfl]
  refine Calls.mono (l131.newParser x (m + 1) (by omega) 0 0 _) ?_
  rintro e w1 ⟨pb, sb, mb, rfl, hb1, hsb, hmb, hsp, hmp, rp, rs, rm⟩
  obtain ⟨hP, hx, -⟩ := parAt rp
  have hC0 : Cnt _ (m + 1) (fun _ => 0) := Cnt.made (z := #[.pointer none, .string ⟨#[]⟩, .int .u32 0, .int .u32 0, .int .u32 0, .int .u32 0, .int .u32 0, .int .u16 0, .int .u8 0, .int .u8 0]) (m + 1) rfl rfl
  generalize madeCells _ _ = C at rs hC0
  have lpb := hP.lt
  have lsb := rs.lt
  have HC0 := Lib.hid hC0
  clear rp rm hC0
  go_wp2_with (first | (go_at_call 11; go_in) | (go_at_call 12; go_in) | (go_at_call 19; go_in) | (go_at_call 20; go_in))
  generalize hW : World.alloc _ _ = W
  have hz : w1.heap.size + 13 ≤ W.heap.size := by rw [← hW]; simp <;> omega
  have hbW : Below w1.heap.size w1 W := by rw [← hW]; go_grown
  have rf : Base.RowAt W (w1.heap.size) 28 #[.int .u32 src, .int .u32 ↑m] := by
    rw [← hW]
    exact (((((((((((((Base.RowAt.new' _ _ _ _ (by simp)).alloc _).alloc _).alloc _).alloc _).alloc _).alloc _).alloc _).alloc _).alloc _).alloc _).alloc _).alloc _)
  have ri : Base.RowAt W (w1.heap.size + 1 + 1 + 1 + 1) 214 #[.int .u32 src, .int .u32 ↑m, .bool false, .bool false, .bool false] := by
    rw [← hW]
    exact (((((((((Base.RowAt.new' _ _ _ _ (by simp)).alloc _).alloc _).alloc _).alloc _).alloc _).alloc _).alloc _).alloc _)
  have rn : Base.RowAt W (w1.heap.size + 1 + 1 + 1 + 1 + 1 + 1 + 1 + 1) 50 #[.float .f64 v] := by
    rw [← hW]
    exact (((((Base.RowAt.new' _ _ _ _ (by simp)).alloc _).alloc _).alloc _).alloc _)
  have re : Base.RowAt W (w1.heap.size + 1 + 1 + 1 + 1 + 1 + 1 + 1 + 1 + 1 + 1 + 1 + 1) 47 #[.iface 55 (.pointer (some ⟨w1.heap.size + 1 + 1 + 1 + 1, 0, none⟩)), .int .i32 ll, .iface 36 (.pointer (some ⟨w1.heap.size + 1 + 1 + 1 + 1 + 1 + 1 + 1 + 1, 0, none⟩)), .int .i32 rl, .int .u8 0, .bool false] := by
    rw [← hW]
    exact (Base.RowAt.new' _ _ _ _ (by simp))
  clear hW
  have hP := hP.below hbW lpb
  have hx := Base.cell_below hbW lpb hx
  have rs := rs.below hbW lsb
  refine Calls.mono (low34Yes pb sb (m + 1) (m + 1) m 0 (w1.heap.size + 1 + 1 + 1 + 1) (w1.heap.size + 1 + 1 + 1 + 1 + 1 + 1 + 1 + 1 + 1 + 1 + 1 + 1) (w1.heap.size + 1 + 1 + 1 + 1 + 1 + 1 + 1 + 1) x src ll loc rl C _ hP (by omega) (by omega) (by omega) hx hx1 hx2 rs (HC0.out.2 m (by omega)) (by omega) ri (by omega) re (by omega)) ?_
  rintro e w2 ⟨v1, rfl, bi, bt, b1, b2, bn, a, hv, hk2, hs2, hba, hai, hat, ha1, h12, hbn, ra, rb, rc, rd, rg, rh⟩
  obtain rfl := Ending.returned.inj hv
  clear hv
  have hC1 := ((HC0.out.set (i := m) (by omega)).set' (i := m) (c := 0 + 1) (by omega) (by simp [bump])).set' (i := m) (c := 0 + 1 + 1) (by omega) (by simp [bump])
  have i0 : w2.cell? ⟨bi, 0, none⟩ = some (.iface 41 (.pointer (some ⟨bt, 0, none⟩))) := ra.cell rfl
  have i1 : w2.cell? ⟨bi, 1, none⟩ = some (.int .i32 loc) := ra.cell rfl
  have i2 : w2.cell? ⟨bi, 2, none⟩ = some (.iface 55 (.pointer (some ⟨b2, 0, none⟩))) := ra.cell rfl
  have i3 : w2.cell? ⟨bi, 3, none⟩ = some (.int .i32 loc) := ra.cell rfl
  have i4 : w2.cell? ⟨bi, 4, none⟩ = some (.iface 41 (.pointer (some ⟨a, 0, none⟩))) := ra.cell rfl
  have i5 : w2.cell? ⟨bi, 5, none⟩ = some (.int .i32 ll) := ra.cell rfl
  have t0 : w2.cell? ⟨bt, 0, none⟩ = some (.iface 55 (.pointer (some ⟨b1, 0, none⟩))) := rb.cell rfl
  have t1 : w2.cell? ⟨bt, 1, none⟩ = some (.int .i32 loc) := rb.cell rfl
  have t2 : w2.cell? ⟨bt, 2, none⟩ = some (.iface 211 (.pointer (some ⟨bn, 0, none⟩))) := rb.cell rfl
  have t3 : w2.cell? ⟨bt, 3, none⟩ = some (.int .i32 loc) := rb.cell rfl
  have t4 : w2.cell? ⟨bt, 4, none⟩ = some (.int .u8 27) := rb.cell rfl
  have x0 : w2.cell? ⟨b1, 0, none⟩ = some (.int .u32 src) := rc.cell rfl
  have x1 : w2.cell? ⟨b1, 1, none⟩ = some (.int .u32 (m : Int)) := rc.cell rfl
  have y0 : w2.cell? ⟨b2, 0, none⟩ = some (.int .u32 src) := rd.cell rfl
  have y1 : w2.cell? ⟨b2, 1, none⟩ = some (.int .u32 (m : Int)) := rd.cell rfl
  have a0 : w2.cell? ⟨a, 0, none⟩ = some (.iface 55 (.pointer (some ⟨w1.heap.size + 1 + 1 + 1 + 1, 0, none⟩))) := rh.cell rfl
  have a1 : w2.cell? ⟨a, 1, none⟩ = some (.int .i32 ll) := rh.cell rfl
  have a2 : w2.cell? ⟨a, 2, none⟩ = some (.iface 36 (.pointer (some ⟨w1.heap.size + 1 + 1 + 1 + 1 + 1 + 1 + 1 + 1, 0, none⟩))) := rh.cell rfl
  have a3 : w2.cell? ⟨a, 3, none⟩ = some (.int .i32 rl) := rh.cell rfl
  have a4 : w2.cell? ⟨a, 4, none⟩ = some (.int .u8 37) := rh.cell rfl
  have px := rc.plain
  have py := rd.plain
  have n1 : ¬ b1 = b2 := by omega
  have n2 : ¬ b1 = w1.heap.size + 1 + 1 + 1 + 1 := by omega
  have n3 : ¬ b2 = w1.heap.size + 1 + 1 + 1 + 1 := by omega
  have lbi := ra.lt
  have lbt := rb.lt
  have lb1 := rc.lt
  have lb2 := rd.lt
  have lbn := rg.lt
  have la := rh.lt
  have px9 := hk2.size
  have hP2 := hP.kept hk2 (by simp <;> omega)
  have hp2 := hP2.syms
  have hc2 : w2.cell? ⟨sb, m * 10 + 4, none⟩ = some (.int .u32 3) := by
    have := hC1.cells hs2 m (by omega)
    simpa [bump] using this
  have hbw : Below w.heap.size w w2 := hb1.trans (((hbW.mono hb1.size)).trans (hk2.below (Nat.le_trans hb1.size hbW.size) (fun k hk => by simp at hk; omega)))
  have hsz2 := hbw.size
  have hw12 := hbW.size
  have H0 := Lib.hid hbw
  have HC := Lib.hid hC1
  have HS := Lib.hid hs2
  have lsb2 := hs2.lt
  have rf2 := rf.kept hk2 (by simp <;> omega)
  have rf0 : w2.cell? ⟨w1.heap.size, 0, none⟩ = some (.int .u32 src) := rf2.cell rfl
  have rf1 : w2.cell? ⟨w1.heap.size, 1, none⟩ = some (.int .u32 (m : Int)) := rf2.cell rfl
  have pi := (ri.kept hk2 (by simp <;> omega)).plain
  have pn := (rn.kept hk2 (by simp <;> omega)).plain
  clear ra rb rc rd rg rh ri rn re rf rf2 hk2 hs2 hbw hC1 hP hP2 rs hbW hb1 hx
  go_wp2_with (first | (go_at_call 14; go_in) | (go_at_call 15; go_in))
  generalize hW2 : World.alloc _ _ = W2
  have hbX : Below w2.heap.size w2 W2 := by rw [← hW2]; go_grown
  have rt : Base.RowAt W2 (w2.heap.size + 1) 34 #[.nilIface, .int .i32 0] := by
    rw [← hW2]
    repeat (first | (refine Base.RowAt.new' _ _ _ _ ?_; simp; done) | refine Base.RowAt.drew ?_ | refine Base.RowAt.alloc ?_ _)
  clear hW2
  have i0 := Base.cell_below hbX (Base.block_of_cell i0) i0
  have i1 := Base.cell_below hbX (Base.block_of_cell i1) i1
  have i2 := Base.cell_below hbX (Base.block_of_cell i2) i2
  have i3 := Base.cell_below hbX (Base.block_of_cell i3) i3
  have i4 := Base.cell_below hbX (Base.block_of_cell i4) i4
  have i5 := Base.cell_below hbX (Base.block_of_cell i5) i5
  have t0 := Base.cell_below hbX (Base.block_of_cell t0) t0
  have t1 := Base.cell_below hbX (Base.block_of_cell t1) t1
  have t2 := Base.cell_below hbX (Base.block_of_cell t2) t2
  have t3 := Base.cell_below hbX (Base.block_of_cell t3) t3
  have t4 := Base.cell_below hbX (Base.block_of_cell t4) t4
  have x0 := Base.cell_below hbX (Base.block_of_cell x0) x0
  have x1 := Base.cell_below hbX (Base.block_of_cell x1) x1
  have y0 := Base.cell_below hbX (Base.block_of_cell y0) y0
  have y1 := Base.cell_below hbX (Base.block_of_cell y1) y1
  have a0 := Base.cell_below hbX (Base.block_of_cell a0) a0
  have a1 := Base.cell_below hbX (Base.block_of_cell a1) a1
  have a2 := Base.cell_below hbX (Base.block_of_cell a2) a2
  have a3 := Base.cell_below hbX (Base.block_of_cell a3) a3
  have a4 := Base.cell_below hbX (Base.block_of_cell a4) a4
  have rf0 := Base.cell_below hbX (Base.block_of_cell rf0) rf0
  have rf1 := Base.cell_below hbX (Base.block_of_cell rf1) rf1
  have hp2 := Base.cell_below hbX (Base.block_of_cell hp2) hp2
  have hc2 := Base.cell_below hbX (Base.block_of_cell hc2) hc2
  have px := Base.plainAt_below hbX (Base.plain_lt px) px
  have py := Base.plainAt_below hbX (Base.plain_lt py) py
  have pi := Base.plainAt_below hbX (Base.plain_lt pi) pi
  have pn := Base.plainAt_below hbX (Base.plain_lt pn) pn
  have kq0 := cell_regrown (i2)
  have kq1 := cell_regrown (i3)
  have kq2 := cell_regrown (t0)
  have kq3 := cell_regrown (t1)
  have kq4 := cell_regrown (rf0)
  have kq5 := cell_regrown (rf1)
  have kq6 := cell_regrown (x0)
  have kq7 := cell_regrown (x1)
  have kq8 := cell_regrown (y0)
  have kq9 := cell_regrown (y1)
  refine wp_region_quiet_below (by kernel_rfl) (by kernel_rfl) ?_
  repeat (quiet_step (first | (go_at_call 23; first | exact Calls.regrown_of (identIs _ _ _ _ _ (kq6 _ _) (kq7 _ _)) | exact Calls.regrown_of (identIs _ _ _ _ _ (kq8 _ _) (kq9 _ _)))))
  refine wpQuiet_nil ?_
  intro _ hw'
  obtain ⟨⟨dq, osq⟩, hw''⟩ := hw'
  subst hw''
  have hbY := below_regrown W2 dq osq
  have rt := rt.below hbY rt.lt
  have i0 := Base.cell_below hbY (Base.block_of_cell i0) i0
  have i1 := Base.cell_below hbY (Base.block_of_cell i1) i1
  have i2 := Base.cell_below hbY (Base.block_of_cell i2) i2
  have i3 := Base.cell_below hbY (Base.block_of_cell i3) i3
  have i4 := Base.cell_below hbY (Base.block_of_cell i4) i4
  have i5 := Base.cell_below hbY (Base.block_of_cell i5) i5
  have t0 := Base.cell_below hbY (Base.block_of_cell t0) t0
  have t1 := Base.cell_below hbY (Base.block_of_cell t1) t1
  have t2 := Base.cell_below hbY (Base.block_of_cell t2) t2
  have t3 := Base.cell_below hbY (Base.block_of_cell t3) t3
  have t4 := Base.cell_below hbY (Base.block_of_cell t4) t4
  have x0 := Base.cell_below hbY (Base.block_of_cell x0) x0
  have x1 := Base.cell_below hbY (Base.block_of_cell x1) x1
  have y0 := Base.cell_below hbY (Base.block_of_cell y0) y0
  have y1 := Base.cell_below hbY (Base.block_of_cell y1) y1
  have a0 := Base.cell_below hbY (Base.block_of_cell a0) a0
  have a1 := Base.cell_below hbY (Base.block_of_cell a1) a1
  have a2 := Base.cell_below hbY (Base.block_of_cell a2) a2
  have a3 := Base.cell_below hbY (Base.block_of_cell a3) a3
  have a4 := Base.cell_below hbY (Base.block_of_cell a4) a4
  have rf0 := Base.cell_below hbY (Base.block_of_cell rf0) rf0
  have rf1 := Base.cell_below hbY (Base.block_of_cell rf1) rf1
  have hp2 := Base.cell_below hbY (Base.block_of_cell hp2) hp2
  have hc2 := Base.cell_below hbY (Base.block_of_cell hc2) hc2
  have px := Base.plainAt_below hbY (Base.plain_lt px) px
  have py := Base.plainAt_below hbY (Base.plain_lt py) py
  have pi := Base.plainAt_below hbY (Base.plain_lt pi) pi
  have pn := Base.plainAt_below hbY (Base.plain_lt pn) pn
  have ot0 : (grow (redrawn W2 dq) osq).cell? ⟨w2.heap.size + 1, 0, none⟩ = some .nilIface := rt.cell rfl
  have ot1 : (grow (redrawn W2 dq) osq).cell? ⟨w2.heap.size + 1, 1, none⟩ = some (.int .i32 0) := rt.cell rfl
  have ot2 := rt.free 0
  have ot3 := rt.free 1
  have ltt := rt.lt
  have HRT := Lib.hid rt
  clear rt
  have HS := HS.out.below (hbX.trans (hbY.mono hbX.size)) lsb2
  have HS := Lib.hid HS
  have hbw := H0.out.trans ((hbX.trans (hbY.mono hbX.size)).mono (H0.out.size))
  have H0 := Lib.hid hbw
  clear hbw kq0 kq1 kq2 kq3 kq4 kq5 kq6 kq7 kq8 kq9 hbX
  generalize grow (redrawn W2 dq) osq = V at *
  clear hbY
  go_wp2_with (first | (go_at_call 15; go_in) | (go_at_call 12; go_in) | (go_at_call 20; go_in) | (go_at_call 17; go_in) | (go_at_call 24; (refine Calls.mono (l131.useCount pb sb (m + 1) m 3 _ (by omega) (by omega) (by simp [go_sem, hp2]) (by simp [go_sem, hc2])) ?_; rintro e w3 ⟨rfl, rfl⟩)))
  generalize hW3 : World.alloc _ _ = W3
  have hbZ : Below V.heap.size V W3 := by rw [← hW3]; go_grown
  clear hW3
  have i0 := Base.cell_below hbZ (Base.block_of_cell i0) i0
  have i1 := Base.cell_below hbZ (Base.block_of_cell i1) i1
  have i2 := Base.cell_below hbZ (Base.block_of_cell i2) i2
  have i3 := Base.cell_below hbZ (Base.block_of_cell i3) i3
  have i4 := Base.cell_below hbZ (Base.block_of_cell i4) i4
  have i5 := Base.cell_below hbZ (Base.block_of_cell i5) i5
  have t0 := Base.cell_below hbZ (Base.block_of_cell t0) t0
  have t1 := Base.cell_below hbZ (Base.block_of_cell t1) t1
  have t2 := Base.cell_below hbZ (Base.block_of_cell t2) t2
  have t3 := Base.cell_below hbZ (Base.block_of_cell t3) t3
  have t4 := Base.cell_below hbZ (Base.block_of_cell t4) t4
  have x0 := Base.cell_below hbZ (Base.block_of_cell x0) x0
  have x1 := Base.cell_below hbZ (Base.block_of_cell x1) x1
  have y0 := Base.cell_below hbZ (Base.block_of_cell y0) y0
  have y1 := Base.cell_below hbZ (Base.block_of_cell y1) y1
  have a0 := Base.cell_below hbZ (Base.block_of_cell a0) a0
  have a1 := Base.cell_below hbZ (Base.block_of_cell a1) a1
  have a2 := Base.cell_below hbZ (Base.block_of_cell a2) a2
  have a3 := Base.cell_below hbZ (Base.block_of_cell a3) a3
  have a4 := Base.cell_below hbZ (Base.block_of_cell a4) a4
  have rf0 := Base.cell_below hbZ (Base.block_of_cell rf0) rf0
  have rf1 := Base.cell_below hbZ (Base.block_of_cell rf1) rf1
  have hp2 := Base.cell_below hbZ (Base.block_of_cell hp2) hp2
  have hc2 := Base.cell_below hbZ (Base.block_of_cell hc2) hc2
  have px := Base.plainAt_below hbZ (Base.plain_lt px) px
  have py := Base.plainAt_below hbZ (Base.plain_lt py) py
  have pi := Base.plainAt_below hbZ (Base.plain_lt pi) pi
  have pn := Base.plainAt_below hbZ (Base.plain_lt pn) pn
  have HS := Lib.hid (HS.out.below hbZ HS.out.lt)
  have H0 := Lib.hid (H0.out.trans (hbZ.mono H0.out.size))
  have rt := HRT.out.below hbZ HRT.out.lt
  have HRT := Lib.hid rt
  have ot0 : W3.cell? ⟨w2.heap.size + 1, 0, none⟩ = some .nilIface := rt.cell rfl
  have ot1 : W3.cell? ⟨w2.heap.size + 1, 1, none⟩ = some (.int .i32 0) := rt.cell rfl
  have ot2 := rt.free 0
  have ot3 := rt.free 1
  have ltt := rt.lt
  clear rt hbZ
  rw [show ((m : Int) + 1) = ((m + 1 : Nat) : Int) from rfl]
  refine Calls.mono (total1 pb sb (m + 1) (bump (bump (bump (fun _ => 0) m) m) m) 3 _ (by omega) hp2 (Lib.hid (HC.out.cells HS.out)) (Lib.hid (fun i hi => by unfold bump; simp; (repeat split) <;> omega)) (by rw [sum_bump, sum_bump, sum_bump, sum_zero]; simp)) ?_
  rintro e w4 ⟨rfl, rfl⟩
  go_wp2_with fail
  have hw9 : w.heap.size ≤ w2.heap.size := hsz2
  generalize hV1 : World.setCell _ _ _ = V1
  have hkV : Base.KeptBut [w2.heap.size + 1] W3 V1 := by
    rw [← hV1]
    exact ((Base.KeptBut.refl _ _).setCell (Or.inl (by simp)) _).setCell (Or.inl (by simp)) _
  have rt1 : Base.RowAt V1 (w2.heap.size + 1) 34 #[.iface 41 (.pointer (some ⟨a, 0, none⟩)), .int .i32 ll] := by
    rw [← hV1]
    exact (HRT.out.set 0 _).set 1 _
  clear hV1
  have a0 := hkV.cell_some a0 (by simp <;> omega)
  have a1 := hkV.cell_some a1 (by simp <;> omega)
  have a2 := hkV.cell_some a2 (by simp <;> omega)
  have a3 := hkV.cell_some a3 (by simp <;> omega)
  have a4 := hkV.cell_some a4 (by simp <;> omega)
  have pi := hkV.plain pi (Base.plain_lt pi) (by simp <;> omega)
  have pn := hkV.plain pn (Base.plain_lt pn) (by simp <;> omega)
  have hb9 : Below w.heap.size w V1 := H0.out.trans (hkV.below H0.out.size (fun k hk => by simp at hk; omega))
  have H9 := Lib.hid hb9
  clear hb9 hkV rt1
  go_wp2_with (first | (go_at_call 15; go_in) | (go_at_call 12; go_in) | (go_at_call 20; go_in) | (go_at_call 17; go_in))
  go_returns
  refine ⟨rfl, ?_⟩
  have hbw := H9.out
  have hs9 := hbw.size
  go_grown
  all_goals (simp <;> omega)
set_option maxRecDepth 100000 in
theorem law35 (x src i ll loc rl : Int) (v : Nat) (w : World) (hi0 : 0 ≤ i) (hi1 : i ≤ 4294967295) : Calls Tryd.prog 9 #[.int .u64 x, .int .u32 src, .int .u32 i, .int .i32 ll, .int .i32 loc, .int .i32 rl, .float .f64 v] w fun e w' => e = .returned (.bool true) ∧ Below w.heap.size w w' := by
  by_cases hbig : 65536 < i
  · go_enter Tryd.func9, Tryd.ntmps9
    go_wp2
    go_returns
    exact ⟨rfl, by go_grown⟩
  · obtain ⟨m, rfl⟩ := Int.eq_ofNat_of_zero_le hi0
    have hm : m ≤ 65536 := by omega
    by_cases hx1 : (bits BinOp.and IntKind.u64 x 137438953472 != 0) = true
    · by_cases hx2 : (bits BinOp.and IntKind.u64 x 4398046511104 != 0) = true
      · exact law35B x src ll loc rl m v w hm hx1 hx2
      · exact law35A x src ll loc rl m v w hm hx1 (by simpa using hx2)
    · exact law35no x src ll loc rl m v w hm (by simpa using hx1)
end Go.Proofs.YtlgefnjkoklboaaDoor.Use
