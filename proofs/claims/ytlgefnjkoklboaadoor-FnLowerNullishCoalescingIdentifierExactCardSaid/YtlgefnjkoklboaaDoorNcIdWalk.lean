/- The law on nullish coalescing with an identifier on the left, walked. No condition. -/
import Derived.Test.YtlgefnjkoklboaaDoorLowIdent
import Derived.Test.YtlgefnjkoklboaaDoorLaws
import Derived.Test.YtlgefnjkoklboaaDoorDeepCells
namespace Go.Proofs.YtlgefnjkoklboaaDoor.Use
open Go.ChangeShapes Go.WideShapes Go.ChangeAt Go.RowKit Go.Sort
set_option linter.unusedVariables false
set_option maxRecDepth 100000 in
set_option maxHeartbeats 1000000 in
theorem low13i (pb ib sb n cap i c : Nat) (loc l0 lr src : Int) (rT rb : Nat) (C : Array Value) (w : World) (hP : ParAt w pb sb n cap) (hi : i < n) (hn : n ≤ 4294967295) (hne : pb ≠ sb)
    (hC : Base.RowAt w sb 223 C) (hc : C[i * 10 + 4]? = some (.int .u32 (c : Int))) (hcm : c < 4294967294)
    (ri : Base.RowAt w ib 214 #[.int .u32 src, .int .u32 (i : Int), .bool false, .bool false, .bool false]) (hib : ib ≠ sb) :
    Calls Tryd.prog 13 #[.pointer (some ⟨pb, 0, none⟩), .agg #[.int .i32 loc], .agg #[.iface 55 (.pointer (some ⟨ib, 0, none⟩)), .int .i32 l0], .agg #[.iface rT (.pointer (some ⟨rb, 0, none⟩)), .int .i32 lr]] w (LowIdent sb i c loc lr src rT rb C w) := by
  have l0' := ri.lt
  have lsb := hC.lt
  have lpb := hP.lt
  have Hc := Lib.hid hc
  clear hc
  go_enter Tryd.func13, Tryd.ntmps13
  go_wp2_with fail
  generalize hW : World.alloc _ _ = W
  have hbW : Below w.heap.size w W := by rw [← hW]; go_grown
  have hz : w.heap.size + 4 ≤ W.heap.size := by rw [← hW]; simp <;> omega
  have rr : Base.RowAt W (w.heap.size + 1 + 1 + 1) 34 #[.nilIface, .int .i32 0] := by
    rw [← hW]
    exact (Base.RowAt.new' _ _ _ _ (by simp))
  clear hW
  refine Calls.mono (lowIdent pb ib sb n cap i c loc l0 lr src rT rb C _ (hP.below hbW lpb) hi hn hne (hC.below hbW lsb) Hc.out hcm (ri.below hbW l0') hib) ?_
  rintro e w2 ⟨bi, bt, b1, b2, bn, rfl, hk2, hs2, hbi, hbt, hbb, h12, hbn, ra, rb', rc, rd, re⟩
  have rr := rr.kept hk2 (by simp <;> omega)
  have o0 : w2.cell? ⟨w.heap.size + 1 + 1 + 1, 0, none⟩ = some (.nilIface) := rr.cell rfl
  have oo0 := rr.free 0
  have o1 : w2.cell? ⟨w.heap.size + 1 + 1 + 1, 1, none⟩ = some (.int .i32 0) := rr.cell rfl
  have oo1 := rr.free 1
  have hk : Base.KeptBut [sb] w w2 := (Base.KeptBut.of_below hbW).trans hk2
  have HR := Lib.hid rr
  have Hk := Lib.hid hk
  have Hhs2 := Lib.hid hs2
  have Hra := Lib.hid ra
  have Hrb' := Lib.hid rb'
  have Hrc := Lib.hid rc
  have Hrd := Lib.hid rd
  have Hre := Lib.hid re
  clear rr hk hk2 hs2 ra rb' rc rd re hC hP
  go_wp2
  generalize hV : World.setCell _ _ _ = V
  have rv : Base.RowAt V (w.heap.size + 1 + 1 + 1) 34 #[.iface 39 (.pointer (some ⟨bi, 0, none⟩)), .int .i32 loc] := by
    rw [← hV]
    exact ((HR.out.set 0 _).set 1 _)
  have hkV : Base.KeptBut [sb] w V := by
    rw [← hV]
    exact ((Hk.out.setCell (Or.inr (by show w.heap.size ≤ w.heap.size + 1 + 1 + 1; omega)) _).setCell (Or.inr (by show w.heap.size ≤ w.heap.size + 1 + 1 + 1; omega)) _)
  have g : ∀ {b : Nat} {t : TypeId} {c : Array Value}, b ≠ w.heap.size + 1 + 1 + 1 → Base.RowAt w2 b t c → Base.RowAt V b t c := fun {b} {t} {c} hb h => by
    rw [← hV]
    exact ((h.setOther hb _).setOther hb _)
  clear hV
  have z0 : V.cell? ⟨w.heap.size + 1 + 1 + 1, 0, none⟩ = some (.iface 39 (.pointer (some ⟨bi, 0, none⟩))) := rv.cell rfl
  have z1 : V.cell? ⟨w.heap.size + 1 + 1 + 1, 1, none⟩ = some (.int .i32 loc) := rv.cell rfl
  refine bodyPost_ret (v := .agg #[.iface 39 (.pointer (some ⟨bi, 0, none⟩)), .int .i32 loc]) ?_ rfl ?_
  · simp [results, Tryd.results13, go_sem, z0, z1]
  · exact ⟨bi, bt, b1, b2, bn, rfl, hkV, (g (by omega) Hhs2.out), by omega, by omega, by omega, h12, by omega, (g (by omega) Hra.out), (g (by omega) Hrb'.out), (g (by omega) Hrc.out), (g (by omega) Hrd.out), (g (by omega) Hre.out)⟩
set_option maxRecDepth 100000 in
set_option maxHeartbeats 2000000 in
theorem law20 (src i ll loc rl : Int) (v : Nat) (w : World) (hi0 : 0 ≤ i) (hi1 : i ≤ 4294967295) : Calls Tryd.prog 5 #[.int .u32 src, .int .u32 i, .int .i32 ll, .int .i32 loc, .int .i32 rl, .float .f64 v] w fun e w' => e = .returned (.bool true) ∧ Below w.heap.size w w' := by
  by_cases hbig : 65536 < i
  · go_enter Tryd.func5, Tryd.ntmps5
    go_wp2
    go_returns
    exact ⟨rfl, by go_grown⟩
  · obtain ⟨m, rfl⟩ := Int.eq_ofNat_of_zero_le hi0
    have hm : m ≤ 65536 := by omega
    go_enter Tryd.func5, Tryd.ntmps5
    go_wp2_with fail
    rw [show ((m : Int) + 1) = ((m + 1 : Nat) : Int) from rfl]
    refine Calls.mono (l131.newParser 0 (m + 1) (by omega) 0 0 _) ?_
    rintro e w1 ⟨pb, sb, mb, rfl, hb1, hsb, hmb, hsp, hmp, rp, rs, rm⟩
    obtain ⟨hP, hx, -⟩ := parAt rp
    have hC0 : Cnt _ (m + 1) (fun _ => 0) := Cnt.made (z := #[.pointer none, .string ⟨#[]⟩, .int .u32 0, .int .u32 0, .int .u32 0, .int .u32 0, .int .u32 0, .int .u16 0, .int .u8 0, .int .u8 0]) (m + 1) rfl rfl
    generalize madeCells _ _ = C at rs hC0
    have lpb := hP.lt
    have lsb := rs.lt
    have HC0 := Lib.hid hC0
    have Hm := Lib.hid hm
    clear rp rm hC0
    go_wp2_with (first | (go_at_call 11; go_in) | (go_at_call 12; go_in) | (go_at_call 19; go_in) | (go_at_call 20; go_in))
    generalize hW : World.alloc _ _ = W
    have hz : w1.heap.size + 12 ≤ W.heap.size := by rw [← hW]; simp <;> omega
    have hbW : Below w1.heap.size w1 W := by rw [← hW]; go_grown
    have rf : Base.RowAt W (w1.heap.size) 28 #[.int .u32 src, .int .u32 ↑m] := by
      rw [← hW]
      exact ((((((((((((Base.RowAt.new' _ _ _ _ (by simp)).alloc _).alloc _).alloc _).alloc _).alloc _).alloc _).alloc _).alloc _).alloc _).alloc _).alloc _)
    have ri : Base.RowAt W (w1.heap.size + 1 + 1 + 1 + 1) 214 #[.int .u32 src, .int .u32 ↑m, .bool false, .bool false, .bool false] := by
      rw [← hW]
      exact ((((((((Base.RowAt.new' _ _ _ _ (by simp)).alloc _).alloc _).alloc _).alloc _).alloc _).alloc _).alloc _)
    have rn : Base.RowAt W (w1.heap.size + 1 + 1 + 1 + 1 + 1 + 1 + 1 + 1) 50 #[.float .f64 v] := by
      rw [← hW]
      exact ((((Base.RowAt.new' _ _ _ _ (by simp)).alloc _).alloc _).alloc _)
    clear hW
    have hP := hP.below hbW lpb
    have rs := rs.below hbW lsb
    refine Calls.mono (low13i pb (w1.heap.size + 1 + 1 + 1 + 1) sb (m + 1) (m + 1) m 0 loc ll rl src 36 (w1.heap.size + 1 + 1 + 1 + 1 + 1 + 1 + 1 + 1) C _ hP (by omega) (by omega) (by omega) rs (HC0.out.2 m (by omega)) (by omega) ri (by omega)) ?_
    rintro e w2 ⟨bi, bt, b1, b2, bn, rfl, hk2, hs2, hbi, hbt, hbb, h12, hbn, ra, rb, rc, rd, re⟩
    have hC1 := (HC0.out.set (i := m) (by omega)).set' (i := m) (c := 0 + 1) (by omega) (by simp [bump])
    have i0 : w2.cell? ⟨bi, 0, none⟩ = some (.iface 41 (.pointer (some ⟨bt, 0, none⟩))) := ra.cell rfl
    have i1 : w2.cell? ⟨bi, 1, none⟩ = some (.int .i32 loc) := ra.cell rfl
    have i2 : w2.cell? ⟨bi, 2, none⟩ = some (.iface 55 (.pointer (some ⟨b2, 0, none⟩))) := ra.cell rfl
    have i3 : w2.cell? ⟨bi, 3, none⟩ = some (.int .i32 loc) := ra.cell rfl
    have i4 : w2.cell? ⟨bi, 4, none⟩ = some (.iface 36 (.pointer (some ⟨w1.heap.size + 1 + 1 + 1 + 1 + 1 + 1 + 1 + 1, 0, none⟩))) := ra.cell rfl
    have i5 : w2.cell? ⟨bi, 5, none⟩ = some (.int .i32 rl) := ra.cell rfl
    have t0 : w2.cell? ⟨bt, 0, none⟩ = some (.iface 55 (.pointer (some ⟨b1, 0, none⟩))) := rb.cell rfl
    have t1 : w2.cell? ⟨bt, 1, none⟩ = some (.int .i32 loc) := rb.cell rfl
    have t2 : w2.cell? ⟨bt, 2, none⟩ = some (.iface 211 (.pointer (some ⟨bn, 0, none⟩))) := rb.cell rfl
    have t3 : w2.cell? ⟨bt, 3, none⟩ = some (.int .i32 loc) := rb.cell rfl
    have t4 : w2.cell? ⟨bt, 4, none⟩ = some (.int .u8 27) := rb.cell rfl
    have x0 : w2.cell? ⟨b1, 0, none⟩ = some (.int .u32 src) := rc.cell rfl
    have x1 : w2.cell? ⟨b1, 1, none⟩ = some (.int .u32 (m : Int)) := rc.cell rfl
    have y0 : w2.cell? ⟨b2, 0, none⟩ = some (.int .u32 src) := rd.cell rfl
    have y1 : w2.cell? ⟨b2, 1, none⟩ = some (.int .u32 (m : Int)) := rd.cell rfl
    have px := rc.plain
    have py := rd.plain
    have pi := (ri.kept hk2 (by simp <;> omega)).plain
    have pn := (rn.kept hk2 (by simp <;> omega)).plain
    have n1 : ¬ b1 = b2 := by omega
    have n2 : ¬ b1 = w1.heap.size + 1 + 1 + 1 + 1 := by omega
    have n3 : ¬ b2 = w1.heap.size + 1 + 1 + 1 + 1 := by omega
    have hlW := hk2.size
    have hP2 := hP.kept hk2 (by simp <;> omega)
    have hp2 := hP2.syms
    have hc2 : w2.cell? ⟨sb, m * 10 + 4, none⟩ = some (.int .u32 2) := by
      have := hC1.cells hs2 m (by omega)
      simpa [bump] using this
    have hbw : Below w.heap.size w w2 := hb1.trans (((hbW.mono hb1.size)).trans (hk2.below (Nat.le_trans hb1.size hbW.size) (fun k hk => by simp at hk; omega)))
    have H0 := Lib.hid hbw
    have HC := Lib.hid hC1
    have HS := Lib.hid hs2
    have lsb2 := hs2.lt
    have rf2 := rf.kept hk2 (by simp <;> omega)
    have rf0 : w2.cell? ⟨w1.heap.size, 0, none⟩ = some (.int .u32 src) := rf2.cell rfl
    have rf1 : w2.cell? ⟨w1.heap.size, 1, none⟩ = some (.int .u32 (m : Int)) := rf2.cell rfl
    have lbi := ra.lt
    have lbt := rb.lt
    have lb1 := rc.lt
    have lb2 := rd.lt
    have lbn := re.lt
    clear ra rb rc rd re ri rn rf rf2 hk2 hs2 hbw hC1 hP hP2 rs hbW hb1
    go_wp2_with (first | (go_at_call 14; go_in) | (go_at_call 15; go_in))
    generalize hW2 : World.alloc _ _ = W2
    have hbX : Below w2.heap.size w2 W2 := by rw [← hW2]; go_grown
    clear hW2
    have i0 := Base.cell_below hbX (Base.block_of_cell i0) i0
    have i1 := Base.cell_below hbX (Base.block_of_cell i1) i1
    have i2 := Base.cell_below hbX (Base.block_of_cell i2) i2
    have i3 := Base.cell_below hbX (Base.block_of_cell i3) i3
    have i4 := Base.cell_below hbX (Base.block_of_cell i4) i4
    have i5 := Base.cell_below hbX (Base.block_of_cell i5) i5
    have t0 := Base.cell_below hbX (Base.block_of_cell t0) t0
    have t1 := Base.cell_below hbX (Base.block_of_cell t1) t1
    have t2 := Base.cell_below hbX (Base.block_of_cell t2) t2
    have t3 := Base.cell_below hbX (Base.block_of_cell t3) t3
    have t4 := Base.cell_below hbX (Base.block_of_cell t4) t4
    have x0 := Base.cell_below hbX (Base.block_of_cell x0) x0
    have x1 := Base.cell_below hbX (Base.block_of_cell x1) x1
    have y0 := Base.cell_below hbX (Base.block_of_cell y0) y0
    have y1 := Base.cell_below hbX (Base.block_of_cell y1) y1
    have rf0 := Base.cell_below hbX (Base.block_of_cell rf0) rf0
    have rf1 := Base.cell_below hbX (Base.block_of_cell rf1) rf1
    have hp2 := Base.cell_below hbX (Base.block_of_cell hp2) hp2
    have hc2 := Base.cell_below hbX (Base.block_of_cell hc2) hc2
    have px := Base.plainAt_below hbX (Base.plain_lt px) px
    have py := Base.plainAt_below hbX (Base.plain_lt py) py
    have pi := Base.plainAt_below hbX (Base.plain_lt pi) pi
    have pn := Base.plainAt_below hbX (Base.plain_lt pn) pn
    have kq0 := cell_regrown (i2)
    have kq1 := cell_regrown (i3)
    have kq2 := cell_regrown (t0)
    have kq3 := cell_regrown (t1)
    have kq4 := cell_regrown (rf0)
    have kq5 := cell_regrown (rf1)
    have kq6 := cell_regrown (x0)
    have kq7 := cell_regrown (x1)
    have kq8 := cell_regrown (y0)
    have kq9 := cell_regrown (y1)
    refine wp_region_quiet_below (by kernel_rfl) (by kernel_rfl) ?_
    repeat (quiet_step (first | (go_at_call 23; first | exact Calls.regrown_of (identIs _ _ _ _ _ (kq6 _ _) (kq7 _ _)) | exact Calls.regrown_of (identIs _ _ _ _ _ (kq8 _ _) (kq9 _ _)))))
    refine wpQuiet_nil ?_
    intro _ hw'
    obtain ⟨⟨dq, osq⟩, hw''⟩ := hw'
    subst hw''
    have hbY := below_regrown W2 dq osq
    have i0 := Base.cell_below hbY (Base.block_of_cell i0) i0
    have i1 := Base.cell_below hbY (Base.block_of_cell i1) i1
    have i2 := Base.cell_below hbY (Base.block_of_cell i2) i2
    have i3 := Base.cell_below hbY (Base.block_of_cell i3) i3
    have i4 := Base.cell_below hbY (Base.block_of_cell i4) i4
    have i5 := Base.cell_below hbY (Base.block_of_cell i5) i5
    have t0 := Base.cell_below hbY (Base.block_of_cell t0) t0
    have t1 := Base.cell_below hbY (Base.block_of_cell t1) t1
    have t2 := Base.cell_below hbY (Base.block_of_cell t2) t2
    have t3 := Base.cell_below hbY (Base.block_of_cell t3) t3
    have t4 := Base.cell_below hbY (Base.block_of_cell t4) t4
    have x0 := Base.cell_below hbY (Base.block_of_cell x0) x0
    have x1 := Base.cell_below hbY (Base.block_of_cell x1) x1
    have y0 := Base.cell_below hbY (Base.block_of_cell y0) y0
    have y1 := Base.cell_below hbY (Base.block_of_cell y1) y1
    have rf0 := Base.cell_below hbY (Base.block_of_cell rf0) rf0
    have rf1 := Base.cell_below hbY (Base.block_of_cell rf1) rf1
    have hp2 := Base.cell_below hbY (Base.block_of_cell hp2) hp2
    have hc2 := Base.cell_below hbY (Base.block_of_cell hc2) hc2
    have px := Base.plainAt_below hbY (Base.plain_lt px) px
    have py := Base.plainAt_below hbY (Base.plain_lt py) py
    have pi := Base.plainAt_below hbY (Base.plain_lt pi) pi
    have pn := Base.plainAt_below hbY (Base.plain_lt pn) pn
    have HS := HS.out.below (hbX.trans (hbY.mono hbX.size)) lsb2
    have HS := Lib.hid HS
    have hbw := H0.out.trans ((hbX.trans (hbY.mono hbX.size)).mono (H0.out.size))
    have H0 := Lib.hid hbw
    clear hbw kq0 kq1 kq2 kq3 kq4 kq5 kq6 kq7 kq8 kq9 hbX
    generalize grow (redrawn W2 dq) osq = V at *
    clear hbY
    go_wp2_with (first | (go_at_call 12; go_in) | (go_at_call 20; go_in) | (go_at_call 17; go_in) | (go_at_call 24; (refine Calls.mono (l131.useCount pb sb (m + 1) m 2 _ (by omega) (by omega) (by simp [go_sem, hp2]) (by simp [go_sem, hc2])) ?_; rintro e w3 ⟨rfl, rfl⟩)))
    rw [show ((m : Int) + 1) = ((m + 1 : Nat) : Int) from rfl]
    generalize hW3 : World.alloc _ _ = W3
    have hbZ : Below V.heap.size V W3 := by rw [← hW3]; go_grown
    clear hW3
    have hp3 := Base.cell_below hbZ (Base.block_of_cell hp2) hp2
    have HS3 := HS.out.below hbZ HS.out.lt
    have H3 := Lib.hid (H0.out.trans (hbZ.mono H0.out.size))
    refine Calls.mono (total1 pb sb (m + 1) (bump (bump (fun _ => 0) m) m) 2 _ (by omega) hp3 (Lib.hid (HC.out.cells HS3)) (Lib.hid (fun i hi => by unfold bump; split <;> simp <;> split <;> simp)) (by rw [sum_bump, sum_bump, sum_zero]; simp)) ?_
    rintro e w4 ⟨rfl, rfl⟩
    go_wp2
    go_returns
    exact ⟨rfl, H3.out⟩
end Go.Proofs.YtlgefnjkoklboaaDoor.Use
