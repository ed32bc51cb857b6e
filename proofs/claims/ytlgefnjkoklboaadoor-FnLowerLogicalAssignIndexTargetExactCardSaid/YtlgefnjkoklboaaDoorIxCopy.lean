/- A fresh copy of an index expression is known as such. No condition. -/
import Derived.Test.YtlgefnjkoklboaaDoorHelp
import Derived.Test.YtlgefnjkoklboaaDoorLitWalk
namespace Go.Proofs.YtlgefnjkoklboaaDoor.Use
open Go.ChangeShapes Go.WideShapes Go.ChangeAt Go.RowKit Go.Sort
set_option linter.unusedVariables false
set_option maxRecDepth 100000 in
set_option maxHeartbeats 2000000 in
theorem indexCopy (x i1 m1 ob ib nb v : Nat) (ll src inner tl il : Int) (w : World)
    (x0 : w.cell? ⟨x, 0, none⟩ = some (.iface 55 (.pointer (some ⟨i1, 0, none⟩)))) (x1 : w.cell? ⟨x, 1, none⟩ = some (.int .i32 ll)) (x2 : w.cell? ⟨x, 2, none⟩ = some (.iface 36 (.pointer (some ⟨m1, 0, none⟩)))) (x3 : w.cell? ⟨x, 3, none⟩ = some (.int .i32 ll)) (x5 : w.cell? ⟨x, 5, none⟩ = some (.int .u8 0))
    (p0 : w.cell? ⟨i1, 0, none⟩ = some (.int .u32 src)) (p1 : w.cell? ⟨i1, 1, none⟩ = some (.int .u32 inner)) (m0 : w.cell? ⟨m1, 0, none⟩ = some (.float .f64 v))
    (o0 : w.cell? ⟨ob, 0, none⟩ = some (.iface 55 (.pointer (some ⟨ib, 0, none⟩)))) (o1 : w.cell? ⟨ob, 1, none⟩ = some (.int .i32 tl)) (o2 : w.cell? ⟨ob, 2, none⟩ = some (.iface 36 (.pointer (some ⟨nb, 0, none⟩)))) (o3 : w.cell? ⟨ob, 3, none⟩ = some (.int .i32 il))
    (px : Base.plainAt w x = true) (po : Base.plainAt w ob = true) (pi : Base.plainAt w i1 = true) (pj : Base.plainAt w ib = true) (pm : Base.plainAt w m1 = true) (pn : Base.plainAt w nb = true)
    (nx : ¬ x = ob) (ni : ¬ i1 = ib) (nm : ¬ m1 = nb) :
    Calls Tryd.prog 27 #[.agg #[.iface 64 (.pointer (some ⟨x, 0, none⟩)), .int .i32 ll], .int .i32 ll, .agg #[.int .u32 src, .int .u32 inner], .float .f64 v, .pointer (some ⟨ob, 0, none⟩)] w fun e w' => e = .returned (.pointer (some ⟨x, 0, none⟩)) ∧ Below w.heap.size w w' := by
  go_enter Tryd.func27, Tryd.ntmps27
  go_wp2_with (first | (go_at_call 26; go_in) | (go_at_call 20; go_in) | (go_at_call 12; go_in))
  generalize hW : World.alloc _ _ = W
  have hbW : Below w.heap.size w W := by rw [← hW]; go_grown
  have hz : w.heap.size + 3 ≤ W.heap.size := by rw [← hW]; simp <;> omega
  have r1 : Base.RowAt W (w.heap.size + 1) 28 #[.int .u32 src, .int .u32 inner] := by
    rw [← hW]
    exact ((Base.RowAt.new' _ _ _ _ (by simp)).alloc _)
  clear hW
  have x0 := Base.cell_below hbW (Base.block_of_cell x0) x0
  have x1 := Base.cell_below hbW (Base.block_of_cell x1) x1
  have x2 := Base.cell_below hbW (Base.block_of_cell x2) x2
  have x3 := Base.cell_below hbW (Base.block_of_cell x3) x3
  have p0 := Base.cell_below hbW (Base.block_of_cell p0) p0
  have p1 := Base.cell_below hbW (Base.block_of_cell p1) p1
  have m0 := Base.cell_below hbW (Base.block_of_cell m0) m0
  have o0 := Base.cell_below hbW (Base.block_of_cell o0) o0
  have o1 := Base.cell_below hbW (Base.block_of_cell o1) o1
  have o2 := Base.cell_below hbW (Base.block_of_cell o2) o2
  have o3 := Base.cell_below hbW (Base.block_of_cell o3) o3
  have px := Base.plainAt_below hbW (Base.plain_lt px) px
  have po := Base.plainAt_below hbW (Base.plain_lt po) po
  have pi := Base.plainAt_below hbW (Base.plain_lt pi) pi
  have pj := Base.plainAt_below hbW (Base.plain_lt pj) pj
  have pm := Base.plainAt_below hbW (Base.plain_lt pm) pm
  have pn := Base.plainAt_below hbW (Base.plain_lt pn) pn
  have rf0 : W.cell? ⟨w.heap.size + 1, 0, none⟩ = some (.int .u32 src) := r1.cell rfl
  have rf1 : W.cell? ⟨w.heap.size + 1, 1, none⟩ = some (.int .u32 inner) := r1.cell rfl
  have kq0 := cell_regrown (x0)
  have kq1 := cell_regrown (x1)
  have kq2 := cell_regrown (p0)
  have kq3 := cell_regrown (p1)
  have kq4 := cell_regrown (o0)
  have kq5 := cell_regrown (o1)
  have kq6 := cell_regrown (rf0)
  have kq7 := cell_regrown (rf1)
  have kp8 := plain_regrown pi
  have kp9 := plain_regrown pj
  refine wp_region_quiet_below (by kernel_rfl) (by kernel_rfl) ?_
  repeat (quiet_step (first | (go_at_call 23; exact Calls.regrown_of (identIs _ _ _ _ _ (kq2 _ _) (kq3 _ _))) | (go_at_call 20; exact Calls.regrown_of (asIdent _ _ _))))
  refine wpQuiet_nil ?_
  intro _ hw'
  obtain ⟨⟨dq, osq⟩, hw''⟩ := hw'
  subst hw''
  have hbY := below_regrown W dq osq
  have x2 := Base.cell_below hbY (Base.block_of_cell x2) x2
  have x3 := Base.cell_below hbY (Base.block_of_cell x3) x3
  have m0 := Base.cell_below hbY (Base.block_of_cell m0) m0
  have o2 := Base.cell_below hbY (Base.block_of_cell o2) o2
  have o3 := Base.cell_below hbY (Base.block_of_cell o3) o3
  have pm := Base.plainAt_below hbY (Base.plain_lt pm) pm
  have pn := Base.plainAt_below hbY (Base.plain_lt pn) pn
  have H0 := Lib.hid (hbW.trans (hbY.mono hbW.size))
  generalize grow (redrawn W dq) osq = V at *
  clear hbY hbW
  go_wp2_with (first | (go_at_call 16; refine Calls.mono (l131.sameFloat v _) ?_; rintro e w3 ⟨rfl, rfl⟩) | (go_at_call 12; go_in))
  go_returns
  refine ⟨rfl, ?_⟩
  have hbw := H0.out
  have hs9 := hbw.size
  go_grown
  all_goals (simp <;> omega)
end Go.Proofs.YtlgefnjkoklboaaDoor.Use
