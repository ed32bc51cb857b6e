/- The law's small helpers, each by a contract. No condition. -/
import Derived.Test.YtlgefnjkoklboaaDoorLow21
import Derived.Test.YtlgefnjkoklboaaDoorDeepCells
import Derived.Lib.QuietBelow
namespace Go.Proofs.YtlgefnjkoklboaaDoor.Use
open Go.ChangeShapes Go.WideShapes Go.ChangeAt Go.RowKit Go.Sort
set_option linter.unusedVariables false
theorem plain_regrown {w : World} {b : Nat} (h : Base.plainAt w b = true) (d : Nat) (os : Array Obj) : Base.plainAt (grow (redrawn w d) os) b = true :=
  Base.plainAt_below (below_regrown w d os) (Base.plain_lt h) h
theorem asIdent (b : Nat) (l : Int) (w : World) : Calls Tryd.prog 20 #[.agg #[.iface 55 (.pointer (some ⟨b, 0, none⟩)), .int .i32 l]] w fun e w' => e = .returned (.pointer (some ⟨b, 0, none⟩)) ∧ Below w.heap.size w w' := by
  go_enter Tryd.func20, Tryd.ntmps20
  go_wp2
  go_returns
  exact ⟨rfl, by go_grown⟩
theorem asNumber (b : Nat) (l : Int) (w : World) : Calls Tryd.prog 12 #[.agg #[.iface 36 (.pointer (some ⟨b, 0, none⟩)), .int .i32 l]] w fun e w' => e = .returned (.pointer (some ⟨b, 0, none⟩)) ∧ Below w.heap.size w w' := by
  go_enter Tryd.func12, Tryd.ntmps12
  go_wp2
  go_returns
  exact ⟨rfl, by go_grown⟩
theorem asBinary (b : Nat) (l : Int) (w : World) : Calls Tryd.prog 15 #[.agg #[.iface 41 (.pointer (some ⟨b, 0, none⟩)), .int .i32 l]] w fun e w' => e = .returned (.pointer (some ⟨b, 0, none⟩)) ∧ Below w.heap.size w w' := by
  go_enter Tryd.func15, Tryd.ntmps15
  go_wp2
  go_returns
  exact ⟨rfl, by go_grown⟩
theorem asIndex (b : Nat) (l : Int) (w : World) : Calls Tryd.prog 26 #[.agg #[.iface 64 (.pointer (some ⟨b, 0, none⟩)), .int .i32 l]] w fun e w' => e = .returned (.pointer (some ⟨b, 0, none⟩)) ∧ Below w.heap.size w w' := by
  go_enter Tryd.func26, Tryd.ntmps26
  go_wp2
  go_returns
  exact ⟨rfl, by go_grown⟩
theorem asDot (b : Nat) (l : Int) (w : World) : Calls Tryd.prog 32 #[.agg #[.iface 81 (.pointer (some ⟨b, 0, none⟩)), .int .i32 l]] w fun e w' => e = .returned (.pointer (some ⟨b, 0, none⟩)) ∧ Below w.heap.size w w' := by
  go_enter Tryd.func32, Tryd.ntmps32
  go_wp2
  go_returns
  exact ⟨rfl, by go_grown⟩
theorem isNull (b : Nat) (l : Int) (w : World) : Calls Tryd.prog 17 #[.agg #[.iface 211 (.pointer (some ⟨b, 0, none⟩)), .int .i32 l]] w fun e w' => e = .returned (.bool true) ∧ Below w.heap.size w w' := by
  go_enter Tryd.func17, Tryd.ntmps17
  go_wp2
  go_returns
  exact ⟨rfl, by go_grown⟩
theorem isEmpty (l : Int) (w : World) : Calls Tryd.prog 22 #[.agg #[.nilIface, .int .i32 l]] w fun e w' => e = .returned (.bool true) ∧ Below w.heap.size w w' := by
  go_enter Tryd.func22, Tryd.ntmps22
  go_wp2
  go_returns
  exact ⟨rfl, by go_grown⟩
set_option maxRecDepth 100000 in
set_option maxHeartbeats 1000000 in
theorem identIs (b : Nat) (loc src inner : Int) (w : World) (c0 : w.cell? ⟨b, 0, none⟩ = some (.int .u32 src)) (c1 : w.cell? ⟨b, 1, none⟩ = some (.int .u32 inner)) :
    Calls Tryd.prog 23 #[.agg #[.iface 55 (.pointer (some ⟨b, 0, none⟩)), .int .i32 loc], .int .i32 loc, .agg #[.int .u32 src, .int .u32 inner]] w fun e w' => e = .returned (.bool true) ∧ Below w.heap.size w w' := by
  have hb := Base.block_of_cell c0
  obtain ⟨b1, b2, b3, b4, b5, b6, b7, b8, b9, b10, b11, b12⟩ := Base.lts hb
  go_enter Tryd.func23, Tryd.ntmps23
  go_wp2_with (go_at_call 20; go_in)
  generalize hW : World.alloc _ _ = W
  have hbel : Below w.heap.size w W := by rw [← hW]; go_grown
  have r0 : Base.RowAt W (w.heap.size) 34 #[.iface 55 (.pointer (some ⟨b, 0, none⟩)), .int .i32 loc] := by
    rw [← hW]
    exact (((Base.RowAt.new' _ _ _ _ (by simp)).alloc _).alloc _)
  have r1 : Base.RowAt W (w.heap.size + 1) 28 #[.int .u32 src, .int .u32 inner] := by
    rw [← hW]
    exact ((Base.RowAt.new' _ _ _ _ (by simp)).alloc _)
  clear hW
  have c0 := Base.cell_below hbel hb c0
  have c1 := Base.cell_below hbel hb c1
  have d0 : W.cell? ⟨w.heap.size, 1, none⟩ = some (.int .i32 loc) := r0.cell rfl
  have d1 : W.cell? ⟨w.heap.size + 1, 0, none⟩ = some (.int .u32 src) := r1.cell rfl
  have d2 : W.cell? ⟨w.heap.size + 1, 1, none⟩ = some (.int .u32 inner) := r1.cell rfl
  have kq0 := cell_regrown (c0)
  have kq1 := cell_regrown (c1)
  have kq2 := cell_regrown (d0)
  have kq3 := cell_regrown (d1)
  have kq4 := cell_regrown (d2)
  refine wp_region_quiet_below (by kernel_rfl) (by kernel_rfl) ?_
  repeat (quiet_step (fail))
  refine wpQuiet_nil ?_
  intro _ hw'
  obtain ⟨⟨dq, osq⟩, hw''⟩ := hw'
  subst hw''
  go_wp2
  go_returns
  exact ⟨rfl, hbel.trans ((below_regrown W dq osq).mono hbel.size)⟩
end Go.Proofs.YtlgefnjkoklboaaDoor.Use
