/- The law's parser, made. No condition. -/
import Derived.Test.YtaoflhnkhgclhaaDoorApp
import Derived.Test.YtaoflhnkhgclhaaDoorOwnK
import Derived.Test.YtaoflhnkhgclhaaDoorOwn
import Derived.Test.YtaoflhnkhgclhaaDoorDeepCells
import Derived.Test.YtaoflhnkhgclhaaDoorRows
import Derived.Test.YtaoflhnkhgclhaaDoorUse
import Derived.Test.YtaoflhnkhgclhaaDoorLive
namespace Go.Proofs.YtaoflhnkhgclhaaDoor.Use
open Go.ChangeShapes Go.WideShapes Go.ChangeAt Go.RowKit Go.Sort Own
set_option linter.unusedVariables false
noncomputable def newPar (ms mp : Nat) : Array Value := Base.builtOf Tryd.prog 176 [(7, .pointer (some ⟨ms, 0, none⟩)), (58, .pointer (some ⟨ms, 0, none⟩)), (20, .map (some mp)), (85, .agg #[.int .u32 4294967295, .int .u32 4294967295]), (86, .agg #[.int .u32 4294967295, .int .u32 4294967295])]
theorem newPar_350 (ms mp : Nat) : (newPar ms mp)[350]? = some (.bool false) := by kernel_rfl
theorem newPar_32 (ms mp : Nat) : (newPar ms mp)[32]? = some (.bool false) := by kernel_rfl
theorem newPar_105 (ms mp : Nat) : (newPar ms mp)[105]? = some (.pointer none) := by kernel_rfl
theorem newPar_66 (ms mp : Nat) : (newPar ms mp)[66]? = some (.int .u32 0) := by kernel_rfl
theorem newPar_106 (ms mp : Nat) : (newPar ms mp)[106]? = some (.slice none 0 0) := by kernel_rfl

def newPPost  (w0 : World) (X : Nat → Obj → Prop) (e : Ending) (w' : World) : Prop :=
  ∃ pb : Nat, ∃ ms : Nat, ∃ mp : Nat, e = .returned (.pointer (some ⟨pb, 0, none⟩)) ∧ Own w0 w' [row (pb) 176 (newPar ms mp)] X
set_option maxRecDepth 100000 in
set_option maxHeartbeats 1000000 in
theorem newP  (w0 w : World) (X : Nat → Obj → Prop) (hO : Own w0 w [] X) (hg0 : w0.cell? ⟨0, 0, none⟩ = some (.int .u32 4294967295)) (hg1 : w0.cell? ⟨0, 1, none⟩ = some (.int .u32 4294967295)) :
    Calls Tryd.prog 7 #[] w (newPPost  w0 X) := by
  go_enter Tryd.func7, Tryd.ntmps7
  have hmm := fun w => run_makeMap (P := Tryd.prog) 55 w
  have gw9_0_0 := Base.cell_below hO.below (Base.block_of_cell hg0) hg0
  have gw9_0_1 := Base.cell_below hO.below (Base.block_of_cell hg1) hg1
  have gl9_0 := Base.block_of_cell gw9_0_0
  go_wp2_with (first | (with_reducible refine Own.stay (fn := Tryd.f7) ?_) | ((with_reducible refine Base.wpList_buildL 176 ?_ ?_); kernel_rfl; simp only [Act.put, List.setIfInBounds_toArray, List.set_cons_succ, List.set_cons_zero]))
  try with_reducible refine Own.Stay.mk ?_
  generalize hW : World.alloc _ _ = W2
  have hN : Own w0 W2 [row (w.heap.size + 1 + 1) 176 (Base.builtOf Tryd.prog 176 [(7, .pointer (some ⟨w.heap.size, 0, none⟩)), (58, .pointer (some ⟨w.heap.size, 0, none⟩)), (20, .map (some (w.heap.size + 1))), (85, .agg #[.int .u32 4294967295, .int .u32 4294967295]), (86, .agg #[.int .u32 4294967295, .int .u32 4294967295])]), ((w.heap.size + 1, .map #[] 0) : Rw), row (w.heap.size) 54 #[.pointer none, .pointer none, .slice none 0 0, .map none, .slice none 0 0, .slice none 0 0, .int .i32 0, .int .i32 0, .int .u32 0, .int .u32 0, .bool false, .bool false, .bool false, .bool false, .int .u8 0, .int .u8 6]] X := by
    rw [← hW]
    exact (((hO).alloc' _ (w.heap.size) (by simp)).alloc' _ (w.heap.size + 1) (by simp)).alloc' _ (w.heap.size + 1 + 1) (by simp)
  clear hW hO
  generalize w.heap.size + 1 + 1 = B1_2 at hN ⊢
  generalize w.heap.size + 1 = B1_1 at hN ⊢
  generalize w.heap.size = B1 at hN ⊢
  have hO := hN
  clear hN
  have hN : Own w0 W2 [row (B1_2) 176 (newPar B1 B1_1), ((B1_1, .map #[] 0) : Rw), row (B1) 54 #[.pointer none, .pointer none, .slice none 0 0, .map none, .slice none 0 0, .slice none 0 0, .int .i32 0, .int .i32 0, .int .u32 0, .int .u32 0, .bool false, .bool false, .bool false, .bool false, .int .u8 0, .int .u8 6]] X := hO
  clear hO
  have hO := hN
  clear hN
  refine bodyPost_ret (v := .pointer (some ⟨B1_2, 0, none⟩)) ?_ rfl ⟨B1_2, B1, B1_1, rfl, hO.sub [0] (by decide)⟩
  simp [results, Tryd.results7, go_sem]
end Go.Proofs.YtaoflhnkhgclhaaDoor.Use
