/- The laws' parser, made. No condition. -/
import Derived.Test.YtcbdjbjbikiaeaaDoorOwnK
import Derived.Test.YtcbdjbjbikiaeaaDoorOwn
import Derived.Test.YtcbdjbjbikiaeaaDoorDeepCells
import Derived.Test.YtcbdjbjbikiaeaaDoorRows
import Derived.Test.YtcbdjbjbikiaeaaDoorDead
import Derived.Test.YtcbdjbjbikiaeaaDoorNew
namespace Go.Proofs.YtcbdjbjbikiaeaaDoor.Use
open Go.ChangeShapes Go.WideShapes Go.ChangeAt Go.RowKit Go.Sort Own
set_option linter.unusedVariables false
def newDeadLPost (l r s : Bool) (w0 : World) (X : Nat → Obj → Prop) (e : Ending) (w' : World) : Prop :=
  ∃ pb : Nat, ∃ mp : Nat, ∃ cr : Nat, ∃ PC : Array Value, e = .returned (.pointer (some ⟨pb, 0, none⟩)) ∧ Dead PC mp cr r s ∧ PC[338]? = some (.bool l) ∧ Own w0 w' [row (pb) 206 PC, (mp, .map map3 3), row (cr) 68 #[.int .u32 0, .int .u32 1]] X
set_option maxRecDepth 100000 in
set_option maxHeartbeats 1000000 in
theorem newDeadL (l r s : Bool) (w0 w : World) (X : Nat → Obj → Prop) (hO : Own w0 w [] X)  :
    Calls Tryd.prog 8 #[.bool l, .bool r, .bool s] w (newDeadLPost l r s w0 X) := by
  go_enter Tryd.func8, Tryd.ntmps8
  have hms := makeSym8
  have hsm : ∀ (w : World) (b : Nat) (es : Array MapEntry) (n : Nat), (Base.setMap w b es n).heap.size = w.heap.size := fun _ _ _ _ => by simp [Base.setMap]
  have hmm := fun w => run_makeMap (P := Tryd.prog) 92 w
  go_wp2_with (first | ((with_reducible refine wpList_buildG 206 ?_ ?_); kernel_rfl; (intro c9 hc9; (have kc187 := (congrArg (fun c => c[187]?) hc9).trans (mk187 _ _ _ _)); (have kc104 := (congrArg (fun c => c[104]?) hc9).trans (mk104 _ _ _ _)); (have kc338 := (congrArg (fun c => c[338]?) hc9).trans (mk338 _ _ _ _)); (have kc95 := (congrArg (fun c => c[95]?) hc9).trans (mk95 _ _ _ _)); (have kc96 := (congrArg (fun c => c[96]?) hc9).trans (mk96 _ _ _ _)); (have kc97 := (congrArg (fun c => c[97]?) hc9).trans (mk97 _ _ _ _)); (have kc350 := (congrArg (fun c => c[350]?) hc9).trans (mk350 _ _ _ _)); (have kc32 := (congrArg (fun c => c[32]?) hc9).trans (mk32 _ _ _ _)); (have kc117 := (congrArg (fun c => c[117]?) hc9).trans (mk117 _ _ _ _)); clear hc9); simp only [Act.put, List.setIfInBounds_toArray, List.set_cons_succ, List.set_cons_zero]) | ((with_reducible apply wpList_insertL 92 9 87 (x := Operand.const (Value.string ⟨#[95, 95, 115, 117, 112, 101, 114, 87, 114, 97, 112, 112, 101, 114]⟩)) (s := ⟨#[95, 95, 115, 117, 112, 101, 114, 87, 114, 97, 112, 112, 101, 114]⟩) (v := .agg #[.int .i32 0, .int .u32 0, .int .u32 2])); (exact Base.MapAt.new _); kernel_rfl; kernel_rfl; (refine Eq.trans (b := Value.map (some _)) rfl ?_; simp); rfl; rfl; kernel_rfl) | ((with_reducible apply wpList_insertL 92 9 87 (x := Operand.const (Value.string ⟨#[95, 95, 115, 117, 112, 101, 114, 71, 101, 116]⟩)) (s := ⟨#[95, 95, 115, 117, 112, 101, 114, 71, 101, 116]⟩) (v := .agg #[.int .i32 0, .int .u32 0, .int .u32 3])); (exact Base.MapAt.set (mapNew _ _ (by simp)) _ _); kernel_rfl; kernel_rfl; (refine Eq.trans (b := Value.map (some _)) rfl ?_; simp); rfl; rfl; kernel_rfl) | ((with_reducible apply wpList_insertL 92 9 87 (x := Operand.const (Value.string ⟨#[95, 95, 112, 114, 105, 118, 97, 116, 101, 87, 114, 97, 112, 112, 101, 114]⟩)) (s := ⟨#[95, 95, 112, 114, 105, 118, 97, 116, 101, 87, 114, 97, 112, 112, 101, 114]⟩) (v := .agg #[.int .i32 0, .int .u32 0, .int .u32 4])); (exact Base.MapAt.set (Base.MapAt.set (mapNew _ _ (by simp)) _ _) _ _); kernel_rfl; kernel_rfl; (refine Eq.trans (b := Value.map (some _)) rfl ?_; simp); rfl; rfl; kernel_rfl))
  generalize hW : World.alloc _ _ = W2
  have hN : Own w0 W2 [row (w.heap.size + 1 + 1 + 1 + 1 + 1) 206 (((((c9.setIfInBounds 104 (.pointer (some ⟨w.heap.size + 1 + 1 + 1, 0, none⟩))).setIfInBounds 338 (.bool l)).setIfInBounds 95 (.bool r)).setIfInBounds 96 (.bool s)).setIfInBounds 97 (.pointer (some ⟨w.heap.size, 0, none⟩))), (w.heap.size + 1 + 1 + 1 + 1, .map map3 3), row (w.heap.size + 1 + 1 + 1) 91 #[.pointer none, .pointer none, .slice none 0 0, .map none, .slice none 0 0, .slice none 0 0, .int .i32 0, .int .i32 0, .int .u32 0, .int .u32 0, .bool false, .bool false, .bool false, .bool false, .int .u8 0, .int .u8 0], row (w.heap.size + 1 + 1) 80 #[.slice none 0 0, .slice none 0 0, .slice none 0 0, .slice none 0 0, .map none, .map none, .map none, .slice none 0 0, .bool false, .bool false, .bool false], row (w.heap.size + 1) 260 (madeCells #[.pointer none, .string ⟨#[]⟩, .int .u32 0, .int .u32 0, .int .u32 0, .int .u32 0, .int .u32 0, .int .u16 0, .int .u8 0, .int .u8 0] 80), row (w.heap.size) 68 #[.int .u32 0, .int .u32 1]] X := by
    rw [← hW]
    exact (((((((((hO).alloc' _ (w.heap.size) (by simp)).alloc' _ (w.heap.size + 1) (by simp)).alloc' _ (w.heap.size + 1 + 1) (by simp)).alloc' _ (w.heap.size + 1 + 1 + 1) (by simp)).alloc' _ (w.heap.size + 1 + 1 + 1 + 1) (by simp)).setMap 0 rfl #[⟨.string ⟨#[95, 95, 115, 117, 112, 101, 114, 87, 114, 97, 112, 112, 101, 114]⟩, .agg #[.int .i32 0, .int .u32 0, .int .u32 2], 0⟩] 1).setMap 0 rfl #[⟨.string ⟨#[95, 95, 115, 117, 112, 101, 114, 87, 114, 97, 112, 112, 101, 114]⟩, .agg #[.int .i32 0, .int .u32 0, .int .u32 2], 0⟩, ⟨.string ⟨#[95, 95, 115, 117, 112, 101, 114, 71, 101, 116]⟩, .agg #[.int .i32 0, .int .u32 0, .int .u32 3], 1⟩] 2).setMap 0 rfl map3 3).alloc' _ (w.heap.size + 1 + 1 + 1 + 1 + 1) (by simp [Base.setMap])
  clear hW hO
  generalize w.heap.size + 1 + 1 + 1 + 1 + 1 = B1_5 at hN kc187 kc117 ⊢
  generalize w.heap.size + 1 + 1 + 1 + 1 = B1_4 at hN kc187 kc117 ⊢
  generalize w.heap.size + 1 + 1 + 1 = B1_3 at hN kc187 kc117 ⊢
  generalize w.heap.size + 1 + 1 = B1_2 at hN kc187 kc117 ⊢
  generalize w.heap.size + 1 = B1_1 at hN kc187 kc117 ⊢
  generalize w.heap.size = B1 at hN kc187 kc117 ⊢
  have hO := hN
  clear hN
  refine bodyPost_ret (v := .pointer (some ⟨B1_5, 0, none⟩)) ?_ rfl ⟨B1_5, B1_4, B1, ((((c9.setIfInBounds 104 (.pointer (some ⟨B1_3, 0, none⟩))).setIfInBounds 338 (.bool l)).setIfInBounds 95 (.bool r)).setIfInBounds 96 (.bool s)).setIfInBounds 97 (.pointer (some ⟨B1, 0, none⟩)), rfl, ⟨(get_other (get_other (get_other (get_other (get_other kc350 (by omega) _) (by omega) _) (by omega) _) (by omega) _) (by omega) _), (get_other (get_other (get_other (get_other (get_other kc32 (by omega) _) (by omega) _) (by omega) _) (by omega) _) (by omega) _), (get_other (get_other (get_other (get_other (get_other kc117 (by omega) _) (by omega) _) (by omega) _) (by omega) _) (by omega) _), (get_set (get_other (get_other (get_other (get_other kc97 (by omega) _) (by omega) _) (by omega) _) (by omega) _) _), (get_other (get_other (get_set (get_other (get_other kc95 (by omega) _) (by omega) _) _) (by omega) _) (by omega) _), (get_other (get_set (get_other (get_other (get_other kc96 (by omega) _) (by omega) _) (by omega) _) _) (by omega) _)⟩, (get_other (get_other (get_other (get_set (get_other kc338 (by omega) _) _) (by omega) _) (by omega) _) (by omega) _), hO.sub [0, 1, 5] (by decide)⟩
  simp [results, Tryd.results8, go_sem]
end Go.Proofs.YtcbdjbjbikiaeaaDoor.Use
