/- The laws' parser, made. No condition. -/
import Derived.Test.YtcbdjbjbikiaeaaDoorOwn
import Derived.Test.YtcbdjbjbikiaeaaDoorDeepCells
import Derived.Test.YtcbdjbjbikiaeaaDoorRows
import Derived.Test.YtcbdjbjbikiaeaaDoorDead
namespace Go.Proofs.YtcbdjbjbikiaeaaDoor.Use
open Go.ChangeShapes Go.WideShapes Go.ChangeAt Go.RowKit Go.Sort Own
set_option linter.unusedVariables false
theorem mapNew (w : World) (n : Nat) (hn : n = w.heap.size) : Base.MapAt (w.alloc (.map #[] 0)) n #[] 0 := by subst hn; exact Base.MapAt.new w
theorem wpList_insertL {P : Program} {ops : Array Oper} {Q : Exit → Act → World → Prop} {rest : List Oper} {a : Act} {w : World} {m x y : Operand} (t : TypeId) {ty : TypeId} {pos : String} {after : Array Edge} (k e : TypeId) {r : Nat} {es : Array MapEntry} {c : Nat} {s : ByteArray} {v : Value}
    (h : Base.MapAt w r es c) (ht : P.underlying t = some (.map k e)) (hk : P.underlying k = some .string) (hm : a.eval m = .map (some r)) (hx : a.eval x = .string s) (hv : a.eval y = v)
    (hf : Instr.findNow .string (.string s) es.toList 0 = some none) (hK : wpList P ops Q rest (a.put none undef) (Base.setMap w r (es.push ⟨.string s, v, c⟩) (c + 1))) : wpList P ops Q ({ dst := none, op := .insert t m x y, type := ty, pos := pos, after := after, guard := none } :: rest) a w :=
  wpList_plain rfl fun _ hK' => by
    unfold Oper.wp
    simp [execOp, hm, hx, hv, Base.run_update_new w ht hk h s v hf, Result.andThen]
    exact hK' _ _ hK
theorem wpList_buildG {P : Program} {ops : Array Oper} {Q : Exit → Act → World → Prop} {rest : List Oper} {a : Act} {w : World} {d : Tmp} (t : TypeId) {ty : TypeId}
    {pos : String} {after : Array Edge} {l : List (Nat × Operand)} (hs : (P.built t (l.map fun x => (x.1, a.eval x.2))).isSome = true)
    (h : ∀ c : Array Value, c = Base.builtOf P t (l.map fun x => (x.1, a.eval x.2)) → wpList P ops Q rest (a.put (some d) (.agg c)) w) :
    wpList P ops Q ({ dst := some d, op := .build t l.toArray, type := ty, pos := pos, after := after, guard := none } :: rest) a w := Base.wpList_buildL t hs (h _ rfl)
theorem mk187 (b1 b2 b3 b4 : Nat) : (Base.builtOf Tryd.prog 206 [(9, .slice (some ⟨b1, 0, none⟩) 8 8), (8, .pointer (some ⟨b2, 0, none⟩)), (58, .pointer (some ⟨b3, 0, none⟩)), (108, .bool true), (20, .map (some b4))])[187]? = some (.pointer (some ⟨b3, 0, none⟩)) := by kernel_rfl
theorem mk104 (b1 b2 b3 b4 : Nat) : (Base.builtOf Tryd.prog 206 [(9, .slice (some ⟨b1, 0, none⟩) 8 8), (8, .pointer (some ⟨b2, 0, none⟩)), (58, .pointer (some ⟨b3, 0, none⟩)), (108, .bool true), (20, .map (some b4))])[104]? = some (.pointer none) := by kernel_rfl
theorem mk338 (b1 b2 b3 b4 : Nat) : (Base.builtOf Tryd.prog 206 [(9, .slice (some ⟨b1, 0, none⟩) 8 8), (8, .pointer (some ⟨b2, 0, none⟩)), (58, .pointer (some ⟨b3, 0, none⟩)), (108, .bool true), (20, .map (some b4))])[338]? = some (.bool false) := by kernel_rfl
theorem mk95 (b1 b2 b3 b4 : Nat) : (Base.builtOf Tryd.prog 206 [(9, .slice (some ⟨b1, 0, none⟩) 8 8), (8, .pointer (some ⟨b2, 0, none⟩)), (58, .pointer (some ⟨b3, 0, none⟩)), (108, .bool true), (20, .map (some b4))])[95]? = some (.bool false) := by kernel_rfl
theorem mk96 (b1 b2 b3 b4 : Nat) : (Base.builtOf Tryd.prog 206 [(9, .slice (some ⟨b1, 0, none⟩) 8 8), (8, .pointer (some ⟨b2, 0, none⟩)), (58, .pointer (some ⟨b3, 0, none⟩)), (108, .bool true), (20, .map (some b4))])[96]? = some (.bool false) := by kernel_rfl
theorem mk97 (b1 b2 b3 b4 : Nat) : (Base.builtOf Tryd.prog 206 [(9, .slice (some ⟨b1, 0, none⟩) 8 8), (8, .pointer (some ⟨b2, 0, none⟩)), (58, .pointer (some ⟨b3, 0, none⟩)), (108, .bool true), (20, .map (some b4))])[97]? = some (.pointer none) := by kernel_rfl
theorem mk350 (b1 b2 b3 b4 : Nat) : (Base.builtOf Tryd.prog 206 [(9, .slice (some ⟨b1, 0, none⟩) 8 8), (8, .pointer (some ⟨b2, 0, none⟩)), (58, .pointer (some ⟨b3, 0, none⟩)), (108, .bool true), (20, .map (some b4))])[350]? = some (.bool true) := by kernel_rfl
theorem mk32 (b1 b2 b3 b4 : Nat) : (Base.builtOf Tryd.prog 206 [(9, .slice (some ⟨b1, 0, none⟩) 8 8), (8, .pointer (some ⟨b2, 0, none⟩)), (58, .pointer (some ⟨b3, 0, none⟩)), (108, .bool true), (20, .map (some b4))])[32]? = some (.bool false) := by kernel_rfl
theorem mk117 (b1 b2 b3 b4 : Nat) : (Base.builtOf Tryd.prog 206 [(9, .slice (some ⟨b1, 0, none⟩) 8 8), (8, .pointer (some ⟨b2, 0, none⟩)), (58, .pointer (some ⟨b3, 0, none⟩)), (108, .bool true), (20, .map (some b4))])[117]? = some (.map (some b4)) := by kernel_rfl
def newDeadPost (l r s : Bool) (w0 : World) (X : Nat → Obj → Prop) (e : Ending) (w' : World) : Prop :=
  ∃ pb : Nat, ∃ mp : Nat, ∃ cr : Nat, ∃ PC : Array Value, e = .returned (.pointer (some ⟨pb, 0, none⟩)) ∧ Dead PC mp cr r s ∧ Own w0 w' [row (pb) 206 PC, (mp, .map map3 3), row (cr) 68 #[.int .u32 0, .int .u32 1]] X
set_option maxRecDepth 100000 in
set_option maxHeartbeats 1000000 in
theorem newDead (l r s : Bool) (w0 w : World) (X : Nat → Obj → Prop) (hO : Own w0 w [] X)  :
    Calls Tryd.prog 8 #[.bool l, .bool r, .bool s] w (newDeadPost l r s w0 X) := by
  go_enter Tryd.func8, Tryd.ntmps8
  have hms := makeSym8
  have hsm : ∀ (w : World) (b : Nat) (es : Array MapEntry) (n : Nat), (Base.setMap w b es n).heap.size = w.heap.size := fun _ _ _ _ => by simp [Base.setMap]
  have hmm := fun w => run_makeMap (P := Tryd.prog) 92 w
  go_wp2_with (first | ((with_reducible refine wpList_buildG 206 ?_ ?_); kernel_rfl; (intro c9 hc9; (have kc187 := (congrArg (fun c => c[187]?) hc9).trans (mk187 _ _ _ _)); (have kc104 := (congrArg (fun c => c[104]?) hc9).trans (mk104 _ _ _ _)); (have kc338 := (congrArg (fun c => c[338]?) hc9).trans (mk338 _ _ _ _)); (have kc95 := (congrArg (fun c => c[95]?) hc9).trans (mk95 _ _ _ _)); (have kc96 := (congrArg (fun c => c[96]?) hc9).trans (mk96 _ _ _ _)); (have kc97 := (congrArg (fun c => c[97]?) hc9).trans (mk97 _ _ _ _)); (have kc350 := (congrArg (fun c => c[350]?) hc9).trans (mk350 _ _ _ _)); (have kc32 := (congrArg (fun c => c[32]?) hc9).trans (mk32 _ _ _ _)); (have kc117 := (congrArg (fun c => c[117]?) hc9).trans (mk117 _ _ _ _)); clear hc9); simp only [Act.put, List.setIfInBounds_toArray, List.set_cons_succ, List.set_cons_zero]) | ((with_reducible apply wpList_insertL 92 9 87 (x := Operand.const (Value.string ⟨#[95, 95, 115, 117, 112, 101, 114, 87, 114, 97, 112, 112, 101, 114]⟩)) (s := ⟨#[95, 95, 115, 117, 112, 101, 114, 87, 114, 97, 112, 112, 101, 114]⟩) (v := .agg #[.int .i32 0, .int .u32 0, .int .u32 2])); (exact Base.MapAt.new _); kernel_rfl; kernel_rfl; (refine Eq.trans (b := Value.map (some _)) rfl ?_; simp); rfl; rfl; kernel_rfl) | ((with_reducible apply wpList_insertL 92 9 87 (x := Operand.const (Value.string ⟨#[95, 95, 115, 117, 112, 101, 114, 71, 101, 116]⟩)) (s := ⟨#[95, 95, 115, 117, 112, 101, 114, 71, 101, 116]⟩) (v := .agg #[.int .i32 0, .int .u32 0, .int .u32 3])); (exact Base.MapAt.set (mapNew _ _ (by simp)) _ _); kernel_rfl; kernel_rfl; (refine Eq.trans (b := Value.map (some _)) rfl ?_; simp); rfl; rfl; kernel_rfl) | ((with_reducible apply wpList_insertL 92 9 87 (x := Operand.const (Value.string ⟨#[95, 95, 112, 114, 105, 118, 97, 116, 101, 87, 114, 97, 112, 112, 101, 114]⟩)) (s := ⟨#[95, 95, 112, 114, 105, 118, 97, 116, 101, 87, 114, 97, 112, 112, 101, 114]⟩) (v := .agg #[.int .i32 0, .int .u32 0, .int .u32 4])); (exact Base.MapAt.set (Base.MapAt.set (mapNew _ _ (by simp)) _ _) _ _); kernel_rfl; kernel_rfl; (refine Eq.trans (b := Value.map (some _)) rfl ?_; simp); rfl; rfl; kernel_rfl))
  generalize hW : World.alloc _ _ = W2
  have hN : Own w0 W2 [row (w.heap.size + 1 + 1 + 1 + 1 + 1) 206 (((((c9.setIfInBounds 104 (.pointer (some ⟨w.heap.size + 1 + 1 + 1, 0, none⟩))).setIfInBounds 338 (.bool l)).setIfInBounds 95 (.bool r)).setIfInBounds 96 (.bool s)).setIfInBounds 97 (.pointer (some ⟨w.heap.size, 0, none⟩))), (w.heap.size + 1 + 1 + 1 + 1, .map map3 3), row (w.heap.size + 1 + 1 + 1) 91 #[.pointer none, .pointer none, .slice none 0 0, .map none, .slice none 0 0, .slice none 0 0, .int .i32 0, .int .i32 0, .int .u32 0, .int .u32 0, .bool false, .bool false, .bool false, .bool false, .int .u8 0, .int .u8 0], row (w.heap.size + 1 + 1) 80 #[.slice none 0 0, .slice none 0 0, .slice none 0 0, .slice none 0 0, .map none, .map none, .map none, .slice none 0 0, .bool false, .bool false, .bool false], row (w.heap.size + 1) 260 (madeCells #[.pointer none, .string ⟨#[]⟩, .int .u32 0, .int .u32 0, .int .u32 0, .int .u32 0, .int .u32 0, .int .u16 0, .int .u8 0, .int .u8 0] 80), row (w.heap.size) 68 #[.int .u32 0, .int .u32 1]] X := by
    rw [← hW]
    exact (((((((((hO).alloc' _ (w.heap.size) (by simp)).alloc' _ (w.heap.size + 1) (by simp)).alloc' _ (w.heap.size + 1 + 1) (by simp)).alloc' _ (w.heap.size + 1 + 1 + 1) (by simp)).alloc' _ (w.heap.size + 1 + 1 + 1 + 1) (by simp)).setMap 0 rfl #[⟨.string ⟨#[95, 95, 115, 117, 112, 101, 114, 87, 114, 97, 112, 112, 101, 114]⟩, .agg #[.int .i32 0, .int .u32 0, .int .u32 2], 0⟩] 1).setMap 0 rfl #[⟨.string ⟨#[95, 95, 115, 117, 112, 101, 114, 87, 114, 97, 112, 112, 101, 114]⟩, .agg #[.int .i32 0, .int .u32 0, .int .u32 2], 0⟩, ⟨.string ⟨#[95, 95, 115, 117, 112, 101, 114, 71, 101, 116]⟩, .agg #[.int .i32 0, .int .u32 0, .int .u32 3], 1⟩] 2).setMap 0 rfl map3 3).alloc' _ (w.heap.size + 1 + 1 + 1 + 1 + 1) (by simp [Base.setMap])
  clear hW hO
  generalize w.heap.size + 1 + 1 + 1 + 1 + 1 = B1_5 at hN kc187 kc117 ⊢
  generalize w.heap.size + 1 + 1 + 1 + 1 = B1_4 at hN kc187 kc117 ⊢
  generalize w.heap.size + 1 + 1 + 1 = B1_3 at hN kc187 kc117 ⊢
  generalize w.heap.size + 1 + 1 = B1_2 at hN kc187 kc117 ⊢
  generalize w.heap.size + 1 = B1_1 at hN kc187 kc117 ⊢
  generalize w.heap.size = B1 at hN kc187 kc117 ⊢
  have hO := hN
  clear hN
  refine bodyPost_ret (v := .pointer (some ⟨B1_5, 0, none⟩)) ?_ rfl ⟨B1_5, B1_4, B1, ((((c9.setIfInBounds 104 (.pointer (some ⟨B1_3, 0, none⟩))).setIfInBounds 338 (.bool l)).setIfInBounds 95 (.bool r)).setIfInBounds 96 (.bool s)).setIfInBounds 97 (.pointer (some ⟨B1, 0, none⟩)), rfl, ⟨(get_other (get_other (get_other (get_other (get_other kc350 (by omega) _) (by omega) _) (by omega) _) (by omega) _) (by omega) _), (get_other (get_other (get_other (get_other (get_other kc32 (by omega) _) (by omega) _) (by omega) _) (by omega) _) (by omega) _), (get_other (get_other (get_other (get_other (get_other kc117 (by omega) _) (by omega) _) (by omega) _) (by omega) _) (by omega) _), (get_set (get_other (get_other (get_other (get_other kc97 (by omega) _) (by omega) _) (by omega) _) (by omega) _) _), (get_other (get_other (get_set (get_other (get_other kc95 (by omega) _) (by omega) _) _) (by omega) _) (by omega) _), (get_other (get_set (get_other (get_other (get_other kc96 (by omega) _) (by omega) _) (by omega) _) _) (by omega) _)⟩, hO.sub [0, 1, 5] (by decide)⟩
  simp [results, Tryd.results8, go_sem]
end Go.Proofs.YtcbdjbjbikiaeaaDoor.Use
