/- The laws' parser, made, in any context, lowering or not. No condition. -/
import Derived.Test.YtkhmjppfogppoaaDoorLive
import Derived.Test.YtkhmjppfogppoaaDoorApp
import Derived.Test.YtkhmjppfogppoaaDoorOwnK
import Derived.Test.YtkhmjppfogppoaaDoorOwn
import Derived.Test.YtkhmjppfogppoaaDoorDeepCells
import Derived.Test.YtkhmjppfogppoaaDoorRows
import Derived.Test.YtkhmjppfogppoaaDoorUse
namespace Go.Proofs.YtkhmjppfogppoaaDoor.Use
open Go.ChangeShapes Go.WideShapes Go.ChangeAt Go.RowKit Go.Sort Own
set_option linter.unusedVariables false
theorem wpList_buildG {P : Program} {ops : Array Oper} {Q : Exit → Act → World → Prop} {rest : List Oper} {a : Act} {w : World} {d : Tmp} (t : TypeId) {ty : TypeId}
    {pos : String} {after : Array Edge} {l : List (Nat × Operand)} (hs : (P.built t (l.map fun x => (x.1, a.eval x.2))).isSome = true)
    (h : ∀ c : Array Value, c = Base.builtOf P t (l.map fun x => (x.1, a.eval x.2)) → wpList P ops Q rest (a.put (some d) (.agg c)) w) :
    wpList P ops Q ({ dst := some d, op := .build t l.toArray, type := ty, pos := pos, after := after, guard := none } :: rest) a w := Base.wpList_buildL t hs (h _ rfl)

theorem mkS : (Base.builtOf Tryd.prog 193 []).size = 353 := by kernel_rfl
theorem mk350 : (Base.builtOf Tryd.prog 193 [])[350]? = some (.bool false) := by kernel_rfl
theorem mk32 : (Base.builtOf Tryd.prog 193 [])[32]? = some (.bool false) := by kernel_rfl
theorem mk105 : (Base.builtOf Tryd.prog 193 [])[105]? = some (.pointer none) := by kernel_rfl
theorem mk106 : (Base.builtOf Tryd.prog 193 [])[106]? = some (.slice none 0 0) := by kernel_rfl
theorem mk117 : (Base.builtOf Tryd.prog 193 [])[117]? = some (.map none) := by kernel_rfl
theorem mk187 : (Base.builtOf Tryd.prog 193 [])[187]? = some (.pointer none) := by kernel_rfl
theorem mk104 : (Base.builtOf Tryd.prog 193 [])[104]? = some (.pointer none) := by kernel_rfl
theorem mk66 : (Base.builtOf Tryd.prog 193 [])[66]? = some (.int .u32 0) := by kernel_rfl
theorem mk97 : (Base.builtOf Tryd.prog 193 [])[97]? = some (.pointer none) := by kernel_rfl
theorem mk95 : (Base.builtOf Tryd.prog 193 [])[95]? = some (.bool false) := by kernel_rfl
theorem mk96 : (Base.builtOf Tryd.prog 193 [])[96]? = some (.bool false) := by kernel_rfl
theorem mk338 : (Base.builtOf Tryd.prog 193 [])[338]? = some (.bool false) := by kernel_rfl

noncomputable def newSrslP (r : Bool) (s : Bool) (l : Bool) (sb mp ms cr : Nat) : Array Value := ((((((((Base.builtOf Tryd.prog 193 []).setIfInBounds 106 (.slice (some ⟨sb, 0, none⟩) 1 1)).setIfInBounds 117 (.map (some (mp)))).setIfInBounds 187 (.pointer (some ⟨ms, 0, none⟩))).setIfInBounds 104 (.pointer (some ⟨ms, 0, none⟩))).setIfInBounds 97 (.pointer (some ⟨cr, 0, none⟩))).setIfInBounds 96 (.bool s)).setIfInBounds 95 (.bool r)).setIfInBounds 338 (.bool l)
theorem newSrsl_350 (r : Bool) (s : Bool) (l : Bool) (sb mp ms cr : Nat) : (newSrslP r s l sb mp ms cr)[350]? = some (.bool false) := (get_other (get_other (get_other (get_other (get_other (get_other (get_other (get_other mk350 (by omega) _) (by omega) _) (by omega) _) (by omega) _) (by omega) _) (by omega) _) (by omega) _) (by omega) _)
theorem newSrsl_32 (r : Bool) (s : Bool) (l : Bool) (sb mp ms cr : Nat) : (newSrslP r s l sb mp ms cr)[32]? = some (.bool false) := (get_other (get_other (get_other (get_other (get_other (get_other (get_other (get_other mk32 (by omega) _) (by omega) _) (by omega) _) (by omega) _) (by omega) _) (by omega) _) (by omega) _) (by omega) _)
theorem newSrsl_105 (r : Bool) (s : Bool) (l : Bool) (sb mp ms cr : Nat) : (newSrslP r s l sb mp ms cr)[105]? = some (.pointer none) := (get_other (get_other (get_other (get_other (get_other (get_other (get_other (get_other mk105 (by omega) _) (by omega) _) (by omega) _) (by omega) _) (by omega) _) (by omega) _) (by omega) _) (by omega) _)
theorem newSrsl_117 (r : Bool) (s : Bool) (l : Bool) (sb mp ms cr : Nat) : (newSrslP r s l sb mp ms cr)[117]? = some (.map (some mp)) := (get_other (get_other (get_other (get_other (get_other (get_other (get_set (get_other mk117 (by omega) _) _) (by omega) _) (by omega) _) (by omega) _) (by omega) _) (by omega) _) (by omega) _)
theorem newSrsl_187 (r : Bool) (s : Bool) (l : Bool) (sb mp ms cr : Nat) : (newSrslP r s l sb mp ms cr)[187]? = some (.pointer (some ⟨ms, 0, none⟩)) := (get_other (get_other (get_other (get_other (get_other (get_set (get_other (get_other mk187 (by omega) _) (by omega) _) _) (by omega) _) (by omega) _) (by omega) _) (by omega) _) (by omega) _)
theorem newSrsl_66 (r : Bool) (s : Bool) (l : Bool) (sb mp ms cr : Nat) : (newSrslP r s l sb mp ms cr)[66]? = some (.int .u32 0) := (get_other (get_other (get_other (get_other (get_other (get_other (get_other (get_other mk66 (by omega) _) (by omega) _) (by omega) _) (by omega) _) (by omega) _) (by omega) _) (by omega) _) (by omega) _)
theorem newSrsl_97 (r : Bool) (s : Bool) (l : Bool) (sb mp ms cr : Nat) : (newSrslP r s l sb mp ms cr)[97]? = some (.pointer (some ⟨cr, 0, none⟩)) := (get_other (get_other (get_other (get_set (get_other (get_other (get_other (get_other mk97 (by omega) _) (by omega) _) (by omega) _) (by omega) _) _) (by omega) _) (by omega) _) (by omega) _)
theorem newSrsl_95 (r : Bool) (s : Bool) (l : Bool) (sb mp ms cr : Nat) : (newSrslP r s l sb mp ms cr)[95]? = some (.bool r) := (get_other (get_set (get_other (get_other (get_other (get_other (get_other (get_other mk95 (by omega) _) (by omega) _) (by omega) _) (by omega) _) (by omega) _) (by omega) _) _) (by omega) _)
theorem newSrsl_96 (r : Bool) (s : Bool) (l : Bool) (sb mp ms cr : Nat) : (newSrslP r s l sb mp ms cr)[96]? = some (.bool s) := (get_other (get_other (get_set (get_other (get_other (get_other (get_other (get_other mk96 (by omega) _) (by omega) _) (by omega) _) (by omega) _) (by omega) _) _) (by omega) _) (by omega) _)
theorem newSrsl_338 (r : Bool) (s : Bool) (l : Bool) (sb mp ms cr : Nat) : (newSrslP r s l sb mp ms cr)[338]? = some (.bool l) := (get_set (get_other (get_other (get_other (get_other (get_other (get_other (get_other mk338 (by omega) _) (by omega) _) (by omega) _) (by omega) _) (by omega) _) (by omega) _) (by omega) _) _)
theorem newSrsl_106 (r : Bool) (s : Bool) (l : Bool) (sb mp ms cr : Nat) : (newSrslP r s l sb mp ms cr)[106]? = some (.slice (some ⟨sb, 0, none⟩) 1 1) := (get_other (get_other (get_other (get_other (get_other (get_other (get_other (get_set mk106 _) (by omega) _) (by omega) _) (by omega) _) (by omega) _) (by omega) _) (by omega) _) (by omega) _)
def newSrslPost (r s l : Bool) (sb : Nat) (w0 : World) (X : Nat → Obj → Prop) (e : Ending) (w' : World) : Prop :=
  ∃ pb : Nat, ∃ mp : Nat, ∃ ms : Nat, ∃ cr : Nat, e = .returned (.pointer (some ⟨pb, 0, none⟩)) ∧ Own w0 w' [row (pb) 193 (newSrslP r s l sb mp ms cr), ((mp, .map #[] 0) : Rw), row (ms) 203 #[.pointer none, .pointer none, .slice none 0 0, .map none, .slice none 0 0, .slice none 0 0, .int .i32 0, .int .i32 0, .int .u32 0, .int .u32 0, .bool false, .bool false, .bool false, .bool false, .int .u8 0, .int .u8 6], row (cr) 25 #[.int .u32 0, .int .u32 0]] X
set_option maxRecDepth 100000 in
set_option maxHeartbeats 1000000 in
theorem newSrsl (r s l : Bool) (sb : Nat) (w0 w : World) (X : Nat → Obj → Prop) (hO : Own w0 w [] X)  :
    Calls Tryd.prog 9 #[.slice (some ⟨sb, 0, none⟩) 1 1, .agg #[.int .u32 0, .int .u32 0], .bool s, .bool r, .bool l] w (newSrslPost r s l sb w0 X) := by
  go_enter Tryd.func9, Tryd.ntmps9
  have hmm := fun w => run_makeMap (P := Tryd.prog) 150 w
  go_wp2_with (first | (with_reducible refine Own.stay (fn := Tryd.f9) ?_) | ((with_reducible refine wpList_buildG 193 (l := []) ?_ ?_); kernel_rfl; (intro c9 hc9; (have ks9 := (congrArg Array.size hc9).trans mkS); (have kc350 := (congrArg (fun c => c[350]?) hc9).trans mk350); (have kc32 := (congrArg (fun c => c[32]?) hc9).trans mk32); (have kc105 := (congrArg (fun c => c[105]?) hc9).trans mk105); (have kc106 := (congrArg (fun c => c[106]?) hc9).trans mk106); (have kc117 := (congrArg (fun c => c[117]?) hc9).trans mk117); (have kc187 := (congrArg (fun c => c[187]?) hc9).trans mk187); (have kc104 := (congrArg (fun c => c[104]?) hc9).trans mk104); (have kc66 := (congrArg (fun c => c[66]?) hc9).trans mk66); (have kc97 := (congrArg (fun c => c[97]?) hc9).trans mk97); (have kc95 := (congrArg (fun c => c[95]?) hc9).trans mk95); (have kc96 := (congrArg (fun c => c[96]?) hc9).trans mk96); (have kc338 := (congrArg (fun c => c[338]?) hc9).trans mk338); have HC9 := Lib.hid hc9; clear hc9); (try simp only [Act.put, List.setIfInBounds_toArray, List.set_cons_succ, List.set_cons_zero])))
  try with_reducible refine Own.Stay.mk ?_
  generalize hW : World.alloc _ _ = W2
  have hN : Own w0 W2 [row (w.heap.size + 1 + 1 + 1 + 1) 25 #[.int .u32 0, .int .u32 0], row (w.heap.size + 1 + 1 + 1) 203 #[.pointer none, .pointer none, .slice none 0 0, .map none, .slice none 0 0, .slice none 0 0, .int .i32 0, .int .i32 0, .int .u32 0, .int .u32 0, .bool false, .bool false, .bool false, .bool false, .int .u8 0, .int .u8 6], ((w.heap.size + 1 + 1, .map #[] 0) : Rw), row (w.heap.size + 1) 193 ((((((((c9.setIfInBounds 106 (.slice (some ⟨sb, 0, none⟩) 1 1)).setIfInBounds 117 (.map (some (w.heap.size + 1 + 1)))).setIfInBounds 187 (.pointer (some ⟨w.heap.size + 1 + 1 + 1, 0, none⟩))).setIfInBounds 104 (.pointer (some ⟨w.heap.size + 1 + 1 + 1, 0, none⟩))).setIfInBounds 97 (.pointer (some ⟨w.heap.size + 1 + 1 + 1 + 1, 0, none⟩))).setIfInBounds 96 (.bool s)).setIfInBounds 95 (.bool r)).setIfInBounds 338 (.bool l)), row (w.heap.size) 25 #[.int .u32 0, .int .u32 0]] X := by
    rw [← hW]
    exact (((((hO).alloc' _ (w.heap.size) (by simp)).alloc' _ (w.heap.size + 1) (by simp)).alloc' _ (w.heap.size + 1 + 1) (by simp)).alloc' _ (w.heap.size + 1 + 1 + 1) (by simp)).alloc' _ (w.heap.size + 1 + 1 + 1 + 1) (by simp)
  clear hW hO
  generalize w.heap.size + 1 + 1 + 1 + 1 = B1_4 at hN ⊢
  generalize w.heap.size + 1 + 1 + 1 = B1_3 at hN ⊢
  generalize w.heap.size + 1 + 1 = B1_2 at hN ⊢
  generalize w.heap.size + 1 = B1_1 at hN ⊢
  generalize w.heap.size = B1 at hN ⊢
  have hO := hN
  clear hN
  have hN : Own w0 W2 [row (B1_4) 25 #[.int .u32 0, .int .u32 0], row (B1_3) 203 #[.pointer none, .pointer none, .slice none 0 0, .map none, .slice none 0 0, .slice none 0 0, .int .i32 0, .int .i32 0, .int .u32 0, .int .u32 0, .bool false, .bool false, .bool false, .bool false, .int .u8 0, .int .u8 6], ((B1_2, .map #[] 0) : Rw), row (B1_1) 193 (newSrslP r s l sb B1_2 B1_3 B1_4), row (B1) 25 #[.int .u32 0, .int .u32 0]] X := hO.conv (by rw [HC9.out]; rfl)
  clear hO
  have hO := hN
  clear hN
  refine bodyPost_ret (v := .pointer (some ⟨B1_1, 0, none⟩)) ?_ rfl ⟨B1_1, B1_2, B1_3, B1_4, rfl, hO.sub [3, 2, 1, 0] (by decide)⟩
  simp [results, Tryd.results9, go_sem]
end Go.Proofs.YtkhmjppfogppoaaDoor.Use
