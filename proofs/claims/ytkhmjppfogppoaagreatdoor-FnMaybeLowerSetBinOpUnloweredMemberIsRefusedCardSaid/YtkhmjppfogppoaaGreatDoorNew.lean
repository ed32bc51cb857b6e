/- The laws' parser, made. No condition. -/
import Derived.Test.YtkhmjppfogppoaaGreatDoorOwnK
import Derived.Test.YtkhmjppfogppoaaGreatDoorOwn
import Derived.Test.YtkhmjppfogppoaaGreatDoorDeepCells
import Derived.Test.YtkhmjppfogppoaaGreatDoorRows
namespace Go.Proofs.YtkhmjppfogppoaaGreatDoor.Use
open Go.ChangeShapes Go.WideShapes Go.ChangeAt Go.RowKit Go.Sort Own
set_option linter.unusedVariables false
theorem wpList_buildG {P : Program} {ops : Array Oper} {Q : Exit → Act → World → Prop} {rest : List Oper} {a : Act} {w : World} {d : Tmp} (t : TypeId) {ty : TypeId}
    {pos : String} {after : Array Edge} {l : List (Nat × Operand)} (hs : (P.built t (l.map fun x => (x.1, a.eval x.2))).isSome = true)
    (h : ∀ c : Array Value, c = Base.builtOf P t (l.map fun x => (x.1, a.eval x.2)) → wpList P ops Q rest (a.put (some d) (.agg c)) w) :
    wpList P ops Q ({ dst := some d, op := .build t l.toArray, type := ty, pos := pos, after := after, guard := none } :: rest) a w := Base.wpList_buildL t hs (h _ rfl)
theorem mk23 : (Base.builtOf Tryz.prog 188 [])[23]? = some (.int .u64 0) := by kernel_rfl
theorem mk333 : (Base.builtOf Tryz.prog 188 [])[333]? = some (.bool false) := by kernel_rfl
theorem mk338 : (Base.builtOf Tryz.prog 188 [])[338]? = some (.bool false) := by kernel_rfl
theorem mk106 : (Base.builtOf Tryz.prog 188 [])[106]? = some (.slice none 0 0) := by kernel_rfl
def new42Post (x : Int) (g l : Bool) (w0 : World) (X : Nat → Obj → Prop) (e : Ending) (w' : World) : Prop :=
  ∃ pb : Nat, ∃ PC : Array Value, e = .returned (.pointer (some ⟨pb, 0, none⟩)) ∧ PC[338]? = some (.bool l) ∧ PC[106]? = some (.slice none 0 0) ∧ Own w0 w' [row (pb) 188 PC] X
set_option maxRecDepth 100000 in
set_option maxHeartbeats 1000000 in
theorem new42 (x : Int) (g l : Bool) (w0 w : World) (X : Nat → Obj → Prop) (hO : Own w0 w [] X)  :
    Calls Tryz.prog 6 #[.int .u64 x, .bool g, .bool l] w (new42Post x g l w0 X) := by
  go_enter Tryz.func6, Tryz.ntmps6
  go_wp2_with ((with_reducible refine wpList_buildG 188 (l := []) ?_ ?_); kernel_rfl; (intro c9 hc9; (have kc23 := (congrArg (fun c => c[23]?) hc9).trans mk23); (have kc333 := (congrArg (fun c => c[333]?) hc9).trans mk333); (have kc338 := (congrArg (fun c => c[338]?) hc9).trans mk338); (have kc106 := (congrArg (fun c => c[106]?) hc9).trans mk106); clear hc9); (try simp only [Act.put, List.setIfInBounds_toArray, List.set_cons_succ, List.set_cons_zero]))
  generalize hW : World.alloc _ _ = W2
  have hN : Own w0 W2 [row (w.heap.size) 188 (((c9.setIfInBounds 23 (.int .u64 x)).setIfInBounds 333 (.bool g)).setIfInBounds 338 (.bool l))] X := by
    rw [← hW]
    exact (hO).alloc' _ (w.heap.size) (by simp)
  clear hW hO
  generalize w.heap.size = B1 at hN ⊢
  have hO := hN
  clear hN
  refine bodyPost_ret (v := .pointer (some ⟨B1, 0, none⟩)) ?_ rfl ⟨B1, ((c9.setIfInBounds 23 (.int .u64 x)).setIfInBounds 333 (.bool g)).setIfInBounds 338 (.bool l), rfl, (get_set (get_other (get_other kc338 (by omega) _) (by omega) _) _), (get_other (get_other (get_other kc106 (by omega) _) (by omega) _) (by omega) _), hO.sub [0] (by decide)⟩
  simp [results, Tryz.results6, go_sem]
end Go.Proofs.YtkhmjppfogppoaaGreatDoor.Use
