/- The laws' parser, made. No condition. -/
import Derived.Test.YtikopplofkemlaaDoorUmp
import Derived.Test.YtikopplofkemlaaDoorLive
import Derived.Test.YtikopplofkemlaaDoorLoop
import Derived.Test.YtikopplofkemlaaDoorUms
import Derived.Test.YtikopplofkemlaaDoorAppL
import Derived.Test.YtikopplofkemlaaDoorApp
import Derived.Test.YtikopplofkemlaaDoorOwnK
import Derived.Test.YtikopplofkemlaaDoorOwn
import Derived.Test.YtikopplofkemlaaDoorDeepCells
import Derived.Test.YtikopplofkemlaaDoorRows
import Derived.Test.YtikopplofkemlaaDoorUse
namespace Go.Proofs.YtikopplofkemlaaDoor.Use
open Go.ChangeShapes Go.WideShapes Go.ChangeAt Go.RowKit Go.Sort Own
set_option linter.unusedVariables false
def nosy : List Sy := []
theorem wpList_buildG {P : Program} {ops : Array Oper} {Q : Exit → Act → World → Prop} {rest : List Oper} {a : Act} {w : World} {d : Tmp} (t : TypeId) {ty : TypeId}
    {pos : String} {after : Array Edge} {l : List (Nat × Operand)} (hs : (P.built t (l.map fun x => (x.1, a.eval x.2))).isSome = true)
    (h : ∀ c : Array Value, c = Base.builtOf P t (l.map fun x => (x.1, a.eval x.2)) → wpList P ops Q rest (a.put (some d) (.agg c)) w) :
    wpList P ops Q ({ dst := some d, op := .build t l.toArray, type := ty, pos := pos, after := after, guard := none } :: rest) a w := Base.wpList_buildL t hs (h _ rfl)
theorem makeNone (w : World) : (Instr.makeSlice 199 (.int .i64 0) (.int .i64 0)).run Tryd.prog w = .ok (.slice (some ⟨w.heap.size, 0, none⟩) 0 0) (w.alloc (.cells (full symZ [] 0) 260)) := by
  obtain ⟨i, hi, z1, z2, z3⟩ := info_parts infoSym
  exact run_mk_full w 199 260 i (.agg symZ) 10 48 Tryd.underlying199 hi z1 z2 z3 rfl .i64 .i64 0 0 (Nat.le_refl _) (by omega) (by omega)
theorem mkS (sb cs ms pt mp : Nat) : (Base.builtOf Tryd.prog 252 [(9, .slice (some ⟨sb, 0, none⟩) 0 0), (7, .pointer (some ⟨cs, 0, none⟩)), (58, .pointer (some ⟨ms, 0, none⟩)), (8, .pointer (some ⟨pt, 0, none⟩)), (20, .map (some mp)), (110, .bool false)]).size = 353 := by kernel_rfl
theorem mk350 (sb cs ms pt mp : Nat) : (Base.builtOf Tryd.prog 252 [(9, .slice (some ⟨sb, 0, none⟩) 0 0), (7, .pointer (some ⟨cs, 0, none⟩)), (58, .pointer (some ⟨ms, 0, none⟩)), (8, .pointer (some ⟨pt, 0, none⟩)), (20, .map (some mp)), (110, .bool false)])[350]? = some (.bool false) := by kernel_rfl
theorem mk32 (sb cs ms pt mp : Nat) : (Base.builtOf Tryd.prog 252 [(9, .slice (some ⟨sb, 0, none⟩) 0 0), (7, .pointer (some ⟨cs, 0, none⟩)), (58, .pointer (some ⟨ms, 0, none⟩)), (8, .pointer (some ⟨pt, 0, none⟩)), (20, .map (some mp)), (110, .bool false)])[32]? = some (.bool false) := by kernel_rfl
theorem mk105 (sb cs ms pt mp : Nat) : (Base.builtOf Tryd.prog 252 [(9, .slice (some ⟨sb, 0, none⟩) 0 0), (7, .pointer (some ⟨cs, 0, none⟩)), (58, .pointer (some ⟨ms, 0, none⟩)), (8, .pointer (some ⟨pt, 0, none⟩)), (20, .map (some mp)), (110, .bool false)])[105]? = some (.pointer (some ⟨pt, 0, none⟩)) := by kernel_rfl
theorem mk117 (sb cs ms pt mp : Nat) : (Base.builtOf Tryd.prog 252 [(9, .slice (some ⟨sb, 0, none⟩) 0 0), (7, .pointer (some ⟨cs, 0, none⟩)), (58, .pointer (some ⟨ms, 0, none⟩)), (8, .pointer (some ⟨pt, 0, none⟩)), (20, .map (some mp)), (110, .bool false)])[117]? = some (.map (some mp)) := by kernel_rfl
theorem mk187 (sb cs ms pt mp : Nat) : (Base.builtOf Tryd.prog 252 [(9, .slice (some ⟨sb, 0, none⟩) 0 0), (7, .pointer (some ⟨cs, 0, none⟩)), (58, .pointer (some ⟨ms, 0, none⟩)), (8, .pointer (some ⟨pt, 0, none⟩)), (20, .map (some mp)), (110, .bool false)])[187]? = some (.pointer (some ⟨ms, 0, none⟩)) := by kernel_rfl
theorem mk66 (sb cs ms pt mp : Nat) : (Base.builtOf Tryd.prog 252 [(9, .slice (some ⟨sb, 0, none⟩) 0 0), (7, .pointer (some ⟨cs, 0, none⟩)), (58, .pointer (some ⟨ms, 0, none⟩)), (8, .pointer (some ⟨pt, 0, none⟩)), (20, .map (some mp)), (110, .bool false)])[66]? = some (.int .u32 0) := by kernel_rfl
theorem mk104 (sb cs ms pt mp : Nat) : (Base.builtOf Tryd.prog 252 [(9, .slice (some ⟨sb, 0, none⟩) 0 0), (7, .pointer (some ⟨cs, 0, none⟩)), (58, .pointer (some ⟨ms, 0, none⟩)), (8, .pointer (some ⟨pt, 0, none⟩)), (20, .map (some mp)), (110, .bool false)])[104]? = some (.pointer (some ⟨cs, 0, none⟩)) := by kernel_rfl
theorem mk333 (sb cs ms pt mp : Nat) : (Base.builtOf Tryd.prog 252 [(9, .slice (some ⟨sb, 0, none⟩) 0 0), (7, .pointer (some ⟨cs, 0, none⟩)), (58, .pointer (some ⟨ms, 0, none⟩)), (8, .pointer (some ⟨pt, 0, none⟩)), (20, .map (some mp)), (110, .bool false)])[333]? = some (.bool false) := by kernel_rfl
theorem mk23 (sb cs ms pt mp : Nat) : (Base.builtOf Tryd.prog 252 [(9, .slice (some ⟨sb, 0, none⟩) 0 0), (7, .pointer (some ⟨cs, 0, none⟩)), (58, .pointer (some ⟨ms, 0, none⟩)), (8, .pointer (some ⟨pt, 0, none⟩)), (20, .map (some mp)), (110, .bool false)])[23]? = some (.int .u64 0) := by kernel_rfl
theorem mk34 (sb cs ms pt mp : Nat) : (Base.builtOf Tryd.prog 252 [(9, .slice (some ⟨sb, 0, none⟩) 0 0), (7, .pointer (some ⟨cs, 0, none⟩)), (58, .pointer (some ⟨ms, 0, none⟩)), (8, .pointer (some ⟨pt, 0, none⟩)), (20, .map (some mp)), (110, .bool false)])[34]? = some (.int .u8 0) := by kernel_rfl
theorem mk352 (sb cs ms pt mp : Nat) : (Base.builtOf Tryd.prog 252 [(9, .slice (some ⟨sb, 0, none⟩) 0 0), (7, .pointer (some ⟨cs, 0, none⟩)), (58, .pointer (some ⟨ms, 0, none⟩)), (8, .pointer (some ⟨pt, 0, none⟩)), (20, .map (some mp)), (110, .bool false)])[352]? = some (.bool false) := by kernel_rfl
theorem mk106 (sb cs ms pt mp : Nat) : (Base.builtOf Tryd.prog 252 [(9, .slice (some ⟨sb, 0, none⟩) 0 0), (7, .pointer (some ⟨cs, 0, none⟩)), (58, .pointer (some ⟨ms, 0, none⟩)), (8, .pointer (some ⟨pt, 0, none⟩)), (20, .map (some mp)), (110, .bool false)])[106]? = some (.slice (some ⟨sb, 0, none⟩) 0 (0 + 0)) := by kernel_rfl
theorem mk41 (sb cs ms pt mp : Nat) : (Base.builtOf Tryd.prog 252 [(9, .slice (some ⟨sb, 0, none⟩) 0 0), (7, .pointer (some ⟨cs, 0, none⟩)), (58, .pointer (some ⟨ms, 0, none⟩)), (8, .pointer (some ⟨pt, 0, none⟩)), (20, .map (some mp)), (110, .bool false)])[41]? = some (.bool false) := by kernel_rfl
noncomputable def newPar (sb cs ms pt mp : Nat) : Array Value := ((((Base.builtOf Tryd.prog 252 [(9, .slice (some ⟨sb, 0, none⟩) 0 0), (7, .pointer (some ⟨cs, 0, none⟩)), (58, .pointer (some ⟨ms, 0, none⟩)), (8, .pointer (some ⟨pt, 0, none⟩)), (20, .map (some mp)), (110, .bool false)]).setIfInBounds 66 (.int .u32 0)).setIfInBounds 23 (.int .u64 0)).setIfInBounds 34 (.int .u8 0)).setIfInBounds 41 (.bool false)
theorem newPar_350 (sb cs ms pt mp : Nat) : (newPar sb cs ms pt mp)[350]? = some (.bool false) := by kernel_rfl
theorem newPar_32 (sb cs ms pt mp : Nat) : (newPar sb cs ms pt mp)[32]? = some (.bool false) := by kernel_rfl
theorem newPar_105 (sb cs ms pt mp : Nat) : (newPar sb cs ms pt mp)[105]? = some (.pointer (some ⟨pt, 0, none⟩)) := by kernel_rfl
theorem newPar_117 (sb cs ms pt mp : Nat) : (newPar sb cs ms pt mp)[117]? = some (.map (some mp)) := by kernel_rfl
theorem newPar_187 (sb cs ms pt mp : Nat) : (newPar sb cs ms pt mp)[187]? = some (.pointer (some ⟨ms, 0, none⟩)) := by kernel_rfl
theorem newPar_66 (sb cs ms pt mp : Nat) : (newPar sb cs ms pt mp)[66]? = some (.int .u32 0) := by kernel_rfl
theorem newPar_104 (sb cs ms pt mp : Nat) : (newPar sb cs ms pt mp)[104]? = some (.pointer (some ⟨cs, 0, none⟩)) := by kernel_rfl
theorem newPar_333 (sb cs ms pt mp : Nat) : (newPar sb cs ms pt mp)[333]? = some (.bool false) := by kernel_rfl
theorem newPar_23 (sb cs ms pt mp : Nat) : (newPar sb cs ms pt mp)[23]? = some (.int .u64 0) := by kernel_rfl
theorem newPar_34 (sb cs ms pt mp : Nat) : (newPar sb cs ms pt mp)[34]? = some (.int .u8 0) := by kernel_rfl
theorem newPar_352 (sb cs ms pt mp : Nat) : (newPar sb cs ms pt mp)[352]? = some (.bool false) := by kernel_rfl
theorem newPar_106 (sb cs ms pt mp : Nat) : (newPar sb cs ms pt mp)[106]? = some (.slice (some ⟨sb, 0, none⟩) 0 (0 + 0)) := by kernel_rfl

def newPPost (cs ms : Nat) (w0 : World) (X : Nat → Obj → Prop) (e : Ending) (w' : World) : Prop :=
  ∃ pb : Nat, ∃ sb : Nat, ∃ pt : Nat, ∃ mu : Nat, ∃ mp : Nat, e = .returned (.pointer (some ⟨pb, 0, none⟩)) ∧ Own w0 w' [row (pb) 252 (newPar sb cs ms pt mp), row (sb) 260 (full symZ (symL nosy) 0), row (pt) 107 #[.slice none 0 0, .slice none 0 0, .slice none 0 0, .slice none 0 0, .map (some mu), .map none, .map none, .slice none 0 0, .bool false, .bool false, .bool false], ((mu, .map (uA ([])) (uN ([]))) : Rw), ((mp, .map #[] 0) : Rw)] X
set_option maxRecDepth 100000 in
set_option maxHeartbeats 1000000 in
theorem newP (cs ms : Nat) (w0 w : World) (X : Nat → Obj → Prop) (hO : Own w0 w [] X)  :
    Calls Tryd.prog 35 #[.int .u32 0, .int .i64 0, .int .u64 0, .int .u8 0, .bool false, .bool false, .pointer (some ⟨cs, 0, none⟩), .pointer (some ⟨ms, 0, none⟩)] w (newPPost cs ms w0 X) := by
  go_enter Tryd.func35, Tryd.ntmps35
  have hms := makeNone
  have hmm := fun w => run_makeMap (P := Tryd.prog) 210 w
  have hmu := fun w => run_makeMap (P := Tryd.prog) 102 w
  go_wp2_with (first | (with_reducible refine Own.stay (fn := Tryd.f35) ?_) | ((with_reducible refine wpList_buildG 252 (l := [(9, .tmp 19), (7, .tmp 20), (58, .tmp 21), (8, .tmp 24), (20, .tmp 25), (110, .tmp 26)]) ?_ ?_); kernel_rfl; (intro c9 hc9; simp only [List.map_cons, List.map_nil] at hc9; (have ks9 := (congrArg Array.size hc9).trans (mkS _ _ _ _ _)); (have kc66 := (congrArg (fun c => c[66]?) hc9).trans (mk66 _ _ _ _ _)); (have kc23 := (congrArg (fun c => c[23]?) hc9).trans (mk23 _ _ _ _ _)); (have kc34 := (congrArg (fun c => c[34]?) hc9).trans (mk34 _ _ _ _ _)); (have kc41 := (congrArg (fun c => c[41]?) hc9).trans (mk41 _ _ _ _ _)); have HC9 := Lib.hid hc9; clear hc9); (try simp only [Act.put, List.setIfInBounds_toArray, List.set_cons_succ, List.set_cons_zero])))
  try with_reducible refine Own.Stay.mk ?_
  generalize hW : World.alloc _ _ = W2
  have hN : Own w0 W2 [row (w.heap.size + 1 + 1 + 1 + 1) 252 ((((c9.setIfInBounds 66 (.int .u32 0)).setIfInBounds 23 (.int .u64 0)).setIfInBounds 34 (.int .u8 0)).setIfInBounds 41 (.bool false)), ((w.heap.size + 1 + 1 + 1, .map #[] 0) : Rw), row (w.heap.size + 1 + 1) 107 #[.slice none 0 0, .slice none 0 0, .slice none 0 0, .slice none 0 0, .map (some (w.heap.size + 1)), .map none, .map none, .slice none 0 0, .bool false, .bool false, .bool false], ((w.heap.size + 1, .map #[] 0) : Rw), row (w.heap.size) 260 (full symZ [] 0)] X := by
    rw [← hW]
    exact (((((hO).alloc' _ (w.heap.size) (by simp)).alloc' _ (w.heap.size + 1) (by simp)).alloc' _ (w.heap.size + 1 + 1) (by simp)).alloc' _ (w.heap.size + 1 + 1 + 1) (by simp)).alloc' _ (w.heap.size + 1 + 1 + 1 + 1) (by simp)
  clear hW hO
  generalize w.heap.size + 1 + 1 + 1 + 1 = B1_4 at hN HC9 ⊢
  generalize w.heap.size + 1 + 1 + 1 = B1_3 at hN HC9 ⊢
  generalize w.heap.size + 1 + 1 = B1_2 at hN HC9 ⊢
  generalize w.heap.size + 1 = B1_1 at hN HC9 ⊢
  generalize w.heap.size = B1 at hN HC9 ⊢
  have hO := hN
  clear hN
  have hN : Own w0 W2 [row (B1_4) 252 (newPar B1 cs ms B1_2 B1_3), ((B1_3, .map #[] 0) : Rw), row (B1_2) 107 #[.slice none 0 0, .slice none 0 0, .slice none 0 0, .slice none 0 0, .map (some (B1_1)), .map none, .map none, .slice none 0 0, .bool false, .bool false, .bool false], ((B1_1, .map (uA []) (uN [])) : Rw), row (B1) 260 (full symZ (symL nosy) 0)] X := hO.conv (by rw [HC9.out]; rfl)
  clear hO
  have hO := hN
  clear hN
  refine bodyPost_ret (v := .pointer (some ⟨B1_4, 0, none⟩)) ?_ rfl ⟨B1_4, B1, B1_2, B1_1, B1_3, rfl, hO.sub [0, 4, 2, 3, 1] (by decide)⟩
  simp [results, Tryd.results35, go_sem]
end Go.Proofs.YtikopplofkemlaaDoor.Use
