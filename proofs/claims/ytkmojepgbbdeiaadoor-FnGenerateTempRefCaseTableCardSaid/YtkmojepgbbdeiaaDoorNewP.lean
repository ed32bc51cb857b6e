/- The laws' parser, made. No condition. -/
import Derived.Test.YtkmojepgbbdeiaaDoorLoop
import Derived.Test.YtkmojepgbbdeiaaDoorAppL
import Derived.Test.YtkmojepgbbdeiaaDoorApp
import Derived.Test.YtkmojepgbbdeiaaDoorOwnK
import Derived.Test.YtkmojepgbbdeiaaDoorOwn
import Derived.Test.YtkmojepgbbdeiaaDoorDeepCells
import Derived.Test.YtkmojepgbbdeiaaDoorRows
import Derived.Test.YtkmojepgbbdeiaaDoorLive
namespace Go.Proofs.YtkmojepgbbdeiaaDoor.Use
open Go.ChangeShapes Go.WideShapes Go.ChangeAt Go.RowKit Go.Sort Own
set_option linter.unusedVariables false
def zSy : Sy := ⟨⟨#[]⟩, 0, 0, 0, 0, 0⟩
def zSys (n : Nat) : List Sy := List.replicate n zSy
def zU (n : Nat) : List Value := List.replicate n (.int .u32 0)
theorem zSys_length (n : Nat) : (zSys n).length = n := List.length_replicate
theorem zU_length (n : Nat) : (zU n).length = n := List.length_replicate
theorem made_syms (n : Nat) : full symZ [] n = full symZ (symL (zSys n)) 0 := by
  apply Array.ext'
  rw [full_empty, full_nil, List.toList_toArray]
  induction n with
  | zero => show _ = ([] : List Value); simp [Builtin.zeroCells]
  | succ n ih => rw [zeroCells_succ, ih]; rfl
theorem made_u32 (n : Nat) : full u32Z [] n = full u32Z (zU n) 0 := by
  apply Array.ext'
  rw [full_empty, full_nil, List.toList_toArray]
  induction n with
  | zero => show _ = ([] : List Value); simp [Builtin.zeroCells]
  | succ n ih => rw [zeroCells_succ, ih]; rfl
theorem makeSyms (n : Nat) (hn : n ≤ 1048576) (w : World) : (Instr.makeSlice 118 (.int .i64 (n : Int)) (.int .i64 (n : Int))).run Tryd.prog w = .ok (.slice (some ⟨w.heap.size, 0, none⟩) n n) (w.alloc (.cells (full symZ (symL (zSys n)) 0) 183)) := by
  obtain ⟨i, hi, z1, z2, z3⟩ := info_parts infoSym
  rw [← made_syms]
  exact run_mk_full w 118 183 i (.agg symZ) 10 48 Tryd.underlying118 hi z1 z2 z3 rfl .i64 .i64 n n (Nat.le_refl _) (by omega) (by omega)
theorem makeU32s (n : Nat) (hn : n ≤ 1048576) (w : World) : (Instr.makeSlice 122 (.int .i64 (n : Int)) (.int .i64 (n : Int))).run Tryd.prog w = .ok (.slice (some ⟨w.heap.size, 0, none⟩) n n) (w.alloc (.cells (full u32Z (zU n) 0) 22)) := by
  obtain ⟨i, hi, z1, z2, z3⟩ := info_parts infoU32
  rw [← made_u32]
  exact run_mk_full w 122 22 i (.int .u32 0) 1 4 Tryd.underlying122 hi z1 z2 z3 rfl .i64 .i64 n n (Nat.le_refl _) (by omega) (by omega)
theorem wpList_buildG {P : Program} {ops : Array Oper} {Q : Exit → Act → World → Prop} {rest : List Oper} {a : Act} {w : World} {d : Tmp} (t : TypeId) {ty : TypeId}
    {pos : String} {after : Array Edge} {l : List (Nat × Operand)} (hs : (P.built t (l.map fun x => (x.1, a.eval x.2))).isSome = true)
    (h : ∀ c : Array Value, c = Base.builtOf P t (l.map fun x => (x.1, a.eval x.2)) → wpList P ops Q rest (a.put (some d) (.agg c)) w) :
    wpList P ops Q ({ dst := some d, op := .build t l.toArray, type := ty, pos := pos, after := after, guard := none } :: rest) a w := Base.wpList_buildL t hs (h _ rfl)

theorem mkS : (Base.builtOf Tryd.prog 176 []).size = 353 := by kernel_rfl
theorem mk66 : (Base.builtOf Tryd.prog 176 [])[66]? = some (.int .u32 0) := by kernel_rfl
theorem mk32 : (Base.builtOf Tryd.prog 176 [])[32]? = some (.bool false) := by kernel_rfl
theorem mk106 : (Base.builtOf Tryd.prog 176 [])[106]? = some (.slice none 0 0) := by kernel_rfl
theorem mk108 : (Base.builtOf Tryd.prog 176 [])[108]? = some (.slice none 0 0) := by kernel_rfl
theorem mk104 : (Base.builtOf Tryd.prog 176 [])[104]? = some (.pointer none) := by kernel_rfl
theorem mk187 : (Base.builtOf Tryd.prog 176 [])[187]? = some (.pointer none) := by kernel_rfl
theorem mk200 : (Base.builtOf Tryd.prog 176 [])[200]? = some (.slice none 0 0) := by kernel_rfl
theorem mk288 : (Base.builtOf Tryd.prog 176 [])[288]? = some (.int .i64 0) := by kernel_rfl
theorem mk199 : (Base.builtOf Tryd.prog 176 [])[199]? = some (.slice none 0 0) := by kernel_rfl
theorem mk287 : (Base.builtOf Tryd.prog 176 [])[287]? = some (.int .i64 0) := by kernel_rfl
theorem mk198 : (Base.builtOf Tryd.prog 176 [])[198]? = some (.slice none 0 0) := by kernel_rfl

noncomputable def newPF (src : Int) (n sb tb cb ms : Nat) : Array Value := (((((Base.builtOf Tryd.prog 176 []).setIfInBounds 66 (.int .u32 src)).setIfInBounds 32 (.bool false)).setIfInBounds 106 (.slice (some ⟨sb, 0, none⟩) n n)).setIfInBounds 104 (.pointer (some ⟨cb, 0, none⟩))).setIfInBounds 187 (.pointer (some ⟨ms, 0, none⟩))
theorem newPF_66 (src : Int) (n sb tb cb ms : Nat) : (newPF src n sb tb cb ms)[66]? = some (.int .u32 src) := by kernel_rfl
theorem newPF_32 (src : Int) (n sb tb cb ms : Nat) : (newPF src n sb tb cb ms)[32]? = some (.bool false) := by kernel_rfl
theorem newPF_106 (src : Int) (n sb tb cb ms : Nat) : (newPF src n sb tb cb ms)[106]? = some (.slice (some ⟨sb, 0, none⟩) n n) := by kernel_rfl
theorem newPF_108 (src : Int) (n sb tb cb ms : Nat) : (newPF src n sb tb cb ms)[108]? = some (.slice none 0 0) := by kernel_rfl
theorem newPF_104 (src : Int) (n sb tb cb ms : Nat) : (newPF src n sb tb cb ms)[104]? = some (.pointer (some ⟨cb, 0, none⟩)) := by kernel_rfl
theorem newPF_187 (src : Int) (n sb tb cb ms : Nat) : (newPF src n sb tb cb ms)[187]? = some (.pointer (some ⟨ms, 0, none⟩)) := by kernel_rfl
theorem newPF_200 (src : Int) (n sb tb cb ms : Nat) : (newPF src n sb tb cb ms)[200]? = some (.slice none 0 0) := by kernel_rfl
theorem newPF_288 (src : Int) (n sb tb cb ms : Nat) : (newPF src n sb tb cb ms)[288]? = some (.int .i64 0) := by kernel_rfl
theorem newPF_199 (src : Int) (n sb tb cb ms : Nat) : (newPF src n sb tb cb ms)[199]? = some (.slice none 0 0) := by kernel_rfl
theorem newPF_287 (src : Int) (n sb tb cb ms : Nat) : (newPF src n sb tb cb ms)[287]? = some (.int .i64 0) := by kernel_rfl
theorem newPF_198 (src : Int) (n sb tb cb ms : Nat) : (newPF src n sb tb cb ms)[198]? = some (.slice none 0 0) := by kernel_rfl

def newPFOPost (src : Int) (n cb ms : Nat) (w0 : World) (X : Nat → Obj → Prop) (e : Ending) (w' : World) : Prop :=
  ∃ pb : Nat, ∃ sb : Nat, e = .returned (.pointer (some ⟨pb, 0, none⟩)) ∧ Own w0 w' [row (pb) 176 (newPF src n sb 0 cb ms), row (sb) 183 (full symZ (symL (zSys n)) 0)] X
set_option maxRecDepth 100000 in
set_option maxHeartbeats 1000000 in
theorem newPFO (src : Int) (n cb ms : Nat) (w0 w : World) (X : Nat → Obj → Prop) (hO : Own w0 w [] X) (hn5 : n ≤ 100000) :
    Calls Tryd.prog 6 #[.int .u32 src, .bool false, .int .i64 (n : Int), .pointer (some ⟨cb, 0, none⟩), .pointer (some ⟨ms, 0, none⟩)] w (newPFOPost src n cb ms w0 X) := by
  go_enter Tryd.func6, Tryd.ntmps6
  have hms := makeSyms n (by omega)
  have hmu := makeU32s n (by omega)
  go_wp2_with (first | (with_reducible refine Own.stay (fn := Tryd.f6) ?_) | ((with_reducible refine wpList_buildG 176 (l := []) ?_ ?_); kernel_rfl; (intro c9 hc9; (have ks9 := (congrArg Array.size hc9).trans mkS); (have kc66 := (congrArg (fun c => c[66]?) hc9).trans mk66); (have kc32 := (congrArg (fun c => c[32]?) hc9).trans mk32); (have kc106 := (congrArg (fun c => c[106]?) hc9).trans mk106); (have kc108 := (congrArg (fun c => c[108]?) hc9).trans mk108); (have kc104 := (congrArg (fun c => c[104]?) hc9).trans mk104); (have kc187 := (congrArg (fun c => c[187]?) hc9).trans mk187); (have kc200 := (congrArg (fun c => c[200]?) hc9).trans mk200); (have kc288 := (congrArg (fun c => c[288]?) hc9).trans mk288); (have kc199 := (congrArg (fun c => c[199]?) hc9).trans mk199); (have kc287 := (congrArg (fun c => c[287]?) hc9).trans mk287); (have kc198 := (congrArg (fun c => c[198]?) hc9).trans mk198); have HC9 := Lib.hid hc9; clear hc9); (try simp only [Act.put, List.setIfInBounds_toArray, List.set_cons_succ, List.set_cons_zero])))
  try with_reducible refine Own.Stay.mk ?_
  generalize hW : World.alloc _ _ = W2
  have hN : Own w0 W2 [row (w.heap.size + 1) 183 (full symZ (symL (zSys n)) 0), row (w.heap.size) 176 (((((c9.setIfInBounds 66 (.int .u32 src)).setIfInBounds 32 (.bool false)).setIfInBounds 106 (.slice (some ⟨w.heap.size + 1, 0, none⟩) n n)).setIfInBounds 104 (.pointer (some ⟨cb, 0, none⟩))).setIfInBounds 187 (.pointer (some ⟨ms, 0, none⟩)))] X := by
    rw [← hW]
    exact ((hO).alloc' _ (w.heap.size) (by simp)).alloc' _ (w.heap.size + 1) (by simp)
  clear hW hO
  generalize w.heap.size + 1 = B1_1 at hN ⊢
  generalize w.heap.size = B1 at hN ⊢
  have hO := hN
  clear hN
  have hN : Own w0 W2 [row (B1_1) 183 (full symZ (symL (zSys n)) 0), row (B1) 176 (newPF src n B1_1 0 cb ms)] X := hO.conv (by rw [HC9.out]; rfl)
  clear hO
  have hO := hN
  clear hN
  refine bodyPost_ret (v := .pointer (some ⟨B1, 0, none⟩)) ?_ rfl ⟨B1, B1_1, rfl, hO.sub [1, 0] (by decide)⟩
  simp [results, Tryd.results6, go_sem]
noncomputable def newPT (src : Int) (n sb tb cb ms : Nat) : Array Value := ((((((Base.builtOf Tryd.prog 176 []).setIfInBounds 66 (.int .u32 src)).setIfInBounds 32 (.bool true)).setIfInBounds 106 (.slice (some ⟨sb, 0, none⟩) n n)).setIfInBounds 108 (.slice (some ⟨tb, 0, none⟩) n n)).setIfInBounds 104 (.pointer (some ⟨cb, 0, none⟩))).setIfInBounds 187 (.pointer (some ⟨ms, 0, none⟩))
theorem newPT_66 (src : Int) (n sb tb cb ms : Nat) : (newPT src n sb tb cb ms)[66]? = some (.int .u32 src) := by kernel_rfl
theorem newPT_32 (src : Int) (n sb tb cb ms : Nat) : (newPT src n sb tb cb ms)[32]? = some (.bool true) := by kernel_rfl
theorem newPT_106 (src : Int) (n sb tb cb ms : Nat) : (newPT src n sb tb cb ms)[106]? = some (.slice (some ⟨sb, 0, none⟩) n n) := by kernel_rfl
theorem newPT_108 (src : Int) (n sb tb cb ms : Nat) : (newPT src n sb tb cb ms)[108]? = some (.slice (some ⟨tb, 0, none⟩) n n) := by kernel_rfl
theorem newPT_104 (src : Int) (n sb tb cb ms : Nat) : (newPT src n sb tb cb ms)[104]? = some (.pointer (some ⟨cb, 0, none⟩)) := by kernel_rfl
theorem newPT_187 (src : Int) (n sb tb cb ms : Nat) : (newPT src n sb tb cb ms)[187]? = some (.pointer (some ⟨ms, 0, none⟩)) := by kernel_rfl
theorem newPT_200 (src : Int) (n sb tb cb ms : Nat) : (newPT src n sb tb cb ms)[200]? = some (.slice none 0 0) := by kernel_rfl
theorem newPT_288 (src : Int) (n sb tb cb ms : Nat) : (newPT src n sb tb cb ms)[288]? = some (.int .i64 0) := by kernel_rfl
theorem newPT_199 (src : Int) (n sb tb cb ms : Nat) : (newPT src n sb tb cb ms)[199]? = some (.slice none 0 0) := by kernel_rfl
theorem newPT_287 (src : Int) (n sb tb cb ms : Nat) : (newPT src n sb tb cb ms)[287]? = some (.int .i64 0) := by kernel_rfl
theorem newPT_198 (src : Int) (n sb tb cb ms : Nat) : (newPT src n sb tb cb ms)[198]? = some (.slice none 0 0) := by kernel_rfl

def newPTOPost (src : Int) (n cb ms : Nat) (w0 : World) (X : Nat → Obj → Prop) (e : Ending) (w' : World) : Prop :=
  ∃ pb : Nat, ∃ sb : Nat, ∃ tb : Nat, e = .returned (.pointer (some ⟨pb, 0, none⟩)) ∧ Own w0 w' [row (pb) 176 (newPT src n sb tb cb ms), row (sb) 183 (full symZ (symL (zSys n)) 0), row (tb) 22 (full u32Z (zU n) 0)] X
set_option maxRecDepth 100000 in
set_option maxHeartbeats 1000000 in
theorem newPTO (src : Int) (n cb ms : Nat) (w0 w : World) (X : Nat → Obj → Prop) (hO : Own w0 w [] X) (hn5 : n ≤ 100000) :
    Calls Tryd.prog 6 #[.int .u32 src, .bool true, .int .i64 (n : Int), .pointer (some ⟨cb, 0, none⟩), .pointer (some ⟨ms, 0, none⟩)] w (newPTOPost src n cb ms w0 X) := by
  go_enter Tryd.func6, Tryd.ntmps6
  have hms := makeSyms n (by omega)
  have hmu := makeU32s n (by omega)
  go_wp2_with (first | (with_reducible refine Own.stay (fn := Tryd.f6) ?_) | ((with_reducible refine wpList_buildG 176 (l := []) ?_ ?_); kernel_rfl; (intro c9 hc9; (have ks9 := (congrArg Array.size hc9).trans mkS); (have kc66 := (congrArg (fun c => c[66]?) hc9).trans mk66); (have kc32 := (congrArg (fun c => c[32]?) hc9).trans mk32); (have kc106 := (congrArg (fun c => c[106]?) hc9).trans mk106); (have kc108 := (congrArg (fun c => c[108]?) hc9).trans mk108); (have kc104 := (congrArg (fun c => c[104]?) hc9).trans mk104); (have kc187 := (congrArg (fun c => c[187]?) hc9).trans mk187); (have kc200 := (congrArg (fun c => c[200]?) hc9).trans mk200); (have kc288 := (congrArg (fun c => c[288]?) hc9).trans mk288); (have kc199 := (congrArg (fun c => c[199]?) hc9).trans mk199); (have kc287 := (congrArg (fun c => c[287]?) hc9).trans mk287); (have kc198 := (congrArg (fun c => c[198]?) hc9).trans mk198); have HC9 := Lib.hid hc9; clear hc9); (try simp only [Act.put, List.setIfInBounds_toArray, List.set_cons_succ, List.set_cons_zero])))
  try with_reducible refine Own.Stay.mk ?_
  generalize hW : World.alloc _ _ = W2
  have hN : Own w0 W2 [row (w.heap.size + 1 + 1) 22 (full u32Z (zU n) 0), row (w.heap.size + 1) 183 (full symZ (symL (zSys n)) 0), row (w.heap.size) 176 ((((((c9.setIfInBounds 66 (.int .u32 src)).setIfInBounds 32 (.bool true)).setIfInBounds 106 (.slice (some ⟨w.heap.size + 1, 0, none⟩) n n)).setIfInBounds 108 (.slice (some ⟨w.heap.size + 1 + 1, 0, none⟩) n n)).setIfInBounds 104 (.pointer (some ⟨cb, 0, none⟩))).setIfInBounds 187 (.pointer (some ⟨ms, 0, none⟩)))] X := by
    rw [← hW]
    exact (((hO).alloc' _ (w.heap.size) (by simp)).alloc' _ (w.heap.size + 1) (by simp)).alloc' _ (w.heap.size + 1 + 1) (by simp)
  clear hW hO
  generalize w.heap.size + 1 + 1 = B1_2 at hN ⊢
  generalize w.heap.size + 1 = B1_1 at hN ⊢
  generalize w.heap.size = B1 at hN ⊢
  have hO := hN
  clear hN
  have hN : Own w0 W2 [row (B1_2) 22 (full u32Z (zU n) 0), row (B1_1) 183 (full symZ (symL (zSys n)) 0), row (B1) 176 (newPT src n B1_1 B1_2 cb ms)] X := hO.conv (by rw [HC9.out]; rfl)
  clear hO
  have hO := hN
  clear hN
  refine bodyPost_ret (v := .pointer (some ⟨B1, 0, none⟩)) ?_ rfl ⟨B1, B1_1, B1_2, rfl, hO.sub [2, 1, 0] (by decide)⟩
  simp [results, Tryd.results6, go_sem]
end Go.Proofs.YtkmojepgbbdeiaaDoor.Use
