/- The laws' parsers, made. No condition. -/
import Derived.Test.YtghofdhhhbbaaaaGreatDoorIts
import Derived.Test.YtghofdhhhbbaaaaGreatDoorIfm
import Derived.Test.YtghofdhhhbbaaaaGreatDoorSla
import Derived.Test.YtghofdhhhbbaaaaGreatDoorLoop
import Derived.Test.YtghofdhhhbbaaaaGreatDoorMini
import Derived.Test.YtghofdhhhbbaaaaGreatDoorAppL
import Derived.Test.YtghofdhhhbbaaaaGreatDoorApp
import Derived.Test.YtghofdhhhbbaaaaGreatDoorOwnK
import Derived.Test.YtghofdhhhbbaaaaGreatDoorOwn
import Derived.Test.YtghofdhhhbbaaaaGreatDoorDeepCells
import Derived.Test.YtghofdhhhbbaaaaGreatDoorRows
import Derived.Test.YtghofdhhhbbaaaaGreatDoorLive
namespace Go.Proofs.YtghofdhhhbbaaaaGreatDoor.Use
open Go.ChangeShapes Go.WideShapes Go.ChangeAt Go.RowKit Go.Sort Own
set_option linter.unusedVariables false
theorem wpList_buildG8 {P : Program} {ops : Array Oper} {Q : Exit → Act → World → Prop} {rest : List Oper} {a : Act} {w : World} {d : Tmp} (t : TypeId) {ty : TypeId}
    {pos : String} {after : Array Edge} {l : List (Nat × Operand)} (hs : (P.built t (l.map fun x => (x.1, a.eval x.2))).isSome = true)
    (h : ∀ c : Array Value, c = Base.builtOf P t (l.map fun x => (x.1, a.eval x.2)) → wpList P ops Q rest (a.put (some d) (.agg c)) w) :
    wpList P ops Q ({ dst := some d, op := .build t l.toArray, type := ty, pos := pos, after := after, guard := none } :: rest) a w := Base.wpList_buildL t hs (h _ rfl)
noncomputable def newPar (sb ms mp : Nat) : Array Value := Base.builtOf Tryz.prog 182 [(9, .slice (some ⟨sb, 0, none⟩) 1 1), (20, .map (some mp)), (7, .pointer (some ⟨ms, 0, none⟩)), (58, .pointer (some ⟨ms, 0, none⟩))]
theorem mkS (sb ms mp : Nat) : (newPar sb ms mp).size = 353 := by kernel_rfl
theorem newPar_66 (sb ms mp : Nat) : (newPar sb ms mp)[66]? = some (.int .u32 0) := by kernel_rfl
theorem newPar_32 (sb ms mp : Nat) : (newPar sb ms mp)[32]? = some (.bool false) := by kernel_rfl
theorem newPar_350 (sb ms mp : Nat) : (newPar sb ms mp)[350]? = some (.bool false) := by kernel_rfl
theorem newPar_105 (sb ms mp : Nat) : (newPar sb ms mp)[105]? = some (.pointer none) := by kernel_rfl
theorem newPar_117 (sb ms mp : Nat) : (newPar sb ms mp)[117]? = some (.map (some mp)) := by kernel_rfl
theorem newPar_187 (sb ms mp : Nat) : (newPar sb ms mp)[187]? = some (.pointer (some ⟨ms, 0, none⟩)) := by kernel_rfl
theorem newPar_104 (sb ms mp : Nat) : (newPar sb ms mp)[104]? = some (.pointer (some ⟨ms, 0, none⟩)) := by kernel_rfl
theorem newPar_287 (sb ms mp : Nat) : (newPar sb ms mp)[287]? = some (.int .i64 0) := by kernel_rfl
theorem newPar_199 (sb ms mp : Nat) : (newPar sb ms mp)[199]? = some (.slice none 0 0) := by kernel_rfl
theorem newPar_106 (sb ms mp : Nat) : (newPar sb ms mp)[106]? = some (.slice (some ⟨sb, 0, none⟩) 1 1) := by kernel_rfl
theorem newPar_23 (sb ms mp : Nat) : (newPar sb ms mp)[23]? = some (.int .u64 0) := by kernel_rfl

def newP0Post  (w0 : World) (X : Nat → Obj → Prop) (e : Ending) (w' : World) : Prop :=
  ∃ pb : Nat, ∃ sb : Nat, ∃ ms : Nat, ∃ mp : Nat, e = .returned (.pointer (some ⟨pb, 0, none⟩)) ∧ Own w0 w' [row (pb) 182 (newPar sb ms mp), row (sb) 201 (full symZ (symL ([syk ⟨#[]⟩ 0])) 0), row (ms) 194 #[.pointer none, .pointer none, .slice none 0 0, .map none, .slice none 0 0, .slice none 0 0, .int .i32 0, .int .i32 0, .int .u32 0, .int .u32 0, .bool false, .bool false, .bool false, .bool false, .int .u8 0, .int .u8 6], ((mp, .map #[] 0) : Rw)] X
set_option maxRecDepth 100000 in
set_option maxHeartbeats 1000000 in
theorem newP0  (w0 w : World) (X : Nat → Obj → Prop) (hO : Own w0 w [] X) (hg0 : w0.cell? ⟨0, 0, none⟩ = some (.int .u32 4294967295)) (hg1 : w0.cell? ⟨0, 1, none⟩ = some (.int .u32 4294967295)) :
    Calls Tryz.prog 17 #[] w (newP0Post  w0 X) := by
  go_enter Tryz.func17, Tryz.ntmps17
  have hmm := fun w => run_makeMap (P := Tryz.prog) 138 w
  have gw9_0_0 : w.cell? ⟨0, 0, none⟩ = some (.int .u32 4294967295) := Base.cell_below hO.below (Base.block_of_cell hg0) hg0
  have gw9_0_1 : w.cell? ⟨0, 1, none⟩ = some (.int .u32 4294967295) := Base.cell_below hO.below (Base.block_of_cell hg1) hg1
  have gl9_0 : 0 < w.heap.size := Base.block_of_cell gw9_0_0
  go_wp2_with (first | (with_reducible refine Own.stay (fn := Tryz.f17) ?_) | ((with_reducible refine wpList_buildG8 182 (l := [(9, .tmp 6), (20, .tmp 7), (7, .tmp 8), (58, .tmp 9)]) ?_ ?_); kernel_rfl; (intro c9 hc9; simp only [List.map_cons, List.map_nil] at hc9; (have ks9 := (congrArg Array.size hc9).trans (mkS _ _ _)); (have kc66 := (congrArg (fun c => c[66]?) hc9).trans (newPar_66 _ _ _)); (have kc32 := (congrArg (fun c => c[32]?) hc9).trans (newPar_32 _ _ _)); (have kc350 := (congrArg (fun c => c[350]?) hc9).trans (newPar_350 _ _ _)); (have kc105 := (congrArg (fun c => c[105]?) hc9).trans (newPar_105 _ _ _)); (have kc117 := (congrArg (fun c => c[117]?) hc9).trans (newPar_117 _ _ _)); (have kc187 := (congrArg (fun c => c[187]?) hc9).trans (newPar_187 _ _ _)); (have kc104 := (congrArg (fun c => c[104]?) hc9).trans (newPar_104 _ _ _)); (have kc287 := (congrArg (fun c => c[287]?) hc9).trans (newPar_287 _ _ _)); (have kc199 := (congrArg (fun c => c[199]?) hc9).trans (newPar_199 _ _ _)); (have kc106 := (congrArg (fun c => c[106]?) hc9).trans (newPar_106 _ _ _)); (have kc23 := (congrArg (fun c => c[23]?) hc9).trans (newPar_23 _ _ _)); have HC9 := Lib.hid hc9; clear hc9); (try simp only [Act.put, List.setIfInBounds_toArray, List.set_cons_succ, List.set_cons_zero])))
  try with_reducible refine Own.Stay.mk ?_
  generalize hW : World.alloc _ _ = W2
  have hN : Own w0 W2 [row (w.heap.size + 1 + 1 + 1) 182 c9, ((w.heap.size + 1 + 1, .map #[] 0) : Rw), row (w.heap.size + 1) 201 #[.pointer none, .string ⟨#[]⟩, .int .u32 4294967295, .int .u32 4294967295, .int .u32 0, .int .u32 0, .int .u32 0, .int .u16 0, .int .u8 0, .int .u8 0], row (w.heap.size) 194 #[.pointer none, .pointer none, .slice none 0 0, .map none, .slice none 0 0, .slice none 0 0, .int .i32 0, .int .i32 0, .int .u32 0, .int .u32 0, .bool false, .bool false, .bool false, .bool false, .int .u8 0, .int .u8 6]] X := by
    rw [← hW]
    exact ((((hO).alloc' _ (w.heap.size) (by simp)).alloc' _ (w.heap.size + 1) (by simp)).alloc' _ (w.heap.size + 1 + 1) (by simp)).alloc' _ (w.heap.size + 1 + 1 + 1) (by simp)
  clear hW hO
  generalize w.heap.size + 1 + 1 + 1 = B1_3 at hN HC9 kc117  kc187  kc104  kc106 ⊢
  generalize w.heap.size + 1 + 1 = B1_2 at hN HC9 kc117  kc187  kc104  kc106 ⊢
  generalize w.heap.size + 1 = B1_1 at hN HC9 kc117  kc187  kc104  kc106 ⊢
  generalize w.heap.size = B1 at hN HC9 kc117  kc187  kc104  kc106 ⊢
  have hO := hN
  clear hN
  have hN : Own w0 W2 [row (B1_3) 182 (newPar B1_1 B1 B1_2), ((B1_2, .map #[] 0) : Rw), row (B1_1) 201 (full symZ (symL [syk ⟨#[]⟩ 0]) 0), row (B1) 194 #[.pointer none, .pointer none, .slice none 0 0, .map none, .slice none 0 0, .slice none 0 0, .int .i32 0, .int .i32 0, .int .u32 0, .int .u32 0, .bool false, .bool false, .bool false, .bool false, .int .u8 0, .int .u8 6]] X := hO.conv (by rw [HC9.out, full_nil]; rfl)
  clear hO
  have hO := hN
  clear hN
  refine bodyPost_ret (v := .pointer (some ⟨B1_3, 0, none⟩)) ?_ rfl ⟨B1_3, B1_1, B1, B1_2, rfl, hO.sub [0, 2, 3, 1] (by decide)⟩
  simp [results, Tryz.results17, go_sem]
def newP1Post  (w0 : World) (X : Nat → Obj → Prop) (e : Ending) (w' : World) : Prop :=
  ∃ pb : Nat, ∃ sb : Nat, ∃ ms : Nat, ∃ mp : Nat, e = .returned (.pointer (some ⟨pb, 0, none⟩)) ∧ Own w0 w' [row (pb) 182 ((newPar sb ms mp).setIfInBounds 23 (.int .u64 35184372088832)), row (sb) 201 (full symZ (symL ([syk ⟨#[]⟩ 0])) 0), row (ms) 194 #[.pointer none, .pointer none, .slice none 0 0, .map none, .slice none 0 0, .slice none 0 0, .int .i32 0, .int .i32 0, .int .u32 0, .int .u32 0, .bool false, .bool false, .bool false, .bool false, .int .u8 0, .int .u8 6], ((mp, .map #[] 0) : Rw)] X
set_option maxRecDepth 100000 in
set_option maxHeartbeats 1000000 in
theorem newP1  (w0 w : World) (X : Nat → Obj → Prop) (hO : Own w0 w [] X) (hg0 : w0.cell? ⟨0, 0, none⟩ = some (.int .u32 4294967295)) (hg1 : w0.cell? ⟨0, 1, none⟩ = some (.int .u32 4294967295)) :
    Calls Tryz.prog 16 #[] w (newP1Post  w0 X) := by
  go_enter Tryz.func16, Tryz.ntmps16
  have hmm := fun w => run_makeMap (P := Tryz.prog) 138 w
  have gw9_0_0 : w.cell? ⟨0, 0, none⟩ = some (.int .u32 4294967295) := Base.cell_below hO.below (Base.block_of_cell hg0) hg0
  have gw9_0_1 : w.cell? ⟨0, 1, none⟩ = some (.int .u32 4294967295) := Base.cell_below hO.below (Base.block_of_cell hg1) hg1
  have gl9_0 : 0 < w.heap.size := Base.block_of_cell gw9_0_0
  go_wp2_with (first | (with_reducible refine Own.stay (fn := Tryz.f16) ?_) | ((with_reducible refine wpList_buildG8 182 (l := [(9, .tmp 7), (20, .tmp 8), (7, .tmp 9), (58, .tmp 10)]) ?_ ?_); kernel_rfl; (intro c9 hc9; simp only [List.map_cons, List.map_nil] at hc9; (have ks9 := (congrArg Array.size hc9).trans (mkS _ _ _)); (have kc66 := (congrArg (fun c => c[66]?) hc9).trans (newPar_66 _ _ _)); (have kc32 := (congrArg (fun c => c[32]?) hc9).trans (newPar_32 _ _ _)); (have kc350 := (congrArg (fun c => c[350]?) hc9).trans (newPar_350 _ _ _)); (have kc105 := (congrArg (fun c => c[105]?) hc9).trans (newPar_105 _ _ _)); (have kc117 := (congrArg (fun c => c[117]?) hc9).trans (newPar_117 _ _ _)); (have kc187 := (congrArg (fun c => c[187]?) hc9).trans (newPar_187 _ _ _)); (have kc104 := (congrArg (fun c => c[104]?) hc9).trans (newPar_104 _ _ _)); (have kc287 := (congrArg (fun c => c[287]?) hc9).trans (newPar_287 _ _ _)); (have kc199 := (congrArg (fun c => c[199]?) hc9).trans (newPar_199 _ _ _)); (have kc106 := (congrArg (fun c => c[106]?) hc9).trans (newPar_106 _ _ _)); (have kc23 := (congrArg (fun c => c[23]?) hc9).trans (newPar_23 _ _ _)); have HC9 := Lib.hid hc9; clear hc9); (try simp only [Act.put, List.setIfInBounds_toArray, List.set_cons_succ, List.set_cons_zero])))
  try with_reducible refine Own.Stay.mk ?_
  generalize hW : World.alloc _ _ = W2
  have hN : Own w0 W2 [row (w.heap.size + 1 + 1 + 1) 182 (c9.setIfInBounds 23 (.int .u64 35184372088832)), ((w.heap.size + 1 + 1, .map #[] 0) : Rw), row (w.heap.size + 1) 201 #[.pointer none, .string ⟨#[]⟩, .int .u32 4294967295, .int .u32 4294967295, .int .u32 0, .int .u32 0, .int .u32 0, .int .u16 0, .int .u8 0, .int .u8 0], row (w.heap.size) 194 #[.pointer none, .pointer none, .slice none 0 0, .map none, .slice none 0 0, .slice none 0 0, .int .i32 0, .int .i32 0, .int .u32 0, .int .u32 0, .bool false, .bool false, .bool false, .bool false, .int .u8 0, .int .u8 6]] X := by
    rw [← hW]
    exact ((((hO).alloc' _ (w.heap.size) (by simp)).alloc' _ (w.heap.size + 1) (by simp)).alloc' _ (w.heap.size + 1 + 1) (by simp)).alloc' _ (w.heap.size + 1 + 1 + 1) (by simp)
  clear hW hO
  generalize w.heap.size + 1 + 1 + 1 = B1_3 at hN HC9 kc117  kc187  kc104  kc106 ⊢
  generalize w.heap.size + 1 + 1 = B1_2 at hN HC9 kc117  kc187  kc104  kc106 ⊢
  generalize w.heap.size + 1 = B1_1 at hN HC9 kc117  kc187  kc104  kc106 ⊢
  generalize w.heap.size = B1 at hN HC9 kc117  kc187  kc104  kc106 ⊢
  have hO := hN
  clear hN
  have hN : Own w0 W2 [row (B1_3) 182 ((newPar B1_1 B1 B1_2).setIfInBounds 23 (.int .u64 35184372088832)), ((B1_2, .map #[] 0) : Rw), row (B1_1) 201 (full symZ (symL [syk ⟨#[]⟩ 0]) 0), row (B1) 194 #[.pointer none, .pointer none, .slice none 0 0, .map none, .slice none 0 0, .slice none 0 0, .int .i32 0, .int .i32 0, .int .u32 0, .int .u32 0, .bool false, .bool false, .bool false, .bool false, .int .u8 0, .int .u8 6]] X := hO.conv (by rw [HC9.out, full_nil]; rfl)
  clear hO
  have hO := hN
  clear hN
  refine bodyPost_ret (v := .pointer (some ⟨B1_3, 0, none⟩)) ?_ rfl ⟨B1_3, B1_1, B1, B1_2, rfl, hO.sub [0, 2, 3, 1] (by decide)⟩
  simp [results, Tryz.results16, go_sem]
end Go.Proofs.YtghofdhhhbbaaaaGreatDoor.Use
