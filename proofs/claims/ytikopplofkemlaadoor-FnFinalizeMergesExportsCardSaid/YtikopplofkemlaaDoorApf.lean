/- Several texts in one. No condition. -/
import Derived.Test.YtikopplofkemlaaDoorMsc
namespace Go.Proofs.YtikopplofkemlaaDoor.Use
open Go.ChangeShapes Go.WideShapes Go.ChangeAt Go.RowKit Go.Sort Own
set_option linter.unusedVariables false
/-- Declarations, told by number: their nodes and places. -/
def dtL (ad : Nat → Nat) (lc : Nat → Int) : Dt := ⟨fun _ => 3, ad, lc⟩
theorem range_set (n i : Nat) : (List.range n).set i i = List.range n := by
 apply List.ext_getElem?
 intro j
 by_cases h : j < n
 ·rw [List.getElem?_set]
  split
  ·rename_i hij
   subst hij
   simp [h]
  ·rfl
 ·simp [h]
section
variable {P : Program} {ops : Array Oper} {rest : List Oper} {w0 w : World} {X : Nat → Obj → Prop}
end

end Go.Proofs.YtikopplofkemlaaDoor.Use
namespace Go.Proofs.YtikopplofkemlaaDoor.Use
open Go.ChangeShapes Go.WideShapes Go.ChangeAt Go.RowKit Go.Sort Own
set_option linter.unusedVariables false
@[go_sem] theorem run_typeAssert_sure {P : Program} (w : World) (t xT : TypeId) (v : Value) (hu : Base.isPtr (P.underlying t) = true) : (Instr.typeAssert (.iface t v) xT t false).run P w = .ok v w := by
 obtain ⟨e, he⟩ := Base.isPtr_inv hu
 simp [Instr.typeAssert, run_underlying he]
end Go.Proofs.YtikopplofkemlaaDoor.Use
namespace Go.Proofs.YtikopplofkemlaaDoor.Use
open Go.ChangeShapes Go.WideShapes Go.ChangeAt Go.RowKit Go.Sort Own
set_option linter.unusedVariables false
def newSymDPost (pb : Nat) (PC : Array Value) (sb c : Nat) (st : List Sy) (n : Nat) (src : Int) (nm : ByteArray) (w0 : World) (X : Nat → Obj → Prop) (e : Ending) (w' : World) : Prop :=
 ∃ sb2 : Nat, ∃ c2 : Nat, e = .returned (.agg #[vU src, vU (n : Int)]) ∧ Own w0 w' [row (pb) 252 (PC.setIfInBounds 106 (vS sb2 (n + 1) (n + 1 + c2))), row (sb2) 260 (full symZ (symL (st ++ [syk nm 27])) c2)] X
set_option maxRecDepth 100000 in
set_option maxHeartbeats 1000000 in
theorem newSymD (pb : Nat) (PC : Array Value) (sb c : Nat) (st : List Sy) (n : Nat) (src : Int) (nm : ByteArray) (w0 w : World) (X : Nat → Obj → Prop) (hO : Own w0 w [row (pb) 252 PC, row (sb) 260 (full symZ (symL st) c)] X) (hk66 : PC[66]? = some (vU src)) (hk32 : PC[32]? = some (bF)) (hk106 : PC[106]? = some (vS sb n (n + c))) (hn : st.length = n) (hnb : n ≤ 2000000) (hg0 : w0.cell? ⟨0, 0, none⟩ = some (vU 4294967295)) (hg1 : w0.cell? ⟨0, 1, none⟩ = some (vU 4294967295)) :
  Calls Tryd.prog 11 #[vP pb, .string nm] w (newSymDPost pb PC sb c st n src nm w0 X) := by
 go_enter Tryd.func11, Tryd.ntmps11
 go_wp2_with (first | (with_reducible refine Own.stay (fn := Tryd.f11) ?_) | fail)
 try with_reducible refine Own.Stay.mk ?_
 generalize hW : World.alloc _ _ = W2
 have hN : Own w0 W2 [row (w.heap.size) 31 #[vU 0, vU 0], row (pb) 252 PC, row (sb) 260 (full symZ (symL st) c)] X := by
  rw [← hW]
  exact (hO).alloc' _ (w.heap.size) (by simp)
 clear hW hO
 generalize w.heap.size = B1 at hN ⊢
 have hO := hN
 clear hN
 obtain ⟨HL, HX⟩ := hid2 hO
 have hP9 := hO.pick [1, 2] dc
 have T9 := newSymG pb PC sb c st n src 27 nm _ _ _ hP9 hk66 hk32 hk106 hn hnb hg0 hg1
 refine Calls.mono T9 ?_
 clear hP9 T9
 rintro e u3 ⟨nd4, nd5, rfl, hQ⟩
 replace hO : Own w0 u3 [row (pb) 252 (PC.setIfInBounds 106 (vS nd4 (n + 1) (n + 1 + nd5))), row (nd4) 260 (full symZ (symL (st ++ [syk nm 27])) nd5), row (B1) 31 #[vU 0, vU 0]] X := hQ.back HL.out HX.out [0] dc dc
 clear hQ HL HX
 obtain ⟨aA, aB, aC, aD, -⟩ := hO.k2 2 rfl
 have HO := Lib.hid hO
 clear hO
 go_wp2_with (first | (with_reducible refine Own.stay (fn := Tryd.f11) ?_) | fail)
 try with_reducible refine Own.Stay.mk ?_
 have hO := HO.out
 clear HO aA aB aC aD
 generalize hW : World.setCell _ _ _ = W7
 have hN : Own w0 W7 [row (pb) 252 (PC.setIfInBounds 106 (vS nd4 (n + 1) (n + 1 + nd5))), row (nd4) 260 (full symZ (symL (st ++ [syk nm 27])) nd5), row (B1) 31 #[vU src, vU (n : Int)]] X := by
  rw [← hW]
  exact ((hO).set 2 rfl 0 _).set 2 rfl 1 _
 clear hW hO
 have hO := hN
 clear hN
 have z9_2_0 : W7.cell? ⟨B1, 0, none⟩ = some (vU src) := hO.cell 2 rfl 0 rfl
 have z9_2_1 : W7.cell? ⟨B1, 1, none⟩ = some (vU (n : Int)) := hO.cell 2 rfl 1 rfl
 refine bodyPost_ret (v := .agg #[vU src, vU (n : Int)]) ?_ rfl ⟨nd4, nd5, rfl, hO.sub [0, 1] dc⟩
 simp [results, Tryd.results11, go_sem, z9_2_0, z9_2_1]
def identBPost (k0 ra rj : Int) (w0 : World) (X : Nat → Obj → Prop) (e : Ending) (w' : World) : Prop :=
 ∃ nb : Nat, e = .returned (.agg #[vF 134 nb, vI k0]) ∧ Own w0 w' [row (nb) 136 #[vU ra, vU rj]] X
set_option maxRecDepth 100000 in
set_option maxHeartbeats 1000000 in
theorem identB (k0 ra rj : Int) (w0 w : World) (X : Nat → Obj → Prop) (hO : Own w0 w [] X)  :
  Calls Tryd.prog 12 #[vI k0, .agg #[vU ra, vU rj]] w (identBPost k0 ra rj w0 X) := by
 go_enter Tryd.func12, Tryd.ntmps12
 go_wp2_with (first | (with_reducible refine Own.stay (fn := Tryd.f12) ?_) | fail)
 try with_reducible refine Own.Stay.mk ?_
 generalize hW : World.alloc _ _ = W2
 have hN : Own w0 W2 [row (w.heap.size + 1 + 1) 136 #[vU ra, vU rj], row (w.heap.size + 1) 47 #[.iface 134 (.pointer (some ⟨w.heap.size + 1 + 1, 0, none⟩)), vI k0], row (w.heap.size) 31 #[vU ra, vU rj]] X := by
  rw [← hW]
  exact (((hO).alloc' _ (w.heap.size) (by simp)).alloc' _ (w.heap.size + 1) (by simp)).alloc' _ (w.heap.size + 1 + 1) (by simp)
 clear hW hO
 generalize w.heap.size + 1 + 1 = B1_2 at hN ⊢
 generalize w.heap.size + 1 = B1_1 at hN ⊢
 generalize w.heap.size = B1 at hN ⊢
 have hO := hN
 clear hN
 have z9_1_0 : W2.cell? ⟨B1_1, 0, none⟩ = some (vF 134 B1_2) := hO.cell 1 rfl 0 rfl
 have z9_1_1 : W2.cell? ⟨B1_1, 1, none⟩ = some (vI k0) := hO.cell 1 rfl 1 rfl
 refine bodyPost_ret (v := .agg #[vF 134 B1_2, vI k0]) ?_ rfl ⟨B1_2, rfl, hO.sub [0] dc⟩
 simp [results, Tryd.results12, go_sem, z9_1_0, z9_1_1]
end Go.Proofs.YtikopplofkemlaaDoor.Use
