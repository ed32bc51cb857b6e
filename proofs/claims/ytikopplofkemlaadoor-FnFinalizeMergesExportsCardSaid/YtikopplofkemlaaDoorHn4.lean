/- Several texts in one. No condition. -/
import Derived.Test.YtikopplofkemlaaDoorZ400
import Derived.Test.YtikopplofkemlaaDoorZ401
namespace Go.Proofs.YtikopplofkemlaaDoor.Use
open Go.ChangeShapes Go.WideShapes Go.ChangeAt Go.RowKit Go.Sort Own
set_option linter.unusedVariables false
def bytNPost (aw : Bool) (w0 : World) (X : Nat → Obj → Prop) (e : Ending) (w' : World) : Prop :=
 e = .returned (.bool true) ∧ Own w0 w' [] X
set_option maxRecDepth 100000 in
set_option maxHeartbeats 1000000 in
theorem bytN (aw : Bool) (w0 w : World) (X : Nat → Obj → Prop) (hO : Own w0 w [] X)  :
  Calls Tryd.prog 7 #[vN, .bool aw] w (bytNPost aw w0 X) := by
 go_enter Tryd.func7, Tryd.ntmps7
 go_wp2
 go_loopg [4, 5, 6] 0 (fun gf s4 s5 s6 wx => gf = 0 ∧ s4 = bF ∧ s5 = v6 0 ∧ s6 = v6 0 ∧ Own w0 wx [] X)
 case atStart => exact ⟨rfl, rfl, rfl, rfl, hO⟩
 case round =>
  obtain ⟨rfl, rfl, rfl, rfl, hR⟩ := hrel
  go_wp2
  go_returns
  exact ⟨rfl, hR⟩

def copyStrNPost  (w0 : World) (X : Nat → Obj → Prop) (e : Ending) (w' : World) : Prop :=
 e = .returned (vN) ∧ Own w0 w' [] X
set_option maxRecDepth 100000 in
set_option maxHeartbeats 1000000 in
theorem copyStrN  (w0 w : World) (X : Nat → Obj → Prop) (hO : Own w0 w [] X)  :
  Calls Tryd.prog 8 #[vN] w (copyStrNPost  w0 X) := by
 have heq := fun w => Lib.run_eql_slice_nil (P := Tryd.prog) w
 go_enter Tryd.func8, Tryd.ntmps8
 go_wp2
 go_returns
 exact ⟨rfl, hO⟩

end Go.Proofs.YtikopplofkemlaaDoor.Use
namespace Go.Proofs.YtikopplofkemlaaDoor.Use
open Go.ChangeShapes Go.WideShapes Go.ChangeAt Go.RowKit Go.Sort Own
set_option linter.unusedVariables false

set_option maxRecDepth 100000 in
set_option maxHeartbeats 4000000 in
theorem hn400 (w0 w : World) (X : Nat → Obj → Prop) (Post : Ending → World → Prop) (hP : ∀ w3, Own w0 w3 [] X → Post (.returned (.bool true)) w3) (hO : Own w0 w [] X) (hg0 : w0.cell? ⟨0, 0, none⟩ = some (vU 4294967295)) (hg1 : w0.cell? ⟨0, 1, none⟩ = some (vU 4294967295)) :
  Calls Tryd.prog 3 #[vN, bF] w Post := by
 go_enter Tryd.func3, Tryd.ntmps3
 have HP := Lib.hid hP
 clear hP
 obtain ⟨c9, hc9⟩ : ∃ c, c = rest40 := ⟨_, rfl⟩
 have HC9 := Lib.hid hc9
 simp only [rest40, Tryd.f3, Option.getD_some, cutC] at hc9
 rw [← hc9]
 clear hc9
 have hRefs : ∀ w, (Instr.makeSlice 38 (v6 0) (v6 0)).run Tryd.prog w = .ok (vS w.heap.size 0 0) (w.alloc (.cells (full refZ [] 0) 31)) := makeRefs 0 (by omega)
 have hPlcs : ∀ w, (Instr.makeSlice 39 (v6 0) (v6 0)).run Tryd.prog w = .ok (vS w.heap.size 0 0) (w.alloc (.cells (full plcZ [] 0) 42)) := makePlcs 0 (by omega)
 have hStms : ∀ w, (Instr.makeSlice 40 (v6 0) (v6 0)).run Tryd.prog w = .ok (vS w.heap.size 0 0) (w.alloc (.cells (full stmZ [] 0) 61)) := makeStms 0 (by omega)
 go_wp2_with (first | (with_reducible refine Own.stay (fn := Tryd.f3) ?_) | fail)
 try with_reducible refine Own.Stay.mk ?_
 obtain ⟨HL, HX⟩ := hid2 hO
 have hP9 := hO.pick [] dc
 have T9 := bytN false _ _ _ hP9 
 refine Calls.mono T9 ?_
 clear hP9 T9
 rintro e uw1 ⟨rfl, hQ⟩
 replace hO : Own w0 uw1 [] X := hQ.back HL.out HX.out [] dc dc
 clear hQ HL HX
 go_wp2_with (first | (with_reducible refine Own.stay (fn := Tryd.f3) ?_) | fail)
 try with_reducible refine Own.Stay.mk ?_
 go_loopg [5, 6] 0 (fun gf s5 s6 wx => gf = 0 ∧ s5 = v6 0 ∧ s6 = v6 0 ∧ Own w0 wx [] X)
 case atStart => exact ⟨rfl, rfl, rfl, hO⟩
 obtain ⟨rfl, rfl, rfl, hO⟩ := hrel
 go_wp2_with (first | (with_reducible refine Own.stay (fn := Tryd.f3) ?_) | fail)
 try with_reducible refine Own.Stay.mk ?_
 obtain ⟨HL, HX⟩ := hid2 hO
 have hP9 := hO.pick [] dc
 have T9 := copyStrN  _ _ _ hP9 
 refine Calls.mono T9 ?_
 clear hP9 T9
 rintro e uw2 ⟨rfl, hQ⟩
 replace hO : Own w0 uw2 [] X := hQ.back HL.out HX.out [] dc dc
 clear hQ HL HX
 go_wp2_with (first | (with_reducible refine Own.stay (fn := Tryd.f3) ?_) | fail)
 try with_reducible refine Own.Stay.mk ?_
 obtain ⟨HL, HX⟩ := hid2 hO
 have hP9 := hO.pick [] dc
 have h9_hg0 : w0.cell? ⟨0, 0, none⟩ = some (vU 4294967295) := (by first | assumption | omega | (simp; done) | (simp; omega))
 have h9_hg1 : w0.cell? ⟨0, 1, none⟩ = some (vU 4294967295) := (by first | assumption | omega | (simp; done) | (simp; omega))
 have T9 := setup0  _ _ _ hP9 h9_hg0 h9_hg1
 refine Calls.mono T9 ?_
 clear hP9 T9 h9_hg0 h9_hg1
 rintro e uw3 ⟨nd4, nd5, nd6, nd7, nd8, nd9, nd10, nd11, nd12, rfl, hQ⟩
 replace hO : Own w0 uw3 [row (nd4) 252 ((newPar nd5 nd11 nd12 nd8 nd10).setIfInBounds 106 (vS nd6 1 (1 + nd7))), row (nd6) 260 (full symZ (symL ([sy ⟨#[95, 115, 116, 97, 99, 107]⟩ 0])) nd7), row (nd8) 107 #[vN, vN, vN, vN, .map (some nd9), .map none, .map none, vN, bF, bF, bF], ((nd9, .map (uA ([])) (uN ([]))) : Rw), ((nd10, .map #[] 0) : Rw), row (nd11) 99 #[vO, vP nd12, vN, .map none, vN, vN, vI 0, vI 0, vU 0, vU 0, bF, bF, bF, bF, v8 0, v8 8], row (nd12) 99 #[vO, vO, vN, .map none, vN, vN, vI 0, vI 0, vU 0, vU 0, bF, bF, bF, bF, v8 0, v8 6]] X := hQ.back HL.out HX.out [] dc dc
 clear hQ HL HX
 go_wp2_with (first | (with_reducible refine Own.stay (fn := Tryd.f3) ?_) | fail)
 try with_reducible refine Own.Stay.mk ?_
 generalize hW : World.alloc _ _ = W14
 have hN : Own w0 W14 [row (uw3.heap.size) 33 #[vI 7, vU 0, vU 0, bF], row (nd4) 252 ((newPar nd5 nd11 nd12 nd8 nd10).setIfInBounds 106 (vS nd6 1 (1 + nd7))), row (nd6) 260 (full symZ (symL ([sy ⟨#[95, 115, 116, 97, 99, 107]⟩ 0])) nd7), row (nd8) 107 #[vN, vN, vN, vN, .map (some nd9), .map none, .map none, vN, bF, bF, bF], ((nd9, .map (uA ([])) (uN ([]))) : Rw), ((nd10, .map #[] 0) : Rw), row (nd11) 99 #[vO, vP nd12, vN, .map none, vN, vN, vI 0, vI 0, vU 0, vU 0, bF, bF, bF, bF, v8 0, v8 8], row (nd12) 99 #[vO, vO, vN, .map none, vN, vN, vI 0, vI 0, vU 0, vU 0, bF, bF, bF, bF, v8 0, v8 6]] X := by
  rw [← hW]
  exact (hO).alloc' _ (uw3.heap.size) (by simp)
 clear hW hO
 generalize uw3.heap.size = B13 at hN ⊢
 have hO := hN
 clear hN
 obtain ⟨HL, HX⟩ := hid2 hO
 have hP9 := hO.pick [0] dc
 have T9 := ctxStack B13 7 0 0 false _ _ _ hP9 
 refine Calls.mono T9 ?_
 clear hP9 T9
 rintro e uw15 ⟨rfl, hQ⟩
 replace hO : Own w0 uw15 [row (B13) 33 #[vI 7, vU 0, vU 0, bF], row (nd4) 252 ((newPar nd5 nd11 nd12 nd8 nd10).setIfInBounds 106 (vS nd6 1 (1 + nd7))), row (nd6) 260 (full symZ (symL ([sy ⟨#[95, 115, 116, 97, 99, 107]⟩ 0])) nd7), row (nd8) 107 #[vN, vN, vN, vN, .map (some nd9), .map none, .map none, vN, bF, bF, bF], ((nd9, .map (uA ([])) (uN ([]))) : Rw), ((nd10, .map #[] 0) : Rw), row (nd11) 99 #[vO, vP nd12, vN, .map none, vN, vN, vI 0, vI 0, vU 0, vU 0, bF, bF, bF, bF, v8 0, v8 8], row (nd12) 99 #[vO, vO, vN, .map none, vN, vN, vI 0, vI 0, vU 0, vU 0, bF, bF, bF, bF, v8 0, v8 6]] X := hQ.back HL.out HX.out [1, 2, 3, 4, 5, 6, 7] dc dc
 clear hQ HL HX
 obtain ⟨aA, aB, aC, aD, aE, aF, -⟩ := hO.k4 0 rfl
 have HO := Lib.hid hO
 clear hO
 go_wp2_with (first | (with_reducible refine Own.stay (fn := Tryd.f3) ?_) | fail)
 try with_reducible refine Own.Stay.mk ?_
 have hO := HO.out
 clear HO aA aB aC aD aE aF
 generalize hW : World.alloc _ _ = W17
 have hN : Own w0 W17 [row (uw15.heap.size + 1 + 1 + 1) 61 (full stmZ [] 0), row (uw15.heap.size + 1 + 1) 42 (full plcZ [] 0), row (uw15.heap.size + 1) 31 (full refZ [] 0), row (uw15.heap.size) 31 #[vU 0, vU 0], row (B13) 33 #[vI 7, vU 0, vU 0, bF], row (nd4) 252 ((newPar nd5 nd11 nd12 nd8 nd10).setIfInBounds 106 (vS nd6 1 (1 + nd7))), row (nd6) 260 (full symZ (symL ([sy ⟨#[95, 115, 116, 97, 99, 107]⟩ 0])) nd7), row (nd8) 107 #[vN, vN, vN, vN, .map (some nd9), .map none, .map none, vN, bF, bF, bF], ((nd9, .map (uA ([])) (uN ([]))) : Rw), ((nd10, .map #[] 0) : Rw), row (nd11) 99 #[vO, vP nd12, vN, .map none, vN, vN, vI 0, vI 0, vU 0, vU 0, bF, bF, bF, bF, v8 0, v8 8], row (nd12) 99 #[vO, vO, vN, .map none, vN, vN, vI 0, vI 0, vU 0, vU 0, bF, bF, bF, bF, v8 0, v8 6]] X := by
  rw [← hW]
  exact ((((hO).alloc' _ (uw15.heap.size) (by simp)).alloc' _ (uw15.heap.size + 1) (by simp)).alloc' _ (uw15.heap.size + 1 + 1) (by simp)).alloc' _ (uw15.heap.size + 1 + 1 + 1) (by simp)
 clear hW hO
 generalize uw15.heap.size + 1 + 1 + 1 = B16_3 at hN ⊢
 generalize uw15.heap.size + 1 + 1 = B16_2 at hN ⊢
 generalize uw15.heap.size + 1 = B16_1 at hN ⊢
 generalize uw15.heap.size = B16 at hN ⊢
 have hO := hN
 clear hN
 go_loopg [15] 0 (fun gf s15 wx => gf = 0 ∧ s15 = v6 0 ∧ Own w0 wx [row (B16_3) 61 (full stmZ [] 0), row (B16_2) 42 (full plcZ [] 0), row (B16_1) 31 (full refZ [] 0), row (B16) 31 #[vU 0, vU 0], row (B13) 33 #[vI 7, vU 0, vU 0, bF], row (nd4) 252 ((newPar nd5 nd11 nd12 nd8 nd10).setIfInBounds 106 (vS nd6 1 (1 + nd7))), row (nd6) 260 (full symZ (symL ([sy ⟨#[95, 115, 116, 97, 99, 107]⟩ 0])) nd7), row (nd8) 107 #[vN, vN, vN, vN, .map (some nd9), .map none, .map none, vN, bF, bF, bF], ((nd9, .map (uA ([])) (uN ([]))) : Rw), ((nd10, .map #[] 0) : Rw), row (nd11) 99 #[vO, vP nd12, vN, .map none, vN, vN, vI 0, vI 0, vU 0, vU 0, bF, bF, bF, bF, v8 0, v8 8], row (nd12) 99 #[vO, vO, vN, .map none, vN, vN, vI 0, vI 0, vU 0, vU 0, bF, bF, bF, bF, v8 0, v8 6]] X)
 case atStart => exact ⟨rfl, rfl, hO⟩
 obtain ⟨rfl, rfl, hO⟩ := hrel
 obtain ⟨aG, aH, aI, aJ, -⟩ := hO.k2 3 rfl
 obtain ⟨aK, aL, aM, aN, aO, aP, -⟩ := hO.k4 4 rfl
 have HO := Lib.hid hO
 clear hO
 go_wp2_with (first | (with_reducible refine Own.stay (fn := Tryd.f3) ?_) | fail)
 try with_reducible refine Own.Stay.mk ?_
 have hO := HO.out
 clear HO aG aH aI aJ aK aL aM aN aO aP
 rw [HC9.out]
 exact z400 (fun _ => ⟨#[]⟩) (fun _ _ => 0) nd4 nd6 nd7 nd8 nd9 nd10 nd11 nd12 B13 B16 B16_3 ((newPar nd5 nd11 nd12 nd8 nd10).setIfInBounds 106 (vS nd6 1 (1 + nd7))) w0 wr X Post HP.out ((hO.sub [5, 6, 0, 4, 3, 7, 8, 9, 10, 11] dc).conv rfl) (get_other (newPar_350 _ _ _ _ _) (by omega) _) (get_other (newPar_32 _ _ _ _ _) (by omega) _) (get_other (newPar_105 _ _ _ _ _) (by omega) _) (get_other (newPar_66 _ _ _ _ _) (by omega) _) (get_other (newPar_117 _ _ _ _ _) (by omega) _) (get_other (newPar_187 _ _ _ _ _) (by omega) _) (get_other (newPar_104 _ _ _ _ _) (by omega) _) (get_other (newPar_333 _ _ _ _ _) (by omega) _) (get_other (newPar_23 _ _ _ _ _) (by omega) _) (get_set (newPar_106 _ _ _ _ _) _) hg0 hg1
end Go.Proofs.YtikopplofkemlaaDoor.Use
namespace Go.Proofs.YtikopplofkemlaaDoor.Use
open Go.ChangeShapes Go.WideShapes Go.ChangeAt Go.RowKit Go.Sort Own
set_option linter.unusedVariables false

set_option maxRecDepth 100000 in
set_option maxHeartbeats 4000000 in
theorem hn401 (w0 w : World) (X : Nat → Obj → Prop) (Post : Ending → World → Prop) (hP : ∀ w3, Own w0 w3 [] X → Post (.returned (.bool true)) w3) (hO : Own w0 w [] X) (hg0 : w0.cell? ⟨0, 0, none⟩ = some (vU 4294967295)) (hg1 : w0.cell? ⟨0, 1, none⟩ = some (vU 4294967295)) :
  Calls Tryd.prog 3 #[vN, .bool true] w Post := by
 go_enter Tryd.func3, Tryd.ntmps3
 have HP := Lib.hid hP
 clear hP
 obtain ⟨c9, hc9⟩ : ∃ c, c = rest40 := ⟨_, rfl⟩
 have HC9 := Lib.hid hc9
 simp only [rest40, Tryd.f3, Option.getD_some, cutC] at hc9
 rw [← hc9]
 clear hc9
 have hRefs : ∀ w, (Instr.makeSlice 38 (v6 0) (v6 0)).run Tryd.prog w = .ok (vS w.heap.size 0 0) (w.alloc (.cells (full refZ [] 0) 31)) := makeRefs 0 (by omega)
 have hPlcs : ∀ w, (Instr.makeSlice 39 (v6 0) (v6 0)).run Tryd.prog w = .ok (vS w.heap.size 0 0) (w.alloc (.cells (full plcZ [] 0) 42)) := makePlcs 0 (by omega)
 have hStms : ∀ w, (Instr.makeSlice 40 (v6 0) (v6 0)).run Tryd.prog w = .ok (vS w.heap.size 0 0) (w.alloc (.cells (full stmZ [] 0) 61)) := makeStms 0 (by omega)
 go_wp2_with (first | (with_reducible refine Own.stay (fn := Tryd.f3) ?_) | fail)
 try with_reducible refine Own.Stay.mk ?_
 obtain ⟨HL, HX⟩ := hid2 hO
 have hP9 := hO.pick [] dc
 have T9 := bytN true _ _ _ hP9 
 refine Calls.mono T9 ?_
 clear hP9 T9
 rintro e uw1 ⟨rfl, hQ⟩
 replace hO : Own w0 uw1 [] X := hQ.back HL.out HX.out [] dc dc
 clear hQ HL HX
 go_wp2_with (first | (with_reducible refine Own.stay (fn := Tryd.f3) ?_) | fail)
 try with_reducible refine Own.Stay.mk ?_
 go_loopg [5, 6] 0 (fun gf s5 s6 wx => gf = 0 ∧ s5 = v6 0 ∧ s6 = v6 0 ∧ Own w0 wx [] X)
 case atStart => exact ⟨rfl, rfl, rfl, hO⟩
 obtain ⟨rfl, rfl, rfl, hO⟩ := hrel
 go_wp2_with (first | (with_reducible refine Own.stay (fn := Tryd.f3) ?_) | fail)
 try with_reducible refine Own.Stay.mk ?_
 obtain ⟨HL, HX⟩ := hid2 hO
 have hP9 := hO.pick [] dc
 have T9 := copyStrN  _ _ _ hP9 
 refine Calls.mono T9 ?_
 clear hP9 T9
 rintro e uw2 ⟨rfl, hQ⟩
 replace hO : Own w0 uw2 [] X := hQ.back HL.out HX.out [] dc dc
 clear hQ HL HX
 go_wp2_with (first | (with_reducible refine Own.stay (fn := Tryd.f3) ?_) | fail)
 try with_reducible refine Own.Stay.mk ?_
 obtain ⟨HL, HX⟩ := hid2 hO
 have hP9 := hO.pick [] dc
 have h9_hg0 : w0.cell? ⟨0, 0, none⟩ = some (vU 4294967295) := (by first | assumption | omega | (simp; done) | (simp; omega))
 have h9_hg1 : w0.cell? ⟨0, 1, none⟩ = some (vU 4294967295) := (by first | assumption | omega | (simp; done) | (simp; omega))
 have T9 := setup1  _ _ _ hP9 h9_hg0 h9_hg1
 refine Calls.mono T9 ?_
 clear hP9 T9 h9_hg0 h9_hg1
 rintro e uw3 ⟨nd4, nd5, nd6, nd7, nd8, nd9, nd10, nd11, nd12, rfl, hQ⟩
 replace hO : Own w0 uw3 [row (nd4) 252 ((newPar nd5 nd11 nd12 nd8 nd10).setIfInBounds 106 (vS nd6 1 (1 + nd7))), row (nd6) 260 (full symZ (symL ([sy ⟨#[95, 115, 116, 97, 99, 107]⟩ 0])) nd7), row (nd8) 107 #[vN, vN, vN, vN, .map (some nd9), .map none, .map none, vN, bF, bF, bF], ((nd9, .map (uA ([])) (uN ([]))) : Rw), ((nd10, .map #[] 0) : Rw), row (nd11) 99 #[vO, vP nd12, vN, .map none, vN, vN, vI 0, vI 0, vU 0, vU 0, bF, bF, bF, bF, v8 0, v8 8], row (nd12) 99 #[vO, vO, vN, .map none, vN, vN, vI 0, vI 0, vU 0, vU 0, bF, bF, bF, bF, v8 0, v8 6]] X := hQ.back HL.out HX.out [] dc dc
 clear hQ HL HX
 go_wp2_with (first | (with_reducible refine Own.stay (fn := Tryd.f3) ?_) | fail)
 try with_reducible refine Own.Stay.mk ?_
 generalize hW : World.alloc _ _ = W14
 have hN : Own w0 W14 [row (uw3.heap.size) 33 #[vI 7, vU 0, vU 0, .bool true], row (nd4) 252 ((newPar nd5 nd11 nd12 nd8 nd10).setIfInBounds 106 (vS nd6 1 (1 + nd7))), row (nd6) 260 (full symZ (symL ([sy ⟨#[95, 115, 116, 97, 99, 107]⟩ 0])) nd7), row (nd8) 107 #[vN, vN, vN, vN, .map (some nd9), .map none, .map none, vN, bF, bF, bF], ((nd9, .map (uA ([])) (uN ([]))) : Rw), ((nd10, .map #[] 0) : Rw), row (nd11) 99 #[vO, vP nd12, vN, .map none, vN, vN, vI 0, vI 0, vU 0, vU 0, bF, bF, bF, bF, v8 0, v8 8], row (nd12) 99 #[vO, vO, vN, .map none, vN, vN, vI 0, vI 0, vU 0, vU 0, bF, bF, bF, bF, v8 0, v8 6]] X := by
  rw [← hW]
  exact (hO).alloc' _ (uw3.heap.size) (by simp)
 clear hW hO
 generalize uw3.heap.size = B13 at hN ⊢
 have hO := hN
 clear hN
 obtain ⟨HL, HX⟩ := hid2 hO
 have hP9 := hO.pick [0] dc
 have T9 := ctxStack B13 7 0 0 true _ _ _ hP9 
 refine Calls.mono T9 ?_
 clear hP9 T9
 rintro e uw15 ⟨rfl, hQ⟩
 replace hO : Own w0 uw15 [row (B13) 33 #[vI 7, vU 0, vU 0, .bool true], row (nd4) 252 ((newPar nd5 nd11 nd12 nd8 nd10).setIfInBounds 106 (vS nd6 1 (1 + nd7))), row (nd6) 260 (full symZ (symL ([sy ⟨#[95, 115, 116, 97, 99, 107]⟩ 0])) nd7), row (nd8) 107 #[vN, vN, vN, vN, .map (some nd9), .map none, .map none, vN, bF, bF, bF], ((nd9, .map (uA ([])) (uN ([]))) : Rw), ((nd10, .map #[] 0) : Rw), row (nd11) 99 #[vO, vP nd12, vN, .map none, vN, vN, vI 0, vI 0, vU 0, vU 0, bF, bF, bF, bF, v8 0, v8 8], row (nd12) 99 #[vO, vO, vN, .map none, vN, vN, vI 0, vI 0, vU 0, vU 0, bF, bF, bF, bF, v8 0, v8 6]] X := hQ.back HL.out HX.out [1, 2, 3, 4, 5, 6, 7] dc dc
 clear hQ HL HX
 obtain ⟨aA, aB, aC, aD, aE, aF, -⟩ := hO.k4 0 rfl
 have HO := Lib.hid hO
 clear hO
 go_wp2_with (first | (with_reducible refine Own.stay (fn := Tryd.f3) ?_) | fail)
 try with_reducible refine Own.Stay.mk ?_
 have hO := HO.out
 clear HO aA aB aC aD aE aF
 generalize hW : World.alloc _ _ = W17
 have hN : Own w0 W17 [row (uw15.heap.size + 1 + 1 + 1) 61 (full stmZ [] 0), row (uw15.heap.size + 1 + 1) 42 (full plcZ [] 0), row (uw15.heap.size + 1) 31 (full refZ [] 0), row (uw15.heap.size) 31 #[vU 0, vU 0], row (B13) 33 #[vI 7, vU 0, vU 0, .bool true], row (nd4) 252 ((newPar nd5 nd11 nd12 nd8 nd10).setIfInBounds 106 (vS nd6 1 (1 + nd7))), row (nd6) 260 (full symZ (symL ([sy ⟨#[95, 115, 116, 97, 99, 107]⟩ 0])) nd7), row (nd8) 107 #[vN, vN, vN, vN, .map (some nd9), .map none, .map none, vN, bF, bF, bF], ((nd9, .map (uA ([])) (uN ([]))) : Rw), ((nd10, .map #[] 0) : Rw), row (nd11) 99 #[vO, vP nd12, vN, .map none, vN, vN, vI 0, vI 0, vU 0, vU 0, bF, bF, bF, bF, v8 0, v8 8], row (nd12) 99 #[vO, vO, vN, .map none, vN, vN, vI 0, vI 0, vU 0, vU 0, bF, bF, bF, bF, v8 0, v8 6]] X := by
  rw [← hW]
  exact ((((hO).alloc' _ (uw15.heap.size) (by simp)).alloc' _ (uw15.heap.size + 1) (by simp)).alloc' _ (uw15.heap.size + 1 + 1) (by simp)).alloc' _ (uw15.heap.size + 1 + 1 + 1) (by simp)
 clear hW hO
 generalize uw15.heap.size + 1 + 1 + 1 = B16_3 at hN ⊢
 generalize uw15.heap.size + 1 + 1 = B16_2 at hN ⊢
 generalize uw15.heap.size + 1 = B16_1 at hN ⊢
 generalize uw15.heap.size = B16 at hN ⊢
 have hO := hN
 clear hN
 go_loopg [15] 0 (fun gf s15 wx => gf = 0 ∧ s15 = v6 0 ∧ Own w0 wx [row (B16_3) 61 (full stmZ [] 0), row (B16_2) 42 (full plcZ [] 0), row (B16_1) 31 (full refZ [] 0), row (B16) 31 #[vU 0, vU 0], row (B13) 33 #[vI 7, vU 0, vU 0, .bool true], row (nd4) 252 ((newPar nd5 nd11 nd12 nd8 nd10).setIfInBounds 106 (vS nd6 1 (1 + nd7))), row (nd6) 260 (full symZ (symL ([sy ⟨#[95, 115, 116, 97, 99, 107]⟩ 0])) nd7), row (nd8) 107 #[vN, vN, vN, vN, .map (some nd9), .map none, .map none, vN, bF, bF, bF], ((nd9, .map (uA ([])) (uN ([]))) : Rw), ((nd10, .map #[] 0) : Rw), row (nd11) 99 #[vO, vP nd12, vN, .map none, vN, vN, vI 0, vI 0, vU 0, vU 0, bF, bF, bF, bF, v8 0, v8 8], row (nd12) 99 #[vO, vO, vN, .map none, vN, vN, vI 0, vI 0, vU 0, vU 0, bF, bF, bF, bF, v8 0, v8 6]] X)
 case atStart => exact ⟨rfl, rfl, hO⟩
 obtain ⟨rfl, rfl, hO⟩ := hrel
 obtain ⟨aG, aH, aI, aJ, -⟩ := hO.k2 3 rfl
 obtain ⟨aK, aL, aM, aN, aO, aP, -⟩ := hO.k4 4 rfl
 have HO := Lib.hid hO
 clear hO
 go_wp2_with (first | (with_reducible refine Own.stay (fn := Tryd.f3) ?_) | fail)
 try with_reducible refine Own.Stay.mk ?_
 have hO := HO.out
 clear HO aG aH aI aJ aK aL aM aN aO aP
 rw [HC9.out]
 exact z401 (fun _ => ⟨#[]⟩) (fun _ _ => 0) nd4 nd6 nd7 nd8 nd9 nd10 nd11 nd12 B13 B16 B16_3 ((newPar nd5 nd11 nd12 nd8 nd10).setIfInBounds 106 (vS nd6 1 (1 + nd7))) w0 wr X Post HP.out ((hO.sub [5, 6, 0, 4, 3, 7, 8, 9, 10, 11] dc).conv rfl) (get_other (newPar_350 _ _ _ _ _) (by omega) _) (get_other (newPar_32 _ _ _ _ _) (by omega) _) (get_other (newPar_105 _ _ _ _ _) (by omega) _) (get_other (newPar_66 _ _ _ _ _) (by omega) _) (get_other (newPar_117 _ _ _ _ _) (by omega) _) (get_other (newPar_187 _ _ _ _ _) (by omega) _) (get_other (newPar_104 _ _ _ _ _) (by omega) _) (get_other (newPar_333 _ _ _ _ _) (by omega) _) (get_other (newPar_23 _ _ _ _ _) (by omega) _) (get_set (newPar_106 _ _ _ _ _) _) hg0 hg1
end Go.Proofs.YtikopplofkemlaaDoor.Use
