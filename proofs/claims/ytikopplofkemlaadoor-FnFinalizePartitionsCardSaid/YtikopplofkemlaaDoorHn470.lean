/- Row 47: no kinds. No condition. -/
import Derived.Test.YtikopplofkemlaaDoorAbb
import Derived.Test.YtikopplofkemlaaDoorTl47b0
import Derived.Test.YtikopplofkemlaaDoorFinD0
import Derived.Test.YtikopplofkemlaaDoorLs47
import Derived.Test.YtikopplofkemlaaDoorMsc
import Derived.Test.YtikopplofkemlaaDoorFinz0
import Derived.Test.YtikopplofkemlaaDoorSetup
import Derived.Test.YtikopplofkemlaaDoorScn
import Derived.Test.YtikopplofkemlaaDoorCtx
import Derived.Test.YtikopplofkemlaaDoorNewP
import Derived.Test.YtikopplofkemlaaDoorEls
import Derived.Test.YtikopplofkemlaaDoorUmp
import Derived.Test.YtikopplofkemlaaDoorLive
import Derived.Test.YtikopplofkemlaaDoorLoop
import Derived.Test.YtikopplofkemlaaDoorUms
import Derived.Test.YtikopplofkemlaaDoorAppL
import Derived.Test.YtikopplofkemlaaDoorApp
import Derived.Test.YtikopplofkemlaaDoorOwnK
import Derived.Test.YtikopplofkemlaaDoorOwn
import Derived.Test.YtikopplofkemlaaDoorDeepCells
import Derived.Test.YtikopplofkemlaaDoorRows
import Derived.Test.YtikopplofkemlaaDoorUse
namespace Go.Proofs.YtikopplofkemlaaDoor.Use
open Go.ChangeShapes Go.WideShapes Go.ChangeAt Go.RowKit Go.Sort Own
set_option linter.unusedVariables false
def law47n0Post (hst : Bool) (w0 : World) (X : Nat → Obj → Prop) (e : Ending) (w' : World) : Prop :=
 e = .returned (.bool true) ∧ Own w0 w' [] X
set_option maxRecDepth 100000 in
set_option maxHeartbeats 4000000 in
theorem law47n0 (hst : Bool) (w0 w : World) (X : Nat → Obj → Prop) (hO : Own w0 w [] X) (hg0 : w0.cell? ⟨0, 0, none⟩ = some (vU 4294967295)) (hg1 : w0.cell? ⟨0, 1, none⟩ = some (vU 4294967295)) :
  Calls Tryd.prog 6 #[vN, .bool hst, bF] w (law47n0Post hst w0 X) := by
 go_enter Tryd.func6, Tryd.ntmps6
 obtain ⟨c9, hc9⟩ : ∃ c, c = rest47b := ⟨_, rfl⟩
 have HC9 := Lib.hid hc9
 simp only [rest47b, Tryd.f6, Option.getD_some, cutC] at hc9
 rw [← hc9]
 clear hc9
 have hms : ∀ w, (Instr.makeSlice 40 (.int .i64 0) (.int .i64 0)).run Tryd.prog w = .ok (.slice (some ⟨w.heap.size, 0, none⟩) 0 0) (w.alloc (.cells (full stmZ [] 0) 61)) := makeStms 0 (by omega)
 have heq := fun w => Lib.run_eql_slice_nil (P := Tryd.prog) w
 obtain ⟨D, hDk, hDl⟩ : ∃ D : Dt, D.kd = (fun _ => 0) ∧ D.lc = (fun j : Nat => (j : Int) + 1) := ⟨⟨fun _ => 0, fun _ => 0, fun j => (j : Int) + 1⟩, rfl, rfl⟩
 have HDk := Lib.hid hDk
 have HDl := Lib.hid hDl
 clear hDk hDl
 go_wp2_with (first | (with_reducible refine Own.stay (fn := Tryd.f6) ?_) | (first | (go_at_call 30; go_in) | (go_at_call 31; go_in)))
 try with_reducible refine Own.Stay.mk ?_
 have hL := hO.apart
 have hX := hO.apartX
 have HL := Lib.hid hL
 have HX := Lib.hid hX
 clear hL hX
 have hP9 := hO.pick [] (by decide)
 have T9 := setup0  _ _ _ hP9 hg0 hg1
 refine Calls.mono T9 ?_
 clear hP9 T9
 rintro e uw1 ⟨nd2, nd3, nd4, nd5, nd6, nd7, nd8, nd9, nd10, rfl, hQ⟩
 have hN : Own w0 uw1 [row (nd2) 252 ((newPar nd3 nd9 nd10 nd6 nd8).setIfInBounds 106 (.slice (some ⟨nd4, 0, none⟩) 1 (1 + nd5))), row (nd4) 260 (full symZ (symL ([sy ⟨#[95, 115, 116, 97, 99, 107]⟩ 0])) nd5), row (nd6) 107 #[vN, vN, vN, vN, .map (some nd7), .map none, .map none, vN, bF, bF, bF], ((nd7, .map (uA ([])) (uN ([]))) : Rw), ((nd8, .map #[] 0) : Rw), row (nd9) 99 #[.pointer none, vP nd10, vN, .map none, vN, vN, vI 0, vI 0, vU 0, vU 0, bF, bF, bF, bF, .int .u8 0, .int .u8 8], row (nd10) 99 #[.pointer none, .pointer none, vN, .map none, vN, vN, vI 0, vI 0, vU 0, vU 0, bF, bF, bF, bF, .int .u8 0, .int .u8 6]] X := hQ.back HL.out HX.out [] (by decide) (by decide)
 clear hQ HL HX hO
 have hO := hN
 clear hN
 have c9_2_3 : uw1.cell? ⟨nd6, 3, none⟩ = some (vN) := hO.cell 2 rfl (3) rfl
 have lt9_2 : nd6 < uw1.heap.size := hO.lt 2 rfl
 have y9_2 : ∀ o, uw1.frozen? ⟨nd6, o, none⟩ = false := hO.free 2 rfl
 have c9_5_5 : uw1.cell? ⟨nd9, 5, none⟩ = some (vN) := hO.cell 5 rfl (5) rfl
 have lt9_5 : nd9 < uw1.heap.size := hO.lt 5 rfl
 have y9_5 : ∀ o, uw1.frozen? ⟨nd9, o, none⟩ = false := hO.free 5 rfl
 have c9_6_5 : uw1.cell? ⟨nd10, 5, none⟩ = some (vN) := hO.cell 6 rfl (5) rfl
 have lt9_6 : nd10 < uw1.heap.size := hO.lt 6 rfl
 have y9_6 : ∀ o, uw1.frozen? ⟨nd10, o, none⟩ = false := hO.free 6 rfl
 have HO := Lib.hid hO
 clear hO
 go_wp2_with (first | (with_reducible refine Own.stay (fn := Tryd.f6) ?_) | (first | (go_at_call 30; go_in) | (go_at_call 31; go_in)))
 try with_reducible refine Own.Stay.mk ?_
 have hO := HO.out
 clear HO c9_2_3 lt9_2 y9_2 c9_5_5 lt9_5 y9_5 c9_6_5 lt9_6 y9_6
 generalize hW : World.alloc _ _ = W12
 have hN : Own w0 W12 [row (uw1.heap.size) 33 #[vI 7, vU 0, vU 0, bF], row (nd2) 252 ((newPar nd3 nd9 nd10 nd6 nd8).setIfInBounds 106 (.slice (some ⟨nd4, 0, none⟩) 1 (1 + nd5))), row (nd4) 260 (full symZ (symL ([sy ⟨#[95, 115, 116, 97, 99, 107]⟩ 0])) nd5), row (nd6) 107 #[vN, vN, vN, vN, .map (some nd7), .map none, .map none, vN, bF, bF, bF], ((nd7, .map (uA ([])) (uN ([]))) : Rw), ((nd8, .map #[] 0) : Rw), row (nd9) 99 #[.pointer none, vP nd10, vN, .map none, vN, vN, vI 0, vI 0, vU 0, vU 0, bF, bF, bF, bF, .int .u8 0, .int .u8 8], row (nd10) 99 #[.pointer none, .pointer none, vN, .map none, vN, vN, vI 0, vI 0, vU 0, vU 0, bF, bF, bF, bF, .int .u8 0, .int .u8 6]] X := by
  rw [← hW]
  exact (hO).alloc' _ (uw1.heap.size) (by simp)
 clear hW hO
 generalize uw1.heap.size = B11 at hN ⊢
 have hO := hN
 clear hN
 have hL := hO.apart
 have hX := hO.apartX
 have HL := Lib.hid hL
 have HX := Lib.hid hX
 clear hL hX
 have hP9 := hO.pick [0] (by decide)
 have T9 := ctxStack B11 7 0 0 false _ _ _ hP9 
 refine Calls.mono T9 ?_
 clear hP9 T9
 rintro e uw13 ⟨rfl, hQ⟩
 have hN : Own w0 uw13 [row (B11) 33 #[vI 7, vU 0, vU 0, bF], row (nd2) 252 ((newPar nd3 nd9 nd10 nd6 nd8).setIfInBounds 106 (.slice (some ⟨nd4, 0, none⟩) 1 (1 + nd5))), row (nd4) 260 (full symZ (symL ([sy ⟨#[95, 115, 116, 97, 99, 107]⟩ 0])) nd5), row (nd6) 107 #[vN, vN, vN, vN, .map (some nd7), .map none, .map none, vN, bF, bF, bF], ((nd7, .map (uA ([])) (uN ([]))) : Rw), ((nd8, .map #[] 0) : Rw), row (nd9) 99 #[.pointer none, vP nd10, vN, .map none, vN, vN, vI 0, vI 0, vU 0, vU 0, bF, bF, bF, bF, .int .u8 0, .int .u8 8], row (nd10) 99 #[.pointer none, .pointer none, vN, .map none, vN, vN, vI 0, vI 0, vU 0, vU 0, bF, bF, bF, bF, .int .u8 0, .int .u8 6]] X := hQ.back HL.out HX.out [1, 2, 3, 4, 5, 6, 7] (by decide) (by decide)
 clear hQ HL HX hO
 have hO := hN
 clear hN
 obtain ⟨c9_0_0, c9_0_1, c9_0_2, c9_0_3, lt9_0, y9_0, -⟩ := hO.k4 0 rfl
 have c9_3_3 : uw13.cell? ⟨nd6, 3, none⟩ = some (vN) := hO.cell 3 rfl (3) rfl
 have lt9_3 : nd6 < uw13.heap.size := hO.lt 3 rfl
 have y9_3 : ∀ o, uw13.frozen? ⟨nd6, o, none⟩ = false := hO.free 3 rfl
 have c9_6_5 : uw13.cell? ⟨nd9, 5, none⟩ = some (vN) := hO.cell 6 rfl (5) rfl
 have lt9_6 : nd9 < uw13.heap.size := hO.lt 6 rfl
 have y9_6 : ∀ o, uw13.frozen? ⟨nd9, o, none⟩ = false := hO.free 6 rfl
 have c9_7_5 : uw13.cell? ⟨nd10, 5, none⟩ = some (vN) := hO.cell 7 rfl (5) rfl
 have lt9_7 : nd10 < uw13.heap.size := hO.lt 7 rfl
 have y9_7 : ∀ o, uw13.frozen? ⟨nd10, o, none⟩ = false := hO.free 7 rfl
 have HO := Lib.hid hO
 clear hO
 go_wp2_with (first | (with_reducible refine Own.stay (fn := Tryd.f6) ?_) | (first | (go_at_call 30; go_in) | (go_at_call 31; go_in)))
 try with_reducible refine Own.Stay.mk ?_
 have hO := HO.out
 clear HO c9_0_0 c9_0_1 c9_0_2 c9_0_3 lt9_0 y9_0 c9_3_3 lt9_3 y9_3 c9_6_5 lt9_6 y9_6 c9_7_5 lt9_7 y9_7
 generalize hW : World.alloc _ _ = W15
 have hN : Own w0 W15 [row (uw13.heap.size + 1) 61 (full stmZ [] 0), row (uw13.heap.size) 31 #[vU 0, vU 0], row (B11) 33 #[vI 7, vU 0, vU 0, bF], row (nd2) 252 ((newPar nd3 nd9 nd10 nd6 nd8).setIfInBounds 106 (.slice (some ⟨nd4, 0, none⟩) 1 (1 + nd5))), row (nd4) 260 (full symZ (symL ([sy ⟨#[95, 115, 116, 97, 99, 107]⟩ 0])) nd5), row (nd6) 107 #[vN, vN, vN, vN, .map (some nd7), .map none, .map none, vN, bF, bF, bF], ((nd7, .map (uA ([])) (uN ([]))) : Rw), ((nd8, .map #[] 0) : Rw), row (nd9) 99 #[.pointer none, vP nd10, vN, .map none, vN, vN, vI 0, vI 0, vU 0, vU 0, bF, bF, bF, bF, .int .u8 0, .int .u8 8], row (nd10) 99 #[.pointer none, .pointer none, vN, .map none, vN, vN, vI 0, vI 0, vU 0, vU 0, bF, bF, bF, bF, .int .u8 0, .int .u8 6]] X := by
  rw [← hW]
  exact ((hO).alloc' _ (uw13.heap.size) (by simp)).alloc' _ (uw13.heap.size + 1) (by simp)
 clear hW hO
 generalize uw13.heap.size + 1 = B14_1 at hN ⊢
 generalize uw13.heap.size = B14 at hN ⊢
 have hO := hN
 clear hN
 go_loopg [13] 0 (fun gf s13 wx => gf = 0 ∧ s13 = .int .i64 0 ∧ Own w0 wx [row (B14_1) 61 (full stmZ [] 0), row (B14) 31 #[vU 0, vU 0], row (B11) 33 #[vI 7, vU 0, vU 0, bF], row (nd2) 252 ((newPar nd3 nd9 nd10 nd6 nd8).setIfInBounds 106 (.slice (some ⟨nd4, 0, none⟩) 1 (1 + nd5))), row (nd4) 260 (full symZ (symL ([sy ⟨#[95, 115, 116, 97, 99, 107]⟩ 0])) nd5), row (nd6) 107 #[vN, vN, vN, vN, .map (some nd7), .map none, .map none, vN, bF, bF, bF], ((nd7, .map (uA ([])) (uN ([]))) : Rw), ((nd8, .map #[] 0) : Rw), row (nd9) 99 #[.pointer none, vP nd10, vN, .map none, vN, vN, vI 0, vI 0, vU 0, vU 0, bF, bF, bF, bF, .int .u8 0, .int .u8 8], row (nd10) 99 #[.pointer none, .pointer none, vN, .map none, vN, vN, vI 0, vI 0, vU 0, vU 0, bF, bF, bF, bF, .int .u8 0, .int .u8 6]] X)
 case atStart => exact ⟨rfl, rfl, hO⟩
 obtain ⟨rfl, rfl, hO⟩ := hrel
 have hN : Own w0 wr [row (B14_1) 61 (full stmZ (stL D (List.range 0)) 0), row (B14) 31 #[vU 0, vU 0], row (B11) 33 #[vI 7, vU 0, vU 0, bF], row (nd2) 252 ((newPar nd3 nd9 nd10 nd6 nd8).setIfInBounds 106 (.slice (some ⟨nd4, 0, none⟩) 1 (1 + nd5))), row (nd4) 260 (full symZ (symL ([sy ⟨#[95, 115, 116, 97, 99, 107]⟩ 0])) nd5), row (nd6) 107 #[vN, vN, vN, vN, .map (some nd7), .map none, .map none, vN, bF, bF, bF], ((nd7, .map (uA ([])) (uN ([]))) : Rw), ((nd8, .map #[] 0) : Rw), row (nd9) 99 #[.pointer none, vP nd10, vN, .map none, vN, vN, vI 0, vI 0, vU 0, vU 0, bF, bF, bF, bF, .int .u8 0, .int .u8 8], row (nd10) 99 #[.pointer none, .pointer none, vN, .map none, vN, vN, vI 0, vI 0, vU 0, vU 0, bF, bF, bF, bF, .int .u8 0, .int .u8 6]] X := hO.conv rfl
 clear hO
 have hO := hN
 clear hN
 obtain ⟨c9_1_0, c9_1_1, lt9_1, y9_1, -⟩ := hO.k2 1 rfl
 obtain ⟨c9_2_0, c9_2_1, c9_2_2, c9_2_3, lt9_2, y9_2, -⟩ := hO.k4 2 rfl
 have c9_5_3 : wr.cell? ⟨nd6, 3, none⟩ = some (vN) := hO.cell 5 rfl (3) rfl
 have lt9_5 : nd6 < wr.heap.size := hO.lt 5 rfl
 have y9_5 : ∀ o, wr.frozen? ⟨nd6, o, none⟩ = false := hO.free 5 rfl
 have c9_8_5 : wr.cell? ⟨nd9, 5, none⟩ = some (vN) := hO.cell 8 rfl (5) rfl
 have lt9_8 : nd9 < wr.heap.size := hO.lt 8 rfl
 have y9_8 : ∀ o, wr.frozen? ⟨nd9, o, none⟩ = false := hO.free 8 rfl
 have c9_9_5 : wr.cell? ⟨nd10, 5, none⟩ = some (vN) := hO.cell 9 rfl (5) rfl
 have lt9_9 : nd10 < wr.heap.size := hO.lt 9 rfl
 have y9_9 : ∀ o, wr.frozen? ⟨nd10, o, none⟩ = false := hO.free 9 rfl
 have HO := Lib.hid hO
 clear hO
 go_wp2_with (first | (with_reducible refine Own.stay (fn := Tryd.f6) ?_) | (first | (go_at_call 30; go_in) | (go_at_call 31; go_in)))
 try with_reducible refine Own.Stay.mk ?_
 have hO := HO.out
 clear HO c9_1_0 c9_1_1 lt9_1 y9_1 c9_2_0 c9_2_1 c9_2_2 c9_2_3 lt9_2 y9_2 c9_5_3 lt9_5 y9_5 c9_8_5 lt9_8 y9_8 c9_9_5 lt9_9 y9_9
 have hL := hO.apart
 have hX := hO.apartX
 have HL := Lib.hid hL
 have HX := Lib.hid hX
 clear hL hX
 have hP9 := hO.pick [3] (by decide)
 have T9 := curPart nd2 ((newPar nd3 nd9 nd10 nd6 nd8).setIfInBounds 106 (.slice (some ⟨nd4, 0, none⟩) 1 (1 + nd5))) nd6 _ _ _ hP9 (get_other (newPar_105 _ _ _ _ _) (by omega) _)
 refine Calls.mono T9 ?_
 clear hP9 T9
 rintro e uw16 ⟨rfl, hQ⟩
 have hN : Own w0 uw16 [row (nd2) 252 ((newPar nd3 nd9 nd10 nd6 nd8).setIfInBounds 106 (.slice (some ⟨nd4, 0, none⟩) 1 (1 + nd5))), row (B14_1) 61 (full stmZ (stL D (List.range 0)) 0), row (B14) 31 #[vU 0, vU 0], row (B11) 33 #[vI 7, vU 0, vU 0, bF], row (nd4) 260 (full symZ (symL ([sy ⟨#[95, 115, 116, 97, 99, 107]⟩ 0])) nd5), row (nd6) 107 #[vN, vN, vN, vN, .map (some nd7), .map none, .map none, vN, bF, bF, bF], ((nd7, .map (uA ([])) (uN ([]))) : Rw), ((nd8, .map #[] 0) : Rw), row (nd9) 99 #[.pointer none, vP nd10, vN, .map none, vN, vN, vI 0, vI 0, vU 0, vU 0, bF, bF, bF, bF, .int .u8 0, .int .u8 8], row (nd10) 99 #[.pointer none, .pointer none, vN, .map none, vN, vN, vI 0, vI 0, vU 0, vU 0, bF, bF, bF, bF, .int .u8 0, .int .u8 6]] X := hQ.back HL.out HX.out [0, 1, 2, 4, 5, 6, 7, 8, 9] (by decide) (by decide)
 clear hQ HL HX hO
 have hO := hN
 clear hN
 obtain ⟨c9_2_0, c9_2_1, lt9_2, y9_2, -⟩ := hO.k2 2 rfl
 obtain ⟨c9_3_0, c9_3_1, c9_3_2, c9_3_3, lt9_3, y9_3, -⟩ := hO.k4 3 rfl
 have c9_5_3 : uw16.cell? ⟨nd6, 3, none⟩ = some (vN) := hO.cell 5 rfl (3) rfl
 have lt9_5 : nd6 < uw16.heap.size := hO.lt 5 rfl
 have y9_5 : ∀ o, uw16.frozen? ⟨nd6, o, none⟩ = false := hO.free 5 rfl
 have c9_8_5 : uw16.cell? ⟨nd9, 5, none⟩ = some (vN) := hO.cell 8 rfl (5) rfl
 have lt9_8 : nd9 < uw16.heap.size := hO.lt 8 rfl
 have y9_8 : ∀ o, uw16.frozen? ⟨nd9, o, none⟩ = false := hO.free 8 rfl
 have c9_9_5 : uw16.cell? ⟨nd10, 5, none⟩ = some (vN) := hO.cell 9 rfl (5) rfl
 have lt9_9 : nd10 < uw16.heap.size := hO.lt 9 rfl
 have y9_9 : ∀ o, uw16.frozen? ⟨nd10, o, none⟩ = false := hO.free 9 rfl
 have HO := Lib.hid hO
 clear hO
 go_wp2_with (first | (with_reducible refine Own.stay (fn := Tryd.f6) ?_) | (first | (go_at_call 30; go_in) | (go_at_call 31; go_in)))
 try with_reducible refine Own.Stay.mk ?_
 have hO := HO.out
 clear HO c9_2_0 c9_2_1 lt9_2 y9_2 c9_3_0 c9_3_1 c9_3_2 c9_3_3 lt9_3 y9_3 c9_5_3 lt9_5 y9_5 c9_8_5 lt9_8 y9_8 c9_9_5 lt9_9 y9_9
 have hL := hO.apart
 have hX := hO.apartX
 have HL := Lib.hid hL
 have HX := Lib.hid hX
 clear hL hX
 have hP9 := hO.pick [3, 0, 4, 7, 9, 5, 6, 8, 1] (by decide)
 have h9_hn : ([sy ⟨#[95, 115, 116, 97, 99, 107]⟩ 0]).length = 1 := rfl
 have h9_hnb : 1 ≤ 100000 := (by first | assumption | omega | (simp; done) | (simp; omega))
 have h9_hsi : 0 < 1 := (by first | assumption | omega | (simp; done) | (simp; omega))
 have h9_hno : Instr.findNow .string (.string ⟨#[95, 95, 99, 97, 108, 108, 68, 105, 115, 112, 111, 115, 101]⟩) (#[] : Array MapEntry).toList 0 = some none := (by rfl)
 have h9_hnn : 0 ≤ 5000 := (by first | assumption | omega | (simp; done) | (simp; omega))
 have h9_hkd : ∀ i : Nat, i < 0 → D.kd i < 4 := (fun i hi => absurd hi (Nat.not_lt_zero i))
 have T9 := finD0 nd2 ((newPar nd3 nd9 nd10 nd6 nd8).setIfInBounds 106 (.slice (some ⟨nd4, 0, none⟩) 1 (1 + nd5))) nd4 nd5 ([sy ⟨#[95, 115, 116, 97, 99, 107]⟩ 0]) 1 0 nd8 #[] 0 nd10 #[.pointer none, .pointer none, vN, .map none, vN, vN, vI 0, vI 0, vU 0, vU 0, bF, bF, bF, bF, .int .u8 0, .int .u8 6] nd6 #[vN, vN, vN, vN, .map (some nd7), .map none, .map none, vN, bF, bF, bF] nd7 ([]) nd9 #[.pointer none, vP nd10, vN, .map none, vN, vN, vI 0, vI 0, vU 0, vU 0, bF, bF, bF, bF, .int .u8 0, .int .u8 8] B11 7 0 B14_1 D 0 hst _ _ _ hP9 (get_other (newPar_350 _ _ _ _ _) (by omega) _) (get_other (newPar_32 _ _ _ _ _) (by omega) _) (get_other (newPar_105 _ _ _ _ _) (by omega) _) (get_other (newPar_66 _ _ _ _ _) (by omega) _) (get_other (newPar_117 _ _ _ _ _) (by omega) _) (get_other (newPar_187 _ _ _ _ _) (by omega) _) (get_other (newPar_104 _ _ _ _ _) (by omega) _) (get_other (newPar_333 _ _ _ _ _) (by omega) _) (get_other (newPar_23 _ _ _ _ _) (by omega) _) (get_set (newPar_106 _ _ _ _ _) _) h9_hn h9_hnb rfl rfl rfl rfl rfl h9_hsi h9_hno h9_hnn h9_hkd (fun i hi => absurd hi (Nat.not_lt_zero i)) hg0 hg1
 refine Calls.mono T9 ?_
 clear hP9 T9 h9_hn h9_hnb h9_hsi h9_hno h9_hnn h9_hkd
 rintro e uw17 ⟨nd18, nd19, nd20, nd21, nd22, nd23, nd24, nd25, nd26, nd27, nd28, nd29, nd30, nd31, nd32, nd33, nd34, nd35, nd36, nd37, nd38, rfl, pr39, pr40, pr41, pr42, pr43, pr44, pr45, pr46, hQ⟩
 have hN : Own w0 uw17 [row (nd18) 61 (full stmZ (stL D (outs D hst 0) ++ [.iface 42 (vP nd20), vI 7, .iface 67 (vP nd24), vI 7]) nd19), row (nd20) 57 #[.slice (some ⟨nd21, 0, none⟩) 1 1, .int .u8 0, bF, bF], row (nd21) 54 #[.iface 134 (vP nd22), vI 7, .iface 315 (vP nd23), vI 7], row (nd22) 136 #[vU 0, vU 0], row (nd24) 76 #[vP nd25, vP nd26, .slice nd38 (ins D hst 0).length 0, vI 0, vI 7], row (nd26) 116 #[.slice (some ⟨nd27, 0, none⟩) 1 1, vI 0, vI 7], row (nd2) 252 nd34, row (nd28) 260 (full symZ (symL (bump (stF0 ([sy ⟨#[95, 115, 116, 97, 99, 107]⟩ 0]) 0 1) 1)) nd29), row (nd6) 107 nd35, ((nd7, .map (uA nd37) (uN nd37)) : Rw), row (nd9) 99 nd36, row (nd30) 31 (full refZ [vU 0, vU 0, vU 0, vU 1, vU 0, vU (2 : Int), vU 0, vU (3 : Int)] nd31), row (nd32) 113 (full dsyZ [vU 0, vU 0, bF, vU 0, vU 1, bF, vU 0, vU (2 : Int), bF, vU 0, vU (3 : Int), bF] nd33), row (B14_1) 61 (full stmZ (stL D (arrI D hst 0 0)) 0), row (B14) 31 #[vU 0, vU 0]] X := hQ.back HL.out HX.out [2] (by decide) (by decide)
 clear hQ HL HX hO
 have hO := hN
 clear hN
 obtain ⟨c9_1_0, c9_1_1, c9_1_2, c9_1_3, lt9_1, y9_1, -⟩ := hO.k4 1 rfl
 obtain ⟨c9_2_0, c9_2_1, c9_2_2, c9_2_3, lt9_2, y9_2, -⟩ := hO.k4 2 rfl
 obtain ⟨c9_3_0, c9_3_1, lt9_3, y9_3, -⟩ := hO.k2 3 rfl
 obtain ⟨c9_4_0, c9_4_1, c9_4_2, c9_4_3, c9_4_4, lt9_4, y9_4, -⟩ := hO.k5 4 rfl
 obtain ⟨c9_5_0, c9_5_1, c9_5_2, lt9_5, y9_5, -⟩ := hO.k3 5 rfl
 obtain ⟨c9_14_0, c9_14_1, lt9_14, y9_14, -⟩ := hO.k2 14 rfl
 have HO := Lib.hid hO
 clear hO
 go_wp2_with (first | (with_reducible refine Own.stay (fn := Tryd.f6) ?_) | (first | (go_at_call 30; go_in) | (go_at_call 31; go_in)))
 try with_reducible refine Own.Stay.mk ?_
 have hO := HO.out
 clear HO c9_1_0 c9_1_1 c9_1_2 c9_1_3 lt9_1 y9_1 c9_2_0 c9_2_1 c9_2_2 c9_2_3 lt9_2 y9_2 c9_3_0 c9_3_1 lt9_3 y9_3 c9_4_0 c9_4_1 c9_4_2 c9_4_3 c9_4_4 lt9_4 y9_4 c9_5_0 c9_5_1 c9_5_2 lt9_5 y9_5 c9_14_0 c9_14_1 lt9_14 y9_14
 go_loopg [19, 20, 21] 0 (fun gf s19 s20 s21 wx => gf = 0 ∧ s19 = vN ∧ s20 = vN ∧ s21 = .int .i64 0 ∧ Own w0 wx [row (nd18) 61 (full stmZ (stL D (outs D hst 0) ++ [.iface 42 (vP nd20), vI 7, .iface 67 (vP nd24), vI 7]) nd19), row (nd20) 57 #[.slice (some ⟨nd21, 0, none⟩) 1 1, .int .u8 0, bF, bF], row (nd21) 54 #[.iface 134 (vP nd22), vI 7, .iface 315 (vP nd23), vI 7], row (nd22) 136 #[vU 0, vU 0], row (nd24) 76 #[vP nd25, vP nd26, .slice nd38 (ins D hst 0).length 0, vI 0, vI 7], row (nd26) 116 #[.slice (some ⟨nd27, 0, none⟩) 1 1, vI 0, vI 7], row (nd2) 252 nd34, row (nd28) 260 (full symZ (symL (bump (stF0 ([sy ⟨#[95, 115, 116, 97, 99, 107]⟩ 0]) 0 1) 1)) nd29), row (nd6) 107 nd35, ((nd7, .map (uA nd37) (uN nd37)) : Rw), row (nd9) 99 nd36, row (nd30) 31 (full refZ [vU 0, vU 0, vU 0, vU 1, vU 0, vU (2 : Int), vU 0, vU (3 : Int)] nd31), row (nd32) 113 (full dsyZ [vU 0, vU 0, bF, vU 0, vU 1, bF, vU 0, vU (2 : Int), bF, vU 0, vU (3 : Int), bF] nd33), row (B14_1) 61 (full stmZ (stL D (arrI D hst 0 0)) 0), row (B14) 31 #[vU 0, vU 0]] X)
 case atStart => exact ⟨rfl, rfl, rfl, rfl, hO⟩
 obtain ⟨rfl, rfl, rfl, rfl, hO⟩ := hrel
 obtain ⟨c9_1_0, c9_1_1, c9_1_2, c9_1_3, lt9_1, y9_1, -⟩ := hO.k4 1 rfl
 obtain ⟨c9_2_0, c9_2_1, c9_2_2, c9_2_3, lt9_2, y9_2, -⟩ := hO.k4 2 rfl
 obtain ⟨c9_3_0, c9_3_1, lt9_3, y9_3, -⟩ := hO.k2 3 rfl
 obtain ⟨c9_4_0, c9_4_1, c9_4_2, c9_4_3, c9_4_4, lt9_4, y9_4, -⟩ := hO.k5 4 rfl
 obtain ⟨c9_5_0, c9_5_1, c9_5_2, lt9_5, y9_5, -⟩ := hO.k3 5 rfl
 obtain ⟨c9_14_0, c9_14_1, lt9_14, y9_14, -⟩ := hO.k2 14 rfl
 have HO := Lib.hid hO
 clear hO
 go_wp2_with (first | (with_reducible refine Own.stay (fn := Tryd.f6) ?_) | (first | (go_at_call 30; go_in) | (go_at_call 31; go_in)))
 try with_reducible refine Own.Stay.mk ?_
 have hO := HO.out
 clear HO c9_1_0 c9_1_1 c9_1_2 c9_1_3 lt9_1 y9_1 c9_2_0 c9_2_1 c9_2_2 c9_2_3 lt9_2 y9_2 c9_3_0 c9_3_1 lt9_3 y9_3 c9_4_0 c9_4_1 c9_4_2 c9_4_3 c9_4_4 lt9_4 y9_4 c9_5_0 c9_5_1 c9_5_2 lt9_5 y9_5 c9_14_0 c9_14_1 lt9_14 y9_14
 rw [HC9.out]
 have hP9 := hO.pick [0, 1, 2, 3, 4, 5, 8, 10, 11, 12, 13, 14] (by decide)
 exact tl47b0 nd18 nd20 nd21 nd22 nd23 nd24 nd25 nd26 nd27 nd6 nd9 nd30 nd31 nd32 nd33 B14_1 B14 nd19 0 D hst 0 0 1 (2 : Int) (3 : Int) 1 (2 : Int) (3 : Int) nd36 nd35 nd38 none none ((outs D hst 0).length) ((ins D hst 0).length) 0 0 _ _ _ _ _ _ _ _ _ _ _ _ _ _ _ _ _ _ _ _ _ _ _ _ _ _ _ _ _ _ _ _ _ _ _ _ _ _ _ _ _ _ _ _ _ _ _ _ _ _ _ _ _ _ _ _ _ _ _ _ _ _ _ _ _ _ _ _ _ _ _ _ _ _ _ _ _ _ _ _ _ _ _ _ _ _ _ _ _ _ _ _ _ _ _ _ _ _ _ _ _ _ _ _ _ _ _ _ _ _ _ _ _ _ _ _ _ _ _ _ _ _ _ _ _ _ _ _ _ _ _ _ _ _ _ _ _ _ _ _ _ _ _ _ _ _ _ _ _ _ _ _ _ _ _ _ _ _ _ _ _ _ _ _ _ _ _ _ _ _ _ _ _ _ _ _ _ _ _ _ _ _ _ _ _ _ _ _ _ _ _ _ _ _ _ _ _ _ _ _ _ _ _ _ _ _ _ _ _ _ _ _ _ _ _ _ _ _ _ _ _ _ _ _ _ _ _ _ _ _ _ _ _ _ _ _ _ _ _ _ _ _ _ _ _ _ _ _ _ _ _ _ _ _ _ _ _ _ _ _ _ _ _ _ _ _ _ _ _ _ _ _ _ _ _ _ _ _ _ _ _ _ _ _ _ _ _ _ _ _ _ _ _ _ _ _ _ _ _ _ _ _ _ _ _ _ _ _ _ _ _ _ _ _ _ _ _ _ _ _ _ _ _ _ _ _ _ _ _ _ _ _ _ _ w0 wr _ _ (fun w3 h3 => ⟨rfl, h3.weaken fun b o h => Or.inl h⟩) hP9 (by omega) HDl.out rfl rfl pr46 (fun h => absurd h (Nat.not_lt_zero 0)) (fun h => absurd h (Nat.not_lt_zero 0)) pr45 pr44
end Go.Proofs.YtikopplofkemlaaDoor.Use
