/- Row 47: the law up to its loops. No condition. -/
import Derived.Test.YtikopplofkemlaaDoorAbb
import Derived.Test.YtikopplofkemlaaDoorTl47a
import Derived.Test.YtikopplofkemlaaDoorTl47b0
import Derived.Test.YtikopplofkemlaaDoorFinD0
import Derived.Test.YtikopplofkemlaaDoorLs47
import Derived.Test.YtikopplofkemlaaDoorMsc
import Derived.Test.YtikopplofkemlaaDoorFinz0
import Derived.Test.YtikopplofkemlaaDoorSetup
import Derived.Test.YtikopplofkemlaaDoorScn
import Derived.Test.YtikopplofkemlaaDoorCtx
import Derived.Test.YtikopplofkemlaaDoorNewP
import Derived.Test.YtikopplofkemlaaDoorEls
import Derived.Test.YtikopplofkemlaaDoorUmp
import Derived.Test.YtikopplofkemlaaDoorLive
import Derived.Test.YtikopplofkemlaaDoorLoop
import Derived.Test.YtikopplofkemlaaDoorUms
import Derived.Test.YtikopplofkemlaaDoorAppL
import Derived.Test.YtikopplofkemlaaDoorApp
import Derived.Test.YtikopplofkemlaaDoorOwnK
import Derived.Test.YtikopplofkemlaaDoorOwn
import Derived.Test.YtikopplofkemlaaDoorDeepCells
import Derived.Test.YtikopplofkemlaaDoorRows
import Derived.Test.YtikopplofkemlaaDoorUse
namespace Go.Proofs.YtikopplofkemlaaDoor.Use
open Go.ChangeShapes Go.WideShapes Go.ChangeAt Go.RowKit Go.Sort Own
set_option linter.unusedVariables false
theorem _root_.Go.Proofs.YtikopplofkemlaaDoor.Own.Own.backLc {w0 w' : World} {L M : List Rw} {is : List Nat} {X : Nat → Obj → Prop} {D : Dt} {n : Nat} (h : Own w0 w' M (LcX (Own.Rest L is X) D n)) (hL : L.Pairwise fun r s => r.1 ≠ s.1) (hX : ∀ b o, X b o → ∀ r, r ∈ L → r.1 ≠ b) (js : List Nat) (hn : js.Nodup) (hd : ∀ j, j ∈ js → j ∉ is)
  (hty : ∀ r, r ∈ js.filterMap (L[·]?) → (∃ c y, r.2 = .cells c y (0, 0) ∧ y ≠ 57) ∨ ∃ es k, r.2 = .map es k) : Own w0 w' (M ++ js.filterMap (L[·]?)) (LcX X D n) := by
 have hb := (h.weaken (Y := Own.Rest L is X) fun b o hx => Or.inl hx).back hL hX js hn hd
 refine ⟨hb.below, hb.rows, hb.apart, fun b o hx => ?_⟩
 rcases hx with hx | hx
 ·exact hb.frame b o hx
 ·have hf := h.frame b o (Or.inr hx)
  refine ⟨hf.1, hf.2.1, fun r hr => ?_⟩
  rcases List.mem_append.1 hr with hm | hm
  ·exact hf.2.2 r hm
  ·intro e
   have hh := (hb.rows r hr).2
   rw [e, hf.2.1] at hh
   obtain ⟨i, _, _, _, ho⟩ := hx
   have hr2 : r.2 = .cells #[vN, .int .u8 0, bF, bF] 57 (0, 0) := by rw [← ho]; exact (Option.some.inj hh).symm
   rcases hty r hm with ⟨c, y, h1, h2⟩ | ⟨es, k, h1⟩
   ·rw [hr2] at h1
    injection h1 with _ h3
    exact h2 h3.symm
   ·rw [hr2] at h1
    cases h1

def law47s0Post (sa : Addr) (n cp : Nat) (U : Nat → Nat) (hst : Bool) (w0 : World) (X : Nat → Obj → Prop) (e : Ending) (w' : World) : Prop :=
 e = .returned (.bool true) ∧ Own w0 w' [] X
set_option maxRecDepth 100000 in
set_option maxHeartbeats 4000000 in
theorem law47s0 (sa : Addr) (n cp : Nat) (U : Nat → Nat) (hst : Bool) (w0 w : World) (X : Nat → Obj → Prop) (hO : Own w0 w [] X) (hn4 : n ≤ 4096) (hB : ∀ i, i < n → w0.cell? (sa.add i) = some (.int .u8 (U i : Int))) (hu9 : ∀ i : Nat, i < n → U i < 256) (hg0 : w0.cell? ⟨0, 0, none⟩ = some (vU 4294967295)) (hg1 : w0.cell? ⟨0, 1, none⟩ = some (vU 4294967295)) :
  Calls Tryd.prog 6 #[.slice (some sa) n cp, .bool hst, bF] w (law47s0Post sa n cp U hst w0 X) := by
 go_enter Tryd.func6, Tryd.ntmps6
 obtain ⟨c9, hc9⟩ : ∃ c, c = rest47a := ⟨_, rfl⟩
 have HC9 := Lib.hid hc9
 simp only [rest47a, Tryd.f6, Option.getD_some, cutC] at hc9
 rw [← hc9]
 clear hc9
 have hn9 : (n : Int) ≤ 4096 := by omega
 have hn8 : (0 : Int) ≤ (n : Int) := by omega
 have hms := makeStms n (by omega)
 go_wp2_with (first | (with_reducible refine Own.stay (fn := Tryd.f6) ?_) | (at_builtin; refine Own.appStop ?_) | (first | (go_at_call 30; go_in)))
 try with_reducible refine Own.Stay.mk ?_
 have hL := hO.apart
 have hX := hO.apartX
 have HL := Lib.hid hL
 have HX := Lib.hid hX
 clear hL hX
 have hP9 := hO.pick [] (by decide)
 have T9 := copyU8 sa n cp U _ _ _ hP9 hn4 hB
 refine Calls.mono T9 ?_
 clear hP9 T9
 rintro e uw1 ⟨nd2, rfl, hQ⟩
 have hN : Own w0 uw1 [row (nd2) 5 (itR U n)] X := hQ.back HL.out HX.out [] (by decide) (by decide)
 clear hQ HL HX hO
 have hO := hN
 clear hN
 go_wp2_with (first | (with_reducible refine Own.stay (fn := Tryd.f6) ?_) | (at_builtin; refine Own.appStop ?_) | (first | (go_at_call 30; go_in)))
 try with_reducible refine Own.Stay.mk ?_
 have hL := hO.apart
 have hX := hO.apartX
 have HL := Lib.hid hL
 have HX := Lib.hid hX
 clear hL hX
 have hP9 := hO.pick [] (by decide)
 have T9 := setup0  _ _ _ hP9 hg0 hg1
 refine Calls.mono T9 ?_
 clear hP9 T9
 rintro e uw3 ⟨nd4, nd5, nd6, nd7, nd8, nd9, nd10, nd11, nd12, rfl, hQ⟩
 have hN : Own w0 uw3 [row (nd4) 252 ((newPar nd5 nd11 nd12 nd8 nd10).setIfInBounds 106 (.slice (some ⟨nd6, 0, none⟩) 1 (1 + nd7))), row (nd6) 260 (full symZ (symL ([sy ⟨#[95, 115, 116, 97, 99, 107]⟩ 0])) nd7), row (nd8) 107 #[vN, vN, vN, vN, .map (some nd9), .map none, .map none, vN, bF, bF, bF], ((nd9, .map (uA ([])) (uN ([]))) : Rw), ((nd10, .map #[] 0) : Rw), row (nd11) 99 #[.pointer none, vP nd12, vN, .map none, vN, vN, vI 0, vI 0, vU 0, vU 0, bF, bF, bF, bF, .int .u8 0, .int .u8 8], row (nd12) 99 #[.pointer none, .pointer none, vN, .map none, vN, vN, vI 0, vI 0, vU 0, vU 0, bF, bF, bF, bF, .int .u8 0, .int .u8 6], row (nd2) 5 (itR U n)] X := hQ.back HL.out HX.out [0] (by decide) (by decide)
 clear hQ HL HX hO
 have hO := hN
 clear hN
 have c9_2_3 : uw3.cell? ⟨nd8, 3, none⟩ = some (vN) := hO.cell 2 rfl (3) rfl
 have lt9_2 : nd8 < uw3.heap.size := hO.lt 2 rfl
 have y9_2 : ∀ o, uw3.frozen? ⟨nd8, o, none⟩ = false := hO.free 2 rfl
 have c9_5_5 : uw3.cell? ⟨nd11, 5, none⟩ = some (vN) := hO.cell 5 rfl (5) rfl
 have lt9_5 : nd11 < uw3.heap.size := hO.lt 5 rfl
 have y9_5 : ∀ o, uw3.frozen? ⟨nd11, o, none⟩ = false := hO.free 5 rfl
 have c9_6_5 : uw3.cell? ⟨nd12, 5, none⟩ = some (vN) := hO.cell 6 rfl (5) rfl
 have lt9_6 : nd12 < uw3.heap.size := hO.lt 6 rfl
 have y9_6 : ∀ o, uw3.frozen? ⟨nd12, o, none⟩ = false := hO.free 6 rfl
 have HO := Lib.hid hO
 clear hO
 go_wp2_with (first | (with_reducible refine Own.stay (fn := Tryd.f6) ?_) | (at_builtin; refine Own.appStop ?_) | (first | (go_at_call 30; go_in)))
 try with_reducible refine Own.Stay.mk ?_
 have hO := HO.out
 clear HO c9_2_3 lt9_2 y9_2 c9_5_5 lt9_5 y9_5 c9_6_5 lt9_6 y9_6
 generalize hW : World.alloc _ _ = W14
 have hN : Own w0 W14 [row (uw3.heap.size) 33 #[vI 7, vU 0, vU 0, bF], row (nd4) 252 ((newPar nd5 nd11 nd12 nd8 nd10).setIfInBounds 106 (.slice (some ⟨nd6, 0, none⟩) 1 (1 + nd7))), row (nd6) 260 (full symZ (symL ([sy ⟨#[95, 115, 116, 97, 99, 107]⟩ 0])) nd7), row (nd8) 107 #[vN, vN, vN, vN, .map (some nd9), .map none, .map none, vN, bF, bF, bF], ((nd9, .map (uA ([])) (uN ([]))) : Rw), ((nd10, .map #[] 0) : Rw), row (nd11) 99 #[.pointer none, vP nd12, vN, .map none, vN, vN, vI 0, vI 0, vU 0, vU 0, bF, bF, bF, bF, .int .u8 0, .int .u8 8], row (nd12) 99 #[.pointer none, .pointer none, vN, .map none, vN, vN, vI 0, vI 0, vU 0, vU 0, bF, bF, bF, bF, .int .u8 0, .int .u8 6], row (nd2) 5 (itR U n)] X := by
  rw [← hW]
  exact (hO).alloc' _ (uw3.heap.size) (by simp)
 clear hW hO
 generalize uw3.heap.size = B13 at hN ⊢
 have hO := hN
 clear hN
 have hL := hO.apart
 have hX := hO.apartX
 have HL := Lib.hid hL
 have HX := Lib.hid hX
 clear hL hX
 have hP9 := hO.pick [0] (by decide)
 have T9 := ctxStack B13 7 0 0 false _ _ _ hP9 
 refine Calls.mono T9 ?_
 clear hP9 T9
 rintro e uw15 ⟨rfl, hQ⟩
 have hN : Own w0 uw15 [row (B13) 33 #[vI 7, vU 0, vU 0, bF], row (nd4) 252 ((newPar nd5 nd11 nd12 nd8 nd10).setIfInBounds 106 (.slice (some ⟨nd6, 0, none⟩) 1 (1 + nd7))), row (nd6) 260 (full symZ (symL ([sy ⟨#[95, 115, 116, 97, 99, 107]⟩ 0])) nd7), row (nd8) 107 #[vN, vN, vN, vN, .map (some nd9), .map none, .map none, vN, bF, bF, bF], ((nd9, .map (uA ([])) (uN ([]))) : Rw), ((nd10, .map #[] 0) : Rw), row (nd11) 99 #[.pointer none, vP nd12, vN, .map none, vN, vN, vI 0, vI 0, vU 0, vU 0, bF, bF, bF, bF, .int .u8 0, .int .u8 8], row (nd12) 99 #[.pointer none, .pointer none, vN, .map none, vN, vN, vI 0, vI 0, vU 0, vU 0, bF, bF, bF, bF, .int .u8 0, .int .u8 6], row (nd2) 5 (itR U n)] X := hQ.back HL.out HX.out [1, 2, 3, 4, 5, 6, 7, 8] (by decide) (by decide)
 clear hQ HL HX hO
 have hO := hN
 clear hN
 obtain ⟨c9_0_0, c9_0_1, c9_0_2, c9_0_3, lt9_0, y9_0, -⟩ := hO.k4 0 rfl
 have c9_3_3 : uw15.cell? ⟨nd8, 3, none⟩ = some (vN) := hO.cell 3 rfl (3) rfl
 have lt9_3 : nd8 < uw15.heap.size := hO.lt 3 rfl
 have y9_3 : ∀ o, uw15.frozen? ⟨nd8, o, none⟩ = false := hO.free 3 rfl
 have c9_6_5 : uw15.cell? ⟨nd11, 5, none⟩ = some (vN) := hO.cell 6 rfl (5) rfl
 have lt9_6 : nd11 < uw15.heap.size := hO.lt 6 rfl
 have y9_6 : ∀ o, uw15.frozen? ⟨nd11, o, none⟩ = false := hO.free 6 rfl
 have c9_7_5 : uw15.cell? ⟨nd12, 5, none⟩ = some (vN) := hO.cell 7 rfl (5) rfl
 have lt9_7 : nd12 < uw15.heap.size := hO.lt 7 rfl
 have y9_7 : ∀ o, uw15.frozen? ⟨nd12, o, none⟩ = false := hO.free 7 rfl
 have HO := Lib.hid hO
 clear hO
 go_wp2_with (first | (with_reducible refine Own.stay (fn := Tryd.f6) ?_) | (at_builtin; refine Own.appStop ?_) | (first | (go_at_call 30; go_in)))
 try with_reducible refine Own.Stay.mk ?_
 have hO := HO.out
 clear HO c9_0_0 c9_0_1 c9_0_2 c9_0_3 lt9_0 y9_0 c9_3_3 lt9_3 y9_3 c9_6_5 lt9_6 y9_6 c9_7_5 lt9_7 y9_7
 generalize hW : World.alloc _ _ = W17
 have hN : Own w0 W17 [row (uw15.heap.size + 1) 61 (full stmZ [] n), row (uw15.heap.size) 31 #[vU 0, vU 0], row (B13) 33 #[vI 7, vU 0, vU 0, bF], row (nd4) 252 ((newPar nd5 nd11 nd12 nd8 nd10).setIfInBounds 106 (.slice (some ⟨nd6, 0, none⟩) 1 (1 + nd7))), row (nd6) 260 (full symZ (symL ([sy ⟨#[95, 115, 116, 97, 99, 107]⟩ 0])) nd7), row (nd8) 107 #[vN, vN, vN, vN, .map (some nd9), .map none, .map none, vN, bF, bF, bF], ((nd9, .map (uA ([])) (uN ([]))) : Rw), ((nd10, .map #[] 0) : Rw), row (nd11) 99 #[.pointer none, vP nd12, vN, .map none, vN, vN, vI 0, vI 0, vU 0, vU 0, bF, bF, bF, bF, .int .u8 0, .int .u8 8], row (nd12) 99 #[.pointer none, .pointer none, vN, .map none, vN, vN, vI 0, vI 0, vU 0, vU 0, bF, bF, bF, bF, .int .u8 0, .int .u8 6], row (nd2) 5 (itR U n)] X := by
  rw [← hW]
  exact ((hO).alloc' _ (uw15.heap.size) (by simp)).alloc' _ (uw15.heap.size + 1) (by simp)
 clear hW hO
 generalize uw15.heap.size + 1 = B16_1 at hN ⊢
 generalize uw15.heap.size = B16 at hN ⊢
 have hO := hN
 clear hN
 have hL := hO.apart
 have hX := hO.apartX
 have HLa := Lib.hid hL
 have HXa := Lib.hid hX
 clear hL hX
 have hP9 := hO.pick [0, 10] (by decide)
 generalize hX9 : Own.Rest _ _ X = X9a at hP9
 have HXEa := Lib.hid hX9
 clear hX9
 have hN : Own w0 W17 [row (B16_1) 61 (full stmZ [] n), row (nd2) 5 (itR U n)] X9a := hP9
 clear hO hP9
 have hO := hN
 clear hN
 go_loopg [13] n (fun gf s13 wx => ∃ (i : Nat) (D : Dt), i + gf = n ∧ s13 = .int .i64 (i : Int) ∧ D.kd = (fun j => U j % 4) ∧ D.lc = (fun j : Nat => (j : Int) + 1) ∧ Own w0 wx [row (B16_1) 61 (stR D i gf), row (nd2) 5 (itR U n)] (LcX X9a D i))
 case atStart => exact ⟨0, ⟨fun j => U j % 4, fun _ => 0, fun j => (j : Int) + 1⟩, by omega, rfl, rfl, rfl, (hO.weaken (Y := LcX X9a _ 0) (fun b o h => h.zero)).conv rfl⟩
 obtain ⟨i, D, hin, rfl, hDk, hDl, hO⟩ := hrel
 by_cases hlt : i < n
 ·skip
  obtain ⟨gq, rfl⟩ : ∃ gq, gk = gq + 1 := ⟨gk - 1, by omega⟩
  have hlt9 : (i : Int) < (n : Int) := by omega
  have hi8 : (0 : Int) ≤ (i : Int) := by omega
  have hi7 : (i : Int) ≤ 4096 := by omega
  have hku := hu9 i hlt
  have hw32 : IntKind.i32.wrap ((i : Int) + 1) = (i : Int) + 1 := by rw [IntKind.wrap_i32]; omega
  by_cases hk : U i % 4 = 0
  ·skip
   have hrm : (U i : Int).tmod 4 = 0 := by have h9 : (U i : Int).tmod 4 = ((U i % 4 : Nat) : Int) := rfl; rw [h9]; omega
   have hkd : D.kd i = 0 := by rw [hDk]; exact hk
   have HD := Lib.hid (And.intro hDk hDl)
   clear hDk hDl
   have HK := Lib.hid hk
   clear hk
   have HKD := Lib.hid hkd
   clear hkd
   generalize hY : LcX X9a D i = Yf at hO
   have HY := Lib.hid hY
   clear hY
   obtain ⟨ix9, hix9, hax9, hjx9⟩ := hO.ix
   have ix9_0 : ix9 B16_1 = 0 := hjx9 0 _ _ rfl
   have ix9_1 : ix9 nd2 = 1 := hjx9 1 _ _ rfl
   clear hjx9
   have c9_0_i_2 : wr.cell? ⟨B16_1, i * 2, none⟩ = some (.nilIface) := hO.cell 0 rfl (i * 2) ((stR_at0 D i gq))
   have c9_0_i_2_1 : wr.cell? ⟨B16_1, i * 2 + 1, none⟩ = some (vI 0) := hO.cell 0 rfl (i * 2 + 1) ((stR_at1 D i gq))
   have lt9_0 : B16_1 < wr.heap.size := hO.lt 0 rfl
   have y9_0 : ∀ o, wr.frozen? ⟨B16_1, o, none⟩ = false := hO.free 0 rfl
   have c9_1_i : wr.cell? ⟨nd2, i, none⟩ = some (.int .u8 (U i : Int)) := hO.cell 1 rfl (i) ((itR_get hlt))
   have lt9_1 : nd2 < wr.heap.size := hO.lt 1 rfl
   have y9_1 : ∀ o, wr.frozen? ⟨nd2, o, none⟩ = false := hO.free 1 rfl
   have HO := Lib.hid hO
   clear hO
   go_wp2_with (first | (with_reducible refine Own.stay (fn := Tryd.f6) ?_) | (at_builtin; refine Own.appStop ?_) | (first | (go_at_call 30; go_in)))
   try with_reducible refine Own.Stay.mk ?_
   have hO := HO.out
   clear HO hix9 hax9 ix9_0 ix9_1 ix9 c9_0_i_2 c9_0_i_2_1 lt9_0 y9_0 c9_1_i lt9_1 y9_1
   have hL := hO.apart
   have hX := hO.apartX
   have HL := Lib.hid hL
   have HX := Lib.hid hX
   clear hL hX
   have hP9 := hO.pick [] (by decide)
   have T9 := emptyS ((i : Int) + 1) _ _ _ hP9 
   refine Calls.mono T9 ?_
   clear hP9 T9
   rintro e uw18 ⟨nd19, rfl, hQ⟩
   have hN : Own w0 uw18 [row (nd19) 277 #[], row (B16_1) 61 (stR D i (gq + 1)), row (nd2) 5 (itR U n)] Yf := hQ.back HL.out HX.out [0, 1] (by decide) (by decide)
   clear hQ HL HX hO
   have hO := hN
   clear hN
   obtain ⟨ix9, hix9, hax9, hjx9⟩ := hO.ix
   have ix9_0 : ix9 nd19 = 0 := hjx9 0 _ _ rfl
   have ix9_1 : ix9 B16_1 = 1 := hjx9 1 _ _ rfl
   have ix9_2 : ix9 nd2 = 2 := hjx9 2 _ _ rfl
   clear hjx9
   obtain ⟨lt9_0, y9_0, -⟩ := hO.k0 0 rfl
   have c9_1_i_2 : uw18.cell? ⟨B16_1, i * 2, none⟩ = some (.nilIface) := hO.cell 1 rfl (i * 2) ((stR_at0 D i gq))
   have c9_1_i_2_1 : uw18.cell? ⟨B16_1, i * 2 + 1, none⟩ = some (vI 0) := hO.cell 1 rfl (i * 2 + 1) ((stR_at1 D i gq))
   have lt9_1 : B16_1 < uw18.heap.size := hO.lt 1 rfl
   have y9_1 : ∀ o, uw18.frozen? ⟨B16_1, o, none⟩ = false := hO.free 1 rfl
   have c9_2_i : uw18.cell? ⟨nd2, i, none⟩ = some (.int .u8 (U i : Int)) := hO.cell 2 rfl (i) ((itR_get hlt))
   have lt9_2 : nd2 < uw18.heap.size := hO.lt 2 rfl
   have y9_2 : ∀ o, uw18.frozen? ⟨nd2, o, none⟩ = false := hO.free 2 rfl
   have HO := Lib.hid hO
   clear hO
   go_wp2_with (first | (with_reducible refine Own.stay (fn := Tryd.f6) ?_) | (at_builtin; refine Own.appStop ?_) | (first | (go_at_call 30; go_in)))
   try with_reducible refine Own.Stay.mk ?_
   have hO := HO.out
   clear HO hix9 hax9 ix9_0 ix9_1 ix9_2 ix9 lt9_0 y9_0 c9_1_i_2 c9_1_i_2_1 lt9_1 y9_1 c9_2_i lt9_2 y9_2
   generalize hW : World.setCell _ _ _ = W21
   have hN : Own w0 W21 [row (nd19) 277 #[], row (B16_1) 61 (((stR D i (gq + 1)).setIfInBounds (i * 2) (.iface 275 (vP nd19))).setIfInBounds (i * 2 + 1) (vI ((i : Int) + 1))), row (nd2) 5 (itR U n)] Yf := by
    rw [← hW]
    exact ((hO).set 1 rfl (i * 2) _).set 1 rfl (i * 2 + 1) _
   clear hW hO
   have hO := hN
   clear hN
   rw [← HY.out] at hO
   obtain ⟨hDk, hDl⟩ := HD.out
   have hN := (hO.sub [1, 2] (by decide)).weaken (LcX.skip nd19 (by rw [HKD.out]; decide))
   have hM : Own w0 W21 [row (B16_1) 61 (stR (updT D i nd19) (i + 1) gq), row (nd2) 5 (itR U n)] (LcX X9a (updT D i nd19) (i + 1)) := hN.conv (by
    rw [← stR_next D i gq nd19 _ _ (by
     unfold stC
     rw [show (updT D i nd19).kd i = 0 from HKD.out, updT_ad, show (updT D i nd19).lc i = (i : Int) + 1 from by show D.lc i = _; rw [hDl]])]
    rfl)
   go_roundg gq
   case measure => omega
   case rel => exact ⟨i + 1, updT D i nd19, by omega, by first | rfl | simp, hDk, hDl, hM⟩
  have HN0 := Lib.hid hk
  clear hk
  by_cases hk : U i % 4 = 1
  ·skip
   have hrm : (U i : Int).tmod 4 = 1 := by have h9 : (U i : Int).tmod 4 = ((U i % 4 : Nat) : Int) := rfl; rw [h9]; omega
   have hkd : D.kd i = 1 := by rw [hDk]; exact hk
   have HD := Lib.hid (And.intro hDk hDl)
   clear hDk hDl
   have HK := Lib.hid hk
   clear hk
   have HKD := Lib.hid hkd
   clear hkd
   generalize hY : LcX X9a D i = Yf at hO
   have HY := Lib.hid hY
   clear hY
   obtain ⟨ix9, hix9, hax9, hjx9⟩ := hO.ix
   have ix9_0 : ix9 B16_1 = 0 := hjx9 0 _ _ rfl
   have ix9_1 : ix9 nd2 = 1 := hjx9 1 _ _ rfl
   clear hjx9
   have c9_0_i_2 : wr.cell? ⟨B16_1, i * 2, none⟩ = some (.nilIface) := hO.cell 0 rfl (i * 2) ((stR_at0 D i gq))
   have c9_0_i_2_1 : wr.cell? ⟨B16_1, i * 2 + 1, none⟩ = some (vI 0) := hO.cell 0 rfl (i * 2 + 1) ((stR_at1 D i gq))
   have lt9_0 : B16_1 < wr.heap.size := hO.lt 0 rfl
   have y9_0 : ∀ o, wr.frozen? ⟨B16_1, o, none⟩ = false := hO.free 0 rfl
   have c9_1_i : wr.cell? ⟨nd2, i, none⟩ = some (.int .u8 (U i : Int)) := hO.cell 1 rfl (i) ((itR_get hlt))
   have lt9_1 : nd2 < wr.heap.size := hO.lt 1 rfl
   have y9_1 : ∀ o, wr.frozen? ⟨nd2, o, none⟩ = false := hO.free 1 rfl
   have HO := Lib.hid hO
   clear hO
   go_wp2_with (first | (with_reducible refine Own.stay (fn := Tryd.f6) ?_) | (at_builtin; refine Own.appStop ?_) | (first | (go_at_call 30; go_in)))
   try with_reducible refine Own.Stay.mk ?_
   have hO := HO.out
   clear HO hix9 hax9 ix9_0 ix9_1 ix9 c9_0_i_2 c9_0_i_2_1 lt9_0 y9_0 c9_1_i lt9_1 y9_1
   have hL := hO.apart
   have hX := hO.apartX
   have HL := Lib.hid hL
   have HX := Lib.hid hX
   clear hL hX
   have hP9 := hO.pick [] (by decide)
   have T9 := dirS ((i : Int) + 1) _ _ _ hP9 
   refine Calls.mono T9 ?_
   clear hP9 T9
   rintro e uw22 ⟨nd23, rfl, hQ⟩
   have hN : Own w0 uw22 [row (nd23) 280 #[vN, vI 0], row (B16_1) 61 (stR D i (gq + 1)), row (nd2) 5 (itR U n)] Yf := hQ.back HL.out HX.out [0, 1] (by decide) (by decide)
   clear hQ HL HX hO
   have hO := hN
   clear hN
   obtain ⟨ix9, hix9, hax9, hjx9⟩ := hO.ix
   have ix9_0 : ix9 nd23 = 0 := hjx9 0 _ _ rfl
   have ix9_1 : ix9 B16_1 = 1 := hjx9 1 _ _ rfl
   have ix9_2 : ix9 nd2 = 2 := hjx9 2 _ _ rfl
   clear hjx9
   obtain ⟨c9_0_0, c9_0_1, lt9_0, y9_0, -⟩ := hO.k2 0 rfl
   have c9_1_i_2 : uw22.cell? ⟨B16_1, i * 2, none⟩ = some (.nilIface) := hO.cell 1 rfl (i * 2) ((stR_at0 D i gq))
   have c9_1_i_2_1 : uw22.cell? ⟨B16_1, i * 2 + 1, none⟩ = some (vI 0) := hO.cell 1 rfl (i * 2 + 1) ((stR_at1 D i gq))
   have lt9_1 : B16_1 < uw22.heap.size := hO.lt 1 rfl
   have y9_1 : ∀ o, uw22.frozen? ⟨B16_1, o, none⟩ = false := hO.free 1 rfl
   have c9_2_i : uw22.cell? ⟨nd2, i, none⟩ = some (.int .u8 (U i : Int)) := hO.cell 2 rfl (i) ((itR_get hlt))
   have lt9_2 : nd2 < uw22.heap.size := hO.lt 2 rfl
   have y9_2 : ∀ o, uw22.frozen? ⟨nd2, o, none⟩ = false := hO.free 2 rfl
   have HO := Lib.hid hO
   clear hO
   go_wp2_with (first | (with_reducible refine Own.stay (fn := Tryd.f6) ?_) | (at_builtin; refine Own.appStop ?_) | (first | (go_at_call 30; go_in)))
   try with_reducible refine Own.Stay.mk ?_
   have hO := HO.out
   clear HO hix9 hax9 ix9_0 ix9_1 ix9_2 ix9 c9_0_0 c9_0_1 lt9_0 y9_0 c9_1_i_2 c9_1_i_2_1 lt9_1 y9_1 c9_2_i lt9_2 y9_2
   generalize hW : World.setCell _ _ _ = W25
   have hN : Own w0 W25 [row (nd23) 280 #[vN, vI 0], row (B16_1) 61 (((stR D i (gq + 1)).setIfInBounds (i * 2) (.iface 278 (vP nd23))).setIfInBounds (i * 2 + 1) (vI ((i : Int) + 1))), row (nd2) 5 (itR U n)] Yf := by
    rw [← hW]
    exact ((hO).set 1 rfl (i * 2) _).set 1 rfl (i * 2 + 1) _
   clear hW hO
   have hO := hN
   clear hN
   rw [← HY.out] at hO
   obtain ⟨hDk, hDl⟩ := HD.out
   have hN := (hO.sub [1, 2] (by decide)).weaken (LcX.skip nd23 (by rw [HKD.out]; decide))
   have hM : Own w0 W25 [row (B16_1) 61 (stR (updT D i nd23) (i + 1) gq), row (nd2) 5 (itR U n)] (LcX X9a (updT D i nd23) (i + 1)) := hN.conv (by
    rw [← stR_next D i gq nd23 _ _ (by
     unfold stC
     rw [show (updT D i nd23).kd i = 1 from HKD.out, updT_ad, show (updT D i nd23).lc i = (i : Int) + 1 from by show D.lc i = _; rw [hDl]])]
    rfl)
   go_roundg gq
   case measure => omega
   case rel => exact ⟨i + 1, updT D i nd23, by omega, by first | rfl | simp, hDk, hDl, hM⟩
  have HN1 := Lib.hid hk
  clear hk
  by_cases hk : U i % 4 = 2
  ·skip
   have hrm : (U i : Int).tmod 4 = 2 := by have h9 : (U i : Int).tmod 4 = ((U i % 4 : Nat) : Int) := rfl; rw [h9]; omega
   have hkd : D.kd i = 2 := by rw [hDk]; exact hk
   have HD := Lib.hid (And.intro hDk hDl)
   clear hDk hDl
   have HK := Lib.hid hk
   clear hk
   have HKD := Lib.hid hkd
   clear hkd
   generalize hY : LcX X9a D i = Yf at hO
   have HY := Lib.hid hY
   clear hY
   obtain ⟨ix9, hix9, hax9, hjx9⟩ := hO.ix
   have ix9_0 : ix9 B16_1 = 0 := hjx9 0 _ _ rfl
   have ix9_1 : ix9 nd2 = 1 := hjx9 1 _ _ rfl
   clear hjx9
   have c9_0_i_2 : wr.cell? ⟨B16_1, i * 2, none⟩ = some (.nilIface) := hO.cell 0 rfl (i * 2) ((stR_at0 D i gq))
   have c9_0_i_2_1 : wr.cell? ⟨B16_1, i * 2 + 1, none⟩ = some (vI 0) := hO.cell 0 rfl (i * 2 + 1) ((stR_at1 D i gq))
   have lt9_0 : B16_1 < wr.heap.size := hO.lt 0 rfl
   have y9_0 : ∀ o, wr.frozen? ⟨B16_1, o, none⟩ = false := hO.free 0 rfl
   have c9_1_i : wr.cell? ⟨nd2, i, none⟩ = some (.int .u8 (U i : Int)) := hO.cell 1 rfl (i) ((itR_get hlt))
   have lt9_1 : nd2 < wr.heap.size := hO.lt 1 rfl
   have y9_1 : ∀ o, wr.frozen? ⟨nd2, o, none⟩ = false := hO.free 1 rfl
   have HO := Lib.hid hO
   clear hO
   go_wp2_with (first | (with_reducible refine Own.stay (fn := Tryd.f6) ?_) | (at_builtin; refine Own.appStop ?_) | (first | (go_at_call 30; go_in)))
   try with_reducible refine Own.Stay.mk ?_
   have hO := HO.out
   clear HO hix9 hax9 ix9_0 ix9_1 ix9 c9_0_i_2 c9_0_i_2_1 lt9_0 y9_0 c9_1_i lt9_1 y9_1
   have hL := hO.apart
   have hX := hO.apartX
   have HL := Lib.hid hL
   have HX := Lib.hid hX
   clear hL hX
   have hP9 := hO.pick [] (by decide)
   have T9 := funS ((i : Int) + 1) _ _ _ hP9 
   refine Calls.mono T9 ?_
   clear hP9 T9
   rintro e uw26 ⟨nd27, rfl, hQ⟩
   have hN : Own w0 uw26 [row (nd27) 288 #[.pointer none, vN, vN, vI 0, vI 0, vU 0, vU 0, vI 0, bF, bF, bF, bF, bF, bF, bF], row (B16_1) 61 (stR D i (gq + 1)), row (nd2) 5 (itR U n)] Yf := hQ.back HL.out HX.out [0, 1] (by decide) (by decide)
   clear hQ HL HX hO
   have hO := hN
   clear hN
   obtain ⟨ix9, hix9, hax9, hjx9⟩ := hO.ix
   have ix9_0 : ix9 nd27 = 0 := hjx9 0 _ _ rfl
   have ix9_1 : ix9 B16_1 = 1 := hjx9 1 _ _ rfl
   have ix9_2 : ix9 nd2 = 2 := hjx9 2 _ _ rfl
   clear hjx9
   have c9_1_i_2 : uw26.cell? ⟨B16_1, i * 2, none⟩ = some (.nilIface) := hO.cell 1 rfl (i * 2) ((stR_at0 D i gq))
   have c9_1_i_2_1 : uw26.cell? ⟨B16_1, i * 2 + 1, none⟩ = some (vI 0) := hO.cell 1 rfl (i * 2 + 1) ((stR_at1 D i gq))
   have lt9_1 : B16_1 < uw26.heap.size := hO.lt 1 rfl
   have y9_1 : ∀ o, uw26.frozen? ⟨B16_1, o, none⟩ = false := hO.free 1 rfl
   have c9_2_i : uw26.cell? ⟨nd2, i, none⟩ = some (.int .u8 (U i : Int)) := hO.cell 2 rfl (i) ((itR_get hlt))
   have lt9_2 : nd2 < uw26.heap.size := hO.lt 2 rfl
   have y9_2 : ∀ o, uw26.frozen? ⟨nd2, o, none⟩ = false := hO.free 2 rfl
   have HO := Lib.hid hO
   clear hO
   go_wp2_with (first | (with_reducible refine Own.stay (fn := Tryd.f6) ?_) | (at_builtin; refine Own.appStop ?_) | (first | (go_at_call 30; go_in)))
   try with_reducible refine Own.Stay.mk ?_
   have hO := HO.out
   clear HO hix9 hax9 ix9_0 ix9_1 ix9_2 ix9 c9_1_i_2 c9_1_i_2_1 lt9_1 y9_1 c9_2_i lt9_2 y9_2
   generalize hW : World.setCell _ _ _ = W29
   have hN : Own w0 W29 [row (nd27) 288 #[.pointer none, vN, vN, vI 0, vI 0, vU 0, vU 0, vI 0, bF, bF, bF, bF, bF, bF, bF], row (B16_1) 61 (((stR D i (gq + 1)).setIfInBounds (i * 2) (.iface 281 (vP nd27))).setIfInBounds (i * 2 + 1) (vI ((i : Int) + 1))), row (nd2) 5 (itR U n)] Yf := by
    rw [← hW]
    exact ((hO).set 1 rfl (i * 2) _).set 1 rfl (i * 2 + 1) _
   clear hW hO
   have hO := hN
   clear hN
   rw [← HY.out] at hO
   obtain ⟨hDk, hDl⟩ := HD.out
   have hN := (hO.sub [1, 2] (by decide)).weaken (LcX.skip nd27 (by rw [HKD.out]; decide))
   have hM : Own w0 W29 [row (B16_1) 61 (stR (updT D i nd27) (i + 1) gq), row (nd2) 5 (itR U n)] (LcX X9a (updT D i nd27) (i + 1)) := hN.conv (by
    rw [← stR_next D i gq nd27 _ _ (by
     unfold stC
     rw [show (updT D i nd27).kd i = 2 from HKD.out, updT_ad, show (updT D i nd27).lc i = (i : Int) + 1 from by show D.lc i = _; rw [hDl]])]
    rfl)
   go_roundg gq
   case measure => omega
   case rel => exact ⟨i + 1, updT D i nd27, by omega, by first | rfl | simp, hDk, hDl, hM⟩
  have HN2 := Lib.hid hk
  clear hk
  have hk : U i % 4 = 3 := by have := HN0.out; have := HN1.out; have := HN2.out; omega
  ·skip
   have hrm : (U i : Int).tmod 4 = 3 := by have h9 : (U i : Int).tmod 4 = ((U i % 4 : Nat) : Int) := rfl; rw [h9]; omega
   have hkd : D.kd i = 3 := by rw [hDk]; exact hk
   have HD := Lib.hid (And.intro hDk hDl)
   clear hDk hDl
   have HK := Lib.hid hk
   clear hk
   have HKD := Lib.hid hkd
   clear hkd
   generalize hY : LcX X9a D i = Yf at hO
   have HY := Lib.hid hY
   clear hY
   obtain ⟨ix9, hix9, hax9, hjx9⟩ := hO.ix
   have ix9_0 : ix9 B16_1 = 0 := hjx9 0 _ _ rfl
   have ix9_1 : ix9 nd2 = 1 := hjx9 1 _ _ rfl
   clear hjx9
   have c9_0_i_2 : wr.cell? ⟨B16_1, i * 2, none⟩ = some (.nilIface) := hO.cell 0 rfl (i * 2) ((stR_at0 D i gq))
   have c9_0_i_2_1 : wr.cell? ⟨B16_1, i * 2 + 1, none⟩ = some (vI 0) := hO.cell 0 rfl (i * 2 + 1) ((stR_at1 D i gq))
   have lt9_0 : B16_1 < wr.heap.size := hO.lt 0 rfl
   have y9_0 : ∀ o, wr.frozen? ⟨B16_1, o, none⟩ = false := hO.free 0 rfl
   have c9_1_i : wr.cell? ⟨nd2, i, none⟩ = some (.int .u8 (U i : Int)) := hO.cell 1 rfl (i) ((itR_get hlt))
   have lt9_1 : nd2 < wr.heap.size := hO.lt 1 rfl
   have y9_1 : ∀ o, wr.frozen? ⟨nd2, o, none⟩ = false := hO.free 1 rfl
   have HO := Lib.hid hO
   clear hO
   go_wp2_with (first | (with_reducible refine Own.stay (fn := Tryd.f6) ?_) | (at_builtin; refine Own.appStop ?_) | (first | (go_at_call 30; go_in)))
   try with_reducible refine Own.Stay.mk ?_
   have hO := HO.out
   clear HO hix9 hax9 ix9_0 ix9_1 ix9 c9_0_i_2 c9_0_i_2_1 lt9_0 y9_0 c9_1_i lt9_1 y9_1
   generalize hW : World.alloc _ _ = W31
   have hN : Own w0 W31 [row (wr.heap.size) 57 #[vN, .int .u8 0, bF, bF], row (B16_1) 61 (stR D i (gq + 1)), row (nd2) 5 (itR U n)] Yf := by
    rw [← hW]
    exact (hO).alloc' _ (wr.heap.size) (by simp)
   clear hW hO
   generalize wr.heap.size = B30 at hN ⊢
   have hO := hN
   clear hN
   have hL := hO.apart
   have hX := hO.apartX
   have HL := Lib.hid hL
   have HX := Lib.hid hX
   clear hL hX
   have hP9 := hO.pick [] (by decide)
   have T9 := localStmt B30 ((i : Int) + 1) _ _ _ hP9 
   refine Calls.mono T9 ?_
   clear hP9 T9
   rintro e uw32 ⟨rfl, hQ⟩
   have hN : Own w0 uw32 [row (B30) 57 #[vN, .int .u8 0, bF, bF], row (B16_1) 61 (stR D i (gq + 1)), row (nd2) 5 (itR U n)] Yf := hQ.back HL.out HX.out [0, 1, 2] (by decide) (by decide)
   clear hQ HL HX hO
   have hO := hN
   clear hN
   obtain ⟨ix9, hix9, hax9, hjx9⟩ := hO.ix
   have ix9_0 : ix9 B30 = 0 := hjx9 0 _ _ rfl
   have ix9_1 : ix9 B16_1 = 1 := hjx9 1 _ _ rfl
   have ix9_2 : ix9 nd2 = 2 := hjx9 2 _ _ rfl
   clear hjx9
   obtain ⟨c9_0_0, c9_0_1, c9_0_2, c9_0_3, lt9_0, y9_0, -⟩ := hO.k4 0 rfl
   have c9_1_i_2 : uw32.cell? ⟨B16_1, i * 2, none⟩ = some (.nilIface) := hO.cell 1 rfl (i * 2) ((stR_at0 D i gq))
   have c9_1_i_2_1 : uw32.cell? ⟨B16_1, i * 2 + 1, none⟩ = some (vI 0) := hO.cell 1 rfl (i * 2 + 1) ((stR_at1 D i gq))
   have lt9_1 : B16_1 < uw32.heap.size := hO.lt 1 rfl
   have y9_1 : ∀ o, uw32.frozen? ⟨B16_1, o, none⟩ = false := hO.free 1 rfl
   have c9_2_i : uw32.cell? ⟨nd2, i, none⟩ = some (.int .u8 (U i : Int)) := hO.cell 2 rfl (i) ((itR_get hlt))
   have lt9_2 : nd2 < uw32.heap.size := hO.lt 2 rfl
   have y9_2 : ∀ o, uw32.frozen? ⟨nd2, o, none⟩ = false := hO.free 2 rfl
   have HO := Lib.hid hO
   clear hO
   go_wp2_with (first | (with_reducible refine Own.stay (fn := Tryd.f6) ?_) | (at_builtin; refine Own.appStop ?_) | (first | (go_at_call 30; go_in)))
   try with_reducible refine Own.Stay.mk ?_
   have hO := HO.out
   clear HO hix9 hax9 ix9_0 ix9_1 ix9_2 ix9 c9_0_0 c9_0_1 c9_0_2 c9_0_3 lt9_0 y9_0 c9_1_i_2 c9_1_i_2_1 lt9_1 y9_1 c9_2_i lt9_2 y9_2
   generalize hW : World.setCell _ _ _ = W34
   have hN : Own w0 W34 [row (B30) 57 #[vN, .int .u8 0, bF, bF], row (B16_1) 61 (((stR D i (gq + 1)).setIfInBounds (i * 2) (.iface 42 (vP B30))).setIfInBounds (i * 2 + 1) (vI ((i : Int) + 1))), row (nd2) 5 (itR U n)] Yf := by
    rw [← hW]
    exact ((hO).set 1 rfl (i * 2) _).set 1 rfl (i * 2 + 1) _
   clear hW hO
   have hO := hN
   clear hN
   rw [← HY.out] at hO
   obtain ⟨hDk, hDl⟩ := HD.out
   have hN := Own.give (b := B30) (o := .cells #[vN, .int .u8 0, bF, bF] 57 (0, 0)) (Y := LcX X9a (updT D i B30) (i + 1)) ((hO.sub [0, 1, 2] (by decide)).conv rfl) (LcX.next B30)
   have hM : Own w0 W34 [row (B16_1) 61 (stR (updT D i B30) (i + 1) gq), row (nd2) 5 (itR U n)] (LcX X9a (updT D i B30) (i + 1)) := hN.conv (by
    rw [← stR_next D i gq B30 _ _ (by
     unfold stC
     rw [show (updT D i B30).kd i = 3 from HKD.out, updT_ad, show (updT D i B30).lc i = (i : Int) + 1 from by show D.lc i = _; rw [hDl]])]
    rfl)
   go_roundg gq
   case measure => omega
   case rel => exact ⟨i + 1, updT D i B30, by omega, by first | rfl | simp, hDk, hDl, hM⟩
 obtain rfl : gk = 0 := by omega
 obtain rfl : n = i := by omega
 have hlt9 : ¬ (n : Int) < (n : Int) := by omega
 have hM := hO
 rw [← HXEa.out] at hM
 have hN : Own w0 wr [row (B16_1) 61 (full stmZ (stL D (List.range n)) 0), row (nd2) 5 (itR U n), row (B16) 31 #[vU 0, vU 0], row (B13) 33 #[vI 7, vU 0, vU 0, bF], row (nd4) 252 ((newPar nd5 nd11 nd12 nd8 nd10).setIfInBounds 106 (.slice (some ⟨nd6, 0, none⟩) 1 (1 + nd7))), row (nd6) 260 (full symZ (symL ([sy ⟨#[95, 115, 116, 97, 99, 107]⟩ 0])) nd7), row (nd8) 107 #[vN, vN, vN, vN, .map (some nd9), .map none, .map none, vN, bF, bF, bF], ((nd9, .map (uA ([])) (uN ([]))) : Rw), ((nd10, .map #[] 0) : Rw), row (nd11) 99 #[.pointer none, vP nd12, vN, .map none, vN, vN, vI 0, vI 0, vU 0, vU 0, bF, bF, bF, bF, .int .u8 0, .int .u8 8], row (nd12) 99 #[.pointer none, .pointer none, vN, .map none, vN, vN, vI 0, vI 0, vU 0, vU 0, bF, bF, bF, bF, .int .u8 0, .int .u8 6]] (LcX X D n) := (hM.backLc HLa.out HXa.out [1, 2, 3, 4, 5, 6, 7, 8, 9] (by decide) (by decide) (by
  intro r9 hr9
  replace hr9 : r9 ∈ [row (B16) 31 #[vU 0, vU 0], row (B13) 33 #[vI 7, vU 0, vU 0, bF], row (nd4) 252 ((newPar nd5 nd11 nd12 nd8 nd10).setIfInBounds 106 (.slice (some ⟨nd6, 0, none⟩) 1 (1 + nd7))), row (nd6) 260 (full symZ (symL ([sy ⟨#[95, 115, 116, 97, 99, 107]⟩ 0])) nd7), row (nd8) 107 #[vN, vN, vN, vN, .map (some nd9), .map none, .map none, vN, bF, bF, bF], ((nd9, .map (uA ([])) (uN ([]))) : Rw), ((nd10, .map #[] 0) : Rw), row (nd11) 99 #[.pointer none, vP nd12, vN, .map none, vN, vN, vI 0, vI 0, vU 0, vU 0, bF, bF, bF, bF, .int .u8 0, .int .u8 8], row (nd12) 99 #[.pointer none, .pointer none, vN, .map none, vN, vN, vI 0, vI 0, vU 0, vU 0, bF, bF, bF, bF, .int .u8 0, .int .u8 6]] := hr9
  simp only [List.mem_cons, List.not_mem_nil, or_false] at hr9
  rcases hr9 with rfl | rfl | rfl | rfl | rfl | rfl | rfl | rfl | rfl
  ·exact Or.inl ⟨_, _, rfl, by decide⟩
  ·exact Or.inl ⟨_, _, rfl, by decide⟩
  ·exact Or.inl ⟨_, _, rfl, by decide⟩
  ·exact Or.inl ⟨_, _, rfl, by decide⟩
  ·exact Or.inl ⟨_, _, rfl, by decide⟩
  ·exact Or.inr ⟨_, _, rfl⟩
  ·exact Or.inr ⟨_, _, rfl⟩
  ·exact Or.inl ⟨_, _, rfl, by decide⟩
  ·exact Or.inl ⟨_, _, rfl, by decide⟩)).conv (by
  rw [← tab_stL]
  rfl)
 clear hM hO HLa HXa HXEa
 have hO := hN
 clear hN
 obtain ⟨c9_2_0, c9_2_1, lt9_2, y9_2, -⟩ := hO.k2 2 rfl
 obtain ⟨c9_3_0, c9_3_1, c9_3_2, c9_3_3, lt9_3, y9_3, -⟩ := hO.k4 3 rfl
 have c9_6_3 : wr.cell? ⟨nd8, 3, none⟩ = some (vN) := hO.cell 6 rfl (3) rfl
 have lt9_6 : nd8 < wr.heap.size := hO.lt 6 rfl
 have y9_6 : ∀ o, wr.frozen? ⟨nd8, o, none⟩ = false := hO.free 6 rfl
 have c9_9_5 : wr.cell? ⟨nd11, 5, none⟩ = some (vN) := hO.cell 9 rfl (5) rfl
 have lt9_9 : nd11 < wr.heap.size := hO.lt 9 rfl
 have y9_9 : ∀ o, wr.frozen? ⟨nd11, o, none⟩ = false := hO.free 9 rfl
 have c9_10_5 : wr.cell? ⟨nd12, 5, none⟩ = some (vN) := hO.cell 10 rfl (5) rfl
 have lt9_10 : nd12 < wr.heap.size := hO.lt 10 rfl
 have y9_10 : ∀ o, wr.frozen? ⟨nd12, o, none⟩ = false := hO.free 10 rfl
 have HO := Lib.hid hO
 clear hO
 go_wp2_with (first | (with_reducible refine Own.stay (fn := Tryd.f6) ?_) | (at_builtin; refine Own.appStop ?_) | (first | (go_at_call 30; go_in)))
 try with_reducible refine Own.Stay.mk ?_
 have hO := HO.out
 clear HO c9_2_0 c9_2_1 lt9_2 y9_2 c9_3_0 c9_3_1 c9_3_2 c9_3_3 lt9_3 y9_3 c9_6_3 lt9_6 y9_6 c9_9_5 lt9_9 y9_9 c9_10_5 lt9_10 y9_10
 have hL := hO.apart
 have hX := hO.apartX
 have HL := Lib.hid hL
 have HX := Lib.hid hX
 clear hL hX
 have hP9 := hO.pick [4] (by decide)
 have T9 := curPart nd4 ((newPar nd5 nd11 nd12 nd8 nd10).setIfInBounds 106 (.slice (some ⟨nd6, 0, none⟩) 1 (1 + nd7))) nd8 _ _ _ hP9 (get_other (newPar_105 _ _ _ _ _) (by omega) _)
 refine Calls.mono T9 ?_
 clear hP9 T9
 rintro e uw35 ⟨rfl, hQ⟩
 have hN : Own w0 uw35 [row (nd4) 252 ((newPar nd5 nd11 nd12 nd8 nd10).setIfInBounds 106 (.slice (some ⟨nd6, 0, none⟩) 1 (1 + nd7))), row (B16_1) 61 (full stmZ (stL D (List.range n)) 0), row (nd2) 5 (itR U n), row (B16) 31 #[vU 0, vU 0], row (B13) 33 #[vI 7, vU 0, vU 0, bF], row (nd6) 260 (full symZ (symL ([sy ⟨#[95, 115, 116, 97, 99, 107]⟩ 0])) nd7), row (nd8) 107 #[vN, vN, vN, vN, .map (some nd9), .map none, .map none, vN, bF, bF, bF], ((nd9, .map (uA ([])) (uN ([]))) : Rw), ((nd10, .map #[] 0) : Rw), row (nd11) 99 #[.pointer none, vP nd12, vN, .map none, vN, vN, vI 0, vI 0, vU 0, vU 0, bF, bF, bF, bF, .int .u8 0, .int .u8 8], row (nd12) 99 #[.pointer none, .pointer none, vN, .map none, vN, vN, vI 0, vI 0, vU 0, vU 0, bF, bF, bF, bF, .int .u8 0, .int .u8 6]] (LcX X D n) := hQ.back HL.out HX.out [0, 1, 2, 3, 5, 6, 7, 8, 9, 10] (by decide) (by decide)
 clear hQ HL HX hO
 have hO := hN
 clear hN
 obtain ⟨c9_3_0, c9_3_1, lt9_3, y9_3, -⟩ := hO.k2 3 rfl
 obtain ⟨c9_4_0, c9_4_1, c9_4_2, c9_4_3, lt9_4, y9_4, -⟩ := hO.k4 4 rfl
 have c9_6_3 : uw35.cell? ⟨nd8, 3, none⟩ = some (vN) := hO.cell 6 rfl (3) rfl
 have lt9_6 : nd8 < uw35.heap.size := hO.lt 6 rfl
 have y9_6 : ∀ o, uw35.frozen? ⟨nd8, o, none⟩ = false := hO.free 6 rfl
 have c9_9_5 : uw35.cell? ⟨nd11, 5, none⟩ = some (vN) := hO.cell 9 rfl (5) rfl
 have lt9_9 : nd11 < uw35.heap.size := hO.lt 9 rfl
 have y9_9 : ∀ o, uw35.frozen? ⟨nd11, o, none⟩ = false := hO.free 9 rfl
 have c9_10_5 : uw35.cell? ⟨nd12, 5, none⟩ = some (vN) := hO.cell 10 rfl (5) rfl
 have lt9_10 : nd12 < uw35.heap.size := hO.lt 10 rfl
 have y9_10 : ∀ o, uw35.frozen? ⟨nd12, o, none⟩ = false := hO.free 10 rfl
 have HO := Lib.hid hO
 clear hO
 go_wp2_with (first | (with_reducible refine Own.stay (fn := Tryd.f6) ?_) | (at_builtin; refine Own.appStop ?_) | (first | (go_at_call 30; go_in)))
 try with_reducible refine Own.Stay.mk ?_
 have hO := HO.out
 clear HO c9_3_0 c9_3_1 lt9_3 y9_3 c9_4_0 c9_4_1 c9_4_2 c9_4_3 lt9_4 y9_4 c9_6_3 lt9_6 y9_6 c9_9_5 lt9_9 y9_9 c9_10_5 lt9_10 y9_10
 have HDk := Lib.hid hDk
 have HDl := Lib.hid hDl
 clear hDk hDl
 have hL := hO.apart
 have hX := hO.apartX
 have HL := Lib.hid hL
 have HX := Lib.hid hX
 clear hL hX
 have hP9 := hO.pick [4, 0, 5, 8, 10, 6, 7, 9, 1] (by decide)
 have h9_hn : ([sy ⟨#[95, 115, 116, 97, 99, 107]⟩ 0]).length = 1 := rfl
 have h9_hnb : 1 ≤ 100000 := (by first | assumption | omega | (simp; done) | (simp; omega))
 have h9_hsi : 0 < 1 := (by first | assumption | omega | (simp; done) | (simp; omega))
 have h9_hno : Instr.findNow .string (.string ⟨#[95, 95, 99, 97, 108, 108, 68, 105, 115, 112, 111, 115, 101]⟩) (#[] : Array MapEntry).toList 0 = some none := (by rfl)
 have h9_hnn : n ≤ 5000 := (by first | assumption | omega | (simp; done) | (simp; omega))
 have h9_hkd : ∀ i : Nat, i < n → D.kd i < 4 := (fun i hi => by rw [HDk.out]; exact Nat.mod_lt _ (by omega))
 have T9 := finD0 nd4 ((newPar nd5 nd11 nd12 nd8 nd10).setIfInBounds 106 (.slice (some ⟨nd6, 0, none⟩) 1 (1 + nd7))) nd6 nd7 ([sy ⟨#[95, 115, 116, 97, 99, 107]⟩ 0]) 1 0 nd10 #[] 0 nd12 #[.pointer none, .pointer none, vN, .map none, vN, vN, vI 0, vI 0, vU 0, vU 0, bF, bF, bF, bF, .int .u8 0, .int .u8 6] nd8 #[vN, vN, vN, vN, .map (some nd9), .map none, .map none, vN, bF, bF, bF] nd9 ([]) nd11 #[.pointer none, vP nd12, vN, .map none, vN, vN, vI 0, vI 0, vU 0, vU 0, bF, bF, bF, bF, .int .u8 0, .int .u8 8] B13 7 0 B16_1 D n hst _ _ _ hP9 (get_other (newPar_350 _ _ _ _ _) (by omega) _) (get_other (newPar_32 _ _ _ _ _) (by omega) _) (get_other (newPar_105 _ _ _ _ _) (by omega) _) (get_other (newPar_66 _ _ _ _ _) (by omega) _) (get_other (newPar_117 _ _ _ _ _) (by omega) _) (get_other (newPar_187 _ _ _ _ _) (by omega) _) (get_other (newPar_104 _ _ _ _ _) (by omega) _) (get_other (newPar_333 _ _ _ _ _) (by omega) _) (get_other (newPar_23 _ _ _ _ _) (by omega) _) (get_set (newPar_106 _ _ _ _ _) _) h9_hn h9_hnb rfl rfl rfl rfl rfl h9_hsi h9_hno h9_hnn h9_hkd (fun i hi h3 => ⟨[vN, .int .u8 0, bF, bF], Or.inl (Or.inr ⟨i, hi, h3, rfl, rfl⟩), rfl⟩) hg0 hg1
 refine Calls.mono T9 ?_
 clear hP9 T9 h9_hn h9_hnb h9_hsi h9_hno h9_hnn h9_hkd
 rintro e uw36 ⟨nd37, nd38, nd39, nd40, nd41, nd42, nd43, nd44, nd45, nd46, nd47, nd48, nd49, nd50, nd51, nd52, nd53, nd54, nd55, nd56, nd57, rfl, pr58, pr59, pr60, pr61, pr62, pr63, pr64, pr65, hQ⟩
 have hN : Own w0 uw36 [row (nd37) 61 (full stmZ (stL D (outs D hst n) ++ [.iface 42 (vP nd39), vI 7, .iface 67 (vP nd43), vI 7]) nd38), row (nd39) 57 #[.slice (some ⟨nd40, 0, none⟩) 1 1, .int .u8 0, bF, bF], row (nd40) 54 #[.iface 134 (vP nd41), vI 7, .iface 315 (vP nd42), vI 7], row (nd41) 136 #[vU 0, vU 0], row (nd43) 76 #[vP nd44, vP nd45, .slice nd57 (ins D hst n).length n, vI 0, vI 7], row (nd45) 116 #[.slice (some ⟨nd46, 0, none⟩) 1 1, vI 0, vI 7], row (nd4) 252 nd53, row (nd47) 260 (full symZ (symL (bump (stF0 ([sy ⟨#[95, 115, 116, 97, 99, 107]⟩ 0]) 0 1) 1)) nd48), row (nd8) 107 nd54, ((nd9, .map (uA nd56) (uN nd56)) : Rw), row (nd11) 99 nd55, row (nd49) 31 (full refZ [vU 0, vU 0, vU 0, vU 1, vU 0, vU (2 : Int), vU 0, vU (3 : Int)] nd50), row (nd51) 113 (full dsyZ [vU 0, vU 0, bF, vU 0, vU 1, bF, vU 0, vU (2 : Int), bF, vU 0, vU (3 : Int), bF] nd52), row (B16_1) 61 (full stmZ (stL D (arrI D hst n n)) 0), row (nd2) 5 (itR U n), row (B16) 31 #[vU 0, vU 0]] (LcX X D n) := hQ.back HL.out HX.out [2, 3] (by decide) (by decide)
 clear hQ HL HX hO
 have hO := hN
 clear hN
 obtain ⟨c9_1_0, c9_1_1, c9_1_2, c9_1_3, lt9_1, y9_1, -⟩ := hO.k4 1 rfl
 obtain ⟨c9_2_0, c9_2_1, c9_2_2, c9_2_3, lt9_2, y9_2, -⟩ := hO.k4 2 rfl
 obtain ⟨c9_3_0, c9_3_1, lt9_3, y9_3, -⟩ := hO.k2 3 rfl
 obtain ⟨c9_4_0, c9_4_1, c9_4_2, c9_4_3, c9_4_4, lt9_4, y9_4, -⟩ := hO.k5 4 rfl
 obtain ⟨c9_5_0, c9_5_1, c9_5_2, lt9_5, y9_5, -⟩ := hO.k3 5 rfl
 obtain ⟨c9_15_0, c9_15_1, lt9_15, y9_15, -⟩ := hO.k2 15 rfl
 have HO := Lib.hid hO
 clear hO
 go_wp2_with (first | (with_reducible refine Own.stay (fn := Tryd.f6) ?_) | (at_builtin; refine Own.appStop ?_) | (first | (go_at_call 30; go_in)))
 try with_reducible refine Own.Stay.mk ?_
 have hO := HO.out
 clear HO c9_1_0 c9_1_1 c9_1_2 c9_1_3 lt9_1 y9_1 c9_2_0 c9_2_1 c9_2_2 c9_2_3 lt9_2 y9_2 c9_3_0 c9_3_1 lt9_3 y9_3 c9_4_0 c9_4_1 c9_4_2 c9_4_3 c9_4_4 lt9_4 y9_4 c9_5_0 c9_5_1 c9_5_2 lt9_5 y9_5 c9_15_0 c9_15_1 lt9_15 y9_15
 rw [HC9.out]
 have hL := hO.apart
 have hX := hO.apartX
 have HL := Lib.hid hL
 have HX := Lib.hid hX
 clear hL hX
 have hP9 := hO.pick [14] (by decide)
 refine tl47a nd2 n U D hst _ _ _ _ _ _ _ _ _ _ _ _ _ _ _ _ _ _ _ _ _ _ _ _ _ _ _ _ _ _ _ _ _ _ _ _ _ _ _ _ _ _ _ _ _ _ _ _ _ _ _ _ _ _ _ _ _ _ _ _ _ _ _ _ _ _ _ _ _ _ _ _ _ _ _ _ _ _ _ _ _ _ _ _ _ _ _ _ _ _ _ _ _ _ _ _ _ _ _ _ _ _ _ _ _ _ _ _ _ _ _ _ _ _ _ _ _ _ _ _ _ _ _ _ _ _ _ _ _ _ _ _ _ _ _ _ _ _ _ _ _ _ _ _ _ _ _ _ _ _ _ _ _ _ _ _ _ _ _ _ _ _ _ _ _ _ _ _ _ _ _ _ _ _ _ _ _ _ _ _ _ _ _ _ _ _ _ _ _ _ _ _ _ _ _ _ _ _ _ _ _ _ _ _ _ _ _ _ _ _ _ _ _ _ _ _ _ _ _ _ _ _ _ _ _ _ _ _ _ _ _ _ _ _ _ _ _ _ _ _ _ _ _ _ _ _ _ _ _ _ _ _ _ _ _ _ _ _ _ _ _ _ _ _ _ _ _ _ _ _ _ _ _ _ _ _ _ _ _ _ _ _ _ _ _ _ _ _ _ _ _ _ _ _ _ _ _ _ _ _ _ _ _ _ _ _ _ _ _ _ _ _ _ _ _ _ _ _ _ _ _ _ _ _ _ _ _ _ _ _ _ _ _ _ _ _ _ _ _ _ _ _ w0 uw36 _ _ ?_ hP9 hn4 hu9 HDk.out
 clear hP9
 unfold Hc47
 intro s19 s20 Lo Li _ _ _ _ _ _ _ _ _ _ _ _ _ _ _ _ _ _ _ _ _ _ _ _ _ _ _ _ _ _ _ _ _ _ _ _ _ _ _ _ _ _ _ _ _ _ _ _ _ _ _ _ _ _ _ _ _ _ _ _ _ _ _ _ _ _ _ _ _ _ _ _ _ _ _ _ _ _ _ _ _ _ _ _ _ _ _ _ _ _ _ _ _ _ _ _ _ _ _ _ _ _ _ _ _ _ _ _ _ _ _ _ _ _ _ _ _ _ _ _ _ _ _ _ _ _ _ _ _ _ _ _ _ _ _ _ _ _ _ _ _ _ _ _ _ _ _ _ _ _ _ _ _ _ _ _ _ _ _ _ _ _ _ _ _ _ _ _ _ _ _ _ _ _ _ _ _ _ _ _ _ _ _ _ _ _ _ _ _ _ _ _ _ _ _ _ _ _ _ _ _ _ _ _ _ _ _ _ _ _ _ _ _ _ _ _ _ _ _ _ _ _ _ _ _ _ _ _ _ _ _ _ _ _ _ _ _ _ _ _ _ _ _ _ _ _ _ _ _ _ _ _ _ _ _ _ _ _ _ _ _ _ _ _ _ _ _ _ _ _ _ _ _ _ _ _ _ _ _ _ _ _ _ _ _ _ _ _ _ _ _ _ _ _ _ _ _ _ _ _ _ _ _ _ _ _ _ _ _ _ _ _ _ _ _ _ _ _ _ _ _ _ _ _ _ _ _ _ _ _ w2 hLo hLi hQ
 have hM := (hQ.back HL.out HX.out [0, 1, 2, 3, 4, 5, 6, 7, 8, 9, 10, 11, 12, 13, 15] (by decide) (by decide)).perm (M := ([row (nd2) 5 (itR U n)] ++ [row (nd37) 61 (full stmZ (stL D (outs D hst n) ++ [.iface 42 (vP nd39), vI 7, .iface 67 (vP nd43), vI 7]) nd38), row (nd39) 57 #[.slice (some ⟨nd40, 0, none⟩) 1 1, .int .u8 0, bF, bF], row (nd40) 54 #[.iface 134 (vP nd41), vI 7, .iface 315 (vP nd42), vI 7], row (nd41) 136 #[vU 0, vU 0], row (nd43) 76 #[vP nd44, vP nd45, .slice nd57 (ins D hst n).length n, vI 0, vI 7], row (nd45) 116 #[.slice (some ⟨nd46, 0, none⟩) 1 1, vI 0, vI 7], row (nd4) 252 nd53, row (nd47) 260 (full symZ (symL (bump (stF0 ([sy ⟨#[95, 115, 116, 97, 99, 107]⟩ 0]) 0 1) 1)) nd48), row (nd8) 107 nd54, ((nd9, .map (uA nd56) (uN nd56)) : Rw), row (nd11) 99 nd55, row (nd49) 31 (full refZ [vU 0, vU 0, vU 0, vU 1, vU 0, vU (2 : Int), vU 0, vU (3 : Int)] nd50), row (nd51) 113 (full dsyZ [vU 0, vU 0, bF, vU 0, vU 1, bF, vU 0, vU (2 : Int), bF, vU 0, vU (3 : Int), bF] nd52), row (B16_1) 61 (full stmZ (stL D (arrI D hst n n)) 0), row (B16) 31 #[vU 0, vU 0]]) ++ (Lo ++ Li)) ((List.Perm.of_eq (List.append_assoc _ _ _)).trans ((List.Perm.append_left _ List.perm_append_comm).trans (List.Perm.of_eq (List.append_assoc _ _ _).symm)))
 have hN : Own w0 w2 [row (nd2) 5 (itR U n), row (nd37) 61 (full stmZ (stL D (outs D hst n) ++ [.iface 42 (vP nd39), vI 7, .iface 67 (vP nd43), vI 7]) nd38), row (nd39) 57 #[.slice (some ⟨nd40, 0, none⟩) 1 1, .int .u8 0, bF, bF], row (nd40) 54 #[.iface 134 (vP nd41), vI 7, .iface 315 (vP nd42), vI 7], row (nd41) 136 #[vU 0, vU 0], row (nd43) 76 #[vP nd44, vP nd45, .slice nd57 (ins D hst n).length n, vI 0, vI 7], row (nd45) 116 #[.slice (some ⟨nd46, 0, none⟩) 1 1, vI 0, vI 7], row (nd4) 252 nd53, row (nd47) 260 (full symZ (symL (bump (stF0 ([sy ⟨#[95, 115, 116, 97, 99, 107]⟩ 0]) 0 1) 1)) nd48), row (nd8) 107 nd54, ((nd9, .map (uA nd56) (uN nd56)) : Rw), row (nd11) 99 nd55, row (nd49) 31 (full refZ [vU 0, vU 0, vU 0, vU 1, vU 0, vU (2 : Int), vU 0, vU (3 : Int)] nd50), row (nd51) 113 (full dsyZ [vU 0, vU 0, bF, vU 0, vU 1, bF, vU 0, vU (2 : Int), bF, vU 0, vU (3 : Int), bF] nd52), row (B16_1) 61 (full stmZ (stL D (arrI D hst n n)) 0), row (B16) 31 #[vU 0, vU 0]] (FR (Lo ++ Li) (LcX X D n)) := hM.aside.conv rfl
 have h19 := hLo.f (X := FR (Lo ++ Li) (LcX X D n)) fun b o h => Or.inr (List.mem_append_left _ h)
 have h20 := hLi.f (X := FR (Lo ++ Li) (LcX X D n)) fun b o h => Or.inr (List.mem_append_right _ h)
 clear hQ HL HX hO hM hLo hLi
 have hO := hN
 clear hN
 obtain ⟨so, co, rfl, hso⟩ := h19
 obtain ⟨so2, co2, rfl, hso2⟩ := h20
 have hL := hO.apart
 clear hL
 have hP9 := hO.pick [1, 2, 3, 4, 5, 6, 9, 11, 12, 13, 14, 15] (by decide)
 exact tl47b0 nd37 nd39 nd40 nd41 nd42 nd43 nd44 nd45 nd46 nd8 nd11 nd49 nd50 nd51 nd52 B16_1 B16 nd38 n D hst 0 0 1 (2 : Int) (3 : Int) 1 (2 : Int) (3 : Int) nd55 nd54 nd57 so so2 ((outs D hst n).length) ((ins D hst n).length) co co2 _ _ _ _ _ _ _ _ _ _ _ _ _ _ _ _ _ _ _ _ _ _ _ _ _ _ _ _ _ _ _ _ _ _ _ _ _ _ _ _ _ _ _ _ _ _ _ _ _ _ _ _ _ _ _ _ _ _ _ _ _ _ _ _ _ _ _ _ _ _ _ _ _ _ _ _ _ _ _ _ _ _ _ _ _ _ _ _ _ _ _ _ _ _ _ _ _ _ _ _ _ _ _ _ _ _ _ _ _ _ _ _ _ _ _ _ _ _ _ _ _ _ _ _ _ _ _ _ _ _ _ _ _ _ _ _ _ _ _ _ _ _ _ _ _ _ _ _ _ _ _ _ _ _ _ _ _ _ _ _ _ _ _ _ _ _ _ _ _ _ _ _ _ _ _ _ _ _ _ _ _ _ _ _ _ _ _ _ _ _ _ _ _ _ _ _ _ _ _ _ _ _ _ _ _ _ _ _ _ _ _ _ _ _ _ _ _ _ _ _ _ _ _ _ _ _ _ _ _ _ _ _ _ _ _ _ _ _ _ _ _ _ _ _ _ _ _ _ _ _ _ _ _ _ _ _ _ _ _ _ _ _ _ _ _ _ _ _ _ _ _ _ _ _ _ _ _ _ _ _ _ _ _ _ _ _ _ _ _ _ _ _ _ _ _ _ _ _ _ _ _ _ _ _ _ _ _ _ _ _ _ _ _ _ _ _ _ _ _ _ _ _ _ _ _ _ _ _ _ _ _ _ _ _ w0 w2 _ _ (fun w3 h3 => ⟨rfl, h3.weaken fun b o h => Or.inl (Or.inl (Or.inl h))⟩) hP9 hn4 HDl.out rfl rfl pr65 (fun h => let ⟨b, c, e, hx⟩ := hso h; ⟨b, c, e, Or.inl hx⟩) (fun h => let ⟨b, c, e, hx⟩ := hso2 h; ⟨b, c, e, Or.inl hx⟩) pr64 pr63
end Go.Proofs.YtikopplofkemlaaDoor.Use
