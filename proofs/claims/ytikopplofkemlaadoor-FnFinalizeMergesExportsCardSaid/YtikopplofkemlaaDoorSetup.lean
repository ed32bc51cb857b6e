/- The laws' setting, made. No condition. -/
import Derived.Test.YtikopplofkemlaaDoorMsc
import Derived.Test.YtikopplofkemlaaDoorGnc
namespace Go.Proofs.YtikopplofkemlaaDoor.Use
open Go.ChangeShapes Go.WideShapes Go.ChangeAt Go.RowKit Go.Sort Own
set_option linter.unusedVariables false
noncomputable def rsetup0a5E (B1_2 : Nat) (B1 : Nat) (nd4 : Nat) (B12 : Nat) : Nat → Rega.Atoms → Value
 | 0, α => vP nd4
 | 1, α => vP B1_2
 | 2, α => .agg #[vI 7, vU 0, vU 0, bF]
 | 3, α => vP nd4
 | 4, α => vP B1_2
 | 5, α => undef
 | _, _ => undef
noncomputable def rsetup0a5Anc : Nat → List Nat
 | 3 => [0]
 | 4 => [0, 1, 3]
 | 5 => [0, 1, 2, 3, 4]
 | _ => []
noncomputable def rsetup0a5Trn : Nat → List Nat
 | 5 => [1999]
 | _ => []
noncomputable def rsetup0a5Cnt : List (Nat × Nat) := []
noncomputable def rsetup0a5T1999 (B1_2 : Nat) (B1 : Nat) (nd4 : Nat) (B12 : Nat) (L9 : Nat → Bool) (α : Rega.Atoms) : Rw := if L9 5 = true then row (B1) 33 #[vI 7, vU 0, vU 0, bF] else row (B1) 33 #[vI 0, vU 0, vU 0, bF]
noncomputable def rsetup0a5R (B1_2 : Nat) (B1 : Nat) (nd4 : Nat) (B12 : Nat) (L9 : Nat → Bool) (α : Rega.Atoms) (ix9 : Nat) : Rw := if ix9 = 999 then row (B12) 33 #[vI 7, vU 0, vU 0, bF] else if ix9 = 1999 then rsetup0a5T1999 B1_2 B1 nd4 B12 L9 α else (0, .map #[] 0)
theorem rsetup0a5_he (B1_2 : Nat) (B1 : Nat) (nd4 : Nat) (B12 : Nat) : ∀ kk α α', (∀ j, (j % 1000 = kk ∨ j % 1000 ∈ rsetup0a5Anc kk) → α j = α' j) → rsetup0a5E B1_2 B1 nd4 B12 kk α = rsetup0a5E B1_2 B1 nd4 B12 kk α' := by
 intro kk α α' h
 match kk with
 | 0 => rfl
 | 1 => rfl
 | 2 => rfl
 | 3 => rfl
 | 4 => rfl
 | 5 => rfl
 | n + 6 => rfl
theorem rsetup0a5_st (B1_2 : Nat) (B1 : Nat) (nd4 : Nat) (B12 : Nat) : Stable rsetup0a5Cnt 2 rsetup0a5Anc rsetup0a5Trn (rsetup0a5R B1_2 B1 nd4 B12) := by
 intro k9 L9 α α' ix9 hk hcl hα hact ht
 have hp := act_places hact
 replace hp : ix9 ∈ [999, 1999] := hp
 simp only [List.mem_cons, List.not_mem_nil, or_false] at hp
 rcases hp with rfl | rfl
 ·rfl
 ·show rsetup0a5T1999 B1_2 B1 nd4 B12 (Rega.ran L9 k9) α' = rsetup0a5T1999 B1_2 B1 nd4 B12 L9 α
  unfold rsetup0a5T1999
  have n5 : 5 ≠ k9 := fun e => ht (by rw [← e]; decide)
  rw [ran_ne n5]
def setup0Post  (w0 : World) (X : Nat → Obj → Prop) (e : Ending) (w' : World) : Prop :=
 ∃ pb : Nat, ∃ sb0 : Nat, ∃ sb : Nat, ∃ c : Nat, ∃ pt : Nat, ∃ mu : Nat, ∃ mp : Nat, ∃ cs : Nat, ∃ ms : Nat, e = .returned (.tuple #[vP pb, vP cs, .agg #[vI 7, vU 0, vU 0, bF]]) ∧ Own w0 w' [row (pb) 252 ((newPar sb0 cs ms pt mp).setIfInBounds 106 (vS sb 1 (1 + c))), row (sb) 260 (full symZ (symL ([sy ⟨#[95, 115, 116, 97, 99, 107]⟩ 0])) c), row (pt) 107 #[vN, vN, vN, vN, .map (some mu), .map none, .map none, vN, bF, bF, bF], ((mu, .map (uA ([])) (uN ([]))) : Rw), ((mp, .map #[] 0) : Rw), row (cs) 99 #[vO, vP ms, vN, .map none, vN, vN, vI 0, vI 0, vU 0, vU 0, bF, bF, bF, bF, v8 0, v8 8], row (ms) 99 #[vO, vO, vN, .map none, vN, vN, vI 0, vI 0, vU 0, vU 0, bF, bF, bF, bF, v8 0, v8 6]] X
set_option maxRecDepth 100000 in
set_option maxHeartbeats 1000000 in
theorem setup0  (w0 w : World) (X : Nat → Obj → Prop) (hO : Own w0 w [] X) (hg0 : w0.cell? ⟨0, 0, none⟩ = some (vU 4294967295)) (hg1 : w0.cell? ⟨0, 1, none⟩ = some (vU 4294967295)) :
  Calls Tryd.prog 9 #[bF] w (setup0Post  w0 X) := by
 go_enter Tryd.func9, Tryd.ntmps9
 go_wp2_with (first | (with_reducible refine Own.stay (fn := Tryd.f9) ?_) | fail)
 try with_reducible refine Own.Stay.mk ?_
 generalize hW : World.alloc _ _ = W2
 have hN : Own w0 W2 [row (w.heap.size + 1 + 1) 99 #[vO, .pointer (some ⟨w.heap.size + 1, 0, none⟩), vN, .map none, vN, vN, vI 0, vI 0, vU 0, vU 0, bF, bF, bF, bF, v8 0, v8 8], row (w.heap.size + 1) 99 #[vO, vO, vN, .map none, vN, vN, vI 0, vI 0, vU 0, vU 0, bF, bF, bF, bF, v8 0, v8 6], row (w.heap.size) 33 #[vI 0, vU 0, vU 0, bF]] X := by
  rw [← hW]
  exact (((hO).alloc' _ (w.heap.size) (by simp)).alloc' _ (w.heap.size + 1) (by simp)).alloc' _ (w.heap.size + 1 + 1) (by simp)
 clear hW hO
 generalize w.heap.size + 1 + 1 = B1_2 at hN ⊢
 generalize w.heap.size + 1 = B1_1 at hN ⊢
 generalize w.heap.size = B1 at hN ⊢
 have hO := hN
 clear hN
 obtain ⟨HL, HX⟩ := hid2 hO
 have hP9 := hO.pick [] dc
 have T9 := newP B1_2 B1_1 _ _ _ hP9 
 refine Calls.mono T9 ?_
 clear hP9 T9
 rintro e uw3 ⟨nd4, nd5, nd6, nd7, nd8, rfl, hQ⟩
 replace hO : Own w0 uw3 [row (nd4) 252 (newPar nd5 B1_2 B1_1 nd6 nd8), row (nd5) 260 (full symZ (symL nosy) 0), row (nd6) 107 #[vN, vN, vN, vN, .map (some nd7), .map none, .map none, vN, bF, bF, bF], ((nd7, .map (uA ([])) (uN ([]))) : Rw), ((nd8, .map #[] 0) : Rw), row (B1_2) 99 #[vO, vP B1_1, vN, .map none, vN, vN, vI 0, vI 0, vU 0, vU 0, bF, bF, bF, bF, v8 0, v8 8], row (B1_1) 99 #[vO, vO, vN, .map none, vN, vN, vI 0, vI 0, vU 0, vU 0, bF, bF, bF, bF, v8 0, v8 6], row (B1) 33 #[vI 0, vU 0, vU 0, bF]] X := hQ.back HL.out HX.out [0, 1, 2] dc dc
 clear hQ HL HX
 obtain ⟨aG, aH, aI, aJ, aK, aL, -⟩ := hO.k4 7 rfl
 have HO := Lib.hid hO
 clear hO
 go_wp2_with (first | (with_reducible refine Own.stay (fn := Tryd.f9) ?_) | fail)
 try with_reducible refine Own.Stay.mk ?_
 have hO := HO.out
 clear HO aG aH aI aJ aK aL
 obtain ⟨HL, HX⟩ := hid2 hO
 have hP9 := hO.pick [0, 1] dc
 have h9_hn : nosy.length = 0 := rfl
 have h9_hnb : 0 ≤ 1000000 := (by omega)
 have T9 := newCtx nd4 (newPar nd5 B1_2 B1_1 nd6 nd8) nd5 0 nosy 0 0 _ _ _ hP9 (newPar_66 _ _ _ _ _) (newPar_32 _ _ _ _ _) (newPar_106 _ _ _ _ _) h9_hn h9_hnb hg0 hg1
 refine Calls.mono T9 ?_
 clear hP9 T9 h9_hn h9_hnb
 rintro e uw9 ⟨nd10, nd11, rfl, hQ⟩
 replace hO : Own w0 uw9 [row (nd4) 252 ((newPar nd5 B1_2 B1_1 nd6 nd8).setIfInBounds 106 (vS nd10 (0 + 1) (0 + 1 + nd11))), row (nd10) 260 (full symZ (symL (nosy ++ [syk ⟨#[95, 115, 116, 97, 99, 107]⟩ 27])) nd11), row (nd6) 107 #[vN, vN, vN, vN, .map (some nd7), .map none, .map none, vN, bF, bF, bF], ((nd7, .map (uA ([])) (uN ([]))) : Rw), ((nd8, .map #[] 0) : Rw), row (B1_2) 99 #[vO, vP B1_1, vN, .map none, vN, vN, vI 0, vI 0, vU 0, vU 0, bF, bF, bF, bF, v8 0, v8 8], row (B1_1) 99 #[vO, vO, vN, .map none, vN, vN, vI 0, vI 0, vU 0, vU 0, bF, bF, bF, bF, v8 0, v8 6], row (B1) 33 #[vI 0, vU 0, vU 0, bF]] X := hQ.back HL.out HX.out [2, 3, 4, 5, 6, 7] dc dc
 clear hQ HL HX
 obtain ⟨aG, aH, aI, aJ, aK, aL, -⟩ := hO.k4 7 rfl
 have HO := Lib.hid hO
 clear hO
 go_wp2_with (first | (with_reducible refine Own.stay (fn := Tryd.f9) ?_) | fail)
 try with_reducible refine Own.Stay.mk ?_
 have hO := HO.out
 clear HO aG aH aI aJ aK aL
 generalize hW : World.alloc _ _ = W13
 have hN : Own w0 W13 [row (uw9.heap.size + 1) 57 #[vN, v8 3, bF, bF], row (uw9.heap.size) 33 #[vI 0, vU 0, vU 0, bF], row (nd4) 252 ((newPar nd5 B1_2 B1_1 nd6 nd8).setIfInBounds 106 (vS nd10 (0 + 1) (0 + 1 + nd11))), row (nd10) 260 (full symZ (symL (nosy ++ [syk ⟨#[95, 115, 116, 97, 99, 107]⟩ 27])) nd11), row (nd6) 107 #[vN, vN, vN, vN, .map (some nd7), .map none, .map none, vN, bF, bF, bF], ((nd7, .map (uA ([])) (uN ([]))) : Rw), ((nd8, .map #[] 0) : Rw), row (B1_2) 99 #[vO, vP B1_1, vN, .map none, vN, vN, vI 0, vI 0, vU 0, vU 0, bF, bF, bF, bF, v8 0, v8 8], row (B1_1) 99 #[vO, vO, vN, .map none, vN, vN, vI 0, vI 0, vU 0, vU 0, bF, bF, bF, bF, v8 0, v8 6], row (B1) 33 #[vI 0, vU 0, vU 0, bF]] X := by
  rw [← hW]
  exact ((hO).alloc' _ (uw9.heap.size) (by simp)).alloc' _ (uw9.heap.size + 1) (by simp)
 clear hW hO
 generalize uw9.heap.size + 1 = B12_1 at hN ⊢
 generalize uw9.heap.size = B12 at hN ⊢
 have hO := hN
 clear hN
 obtain ⟨HL, HX⟩ := hid2 hO
 have hP9 := hO.pick [] dc
 have T9 := localStmt B12_1 7 _ _ _ hP9 
 refine Calls.mono T9 ?_
 clear hP9 T9
 rintro e uw14 ⟨rfl, hQ⟩
 replace hO : Own w0 uw14 [row (B12_1) 57 #[vN, v8 3, bF, bF], row (B12) 33 #[vI 0, vU 0, vU 0, bF], row (nd4) 252 ((newPar nd5 B1_2 B1_1 nd6 nd8).setIfInBounds 106 (vS nd10 (0 + 1) (0 + 1 + nd11))), row (nd10) 260 (full symZ (symL (nosy ++ [syk ⟨#[95, 115, 116, 97, 99, 107]⟩ 27])) nd11), row (nd6) 107 #[vN, vN, vN, vN, .map (some nd7), .map none, .map none, vN, bF, bF, bF], ((nd7, .map (uA ([])) (uN ([]))) : Rw), ((nd8, .map #[] 0) : Rw), row (B1_2) 99 #[vO, vP B1_1, vN, .map none, vN, vN, vI 0, vI 0, vU 0, vU 0, bF, bF, bF, bF, v8 0, v8 8], row (B1_1) 99 #[vO, vO, vN, .map none, vN, vN, vI 0, vI 0, vU 0, vU 0, bF, bF, bF, bF, v8 0, v8 6], row (B1) 33 #[vI 0, vU 0, vU 0, bF]] X := hQ.back HL.out HX.out [0, 1, 2, 3, 4, 5, 6, 7, 8, 9] dc dc
 clear hQ HL HX
 obtain ⟨aA, aB, aC, aD, aE, aF, -⟩ := hO.k4 0 rfl
 obtain ⟨aM, aN, aO, aP, aQ, aR, -⟩ := hO.k4 1 rfl
 obtain ⟨aW, aX, aY, aZ, aa, ab, -⟩ := hO.k4 9 rfl
 have HO := Lib.hid hO
 clear hO
 go_wp2_with (first | (with_reducible refine Own.stay (fn := Tryd.f9) ?_) | fail)
 try with_reducible refine Own.Stay.mk ?_
 have hO := HO.out
 clear HO aA aB aC aD aE aF aM aN aO aP aQ aR aW aX aY aZ aa ab
 generalize hW : World.alloc _ _ = W16
 have hN : Own w0 W16 [row (uw14.heap.size) 61 #[vF 42 B12_1, vI 7], row (B12_1) 57 #[vN, v8 3, bF, bF], row (B12) 33 #[vI 0, vU 0, vU 0, bF], row (nd4) 252 ((newPar nd5 B1_2 B1_1 nd6 nd8).setIfInBounds 106 (vS nd10 (0 + 1) (0 + 1 + nd11))), row (nd10) 260 (full symZ (symL (nosy ++ [syk ⟨#[95, 115, 116, 97, 99, 107]⟩ 27])) nd11), row (nd6) 107 #[vN, vN, vN, vN, .map (some nd7), .map none, .map none, vN, bF, bF, bF], ((nd7, .map (uA ([])) (uN ([]))) : Rw), ((nd8, .map #[] 0) : Rw), row (B1_2) 99 #[vO, vP B1_1, vN, .map none, vN, vN, vI 0, vI 0, vU 0, vU 0, bF, bF, bF, bF, v8 0, v8 8], row (B1_1) 99 #[vO, vO, vN, .map none, vN, vN, vI 0, vI 0, vU 0, vU 0, bF, bF, bF, bF, v8 0, v8 6], row (B1) 33 #[vI 0, vU 0, vU 0, bF]] X := by
  rw [← hW]
  exact (hO).alloc' _ (uw14.heap.size) (by simp)
 clear hW hO
 generalize uw14.heap.size = B15 at hN ⊢
 have hO := hN
 clear hN
 obtain ⟨HL, HX⟩ := hid2 hO
 have hP9 := hO.pick [2, 3, 8, 0, 1] dc
 have T9 := scanD0 nd4 ((newPar nd5 B1_2 B1_1 nd6 nd8).setIfInBounds 106 (vS nd10 (0 + 1) ((0 + 1) + nd11))) B1_2 #[vO, vP B1_1, vN, .map none, vN, vN, vI 0, vI 0, vU 0, vU 0, bF, bF, bF, bF, v8 0, v8 8] B1_1 B12 B15 B12_1 0 0 _ _ _ hP9 (get_other (newPar_104 _ _ _ _ _) (by omega) _) (get_other (newPar_23 _ _ _ _ _) (by omega) _) (get_other (newPar_34 _ _ _ _ _) (by omega) _) (get_other (newPar_352 _ _ _ _ _) (by omega) _) rfl
 refine Calls.mono T9 ?_
 clear hP9 T9
 rintro e uw17 ⟨rfl, hQ⟩
 replace hO : Own w0 uw17 [row (B12) 33 #[vI 7, vU 0, vU 0, bF], row (nd4) 252 ((newPar nd5 B1_2 B1_1 nd6 nd8).setIfInBounds 106 (vS nd10 (0 + 1) ((0 + 1) + nd11))), row (B1_2) 99 #[vO, vP B1_1, vN, .map none, vN, vN, vI 0, vI 0, vU 0, vU 0, bF, bF, bF, bF, v8 0, v8 8], row (B15) 61 #[vF 42 B12_1, vI 7], row (B12_1) 57 #[vN, v8 2, bF, bF], row (nd10) 260 (full symZ (symL (nosy ++ [syk ⟨#[95, 115, 116, 97, 99, 107]⟩ 27])) nd11), row (nd6) 107 #[vN, vN, vN, vN, .map (some nd7), .map none, .map none, vN, bF, bF, bF], ((nd7, .map (uA ([])) (uN ([]))) : Rw), ((nd8, .map #[] 0) : Rw), row (B1_1) 99 #[vO, vO, vN, .map none, vN, vN, vI 0, vI 0, vU 0, vU 0, bF, bF, bF, bF, v8 0, v8 6], row (B1) 33 #[vI 0, vU 0, vU 0, bF]] X := hQ.back HL.out HX.out [4, 5, 6, 7, 9, 10] dc dc
 clear hQ HL HX
 obtain ⟨aA, aB, aC, aD, aE, aF, -⟩ := hO.k4 0 rfl
 obtain ⟨ac, ad, ae, af, -⟩ := hO.k2 3 rfl
 obtain ⟨aS, aT, ag, ah, aU, aV, -⟩ := hO.k4 4 rfl
 obtain ⟨ai, aj, ak, al, am, an, -⟩ := hO.k4 10 rfl
 have HO := Lib.hid hO
 clear hO
 go_wp2_with (first | (with_reducible refine Own.stay (fn := Tryd.f9) ?_) | fail)
 try with_reducible refine Own.Stay.mk ?_
 have hO := HO.out
 clear HO aA aB aC aD aE aF ac ad ae af aS aT ag ah aU aV ai aj ak al am an
 obtain ⟨HL, HX⟩ := hid2 hO
 have hP9 := hO.pick [0, 10] dc
 generalize hX9_18 : Own.Rest _ _ X = X9_18 at hP9
 replace hP9 : Own w0 uw17 [row (B12) 33 #[vI 7, vU 0, vU 0, bF], row (B1) 33 #[vI 0, vU 0, vU 0, bF]] X9_18 := hP9
 clear hO
 have hO := hP9
 clear hP9
 have st9 := rsetup0a5_st B1_2 B1 nd4 B12
 let R9 := rsetup0a5R B1_2 B1 nd4 B12
 refine wp_region_own (e := rsetup0a5E B1_2 B1 nd4 B12) (anc := rsetup0a5Anc) (G := (fun L9 α u9 => OwnF w0 u9 (act rsetup0a5Cnt 2 L9) (rsetup0a5R B1_2 B1 nd4 B12 L9 α) X9_18)) (by kernel_rfl) (by kernel_rfl) (by kernel_rfl) (by kernel_rfl) (rsetup0a5_he B1_2 B1 nd4 B12) ?_ (RunsAll.all ?_) ?_
 ·have hp : ∀ i, act rsetup0a5Cnt 2 (fun _ => false) i → i ∈ [999, 1999] := by
   intro i hi
   have h9 : i % 1000 = 999 := by
    by_cases h : i % 1000 = 999
    ·exact h
    ·exact absurd (act_lt hi h) (by simp)
   unfold act at hi
   rw [if_pos h9] at hi
   simp only [List.mem_cons, List.not_mem_nil, or_false]
   omega
  refine hO.drew.family (fun i hi => ?_) (fun i j hi hj hij => ?_)
  ·have := hp i hi
   simp only [List.mem_cons, List.not_mem_nil, or_false] at this
   rcases this with rfl | rfl <;> rfl
  ·have h1 := hp i hi
   have h2 := hp j hj
   simp only [List.mem_cons, List.not_mem_nil, or_false] at h1 h2
   omega
 ·refine ⟨?_, ?_, ?_, ?_, ?_, ?_, trivial⟩
  ·refine pur st9 rfl rfl fun L9 α a9 u9 K9 hL hcl hA hG hS h0 h1 hK => ?_
   have s7 := eS (vP nd4) ((h0 7 (by kernel_rfl)).trans rfl)
   go_simp
   exact hK
  ·refine pur st9 rfl rfl fun L9 α a9 u9 K9 hL hcl hA hG hS h0 h1 hK => ?_
   have s6 := eS (vP B1_2) ((h0 6 (by kernel_rfl)).trans rfl)
   go_simp
   exact hK
  ·refine pur st9 rfl rfl fun L9 α a9 u9 K9 hL hcl hA hG hS h0 h1 hK => ?_
   have s8 := eS (vP B12) ((h0 8 (by kernel_rfl)).trans rfl)
   have e0 : R9 L9 α 999 = row (B12) 33 #[vI 7, vU 0, vU 0, bF] := rfl
   have hr := hG.rowAt 999 (act_base 999 rfl) e0
   have c0 : u9.cell? ⟨B12, 0, none⟩ = some (vI 7) := hr.cell rfl
   have c1 : u9.cell? ⟨B12, 1, none⟩ = some (vU 0) := hr.cell rfl
   have c2 : u9.cell? ⟨B12, 2, none⟩ = some (vU 0) := hr.cell rfl
   have c3 : u9.cell? ⟨B12, 3, none⟩ = some (bF) := hr.cell rfl
   clear hr e0
   go_simp
   exact hK
  ·refine pur st9 rfl rfl fun L9 α a9 u9 K9 hL hcl hA hG hS h0 h1 hK => ?_
   have s30 := eS (vP nd4) (hS 0 30 dc rfl (ltd 33 rfl))
   go_simp
   exact hK
  ·refine pur st9 rfl rfl fun L9 α a9 u9 K9 hL hcl hA hG hS h0 h1 hK => ?_
   have s31 := eS (vP B1_2) (hS 1 31 dc rfl (ltd 33 rfl))
   go_simp
   exact hK
  ·intro L9 α a9 u9 K9 hL hcl hA hG hS h0 h1 hK
   replace hL : L9 5 = false := hL
   have q4 : a9.tmps[4]? = some (vP B1) := (h0 4 (by kernel_rfl)).trans rfl
   have s4 := Rega.eval_of q4
   have q32 : a9.tmps[32]? = some (.agg #[vI 7, vU 0, vU 0, bF]) := hS 2 32 dc rfl (ltd 33 rfl)
   have s32 := Rega.eval_of q32
   have e0 : R9 L9 α 1999 = row (B1) 33 #[vI 0, vU 0, vU 0, bF] := by
    show rsetup0a5T1999 B1_2 B1 nd4 B12 L9 α = _
    unfold rsetup0a5T1999
    rw [if_neg (by rw [hL]; decide)]
   have hr := hG.rowAt 1999 (act_base 1999 rfl) e0
   have c0 : u9.cell? ⟨B1, 0, none⟩ = some (vI 0) := hr.cell rfl
   have y0 : u9.frozen? ⟨B1, 0, none⟩ = false := hr.free (0)
   have c1 : u9.cell? ⟨B1, 1, none⟩ = some (vU 0) := hr.cell rfl
   have y1 : u9.frozen? ⟨B1, 1, none⟩ = false := hr.free (1)
   have c2 : u9.cell? ⟨B1, 2, none⟩ = some (vU 0) := hr.cell rfl
   have y2 : u9.frozen? ⟨B1, 2, none⟩ = false := hr.free (2)
   have c3 : u9.cell? ⟨B1, 3, none⟩ = some (bF) := hr.cell rfl
   have y3 : u9.frozen? ⟨B1, 3, none⟩ = false := hr.free (3)
   clear hr
   have E0 := Lib.hid e0
   clear e0
   go_simp
   have e1 : R9 (Rega.ran L9 5) α 1999 = row (B1) 33 #[vI 7, vU 0, vU 0, bF] := by
    show rsetup0a5T1999 B1_2 B1 nd4 B12 (Rega.ran L9 5) α = _
    unfold rsetup0a5T1999
    rw [if_pos (show Rega.ran L9 5 5 = true from rfl)]
   exact hK _ α _ (fun _ _ => rfl) rfl (step_sets (st9) hL hcl rfl 1999 rfl (act_base 1999 rfl) E0.out (0) [vI 7, vU 0, vU 0, bF] (e1.trans rfl) hG)
 clear st9
 intro α u hG
 have e0 : R9 (fun k => decide (k < 6)) α 999 = row (B12) 33 #[vI 7, vU 0, vU 0, bF] := rfl
 have e1 : R9 (fun k => decide (k < 6)) α 1999 = row (B1) 33 #[vI 7, vU 0, vU 0, bF] := by
  show rsetup0a5T1999 B1_2 B1 nd4 B12 (fun k => decide (k < 6)) α = _
  unfold rsetup0a5T1999
  rw [if_pos dc]
 have hO : Own w0 u [row (B12) 33 #[vI 7, vU 0, vU 0, bF], row (B1) 33 #[vI 7, vU 0, vU 0, bF]] X9_18 := (hG.list [999, 1999] dc (act_all dc)).conv (by
  show [R9 (fun k => decide (k < 6)) α 999, R9 (fun k => decide (k < 6)) α 1999] = _
  rw [e0, e1])
 clear hG e0 e1 R9
 generalize hfr : Rega.frameAt _ _ _ _ _ = fr
 have hdf : fr = ⟨#[bF, undef, vP nd4, vP B1_2, vP B1, vP B1_1, vP B1_2, vP nd4, vP B12, v8 3, vS B15 1 1, .agg #[vO, vO, vN, .map none, vN, vN, vI 0, vI 0, vU 0, vU 0, bF, bF, bF, bF, v8 0, v8 6], vP B1_1, vP B1_1, .agg #[vO, vP B1_1, vN, .map none, vN, vN, vI 0, vI 0, vU 0, vU 0, bF, bF, bF, bF, v8 0, v8 8], vP B1_2, vP B1_2, vP B1_1, vP nd4, vP nd4, .agg #[vI 0, vU 0, vU 0, bF], bF, v8 3, .agg #[vN, v8 3, bF, bF], vP B12_1, .agg #[vF 42 B12_1, vI 7], vS B15 1 1, vP nd4, vS B15 1 1, .tuple #[], vP nd4, vP B1_2, .agg #[vI 7, vU 0, vU 0, bF]], []⟩ := by rw [← hfr]; kernel_rfl
 clear hfr
 subst hdf
 clear α
 subst hX9_18
 replace hO : Own w0 u [row (B12) 33 #[vI 7, vU 0, vU 0, bF], row (B1) 33 #[vI 7, vU 0, vU 0, bF], row (nd4) 252 ((newPar nd5 B1_2 B1_1 nd6 nd8).setIfInBounds 106 (vS nd10 (0 + 1) ((0 + 1) + nd11))), row (B1_2) 99 #[vO, vP B1_1, vN, .map none, vN, vN, vI 0, vI 0, vU 0, vU 0, bF, bF, bF, bF, v8 0, v8 8], row (B15) 61 #[vF 42 B12_1, vI 7], row (B12_1) 57 #[vN, v8 2, bF, bF], row (nd10) 260 (full symZ (symL (nosy ++ [syk ⟨#[95, 115, 116, 97, 99, 107]⟩ 27])) nd11), row (nd6) 107 #[vN, vN, vN, vN, .map (some nd7), .map none, .map none, vN, bF, bF, bF], ((nd7, .map (uA ([])) (uN ([]))) : Rw), ((nd8, .map #[] 0) : Rw), row (B1_1) 99 #[vO, vO, vN, .map none, vN, vN, vI 0, vI 0, vU 0, vU 0, bF, bF, bF, bF, v8 0, v8 6]] X := hO.back HL.out HX.out [1, 2, 3, 4, 5, 6, 7, 8, 9] dc dc
 clear HL HX
 obtain ⟨aA, aB, aC, aD, aE, aF, -⟩ := hO.k4 0 rfl
 obtain ⟨aM, aN, aO, aP, aQ, aR, -⟩ := hO.k4 1 rfl
 obtain ⟨aS, aT, aU, aV, -⟩ := hO.k2 4 rfl
 obtain ⟨ao, ap, aq, ar, au, av, -⟩ := hO.k4 5 rfl
 have HO := Lib.hid hO
 clear hO
 go_wp2_with (first | (with_reducible refine Own.stay (fn := Tryd.f9) ?_) | fail)
 try with_reducible refine Own.Stay.mk ?_
 have hO := HO.out
 clear HO aA aB aC aD aE aF aM aN aO aP aQ aR aS aT aU aV ao ap aq ar au av
 have z9_1_0 : u.cell? ⟨B1, 0, none⟩ = some (vI 7) := hO.cell 1 rfl 0 rfl
 have z9_1_1 : u.cell? ⟨B1, 1, none⟩ = some (vU 0) := hO.cell 1 rfl 1 rfl
 have z9_1_2 : u.cell? ⟨B1, 2, none⟩ = some (vU 0) := hO.cell 1 rfl 2 rfl
 have z9_1_3 : u.cell? ⟨B1, 3, none⟩ = some (bF) := hO.cell 1 rfl 3 rfl
 refine bodyPost_ret (v := .tuple #[vP nd4, vP B1_2, .agg #[vI 7, vU 0, vU 0, bF]]) ?_ rfl ⟨nd4, nd5, nd10, nd11, nd6, nd7, nd8, B1_2, B1_1, rfl, hO.sub [2, 6, 7, 8, 9, 3, 10] dc⟩
 simp [results, Tryd.results9, go_sem, z9_1_0, z9_1_1, z9_1_2, z9_1_3]
noncomputable def rsetup1a5E (B1_2 : Nat) (B1 : Nat) (nd4 : Nat) (B12 : Nat) : Nat → Rega.Atoms → Value
 | 0, α => vP nd4
 | 1, α => vP B1_2
 | 2, α => .agg #[vI 7, vU 0, vU 0, .bool true]
 | 3, α => vP nd4
 | 4, α => vP B1_2
 | 5, α => undef
 | _, _ => undef
noncomputable def rsetup1a5Anc : Nat → List Nat
 | 3 => [0]
 | 4 => [0, 1, 3]
 | 5 => [0, 1, 2, 3, 4]
 | _ => []
noncomputable def rsetup1a5Trn : Nat → List Nat
 | 5 => [1999]
 | _ => []
noncomputable def rsetup1a5Cnt : List (Nat × Nat) := []
noncomputable def rsetup1a5T1999 (B1_2 : Nat) (B1 : Nat) (nd4 : Nat) (B12 : Nat) (L9 : Nat → Bool) (α : Rega.Atoms) : Rw := if L9 5 = true then row (B1) 33 #[vI 7, vU 0, vU 0, .bool true] else row (B1) 33 #[vI 0, vU 0, vU 0, bF]
noncomputable def rsetup1a5R (B1_2 : Nat) (B1 : Nat) (nd4 : Nat) (B12 : Nat) (L9 : Nat → Bool) (α : Rega.Atoms) (ix9 : Nat) : Rw := if ix9 = 999 then row (B12) 33 #[vI 7, vU 0, vU 0, .bool true] else if ix9 = 1999 then rsetup1a5T1999 B1_2 B1 nd4 B12 L9 α else (0, .map #[] 0)
theorem rsetup1a5_he (B1_2 : Nat) (B1 : Nat) (nd4 : Nat) (B12 : Nat) : ∀ kk α α', (∀ j, (j % 1000 = kk ∨ j % 1000 ∈ rsetup1a5Anc kk) → α j = α' j) → rsetup1a5E B1_2 B1 nd4 B12 kk α = rsetup1a5E B1_2 B1 nd4 B12 kk α' := by
 intro kk α α' h
 match kk with
 | 0 => rfl
 | 1 => rfl
 | 2 => rfl
 | 3 => rfl
 | 4 => rfl
 | 5 => rfl
 | n + 6 => rfl
theorem rsetup1a5_st (B1_2 : Nat) (B1 : Nat) (nd4 : Nat) (B12 : Nat) : Stable rsetup1a5Cnt 2 rsetup1a5Anc rsetup1a5Trn (rsetup1a5R B1_2 B1 nd4 B12) := by
 intro k9 L9 α α' ix9 hk hcl hα hact ht
 have hp := act_places hact
 replace hp : ix9 ∈ [999, 1999] := hp
 simp only [List.mem_cons, List.not_mem_nil, or_false] at hp
 rcases hp with rfl | rfl
 ·rfl
 ·show rsetup1a5T1999 B1_2 B1 nd4 B12 (Rega.ran L9 k9) α' = rsetup1a5T1999 B1_2 B1 nd4 B12 L9 α
  unfold rsetup1a5T1999
  have n5 : 5 ≠ k9 := fun e => ht (by rw [← e]; decide)
  rw [ran_ne n5]
def setup1Post  (w0 : World) (X : Nat → Obj → Prop) (e : Ending) (w' : World) : Prop :=
 ∃ pb : Nat, ∃ sb0 : Nat, ∃ sb : Nat, ∃ c : Nat, ∃ pt : Nat, ∃ mu : Nat, ∃ mp : Nat, ∃ cs : Nat, ∃ ms : Nat, e = .returned (.tuple #[vP pb, vP cs, .agg #[vI 7, vU 0, vU 0, .bool true]]) ∧ Own w0 w' [row (pb) 252 ((newPar sb0 cs ms pt mp).setIfInBounds 106 (vS sb 1 (1 + c))), row (sb) 260 (full symZ (symL ([sy ⟨#[95, 115, 116, 97, 99, 107]⟩ 0])) c), row (pt) 107 #[vN, vN, vN, vN, .map (some mu), .map none, .map none, vN, bF, bF, bF], ((mu, .map (uA ([])) (uN ([]))) : Rw), ((mp, .map #[] 0) : Rw), row (cs) 99 #[vO, vP ms, vN, .map none, vN, vN, vI 0, vI 0, vU 0, vU 0, bF, bF, bF, bF, v8 0, v8 8], row (ms) 99 #[vO, vO, vN, .map none, vN, vN, vI 0, vI 0, vU 0, vU 0, bF, bF, bF, bF, v8 0, v8 6]] X
set_option maxRecDepth 100000 in
set_option maxHeartbeats 1000000 in
theorem setup1  (w0 w : World) (X : Nat → Obj → Prop) (hO : Own w0 w [] X) (hg0 : w0.cell? ⟨0, 0, none⟩ = some (vU 4294967295)) (hg1 : w0.cell? ⟨0, 1, none⟩ = some (vU 4294967295)) :
  Calls Tryd.prog 9 #[.bool true] w (setup1Post  w0 X) := by
 go_enter Tryd.func9, Tryd.ntmps9
 go_wp2_with (first | (with_reducible refine Own.stay (fn := Tryd.f9) ?_) | fail)
 try with_reducible refine Own.Stay.mk ?_
 generalize hW : World.alloc _ _ = W2
 have hN : Own w0 W2 [row (w.heap.size + 1 + 1) 99 #[vO, .pointer (some ⟨w.heap.size + 1, 0, none⟩), vN, .map none, vN, vN, vI 0, vI 0, vU 0, vU 0, bF, bF, bF, bF, v8 0, v8 8], row (w.heap.size + 1) 99 #[vO, vO, vN, .map none, vN, vN, vI 0, vI 0, vU 0, vU 0, bF, bF, bF, bF, v8 0, v8 6], row (w.heap.size) 33 #[vI 0, vU 0, vU 0, bF]] X := by
  rw [← hW]
  exact (((hO).alloc' _ (w.heap.size) (by simp)).alloc' _ (w.heap.size + 1) (by simp)).alloc' _ (w.heap.size + 1 + 1) (by simp)
 clear hW hO
 generalize w.heap.size + 1 + 1 = B1_2 at hN ⊢
 generalize w.heap.size + 1 = B1_1 at hN ⊢
 generalize w.heap.size = B1 at hN ⊢
 have hO := hN
 clear hN
 obtain ⟨HL, HX⟩ := hid2 hO
 have hP9 := hO.pick [] dc
 have T9 := newP B1_2 B1_1 _ _ _ hP9 
 refine Calls.mono T9 ?_
 clear hP9 T9
 rintro e uw3 ⟨nd4, nd5, nd6, nd7, nd8, rfl, hQ⟩
 replace hO : Own w0 uw3 [row (nd4) 252 (newPar nd5 B1_2 B1_1 nd6 nd8), row (nd5) 260 (full symZ (symL nosy) 0), row (nd6) 107 #[vN, vN, vN, vN, .map (some nd7), .map none, .map none, vN, bF, bF, bF], ((nd7, .map (uA ([])) (uN ([]))) : Rw), ((nd8, .map #[] 0) : Rw), row (B1_2) 99 #[vO, vP B1_1, vN, .map none, vN, vN, vI 0, vI 0, vU 0, vU 0, bF, bF, bF, bF, v8 0, v8 8], row (B1_1) 99 #[vO, vO, vN, .map none, vN, vN, vI 0, vI 0, vU 0, vU 0, bF, bF, bF, bF, v8 0, v8 6], row (B1) 33 #[vI 0, vU 0, vU 0, bF]] X := hQ.back HL.out HX.out [0, 1, 2] dc dc
 clear hQ HL HX
 obtain ⟨aG, aH, aI, aJ, aK, aL, -⟩ := hO.k4 7 rfl
 have HO := Lib.hid hO
 clear hO
 go_wp2_with (first | (with_reducible refine Own.stay (fn := Tryd.f9) ?_) | fail)
 try with_reducible refine Own.Stay.mk ?_
 have hO := HO.out
 clear HO aG aH aI aJ aK aL
 obtain ⟨HL, HX⟩ := hid2 hO
 have hP9 := hO.pick [0, 1] dc
 have h9_hn : nosy.length = 0 := rfl
 have h9_hnb : 0 ≤ 1000000 := (by omega)
 have T9 := newCtx nd4 (newPar nd5 B1_2 B1_1 nd6 nd8) nd5 0 nosy 0 0 _ _ _ hP9 (newPar_66 _ _ _ _ _) (newPar_32 _ _ _ _ _) (newPar_106 _ _ _ _ _) h9_hn h9_hnb hg0 hg1
 refine Calls.mono T9 ?_
 clear hP9 T9 h9_hn h9_hnb
 rintro e uw9 ⟨nd10, nd11, rfl, hQ⟩
 replace hO : Own w0 uw9 [row (nd4) 252 ((newPar nd5 B1_2 B1_1 nd6 nd8).setIfInBounds 106 (vS nd10 (0 + 1) (0 + 1 + nd11))), row (nd10) 260 (full symZ (symL (nosy ++ [syk ⟨#[95, 115, 116, 97, 99, 107]⟩ 27])) nd11), row (nd6) 107 #[vN, vN, vN, vN, .map (some nd7), .map none, .map none, vN, bF, bF, bF], ((nd7, .map (uA ([])) (uN ([]))) : Rw), ((nd8, .map #[] 0) : Rw), row (B1_2) 99 #[vO, vP B1_1, vN, .map none, vN, vN, vI 0, vI 0, vU 0, vU 0, bF, bF, bF, bF, v8 0, v8 8], row (B1_1) 99 #[vO, vO, vN, .map none, vN, vN, vI 0, vI 0, vU 0, vU 0, bF, bF, bF, bF, v8 0, v8 6], row (B1) 33 #[vI 0, vU 0, vU 0, bF]] X := hQ.back HL.out HX.out [2, 3, 4, 5, 6, 7] dc dc
 clear hQ HL HX
 obtain ⟨aG, aH, aI, aJ, aK, aL, -⟩ := hO.k4 7 rfl
 have HO := Lib.hid hO
 clear hO
 go_wp2_with (first | (with_reducible refine Own.stay (fn := Tryd.f9) ?_) | fail)
 try with_reducible refine Own.Stay.mk ?_
 have hO := HO.out
 clear HO aG aH aI aJ aK aL
 generalize hW : World.alloc _ _ = W13
 have hN : Own w0 W13 [row (uw9.heap.size + 1) 57 #[vN, v8 4, bF, bF], row (uw9.heap.size) 33 #[vI 0, vU 0, vU 0, bF], row (nd4) 252 ((newPar nd5 B1_2 B1_1 nd6 nd8).setIfInBounds 106 (vS nd10 (0 + 1) (0 + 1 + nd11))), row (nd10) 260 (full symZ (symL (nosy ++ [syk ⟨#[95, 115, 116, 97, 99, 107]⟩ 27])) nd11), row (nd6) 107 #[vN, vN, vN, vN, .map (some nd7), .map none, .map none, vN, bF, bF, bF], ((nd7, .map (uA ([])) (uN ([]))) : Rw), ((nd8, .map #[] 0) : Rw), row (B1_2) 99 #[vO, vP B1_1, vN, .map none, vN, vN, vI 0, vI 0, vU 0, vU 0, bF, bF, bF, bF, v8 0, v8 8], row (B1_1) 99 #[vO, vO, vN, .map none, vN, vN, vI 0, vI 0, vU 0, vU 0, bF, bF, bF, bF, v8 0, v8 6], row (B1) 33 #[vI 0, vU 0, vU 0, bF]] X := by
  rw [← hW]
  exact ((hO).alloc' _ (uw9.heap.size) (by simp)).alloc' _ (uw9.heap.size + 1) (by simp)
 clear hW hO
 generalize uw9.heap.size + 1 = B12_1 at hN ⊢
 generalize uw9.heap.size = B12 at hN ⊢
 have hO := hN
 clear hN
 obtain ⟨HL, HX⟩ := hid2 hO
 have hP9 := hO.pick [] dc
 have T9 := localStmt B12_1 7 _ _ _ hP9 
 refine Calls.mono T9 ?_
 clear hP9 T9
 rintro e uw14 ⟨rfl, hQ⟩
 replace hO : Own w0 uw14 [row (B12_1) 57 #[vN, v8 4, bF, bF], row (B12) 33 #[vI 0, vU 0, vU 0, bF], row (nd4) 252 ((newPar nd5 B1_2 B1_1 nd6 nd8).setIfInBounds 106 (vS nd10 (0 + 1) (0 + 1 + nd11))), row (nd10) 260 (full symZ (symL (nosy ++ [syk ⟨#[95, 115, 116, 97, 99, 107]⟩ 27])) nd11), row (nd6) 107 #[vN, vN, vN, vN, .map (some nd7), .map none, .map none, vN, bF, bF, bF], ((nd7, .map (uA ([])) (uN ([]))) : Rw), ((nd8, .map #[] 0) : Rw), row (B1_2) 99 #[vO, vP B1_1, vN, .map none, vN, vN, vI 0, vI 0, vU 0, vU 0, bF, bF, bF, bF, v8 0, v8 8], row (B1_1) 99 #[vO, vO, vN, .map none, vN, vN, vI 0, vI 0, vU 0, vU 0, bF, bF, bF, bF, v8 0, v8 6], row (B1) 33 #[vI 0, vU 0, vU 0, bF]] X := hQ.back HL.out HX.out [0, 1, 2, 3, 4, 5, 6, 7, 8, 9] dc dc
 clear hQ HL HX
 obtain ⟨aA, aB, aC, aD, aE, aF, -⟩ := hO.k4 0 rfl
 obtain ⟨aM, aN, aO, aP, aQ, aR, -⟩ := hO.k4 1 rfl
 obtain ⟨aW, aX, aY, aZ, aa, ab, -⟩ := hO.k4 9 rfl
 have HO := Lib.hid hO
 clear hO
 go_wp2_with (first | (with_reducible refine Own.stay (fn := Tryd.f9) ?_) | fail)
 try with_reducible refine Own.Stay.mk ?_
 have hO := HO.out
 clear HO aA aB aC aD aE aF aM aN aO aP aQ aR aW aX aY aZ aa ab
 generalize hW : World.alloc _ _ = W16
 have hN : Own w0 W16 [row (uw14.heap.size) 61 #[vF 42 B12_1, vI 7], row (B12_1) 57 #[vN, v8 4, bF, bF], row (B12) 33 #[vI 0, vU 0, vU 0, bF], row (nd4) 252 ((newPar nd5 B1_2 B1_1 nd6 nd8).setIfInBounds 106 (vS nd10 (0 + 1) (0 + 1 + nd11))), row (nd10) 260 (full symZ (symL (nosy ++ [syk ⟨#[95, 115, 116, 97, 99, 107]⟩ 27])) nd11), row (nd6) 107 #[vN, vN, vN, vN, .map (some nd7), .map none, .map none, vN, bF, bF, bF], ((nd7, .map (uA ([])) (uN ([]))) : Rw), ((nd8, .map #[] 0) : Rw), row (B1_2) 99 #[vO, vP B1_1, vN, .map none, vN, vN, vI 0, vI 0, vU 0, vU 0, bF, bF, bF, bF, v8 0, v8 8], row (B1_1) 99 #[vO, vO, vN, .map none, vN, vN, vI 0, vI 0, vU 0, vU 0, bF, bF, bF, bF, v8 0, v8 6], row (B1) 33 #[vI 0, vU 0, vU 0, bF]] X := by
  rw [← hW]
  exact (hO).alloc' _ (uw14.heap.size) (by simp)
 clear hW hO
 generalize uw14.heap.size = B15 at hN ⊢
 have hO := hN
 clear hN
 obtain ⟨HL, HX⟩ := hid2 hO
 have hP9 := hO.pick [2, 3, 8, 0, 1] dc
 have T9 := scanD1 nd4 ((newPar nd5 B1_2 B1_1 nd6 nd8).setIfInBounds 106 (vS nd10 (0 + 1) ((0 + 1) + nd11))) B1_2 #[vO, vP B1_1, vN, .map none, vN, vN, vI 0, vI 0, vU 0, vU 0, bF, bF, bF, bF, v8 0, v8 8] B1_1 B12 B15 B12_1 0 0 _ _ _ hP9 (get_other (newPar_104 _ _ _ _ _) (by omega) _) (get_other (newPar_23 _ _ _ _ _) (by omega) _) (get_other (newPar_34 _ _ _ _ _) (by omega) _) (get_other (newPar_352 _ _ _ _ _) (by omega) _) rfl
 refine Calls.mono T9 ?_
 clear hP9 T9
 rintro e uw17 ⟨rfl, hQ⟩
 replace hO : Own w0 uw17 [row (B12) 33 #[vI 7, vU 0, vU 0, .bool true], row (nd4) 252 ((newPar nd5 B1_2 B1_1 nd6 nd8).setIfInBounds 106 (vS nd10 (0 + 1) ((0 + 1) + nd11))), row (B1_2) 99 #[vO, vP B1_1, vN, .map none, vN, vN, vI 0, vI 0, vU 0, vU 0, bF, bF, bF, bF, v8 0, v8 8], row (B15) 61 #[vF 42 B12_1, vI 7], row (B12_1) 57 #[vN, v8 2, bF, bF], row (nd10) 260 (full symZ (symL (nosy ++ [syk ⟨#[95, 115, 116, 97, 99, 107]⟩ 27])) nd11), row (nd6) 107 #[vN, vN, vN, vN, .map (some nd7), .map none, .map none, vN, bF, bF, bF], ((nd7, .map (uA ([])) (uN ([]))) : Rw), ((nd8, .map #[] 0) : Rw), row (B1_1) 99 #[vO, vO, vN, .map none, vN, vN, vI 0, vI 0, vU 0, vU 0, bF, bF, bF, bF, v8 0, v8 6], row (B1) 33 #[vI 0, vU 0, vU 0, bF]] X := hQ.back HL.out HX.out [4, 5, 6, 7, 9, 10] dc dc
 clear hQ HL HX
 obtain ⟨aA, aB, aC, aD, aE, aF, -⟩ := hO.k4 0 rfl
 obtain ⟨ac, ad, ae, af, -⟩ := hO.k2 3 rfl
 obtain ⟨aS, aT, ag, ah, aU, aV, -⟩ := hO.k4 4 rfl
 obtain ⟨ai, aj, ak, al, am, an, -⟩ := hO.k4 10 rfl
 have HO := Lib.hid hO
 clear hO
 go_wp2_with (first | (with_reducible refine Own.stay (fn := Tryd.f9) ?_) | fail)
 try with_reducible refine Own.Stay.mk ?_
 have hO := HO.out
 clear HO aA aB aC aD aE aF ac ad ae af aS aT ag ah aU aV ai aj ak al am an
 obtain ⟨HL, HX⟩ := hid2 hO
 have hP9 := hO.pick [0, 10] dc
 generalize hX9_18 : Own.Rest _ _ X = X9_18 at hP9
 replace hP9 : Own w0 uw17 [row (B12) 33 #[vI 7, vU 0, vU 0, .bool true], row (B1) 33 #[vI 0, vU 0, vU 0, bF]] X9_18 := hP9
 clear hO
 have hO := hP9
 clear hP9
 have st9 := rsetup1a5_st B1_2 B1 nd4 B12
 let R9 := rsetup1a5R B1_2 B1 nd4 B12
 refine wp_region_own (e := rsetup1a5E B1_2 B1 nd4 B12) (anc := rsetup1a5Anc) (G := (fun L9 α u9 => OwnF w0 u9 (act rsetup1a5Cnt 2 L9) (rsetup1a5R B1_2 B1 nd4 B12 L9 α) X9_18)) (by kernel_rfl) (by kernel_rfl) (by kernel_rfl) (by kernel_rfl) (rsetup1a5_he B1_2 B1 nd4 B12) ?_ (RunsAll.all ?_) ?_
 ·have hp : ∀ i, act rsetup1a5Cnt 2 (fun _ => false) i → i ∈ [999, 1999] := by
   intro i hi
   have h9 : i % 1000 = 999 := by
    by_cases h : i % 1000 = 999
    ·exact h
    ·exact absurd (act_lt hi h) (by simp)
   unfold act at hi
   rw [if_pos h9] at hi
   simp only [List.mem_cons, List.not_mem_nil, or_false]
   omega
  refine hO.drew.family (fun i hi => ?_) (fun i j hi hj hij => ?_)
  ·have := hp i hi
   simp only [List.mem_cons, List.not_mem_nil, or_false] at this
   rcases this with rfl | rfl <;> rfl
  ·have h1 := hp i hi
   have h2 := hp j hj
   simp only [List.mem_cons, List.not_mem_nil, or_false] at h1 h2
   omega
 ·refine ⟨?_, ?_, ?_, ?_, ?_, ?_, trivial⟩
  ·refine pur st9 rfl rfl fun L9 α a9 u9 K9 hL hcl hA hG hS h0 h1 hK => ?_
   have s7 := eS (vP nd4) ((h0 7 (by kernel_rfl)).trans rfl)
   go_simp
   exact hK
  ·refine pur st9 rfl rfl fun L9 α a9 u9 K9 hL hcl hA hG hS h0 h1 hK => ?_
   have s6 := eS (vP B1_2) ((h0 6 (by kernel_rfl)).trans rfl)
   go_simp
   exact hK
  ·refine pur st9 rfl rfl fun L9 α a9 u9 K9 hL hcl hA hG hS h0 h1 hK => ?_
   have s8 := eS (vP B12) ((h0 8 (by kernel_rfl)).trans rfl)
   have e0 : R9 L9 α 999 = row (B12) 33 #[vI 7, vU 0, vU 0, .bool true] := rfl
   have hr := hG.rowAt 999 (act_base 999 rfl) e0
   have c0 : u9.cell? ⟨B12, 0, none⟩ = some (vI 7) := hr.cell rfl
   have c1 : u9.cell? ⟨B12, 1, none⟩ = some (vU 0) := hr.cell rfl
   have c2 : u9.cell? ⟨B12, 2, none⟩ = some (vU 0) := hr.cell rfl
   have c3 : u9.cell? ⟨B12, 3, none⟩ = some (.bool true) := hr.cell rfl
   clear hr e0
   go_simp
   exact hK
  ·refine pur st9 rfl rfl fun L9 α a9 u9 K9 hL hcl hA hG hS h0 h1 hK => ?_
   have s30 := eS (vP nd4) (hS 0 30 dc rfl (ltd 33 rfl))
   go_simp
   exact hK
  ·refine pur st9 rfl rfl fun L9 α a9 u9 K9 hL hcl hA hG hS h0 h1 hK => ?_
   have s31 := eS (vP B1_2) (hS 1 31 dc rfl (ltd 33 rfl))
   go_simp
   exact hK
  ·intro L9 α a9 u9 K9 hL hcl hA hG hS h0 h1 hK
   replace hL : L9 5 = false := hL
   have q4 : a9.tmps[4]? = some (vP B1) := (h0 4 (by kernel_rfl)).trans rfl
   have s4 := Rega.eval_of q4
   have q32 : a9.tmps[32]? = some (.agg #[vI 7, vU 0, vU 0, .bool true]) := hS 2 32 dc rfl (ltd 33 rfl)
   have s32 := Rega.eval_of q32
   have e0 : R9 L9 α 1999 = row (B1) 33 #[vI 0, vU 0, vU 0, bF] := by
    show rsetup1a5T1999 B1_2 B1 nd4 B12 L9 α = _
    unfold rsetup1a5T1999
    rw [if_neg (by rw [hL]; decide)]
   have hr := hG.rowAt 1999 (act_base 1999 rfl) e0
   have c0 : u9.cell? ⟨B1, 0, none⟩ = some (vI 0) := hr.cell rfl
   have y0 : u9.frozen? ⟨B1, 0, none⟩ = false := hr.free (0)
   have c1 : u9.cell? ⟨B1, 1, none⟩ = some (vU 0) := hr.cell rfl
   have y1 : u9.frozen? ⟨B1, 1, none⟩ = false := hr.free (1)
   have c2 : u9.cell? ⟨B1, 2, none⟩ = some (vU 0) := hr.cell rfl
   have y2 : u9.frozen? ⟨B1, 2, none⟩ = false := hr.free (2)
   have c3 : u9.cell? ⟨B1, 3, none⟩ = some (bF) := hr.cell rfl
   have y3 : u9.frozen? ⟨B1, 3, none⟩ = false := hr.free (3)
   clear hr
   have E0 := Lib.hid e0
   clear e0
   go_simp
   have e1 : R9 (Rega.ran L9 5) α 1999 = row (B1) 33 #[vI 7, vU 0, vU 0, .bool true] := by
    show rsetup1a5T1999 B1_2 B1 nd4 B12 (Rega.ran L9 5) α = _
    unfold rsetup1a5T1999
    rw [if_pos (show Rega.ran L9 5 5 = true from rfl)]
   exact hK _ α _ (fun _ _ => rfl) rfl (step_sets (st9) hL hcl rfl 1999 rfl (act_base 1999 rfl) E0.out (0) [vI 7, vU 0, vU 0, .bool true] (e1.trans rfl) hG)
 clear st9
 intro α u hG
 have e0 : R9 (fun k => decide (k < 6)) α 999 = row (B12) 33 #[vI 7, vU 0, vU 0, .bool true] := rfl
 have e1 : R9 (fun k => decide (k < 6)) α 1999 = row (B1) 33 #[vI 7, vU 0, vU 0, .bool true] := by
  show rsetup1a5T1999 B1_2 B1 nd4 B12 (fun k => decide (k < 6)) α = _
  unfold rsetup1a5T1999
  rw [if_pos dc]
 have hO : Own w0 u [row (B12) 33 #[vI 7, vU 0, vU 0, .bool true], row (B1) 33 #[vI 7, vU 0, vU 0, .bool true]] X9_18 := (hG.list [999, 1999] dc (act_all dc)).conv (by
  show [R9 (fun k => decide (k < 6)) α 999, R9 (fun k => decide (k < 6)) α 1999] = _
  rw [e0, e1])
 clear hG e0 e1 R9
 generalize hfr : Rega.frameAt _ _ _ _ _ = fr
 have hdf : fr = ⟨#[.bool true, undef, vP nd4, vP B1_2, vP B1, vP B1_1, vP B1_2, vP nd4, vP B12, v8 4, vS B15 1 1, .agg #[vO, vO, vN, .map none, vN, vN, vI 0, vI 0, vU 0, vU 0, bF, bF, bF, bF, v8 0, v8 6], vP B1_1, vP B1_1, .agg #[vO, vP B1_1, vN, .map none, vN, vN, vI 0, vI 0, vU 0, vU 0, bF, bF, bF, bF, v8 0, v8 8], vP B1_2, vP B1_2, vP B1_1, vP nd4, vP nd4, .agg #[vI 0, vU 0, vU 0, bF], .bool true, v8 4, .agg #[vN, v8 4, bF, bF], vP B12_1, .agg #[vF 42 B12_1, vI 7], vS B15 1 1, vP nd4, vS B15 1 1, .tuple #[], vP nd4, vP B1_2, .agg #[vI 7, vU 0, vU 0, .bool true]], []⟩ := by rw [← hfr]; kernel_rfl
 clear hfr
 subst hdf
 clear α
 subst hX9_18
 replace hO : Own w0 u [row (B12) 33 #[vI 7, vU 0, vU 0, .bool true], row (B1) 33 #[vI 7, vU 0, vU 0, .bool true], row (nd4) 252 ((newPar nd5 B1_2 B1_1 nd6 nd8).setIfInBounds 106 (vS nd10 (0 + 1) ((0 + 1) + nd11))), row (B1_2) 99 #[vO, vP B1_1, vN, .map none, vN, vN, vI 0, vI 0, vU 0, vU 0, bF, bF, bF, bF, v8 0, v8 8], row (B15) 61 #[vF 42 B12_1, vI 7], row (B12_1) 57 #[vN, v8 2, bF, bF], row (nd10) 260 (full symZ (symL (nosy ++ [syk ⟨#[95, 115, 116, 97, 99, 107]⟩ 27])) nd11), row (nd6) 107 #[vN, vN, vN, vN, .map (some nd7), .map none, .map none, vN, bF, bF, bF], ((nd7, .map (uA ([])) (uN ([]))) : Rw), ((nd8, .map #[] 0) : Rw), row (B1_1) 99 #[vO, vO, vN, .map none, vN, vN, vI 0, vI 0, vU 0, vU 0, bF, bF, bF, bF, v8 0, v8 6]] X := hO.back HL.out HX.out [1, 2, 3, 4, 5, 6, 7, 8, 9] dc dc
 clear HL HX
 obtain ⟨aA, aB, aC, aD, aE, aF, -⟩ := hO.k4 0 rfl
 obtain ⟨aM, aN, aO, aP, aQ, aR, -⟩ := hO.k4 1 rfl
 obtain ⟨aS, aT, aU, aV, -⟩ := hO.k2 4 rfl
 obtain ⟨ao, ap, aq, ar, au, av, -⟩ := hO.k4 5 rfl
 have HO := Lib.hid hO
 clear hO
 go_wp2_with (first | (with_reducible refine Own.stay (fn := Tryd.f9) ?_) | fail)
 try with_reducible refine Own.Stay.mk ?_
 have hO := HO.out
 clear HO aA aB aC aD aE aF aM aN aO aP aQ aR aS aT aU aV ao ap aq ar au av
 have z9_1_0 : u.cell? ⟨B1, 0, none⟩ = some (vI 7) := hO.cell 1 rfl 0 rfl
 have z9_1_1 : u.cell? ⟨B1, 1, none⟩ = some (vU 0) := hO.cell 1 rfl 1 rfl
 have z9_1_2 : u.cell? ⟨B1, 2, none⟩ = some (vU 0) := hO.cell 1 rfl 2 rfl
 have z9_1_3 : u.cell? ⟨B1, 3, none⟩ = some (.bool true) := hO.cell 1 rfl 3 rfl
 refine bodyPost_ret (v := .tuple #[vP nd4, vP B1_2, .agg #[vI 7, vU 0, vU 0, .bool true]]) ?_ rfl ⟨nd4, nd5, nd10, nd11, nd6, nd7, nd8, B1_2, B1_1, rfl, hO.sub [2, 6, 7, 8, 9, 3, 10] dc⟩
 simp [results, Tryd.results9, go_sem, z9_1_0, z9_1_1, z9_1_2, z9_1_3]
end Go.Proofs.YtikopplofkemlaaDoor.Use
