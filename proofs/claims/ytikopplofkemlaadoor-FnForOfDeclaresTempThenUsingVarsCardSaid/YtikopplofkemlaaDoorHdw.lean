/- Several texts in one. No condition. -/
import Derived.Test.YtikopplofkemlaaDoorTgx
import Derived.Test.YtikopplofkemlaaDoorFo9
namespace Go.Proofs.YtikopplofkemlaaDoor.Use
open Go.ChangeShapes Go.WideShapes Go.ChangeAt Go.RowKit Go.Sort Own
set_option linter.unusedVariables false
def law43h0Post (nm : ByteArray) (sh n : Nat) (w0 : World) (X : Nat → Obj → Prop) (e : Ending) (w' : World) : Prop :=
 e = .returned (.bool true) ∧ Own w0 w' [] X
set_option maxRecDepth 100000 in
set_option maxHeartbeats 4000000 in
theorem law43h0 (nm : ByteArray) (sh n : Nat) (w0 w : World) (X : Nat → Obj → Prop) (hO : Own w0 w [] X) (hnm : nm.size ≤ 65536) (hn4 : n ≤ 4096) (hg0 : w0.cell? ⟨0, 0, none⟩ = some (vU 4294967295)) (hg1 : w0.cell? ⟨0, 1, none⟩ = some (vU 4294967295)) :
  Calls Tryd.prog 4 #[.string nm, v8 (sh : Int), v6 (n : Int), bF] w (law43h0Post nm sh n w0 X) := by
 go_enter Tryd.func4, Tryd.ntmps4
 obtain ⟨c9, hc9⟩ : ∃ c, c = rest43 := ⟨_, rfl⟩
 have HC9 := Lib.hid hc9
 simp only [rest43, Tryd.f4, Option.getD_some, cutC] at hc9
 rw [← hc9]
 clear hc9
 have hn9 : (n : Int) ≤ 4096 := by omega
 have hn8 : (0 : Int) ≤ (n : Int) := by omega
 have hnm9 : (nm.size : Int) ≤ 65536 := by omega
 have hnm8 : (0 : Int) ≤ (nm.size : Int) := by omega
 go_wp2_with (first | (with_reducible refine Own.stay (fn := Tryd.f4) ?_) | (first | (go_at_call 19; go_in)))
 try with_reducible refine Own.Stay.mk ?_
 obtain ⟨HL, HX⟩ := hid2 hO
 have hP9 := hO.pick [] dc
 have T9 := setU0 nm _ _ _ hP9 hg0 hg1
 refine Calls.mono T9 ?_
 clear hP9 T9
 rintro e uw1 ⟨nd2, nd3, nd4, nd5, nd6, nd7, nd8, nd9, nd10, nd11, nd12, nd13, rfl, hQ⟩
 replace hO : Own w0 uw1 [row (nd2) 252 ((newPar nd3 nd9 nd10 nd6 nd8).setIfInBounds 106 (vS nd4 1 (1 + nd5))), row (nd4) 260 (full symZ (symL ([sy nm 0])) nd5), row (nd6) 107 #[vN, vN, vN, vN, .map (some nd7), .map none, .map none, vN, bF, bF, bF], ((nd7, .map (uA ([])) (uN ([]))) : Rw), ((nd8, .map #[] 0) : Rw), row (nd9) 99 #[vO, vP nd10, vN, .map none, vN, vN, vI 0, vI 0, vU 0, vU 0, bF, bF, bF, bF, v8 0, v8 8], row (nd10) 99 #[vO, vO, vN, .map none, vN, vN, vI 0, vI 0, vU 0, vU 0, bF, bF, bF, bF, v8 0, v8 6], row (nd11) 57 #[vS nd12 1 1, v8 3, bF, bF], row (nd12) 54 #[vF 134 nd13, vI 3, .nilIface, vI 0], row (nd13) 136 #[vU 0, vU 0]] X := hQ.back HL.out HX.out [] dc dc
 clear hQ HL HX
 have aZ : uw1.cell? ⟨nd6, 3, none⟩ = some (vN) := hO.cell 2 rfl (3) rfl
 have aA := hO.lt 2 rfl
 have aB := hO.free 2 rfl
 have dF : uw1.cell? ⟨nd9, 5, none⟩ = some (vN) := hO.cell 5 rfl (5) rfl
 have aG := hO.lt 5 rfl
 have aH := hO.free 5 rfl
 have dG : uw1.cell? ⟨nd10, 5, none⟩ = some (vN) := hO.cell 6 rfl (5) rfl
 have bB := hO.lt 6 rfl
 have bC := hO.free 6 rfl
 obtain ⟨dH, dI, dJ, bM, bD, bE, -⟩ := hO.k4 7 rfl
 obtain ⟨dK, dL, dM, dN, ah, ai, -⟩ := hO.k4 8 rfl
 obtain ⟨cv, cw, aM, aN, -⟩ := hO.k2 9 rfl
 have HO := Lib.hid hO
 clear hO
 go_wp2_with (first | (with_reducible refine Own.stay (fn := Tryd.f4) ?_) | (first | (go_at_call 19; go_in)))
 try with_reducible refine Own.Stay.mk ?_
 have hO := HO.out
 clear HO aZ aA aB dF aG aH dG bB bC dH dI dJ bM bD bE dK dL dM dN ah ai cv cw aM aN
 generalize hW : World.alloc _ _ = W15
 have hN : Own w0 W15 [row (uw1.heap.size) 31 #[vU 0, vU 0], row (nd2) 252 ((newPar nd3 nd9 nd10 nd6 nd8).setIfInBounds 106 (vS nd4 1 (1 + nd5))), row (nd4) 260 (full symZ (symL ([sy nm 0])) nd5), row (nd6) 107 #[vN, vN, vN, vN, .map (some nd7), .map none, .map none, vN, bF, bF, bF], ((nd7, .map (uA ([])) (uN ([]))) : Rw), ((nd8, .map #[] 0) : Rw), row (nd9) 99 #[vO, vP nd10, vN, .map none, vN, vN, vI 0, vI 0, vU 0, vU 0, bF, bF, bF, bF, v8 0, v8 8], row (nd10) 99 #[vO, vO, vN, .map none, vN, vN, vI 0, vI 0, vU 0, vU 0, bF, bF, bF, bF, v8 0, v8 6], row (nd11) 57 #[vS nd12 1 1, v8 3, bF, bF], row (nd12) 54 #[vF 134 nd13, vI 3, .nilIface, vI 0], row (nd13) 136 #[vU 0, vU 0]] X := by
  rw [← hW]
  exact (hO).alloc' _ (uw1.heap.size) (by simp)
 clear hW hO
 generalize uw1.heap.size = B14 at hN ⊢
 have hO := hN
 clear hN
 by_cases hs0 : sh % 3 = 0
 ·skip
  have T9 := bod0 (sh : Int) n W15 W15 (fun _ _ => False) (Own.start W15) (by
   have h9 : (sh : Int).tmod 3 = ((sh % 3 : Nat) : Int) := rfl
   rw [h9]
   omega) hn4
  refine Calls.mono T9 ?_
  clear T9
  rintro e uB ⟨kb, tb, wb, ad, rfl, hQ⟩
  obtain ⟨Yf, hYX, hYZ, hM⟩ := hO.meet hQ
  have HLB := Lib.hid (show ∀ i : Nat, i < n → Yf (ad i) (.cells #[vN, v8 0, bF, bF] 57 (0, 0)) from fun i hi => hYZ _ _ (Or.inr ⟨i, hi, rfl, rfl, rfl⟩))
  have HYX := Lib.hid hYX
  clear hYX hYZ
  replace hO : Own w0 uB [row (kb) 72 #[vS tb n n, vI 0], row (tb) 61 (full stmZ (stL (dtL ad lcB) (List.range n)) 0), row (wb) 21 (full i32Z (tab wF n) 0), row (B14) 31 #[vU 0, vU 0], row (nd2) 252 ((newPar nd3 nd9 nd10 nd6 nd8).setIfInBounds 106 (vS nd4 1 (1 + nd5))), row (nd4) 260 (full symZ (symL ([sy nm 0])) nd5), row (nd6) 107 #[vN, vN, vN, vN, .map (some nd7), .map none, .map none, vN, bF, bF, bF], ((nd7, .map (uA ([])) (uN ([]))) : Rw), ((nd8, .map #[] 0) : Rw), row (nd9) 99 #[vO, vP nd10, vN, .map none, vN, vN, vI 0, vI 0, vU 0, vU 0, bF, bF, bF, bF, v8 0, v8 8], row (nd10) 99 #[vO, vO, vN, .map none, vN, vN, vI 0, vI 0, vU 0, vU 0, bF, bF, bF, bF, v8 0, v8 6], row (nd11) 57 #[vS nd12 1 1, v8 3, bF, bF], row (nd12) 54 #[vF 134 nd13, vI 3, .nilIface, vI 0], row (nd13) 136 #[vU 0, vU 0]] Yf := hM
  clear hQ hM
  obtain ⟨cx, cy, bN, bO, -⟩ := hO.k2 0 rfl
  obtain ⟨aO, aa, aP, aQ, -⟩ := hO.k2 3 rfl
  have bP : uB.cell? ⟨nd6, 3, none⟩ = some (vN) := hO.cell 6 rfl (3) rfl
  have bB := hO.lt 6 rfl
  have bC := hO.free 6 rfl
  have ab : uB.cell? ⟨nd9, 5, none⟩ = some (vN) := hO.cell 9 rfl (5) rfl
  have aM := hO.lt 9 rfl
  have aN := hO.free 9 rfl
  have aj : uB.cell? ⟨nd10, 5, none⟩ = some (vN) := hO.cell 10 rfl (5) rfl
  have aI := hO.lt 10 rfl
  have aJ := hO.free 10 rfl
  obtain ⟨aX, aY, ac, ae, aK, aL, -⟩ := hO.k4 11 rfl
  obtain ⟨aR, aS, ak, al, aT, aU, -⟩ := hO.k4 12 rfl
  obtain ⟨am, an, ao, ap, -⟩ := hO.k2 13 rfl
  have HO := Lib.hid hO
  clear hO
  go_wp2_with (first | (with_reducible refine Own.stay (fn := Tryd.f4) ?_) | (first | (go_at_call 19; go_in)))
  try with_reducible refine Own.Stay.mk ?_
  have hO := HO.out
  clear HO cx cy bN bO aO aa aP aQ bP bB bC ab aM aN aj aI aJ aX aY ac ae aK aL aR aS ak al aT aU am an ao ap
  generalize hW : World.alloc _ _ = W17
  have hN : Own w0 W17 [row (uB.heap.size) 61 #[vF 110 kb, vI 50], row (kb) 72 #[vS tb n n, vI 0], row (tb) 61 (full stmZ (stL (dtL ad lcB) (List.range n)) 0), row (wb) 21 (full i32Z (tab wF n) 0), row (B14) 31 #[vU 0, vU 0], row (nd2) 252 ((newPar nd3 nd9 nd10 nd6 nd8).setIfInBounds 106 (vS nd4 1 (1 + nd5))), row (nd4) 260 (full symZ (symL ([sy nm 0])) nd5), row (nd6) 107 #[vN, vN, vN, vN, .map (some nd7), .map none, .map none, vN, bF, bF, bF], ((nd7, .map (uA ([])) (uN ([]))) : Rw), ((nd8, .map #[] 0) : Rw), row (nd9) 99 #[vO, vP nd10, vN, .map none, vN, vN, vI 0, vI 0, vU 0, vU 0, bF, bF, bF, bF, v8 0, v8 8], row (nd10) 99 #[vO, vO, vN, .map none, vN, vN, vI 0, vI 0, vU 0, vU 0, bF, bF, bF, bF, v8 0, v8 6], row (nd11) 57 #[vS nd12 1 1, v8 3, bF, bF], row (nd12) 54 #[vF 134 nd13, vI 3, .nilIface, vI 0], row (nd13) 136 #[vU 0, vU 0]] Yf := by
   rw [← hW]
   exact (hO).alloc' _ (uB.heap.size) (by simp)
  clear hW hO
  generalize uB.heap.size = B16 at hN ⊢
  have hO := hN
  clear hN
  obtain ⟨HL, HX⟩ := hid2 hO
  have hP9 := hO.pick [5] dc
  have T9 := curPart nd2 ((newPar nd3 nd9 nd10 nd6 nd8).setIfInBounds 106 (vS nd4 1 (1 + nd5))) nd6 _ _ _ hP9 (get_other (newPar_105 _ _ _ _ _) (by omega) _)
  refine Calls.mono T9 ?_
  clear hP9 T9
  rintro e uw18 ⟨rfl, hQ⟩
  replace hO : Own w0 uw18 [row (nd2) 252 ((newPar nd3 nd9 nd10 nd6 nd8).setIfInBounds 106 (vS nd4 1 (1 + nd5))), row (B16) 61 #[vF 110 kb, vI 50], row (kb) 72 #[vS tb n n, vI 0], row (tb) 61 (full stmZ (stL (dtL ad lcB) (List.range n)) 0), row (wb) 21 (full i32Z (tab wF n) 0), row (B14) 31 #[vU 0, vU 0], row (nd4) 260 (full symZ (symL ([sy nm 0])) nd5), row (nd6) 107 #[vN, vN, vN, vN, .map (some nd7), .map none, .map none, vN, bF, bF, bF], ((nd7, .map (uA ([])) (uN ([]))) : Rw), ((nd8, .map #[] 0) : Rw), row (nd9) 99 #[vO, vP nd10, vN, .map none, vN, vN, vI 0, vI 0, vU 0, vU 0, bF, bF, bF, bF, v8 0, v8 8], row (nd10) 99 #[vO, vO, vN, .map none, vN, vN, vI 0, vI 0, vU 0, vU 0, bF, bF, bF, bF, v8 0, v8 6], row (nd11) 57 #[vS nd12 1 1, v8 3, bF, bF], row (nd12) 54 #[vF 134 nd13, vI 3, .nilIface, vI 0], row (nd13) 136 #[vU 0, vU 0]] Yf := hQ.back HL.out HX.out [0, 1, 2, 3, 4, 6, 7, 8, 9, 10, 11, 12, 13, 14] dc dc
  clear hQ HL HX
  obtain ⟨aC, aF, aD, aE, -⟩ := hO.k2 1 rfl
  obtain ⟨aV, aW, aA, aB, -⟩ := hO.k2 2 rfl
  obtain ⟨aq, ar, aG, aH, -⟩ := hO.k2 5 rfl
  have bM : uw18.cell? ⟨nd6, 3, none⟩ = some (vN) := hO.cell 7 rfl (3) rfl
  have bD := hO.lt 7 rfl
  have bE := hO.free 7 rfl
  have aj : uw18.cell? ⟨nd9, 5, none⟩ = some (vN) := hO.cell 10 rfl (5) rfl
  have aI := hO.lt 10 rfl
  have aJ := hO.free 10 rfl
  have cz : uw18.cell? ⟨nd10, 5, none⟩ = some (vN) := hO.cell 11 rfl (5) rfl
  have aK := hO.lt 11 rfl
  have aL := hO.free 11 rfl
  obtain ⟨aR, aS, ak, al, aT, aU, -⟩ := hO.k4 12 rfl
  obtain ⟨am, an, dA, dB, ao, ap, -⟩ := hO.k4 13 rfl
  obtain ⟨au, av, aw, ax, -⟩ := hO.k2 14 rfl
  have HO := Lib.hid hO
  clear hO
  go_wp2_with (first | (with_reducible refine Own.stay (fn := Tryd.f4) ?_) | (first | (go_at_call 19; go_in)))
  try with_reducible refine Own.Stay.mk ?_
  have hO := HO.out
  clear HO aC aF aD aE aV aW aA aB aq ar aG aH bM bD bE aj aI aJ cz aK aL aR aS ak al aT aU am an dA dB ao ap au av aw ax
  obtain ⟨aC, aF, aD, aE, -⟩ := hO.k2 1 rfl
  obtain ⟨aV, aW, aA, aB, -⟩ := hO.k2 2 rfl
  obtain ⟨aq, ar, aG, aH, -⟩ := hO.k2 5 rfl
  have bM : uw18.cell? ⟨nd6, 3, none⟩ = some (vN) := hO.cell 7 rfl (3) rfl
  have bD := hO.lt 7 rfl
  have bE := hO.free 7 rfl
  have aj : uw18.cell? ⟨nd9, 5, none⟩ = some (vN) := hO.cell 10 rfl (5) rfl
  have aI := hO.lt 10 rfl
  have aJ := hO.free 10 rfl
  have cz : uw18.cell? ⟨nd10, 5, none⟩ = some (vN) := hO.cell 11 rfl (5) rfl
  have aK := hO.lt 11 rfl
  have aL := hO.free 11 rfl
  obtain ⟨aR, aS, ak, al, aT, aU, -⟩ := hO.k4 12 rfl
  obtain ⟨am, an, dA, dB, ao, ap, -⟩ := hO.k4 13 rfl
  obtain ⟨au, av, aw, ax, -⟩ := hO.k2 14 rfl
  have HO := Lib.hid hO
  clear hO
  go_wp2_with (first | (with_reducible refine Own.stay (fn := Tryd.f4) ?_) | (first | (go_at_call 19; go_in) | (go_at_call 23; go_in)))
  try with_reducible refine Own.Stay.mk ?_
  have hO := HO.out
  clear HO aC aF aD aE aV aW aA aB aq ar aG aH bM bD bE aj aI aJ cz aK aL aR aS ak al aT aU am an dA dB ao ap au av aw ax
  generalize hW : World.alloc _ _ = W20
  have hN : Own w0 W20 [row (uw18.heap.size) 28 #[vI 5], row (nd2) 252 ((newPar nd3 nd9 nd10 nd6 nd8).setIfInBounds 106 (vS nd4 1 (1 + nd5))), row (B16) 61 #[vF 110 kb, vI 50], row (kb) 72 #[vS tb n n, vI 0], row (tb) 61 (full stmZ (stL (dtL ad lcB) (List.range n)) 0), row (wb) 21 (full i32Z (tab wF n) 0), row (B14) 31 #[vU 0, vU 0], row (nd4) 260 (full symZ (symL ([sy nm 0])) nd5), row (nd6) 107 #[vN, vN, vN, vN, .map (some nd7), .map none, .map none, vN, bF, bF, bF], ((nd7, .map (uA ([])) (uN ([]))) : Rw), ((nd8, .map #[] 0) : Rw), row (nd9) 99 #[vO, vP nd10, vN, .map none, vN, vN, vI 0, vI 0, vU 0, vU 0, bF, bF, bF, bF, v8 0, v8 8], row (nd10) 99 #[vO, vO, vN, .map none, vN, vN, vI 0, vI 0, vU 0, vU 0, bF, bF, bF, bF, v8 0, v8 6], row (nd11) 57 #[vS nd12 1 1, v8 3, bF, bF], row (nd12) 54 #[vF 134 nd13, vI 3, .nilIface, vI 0], row (nd13) 136 #[vU 0, vU 0]] Yf := by
   rw [← hW]
   exact (hO).alloc' _ (uw18.heap.size) (by simp)
  clear hW hO
  generalize uw18.heap.size = B19 at hN ⊢
  have hO := hN
  clear hN
  obtain ⟨HL, HX⟩ := hid2 hO
  have hP9 := hO.pick [1, 7, 10, 12, 8, 9, 11, 13, 14, 15, 2, 3, 4] dc
  have h9_hg0 : w0.cell? ⟨0, 0, none⟩ = some (vU 4294967295) := (by first | assumption | omega | (simp; done) | (simp; omega))
  have h9_hg1 : w0.cell? ⟨0, 1, none⟩ = some (vU 4294967295) := (by first | assumption | omega | (simp; done) | (simp; omega))
  have T9 := fo00 nd2 ((newPar nd3 nd9 nd10 nd6 nd8).setIfInBounds 106 (vS nd4 1 (1 + nd5))) nd4 nd5 nm nd8 0 nd10 #[vO, vO, vN, .map none, vN, vN, vI 0, vI 0, vU 0, vU 0, bF, bF, bF, bF, v8 0, v8 6] nd6 #[vN, vN, vN, vN, .map (some nd7), .map none, .map none, vN, bF, bF, bF] nd7 nd9 #[vO, vP nd10, vN, .map none, vN, vN, vI 0, vI 0, vU 0, vU 0, bF, bF, bF, bF, v8 0, v8 8] nd11 nd12 nd13 B16 5 3 nd10 50 kb tb n ad lcB _ _ _ hP9 (get_other (newPar_350 _ _ _ _ _) (by omega) _) (get_other (newPar_32 _ _ _ _ _) (by omega) _) (get_other (newPar_105 _ _ _ _ _) (by omega) _) (get_other (newPar_66 _ _ _ _ _) (by omega) _) (get_other (newPar_117 _ _ _ _ _) (by omega) _) (get_other (newPar_187 _ _ _ _ _) (by omega) _) (get_other (newPar_104 _ _ _ _ _) (by omega) _) (get_other (newPar_23 _ _ _ _ _) (by omega) _) (get_other (newPar_34 _ _ _ _ _) (by omega) _) (get_other (newPar_352 _ _ _ _ _) (by omega) _) (get_other (newPar_333 _ _ _ _ _) (by omega) _) (get_set (newPar_106 _ _ _ _ _) _) rfl rfl rfl rfl rfl rfl hnm hn4 (fun i hi => Or.inl (HLB.out i hi)) h9_hg0 h9_hg1
  refine Calls.mono T9 ?_
  clear hP9 T9 h9_hg0 h9_hg1
  rintro e uw21 ⟨nd22, nd23, nd24, nd25, nd26, nd27, nd28, nd29, nd30, nd31, nd32, nd33, nd34, nd35, nd36, nd37, nd38, nd39, nd40, nd41, nd42, nd43, nd44, nd45, nd46, nd47, nd48, nd49, nd50, nd51, nd52, nd53, nd54, nd55, rfl, pr56, pr57, pr58, pr59, pr60, pr61, pr62, hQ⟩
  replace hO : Own w0 uw21 [row (nd23) 61 (full stmZ [vF 42 nd25, vI 5, vF 67 nd29, vI 5] nd24), row (nd25) 57 #[vS nd26 1 1, v8 0, bF, bF], row (nd26) 54 #[vF 134 nd27, vI 5, vF 315 nd28, vI 5], row (nd27) 136 #[vU 0, vU 2], row (nd29) 76 #[vP nd30, vP nd31, vS nd45 (n + 1) (n + 1 + nd46), vI 0, vI 5], row (nd31) 116 #[vS nd32 1 1, vI 0, vI 5], row (nd2) 252 nd52, row (nd33) 260 (full symZ (symL (bump (stF0 ([sy nm 0, sy (un nm) 0, sy ⟨#[95, 115, 116, 97, 99, 107]⟩ 1, sy ⟨#[95, 95, 117, 115, 105, 110, 103]⟩ 1]) 2 4) 4)) nd34), row (nd6) 107 nd53, ((nd7, .map (uA nd55) (uN nd55)) : Rw), row (nd9) 99 nd54, row (nd35) 31 (full refZ [vU 0, vU 1, vU 0, vU 2, vU 0, vU 4, vU 0, vU 5, vU 0, vU 6] nd36), row (nd37) 113 (full dsyZ [vU 0, vU 2, bF, vU 0, vU 4, bF, vU 0, vU 5, bF, vU 0, vU 6, bF] nd38), row (nd45) 61 (full stmZ (stL (dtL (adS nd47 ad) (lcS 5 lcB)) (List.range (n + 1))) nd46), row (nd11) 57 #[vS nd12 1 1, v8 0, bF, bF], row (nd13) 136 #[vU 0, vU 1], row (nd43) 31 #[vU 0, vU 1], row (nd44) 72 #[vS nd23 2 (2 + nd24), nd51], row (nd47) 57 #[vS nd48 1 1, v8 2, bF, bF], row (nd48) 54 #[vF 134 nd49, vI 3, vF 261 nd39, vI 3], row (nd39) 266 #[vF 267 nd40, vI 3, vS nd42 2 2, vI 0, v8 0, v8 0, bF, bF], row (nd42) 52 #[vF 267 nd41, vI 3, vF 267 nd50, vI 3], row (nd41) 270 #[vU 0, vU 2, bF, bF, bF], row (nd12) 54 #[vF 134 nd13, vI 3, .nilIface, vI 0], row (nd49) 136 #[vU 0, vU 0], row (nd50) 270 #[vU 0, vU 1, bF, bF, bF], row (B16) 61 #[vF 110 nd44, vI 50], row (B19) 28 #[vI 5], row (wb) 21 (full i32Z (tab wF n) 0), row (B14) 31 #[vU 0, vU 0]] Yf := hQ.back HL.out HX.out [0, 5, 6] dc dc
  clear hQ HL HX
  obtain ⟨aC, aF, bQ, bR, aD, aE, -⟩ := hO.k4 1 rfl
  obtain ⟨aV, aW, ay, aZ, aA, aB, -⟩ := hO.k4 2 rfl
  obtain ⟨aO, aa, aP, aQ, -⟩ := hO.k2 3 rfl
  obtain ⟨az, bA, bS, bG, bT, af, ag, -⟩ := hO.k5 4 rfl
  obtain ⟨aq, ar, bU, aG, aH, -⟩ := hO.k3 5 rfl
  obtain ⟨au, av, bV, bW, aw, ax, -⟩ := hO.k4 14 rfl
  obtain ⟨bX, bY, bZ, ba, -⟩ := hO.k2 15 rfl
  obtain ⟨bb, bc, bd, be, -⟩ := hO.k2 16 rfl
  obtain ⟨bf, bg, bh, bi, -⟩ := hO.k2 17 rfl
  obtain ⟨bj, bk, bl, bm, bn, bo, -⟩ := hO.k4 18 rfl
  obtain ⟨bp, bq, br, bs, bt, bu, -⟩ := hO.k4 19 rfl
  obtain ⟨bv, bw, bx, bz, cA, cB, cC, cD, cE, cF, -⟩ := hO.k8 20 rfl
  obtain ⟨cG, cH, cI, cJ, cK, cL, -⟩ := hO.k4 21 rfl
  obtain ⟨cM, cN, cO, cP, cQ, cR, cS, -⟩ := hO.k5 22 rfl
  obtain ⟨cT, cU, cV, cW, cX, cY, -⟩ := hO.k4 23 rfl
  obtain ⟨cZ, ca, cb, cc, -⟩ := hO.k2 24 rfl
  obtain ⟨cd, ce, cf, cg, ch, ci, cj, -⟩ := hO.k5 25 rfl
  obtain ⟨ck, cl, cm, cn, -⟩ := hO.k2 26 rfl
  obtain ⟨co, cp, cq, -⟩ := hO.k1 27 rfl
  obtain ⟨cr, dC, cs, ct, -⟩ := hO.k2 29 rfl
  have HO := Lib.hid hO
  clear hO
  go_wp2_with (first | (with_reducible refine Own.stay (fn := Tryd.f4) ?_) | (first | (go_at_call 19; go_in) | (go_at_call 23; go_in)))
  try with_reducible refine Own.Stay.mk ?_
  have hO := HO.out
  clear HO aC aF bQ bR aD aE aV aW ay aZ aA aB aO aa aP aQ az bA bS bG bT af ag aq ar bU aG aH au av bV bW aw ax bX bY bZ ba bb bc bd be bf bg bh bi bj bk bl bm bn bo bp bq br bs bt bu bv bw bx bz cA cB cC cD cE cF cG cH cI cJ cK cL cM cN cO cP cQ cR cS cT cU cV cW cX cY cZ ca cb cc cd ce cf cg ch ci cj ck cl cm cn co cp cq cr dC cs ct
  replace hO : Own w0 uw21 [row (nd23) 61 (full stmZ [vF 42 nd25, vI 5, vF 67 nd29, vI 5] nd24), row (nd25) 57 #[vS nd26 1 1, v8 0, bF, bF], row (nd26) 54 #[vF 134 nd27, vI 5, vF 315 nd28, vI 5], row (nd27) 136 #[vU 0, vU 2], row (nd29) 76 #[vP nd30, vP nd31, vS nd45 (n + 1) (n + 1 + nd46), vI 0, vI 5], row (nd31) 116 #[vS nd32 1 1, vI 0, vI 5], row (nd2) 252 nd52, row (nd33) 260 (full symZ (symL (bump (stF0 ([sy nm 0, sy (un nm) 0, sy ⟨#[95, 115, 116, 97, 99, 107]⟩ 1, sy ⟨#[95, 95, 117, 115, 105, 110, 103]⟩ 1]) 2 4) 4)) nd34), row (nd6) 107 nd53, ((nd7, .map (uA nd55) (uN nd55)) : Rw), row (nd9) 99 nd54, row (nd35) 31 (full refZ [vU 0, vU 1, vU 0, vU 2, vU 0, vU 4, vU 0, vU 5, vU 0, vU 6] nd36), row (nd37) 113 (full dsyZ [vU 0, vU 2, bF, vU 0, vU 4, bF, vU 0, vU 5, bF, vU 0, vU 6, bF] nd38), row (nd45) 61 (full stmZ (stL (dtL (adS nd47 ad) (lcS 5 lcB)) (List.range (n + 1))) nd46), row (nd11) 57 #[vS nd12 1 1, v8 0, bF, bF], row (nd13) 136 #[vU 0, vU 1], row (nd43) 31 #[vU 0, vU 1], row (nd44) 72 #[vS nd23 2 (2 + nd24), nd51], row (nd47) 57 #[vS nd48 1 1, v8 2, bF, bF], row (nd48) 54 #[vF 134 nd49, vI 3, vF 261 nd39, vI 3], row (nd39) 266 #[vF 267 nd40, vI 3, vS nd42 2 2, vI 0, v8 0, v8 0, bF, bF], row (nd42) 52 #[vF 267 nd41, vI 3, vF 267 nd50, vI 3], row (nd41) 270 #[vU 0, vU 2, bF, bF, bF], row (nd12) 54 #[vF 134 nd13, vI 3, .nilIface, vI 0], row (nd49) 136 #[vU 0, vU 0], row (nd50) 270 #[vU 0, vU 1, bF, bF, bF], row (B16) 61 #[vF 110 nd44, vI 50], row (B19) 28 #[vI 5], row (wb) 21 (full i32Z (tab wF n) 0), row (B14) 31 #[vU 0, vU 0]] Yf := hO
  rw [HC9.out]
  have hP9 := hO.pick [29, 0, 1, 2, 3, 6, 7, 8, 10, 11, 12, 14, 15, 17, 23, 26] dc
  exact tl430 nd2 nm nd6 nd9 nd11 nd12 nd13 B16 50 B14 nd23 nd24 nd25 nd26 nd27 nd28 nd29 nd33 nd34 nd35 nd36 nd37 nd38 nd44 nd51 nd52 nd53 nd54 w0 uw21 _ _ (fun w3 h3 => ⟨rfl, h3.weaken fun b o h => Or.inl (HYX.out b o h)⟩) hP9 pr59 pr62 pr61
 by_cases hs1 : sh % 3 = 1
 ·skip
  obtain ⟨HL, HX⟩ := hid2 hO
  have hP9 := hO.pick [] dc
  have h9_hsh : (sh : Int).tmod 3 = 1 := (by
   have h9 : (sh : Int).tmod 3 = ((sh % 3 : Nat) : Int) := rfl
   rw [h9]
   omega)
  have T9 := bod1 (sh : Int) (n : Int) _ _ _ hP9 h9_hsh
  refine Calls.mono T9 ?_
  clear hP9 T9 h9_hsh
  rintro e uw63 ⟨nd64, nd65, rfl, hQ⟩
  replace hO : Own w0 uw63 [row (nd64) 57 #[vN, v8 0, bF, bF], row (nd65) 21 #[vI 100], row (B14) 31 #[vU 0, vU 0], row (nd2) 252 ((newPar nd3 nd9 nd10 nd6 nd8).setIfInBounds 106 (vS nd4 1 (1 + nd5))), row (nd4) 260 (full symZ (symL ([sy nm 0])) nd5), row (nd6) 107 #[vN, vN, vN, vN, .map (some nd7), .map none, .map none, vN, bF, bF, bF], ((nd7, .map (uA ([])) (uN ([]))) : Rw), ((nd8, .map #[] 0) : Rw), row (nd9) 99 #[vO, vP nd10, vN, .map none, vN, vN, vI 0, vI 0, vU 0, vU 0, bF, bF, bF, bF, v8 0, v8 8], row (nd10) 99 #[vO, vO, vN, .map none, vN, vN, vI 0, vI 0, vU 0, vU 0, bF, bF, bF, bF, v8 0, v8 6], row (nd11) 57 #[vS nd12 1 1, v8 3, bF, bF], row (nd12) 54 #[vF 134 nd13, vI 3, .nilIface, vI 0], row (nd13) 136 #[vU 0, vU 0]] X := hQ.back HL.out HX.out [0, 1, 2, 3, 4, 5, 6, 7, 8, 9, 10] dc dc
  clear hQ HL HX
  obtain ⟨cx, cy, dO, dP, bN, bO, -⟩ := hO.k4 0 rfl
  obtain ⟨aC, aD, aE, -⟩ := hO.k1 1 rfl
  obtain ⟨aV, aW, aA, aB, -⟩ := hO.k2 2 rfl
  have cu : uw63.cell? ⟨nd6, 3, none⟩ = some (vN) := hO.cell 5 rfl (3) rfl
  have aG := hO.lt 5 rfl
  have aH := hO.free 5 rfl
  have bH : uw63.cell? ⟨nd9, 5, none⟩ = some (vN) := hO.cell 8 rfl (5) rfl
  have ah := hO.lt 8 rfl
  have ai := hO.free 8 rfl
  have ab : uw63.cell? ⟨nd10, 5, none⟩ = some (vN) := hO.cell 9 rfl (5) rfl
  have aM := hO.lt 9 rfl
  have aN := hO.free 9 rfl
  obtain ⟨bI, bJ, bK, bL, aI, aJ, -⟩ := hO.k4 10 rfl
  obtain ⟨aX, aY, ac, ae, aK, aL, -⟩ := hO.k4 11 rfl
  obtain ⟨aR, aS, aT, aU, -⟩ := hO.k2 12 rfl
  have HO := Lib.hid hO
  clear hO
  go_wp2_with (first | (with_reducible refine Own.stay (fn := Tryd.f4) ?_) | (first | (go_at_call 19; go_in)))
  try with_reducible refine Own.Stay.mk ?_
  have hO := HO.out
  clear HO cx cy dO dP bN bO aC aD aE aV aW aA aB cu aG aH bH ah ai ab aM aN bI bJ bK bL aI aJ aX aY ac ae aK aL aR aS aT aU
  generalize hW : World.alloc _ _ = W67
  have hN : Own w0 W67 [row (uw63.heap.size) 61 #[vF 42 nd64, vI 100], row (nd64) 57 #[vN, v8 0, bF, bF], row (nd65) 21 #[vI 100], row (B14) 31 #[vU 0, vU 0], row (nd2) 252 ((newPar nd3 nd9 nd10 nd6 nd8).setIfInBounds 106 (vS nd4 1 (1 + nd5))), row (nd4) 260 (full symZ (symL ([sy nm 0])) nd5), row (nd6) 107 #[vN, vN, vN, vN, .map (some nd7), .map none, .map none, vN, bF, bF, bF], ((nd7, .map (uA ([])) (uN ([]))) : Rw), ((nd8, .map #[] 0) : Rw), row (nd9) 99 #[vO, vP nd10, vN, .map none, vN, vN, vI 0, vI 0, vU 0, vU 0, bF, bF, bF, bF, v8 0, v8 8], row (nd10) 99 #[vO, vO, vN, .map none, vN, vN, vI 0, vI 0, vU 0, vU 0, bF, bF, bF, bF, v8 0, v8 6], row (nd11) 57 #[vS nd12 1 1, v8 3, bF, bF], row (nd12) 54 #[vF 134 nd13, vI 3, .nilIface, vI 0], row (nd13) 136 #[vU 0, vU 0]] X := by
   rw [← hW]
   exact (hO).alloc' _ (uw63.heap.size) (by simp)
  clear hW hO
  generalize uw63.heap.size = B66 at hN ⊢
  have hO := hN
  clear hN
  obtain ⟨HL, HX⟩ := hid2 hO
  have hP9 := hO.pick [4] dc
  have T9 := curPart nd2 ((newPar nd3 nd9 nd10 nd6 nd8).setIfInBounds 106 (vS nd4 1 (1 + nd5))) nd6 _ _ _ hP9 (get_other (newPar_105 _ _ _ _ _) (by omega) _)
  refine Calls.mono T9 ?_
  clear hP9 T9
  rintro e uw68 ⟨rfl, hQ⟩
  replace hO : Own w0 uw68 [row (nd2) 252 ((newPar nd3 nd9 nd10 nd6 nd8).setIfInBounds 106 (vS nd4 1 (1 + nd5))), row (B66) 61 #[vF 42 nd64, vI 100], row (nd64) 57 #[vN, v8 0, bF, bF], row (nd65) 21 #[vI 100], row (B14) 31 #[vU 0, vU 0], row (nd4) 260 (full symZ (symL ([sy nm 0])) nd5), row (nd6) 107 #[vN, vN, vN, vN, .map (some nd7), .map none, .map none, vN, bF, bF, bF], ((nd7, .map (uA ([])) (uN ([]))) : Rw), ((nd8, .map #[] 0) : Rw), row (nd9) 99 #[vO, vP nd10, vN, .map none, vN, vN, vI 0, vI 0, vU 0, vU 0, bF, bF, bF, bF, v8 0, v8 8], row (nd10) 99 #[vO, vO, vN, .map none, vN, vN, vI 0, vI 0, vU 0, vU 0, bF, bF, bF, bF, v8 0, v8 6], row (nd11) 57 #[vS nd12 1 1, v8 3, bF, bF], row (nd12) 54 #[vF 134 nd13, vI 3, .nilIface, vI 0], row (nd13) 136 #[vU 0, vU 0]] X := hQ.back HL.out HX.out [0, 1, 2, 3, 5, 6, 7, 8, 9, 10, 11, 12, 13] dc dc
  clear hQ HL HX
  obtain ⟨aC, aF, aD, aE, -⟩ := hO.k2 1 rfl
  obtain ⟨aV, aW, ay, aZ, aA, aB, -⟩ := hO.k4 2 rfl
  obtain ⟨aO, aP, aQ, -⟩ := hO.k1 3 rfl
  obtain ⟨az, bA, af, ag, -⟩ := hO.k2 4 rfl
  have bP : uw68.cell? ⟨nd6, 3, none⟩ = some (vN) := hO.cell 6 rfl (3) rfl
  have bB := hO.lt 6 rfl
  have bC := hO.free 6 rfl
  have ab : uw68.cell? ⟨nd9, 5, none⟩ = some (vN) := hO.cell 9 rfl (5) rfl
  have aM := hO.lt 9 rfl
  have aN := hO.free 9 rfl
  have aj : uw68.cell? ⟨nd10, 5, none⟩ = some (vN) := hO.cell 10 rfl (5) rfl
  have aI := hO.lt 10 rfl
  have aJ := hO.free 10 rfl
  obtain ⟨aX, aY, ac, ae, aK, aL, -⟩ := hO.k4 11 rfl
  obtain ⟨aR, aS, ak, al, aT, aU, -⟩ := hO.k4 12 rfl
  obtain ⟨am, an, ao, ap, -⟩ := hO.k2 13 rfl
  have HO := Lib.hid hO
  clear hO
  go_wp2_with (first | (with_reducible refine Own.stay (fn := Tryd.f4) ?_) | (first | (go_at_call 19; go_in)))
  try with_reducible refine Own.Stay.mk ?_
  have hO := HO.out
  clear HO aC aF aD aE aV aW ay aZ aA aB aO aP aQ az bA af ag bP bB bC ab aM aN aj aI aJ aX aY ac ae aK aL aR aS ak al aT aU am an ao ap
  obtain ⟨aC, aF, aD, aE, -⟩ := hO.k2 1 rfl
  obtain ⟨aV, aW, ay, aZ, aA, aB, -⟩ := hO.k4 2 rfl
  obtain ⟨aO, aP, aQ, -⟩ := hO.k1 3 rfl
  obtain ⟨az, bA, af, ag, -⟩ := hO.k2 4 rfl
  have bP : uw68.cell? ⟨nd6, 3, none⟩ = some (vN) := hO.cell 6 rfl (3) rfl
  have bB := hO.lt 6 rfl
  have bC := hO.free 6 rfl
  have ab : uw68.cell? ⟨nd9, 5, none⟩ = some (vN) := hO.cell 9 rfl (5) rfl
  have aM := hO.lt 9 rfl
  have aN := hO.free 9 rfl
  have aj : uw68.cell? ⟨nd10, 5, none⟩ = some (vN) := hO.cell 10 rfl (5) rfl
  have aI := hO.lt 10 rfl
  have aJ := hO.free 10 rfl
  obtain ⟨aX, aY, ac, ae, aK, aL, -⟩ := hO.k4 11 rfl
  obtain ⟨aR, aS, ak, al, aT, aU, -⟩ := hO.k4 12 rfl
  obtain ⟨am, an, ao, ap, -⟩ := hO.k2 13 rfl
  have HO := Lib.hid hO
  clear hO
  go_wp2_with (first | (with_reducible refine Own.stay (fn := Tryd.f4) ?_) | (first | (go_at_call 19; go_in) | (go_at_call 23; go_in)))
  try with_reducible refine Own.Stay.mk ?_
  have hO := HO.out
  clear HO aC aF aD aE aV aW ay aZ aA aB aO aP aQ az bA af ag bP bB bC ab aM aN aj aI aJ aX aY ac ae aK aL aR aS ak al aT aU am an ao ap
  generalize hW : World.alloc _ _ = W70
  have hN : Own w0 W70 [row (uw68.heap.size) 28 #[vI 5], row (nd2) 252 ((newPar nd3 nd9 nd10 nd6 nd8).setIfInBounds 106 (vS nd4 1 (1 + nd5))), row (B66) 61 #[vF 42 nd64, vI 100], row (nd64) 57 #[vN, v8 0, bF, bF], row (nd65) 21 #[vI 100], row (B14) 31 #[vU 0, vU 0], row (nd4) 260 (full symZ (symL ([sy nm 0])) nd5), row (nd6) 107 #[vN, vN, vN, vN, .map (some nd7), .map none, .map none, vN, bF, bF, bF], ((nd7, .map (uA ([])) (uN ([]))) : Rw), ((nd8, .map #[] 0) : Rw), row (nd9) 99 #[vO, vP nd10, vN, .map none, vN, vN, vI 0, vI 0, vU 0, vU 0, bF, bF, bF, bF, v8 0, v8 8], row (nd10) 99 #[vO, vO, vN, .map none, vN, vN, vI 0, vI 0, vU 0, vU 0, bF, bF, bF, bF, v8 0, v8 6], row (nd11) 57 #[vS nd12 1 1, v8 3, bF, bF], row (nd12) 54 #[vF 134 nd13, vI 3, .nilIface, vI 0], row (nd13) 136 #[vU 0, vU 0]] X := by
   rw [← hW]
   exact (hO).alloc' _ (uw68.heap.size) (by simp)
  clear hW hO
  generalize uw68.heap.size = B69 at hN ⊢
  have hO := hN
  clear hN
  obtain ⟨HL, HX⟩ := hid2 hO
  have hP9 := hO.pick [1, 6, 9, 11, 7, 8, 10, 12, 13, 14, 2] dc
  have h9_hg0 : w0.cell? ⟨0, 0, none⟩ = some (vU 4294967295) := (by first | assumption | omega | (simp; done) | (simp; omega))
  have h9_hg1 : w0.cell? ⟨0, 1, none⟩ = some (vU 4294967295) := (by first | assumption | omega | (simp; done) | (simp; omega))
  have T9 := fo10 nd2 ((newPar nd3 nd9 nd10 nd6 nd8).setIfInBounds 106 (vS nd4 1 (1 + nd5))) nd4 nd5 nm nd8 0 nd10 #[vO, vO, vN, .map none, vN, vN, vI 0, vI 0, vU 0, vU 0, bF, bF, bF, bF, v8 0, v8 6] nd6 #[vN, vN, vN, vN, .map (some nd7), .map none, .map none, vN, bF, bF, bF] nd7 nd9 #[vO, vP nd10, vN, .map none, vN, vN, vI 0, vI 0, vU 0, vU 0, bF, bF, bF, bF, v8 0, v8 8] nd11 nd12 nd13 B66 5 3 nd10 100 nd64 _ _ _ hP9 (get_other (newPar_350 _ _ _ _ _) (by omega) _) (get_other (newPar_32 _ _ _ _ _) (by omega) _) (get_other (newPar_105 _ _ _ _ _) (by omega) _) (get_other (newPar_66 _ _ _ _ _) (by omega) _) (get_other (newPar_117 _ _ _ _ _) (by omega) _) (get_other (newPar_187 _ _ _ _ _) (by omega) _) (get_other (newPar_104 _ _ _ _ _) (by omega) _) (get_other (newPar_23 _ _ _ _ _) (by omega) _) (get_other (newPar_34 _ _ _ _ _) (by omega) _) (get_other (newPar_352 _ _ _ _ _) (by omega) _) (get_other (newPar_333 _ _ _ _ _) (by omega) _) (get_set (newPar_106 _ _ _ _ _) _) rfl rfl rfl rfl rfl rfl hnm (Or.inr ⟨3, by decide, rfl⟩) h9_hg0 h9_hg1
  refine Calls.mono T9 ?_
  clear hP9 T9 h9_hg0 h9_hg1
  rintro e uw71 ⟨nd72, nd73, nd74, nd75, nd76, nd77, nd78, nd79, nd80, nd81, nd82, nd83, nd84, nd85, nd86, nd87, nd88, nd89, nd90, nd91, nd92, nd93, nd94, nd95, nd96, nd97, nd98, nd99, nd100, nd101, nd102, nd103, nd104, nd105, rfl, pr106, pr107, pr108, pr109, pr110, pr111, pr112, hQ⟩
  replace hO : Own w0 uw71 [row (nd73) 61 (full stmZ [vF 42 nd75, vI 5, vF 67 nd79, vI 5] nd74), row (nd75) 57 #[vS nd76 1 1, v8 0, bF, bF], row (nd76) 54 #[vF 134 nd77, vI 5, vF 315 nd78, vI 5], row (nd77) 136 #[vU 0, vU 2], row (nd79) 76 #[vP nd80, vP nd81, vS nd95 (1 + 1) (1 + 1 + nd96), vI 0, vI 5], row (nd81) 116 #[vS nd82 1 1, vI 0, vI 5], row (nd2) 252 nd102, row (nd83) 260 (full symZ (symL (bump (stF0 ([sy nm 0, sy (un nm) 0, sy ⟨#[95, 115, 116, 97, 99, 107]⟩ 1, sy ⟨#[95, 95, 117, 115, 105, 110, 103]⟩ 1]) 2 4) 4)) nd84), row (nd6) 107 nd103, ((nd7, .map (uA nd105) (uN nd105)) : Rw), row (nd9) 99 nd104, row (nd85) 31 (full refZ [vU 0, vU 1, vU 0, vU 2, vU 0, vU 4, vU 0, vU 5, vU 0, vU 6] nd86), row (nd87) 113 (full dsyZ [vU 0, vU 2, bF, vU 0, vU 4, bF, vU 0, vU 5, bF, vU 0, vU 6, bF] nd88), row (nd95) 61 (full stmZ (stL (dtL (adS nd97 (fun _ => nd64)) (lcS 5 (fun _ => 100))) (List.range (1 + 1))) nd96), row (nd11) 57 #[vS nd12 1 1, v8 0, bF, bF], row (nd13) 136 #[vU 0, vU 1], row (nd93) 31 #[vU 0, vU 1], row (nd94) 72 #[vS nd73 2 (2 + nd74), nd101], row (nd97) 57 #[vS nd98 1 1, v8 2, bF, bF], row (nd98) 54 #[vF 134 nd99, vI 3, vF 261 nd89, vI 3], row (nd89) 266 #[vF 267 nd90, vI 3, vS nd92 2 2, vI 0, v8 0, v8 0, bF, bF], row (nd92) 52 #[vF 267 nd91, vI 3, vF 267 nd100, vI 3], row (nd91) 270 #[vU 0, vU 2, bF, bF, bF], row (nd12) 54 #[vF 134 nd13, vI 3, .nilIface, vI 0], row (nd99) 136 #[vU 0, vU 0], row (nd100) 270 #[vU 0, vU 1, bF, bF, bF], row (B66) 61 #[vF 110 nd94, vI 100], row (B69) 28 #[vI 5], row (nd64) 57 #[vN, v8 0, bF, bF], row (nd65) 21 #[vI 100], row (B14) 31 #[vU 0, vU 0]] X := hQ.back HL.out HX.out [0, 3, 4, 5] dc dc
  clear hQ HL HX
  obtain ⟨aC, aF, bQ, bR, aD, aE, -⟩ := hO.k4 1 rfl
  obtain ⟨aV, aW, ay, aZ, aA, aB, -⟩ := hO.k4 2 rfl
  obtain ⟨aO, aa, aP, aQ, -⟩ := hO.k2 3 rfl
  obtain ⟨az, bA, bS, bG, bT, af, ag, -⟩ := hO.k5 4 rfl
  obtain ⟨aq, ar, bU, aG, aH, -⟩ := hO.k3 5 rfl
  obtain ⟨au, av, bV, bW, aw, ax, -⟩ := hO.k4 14 rfl
  obtain ⟨bX, bY, bZ, ba, -⟩ := hO.k2 15 rfl
  obtain ⟨bb, bc, bd, be, -⟩ := hO.k2 16 rfl
  obtain ⟨bf, bg, bh, bi, -⟩ := hO.k2 17 rfl
  obtain ⟨bj, bk, bl, bm, bn, bo, -⟩ := hO.k4 18 rfl
  obtain ⟨bp, bq, br, bs, bt, bu, -⟩ := hO.k4 19 rfl
  obtain ⟨bv, bw, bx, bz, cA, cB, cC, cD, cE, cF, -⟩ := hO.k8 20 rfl
  obtain ⟨cG, cH, cI, cJ, cK, cL, -⟩ := hO.k4 21 rfl
  obtain ⟨cM, cN, cO, cP, cQ, cR, cS, -⟩ := hO.k5 22 rfl
  obtain ⟨cT, cU, cV, cW, cX, cY, -⟩ := hO.k4 23 rfl
  obtain ⟨cZ, ca, cb, cc, -⟩ := hO.k2 24 rfl
  obtain ⟨cd, ce, cf, cg, ch, ci, cj, -⟩ := hO.k5 25 rfl
  obtain ⟨ck, cl, cm, cn, -⟩ := hO.k2 26 rfl
  obtain ⟨co, cp, cq, -⟩ := hO.k1 27 rfl
  obtain ⟨dQ, dR, dS, dT, dD, dE, -⟩ := hO.k4 28 rfl
  obtain ⟨cr, cs, ct, -⟩ := hO.k1 29 rfl
  obtain ⟨dU, dV, dW, dX, -⟩ := hO.k2 30 rfl
  have HO := Lib.hid hO
  clear hO
  go_wp2_with (first | (with_reducible refine Own.stay (fn := Tryd.f4) ?_) | (first | (go_at_call 19; go_in) | (go_at_call 23; go_in)))
  try with_reducible refine Own.Stay.mk ?_
  have hO := HO.out
  clear HO aC aF bQ bR aD aE aV aW ay aZ aA aB aO aa aP aQ az bA bS bG bT af ag aq ar bU aG aH au av bV bW aw ax bX bY bZ ba bb bc bd be bf bg bh bi bj bk bl bm bn bo bp bq br bs bt bu bv bw bx bz cA cB cC cD cE cF cG cH cI cJ cK cL cM cN cO cP cQ cR cS cT cU cV cW cX cY cZ ca cb cc cd ce cf cg ch ci cj ck cl cm cn co cp cq dQ dR dS dT dD dE cr cs ct dU dV dW dX
  replace hO : Own w0 uw71 [row (nd73) 61 (full stmZ [vF 42 nd75, vI 5, vF 67 nd79, vI 5] nd74), row (nd75) 57 #[vS nd76 1 1, v8 0, bF, bF], row (nd76) 54 #[vF 134 nd77, vI 5, vF 315 nd78, vI 5], row (nd77) 136 #[vU 0, vU 2], row (nd79) 76 #[vP nd80, vP nd81, vS nd95 (1 + 1) (1 + 1 + nd96), vI 0, vI 5], row (nd81) 116 #[vS nd82 1 1, vI 0, vI 5], row (nd2) 252 nd102, row (nd83) 260 (full symZ (symL (bump (stF0 ([sy nm 0, sy (un nm) 0, sy ⟨#[95, 115, 116, 97, 99, 107]⟩ 1, sy ⟨#[95, 95, 117, 115, 105, 110, 103]⟩ 1]) 2 4) 4)) nd84), row (nd6) 107 nd103, ((nd7, .map (uA nd105) (uN nd105)) : Rw), row (nd9) 99 nd104, row (nd85) 31 (full refZ [vU 0, vU 1, vU 0, vU 2, vU 0, vU 4, vU 0, vU 5, vU 0, vU 6] nd86), row (nd87) 113 (full dsyZ [vU 0, vU 2, bF, vU 0, vU 4, bF, vU 0, vU 5, bF, vU 0, vU 6, bF] nd88), row (nd95) 61 (full stmZ (stL (dtL (adS nd97 (fun _ => nd64)) (lcS 5 lcB)) (List.range (1 + 1))) nd96), row (nd11) 57 #[vS nd12 1 1, v8 0, bF, bF], row (nd13) 136 #[vU 0, vU 1], row (nd93) 31 #[vU 0, vU 1], row (nd94) 72 #[vS nd73 2 (2 + nd74), nd101], row (nd97) 57 #[vS nd98 1 1, v8 2, bF, bF], row (nd98) 54 #[vF 134 nd99, vI 3, vF 261 nd89, vI 3], row (nd89) 266 #[vF 267 nd90, vI 3, vS nd92 2 2, vI 0, v8 0, v8 0, bF, bF], row (nd92) 52 #[vF 267 nd91, vI 3, vF 267 nd100, vI 3], row (nd91) 270 #[vU 0, vU 2, bF, bF, bF], row (nd12) 54 #[vF 134 nd13, vI 3, .nilIface, vI 0], row (nd99) 136 #[vU 0, vU 0], row (nd100) 270 #[vU 0, vU 1, bF, bF, bF], row (B66) 61 #[vF 110 nd94, vI 100], row (B69) 28 #[vI 5], row (nd64) 57 #[vN, v8 0, bF, bF], row (nd65) 21 #[vI 100], row (B14) 31 #[vU 0, vU 0]] X := hO.conv (by rw [lc_one])
  rw [HC9.out]
  have hP9 := hO.pick [30, 0, 1, 2, 3, 6, 7, 8, 10, 11, 12, 14, 15, 17, 23, 26] dc
  exact tl430 nd2 nm nd6 nd9 nd11 nd12 nd13 B66 100 B14 nd73 nd74 nd75 nd76 nd77 nd78 nd79 nd83 nd84 nd85 nd86 nd87 nd88 nd94 nd101 nd102 nd103 nd104 w0 uw71 _ _ (fun w3 h3 => ⟨rfl, h3.weaken fun b o h => Or.inl h⟩) hP9 pr109 pr112 pr111
 have hs2 : sh % 3 = 2 := by omega
 obtain ⟨HL, HX⟩ := hid2 hO
 have hP9 := hO.pick [] dc
 have h9_hsh : (sh : Int).tmod 3 = 2 := (by
  have h9 : (sh : Int).tmod 3 = ((sh % 3 : Nat) : Int) := rfl
  rw [h9]
  omega)
 have T9 := bod2 (sh : Int) (n : Int) _ _ _ hP9 h9_hsh
 refine Calls.mono T9 ?_
 clear hP9 T9 h9_hsh
 rintro e uw113 ⟨nd114, rfl, hQ⟩
 replace hO : Own w0 uw113 [row (nd114) 277 #[], row (B14) 31 #[vU 0, vU 0], row (nd2) 252 ((newPar nd3 nd9 nd10 nd6 nd8).setIfInBounds 106 (vS nd4 1 (1 + nd5))), row (nd4) 260 (full symZ (symL ([sy nm 0])) nd5), row (nd6) 107 #[vN, vN, vN, vN, .map (some nd7), .map none, .map none, vN, bF, bF, bF], ((nd7, .map (uA ([])) (uN ([]))) : Rw), ((nd8, .map #[] 0) : Rw), row (nd9) 99 #[vO, vP nd10, vN, .map none, vN, vN, vI 0, vI 0, vU 0, vU 0, bF, bF, bF, bF, v8 0, v8 8], row (nd10) 99 #[vO, vO, vN, .map none, vN, vN, vI 0, vI 0, vU 0, vU 0, bF, bF, bF, bF, v8 0, v8 6], row (nd11) 57 #[vS nd12 1 1, v8 3, bF, bF], row (nd12) 54 #[vF 134 nd13, vI 3, .nilIface, vI 0], row (nd13) 136 #[vU 0, vU 0]] X := hQ.back HL.out HX.out [0, 1, 2, 3, 4, 5, 6, 7, 8, 9, 10] dc dc
 clear hQ HL HX
 obtain ⟨bN, bO, -⟩ := hO.k0 0 rfl
 obtain ⟨aC, aF, aD, aE, -⟩ := hO.k2 1 rfl
 have bG : uw113.cell? ⟨nd6, 3, none⟩ = some (vN) := hO.cell 4 rfl (3) rfl
 have af := hO.lt 4 rfl
 have ag := hO.free 4 rfl
 have dY : uw113.cell? ⟨nd9, 5, none⟩ = some (vN) := hO.cell 7 rfl (5) rfl
 have bD := hO.lt 7 rfl
 have bE := hO.free 7 rfl
 have bH : uw113.cell? ⟨nd10, 5, none⟩ = some (vN) := hO.cell 8 rfl (5) rfl
 have ah := hO.lt 8 rfl
 have ai := hO.free 8 rfl
 obtain ⟨cv, cw, dZ, da, aM, aN, -⟩ := hO.k4 9 rfl
 obtain ⟨bI, bJ, bK, bL, aI, aJ, -⟩ := hO.k4 10 rfl
 obtain ⟨aX, aY, aK, aL, -⟩ := hO.k2 11 rfl
 have HO := Lib.hid hO
 clear hO
 go_wp2_with (first | (with_reducible refine Own.stay (fn := Tryd.f4) ?_) | (first | (go_at_call 19; go_in)))
 try with_reducible refine Own.Stay.mk ?_
 have hO := HO.out
 clear HO bN bO aC aF aD aE bG af ag dY bD bE bH ah ai cv cw dZ da aM aN bI bJ bK bL aI aJ aX aY aK aL
 generalize hW : World.alloc _ _ = W116
 have hN : Own w0 W116 [row (uw113.heap.size) 61 #[vF 275 nd114, vI 50], row (nd114) 277 #[], row (B14) 31 #[vU 0, vU 0], row (nd2) 252 ((newPar nd3 nd9 nd10 nd6 nd8).setIfInBounds 106 (vS nd4 1 (1 + nd5))), row (nd4) 260 (full symZ (symL ([sy nm 0])) nd5), row (nd6) 107 #[vN, vN, vN, vN, .map (some nd7), .map none, .map none, vN, bF, bF, bF], ((nd7, .map (uA ([])) (uN ([]))) : Rw), ((nd8, .map #[] 0) : Rw), row (nd9) 99 #[vO, vP nd10, vN, .map none, vN, vN, vI 0, vI 0, vU 0, vU 0, bF, bF, bF, bF, v8 0, v8 8], row (nd10) 99 #[vO, vO, vN, .map none, vN, vN, vI 0, vI 0, vU 0, vU 0, bF, bF, bF, bF, v8 0, v8 6], row (nd11) 57 #[vS nd12 1 1, v8 3, bF, bF], row (nd12) 54 #[vF 134 nd13, vI 3, .nilIface, vI 0], row (nd13) 136 #[vU 0, vU 0]] X := by
  rw [← hW]
  exact (hO).alloc' _ (uw113.heap.size) (by simp)
 clear hW hO
 generalize uw113.heap.size = B115 at hN ⊢
 have hO := hN
 clear hN
 obtain ⟨HL, HX⟩ := hid2 hO
 have hP9 := hO.pick [3] dc
 have T9 := curPart nd2 ((newPar nd3 nd9 nd10 nd6 nd8).setIfInBounds 106 (vS nd4 1 (1 + nd5))) nd6 _ _ _ hP9 (get_other (newPar_105 _ _ _ _ _) (by omega) _)
 refine Calls.mono T9 ?_
 clear hP9 T9
 rintro e uw117 ⟨rfl, hQ⟩
 replace hO : Own w0 uw117 [row (nd2) 252 ((newPar nd3 nd9 nd10 nd6 nd8).setIfInBounds 106 (vS nd4 1 (1 + nd5))), row (B115) 61 #[vF 275 nd114, vI 50], row (nd114) 277 #[], row (B14) 31 #[vU 0, vU 0], row (nd4) 260 (full symZ (symL ([sy nm 0])) nd5), row (nd6) 107 #[vN, vN, vN, vN, .map (some nd7), .map none, .map none, vN, bF, bF, bF], ((nd7, .map (uA ([])) (uN ([]))) : Rw), ((nd8, .map #[] 0) : Rw), row (nd9) 99 #[vO, vP nd10, vN, .map none, vN, vN, vI 0, vI 0, vU 0, vU 0, bF, bF, bF, bF, v8 0, v8 8], row (nd10) 99 #[vO, vO, vN, .map none, vN, vN, vI 0, vI 0, vU 0, vU 0, bF, bF, bF, bF, v8 0, v8 6], row (nd11) 57 #[vS nd12 1 1, v8 3, bF, bF], row (nd12) 54 #[vF 134 nd13, vI 3, .nilIface, vI 0], row (nd13) 136 #[vU 0, vU 0]] X := hQ.back HL.out HX.out [0, 1, 2, 4, 5, 6, 7, 8, 9, 10, 11, 12] dc dc
 clear hQ HL HX
 obtain ⟨aC, aF, aD, aE, -⟩ := hO.k2 1 rfl
 obtain ⟨aA, aB, -⟩ := hO.k0 2 rfl
 obtain ⟨aO, aa, aP, aQ, -⟩ := hO.k2 3 rfl
 have cu : uw117.cell? ⟨nd6, 3, none⟩ = some (vN) := hO.cell 5 rfl (3) rfl
 have aG := hO.lt 5 rfl
 have aH := hO.free 5 rfl
 have bH : uw117.cell? ⟨nd9, 5, none⟩ = some (vN) := hO.cell 8 rfl (5) rfl
 have ah := hO.lt 8 rfl
 have ai := hO.free 8 rfl
 have ab : uw117.cell? ⟨nd10, 5, none⟩ = some (vN) := hO.cell 9 rfl (5) rfl
 have aM := hO.lt 9 rfl
 have aN := hO.free 9 rfl
 obtain ⟨bI, bJ, bK, bL, aI, aJ, -⟩ := hO.k4 10 rfl
 obtain ⟨aX, aY, ac, ae, aK, aL, -⟩ := hO.k4 11 rfl
 obtain ⟨aR, aS, aT, aU, -⟩ := hO.k2 12 rfl
 have HO := Lib.hid hO
 clear hO
 go_wp2_with (first | (with_reducible refine Own.stay (fn := Tryd.f4) ?_) | (first | (go_at_call 19; go_in)))
 try with_reducible refine Own.Stay.mk ?_
 have hO := HO.out
 clear HO aC aF aD aE aA aB aO aa aP aQ cu aG aH bH ah ai ab aM aN bI bJ bK bL aI aJ aX aY ac ae aK aL aR aS aT aU
 obtain ⟨aC, aF, aD, aE, -⟩ := hO.k2 1 rfl
 obtain ⟨aA, aB, -⟩ := hO.k0 2 rfl
 obtain ⟨aO, aa, aP, aQ, -⟩ := hO.k2 3 rfl
 have cu : uw117.cell? ⟨nd6, 3, none⟩ = some (vN) := hO.cell 5 rfl (3) rfl
 have aG := hO.lt 5 rfl
 have aH := hO.free 5 rfl
 have bH : uw117.cell? ⟨nd9, 5, none⟩ = some (vN) := hO.cell 8 rfl (5) rfl
 have ah := hO.lt 8 rfl
 have ai := hO.free 8 rfl
 have ab : uw117.cell? ⟨nd10, 5, none⟩ = some (vN) := hO.cell 9 rfl (5) rfl
 have aM := hO.lt 9 rfl
 have aN := hO.free 9 rfl
 obtain ⟨bI, bJ, bK, bL, aI, aJ, -⟩ := hO.k4 10 rfl
 obtain ⟨aX, aY, ac, ae, aK, aL, -⟩ := hO.k4 11 rfl
 obtain ⟨aR, aS, aT, aU, -⟩ := hO.k2 12 rfl
 have HO := Lib.hid hO
 clear hO
 go_wp2_with (first | (with_reducible refine Own.stay (fn := Tryd.f4) ?_) | (first | (go_at_call 19; go_in) | (go_at_call 23; go_in)))
 try with_reducible refine Own.Stay.mk ?_
 have hO := HO.out
 clear HO aC aF aD aE aA aB aO aa aP aQ cu aG aH bH ah ai ab aM aN bI bJ bK bL aI aJ aX aY ac ae aK aL aR aS aT aU
 generalize hW : World.alloc _ _ = W119
 have hN : Own w0 W119 [row (uw117.heap.size) 28 #[vI 5], row (nd2) 252 ((newPar nd3 nd9 nd10 nd6 nd8).setIfInBounds 106 (vS nd4 1 (1 + nd5))), row (B115) 61 #[vF 275 nd114, vI 50], row (nd114) 277 #[], row (B14) 31 #[vU 0, vU 0], row (nd4) 260 (full symZ (symL ([sy nm 0])) nd5), row (nd6) 107 #[vN, vN, vN, vN, .map (some nd7), .map none, .map none, vN, bF, bF, bF], ((nd7, .map (uA ([])) (uN ([]))) : Rw), ((nd8, .map #[] 0) : Rw), row (nd9) 99 #[vO, vP nd10, vN, .map none, vN, vN, vI 0, vI 0, vU 0, vU 0, bF, bF, bF, bF, v8 0, v8 8], row (nd10) 99 #[vO, vO, vN, .map none, vN, vN, vI 0, vI 0, vU 0, vU 0, bF, bF, bF, bF, v8 0, v8 6], row (nd11) 57 #[vS nd12 1 1, v8 3, bF, bF], row (nd12) 54 #[vF 134 nd13, vI 3, .nilIface, vI 0], row (nd13) 136 #[vU 0, vU 0]] X := by
  rw [← hW]
  exact (hO).alloc' _ (uw117.heap.size) (by simp)
 clear hW hO
 generalize uw117.heap.size = B118 at hN ⊢
 have hO := hN
 clear hN
 obtain ⟨HL, HX⟩ := hid2 hO
 have hP9 := hO.pick [1, 5, 8, 10, 6, 7, 9, 11, 12, 13, 2] dc
 have h9_hg0 : w0.cell? ⟨0, 0, none⟩ = some (vU 4294967295) := (by first | assumption | omega | (simp; done) | (simp; omega))
 have h9_hg1 : w0.cell? ⟨0, 1, none⟩ = some (vU 4294967295) := (by first | assumption | omega | (simp; done) | (simp; omega))
 have T9 := fo20 nd2 ((newPar nd3 nd9 nd10 nd6 nd8).setIfInBounds 106 (vS nd4 1 (1 + nd5))) nd4 nd5 nm nd8 0 nd10 #[vO, vO, vN, .map none, vN, vN, vI 0, vI 0, vU 0, vU 0, bF, bF, bF, bF, v8 0, v8 6] nd6 #[vN, vN, vN, vN, .map (some nd7), .map none, .map none, vN, bF, bF, bF] nd7 nd9 #[vO, vP nd10, vN, .map none, vN, vN, vI 0, vI 0, vU 0, vU 0, bF, bF, bF, bF, v8 0, v8 8] nd11 nd12 nd13 B115 5 3 nd10 50 nd114 _ _ _ hP9 (get_other (newPar_350 _ _ _ _ _) (by omega) _) (get_other (newPar_32 _ _ _ _ _) (by omega) _) (get_other (newPar_105 _ _ _ _ _) (by omega) _) (get_other (newPar_66 _ _ _ _ _) (by omega) _) (get_other (newPar_117 _ _ _ _ _) (by omega) _) (get_other (newPar_187 _ _ _ _ _) (by omega) _) (get_other (newPar_104 _ _ _ _ _) (by omega) _) (get_other (newPar_23 _ _ _ _ _) (by omega) _) (get_other (newPar_34 _ _ _ _ _) (by omega) _) (get_other (newPar_352 _ _ _ _ _) (by omega) _) (get_other (newPar_333 _ _ _ _ _) (by omega) _) (get_set (newPar_106 _ _ _ _ _) _) rfl rfl rfl rfl rfl rfl hnm h9_hg0 h9_hg1
 refine Calls.mono T9 ?_
 clear hP9 T9 h9_hg0 h9_hg1
 rintro e uw120 ⟨nd121, nd122, nd123, nd124, nd125, nd126, nd127, nd128, nd129, nd130, nd131, nd132, nd133, nd134, nd135, nd136, nd137, nd138, nd139, nd140, nd141, nd142, nd143, nd144, nd145, nd146, nd147, nd148, nd149, nd150, nd151, nd152, nd153, nd154, rfl, pr155, pr156, pr157, pr158, pr159, pr160, pr161, hQ⟩
 replace hO : Own w0 uw120 [row (nd122) 61 (full stmZ [vF 42 nd124, vI 5, vF 67 nd128, vI 5] nd123), row (nd124) 57 #[vS nd125 1 1, v8 0, bF, bF], row (nd125) 54 #[vF 134 nd126, vI 5, vF 315 nd127, vI 5], row (nd126) 136 #[vU 0, vU 2], row (nd128) 76 #[vP nd129, vP nd130, vS nd144 (0 + 1) (0 + 1 + nd145), vI 0, vI 5], row (nd130) 116 #[vS nd131 1 1, vI 0, vI 5], row (nd2) 252 nd151, row (nd132) 260 (full symZ (symL (bump (stF0 ([sy nm 0, sy (un nm) 0, sy ⟨#[95, 115, 116, 97, 99, 107]⟩ 1, sy ⟨#[95, 95, 117, 115, 105, 110, 103]⟩ 1]) 2 4) 4)) nd133), row (nd6) 107 nd152, ((nd7, .map (uA nd154) (uN nd154)) : Rw), row (nd9) 99 nd153, row (nd134) 31 (full refZ [vU 0, vU 1, vU 0, vU 2, vU 0, vU 4, vU 0, vU 5, vU 0, vU 6] nd135), row (nd136) 113 (full dsyZ [vU 0, vU 2, bF, vU 0, vU 4, bF, vU 0, vU 5, bF, vU 0, vU 6, bF] nd137), row (nd144) 61 (full stmZ (stL (dtL (adS nd146 (fun _ => 0)) (lcS 5 (fun _ => 0))) (List.range (0 + 1))) nd145), row (nd11) 57 #[vS nd12 1 1, v8 0, bF, bF], row (nd13) 136 #[vU 0, vU 1], row (nd142) 31 #[vU 0, vU 1], row (nd143) 72 #[vS nd122 2 (2 + nd123), nd150], row (nd146) 57 #[vS nd147 1 1, v8 2, bF, bF], row (nd147) 54 #[vF 134 nd148, vI 3, vF 261 nd138, vI 3], row (nd138) 266 #[vF 267 nd139, vI 3, vS nd141 2 2, vI 0, v8 0, v8 0, bF, bF], row (nd141) 52 #[vF 267 nd140, vI 3, vF 267 nd149, vI 3], row (nd140) 270 #[vU 0, vU 2, bF, bF, bF], row (nd12) 54 #[vF 134 nd13, vI 3, .nilIface, vI 0], row (nd148) 136 #[vU 0, vU 0], row (nd149) 270 #[vU 0, vU 1, bF, bF, bF], row (B115) 61 #[vF 110 nd143, vI 50], row (B118) 28 #[vI 5], row (nd114) 277 #[], row (B14) 31 #[vU 0, vU 0]] X := hQ.back HL.out HX.out [0, 3, 4] dc dc
 clear hQ HL HX
 obtain ⟨aC, aF, bQ, bR, aD, aE, -⟩ := hO.k4 1 rfl
 obtain ⟨aV, aW, ay, aZ, aA, aB, -⟩ := hO.k4 2 rfl
 obtain ⟨aO, aa, aP, aQ, -⟩ := hO.k2 3 rfl
 obtain ⟨az, bA, bS, bG, bT, af, ag, -⟩ := hO.k5 4 rfl
 obtain ⟨aq, ar, bU, aG, aH, -⟩ := hO.k3 5 rfl
 obtain ⟨au, av, bV, bW, aw, ax, -⟩ := hO.k4 14 rfl
 obtain ⟨bX, bY, bZ, ba, -⟩ := hO.k2 15 rfl
 obtain ⟨bb, bc, bd, be, -⟩ := hO.k2 16 rfl
 obtain ⟨bf, bg, bh, bi, -⟩ := hO.k2 17 rfl
 obtain ⟨bj, bk, bl, bm, bn, bo, -⟩ := hO.k4 18 rfl
 obtain ⟨bp, bq, br, bs, bt, bu, -⟩ := hO.k4 19 rfl
 obtain ⟨bv, bw, bx, bz, cA, cB, cC, cD, cE, cF, -⟩ := hO.k8 20 rfl
 obtain ⟨cG, cH, cI, cJ, cK, cL, -⟩ := hO.k4 21 rfl
 obtain ⟨cM, cN, cO, cP, cQ, cR, cS, -⟩ := hO.k5 22 rfl
 obtain ⟨cT, cU, cV, cW, cX, cY, -⟩ := hO.k4 23 rfl
 obtain ⟨cZ, ca, cb, cc, -⟩ := hO.k2 24 rfl
 obtain ⟨cd, ce, cf, cg, ch, ci, cj, -⟩ := hO.k5 25 rfl
 obtain ⟨ck, cl, cm, cn, -⟩ := hO.k2 26 rfl
 obtain ⟨co, cp, cq, -⟩ := hO.k1 27 rfl
 obtain ⟨dD, dE, -⟩ := hO.k0 28 rfl
 obtain ⟨cr, dC, cs, ct, -⟩ := hO.k2 29 rfl
 have HO := Lib.hid hO
 clear hO
 go_wp2_with (first | (with_reducible refine Own.stay (fn := Tryd.f4) ?_) | (first | (go_at_call 19; go_in) | (go_at_call 23; go_in)))
 try with_reducible refine Own.Stay.mk ?_
 have hO := HO.out
 clear HO aC aF bQ bR aD aE aV aW ay aZ aA aB aO aa aP aQ az bA bS bG bT af ag aq ar bU aG aH au av bV bW aw ax bX bY bZ ba bb bc bd be bf bg bh bi bj bk bl bm bn bo bp bq br bs bt bu bv bw bx bz cA cB cC cD cE cF cG cH cI cJ cK cL cM cN cO cP cQ cR cS cT cU cV cW cX cY cZ ca cb cc cd ce cf cg ch ci cj ck cl cm cn co cp cq dD dE cr dC cs ct
 replace hO : Own w0 uw120 [row (nd122) 61 (full stmZ [vF 42 nd124, vI 5, vF 67 nd128, vI 5] nd123), row (nd124) 57 #[vS nd125 1 1, v8 0, bF, bF], row (nd125) 54 #[vF 134 nd126, vI 5, vF 315 nd127, vI 5], row (nd126) 136 #[vU 0, vU 2], row (nd128) 76 #[vP nd129, vP nd130, vS nd144 (0 + 1) (0 + 1 + nd145), vI 0, vI 5], row (nd130) 116 #[vS nd131 1 1, vI 0, vI 5], row (nd2) 252 nd151, row (nd132) 260 (full symZ (symL (bump (stF0 ([sy nm 0, sy (un nm) 0, sy ⟨#[95, 115, 116, 97, 99, 107]⟩ 1, sy ⟨#[95, 95, 117, 115, 105, 110, 103]⟩ 1]) 2 4) 4)) nd133), row (nd6) 107 nd152, ((nd7, .map (uA nd154) (uN nd154)) : Rw), row (nd9) 99 nd153, row (nd134) 31 (full refZ [vU 0, vU 1, vU 0, vU 2, vU 0, vU 4, vU 0, vU 5, vU 0, vU 6] nd135), row (nd136) 113 (full dsyZ [vU 0, vU 2, bF, vU 0, vU 4, bF, vU 0, vU 5, bF, vU 0, vU 6, bF] nd137), row (nd144) 61 (full stmZ (stL (dtL (adS nd146 (fun _ => 0)) (lcS 5 lcB)) (List.range (0 + 1))) nd145), row (nd11) 57 #[vS nd12 1 1, v8 0, bF, bF], row (nd13) 136 #[vU 0, vU 1], row (nd142) 31 #[vU 0, vU 1], row (nd143) 72 #[vS nd122 2 (2 + nd123), nd150], row (nd146) 57 #[vS nd147 1 1, v8 2, bF, bF], row (nd147) 54 #[vF 134 nd148, vI 3, vF 261 nd138, vI 3], row (nd138) 266 #[vF 267 nd139, vI 3, vS nd141 2 2, vI 0, v8 0, v8 0, bF, bF], row (nd141) 52 #[vF 267 nd140, vI 3, vF 267 nd149, vI 3], row (nd140) 270 #[vU 0, vU 2, bF, bF, bF], row (nd12) 54 #[vF 134 nd13, vI 3, .nilIface, vI 0], row (nd148) 136 #[vU 0, vU 0], row (nd149) 270 #[vU 0, vU 1, bF, bF, bF], row (B115) 61 #[vF 110 nd143, vI 50], row (B118) 28 #[vI 5], row (nd114) 277 #[], row (B14) 31 #[vU 0, vU 0]] X := hO.conv (by rw [lc_none])
 rw [HC9.out]
 have hP9 := hO.pick [29, 0, 1, 2, 3, 6, 7, 8, 10, 11, 12, 14, 15, 17, 23, 26] dc
 exact tl430 nd2 nm nd6 nd9 nd11 nd12 nd13 B115 50 B14 nd122 nd123 nd124 nd125 nd126 nd127 nd128 nd132 nd133 nd134 nd135 nd136 nd137 nd143 nd150 nd151 nd152 nd153 w0 uw120 _ _ (fun w3 h3 => ⟨rfl, h3.weaken fun b o h => Or.inl h⟩) hP9 pr158 pr161 pr160
end Go.Proofs.YtikopplofkemlaaDoor.Use
namespace Go.Proofs.YtikopplofkemlaaDoor.Use
open Go.ChangeShapes Go.WideShapes Go.ChangeAt Go.RowKit Go.Sort Own
set_option linter.unusedVariables false
def law43h1Post (nm : ByteArray) (sh n : Nat) (w0 : World) (X : Nat → Obj → Prop) (e : Ending) (w' : World) : Prop :=
 e = .returned (.bool true) ∧ Own w0 w' [] X
set_option maxRecDepth 100000 in
set_option maxHeartbeats 4000000 in
theorem law43h1 (nm : ByteArray) (sh n : Nat) (w0 w : World) (X : Nat → Obj → Prop) (hO : Own w0 w [] X) (hnm : nm.size ≤ 65536) (hn4 : n ≤ 4096) (hg0 : w0.cell? ⟨0, 0, none⟩ = some (vU 4294967295)) (hg1 : w0.cell? ⟨0, 1, none⟩ = some (vU 4294967295)) :
  Calls Tryd.prog 4 #[.string nm, v8 (sh : Int), v6 (n : Int), .bool true] w (law43h1Post nm sh n w0 X) := by
 go_enter Tryd.func4, Tryd.ntmps4
 obtain ⟨c9, hc9⟩ : ∃ c, c = rest43 := ⟨_, rfl⟩
 have HC9 := Lib.hid hc9
 simp only [rest43, Tryd.f4, Option.getD_some, cutC] at hc9
 rw [← hc9]
 clear hc9
 have hn9 : (n : Int) ≤ 4096 := by omega
 have hn8 : (0 : Int) ≤ (n : Int) := by omega
 have hnm9 : (nm.size : Int) ≤ 65536 := by omega
 have hnm8 : (0 : Int) ≤ (nm.size : Int) := by omega
 go_wp2_with (first | (with_reducible refine Own.stay (fn := Tryd.f4) ?_) | (first | (go_at_call 19; go_in)))
 try with_reducible refine Own.Stay.mk ?_
 obtain ⟨HL, HX⟩ := hid2 hO
 have hP9 := hO.pick [] dc
 have T9 := setU1 nm _ _ _ hP9 hg0 hg1
 refine Calls.mono T9 ?_
 clear hP9 T9
 rintro e uw1 ⟨nd2, nd3, nd4, nd5, nd6, nd7, nd8, nd9, nd10, nd11, nd12, nd13, rfl, hQ⟩
 replace hO : Own w0 uw1 [row (nd2) 252 ((newPar nd3 nd9 nd10 nd6 nd8).setIfInBounds 106 (vS nd4 1 (1 + nd5))), row (nd4) 260 (full symZ (symL ([sy nm 0])) nd5), row (nd6) 107 #[vN, vN, vN, vN, .map (some nd7), .map none, .map none, vN, bF, bF, bF], ((nd7, .map (uA ([])) (uN ([]))) : Rw), ((nd8, .map #[] 0) : Rw), row (nd9) 99 #[vO, vP nd10, vN, .map none, vN, vN, vI 0, vI 0, vU 0, vU 0, bF, bF, bF, bF, v8 0, v8 8], row (nd10) 99 #[vO, vO, vN, .map none, vN, vN, vI 0, vI 0, vU 0, vU 0, bF, bF, bF, bF, v8 0, v8 6], row (nd11) 57 #[vS nd12 1 1, v8 4, bF, bF], row (nd12) 54 #[vF 134 nd13, vI 3, .nilIface, vI 0], row (nd13) 136 #[vU 0, vU 0]] X := hQ.back HL.out HX.out [] dc dc
 clear hQ HL HX
 have aZ : uw1.cell? ⟨nd6, 3, none⟩ = some (vN) := hO.cell 2 rfl (3) rfl
 have aA := hO.lt 2 rfl
 have aB := hO.free 2 rfl
 have dC : uw1.cell? ⟨nd9, 5, none⟩ = some (vN) := hO.cell 5 rfl (5) rfl
 have aG := hO.lt 5 rfl
 have aH := hO.free 5 rfl
 have dD : uw1.cell? ⟨nd10, 5, none⟩ = some (vN) := hO.cell 6 rfl (5) rfl
 have bB := hO.lt 6 rfl
 have bC := hO.free 6 rfl
 obtain ⟨dE, dF, dG, bM, bD, bE, -⟩ := hO.k4 7 rfl
 obtain ⟨dH, dI, dJ, dK, ah, ai, -⟩ := hO.k4 8 rfl
 obtain ⟨cs, ct, aM, aN, -⟩ := hO.k2 9 rfl
 have HO := Lib.hid hO
 clear hO
 go_wp2_with (first | (with_reducible refine Own.stay (fn := Tryd.f4) ?_) | (first | (go_at_call 19; go_in)))
 try with_reducible refine Own.Stay.mk ?_
 have hO := HO.out
 clear HO aZ aA aB dC aG aH dD bB bC dE dF dG bM bD bE dH dI dJ dK ah ai cs ct aM aN
 generalize hW : World.alloc _ _ = W15
 have hN : Own w0 W15 [row (uw1.heap.size) 31 #[vU 0, vU 0], row (nd2) 252 ((newPar nd3 nd9 nd10 nd6 nd8).setIfInBounds 106 (vS nd4 1 (1 + nd5))), row (nd4) 260 (full symZ (symL ([sy nm 0])) nd5), row (nd6) 107 #[vN, vN, vN, vN, .map (some nd7), .map none, .map none, vN, bF, bF, bF], ((nd7, .map (uA ([])) (uN ([]))) : Rw), ((nd8, .map #[] 0) : Rw), row (nd9) 99 #[vO, vP nd10, vN, .map none, vN, vN, vI 0, vI 0, vU 0, vU 0, bF, bF, bF, bF, v8 0, v8 8], row (nd10) 99 #[vO, vO, vN, .map none, vN, vN, vI 0, vI 0, vU 0, vU 0, bF, bF, bF, bF, v8 0, v8 6], row (nd11) 57 #[vS nd12 1 1, v8 4, bF, bF], row (nd12) 54 #[vF 134 nd13, vI 3, .nilIface, vI 0], row (nd13) 136 #[vU 0, vU 0]] X := by
  rw [← hW]
  exact (hO).alloc' _ (uw1.heap.size) (by simp)
 clear hW hO
 generalize uw1.heap.size = B14 at hN ⊢
 have hO := hN
 clear hN
 by_cases hs0 : sh % 3 = 0
 ·skip
  have T9 := bod0 (sh : Int) n W15 W15 (fun _ _ => False) (Own.start W15) (by
   have h9 : (sh : Int).tmod 3 = ((sh % 3 : Nat) : Int) := rfl
   rw [h9]
   omega) hn4
  refine Calls.mono T9 ?_
  clear T9
  rintro e uB ⟨kb, tb, wb, ad, rfl, hQ⟩
  obtain ⟨Yf, hYX, hYZ, hM⟩ := hO.meet hQ
  have HLB := Lib.hid (show ∀ i : Nat, i < n → Yf (ad i) (.cells #[vN, v8 0, bF, bF] 57 (0, 0)) from fun i hi => hYZ _ _ (Or.inr ⟨i, hi, rfl, rfl, rfl⟩))
  have HYX := Lib.hid hYX
  clear hYX hYZ
  replace hO : Own w0 uB [row (kb) 72 #[vS tb n n, vI 0], row (tb) 61 (full stmZ (stL (dtL ad lcB) (List.range n)) 0), row (wb) 21 (full i32Z (tab wF n) 0), row (B14) 31 #[vU 0, vU 0], row (nd2) 252 ((newPar nd3 nd9 nd10 nd6 nd8).setIfInBounds 106 (vS nd4 1 (1 + nd5))), row (nd4) 260 (full symZ (symL ([sy nm 0])) nd5), row (nd6) 107 #[vN, vN, vN, vN, .map (some nd7), .map none, .map none, vN, bF, bF, bF], ((nd7, .map (uA ([])) (uN ([]))) : Rw), ((nd8, .map #[] 0) : Rw), row (nd9) 99 #[vO, vP nd10, vN, .map none, vN, vN, vI 0, vI 0, vU 0, vU 0, bF, bF, bF, bF, v8 0, v8 8], row (nd10) 99 #[vO, vO, vN, .map none, vN, vN, vI 0, vI 0, vU 0, vU 0, bF, bF, bF, bF, v8 0, v8 6], row (nd11) 57 #[vS nd12 1 1, v8 4, bF, bF], row (nd12) 54 #[vF 134 nd13, vI 3, .nilIface, vI 0], row (nd13) 136 #[vU 0, vU 0]] Yf := hM
  clear hQ hM
  obtain ⟨cu, cv, bN, bO, -⟩ := hO.k2 0 rfl
  obtain ⟨aO, aa, aP, aQ, -⟩ := hO.k2 3 rfl
  have bP : uB.cell? ⟨nd6, 3, none⟩ = some (vN) := hO.cell 6 rfl (3) rfl
  have bB := hO.lt 6 rfl
  have bC := hO.free 6 rfl
  have ab : uB.cell? ⟨nd9, 5, none⟩ = some (vN) := hO.cell 9 rfl (5) rfl
  have aM := hO.lt 9 rfl
  have aN := hO.free 9 rfl
  have aj : uB.cell? ⟨nd10, 5, none⟩ = some (vN) := hO.cell 10 rfl (5) rfl
  have aI := hO.lt 10 rfl
  have aJ := hO.free 10 rfl
  obtain ⟨aX, aY, ac, ae, aK, aL, -⟩ := hO.k4 11 rfl
  obtain ⟨aR, aS, ak, al, aT, aU, -⟩ := hO.k4 12 rfl
  obtain ⟨am, an, ao, ap, -⟩ := hO.k2 13 rfl
  have HO := Lib.hid hO
  clear hO
  go_wp2_with (first | (with_reducible refine Own.stay (fn := Tryd.f4) ?_) | (first | (go_at_call 19; go_in)))
  try with_reducible refine Own.Stay.mk ?_
  have hO := HO.out
  clear HO cu cv bN bO aO aa aP aQ bP bB bC ab aM aN aj aI aJ aX aY ac ae aK aL aR aS ak al aT aU am an ao ap
  generalize hW : World.alloc _ _ = W17
  have hN : Own w0 W17 [row (uB.heap.size) 61 #[vF 110 kb, vI 50], row (kb) 72 #[vS tb n n, vI 0], row (tb) 61 (full stmZ (stL (dtL ad lcB) (List.range n)) 0), row (wb) 21 (full i32Z (tab wF n) 0), row (B14) 31 #[vU 0, vU 0], row (nd2) 252 ((newPar nd3 nd9 nd10 nd6 nd8).setIfInBounds 106 (vS nd4 1 (1 + nd5))), row (nd4) 260 (full symZ (symL ([sy nm 0])) nd5), row (nd6) 107 #[vN, vN, vN, vN, .map (some nd7), .map none, .map none, vN, bF, bF, bF], ((nd7, .map (uA ([])) (uN ([]))) : Rw), ((nd8, .map #[] 0) : Rw), row (nd9) 99 #[vO, vP nd10, vN, .map none, vN, vN, vI 0, vI 0, vU 0, vU 0, bF, bF, bF, bF, v8 0, v8 8], row (nd10) 99 #[vO, vO, vN, .map none, vN, vN, vI 0, vI 0, vU 0, vU 0, bF, bF, bF, bF, v8 0, v8 6], row (nd11) 57 #[vS nd12 1 1, v8 4, bF, bF], row (nd12) 54 #[vF 134 nd13, vI 3, .nilIface, vI 0], row (nd13) 136 #[vU 0, vU 0]] Yf := by
   rw [← hW]
   exact (hO).alloc' _ (uB.heap.size) (by simp)
  clear hW hO
  generalize uB.heap.size = B16 at hN ⊢
  have hO := hN
  clear hN
  obtain ⟨HL, HX⟩ := hid2 hO
  have hP9 := hO.pick [5] dc
  have T9 := curPart nd2 ((newPar nd3 nd9 nd10 nd6 nd8).setIfInBounds 106 (vS nd4 1 (1 + nd5))) nd6 _ _ _ hP9 (get_other (newPar_105 _ _ _ _ _) (by omega) _)
  refine Calls.mono T9 ?_
  clear hP9 T9
  rintro e uw18 ⟨rfl, hQ⟩
  replace hO : Own w0 uw18 [row (nd2) 252 ((newPar nd3 nd9 nd10 nd6 nd8).setIfInBounds 106 (vS nd4 1 (1 + nd5))), row (B16) 61 #[vF 110 kb, vI 50], row (kb) 72 #[vS tb n n, vI 0], row (tb) 61 (full stmZ (stL (dtL ad lcB) (List.range n)) 0), row (wb) 21 (full i32Z (tab wF n) 0), row (B14) 31 #[vU 0, vU 0], row (nd4) 260 (full symZ (symL ([sy nm 0])) nd5), row (nd6) 107 #[vN, vN, vN, vN, .map (some nd7), .map none, .map none, vN, bF, bF, bF], ((nd7, .map (uA ([])) (uN ([]))) : Rw), ((nd8, .map #[] 0) : Rw), row (nd9) 99 #[vO, vP nd10, vN, .map none, vN, vN, vI 0, vI 0, vU 0, vU 0, bF, bF, bF, bF, v8 0, v8 8], row (nd10) 99 #[vO, vO, vN, .map none, vN, vN, vI 0, vI 0, vU 0, vU 0, bF, bF, bF, bF, v8 0, v8 6], row (nd11) 57 #[vS nd12 1 1, v8 4, bF, bF], row (nd12) 54 #[vF 134 nd13, vI 3, .nilIface, vI 0], row (nd13) 136 #[vU 0, vU 0]] Yf := hQ.back HL.out HX.out [0, 1, 2, 3, 4, 6, 7, 8, 9, 10, 11, 12, 13, 14] dc dc
  clear hQ HL HX
  obtain ⟨aC, aF, aD, aE, -⟩ := hO.k2 1 rfl
  obtain ⟨aV, aW, aA, aB, -⟩ := hO.k2 2 rfl
  obtain ⟨aq, ar, aG, aH, -⟩ := hO.k2 5 rfl
  have bM : uw18.cell? ⟨nd6, 3, none⟩ = some (vN) := hO.cell 7 rfl (3) rfl
  have bD := hO.lt 7 rfl
  have bE := hO.free 7 rfl
  have aj : uw18.cell? ⟨nd9, 5, none⟩ = some (vN) := hO.cell 10 rfl (5) rfl
  have aI := hO.lt 10 rfl
  have aJ := hO.free 10 rfl
  have cw : uw18.cell? ⟨nd10, 5, none⟩ = some (vN) := hO.cell 11 rfl (5) rfl
  have aK := hO.lt 11 rfl
  have aL := hO.free 11 rfl
  obtain ⟨aR, aS, ak, al, aT, aU, -⟩ := hO.k4 12 rfl
  obtain ⟨am, an, cx, cy, ao, ap, -⟩ := hO.k4 13 rfl
  obtain ⟨au, av, aw, ax, -⟩ := hO.k2 14 rfl
  have HO := Lib.hid hO
  clear hO
  go_wp2_with (first | (with_reducible refine Own.stay (fn := Tryd.f4) ?_) | (first | (go_at_call 19; go_in)))
  try with_reducible refine Own.Stay.mk ?_
  have hO := HO.out
  clear HO aC aF aD aE aV aW aA aB aq ar aG aH bM bD bE aj aI aJ cw aK aL aR aS ak al aT aU am an cx cy ao ap au av aw ax
  obtain ⟨aC, aF, aD, aE, -⟩ := hO.k2 1 rfl
  obtain ⟨aV, aW, aA, aB, -⟩ := hO.k2 2 rfl
  obtain ⟨aq, ar, aG, aH, -⟩ := hO.k2 5 rfl
  have bM : uw18.cell? ⟨nd6, 3, none⟩ = some (vN) := hO.cell 7 rfl (3) rfl
  have bD := hO.lt 7 rfl
  have bE := hO.free 7 rfl
  have aj : uw18.cell? ⟨nd9, 5, none⟩ = some (vN) := hO.cell 10 rfl (5) rfl
  have aI := hO.lt 10 rfl
  have aJ := hO.free 10 rfl
  have cw : uw18.cell? ⟨nd10, 5, none⟩ = some (vN) := hO.cell 11 rfl (5) rfl
  have aK := hO.lt 11 rfl
  have aL := hO.free 11 rfl
  obtain ⟨aR, aS, ak, al, aT, aU, -⟩ := hO.k4 12 rfl
  obtain ⟨am, an, cx, cy, ao, ap, -⟩ := hO.k4 13 rfl
  obtain ⟨au, av, aw, ax, -⟩ := hO.k2 14 rfl
  have HO := Lib.hid hO
  clear hO
  go_wp2_with (first | (with_reducible refine Own.stay (fn := Tryd.f4) ?_) | (first | (go_at_call 19; go_in) | (go_at_call 23; go_in)))
  try with_reducible refine Own.Stay.mk ?_
  have hO := HO.out
  clear HO aC aF aD aE aV aW aA aB aq ar aG aH bM bD bE aj aI aJ cw aK aL aR aS ak al aT aU am an cx cy ao ap au av aw ax
  generalize hW : World.alloc _ _ = W20
  have hN : Own w0 W20 [row (uw18.heap.size) 28 #[vI 5], row (nd2) 252 ((newPar nd3 nd9 nd10 nd6 nd8).setIfInBounds 106 (vS nd4 1 (1 + nd5))), row (B16) 61 #[vF 110 kb, vI 50], row (kb) 72 #[vS tb n n, vI 0], row (tb) 61 (full stmZ (stL (dtL ad lcB) (List.range n)) 0), row (wb) 21 (full i32Z (tab wF n) 0), row (B14) 31 #[vU 0, vU 0], row (nd4) 260 (full symZ (symL ([sy nm 0])) nd5), row (nd6) 107 #[vN, vN, vN, vN, .map (some nd7), .map none, .map none, vN, bF, bF, bF], ((nd7, .map (uA ([])) (uN ([]))) : Rw), ((nd8, .map #[] 0) : Rw), row (nd9) 99 #[vO, vP nd10, vN, .map none, vN, vN, vI 0, vI 0, vU 0, vU 0, bF, bF, bF, bF, v8 0, v8 8], row (nd10) 99 #[vO, vO, vN, .map none, vN, vN, vI 0, vI 0, vU 0, vU 0, bF, bF, bF, bF, v8 0, v8 6], row (nd11) 57 #[vS nd12 1 1, v8 4, bF, bF], row (nd12) 54 #[vF 134 nd13, vI 3, .nilIface, vI 0], row (nd13) 136 #[vU 0, vU 0]] Yf := by
   rw [← hW]
   exact (hO).alloc' _ (uw18.heap.size) (by simp)
  clear hW hO
  generalize uw18.heap.size = B19 at hN ⊢
  have hO := hN
  clear hN
  obtain ⟨HL, HX⟩ := hid2 hO
  have hP9 := hO.pick [1, 7, 10, 12, 8, 9, 11, 13, 14, 15, 2, 3, 4] dc
  have h9_hg0 : w0.cell? ⟨0, 0, none⟩ = some (vU 4294967295) := (by first | assumption | omega | (simp; done) | (simp; omega))
  have h9_hg1 : w0.cell? ⟨0, 1, none⟩ = some (vU 4294967295) := (by first | assumption | omega | (simp; done) | (simp; omega))
  have T9 := fo01 nd2 ((newPar nd3 nd9 nd10 nd6 nd8).setIfInBounds 106 (vS nd4 1 (1 + nd5))) nd4 nd5 nm nd8 0 nd10 #[vO, vO, vN, .map none, vN, vN, vI 0, vI 0, vU 0, vU 0, bF, bF, bF, bF, v8 0, v8 6] nd6 #[vN, vN, vN, vN, .map (some nd7), .map none, .map none, vN, bF, bF, bF] nd7 nd9 #[vO, vP nd10, vN, .map none, vN, vN, vI 0, vI 0, vU 0, vU 0, bF, bF, bF, bF, v8 0, v8 8] nd11 nd12 nd13 B16 5 3 nd10 50 kb tb n ad lcB _ _ _ hP9 (get_other (newPar_350 _ _ _ _ _) (by omega) _) (get_other (newPar_32 _ _ _ _ _) (by omega) _) (get_other (newPar_105 _ _ _ _ _) (by omega) _) (get_other (newPar_66 _ _ _ _ _) (by omega) _) (get_other (newPar_117 _ _ _ _ _) (by omega) _) (get_other (newPar_187 _ _ _ _ _) (by omega) _) (get_other (newPar_104 _ _ _ _ _) (by omega) _) (get_other (newPar_23 _ _ _ _ _) (by omega) _) (get_other (newPar_34 _ _ _ _ _) (by omega) _) (get_other (newPar_352 _ _ _ _ _) (by omega) _) (get_other (newPar_333 _ _ _ _ _) (by omega) _) (get_set (newPar_106 _ _ _ _ _) _) rfl rfl rfl rfl rfl rfl hnm hn4 (fun i hi => Or.inl (HLB.out i hi)) h9_hg0 h9_hg1
  refine Calls.mono T9 ?_
  clear hP9 T9 h9_hg0 h9_hg1
  rintro e uw21 ⟨nd22, nd23, nd24, nd25, nd26, nd27, nd28, nd29, nd30, nd31, nd32, nd33, nd34, nd35, nd36, nd37, nd38, nd39, nd40, nd41, nd42, nd43, nd44, nd45, nd46, nd47, nd48, nd49, nd50, nd51, nd52, nd53, nd54, nd55, nd56, nd57, rfl, pr58, pr59, pr60, pr61, pr62, pr63, pr64, hQ⟩
  replace hO : Own w0 uw21 [row (nd23) 61 (full stmZ [vF 42 nd25, vI 5, vF 67 nd29, vI 5] nd24), row (nd25) 57 #[vS nd26 1 1, v8 0, bF, bF], row (nd26) 54 #[vF 134 nd27, vI 5, vF 315 nd28, vI 5], row (nd27) 136 #[vU 0, vU 2], row (nd29) 76 #[vP nd30, vP nd31, vS nd47 (n + 1) (n + 1 + nd48), vI 0, vI 5], row (nd31) 116 #[vS nd32 2 2, vI 0, vI 5], row (nd2) 252 nd54, row (nd33) 260 (full symZ (symL (bump (stF1 ([sy nm 0, sy (un nm) 0, sy ⟨#[95, 115, 116, 97, 99, 107]⟩ 1, sy ⟨#[95, 95, 117, 115, 105, 110, 103]⟩ 1]) 2 4) 4)) nd34), row (nd6) 107 nd55, ((nd7, .map (uA nd57) (uN nd57)) : Rw), row (nd9) 99 nd56, row (nd35) 31 (full refZ [vU 0, vU 1, vU 0, vU 2, vU 0, vU 4, vU 0, vU 5, vU 0, vU 6, vU 0, vU 8, vU 0, vU 8] nd36), row (nd37) 113 (full dsyZ [vU 0, vU 2, bF, vU 0, vU 4, bF, vU 0, vU 5, bF, vU 0, vU 6, bF, vU 0, vU 8, bF] nd38), row (nd47) 61 (full stmZ (stL (dtL (adS nd49 ad) (lcS 5 lcB)) (List.range (n + 1))) nd48), row (nd11) 57 #[vS nd12 1 1, v8 0, bF, bF], row (nd13) 136 #[vU 0, vU 1], row (nd45) 31 #[vU 0, vU 1], row (nd46) 72 #[vS nd23 2 (2 + nd24), nd53], row (nd49) 57 #[vS nd50 1 1, v8 2, bF, bF], row (nd50) 54 #[vF 134 nd51, vI 3, vF 261 nd39, vI 3], row (nd39) 266 #[vF 267 nd40, vI 3, vS nd42 3 (3 + nd44), vI 0, v8 0, v8 0, bF, bF], row (nd42) 52 (full expZ [vF 267 nd41, vI 3, vF 267 nd52, vI 3, vF 271 nd43, vI 3] nd44), row (nd41) 270 #[vU 0, vU 2, bF, bF, bF], row (nd43) 274 #[.bool true], row (nd12) 54 #[vF 134 nd13, vI 3, .nilIface, vI 0], row (nd51) 136 #[vU 0, vU 0], row (nd52) 270 #[vU 0, vU 1, bF, bF, bF], row (B16) 61 #[vF 110 nd46, vI 50], row (B19) 28 #[vI 5], row (wb) 21 (full i32Z (tab wF n) 0), row (B14) 31 #[vU 0, vU 0]] Yf := hQ.back HL.out HX.out [0, 5, 6] dc dc
  clear hQ HL HX
  obtain ⟨aC, aF, bQ, bR, aD, aE, -⟩ := hO.k4 1 rfl
  obtain ⟨aV, aW, ay, aZ, aA, aB, -⟩ := hO.k4 2 rfl
  obtain ⟨aO, aa, aP, aQ, -⟩ := hO.k2 3 rfl
  obtain ⟨az, bA, bS, bG, bT, af, ag, -⟩ := hO.k5 4 rfl
  obtain ⟨aq, ar, bU, aG, aH, -⟩ := hO.k3 5 rfl
  obtain ⟨au, av, bV, bW, aw, ax, -⟩ := hO.k4 14 rfl
  obtain ⟨bX, bY, bZ, ba, -⟩ := hO.k2 15 rfl
  obtain ⟨bb, bc, bd, be, -⟩ := hO.k2 16 rfl
  obtain ⟨bf, bg, bh, bi, -⟩ := hO.k2 17 rfl
  obtain ⟨bj, bk, bl, bm, bn, bo, -⟩ := hO.k4 18 rfl
  obtain ⟨bp, bq, br, bs, bt, bu, -⟩ := hO.k4 19 rfl
  obtain ⟨bv, bw, bx, bz, cA, cB, cC, cD, cE, cF, -⟩ := hO.k8 20 rfl
  obtain ⟨cG, cH, cI, cJ, cK, cL, cM, -⟩ := hO.k5 22 rfl
  obtain ⟨cN, cO, cP, -⟩ := hO.k1 23 rfl
  obtain ⟨cQ, cR, cS, cT, cU, cV, -⟩ := hO.k4 24 rfl
  obtain ⟨cW, cX, cY, cZ, -⟩ := hO.k2 25 rfl
  obtain ⟨ca, cb, cc, cd, ce, cf, cg, -⟩ := hO.k5 26 rfl
  obtain ⟨ch, ci, cj, ck, -⟩ := hO.k2 27 rfl
  obtain ⟨cl, cm, cn, -⟩ := hO.k1 28 rfl
  obtain ⟨co, cz, cp, cq, -⟩ := hO.k2 30 rfl
  have HO := Lib.hid hO
  clear hO
  go_wp2_with (first | (with_reducible refine Own.stay (fn := Tryd.f4) ?_) | (first | (go_at_call 19; go_in) | (go_at_call 23; go_in)))
  try with_reducible refine Own.Stay.mk ?_
  have hO := HO.out
  clear HO aC aF bQ bR aD aE aV aW ay aZ aA aB aO aa aP aQ az bA bS bG bT af ag aq ar bU aG aH au av bV bW aw ax bX bY bZ ba bb bc bd be bf bg bh bi bj bk bl bm bn bo bp bq br bs bt bu bv bw bx bz cA cB cC cD cE cF cG cH cI cJ cK cL cM cN cO cP cQ cR cS cT cU cV cW cX cY cZ ca cb cc cd ce cf cg ch ci cj ck cl cm cn co cz cp cq
  replace hO : Own w0 uw21 [row (nd23) 61 (full stmZ [vF 42 nd25, vI 5, vF 67 nd29, vI 5] nd24), row (nd25) 57 #[vS nd26 1 1, v8 0, bF, bF], row (nd26) 54 #[vF 134 nd27, vI 5, vF 315 nd28, vI 5], row (nd27) 136 #[vU 0, vU 2], row (nd29) 76 #[vP nd30, vP nd31, vS nd47 (n + 1) (n + 1 + nd48), vI 0, vI 5], row (nd31) 116 #[vS nd32 2 2, vI 0, vI 5], row (nd2) 252 nd54, row (nd33) 260 (full symZ (symL (bump (stF1 ([sy nm 0, sy (un nm) 0, sy ⟨#[95, 115, 116, 97, 99, 107]⟩ 1, sy ⟨#[95, 95, 117, 115, 105, 110, 103]⟩ 1]) 2 4) 4)) nd34), row (nd6) 107 nd55, ((nd7, .map (uA nd57) (uN nd57)) : Rw), row (nd9) 99 nd56, row (nd35) 31 (full refZ [vU 0, vU 1, vU 0, vU 2, vU 0, vU 4, vU 0, vU 5, vU 0, vU 6, vU 0, vU 8, vU 0, vU 8] nd36), row (nd37) 113 (full dsyZ [vU 0, vU 2, bF, vU 0, vU 4, bF, vU 0, vU 5, bF, vU 0, vU 6, bF, vU 0, vU 8, bF] nd38), row (nd47) 61 (full stmZ (stL (dtL (adS nd49 ad) (lcS 5 lcB)) (List.range (n + 1))) nd48), row (nd11) 57 #[vS nd12 1 1, v8 0, bF, bF], row (nd13) 136 #[vU 0, vU 1], row (nd45) 31 #[vU 0, vU 1], row (nd46) 72 #[vS nd23 2 (2 + nd24), nd53], row (nd49) 57 #[vS nd50 1 1, v8 2, bF, bF], row (nd50) 54 #[vF 134 nd51, vI 3, vF 261 nd39, vI 3], row (nd39) 266 #[vF 267 nd40, vI 3, vS nd42 3 (3 + nd44), vI 0, v8 0, v8 0, bF, bF], row (nd42) 52 (full expZ [vF 267 nd41, vI 3, vF 267 nd52, vI 3, vF 271 nd43, vI 3] nd44), row (nd41) 270 #[vU 0, vU 2, bF, bF, bF], row (nd43) 274 #[.bool true], row (nd12) 54 #[vF 134 nd13, vI 3, .nilIface, vI 0], row (nd51) 136 #[vU 0, vU 0], row (nd52) 270 #[vU 0, vU 1, bF, bF, bF], row (B16) 61 #[vF 110 nd46, vI 50], row (B19) 28 #[vI 5], row (wb) 21 (full i32Z (tab wF n) 0), row (B14) 31 #[vU 0, vU 0]] Yf := hO
  rw [HC9.out]
  have hP9 := hO.pick [30, 0, 1, 2, 3, 6, 7, 8, 10, 11, 12, 14, 15, 17, 24, 27] dc
  exact tl431 nd2 nm nd6 nd9 nd11 nd12 nd13 B16 50 B14 nd23 nd24 nd25 nd26 nd27 nd28 nd29 nd33 nd34 nd35 nd36 nd37 nd38 nd46 nd53 nd54 nd55 nd56 w0 uw21 _ _ (fun w3 h3 => ⟨rfl, h3.weaken fun b o h => Or.inl (HYX.out b o h)⟩) hP9 pr61 pr64 pr63
 by_cases hs1 : sh % 3 = 1
 ·skip
  obtain ⟨HL, HX⟩ := hid2 hO
  have hP9 := hO.pick [] dc
  have h9_hsh : (sh : Int).tmod 3 = 1 := (by
   have h9 : (sh : Int).tmod 3 = ((sh % 3 : Nat) : Int) := rfl
   rw [h9]
   omega)
  have T9 := bod1 (sh : Int) (n : Int) _ _ _ hP9 h9_hsh
  refine Calls.mono T9 ?_
  clear hP9 T9 h9_hsh
  rintro e uw65 ⟨nd66, nd67, rfl, hQ⟩
  replace hO : Own w0 uw65 [row (nd66) 57 #[vN, v8 0, bF, bF], row (nd67) 21 #[vI 100], row (B14) 31 #[vU 0, vU 0], row (nd2) 252 ((newPar nd3 nd9 nd10 nd6 nd8).setIfInBounds 106 (vS nd4 1 (1 + nd5))), row (nd4) 260 (full symZ (symL ([sy nm 0])) nd5), row (nd6) 107 #[vN, vN, vN, vN, .map (some nd7), .map none, .map none, vN, bF, bF, bF], ((nd7, .map (uA ([])) (uN ([]))) : Rw), ((nd8, .map #[] 0) : Rw), row (nd9) 99 #[vO, vP nd10, vN, .map none, vN, vN, vI 0, vI 0, vU 0, vU 0, bF, bF, bF, bF, v8 0, v8 8], row (nd10) 99 #[vO, vO, vN, .map none, vN, vN, vI 0, vI 0, vU 0, vU 0, bF, bF, bF, bF, v8 0, v8 6], row (nd11) 57 #[vS nd12 1 1, v8 4, bF, bF], row (nd12) 54 #[vF 134 nd13, vI 3, .nilIface, vI 0], row (nd13) 136 #[vU 0, vU 0]] X := hQ.back HL.out HX.out [0, 1, 2, 3, 4, 5, 6, 7, 8, 9, 10] dc dc
  clear hQ HL HX
  obtain ⟨cu, cv, dL, dM, bN, bO, -⟩ := hO.k4 0 rfl
  obtain ⟨aC, aD, aE, -⟩ := hO.k1 1 rfl
  obtain ⟨aV, aW, aA, aB, -⟩ := hO.k2 2 rfl
  have cr : uw65.cell? ⟨nd6, 3, none⟩ = some (vN) := hO.cell 5 rfl (3) rfl
  have aG := hO.lt 5 rfl
  have aH := hO.free 5 rfl
  have bH : uw65.cell? ⟨nd9, 5, none⟩ = some (vN) := hO.cell 8 rfl (5) rfl
  have ah := hO.lt 8 rfl
  have ai := hO.free 8 rfl
  have ab : uw65.cell? ⟨nd10, 5, none⟩ = some (vN) := hO.cell 9 rfl (5) rfl
  have aM := hO.lt 9 rfl
  have aN := hO.free 9 rfl
  obtain ⟨bI, bJ, bK, bL, aI, aJ, -⟩ := hO.k4 10 rfl
  obtain ⟨aX, aY, ac, ae, aK, aL, -⟩ := hO.k4 11 rfl
  obtain ⟨aR, aS, aT, aU, -⟩ := hO.k2 12 rfl
  have HO := Lib.hid hO
  clear hO
  go_wp2_with (first | (with_reducible refine Own.stay (fn := Tryd.f4) ?_) | (first | (go_at_call 19; go_in)))
  try with_reducible refine Own.Stay.mk ?_
  have hO := HO.out
  clear HO cu cv dL dM bN bO aC aD aE aV aW aA aB cr aG aH bH ah ai ab aM aN bI bJ bK bL aI aJ aX aY ac ae aK aL aR aS aT aU
  generalize hW : World.alloc _ _ = W69
  have hN : Own w0 W69 [row (uw65.heap.size) 61 #[vF 42 nd66, vI 100], row (nd66) 57 #[vN, v8 0, bF, bF], row (nd67) 21 #[vI 100], row (B14) 31 #[vU 0, vU 0], row (nd2) 252 ((newPar nd3 nd9 nd10 nd6 nd8).setIfInBounds 106 (vS nd4 1 (1 + nd5))), row (nd4) 260 (full symZ (symL ([sy nm 0])) nd5), row (nd6) 107 #[vN, vN, vN, vN, .map (some nd7), .map none, .map none, vN, bF, bF, bF], ((nd7, .map (uA ([])) (uN ([]))) : Rw), ((nd8, .map #[] 0) : Rw), row (nd9) 99 #[vO, vP nd10, vN, .map none, vN, vN, vI 0, vI 0, vU 0, vU 0, bF, bF, bF, bF, v8 0, v8 8], row (nd10) 99 #[vO, vO, vN, .map none, vN, vN, vI 0, vI 0, vU 0, vU 0, bF, bF, bF, bF, v8 0, v8 6], row (nd11) 57 #[vS nd12 1 1, v8 4, bF, bF], row (nd12) 54 #[vF 134 nd13, vI 3, .nilIface, vI 0], row (nd13) 136 #[vU 0, vU 0]] X := by
   rw [← hW]
   exact (hO).alloc' _ (uw65.heap.size) (by simp)
  clear hW hO
  generalize uw65.heap.size = B68 at hN ⊢
  have hO := hN
  clear hN
  obtain ⟨HL, HX⟩ := hid2 hO
  have hP9 := hO.pick [4] dc
  have T9 := curPart nd2 ((newPar nd3 nd9 nd10 nd6 nd8).setIfInBounds 106 (vS nd4 1 (1 + nd5))) nd6 _ _ _ hP9 (get_other (newPar_105 _ _ _ _ _) (by omega) _)
  refine Calls.mono T9 ?_
  clear hP9 T9
  rintro e uw70 ⟨rfl, hQ⟩
  replace hO : Own w0 uw70 [row (nd2) 252 ((newPar nd3 nd9 nd10 nd6 nd8).setIfInBounds 106 (vS nd4 1 (1 + nd5))), row (B68) 61 #[vF 42 nd66, vI 100], row (nd66) 57 #[vN, v8 0, bF, bF], row (nd67) 21 #[vI 100], row (B14) 31 #[vU 0, vU 0], row (nd4) 260 (full symZ (symL ([sy nm 0])) nd5), row (nd6) 107 #[vN, vN, vN, vN, .map (some nd7), .map none, .map none, vN, bF, bF, bF], ((nd7, .map (uA ([])) (uN ([]))) : Rw), ((nd8, .map #[] 0) : Rw), row (nd9) 99 #[vO, vP nd10, vN, .map none, vN, vN, vI 0, vI 0, vU 0, vU 0, bF, bF, bF, bF, v8 0, v8 8], row (nd10) 99 #[vO, vO, vN, .map none, vN, vN, vI 0, vI 0, vU 0, vU 0, bF, bF, bF, bF, v8 0, v8 6], row (nd11) 57 #[vS nd12 1 1, v8 4, bF, bF], row (nd12) 54 #[vF 134 nd13, vI 3, .nilIface, vI 0], row (nd13) 136 #[vU 0, vU 0]] X := hQ.back HL.out HX.out [0, 1, 2, 3, 5, 6, 7, 8, 9, 10, 11, 12, 13] dc dc
  clear hQ HL HX
  obtain ⟨aC, aF, aD, aE, -⟩ := hO.k2 1 rfl
  obtain ⟨aV, aW, ay, aZ, aA, aB, -⟩ := hO.k4 2 rfl
  obtain ⟨aO, aP, aQ, -⟩ := hO.k1 3 rfl
  obtain ⟨az, bA, af, ag, -⟩ := hO.k2 4 rfl
  have bP : uw70.cell? ⟨nd6, 3, none⟩ = some (vN) := hO.cell 6 rfl (3) rfl
  have bB := hO.lt 6 rfl
  have bC := hO.free 6 rfl
  have ab : uw70.cell? ⟨nd9, 5, none⟩ = some (vN) := hO.cell 9 rfl (5) rfl
  have aM := hO.lt 9 rfl
  have aN := hO.free 9 rfl
  have aj : uw70.cell? ⟨nd10, 5, none⟩ = some (vN) := hO.cell 10 rfl (5) rfl
  have aI := hO.lt 10 rfl
  have aJ := hO.free 10 rfl
  obtain ⟨aX, aY, ac, ae, aK, aL, -⟩ := hO.k4 11 rfl
  obtain ⟨aR, aS, ak, al, aT, aU, -⟩ := hO.k4 12 rfl
  obtain ⟨am, an, ao, ap, -⟩ := hO.k2 13 rfl
  have HO := Lib.hid hO
  clear hO
  go_wp2_with (first | (with_reducible refine Own.stay (fn := Tryd.f4) ?_) | (first | (go_at_call 19; go_in)))
  try with_reducible refine Own.Stay.mk ?_
  have hO := HO.out
  clear HO aC aF aD aE aV aW ay aZ aA aB aO aP aQ az bA af ag bP bB bC ab aM aN aj aI aJ aX aY ac ae aK aL aR aS ak al aT aU am an ao ap
  obtain ⟨aC, aF, aD, aE, -⟩ := hO.k2 1 rfl
  obtain ⟨aV, aW, ay, aZ, aA, aB, -⟩ := hO.k4 2 rfl
  obtain ⟨aO, aP, aQ, -⟩ := hO.k1 3 rfl
  obtain ⟨az, bA, af, ag, -⟩ := hO.k2 4 rfl
  have bP : uw70.cell? ⟨nd6, 3, none⟩ = some (vN) := hO.cell 6 rfl (3) rfl
  have bB := hO.lt 6 rfl
  have bC := hO.free 6 rfl
  have ab : uw70.cell? ⟨nd9, 5, none⟩ = some (vN) := hO.cell 9 rfl (5) rfl
  have aM := hO.lt 9 rfl
  have aN := hO.free 9 rfl
  have aj : uw70.cell? ⟨nd10, 5, none⟩ = some (vN) := hO.cell 10 rfl (5) rfl
  have aI := hO.lt 10 rfl
  have aJ := hO.free 10 rfl
  obtain ⟨aX, aY, ac, ae, aK, aL, -⟩ := hO.k4 11 rfl
  obtain ⟨aR, aS, ak, al, aT, aU, -⟩ := hO.k4 12 rfl
  obtain ⟨am, an, ao, ap, -⟩ := hO.k2 13 rfl
  have HO := Lib.hid hO
  clear hO
  go_wp2_with (first | (with_reducible refine Own.stay (fn := Tryd.f4) ?_) | (first | (go_at_call 19; go_in) | (go_at_call 23; go_in)))
  try with_reducible refine Own.Stay.mk ?_
  have hO := HO.out
  clear HO aC aF aD aE aV aW ay aZ aA aB aO aP aQ az bA af ag bP bB bC ab aM aN aj aI aJ aX aY ac ae aK aL aR aS ak al aT aU am an ao ap
  generalize hW : World.alloc _ _ = W72
  have hN : Own w0 W72 [row (uw70.heap.size) 28 #[vI 5], row (nd2) 252 ((newPar nd3 nd9 nd10 nd6 nd8).setIfInBounds 106 (vS nd4 1 (1 + nd5))), row (B68) 61 #[vF 42 nd66, vI 100], row (nd66) 57 #[vN, v8 0, bF, bF], row (nd67) 21 #[vI 100], row (B14) 31 #[vU 0, vU 0], row (nd4) 260 (full symZ (symL ([sy nm 0])) nd5), row (nd6) 107 #[vN, vN, vN, vN, .map (some nd7), .map none, .map none, vN, bF, bF, bF], ((nd7, .map (uA ([])) (uN ([]))) : Rw), ((nd8, .map #[] 0) : Rw), row (nd9) 99 #[vO, vP nd10, vN, .map none, vN, vN, vI 0, vI 0, vU 0, vU 0, bF, bF, bF, bF, v8 0, v8 8], row (nd10) 99 #[vO, vO, vN, .map none, vN, vN, vI 0, vI 0, vU 0, vU 0, bF, bF, bF, bF, v8 0, v8 6], row (nd11) 57 #[vS nd12 1 1, v8 4, bF, bF], row (nd12) 54 #[vF 134 nd13, vI 3, .nilIface, vI 0], row (nd13) 136 #[vU 0, vU 0]] X := by
   rw [← hW]
   exact (hO).alloc' _ (uw70.heap.size) (by simp)
  clear hW hO
  generalize uw70.heap.size = B71 at hN ⊢
  have hO := hN
  clear hN
  obtain ⟨HL, HX⟩ := hid2 hO
  have hP9 := hO.pick [1, 6, 9, 11, 7, 8, 10, 12, 13, 14, 2] dc
  have h9_hg0 : w0.cell? ⟨0, 0, none⟩ = some (vU 4294967295) := (by first | assumption | omega | (simp; done) | (simp; omega))
  have h9_hg1 : w0.cell? ⟨0, 1, none⟩ = some (vU 4294967295) := (by first | assumption | omega | (simp; done) | (simp; omega))
  have T9 := fo11 nd2 ((newPar nd3 nd9 nd10 nd6 nd8).setIfInBounds 106 (vS nd4 1 (1 + nd5))) nd4 nd5 nm nd8 0 nd10 #[vO, vO, vN, .map none, vN, vN, vI 0, vI 0, vU 0, vU 0, bF, bF, bF, bF, v8 0, v8 6] nd6 #[vN, vN, vN, vN, .map (some nd7), .map none, .map none, vN, bF, bF, bF] nd7 nd9 #[vO, vP nd10, vN, .map none, vN, vN, vI 0, vI 0, vU 0, vU 0, bF, bF, bF, bF, v8 0, v8 8] nd11 nd12 nd13 B68 5 3 nd10 100 nd66 _ _ _ hP9 (get_other (newPar_350 _ _ _ _ _) (by omega) _) (get_other (newPar_32 _ _ _ _ _) (by omega) _) (get_other (newPar_105 _ _ _ _ _) (by omega) _) (get_other (newPar_66 _ _ _ _ _) (by omega) _) (get_other (newPar_117 _ _ _ _ _) (by omega) _) (get_other (newPar_187 _ _ _ _ _) (by omega) _) (get_other (newPar_104 _ _ _ _ _) (by omega) _) (get_other (newPar_23 _ _ _ _ _) (by omega) _) (get_other (newPar_34 _ _ _ _ _) (by omega) _) (get_other (newPar_352 _ _ _ _ _) (by omega) _) (get_other (newPar_333 _ _ _ _ _) (by omega) _) (get_set (newPar_106 _ _ _ _ _) _) rfl rfl rfl rfl rfl rfl hnm (Or.inr ⟨3, by decide, rfl⟩) h9_hg0 h9_hg1
  refine Calls.mono T9 ?_
  clear hP9 T9 h9_hg0 h9_hg1
  rintro e uw73 ⟨nd74, nd75, nd76, nd77, nd78, nd79, nd80, nd81, nd82, nd83, nd84, nd85, nd86, nd87, nd88, nd89, nd90, nd91, nd92, nd93, nd94, nd95, nd96, nd97, nd98, nd99, nd100, nd101, nd102, nd103, nd104, nd105, nd106, nd107, nd108, nd109, rfl, pr110, pr111, pr112, pr113, pr114, pr115, pr116, hQ⟩
  replace hO : Own w0 uw73 [row (nd75) 61 (full stmZ [vF 42 nd77, vI 5, vF 67 nd81, vI 5] nd76), row (nd77) 57 #[vS nd78 1 1, v8 0, bF, bF], row (nd78) 54 #[vF 134 nd79, vI 5, vF 315 nd80, vI 5], row (nd79) 136 #[vU 0, vU 2], row (nd81) 76 #[vP nd82, vP nd83, vS nd99 (1 + 1) (1 + 1 + nd100), vI 0, vI 5], row (nd83) 116 #[vS nd84 2 2, vI 0, vI 5], row (nd2) 252 nd106, row (nd85) 260 (full symZ (symL (bump (stF1 ([sy nm 0, sy (un nm) 0, sy ⟨#[95, 115, 116, 97, 99, 107]⟩ 1, sy ⟨#[95, 95, 117, 115, 105, 110, 103]⟩ 1]) 2 4) 4)) nd86), row (nd6) 107 nd107, ((nd7, .map (uA nd109) (uN nd109)) : Rw), row (nd9) 99 nd108, row (nd87) 31 (full refZ [vU 0, vU 1, vU 0, vU 2, vU 0, vU 4, vU 0, vU 5, vU 0, vU 6, vU 0, vU 8, vU 0, vU 8] nd88), row (nd89) 113 (full dsyZ [vU 0, vU 2, bF, vU 0, vU 4, bF, vU 0, vU 5, bF, vU 0, vU 6, bF, vU 0, vU 8, bF] nd90), row (nd99) 61 (full stmZ (stL (dtL (adS nd101 (fun _ => nd66)) (lcS 5 (fun _ => 100))) (List.range (1 + 1))) nd100), row (nd11) 57 #[vS nd12 1 1, v8 0, bF, bF], row (nd13) 136 #[vU 0, vU 1], row (nd97) 31 #[vU 0, vU 1], row (nd98) 72 #[vS nd75 2 (2 + nd76), nd105], row (nd101) 57 #[vS nd102 1 1, v8 2, bF, bF], row (nd102) 54 #[vF 134 nd103, vI 3, vF 261 nd91, vI 3], row (nd91) 266 #[vF 267 nd92, vI 3, vS nd94 3 (3 + nd96), vI 0, v8 0, v8 0, bF, bF], row (nd94) 52 (full expZ [vF 267 nd93, vI 3, vF 267 nd104, vI 3, vF 271 nd95, vI 3] nd96), row (nd93) 270 #[vU 0, vU 2, bF, bF, bF], row (nd95) 274 #[.bool true], row (nd12) 54 #[vF 134 nd13, vI 3, .nilIface, vI 0], row (nd103) 136 #[vU 0, vU 0], row (nd104) 270 #[vU 0, vU 1, bF, bF, bF], row (B68) 61 #[vF 110 nd98, vI 100], row (B71) 28 #[vI 5], row (nd66) 57 #[vN, v8 0, bF, bF], row (nd67) 21 #[vI 100], row (B14) 31 #[vU 0, vU 0]] X := hQ.back HL.out HX.out [0, 3, 4, 5] dc dc
  clear hQ HL HX
  obtain ⟨aC, aF, bQ, bR, aD, aE, -⟩ := hO.k4 1 rfl
  obtain ⟨aV, aW, ay, aZ, aA, aB, -⟩ := hO.k4 2 rfl
  obtain ⟨aO, aa, aP, aQ, -⟩ := hO.k2 3 rfl
  obtain ⟨az, bA, bS, bG, bT, af, ag, -⟩ := hO.k5 4 rfl
  obtain ⟨aq, ar, bU, aG, aH, -⟩ := hO.k3 5 rfl
  obtain ⟨au, av, bV, bW, aw, ax, -⟩ := hO.k4 14 rfl
  obtain ⟨bX, bY, bZ, ba, -⟩ := hO.k2 15 rfl
  obtain ⟨bb, bc, bd, be, -⟩ := hO.k2 16 rfl
  obtain ⟨bf, bg, bh, bi, -⟩ := hO.k2 17 rfl
  obtain ⟨bj, bk, bl, bm, bn, bo, -⟩ := hO.k4 18 rfl
  obtain ⟨bp, bq, br, bs, bt, bu, -⟩ := hO.k4 19 rfl
  obtain ⟨bv, bw, bx, bz, cA, cB, cC, cD, cE, cF, -⟩ := hO.k8 20 rfl
  obtain ⟨cG, cH, cI, cJ, cK, cL, cM, -⟩ := hO.k5 22 rfl
  obtain ⟨cN, cO, cP, -⟩ := hO.k1 23 rfl
  obtain ⟨cQ, cR, cS, cT, cU, cV, -⟩ := hO.k4 24 rfl
  obtain ⟨cW, cX, cY, cZ, -⟩ := hO.k2 25 rfl
  obtain ⟨ca, cb, cc, cd, ce, cf, cg, -⟩ := hO.k5 26 rfl
  obtain ⟨ch, ci, cj, ck, -⟩ := hO.k2 27 rfl
  obtain ⟨cl, cm, cn, -⟩ := hO.k1 28 rfl
  obtain ⟨dN, dO, dP, dQ, dA, dB, -⟩ := hO.k4 29 rfl
  obtain ⟨co, cp, cq, -⟩ := hO.k1 30 rfl
  obtain ⟨dR, dS, dT, dU, -⟩ := hO.k2 31 rfl
  have HO := Lib.hid hO
  clear hO
  go_wp2_with (first | (with_reducible refine Own.stay (fn := Tryd.f4) ?_) | (first | (go_at_call 19; go_in) | (go_at_call 23; go_in)))
  try with_reducible refine Own.Stay.mk ?_
  have hO := HO.out
  clear HO aC aF bQ bR aD aE aV aW ay aZ aA aB aO aa aP aQ az bA bS bG bT af ag aq ar bU aG aH au av bV bW aw ax bX bY bZ ba bb bc bd be bf bg bh bi bj bk bl bm bn bo bp bq br bs bt bu bv bw bx bz cA cB cC cD cE cF cG cH cI cJ cK cL cM cN cO cP cQ cR cS cT cU cV cW cX cY cZ ca cb cc cd ce cf cg ch ci cj ck cl cm cn dN dO dP dQ dA dB co cp cq dR dS dT dU
  replace hO : Own w0 uw73 [row (nd75) 61 (full stmZ [vF 42 nd77, vI 5, vF 67 nd81, vI 5] nd76), row (nd77) 57 #[vS nd78 1 1, v8 0, bF, bF], row (nd78) 54 #[vF 134 nd79, vI 5, vF 315 nd80, vI 5], row (nd79) 136 #[vU 0, vU 2], row (nd81) 76 #[vP nd82, vP nd83, vS nd99 (1 + 1) (1 + 1 + nd100), vI 0, vI 5], row (nd83) 116 #[vS nd84 2 2, vI 0, vI 5], row (nd2) 252 nd106, row (nd85) 260 (full symZ (symL (bump (stF1 ([sy nm 0, sy (un nm) 0, sy ⟨#[95, 115, 116, 97, 99, 107]⟩ 1, sy ⟨#[95, 95, 117, 115, 105, 110, 103]⟩ 1]) 2 4) 4)) nd86), row (nd6) 107 nd107, ((nd7, .map (uA nd109) (uN nd109)) : Rw), row (nd9) 99 nd108, row (nd87) 31 (full refZ [vU 0, vU 1, vU 0, vU 2, vU 0, vU 4, vU 0, vU 5, vU 0, vU 6, vU 0, vU 8, vU 0, vU 8] nd88), row (nd89) 113 (full dsyZ [vU 0, vU 2, bF, vU 0, vU 4, bF, vU 0, vU 5, bF, vU 0, vU 6, bF, vU 0, vU 8, bF] nd90), row (nd99) 61 (full stmZ (stL (dtL (adS nd101 (fun _ => nd66)) (lcS 5 lcB)) (List.range (1 + 1))) nd100), row (nd11) 57 #[vS nd12 1 1, v8 0, bF, bF], row (nd13) 136 #[vU 0, vU 1], row (nd97) 31 #[vU 0, vU 1], row (nd98) 72 #[vS nd75 2 (2 + nd76), nd105], row (nd101) 57 #[vS nd102 1 1, v8 2, bF, bF], row (nd102) 54 #[vF 134 nd103, vI 3, vF 261 nd91, vI 3], row (nd91) 266 #[vF 267 nd92, vI 3, vS nd94 3 (3 + nd96), vI 0, v8 0, v8 0, bF, bF], row (nd94) 52 (full expZ [vF 267 nd93, vI 3, vF 267 nd104, vI 3, vF 271 nd95, vI 3] nd96), row (nd93) 270 #[vU 0, vU 2, bF, bF, bF], row (nd95) 274 #[.bool true], row (nd12) 54 #[vF 134 nd13, vI 3, .nilIface, vI 0], row (nd103) 136 #[vU 0, vU 0], row (nd104) 270 #[vU 0, vU 1, bF, bF, bF], row (B68) 61 #[vF 110 nd98, vI 100], row (B71) 28 #[vI 5], row (nd66) 57 #[vN, v8 0, bF, bF], row (nd67) 21 #[vI 100], row (B14) 31 #[vU 0, vU 0]] X := hO.conv (by rw [lc_one])
  rw [HC9.out]
  have hP9 := hO.pick [31, 0, 1, 2, 3, 6, 7, 8, 10, 11, 12, 14, 15, 17, 24, 27] dc
  exact tl431 nd2 nm nd6 nd9 nd11 nd12 nd13 B68 100 B14 nd75 nd76 nd77 nd78 nd79 nd80 nd81 nd85 nd86 nd87 nd88 nd89 nd90 nd98 nd105 nd106 nd107 nd108 w0 uw73 _ _ (fun w3 h3 => ⟨rfl, h3.weaken fun b o h => Or.inl h⟩) hP9 pr113 pr116 pr115
 have hs2 : sh % 3 = 2 := by omega
 obtain ⟨HL, HX⟩ := hid2 hO
 have hP9 := hO.pick [] dc
 have h9_hsh : (sh : Int).tmod 3 = 2 := (by
  have h9 : (sh : Int).tmod 3 = ((sh % 3 : Nat) : Int) := rfl
  rw [h9]
  omega)
 have T9 := bod2 (sh : Int) (n : Int) _ _ _ hP9 h9_hsh
 refine Calls.mono T9 ?_
 clear hP9 T9 h9_hsh
 rintro e uw117 ⟨nd118, rfl, hQ⟩
 replace hO : Own w0 uw117 [row (nd118) 277 #[], row (B14) 31 #[vU 0, vU 0], row (nd2) 252 ((newPar nd3 nd9 nd10 nd6 nd8).setIfInBounds 106 (vS nd4 1 (1 + nd5))), row (nd4) 260 (full symZ (symL ([sy nm 0])) nd5), row (nd6) 107 #[vN, vN, vN, vN, .map (some nd7), .map none, .map none, vN, bF, bF, bF], ((nd7, .map (uA ([])) (uN ([]))) : Rw), ((nd8, .map #[] 0) : Rw), row (nd9) 99 #[vO, vP nd10, vN, .map none, vN, vN, vI 0, vI 0, vU 0, vU 0, bF, bF, bF, bF, v8 0, v8 8], row (nd10) 99 #[vO, vO, vN, .map none, vN, vN, vI 0, vI 0, vU 0, vU 0, bF, bF, bF, bF, v8 0, v8 6], row (nd11) 57 #[vS nd12 1 1, v8 4, bF, bF], row (nd12) 54 #[vF 134 nd13, vI 3, .nilIface, vI 0], row (nd13) 136 #[vU 0, vU 0]] X := hQ.back HL.out HX.out [0, 1, 2, 3, 4, 5, 6, 7, 8, 9, 10] dc dc
 clear hQ HL HX
 obtain ⟨bN, bO, -⟩ := hO.k0 0 rfl
 obtain ⟨aC, aF, aD, aE, -⟩ := hO.k2 1 rfl
 have bG : uw117.cell? ⟨nd6, 3, none⟩ = some (vN) := hO.cell 4 rfl (3) rfl
 have af := hO.lt 4 rfl
 have ag := hO.free 4 rfl
 have dV : uw117.cell? ⟨nd9, 5, none⟩ = some (vN) := hO.cell 7 rfl (5) rfl
 have bD := hO.lt 7 rfl
 have bE := hO.free 7 rfl
 have bH : uw117.cell? ⟨nd10, 5, none⟩ = some (vN) := hO.cell 8 rfl (5) rfl
 have ah := hO.lt 8 rfl
 have ai := hO.free 8 rfl
 obtain ⟨cs, ct, dW, dX, aM, aN, -⟩ := hO.k4 9 rfl
 obtain ⟨bI, bJ, bK, bL, aI, aJ, -⟩ := hO.k4 10 rfl
 obtain ⟨aX, aY, aK, aL, -⟩ := hO.k2 11 rfl
 have HO := Lib.hid hO
 clear hO
 go_wp2_with (first | (with_reducible refine Own.stay (fn := Tryd.f4) ?_) | (first | (go_at_call 19; go_in)))
 try with_reducible refine Own.Stay.mk ?_
 have hO := HO.out
 clear HO bN bO aC aF aD aE bG af ag dV bD bE bH ah ai cs ct dW dX aM aN bI bJ bK bL aI aJ aX aY aK aL
 generalize hW : World.alloc _ _ = W120
 have hN : Own w0 W120 [row (uw117.heap.size) 61 #[vF 275 nd118, vI 50], row (nd118) 277 #[], row (B14) 31 #[vU 0, vU 0], row (nd2) 252 ((newPar nd3 nd9 nd10 nd6 nd8).setIfInBounds 106 (vS nd4 1 (1 + nd5))), row (nd4) 260 (full symZ (symL ([sy nm 0])) nd5), row (nd6) 107 #[vN, vN, vN, vN, .map (some nd7), .map none, .map none, vN, bF, bF, bF], ((nd7, .map (uA ([])) (uN ([]))) : Rw), ((nd8, .map #[] 0) : Rw), row (nd9) 99 #[vO, vP nd10, vN, .map none, vN, vN, vI 0, vI 0, vU 0, vU 0, bF, bF, bF, bF, v8 0, v8 8], row (nd10) 99 #[vO, vO, vN, .map none, vN, vN, vI 0, vI 0, vU 0, vU 0, bF, bF, bF, bF, v8 0, v8 6], row (nd11) 57 #[vS nd12 1 1, v8 4, bF, bF], row (nd12) 54 #[vF 134 nd13, vI 3, .nilIface, vI 0], row (nd13) 136 #[vU 0, vU 0]] X := by
  rw [← hW]
  exact (hO).alloc' _ (uw117.heap.size) (by simp)
 clear hW hO
 generalize uw117.heap.size = B119 at hN ⊢
 have hO := hN
 clear hN
 obtain ⟨HL, HX⟩ := hid2 hO
 have hP9 := hO.pick [3] dc
 have T9 := curPart nd2 ((newPar nd3 nd9 nd10 nd6 nd8).setIfInBounds 106 (vS nd4 1 (1 + nd5))) nd6 _ _ _ hP9 (get_other (newPar_105 _ _ _ _ _) (by omega) _)
 refine Calls.mono T9 ?_
 clear hP9 T9
 rintro e uw121 ⟨rfl, hQ⟩
 replace hO : Own w0 uw121 [row (nd2) 252 ((newPar nd3 nd9 nd10 nd6 nd8).setIfInBounds 106 (vS nd4 1 (1 + nd5))), row (B119) 61 #[vF 275 nd118, vI 50], row (nd118) 277 #[], row (B14) 31 #[vU 0, vU 0], row (nd4) 260 (full symZ (symL ([sy nm 0])) nd5), row (nd6) 107 #[vN, vN, vN, vN, .map (some nd7), .map none, .map none, vN, bF, bF, bF], ((nd7, .map (uA ([])) (uN ([]))) : Rw), ((nd8, .map #[] 0) : Rw), row (nd9) 99 #[vO, vP nd10, vN, .map none, vN, vN, vI 0, vI 0, vU 0, vU 0, bF, bF, bF, bF, v8 0, v8 8], row (nd10) 99 #[vO, vO, vN, .map none, vN, vN, vI 0, vI 0, vU 0, vU 0, bF, bF, bF, bF, v8 0, v8 6], row (nd11) 57 #[vS nd12 1 1, v8 4, bF, bF], row (nd12) 54 #[vF 134 nd13, vI 3, .nilIface, vI 0], row (nd13) 136 #[vU 0, vU 0]] X := hQ.back HL.out HX.out [0, 1, 2, 4, 5, 6, 7, 8, 9, 10, 11, 12] dc dc
 clear hQ HL HX
 obtain ⟨aC, aF, aD, aE, -⟩ := hO.k2 1 rfl
 obtain ⟨aA, aB, -⟩ := hO.k0 2 rfl
 obtain ⟨aO, aa, aP, aQ, -⟩ := hO.k2 3 rfl
 have cr : uw121.cell? ⟨nd6, 3, none⟩ = some (vN) := hO.cell 5 rfl (3) rfl
 have aG := hO.lt 5 rfl
 have aH := hO.free 5 rfl
 have bH : uw121.cell? ⟨nd9, 5, none⟩ = some (vN) := hO.cell 8 rfl (5) rfl
 have ah := hO.lt 8 rfl
 have ai := hO.free 8 rfl
 have ab : uw121.cell? ⟨nd10, 5, none⟩ = some (vN) := hO.cell 9 rfl (5) rfl
 have aM := hO.lt 9 rfl
 have aN := hO.free 9 rfl
 obtain ⟨bI, bJ, bK, bL, aI, aJ, -⟩ := hO.k4 10 rfl
 obtain ⟨aX, aY, ac, ae, aK, aL, -⟩ := hO.k4 11 rfl
 obtain ⟨aR, aS, aT, aU, -⟩ := hO.k2 12 rfl
 have HO := Lib.hid hO
 clear hO
 go_wp2_with (first | (with_reducible refine Own.stay (fn := Tryd.f4) ?_) | (first | (go_at_call 19; go_in)))
 try with_reducible refine Own.Stay.mk ?_
 have hO := HO.out
 clear HO aC aF aD aE aA aB aO aa aP aQ cr aG aH bH ah ai ab aM aN bI bJ bK bL aI aJ aX aY ac ae aK aL aR aS aT aU
 obtain ⟨aC, aF, aD, aE, -⟩ := hO.k2 1 rfl
 obtain ⟨aA, aB, -⟩ := hO.k0 2 rfl
 obtain ⟨aO, aa, aP, aQ, -⟩ := hO.k2 3 rfl
 have cr : uw121.cell? ⟨nd6, 3, none⟩ = some (vN) := hO.cell 5 rfl (3) rfl
 have aG := hO.lt 5 rfl
 have aH := hO.free 5 rfl
 have bH : uw121.cell? ⟨nd9, 5, none⟩ = some (vN) := hO.cell 8 rfl (5) rfl
 have ah := hO.lt 8 rfl
 have ai := hO.free 8 rfl
 have ab : uw121.cell? ⟨nd10, 5, none⟩ = some (vN) := hO.cell 9 rfl (5) rfl
 have aM := hO.lt 9 rfl
 have aN := hO.free 9 rfl
 obtain ⟨bI, bJ, bK, bL, aI, aJ, -⟩ := hO.k4 10 rfl
 obtain ⟨aX, aY, ac, ae, aK, aL, -⟩ := hO.k4 11 rfl
 obtain ⟨aR, aS, aT, aU, -⟩ := hO.k2 12 rfl
 have HO := Lib.hid hO
 clear hO
 go_wp2_with (first | (with_reducible refine Own.stay (fn := Tryd.f4) ?_) | (first | (go_at_call 19; go_in) | (go_at_call 23; go_in)))
 try with_reducible refine Own.Stay.mk ?_
 have hO := HO.out
 clear HO aC aF aD aE aA aB aO aa aP aQ cr aG aH bH ah ai ab aM aN bI bJ bK bL aI aJ aX aY ac ae aK aL aR aS aT aU
 generalize hW : World.alloc _ _ = W123
 have hN : Own w0 W123 [row (uw121.heap.size) 28 #[vI 5], row (nd2) 252 ((newPar nd3 nd9 nd10 nd6 nd8).setIfInBounds 106 (vS nd4 1 (1 + nd5))), row (B119) 61 #[vF 275 nd118, vI 50], row (nd118) 277 #[], row (B14) 31 #[vU 0, vU 0], row (nd4) 260 (full symZ (symL ([sy nm 0])) nd5), row (nd6) 107 #[vN, vN, vN, vN, .map (some nd7), .map none, .map none, vN, bF, bF, bF], ((nd7, .map (uA ([])) (uN ([]))) : Rw), ((nd8, .map #[] 0) : Rw), row (nd9) 99 #[vO, vP nd10, vN, .map none, vN, vN, vI 0, vI 0, vU 0, vU 0, bF, bF, bF, bF, v8 0, v8 8], row (nd10) 99 #[vO, vO, vN, .map none, vN, vN, vI 0, vI 0, vU 0, vU 0, bF, bF, bF, bF, v8 0, v8 6], row (nd11) 57 #[vS nd12 1 1, v8 4, bF, bF], row (nd12) 54 #[vF 134 nd13, vI 3, .nilIface, vI 0], row (nd13) 136 #[vU 0, vU 0]] X := by
  rw [← hW]
  exact (hO).alloc' _ (uw121.heap.size) (by simp)
 clear hW hO
 generalize uw121.heap.size = B122 at hN ⊢
 have hO := hN
 clear hN
 obtain ⟨HL, HX⟩ := hid2 hO
 have hP9 := hO.pick [1, 5, 8, 10, 6, 7, 9, 11, 12, 13, 2] dc
 have h9_hg0 : w0.cell? ⟨0, 0, none⟩ = some (vU 4294967295) := (by first | assumption | omega | (simp; done) | (simp; omega))
 have h9_hg1 : w0.cell? ⟨0, 1, none⟩ = some (vU 4294967295) := (by first | assumption | omega | (simp; done) | (simp; omega))
 have T9 := fo21 nd2 ((newPar nd3 nd9 nd10 nd6 nd8).setIfInBounds 106 (vS nd4 1 (1 + nd5))) nd4 nd5 nm nd8 0 nd10 #[vO, vO, vN, .map none, vN, vN, vI 0, vI 0, vU 0, vU 0, bF, bF, bF, bF, v8 0, v8 6] nd6 #[vN, vN, vN, vN, .map (some nd7), .map none, .map none, vN, bF, bF, bF] nd7 nd9 #[vO, vP nd10, vN, .map none, vN, vN, vI 0, vI 0, vU 0, vU 0, bF, bF, bF, bF, v8 0, v8 8] nd11 nd12 nd13 B119 5 3 nd10 50 nd118 _ _ _ hP9 (get_other (newPar_350 _ _ _ _ _) (by omega) _) (get_other (newPar_32 _ _ _ _ _) (by omega) _) (get_other (newPar_105 _ _ _ _ _) (by omega) _) (get_other (newPar_66 _ _ _ _ _) (by omega) _) (get_other (newPar_117 _ _ _ _ _) (by omega) _) (get_other (newPar_187 _ _ _ _ _) (by omega) _) (get_other (newPar_104 _ _ _ _ _) (by omega) _) (get_other (newPar_23 _ _ _ _ _) (by omega) _) (get_other (newPar_34 _ _ _ _ _) (by omega) _) (get_other (newPar_352 _ _ _ _ _) (by omega) _) (get_other (newPar_333 _ _ _ _ _) (by omega) _) (get_set (newPar_106 _ _ _ _ _) _) rfl rfl rfl rfl rfl rfl hnm h9_hg0 h9_hg1
 refine Calls.mono T9 ?_
 clear hP9 T9 h9_hg0 h9_hg1
 rintro e uw124 ⟨nd125, nd126, nd127, nd128, nd129, nd130, nd131, nd132, nd133, nd134, nd135, nd136, nd137, nd138, nd139, nd140, nd141, nd142, nd143, nd144, nd145, nd146, nd147, nd148, nd149, nd150, nd151, nd152, nd153, nd154, nd155, nd156, nd157, nd158, nd159, nd160, rfl, pr161, pr162, pr163, pr164, pr165, pr166, pr167, hQ⟩
 replace hO : Own w0 uw124 [row (nd126) 61 (full stmZ [vF 42 nd128, vI 5, vF 67 nd132, vI 5] nd127), row (nd128) 57 #[vS nd129 1 1, v8 0, bF, bF], row (nd129) 54 #[vF 134 nd130, vI 5, vF 315 nd131, vI 5], row (nd130) 136 #[vU 0, vU 2], row (nd132) 76 #[vP nd133, vP nd134, vS nd150 (0 + 1) (0 + 1 + nd151), vI 0, vI 5], row (nd134) 116 #[vS nd135 2 2, vI 0, vI 5], row (nd2) 252 nd157, row (nd136) 260 (full symZ (symL (bump (stF1 ([sy nm 0, sy (un nm) 0, sy ⟨#[95, 115, 116, 97, 99, 107]⟩ 1, sy ⟨#[95, 95, 117, 115, 105, 110, 103]⟩ 1]) 2 4) 4)) nd137), row (nd6) 107 nd158, ((nd7, .map (uA nd160) (uN nd160)) : Rw), row (nd9) 99 nd159, row (nd138) 31 (full refZ [vU 0, vU 1, vU 0, vU 2, vU 0, vU 4, vU 0, vU 5, vU 0, vU 6, vU 0, vU 8, vU 0, vU 8] nd139), row (nd140) 113 (full dsyZ [vU 0, vU 2, bF, vU 0, vU 4, bF, vU 0, vU 5, bF, vU 0, vU 6, bF, vU 0, vU 8, bF] nd141), row (nd150) 61 (full stmZ (stL (dtL (adS nd152 (fun _ => 0)) (lcS 5 (fun _ => 0))) (List.range (0 + 1))) nd151), row (nd11) 57 #[vS nd12 1 1, v8 0, bF, bF], row (nd13) 136 #[vU 0, vU 1], row (nd148) 31 #[vU 0, vU 1], row (nd149) 72 #[vS nd126 2 (2 + nd127), nd156], row (nd152) 57 #[vS nd153 1 1, v8 2, bF, bF], row (nd153) 54 #[vF 134 nd154, vI 3, vF 261 nd142, vI 3], row (nd142) 266 #[vF 267 nd143, vI 3, vS nd145 3 (3 + nd147), vI 0, v8 0, v8 0, bF, bF], row (nd145) 52 (full expZ [vF 267 nd144, vI 3, vF 267 nd155, vI 3, vF 271 nd146, vI 3] nd147), row (nd144) 270 #[vU 0, vU 2, bF, bF, bF], row (nd146) 274 #[.bool true], row (nd12) 54 #[vF 134 nd13, vI 3, .nilIface, vI 0], row (nd154) 136 #[vU 0, vU 0], row (nd155) 270 #[vU 0, vU 1, bF, bF, bF], row (B119) 61 #[vF 110 nd149, vI 50], row (B122) 28 #[vI 5], row (nd118) 277 #[], row (B14) 31 #[vU 0, vU 0]] X := hQ.back HL.out HX.out [0, 3, 4] dc dc
 clear hQ HL HX
 obtain ⟨aC, aF, bQ, bR, aD, aE, -⟩ := hO.k4 1 rfl
 obtain ⟨aV, aW, ay, aZ, aA, aB, -⟩ := hO.k4 2 rfl
 obtain ⟨aO, aa, aP, aQ, -⟩ := hO.k2 3 rfl
 obtain ⟨az, bA, bS, bG, bT, af, ag, -⟩ := hO.k5 4 rfl
 obtain ⟨aq, ar, bU, aG, aH, -⟩ := hO.k3 5 rfl
 obtain ⟨au, av, bV, bW, aw, ax, -⟩ := hO.k4 14 rfl
 obtain ⟨bX, bY, bZ, ba, -⟩ := hO.k2 15 rfl
 obtain ⟨bb, bc, bd, be, -⟩ := hO.k2 16 rfl
 obtain ⟨bf, bg, bh, bi, -⟩ := hO.k2 17 rfl
 obtain ⟨bj, bk, bl, bm, bn, bo, -⟩ := hO.k4 18 rfl
 obtain ⟨bp, bq, br, bs, bt, bu, -⟩ := hO.k4 19 rfl
 obtain ⟨bv, bw, bx, bz, cA, cB, cC, cD, cE, cF, -⟩ := hO.k8 20 rfl
 obtain ⟨cG, cH, cI, cJ, cK, cL, cM, -⟩ := hO.k5 22 rfl
 obtain ⟨cN, cO, cP, -⟩ := hO.k1 23 rfl
 obtain ⟨cQ, cR, cS, cT, cU, cV, -⟩ := hO.k4 24 rfl
 obtain ⟨cW, cX, cY, cZ, -⟩ := hO.k2 25 rfl
 obtain ⟨ca, cb, cc, cd, ce, cf, cg, -⟩ := hO.k5 26 rfl
 obtain ⟨ch, ci, cj, ck, -⟩ := hO.k2 27 rfl
 obtain ⟨cl, cm, cn, -⟩ := hO.k1 28 rfl
 obtain ⟨dA, dB, -⟩ := hO.k0 29 rfl
 obtain ⟨co, cz, cp, cq, -⟩ := hO.k2 30 rfl
 have HO := Lib.hid hO
 clear hO
 go_wp2_with (first | (with_reducible refine Own.stay (fn := Tryd.f4) ?_) | (first | (go_at_call 19; go_in) | (go_at_call 23; go_in)))
 try with_reducible refine Own.Stay.mk ?_
 have hO := HO.out
 clear HO aC aF bQ bR aD aE aV aW ay aZ aA aB aO aa aP aQ az bA bS bG bT af ag aq ar bU aG aH au av bV bW aw ax bX bY bZ ba bb bc bd be bf bg bh bi bj bk bl bm bn bo bp bq br bs bt bu bv bw bx bz cA cB cC cD cE cF cG cH cI cJ cK cL cM cN cO cP cQ cR cS cT cU cV cW cX cY cZ ca cb cc cd ce cf cg ch ci cj ck cl cm cn dA dB co cz cp cq
 replace hO : Own w0 uw124 [row (nd126) 61 (full stmZ [vF 42 nd128, vI 5, vF 67 nd132, vI 5] nd127), row (nd128) 57 #[vS nd129 1 1, v8 0, bF, bF], row (nd129) 54 #[vF 134 nd130, vI 5, vF 315 nd131, vI 5], row (nd130) 136 #[vU 0, vU 2], row (nd132) 76 #[vP nd133, vP nd134, vS nd150 (0 + 1) (0 + 1 + nd151), vI 0, vI 5], row (nd134) 116 #[vS nd135 2 2, vI 0, vI 5], row (nd2) 252 nd157, row (nd136) 260 (full symZ (symL (bump (stF1 ([sy nm 0, sy (un nm) 0, sy ⟨#[95, 115, 116, 97, 99, 107]⟩ 1, sy ⟨#[95, 95, 117, 115, 105, 110, 103]⟩ 1]) 2 4) 4)) nd137), row (nd6) 107 nd158, ((nd7, .map (uA nd160) (uN nd160)) : Rw), row (nd9) 99 nd159, row (nd138) 31 (full refZ [vU 0, vU 1, vU 0, vU 2, vU 0, vU 4, vU 0, vU 5, vU 0, vU 6, vU 0, vU 8, vU 0, vU 8] nd139), row (nd140) 113 (full dsyZ [vU 0, vU 2, bF, vU 0, vU 4, bF, vU 0, vU 5, bF, vU 0, vU 6, bF, vU 0, vU 8, bF] nd141), row (nd150) 61 (full stmZ (stL (dtL (adS nd152 (fun _ => 0)) (lcS 5 lcB)) (List.range (0 + 1))) nd151), row (nd11) 57 #[vS nd12 1 1, v8 0, bF, bF], row (nd13) 136 #[vU 0, vU 1], row (nd148) 31 #[vU 0, vU 1], row (nd149) 72 #[vS nd126 2 (2 + nd127), nd156], row (nd152) 57 #[vS nd153 1 1, v8 2, bF, bF], row (nd153) 54 #[vF 134 nd154, vI 3, vF 261 nd142, vI 3], row (nd142) 266 #[vF 267 nd143, vI 3, vS nd145 3 (3 + nd147), vI 0, v8 0, v8 0, bF, bF], row (nd145) 52 (full expZ [vF 267 nd144, vI 3, vF 267 nd155, vI 3, vF 271 nd146, vI 3] nd147), row (nd144) 270 #[vU 0, vU 2, bF, bF, bF], row (nd146) 274 #[.bool true], row (nd12) 54 #[vF 134 nd13, vI 3, .nilIface, vI 0], row (nd154) 136 #[vU 0, vU 0], row (nd155) 270 #[vU 0, vU 1, bF, bF, bF], row (B119) 61 #[vF 110 nd149, vI 50], row (B122) 28 #[vI 5], row (nd118) 277 #[], row (B14) 31 #[vU 0, vU 0]] X := hO.conv (by rw [lc_none])
 rw [HC9.out]
 have hP9 := hO.pick [30, 0, 1, 2, 3, 6, 7, 8, 10, 11, 12, 14, 15, 17, 24, 27] dc
 exact tl431 nd2 nm nd6 nd9 nd11 nd12 nd13 B119 50 B14 nd126 nd127 nd128 nd129 nd130 nd131 nd132 nd136 nd137 nd138 nd139 nd140 nd141 nd149 nd156 nd157 nd158 nd159 w0 uw124 _ _ (fun w3 h3 => ⟨rfl, h3.weaken fun b o h => Or.inl h⟩) hP9 pr164 pr167 pr166
end Go.Proofs.YtikopplofkemlaaDoor.Use
namespace Go.Proofs.YtikopplofkemlaaDoor.Use
open Go.ChangeShapes Go.WideShapes Go.ChangeAt Go.RowKit Go.Sort Own
set_option linter.unusedVariables false
set_option maxRecDepth 100000 in
set_option maxHeartbeats 2000000 in
theorem law43w (nm : ByteArray) (sh nb : Int) (aw : Bool) (w : World) (hwf : (Lit.int .u8 sh).wf = true) (hg0 : w.cell? ⟨0, 0, none⟩ = some (vU 4294967295)) (hg1 : w.cell? ⟨0, 1, none⟩ = some (vU 4294967295)) : Calls Tryd.prog 4 #[.string nm, v8 sh, v6 nb, .bool aw] w fun e w' => e = .returned (.bool true) ∧ Below w.heap.size w w' := by
 by_cases hl : nm.size ≤ 1048576
 ·have hl9 : (nm.size : Int) ≤ 1048576 := by omega
  have hl8 : (0 : Int) ≤ (nm.size : Int) := by omega
  by_cases hm : nm.size ≤ 65536
  ·have hm9 : (nm.size : Int) ≤ 65536 := by omega
   by_cases hn0 : nb < 0
   ·go_enter Tryd.func4, Tryd.ntmps4
    go_wp2_with (first | (go_at_call 19; go_in))
    all_goals (go_ret; exact ⟨rfl, Below.refl _ _⟩)
   by_cases hn1 : (4096 : Int) < nb
   ·go_enter Tryd.func4, Tryd.ntmps4
    go_wp2_with (first | (go_at_call 19; go_in))
    all_goals (go_ret; exact ⟨rfl, Below.refl _ _⟩)
   have h9 := hwf
   simp only [Lit.wf, Bool.and_eq_true, decide_eq_true_eq] at h9
   have h10 : IntKind.u8.min = 0 := rfl
   obtain ⟨s, rfl⟩ : ∃ a : Nat, sh = (a : Int) := ⟨sh.toNat, by omega⟩
   obtain ⟨n, rfl⟩ : ∃ a : Nat, nb = (a : Int) := ⟨nb.toNat, by omega⟩
   have hn4 : n ≤ 4096 := by omega
   cases aw
   ·exact Calls.mono (law43h0 nm s n w w _ (Own.start w) hm hn4 hg0 hg1) fun e w' q => ⟨q.1, q.2.below⟩
   ·exact Calls.mono (law43h1 nm s n w w _ (Own.start w) hm hn4 hg0 hg1) fun e w' q => ⟨q.1, q.2.below⟩
  ·have hm9 : (65536 : Int) < (nm.size : Int) := by omega
   go_enter Tryd.func4, Tryd.ntmps4
   go_wp2_with (first | (go_at_call 19; go_in))
   all_goals (go_ret; exact ⟨rfl, Below.refl _ _⟩)
 ·have hl9 : (1048576 : Int) < (nm.size : Int) := by omega
  go_enter Tryd.func4, Tryd.ntmps4
  go_wp2_with (first | (go_at_call 19; go_in))
  all_goals (go_ret; exact ⟨rfl, Below.refl _ _⟩)

end Go.Proofs.YtikopplofkemlaaDoor.Use
