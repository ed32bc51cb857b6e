/- Row 46: the law, whole, in the range of its guards. No condition. -/
import Derived.Test.YtikopplofkemlaaDoorTl46
import Derived.Test.YtikopplofkemlaaDoorFo9
namespace Go.Proofs.YtikopplofkemlaaDoor.Use
open Go.ChangeShapes Go.WideShapes Go.ChangeAt Go.RowKit Go.Sort Own
set_option linter.unusedVariables false
def law46h1Post (nm : ByteArray) (sh n : Nat) (w0 : World) (X : Nat → Obj → Prop) (e : Ending) (w' : World) : Prop :=
 e = .returned (.bool true) ∧ Own w0 w' [] X
set_option maxRecDepth 100000 in
set_option maxHeartbeats 4000000 in
theorem law46h1 (nm : ByteArray) (sh n : Nat) (w0 w : World) (X : Nat → Obj → Prop) (hO : Own w0 w [] X) (hnm : nm.size ≤ 65536) (hn4 : n ≤ 4096) (hg0 : w0.cell? ⟨0, 0, none⟩ = some (vU 4294967295)) (hg1 : w0.cell? ⟨0, 1, none⟩ = some (vU 4294967295)) :
  Calls Tryd.prog 5 #[.string nm, .int .u8 (sh : Int), .int .i64 (n : Int), .bool true] w (law46h1Post nm sh n w0 X) := by
 go_enter Tryd.func5, Tryd.ntmps5
 obtain ⟨c9, hc9⟩ : ∃ c, c = rest46 := ⟨_, rfl⟩
 have HC9 := Lib.hid hc9
 simp only [rest46, Tryd.f5, Option.getD_some, cutC] at hc9
 rw [← hc9]
 clear hc9
 have hn9 : (n : Int) ≤ 4096 := by omega
 have hn8 : (0 : Int) ≤ (n : Int) := by omega
 have hnm9 : (nm.size : Int) ≤ 65536 := by omega
 have hnm8 : (0 : Int) ≤ (nm.size : Int) := by omega
 go_wp2_with (first | (with_reducible refine Own.stay (fn := Tryd.f5) ?_) | (first | (go_at_call 26; go_in)))
 try with_reducible refine Own.Stay.mk ?_
 obtain ⟨HL, HX⟩ := hid2 hO
 have hP9 := hO.pick [] (by decide)
 have T9 := setU1 nm _ _ _ hP9 hg0 hg1
 refine Calls.mono T9 ?_
 clear hP9 T9
 rintro e uw1 ⟨nd2, nd3, nd4, nd5, nd6, nd7, nd8, nd9, nd10, nd11, nd12, nd13, rfl, hQ⟩
 replace hO : Own w0 uw1 [row (nd2) 252 ((newPar nd3 nd9 nd10 nd6 nd8).setIfInBounds 106 (.slice (some ⟨nd4, 0, none⟩) 1 (1 + nd5))), row (nd4) 260 (full symZ (symL ([sy nm 0])) nd5), row (nd6) 107 #[vN, vN, vN, vN, .map (some nd7), .map none, .map none, vN, bF, bF, bF], ((nd7, .map (uA ([])) (uN ([]))) : Rw), ((nd8, .map #[] 0) : Rw), row (nd9) 99 #[.pointer none, vP nd10, vN, .map none, vN, vN, vI 0, vI 0, vU 0, vU 0, bF, bF, bF, bF, .int .u8 0, .int .u8 8], row (nd10) 99 #[.pointer none, .pointer none, vN, .map none, vN, vN, vI 0, vI 0, vU 0, vU 0, bF, bF, bF, bF, .int .u8 0, .int .u8 6], row (nd11) 57 #[.slice (some ⟨nd12, 0, none⟩) 1 1, .int .u8 4, bF, bF], row (nd12) 54 #[.iface 134 (vP nd13), vI 3, .nilIface, vI 0], row (nd13) 136 #[vU 0, vU 0]] X := hQ.back HL.out HX.out [] (by decide) (by decide)
 clear hQ HL HX
 obtain ⟨cn, co, cp, cq, cr, cs, -⟩ := hO.k4 7 rfl
 obtain ⟨ct, cu, cv, cw, cx, cy, -⟩ := hO.k4 8 rfl
 obtain ⟨cg, ch, ci, cj, -⟩ := hO.k2 9 rfl
 have HO := Lib.hid hO
 clear hO
 go_wp2_with (first | (with_reducible refine Own.stay (fn := Tryd.f5) ?_) | (first | (go_at_call 26; go_in)))
 try with_reducible refine Own.Stay.mk ?_
 have hO := HO.out
 clear HO cn co cp cq cr cs ct cu cv cw cx cy cg ch ci cj
 generalize hW : World.alloc _ _ = W15
 have hN : Own w0 W15 [row (uw1.heap.size) 31 #[vU 0, vU 0], row (nd2) 252 ((newPar nd3 nd9 nd10 nd6 nd8).setIfInBounds 106 (.slice (some ⟨nd4, 0, none⟩) 1 (1 + nd5))), row (nd4) 260 (full symZ (symL ([sy nm 0])) nd5), row (nd6) 107 #[vN, vN, vN, vN, .map (some nd7), .map none, .map none, vN, bF, bF, bF], ((nd7, .map (uA ([])) (uN ([]))) : Rw), ((nd8, .map #[] 0) : Rw), row (nd9) 99 #[.pointer none, vP nd10, vN, .map none, vN, vN, vI 0, vI 0, vU 0, vU 0, bF, bF, bF, bF, .int .u8 0, .int .u8 8], row (nd10) 99 #[.pointer none, .pointer none, vN, .map none, vN, vN, vI 0, vI 0, vU 0, vU 0, bF, bF, bF, bF, .int .u8 0, .int .u8 6], row (nd11) 57 #[.slice (some ⟨nd12, 0, none⟩) 1 1, .int .u8 4, bF, bF], row (nd12) 54 #[.iface 134 (vP nd13), vI 3, .nilIface, vI 0], row (nd13) 136 #[vU 0, vU 0]] X := by
  rw [← hW]
  exact (hO).alloc' _ (uw1.heap.size) (by simp)
 clear hW hO
 generalize uw1.heap.size = B14 at hN ⊢
 have hO := hN
 clear hN
 by_cases hs0 : sh % 3 = 0
 ·skip
  have T9 := bod0 (sh : Int) n W15 W15 (fun _ _ => False) (Own.start W15) (by
   have h9 : (sh : Int).tmod 3 = ((sh % 3 : Nat) : Int) := rfl
   rw [h9]
   omega) hn4
  refine Calls.mono T9 ?_
  clear T9
  rintro e uB ⟨kb, tb, wb, ad, rfl, hQ⟩
  obtain ⟨Yf, hYX, hYZ, hM⟩ := hO.meet hQ
  have HLB := Lib.hid (show ∀ i : Nat, i < n → Yf (ad i) (.cells #[vN, .int .u8 0, bF, bF] 57 (0, 0)) from fun i hi => hYZ _ _ (Or.inr ⟨i, hi, rfl, rfl, rfl⟩))
  have HYX := Lib.hid hYX
  clear hYX hYZ
  replace hO : Own w0 uB [row (kb) 72 #[.slice (some ⟨tb, 0, none⟩) n n, vI 0], row (tb) 61 (full stmZ (stL (dtL ad lcB) (List.range n)) 0), row (wb) 21 (full i32Z (tab wF n) 0), row (B14) 31 #[vU 0, vU 0], row (nd2) 252 ((newPar nd3 nd9 nd10 nd6 nd8).setIfInBounds 106 (.slice (some ⟨nd4, 0, none⟩) 1 (1 + nd5))), row (nd4) 260 (full symZ (symL ([sy nm 0])) nd5), row (nd6) 107 #[vN, vN, vN, vN, .map (some nd7), .map none, .map none, vN, bF, bF, bF], ((nd7, .map (uA ([])) (uN ([]))) : Rw), ((nd8, .map #[] 0) : Rw), row (nd9) 99 #[.pointer none, vP nd10, vN, .map none, vN, vN, vI 0, vI 0, vU 0, vU 0, bF, bF, bF, bF, .int .u8 0, .int .u8 8], row (nd10) 99 #[.pointer none, .pointer none, vN, .map none, vN, vN, vI 0, vI 0, vU 0, vU 0, bF, bF, bF, bF, .int .u8 0, .int .u8 6], row (nd11) 57 #[.slice (some ⟨nd12, 0, none⟩) 1 1, .int .u8 4, bF, bF], row (nd12) 54 #[.iface 134 (vP nd13), vI 3, .nilIface, vI 0], row (nd13) 136 #[vU 0, vU 0]] Yf := hM
  clear hQ hM
  obtain ⟨aJ, aK, aD, aE, -⟩ := hO.k2 0 rfl
  obtain ⟨aL, aM, aN, aO, -⟩ := hO.k2 3 rfl
  obtain ⟨aP, aQ, aY, aZ, aR, aS, -⟩ := hO.k4 11 rfl
  obtain ⟨aT, aU, al, am, aV, aW, -⟩ := hO.k4 12 rfl
  obtain ⟨an, ao, ap, aq, -⟩ := hO.k2 13 rfl
  have HO := Lib.hid hO
  clear hO
  go_wp2_with (first | (with_reducible refine Own.stay (fn := Tryd.f5) ?_) | (first | (go_at_call 26; go_in)))
  try with_reducible refine Own.Stay.mk ?_
  have hO := HO.out
  clear HO aJ aK aD aE aL aM aN aO aP aQ aY aZ aR aS aT aU al am aV aW an ao ap aq
  generalize hW : World.alloc _ _ = W17
  have hN : Own w0 W17 [row (uB.heap.size) 61 #[.iface 110 (vP kb), vI 50], row (kb) 72 #[.slice (some ⟨tb, 0, none⟩) n n, vI 0], row (tb) 61 (full stmZ (stL (dtL ad lcB) (List.range n)) 0), row (wb) 21 (full i32Z (tab wF n) 0), row (B14) 31 #[vU 0, vU 0], row (nd2) 252 ((newPar nd3 nd9 nd10 nd6 nd8).setIfInBounds 106 (.slice (some ⟨nd4, 0, none⟩) 1 (1 + nd5))), row (nd4) 260 (full symZ (symL ([sy nm 0])) nd5), row (nd6) 107 #[vN, vN, vN, vN, .map (some nd7), .map none, .map none, vN, bF, bF, bF], ((nd7, .map (uA ([])) (uN ([]))) : Rw), ((nd8, .map #[] 0) : Rw), row (nd9) 99 #[.pointer none, vP nd10, vN, .map none, vN, vN, vI 0, vI 0, vU 0, vU 0, bF, bF, bF, bF, .int .u8 0, .int .u8 8], row (nd10) 99 #[.pointer none, .pointer none, vN, .map none, vN, vN, vI 0, vI 0, vU 0, vU 0, bF, bF, bF, bF, .int .u8 0, .int .u8 6], row (nd11) 57 #[.slice (some ⟨nd12, 0, none⟩) 1 1, .int .u8 4, bF, bF], row (nd12) 54 #[.iface 134 (vP nd13), vI 3, .nilIface, vI 0], row (nd13) 136 #[vU 0, vU 0]] Yf := by
   rw [← hW]
   exact (hO).alloc' _ (uB.heap.size) (by simp)
  clear hW hO
  generalize uB.heap.size = B16 at hN ⊢
  have hO := hN
  clear hN
  obtain ⟨aJ, aK, aD, aE, -⟩ := hO.k2 0 rfl
  obtain ⟨aC, aF, aA, aB, -⟩ := hO.k2 1 rfl
  obtain ⟨aa, ab, ac, ae, -⟩ := hO.k2 4 rfl
  obtain ⟨aT, aU, al, am, aV, aW, -⟩ := hO.k4 12 rfl
  obtain ⟨an, ao, cz, dA, ap, aq, -⟩ := hO.k4 13 rfl
  obtain ⟨af, ag, ah, ai, -⟩ := hO.k2 14 rfl
  have HO := Lib.hid hO
  clear hO
  go_wp2_with (first | (with_reducible refine Own.stay (fn := Tryd.f5) ?_) | (first | (go_at_call 26; go_in) | (go_at_call 23; go_in)))
  try with_reducible refine Own.Stay.mk ?_
  have hO := HO.out
  clear HO aJ aK aD aE aC aF aA aB aa ab ac ae aT aU al am aV aW an ao cz dA ap aq af ag ah ai
  generalize hW : World.alloc _ _ = W19
  have hN : Own w0 W19 [row (W17.heap.size) 28 #[vI 5], row (B16) 61 #[.iface 110 (vP kb), vI 50], row (kb) 72 #[.slice (some ⟨tb, 0, none⟩) n n, vI 0], row (tb) 61 (full stmZ (stL (dtL ad lcB) (List.range n)) 0), row (wb) 21 (full i32Z (tab wF n) 0), row (B14) 31 #[vU 0, vU 0], row (nd2) 252 ((newPar nd3 nd9 nd10 nd6 nd8).setIfInBounds 106 (.slice (some ⟨nd4, 0, none⟩) 1 (1 + nd5))), row (nd4) 260 (full symZ (symL ([sy nm 0])) nd5), row (nd6) 107 #[vN, vN, vN, vN, .map (some nd7), .map none, .map none, vN, bF, bF, bF], ((nd7, .map (uA ([])) (uN ([]))) : Rw), ((nd8, .map #[] 0) : Rw), row (nd9) 99 #[.pointer none, vP nd10, vN, .map none, vN, vN, vI 0, vI 0, vU 0, vU 0, bF, bF, bF, bF, .int .u8 0, .int .u8 8], row (nd10) 99 #[.pointer none, .pointer none, vN, .map none, vN, vN, vI 0, vI 0, vU 0, vU 0, bF, bF, bF, bF, .int .u8 0, .int .u8 6], row (nd11) 57 #[.slice (some ⟨nd12, 0, none⟩) 1 1, .int .u8 4, bF, bF], row (nd12) 54 #[.iface 134 (vP nd13), vI 3, .nilIface, vI 0], row (nd13) 136 #[vU 0, vU 0]] Yf := by
   rw [← hW]
   exact (hO).alloc' _ (W17.heap.size) (by simp)
  clear hW hO
  generalize W17.heap.size = B18 at hN ⊢
  have hO := hN
  clear hN
  obtain ⟨HL, HX⟩ := hid2 hO
  have hP9 := hO.pick [6, 7, 10, 12, 8, 9, 11, 13, 14, 15, 1, 2, 3] (by decide)
  have h9_hg0 : w0.cell? ⟨0, 0, none⟩ = some (vU 4294967295) := (by first | assumption | omega | (simp; done) | (simp; omega))
  have h9_hg1 : w0.cell? ⟨0, 1, none⟩ = some (vU 4294967295) := (by first | assumption | omega | (simp; done) | (simp; omega))
  have T9 := fo01 nd2 ((newPar nd3 nd9 nd10 nd6 nd8).setIfInBounds 106 (.slice (some ⟨nd4, 0, none⟩) 1 (1 + nd5))) nd4 nd5 nm nd8 0 nd10 #[.pointer none, .pointer none, vN, .map none, vN, vN, vI 0, vI 0, vU 0, vU 0, bF, bF, bF, bF, .int .u8 0, .int .u8 6] nd6 #[vN, vN, vN, vN, .map (some nd7), .map none, .map none, vN, bF, bF, bF] nd7 nd9 #[.pointer none, vP nd10, vN, .map none, vN, vN, vI 0, vI 0, vU 0, vU 0, bF, bF, bF, bF, .int .u8 0, .int .u8 8] nd11 nd12 nd13 B16 5 3 nd10 50 kb tb n ad lcB _ _ _ hP9 (get_other (newPar_350 _ _ _ _ _) (by omega) _) (get_other (newPar_32 _ _ _ _ _) (by omega) _) (get_other (newPar_105 _ _ _ _ _) (by omega) _) (get_other (newPar_66 _ _ _ _ _) (by omega) _) (get_other (newPar_117 _ _ _ _ _) (by omega) _) (get_other (newPar_187 _ _ _ _ _) (by omega) _) (get_other (newPar_104 _ _ _ _ _) (by omega) _) (get_other (newPar_23 _ _ _ _ _) (by omega) _) (get_other (newPar_34 _ _ _ _ _) (by omega) _) (get_other (newPar_352 _ _ _ _ _) (by omega) _) (get_other (newPar_333 _ _ _ _ _) (by omega) _) (get_set (newPar_106 _ _ _ _ _) _) rfl rfl rfl rfl rfl rfl hnm hn4 (fun i hi => Or.inl (HLB.out i hi)) h9_hg0 h9_hg1
  refine Calls.mono T9 ?_
  clear hP9 T9 h9_hg0 h9_hg1
  rintro e uw20 ⟨nd21, nd22, nd23, nd24, nd25, nd26, nd27, nd28, nd29, nd30, nd31, nd32, nd33, nd34, nd35, nd36, nd37, nd38, nd39, nd40, nd41, nd42, nd43, nd44, nd45, nd46, nd47, nd48, nd49, nd50, nd51, nd52, nd53, nd54, nd55, nd56, rfl, pr57, pr58, pr59, pr60, pr61, pr62, pr63, hQ⟩
  replace hO : Own w0 uw20 [row (nd22) 61 (full stmZ [.iface 42 (vP nd24), vI 5, .iface 67 (vP nd28), vI 5] nd23), row (nd24) 57 #[.slice (some ⟨nd25, 0, none⟩) 1 1, .int .u8 0, bF, bF], row (nd25) 54 #[.iface 134 (vP nd26), vI 5, .iface 315 (vP nd27), vI 5], row (nd26) 136 #[vU 0, vU 2], row (nd28) 76 #[vP nd29, vP nd30, .slice (some ⟨nd46, 0, none⟩) (n + 1) (n + 1 + nd47), vI 0, vI 5], row (nd30) 116 #[.slice (some ⟨nd31, 0, none⟩) 2 2, vI 0, vI 5], row (nd2) 252 nd53, row (nd32) 260 (full symZ (symL (bump (stF1 ([sy nm 0, sy (un nm) 0, sy ⟨#[95, 115, 116, 97, 99, 107]⟩ 1, sy ⟨#[95, 95, 117, 115, 105, 110, 103]⟩ 1]) 2 4) 4)) nd33), row (nd6) 107 nd54, ((nd7, .map (uA nd56) (uN nd56)) : Rw), row (nd9) 99 nd55, row (nd34) 31 (full refZ [vU 0, vU 1, vU 0, vU 2, vU 0, vU 4, vU 0, vU 5, vU 0, vU 6, vU 0, vU 8, vU 0, vU 8] nd35), row (nd36) 113 (full dsyZ [vU 0, vU 2, bF, vU 0, vU 4, bF, vU 0, vU 5, bF, vU 0, vU 6, bF, vU 0, vU 8, bF] nd37), row (nd46) 61 (full stmZ (stL (dtL (adS nd48 ad) (lcS 5 lcB)) (List.range (n + 1))) nd47), row (nd11) 57 #[.slice (some ⟨nd12, 0, none⟩) 1 1, .int .u8 0, bF, bF], row (nd13) 136 #[vU 0, vU 1], row (nd44) 31 #[vU 0, vU 1], row (nd45) 72 #[.slice (some ⟨nd22, 0, none⟩) 2 (2 + nd23), nd52], row (nd48) 57 #[.slice (some ⟨nd49, 0, none⟩) 1 1, .int .u8 2, bF, bF], row (nd49) 54 #[.iface 134 (vP nd50), vI 3, .iface 261 (vP nd38), vI 3], row (nd38) 266 #[.iface 267 (vP nd39), vI 3, .slice (some ⟨nd41, 0, none⟩) 3 (3 + nd43), vI 0, .int .u8 0, .int .u8 0, bF, bF], row (nd41) 52 (full expZ [.iface 267 (vP nd40), vI 3, .iface 267 (vP nd51), vI 3, .iface 271 (vP nd42), vI 3] nd43), row (nd40) 270 #[vU 0, vU 2, bF, bF, bF], row (nd42) 274 #[.bool true], row (nd12) 54 #[.iface 134 (vP nd13), vI 3, .nilIface, vI 0], row (nd50) 136 #[vU 0, vU 0], row (nd51) 270 #[vU 0, vU 1, bF, bF, bF], row (B16) 61 #[.iface 110 (vP nd45), vI 50], row (B18) 28 #[vI 5], row (wb) 21 (full i32Z (tab wF n) 0), row (B14) 31 #[vU 0, vU 0]] Yf := hQ.back HL.out HX.out [0, 4, 5] (by decide) (by decide)
  clear hQ HL HX
  obtain ⟨aC, aF, aj, ak, aA, aB, -⟩ := hO.k4 1 rfl
  obtain ⟨aG, aX, ar, au, aH, aI, -⟩ := hO.k4 2 rfl
  obtain ⟨aL, aM, aN, aO, -⟩ := hO.k2 3 rfl
  obtain ⟨aa, ab, av, aw, ax, ac, ae, -⟩ := hO.k5 4 rfl
  obtain ⟨ay, az, bA, bB, bC, -⟩ := hO.k3 5 rfl
  obtain ⟨af, ag, bD, bE, ah, ai, -⟩ := hO.k4 14 rfl
  obtain ⟨bG, bH, bI, bJ, -⟩ := hO.k2 15 rfl
  obtain ⟨bK, bL, bM, bN, -⟩ := hO.k2 16 rfl
  obtain ⟨bO, bP, bQ, bR, -⟩ := hO.k2 17 rfl
  obtain ⟨bS, bT, bU, bV, bW, bX, -⟩ := hO.k4 18 rfl
  obtain ⟨bY, bZ, ba, bb, bc, bd, -⟩ := hO.k4 19 rfl
  obtain ⟨be, bf, bg, bh, bi, bj, bk, bl, bm, bn, -⟩ := hO.k8 20 rfl
  obtain ⟨bo, bp, bq, br, bs, bt, bu, -⟩ := hO.k5 22 rfl
  obtain ⟨bv, bw, bx, -⟩ := hO.k1 23 rfl
  obtain ⟨bz, cA, cB, cC, cD, cE, -⟩ := hO.k4 24 rfl
  obtain ⟨cF, cG, cH, cI, -⟩ := hO.k2 25 rfl
  obtain ⟨cJ, cK, cL, cM, cN, cO, cP, -⟩ := hO.k5 26 rfl
  obtain ⟨cQ, cR, cS, cT, -⟩ := hO.k2 27 rfl
  obtain ⟨cU, cV, cW, -⟩ := hO.k1 28 rfl
  obtain ⟨cX, ck, cY, cZ, -⟩ := hO.k2 30 rfl
  have HO := Lib.hid hO
  clear hO
  go_wp2_with (first | (with_reducible refine Own.stay (fn := Tryd.f5) ?_) | (first | (go_at_call 26; go_in) | (go_at_call 23; go_in)))
  try with_reducible refine Own.Stay.mk ?_
  have hO := HO.out
  clear HO aC aF aj ak aA aB aG aX ar au aH aI aL aM aN aO aa ab av aw ax ac ae ay az bA bB bC af ag bD bE ah ai bG bH bI bJ bK bL bM bN bO bP bQ bR bS bT bU bV bW bX bY bZ ba bb bc bd be bf bg bh bi bj bk bl bm bn bo bp bq br bs bt bu bv bw bx bz cA cB cC cD cE cF cG cH cI cJ cK cL cM cN cO cP cQ cR cS cT cU cV cW cX ck cY cZ
  replace hO : Own w0 uw20 [row (nd22) 61 (full stmZ [.iface 42 (vP nd24), vI 5, .iface 67 (vP nd28), vI 5] nd23), row (nd24) 57 #[.slice (some ⟨nd25, 0, none⟩) 1 1, .int .u8 0, bF, bF], row (nd25) 54 #[.iface 134 (vP nd26), vI 5, .iface 315 (vP nd27), vI 5], row (nd26) 136 #[vU 0, vU 2], row (nd28) 76 #[vP nd29, vP nd30, .slice (some ⟨nd46, 0, none⟩) (n + 1) (n + 1 + nd47), vI 0, vI 5], row (nd30) 116 #[.slice (some ⟨nd31, 0, none⟩) 2 2, vI 0, vI 5], row (nd2) 252 nd53, row (nd32) 260 (full symZ (symL (bump (stF1 ([sy nm 0, sy (un nm) 0, sy ⟨#[95, 115, 116, 97, 99, 107]⟩ 1, sy ⟨#[95, 95, 117, 115, 105, 110, 103]⟩ 1]) 2 4) 4)) nd33), row (nd6) 107 nd54, ((nd7, .map (uA nd56) (uN nd56)) : Rw), row (nd9) 99 nd55, row (nd34) 31 (full refZ [vU 0, vU 1, vU 0, vU 2, vU 0, vU 4, vU 0, vU 5, vU 0, vU 6, vU 0, vU 8, vU 0, vU 8] nd35), row (nd36) 113 (full dsyZ [vU 0, vU 2, bF, vU 0, vU 4, bF, vU 0, vU 5, bF, vU 0, vU 6, bF, vU 0, vU 8, bF] nd37), row (nd46) 61 (full stmZ (stL (dtL (adS nd48 ad) (lcS 5 lcB)) (List.range (n + 1))) nd47), row (nd11) 57 #[.slice (some ⟨nd12, 0, none⟩) 1 1, .int .u8 0, bF, bF], row (nd13) 136 #[vU 0, vU 1], row (nd44) 31 #[vU 0, vU 1], row (nd45) 72 #[.slice (some ⟨nd22, 0, none⟩) 2 (2 + nd23), nd52], row (nd48) 57 #[.slice (some ⟨nd49, 0, none⟩) 1 1, .int .u8 2, bF, bF], row (nd49) 54 #[.iface 134 (vP nd50), vI 3, .iface 261 (vP nd38), vI 3], row (nd38) 266 #[.iface 267 (vP nd39), vI 3, .slice (some ⟨nd41, 0, none⟩) 3 (3 + nd43), vI 0, .int .u8 0, .int .u8 0, bF, bF], row (nd41) 52 (full expZ [.iface 267 (vP nd40), vI 3, .iface 267 (vP nd51), vI 3, .iface 271 (vP nd42), vI 3] nd43), row (nd40) 270 #[vU 0, vU 2, bF, bF, bF], row (nd42) 274 #[.bool true], row (nd12) 54 #[.iface 134 (vP nd13), vI 3, .nilIface, vI 0], row (nd50) 136 #[vU 0, vU 0], row (nd51) 270 #[vU 0, vU 1, bF, bF, bF], row (B16) 61 #[.iface 110 (vP nd45), vI 50], row (B18) 28 #[vI 5], row (wb) 21 (full i32Z (tab wF n) 0), row (B14) 31 #[vU 0, vU 0]] Yf := hO
  rw [HC9.out]
  have hP9 := hO.pick [30, 0, 1, 2, 3, 4, 5, 6, 7, 13, 14, 15, 17, 18, 19, 20, 21, 22, 23, 24, 25, 26, 27] (by decide)
  exact tl461 nd2 nm 0 0 nd9 nd11 nd12 nd13 B16 50 n ad B14 nd21 nd22 nd23 nd24 nd25 nd26 nd27 nd28 nd29 nd30 nd31 nd32 nd33 nd34 nd35 nd36 nd37 nd38 nd39 nd40 nd41 nd42 nd43 nd44 nd45 nd46 nd47 nd48 nd49 nd50 nd51 nd52 nd53 nd54 nd55 nd56 (some ⟨wb, 0, none⟩) n (n : Int) _ _ _ _ _ _ _ _ _ _ _ _ _ _ _ _ _ _ _ _ _ _ _ _ _ _ _ _ _ _ _ _ _ _ _ _ _ _ _ _ _ _ _ _ _ _ _ _ _ _ _ _ _ _ _ _ _ _ _ _ _ _ _ _ _ _ _ _ _ _ _ _ _ _ _ _ _ _ _ _ _ _ _ _ _ _ _ _ _ _ _ _ _ _ _ _ _ _ _ _ _ _ _ _ _ _ _ _ _ _ _ _ _ _ _ _ _ _ _ _ _ _ _ _ _ _ _ _ _ _ _ _ _ _ _ _ _ _ _ _ _ _ _ _ _ _ _ _ _ _ _ _ _ _ _ _ _ _ _ _ _ _ _ _ _ _ _ _ _ _ _ _ _ _ _ _ _ _ _ _ _ _ _ _ _ _ _ _ _ _ _ _ _ _ _ _ _ _ _ _ _ _ _ _ _ _ _ _ _ _ _ _ _ _ _ _ _ _ _ _ _ _ _ _ _ _ _ _ _ _ _ _ _ _ _ _ _ _ _ _ _ _ _ _ _ _ _ _ _ _ _ _ _ _ _ _ _ _ _ _ _ _ _ _ _ _ _ _ _ _ _ _ _ _ _ _ _ _ _ _ _ _ _ _ _ _ _ _ _ _ _ _ _ _ _ _ _ _ _ _ _ _ _ _ _ _ _ _ _ _ _ _ _ _ _ _ _ _ _ _ _ _ _ _ _ _ _ _ _ _ _ _ _ _ _ _ _ _ _ _ _ _ _ _ _ _ _ _ _ _ _ _ _ _ _ w0 uw20 _ _ (fun w3 h3 => ⟨rfl, h3.weaken fun b o h => Or.inl (HYX.out b o h)⟩) hP9 pr60 hnm hn4 (fun _ => ⟨_, rfl, Or.inr ⟨29, by decide, rfl⟩⟩) (fun i hi => Or.inl (HLB.out i hi))
 by_cases hs1 : sh % 3 = 1
 ·skip
  obtain ⟨HL, HX⟩ := hid2 hO
  have hP9 := hO.pick [] (by decide)
  have h9_hsh : (sh : Int).tmod 3 = 1 := (by
   have h9 : (sh : Int).tmod 3 = ((sh % 3 : Nat) : Int) := rfl
   rw [h9]
   omega)
  have T9 := bod1 (sh : Int) (n : Int) _ _ _ hP9 h9_hsh
  refine Calls.mono T9 ?_
  clear hP9 T9 h9_hsh
  rintro e uw64 ⟨nd65, nd66, rfl, hQ⟩
  replace hO : Own w0 uw64 [row (nd65) 57 #[vN, .int .u8 0, bF, bF], row (nd66) 21 #[vI 100], row (B14) 31 #[vU 0, vU 0], row (nd2) 252 ((newPar nd3 nd9 nd10 nd6 nd8).setIfInBounds 106 (.slice (some ⟨nd4, 0, none⟩) 1 (1 + nd5))), row (nd4) 260 (full symZ (symL ([sy nm 0])) nd5), row (nd6) 107 #[vN, vN, vN, vN, .map (some nd7), .map none, .map none, vN, bF, bF, bF], ((nd7, .map (uA ([])) (uN ([]))) : Rw), ((nd8, .map #[] 0) : Rw), row (nd9) 99 #[.pointer none, vP nd10, vN, .map none, vN, vN, vI 0, vI 0, vU 0, vU 0, bF, bF, bF, bF, .int .u8 0, .int .u8 8], row (nd10) 99 #[.pointer none, .pointer none, vN, .map none, vN, vN, vI 0, vI 0, vU 0, vU 0, bF, bF, bF, bF, .int .u8 0, .int .u8 6], row (nd11) 57 #[.slice (some ⟨nd12, 0, none⟩) 1 1, .int .u8 4, bF, bF], row (nd12) 54 #[.iface 134 (vP nd13), vI 3, .nilIface, vI 0], row (nd13) 136 #[vU 0, vU 0]] X := hQ.back HL.out HX.out [0, 1, 2, 3, 4, 5, 6, 7, 8, 9, 10] (by decide) (by decide)
  clear hQ HL HX
  obtain ⟨aJ, aK, dB, dC, aD, aE, -⟩ := hO.k4 0 rfl
  obtain ⟨aC, aA, aB, -⟩ := hO.k1 1 rfl
  obtain ⟨aG, aX, aH, aI, -⟩ := hO.k2 2 rfl
  obtain ⟨ca, cb, cc, cd, ce, cf, -⟩ := hO.k4 10 rfl
  obtain ⟨aP, aQ, aY, aZ, aR, aS, -⟩ := hO.k4 11 rfl
  obtain ⟨aT, aU, aV, aW, -⟩ := hO.k2 12 rfl
  have HO := Lib.hid hO
  clear hO
  go_wp2_with (first | (with_reducible refine Own.stay (fn := Tryd.f5) ?_) | (first | (go_at_call 26; go_in)))
  try with_reducible refine Own.Stay.mk ?_
  have hO := HO.out
  clear HO aJ aK dB dC aD aE aC aA aB aG aX aH aI ca cb cc cd ce cf aP aQ aY aZ aR aS aT aU aV aW
  generalize hW : World.alloc _ _ = W68
  have hN : Own w0 W68 [row (uw64.heap.size) 61 #[.iface 42 (vP nd65), vI 100], row (nd65) 57 #[vN, .int .u8 0, bF, bF], row (nd66) 21 #[vI 100], row (B14) 31 #[vU 0, vU 0], row (nd2) 252 ((newPar nd3 nd9 nd10 nd6 nd8).setIfInBounds 106 (.slice (some ⟨nd4, 0, none⟩) 1 (1 + nd5))), row (nd4) 260 (full symZ (symL ([sy nm 0])) nd5), row (nd6) 107 #[vN, vN, vN, vN, .map (some nd7), .map none, .map none, vN, bF, bF, bF], ((nd7, .map (uA ([])) (uN ([]))) : Rw), ((nd8, .map #[] 0) : Rw), row (nd9) 99 #[.pointer none, vP nd10, vN, .map none, vN, vN, vI 0, vI 0, vU 0, vU 0, bF, bF, bF, bF, .int .u8 0, .int .u8 8], row (nd10) 99 #[.pointer none, .pointer none, vN, .map none, vN, vN, vI 0, vI 0, vU 0, vU 0, bF, bF, bF, bF, .int .u8 0, .int .u8 6], row (nd11) 57 #[.slice (some ⟨nd12, 0, none⟩) 1 1, .int .u8 4, bF, bF], row (nd12) 54 #[.iface 134 (vP nd13), vI 3, .nilIface, vI 0], row (nd13) 136 #[vU 0, vU 0]] X := by
   rw [← hW]
   exact (hO).alloc' _ (uw64.heap.size) (by simp)
  clear hW hO
  generalize uw64.heap.size = B67 at hN ⊢
  have hO := hN
  clear hN
  obtain ⟨aJ, aK, aD, aE, -⟩ := hO.k2 0 rfl
  obtain ⟨aC, aF, aj, ak, aA, aB, -⟩ := hO.k4 1 rfl
  obtain ⟨aG, aH, aI, -⟩ := hO.k1 2 rfl
  obtain ⟨aL, aM, aN, aO, -⟩ := hO.k2 3 rfl
  obtain ⟨aP, aQ, aY, aZ, aR, aS, -⟩ := hO.k4 11 rfl
  obtain ⟨aT, aU, al, am, aV, aW, -⟩ := hO.k4 12 rfl
  obtain ⟨an, ao, ap, aq, -⟩ := hO.k2 13 rfl
  have HO := Lib.hid hO
  clear hO
  go_wp2_with (first | (with_reducible refine Own.stay (fn := Tryd.f5) ?_) | (first | (go_at_call 26; go_in) | (go_at_call 23; go_in)))
  try with_reducible refine Own.Stay.mk ?_
  have hO := HO.out
  clear HO aJ aK aD aE aC aF aj ak aA aB aG aH aI aL aM aN aO aP aQ aY aZ aR aS aT aU al am aV aW an ao ap aq
  generalize hW : World.alloc _ _ = W70
  have hN : Own w0 W70 [row (W68.heap.size) 28 #[vI 5], row (B67) 61 #[.iface 42 (vP nd65), vI 100], row (nd65) 57 #[vN, .int .u8 0, bF, bF], row (nd66) 21 #[vI 100], row (B14) 31 #[vU 0, vU 0], row (nd2) 252 ((newPar nd3 nd9 nd10 nd6 nd8).setIfInBounds 106 (.slice (some ⟨nd4, 0, none⟩) 1 (1 + nd5))), row (nd4) 260 (full symZ (symL ([sy nm 0])) nd5), row (nd6) 107 #[vN, vN, vN, vN, .map (some nd7), .map none, .map none, vN, bF, bF, bF], ((nd7, .map (uA ([])) (uN ([]))) : Rw), ((nd8, .map #[] 0) : Rw), row (nd9) 99 #[.pointer none, vP nd10, vN, .map none, vN, vN, vI 0, vI 0, vU 0, vU 0, bF, bF, bF, bF, .int .u8 0, .int .u8 8], row (nd10) 99 #[.pointer none, .pointer none, vN, .map none, vN, vN, vI 0, vI 0, vU 0, vU 0, bF, bF, bF, bF, .int .u8 0, .int .u8 6], row (nd11) 57 #[.slice (some ⟨nd12, 0, none⟩) 1 1, .int .u8 4, bF, bF], row (nd12) 54 #[.iface 134 (vP nd13), vI 3, .nilIface, vI 0], row (nd13) 136 #[vU 0, vU 0]] X := by
   rw [← hW]
   exact (hO).alloc' _ (W68.heap.size) (by simp)
  clear hW hO
  generalize W68.heap.size = B69 at hN ⊢
  have hO := hN
  clear hN
  obtain ⟨HL, HX⟩ := hid2 hO
  have hP9 := hO.pick [5, 6, 9, 11, 7, 8, 10, 12, 13, 14, 1] (by decide)
  have h9_hg0 : w0.cell? ⟨0, 0, none⟩ = some (vU 4294967295) := (by first | assumption | omega | (simp; done) | (simp; omega))
  have h9_hg1 : w0.cell? ⟨0, 1, none⟩ = some (vU 4294967295) := (by first | assumption | omega | (simp; done) | (simp; omega))
  have T9 := fo11 nd2 ((newPar nd3 nd9 nd10 nd6 nd8).setIfInBounds 106 (.slice (some ⟨nd4, 0, none⟩) 1 (1 + nd5))) nd4 nd5 nm nd8 0 nd10 #[.pointer none, .pointer none, vN, .map none, vN, vN, vI 0, vI 0, vU 0, vU 0, bF, bF, bF, bF, .int .u8 0, .int .u8 6] nd6 #[vN, vN, vN, vN, .map (some nd7), .map none, .map none, vN, bF, bF, bF] nd7 nd9 #[.pointer none, vP nd10, vN, .map none, vN, vN, vI 0, vI 0, vU 0, vU 0, bF, bF, bF, bF, .int .u8 0, .int .u8 8] nd11 nd12 nd13 B67 5 3 nd10 100 nd65 _ _ _ hP9 (get_other (newPar_350 _ _ _ _ _) (by omega) _) (get_other (newPar_32 _ _ _ _ _) (by omega) _) (get_other (newPar_105 _ _ _ _ _) (by omega) _) (get_other (newPar_66 _ _ _ _ _) (by omega) _) (get_other (newPar_117 _ _ _ _ _) (by omega) _) (get_other (newPar_187 _ _ _ _ _) (by omega) _) (get_other (newPar_104 _ _ _ _ _) (by omega) _) (get_other (newPar_23 _ _ _ _ _) (by omega) _) (get_other (newPar_34 _ _ _ _ _) (by omega) _) (get_other (newPar_352 _ _ _ _ _) (by omega) _) (get_other (newPar_333 _ _ _ _ _) (by omega) _) (get_set (newPar_106 _ _ _ _ _) _) rfl rfl rfl rfl rfl rfl hnm (Or.inr ⟨2, by decide, rfl⟩) h9_hg0 h9_hg1
  refine Calls.mono T9 ?_
  clear hP9 T9 h9_hg0 h9_hg1
  rintro e uw71 ⟨nd72, nd73, nd74, nd75, nd76, nd77, nd78, nd79, nd80, nd81, nd82, nd83, nd84, nd85, nd86, nd87, nd88, nd89, nd90, nd91, nd92, nd93, nd94, nd95, nd96, nd97, nd98, nd99, nd100, nd101, nd102, nd103, nd104, nd105, nd106, nd107, rfl, pr108, pr109, pr110, pr111, pr112, pr113, pr114, hQ⟩
  replace hO : Own w0 uw71 [row (nd73) 61 (full stmZ [.iface 42 (vP nd75), vI 5, .iface 67 (vP nd79), vI 5] nd74), row (nd75) 57 #[.slice (some ⟨nd76, 0, none⟩) 1 1, .int .u8 0, bF, bF], row (nd76) 54 #[.iface 134 (vP nd77), vI 5, .iface 315 (vP nd78), vI 5], row (nd77) 136 #[vU 0, vU 2], row (nd79) 76 #[vP nd80, vP nd81, .slice (some ⟨nd97, 0, none⟩) (1 + 1) (1 + 1 + nd98), vI 0, vI 5], row (nd81) 116 #[.slice (some ⟨nd82, 0, none⟩) 2 2, vI 0, vI 5], row (nd2) 252 nd104, row (nd83) 260 (full symZ (symL (bump (stF1 ([sy nm 0, sy (un nm) 0, sy ⟨#[95, 115, 116, 97, 99, 107]⟩ 1, sy ⟨#[95, 95, 117, 115, 105, 110, 103]⟩ 1]) 2 4) 4)) nd84), row (nd6) 107 nd105, ((nd7, .map (uA nd107) (uN nd107)) : Rw), row (nd9) 99 nd106, row (nd85) 31 (full refZ [vU 0, vU 1, vU 0, vU 2, vU 0, vU 4, vU 0, vU 5, vU 0, vU 6, vU 0, vU 8, vU 0, vU 8] nd86), row (nd87) 113 (full dsyZ [vU 0, vU 2, bF, vU 0, vU 4, bF, vU 0, vU 5, bF, vU 0, vU 6, bF, vU 0, vU 8, bF] nd88), row (nd97) 61 (full stmZ (stL (dtL (adS nd99 (fun _ => nd65)) (lcS 5 (fun _ => 100))) (List.range (1 + 1))) nd98), row (nd11) 57 #[.slice (some ⟨nd12, 0, none⟩) 1 1, .int .u8 0, bF, bF], row (nd13) 136 #[vU 0, vU 1], row (nd95) 31 #[vU 0, vU 1], row (nd96) 72 #[.slice (some ⟨nd73, 0, none⟩) 2 (2 + nd74), nd103], row (nd99) 57 #[.slice (some ⟨nd100, 0, none⟩) 1 1, .int .u8 2, bF, bF], row (nd100) 54 #[.iface 134 (vP nd101), vI 3, .iface 261 (vP nd89), vI 3], row (nd89) 266 #[.iface 267 (vP nd90), vI 3, .slice (some ⟨nd92, 0, none⟩) 3 (3 + nd94), vI 0, .int .u8 0, .int .u8 0, bF, bF], row (nd92) 52 (full expZ [.iface 267 (vP nd91), vI 3, .iface 267 (vP nd102), vI 3, .iface 271 (vP nd93), vI 3] nd94), row (nd91) 270 #[vU 0, vU 2, bF, bF, bF], row (nd93) 274 #[.bool true], row (nd12) 54 #[.iface 134 (vP nd13), vI 3, .nilIface, vI 0], row (nd101) 136 #[vU 0, vU 0], row (nd102) 270 #[vU 0, vU 1, bF, bF, bF], row (B67) 61 #[.iface 110 (vP nd96), vI 100], row (B69) 28 #[vI 5], row (nd65) 57 #[vN, .int .u8 0, bF, bF], row (nd66) 21 #[vI 100], row (B14) 31 #[vU 0, vU 0]] X := hQ.back HL.out HX.out [0, 2, 3, 4] (by decide) (by decide)
  clear hQ HL HX
  obtain ⟨aC, aF, aj, ak, aA, aB, -⟩ := hO.k4 1 rfl
  obtain ⟨aG, aX, ar, au, aH, aI, -⟩ := hO.k4 2 rfl
  obtain ⟨aL, aM, aN, aO, -⟩ := hO.k2 3 rfl
  obtain ⟨aa, ab, av, aw, ax, ac, ae, -⟩ := hO.k5 4 rfl
  obtain ⟨ay, az, bA, bB, bC, -⟩ := hO.k3 5 rfl
  obtain ⟨af, ag, bD, bE, ah, ai, -⟩ := hO.k4 14 rfl
  obtain ⟨bG, bH, bI, bJ, -⟩ := hO.k2 15 rfl
  obtain ⟨bK, bL, bM, bN, -⟩ := hO.k2 16 rfl
  obtain ⟨bO, bP, bQ, bR, -⟩ := hO.k2 17 rfl
  obtain ⟨bS, bT, bU, bV, bW, bX, -⟩ := hO.k4 18 rfl
  obtain ⟨bY, bZ, ba, bb, bc, bd, -⟩ := hO.k4 19 rfl
  obtain ⟨be, bf, bg, bh, bi, bj, bk, bl, bm, bn, -⟩ := hO.k8 20 rfl
  obtain ⟨bo, bp, bq, br, bs, bt, bu, -⟩ := hO.k5 22 rfl
  obtain ⟨bv, bw, bx, -⟩ := hO.k1 23 rfl
  obtain ⟨bz, cA, cB, cC, cD, cE, -⟩ := hO.k4 24 rfl
  obtain ⟨cF, cG, cH, cI, -⟩ := hO.k2 25 rfl
  obtain ⟨cJ, cK, cL, cM, cN, cO, cP, -⟩ := hO.k5 26 rfl
  obtain ⟨cQ, cR, cS, cT, -⟩ := hO.k2 27 rfl
  obtain ⟨cU, cV, cW, -⟩ := hO.k1 28 rfl
  obtain ⟨dD, dE, dF, dG, cl, cm, -⟩ := hO.k4 29 rfl
  obtain ⟨cX, cY, cZ, -⟩ := hO.k1 30 rfl
  obtain ⟨dH, dI, dJ, dK, -⟩ := hO.k2 31 rfl
  have HO := Lib.hid hO
  clear hO
  go_wp2_with (first | (with_reducible refine Own.stay (fn := Tryd.f5) ?_) | (first | (go_at_call 26; go_in) | (go_at_call 23; go_in)))
  try with_reducible refine Own.Stay.mk ?_
  have hO := HO.out
  clear HO aC aF aj ak aA aB aG aX ar au aH aI aL aM aN aO aa ab av aw ax ac ae ay az bA bB bC af ag bD bE ah ai bG bH bI bJ bK bL bM bN bO bP bQ bR bS bT bU bV bW bX bY bZ ba bb bc bd be bf bg bh bi bj bk bl bm bn bo bp bq br bs bt bu bv bw bx bz cA cB cC cD cE cF cG cH cI cJ cK cL cM cN cO cP cQ cR cS cT cU cV cW dD dE dF dG cl cm cX cY cZ dH dI dJ dK
  replace hO : Own w0 uw71 [row (nd73) 61 (full stmZ [.iface 42 (vP nd75), vI 5, .iface 67 (vP nd79), vI 5] nd74), row (nd75) 57 #[.slice (some ⟨nd76, 0, none⟩) 1 1, .int .u8 0, bF, bF], row (nd76) 54 #[.iface 134 (vP nd77), vI 5, .iface 315 (vP nd78), vI 5], row (nd77) 136 #[vU 0, vU 2], row (nd79) 76 #[vP nd80, vP nd81, .slice (some ⟨nd97, 0, none⟩) (1 + 1) (1 + 1 + nd98), vI 0, vI 5], row (nd81) 116 #[.slice (some ⟨nd82, 0, none⟩) 2 2, vI 0, vI 5], row (nd2) 252 nd104, row (nd83) 260 (full symZ (symL (bump (stF1 ([sy nm 0, sy (un nm) 0, sy ⟨#[95, 115, 116, 97, 99, 107]⟩ 1, sy ⟨#[95, 95, 117, 115, 105, 110, 103]⟩ 1]) 2 4) 4)) nd84), row (nd6) 107 nd105, ((nd7, .map (uA nd107) (uN nd107)) : Rw), row (nd9) 99 nd106, row (nd85) 31 (full refZ [vU 0, vU 1, vU 0, vU 2, vU 0, vU 4, vU 0, vU 5, vU 0, vU 6, vU 0, vU 8, vU 0, vU 8] nd86), row (nd87) 113 (full dsyZ [vU 0, vU 2, bF, vU 0, vU 4, bF, vU 0, vU 5, bF, vU 0, vU 6, bF, vU 0, vU 8, bF] nd88), row (nd97) 61 (full stmZ (stL (dtL (adS nd99 (fun _ => nd65)) (lcS 5 lcB)) (List.range (1 + 1))) nd98), row (nd11) 57 #[.slice (some ⟨nd12, 0, none⟩) 1 1, .int .u8 0, bF, bF], row (nd13) 136 #[vU 0, vU 1], row (nd95) 31 #[vU 0, vU 1], row (nd96) 72 #[.slice (some ⟨nd73, 0, none⟩) 2 (2 + nd74), nd103], row (nd99) 57 #[.slice (some ⟨nd100, 0, none⟩) 1 1, .int .u8 2, bF, bF], row (nd100) 54 #[.iface 134 (vP nd101), vI 3, .iface 261 (vP nd89), vI 3], row (nd89) 266 #[.iface 267 (vP nd90), vI 3, .slice (some ⟨nd92, 0, none⟩) 3 (3 + nd94), vI 0, .int .u8 0, .int .u8 0, bF, bF], row (nd92) 52 (full expZ [.iface 267 (vP nd91), vI 3, .iface 267 (vP nd102), vI 3, .iface 271 (vP nd93), vI 3] nd94), row (nd91) 270 #[vU 0, vU 2, bF, bF, bF], row (nd93) 274 #[.bool true], row (nd12) 54 #[.iface 134 (vP nd13), vI 3, .nilIface, vI 0], row (nd101) 136 #[vU 0, vU 0], row (nd102) 270 #[vU 0, vU 1, bF, bF, bF], row (B67) 61 #[.iface 110 (vP nd96), vI 100], row (B69) 28 #[vI 5], row (nd65) 57 #[vN, .int .u8 0, bF, bF], row (nd66) 21 (full i32Z (tab wF 1) 0), row (B14) 31 #[vU 0, vU 0]] X := hO.conv (by rw [lc_one, wF_one])
  rw [HC9.out]
  have hP9 := hO.pick [31, 0, 1, 2, 3, 4, 5, 6, 7, 13, 14, 15, 17, 18, 19, 20, 21, 22, 23, 24, 25, 26, 27] (by decide)
  exact tl461 nd2 nm 0 0 nd9 nd11 nd12 nd13 B67 100 1 (fun _ => nd65) B14 nd72 nd73 nd74 nd75 nd76 nd77 nd78 nd79 nd80 nd81 nd82 nd83 nd84 nd85 nd86 nd87 nd88 nd89 nd90 nd91 nd92 nd93 nd94 nd95 nd96 nd97 nd98 nd99 nd100 nd101 nd102 nd103 nd104 nd105 nd106 nd107 (some ⟨nd66, 0, none⟩) 1 (n : Int) _ _ _ _ _ _ _ _ _ _ _ _ _ _ _ _ _ _ _ _ _ _ _ _ _ _ _ _ _ _ _ _ _ _ _ _ _ _ _ _ _ _ _ _ _ _ _ _ _ _ _ _ _ _ _ _ _ _ _ _ _ _ _ _ _ _ _ _ _ _ _ _ _ _ _ _ _ _ _ _ _ _ _ _ _ _ _ _ _ _ _ _ _ _ _ _ _ _ _ _ _ _ _ _ _ _ _ _ _ _ _ _ _ _ _ _ _ _ _ _ _ _ _ _ _ _ _ _ _ _ _ _ _ _ _ _ _ _ _ _ _ _ _ _ _ _ _ _ _ _ _ _ _ _ _ _ _ _ _ _ _ _ _ _ _ _ _ _ _ _ _ _ _ _ _ _ _ _ _ _ _ _ _ _ _ _ _ _ _ _ _ _ _ _ _ _ _ _ _ _ _ _ _ _ _ _ _ _ _ _ _ _ _ _ _ _ _ _ _ _ _ _ _ _ _ _ _ _ _ _ _ _ _ _ _ _ _ _ _ _ _ _ _ _ _ _ _ _ _ _ _ _ _ _ _ _ _ _ _ _ _ _ _ _ _ _ _ _ _ _ _ _ _ _ _ _ _ _ _ _ _ _ _ _ _ _ _ _ _ _ _ _ _ _ _ _ _ _ _ _ _ _ _ _ _ _ _ _ _ _ _ _ _ _ _ _ _ _ _ _ _ _ _ _ _ _ _ _ _ _ _ _ _ _ _ _ _ _ _ _ _ _ _ _ _ _ _ _ _ _ _ _ _ _ _ w0 uw71 _ _ (fun w3 h3 => ⟨rfl, h3.weaken fun b o h => Or.inl h⟩) hP9 pr111 hnm (by omega) (fun _ => ⟨_, rfl, Or.inr ⟨30, by decide, rfl⟩⟩) (fun i hi => by
   obtain rfl : i = 0 := by omega
   exact Or.inr ⟨29, by decide, rfl⟩)
 have hs2 : sh % 3 = 2 := by omega
 obtain ⟨HL, HX⟩ := hid2 hO
 have hP9 := hO.pick [] (by decide)
 have h9_hsh : (sh : Int).tmod 3 = 2 := (by
  have h9 : (sh : Int).tmod 3 = ((sh % 3 : Nat) : Int) := rfl
  rw [h9]
  omega)
 have T9 := bod2 (sh : Int) (n : Int) _ _ _ hP9 h9_hsh
 refine Calls.mono T9 ?_
 clear hP9 T9 h9_hsh
 rintro e uw115 ⟨nd116, rfl, hQ⟩
 replace hO : Own w0 uw115 [row (nd116) 277 #[], row (B14) 31 #[vU 0, vU 0], row (nd2) 252 ((newPar nd3 nd9 nd10 nd6 nd8).setIfInBounds 106 (.slice (some ⟨nd4, 0, none⟩) 1 (1 + nd5))), row (nd4) 260 (full symZ (symL ([sy nm 0])) nd5), row (nd6) 107 #[vN, vN, vN, vN, .map (some nd7), .map none, .map none, vN, bF, bF, bF], ((nd7, .map (uA ([])) (uN ([]))) : Rw), ((nd8, .map #[] 0) : Rw), row (nd9) 99 #[.pointer none, vP nd10, vN, .map none, vN, vN, vI 0, vI 0, vU 0, vU 0, bF, bF, bF, bF, .int .u8 0, .int .u8 8], row (nd10) 99 #[.pointer none, .pointer none, vN, .map none, vN, vN, vI 0, vI 0, vU 0, vU 0, bF, bF, bF, bF, .int .u8 0, .int .u8 6], row (nd11) 57 #[.slice (some ⟨nd12, 0, none⟩) 1 1, .int .u8 4, bF, bF], row (nd12) 54 #[.iface 134 (vP nd13), vI 3, .nilIface, vI 0], row (nd13) 136 #[vU 0, vU 0]] X := hQ.back HL.out HX.out [0, 1, 2, 3, 4, 5, 6, 7, 8, 9, 10] (by decide) (by decide)
 clear hQ HL HX
 obtain ⟨aD, aE, -⟩ := hO.k0 0 rfl
 obtain ⟨aC, aF, aA, aB, -⟩ := hO.k2 1 rfl
 obtain ⟨cg, ch, dL, dM, ci, cj, -⟩ := hO.k4 9 rfl
 obtain ⟨ca, cb, cc, cd, ce, cf, -⟩ := hO.k4 10 rfl
 obtain ⟨aP, aQ, aR, aS, -⟩ := hO.k2 11 rfl
 have HO := Lib.hid hO
 clear hO
 go_wp2_with (first | (with_reducible refine Own.stay (fn := Tryd.f5) ?_) | (first | (go_at_call 26; go_in)))
 try with_reducible refine Own.Stay.mk ?_
 have hO := HO.out
 clear HO aD aE aC aF aA aB cg ch dL dM ci cj ca cb cc cd ce cf aP aQ aR aS
 generalize hW : World.alloc _ _ = W118
 have hN : Own w0 W118 [row (uw115.heap.size) 61 #[.iface 275 (vP nd116), vI 50], row (nd116) 277 #[], row (B14) 31 #[vU 0, vU 0], row (nd2) 252 ((newPar nd3 nd9 nd10 nd6 nd8).setIfInBounds 106 (.slice (some ⟨nd4, 0, none⟩) 1 (1 + nd5))), row (nd4) 260 (full symZ (symL ([sy nm 0])) nd5), row (nd6) 107 #[vN, vN, vN, vN, .map (some nd7), .map none, .map none, vN, bF, bF, bF], ((nd7, .map (uA ([])) (uN ([]))) : Rw), ((nd8, .map #[] 0) : Rw), row (nd9) 99 #[.pointer none, vP nd10, vN, .map none, vN, vN, vI 0, vI 0, vU 0, vU 0, bF, bF, bF, bF, .int .u8 0, .int .u8 8], row (nd10) 99 #[.pointer none, .pointer none, vN, .map none, vN, vN, vI 0, vI 0, vU 0, vU 0, bF, bF, bF, bF, .int .u8 0, .int .u8 6], row (nd11) 57 #[.slice (some ⟨nd12, 0, none⟩) 1 1, .int .u8 4, bF, bF], row (nd12) 54 #[.iface 134 (vP nd13), vI 3, .nilIface, vI 0], row (nd13) 136 #[vU 0, vU 0]] X := by
  rw [← hW]
  exact (hO).alloc' _ (uw115.heap.size) (by simp)
 clear hW hO
 generalize uw115.heap.size = B117 at hN ⊢
 have hO := hN
 clear hN
 obtain ⟨aJ, aK, aD, aE, -⟩ := hO.k2 0 rfl
 obtain ⟨aA, aB, -⟩ := hO.k0 1 rfl
 obtain ⟨aG, aX, aH, aI, -⟩ := hO.k2 2 rfl
 obtain ⟨ca, cb, cc, cd, ce, cf, -⟩ := hO.k4 10 rfl
 obtain ⟨aP, aQ, aY, aZ, aR, aS, -⟩ := hO.k4 11 rfl
 obtain ⟨aT, aU, aV, aW, -⟩ := hO.k2 12 rfl
 have HO := Lib.hid hO
 clear hO
 go_wp2_with (first | (with_reducible refine Own.stay (fn := Tryd.f5) ?_) | (first | (go_at_call 26; go_in) | (go_at_call 23; go_in)))
 try with_reducible refine Own.Stay.mk ?_
 have hO := HO.out
 clear HO aJ aK aD aE aA aB aG aX aH aI ca cb cc cd ce cf aP aQ aY aZ aR aS aT aU aV aW
 generalize hW : World.alloc _ _ = W120
 have hN : Own w0 W120 [row (W118.heap.size) 28 #[vI 5], row (B117) 61 #[.iface 275 (vP nd116), vI 50], row (nd116) 277 #[], row (B14) 31 #[vU 0, vU 0], row (nd2) 252 ((newPar nd3 nd9 nd10 nd6 nd8).setIfInBounds 106 (.slice (some ⟨nd4, 0, none⟩) 1 (1 + nd5))), row (nd4) 260 (full symZ (symL ([sy nm 0])) nd5), row (nd6) 107 #[vN, vN, vN, vN, .map (some nd7), .map none, .map none, vN, bF, bF, bF], ((nd7, .map (uA ([])) (uN ([]))) : Rw), ((nd8, .map #[] 0) : Rw), row (nd9) 99 #[.pointer none, vP nd10, vN, .map none, vN, vN, vI 0, vI 0, vU 0, vU 0, bF, bF, bF, bF, .int .u8 0, .int .u8 8], row (nd10) 99 #[.pointer none, .pointer none, vN, .map none, vN, vN, vI 0, vI 0, vU 0, vU 0, bF, bF, bF, bF, .int .u8 0, .int .u8 6], row (nd11) 57 #[.slice (some ⟨nd12, 0, none⟩) 1 1, .int .u8 4, bF, bF], row (nd12) 54 #[.iface 134 (vP nd13), vI 3, .nilIface, vI 0], row (nd13) 136 #[vU 0, vU 0]] X := by
  rw [← hW]
  exact (hO).alloc' _ (W118.heap.size) (by simp)
 clear hW hO
 generalize W118.heap.size = B119 at hN ⊢
 have hO := hN
 clear hN
 obtain ⟨HL, HX⟩ := hid2 hO
 have hP9 := hO.pick [4, 5, 8, 10, 6, 7, 9, 11, 12, 13, 1] (by decide)
 have h9_hg0 : w0.cell? ⟨0, 0, none⟩ = some (vU 4294967295) := (by first | assumption | omega | (simp; done) | (simp; omega))
 have h9_hg1 : w0.cell? ⟨0, 1, none⟩ = some (vU 4294967295) := (by first | assumption | omega | (simp; done) | (simp; omega))
 have T9 := fo21 nd2 ((newPar nd3 nd9 nd10 nd6 nd8).setIfInBounds 106 (.slice (some ⟨nd4, 0, none⟩) 1 (1 + nd5))) nd4 nd5 nm nd8 0 nd10 #[.pointer none, .pointer none, vN, .map none, vN, vN, vI 0, vI 0, vU 0, vU 0, bF, bF, bF, bF, .int .u8 0, .int .u8 6] nd6 #[vN, vN, vN, vN, .map (some nd7), .map none, .map none, vN, bF, bF, bF] nd7 nd9 #[.pointer none, vP nd10, vN, .map none, vN, vN, vI 0, vI 0, vU 0, vU 0, bF, bF, bF, bF, .int .u8 0, .int .u8 8] nd11 nd12 nd13 B117 5 3 nd10 50 nd116 _ _ _ hP9 (get_other (newPar_350 _ _ _ _ _) (by omega) _) (get_other (newPar_32 _ _ _ _ _) (by omega) _) (get_other (newPar_105 _ _ _ _ _) (by omega) _) (get_other (newPar_66 _ _ _ _ _) (by omega) _) (get_other (newPar_117 _ _ _ _ _) (by omega) _) (get_other (newPar_187 _ _ _ _ _) (by omega) _) (get_other (newPar_104 _ _ _ _ _) (by omega) _) (get_other (newPar_23 _ _ _ _ _) (by omega) _) (get_other (newPar_34 _ _ _ _ _) (by omega) _) (get_other (newPar_352 _ _ _ _ _) (by omega) _) (get_other (newPar_333 _ _ _ _ _) (by omega) _) (get_set (newPar_106 _ _ _ _ _) _) rfl rfl rfl rfl rfl rfl hnm h9_hg0 h9_hg1
 refine Calls.mono T9 ?_
 clear hP9 T9 h9_hg0 h9_hg1
 rintro e uw121 ⟨nd122, nd123, nd124, nd125, nd126, nd127, nd128, nd129, nd130, nd131, nd132, nd133, nd134, nd135, nd136, nd137, nd138, nd139, nd140, nd141, nd142, nd143, nd144, nd145, nd146, nd147, nd148, nd149, nd150, nd151, nd152, nd153, nd154, nd155, nd156, nd157, rfl, pr158, pr159, pr160, pr161, pr162, pr163, pr164, hQ⟩
 replace hO : Own w0 uw121 [row (nd123) 61 (full stmZ [.iface 42 (vP nd125), vI 5, .iface 67 (vP nd129), vI 5] nd124), row (nd125) 57 #[.slice (some ⟨nd126, 0, none⟩) 1 1, .int .u8 0, bF, bF], row (nd126) 54 #[.iface 134 (vP nd127), vI 5, .iface 315 (vP nd128), vI 5], row (nd127) 136 #[vU 0, vU 2], row (nd129) 76 #[vP nd130, vP nd131, .slice (some ⟨nd147, 0, none⟩) (0 + 1) (0 + 1 + nd148), vI 0, vI 5], row (nd131) 116 #[.slice (some ⟨nd132, 0, none⟩) 2 2, vI 0, vI 5], row (nd2) 252 nd154, row (nd133) 260 (full symZ (symL (bump (stF1 ([sy nm 0, sy (un nm) 0, sy ⟨#[95, 115, 116, 97, 99, 107]⟩ 1, sy ⟨#[95, 95, 117, 115, 105, 110, 103]⟩ 1]) 2 4) 4)) nd134), row (nd6) 107 nd155, ((nd7, .map (uA nd157) (uN nd157)) : Rw), row (nd9) 99 nd156, row (nd135) 31 (full refZ [vU 0, vU 1, vU 0, vU 2, vU 0, vU 4, vU 0, vU 5, vU 0, vU 6, vU 0, vU 8, vU 0, vU 8] nd136), row (nd137) 113 (full dsyZ [vU 0, vU 2, bF, vU 0, vU 4, bF, vU 0, vU 5, bF, vU 0, vU 6, bF, vU 0, vU 8, bF] nd138), row (nd147) 61 (full stmZ (stL (dtL (adS nd149 (fun _ => 0)) (lcS 5 (fun _ => 0))) (List.range (0 + 1))) nd148), row (nd11) 57 #[.slice (some ⟨nd12, 0, none⟩) 1 1, .int .u8 0, bF, bF], row (nd13) 136 #[vU 0, vU 1], row (nd145) 31 #[vU 0, vU 1], row (nd146) 72 #[.slice (some ⟨nd123, 0, none⟩) 2 (2 + nd124), nd153], row (nd149) 57 #[.slice (some ⟨nd150, 0, none⟩) 1 1, .int .u8 2, bF, bF], row (nd150) 54 #[.iface 134 (vP nd151), vI 3, .iface 261 (vP nd139), vI 3], row (nd139) 266 #[.iface 267 (vP nd140), vI 3, .slice (some ⟨nd142, 0, none⟩) 3 (3 + nd144), vI 0, .int .u8 0, .int .u8 0, bF, bF], row (nd142) 52 (full expZ [.iface 267 (vP nd141), vI 3, .iface 267 (vP nd152), vI 3, .iface 271 (vP nd143), vI 3] nd144), row (nd141) 270 #[vU 0, vU 2, bF, bF, bF], row (nd143) 274 #[.bool true], row (nd12) 54 #[.iface 134 (vP nd13), vI 3, .nilIface, vI 0], row (nd151) 136 #[vU 0, vU 0], row (nd152) 270 #[vU 0, vU 1, bF, bF, bF], row (B117) 61 #[.iface 110 (vP nd146), vI 50], row (B119) 28 #[vI 5], row (nd116) 277 #[], row (B14) 31 #[vU 0, vU 0]] X := hQ.back HL.out HX.out [0, 2, 3] (by decide) (by decide)
 clear hQ HL HX
 obtain ⟨aC, aF, aj, ak, aA, aB, -⟩ := hO.k4 1 rfl
 obtain ⟨aG, aX, ar, au, aH, aI, -⟩ := hO.k4 2 rfl
 obtain ⟨aL, aM, aN, aO, -⟩ := hO.k2 3 rfl
 obtain ⟨aa, ab, av, aw, ax, ac, ae, -⟩ := hO.k5 4 rfl
 obtain ⟨ay, az, bA, bB, bC, -⟩ := hO.k3 5 rfl
 obtain ⟨af, ag, bD, bE, ah, ai, -⟩ := hO.k4 14 rfl
 obtain ⟨bG, bH, bI, bJ, -⟩ := hO.k2 15 rfl
 obtain ⟨bK, bL, bM, bN, -⟩ := hO.k2 16 rfl
 obtain ⟨bO, bP, bQ, bR, -⟩ := hO.k2 17 rfl
 obtain ⟨bS, bT, bU, bV, bW, bX, -⟩ := hO.k4 18 rfl
 obtain ⟨bY, bZ, ba, bb, bc, bd, -⟩ := hO.k4 19 rfl
 obtain ⟨be, bf, bg, bh, bi, bj, bk, bl, bm, bn, -⟩ := hO.k8 20 rfl
 obtain ⟨bo, bp, bq, br, bs, bt, bu, -⟩ := hO.k5 22 rfl
 obtain ⟨bv, bw, bx, -⟩ := hO.k1 23 rfl
 obtain ⟨bz, cA, cB, cC, cD, cE, -⟩ := hO.k4 24 rfl
 obtain ⟨cF, cG, cH, cI, -⟩ := hO.k2 25 rfl
 obtain ⟨cJ, cK, cL, cM, cN, cO, cP, -⟩ := hO.k5 26 rfl
 obtain ⟨cQ, cR, cS, cT, -⟩ := hO.k2 27 rfl
 obtain ⟨cU, cV, cW, -⟩ := hO.k1 28 rfl
 obtain ⟨cl, cm, -⟩ := hO.k0 29 rfl
 obtain ⟨cX, ck, cY, cZ, -⟩ := hO.k2 30 rfl
 have HO := Lib.hid hO
 clear hO
 go_wp2_with (first | (with_reducible refine Own.stay (fn := Tryd.f5) ?_) | (first | (go_at_call 26; go_in) | (go_at_call 23; go_in)))
 try with_reducible refine Own.Stay.mk ?_
 have hO := HO.out
 clear HO aC aF aj ak aA aB aG aX ar au aH aI aL aM aN aO aa ab av aw ax ac ae ay az bA bB bC af ag bD bE ah ai bG bH bI bJ bK bL bM bN bO bP bQ bR bS bT bU bV bW bX bY bZ ba bb bc bd be bf bg bh bi bj bk bl bm bn bo bp bq br bs bt bu bv bw bx bz cA cB cC cD cE cF cG cH cI cJ cK cL cM cN cO cP cQ cR cS cT cU cV cW cl cm cX ck cY cZ
 replace hO : Own w0 uw121 [row (nd123) 61 (full stmZ [.iface 42 (vP nd125), vI 5, .iface 67 (vP nd129), vI 5] nd124), row (nd125) 57 #[.slice (some ⟨nd126, 0, none⟩) 1 1, .int .u8 0, bF, bF], row (nd126) 54 #[.iface 134 (vP nd127), vI 5, .iface 315 (vP nd128), vI 5], row (nd127) 136 #[vU 0, vU 2], row (nd129) 76 #[vP nd130, vP nd131, .slice (some ⟨nd147, 0, none⟩) (0 + 1) (0 + 1 + nd148), vI 0, vI 5], row (nd131) 116 #[.slice (some ⟨nd132, 0, none⟩) 2 2, vI 0, vI 5], row (nd2) 252 nd154, row (nd133) 260 (full symZ (symL (bump (stF1 ([sy nm 0, sy (un nm) 0, sy ⟨#[95, 115, 116, 97, 99, 107]⟩ 1, sy ⟨#[95, 95, 117, 115, 105, 110, 103]⟩ 1]) 2 4) 4)) nd134), row (nd6) 107 nd155, ((nd7, .map (uA nd157) (uN nd157)) : Rw), row (nd9) 99 nd156, row (nd135) 31 (full refZ [vU 0, vU 1, vU 0, vU 2, vU 0, vU 4, vU 0, vU 5, vU 0, vU 6, vU 0, vU 8, vU 0, vU 8] nd136), row (nd137) 113 (full dsyZ [vU 0, vU 2, bF, vU 0, vU 4, bF, vU 0, vU 5, bF, vU 0, vU 6, bF, vU 0, vU 8, bF] nd138), row (nd147) 61 (full stmZ (stL (dtL (adS nd149 (fun _ => 0)) (lcS 5 lcB)) (List.range (0 + 1))) nd148), row (nd11) 57 #[.slice (some ⟨nd12, 0, none⟩) 1 1, .int .u8 0, bF, bF], row (nd13) 136 #[vU 0, vU 1], row (nd145) 31 #[vU 0, vU 1], row (nd146) 72 #[.slice (some ⟨nd123, 0, none⟩) 2 (2 + nd124), nd153], row (nd149) 57 #[.slice (some ⟨nd150, 0, none⟩) 1 1, .int .u8 2, bF, bF], row (nd150) 54 #[.iface 134 (vP nd151), vI 3, .iface 261 (vP nd139), vI 3], row (nd139) 266 #[.iface 267 (vP nd140), vI 3, .slice (some ⟨nd142, 0, none⟩) 3 (3 + nd144), vI 0, .int .u8 0, .int .u8 0, bF, bF], row (nd142) 52 (full expZ [.iface 267 (vP nd141), vI 3, .iface 267 (vP nd152), vI 3, .iface 271 (vP nd143), vI 3] nd144), row (nd141) 270 #[vU 0, vU 2, bF, bF, bF], row (nd143) 274 #[.bool true], row (nd12) 54 #[.iface 134 (vP nd13), vI 3, .nilIface, vI 0], row (nd151) 136 #[vU 0, vU 0], row (nd152) 270 #[vU 0, vU 1, bF, bF, bF], row (B117) 61 #[.iface 110 (vP nd146), vI 50], row (B119) 28 #[vI 5], row (nd116) 277 #[], row (B14) 31 #[vU 0, vU 0]] X := hO.conv (by rw [lc_none])
 rw [HC9.out]
 have hP9 := hO.pick [30, 0, 1, 2, 3, 4, 5, 6, 7, 13, 14, 15, 17, 18, 19, 20, 21, 22, 23, 24, 25, 26, 27] (by decide)
 exact tl461 nd2 nm 0 0 nd9 nd11 nd12 nd13 B117 50 0 (fun _ => 0) B14 nd122 nd123 nd124 nd125 nd126 nd127 nd128 nd129 nd130 nd131 nd132 nd133 nd134 nd135 nd136 nd137 nd138 nd139 nd140 nd141 nd142 nd143 nd144 nd145 nd146 nd147 nd148 nd149 nd150 nd151 nd152 nd153 nd154 nd155 nd156 nd157 none 0 (n : Int) _ _ _ _ _ _ _ _ _ _ _ _ _ _ _ _ _ _ _ _ _ _ _ _ _ _ _ _ _ _ _ _ _ _ _ _ _ _ _ _ _ _ _ _ _ _ _ _ _ _ _ _ _ _ _ _ _ _ _ _ _ _ _ _ _ _ _ _ _ _ _ _ _ _ _ _ _ _ _ _ _ _ _ _ _ _ _ _ _ _ _ _ _ _ _ _ _ _ _ _ _ _ _ _ _ _ _ _ _ _ _ _ _ _ _ _ _ _ _ _ _ _ _ _ _ _ _ _ _ _ _ _ _ _ _ _ _ _ _ _ _ _ _ _ _ _ _ _ _ _ _ _ _ _ _ _ _ _ _ _ _ _ _ _ _ _ _ _ _ _ _ _ _ _ _ _ _ _ _ _ _ _ _ _ _ _ _ _ _ _ _ _ _ _ _ _ _ _ _ _ _ _ _ _ _ _ _ _ _ _ _ _ _ _ _ _ _ _ _ _ _ _ _ _ _ _ _ _ _ _ _ _ _ _ _ _ _ _ _ _ _ _ _ _ _ _ _ _ _ _ _ _ _ _ _ _ _ _ _ _ _ _ _ _ _ _ _ _ _ _ _ _ _ _ _ _ _ _ _ _ _ _ _ _ _ _ _ _ _ _ _ _ _ _ _ _ _ _ _ _ _ _ _ _ _ _ _ _ _ _ _ _ _ _ _ _ _ _ _ _ _ _ _ _ _ _ _ _ _ _ _ _ _ _ _ _ _ _ _ _ _ _ _ _ _ _ _ _ _ _ _ _ _ _ _ w0 uw121 _ _ (fun w3 h3 => ⟨rfl, h3.weaken fun b o h => Or.inl h⟩) hP9 pr161 hnm (by omega) (fun h => absurd h (Nat.lt_irrefl 0)) (fun i hi => absurd hi (Nat.not_lt_zero i))
end Go.Proofs.YtikopplofkemlaaDoor.Use
