/- The for-of loop, from its context on. No condition. -/
import Derived.Test.YtikopplofkemlaaDoorFiny11
import Derived.Test.YtikopplofkemlaaDoorScnk1
namespace Go.Proofs.YtikopplofkemlaaDoor.Use
open Go.ChangeShapes Go.WideShapes Go.ChangeAt Go.RowKit Go.Sort Own
set_option linter.unusedVariables false

set_option maxRecDepth 100000 in
set_option maxHeartbeats 4000000 in
theorem ru1 (pb : Nat) (PC : Array Value) (sb c : Nat) (nm : ByteArray) (mp k ms : Nat) (MC : Array Value) (pt : Nat) (QC : Array Value) (mu cs : Nat) (KC : Array Value) (qp gb cg ini dbx ib tr kb : Nat) (bv clv : Value) (tb tc m : Nat) (ad : Nat → Nat) (lc : Nat → Int) (nl : Nat) (l0 : Int) (nd : Nat) (l3 : Int) (ni ne : Nat) {A0 A1 A2 A3 A4 A5 A6 A7 A8 A9 AA AB AC AD AE AF AG AH AI AJ AK AL AM AN AO AP AQ AR AS AT AU AV AW AX AY AZ B0 B1 B2 B3 B5 B6 B7 B8 B9 BA BB BC BD BE BF BG BH BI BJ BK BL BM BN BO BP BQ BR BS BT BU BV BW BX BY BZ C0 C1 C2 C3 C4 C5 C6 C7 C8 C9 CA CB CC CD CE CF CG CH CI CJ CK CL CM CN CO CP CQ CR CS CT CU CV CW CX CY CZ E0 E1 E2 E3 E4 E5 E6 E7 E8 E9 EA EB EC ED EE EF EG EH EI EJ EK EL EM EN EO EP EQ ER ES ET EU EV EW EX EY EZ F0 F1 F2 F3 F4 F5 F6 F7 : Value} (w0 w : World) (X : Nat → Obj → Prop) (Post : Ending → World → Prop) (hP : ∀ (cx qb qc lb ld li la yb yc yf fb sb2 c2 gb2 cg2 db cd ca b a0 ab a2 ac : Nat) (PC2 QC2 KC2 : Array Value) (ul2 : List (Int × Int × Int)) (w2 : World), PC2[350]? = some (bF) → PC2[32]? = some (bF) → PC2[105]? = some (vP pt) → PC2[106]? = some (vS sb2 9 (9 + c2)) → QC2[4]? = some (.map (some mu)) → QC2[3]? = some (vS db 5 (5 + cd)) → KC2[5]? = some (vS gb2 7 (7 + cg2)) → Own w0 w2 [row (qb) 61 (full stmZ [vF 42 lb, vI l0, vF 67 yb, vI l0] qc), row (lb) 57 #[vS ld 1 1, v8 0, bF, bF], row (ld) 54 #[vF 134 li, vI l0, vF 315 la, vI l0], row (li) 136 #[vU 0, vU 2], row (yb) 76 #[vP yc, vP yf, vS tb (m + 1) (m + 1 + tc), vI 0, vI l0], row (yf) 116 #[vS fb 2 2, vI 0, vI l0], row (pb) 252 PC2, row (sb2) 260 (full symZ (symL (bump (stF1 ([sy nm 0, sy (un nm) 0, sy ⟨#[95, 115, 116, 97, 99, 107]⟩ 1, sy ⟨#[95, 95, 117, 115, 105, 110, 103]⟩ 1]) 2 4) 4)) c2), row (pt) 107 QC2, ((mu, .map (uA ul2) (uN ul2)) : Rw), row (cs) 99 KC2, row (gb2) 31 (full refZ ([vU 0, vU 1, vU 0, vU 2, vU 0, vU 4, vU 0, vU 5, vU 0, vU 6, vU 0, vU 8, vU 0, vU 8]) cg2), row (db) 113 (full dsyZ [vU 0, vU 2, bF, vU 0, vU 4, bF, vU 0, vU 5, bF, vU 0, vU 6, bF, vU 0, vU 8, bF] cd), row (tb) 61 (full stmZ (stL (dtL ad lc) (List.range (m + 1))) tc), row (ini) 57 #[vS dbx 1 1, v8 0, bF, bF], row (ib) 136 #[vU 0, vU 1], row (tr) 31 #[vU 0, vU 1], row (kb) 72 #[vS qb 2 (2 + qc), clv], row (nl) 57 #[vS nd 1 1, v8 2, bF, bF], row (nd) 54 #[vF 134 ni, vI l3, vF 261 ca, vI l3], row (ca) 266 #[vF 267 b, vI l3, vS ab 3 (3 + ac), vI 0, v8 0, v8 0, bF, bF], row (ab) 52 (full expZ [vF 267 a0, vI l3, vF 267 ne, vI l3, vF 271 a2, vI l3] ac), row (a0) 270 #[vU 0, vU 2, bF, bF, bF], row (a2) 274 #[.bool true]] X → Post (.returned (.tuple #[])) w2) (hO : Own w0 w [row (pb) 252 PC, row (sb) 260 (full symZ (symL [sy nm 0, sy (un nm) 0]) c), ((mp, .map #[] k) : Rw), row (ms) 99 MC, row (pt) 107 QC, ((mu, .map (uA ([])) (uN ([]))) : Rw), row (cs) 99 KC, row (gb) 31 (full refZ [vU 0, vU 1] cg), row (ini) 57 #[vS dbx 1 1, v8 4, bF, bF], row (ib) 136 #[vU 0, vU 0], row (tr) 31 #[vU 0, vU 1], row (kb) 72 #[bv, clv], row (tb) 61 (full stmZ (stL (dtL ad lc) (List.range (m + 1))) tc), row (nl) 57 #[vS nd 1 1, v8 4, bF, bF], row (nd) 54 #[vF 134 ni, vI l3, vF 267 ne, vI l3]] X) (hk350 : PC[350]? = some (bF)) (hk32 : PC[32]? = some (bF)) (hk105 : PC[105]? = some (vP pt)) (hk66 : PC[66]? = some (vU 0)) (hk117 : PC[117]? = some (.map (some mp))) (hk187 : PC[187]? = some (vP ms)) (hk104 : PC[104]? = some (vP cs)) (hk23 : PC[23]? = some (.int .u64 0)) (hk34 : PC[34]? = some (v8 0)) (hk352 : PC[352]? = some (bF)) (hk333 : PC[333]? = some (bF)) (hk106 : PC[106]? = some (vS sb 2 (2 + c))) (hsu : QC[4]? = some (.map (some mu))) (hds : QC[3]? = some (vN)) (hkind : KC[15]? = some (v8 8)) (hpar : KC[1]? = some (vP qp)) (hgen : MC[5]? = some (vN)) (hcg : KC[5]? = some (vS gb 1 (1 + cg))) (hm : m ≤ 4096) (had : ad 0 = nl) (hlc : lc 0 = l0) (hloc : ∀ i : Nat, 0 < i → i < m + 1 → X (ad i) (.cells #[vN, v8 0, bF, bF] 57 (0, 0))) (hg0 : w0.cell? ⟨0, 0, none⟩ = some (vU 4294967295)) (hg1 : w0.cell? ⟨0, 1, none⟩ = some (vU 4294967295)) :
  Code.wp Tryd.prog restU (bodyPost Tryd.prog Tryd.f41 Post) ⟨#[vP pb, A0, vP ini, A1, A2, A3, A4, A5, A6, vP ib, vP tr, vP kb, A7, A8, A9, vS tb (m + 1) (m + 1 + tc), AA, AB, AC, AD, AE, AF, AG, AH, AI, AJ, AK, AL, AM, AN, AO, AP, AQ, AR, AS, AT, AU, AV, AW, AX, AY, AZ, B0, B1, B2, B3, B5, B6, B7, B8, B9, BA, BB, BC, BD, BE, BF, BG, BH, BI, BJ, BK, BL, BM, BN, BO, BP, BQ, BR, BS, BT, BU, BV, BW, BX, BY, BZ, C0, C1, C2, C3, C4, C5, C6, C7, C8, C9, CA, CB, CC, CD, CE, CF, CG, CH, CI, CJ, CK, CL, CM, CN, CO, CP, CQ, CR, CS, CT, CU, CV, CW, CX, CY, CZ, E0, E1, E2, E3, E4, E5, E6, E7, E8, E9, EA, EB, EC, ED, EE, EF, EG, EH, EI, EJ, EK, EL, EM, EN, EO, EP, EQ, ER, ES, ET, EU, EV, EW, EX, EY, EZ, F0, F1, F2, F3, F4, F5, F6, F7], []⟩ w := by
 have HP := Lib.hid hP
 clear hP
 have HLC := Lib.hid hloc
 clear hloc
 simp only [restU, Tryd.f41, Option.getD_some, cutC]
 obtain ⟨aY, aO, aZ, aP, aA, aB, -⟩ := hO.k4 8 rfl
 obtain ⟨aa, ae, af, ag, -⟩ := hO.k2 9 rfl
 obtain ⟨aQ, aR, aC, aD, -⟩ := hO.k2 10 rfl
 obtain ⟨aE, aF, aG, aH, -⟩ := hO.k2 11 rfl
 obtain ⟨aS, aT, aU, aV, aW, aX, -⟩ := hO.k4 13 rfl
 obtain ⟨aI, aJ, aK, aL, aM, aN, -⟩ := hO.k4 14 rfl
 have HO := Lib.hid hO
 clear hO
 go_wp2_with (first | (with_reducible refine Own.stay (fn := Tryd.f41) ?_) | fail)
 try with_reducible refine Own.Stay.mk ?_
 have hO := HO.out
 clear HO aY aO aZ aP aA aB aa ae af ag aQ aR aC aD aE aF aG aH aS aT aU aV aW aX aI aJ aK aL aM aN
 obtain ⟨HL, HX⟩ := hid2 hO
 have hP9 := hO.pick [0, 1] dc
 have h9_hn : ([sy nm 0, sy (un nm) 0]).length = 2 := rfl
 have h9_hnb : 2 ≤ 1000000 := (by omega)
 have T9 := newCtxI pb PC sb c ([sy nm 0, sy (un nm) 0]) 2 0 _ _ _ hP9 hk66 hk32 hk106 h9_hn h9_hnb hg0 hg1
 refine Calls.mono T9 ?_
 clear hP9 T9 h9_hn h9_hnb
 rintro e uw1 ⟨nd2, nd3, rfl, hQ⟩
 replace hO : Own w0 uw1 [row (pb) 252 (PC.setIfInBounds 106 (vS nd2 (2 + 1) (2 + 1 + nd3))), row (nd2) 260 (full symZ (symL ([sy nm 0, sy (un nm) 0, sy ⟨#[95, 115, 116, 97, 99, 107]⟩ 0])) nd3), ((mp, .map #[] k) : Rw), row (ms) 99 MC, row (pt) 107 QC, ((mu, .map (uA ([])) (uN ([]))) : Rw), row (cs) 99 KC, row (gb) 31 (full refZ [vU 0, vU 1] cg), row (ini) 57 #[vS dbx 1 1, v8 4, bF, bF], row (ib) 136 #[vU 0, vU 0], row (tr) 31 #[vU 0, vU 1], row (kb) 72 #[bv, clv], row (tb) 61 (full stmZ (stL (dtL ad lc) (List.range (m + 1))) tc), row (nl) 57 #[vS nd 1 1, v8 4, bF, bF], row (nd) 54 #[vF 134 ni, vI l3, vF 267 ne, vI l3]] X := hQ.back HL.out HX.out [2, 3, 4, 5, 6, 7, 8, 9, 10, 11, 12, 13, 14] dc dc
 clear hQ HL HX
 obtain ⟨aY, aO, aZ, aP, aA, aB, -⟩ := hO.k4 8 rfl
 obtain ⟨aa, ae, af, ag, -⟩ := hO.k2 9 rfl
 obtain ⟨aQ, aR, aC, aD, -⟩ := hO.k2 10 rfl
 obtain ⟨aE, aF, aG, aH, -⟩ := hO.k2 11 rfl
 obtain ⟨aS, aT, aU, aV, aW, aX, -⟩ := hO.k4 13 rfl
 obtain ⟨aI, aJ, aK, aL, aM, aN, -⟩ := hO.k4 14 rfl
 have HO := Lib.hid hO
 clear hO
 go_wp2_with (first | (with_reducible refine Own.stay (fn := Tryd.f41) ?_) | fail)
 try with_reducible refine Own.Stay.mk ?_
 have hO := HO.out
 clear HO aY aO aZ aP aA aB aa ae af ag aQ aR aC aD aE aF aG aH aS aT aU aV aW aX aI aJ aK aL aM aN
 generalize hW : World.alloc _ _ = W5
 have hN : Own w0 W5 [row (uw1.heap.size) 33 #[vI 0, vU 0, vU 2, bF], row (pb) 252 (PC.setIfInBounds 106 (vS nd2 (2 + 1) (2 + 1 + nd3))), row (nd2) 260 (full symZ (symL ([sy nm 0, sy (un nm) 0, sy ⟨#[95, 115, 116, 97, 99, 107]⟩ 0])) nd3), ((mp, .map #[] k) : Rw), row (ms) 99 MC, row (pt) 107 QC, ((mu, .map (uA ([])) (uN ([]))) : Rw), row (cs) 99 KC, row (gb) 31 (full refZ [vU 0, vU 1] cg), row (ini) 57 #[vS dbx 1 1, v8 4, bF, bF], row (ib) 136 #[vU 0, vU 0], row (tr) 31 #[vU 0, vU 1], row (kb) 72 #[bv, clv], row (tb) 61 (full stmZ (stL (dtL ad lc) (List.range (m + 1))) tc), row (nl) 57 #[vS nd 1 1, v8 4, bF, bF], row (nd) 54 #[vF 134 ni, vI l3, vF 267 ne, vI l3]] X := by
  rw [← hW]
  exact (hO).alloc' _ (uw1.heap.size) (by simp)
 clear hW hO
 generalize uw1.heap.size = B4 at hN ⊢
 have hO := hN
 clear hN
 obtain ⟨HL, HX⟩ := hid2 hO
 have hP9 := hO.pick [0, 1, 2, 3, 4, 5, 6, 7, 13, 14, 15] dc
 have h9_hn : ([sy nm 0, sy (un nm) 0, sy ⟨#[95, 115, 116, 97, 99, 107]⟩ 0]).length = (2 + 1) := rfl
 have h9_hnb : (2 + 1) ≤ 100000 := (by omega)
 have h9_hsi : 2 < (2 + 1) := (by omega)
 have h9_hno : Instr.findNow .string (.string ⟨#[95, 95, 117, 115, 105, 110, 103]⟩) (#[] : Array MapEntry).toList 0 = some none := (by rfl)
 have T9 := scnK1 pb (PC.setIfInBounds 106 (vS nd2 (2 + 1) ((2 + 1) + nd3))) nd2 nd3 ([sy nm 0, sy (un nm) 0, sy ⟨#[95, 115, 116, 97, 99, 107]⟩ 0]) (2 + 1) 0 mp #[] k ms MC pt QC mu ([]) cs KC qp B4 2 tb tc m ad lc nl l0 nd l3 ni ne _ _ _ hP9 (get_other hk350 (by omega) _) (get_other hk32 (by omega) _) (get_other hk105 (by omega) _) (get_other hk66 (by omega) _) (get_other hk117 (by omega) _) (get_other hk187 (by omega) _) (get_other hk104 (by omega) _) (get_other hk23 (by omega) _) (get_other hk34 (by omega) _) (get_other hk352 (by omega) _) (get_set hk106 _) h9_hn h9_hnb hsu hgen h9_hsi h9_hno hpar hm had hlc (fun i h1 h2 => Or.inl (HLC.out i h1 h2)) hg0 hg1
 refine Calls.mono T9 ?_
 clear hP9 T9 h9_hn h9_hnb h9_hsi h9_hno
 rintro e uw6 ⟨nd7, nd8, nd9, nd10, nd11, nd12, nd13, nd14, nd15, nd16, rfl, hQ⟩
 replace hO : Own w0 uw6 [row (B4) 33 #[vI l0, vU 0, vU 2, .bool true], row (pb) 252 ((PC.setIfInBounds 106 (vS nd2 (2 + 1) ((2 + 1) + nd3))).setIfInBounds 106 (vS nd9 ((2 + 1) + 1) ((2 + 1) + 1 + nd10))), row (nd9) 260 (full symZ (symL ([sy nm 0, sy (un nm) 0, sy ⟨#[95, 115, 116, 97, 99, 107]⟩ 1, sy ⟨#[95, 95, 117, 115, 105, 110, 103]⟩ 1])) nd10), ((mp, .map (#[].push ⟨.string ⟨#[95, 95, 117, 115, 105, 110, 103]⟩, .agg #[vI l3, vU 0, vU ((2 + 1) : Int)], k⟩) (k + 1)) : Rw), row (ms) 99 (MC.setIfInBounds 5 (vS nd11 1 (1 + nd12))), row (nd11) 31 (full refZ [vU 0, vU (3 : Int)] nd12), row (pt) 107 QC, ((mu, .map (uA (ubump (ubump ([]) 0 2) 0 ((2 + 1) : Int))) (uN (ubump (ubump ([]) 0 2) 0 ((2 + 1) : Int)))) : Rw), row (cs) 99 KC, row (tb) 61 (full stmZ (stL (dtL ad lc) (List.range (m + 1))) tc), row (nl) 57 #[vS nd 1 1, v8 2, bF, bF], row (nd) 54 #[vF 134 ni, vI l3, vF 261 nd7, vI l3], row (nd7) 266 #[vF 267 nd8, vI l3, vS nd14 3 (3 + nd16), vI 0, v8 0, v8 0, bF, bF], row (nd14) 52 (full expZ [vF 267 nd13, vI l3, vF 267 ne, vI l3, vF 271 nd15, vI l3] nd16), row (nd13) 270 #[vU 0, vU 2, bF, bF, bF], row (nd15) 274 #[.bool true], row (gb) 31 (full refZ [vU 0, vU 1] cg), row (ini) 57 #[vS dbx 1 1, v8 4, bF, bF], row (ib) 136 #[vU 0, vU 0], row (tr) 31 #[vU 0, vU 1], row (kb) 72 #[bv, clv]] X := hQ.back HL.out HX.out [8, 9, 10, 11, 12] dc dc
 clear hQ HL HX
 obtain ⟨ix9, hix9, hax9, hjx9⟩ := hO.ix
 have ah := hjx9 0 _ _ rfl
 have ai := hjx9 1 _ _ rfl
 have aj := hjx9 2 _ _ rfl
 have ak := hjx9 3 _ _ rfl
 have al := hjx9 4 _ _ rfl
 have am := hjx9 5 _ _ rfl
 have an := hjx9 6 _ _ rfl
 have ao := hjx9 7 _ _ rfl
 have ap := hjx9 8 _ _ rfl
 have aq := hjx9 9 _ _ rfl
 have ar := hjx9 10 _ _ rfl
 have au := hjx9 11 _ _ rfl
 have av := hjx9 12 _ _ rfl
 have aw := hjx9 13 _ _ rfl
 have ax := hjx9 14 _ _ rfl
 have ay := hjx9 15 _ _ rfl
 have az := hjx9 16 _ _ rfl
 have bA := hjx9 17 _ _ rfl
 have bB := hjx9 18 _ _ rfl
 have bC := hjx9 19 _ _ rfl
 have bD := hjx9 20 _ _ rfl
 clear hjx9
 obtain ⟨bE, bG, bH, bI, bJ, bK, -⟩ := hO.k4 0 rfl
 have cK : uw6.cell? ⟨pb, 23, none⟩ = some (.int .u64 0) := hO.cell 1 rfl (23) ((get_other (get_other hk23 (by omega) _) (by omega) _))
 have cL : uw6.cell? ⟨pb, 32, none⟩ = some (bF) := hO.cell 1 rfl (32) ((get_other (get_other hk32 (by omega) _) (by omega) _))
 have cM : uw6.cell? ⟨pb, 34, none⟩ = some (v8 0) := hO.cell 1 rfl (34) ((get_other (get_other hk34 (by omega) _) (by omega) _))
 have cN : uw6.cell? ⟨pb, 66, none⟩ = some (vU 0) := hO.cell 1 rfl (66) ((get_other (get_other hk66 (by omega) _) (by omega) _))
 have cO : uw6.cell? ⟨pb, 104, none⟩ = some (vP cs) := hO.cell 1 rfl (104) ((get_other (get_other hk104 (by omega) _) (by omega) _))
 have cP : uw6.cell? ⟨pb, 105, none⟩ = some (vP pt) := hO.cell 1 rfl (105) ((get_other (get_other hk105 (by omega) _) (by omega) _))
 have cQ : uw6.cell? ⟨pb, 106, none⟩ = some (vS nd9 ((2 + 1) + 1) ((2 + 1) + 1 + nd10)) := hO.cell 1 rfl (106) ((get_set (get_set hk106 _) _))
 have cR : uw6.cell? ⟨pb, 117, none⟩ = some (.map (some mp)) := hO.cell 1 rfl (117) ((get_other (get_other hk117 (by omega) _) (by omega) _))
 have cS : uw6.cell? ⟨pb, 187, none⟩ = some (vP ms) := hO.cell 1 rfl (187) ((get_other (get_other hk187 (by omega) _) (by omega) _))
 have cT : uw6.cell? ⟨pb, 333, none⟩ = some (bF) := hO.cell 1 rfl (333) ((get_other (get_other hk333 (by omega) _) (by omega) _))
 have cU : uw6.cell? ⟨pb, 350, none⟩ = some (bF) := hO.cell 1 rfl (350) ((get_other (get_other hk350 (by omega) _) (by omega) _))
 have cV : uw6.cell? ⟨pb, 352, none⟩ = some (bF) := hO.cell 1 rfl (352) ((get_other (get_other hk352 (by omega) _) (by omega) _))
 have bL := hO.lt 1 rfl
 have bM := hO.free 1 rfl
 have bN : uw6.cell? ⟨nd9, 1, none⟩ = some (.string nm) := hO.cell 2 rfl (1) ((full_at rfl))
 have cW : uw6.cell? ⟨nd9, 4, none⟩ = some (vU 0) := hO.cell 2 rfl (4) ((full_at rfl))
 have cX : uw6.cell? ⟨nd9, 11, none⟩ = some (.string (un nm)) := hO.cell 2 rfl (11) ((full_at rfl))
 have cY : uw6.cell? ⟨nd9, 14, none⟩ = some (vU 0) := hO.cell 2 rfl (14) ((full_at rfl))
 have cZ : uw6.cell? ⟨nd9, 21, none⟩ = some (.string ⟨#[95, 115, 116, 97, 99, 107]⟩) := hO.cell 2 rfl (21) ((full_at rfl))
 have cb : uw6.cell? ⟨nd9, 24, none⟩ = some (vU 1) := hO.cell 2 rfl (24) ((full_at rfl))
 have cc : uw6.cell? ⟨nd9, 31, none⟩ = some (.string ⟨#[95, 95, 117, 115, 105, 110, 103]⟩) := hO.cell 2 rfl (31) ((full_at rfl))
 have ce : uw6.cell? ⟨nd9, 34, none⟩ = some (vU 1) := hO.cell 2 rfl (34) ((full_at rfl))
 have bO := hO.lt 2 rfl
 have bP := hO.free 2 rfl
 have cf : Base.plainAt uw6 (ms) = true := hO.plain 4 rfl
 have ch : uw6.cell? ⟨ms, 5, none⟩ = some (vS nd11 1 (1 + nd12)) := hO.cell 4 rfl (5) ((get_set hgen _))
 have bQ := hO.lt 4 rfl
 have bR := hO.free 4 rfl
 have ci : Base.plainAt uw6 (nd11) = true := hO.plain 5 rfl
 have bS : uw6.cell? ⟨nd11, 0, none⟩ = some (vU 0) := hO.cell 5 rfl (0) ((full_at rfl))
 have bT : uw6.cell? ⟨nd11, 1, none⟩ = some (vU (3 : Int)) := hO.cell 5 rfl (1) ((full_at rfl))
 have bU := hO.lt 5 rfl
 have bV := hO.free 5 rfl
 have cj := hO.cell 6 rfl 3 hds
 have ck := hO.cell 6 rfl 4 hsu
 have bW := hO.lt 6 rfl
 have bX := hO.free 6 rfl
 have cl : Base.plainAt uw6 (cs) = true := hO.plain 8 rfl
 have aO := hO.cell 8 rfl 1 hpar
 have cm := hO.cell 8 rfl 5 hcg
 have cn := hO.cell 8 rfl 15 hkind
 have aA := hO.lt 8 rfl
 have aB := hO.free 8 rfl
 obtain ⟨aQ, aR, co, cp, aC, aD, cq⟩ := hO.k4 10 rfl
 obtain ⟨aE, aF, bY, bZ, aG, aH, -⟩ := hO.k4 11 rfl
 obtain ⟨ba, bb, bc, bd, be, bf, bg, bh, bi, bj, -⟩ := hO.k8 12 rfl
 have aS : uw6.cell? ⟨nd14, 0, none⟩ = some (vF 267 nd13) := hO.cell 13 rfl (0) ((full_at rfl))
 have aT : uw6.cell? ⟨nd14, 1, none⟩ = some (vI l3) := hO.cell 13 rfl (1) ((full_at rfl))
 have aU : uw6.cell? ⟨nd14, 2, none⟩ = some (vF 267 ne) := hO.cell 13 rfl (2) ((full_at rfl))
 have aV : uw6.cell? ⟨nd14, 3, none⟩ = some (vI l3) := hO.cell 13 rfl (3) ((full_at rfl))
 have cr : uw6.cell? ⟨nd14, 4, none⟩ = some (vF 271 nd15) := hO.cell 13 rfl (4) ((full_at rfl))
 have ct : uw6.cell? ⟨nd14, 5, none⟩ = some (vI l3) := hO.cell 13 rfl (5) ((full_at rfl))
 have aW := hO.lt 13 rfl
 have aX := hO.free 13 rfl
 obtain ⟨aI, aJ, aK, aL, cu, aM, aN, -⟩ := hO.k5 14 rfl
 obtain ⟨bk, bl, bm, -⟩ := hO.k1 15 rfl
 have cv : Base.plainAt uw6 (gb) = true := hO.plain 16 rfl
 have bn : uw6.cell? ⟨gb, 0, none⟩ = some (vU 0) := hO.cell 16 rfl (0) ((full_at rfl))
 have bo : uw6.cell? ⟨gb, 1, none⟩ = some (vU 1) := hO.cell 16 rfl (1) ((full_at rfl))
 have bp := hO.lt 16 rfl
 have bq := hO.free 16 rfl
 obtain ⟨br, bs, bt, bu, bw, bx, cw⟩ := hO.k4 17 rfl
 obtain ⟨bz, cA, cB, cC, -⟩ := hO.k2 18 rfl
 obtain ⟨cD, cy, cE, cF, cz⟩ := hO.k2 19 rfl
 obtain ⟨cG, cH, cI, cJ, -⟩ := hO.k2 20 rfl
 have HO := Lib.hid hO
 clear hO
 go_wp2_with (first | (with_reducible refine Own.stay (fn := Tryd.f41) ?_) | fail)
 try with_reducible refine Own.Stay.mk ?_
 have hO := HO.out
 clear HO hix9 hax9 ah ai aj ak al am an ao ap aq ar au av aw ax ay az bA bB bC bD ix9 bE bG bH bI bJ bK cK cL cM cN cO cP cQ cR cS cT cU cV bL bM bN cW cX cY cZ cb cc ce bO bP cf ch bQ bR ci bS bT bU bV cj ck bW bX cl aO cm cn aA aB aQ aR co cp aC aD cq aE aF bY bZ aG aH ba bb bc bd be bf bg bh bi bj aS aT aU aV cr ct aW aX aI aJ aK aL cu aM aN bk bl bm cv bn bo bp bq br bs bt bu bw bx cw bz cA cB cC cD cy cE cF cz cG cH cI cJ
 obtain ⟨HL, HX⟩ := hid2 hO
 have hP9 := hO.pick [0, 1, 2, 3, 4, 6, 7, 8, 5, 16, 9] dc
 have h9_hn : ([sy nm 0, sy (un nm) 0, sy ⟨#[95, 115, 116, 97, 99, 107]⟩ 1, sy ⟨#[95, 95, 117, 115, 105, 110, 103]⟩ 1]).length = ((2 + 1) + 1) := rfl
 have h9_hnb : ((2 + 1) + 1) ≤ 100000 := (by omega)
 have h9_hsi : 2 < ((2 + 1) + 1) := (by omega)
 have h9_hno : Instr.findNow .string (.string ⟨#[95, 95, 99, 97, 108, 108, 68, 105, 115, 112, 111, 115, 101]⟩) (#[].push ⟨.string ⟨#[95, 95, 117, 115, 105, 110, 103]⟩, .agg #[vI l3, vU 0, vU ((2 + 1) : Int)], k⟩).toList 0 = some none := (by kernel_rfl)
 have h9_hgl : ([vU 0, vU 1] : List Value).length = 1 * 2 := rfl
 have h9_hgb : 1 ≤ 1000 := (by omega)
 have h9_hhl : ([vU 0, vU 3] : List Value).length = 1 * 2 := rfl
 have h9_hhb : 1 ≤ 1000 := (by omega)
 have h9_hnn : (m + 1) ≤ 5000 := (by omega)
 have T9 := finy11 pb ((PC.setIfInBounds 106 (vS nd2 (2 + 1) ((2 + 1) + nd3))).setIfInBounds 106 (vS nd9 ((2 + 1) + 1) (((2 + 1) + 1) + nd10))) nd9 nd10 ([sy nm 0, sy (un nm) 0, sy ⟨#[95, 115, 116, 97, 99, 107]⟩ 1, sy ⟨#[95, 95, 117, 115, 105, 110, 103]⟩ 1]) ((2 + 1) + 1) 0 mp (#[].push ⟨.string ⟨#[95, 95, 117, 115, 105, 110, 103]⟩, .agg #[vI l3, vU 0, vU ((2 + 1) : Int)], k⟩) (k + 1) ms (MC.setIfInBounds 5 (vS nd11 1 (1 + nd12))) nd11 ([vU 0, vU (3 : Int)]) nd12 1 pt QC mu (ubump (ubump [] 0 2) 0 ((2 + 1) : Int)) cs KC gb ([vU 0, vU 1]) cg 1 B4 l0 2 tb (m + 1) tc ad lc _ _ _ hP9 (get_other (get_other hk350 (by omega) _) (by omega) _) (get_other (get_other hk32 (by omega) _) (by omega) _) (get_other (get_other hk105 (by omega) _) (by omega) _) (get_other (get_other hk66 (by omega) _) (by omega) _) (get_other (get_other hk117 (by omega) _) (by omega) _) (get_other (get_other hk187 (by omega) _) (by omega) _) (get_other (get_other hk104 (by omega) _) (by omega) _) (get_other (get_other hk333 (by omega) _) (by omega) _) (get_other (get_other hk23 (by omega) _) (by omega) _) (get_set (get_set hk106 _) _) h9_hn h9_hnb hsu hds hkind (get_set hgen _) hcg h9_hsi h9_hno h9_hgl h9_hgb h9_hhl h9_hhb h9_hnn (by
  intro i hi
  rcases Nat.eq_zero_or_pos i with rfl | h0
  ·rw [had]
   exact ⟨[vS nd 1 1, v8 2, bF, bF], Or.inr ⟨10, by decide, rfl⟩, rfl⟩
  ·exact ⟨[vN, v8 0, bF, bF], Or.inl (HLC.out i h0 hi), rfl⟩) hg0 hg1
 refine Calls.mono T9 ?_
 clear hP9 T9 h9_hn h9_hnb h9_hsi h9_hno h9_hgl h9_hgb h9_hhl h9_hhb h9_hnn
 rintro e uw17 ⟨nd18, nd19, nd20, nd21, nd22, nd23, nd24, nd25, nd26, nd27, nd28, nd29, nd30, nd31, nd32, nd33, nd34, nd35, nd36, nd37, rfl, pr38, pr39, pr40, pr41, pr42, pr43, pr44, hQ⟩
 replace hO : Own w0 uw17 [row (nd18) 61 (full stmZ [vF 42 nd20, vI l0, vF 67 nd24, vI l0] nd19), row (nd20) 57 #[vS nd21 1 1, v8 0, bF, bF], row (nd21) 54 #[vF 134 nd22, vI l0, vF 315 nd23, vI l0], row (nd22) 136 #[vU 0, vU 2], row (nd24) 76 #[vP nd25, vP nd26, vS tb (m + 1) ((m + 1) + tc), vI 0, vI l0], row (nd26) 116 #[vS nd27 2 2, vI 0, vI l0], row (pb) 252 nd34, row (nd28) 260 (full symZ (symL (bump (stF1 ([sy nm 0, sy (un nm) 0, sy ⟨#[95, 115, 116, 97, 99, 107]⟩ 1, sy ⟨#[95, 95, 117, 115, 105, 110, 103]⟩ 1]) 2 ((2 + 1) + 1)) ((2 + 1) + 1))) nd29), row (pt) 107 nd35, ((mu, .map (uA nd37) (uN nd37)) : Rw), row (cs) 99 nd36, row (nd30) 31 (full refZ [vU 0, vU 1, vU 0, vU 2, vU 0, vU ((4) : Int), vU 0, vU ((4) + 1 : Int), vU 0, vU (6 : Int), vU 0, vU (8 : Int), vU 0, vU (8 : Int)] nd31), row (nd32) 113 (full dsyZ [vU 0, vU 2, bF, vU 0, vU ((4) : Int), bF, vU 0, vU ((4) + 1 : Int), bF, vU 0, vU (6 : Int), bF, vU 0, vU (8 : Int), bF] nd33), row (tb) 61 (full stmZ (stL (dtL ad lc) (List.range (m + 1))) tc), row (nl) 57 #[vS nd 1 1, v8 2, bF, bF], row (nd) 54 #[vF 134 ni, vI l3, vF 261 nd7, vI l3], row (nd7) 266 #[vF 267 nd8, vI l3, vS nd14 3 (3 + nd16), vI 0, v8 0, v8 0, bF, bF], row (nd14) 52 (full expZ [vF 267 nd13, vI l3, vF 267 ne, vI l3, vF 271 nd15, vI l3] nd16), row (nd13) 270 #[vU 0, vU 2, bF, bF, bF], row (nd15) 274 #[.bool true], row (ini) 57 #[vS dbx 1 1, v8 4, bF, bF], row (ib) 136 #[vU 0, vU 0], row (tr) 31 #[vU 0, vU 1], row (kb) 72 #[bv, clv]] X := hQ.back HL.out HX.out [10, 11, 12, 13, 14, 15, 17, 18, 19, 20] dc dc
 clear hQ HL HX
 obtain ⟨ix9, hix9, hax9, hjx9⟩ := hO.ix
 have ah := hjx9 0 _ _ rfl
 have ai := hjx9 1 _ _ rfl
 have aj := hjx9 2 _ _ rfl
 have ak := hjx9 3 _ _ rfl
 have al := hjx9 4 _ _ rfl
 have am := hjx9 5 _ _ rfl
 have an := hjx9 6 _ _ rfl
 have ao := hjx9 7 _ _ rfl
 have ap := hjx9 8 _ _ rfl
 have aq := hjx9 9 _ _ rfl
 have ar := hjx9 10 _ _ rfl
 have au := hjx9 11 _ _ rfl
 have av := hjx9 12 _ _ rfl
 have aw := hjx9 13 _ _ rfl
 have ax := hjx9 14 _ _ rfl
 have ay := hjx9 15 _ _ rfl
 have az := hjx9 16 _ _ rfl
 have bA := hjx9 17 _ _ rfl
 have bB := hjx9 18 _ _ rfl
 have bC := hjx9 19 _ _ rfl
 have bD := hjx9 20 _ _ rfl
 have dA := hjx9 21 _ _ rfl
 have dB := hjx9 22 _ _ rfl
 have dC := hjx9 23 _ _ rfl
 clear hjx9
 have dD : Base.plainAt uw17 (nd18) = true := hO.plain 0 rfl
 have bE : uw17.cell? ⟨nd18, 0, none⟩ = some (vF 42 nd20) := hO.cell 0 rfl (0) ((full_at rfl))
 have bG : uw17.cell? ⟨nd18, 1, none⟩ = some (vI l0) := hO.cell 0 rfl (1) ((full_at rfl))
 have bH : uw17.cell? ⟨nd18, 2, none⟩ = some (vF 67 nd24) := hO.cell 0 rfl (2) ((full_at rfl))
 have bI : uw17.cell? ⟨nd18, 3, none⟩ = some (vI l0) := hO.cell 0 rfl (3) ((full_at rfl))
 have bJ := hO.lt 0 rfl
 have bK := hO.free 0 rfl
 obtain ⟨dE, dF, dG, dH, bL, bM, dI⟩ := hO.k4 1 rfl
 obtain ⟨dJ, bN, dK, dL, bO, bP, dM⟩ := hO.k4 2 rfl
 obtain ⟨dN, dO, dP, dQ, dR⟩ := hO.k2 3 rfl
 obtain ⟨dS, dT, dU, dV, dW, bQ, bR, -⟩ := hO.k5 4 rfl
 obtain ⟨bS, bT, dX, bU, bV, -⟩ := hO.k3 5 rfl
 have dY : uw17.cell? ⟨pb, 32, none⟩ = some (bF) := hO.cell 6 rfl (32) (pr39)
 have dZ : uw17.cell? ⟨pb, 105, none⟩ = some (vP pt) := hO.cell 6 rfl (105) (pr40)
 have da : uw17.cell? ⟨pb, 106, none⟩ = some (vS nd28 (((2 + 1) + 1) + 5) (((2 + 1) + 1) + 5 + nd29)) := hO.cell 6 rfl (106) (pr41)
 have dc : uw17.cell? ⟨pb, 350, none⟩ = some (bF) := hO.cell 6 rfl (350) (pr38)
 have bW := hO.lt 6 rfl
 have bX := hO.free 6 rfl
 have aP : uw17.cell? ⟨pt, 3, none⟩ = some (vS nd32 5 (5 + nd33)) := hO.cell 8 rfl (3) (pr43)
 have dd : uw17.cell? ⟨pt, 4, none⟩ = some (.map (some mu)) := hO.cell 8 rfl (4) (pr42)
 have aA := hO.lt 8 rfl
 have aB := hO.free 8 rfl
 have de : uw17.cell? ⟨cs, 5, none⟩ = some (vS nd30 (1 + 6) (1 + 6 + nd31)) := hO.cell 10 rfl (5) (pr44)
 have aC := hO.lt 10 rfl
 have aD := hO.free 10 rfl
 have df : Base.plainAt uw17 (nd30) = true := hO.plain 11 rfl
 have aE : uw17.cell? ⟨nd30, 0, none⟩ = some (vU 0) := hO.cell 11 rfl (0) ((full_at rfl))
 have aF : uw17.cell? ⟨nd30, 1, none⟩ = some (vU 1) := hO.cell 11 rfl (1) ((full_at rfl))
 have bY : uw17.cell? ⟨nd30, 2, none⟩ = some (vU 0) := hO.cell 11 rfl (2) ((full_at rfl))
 have bZ : uw17.cell? ⟨nd30, 3, none⟩ = some (vU 2) := hO.cell 11 rfl (3) ((full_at rfl))
 have dg : uw17.cell? ⟨nd30, 4, none⟩ = some (vU 0) := hO.cell 11 rfl (4) ((full_at rfl))
 have dh : uw17.cell? ⟨nd30, 5, none⟩ = some (vU ((4) : Int)) := hO.cell 11 rfl (5) ((full_at rfl))
 have di : uw17.cell? ⟨nd30, 6, none⟩ = some (vU 0) := hO.cell 11 rfl (6) ((full_at rfl))
 have dj : uw17.cell? ⟨nd30, 7, none⟩ = some (vU ((4) + 1 : Int)) := hO.cell 11 rfl (7) ((full_at rfl))
 have dk : uw17.cell? ⟨nd30, 8, none⟩ = some (vU 0) := hO.cell 11 rfl (8) ((full_at rfl))
 have dl : uw17.cell? ⟨nd30, 9, none⟩ = some (vU (6 : Int)) := hO.cell 11 rfl (9) ((full_at rfl))
 have dm : uw17.cell? ⟨nd30, 10, none⟩ = some (vU 0) := hO.cell 11 rfl (10) ((full_at rfl))
 have dn : uw17.cell? ⟨nd30, 11, none⟩ = some (vU (8 : Int)) := hO.cell 11 rfl (11) ((full_at rfl))
 have dp : uw17.cell? ⟨nd30, 12, none⟩ = some (vU 0) := hO.cell 11 rfl (12) ((full_at rfl))
 have dq : uw17.cell? ⟨nd30, 13, none⟩ = some (vU (8 : Int)) := hO.cell 11 rfl (13) ((full_at rfl))
 have aG := hO.lt 11 rfl
 have aH := hO.free 11 rfl
 have ba : uw17.cell? ⟨nd32, 0, none⟩ = some (vU 0) := hO.cell 12 rfl (0) ((full_at rfl))
 have bb : uw17.cell? ⟨nd32, 1, none⟩ = some (vU 2) := hO.cell 12 rfl (1) ((full_at rfl))
 have bc : uw17.cell? ⟨nd32, 2, none⟩ = some (bF) := hO.cell 12 rfl (2) ((full_at rfl))
 have bd : uw17.cell? ⟨nd32, 3, none⟩ = some (vU 0) := hO.cell 12 rfl (3) ((full_at rfl))
 have be : uw17.cell? ⟨nd32, 4, none⟩ = some (vU ((4) : Int)) := hO.cell 12 rfl (4) ((full_at rfl))
 have bf : uw17.cell? ⟨nd32, 5, none⟩ = some (bF) := hO.cell 12 rfl (5) ((full_at rfl))
 have bg : uw17.cell? ⟨nd32, 6, none⟩ = some (vU 0) := hO.cell 12 rfl (6) ((full_at rfl))
 have bh : uw17.cell? ⟨nd32, 7, none⟩ = some (vU ((4) + 1 : Int)) := hO.cell 12 rfl (7) ((full_at rfl))
 have dr : uw17.cell? ⟨nd32, 8, none⟩ = some (bF) := hO.cell 12 rfl (8) ((full_at rfl))
 have ds : uw17.cell? ⟨nd32, 9, none⟩ = some (vU 0) := hO.cell 12 rfl (9) ((full_at rfl))
 have dt : uw17.cell? ⟨nd32, 10, none⟩ = some (vU (6 : Int)) := hO.cell 12 rfl (10) ((full_at rfl))
 have du : uw17.cell? ⟨nd32, 11, none⟩ = some (bF) := hO.cell 12 rfl (11) ((full_at rfl))
 have dv : uw17.cell? ⟨nd32, 12, none⟩ = some (vU 0) := hO.cell 12 rfl (12) ((full_at rfl))
 have dw : uw17.cell? ⟨nd32, 13, none⟩ = some (vU (8 : Int)) := hO.cell 12 rfl (13) ((full_at rfl))
 have dx : uw17.cell? ⟨nd32, 14, none⟩ = some (bF) := hO.cell 12 rfl (14) ((full_at rfl))
 have bi := hO.lt 12 rfl
 have bj := hO.free 12 rfl
 have dy : Base.plainAt uw17 (tb) = true := hO.plain 13 rfl
 obtain ⟨aI, aJ, aK, aL, aM, aN, dz⟩ := hO.k4 14 rfl
 obtain ⟨bk, eA, eB, eC, bl, bm, eD⟩ := hO.k4 15 rfl
 obtain ⟨bn, bo, eE, eF, eG, eH, eI, eJ, bp, bq, -⟩ := hO.k8 16 rfl
 have br : uw17.cell? ⟨nd14, 0, none⟩ = some (vF 267 nd13) := hO.cell 17 rfl (0) ((full_at rfl))
 have bs : uw17.cell? ⟨nd14, 1, none⟩ = some (vI l3) := hO.cell 17 rfl (1) ((full_at rfl))
 have bt : uw17.cell? ⟨nd14, 2, none⟩ = some (vF 267 ne) := hO.cell 17 rfl (2) ((full_at rfl))
 have bu : uw17.cell? ⟨nd14, 3, none⟩ = some (vI l3) := hO.cell 17 rfl (3) ((full_at rfl))
 have eK : uw17.cell? ⟨nd14, 4, none⟩ = some (vF 271 nd15) := hO.cell 17 rfl (4) ((full_at rfl))
 have eL : uw17.cell? ⟨nd14, 5, none⟩ = some (vI l3) := hO.cell 17 rfl (5) ((full_at rfl))
 have bw := hO.lt 17 rfl
 have bx := hO.free 17 rfl
 obtain ⟨bz, cA, eM, eN, eO, cB, cC, -⟩ := hO.k5 18 rfl
 obtain ⟨cD, cE, cF, -⟩ := hO.k1 19 rfl
 obtain ⟨cG, cH, eP, eQ, cI, cJ, eR⟩ := hO.k4 20 rfl
 obtain ⟨eT, eU, eV, eW, eX⟩ := hO.k2 21 rfl
 obtain ⟨eY, eZ, ea, eb, ec⟩ := hO.k2 22 rfl
 obtain ⟨ed, ee, ef, eg, -⟩ := hO.k2 23 rfl
 have HO := Lib.hid hO
 clear hO
 go_wp2_with (first | (with_reducible refine Own.stay (fn := Tryd.f41) ?_) | fail)
 try with_reducible refine Own.Stay.mk ?_
 have hO := HO.out
 clear HO hix9 hax9 ah ai aj ak al am an ao ap aq ar au av aw ax ay az bA bB bC bD dA dB dC ix9 dD bE bG bH bI bJ bK dE dF dG dH bL bM dI dJ bN dK dL bO bP dM dN dO dP dQ dR dS dT dU dV dW bQ bR bS bT dX bU bV dY dZ da dc bW bX aP dd aA aB de aC aD df aE aF bY bZ dg dh di dj dk dl dm dn dp dq aG aH ba bb bc bd be bf bg bh dr ds dt du dv dw dx bi bj dy aI aJ aK aL aM aN dz bk eA eB eC bl bm eD bn bo eE eF eG eH eI eJ bp bq br bs bt bu eK eL bw bx bz cA eM eN eO cB cC cD cE cF cG cH eP eQ cI cJ eR eT eU eV eW eX eY eZ ea eb ec ed ee ef eg
 generalize hW : World.setCell _ _ _ = W46
 have hN : Own w0 W46 [row (nd18) 61 (full stmZ [vF 42 nd20, vI l0, vF 67 nd24, vI l0] nd19), row (nd20) 57 #[vS nd21 1 1, v8 0, bF, bF], row (nd21) 54 #[vF 134 nd22, vI l0, vF 315 nd23, vI l0], row (nd22) 136 #[vU 0, vU 2], row (nd24) 76 #[vP nd25, vP nd26, vS tb (m + 1) ((m + 1) + tc), vI 0, vI l0], row (nd26) 116 #[vS nd27 2 2, vI 0, vI l0], row (pb) 252 nd34, row (nd28) 260 (full symZ (symL (bump (stF1 ([sy nm 0, sy (un nm) 0, sy ⟨#[95, 115, 116, 97, 99, 107]⟩ 1, sy ⟨#[95, 95, 117, 115, 105, 110, 103]⟩ 1]) 2 ((2 + 1) + 1)) ((2 + 1) + 1))) nd29), row (pt) 107 nd35, ((mu, .map (uA nd37) (uN nd37)) : Rw), row (cs) 99 nd36, row (nd30) 31 (full refZ [vU 0, vU 1, vU 0, vU 2, vU 0, vU ((4) : Int), vU 0, vU ((4) + 1 : Int), vU 0, vU (6 : Int), vU 0, vU (8 : Int), vU 0, vU (8 : Int)] nd31), row (nd32) 113 (full dsyZ [vU 0, vU 2, bF, vU 0, vU ((4) : Int), bF, vU 0, vU ((4) + 1 : Int), bF, vU 0, vU (6 : Int), bF, vU 0, vU (8 : Int), bF] nd33), row (tb) 61 (full stmZ (stL (dtL ad lc) (List.range (m + 1))) tc), row (nl) 57 #[vS nd 1 1, v8 2, bF, bF], row (nd) 54 #[vF 134 ni, vI l3, vF 261 nd7, vI l3], row (nd7) 266 #[vF 267 nd8, vI l3, vS nd14 3 (3 + nd16), vI 0, v8 0, v8 0, bF, bF], row (nd14) 52 (full expZ [vF 267 nd13, vI l3, vF 267 ne, vI l3, vF 271 nd15, vI l3] nd16), row (nd13) 270 #[vU 0, vU 2, bF, bF, bF], row (nd15) 274 #[.bool true], row (ini) 57 #[vS dbx 1 1, v8 0, bF, bF], row (ib) 136 #[vU 0, vU 1], row (tr) 31 #[vU 0, vU 1], row (kb) 72 #[vS nd18 2 (2 + nd19), clv]] X := by
  rw [← hW]
  exact ((((hO).set 23 rfl 0 _).set 20 rfl 1 _).set 21 rfl 0 _).set 21 rfl 1 _
 clear hW hO
 have hO := hN
 clear hN
 refine bodyPost_ret (v := .tuple #[]) ?_ rfl (HP.out B4 nd18 nd19 nd20 nd21 nd22 nd23 nd24 nd25 nd26 nd27 nd28 nd29 nd30 nd31 nd32 nd33 nd7 nd8 nd13 nd14 nd15 nd16 nd34 nd35 nd36 nd37 _ pr38 pr39 pr40 pr41 pr42 pr43 pr44 (hO.sub [0, 1, 2, 3, 4, 5, 6, 7, 8, 9, 10, 11, 12, 13, 20, 21, 22, 23, 14, 15, 16, 17, 18, 19] dc))
 simp [results, go_sem]
end Go.Proofs.YtikopplofkemlaaDoor.Use
