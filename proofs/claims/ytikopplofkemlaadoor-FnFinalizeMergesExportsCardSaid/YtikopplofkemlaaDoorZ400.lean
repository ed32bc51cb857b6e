/- Row 40: no names. No condition. -/
import Derived.Test.YtikopplofkemlaaDoorHb4
import Derived.Test.YtikopplofkemlaaDoorFid
namespace Go.Proofs.YtikopplofkemlaaDoor.Use
open Go.ChangeShapes Go.WideShapes Go.ChangeAt Go.RowKit Go.Sort Own
set_option linter.unusedVariables false

set_option maxRecDepth 100000 in
set_option maxHeartbeats 4000000 in
theorem z400 (z : Nat → ByteArray) (D : Nat → Nat → Nat) (pb sb c pt mu mp cs ms kx kr tb : Nat) (PC : Array Value) {A0 A1 A2 A3 A4 A5 A6 A7 A8 A9 AA AB AC AD AE AF AG AH AI AJ AK AL AM AN AO AP AQ AR AS AT AU AV AW AX AY AZ B0 B1 B2 B3 B4 B5 B6 B7 B8 B9 BA BB BC BD BE BF BG BH BI BJ BK BL BM BN BO BP BQ BR BS BT BU BV BW BX BY BZ C0 C1 C2 C3 C4 C5 C6 C7 C8 C9 CA CB CC CD CE CF CG CH CI CJ CK CL CM CN CO CP CQ CR CS CT CU CV CW CX CY CZ E0 E1 E2 E3 E4 E5 E6 E7 E8 E9 EA EB EC ED EE EF EG EH EI EJ EK EL EM EN EO EP EQ ER ES ET EU EV EW EX EY EZ F0 F1 F2 F3 F4 F5 F6 F7 F8 F9 FA FB FC FD FE FF FG FH FI FJ FK FL FM FN FO FP FQ FR FS FT FU FV FW FX FY FZ G0 G1 G2 G3 G4 G5 G6 G7 G8 G9 GA GB GC GD GE GF GG GH GI GJ GK GL GM GN GO GP GQ GR GS GT GU GV GW GX GY GZ I0 I1 I2 I3 I4 I5 I6 I7 I8 I9 IA IB IC ID IE IF IG IH II IJ IK IL IM IN IO IP IQ IR IS IT IU IV IW IX IY IZ J0 J1 J2 J3 J4 J5 J6 J7 J8 J9 JA JB JC JD JE JF JG JH JI JJ JK JL JM : Value} (w0 w : World) (X : Nat → Obj → Prop) (Post : Ending → World → Prop) (hP : ∀ w3, Own w0 w3 [] X → Post (.returned (.bool true)) w3) (hO : Own w0 w [row (pb) 252 PC, row (sb) 260 (full symZ (symL (stX z 0)) c), row (tb) 61 (sxR D 0 0), row (kx) 33 #[vI 7, vU 0, vU 0, bF], row (kr) 31 #[vU 0, vU 0], row (pt) 107 #[vN, vN, vN, vN, .map (some mu), .map none, .map none, vN, bF, bF, bF], ((mu, .map (uA ([])) (uN ([]))) : Rw), ((mp, .map #[] 0) : Rw), row (cs) 99 #[vO, vP ms, vN, .map none, vN, vN, vI 0, vI 0, vU 0, vU 0, bF, bF, bF, bF, v8 0, v8 8], row (ms) 99 #[vO, vO, vN, .map none, vN, vN, vI 0, vI 0, vU 0, vU 0, bF, bF, bF, bF, v8 0, v8 6]] X) (hf350 : PC[350]? = some (bF)) (hf32 : PC[32]? = some (bF)) (hf105 : PC[105]? = some (vP pt)) (hf66 : PC[66]? = some (vU 0)) (hf117 : PC[117]? = some (.map (some mp))) (hf187 : PC[187]? = some (vP ms)) (hf104 : PC[104]? = some (vP cs)) (hf333 : PC[333]? = some (bF)) (hf23 : PC[23]? = some (.int .u64 0)) (hf106 : PC[106]? = some (vS sb (0 + 1) (0 + 1 + c))) (hg0 : w0.cell? ⟨0, 0, none⟩ = some (vU 4294967295)) (hg1 : w0.cell? ⟨0, 1, none⟩ = some (vU 4294967295)) :
  Code.wp Tryd.prog rest40 (bodyPost Tryd.prog Tryd.f3 Post) ⟨#[A0, bF, A1, A2, A3, A4, A5, vP pb, vP cs, vP kx, vP kr, v6 0, A6, A7, vS tb 0 0, A8, A9, AA, AB, AC, AD, AE, AF, AG, AH, AI, AJ, AK, AL, AM, AN, AO, AP, AQ, AR, AS, AT, AU, AV, AW, AX, AY, AZ, B0, B1, B2, B3, B4, B5, B6, B7, B8, B9, BA, BB, BC, BD, BE, BF, BG, BH, BI, BJ, BK, BL, BM, BN, BO, BP, BQ, BR, BS, BT, BU, BV, BW, BX, BY, BZ, C0, C1, C2, C3, C4, C5, C6, C7, C8, C9, CA, CB, CC, CD, CE, CF, CG, CH, CI, CJ, CK, CL, CM, CN, CO, CP, CQ, CR, CS, CT, CU, CV, CW, CX, CY, CZ, E0, E1, E2, E3, E4, E5, E6, E7, E8, E9, EA, EB, EC, ED, EE, EF, EG, EH, EI, EJ, EK, EL, EM, EN, EO, EP, EQ, ER, ES, ET, EU, EV, EW, EX, EY, EZ, F0, F1, F2, F3, F4, F5, F6, F7, F8, F9, FA, FB, FC, FD, FE, FF, FG, FH, FI, FJ, FK, FL, FM, FN, FO, FP, FQ, FR, FS, FT, FU, FV, FW, FX, FY, FZ, G0, G1, G2, G3, G4, G5, G6, G7, G8, G9, GA, GB, GC, GD, GE, GF, GG, GH, GI, GJ, GK, GL, GM, GN, GO, GP, GQ, GR, GS, GT, GU, GV, GW, GX, GY, GZ, I0, I1, I2, I3, I4, I5, I6, I7, I8, I9, IA, IB, IC, ID, IE, IF, IG, IH, II, IJ, IK, IL, IM, IN, IO, IP, IQ, IR, IS, IT, IU, IV, IW, IX, IY, IZ, J0, J1, J2, J3, J4, J5, J6, J7, J8, J9, JA, JB, JC, JD, JE, JF, JG, JH, JI, JJ, JK, JL, JM], []⟩ w := by
 have HP := Lib.hid hP
 clear hP
 simp only [rest40, Tryd.f3, Option.getD_some, cutC]
 replace hO : Own w0 w [row (pb) 252 PC, row (sb) 260 (full symZ (symL (stX z 0)) c), row (tb) 61 (full stmZ (stL (dtL (D 0) lcE) (List.range 0)) 0), row (kx) 33 #[vI 7, vU 0, vU 0, bF], row (kr) 31 #[vU 0, vU 0], row (pt) 107 #[vN, vN, vN, vN, .map (some mu), .map none, .map none, vN, bF, bF, bF], ((mu, .map (uA ([])) (uN ([]))) : Rw), ((mp, .map #[] 0) : Rw), row (cs) 99 #[vO, vP ms, vN, .map none, vN, vN, vI 0, vI 0, vU 0, vU 0, bF, bF, bF, bF, v8 0, v8 8], row (ms) 99 #[vO, vO, vN, .map none, vN, vN, vI 0, vI 0, vU 0, vU 0, bF, bF, bF, bF, v8 0, v8 6]] X := hO.conv (by rw [sxR_stL])
 obtain ⟨aA, aB, aZ, aa, aC, aD, -⟩ := hO.k4 3 rfl
 obtain ⟨aE, aF, aG, aH, -⟩ := hO.k2 4 rfl
 have HO := Lib.hid hO
 clear hO
 go_wp2_with (first | (with_reducible refine Own.stay (fn := Tryd.f3) ?_) | fail)
 try with_reducible refine Own.Stay.mk ?_
 have hO := HO.out
 clear HO aA aB aZ aa aC aD aE aF aG aH
 obtain ⟨HL, HX⟩ := hid2 hO
 have hP9 := hO.pick [3, 0, 1, 7, 9, 5, 6, 8, 2] dc
 have h9_hn : (stX z 0).length = 1 := (stX_len z 0)
 have h9_hnb : 1 ≤ 100000 := (by omega)
 have h9_hsi : 0 < 1 := (by first | assumption | omega | (simp; done) | (simp; omega))
 have h9_hno : Instr.findNow .string (.string ⟨#[95, 95, 99, 97, 108, 108, 68, 105, 115, 112, 111, 115, 101]⟩) (#[] : Array MapEntry).toList 0 = some none := (by rfl)
 have h9_hnn : 0 ≤ 5000 := (by first | assumption | omega | (simp; done) | (simp; omega))
 have h9_hg0 : w0.cell? ⟨0, 0, none⟩ = some (vU 4294967295) := (by first | assumption | omega | (simp; done) | (simp; omega))
 have h9_hg1 : w0.cell? ⟨0, 1, none⟩ = some (vU 4294967295) := (by first | assumption | omega | (simp; done) | (simp; omega))
 have T9 := finyd0 pb PC sb c (stX z 0) 1 0 mp #[] 0 ms #[vO, vO, vN, .map none, vN, vN, vI 0, vI 0, vU 0, vU 0, bF, bF, bF, bF, v8 0, v8 6] pt #[vN, vN, vN, vN, .map (some mu), .map none, .map none, vN, bF, bF, bF] mu ([]) cs #[vO, vP ms, vN, .map none, vN, vN, vI 0, vI 0, vU 0, vU 0, bF, bF, bF, bF, v8 0, v8 8] kx 7 0 tb 0 0 (D 0) lcE _ _ _ hP9 hf350 hf32 hf105 hf66 hf117 hf187 hf104 hf333 hf23 hf106 h9_hn h9_hnb rfl rfl rfl rfl rfl h9_hsi h9_hno h9_hnn (fun i hi => absurd hi (Nat.not_lt_zero i)) h9_hg0 h9_hg1
 refine Calls.mono T9 ?_
 clear hP9 T9 h9_hn h9_hnb h9_hsi h9_hno h9_hnn h9_hg0 h9_hg1
 rintro e uw1 ⟨nd2, nd3, nd4, nd5, nd6, nd7, nd8, nd9, nd10, nd11, nd12, nd13, nd14, nd15, nd16, nd17, nd18, nd19, nd20, nd21, rfl, pr22, pr23, pr24, pr25, pr26, pr27, pr28, hQ⟩
 replace hO : Own w0 uw1 [row (nd2) 61 (full stmZ [vF 42 nd4, vI 7, vF 67 nd8, vI 7] nd3), row (nd4) 57 #[vS nd5 1 1, v8 0, bF, bF], row (nd5) 54 #[vF 134 nd6, vI 7, vF 315 nd7, vI 7], row (nd6) 136 #[vU 0, vU 0], row (nd8) 76 #[vP nd9, vP nd10, vS tb 0 (0 + 0), vI 0, vI 7], row (nd10) 116 #[vS nd11 1 1, vI 0, vI 7], row (pb) 252 nd18, row (nd12) 260 (full symZ (symL (bump (stF0 (stX z 0) 0 1) 1)) nd13), row (pt) 107 nd19, ((mu, .map (uA nd21) (uN nd21)) : Rw), row (cs) 99 nd20, row (nd14) 31 (full refZ [vU 0, vU 0, vU 0, vU 1, vU 0, vU (2 : Int), vU 0, vU (3 : Int)] nd15), row (nd16) 113 (full dsyZ [vU 0, vU 0, bF, vU 0, vU 1, bF, vU 0, vU (2 : Int), bF, vU 0, vU (3 : Int), bF] nd17), row (tb) 61 (full stmZ (stL (dtL (D 0) lcE) (List.range 0)) 0), row (kr) 31 #[vU 0, vU 0]] X := hQ.back HL.out HX.out [4] dc dc
 clear hQ HL HX
 obtain ⟨ix9, hix9, hax9, hjx9⟩ := hO.ix
 have ab := hjx9 0 _ _ rfl
 have ac := hjx9 1 _ _ rfl
 have ad := hjx9 2 _ _ rfl
 have ae := hjx9 3 _ _ rfl
 have af := hjx9 4 _ _ rfl
 have ag := hjx9 5 _ _ rfl
 have ah := hjx9 6 _ _ rfl
 have ai := hjx9 7 _ _ rfl
 have aj := hjx9 8 _ _ rfl
 have ak := hjx9 9 _ _ rfl
 have al := hjx9 10 _ _ rfl
 have am := hjx9 11 _ _ rfl
 have an := hjx9 12 _ _ rfl
 have ao := hjx9 13 _ _ rfl
 have ap := hjx9 14 _ _ rfl
 clear hjx9
 have bN : Base.plainAt uw1 (nd2) = true := hO.plain 0 rfl
 have aq : uw1.cell? ⟨nd2, 0, none⟩ = some (vF 42 nd4) := hO.cell 0 rfl (0) ((full_at rfl))
 have ar : uw1.cell? ⟨nd2, 1, none⟩ = some (vI 7) := hO.cell 0 rfl (1) ((full_at rfl))
 have cf : uw1.cell? ⟨nd2, 2, none⟩ = some (vF 67 nd8) := hO.cell 0 rfl (2) ((full_at rfl))
 have cg : uw1.cell? ⟨nd2, 3, none⟩ = some (vI 7) := hO.cell 0 rfl (3) ((full_at rfl))
 have au := hO.lt 0 rfl
 have av := hO.free 0 rfl
 obtain ⟨aI, aJ, bO, bP, aK, aL, -⟩ := hO.k4 1 rfl
 obtain ⟨aM, aN, aO, aP, aQ, aR, -⟩ := hO.k4 2 rfl
 obtain ⟨aA, aB, aC, aD, -⟩ := hO.k2 3 rfl
 obtain ⟨aE, aF, aS, aT, bQ, aG, aH, -⟩ := hO.k5 4 rfl
 obtain ⟨aU, aV, aW, aX, aY, -⟩ := hO.k3 5 rfl
 have bV : uw1.cell? ⟨pb, 32, none⟩ = some (bF) := hO.cell 6 rfl (32) (pr23)
 have bW : uw1.cell? ⟨pb, 105, none⟩ = some (vP pt) := hO.cell 6 rfl (105) (pr24)
 have bX : uw1.cell? ⟨pb, 106, none⟩ = some (vS nd12 (1 + 4) (1 + 4 + nd13)) := hO.cell 6 rfl (106) (pr25)
 have bY : uw1.cell? ⟨pb, 350, none⟩ = some (bF) := hO.cell 6 rfl (350) (pr22)
 have aw := hO.lt 6 rfl
 have ax := hO.free 6 rfl
 have bZ : uw1.cell? ⟨pt, 3, none⟩ = some (vS nd16 4 (4 + nd17)) := hO.cell 8 rfl (3) (pr27)
 have ba : uw1.cell? ⟨pt, 4, none⟩ = some (.map (some mu)) := hO.cell 8 rfl (4) (pr26)
 have bb := hO.lt 8 rfl
 have bc := hO.free 8 rfl
 have bd : uw1.cell? ⟨cs, 5, none⟩ = some (vS nd14 4 (4 + nd15)) := hO.cell 10 rfl (5) (pr28)
 have be := hO.lt 10 rfl
 have bf := hO.free 10 rfl
 have bg : Base.plainAt uw1 (nd14) = true := hO.plain 11 rfl
 have bh : uw1.cell? ⟨nd14, 0, none⟩ = some (vU 0) := hO.cell 11 rfl (0) ((full_at rfl))
 have bi : uw1.cell? ⟨nd14, 1, none⟩ = some (vU 0) := hO.cell 11 rfl (1) ((full_at rfl))
 have bj : uw1.cell? ⟨nd14, 2, none⟩ = some (vU 0) := hO.cell 11 rfl (2) ((full_at rfl))
 have bk : uw1.cell? ⟨nd14, 3, none⟩ = some (vU 1) := hO.cell 11 rfl (3) ((full_at rfl))
 have bl : uw1.cell? ⟨nd14, 4, none⟩ = some (vU 0) := hO.cell 11 rfl (4) ((full_at rfl))
 have ay : uw1.cell? ⟨nd14, 5, none⟩ = some (vU (2 : Int)) := hO.cell 11 rfl (5) ((full_at rfl))
 have bm : uw1.cell? ⟨nd14, 6, none⟩ = some (vU 0) := hO.cell 11 rfl (6) ((full_at rfl))
 have bn : uw1.cell? ⟨nd14, 7, none⟩ = some (vU (3 : Int)) := hO.cell 11 rfl (7) ((full_at rfl))
 have az := hO.lt 11 rfl
 have bA := hO.free 11 rfl
 have bB : uw1.cell? ⟨nd16, 0, none⟩ = some (vU 0) := hO.cell 12 rfl (0) ((full_at rfl))
 have bC : uw1.cell? ⟨nd16, 1, none⟩ = some (vU 0) := hO.cell 12 rfl (1) ((full_at rfl))
 have bD : uw1.cell? ⟨nd16, 2, none⟩ = some (bF) := hO.cell 12 rfl (2) ((full_at rfl))
 have bE : uw1.cell? ⟨nd16, 3, none⟩ = some (vU 0) := hO.cell 12 rfl (3) ((full_at rfl))
 have bG : uw1.cell? ⟨nd16, 4, none⟩ = some (vU 1) := hO.cell 12 rfl (4) ((full_at rfl))
 have bH : uw1.cell? ⟨nd16, 5, none⟩ = some (bF) := hO.cell 12 rfl (5) ((full_at rfl))
 have bI : uw1.cell? ⟨nd16, 6, none⟩ = some (vU 0) := hO.cell 12 rfl (6) ((full_at rfl))
 have bJ : uw1.cell? ⟨nd16, 7, none⟩ = some (vU (2 : Int)) := hO.cell 12 rfl (7) ((full_at rfl))
 have bo : uw1.cell? ⟨nd16, 8, none⟩ = some (bF) := hO.cell 12 rfl (8) ((full_at rfl))
 have bp : uw1.cell? ⟨nd16, 9, none⟩ = some (vU 0) := hO.cell 12 rfl (9) ((full_at rfl))
 have bq : uw1.cell? ⟨nd16, 10, none⟩ = some (vU (3 : Int)) := hO.cell 12 rfl (10) ((full_at rfl))
 have br : uw1.cell? ⟨nd16, 11, none⟩ = some (bF) := hO.cell 12 rfl (11) ((full_at rfl))
 have bK := hO.lt 12 rfl
 have bL := hO.free 12 rfl
 have bs : Base.plainAt uw1 (tb) = true := hO.plain 13 rfl
 obtain ⟨bR, bS, bT, bU, bM⟩ := hO.k2 14 rfl
 have HO := Lib.hid hO
 clear hO
 go_wp2_with (first | (with_reducible refine Own.stay (fn := Tryd.f3) ?_) | fail)
 try with_reducible refine Own.Stay.mk ?_
 have hO := HO.out
 clear HO hix9 hax9 ab ac ad ae af ag ah ai aj ak al am an ao ap ix9 bN aq ar cf cg au av aI aJ bO bP aK aL aM aN aO aP aQ aR aA aB aC aD aE aF aS aT bQ aG aH aU aV aW aX aY bV bW bX bY aw ax bZ ba bb bc bd be bf bg bh bi bj bk bl ay bm bn az bA bB bC bD bE bG bH bI bJ bo bp bq br bK bL bs bR bS bT bU bM
 obtain ⟨HL, HX⟩ := hid2 hO
 have hP9 := hO.pick [] dc
 have T9 := asLocal nd4 7 _ _ _ hP9 
 refine Calls.mono T9 ?_
 clear hP9 T9
 rintro e uw29 ⟨rfl, hQ⟩
 replace hO : Own w0 uw29 [row (nd2) 61 (full stmZ [vF 42 nd4, vI 7, vF 67 nd8, vI 7] nd3), row (nd4) 57 #[vS nd5 1 1, v8 0, bF, bF], row (nd5) 54 #[vF 134 nd6, vI 7, vF 315 nd7, vI 7], row (nd6) 136 #[vU 0, vU 0], row (nd8) 76 #[vP nd9, vP nd10, vS tb 0 (0 + 0), vI 0, vI 7], row (nd10) 116 #[vS nd11 1 1, vI 0, vI 7], row (pb) 252 nd18, row (nd12) 260 (full symZ (symL (bump (stF0 (stX z 0) 0 1) 1)) nd13), row (pt) 107 nd19, ((mu, .map (uA nd21) (uN nd21)) : Rw), row (cs) 99 nd20, row (nd14) 31 (full refZ [vU 0, vU 0, vU 0, vU 1, vU 0, vU (2 : Int), vU 0, vU (3 : Int)] nd15), row (nd16) 113 (full dsyZ [vU 0, vU 0, bF, vU 0, vU 1, bF, vU 0, vU (2 : Int), bF, vU 0, vU (3 : Int), bF] nd17), row (tb) 61 (full stmZ (stL (dtL (D 0) lcE) (List.range 0)) 0), row (kr) 31 #[vU 0, vU 0]] X := hQ.back HL.out HX.out [0, 1, 2, 3, 4, 5, 6, 7, 8, 9, 10, 11, 12, 13, 14] dc dc
 clear hQ HL HX
 obtain ⟨aI, aJ, bO, bP, aK, aL, -⟩ := hO.k4 1 rfl
 obtain ⟨aM, aN, aO, aP, aQ, aR, -⟩ := hO.k4 2 rfl
 obtain ⟨aA, aB, aC, aD, -⟩ := hO.k2 3 rfl
 obtain ⟨aE, aF, aS, aT, bQ, aG, aH, -⟩ := hO.k5 4 rfl
 obtain ⟨aU, aV, aW, aX, aY, -⟩ := hO.k3 5 rfl
 obtain ⟨bR, bS, bT, bU, -⟩ := hO.k2 14 rfl
 have HO := Lib.hid hO
 clear hO
 go_wp2_with (first | (with_reducible refine Own.stay (fn := Tryd.f3) ?_) | fail)
 try with_reducible refine Own.Stay.mk ?_
 have hO := HO.out
 clear HO aI aJ bO bP aK aL aM aN aO aP aQ aR aA aB aC aD aE aF aS aT bQ aG aH aU aV aW aX aY bR bS bT bU
 obtain ⟨HL, HX⟩ := hid2 hO
 have hP9 := hO.pick [3] dc
 have T9 := bindRef nd6 7 0 0 _ _ _ hP9 
 refine Calls.mono T9 ?_
 clear hP9 T9
 rintro e uw30 ⟨rfl, hQ⟩
 replace hO : Own w0 uw30 [row (nd6) 136 #[vU 0, vU 0], row (nd2) 61 (full stmZ [vF 42 nd4, vI 7, vF 67 nd8, vI 7] nd3), row (nd4) 57 #[vS nd5 1 1, v8 0, bF, bF], row (nd5) 54 #[vF 134 nd6, vI 7, vF 315 nd7, vI 7], row (nd8) 76 #[vP nd9, vP nd10, vS tb 0 (0 + 0), vI 0, vI 7], row (nd10) 116 #[vS nd11 1 1, vI 0, vI 7], row (pb) 252 nd18, row (nd12) 260 (full symZ (symL (bump (stF0 (stX z 0) 0 1) 1)) nd13), row (pt) 107 nd19, ((mu, .map (uA nd21) (uN nd21)) : Rw), row (cs) 99 nd20, row (nd14) 31 (full refZ [vU 0, vU 0, vU 0, vU 1, vU 0, vU (2 : Int), vU 0, vU (3 : Int)] nd15), row (nd16) 113 (full dsyZ [vU 0, vU 0, bF, vU 0, vU 1, bF, vU 0, vU (2 : Int), bF, vU 0, vU (3 : Int), bF] nd17), row (tb) 61 (full stmZ (stL (dtL (D 0) lcE) (List.range 0)) 0), row (kr) 31 #[vU 0, vU 0]] X := hQ.back HL.out HX.out [0, 1, 2, 4, 5, 6, 7, 8, 9, 10, 11, 12, 13, 14] dc dc
 clear hQ HL HX
 obtain ⟨ix9, hix9, hax9, hjx9⟩ := hO.ix
 have ab := hjx9 0 _ _ rfl
 have ac := hjx9 1 _ _ rfl
 have ad := hjx9 2 _ _ rfl
 have ae := hjx9 3 _ _ rfl
 have af := hjx9 4 _ _ rfl
 have ag := hjx9 5 _ _ rfl
 have ah := hjx9 6 _ _ rfl
 have ai := hjx9 7 _ _ rfl
 have aj := hjx9 8 _ _ rfl
 have ak := hjx9 9 _ _ rfl
 have al := hjx9 10 _ _ rfl
 have am := hjx9 11 _ _ rfl
 have an := hjx9 12 _ _ rfl
 have ao := hjx9 13 _ _ rfl
 have ap := hjx9 14 _ _ rfl
 clear hjx9
 obtain ⟨aq, ar, au, av, -⟩ := hO.k2 0 rfl
 have ch : Base.plainAt uw30 (nd2) = true := hO.plain 1 rfl
 have aI : uw30.cell? ⟨nd2, 0, none⟩ = some (vF 42 nd4) := hO.cell 1 rfl (0) ((full_at rfl))
 have aJ : uw30.cell? ⟨nd2, 1, none⟩ = some (vI 7) := hO.cell 1 rfl (1) ((full_at rfl))
 have bO : uw30.cell? ⟨nd2, 2, none⟩ = some (vF 67 nd8) := hO.cell 1 rfl (2) ((full_at rfl))
 have bP : uw30.cell? ⟨nd2, 3, none⟩ = some (vI 7) := hO.cell 1 rfl (3) ((full_at rfl))
 have aK := hO.lt 1 rfl
 have aL := hO.free 1 rfl
 obtain ⟨aM, aN, aO, aP, aQ, aR, -⟩ := hO.k4 2 rfl
 obtain ⟨aA, aB, aZ, aa, aC, aD, -⟩ := hO.k4 3 rfl
 obtain ⟨aE, aF, aS, aT, bQ, aG, aH, -⟩ := hO.k5 4 rfl
 obtain ⟨aU, aV, aW, aX, aY, -⟩ := hO.k3 5 rfl
 have bV : uw30.cell? ⟨pb, 32, none⟩ = some (bF) := hO.cell 6 rfl (32) (pr23)
 have bW : uw30.cell? ⟨pb, 105, none⟩ = some (vP pt) := hO.cell 6 rfl (105) (pr24)
 have bX : uw30.cell? ⟨pb, 106, none⟩ = some (vS nd12 (1 + 4) (1 + 4 + nd13)) := hO.cell 6 rfl (106) (pr25)
 have bY : uw30.cell? ⟨pb, 350, none⟩ = some (bF) := hO.cell 6 rfl (350) (pr22)
 have aw := hO.lt 6 rfl
 have ax := hO.free 6 rfl
 have bZ : uw30.cell? ⟨pt, 3, none⟩ = some (vS nd16 4 (4 + nd17)) := hO.cell 8 rfl (3) (pr27)
 have ba : uw30.cell? ⟨pt, 4, none⟩ = some (.map (some mu)) := hO.cell 8 rfl (4) (pr26)
 have bb := hO.lt 8 rfl
 have bc := hO.free 8 rfl
 have bd : uw30.cell? ⟨cs, 5, none⟩ = some (vS nd14 4 (4 + nd15)) := hO.cell 10 rfl (5) (pr28)
 have be := hO.lt 10 rfl
 have bf := hO.free 10 rfl
 have bg : Base.plainAt uw30 (nd14) = true := hO.plain 11 rfl
 have bh : uw30.cell? ⟨nd14, 0, none⟩ = some (vU 0) := hO.cell 11 rfl (0) ((full_at rfl))
 have bi : uw30.cell? ⟨nd14, 1, none⟩ = some (vU 0) := hO.cell 11 rfl (1) ((full_at rfl))
 have bj : uw30.cell? ⟨nd14, 2, none⟩ = some (vU 0) := hO.cell 11 rfl (2) ((full_at rfl))
 have bk : uw30.cell? ⟨nd14, 3, none⟩ = some (vU 1) := hO.cell 11 rfl (3) ((full_at rfl))
 have bl : uw30.cell? ⟨nd14, 4, none⟩ = some (vU 0) := hO.cell 11 rfl (4) ((full_at rfl))
 have ay : uw30.cell? ⟨nd14, 5, none⟩ = some (vU (2 : Int)) := hO.cell 11 rfl (5) ((full_at rfl))
 have bm : uw30.cell? ⟨nd14, 6, none⟩ = some (vU 0) := hO.cell 11 rfl (6) ((full_at rfl))
 have bn : uw30.cell? ⟨nd14, 7, none⟩ = some (vU (3 : Int)) := hO.cell 11 rfl (7) ((full_at rfl))
 have az := hO.lt 11 rfl
 have bA := hO.free 11 rfl
 have bB : uw30.cell? ⟨nd16, 0, none⟩ = some (vU 0) := hO.cell 12 rfl (0) ((full_at rfl))
 have bC : uw30.cell? ⟨nd16, 1, none⟩ = some (vU 0) := hO.cell 12 rfl (1) ((full_at rfl))
 have bD : uw30.cell? ⟨nd16, 2, none⟩ = some (bF) := hO.cell 12 rfl (2) ((full_at rfl))
 have bE : uw30.cell? ⟨nd16, 3, none⟩ = some (vU 0) := hO.cell 12 rfl (3) ((full_at rfl))
 have bG : uw30.cell? ⟨nd16, 4, none⟩ = some (vU 1) := hO.cell 12 rfl (4) ((full_at rfl))
 have bH : uw30.cell? ⟨nd16, 5, none⟩ = some (bF) := hO.cell 12 rfl (5) ((full_at rfl))
 have bI : uw30.cell? ⟨nd16, 6, none⟩ = some (vU 0) := hO.cell 12 rfl (6) ((full_at rfl))
 have bJ : uw30.cell? ⟨nd16, 7, none⟩ = some (vU (2 : Int)) := hO.cell 12 rfl (7) ((full_at rfl))
 have bo : uw30.cell? ⟨nd16, 8, none⟩ = some (bF) := hO.cell 12 rfl (8) ((full_at rfl))
 have bp : uw30.cell? ⟨nd16, 9, none⟩ = some (vU 0) := hO.cell 12 rfl (9) ((full_at rfl))
 have bq : uw30.cell? ⟨nd16, 10, none⟩ = some (vU (3 : Int)) := hO.cell 12 rfl (10) ((full_at rfl))
 have br : uw30.cell? ⟨nd16, 11, none⟩ = some (bF) := hO.cell 12 rfl (11) ((full_at rfl))
 have bK := hO.lt 12 rfl
 have bL := hO.free 12 rfl
 have bs : Base.plainAt uw30 (tb) = true := hO.plain 13 rfl
 obtain ⟨bR, bS, bT, bU, bM⟩ := hO.k2 14 rfl
 have HO := Lib.hid hO
 clear hO
 go_wp2_with (first | (with_reducible refine Own.stay (fn := Tryd.f3) ?_) | fail)
 try with_reducible refine Own.Stay.mk ?_
 have hO := HO.out
 clear HO hix9 hax9 ab ac ad ae af ag ah ai aj ak al am an ao ap ix9 aq ar au av ch aI aJ bO bP aK aL aM aN aO aP aQ aR aA aB aZ aa aC aD aE aF aS aT bQ aG aH aU aV aW aX aY bV bW bX bY aw ax bZ ba bb bc bd be bf bg bh bi bj bk bl ay bm bn az bA bB bC bD bE bG bH bI bJ bo bp bq br bK bL bs bR bS bT bU bM
 generalize hW : World.alloc _ _ = W32
 have hN : Own w0 W32 [row (uw30.heap.size) 31 #[vU 0, vU 0], row (nd6) 136 #[vU 0, vU 0], row (nd2) 61 (full stmZ [vF 42 nd4, vI 7, vF 67 nd8, vI 7] nd3), row (nd4) 57 #[vS nd5 1 1, v8 0, bF, bF], row (nd5) 54 #[vF 134 nd6, vI 7, vF 315 nd7, vI 7], row (nd8) 76 #[vP nd9, vP nd10, vS tb 0 (0 + 0), vI 0, vI 7], row (nd10) 116 #[vS nd11 1 1, vI 0, vI 7], row (pb) 252 nd18, row (nd12) 260 (full symZ (symL (bump (stF0 (stX z 0) 0 1) 1)) nd13), row (pt) 107 nd19, ((mu, .map (uA nd21) (uN nd21)) : Rw), row (cs) 99 nd20, row (nd14) 31 (full refZ [vU 0, vU 0, vU 0, vU 1, vU 0, vU (2 : Int), vU 0, vU (3 : Int)] nd15), row (nd16) 113 (full dsyZ [vU 0, vU 0, bF, vU 0, vU 1, bF, vU 0, vU (2 : Int), bF, vU 0, vU (3 : Int), bF] nd17), row (tb) 61 (full stmZ (stL (dtL (D 0) lcE) (List.range 0)) 0), row (kr) 31 #[vU 0, vU 0]] X := by
  rw [← hW]
  exact (hO).alloc' _ (uw30.heap.size) (by simp)
 clear hW hO
 generalize uw30.heap.size = B31 at hN ⊢
 have hO := hN
 clear hN
 obtain ⟨HL, HX⟩ := hid2 hO
 have hP9 := hO.pick [] dc
 have T9 := asTry nd8 7 _ _ _ hP9 
 refine Calls.mono T9 ?_
 clear hP9 T9
 rintro e uw33 ⟨rfl, hQ⟩
 replace hO : Own w0 uw33 [row (B31) 31 #[vU 0, vU 0], row (nd6) 136 #[vU 0, vU 0], row (nd2) 61 (full stmZ [vF 42 nd4, vI 7, vF 67 nd8, vI 7] nd3), row (nd4) 57 #[vS nd5 1 1, v8 0, bF, bF], row (nd5) 54 #[vF 134 nd6, vI 7, vF 315 nd7, vI 7], row (nd8) 76 #[vP nd9, vP nd10, vS tb 0 (0 + 0), vI 0, vI 7], row (nd10) 116 #[vS nd11 1 1, vI 0, vI 7], row (pb) 252 nd18, row (nd12) 260 (full symZ (symL (bump (stF0 (stX z 0) 0 1) 1)) nd13), row (pt) 107 nd19, ((mu, .map (uA nd21) (uN nd21)) : Rw), row (cs) 99 nd20, row (nd14) 31 (full refZ [vU 0, vU 0, vU 0, vU 1, vU 0, vU (2 : Int), vU 0, vU (3 : Int)] nd15), row (nd16) 113 (full dsyZ [vU 0, vU 0, bF, vU 0, vU 1, bF, vU 0, vU (2 : Int), bF, vU 0, vU (3 : Int), bF] nd17), row (tb) 61 (full stmZ (stL (dtL (D 0) lcE) (List.range 0)) 0), row (kr) 31 #[vU 0, vU 0]] X := hQ.back HL.out HX.out [0, 1, 2, 3, 4, 5, 6, 7, 8, 9, 10, 11, 12, 13, 14, 15] dc dc
 clear hQ HL HX
 obtain ⟨ix9, hix9, hax9, hjx9⟩ := hO.ix
 have ab := hjx9 0 _ _ rfl
 have ac := hjx9 1 _ _ rfl
 have ad := hjx9 2 _ _ rfl
 have ae := hjx9 3 _ _ rfl
 have af := hjx9 4 _ _ rfl
 have ag := hjx9 5 _ _ rfl
 have ah := hjx9 6 _ _ rfl
 have ai := hjx9 7 _ _ rfl
 have aj := hjx9 8 _ _ rfl
 have ak := hjx9 9 _ _ rfl
 have al := hjx9 10 _ _ rfl
 have am := hjx9 11 _ _ rfl
 have an := hjx9 12 _ _ rfl
 have ao := hjx9 13 _ _ rfl
 have ap := hjx9 14 _ _ rfl
 have bt := hjx9 15 _ _ rfl
 clear hjx9
 obtain ⟨aq, ar, au, av, bN⟩ := hO.k2 0 rfl
 obtain ⟨aI, aJ, aK, aL, -⟩ := hO.k2 1 rfl
 have bu : Base.plainAt uw33 (nd2) = true := hO.plain 2 rfl
 have aM : uw33.cell? ⟨nd2, 0, none⟩ = some (vF 42 nd4) := hO.cell 2 rfl (0) ((full_at rfl))
 have aN : uw33.cell? ⟨nd2, 1, none⟩ = some (vI 7) := hO.cell 2 rfl (1) ((full_at rfl))
 have aO : uw33.cell? ⟨nd2, 2, none⟩ = some (vF 67 nd8) := hO.cell 2 rfl (2) ((full_at rfl))
 have aP : uw33.cell? ⟨nd2, 3, none⟩ = some (vI 7) := hO.cell 2 rfl (3) ((full_at rfl))
 have aQ := hO.lt 2 rfl
 have aR := hO.free 2 rfl
 obtain ⟨aA, aB, aZ, aa, aC, aD, -⟩ := hO.k4 3 rfl
 obtain ⟨aE, aF, aS, aT, aG, aH, -⟩ := hO.k4 4 rfl
 obtain ⟨aU, aV, aW, bv, bw, aX, aY, -⟩ := hO.k5 5 rfl
 obtain ⟨bx, bz, cA, aw, ax, -⟩ := hO.k3 6 rfl
 have cB : uw33.cell? ⟨pb, 32, none⟩ = some (bF) := hO.cell 7 rfl (32) (pr23)
 have cC : uw33.cell? ⟨pb, 105, none⟩ = some (vP pt) := hO.cell 7 rfl (105) (pr24)
 have cD : uw33.cell? ⟨pb, 106, none⟩ = some (vS nd12 (1 + 4) (1 + 4 + nd13)) := hO.cell 7 rfl (106) (pr25)
 have cE : uw33.cell? ⟨pb, 350, none⟩ = some (bF) := hO.cell 7 rfl (350) (pr22)
 have cF := hO.lt 7 rfl
 have cG := hO.free 7 rfl
 have cH : uw33.cell? ⟨pt, 3, none⟩ = some (vS nd16 4 (4 + nd17)) := hO.cell 9 rfl (3) (pr27)
 have cI : uw33.cell? ⟨pt, 4, none⟩ = some (.map (some mu)) := hO.cell 9 rfl (4) (pr26)
 have cJ := hO.lt 9 rfl
 have cK := hO.free 9 rfl
 have ay : uw33.cell? ⟨cs, 5, none⟩ = some (vS nd14 4 (4 + nd15)) := hO.cell 11 rfl (5) (pr28)
 have az := hO.lt 11 rfl
 have bA := hO.free 11 rfl
 have cL : Base.plainAt uw33 (nd14) = true := hO.plain 12 rfl
 have bB : uw33.cell? ⟨nd14, 0, none⟩ = some (vU 0) := hO.cell 12 rfl (0) ((full_at rfl))
 have bC : uw33.cell? ⟨nd14, 1, none⟩ = some (vU 0) := hO.cell 12 rfl (1) ((full_at rfl))
 have bD : uw33.cell? ⟨nd14, 2, none⟩ = some (vU 0) := hO.cell 12 rfl (2) ((full_at rfl))
 have bE : uw33.cell? ⟨nd14, 3, none⟩ = some (vU 1) := hO.cell 12 rfl (3) ((full_at rfl))
 have bG : uw33.cell? ⟨nd14, 4, none⟩ = some (vU 0) := hO.cell 12 rfl (4) ((full_at rfl))
 have bH : uw33.cell? ⟨nd14, 5, none⟩ = some (vU (2 : Int)) := hO.cell 12 rfl (5) ((full_at rfl))
 have bI : uw33.cell? ⟨nd14, 6, none⟩ = some (vU 0) := hO.cell 12 rfl (6) ((full_at rfl))
 have bJ : uw33.cell? ⟨nd14, 7, none⟩ = some (vU (3 : Int)) := hO.cell 12 rfl (7) ((full_at rfl))
 have bK := hO.lt 12 rfl
 have bL := hO.free 12 rfl
 have cM : uw33.cell? ⟨nd16, 0, none⟩ = some (vU 0) := hO.cell 13 rfl (0) ((full_at rfl))
 have cN : uw33.cell? ⟨nd16, 1, none⟩ = some (vU 0) := hO.cell 13 rfl (1) ((full_at rfl))
 have cO : uw33.cell? ⟨nd16, 2, none⟩ = some (bF) := hO.cell 13 rfl (2) ((full_at rfl))
 have cP : uw33.cell? ⟨nd16, 3, none⟩ = some (vU 0) := hO.cell 13 rfl (3) ((full_at rfl))
 have cQ : uw33.cell? ⟨nd16, 4, none⟩ = some (vU 1) := hO.cell 13 rfl (4) ((full_at rfl))
 have cR : uw33.cell? ⟨nd16, 5, none⟩ = some (bF) := hO.cell 13 rfl (5) ((full_at rfl))
 have cS : uw33.cell? ⟨nd16, 6, none⟩ = some (vU 0) := hO.cell 13 rfl (6) ((full_at rfl))
 have cT : uw33.cell? ⟨nd16, 7, none⟩ = some (vU (2 : Int)) := hO.cell 13 rfl (7) ((full_at rfl))
 have cU : uw33.cell? ⟨nd16, 8, none⟩ = some (bF) := hO.cell 13 rfl (8) ((full_at rfl))
 have cV : uw33.cell? ⟨nd16, 9, none⟩ = some (vU 0) := hO.cell 13 rfl (9) ((full_at rfl))
 have cW : uw33.cell? ⟨nd16, 10, none⟩ = some (vU (3 : Int)) := hO.cell 13 rfl (10) ((full_at rfl))
 have cX : uw33.cell? ⟨nd16, 11, none⟩ = some (bF) := hO.cell 13 rfl (11) ((full_at rfl))
 have cY := hO.lt 13 rfl
 have cZ := hO.free 13 rfl
 have bM : Base.plainAt uw33 (tb) = true := hO.plain 14 rfl
 obtain ⟨ca, cb, cc, cd, ce⟩ := hO.k2 15 rfl
 have HO := Lib.hid hO
 clear hO
 go_wp2_with (first | (with_reducible refine Own.stay (fn := Tryd.f3) ?_) | fail)
 try with_reducible refine Own.Stay.mk ?_
 have hO := HO.out
 clear HO hix9 hax9 ab ac ad ae af ag ah ai aj ak al am an ao ap bt ix9 aq ar au av bN aI aJ aK aL bu aM aN aO aP aQ aR aA aB aZ aa aC aD aE aF aS aT aG aH aU aV aW bv bw aX aY bx bz cA aw ax cB cC cD cE cF cG cH cI cJ cK ay az bA cL bB bC bD bE bG bH bI bJ bK bL cM cN cO cP cQ cR cS cT cU cV cW cX cY cZ bM ca cb cc cd ce
 obtain ⟨HL, HX⟩ := hid2 hO
 have hP9 := hO.pick [] dc
 have T9 := asXclN nd8 7 _ _ _ hP9 
 refine Calls.mono T9 ?_
 clear hP9 T9
 rintro e uw34 ⟨rfl, hQ⟩
 replace hO : Own w0 uw34 [row (B31) 31 #[vU 0, vU 0], row (nd6) 136 #[vU 0, vU 0], row (nd2) 61 (full stmZ [vF 42 nd4, vI 7, vF 67 nd8, vI 7] nd3), row (nd4) 57 #[vS nd5 1 1, v8 0, bF, bF], row (nd5) 54 #[vF 134 nd6, vI 7, vF 315 nd7, vI 7], row (nd8) 76 #[vP nd9, vP nd10, vS tb 0 (0 + 0), vI 0, vI 7], row (nd10) 116 #[vS nd11 1 1, vI 0, vI 7], row (pb) 252 nd18, row (nd12) 260 (full symZ (symL (bump (stF0 (stX z 0) 0 1) 1)) nd13), row (pt) 107 nd19, ((mu, .map (uA nd21) (uN nd21)) : Rw), row (cs) 99 nd20, row (nd14) 31 (full refZ [vU 0, vU 0, vU 0, vU 1, vU 0, vU (2 : Int), vU 0, vU (3 : Int)] nd15), row (nd16) 113 (full dsyZ [vU 0, vU 0, bF, vU 0, vU 1, bF, vU 0, vU (2 : Int), bF, vU 0, vU (3 : Int), bF] nd17), row (tb) 61 (full stmZ (stL (dtL (D 0) lcE) (List.range 0)) 0), row (kr) 31 #[vU 0, vU 0]] X := hQ.back HL.out HX.out [0, 1, 2, 3, 4, 5, 6, 7, 8, 9, 10, 11, 12, 13, 14, 15] dc dc
 clear hQ HL HX
 obtain ⟨ix9, hix9, hax9, hjx9⟩ := hO.ix
 have ab := hjx9 0 _ _ rfl
 have ac := hjx9 1 _ _ rfl
 have ad := hjx9 2 _ _ rfl
 have ae := hjx9 3 _ _ rfl
 have af := hjx9 4 _ _ rfl
 have ag := hjx9 5 _ _ rfl
 have ah := hjx9 6 _ _ rfl
 have ai := hjx9 7 _ _ rfl
 have aj := hjx9 8 _ _ rfl
 have ak := hjx9 9 _ _ rfl
 have al := hjx9 10 _ _ rfl
 have am := hjx9 11 _ _ rfl
 have an := hjx9 12 _ _ rfl
 have ao := hjx9 13 _ _ rfl
 have ap := hjx9 14 _ _ rfl
 have bt := hjx9 15 _ _ rfl
 clear hjx9
 obtain ⟨aq, ar, au, av, bN⟩ := hO.k2 0 rfl
 obtain ⟨aI, aJ, aK, aL, -⟩ := hO.k2 1 rfl
 have bu : Base.plainAt uw34 (nd2) = true := hO.plain 2 rfl
 have aM : uw34.cell? ⟨nd2, 0, none⟩ = some (vF 42 nd4) := hO.cell 2 rfl (0) ((full_at rfl))
 have aN : uw34.cell? ⟨nd2, 1, none⟩ = some (vI 7) := hO.cell 2 rfl (1) ((full_at rfl))
 have aO : uw34.cell? ⟨nd2, 2, none⟩ = some (vF 67 nd8) := hO.cell 2 rfl (2) ((full_at rfl))
 have aP : uw34.cell? ⟨nd2, 3, none⟩ = some (vI 7) := hO.cell 2 rfl (3) ((full_at rfl))
 have aQ := hO.lt 2 rfl
 have aR := hO.free 2 rfl
 obtain ⟨aA, aB, aZ, aa, aC, aD, -⟩ := hO.k4 3 rfl
 obtain ⟨aE, aF, aS, aT, aG, aH, -⟩ := hO.k4 4 rfl
 obtain ⟨aU, aV, aW, bv, bw, aX, aY, -⟩ := hO.k5 5 rfl
 obtain ⟨bx, bz, cA, aw, ax, -⟩ := hO.k3 6 rfl
 have cB : uw34.cell? ⟨pb, 32, none⟩ = some (bF) := hO.cell 7 rfl (32) (pr23)
 have cC : uw34.cell? ⟨pb, 105, none⟩ = some (vP pt) := hO.cell 7 rfl (105) (pr24)
 have cD : uw34.cell? ⟨pb, 106, none⟩ = some (vS nd12 (1 + 4) (1 + 4 + nd13)) := hO.cell 7 rfl (106) (pr25)
 have cE : uw34.cell? ⟨pb, 350, none⟩ = some (bF) := hO.cell 7 rfl (350) (pr22)
 have cF := hO.lt 7 rfl
 have cG := hO.free 7 rfl
 have cH : uw34.cell? ⟨pt, 3, none⟩ = some (vS nd16 4 (4 + nd17)) := hO.cell 9 rfl (3) (pr27)
 have cI : uw34.cell? ⟨pt, 4, none⟩ = some (.map (some mu)) := hO.cell 9 rfl (4) (pr26)
 have cJ := hO.lt 9 rfl
 have cK := hO.free 9 rfl
 have ay : uw34.cell? ⟨cs, 5, none⟩ = some (vS nd14 4 (4 + nd15)) := hO.cell 11 rfl (5) (pr28)
 have az := hO.lt 11 rfl
 have bA := hO.free 11 rfl
 have cL : Base.plainAt uw34 (nd14) = true := hO.plain 12 rfl
 have bB : uw34.cell? ⟨nd14, 0, none⟩ = some (vU 0) := hO.cell 12 rfl (0) ((full_at rfl))
 have bC : uw34.cell? ⟨nd14, 1, none⟩ = some (vU 0) := hO.cell 12 rfl (1) ((full_at rfl))
 have bD : uw34.cell? ⟨nd14, 2, none⟩ = some (vU 0) := hO.cell 12 rfl (2) ((full_at rfl))
 have bE : uw34.cell? ⟨nd14, 3, none⟩ = some (vU 1) := hO.cell 12 rfl (3) ((full_at rfl))
 have bG : uw34.cell? ⟨nd14, 4, none⟩ = some (vU 0) := hO.cell 12 rfl (4) ((full_at rfl))
 have bH : uw34.cell? ⟨nd14, 5, none⟩ = some (vU (2 : Int)) := hO.cell 12 rfl (5) ((full_at rfl))
 have bI : uw34.cell? ⟨nd14, 6, none⟩ = some (vU 0) := hO.cell 12 rfl (6) ((full_at rfl))
 have bJ : uw34.cell? ⟨nd14, 7, none⟩ = some (vU (3 : Int)) := hO.cell 12 rfl (7) ((full_at rfl))
 have bK := hO.lt 12 rfl
 have bL := hO.free 12 rfl
 have cM : uw34.cell? ⟨nd16, 0, none⟩ = some (vU 0) := hO.cell 13 rfl (0) ((full_at rfl))
 have cN : uw34.cell? ⟨nd16, 1, none⟩ = some (vU 0) := hO.cell 13 rfl (1) ((full_at rfl))
 have cO : uw34.cell? ⟨nd16, 2, none⟩ = some (bF) := hO.cell 13 rfl (2) ((full_at rfl))
 have cP : uw34.cell? ⟨nd16, 3, none⟩ = some (vU 0) := hO.cell 13 rfl (3) ((full_at rfl))
 have cQ : uw34.cell? ⟨nd16, 4, none⟩ = some (vU 1) := hO.cell 13 rfl (4) ((full_at rfl))
 have cR : uw34.cell? ⟨nd16, 5, none⟩ = some (bF) := hO.cell 13 rfl (5) ((full_at rfl))
 have cS : uw34.cell? ⟨nd16, 6, none⟩ = some (vU 0) := hO.cell 13 rfl (6) ((full_at rfl))
 have cT : uw34.cell? ⟨nd16, 7, none⟩ = some (vU (2 : Int)) := hO.cell 13 rfl (7) ((full_at rfl))
 have cU : uw34.cell? ⟨nd16, 8, none⟩ = some (bF) := hO.cell 13 rfl (8) ((full_at rfl))
 have cV : uw34.cell? ⟨nd16, 9, none⟩ = some (vU 0) := hO.cell 13 rfl (9) ((full_at rfl))
 have cW : uw34.cell? ⟨nd16, 10, none⟩ = some (vU (3 : Int)) := hO.cell 13 rfl (10) ((full_at rfl))
 have cX : uw34.cell? ⟨nd16, 11, none⟩ = some (bF) := hO.cell 13 rfl (11) ((full_at rfl))
 have cY := hO.lt 13 rfl
 have cZ := hO.free 13 rfl
 have bM : Base.plainAt uw34 (tb) = true := hO.plain 14 rfl
 obtain ⟨ca, cb, cc, cd, ce⟩ := hO.k2 15 rfl
 have HO := Lib.hid hO
 clear hO
 go_wp2_with (first | (with_reducible refine Own.stay (fn := Tryd.f3) ?_) | fail)
 try with_reducible refine Own.Stay.mk ?_
 have hO := HO.out
 clear HO hix9 hax9 ab ac ad ae af ag ah ai aj ak al am an ao ap bt ix9 aq ar au av bN aI aJ aK aL bu aM aN aO aP aQ aR aA aB aZ aa aC aD aE aF aS aT aG aH aU aV aW bv bw aX aY bx bz cA aw ax cB cC cD cE cF cG cH cI cJ cK ay az bA cL bB bC bD bE bG bH bI bJ bK bL cM cN cO cP cQ cR cS cT cU cV cW cX cY cZ bM ca cb cc cd ce
 exact HP.out _ (hO.sub [] dc)
end Go.Proofs.YtikopplofkemlaaDoor.Use
