/- Several texts in one. No condition. -/
import Derived.Test.YtikopplofkemlaaDoorDsb
import Derived.Test.YtikopplofkemlaaDoorFop
namespace Go.Proofs.YtikopplofkemlaaDoor.Use
open Go.ChangeShapes Go.WideShapes Go.ChangeAt Go.RowKit Go.Sort Own
set_option linter.unusedVariables false
noncomputable def rg43a : Code := cutC 9 (Tryd.f4.body.getD .skip)
noncomputable def rg43b : Code := cutC 20 (Tryd.f4.body.getD .skip)
noncomputable def rg43c : Code := cutC 21 (Tryd.f4.body.getD .skip)
noncomputable def rg43d : Code := cutC 23 (Tryd.f4.body.getD .skip)
noncomputable def rg43e : Code := cutC 24 (Tryd.f4.body.getD .skip)
noncomputable def rg43f : Code := cutC 26 (Tryd.f4.body.getD .skip)
/-- The names of the symbols. -/
def nmG (nm : ByteArray) (q : Nat) : ByteArray := match q with
 | 0 => nm
 | 1 => (un nm)
 | 2 => ⟨#[95, 115, 116, 97, 99, 107]⟩
 | 3 => ⟨#[95, 95, 117, 115, 105, 110, 103]⟩
 | 4 => ⟨#[95]⟩
 | 5 => ⟨#[95, 101, 114, 114, 111, 114]⟩
 | 6 => ⟨#[95, 104, 97, 115, 69, 114, 114, 111, 114]⟩
 | 7 => ⟨#[95, 95, 99, 97, 108, 108, 68, 105, 115, 112, 111, 115, 101]⟩
 | _ => ⟨#[95, 112, 114, 111, 109, 105, 115, 101]⟩
def Hg43b (nm : ByteArray) (awb : Bool) (ng : Nat) (nd : Nat) (ss : List Sy) (GL : List Value) (DL : List Value) (pb : Nat) (PC : Array Value) (sb2 : Nat) (c2 : Nat) (pt : Nat) (QC : Array Value) (cs : Nat) (KC : Array Value) (gb2 : Nat) (cg2 : Nat) (db : Nat) (cd : Nat) (orf : Nat) (w0 : World) (X : Nat → Obj → Prop) (Q : Exit → Act → World → Prop) : Prop :=
 ∀ (rt rs : Nat) ⦃A0 A1 A3 A4 A5 A6 A7 A9 AA AB AD AE AF AH AK AL AM AN AO AP AQ AR AS AT AU AV AW AX AY AZ B0 B1 B2 B3 B4 B5 B6 B7 B8 B9 BA BB BC BD BE BF BG BH BI BJ BK BL BM BN BO BP BQ BR BS BT BU BV BW BX BY BZ C0 C1 C2 C3 C4 C5 C6 C7 C8 C9 CA CB CC CD CE CF CG CH CI CJ CK CL CM CN CO CP CQ CR CS CT CU CV CW CX CY CZ E0 E1 E2 E3 E4 E5 E6 E7 E8 E9 EA EB EC ED EE EF EG EH EI EJ EK EL EM EN EO EP EQ ER ES ET EU EV EW EX EY EZ F0 F1 F2 F3 F4 F5 F6 F7 F8 F9 FA FB FC FD FE FF FG FH FI FJ FK FL FM FN FO FP FQ FR FS FT FU FV FW FX FY FZ G0 G1 G2 G3 G4 G5 G6 G7 G8 G9 GA GB GC GD GE GF GG GH GI GJ GK GM GN GO GP GQ GR GS GT GU GV GW GX GY GZ I0 I1 I2 I3 I4 I5 I6 I7 I8 I9 IA IB IC ID IE IF IG IH II IJ IK IL IM IN IO IP IQ IR IS IT IU IV IW IX IY IZ J0 J1 J2 J3 J4 J5 J6 J7 J8 J9 JA JB JC JD JE JF JG JH JI JJ JK JL JM JN JO JP JQ JR JS JT JU JV JW JX JY JZ M0 M1 M2 M3 M4 M5 M6 M7 M8 M9 MA MB MC MD ME MF MG MH MI MJ MK ML MM MN MO MP MQ MR MS MT MU MV MW MX MY MZ N0 N1 N2 N3 N4 N5 N6 N7 N8 N9 NA NB NC ND NE NF NG NH : Value⦄ ⦃w2 : World⦄, Own w0 w2 [row (orf) 31 #[vU 0, vU 0], row (pb) 252 PC, row (sb2) 260 (full symZ (symL ss) c2), row (pt) 107 QC, row (cs) 99 KC, row (gb2) 31 (full refZ GL cg2), row (db) 113 (full dsyZ DL cd), row (rt) 31 #[vU 0, vU 1], row (rs) 31 #[vU 0, vU 2]] X → Code.wp Tryd.prog rg43b Q ⟨#[.string nm, A0, A1, .bool awb, A3, A4, A5, A6, A7, vP pb, vP cs, vP orf, A9, AA, AB, vP pt, v6 0, v6 0, vP rt, AD, AE, AF, vP rs, AH, v6 5, v6 4, AK, AL, AM, AN, AO, AP, AQ, AR, AS, AT, AU, AV, AW, AX, AY, AZ, B0, B1, B2, B3, B4, B5, B6, B7, B8, B9, BA, BB, BC, BD, BE, BF, BG, BH, BI, BJ, BK, BL, BM, BN, BO, BP, BQ, BR, BS, BT, BU, BV, BW, BX, BY, BZ, C0, C1, C2, C3, C4, C5, C6, C7, C8, C9, CA, CB, CC, CD, CE, CF, CG, CH, CI, CJ, CK, CL, CM, CN, CO, CP, CQ, CR, CS, CT, CU, CV, CW, CX, CY, CZ, E0, E1, E2, E3, E4, E5, E6, E7, E8, E9, EA, EB, EC, ED, EE, EF, EG, EH, EI, EJ, EK, EL, EM, EN, EO, EP, EQ, ER, ES, ET, EU, EV, EW, EX, EY, EZ, F0, F1, F2, F3, F4, F5, F6, F7, F8, F9, FA, FB, FC, FD, FE, FF, FG, FH, FI, FJ, FK, FL, FM, FN, FO, FP, FQ, FR, FS, FT, FU, FV, FW, FX, FY, FZ, G0, G1, G2, G3, G4, G5, G6, G7, G8, G9, GA, GB, GC, GD, GE, GF, GG, GH, GI, GJ, GK, GM, GN, GO, GP, GQ, GR, GS, GT, GU, GV, GW, GX, GY, GZ, I0, I1, I2, I3, I4, I5, I6, I7, I8, I9, IA, IB, IC, ID, IE, IF, IG, IH, II, IJ, IK, IL, IM, IN, IO, IP, IQ, IR, IS, IT, IU, IV, IW, IX, IY, IZ, J0, J1, J2, J3, J4, J5, J6, J7, J8, J9, JA, JB, JC, JD, JE, JF, JG, JH, JI, JJ, JK, JL, JM, JN, JO, JP, JQ, JR, JS, JT, JU, JV, JW, JX, JY, JZ, M0, M1, M2, M3, M4, M5, M6, M7, M8, M9, MA, MB, MC, MD, ME, MF, MG, MH, MI, MJ, MK, ML, MM, MN, MO, MP, MQ, MR, MS, MT, MU, MV, MW, MX, MY, MZ, N0, N1, N2, N3, N4, N5, N6, N7, N8, N9, NA, NB, NC, ND, NE, NF, NG, NH], []⟩ w2
def Hg43c (nm : ByteArray) (awb : Bool) (ng : Nat) (nd : Nat) (ss : List Sy) (GL : List Value) (DL : List Value) (pb : Nat) (PC : Array Value) (sb2 : Nat) (c2 : Nat) (pt : Nat) (QC : Array Value) (cs : Nat) (KC : Array Value) (gb2 : Nat) (cg2 : Nat) (db : Nat) (cd : Nat) (orf : Nat) (rt : Nat) (rs : Nat) (w0 : World) (X : Nat → Obj → Prop) (Q : Exit → Act → World → Prop) : Prop :=
 ∀ ⦃A0 A1 A3 A4 A5 A6 A7 A9 AA AB AD AE AF AH AK AL AM AN AO AP AQ AR AS AT AU AV AW AX AY AZ B0 B1 B2 B3 B4 B5 B6 B7 B8 B9 BA BB BC BD BE BF BG BH BI BJ BK BL BM BN BO BP BQ BR BS BT BU BV BW BX BY BZ C0 C1 C2 C3 C4 C5 C6 C7 C8 C9 CA CB CC CD CE CF CG CH CI CJ CK CL CM CN CO CP CQ CR CS CT CU CV CW CX CY CZ E0 E1 E2 E3 E4 E5 E6 E7 E8 E9 EA EB EC ED EE EF EG EH EI EJ EK EL EM EN EO EP EQ ER ES ET EU EV EW EX EY EZ F0 F1 F2 F3 F4 F5 F6 F7 F8 F9 FA FB FC FD FE FF FG FH FI FJ FK FL FM FN FO FP FQ FR FS FT FU FV FW FX FY FZ G0 G1 G2 G3 G4 G5 G6 G7 G8 G9 GA GB GC GD GE GF GG GH GI GJ GK GM GN GO GP GQ GR GS GT GU GV GW GX GY GZ I0 I1 I2 I3 I4 I5 I6 I7 I8 I9 IA IB IC ID IE IF IG IH II IJ IK IL IM IN IO IP IQ IR IS IT IU IV IW IX IY IZ J0 J1 J2 J3 J4 J5 J6 J7 J8 J9 JA JB JC JD JE JF JG JH JI JJ JK JL JM JN JO JP JQ JR JS JT JU JV JW JX JY JZ M0 M1 M2 M3 M4 M5 M6 M7 M8 M9 MA MB MC MD ME MF MG MH MI MJ MK ML MM MN MO MP MQ MR MS MT MU MV MW MX MY MZ N0 N1 N2 N3 N4 N5 N6 N7 N8 N9 NA NB NC ND NE NF NG NH : Value⦄ ⦃w2 : World⦄, Own w0 w2 [row (orf) 31 #[vU 0, vU 0], row (pb) 252 PC, row (sb2) 260 (full symZ (symL ss) c2), row (pt) 107 QC, row (cs) 99 KC, row (gb2) 31 (full refZ GL cg2), row (db) 113 (full dsyZ DL cd), row (rt) 31 #[vU 0, vU 1], row (rs) 31 #[vU 0, vU 2]] X → Code.wp Tryd.prog rg43c Q ⟨#[.string nm, A0, A1, .bool awb, A3, A4, A5, A6, A7, vP pb, vP cs, vP orf, A9, AA, AB, vP pt, v6 0, v6 0, vP rt, AD, AE, AF, vP rs, AH, v6 (ng : Int), v6 (nd : Int), AK, AL, AM, AN, AO, AP, AQ, AR, AS, AT, AU, AV, AW, AX, AY, AZ, B0, B1, B2, B3, B4, B5, B6, B7, B8, B9, BA, BB, BC, BD, BE, BF, BG, BH, BI, BJ, BK, BL, BM, BN, BO, BP, BQ, BR, BS, BT, BU, BV, BW, BX, BY, BZ, C0, C1, C2, C3, C4, C5, C6, C7, C8, C9, CA, CB, CC, CD, CE, CF, CG, CH, CI, CJ, CK, CL, CM, CN, CO, CP, CQ, CR, CS, CT, CU, CV, CW, CX, CY, CZ, E0, E1, E2, E3, E4, E5, E6, E7, E8, E9, EA, EB, EC, ED, EE, EF, EG, EH, EI, EJ, EK, EL, EM, EN, EO, EP, EQ, ER, ES, ET, EU, EV, EW, EX, EY, EZ, F0, F1, F2, F3, F4, F5, F6, F7, F8, F9, FA, FB, FC, FD, FE, FF, FG, FH, FI, FJ, FK, FL, FM, FN, FO, FP, FQ, FR, FS, FT, FU, FV, FW, FX, FY, FZ, G0, G1, G2, G3, G4, G5, G6, G7, G8, G9, GA, GB, GC, GD, GE, GF, GG, GH, GI, GJ, GK, GM, GN, GO, GP, GQ, GR, GS, GT, GU, GV, GW, GX, GY, GZ, I0, I1, I2, I3, I4, I5, I6, I7, I8, I9, IA, IB, IC, ID, IE, IF, IG, IH, II, IJ, IK, IL, IM, IN, IO, IP, IQ, IR, IS, IT, IU, IV, IW, IX, IY, IZ, J0, J1, J2, J3, J4, J5, J6, J7, J8, J9, JA, JB, JC, JD, JE, JF, JG, JH, JI, JJ, JK, JL, JM, JN, JO, JP, JQ, JR, JS, JT, JU, JV, JW, JX, JY, JZ, M0, M1, M2, M3, M4, M5, M6, M7, M8, M9, MA, MB, MC, MD, ME, MF, MG, MH, MI, MJ, MK, ML, MM, MN, MO, MP, MQ, MR, MS, MT, MU, MV, MW, MX, MY, MZ, N0, N1, N2, N3, N4, N5, N6, N7, N8, N9, NA, NB, NC, ND, NE, NF, NG, NH], []⟩ w2
def Hg43d (nm : ByteArray) (awb : Bool) (ng : Nat) (nd : Nat) (ss : List Sy) (GL : List Value) (DL : List Value) (pb : Nat) (PC : Array Value) (sb2 : Nat) (c2 : Nat) (pt : Nat) (QC : Array Value) (cs : Nat) (KC : Array Value) (gb2 : Nat) (cg2 : Nat) (db : Nat) (cd : Nat) (orf : Nat) (rt : Nat) (rs : Nat) (w0 : World) (X : Nat → Obj → Prop) (Q : Exit → Act → World → Prop) : Prop :=
 ∀ ⦃A0 A1 A3 A4 A5 A6 A7 A9 AA AB AD AE AF AH AI AJ AK AL AM AN AO AP AQ AR AS AT AU AV AW AX AY AZ B0 B1 B2 B3 B4 B5 B6 B7 B8 B9 BA BB BC BD BE BF BG BH BI BJ BK BL BM BN BO BP BQ BR BS BT BU BV BW BX BY BZ C0 C1 C2 C3 C4 C5 C6 C7 C8 C9 CA CB CC CD CE CF CG CH CI CJ CK CL CM CN CO CP CQ CR CS CT CU CV CW CX CY CZ E0 E1 E2 E3 E4 E5 E6 E7 E8 E9 EA EB EC ED EE EF EG EH EI EJ EK EL EM EN EO EP EQ ER ES ET EU EV EW EX EY EZ F0 F1 F2 F3 F4 F5 F6 F7 F8 F9 FA FB FC FD FE FF FG FH FI FJ FK FL FM FN FO FP FQ FR FS FT FU FV FW FX FY FZ G0 G1 G2 G3 G4 G5 G6 G7 G8 G9 GA GB GC GD GE GF GG GH GI GJ GK GM GN GO GP GQ GR GS GT GU GV GW GX GY GZ I0 I1 I2 I3 I4 I5 I6 I7 I8 I9 IA IB IC ID IE IF IG IH II IJ IK IL IM IN IO IP IQ IR IS IT IU IV IW IX IY IZ J0 J1 J2 J3 J4 J5 J6 J7 J8 J9 JA JB JC JD JE JF JG JH JI JJ JK JL JM JN JO JP JQ JR JS JT JU JV JW JX JY JZ M0 M1 M2 M3 M4 M5 M6 M7 M8 M9 MA MB MC MD ME MF MG MH MI MJ MK ML MM MN MO MP MQ MR MS MT MU MV MW MX MY MZ N0 N1 N2 N3 N4 N5 N6 N7 N8 N9 NA NB NC ND NE NF NG NH : Value⦄ ⦃w2 : World⦄, Own w0 w2 [row (orf) 31 #[vU 0, vU 0], row (pb) 252 PC, row (sb2) 260 (full symZ (symL ss) c2), row (pt) 107 QC, row (cs) 99 KC, row (gb2) 31 (full refZ GL cg2), row (db) 113 (full dsyZ DL cd), row (rt) 31 #[vU 0, vU 1], row (rs) 31 #[vU 0, vU 2]] X → Code.wp Tryd.prog rg43d Q ⟨#[.string nm, A0, A1, .bool awb, A3, A4, A5, A6, A7, vP pb, vP cs, vP orf, A9, AA, AB, vP pt, v6 0, v6 0, vP rt, AD, AE, AF, vP rs, AH, AI, AJ, AK, AL, AM, AN, AO, AP, AQ, AR, AS, AT, AU, AV, AW, AX, AY, AZ, B0, B1, B2, B3, B4, B5, B6, B7, B8, B9, BA, BB, BC, BD, BE, BF, BG, BH, BI, BJ, BK, BL, BM, BN, BO, BP, BQ, BR, BS, BT, BU, BV, BW, BX, BY, BZ, C0, C1, C2, C3, C4, C5, C6, C7, C8, C9, CA, CB, CC, CD, CE, CF, CG, CH, CI, CJ, CK, CL, CM, CN, CO, CP, CQ, CR, CS, CT, CU, CV, CW, CX, CY, CZ, E0, E1, E2, E3, E4, E5, E6, E7, E8, E9, EA, EB, EC, ED, EE, EF, EG, EH, EI, EJ, EK, EL, EM, EN, EO, EP, EQ, ER, ES, ET, EU, EV, EW, EX, EY, EZ, F0, F1, F2, F3, F4, F5, F6, F7, F8, F9, FA, FB, FC, FD, FE, FF, FG, FH, FI, FJ, FK, FL, FM, FN, FO, FP, FQ, FR, FS, FT, FU, FV, FW, FX, FY, FZ, G0, G1, G2, G3, G4, G5, G6, G7, G8, G9, GA, GB, GC, GD, GE, GF, GG, GH, GI, GJ, GK, GM, GN, GO, GP, GQ, GR, GS, GT, GU, GV, GW, GX, GY, GZ, I0, I1, I2, I3, I4, I5, I6, I7, I8, I9, IA, IB, IC, ID, IE, IF, IG, IH, II, IJ, IK, IL, IM, IN, IO, IP, IQ, IR, IS, IT, IU, IV, IW, IX, IY, IZ, J0, J1, J2, J3, J4, J5, J6, J7, J8, J9, JA, JB, JC, JD, JE, JF, JG, JH, JI, JJ, JK, JL, JM, JN, JO, JP, JQ, JR, JS, JT, JU, JV, JW, JX, JY, JZ, M0, M1, M2, M3, M4, M5, M6, M7, M8, M9, MA, MB, MC, MD, ME, MF, MG, MH, MI, MJ, MK, ML, MM, MN, MO, MP, MQ, MR, MS, MT, MU, MV, MW, MX, MY, MZ, N0, N1, N2, N3, N4, N5, N6, N7, N8, N9, NA, NB, NC, ND, NE, NF, NG, NH], []⟩ w2
def Hg43e (nm : ByteArray) (awb : Bool) (ng : Nat) (nd : Nat) (ns : Nat) (ss : List Sy) (GL : List Value) (DL : List Value) (pb : Nat) (PC : Array Value) (sb2 : Nat) (c2 : Nat) (pt : Nat) (QC : Array Value) (cs : Nat) (KC : Array Value) (gb2 : Nat) (cg2 : Nat) (db : Nat) (cd : Nat) (orf : Nat) (rt : Nat) (rs : Nat) (w0 : World) (X : Nat → Obj → Prop) (Q : Exit → Act → World → Prop) : Prop :=
 ∀ ⦃A0 A1 A3 A4 A5 A6 A7 A9 AA AB AD AE AF AH AI AJ AK AL AM AN AO AP AQ AR AS AT AU AV AW AX AY AZ B0 B1 B2 B3 B4 B5 B6 B7 B8 B9 BA BB BC BD BE BF BG BH BI BJ BK BL BM BN BO BP BQ BR BS BT BU BV BW BX BY BZ C0 C1 C2 C3 C4 C5 C6 C7 C8 C9 CA CB CC CD CE CF CG CH CI CJ CK CL CM CN CO CP CQ CR CS CT CU CV CW CX CY CZ E0 E1 E2 E3 E4 E5 E6 E7 E8 E9 EA EB EC ED EE EF EG EH EI EJ EK EL EM EN EO EP EQ ER ES ET EU EV EW EX EY EZ F0 F1 F2 F3 F4 F5 F6 F7 F8 F9 FA FB FC FD FE FF FG FH FI FJ FK FL FM FN FO FP FQ FR FS FT FU FV FW FX FY FZ G0 G1 G2 G3 G4 G5 G6 G7 G8 G9 GA GB GC GD GE GF GG GH GI GJ GK GM GN GO GP GQ GR GS GT GU GV GW GX GY GZ I0 I1 I2 I3 I4 I5 I6 I7 I8 I9 IA IB IC ID IE IF IG IH II IJ IK IL IM IN IO IP IQ IR IS IT IU IV IW IX IY IZ J0 J1 J2 J3 J4 J5 J6 J7 J8 J9 JA JB JC JD JE JF JG JH JI JJ JK JL JM JN JO JP JQ JR JS JT JU JV JW JX JY JZ M0 M1 M2 M3 M4 M5 M6 M7 M8 M9 MA MB MC MD ME MF MG MH MI MJ MK ML MM MN MO MP MQ MR MS MT MU MV MW MX MY MZ N0 N1 N2 N3 N4 N5 N6 N7 N8 N9 NA NB NC ND NE NF NG NH : Value⦄ ⦃w2 : World⦄, Own w0 w2 [row (orf) 31 #[vU 0, vU 0], row (pb) 252 PC, row (sb2) 260 (full symZ (symL ss) c2), row (pt) 107 QC, row (cs) 99 KC, row (gb2) 31 (full refZ GL cg2), row (db) 113 (full dsyZ DL cd), row (rt) 31 #[vU 0, vU 1], row (rs) 31 #[vU 0, vU 2]] X → Code.wp Tryd.prog rg43e Q ⟨#[.string nm, A0, A1, .bool awb, A3, A4, A5, A6, A7, vP pb, vP cs, vP orf, A9, AA, AB, vP pt, v6 0, v6 0, vP rt, AD, AE, AF, vP rs, AH, AI, AJ, AK, AL, AM, AN, AO, AP, AQ, AR, AS, AT, AU, AV, AW, AX, AY, AZ, B0, B1, B2, B3, B4, B5, B6, B7, B8, B9, BA, BB, BC, BD, BE, BF, BG, BH, BI, BJ, BK, BL, BM, BN, BO, BP, BQ, BR, BS, BT, BU, BV, BW, BX, BY, BZ, C0, C1, C2, C3, C4, C5, C6, C7, C8, C9, CA, CB, CC, CD, CE, CF, CG, CH, CI, CJ, CK, CL, CM, CN, CO, CP, CQ, CR, CS, CT, CU, CV, CW, CX, CY, CZ, E0, E1, E2, E3, E4, E5, E6, E7, E8, E9, EA, EB, EC, ED, EE, EF, EG, EH, EI, EJ, EK, EL, EM, EN, EO, EP, EQ, ER, ES, ET, EU, EV, EW, EX, EY, EZ, F0, F1, F2, F3, F4, F5, F6, F7, F8, F9, FA, FB, FC, FD, FE, FF, FG, FH, FI, FJ, FK, FL, FM, FN, FO, FP, FQ, FR, FS, FT, FU, FV, FW, FX, FY, FZ, G0, G1, G2, G3, G4, G5, G6, G7, G8, G9, GA, GB, GC, GD, GE, GF, GG, GH, GI, GJ, GK, GM, GN, GO, GP, GQ, GR, GS, GT, GU, GV, GW, GX, GY, GZ, I0, I1, I2, I3, I4, I5, I6, I7, I8, I9, IA, IB, IC, ID, IE, IF, IG, IH, II, IJ, IK, IL, IM, IN, IO, IP, IQ, IR, IS, IT, IU, IV, IW, IX, IY, IZ, J0, J1, J2, J3, J4, J5, J6, J7, J8, J9, JA, JB, JC, JD, JE, JF, JG, JH, JI, JJ, JK, JL, JM, JN, JO, JP, JQ, JR, JS, JT, JU, JV, JW, JX, JY, JZ, M0, M1, M2, M3, M4, M5, M6, M7, M8, M9, MA, MB, MC, MD, ME, MF, MG, MH, MI, MJ, MK, ML, MM, MN, MO, MP, MQ, MR, MS, MT, MU, MV, MW, MX, MY, MZ, N0, N1, N2, N3, N4, N5, N6, N7, N8, N9, NA, NB, NC, ND, NE, NF, NG, NH], []⟩ w2
def Hg43f (nm : ByteArray) (awb : Bool) (ng : Nat) (nd : Nat) (ns : Nat) (ss : List Sy) (DL : List Value) (pb : Nat) (PC : Array Value) (sb2 : Nat) (c2 : Nat) (pt : Nat) (QC : Array Value) (db : Nat) (cd : Nat) (orf : Nat) (rt : Nat) (w0 : World) (X : Nat → Obj → Prop) (Q : Exit → Act → World → Prop) : Prop :=
 ∀ ⦃A0 A1 A2 A3 A4 A5 A6 A7 A8 A9 AA AB AC AD AE AF AG AH AI AJ AK AL AM AN AO AP AQ AR AS AT AU AV AW AX AY AZ B0 B1 B2 B3 B4 B5 B6 B7 B8 B9 BA BB BC BD BE BF BG BH BI BJ BK BL BM BN BO BP BQ BR BS BT BU BV BW BX BY BZ C0 C1 C2 C3 C4 C5 C6 C7 C8 C9 CA CB CC CD CE CF CG CH CI CJ CK CL CM CN CO CP CQ CR CS CT CU CV CW CX CY CZ E0 E1 E2 E3 E4 E5 E6 E7 E8 E9 EA EB EC ED EE EF EG EH EI EJ EK EL EM EN EO EP EQ ER ES ET EU EV EW EX EY EZ F0 F1 F2 F3 F4 F5 F6 F7 F8 F9 FA FB FC FD FE FF FG FH FI FJ FK FL FM FN FO FP FQ FR FS FT FU FV FW FX FY FZ G0 G1 G2 G3 G4 G5 G6 G7 G8 G9 GA GB GC GD GE GF GG GH GI GJ GK GM GN GO GP GQ GR GS GT GU GV GW GX GY GZ I0 I1 I2 I3 I4 I5 I6 I7 I8 I9 IA IB IC ID IE IF IG IH II IJ IK IL IM IN IO IP IQ IR IS IT IU IV IW IX IY IZ J0 J1 J2 J3 J4 J5 J6 J7 J8 J9 JA JB JC JD JE JF JG JH JI JJ JK JL JM JN JO JP JQ JR JS JT JU JV JW JX JY JZ M0 M1 M2 M3 M4 M5 M6 M7 M8 M9 MA MB MC MD ME MF MG MH MI MJ MK ML MM MN MO MP MQ MR MS MT MU MV MW MX MY MZ N0 N1 N2 N3 N4 N5 N6 N7 N8 N9 NA NB NC ND NE NF NG NH : Value⦄ ⦃w2 : World⦄, Own w0 w2 [row (orf) 31 #[vU 0, vU 0], row (pb) 252 PC, row (sb2) 260 (full symZ (symL ss) c2), row (pt) 107 QC, row (db) 113 (full dsyZ DL cd), row (rt) 31 #[vU 0, vU 1]] X → Code.wp Tryd.prog rg43f Q ⟨#[.string nm, A0, A1, A2, A3, A4, A5, A6, A7, vP pb, A8, vP orf, A9, AA, AB, vP pt, AC, v6 0, vP rt, AD, AE, AF, AG, AH, AI, AJ, AK, AL, AM, AN, AO, AP, AQ, AR, AS, AT, AU, AV, AW, AX, AY, AZ, B0, B1, B2, B3, B4, B5, B6, B7, B8, B9, BA, BB, BC, BD, BE, BF, BG, BH, BI, BJ, BK, BL, BM, BN, BO, BP, BQ, BR, BS, BT, BU, BV, BW, BX, BY, BZ, C0, C1, C2, C3, C4, C5, C6, C7, C8, C9, CA, CB, CC, CD, CE, CF, CG, CH, CI, CJ, CK, CL, CM, CN, CO, CP, CQ, CR, CS, CT, CU, CV, CW, CX, CY, CZ, E0, E1, E2, E3, E4, E5, E6, E7, E8, E9, EA, EB, EC, ED, EE, EF, EG, EH, EI, EJ, EK, EL, EM, EN, EO, EP, EQ, ER, ES, ET, EU, EV, EW, EX, EY, EZ, F0, F1, F2, F3, F4, F5, F6, F7, F8, F9, FA, FB, FC, FD, FE, FF, FG, FH, FI, FJ, FK, FL, FM, FN, FO, FP, FQ, FR, FS, FT, FU, FV, FW, FX, FY, FZ, G0, G1, G2, G3, G4, G5, G6, G7, G8, G9, GA, GB, GC, GD, GE, GF, GG, GH, GI, GJ, GK, GM, GN, GO, GP, GQ, GR, GS, GT, GU, GV, GW, GX, GY, GZ, I0, I1, I2, I3, I4, I5, I6, I7, I8, I9, IA, IB, IC, ID, IE, IF, IG, IH, II, IJ, IK, IL, IM, IN, IO, IP, IQ, IR, IS, IT, IU, IV, IW, IX, IY, IZ, J0, J1, J2, J3, J4, J5, J6, J7, J8, J9, JA, JB, JC, JD, JE, JF, JG, JH, JI, JJ, JK, JL, JM, JN, JO, JP, JQ, JR, JS, JT, JU, JV, JW, JX, JY, JZ, M0, M1, M2, M3, M4, M5, M6, M7, M8, M9, MA, MB, MC, MD, ME, MF, MG, MH, MI, MJ, MK, ML, MM, MN, MO, MP, MQ, MR, MS, MT, MU, MV, MW, MX, MY, MZ, N0, N1, N2, N3, N4, N5, N6, N7, N8, N9, NA, NB, NC, ND, NE, NF, NG, NH], []⟩ w2

end Go.Proofs.YtikopplofkemlaaDoor.Use
namespace Go.Proofs.YtikopplofkemlaaDoor.Use
open Go.ChangeShapes Go.WideShapes Go.ChangeAt Go.RowKit Go.Sort Own
set_option linter.unusedVariables false

set_option maxRecDepth 100000 in
set_option maxHeartbeats 4000000 in
theorem tg43a (nm : ByteArray) (awb : Bool) (ss : List Sy) (GL DL : List Value) (pb : Nat) (PC : Array Value) (sb2 c2 pt : Nat) (QC : Array Value) (cs : Nat) (KC : Array Value) (gb2 cg2 db cd orf ini dbx ib bx : Nat) (lv : Int) (qb qc lb ld li la yb kb : Nat) (clv : Value) (ng nd : Nat) {A0 A1 A2 A3 A4 A5 A6 A7 A8 A9 AA AB AC AD AE AF AG AH AI AJ AK AL AM AN AO AP AQ AR AS AT AU AV AW AX AY AZ B0 B2 B3 B4 B5 B6 B7 B8 B9 BA BB BC BD BE BF BG BH BI BJ BK BL BM BN BO BP BQ BR BS BT BU BV BW BX BY BZ C0 C1 C2 C3 C4 C5 C6 C7 C8 C9 CA CB CC CD CE CF CG CH CI CJ CK CL CM CN CO CP CQ CR CS CT CU CV CW CX CY CZ E0 E1 E2 E3 E4 E5 E6 E7 E8 E9 EA EB EC ED EE EF EG EH EI EJ EK EL EM EN EO EP EQ ER ES ET EU EV EW EX EY EZ F0 F1 F2 F3 F4 F5 F6 F7 F8 F9 FA FB FC FD FE FF FG FH FI FJ FK FL FM FN FO FP FQ FR FS FT FU FV FW FX FY FZ G0 G1 G2 G3 G4 G5 G6 G7 G8 G9 GA GB GC GD GE GF GG GH GI GJ GK GM GN GO GP GQ GR GS GT GU GV GW GX GY GZ I0 I1 I2 I3 I4 I5 I6 I7 I8 I9 IA IB IC ID IE IF IG IH II IJ IK IL IM IN IO IP IQ IR IS IT IU IV IW IX IY IZ J0 J1 J2 J3 J4 J5 J6 J7 J8 J9 JA JB JC JD JE JF JG JH JI JJ JK JL JM JN JO JP JQ JR JS JT JU JV JW JX JY JZ M0 M1 M2 M3 M4 M5 M6 M7 M8 M9 MA MB MC MD ME MF MG MH MI MJ MK ML MM MN MO MP MQ MR MS MT MU MV MW MX MY MZ N0 N1 N2 N3 N4 N5 N6 N7 N8 N9 NA NB NC ND NE : Value} (w0 w : World) (X : Nat → Obj → Prop) (Q : Exit → Act → World → Prop) (hB : Hg43b nm awb ng nd ss GL DL pb PC sb2 c2 pt QC cs KC gb2 cg2 db cd orf w0 X Q) (hO : Own w0 w [row (orf) 31 #[vU 0, vU 0], row (qb) 61 (full stmZ [vF 42 lb, vI 5, vF 67 yb, vI 5] qc), row (lb) 57 #[vS ld 1 1, v8 0, bF, bF], row (ld) 54 #[vF 134 li, vI 5, vF 315 la, vI 5], row (li) 136 #[vU 0, vU 2], row (pb) 252 PC, row (sb2) 260 (full symZ (symL ss) c2), row (pt) 107 QC, row (cs) 99 KC, row (gb2) 31 (full refZ GL cg2), row (db) 113 (full dsyZ DL cd), row (ini) 57 #[vS dbx 1 1, v8 0, bF, bF], row (ib) 136 #[vU 0, vU 1], row (kb) 72 #[vS qb 2 (2 + qc), clv], row (dbx) 54 #[vF 134 ib, vI 3, .nilIface, vI 0], row (bx) 61 #[vF 110 kb, vI lv]] X)  :
  Code.wp Tryd.prog rg43a Q ⟨#[.string nm, A0, A1, .bool awb, A2, A3, A4, A5, A6, vP pb, vP cs, vP orf, vP ini, vP bx, A7, vP pt, v6 0, v6 0, A8, A9, AA, AB, AC, AD, AE, AF, AG, AH, AI, AJ, AK, AL, AM, AN, AO, AP, AQ, AR, AS, AT, AU, AV, AW, AX, AY, AZ, B0, B2, B3, B4, B5, B6, B7, B8, B9, BA, BB, BC, BD, BE, BF, BG, BH, BI, BJ, BK, BL, BM, BN, BO, BP, BQ, BR, BS, BT, BU, BV, BW, BX, BY, BZ, C0, C1, C2, C3, C4, C5, C6, C7, C8, C9, CA, CB, CC, CD, CE, CF, CG, CH, CI, CJ, CK, CL, CM, CN, CO, CP, CQ, CR, CS, CT, CU, CV, CW, CX, CY, CZ, E0, E1, E2, E3, E4, E5, E6, E7, E8, E9, EA, EB, EC, ED, EE, EF, EG, EH, EI, EJ, EK, EL, EM, EN, EO, EP, EQ, ER, ES, ET, EU, EV, EW, EX, EY, EZ, F0, F1, F2, F3, F4, F5, F6, F7, F8, F9, FA, FB, FC, FD, FE, FF, FG, FH, FI, FJ, FK, FL, FM, FN, FO, FP, FQ, FR, FS, FT, FU, FV, FW, FX, FY, FZ, G0, G1, G2, G3, G4, G5, G6, G7, G8, G9, GA, GB, GC, GD, GE, GF, GG, GH, GI, GJ, GK, GM, GN, GO, GP, GQ, GR, GS, GT, GU, GV, GW, GX, GY, GZ, I0, I1, I2, I3, I4, I5, I6, I7, I8, I9, IA, IB, IC, ID, IE, IF, IG, IH, II, IJ, IK, IL, IM, IN, IO, IP, IQ, IR, IS, IT, IU, IV, IW, IX, IY, IZ, J0, J1, J2, J3, J4, J5, J6, J7, J8, J9, JA, JB, JC, JD, JE, JF, JG, JH, JI, JJ, JK, JL, JM, JN, JO, JP, JQ, JR, JS, JT, JU, JV, JW, JX, JY, JZ, M0, M1, M2, M3, M4, M5, M6, M7, M8, M9, MA, MB, MC, MD, ME, MF, MG, MH, MI, MJ, MK, ML, MM, MN, MO, MP, MQ, MR, MS, MT, MU, MV, MW, MX, MY, MZ, N0, N1, N2, N3, N4, N5, N6, N7, N8, N9, NA, NB, NC, ND, NE], []⟩ w := by
 have HB := Lib.hid hB
 clear hB
 obtain ⟨c9, hc9⟩ : ∃ c, c = rg43b := ⟨_, rfl⟩
 have HC9 := Lib.hid hc9
 simp only [rg43b, Tryd.f4, Option.getD_some, cutC] at hc9
 simp only [rg43a, Tryd.f4, Option.getD_some, cutC]
 rw [← hc9]
 clear hc9
 obtain ⟨ix9, hix9, hax9, hjx9⟩ := hO.ix
 have aA := hjx9 0 _ _ rfl
 have aB := hjx9 1 _ _ rfl
 have aC := hjx9 2 _ _ rfl
 have aD := hjx9 3 _ _ rfl
 have aE := hjx9 4 _ _ rfl
 have aF := hjx9 5 _ _ rfl
 have aG := hjx9 6 _ _ rfl
 have aH := hjx9 7 _ _ rfl
 have aI := hjx9 8 _ _ rfl
 have aJ := hjx9 9 _ _ rfl
 have aK := hjx9 10 _ _ rfl
 have aL := hjx9 11 _ _ rfl
 have aM := hjx9 12 _ _ rfl
 have aN := hjx9 13 _ _ rfl
 have aO := hjx9 14 _ _ rfl
 have aP := hjx9 15 _ _ rfl
 clear hjx9
 obtain ⟨aQ, aR, aS, aT, aU⟩ := hO.k2 0 rfl
 have aV : Base.plainAt w (qb) = true := hO.plain 1 rfl
 have aW : w.cell? ⟨qb, 0, none⟩ = some (vF 42 lb) := hO.cell 1 rfl (0) ((full_at rfl))
 have aX : w.cell? ⟨qb, 1, none⟩ = some (vI 5) := hO.cell 1 rfl (1) ((full_at rfl))
 have aY : w.cell? ⟨qb, 2, none⟩ = some (vF 67 yb) := hO.cell 1 rfl (2) ((full_at rfl))
 have aZ : w.cell? ⟨qb, 3, none⟩ = some (vI 5) := hO.cell 1 rfl (3) ((full_at rfl))
 have aa := hO.lt 1 rfl
 have ab := hO.free 1 rfl
 obtain ⟨ac, ad, ae, af, ag, ah, ai⟩ := hO.k4 2 rfl
 obtain ⟨aj, ak, al, am, an, ao, ap⟩ := hO.k4 3 rfl
 obtain ⟨aq, ar, au, av, aw⟩ := hO.k2 4 rfl
 have ax : Base.plainAt w (gb2) = true := hO.plain 9 rfl
 obtain ⟨ay, az, bA, bB, bC, bD, bE⟩ := hO.k4 11 rfl
 obtain ⟨bG, bH, bI, bJ, bK⟩ := hO.k2 12 rfl
 obtain ⟨bL, bM, bN, bO, -⟩ := hO.k2 13 rfl
 obtain ⟨bP, bQ, bR, bS, bT, bU, bV⟩ := hO.k4 14 rfl
 obtain ⟨bW, bX, bY, bZ, ba⟩ := hO.k2 15 rfl
 have HO := Lib.hid hO
 clear hO
 go_wp2_with (first | (with_reducible refine Own.stay (fn := Tryd.f4) ?_) | (first | (go_at_call 16; go_in) | (go_at_call 24; go_in) | (go_at_call 15; go_in)))
 try with_reducible refine Own.Stay.mk ?_
 have hO := HO.out
 clear HO hix9 hax9 aA aB aC aD aE aF aG aH aI aJ aK aL aM aN aO aP ix9 aQ aR aS aT aU aV aW aX aY aZ aa ab ac ad ae af ag ah ai aj ak al am an ao ap aq ar au av aw ax ay az bA bB bC bD bE bG bH bI bJ bK bL bM bN bO bP bQ bR bS bT bU bV bW bX bY bZ ba
 generalize hW : World.alloc _ _ = W2
 have hN : Own w0 W2 [row (w.heap.size + 1 + 1 + 1 + 1 + 1 + 1 + 1) 31 #[vU 0, vU 2], row (w.heap.size + 1 + 1 + 1 + 1 + 1 + 1) 31 #[vU 0, vU 2], row (w.heap.size + 1 + 1 + 1 + 1 + 1) 47 #[vF 134 li, vI 5], row (w.heap.size + 1 + 1 + 1 + 1) 61 #[vF 42 lb, vI 5], row (w.heap.size + 1 + 1 + 1) 61 #[vF 110 kb, vI lv], row (w.heap.size + 1 + 1) 31 #[vU 0, vU 1], row (w.heap.size + 1) 31 #[vU 0, vU 1], row (w.heap.size) 47 #[vF 134 ib, vI 3], row (orf) 31 #[vU 0, vU 0], row (qb) 61 (full stmZ [vF 42 lb, vI 5, vF 67 yb, vI 5] qc), row (lb) 57 #[vS ld 1 1, v8 0, bF, bF], row (ld) 54 #[vF 134 li, vI 5, vF 315 la, vI 5], row (li) 136 #[vU 0, vU 2], row (pb) 252 PC, row (sb2) 260 (full symZ (symL ss) c2), row (pt) 107 QC, row (cs) 99 KC, row (gb2) 31 (full refZ GL cg2), row (db) 113 (full dsyZ DL cd), row (ini) 57 #[vS dbx 1 1, v8 0, bF, bF], row (ib) 136 #[vU 0, vU 1], row (kb) 72 #[vS qb 2 (2 + qc), clv], row (dbx) 54 #[vF 134 ib, vI 3, .nilIface, vI 0], row (bx) 61 #[vF 110 kb, vI lv]] X := by
  rw [← hW]
  exact ((((((((hO).alloc' _ (w.heap.size) (by simp)).alloc' _ (w.heap.size + 1) (by simp)).alloc' _ (w.heap.size + 1 + 1) (by simp)).alloc' _ (w.heap.size + 1 + 1 + 1) (by simp)).alloc' _ (w.heap.size + 1 + 1 + 1 + 1) (by simp)).alloc' _ (w.heap.size + 1 + 1 + 1 + 1 + 1) (by simp)).alloc' _ (w.heap.size + 1 + 1 + 1 + 1 + 1 + 1) (by simp)).alloc' _ (w.heap.size + 1 + 1 + 1 + 1 + 1 + 1 + 1) (by simp)
 clear hW hO
 generalize w.heap.size + 1 + 1 + 1 + 1 + 1 + 1 + 1 = B1_7 at hN ⊢
 generalize w.heap.size + 1 + 1 + 1 + 1 + 1 + 1 = B1_6 at hN ⊢
 generalize w.heap.size + 1 + 1 + 1 + 1 + 1 = B1_5 at hN ⊢
 generalize w.heap.size + 1 + 1 + 1 + 1 = B1_4 at hN ⊢
 generalize w.heap.size + 1 + 1 + 1 = B1_3 at hN ⊢
 generalize w.heap.size + 1 + 1 = B1_2 at hN ⊢
 generalize w.heap.size + 1 = B1_1 at hN ⊢
 generalize w.heap.size = B1 at hN ⊢
 have hO := hN
 clear hN
 rw [HC9.out]
 exact HB.out B1_2 B1_7 (hO.sub [8, 13, 14, 15, 16, 17, 18, 5, 0] dc)
end Go.Proofs.YtikopplofkemlaaDoor.Use
namespace Go.Proofs.YtikopplofkemlaaDoor.Use
open Go.ChangeShapes Go.WideShapes Go.ChangeAt Go.RowKit Go.Sort Own
set_option linter.unusedVariables false

set_option maxRecDepth 100000 in
set_option maxHeartbeats 4000000 in
theorem tg43b (nm : ByteArray) (awb : Bool) (ng nd : Nat) (ss : List Sy) (GL DL : List Value) (pb : Nat) (PC : Array Value) (sb2 c2 pt : Nat) (QC : Array Value) (cs : Nat) (KC : Array Value) (gb2 cg2 db cd orf : Nat) (w0 : World) (X : Nat → Obj → Prop) (Q : Exit → Act → World → Prop) (hB : ∀ rt rs : Nat, Hg43c nm awb ng nd ss GL DL pb PC sb2 c2 pt QC cs KC gb2 cg2 db cd orf rt rs w0 X Q) (hA : (awb = false ∧ ng = 5 ∧ nd = 4) ∨ (awb = true ∧ ng = 7 ∧ nd = 5)) :
  Hg43b nm awb ng nd ss GL DL pb PC sb2 c2 pt QC cs KC gb2 cg2 db cd orf w0 X Q := by
 unfold Hg43b
 intro rt rs A0 A1 A2 A3 A4 A5 A6 A7 A8 A9 AA AB AC AD AE AF AG AH AI AJ AK AL AM AN AO AP AQ AR AS AT AU AV AW AX AY AZ B0 B1 B2 B3 B4 B5 B6 B7 B8 B9 BA BB BC BD BE BF BG BH BI BJ BK BL BM BN BO BP BQ BR BS BT BU BV BW BX BY BZ C0 C1 C2 C3 C4 C5 C6 C7 C8 C9 CA CB CC CD CE CF CG CH CI CJ CK CL CM CN CO CP CQ CR CS CT CU CV CW CX CY CZ E0 E1 E2 E3 E4 E5 E6 E7 E8 E9 EA EB EC ED EE EF EG EH EI EJ EK EL EM EN EO EP EQ ER ES ET EU EV EW EX EY EZ F0 F1 F2 F3 F4 F5 F6 F7 F8 F9 FA FB FC FD FE FF FG FH FI FJ FK FL FM FN FO FP FQ FR FS FT FU FV FW FX FY FZ G0 G1 G2 G3 G4 G5 G6 G7 G8 G9 GA GB GC GD GE GF GG GH GI GJ GK GM GN GO GP GQ GR GS GT GU GV GW GX GY GZ I0 I1 I2 I3 I4 I5 I6 I7 I8 I9 IA IB IC ID IE IF IG IH II IJ IK IL IM IN IO IP IQ IR IS IT IU IV IW IX IY IZ J0 J1 J2 J3 J4 J5 J6 J7 J8 J9 JA JB JC JD JE JF JG JH JI JJ JK JL JM JN JO JP JQ JR JS JT JU JV JW JX JY JZ M0 M1 M2 M3 M4 M5 M6 M7 M8 M9 MA MB MC MD ME MF MG MH MI MJ MK ML MM MN MO MP MQ MR MS MT MU MV MW MX MY MZ N0 N1 N2 N3 N4 N5 N6 N7 N8 N9 NA NB w hO
 replace hB := hB rt rs
 have HB := Lib.hid hB
 clear hB
 obtain ⟨c9, hc9⟩ : ∃ c, c = rg43c := ⟨_, rfl⟩
 have HC9 := Lib.hid hc9
 simp only [rg43c, Tryd.f4, Option.getD_some, cutC] at hc9
 simp only [rg43b, Tryd.f4, Option.getD_some, cutC]
 rw [← hc9]
 clear hc9
 have HA := Lib.hid hA
 clear hA
 cases awb
 ·skip
  obtain ⟨aA, aB, aC, aD, -⟩ := hO.k2 0 rfl
  obtain ⟨aE, aF, aG, aH, -⟩ := hO.k2 7 rfl
  obtain ⟨aI, aJ, aK, aL, -⟩ := hO.k2 8 rfl
  have HO := Lib.hid hO
  clear hO
  go_wp2_with (first | (with_reducible refine Own.stay (fn := Tryd.f4) ?_) | (first | (go_at_call 16; go_in) | (go_at_call 24; go_in) | (go_at_call 15; go_in)))
  try with_reducible refine Own.Stay.mk ?_
  have hO := HO.out
  clear HO aA aB aC aD aE aF aG aH aI aJ aK aL
  obtain ⟨rfl, rfl⟩ : ng = 5 ∧ nd = 4 := by have := HA.out; simp at this; omega
  rw [HC9.out]
  exact HB.out (hO.sub [0, 1, 2, 3, 4, 5, 6, 7, 8] dc)
 ·skip
  obtain ⟨aA, aB, aC, aD, -⟩ := hO.k2 0 rfl
  obtain ⟨aE, aF, aG, aH, -⟩ := hO.k2 7 rfl
  obtain ⟨aI, aJ, aK, aL, -⟩ := hO.k2 8 rfl
  have HO := Lib.hid hO
  clear hO
  go_wp2_with (first | (with_reducible refine Own.stay (fn := Tryd.f4) ?_) | (first | (go_at_call 16; go_in) | (go_at_call 24; go_in) | (go_at_call 15; go_in)))
  try with_reducible refine Own.Stay.mk ?_
  have hO := HO.out
  clear HO aA aB aC aD aE aF aG aH aI aJ aK aL
  obtain ⟨rfl, rfl⟩ : ng = 7 ∧ nd = 5 := by have := HA.out; simp at this; omega
  rw [HC9.out]
  exact HB.out (hO.sub [0, 1, 2, 3, 4, 5, 6, 7, 8] dc)
end Go.Proofs.YtikopplofkemlaaDoor.Use
namespace Go.Proofs.YtikopplofkemlaaDoor.Use
open Go.ChangeShapes Go.WideShapes Go.ChangeAt Go.RowKit Go.Sort Own
set_option linter.unusedVariables false
noncomputable def rG43cc_0E (ng : Nat) (GL : List Value) (cs : Nat) (KC : Array Value) (gb2 : Nat) (cg2 : Nat) (rt : Nat) (rs : Nat) : Nat → Rega.Atoms → Value
 | 0, α => vP cs
 | 1, α => vP cs
 | 2, α => .pointer (some ⟨cs, 5, none⟩)
 | 3, α => vS gb2 ng (ng + cg2)
 | 4, α => v6 (ng : Int)
 | 5, α => v6 0
 | 6, α => v6 (ng : Int)
 | 7, α => v6 (ng : Int)
 | 8, α => bF
 | 9, α => bF
 | 10, α => vP cs
 | 11, α => vP cs
 | 12, α => .pointer (some ⟨cs, 5, none⟩)
 | 13, α => vS gb2 ng (ng + cg2)
 | 14, α => v6 0
 | 15, α => vP gb2
 | 16, α => .agg #[vU 0, vU 1]
 | 17, α => .agg #[vU 0, vU 1]
 | 18, α => bF
 | 19, α => bF
 | 20, α => bF
 | 21, α => vP cs
 | 22, α => vP cs
 | 23, α => .pointer (some ⟨cs, 5, none⟩)
 | 24, α => vS gb2 ng (ng + cg2)
 | 25, α => v6 0
 | 26, α => v6 1
 | 27, α => .pointer (some ⟨gb2, 2, none⟩)
 | 28, α => .agg #[vU 0, vU 2]
 | 29, α => .agg #[vU 0, vU 2]
 | 30, α => bF
 | 31, α => bF
 | _, _ => undef
noncomputable def rG43cc_0Anc : Nat → List Nat
 | 1 => [0]
 | 2 => [0, 1]
 | 3 => [0, 1, 2]
 | 4 => [0, 1, 2, 3]
 | 7 => [5, 6]
 | 8 => [0, 1, 2, 3, 4, 5, 6, 7]
 | 9 => [0, 1, 2, 3, 4, 5, 6, 7, 8]
 | 10 => [0, 1, 2, 3, 4, 5, 6, 7, 8, 9]
 | 11 => [0, 1, 2, 3, 4, 5, 6, 7, 8, 9, 10]
 | 12 => [0, 1, 2, 3, 4, 5, 6, 7, 8, 9, 10, 11]
 | 13 => [0, 1, 2, 3, 4, 5, 6, 7, 8, 9, 10, 11, 12]
 | 14 => [0, 1, 2, 3, 4, 5, 6, 7, 8, 9]
 | 15 => [0, 1, 2, 3, 4, 5, 6, 7, 8, 9, 10, 11, 12, 13, 14]
 | 16 => [0, 1, 2, 3, 4, 5, 6, 7, 8, 9, 10, 11, 12, 13, 14, 15]
 | 17 => [0, 1, 2, 3, 4, 5, 6, 7, 8, 9]
 | 18 => [0, 1, 2, 3, 4, 5, 6, 7, 8, 9, 10, 11, 12, 13, 14, 15, 16, 17]
 | 19 => [0, 1, 2, 3, 4, 5, 6, 7, 8, 9, 10, 11, 12, 13, 14, 15, 16, 17, 18]
 | 20 => [0, 1, 2, 3, 4, 5, 6, 7, 8, 9, 10, 11, 12, 13, 14, 15, 16, 17, 18, 19]
 | 21 => [0, 1, 2, 3, 4, 5, 6, 7, 8, 9, 10, 11, 12, 13, 14, 15, 16, 17, 18, 19, 20]
 | 22 => [0, 1, 2, 3, 4, 5, 6, 7, 8, 9, 10, 11, 12, 13, 14, 15, 16, 17, 18, 19, 20, 21]
 | 23 => [0, 1, 2, 3, 4, 5, 6, 7, 8, 9, 10, 11, 12, 13, 14, 15, 16, 17, 18, 19, 20, 21, 22]
 | 24 => [0, 1, 2, 3, 4, 5, 6, 7, 8, 9, 10, 11, 12, 13, 14, 15, 16, 17, 18, 19, 20, 21, 22, 23]
 | 25 => [0, 1, 2, 3, 4, 5, 6, 7, 8, 9, 10, 11, 12, 13, 14, 15, 16, 17, 18, 19, 20]
 | 26 => [0, 1, 2, 3, 4, 5, 6, 7, 8, 9, 10, 11, 12, 13, 14, 15, 16, 17, 18, 19, 20, 25]
 | 27 => [0, 1, 2, 3, 4, 5, 6, 7, 8, 9, 10, 11, 12, 13, 14, 15, 16, 17, 18, 19, 20, 21, 22, 23, 24, 25, 26]
 | 28 => [0, 1, 2, 3, 4, 5, 6, 7, 8, 9, 10, 11, 12, 13, 14, 15, 16, 17, 18, 19, 20, 21, 22, 23, 24, 25, 26, 27]
 | 29 => [0, 1, 2, 3, 4, 5, 6, 7, 8, 9, 10, 11, 12, 13, 14, 15, 16, 17, 18, 19, 20]
 | 30 => [0, 1, 2, 3, 4, 5, 6, 7, 8, 9, 10, 11, 12, 13, 14, 15, 16, 17, 18, 19, 20, 21, 22, 23, 24, 25, 26, 27, 28, 29]
 | 31 => [0, 1, 2, 3, 4, 5, 6, 7, 8, 9, 10, 11, 12, 13, 14, 15, 16, 17, 18, 19, 20, 21, 22, 23, 24, 25, 26, 27, 28, 29, 30]
 | _ => []
noncomputable def rG43cc_0Trn : Nat → List Nat
 | _ => []
noncomputable def rG43cc_0Cnt : List (Nat × Nat) := []
noncomputable def rG43cc_0R (ng : Nat) (GL : List Value) (cs : Nat) (KC : Array Value) (gb2 : Nat) (cg2 : Nat) (rt : Nat) (rs : Nat) (L9 : Nat → Bool) (α : Rega.Atoms) (ix9 : Nat) : Rw := if ix9 = 999 then row (cs) 99 KC else if ix9 = 1999 then row (gb2) 31 (full refZ GL cg2) else if ix9 = 2999 then row (rt) 31 #[vU 0, vU 1] else if ix9 = 3999 then row (rs) 31 #[vU 0, vU 2] else (0, .map #[] 0)
theorem rG43cc_0_he (ng : Nat) (GL : List Value) (cs : Nat) (KC : Array Value) (gb2 : Nat) (cg2 : Nat) (rt : Nat) (rs : Nat) : ∀ kk α α', (∀ j, (j % 1000 = kk ∨ j % 1000 ∈ rG43cc_0Anc kk) → α j = α' j) → rG43cc_0E ng GL cs KC gb2 cg2 rt rs kk α = rG43cc_0E ng GL cs KC gb2 cg2 rt rs kk α' := by
 intro kk α α' h
 match kk with
 | 0 => rfl
 | 1 => rfl
 | 2 => rfl
 | 3 => rfl
 | 4 => rfl
 | 5 => rfl
 | 6 => rfl
 | 7 => rfl
 | 8 => rfl
 | 9 => rfl
 | 10 => rfl
 | 11 => rfl
 | 12 => rfl
 | 13 => rfl
 | 14 => rfl
 | 15 => rfl
 | 16 => rfl
 | 17 => rfl
 | 18 => rfl
 | 19 => rfl
 | 20 => rfl
 | 21 => rfl
 | 22 => rfl
 | 23 => rfl
 | 24 => rfl
 | 25 => rfl
 | 26 => rfl
 | 27 => rfl
 | 28 => rfl
 | 29 => rfl
 | 30 => rfl
 | 31 => rfl
 | n + 32 => rfl
theorem rG43cc_0_st (ng : Nat) (GL : List Value) (cs : Nat) (KC : Array Value) (gb2 : Nat) (cg2 : Nat) (rt : Nat) (rs : Nat) : Stable rG43cc_0Cnt 4 rG43cc_0Anc rG43cc_0Trn (rG43cc_0R ng GL cs KC gb2 cg2 rt rs) := by
 intro k9 L9 α α' ix9 hk hcl hα hact ht
 have hp := act_places hact
 replace hp : ix9 ∈ [999, 1999, 2999, 3999] := hp
 simp only [List.mem_cons, List.not_mem_nil, or_false] at hp
 rcases hp with rfl | rfl | rfl | rfl
 ·rfl
 ·rfl
 ·rfl
 ·rfl
noncomputable def rG43cc_1E (nd : Nat) (DL : List Value) (pt : Nat) (QC : Array Value) (db : Nat) (cd : Nat) (rs : Nat) : Nat → Rega.Atoms → Value
 | 0, α => vP pt
 | 1, α => vP pt
 | 2, α => .pointer (some ⟨pt, 3, none⟩)
 | 3, α => vS db nd (nd + cd)
 | 4, α => v6 (nd : Int)
 | 5, α => v6 0
 | 6, α => v6 (nd : Int)
 | 7, α => v6 (nd : Int)
 | 8, α => bF
 | 9, α => bF
 | 10, α => vP pt
 | 11, α => vP pt
 | 12, α => .pointer (some ⟨pt, 3, none⟩)
 | 13, α => vS db nd (nd + cd)
 | 14, α => v6 0
 | 15, α => vP db
 | 16, α => vP db
 | 17, α => .agg #[vU 0, vU 2]
 | 18, α => .agg #[vU 0, vU 2]
 | 19, α => bF
 | 20, α => bF
 | _, _ => undef
noncomputable def rG43cc_1Anc : Nat → List Nat
 | 1 => [0]
 | 2 => [0, 1]
 | 3 => [0, 1, 2]
 | 4 => [0, 1, 2, 3]
 | 7 => [5, 6]
 | 8 => [0, 1, 2, 3, 4, 5, 6, 7]
 | 9 => [0, 1, 2, 3, 4, 5, 6, 7, 8]
 | 10 => [0, 1, 2, 3, 4, 5, 6, 7, 8, 9]
 | 11 => [0, 1, 2, 3, 4, 5, 6, 7, 8, 9, 10]
 | 12 => [0, 1, 2, 3, 4, 5, 6, 7, 8, 9, 10, 11]
 | 13 => [0, 1, 2, 3, 4, 5, 6, 7, 8, 9, 10, 11, 12]
 | 14 => [0, 1, 2, 3, 4, 5, 6, 7, 8, 9]
 | 15 => [0, 1, 2, 3, 4, 5, 6, 7, 8, 9, 10, 11, 12, 13, 14]
 | 16 => [0, 1, 2, 3, 4, 5, 6, 7, 8, 9, 10, 11, 12, 13, 14, 15]
 | 17 => [0, 1, 2, 3, 4, 5, 6, 7, 8, 9, 10, 11, 12, 13, 14, 15, 16]
 | 18 => [0, 1, 2, 3, 4, 5, 6, 7, 8, 9]
 | 19 => [0, 1, 2, 3, 4, 5, 6, 7, 8, 9, 10, 11, 12, 13, 14, 15, 16, 17, 18]
 | 20 => [0, 1, 2, 3, 4, 5, 6, 7, 8, 9, 10, 11, 12, 13, 14, 15, 16, 17, 18, 19]
 | _ => []
noncomputable def rG43cc_1Trn : Nat → List Nat
 | _ => []
noncomputable def rG43cc_1Cnt : List (Nat × Nat) := []
noncomputable def rG43cc_1R (nd : Nat) (DL : List Value) (pt : Nat) (QC : Array Value) (db : Nat) (cd : Nat) (rs : Nat) (L9 : Nat → Bool) (α : Rega.Atoms) (ix9 : Nat) : Rw := if ix9 = 999 then row (rs) 31 #[vU 0, vU 2] else if ix9 = 1999 then row (pt) 107 QC else if ix9 = 2999 then row (db) 113 (full dsyZ DL cd) else (0, .map #[] 0)
theorem rG43cc_1_he (nd : Nat) (DL : List Value) (pt : Nat) (QC : Array Value) (db : Nat) (cd : Nat) (rs : Nat) : ∀ kk α α', (∀ j, (j % 1000 = kk ∨ j % 1000 ∈ rG43cc_1Anc kk) → α j = α' j) → rG43cc_1E nd DL pt QC db cd rs kk α = rG43cc_1E nd DL pt QC db cd rs kk α' := by
 intro kk α α' h
 match kk with
 | 0 => rfl
 | 1 => rfl
 | 2 => rfl
 | 3 => rfl
 | 4 => rfl
 | 5 => rfl
 | 6 => rfl
 | 7 => rfl
 | 8 => rfl
 | 9 => rfl
 | 10 => rfl
 | 11 => rfl
 | 12 => rfl
 | 13 => rfl
 | 14 => rfl
 | 15 => rfl
 | 16 => rfl
 | 17 => rfl
 | 18 => rfl
 | 19 => rfl
 | 20 => rfl
 | n + 21 => rfl
theorem rG43cc_1_st (nd : Nat) (DL : List Value) (pt : Nat) (QC : Array Value) (db : Nat) (cd : Nat) (rs : Nat) : Stable rG43cc_1Cnt 3 rG43cc_1Anc rG43cc_1Trn (rG43cc_1R nd DL pt QC db cd rs) := by
 intro k9 L9 α α' ix9 hk hcl hα hact ht
 have hp := act_places hact
 replace hp : ix9 ∈ [999, 1999, 2999] := hp
 simp only [List.mem_cons, List.not_mem_nil, or_false] at hp
 rcases hp with rfl | rfl | rfl
 ·rfl
 ·rfl
 ·rfl

set_option maxRecDepth 100000 in
set_option maxHeartbeats 4000000 in
theorem tg43c (nm : ByteArray) (awb : Bool) (ng nd : Nat) (ss : List Sy) (GL DL : List Value) (pb : Nat) (PC : Array Value) (sb2 c2 pt : Nat) (QC : Array Value) (cs : Nat) (KC : Array Value) (gb2 cg2 db cd orf rt rs : Nat) (w0 : World) (X : Nat → Obj → Prop) (Q : Exit → Act → World → Prop) (hB : Hg43d nm awb ng nd ss GL DL pb PC sb2 c2 pt QC cs KC gb2 cg2 db cd orf rt rs w0 X Q) (hcg : KC[5]? = some (vS gb2 ng (ng + cg2))) (hds : QC[3]? = some (vS db nd (nd + cd))) (hA : (awb = false ∧ ng = 5 ∧ nd = 4) ∨ (awb = true ∧ ng = 7 ∧ nd = 5)) (hG : ∀ q : Nat, q < 2 → GL[q * 2]? = some (vU 0) ∧ GL[q * 2 + 1]? = some (vU ((q : Int) + 1))) (hD : DL[0]? = some (vU 0) ∧ DL[1]? = some (vU 2)) :
  Hg43c nm awb ng nd ss GL DL pb PC sb2 c2 pt QC cs KC gb2 cg2 db cd orf rt rs w0 X Q := by
 unfold Hg43c
 intro  A0 A1 A2 A3 A4 A5 A6 A7 A8 A9 AA AB AC AD AE AF AG AH AI AJ AK AL AM AN AO AP AQ AR AS AT AU AV AW AX AY AZ B0 B1 B2 B3 B4 B5 B6 B7 B8 B9 BA BB BC BD BE BF BG BH BI BJ BK BL BM BN BO BP BQ BR BS BT BU BV BW BX BY BZ C0 C1 C2 C3 C4 C5 C6 C7 C8 C9 CA CB CC CD CE CF CG CH CI CJ CK CL CM CN CO CP CQ CR CS CT CU CV CW CX CY CZ E0 E1 E2 E3 E4 E5 E6 E7 E8 E9 EA EB EC ED EE EF EG EH EI EJ EK EL EM EN EO EP EQ ER ES ET EU EV EW EX EY EZ F0 F1 F2 F3 F4 F5 F6 F7 F8 F9 FA FB FC FD FE FF FG FH FI FJ FK FL FM FN FO FP FQ FR FS FT FU FV FW FX FY FZ G0 G1 G2 G3 G4 G5 G6 G7 G8 G9 GA GB GC GD GE GF GG GH GI GJ GK GM GN GO GP GQ GR GS GT GU GV GW GX GY GZ I0 I1 I2 I3 I4 I5 I6 I7 I8 I9 IA IB IC ID IE IF IG IH II IJ IK IL IM IN IO IP IQ IR IS IT IU IV IW IX IY IZ J0 J1 J2 J3 J4 J5 J6 J7 J8 J9 JA JB JC JD JE JF JG JH JI JJ JK JL JM JN JO JP JQ JR JS JT JU JV JW JX JY JZ M0 M1 M2 M3 M4 M5 M6 M7 M8 M9 MA MB MC MD ME MF MG MH MI MJ MK ML MM MN MO MP MQ MR MS MT MU MV MW MX MY MZ N0 N1 N2 N3 N4 N5 N6 N7 N8 N9 NA NB w hO
 have HB := Lib.hid hB
 clear hB
 obtain ⟨c9, hc9⟩ : ∃ c, c = rg43d := ⟨_, rfl⟩
 have HC9 := Lib.hid hc9
 simp only [rg43d, Tryd.f4, Option.getD_some, cutC] at hc9
 simp only [rg43c, Tryd.f4, Option.getD_some, cutC]
 rw [← hc9]
 clear hc9
 have hng7 : ng ≤ 7 := by omega
 have hng5 : 5 ≤ ng := by omega
 have hnd5 : nd ≤ 5 := by omega
 have hnd4 : 4 ≤ nd := by omega
 have hg1 : (0 : Int) < (ng : Int) := by omega
 have hg2 : (1 : Int) < (ng : Int) := by omega
 have hg3 : (2 : Int) < (ng : Int) := by omega
 have hg4 : (3 : Int) < (ng : Int) := by omega
 have hg5 : (4 : Int) < (ng : Int) := by omega
 have hh0 : 0 < ng := by omega
 have hh1 : 1 < ng := by omega
 have hh2 : 2 < ng := by omega
 have hh3 : 3 < ng := by omega
 have hh4 : 4 < ng := by omega
 have he0 : 0 < nd := by omega
 have he1 : 1 < nd := by omega
 have he2 : 2 < nd := by omega
 have he3 : 3 < nd := by omega
 have hd1 : (0 : Int) < (nd : Int) := by omega
 have hd2 : (1 : Int) < (nd : Int) := by omega
 have hd3 : (2 : Int) < (nd : Int) := by omega
 have hd4 : (3 : Int) < (nd : Int) := by omega
 have HA := Lib.hid hA
 clear hA
 have H9hG := Lib.hid hG
 clear hG
 have H9hD := Lib.hid hD
 clear hD
 obtain ⟨ga0, ga1⟩ := H9hG.out 0 (by omega)
 obtain ⟨gb0, gb1⟩ := H9hG.out 1 (by omega)
 obtain ⟨da0, da1⟩ := H9hD.out
 have ga0 : GL[0]? = some (vU 0) := ga0
 have ga1 : GL[1]? = some (vU 1) := ga1
 have gb0 : GL[2]? = some (vU 0) := gb0
 have gb1 : GL[3]? = some (vU 2) := gb1
 have hw1 : IntKind.i64.wrap (0 + (ng : Int)) = (ng : Int) := by rw [IntKind.wrap_i64]; omega
 have hw2 : IntKind.i64.wrap (ng : Int) = (ng : Int) := by rw [IntKind.wrap_i64]; omega
 have hw3 : IntKind.i64.wrap (0 + (nd : Int)) = (nd : Int) := by rw [IntKind.wrap_i64]; omega
 have hw4 : IntKind.i64.wrap (nd : Int) = (nd : Int) := by rw [IntKind.wrap_i64]; omega
 obtain ⟨aA, aB, aC, aD, -⟩ := hO.k2 0 rfl
 obtain ⟨aE, aF, aG, aH, -⟩ := hO.k2 7 rfl
 obtain ⟨aI, aJ, aK, aL, -⟩ := hO.k2 8 rfl
 have HO := Lib.hid hO
 clear hO
 go_wp2_with (first | (with_reducible refine Own.stay (fn := Tryd.f4) ?_) | (first | (go_at_call 16; go_in) | (go_at_call 24; go_in) | (go_at_call 15; go_in)))
 try with_reducible refine Own.Stay.mk ?_
 have hO := HO.out
 clear HO aA aB aC aD aE aF aG aH aI aJ aK aL
 obtain ⟨HL, HX⟩ := hid2 hO
 have hP9 := hO.pick [4, 5, 7, 8] dc
 generalize hX9_1 : Own.Rest _ _ X = X9_1 at hP9
 replace hP9 : Own w0 w [row (cs) 99 KC, row (gb2) 31 (full refZ GL cg2), row (rt) 31 #[vU 0, vU 1], row (rs) 31 #[vU 0, vU 2]] X9_1 := hP9
 clear hO
 have hO := hP9
 clear hP9
 have st9 := rG43cc_0_st ng GL cs KC gb2 cg2 rt rs
 let R9 := rG43cc_0R ng GL cs KC gb2 cg2 rt rs
 refine wp_region_own (e := rG43cc_0E ng GL cs KC gb2 cg2 rt rs) (anc := rG43cc_0Anc) (G := (fun L9 α u9 => OwnF w0 u9 (act rG43cc_0Cnt 4 L9) (rG43cc_0R ng GL cs KC gb2 cg2 rt rs L9 α) X9_1)) (by kernel_rfl) (by kernel_rfl) (by kernel_rfl) (by kernel_rfl) (rG43cc_0_he ng GL cs KC gb2 cg2 rt rs) ?_ (RunsAll.all ?_) ?_
 ·have hp : ∀ i, act rG43cc_0Cnt 4 (fun _ => false) i → i ∈ [999, 1999, 2999, 3999] := by
   intro i hi
   have h9 : i % 1000 = 999 := by
    by_cases h : i % 1000 = 999
    ·exact h
    ·exact absurd (act_lt hi h) (by simp)
   unfold act at hi
   rw [if_pos h9] at hi
   simp only [List.mem_cons, List.not_mem_nil, or_false]
   omega
  refine hO.drew.family (fun i hi => ?_) (fun i j hi hj hij => ?_)
  ·have := hp i hi
   simp only [List.mem_cons, List.not_mem_nil, or_false] at this
   rcases this with rfl | rfl | rfl | rfl <;> rfl
  ·have h1 := hp i hi
   have h2 := hp j hj
   simp only [List.mem_cons, List.not_mem_nil, or_false] at h1 h2
   omega
 ·refine ⟨?_, ?_, ?_, ?_, ?_, ?_, ?_, ?_, ?_, ?_, ?_, ?_, ?_, ?_, ?_, ?_, ?_, ?_, ?_, ?_, ?_, ?_, ?_, ?_, ?_, ?_, ?_, ?_, ?_, ?_, ?_, ?_, trivial⟩
  ·refine pur st9 rfl rfl fun L9 α a9 u9 K9 hL hcl hA hG hS h0 h1 hK => ?_
   have s10 := eS (vP cs) ((h0 10 (by kernel_rfl)).trans rfl)
   go_simp
   exact hK
  ·refine pur st9 rfl rfl fun L9 α a9 u9 K9 hL hcl hA hG hS h0 h1 hK => ?_
   have s139 := eS (vP cs) (hS 0 139 dc rfl (ltd 347 rfl))
   go_simp
   exact hK
  ·refine pur st9 rfl rfl fun L9 α a9 u9 K9 hL hcl hA hG hS h0 h1 hK => ?_
   have s140 := eS (vP cs) (hS 1 140 dc rfl (ltd 347 rfl))
   go_simp
   exact hK
  ·refine pur st9 rfl rfl fun L9 α a9 u9 K9 hL hcl hA hG hS h0 h1 hK => ?_
   have s141 := eS (.pointer (some ⟨cs, 5, none⟩)) (hS 2 141 dc rfl (ltd 347 rfl))
   have e0 : R9 L9 α 999 = row (cs) 99 KC := rfl
   have hr := hG.rowAt 999 (act_base 999 rfl) e0
   have c0 : u9.cell? ⟨cs, 5, none⟩ = some (vS gb2 ng (ng + cg2)) := hr.cell (hcg)
   clear hr e0
   go_simp
   exact hK
  ·refine pur st9 rfl rfl fun L9 α a9 u9 K9 hL hcl hA hG hS h0 h1 hK => ?_
   have q142 : a9.tmps[142]? = some (vS gb2 ng (ng + cg2)) := hS 3 142 dc rfl (ltd 347 rfl)
   have s142 := Rega.eval_of q142
   go_simp
   exact hK
  ·refine pur st9 rfl rfl fun L9 α a9 u9 K9 hL hcl hA hG hS h0 h1 hK => ?_
   have q16 : a9.tmps[16]? = some (v6 0) := (h0 16 (by kernel_rfl)).trans rfl
   have s16 := Rega.eval_of q16
   go_simp
   exact hK
  ·refine pur st9 rfl rfl fun L9 α a9 u9 K9 hL hcl hA hG hS h0 h1 hK => ?_
   have q24 : a9.tmps[24]? = some (v6 (ng : Int)) := (h0 24 (by kernel_rfl)).trans rfl
   have s24 := Rega.eval_of q24
   go_simp
   exact hK
  ·refine pur st9 rfl rfl fun L9 α a9 u9 K9 hL hcl hA hG hS h0 h1 hK => ?_
   have q144 : a9.tmps[144]? = some (v6 0) := hS 5 144 dc rfl (ltd 347 rfl)
   have s144 := Rega.eval_of q144
   have q145 : a9.tmps[145]? = some (v6 (ng : Int)) := hS 6 145 dc rfl (ltd 347 rfl)
   have s145 := Rega.eval_of q145
   go_simp
   exact hK
  ·refine pur st9 rfl rfl fun L9 α a9 u9 K9 hL hcl hA hG hS h0 h1 hK => ?_
   have q143 : a9.tmps[143]? = some (v6 (ng : Int)) := hS 4 143 dc rfl (ltd 347 rfl)
   have s143 := Rega.eval_of q143
   have q146 : a9.tmps[146]? = some (v6 (ng : Int)) := hS 7 146 dc rfl (ltd 347 rfl)
   have s146 := Rega.eval_of q146
   go_simp
   exact hK
  ·refine pur st9 rfl rfl fun L9 α a9 u9 K9 hL hcl hA hG hS h0 h1 hK => ?_
   have q147 : a9.tmps[147]? = some (bF) := hS 8 147 dc rfl (ltd 347 rfl)
   have s147 := Rega.eval_of q147
   go_simp
   exact hK
  ·refine pur st9 rfl rfl fun L9 α a9 u9 K9 hL hcl hA hG hS h0 h1 hK => ?_
   have q10 : a9.tmps[10]? = some (vP cs) := (h0 10 (by kernel_rfl)).trans rfl
   have s10 := Rega.eval_of q10
   have q148 : a9.tmps[148]? = some (bF) := hS 9 148 dc rfl (ltd 347 rfl)
   have s148 := Rega.eval_of q148
   go_simp
   exact hK
  ·refine pur st9 rfl rfl fun L9 α a9 u9 K9 hL hcl hA hG hS h0 h1 hK => ?_
   have q149 : a9.tmps[149]? = some (vP cs) := hS 10 149 dc rfl (ltd 347 rfl)
   have s149 := Rega.eval_of q149
   have q148 : a9.tmps[148]? = some (bF) := hS 9 148 dc rfl (ltd 347 rfl)
   have s148 := Rega.eval_of q148
   go_simp
   exact hK
  ·refine pur st9 rfl rfl fun L9 α a9 u9 K9 hL hcl hA hG hS h0 h1 hK => ?_
   have q150 : a9.tmps[150]? = some (vP cs) := hS 11 150 dc rfl (ltd 347 rfl)
   have s150 := Rega.eval_of q150
   have q148 : a9.tmps[148]? = some (bF) := hS 9 148 dc rfl (ltd 347 rfl)
   have s148 := Rega.eval_of q148
   go_simp
   exact hK
  ·refine pur st9 rfl rfl fun L9 α a9 u9 K9 hL hcl hA hG hS h0 h1 hK => ?_
   have q151 : a9.tmps[151]? = some (.pointer (some ⟨cs, 5, none⟩)) := hS 12 151 dc rfl (ltd 347 rfl)
   have s151 := Rega.eval_of q151
   have q148 : a9.tmps[148]? = some (bF) := hS 9 148 dc rfl (ltd 347 rfl)
   have s148 := Rega.eval_of q148
   have e0 : R9 L9 α 999 = row (cs) 99 KC := rfl
   have hr := hG.rowAt 999 (act_base 999 rfl) e0
   have c0 : u9.cell? ⟨cs, 5, none⟩ = some (vS gb2 ng (ng + cg2)) := hr.cell (hcg)
   clear hr e0
   go_simp
   exact hK
  ·refine pur st9 rfl rfl fun L9 α a9 u9 K9 hL hcl hA hG hS h0 h1 hK => ?_
   have q16 : a9.tmps[16]? = some (v6 0) := (h0 16 (by kernel_rfl)).trans rfl
   have s16 := Rega.eval_of q16
   have q148 : a9.tmps[148]? = some (bF) := hS 9 148 dc rfl (ltd 347 rfl)
   have s148 := Rega.eval_of q148
   go_simp
   exact hK
  ·refine pur st9 rfl rfl fun L9 α a9 u9 K9 hL hcl hA hG hS h0 h1 hK => ?_
   have q152 : a9.tmps[152]? = some (vS gb2 ng (ng + cg2)) := hS 13 152 dc rfl (ltd 347 rfl)
   have s152 := Rega.eval_of q152
   have q153 : a9.tmps[153]? = some (v6 0) := hS 14 153 dc rfl (ltd 347 rfl)
   have s153 := Rega.eval_of q153
   have q148 : a9.tmps[148]? = some (bF) := hS 9 148 dc rfl (ltd 347 rfl)
   have s148 := Rega.eval_of q148
   go_simp
   exact hK
  ·refine pur st9 rfl rfl fun L9 α a9 u9 K9 hL hcl hA hG hS h0 h1 hK => ?_
   have q154 : a9.tmps[154]? = some (vP gb2) := hS 15 154 dc rfl (ltd 347 rfl)
   have s154 := Rega.eval_of q154
   have q148 : a9.tmps[148]? = some (bF) := hS 9 148 dc rfl (ltd 347 rfl)
   have s148 := Rega.eval_of q148
   have e0 : R9 L9 α 1999 = row (gb2) 31 (full refZ GL cg2) := rfl
   have hr := hG.rowAt 1999 (act_base 1999 rfl) e0
   have c0 : u9.cell? ⟨gb2, 0, none⟩ = some (vU 0) := hr.cell ((full_at ga0))
   have c1 : u9.cell? ⟨gb2, 1, none⟩ = some (vU 1) := hr.cell ((full_at ga1))
   clear hr e0
   go_simp
   exact hK
  ·refine pur st9 rfl rfl fun L9 α a9 u9 K9 hL hcl hA hG hS h0 h1 hK => ?_
   have q18 : a9.tmps[18]? = some (vP rt) := (h0 18 (by kernel_rfl)).trans rfl
   have s18 := Rega.eval_of q18
   have q148 : a9.tmps[148]? = some (bF) := hS 9 148 dc rfl (ltd 347 rfl)
   have s148 := Rega.eval_of q148
   have e0 : R9 L9 α 2999 = row (rt) 31 #[vU 0, vU 1] := rfl
   have hr := hG.rowAt 2999 (act_base 2999 rfl) e0
   have c0 : u9.cell? ⟨rt, 0, none⟩ = some (vU 0) := hr.cell rfl
   have c1 : u9.cell? ⟨rt, 1, none⟩ = some (vU 1) := hr.cell rfl
   clear hr e0
   go_simp
   exact hK
  ·refine pur st9 rfl rfl fun L9 α a9 u9 K9 hL hcl hA hG hS h0 h1 hK => ?_
   have q155 : a9.tmps[155]? = some (.agg #[vU 0, vU 1]) := hS 16 155 dc rfl (ltd 347 rfl)
   have s155 := Rega.eval_of q155
   have q156 : a9.tmps[156]? = some (.agg #[vU 0, vU 1]) := hS 17 156 dc rfl (ltd 347 rfl)
   have s156 := Rega.eval_of q156
   have q148 : a9.tmps[148]? = some (bF) := hS 9 148 dc rfl (ltd 347 rfl)
   have s148 := Rega.eval_of q148
   go_simp
   exact hK
  ·refine pur st9 rfl rfl fun L9 α a9 u9 K9 hL hcl hA hG hS h0 h1 hK => ?_
   have q148 : a9.tmps[148]? = some (bF) := hS 9 148 dc rfl (ltd 347 rfl)
   have s148 := Rega.eval_of q148
   have q157 : a9.tmps[157]? = some (bF) := hS 18 157 dc rfl (ltd 347 rfl)
   have s157 := Rega.eval_of q157
   go_simp
   exact hK
  ·refine pur st9 rfl rfl fun L9 α a9 u9 K9 hL hcl hA hG hS h0 h1 hK => ?_
   have q158 : a9.tmps[158]? = some (bF) := hS 19 158 dc rfl (ltd 347 rfl)
   have s158 := Rega.eval_of q158
   go_simp
   exact hK
  ·refine pur st9 rfl rfl fun L9 α a9 u9 K9 hL hcl hA hG hS h0 h1 hK => ?_
   have q10 : a9.tmps[10]? = some (vP cs) := (h0 10 (by kernel_rfl)).trans rfl
   have s10 := Rega.eval_of q10
   have q159 : a9.tmps[159]? = some (bF) := hS 20 159 dc rfl (ltd 347 rfl)
   have s159 := Rega.eval_of q159
   go_simp
   exact hK
  ·refine pur st9 rfl rfl fun L9 α a9 u9 K9 hL hcl hA hG hS h0 h1 hK => ?_
   have q160 : a9.tmps[160]? = some (vP cs) := hS 21 160 dc rfl (ltd 347 rfl)
   have s160 := Rega.eval_of q160
   have q159 : a9.tmps[159]? = some (bF) := hS 20 159 dc rfl (ltd 347 rfl)
   have s159 := Rega.eval_of q159
   go_simp
   exact hK
  ·refine pur st9 rfl rfl fun L9 α a9 u9 K9 hL hcl hA hG hS h0 h1 hK => ?_
   have q161 : a9.tmps[161]? = some (vP cs) := hS 22 161 dc rfl (ltd 347 rfl)
   have s161 := Rega.eval_of q161
   have q159 : a9.tmps[159]? = some (bF) := hS 20 159 dc rfl (ltd 347 rfl)
   have s159 := Rega.eval_of q159
   go_simp
   exact hK
  ·refine pur st9 rfl rfl fun L9 α a9 u9 K9 hL hcl hA hG hS h0 h1 hK => ?_
   have q162 : a9.tmps[162]? = some (.pointer (some ⟨cs, 5, none⟩)) := hS 23 162 dc rfl (ltd 347 rfl)
   have s162 := Rega.eval_of q162
   have q159 : a9.tmps[159]? = some (bF) := hS 20 159 dc rfl (ltd 347 rfl)
   have s159 := Rega.eval_of q159
   have e0 : R9 L9 α 999 = row (cs) 99 KC := rfl
   have hr := hG.rowAt 999 (act_base 999 rfl) e0
   have c0 : u9.cell? ⟨cs, 5, none⟩ = some (vS gb2 ng (ng + cg2)) := hr.cell (hcg)
   clear hr e0
   go_simp
   exact hK
  ·refine pur st9 rfl rfl fun L9 α a9 u9 K9 hL hcl hA hG hS h0 h1 hK => ?_
   have q16 : a9.tmps[16]? = some (v6 0) := (h0 16 (by kernel_rfl)).trans rfl
   have s16 := Rega.eval_of q16
   have q159 : a9.tmps[159]? = some (bF) := hS 20 159 dc rfl (ltd 347 rfl)
   have s159 := Rega.eval_of q159
   go_simp
   exact hK
  ·refine pur st9 rfl rfl fun L9 α a9 u9 K9 hL hcl hA hG hS h0 h1 hK => ?_
   have q164 : a9.tmps[164]? = some (v6 0) := hS 25 164 dc rfl (ltd 347 rfl)
   have s164 := Rega.eval_of q164
   have q159 : a9.tmps[159]? = some (bF) := hS 20 159 dc rfl (ltd 347 rfl)
   have s159 := Rega.eval_of q159
   go_simp
   exact hK
  ·refine pur st9 rfl rfl fun L9 α a9 u9 K9 hL hcl hA hG hS h0 h1 hK => ?_
   have q163 : a9.tmps[163]? = some (vS gb2 ng (ng + cg2)) := hS 24 163 dc rfl (ltd 347 rfl)
   have s163 := Rega.eval_of q163
   have q165 : a9.tmps[165]? = some (v6 1) := hS 26 165 dc rfl (ltd 347 rfl)
   have s165 := Rega.eval_of q165
   have q159 : a9.tmps[159]? = some (bF) := hS 20 159 dc rfl (ltd 347 rfl)
   have s159 := Rega.eval_of q159
   go_simp
   exact hK
  ·refine pur st9 rfl rfl fun L9 α a9 u9 K9 hL hcl hA hG hS h0 h1 hK => ?_
   have q166 : a9.tmps[166]? = some (.pointer (some ⟨gb2, 2, none⟩)) := hS 27 166 dc rfl (ltd 347 rfl)
   have s166 := Rega.eval_of q166
   have q159 : a9.tmps[159]? = some (bF) := hS 20 159 dc rfl (ltd 347 rfl)
   have s159 := Rega.eval_of q159
   have e0 : R9 L9 α 1999 = row (gb2) 31 (full refZ GL cg2) := rfl
   have hr := hG.rowAt 1999 (act_base 1999 rfl) e0
   have c0 : u9.cell? ⟨gb2, 2, none⟩ = some (vU 0) := hr.cell ((full_at gb0))
   have c1 : u9.cell? ⟨gb2, 3, none⟩ = some (vU 2) := hr.cell ((full_at gb1))
   clear hr e0
   go_simp
   exact hK
  ·refine pur st9 rfl rfl fun L9 α a9 u9 K9 hL hcl hA hG hS h0 h1 hK => ?_
   have q22 : a9.tmps[22]? = some (vP rs) := (h0 22 (by kernel_rfl)).trans rfl
   have s22 := Rega.eval_of q22
   have q159 : a9.tmps[159]? = some (bF) := hS 20 159 dc rfl (ltd 347 rfl)
   have s159 := Rega.eval_of q159
   have e0 : R9 L9 α 3999 = row (rs) 31 #[vU 0, vU 2] := rfl
   have hr := hG.rowAt 3999 (act_base 3999 rfl) e0
   have c0 : u9.cell? ⟨rs, 0, none⟩ = some (vU 0) := hr.cell rfl
   have c1 : u9.cell? ⟨rs, 1, none⟩ = some (vU 2) := hr.cell rfl
   clear hr e0
   go_simp
   exact hK
  ·refine pur st9 rfl rfl fun L9 α a9 u9 K9 hL hcl hA hG hS h0 h1 hK => ?_
   have q167 : a9.tmps[167]? = some (.agg #[vU 0, vU 2]) := hS 28 167 dc rfl (ltd 347 rfl)
   have s167 := Rega.eval_of q167
   have q168 : a9.tmps[168]? = some (.agg #[vU 0, vU 2]) := hS 29 168 dc rfl (ltd 347 rfl)
   have s168 := Rega.eval_of q168
   have q159 : a9.tmps[159]? = some (bF) := hS 20 159 dc rfl (ltd 347 rfl)
   have s159 := Rega.eval_of q159
   go_simp
   exact hK
  ·refine pur st9 rfl rfl fun L9 α a9 u9 K9 hL hcl hA hG hS h0 h1 hK => ?_
   have q159 : a9.tmps[159]? = some (bF) := hS 20 159 dc rfl (ltd 347 rfl)
   have s159 := Rega.eval_of q159
   have q169 : a9.tmps[169]? = some (bF) := hS 30 169 dc rfl (ltd 347 rfl)
   have s169 := Rega.eval_of q169
   go_simp
   exact hK
 clear st9
 intro α u hG
 have e0 : R9 (fun k => decide (k < 32)) α 999 = row (cs) 99 KC := rfl
 have e1 : R9 (fun k => decide (k < 32)) α 1999 = row (gb2) 31 (full refZ GL cg2) := rfl
 have e2 : R9 (fun k => decide (k < 32)) α 2999 = row (rt) 31 #[vU 0, vU 1] := rfl
 have e3 : R9 (fun k => decide (k < 32)) α 3999 = row (rs) 31 #[vU 0, vU 2] := rfl
 have hO : Own w0 u [row (cs) 99 KC, row (gb2) 31 (full refZ GL cg2), row (rt) 31 #[vU 0, vU 1], row (rs) 31 #[vU 0, vU 2]] X9_1 := (hG.list [999, 1999, 2999, 3999] dc (act_all dc)).conv (by
  show [R9 (fun k => decide (k < 32)) α 999, R9 (fun k => decide (k < 32)) α 1999, R9 (fun k => decide (k < 32)) α 2999, R9 (fun k => decide (k < 32)) α 3999] = _
  rw [e0, e1, e2, e3])
 clear hG e0 e1 e2 e3 R9
 generalize hfr : Rega.frameAt _ _ _ _ _ = fr
 have hdf : fr = ⟨#[.string nm, A0, A1, .bool awb, A2, A3, A4, A5, A6, vP pb, vP cs, vP orf, A7, A8, A9, vP pt, v6 0, v6 0, vP rt, AA, AB, AC, vP rs, AD, v6 (ng : Int), v6 (nd : Int), AE, AF, AG, AH, AI, AJ, AK, AL, AM, AN, AO, AP, AQ, AR, AS, AT, AU, AV, AW, AX, AY, AZ, B0, B1, B2, B3, B4, B5, B6, B7, B8, B9, BA, BB, BC, BD, BE, BF, BG, BH, BI, BJ, BK, BL, BM, BN, BO, BP, BQ, BR, BS, BT, BU, BV, BW, BX, BY, BZ, C0, C1, C2, C3, C4, C5, C6, C7, C8, C9, CA, CB, CC, CD, CE, CF, CG, CH, CI, CJ, CK, CL, CM, CN, CO, CP, CQ, CR, CS, CT, CU, CV, CW, CX, CY, CZ, E0, E1, E2, E3, E4, E5, E6, E7, E8, E9, EA, EB, EC, ED, EE, EF, EG, EH, EI, vP cs, vP cs, .pointer (some ⟨cs, 5, none⟩), vS gb2 ng (ng + cg2), v6 (ng : Int), v6 0, v6 (ng : Int), v6 (ng : Int), bF, bF, vP cs, vP cs, .pointer (some ⟨cs, 5, none⟩), vS gb2 ng (ng + cg2), v6 0, vP gb2, .agg #[vU 0, vU 1], .agg #[vU 0, vU 1], bF, bF, bF, vP cs, vP cs, .pointer (some ⟨cs, 5, none⟩), vS gb2 ng (ng + cg2), v6 0, v6 1, .pointer (some ⟨gb2, 2, none⟩), .agg #[vU 0, vU 2], .agg #[vU 0, vU 2], bF, bF, FF, FG, FH, FI, FJ, FK, FL, FM, FN, FO, FP, FQ, FR, FS, FT, FU, FV, FW, FX, FY, FZ, G0, G1, G2, G3, G4, G5, G6, G7, G8, G9, GA, GB, GC, GD, GE, GF, GG, GH, GI, GJ, GK, GM, GN, GO, GP, GQ, GR, GS, GT, GU, GV, GW, GX, GY, GZ, I0, I1, I2, I3, I4, I5, I6, I7, I8, I9, IA, IB, IC, ID, IE, IF, IG, IH, II, IJ, IK, IL, IM, IN, IO, IP, IQ, IR, IS, IT, IU, IV, IW, IX, IY, IZ, J0, J1, J2, J3, J4, J5, J6, J7, J8, J9, JA, JB, JC, JD, JE, JF, JG, JH, JI, JJ, JK, JL, JM, JN, JO, JP, JQ, JR, JS, JT, JU, JV, JW, JX, JY, JZ, M0, M1, M2, M3, M4, M5, M6, M7, M8, M9, MA, MB, MC, MD, ME, MF, MG, MH, MI, MJ, MK, ML, MM, MN, MO, MP, MQ, MR, MS, MT, MU, MV, MW, MX, MY, MZ, N0, N1, N2, N3, N4, N5, N6, N7, N8, N9, NA, NB], []⟩ := by rw [← hfr]; kernel_rfl
 clear hfr
 subst hdf
 clear α
 subst hX9_1
 replace hO : Own w0 u [row (cs) 99 KC, row (gb2) 31 (full refZ GL cg2), row (rt) 31 #[vU 0, vU 1], row (rs) 31 #[vU 0, vU 2], row (orf) 31 #[vU 0, vU 0], row (pb) 252 PC, row (sb2) 260 (full symZ (symL ss) c2), row (pt) 107 QC, row (db) 113 (full dsyZ DL cd)] X := hO.back HL.out HX.out [0, 1, 2, 3, 6] dc dc
 clear HL HX
 obtain ⟨aM, aN, aO, aP, -⟩ := hO.k2 2 rfl
 obtain ⟨aQ, aR, aS, aT, -⟩ := hO.k2 3 rfl
 obtain ⟨aU, aV, aW, aX, -⟩ := hO.k2 4 rfl
 have HO := Lib.hid hO
 clear hO
 go_wp2_with (first | (with_reducible refine Own.stay (fn := Tryd.f4) ?_) | (first | (go_at_call 16; go_in) | (go_at_call 24; go_in) | (go_at_call 15; go_in)))
 try with_reducible refine Own.Stay.mk ?_
 have hO := HO.out
 clear HO aM aN aO aP aQ aR aS aT aU aV aW aX
 obtain ⟨HL, HX⟩ := hid2 hO
 have hP9 := hO.pick [3, 7, 8] dc
 generalize hX9_2 : Own.Rest _ _ X = X9_2 at hP9
 replace hP9 : Own w0 u [row (rs) 31 #[vU 0, vU 2], row (pt) 107 QC, row (db) 113 (full dsyZ DL cd)] X9_2 := hP9
 clear hO
 have hO := hP9
 clear hP9
 have st9 := rG43cc_1_st nd DL pt QC db cd rs
 let R9 := rG43cc_1R nd DL pt QC db cd rs
 refine wp_region_own (e := rG43cc_1E nd DL pt QC db cd rs) (anc := rG43cc_1Anc) (G := (fun L9 α u9 => OwnF w0 u9 (act rG43cc_1Cnt 3 L9) (rG43cc_1R nd DL pt QC db cd rs L9 α) X9_2)) (by kernel_rfl) (by kernel_rfl) (by kernel_rfl) (by kernel_rfl) (rG43cc_1_he nd DL pt QC db cd rs) ?_ (RunsAll.all ?_) ?_
 ·have hp : ∀ i, act rG43cc_1Cnt 3 (fun _ => false) i → i ∈ [999, 1999, 2999] := by
   intro i hi
   have h9 : i % 1000 = 999 := by
    by_cases h : i % 1000 = 999
    ·exact h
    ·exact absurd (act_lt hi h) (by simp)
   unfold act at hi
   rw [if_pos h9] at hi
   simp only [List.mem_cons, List.not_mem_nil, or_false]
   omega
  refine hO.drew.family (fun i hi => ?_) (fun i j hi hj hij => ?_)
  ·have := hp i hi
   simp only [List.mem_cons, List.not_mem_nil, or_false] at this
   rcases this with rfl | rfl | rfl <;> rfl
  ·have h1 := hp i hi
   have h2 := hp j hj
   simp only [List.mem_cons, List.not_mem_nil, or_false] at h1 h2
   omega
 ·refine ⟨?_, ?_, ?_, ?_, ?_, ?_, ?_, ?_, ?_, ?_, ?_, ?_, ?_, ?_, ?_, ?_, ?_, ?_, ?_, ?_, ?_, trivial⟩
  ·refine pur st9 rfl rfl fun L9 α a9 u9 K9 hL hcl hA hG hS h0 h1 hK => ?_
   have s15 := eS (vP pt) ((h0 15 (by kernel_rfl)).trans rfl)
   go_simp
   exact hK
  ·refine pur st9 rfl rfl fun L9 α a9 u9 K9 hL hcl hA hG hS h0 h1 hK => ?_
   have s171 := eS (vP pt) (hS 0 171 dc rfl (ltd 347 rfl))
   go_simp
   exact hK
  ·refine pur st9 rfl rfl fun L9 α a9 u9 K9 hL hcl hA hG hS h0 h1 hK => ?_
   have s172 := eS (vP pt) (hS 1 172 dc rfl (ltd 347 rfl))
   go_simp
   exact hK
  ·refine pur st9 rfl rfl fun L9 α a9 u9 K9 hL hcl hA hG hS h0 h1 hK => ?_
   have s173 := eS (.pointer (some ⟨pt, 3, none⟩)) (hS 2 173 dc rfl (ltd 347 rfl))
   have e0 : R9 L9 α 1999 = row (pt) 107 QC := rfl
   have hr := hG.rowAt 1999 (act_base 1999 rfl) e0
   have c0 : u9.cell? ⟨pt, 3, none⟩ = some (vS db nd (nd + cd)) := hr.cell (hds)
   clear hr e0
   go_simp
   exact hK
  ·refine pur st9 rfl rfl fun L9 α a9 u9 K9 hL hcl hA hG hS h0 h1 hK => ?_
   have q174 : a9.tmps[174]? = some (vS db nd (nd + cd)) := hS 3 174 dc rfl (ltd 347 rfl)
   have s174 := Rega.eval_of q174
   go_simp
   exact hK
  ·refine pur st9 rfl rfl fun L9 α a9 u9 K9 hL hcl hA hG hS h0 h1 hK => ?_
   have q17 : a9.tmps[17]? = some (v6 0) := (h0 17 (by kernel_rfl)).trans rfl
   have s17 := Rega.eval_of q17
   go_simp
   exact hK
  ·refine pur st9 rfl rfl fun L9 α a9 u9 K9 hL hcl hA hG hS h0 h1 hK => ?_
   have q25 : a9.tmps[25]? = some (v6 (nd : Int)) := (h0 25 (by kernel_rfl)).trans rfl
   have s25 := Rega.eval_of q25
   go_simp
   exact hK
  ·refine pur st9 rfl rfl fun L9 α a9 u9 K9 hL hcl hA hG hS h0 h1 hK => ?_
   have q176 : a9.tmps[176]? = some (v6 0) := hS 5 176 dc rfl (ltd 347 rfl)
   have s176 := Rega.eval_of q176
   have q177 : a9.tmps[177]? = some (v6 (nd : Int)) := hS 6 177 dc rfl (ltd 347 rfl)
   have s177 := Rega.eval_of q177
   go_simp
   exact hK
  ·refine pur st9 rfl rfl fun L9 α a9 u9 K9 hL hcl hA hG hS h0 h1 hK => ?_
   have q175 : a9.tmps[175]? = some (v6 (nd : Int)) := hS 4 175 dc rfl (ltd 347 rfl)
   have s175 := Rega.eval_of q175
   have q178 : a9.tmps[178]? = some (v6 (nd : Int)) := hS 7 178 dc rfl (ltd 347 rfl)
   have s178 := Rega.eval_of q178
   go_simp
   exact hK
  ·refine pur st9 rfl rfl fun L9 α a9 u9 K9 hL hcl hA hG hS h0 h1 hK => ?_
   have q179 : a9.tmps[179]? = some (bF) := hS 8 179 dc rfl (ltd 347 rfl)
   have s179 := Rega.eval_of q179
   go_simp
   exact hK
  ·refine pur st9 rfl rfl fun L9 α a9 u9 K9 hL hcl hA hG hS h0 h1 hK => ?_
   have q15 : a9.tmps[15]? = some (vP pt) := (h0 15 (by kernel_rfl)).trans rfl
   have s15 := Rega.eval_of q15
   have q180 : a9.tmps[180]? = some (bF) := hS 9 180 dc rfl (ltd 347 rfl)
   have s180 := Rega.eval_of q180
   go_simp
   exact hK
  ·refine pur st9 rfl rfl fun L9 α a9 u9 K9 hL hcl hA hG hS h0 h1 hK => ?_
   have q181 : a9.tmps[181]? = some (vP pt) := hS 10 181 dc rfl (ltd 347 rfl)
   have s181 := Rega.eval_of q181
   have q180 : a9.tmps[180]? = some (bF) := hS 9 180 dc rfl (ltd 347 rfl)
   have s180 := Rega.eval_of q180
   go_simp
   exact hK
  ·refine pur st9 rfl rfl fun L9 α a9 u9 K9 hL hcl hA hG hS h0 h1 hK => ?_
   have q182 : a9.tmps[182]? = some (vP pt) := hS 11 182 dc rfl (ltd 347 rfl)
   have s182 := Rega.eval_of q182
   have q180 : a9.tmps[180]? = some (bF) := hS 9 180 dc rfl (ltd 347 rfl)
   have s180 := Rega.eval_of q180
   go_simp
   exact hK
  ·refine pur st9 rfl rfl fun L9 α a9 u9 K9 hL hcl hA hG hS h0 h1 hK => ?_
   have q183 : a9.tmps[183]? = some (.pointer (some ⟨pt, 3, none⟩)) := hS 12 183 dc rfl (ltd 347 rfl)
   have s183 := Rega.eval_of q183
   have q180 : a9.tmps[180]? = some (bF) := hS 9 180 dc rfl (ltd 347 rfl)
   have s180 := Rega.eval_of q180
   have e0 : R9 L9 α 1999 = row (pt) 107 QC := rfl
   have hr := hG.rowAt 1999 (act_base 1999 rfl) e0
   have c0 : u9.cell? ⟨pt, 3, none⟩ = some (vS db nd (nd + cd)) := hr.cell (hds)
   clear hr e0
   go_simp
   exact hK
  ·refine pur st9 rfl rfl fun L9 α a9 u9 K9 hL hcl hA hG hS h0 h1 hK => ?_
   have q17 : a9.tmps[17]? = some (v6 0) := (h0 17 (by kernel_rfl)).trans rfl
   have s17 := Rega.eval_of q17
   have q180 : a9.tmps[180]? = some (bF) := hS 9 180 dc rfl (ltd 347 rfl)
   have s180 := Rega.eval_of q180
   go_simp
   exact hK
  ·refine pur st9 rfl rfl fun L9 α a9 u9 K9 hL hcl hA hG hS h0 h1 hK => ?_
   have q184 : a9.tmps[184]? = some (vS db nd (nd + cd)) := hS 13 184 dc rfl (ltd 347 rfl)
   have s184 := Rega.eval_of q184
   have q185 : a9.tmps[185]? = some (v6 0) := hS 14 185 dc rfl (ltd 347 rfl)
   have s185 := Rega.eval_of q185
   have q180 : a9.tmps[180]? = some (bF) := hS 9 180 dc rfl (ltd 347 rfl)
   have s180 := Rega.eval_of q180
   go_simp
   exact hK
  ·refine pur st9 rfl rfl fun L9 α a9 u9 K9 hL hcl hA hG hS h0 h1 hK => ?_
   have q186 : a9.tmps[186]? = some (vP db) := hS 15 186 dc rfl (ltd 347 rfl)
   have s186 := Rega.eval_of q186
   have q180 : a9.tmps[180]? = some (bF) := hS 9 180 dc rfl (ltd 347 rfl)
   have s180 := Rega.eval_of q180
   go_simp
   exact hK
  ·refine pur st9 rfl rfl fun L9 α a9 u9 K9 hL hcl hA hG hS h0 h1 hK => ?_
   have q187 : a9.tmps[187]? = some (vP db) := hS 16 187 dc rfl (ltd 347 rfl)
   have s187 := Rega.eval_of q187
   have q180 : a9.tmps[180]? = some (bF) := hS 9 180 dc rfl (ltd 347 rfl)
   have s180 := Rega.eval_of q180
   have e0 : R9 L9 α 2999 = row (db) 113 (full dsyZ DL cd) := rfl
   have hr := hG.rowAt 2999 (act_base 2999 rfl) e0
   have c0 : u9.cell? ⟨db, 0, none⟩ = some (vU 0) := hr.cell ((full_at da0))
   have c1 : u9.cell? ⟨db, 1, none⟩ = some (vU 2) := hr.cell ((full_at da1))
   clear hr e0
   go_simp
   exact hK
  ·refine pur st9 rfl rfl fun L9 α a9 u9 K9 hL hcl hA hG hS h0 h1 hK => ?_
   have q22 : a9.tmps[22]? = some (vP rs) := (h0 22 (by kernel_rfl)).trans rfl
   have s22 := Rega.eval_of q22
   have q180 : a9.tmps[180]? = some (bF) := hS 9 180 dc rfl (ltd 347 rfl)
   have s180 := Rega.eval_of q180
   have e0 : R9 L9 α 999 = row (rs) 31 #[vU 0, vU 2] := rfl
   have hr := hG.rowAt 999 (act_base 999 rfl) e0
   have c0 : u9.cell? ⟨rs, 0, none⟩ = some (vU 0) := hr.cell rfl
   have c1 : u9.cell? ⟨rs, 1, none⟩ = some (vU 2) := hr.cell rfl
   clear hr e0
   go_simp
   exact hK
  ·refine pur st9 rfl rfl fun L9 α a9 u9 K9 hL hcl hA hG hS h0 h1 hK => ?_
   have q188 : a9.tmps[188]? = some (.agg #[vU 0, vU 2]) := hS 17 188 dc rfl (ltd 347 rfl)
   have s188 := Rega.eval_of q188
   have q189 : a9.tmps[189]? = some (.agg #[vU 0, vU 2]) := hS 18 189 dc rfl (ltd 347 rfl)
   have s189 := Rega.eval_of q189
   have q180 : a9.tmps[180]? = some (bF) := hS 9 180 dc rfl (ltd 347 rfl)
   have s180 := Rega.eval_of q180
   go_simp
   exact hK
  ·refine pur st9 rfl rfl fun L9 α a9 u9 K9 hL hcl hA hG hS h0 h1 hK => ?_
   have q180 : a9.tmps[180]? = some (bF) := hS 9 180 dc rfl (ltd 347 rfl)
   have s180 := Rega.eval_of q180
   have q190 : a9.tmps[190]? = some (bF) := hS 19 190 dc rfl (ltd 347 rfl)
   have s190 := Rega.eval_of q190
   go_simp
   exact hK
 clear st9
 intro α u hG
 have e0 : R9 (fun k => decide (k < 21)) α 999 = row (rs) 31 #[vU 0, vU 2] := rfl
 have e1 : R9 (fun k => decide (k < 21)) α 1999 = row (pt) 107 QC := rfl
 have e2 : R9 (fun k => decide (k < 21)) α 2999 = row (db) 113 (full dsyZ DL cd) := rfl
 have hO : Own w0 u [row (rs) 31 #[vU 0, vU 2], row (pt) 107 QC, row (db) 113 (full dsyZ DL cd)] X9_2 := (hG.list [999, 1999, 2999] dc (act_all dc)).conv (by
  show [R9 (fun k => decide (k < 21)) α 999, R9 (fun k => decide (k < 21)) α 1999, R9 (fun k => decide (k < 21)) α 2999] = _
  rw [e0, e1, e2])
 clear hG e0 e1 e2 R9
 generalize hfr : Rega.frameAt _ _ _ _ _ = fr
 have hdf : fr = ⟨#[.string nm, A0, A1, .bool awb, A2, A3, A4, A5, A6, vP pb, vP cs, vP orf, A7, A8, A9, vP pt, v6 0, v6 0, vP rt, AA, AB, AC, vP rs, AD, v6 (ng : Int), v6 (nd : Int), AE, AF, AG, AH, AI, AJ, AK, AL, AM, AN, AO, AP, AQ, AR, AS, AT, AU, AV, AW, AX, AY, AZ, B0, B1, B2, B3, B4, B5, B6, B7, B8, B9, BA, BB, BC, BD, BE, BF, BG, BH, BI, BJ, BK, BL, BM, BN, BO, BP, BQ, BR, BS, BT, BU, BV, BW, BX, BY, BZ, C0, C1, C2, C3, C4, C5, C6, C7, C8, C9, CA, CB, CC, CD, CE, CF, CG, CH, CI, CJ, CK, CL, CM, CN, CO, CP, CQ, CR, CS, CT, CU, CV, CW, CX, CY, CZ, E0, E1, E2, E3, E4, E5, E6, E7, E8, E9, EA, EB, EC, ED, EE, EF, EG, EH, EI, vP cs, vP cs, .pointer (some ⟨cs, 5, none⟩), vS gb2 ng (ng + cg2), v6 (ng : Int), v6 0, v6 (ng : Int), v6 (ng : Int), bF, bF, vP cs, vP cs, .pointer (some ⟨cs, 5, none⟩), vS gb2 ng (ng + cg2), v6 0, vP gb2, .agg #[vU 0, vU 1], .agg #[vU 0, vU 1], bF, bF, bF, vP cs, vP cs, .pointer (some ⟨cs, 5, none⟩), vS gb2 ng (ng + cg2), v6 0, v6 1, .pointer (some ⟨gb2, 2, none⟩), .agg #[vU 0, vU 2], .agg #[vU 0, vU 2], bF, bF, vP pt, vP pt, .pointer (some ⟨pt, 3, none⟩), vS db nd (nd + cd), v6 (nd : Int), v6 0, v6 (nd : Int), v6 (nd : Int), bF, bF, vP pt, vP pt, .pointer (some ⟨pt, 3, none⟩), vS db nd (nd + cd), v6 0, vP db, vP db, .agg #[vU 0, vU 2], .agg #[vU 0, vU 2], bF, bF, G0, G1, G2, G3, G4, G5, G6, G7, G8, G9, GA, GB, GC, GD, GE, GF, GG, GH, GI, GJ, GK, GM, GN, GO, GP, GQ, GR, GS, GT, GU, GV, GW, GX, GY, GZ, I0, I1, I2, I3, I4, I5, I6, I7, I8, I9, IA, IB, IC, ID, IE, IF, IG, IH, II, IJ, IK, IL, IM, IN, IO, IP, IQ, IR, IS, IT, IU, IV, IW, IX, IY, IZ, J0, J1, J2, J3, J4, J5, J6, J7, J8, J9, JA, JB, JC, JD, JE, JF, JG, JH, JI, JJ, JK, JL, JM, JN, JO, JP, JQ, JR, JS, JT, JU, JV, JW, JX, JY, JZ, M0, M1, M2, M3, M4, M5, M6, M7, M8, M9, MA, MB, MC, MD, ME, MF, MG, MH, MI, MJ, MK, ML, MM, MN, MO, MP, MQ, MR, MS, MT, MU, MV, MW, MX, MY, MZ, N0, N1, N2, N3, N4, N5, N6, N7, N8, N9, NA, NB], []⟩ := by rw [← hfr]; kernel_rfl
 clear hfr
 subst hdf
 clear α
 subst hX9_2
 replace hO : Own w0 u [row (rs) 31 #[vU 0, vU 2], row (pt) 107 QC, row (db) 113 (full dsyZ DL cd), row (cs) 99 KC, row (gb2) 31 (full refZ GL cg2), row (rt) 31 #[vU 0, vU 1], row (orf) 31 #[vU 0, vU 0], row (pb) 252 PC, row (sb2) 260 (full symZ (symL ss) c2)] X := hO.back HL.out HX.out [0, 1, 2, 4, 5, 6] dc dc
 clear HL HX
 obtain ⟨aA, aB, aC, aD, -⟩ := hO.k2 0 rfl
 obtain ⟨aY, aZ, aa, ab, -⟩ := hO.k2 5 rfl
 obtain ⟨ac, ad, ae, af, -⟩ := hO.k2 6 rfl
 have HO := Lib.hid hO
 clear hO
 go_wp2_with (first | (with_reducible refine Own.stay (fn := Tryd.f4) ?_) | (first | (go_at_call 16; go_in) | (go_at_call 24; go_in) | (go_at_call 15; go_in)))
 try with_reducible refine Own.Stay.mk ?_
 have hO := HO.out
 clear HO aA aB aC aD aY aZ aa ab ac ad ae af
 rw [HC9.out]
 exact HB.out  (hO.sub [6, 7, 8, 1, 3, 4, 2, 5, 0] dc)
end Go.Proofs.YtikopplofkemlaaDoor.Use
namespace Go.Proofs.YtikopplofkemlaaDoor.Use
open Go.ChangeShapes Go.WideShapes Go.ChangeAt Go.RowKit Go.Sort Own
set_option linter.unusedVariables false
noncomputable def rG43dl_0E (ng : Nat) (nd : Nat) (GL : List Value) (DL : List Value) (pt : Nat) (QC : Array Value) (cs : Nat) (KC : Array Value) (gb2 : Nat) (cg2 : Nat) (db : Nat) (cd : Nat) (j : Nat) : Nat → Rega.Atoms → Value
 | 0, α => vP cs
 | 1, α => vP cs
 | 2, α => .pointer (some ⟨cs, 5, none⟩)
 | 3, α => vS gb2 ng (ng + cg2)
 | 4, α => v6 0
 | 5, α => v6 2
 | 6, α => v6 (j : Int)
 | 7, α => v6 (2 + (j : Int))
 | 8, α => .pointer (some ⟨gb2, (2 + j) * 2, none⟩)
 | 9, α => .agg #[vU 0, vU ((j : Int) + 4)]
 | 10, α => vP pt
 | 11, α => vP pt
 | 12, α => .pointer (some ⟨pt, 3, none⟩)
 | 13, α => vS db nd (nd + cd)
 | 14, α => v6 0
 | 15, α => v6 1
 | 16, α => v6 (j : Int)
 | 17, α => v6 (1 + (j : Int))
 | 18, α => .pointer (some ⟨db, (1 + j) * 3, none⟩)
 | 19, α => .pointer (some ⟨db, (1 + j) * 3, none⟩)
 | 20, α => .agg #[vU 0, vU ((j : Int) + 4)]
 | 21, α => bF
 | _, _ => undef
noncomputable def rG43dl_0Anc : Nat → List Nat
 | 1 => [0]
 | 2 => [0, 1]
 | 3 => [0, 1, 2]
 | 5 => [4]
 | 7 => [4, 5, 6]
 | 8 => [0, 1, 2, 3, 4, 5, 6, 7]
 | 9 => [0, 1, 2, 3, 4, 5, 6, 7, 8]
 | 11 => [10]
 | 12 => [10, 11]
 | 13 => [10, 11, 12]
 | 15 => [14]
 | 17 => [14, 15, 16]
 | 18 => [10, 11, 12, 13, 14, 15, 16, 17]
 | 19 => [10, 11, 12, 13, 14, 15, 16, 17, 18]
 | 20 => [10, 11, 12, 13, 14, 15, 16, 17, 18, 19]
 | 21 => [0, 1, 2, 3, 4, 5, 6, 7, 8, 9, 10, 11, 12, 13, 14, 15, 16, 17, 18, 19, 20]
 | _ => []
noncomputable def rG43dl_0Trn : Nat → List Nat
 | _ => []
noncomputable def rG43dl_0Cnt : List (Nat × Nat) := []
noncomputable def rG43dl_0R (ng : Nat) (nd : Nat) (GL : List Value) (DL : List Value) (pt : Nat) (QC : Array Value) (cs : Nat) (KC : Array Value) (gb2 : Nat) (cg2 : Nat) (db : Nat) (cd : Nat) (j : Nat) (L9 : Nat → Bool) (α : Rega.Atoms) (ix9 : Nat) : Rw := if ix9 = 999 then row (pt) 107 QC else if ix9 = 1999 then row (cs) 99 KC else if ix9 = 2999 then row (gb2) 31 (full refZ GL cg2) else if ix9 = 3999 then row (db) 113 (full dsyZ DL cd) else (0, .map #[] 0)
theorem rG43dl_0_he (ng : Nat) (nd : Nat) (GL : List Value) (DL : List Value) (pt : Nat) (QC : Array Value) (cs : Nat) (KC : Array Value) (gb2 : Nat) (cg2 : Nat) (db : Nat) (cd : Nat) (j : Nat) : ∀ kk α α', (∀ j, (j % 1000 = kk ∨ j % 1000 ∈ rG43dl_0Anc kk) → α j = α' j) → rG43dl_0E ng nd GL DL pt QC cs KC gb2 cg2 db cd j kk α = rG43dl_0E ng nd GL DL pt QC cs KC gb2 cg2 db cd j kk α' := by
 intro kk α α' h
 match kk with
 | 0 => rfl
 | 1 => rfl
 | 2 => rfl
 | 3 => rfl
 | 4 => rfl
 | 5 => rfl
 | 6 => rfl
 | 7 => rfl
 | 8 => rfl
 | 9 => rfl
 | 10 => rfl
 | 11 => rfl
 | 12 => rfl
 | 13 => rfl
 | 14 => rfl
 | 15 => rfl
 | 16 => rfl
 | 17 => rfl
 | 18 => rfl
 | 19 => rfl
 | 20 => rfl
 | 21 => rfl
 | n + 22 => rfl
theorem rG43dl_0_st (ng : Nat) (nd : Nat) (GL : List Value) (DL : List Value) (pt : Nat) (QC : Array Value) (cs : Nat) (KC : Array Value) (gb2 : Nat) (cg2 : Nat) (db : Nat) (cd : Nat) (j : Nat) : Stable rG43dl_0Cnt 4 rG43dl_0Anc rG43dl_0Trn (rG43dl_0R ng nd GL DL pt QC cs KC gb2 cg2 db cd j) := by
 intro k9 L9 α α' ix9 hk hcl hα hact ht
 have hp := act_places hact
 replace hp : ix9 ∈ [999, 1999, 2999, 3999] := hp
 simp only [List.mem_cons, List.not_mem_nil, or_false] at hp
 rcases hp with rfl | rfl | rfl | rfl
 ·rfl
 ·rfl
 ·rfl
 ·rfl

set_option maxRecDepth 100000 in
set_option maxHeartbeats 4000000 in
theorem tg43d (nm : ByteArray) (awb : Bool) (ng nd : Nat) (ss : List Sy) (GL DL : List Value) (pb : Nat) (PC : Array Value) (sb2 c2 pt : Nat) (QC : Array Value) (cs : Nat) (KC : Array Value) (gb2 cg2 db cd orf rt rs ns : Nat) (w0 : World) (X : Nat → Obj → Prop) (Q : Exit → Act → World → Prop) (hB : Hg43e nm awb ng nd ns ss GL DL pb PC sb2 c2 pt QC cs KC gb2 cg2 db cd orf rt rs w0 X Q) (hcg : KC[5]? = some (vS gb2 ng (ng + cg2))) (hds : QC[3]? = some (vS db nd (nd + cd))) (hA : (awb = false ∧ ng = 5 ∧ nd = 4) ∨ (awb = true ∧ ng = 7 ∧ nd = 5)) (hGD : ∀ j : Nat, j < 3 → GL[(2 + j) * 2]? = some (vU 0) ∧ GL[(2 + j) * 2 + 1]? = some (vU ((j : Int) + 4)) ∧ DL[(1 + j) * 3]? = some (vU 0) ∧ DL[(1 + j) * 3 + 1]? = some (vU ((j : Int) + 4))) :
  Hg43d nm awb ng nd ss GL DL pb PC sb2 c2 pt QC cs KC gb2 cg2 db cd orf rt rs w0 X Q := by
 unfold Hg43d
 intro  A0 A1 A2 A3 A4 A5 A6 A7 A8 A9 AA AB AC AD AE AF AG AH AI AJ AK AL AM AN AO AP AQ AR AS AT AU AV AW AX AY AZ B0 B1 B2 B3 B4 B5 B6 B7 B8 B9 BA BB BC BD BE BF BG BH BI BJ BK BL BM BN BO BP BQ BR BS BT BU BV BW BX BY BZ C0 C1 C2 C3 C4 C5 C6 C7 C8 C9 CA CB CC CD CE CF CG CH CI CJ CK CL CM CN CO CP CQ CR CS CT CU CV CW CX CY CZ E0 E1 E2 E3 E4 E5 E6 E7 E8 E9 EA EB EC ED EE EF EG EH EI EJ EK EL EM EN EO EP EQ ER ES ET EU EV EW EX EY EZ F0 F1 F2 F3 F4 F5 F6 F7 F8 F9 FA FB FC FD FE FF FG FH FI FJ FK FL FM FN FO FP FQ FR FS FT FU FV FW FX FY FZ G0 G1 G2 G3 G4 G5 G6 G7 G8 G9 GA GB GC GD GE GF GG GH GI GJ GK GM GN GO GP GQ GR GS GT GU GV GW GX GY GZ I0 I1 I2 I3 I4 I5 I6 I7 I8 I9 IA IB IC ID IE IF IG IH II IJ IK IL IM IN IO IP IQ IR IS IT IU IV IW IX IY IZ J0 J1 J2 J3 J4 J5 J6 J7 J8 J9 JA JB JC JD JE JF JG JH JI JJ JK JL JM JN JO JP JQ JR JS JT JU JV JW JX JY JZ M0 M1 M2 M3 M4 M5 M6 M7 M8 M9 MA MB MC MD ME MF MG MH MI MJ MK ML MM MN MO MP MQ MR MS MT MU MV MW MX MY MZ N0 N1 N2 N3 N4 N5 N6 N7 N8 N9 NA NB NC ND w hO
 have HB := Lib.hid hB
 clear hB
 obtain ⟨c9, hc9⟩ : ∃ c, c = rg43e := ⟨_, rfl⟩
 have HC9 := Lib.hid hc9
 simp only [rg43e, Tryd.f4, Option.getD_some, cutC] at hc9
 simp only [rg43d, Tryd.f4, Option.getD_some, cutC]
 rw [← hc9]
 clear hc9
 have hng7 : ng ≤ 7 := by omega
 have hng5 : 5 ≤ ng := by omega
 have hnd5 : nd ≤ 5 := by omega
 have hnd4 : 4 ≤ nd := by omega
 have hg1 : (0 : Int) < (ng : Int) := by omega
 have hg2 : (1 : Int) < (ng : Int) := by omega
 have hg3 : (2 : Int) < (ng : Int) := by omega
 have hg4 : (3 : Int) < (ng : Int) := by omega
 have hg5 : (4 : Int) < (ng : Int) := by omega
 have hh0 : 0 < ng := by omega
 have hh1 : 1 < ng := by omega
 have hh2 : 2 < ng := by omega
 have hh3 : 3 < ng := by omega
 have hh4 : 4 < ng := by omega
 have he0 : 0 < nd := by omega
 have he1 : 1 < nd := by omega
 have he2 : 2 < nd := by omega
 have he3 : 3 < nd := by omega
 have hd1 : (0 : Int) < (nd : Int) := by omega
 have hd2 : (1 : Int) < (nd : Int) := by omega
 have hd3 : (2 : Int) < (nd : Int) := by omega
 have hd4 : (3 : Int) < (nd : Int) := by omega
 have HA := Lib.hid hA
 clear hA
 have H9hGD := Lib.hid hGD
 clear hGD
 obtain ⟨aI, aJ, aK, aL, -⟩ := hO.k2 0 rfl
 obtain ⟨aA, aB, aC, aD, -⟩ := hO.k2 7 rfl
 obtain ⟨aE, aF, aG, aH, -⟩ := hO.k2 8 rfl
 have HO := Lib.hid hO
 clear hO
 go_wp2_with (first | (with_reducible refine Own.stay (fn := Tryd.f4) ?_) | (first | (go_at_call 16; go_in) | (go_at_call 24; go_in) | (go_at_call 15; go_in)))
 try with_reducible refine Own.Stay.mk ?_
 have hO := HO.out
 clear HO aI aJ aK aL aA aB aC aD aE aF aG aH
 go_loopg [26] 3 (fun gf s26 wx => ∃ j : Nat, j + gf = 3 ∧ s26 = v6 (j : Int) ∧ Own w0 wx [row (orf) 31 #[vU 0, vU 0], row (pb) 252 PC, row (sb2) 260 (full symZ (symL ss) c2), row (pt) 107 QC, row (cs) 99 KC, row (gb2) 31 (full refZ GL cg2), row (db) 113 (full dsyZ DL cd), row (rt) 31 #[vU 0, vU 1], row (rs) 31 #[vU 0, vU 2]] X)
 case atStart => exact ⟨0, by omega, rfl, hO⟩
 obtain ⟨j, hj, rfl, hO⟩ := hrel
 by_cases hlt : j < 3
 ·skip
  obtain ⟨gq, rfl⟩ : ∃ gq, gk = gq + 1 := ⟨gk - 1, by omega⟩
  have hlt9 : (j : Int) < 3 := by omega
  have hj8 : (0 : Int) ≤ (j : Int) := by omega
  obtain ⟨ga0, ga1, da0, da1⟩ := H9hGD.out j hlt
  have hx1 : 2 + j < ng := by omega
  have hx2 : 2 + (j : Int) < (ng : Int) := by omega
  have hx3 : 1 + j < nd := by omega
  have hx4 : 1 + (j : Int) < (nd : Int) := by omega
  have hx5 : IntKind.i64.wrap (2 + (j : Int)) = 2 + (j : Int) := by rw [IntKind.wrap_i64]; omega
  have hx6 : IntKind.i64.wrap (1 + (j : Int)) = 1 + (j : Int) := by rw [IntKind.wrap_i64]; omega
  have hx7 : (2 + (j : Int)).toNat = 2 + j := by omega
  have hx8 : (1 + (j : Int)).toNat = 1 + j := by omega
  obtain ⟨aI, aJ, aK, aL, -⟩ := hO.k2 0 rfl
  obtain ⟨aA, aB, aC, aD, -⟩ := hO.k2 7 rfl
  obtain ⟨aE, aF, aG, aH, -⟩ := hO.k2 8 rfl
  have HO := Lib.hid hO
  clear hO
  go_wp2_with (first | (with_reducible refine Own.stay (fn := Tryd.f4) ?_) | (first | (go_at_call 16; go_in) | (go_at_call 24; go_in) | (go_at_call 15; go_in)))
  try with_reducible refine Own.Stay.mk ?_
  have hO := HO.out
  clear HO aI aJ aK aL aA aB aC aD aE aF aG aH
  obtain ⟨HL, HX⟩ := hid2 hO
  have hP9 := hO.pick [3, 4, 5, 6] dc
  generalize hX9_1 : Own.Rest _ _ X = X9_1 at hP9
  replace hP9 : Own w0 wr [row (pt) 107 QC, row (cs) 99 KC, row (gb2) 31 (full refZ GL cg2), row (db) 113 (full dsyZ DL cd)] X9_1 := hP9
  clear hO
  have hO := hP9
  clear hP9
  have st9 := rG43dl_0_st ng nd GL DL pt QC cs KC gb2 cg2 db cd j
  let R9 := rG43dl_0R ng nd GL DL pt QC cs KC gb2 cg2 db cd j
  refine wp_region_own (e := rG43dl_0E ng nd GL DL pt QC cs KC gb2 cg2 db cd j) (anc := rG43dl_0Anc) (G := (fun L9 α u9 => OwnF w0 u9 (act rG43dl_0Cnt 4 L9) (rG43dl_0R ng nd GL DL pt QC cs KC gb2 cg2 db cd j L9 α) X9_1)) (by kernel_rfl) (by kernel_rfl) (by kernel_rfl) (by kernel_rfl) (rG43dl_0_he ng nd GL DL pt QC cs KC gb2 cg2 db cd j) ?_ (RunsAll.all ?_) ?_
  ·have hp : ∀ i, act rG43dl_0Cnt 4 (fun _ => false) i → i ∈ [999, 1999, 2999, 3999] := by
    intro i hi
    have h9 : i % 1000 = 999 := by
     by_cases h : i % 1000 = 999
     ·exact h
     ·exact absurd (act_lt hi h) (by simp)
    unfold act at hi
    rw [if_pos h9] at hi
    simp only [List.mem_cons, List.not_mem_nil, or_false]
    omega
   refine hO.drew.family (fun i hi => ?_) (fun i j hi hj hij => ?_)
   ·have := hp i hi
    simp only [List.mem_cons, List.not_mem_nil, or_false] at this
    rcases this with rfl | rfl | rfl | rfl <;> rfl
   ·have h1 := hp i hi
    have h2 := hp j hj
    simp only [List.mem_cons, List.not_mem_nil, or_false] at h1 h2
    omega
  ·refine ⟨?_, ?_, ?_, ?_, ?_, ?_, ?_, ?_, ?_, ?_, ?_, ?_, ?_, ?_, ?_, ?_, ?_, ?_, ?_, ?_, ?_, ?_, trivial⟩
   ·refine pur st9 rfl rfl fun L9 α a9 u9 K9 hL hcl hA hG hS h0 h1 hK => ?_
    have s10 := eS (vP cs) ((h0 10 (by kernel_rfl)).trans rfl)
    go_simp
    exact hK
   ·refine pur st9 rfl rfl fun L9 α a9 u9 K9 hL hcl hA hG hS h0 h1 hK => ?_
    have s196 := eS (vP cs) (hS 0 196 dc rfl (ltd 347 rfl))
    go_simp
    exact hK
   ·refine pur st9 rfl rfl fun L9 α a9 u9 K9 hL hcl hA hG hS h0 h1 hK => ?_
    have s197 := eS (vP cs) (hS 1 197 dc rfl (ltd 347 rfl))
    go_simp
    exact hK
   ·refine pur st9 rfl rfl fun L9 α a9 u9 K9 hL hcl hA hG hS h0 h1 hK => ?_
    have s198 := eS (.pointer (some ⟨cs, 5, none⟩)) (hS 2 198 dc rfl (ltd 347 rfl))
    have e0 : R9 L9 α 1999 = row (cs) 99 KC := rfl
    have hr := hG.rowAt 1999 (act_base 1999 rfl) e0
    have c0 : u9.cell? ⟨cs, 5, none⟩ = some (vS gb2 ng (ng + cg2)) := hr.cell (hcg)
    clear hr e0
    go_simp
    exact hK
   ·refine pur st9 rfl rfl fun L9 α a9 u9 K9 hL hcl hA hG hS h0 h1 hK => ?_
    have q16 : a9.tmps[16]? = some (v6 0) := (h0 16 (by kernel_rfl)).trans rfl
    have s16 := Rega.eval_of q16
    go_simp
    exact hK
   ·refine pur st9 rfl rfl fun L9 α a9 u9 K9 hL hcl hA hG hS h0 h1 hK => ?_
    have q200 : a9.tmps[200]? = some (v6 0) := hS 4 200 dc rfl (ltd 347 rfl)
    have s200 := Rega.eval_of q200
    go_simp
    exact hK
   ·refine pur st9 rfl rfl fun L9 α a9 u9 K9 hL hcl hA hG hS h0 h1 hK => ?_
    have q26 : a9.tmps[26]? = some (v6 (j : Int)) := (h0 26 (by kernel_rfl)).trans rfl
    have s26 := Rega.eval_of q26
    go_simp
    exact hK
   ·refine pur st9 rfl rfl fun L9 α a9 u9 K9 hL hcl hA hG hS h0 h1 hK => ?_
    have q201 : a9.tmps[201]? = some (v6 2) := hS 5 201 dc rfl (ltd 347 rfl)
    have s201 := Rega.eval_of q201
    have q202 : a9.tmps[202]? = some (v6 (j : Int)) := hS 6 202 dc rfl (ltd 347 rfl)
    have s202 := Rega.eval_of q202
    go_simp
    exact hK
   ·refine pur st9 rfl rfl fun L9 α a9 u9 K9 hL hcl hA hG hS h0 h1 hK => ?_
    have q199 : a9.tmps[199]? = some (vS gb2 ng (ng + cg2)) := hS 3 199 dc rfl (ltd 347 rfl)
    have s199 := Rega.eval_of q199
    have q203 : a9.tmps[203]? = some (v6 (2 + (j : Int))) := hS 7 203 dc rfl (ltd 347 rfl)
    have s203 := Rega.eval_of q203
    go_simp
    exact hK
   ·refine pur st9 rfl rfl fun L9 α a9 u9 K9 hL hcl hA hG hS h0 h1 hK => ?_
    have s204 := eS (.pointer (some ⟨gb2, (2 + j) * 2, none⟩)) (hS 8 204 dc rfl (ltd 347 rfl))
    have e0 : R9 L9 α 2999 = row (gb2) 31 (full refZ GL cg2) := rfl
    have hr := hG.rowAt 2999 (act_base 2999 rfl) e0
    have c0 : u9.cell? ⟨gb2, (2 + j) * 2, none⟩ = some (vU 0) := hr.cell ((full_at ga0))
    have c1 : u9.cell? ⟨gb2, (2 + j) * 2 + 1, none⟩ = some (vU ((j : Int) + 4)) := hr.cell ((full_at ga1))
    clear hr e0
    go_simp
    exact hK
   ·refine pur st9 rfl rfl fun L9 α a9 u9 K9 hL hcl hA hG hS h0 h1 hK => ?_
    have s15 := eS (vP pt) ((h0 15 (by kernel_rfl)).trans rfl)
    go_simp
    exact hK
   ·refine pur st9 rfl rfl fun L9 α a9 u9 K9 hL hcl hA hG hS h0 h1 hK => ?_
    have s206 := eS (vP pt) (hS 10 206 dc rfl (ltd 347 rfl))
    go_simp
    exact hK
   ·refine pur st9 rfl rfl fun L9 α a9 u9 K9 hL hcl hA hG hS h0 h1 hK => ?_
    have s207 := eS (vP pt) (hS 11 207 dc rfl (ltd 347 rfl))
    go_simp
    exact hK
   ·refine pur st9 rfl rfl fun L9 α a9 u9 K9 hL hcl hA hG hS h0 h1 hK => ?_
    have s208 := eS (.pointer (some ⟨pt, 3, none⟩)) (hS 12 208 dc rfl (ltd 347 rfl))
    have e0 : R9 L9 α 999 = row (pt) 107 QC := rfl
    have hr := hG.rowAt 999 (act_base 999 rfl) e0
    have c0 : u9.cell? ⟨pt, 3, none⟩ = some (vS db nd (nd + cd)) := hr.cell (hds)
    clear hr e0
    go_simp
    exact hK
   ·refine pur st9 rfl rfl fun L9 α a9 u9 K9 hL hcl hA hG hS h0 h1 hK => ?_
    have q17 : a9.tmps[17]? = some (v6 0) := (h0 17 (by kernel_rfl)).trans rfl
    have s17 := Rega.eval_of q17
    go_simp
    exact hK
   ·refine pur st9 rfl rfl fun L9 α a9 u9 K9 hL hcl hA hG hS h0 h1 hK => ?_
    have q210 : a9.tmps[210]? = some (v6 0) := hS 14 210 dc rfl (ltd 347 rfl)
    have s210 := Rega.eval_of q210
    go_simp
    exact hK
   ·refine pur st9 rfl rfl fun L9 α a9 u9 K9 hL hcl hA hG hS h0 h1 hK => ?_
    have q26 : a9.tmps[26]? = some (v6 (j : Int)) := (h0 26 (by kernel_rfl)).trans rfl
    have s26 := Rega.eval_of q26
    go_simp
    exact hK
   ·refine pur st9 rfl rfl fun L9 α a9 u9 K9 hL hcl hA hG hS h0 h1 hK => ?_
    have q211 : a9.tmps[211]? = some (v6 1) := hS 15 211 dc rfl (ltd 347 rfl)
    have s211 := Rega.eval_of q211
    have q212 : a9.tmps[212]? = some (v6 (j : Int)) := hS 16 212 dc rfl (ltd 347 rfl)
    have s212 := Rega.eval_of q212
    go_simp
    exact hK
   ·refine pur st9 rfl rfl fun L9 α a9 u9 K9 hL hcl hA hG hS h0 h1 hK => ?_
    have q209 : a9.tmps[209]? = some (vS db nd (nd + cd)) := hS 13 209 dc rfl (ltd 347 rfl)
    have s209 := Rega.eval_of q209
    have q213 : a9.tmps[213]? = some (v6 (1 + (j : Int))) := hS 17 213 dc rfl (ltd 347 rfl)
    have s213 := Rega.eval_of q213
    go_simp
    exact hK
   ·refine pur st9 rfl rfl fun L9 α a9 u9 K9 hL hcl hA hG hS h0 h1 hK => ?_
    have s214 := eS (.pointer (some ⟨db, (1 + j) * 3, none⟩)) (hS 18 214 dc rfl (ltd 347 rfl))
    go_simp
    exact hK
   ·refine pur st9 rfl rfl fun L9 α a9 u9 K9 hL hcl hA hG hS h0 h1 hK => ?_
    have s215 := eS (.pointer (some ⟨db, (1 + j) * 3, none⟩)) (hS 19 215 dc rfl (ltd 347 rfl))
    have e0 : R9 L9 α 3999 = row (db) 113 (full dsyZ DL cd) := rfl
    have hr := hG.rowAt 3999 (act_base 3999 rfl) e0
    have c0 : u9.cell? ⟨db, (1 + j) * 3, none⟩ = some (vU 0) := hr.cell ((full_at da0))
    have c1 : u9.cell? ⟨db, (1 + j) * 3 + 1, none⟩ = some (vU ((j : Int) + 4)) := hr.cell ((full_at da1))
    clear hr e0
    go_simp
    exact hK
   ·refine pur st9 rfl rfl fun L9 α a9 u9 K9 hL hcl hA hG hS h0 h1 hK => ?_
    have q205 : a9.tmps[205]? = some (.agg #[vU 0, vU ((j : Int) + 4)]) := hS 9 205 dc rfl (ltd 347 rfl)
    have s205 := Rega.eval_of q205
    have q216 : a9.tmps[216]? = some (.agg #[vU 0, vU ((j : Int) + 4)]) := hS 20 216 dc rfl (ltd 347 rfl)
    have s216 := Rega.eval_of q216
    go_simp
    exact hK
  clear st9
  intro α u hG
  have e0 : R9 (fun k => decide (k < 22)) α 999 = row (pt) 107 QC := rfl
  have e1 : R9 (fun k => decide (k < 22)) α 1999 = row (cs) 99 KC := rfl
  have e2 : R9 (fun k => decide (k < 22)) α 2999 = row (gb2) 31 (full refZ GL cg2) := rfl
  have e3 : R9 (fun k => decide (k < 22)) α 3999 = row (db) 113 (full dsyZ DL cd) := rfl
  have hO : Own w0 u [row (pt) 107 QC, row (cs) 99 KC, row (gb2) 31 (full refZ GL cg2), row (db) 113 (full dsyZ DL cd)] X9_1 := (hG.list [999, 1999, 2999, 3999] dc (act_all dc)).conv (by
   show [R9 (fun k => decide (k < 22)) α 999, R9 (fun k => decide (k < 22)) α 1999, R9 (fun k => decide (k < 22)) α 2999, R9 (fun k => decide (k < 22)) α 3999] = _
   rw [e0, e1, e2, e3])
  clear hG e0 e1 e2 e3 R9
  generalize hfr : Rega.frameAt _ _ _ _ _ = fr
  have hdf : fr = ⟨#[.string nm, A0, A1, .bool awb, A2, A3, A4, A5, u8, vP pb, vP cs, vP orf, A7, A8, A9, vP pt, v6 0, v6 0, vP rt, AA, AB, AC, vP rs, AD, AE, AF, v6 (j : Int), AH, AI, AJ, AK, AL, AM, AN, AO, AP, AQ, AR, AS, AT, AU, AV, AW, AX, AY, AZ, B0, B1, B2, B3, B4, B5, B6, B7, B8, B9, BA, BB, BC, BD, BE, BF, BG, BH, BI, BJ, BK, BL, BM, BN, BO, BP, BQ, BR, BS, BT, BU, BV, BW, BX, BY, BZ, C0, C1, C2, C3, C4, C5, C6, C7, C8, C9, CA, CB, CC, CD, CE, CF, CG, CH, CI, CJ, CK, CL, CM, CN, CO, CP, CQ, CR, CS, CT, CU, CV, CW, CX, CY, CZ, E0, E1, E2, E3, E4, E5, E6, E7, E8, E9, EA, EB, EC, ED, EE, EF, EG, EH, EI, EJ, EK, EL, EM, EN, EO, EP, EQ, ER, ES, ET, EU, EV, EW, EX, EY, EZ, F0, F1, F2, F3, F4, F5, F6, F7, F8, F9, FA, FB, FC, FD, FE, FF, FG, FH, FI, FJ, FK, FL, FM, FN, FO, FP, FQ, FR, FS, FT, FU, FV, FW, FX, FY, FZ, G0, G1, v6 (j : Int), .bool true, u194, u195, vP cs, vP cs, .pointer (some ⟨cs, 5, none⟩), vS gb2 ng (ng + cg2), v6 0, v6 2, v6 (j : Int), v6 (2 + (j : Int)), .pointer (some ⟨gb2, (2 + j) * 2, none⟩), .agg #[vU 0, vU ((j : Int) + 4)], vP pt, vP pt, .pointer (some ⟨pt, 3, none⟩), vS db nd (nd + cd), v6 0, v6 1, v6 (j : Int), v6 (1 + (j : Int)), .pointer (some ⟨db, (1 + j) * 3, none⟩), .pointer (some ⟨db, (1 + j) * 3, none⟩), .agg #[vU 0, vU ((j : Int) + 4)], bF, GT, GU, GV, GW, GX, GY, GZ, I0, I1, I2, I3, I4, I5, I6, I7, I8, I9, IA, IB, IC, ID, IE, IF, IG, IH, II, IJ, IK, IL, IM, IN, IO, IP, IQ, IR, IS, IT, IU, IV, IW, IX, IY, IZ, J0, J1, J2, J3, J4, J5, J6, J7, J8, J9, JA, JB, JC, JD, JE, JF, JG, JH, JI, JJ, JK, JL, JM, JN, JO, JP, JQ, JR, JS, JT, JU, JV, JW, JX, JY, JZ, M0, M1, M2, M3, M4, M5, M6, M7, M8, M9, MA, MB, MC, MD, ME, MF, MG, MH, MI, MJ, MK, ML, MM, MN, MO, MP, MQ, MR, MS, MT, MU, MV, MW, MX, MY, MZ, N0, N1, N2, N3, N4, N5, N6, N7, N8, N9, NA, NB, NC, ND], []⟩ := by rw [← hfr]; kernel_rfl
  clear hfr
  subst hdf
  clear α
  subst hX9_1
  replace hO : Own w0 u [row (pt) 107 QC, row (cs) 99 KC, row (gb2) 31 (full refZ GL cg2), row (db) 113 (full dsyZ DL cd), row (orf) 31 #[vU 0, vU 0], row (pb) 252 PC, row (sb2) 260 (full symZ (symL ss) c2), row (rt) 31 #[vU 0, vU 1], row (rs) 31 #[vU 0, vU 2]] X := hO.back HL.out HX.out [0, 1, 2, 7, 8] dc dc
  clear HL HX
  obtain ⟨aM, aN, aO, aP, -⟩ := hO.k2 4 rfl
  obtain ⟨aA, aB, aC, aD, -⟩ := hO.k2 7 rfl
  obtain ⟨aE, aF, aG, aH, -⟩ := hO.k2 8 rfl
  have HO := Lib.hid hO
  clear hO
  go_wp2_with (first | (with_reducible refine Own.stay (fn := Tryd.f4) ?_) | (first | (go_at_call 16; go_in) | (go_at_call 24; go_in) | (go_at_call 15; go_in)))
  try with_reducible refine Own.Stay.mk ?_
  have hO := HO.out
  clear HO aM aN aO aP aA aB aC aD aE aF aG aH
  go_roundg gq
  case measure => omega
  case rel => exact ⟨j + 1, by omega, by first | rfl | simp, hO.sub [4, 5, 6, 0, 1, 2, 3, 7, 8] dc⟩
 obtain rfl : gk = 0 := by omega
 obtain rfl : j = 3 := by omega
 have hlt9 : ¬ ((3 : Nat) : Int) < 3 := by omega
 obtain ⟨aI, aJ, aK, aL, -⟩ := hO.k2 0 rfl
 obtain ⟨aA, aB, aC, aD, -⟩ := hO.k2 7 rfl
 obtain ⟨aE, aF, aG, aH, -⟩ := hO.k2 8 rfl
 have HO := Lib.hid hO
 clear hO
 go_wp2_with (first | (with_reducible refine Own.stay (fn := Tryd.f4) ?_) | (first | (go_at_call 16; go_in) | (go_at_call 24; go_in) | (go_at_call 15; go_in)))
 try with_reducible refine Own.Stay.mk ?_
 have hO := HO.out
 clear HO aI aJ aK aL aA aB aC aD aE aF aG aH
 rw [HC9.out]
 exact HB.out  (hO.sub [0, 1, 2, 3, 4, 5, 6, 7, 8] dc)
end Go.Proofs.YtikopplofkemlaaDoor.Use
namespace Go.Proofs.YtikopplofkemlaaDoor.Use
open Go.ChangeShapes Go.WideShapes Go.ChangeAt Go.RowKit Go.Sort Own
set_option linter.unusedVariables false
noncomputable def rG43ep_0E (ss : List Sy) (DL : List Value) (pb : Nat) (PC : Array Value) (sb2 : Nat) (c2 : Nat) (pt : Nat) (QC : Array Value) (db : Nat) (cd : Nat) (B5_1 : Nat) (B5 : Nat) : Nat → Rega.Atoms → Value
 | 0, α => .agg #[vU 0, vU 8]
 | 1, α => .agg #[vU 0, vU 8]
 | 2, α => bF
 | 3, α => bF
 | 4, α => .agg #[vU 0, vU 8]
 | 5, α => vP pt
 | 6, α => vP pt
 | 7, α => .pointer (some ⟨pt, 3, none⟩)
 | 8, α => vS db 5 (5 + cd)
 | 9, α => v6 0
 | 10, α => v6 4
 | 11, α => .pointer (some ⟨db, 12, none⟩)
 | 12, α => .pointer (some ⟨db, 12, none⟩)
 | 13, α => .agg #[vU 0, vU 8]
 | 14, α => bF
 | 15, α => bF
 | 16, α => bF
 | 17, α => vP pb
 | 18, α => .agg #[vU 0, vU 8]
 | 19, α => .string ⟨#[95, 112, 114, 111, 109, 105, 115, 101]⟩
 | 20, α => bF
 | 21, α => bF
 | _, _ => undef
noncomputable def rG43ep_0Anc : Nat → List Nat
 | 2 => [0, 1]
 | 3 => [0, 1, 2]
 | 4 => [0, 1, 2, 3]
 | 5 => [0, 1, 2, 3]
 | 6 => [0, 1, 2, 3, 5]
 | 7 => [0, 1, 2, 3, 5, 6]
 | 8 => [0, 1, 2, 3, 5, 6, 7]
 | 9 => [0, 1, 2, 3]
 | 10 => [0, 1, 2, 3, 9]
 | 11 => [0, 1, 2, 3, 5, 6, 7, 8, 9, 10]
 | 12 => [0, 1, 2, 3, 5, 6, 7, 8, 9, 10, 11]
 | 13 => [0, 1, 2, 3, 5, 6, 7, 8, 9, 10, 11, 12]
 | 14 => [0, 1, 2, 3, 4, 5, 6, 7, 8, 9, 10, 11, 12, 13]
 | 15 => [0, 1, 2, 3, 4, 5, 6, 7, 8, 9, 10, 11, 12, 13, 14]
 | 16 => [0, 1, 2, 3, 4, 5, 6, 7, 8, 9, 10, 11, 12, 13, 14, 15]
 | 17 => [0, 1, 2, 3, 4, 5, 6, 7, 8, 9, 10, 11, 12, 13, 14, 15, 16]
 | 18 => [0, 1, 2, 3, 4, 5, 6, 7, 8, 9, 10, 11, 12, 13, 14, 15, 16]
 | 19 => [0, 1, 2, 3, 4, 5, 6, 7, 8, 9, 10, 11, 12, 13, 14, 15, 16, 17, 18]
 | 20 => [0, 1, 2, 3, 4, 5, 6, 7, 8, 9, 10, 11, 12, 13, 14, 15, 16, 17, 18, 19]
 | 21 => [0, 1, 2, 3, 4, 5, 6, 7, 8, 9, 10, 11, 12, 13, 14, 15, 16, 17, 18, 19, 20]
 | _ => []
noncomputable def rG43ep_0Trn : Nat → List Nat
 | _ => []
noncomputable def rG43ep_0Cnt : List (Nat × Nat) := []
noncomputable def rG43ep_0R (ss : List Sy) (DL : List Value) (pb : Nat) (PC : Array Value) (sb2 : Nat) (c2 : Nat) (pt : Nat) (QC : Array Value) (db : Nat) (cd : Nat) (B5_1 : Nat) (B5 : Nat) (L9 : Nat → Bool) (α : Rega.Atoms) (ix9 : Nat) : Rw := if ix9 = 999 then row (B5_1) 31 #[vU 0, vU 8] else if ix9 = 1999 then row (B5) 31 #[vU 0, vU 8] else if ix9 = 2999 then row (pb) 252 PC else if ix9 = 3999 then row (sb2) 260 (full symZ (symL ss) c2) else if ix9 = 4999 then row (pt) 107 QC else if ix9 = 5999 then row (db) 113 (full dsyZ DL cd) else (0, .map #[] 0)
theorem rG43ep_0_he (ss : List Sy) (DL : List Value) (pb : Nat) (PC : Array Value) (sb2 : Nat) (c2 : Nat) (pt : Nat) (QC : Array Value) (db : Nat) (cd : Nat) (B5_1 : Nat) (B5 : Nat) : ∀ kk α α', (∀ j, (j % 1000 = kk ∨ j % 1000 ∈ rG43ep_0Anc kk) → α j = α' j) → rG43ep_0E ss DL pb PC sb2 c2 pt QC db cd B5_1 B5 kk α = rG43ep_0E ss DL pb PC sb2 c2 pt QC db cd B5_1 B5 kk α' := by
 intro kk α α' h
 match kk with
 | 0 => rfl
 | 1 => rfl
 | 2 => rfl
 | 3 => rfl
 | 4 => rfl
 | 5 => rfl
 | 6 => rfl
 | 7 => rfl
 | 8 => rfl
 | 9 => rfl
 | 10 => rfl
 | 11 => rfl
 | 12 => rfl
 | 13 => rfl
 | 14 => rfl
 | 15 => rfl
 | 16 => rfl
 | 17 => rfl
 | 18 => rfl
 | 19 => rfl
 | 20 => rfl
 | 21 => rfl
 | n + 22 => rfl
theorem rG43ep_0_st (ss : List Sy) (DL : List Value) (pb : Nat) (PC : Array Value) (sb2 : Nat) (c2 : Nat) (pt : Nat) (QC : Array Value) (db : Nat) (cd : Nat) (B5_1 : Nat) (B5 : Nat) : Stable rG43ep_0Cnt 6 rG43ep_0Anc rG43ep_0Trn (rG43ep_0R ss DL pb PC sb2 c2 pt QC db cd B5_1 B5) := by
 intro k9 L9 α α' ix9 hk hcl hα hact ht
 have hp := act_places hact
 replace hp : ix9 ∈ [999, 1999, 2999, 3999, 4999, 5999] := hp
 simp only [List.mem_cons, List.not_mem_nil, or_false] at hp
 rcases hp with rfl | rfl | rfl | rfl | rfl | rfl
 ·rfl
 ·rfl
 ·rfl
 ·rfl
 ·rfl
 ·rfl

set_option maxRecDepth 100000 in
set_option maxHeartbeats 4000000 in
theorem tg43e (nm : ByteArray) (awb : Bool) (ng nd ns : Nat) (ss : List Sy) (GL DL : List Value) (pb : Nat) (PC : Array Value) (sb2 c2 pt : Nat) (QC : Array Value) (cs : Nat) (KC : Array Value) (gb2 cg2 db cd orf rt rs : Nat) (w0 : World) (X : Nat → Obj → Prop) (Q : Exit → Act → World → Prop) (hB : Hg43f nm awb ng nd ns ss DL pb PC sb2 c2 pt QC db cd orf rt w0 X Q) (hk : PC[106]? = some (vS sb2 ns (ns + c2))) (hcg : KC[5]? = some (vS gb2 ng (ng + cg2))) (hds : QC[3]? = some (vS db nd (nd + cd))) (hA : (awb = false ∧ ng = 5 ∧ nd = 4) ∨ (awb = true ∧ ng = 7 ∧ nd = 5)) (hns : ss.length = ns) (hnb : ns ≤ 100) (hGD : ∀ j : Nat, j < 3 → GL[(2 + j) * 2]? = some (vU 0) ∧ GL[(2 + j) * 2 + 1]? = some (vU ((j : Int) + 4)) ∧ DL[(1 + j) * 3]? = some (vU 0) ∧ DL[(1 + j) * 3 + 1]? = some (vU ((j : Int) + 4))) (hP : awb = true → GL[10]? = some (vU 0) ∧ GL[11]? = some (vU 8) ∧ GL[12]? = some (vU 0) ∧ GL[13]? = some (vU 8) ∧ DL[12]? = some (vU 0) ∧ DL[13]? = some (vU 8)) (hS : ∀ q : Nat, q < 9 → (q = 8 → awb = true) → ∃ y : Sy, ss[q]? = some y ∧ y.nm = nmG nm q) :
  Hg43e nm awb ng nd ns ss GL DL pb PC sb2 c2 pt QC cs KC gb2 cg2 db cd orf rt rs w0 X Q := by
 unfold Hg43e
 intro  A0 A1 A2 A3 A4 A5 A6 A7 A8 A9 AA AB AC AD AE AF AG AH AI AJ AK AL AM AN AO AP AQ AR AS AT AU AV AW AX AY AZ B0 B1 B2 B3 B4 B6 B7 B8 B9 BA BB BC BD BE BF BG BH BI BJ BK BL BM BN BO BP BQ BR BS BT BU BV BW BX BY BZ C0 C1 C2 C3 C4 C5 C6 C7 C8 C9 CA CB CC CD CE CF CG CH CI CJ CK CL CM CN CO CP CQ CR CS CT CU CV CW CX CY CZ E0 E1 E2 E3 E4 E5 E6 E7 E8 E9 EA EB EC ED EE EF EG EH EI EJ EK EL EM EN EO EP EQ ER ES ET EU EV EW EX EY EZ F0 F1 F2 F3 F4 F5 F6 F7 F8 F9 FA FB FC FD FE FF FG FH FI FJ FK FL FM FN FO FP FQ FR FS FT FU FV FW FX FY FZ G0 G1 G2 G3 G4 G5 G6 G7 G8 G9 GA GB GC GD GE GF GG GH GI GJ GK GM GN GO GP GQ GR GS GT GU GV GW GX GY GZ I0 I1 I2 I3 I4 I5 I6 I7 I8 I9 IA IB IC ID IE IF IG IH II IJ IK IL IM IN IO IP IQ IR IS IT IU IV IW IX IY IZ J0 J1 J2 J3 J4 J5 J6 J7 J8 J9 JA JB JC JD JE JF JG JH JI JJ JK JL JM JN JO JP JQ JR JS JT JU JV JW JX JY JZ M0 M1 M2 M3 M4 M5 M6 M7 M8 M9 MA MB MC MD ME MF MG MH MI MJ MK ML MM MN MO MP MQ MR MS MT MU MV MW MX MY MZ N0 N1 N2 N3 N4 N5 N6 N7 N8 N9 NA NB NC ND NE w hO
 have HB := Lib.hid hB
 clear hB
 obtain ⟨c9, hc9⟩ : ∃ c, c = rg43f := ⟨_, rfl⟩
 have HC9 := Lib.hid hc9
 simp only [rg43f, Tryd.f4, Option.getD_some, cutC] at hc9
 simp only [rg43e, Tryd.f4, Option.getD_some, cutC]
 rw [← hc9]
 clear hc9
 have hng7 : ng ≤ 7 := by omega
 have hng5 : 5 ≤ ng := by omega
 have hnd5 : nd ≤ 5 := by omega
 have hnd4 : 4 ≤ nd := by omega
 have hg1 : (0 : Int) < (ng : Int) := by omega
 have hg2 : (1 : Int) < (ng : Int) := by omega
 have hg3 : (2 : Int) < (ng : Int) := by omega
 have hg4 : (3 : Int) < (ng : Int) := by omega
 have hg5 : (4 : Int) < (ng : Int) := by omega
 have hh0 : 0 < ng := by omega
 have hh1 : 1 < ng := by omega
 have hh2 : 2 < ng := by omega
 have hh3 : 3 < ng := by omega
 have hh4 : 4 < ng := by omega
 have he0 : 0 < nd := by omega
 have he1 : 1 < nd := by omega
 have he2 : 2 < nd := by omega
 have he3 : 3 < nd := by omega
 have hd1 : (0 : Int) < (nd : Int) := by omega
 have hd2 : (1 : Int) < (nd : Int) := by omega
 have hd3 : (2 : Int) < (nd : Int) := by omega
 have hd4 : (3 : Int) < (nd : Int) := by omega
 have HA := Lib.hid hA
 clear hA
 have H9hGD := Lib.hid hGD
 clear hGD
 have H9hP := Lib.hid hP
 clear hP
 have H9hS := Lib.hid hS
 clear hS
 obtain ⟨gx0, gy0, dx0, dy0⟩ := H9hGD.out 0 (by omega)
 have gx0 : GL[4]? = some (vU 0) := gx0
 have gy0 : GL[5]? = some (vU 4) := gy0
 obtain ⟨gx1, gy1, dx1, dy1⟩ := H9hGD.out 1 (by omega)
 have gx1 : GL[6]? = some (vU 0) := gx1
 have gy1 : GL[7]? = some (vU 5) := gy1
 obtain ⟨gx2, gy2, dx2, dy2⟩ := H9hGD.out 2 (by omega)
 have gx2 : GL[8]? = some (vU 0) := gx2
 have gy2 : GL[9]? = some (vU 6) := gy2
 obtain ⟨aq, ar, aA, aB, -⟩ := hO.k2 0 rfl
 obtain ⟨aC, aD, aE, aF, -⟩ := hO.k2 7 rfl
 obtain ⟨aG, aH, aI, aJ, -⟩ := hO.k2 8 rfl
 have HO := Lib.hid hO
 clear hO
 go_wp2_with (first | (with_reducible refine Own.stay (fn := Tryd.f4) ?_) | (first | (go_at_call 16; go_in) | (go_at_call 24; go_in) | (go_at_call 15; go_in)))
 try with_reducible refine Own.Stay.mk ?_
 have hO := HO.out
 clear HO aq ar aA aB aC aD aE aF aG aH aI aJ
 obtain ⟨HL, HX⟩ := hid2 hO
 have hP9 := hO.pick [1, 2] dc
 have h9_hn : ss.length = ns := hns
 have h9_hnb : ns ≤ 2000000 := (by omega)
 have h9_hnm9 : ∃ y : Sy, ss[2]? = some y ∧ y.nm = (⟨#[95, 115, 116, 97, 99, 107]⟩ : ByteArray) := (H9hS.out 2 (by omega) (by omega))
 have T9 := symName pb PC sb2 c2 ss ns 0 2 ⟨#[95, 115, 116, 97, 99, 107]⟩ _ _ _ hP9 hk h9_hn h9_hnb h9_hnm9
 refine Calls.mono T9 ?_
 clear hP9 T9 h9_hn h9_hnb h9_hnm9
 rintro e uw1 ⟨rfl, hQ⟩
 replace hO : Own w0 uw1 [row (pb) 252 PC, row (sb2) 260 (full symZ (symL ss) c2), row (orf) 31 #[vU 0, vU 0], row (pt) 107 QC, row (cs) 99 KC, row (gb2) 31 (full refZ GL cg2), row (db) 113 (full dsyZ DL cd), row (rt) 31 #[vU 0, vU 1], row (rs) 31 #[vU 0, vU 2]] X := hQ.back HL.out HX.out [0, 3, 4, 5, 6, 7, 8] dc dc
 clear hQ HL HX
 obtain ⟨ix9, hix9, hax9, hjx9⟩ := hO.ix
 have aO := hjx9 0 _ _ rfl
 have aP := hjx9 1 _ _ rfl
 have aQ := hjx9 2 _ _ rfl
 have aR := hjx9 3 _ _ rfl
 have aS := hjx9 4 _ _ rfl
 have aT := hjx9 5 _ _ rfl
 have aU := hjx9 6 _ _ rfl
 have aV := hjx9 7 _ _ rfl
 have aW := hjx9 8 _ _ rfl
 clear hjx9
 have aX := hO.cell 0 rfl 106 hk
 have aA := hO.lt 0 rfl
 have aB := hO.free 0 rfl
 obtain ⟨aK, aL, aM, aN, aY⟩ := hO.k2 2 rfl
 have aZ := hO.cell 3 rfl 3 hds
 have aa := hO.lt 3 rfl
 have ab := hO.free 3 rfl
 have ac := hO.cell 4 rfl 5 hcg
 have ad := hO.lt 4 rfl
 have ae := hO.free 4 rfl
 have af : Base.plainAt uw1 (gb2) = true := hO.plain 5 rfl
 have ag : uw1.cell? ⟨gb2, 4, none⟩ = some (vU 0) := hO.cell 5 rfl (4) ((full_at gx0))
 have ah : uw1.cell? ⟨gb2, 5, none⟩ = some (vU 4) := hO.cell 5 rfl (5) ((full_at gy0))
 have ai : uw1.cell? ⟨gb2, 6, none⟩ = some (vU 0) := hO.cell 5 rfl (6) ((full_at gx1))
 have aj : uw1.cell? ⟨gb2, 7, none⟩ = some (vU 5) := hO.cell 5 rfl (7) ((full_at gy1))
 have ak : uw1.cell? ⟨gb2, 8, none⟩ = some (vU 0) := hO.cell 5 rfl (8) ((full_at gx2))
 have al : uw1.cell? ⟨gb2, 9, none⟩ = some (vU 6) := hO.cell 5 rfl (9) ((full_at gy2))
 have am := hO.lt 5 rfl
 have an := hO.free 5 rfl
 obtain ⟨aC, aD, aE, aF, ao⟩ := hO.k2 7 rfl
 obtain ⟨aG, aH, aI, aJ, ap⟩ := hO.k2 8 rfl
 have HO := Lib.hid hO
 clear hO
 go_wp2_with (first | (with_reducible refine Own.stay (fn := Tryd.f4) ?_) | (first | (go_at_call 16; go_in) | (go_at_call 24; go_in) | (go_at_call 15; go_in)))
 try with_reducible refine Own.Stay.mk ?_
 have hO := HO.out
 clear HO hix9 hax9 aO aP aQ aR aS aT aU aV aW ix9 aX aA aB aK aL aM aN aY aZ aa ab ac ad ae af ag ah ai aj ak al am an aC aD aE aF ao aG aH aI aJ ap
 obtain ⟨HL, HX⟩ := hid2 hO
 have hP9 := hO.pick [0, 1] dc
 have h9_hn : ss.length = ns := hns
 have h9_hnb : ns ≤ 2000000 := (by omega)
 have h9_hnm9 : ∃ y : Sy, ss[4]? = some y ∧ y.nm = (⟨#[95]⟩ : ByteArray) := (H9hS.out 4 (by omega) (by omega))
 have T9 := symName pb PC sb2 c2 ss ns 0 4 ⟨#[95]⟩ _ _ _ hP9 hk h9_hn h9_hnb h9_hnm9
 refine Calls.mono T9 ?_
 clear hP9 T9 h9_hn h9_hnb h9_hnm9
 rintro e uw2 ⟨rfl, hQ⟩
 replace hO : Own w0 uw2 [row (pb) 252 PC, row (sb2) 260 (full symZ (symL ss) c2), row (orf) 31 #[vU 0, vU 0], row (pt) 107 QC, row (cs) 99 KC, row (gb2) 31 (full refZ GL cg2), row (db) 113 (full dsyZ DL cd), row (rt) 31 #[vU 0, vU 1], row (rs) 31 #[vU 0, vU 2]] X := hQ.back HL.out HX.out [2, 3, 4, 5, 6, 7, 8] dc dc
 clear hQ HL HX
 obtain ⟨ix9, hix9, hax9, hjx9⟩ := hO.ix
 have aO := hjx9 0 _ _ rfl
 have aP := hjx9 1 _ _ rfl
 have aQ := hjx9 2 _ _ rfl
 have aR := hjx9 3 _ _ rfl
 have aS := hjx9 4 _ _ rfl
 have aT := hjx9 5 _ _ rfl
 have aU := hjx9 6 _ _ rfl
 have aV := hjx9 7 _ _ rfl
 have aW := hjx9 8 _ _ rfl
 clear hjx9
 have aX := hO.cell 0 rfl 106 hk
 have aA := hO.lt 0 rfl
 have aB := hO.free 0 rfl
 obtain ⟨aK, aL, aM, aN, aY⟩ := hO.k2 2 rfl
 have aZ := hO.cell 3 rfl 3 hds
 have aa := hO.lt 3 rfl
 have ab := hO.free 3 rfl
 have ac := hO.cell 4 rfl 5 hcg
 have ad := hO.lt 4 rfl
 have ae := hO.free 4 rfl
 have af : Base.plainAt uw2 (gb2) = true := hO.plain 5 rfl
 have ag : uw2.cell? ⟨gb2, 4, none⟩ = some (vU 0) := hO.cell 5 rfl (4) ((full_at gx0))
 have ah : uw2.cell? ⟨gb2, 5, none⟩ = some (vU 4) := hO.cell 5 rfl (5) ((full_at gy0))
 have ai : uw2.cell? ⟨gb2, 6, none⟩ = some (vU 0) := hO.cell 5 rfl (6) ((full_at gx1))
 have aj : uw2.cell? ⟨gb2, 7, none⟩ = some (vU 5) := hO.cell 5 rfl (7) ((full_at gy1))
 have ak : uw2.cell? ⟨gb2, 8, none⟩ = some (vU 0) := hO.cell 5 rfl (8) ((full_at gx2))
 have al : uw2.cell? ⟨gb2, 9, none⟩ = some (vU 6) := hO.cell 5 rfl (9) ((full_at gy2))
 have am := hO.lt 5 rfl
 have an := hO.free 5 rfl
 obtain ⟨aC, aD, aE, aF, ao⟩ := hO.k2 7 rfl
 obtain ⟨aG, aH, aI, aJ, ap⟩ := hO.k2 8 rfl
 have HO := Lib.hid hO
 clear hO
 go_wp2_with (first | (with_reducible refine Own.stay (fn := Tryd.f4) ?_) | (first | (go_at_call 16; go_in) | (go_at_call 24; go_in) | (go_at_call 15; go_in)))
 try with_reducible refine Own.Stay.mk ?_
 have hO := HO.out
 clear HO hix9 hax9 aO aP aQ aR aS aT aU aV aW ix9 aX aA aB aK aL aM aN aY aZ aa ab ac ad ae af ag ah ai aj ak al am an aC aD aE aF ao aG aH aI aJ ap
 obtain ⟨HL, HX⟩ := hid2 hO
 have hP9 := hO.pick [0, 1] dc
 have h9_hn : ss.length = ns := hns
 have h9_hnb : ns ≤ 2000000 := (by omega)
 have h9_hnm9 : ∃ y : Sy, ss[5]? = some y ∧ y.nm = (⟨#[95, 101, 114, 114, 111, 114]⟩ : ByteArray) := (H9hS.out 5 (by omega) (by omega))
 have T9 := symName pb PC sb2 c2 ss ns 0 5 ⟨#[95, 101, 114, 114, 111, 114]⟩ _ _ _ hP9 hk h9_hn h9_hnb h9_hnm9
 refine Calls.mono T9 ?_
 clear hP9 T9 h9_hn h9_hnb h9_hnm9
 rintro e uw3 ⟨rfl, hQ⟩
 replace hO : Own w0 uw3 [row (pb) 252 PC, row (sb2) 260 (full symZ (symL ss) c2), row (orf) 31 #[vU 0, vU 0], row (pt) 107 QC, row (cs) 99 KC, row (gb2) 31 (full refZ GL cg2), row (db) 113 (full dsyZ DL cd), row (rt) 31 #[vU 0, vU 1], row (rs) 31 #[vU 0, vU 2]] X := hQ.back HL.out HX.out [2, 3, 4, 5, 6, 7, 8] dc dc
 clear hQ HL HX
 obtain ⟨ix9, hix9, hax9, hjx9⟩ := hO.ix
 have aO := hjx9 0 _ _ rfl
 have aP := hjx9 1 _ _ rfl
 have aQ := hjx9 2 _ _ rfl
 have aR := hjx9 3 _ _ rfl
 have aS := hjx9 4 _ _ rfl
 have aT := hjx9 5 _ _ rfl
 have aU := hjx9 6 _ _ rfl
 have aV := hjx9 7 _ _ rfl
 have aW := hjx9 8 _ _ rfl
 clear hjx9
 have aX := hO.cell 0 rfl 106 hk
 have aA := hO.lt 0 rfl
 have aB := hO.free 0 rfl
 obtain ⟨aK, aL, aM, aN, aY⟩ := hO.k2 2 rfl
 have aZ := hO.cell 3 rfl 3 hds
 have aa := hO.lt 3 rfl
 have ab := hO.free 3 rfl
 have ac := hO.cell 4 rfl 5 hcg
 have ad := hO.lt 4 rfl
 have ae := hO.free 4 rfl
 have af : Base.plainAt uw3 (gb2) = true := hO.plain 5 rfl
 have ag : uw3.cell? ⟨gb2, 4, none⟩ = some (vU 0) := hO.cell 5 rfl (4) ((full_at gx0))
 have ah : uw3.cell? ⟨gb2, 5, none⟩ = some (vU 4) := hO.cell 5 rfl (5) ((full_at gy0))
 have ai : uw3.cell? ⟨gb2, 6, none⟩ = some (vU 0) := hO.cell 5 rfl (6) ((full_at gx1))
 have aj : uw3.cell? ⟨gb2, 7, none⟩ = some (vU 5) := hO.cell 5 rfl (7) ((full_at gy1))
 have ak : uw3.cell? ⟨gb2, 8, none⟩ = some (vU 0) := hO.cell 5 rfl (8) ((full_at gx2))
 have al : uw3.cell? ⟨gb2, 9, none⟩ = some (vU 6) := hO.cell 5 rfl (9) ((full_at gy2))
 have am := hO.lt 5 rfl
 have an := hO.free 5 rfl
 obtain ⟨aC, aD, aE, aF, ao⟩ := hO.k2 7 rfl
 obtain ⟨aG, aH, aI, aJ, ap⟩ := hO.k2 8 rfl
 have HO := Lib.hid hO
 clear hO
 go_wp2_with (first | (with_reducible refine Own.stay (fn := Tryd.f4) ?_) | (first | (go_at_call 16; go_in) | (go_at_call 24; go_in) | (go_at_call 15; go_in)))
 try with_reducible refine Own.Stay.mk ?_
 have hO := HO.out
 clear HO hix9 hax9 aO aP aQ aR aS aT aU aV aW ix9 aX aA aB aK aL aM aN aY aZ aa ab ac ad ae af ag ah ai aj ak al am an aC aD aE aF ao aG aH aI aJ ap
 obtain ⟨HL, HX⟩ := hid2 hO
 have hP9 := hO.pick [0, 1] dc
 have h9_hn : ss.length = ns := hns
 have h9_hnb : ns ≤ 2000000 := (by omega)
 have h9_hnm9 : ∃ y : Sy, ss[6]? = some y ∧ y.nm = (⟨#[95, 104, 97, 115, 69, 114, 114, 111, 114]⟩ : ByteArray) := (H9hS.out 6 (by omega) (by omega))
 have T9 := symName pb PC sb2 c2 ss ns 0 6 ⟨#[95, 104, 97, 115, 69, 114, 114, 111, 114]⟩ _ _ _ hP9 hk h9_hn h9_hnb h9_hnm9
 refine Calls.mono T9 ?_
 clear hP9 T9 h9_hn h9_hnb h9_hnm9
 rintro e uw4 ⟨rfl, hQ⟩
 replace hO : Own w0 uw4 [row (pb) 252 PC, row (sb2) 260 (full symZ (symL ss) c2), row (orf) 31 #[vU 0, vU 0], row (pt) 107 QC, row (cs) 99 KC, row (gb2) 31 (full refZ GL cg2), row (db) 113 (full dsyZ DL cd), row (rt) 31 #[vU 0, vU 1], row (rs) 31 #[vU 0, vU 2]] X := hQ.back HL.out HX.out [2, 3, 4, 5, 6, 7, 8] dc dc
 clear hQ HL HX
 cases awb
 ·skip
  obtain ⟨aK, aL, aM, aN, -⟩ := hO.k2 2 rfl
  obtain ⟨aC, aD, aE, aF, -⟩ := hO.k2 7 rfl
  obtain ⟨aG, aH, aI, aJ, -⟩ := hO.k2 8 rfl
  have HO := Lib.hid hO
  clear hO
  go_wp2_with (first | (with_reducible refine Own.stay (fn := Tryd.f4) ?_) | (first | (go_at_call 16; go_in) | (go_at_call 24; go_in) | (go_at_call 15; go_in)))
  try with_reducible refine Own.Stay.mk ?_
  have hO := HO.out
  clear HO aK aL aM aN aC aD aE aF aG aH aI aJ
  rw [HC9.out]
  exact HB.out (hO.sub [2, 0, 1, 3, 6, 7] dc)
 ·skip
  obtain ⟨pa0, pa1, pa2, pa3, pa4, pa5⟩ := H9hP.out rfl
  obtain ⟨rfl, rfl⟩ : ng = 7 ∧ nd = 5 := by have := HA.out; simp at this; omega
  obtain ⟨ix9, hix9, hax9, hjx9⟩ := hO.ix
  have aO := hjx9 0 _ _ rfl
  have aP := hjx9 1 _ _ rfl
  have aQ := hjx9 2 _ _ rfl
  have aR := hjx9 3 _ _ rfl
  have aS := hjx9 4 _ _ rfl
  have aT := hjx9 5 _ _ rfl
  have aU := hjx9 6 _ _ rfl
  have aV := hjx9 7 _ _ rfl
  have aW := hjx9 8 _ _ rfl
  clear hjx9
  have aX := hO.cell 0 rfl 106 hk
  have aA := hO.lt 0 rfl
  have aB := hO.free 0 rfl
  obtain ⟨aK, aL, aM, aN, aY⟩ := hO.k2 2 rfl
  have aZ := hO.cell 3 rfl 3 hds
  have aa := hO.lt 3 rfl
  have ab := hO.free 3 rfl
  have ac := hO.cell 4 rfl 5 hcg
  have ad := hO.lt 4 rfl
  have ae := hO.free 4 rfl
  have af : Base.plainAt uw4 (gb2) = true := hO.plain 5 rfl
  have ag : uw4.cell? ⟨gb2, 4, none⟩ = some (vU 0) := hO.cell 5 rfl (4) ((full_at gx0))
  have ah : uw4.cell? ⟨gb2, 5, none⟩ = some (vU 4) := hO.cell 5 rfl (5) ((full_at gy0))
  have ai : uw4.cell? ⟨gb2, 6, none⟩ = some (vU 0) := hO.cell 5 rfl (6) ((full_at gx1))
  have aj : uw4.cell? ⟨gb2, 7, none⟩ = some (vU 5) := hO.cell 5 rfl (7) ((full_at gy1))
  have ak : uw4.cell? ⟨gb2, 8, none⟩ = some (vU 0) := hO.cell 5 rfl (8) ((full_at gx2))
  have al : uw4.cell? ⟨gb2, 9, none⟩ = some (vU 6) := hO.cell 5 rfl (9) ((full_at gy2))
  have aw : uw4.cell? ⟨gb2, 10, none⟩ = some (vU 0) := hO.cell 5 rfl (10) ((full_at pa0))
  have ax : uw4.cell? ⟨gb2, 11, none⟩ = some (vU 8) := hO.cell 5 rfl (11) ((full_at pa1))
  have ay : uw4.cell? ⟨gb2, 12, none⟩ = some (vU 0) := hO.cell 5 rfl (12) ((full_at pa2))
  have az : uw4.cell? ⟨gb2, 13, none⟩ = some (vU 8) := hO.cell 5 rfl (13) ((full_at pa3))
  have am := hO.lt 5 rfl
  have an := hO.free 5 rfl
  have bA : uw4.cell? ⟨db, 12, none⟩ = some (vU 0) := hO.cell 6 rfl (12) ((full_at pa4))
  have bB : uw4.cell? ⟨db, 13, none⟩ = some (vU 8) := hO.cell 6 rfl (13) ((full_at pa5))
  have au := hO.lt 6 rfl
  have av := hO.free 6 rfl
  obtain ⟨aC, aD, aE, aF, ao⟩ := hO.k2 7 rfl
  obtain ⟨aG, aH, aI, aJ, ap⟩ := hO.k2 8 rfl
  have HO := Lib.hid hO
  clear hO
  go_wp2_with (first | (with_reducible refine Own.stay (fn := Tryd.f4) ?_) | (first | (go_at_call 16; go_in) | (go_at_call 24; go_in) | (go_at_call 15; go_in)))
  try with_reducible refine Own.Stay.mk ?_
  have hO := HO.out
  clear HO hix9 hax9 aO aP aQ aR aS aT aU aV aW ix9 aX aA aB aK aL aM aN aY aZ aa ab ac ad ae af ag ah ai aj ak al aw ax ay az am an bA bB au av aC aD aE aF ao aG aH aI aJ ap
  generalize hW : World.alloc _ _ = W6
  have hN : Own w0 W6 [row (uw4.heap.size + 1) 31 #[vU 0, vU 8], row (uw4.heap.size) 31 #[vU 0, vU 8], row (pb) 252 PC, row (sb2) 260 (full symZ (symL ss) c2), row (orf) 31 #[vU 0, vU 0], row (pt) 107 QC, row (cs) 99 KC, row (gb2) 31 (full refZ GL cg2), row (db) 113 (full dsyZ DL cd), row (rt) 31 #[vU 0, vU 1], row (rs) 31 #[vU 0, vU 2]] X := by
   rw [← hW]
   exact ((hO).alloc' _ (uw4.heap.size) (by simp)).alloc' _ (uw4.heap.size + 1) (by simp)
  clear hW hO
  generalize uw4.heap.size + 1 = B5_1 at hN ⊢
  generalize uw4.heap.size = B5 at hN ⊢
  have hO := hN
  clear hN
  obtain ⟨HL, HX⟩ := hid2 hO
  have hP9 := hO.pick [0, 1, 2, 3, 5, 8] dc
  generalize hX9_7 : Own.Rest _ _ X = X9_7 at hP9
  replace hP9 : Own w0 W6 [row (B5_1) 31 #[vU 0, vU 8], row (B5) 31 #[vU 0, vU 8], row (pb) 252 PC, row (sb2) 260 (full symZ (symL ss) c2), row (pt) 107 QC, row (db) 113 (full dsyZ DL cd)] X9_7 := hP9
  clear hO
  have hO := hP9
  clear hP9
  have st9 := rG43ep_0_st ss DL pb PC sb2 c2 pt QC db cd B5_1 B5
  let R9 := rG43ep_0R ss DL pb PC sb2 c2 pt QC db cd B5_1 B5
  refine wp_region_own (e := rG43ep_0E ss DL pb PC sb2 c2 pt QC db cd B5_1 B5) (anc := rG43ep_0Anc) (G := (fun L9 α u9 => OwnF w0 u9 (act rG43ep_0Cnt 6 L9) (rG43ep_0R ss DL pb PC sb2 c2 pt QC db cd B5_1 B5 L9 α) X9_7)) (by kernel_rfl) (by kernel_rfl) (by kernel_rfl) (by kernel_rfl) (rG43ep_0_he ss DL pb PC sb2 c2 pt QC db cd B5_1 B5) ?_ (RunsAll.all ?_) ?_
  ·have hp : ∀ i, act rG43ep_0Cnt 6 (fun _ => false) i → i ∈ [999, 1999, 2999, 3999, 4999, 5999] := by
    intro i hi
    have h9 : i % 1000 = 999 := by
     by_cases h : i % 1000 = 999
     ·exact h
     ·exact absurd (act_lt hi h) (by simp)
    unfold act at hi
    rw [if_pos h9] at hi
    simp only [List.mem_cons, List.not_mem_nil, or_false]
    omega
   refine hO.drew.family (fun i hi => ?_) (fun i j hi hj hij => ?_)
   ·have := hp i hi
    simp only [List.mem_cons, List.not_mem_nil, or_false] at this
    rcases this with rfl | rfl | rfl | rfl | rfl | rfl <;> rfl
   ·have h1 := hp i hi
    have h2 := hp j hj
    simp only [List.mem_cons, List.not_mem_nil, or_false] at h1 h2
    omega
  ·refine ⟨?_, ?_, ?_, ?_, ?_, ?_, ?_, ?_, ?_, ?_, ?_, ?_, ?_, ?_, ?_, ?_, ?_, ?_, ?_, ?_, ?_, ?_, trivial⟩
   ·refine pur st9 rfl rfl fun L9 α a9 u9 K9 hL hcl hA hG hS h0 h1 hK => ?_
    have s27 := eS (vP B5) ((h0 27 (by kernel_rfl)).trans rfl)
    have e0 : R9 L9 α 1999 = row (B5) 31 #[vU 0, vU 8] := rfl
    have hr := hG.rowAt 1999 (act_base 1999 rfl) e0
    have c0 : u9.cell? ⟨B5, 0, none⟩ = some (vU 0) := hr.cell rfl
    have c1 : u9.cell? ⟨B5, 1, none⟩ = some (vU 8) := hr.cell rfl
    clear hr e0
    go_simp
    exact hK
   ·refine pur st9 rfl rfl fun L9 α a9 u9 K9 hL hcl hA hG hS h0 h1 hK => ?_
    have s28 := eS (vP B5_1) ((h0 28 (by kernel_rfl)).trans rfl)
    have e0 : R9 L9 α 999 = row (B5_1) 31 #[vU 0, vU 8] := rfl
    have hr := hG.rowAt 999 (act_base 999 rfl) e0
    have c0 : u9.cell? ⟨B5_1, 0, none⟩ = some (vU 0) := hr.cell rfl
    have c1 : u9.cell? ⟨B5_1, 1, none⟩ = some (vU 8) := hr.cell rfl
    clear hr e0
    go_simp
    exact hK
   ·refine pur st9 rfl rfl fun L9 α a9 u9 K9 hL hcl hA hG hS h0 h1 hK => ?_
    have q278 : a9.tmps[278]? = some (.agg #[vU 0, vU 8]) := hS 0 278 dc rfl (ltd 347 rfl)
    have s278 := Rega.eval_of q278
    have q279 : a9.tmps[279]? = some (.agg #[vU 0, vU 8]) := hS 1 279 dc rfl (ltd 347 rfl)
    have s279 := Rega.eval_of q279
    go_simp
    exact hK
   ·refine pur st9 rfl rfl fun L9 α a9 u9 K9 hL hcl hA hG hS h0 h1 hK => ?_
    have q280 : a9.tmps[280]? = some (bF) := hS 2 280 dc rfl (ltd 347 rfl)
    have s280 := Rega.eval_of q280
    go_simp
    exact hK
   ·refine pur st9 rfl rfl fun L9 α a9 u9 K9 hL hcl hA hG hS h0 h1 hK => ?_
    have q27 : a9.tmps[27]? = some (vP B5) := (h0 27 (by kernel_rfl)).trans rfl
    have s27 := Rega.eval_of q27
    have q281 : a9.tmps[281]? = some (bF) := hS 3 281 dc rfl (ltd 347 rfl)
    have s281 := Rega.eval_of q281
    have e0 : R9 L9 α 1999 = row (B5) 31 #[vU 0, vU 8] := rfl
    have hr := hG.rowAt 1999 (act_base 1999 rfl) e0
    have c0 : u9.cell? ⟨B5, 0, none⟩ = some (vU 0) := hr.cell rfl
    have c1 : u9.cell? ⟨B5, 1, none⟩ = some (vU 8) := hr.cell rfl
    clear hr e0
    go_simp
    exact hK
   ·refine pur st9 rfl rfl fun L9 α a9 u9 K9 hL hcl hA hG hS h0 h1 hK => ?_
    have q15 : a9.tmps[15]? = some (vP pt) := (h0 15 (by kernel_rfl)).trans rfl
    have s15 := Rega.eval_of q15
    have q281 : a9.tmps[281]? = some (bF) := hS 3 281 dc rfl (ltd 347 rfl)
    have s281 := Rega.eval_of q281
    go_simp
    exact hK
   ·refine pur st9 rfl rfl fun L9 α a9 u9 K9 hL hcl hA hG hS h0 h1 hK => ?_
    have q283 : a9.tmps[283]? = some (vP pt) := hS 5 283 dc rfl (ltd 347 rfl)
    have s283 := Rega.eval_of q283
    have q281 : a9.tmps[281]? = some (bF) := hS 3 281 dc rfl (ltd 347 rfl)
    have s281 := Rega.eval_of q281
    go_simp
    exact hK
   ·refine pur st9 rfl rfl fun L9 α a9 u9 K9 hL hcl hA hG hS h0 h1 hK => ?_
    have q284 : a9.tmps[284]? = some (vP pt) := hS 6 284 dc rfl (ltd 347 rfl)
    have s284 := Rega.eval_of q284
    have q281 : a9.tmps[281]? = some (bF) := hS 3 281 dc rfl (ltd 347 rfl)
    have s281 := Rega.eval_of q281
    go_simp
    exact hK
   ·refine pur st9 rfl rfl fun L9 α a9 u9 K9 hL hcl hA hG hS h0 h1 hK => ?_
    have q285 : a9.tmps[285]? = some (.pointer (some ⟨pt, 3, none⟩)) := hS 7 285 dc rfl (ltd 347 rfl)
    have s285 := Rega.eval_of q285
    have q281 : a9.tmps[281]? = some (bF) := hS 3 281 dc rfl (ltd 347 rfl)
    have s281 := Rega.eval_of q281
    have e0 : R9 L9 α 4999 = row (pt) 107 QC := rfl
    have hr := hG.rowAt 4999 (act_base 4999 rfl) e0
    have c0 : u9.cell? ⟨pt, 3, none⟩ = some (vS db 5 (5 + cd)) := hr.cell (hds)
    clear hr e0
    go_simp
    exact hK
   ·refine pur st9 rfl rfl fun L9 α a9 u9 K9 hL hcl hA hG hS h0 h1 hK => ?_
    have q17 : a9.tmps[17]? = some (v6 0) := (h0 17 (by kernel_rfl)).trans rfl
    have s17 := Rega.eval_of q17
    have q281 : a9.tmps[281]? = some (bF) := hS 3 281 dc rfl (ltd 347 rfl)
    have s281 := Rega.eval_of q281
    go_simp
    exact hK
   ·refine pur st9 rfl rfl fun L9 α a9 u9 K9 hL hcl hA hG hS h0 h1 hK => ?_
    have q287 : a9.tmps[287]? = some (v6 0) := hS 9 287 dc rfl (ltd 347 rfl)
    have s287 := Rega.eval_of q287
    have q281 : a9.tmps[281]? = some (bF) := hS 3 281 dc rfl (ltd 347 rfl)
    have s281 := Rega.eval_of q281
    go_simp
    exact hK
   ·refine pur st9 rfl rfl fun L9 α a9 u9 K9 hL hcl hA hG hS h0 h1 hK => ?_
    have q286 : a9.tmps[286]? = some (vS db 5 (5 + cd)) := hS 8 286 dc rfl (ltd 347 rfl)
    have s286 := Rega.eval_of q286
    have q288 : a9.tmps[288]? = some (v6 4) := hS 10 288 dc rfl (ltd 347 rfl)
    have s288 := Rega.eval_of q288
    have q281 : a9.tmps[281]? = some (bF) := hS 3 281 dc rfl (ltd 347 rfl)
    have s281 := Rega.eval_of q281
    go_simp
    exact hK
   ·refine pur st9 rfl rfl fun L9 α a9 u9 K9 hL hcl hA hG hS h0 h1 hK => ?_
    have q289 : a9.tmps[289]? = some (.pointer (some ⟨db, 12, none⟩)) := hS 11 289 dc rfl (ltd 347 rfl)
    have s289 := Rega.eval_of q289
    have q281 : a9.tmps[281]? = some (bF) := hS 3 281 dc rfl (ltd 347 rfl)
    have s281 := Rega.eval_of q281
    go_simp
    exact hK
   ·refine pur st9 rfl rfl fun L9 α a9 u9 K9 hL hcl hA hG hS h0 h1 hK => ?_
    have q290 : a9.tmps[290]? = some (.pointer (some ⟨db, 12, none⟩)) := hS 12 290 dc rfl (ltd 347 rfl)
    have s290 := Rega.eval_of q290
    have q281 : a9.tmps[281]? = some (bF) := hS 3 281 dc rfl (ltd 347 rfl)
    have s281 := Rega.eval_of q281
    have e0 : R9 L9 α 5999 = row (db) 113 (full dsyZ DL cd) := rfl
    have hr := hG.rowAt 5999 (act_base 5999 rfl) e0
    have c0 : u9.cell? ⟨db, 12, none⟩ = some (vU 0) := hr.cell ((full_at pa4))
    have c1 : u9.cell? ⟨db, 13, none⟩ = some (vU 8) := hr.cell ((full_at pa5))
    clear hr e0
    go_simp
    exact hK
   ·refine pur st9 rfl rfl fun L9 α a9 u9 K9 hL hcl hA hG hS h0 h1 hK => ?_
    have q282 : a9.tmps[282]? = some (.agg #[vU 0, vU 8]) := hS 4 282 dc rfl (ltd 347 rfl)
    have s282 := Rega.eval_of q282
    have q291 : a9.tmps[291]? = some (.agg #[vU 0, vU 8]) := hS 13 291 dc rfl (ltd 347 rfl)
    have s291 := Rega.eval_of q291
    have q281 : a9.tmps[281]? = some (bF) := hS 3 281 dc rfl (ltd 347 rfl)
    have s281 := Rega.eval_of q281
    go_simp
    exact hK
   ·refine pur st9 rfl rfl fun L9 α a9 u9 K9 hL hcl hA hG hS h0 h1 hK => ?_
    have q281 : a9.tmps[281]? = some (bF) := hS 3 281 dc rfl (ltd 347 rfl)
    have s281 := Rega.eval_of q281
    have q292 : a9.tmps[292]? = some (bF) := hS 14 292 dc rfl (ltd 347 rfl)
    have s292 := Rega.eval_of q292
    go_simp
    exact hK
   ·refine pur st9 rfl rfl fun L9 α a9 u9 K9 hL hcl hA hG hS h0 h1 hK => ?_
    have q293 : a9.tmps[293]? = some (bF) := hS 15 293 dc rfl (ltd 347 rfl)
    have s293 := Rega.eval_of q293
    go_simp
    exact hK
   ·refine pur st9 rfl rfl fun L9 α a9 u9 K9 hL hcl hA hG hS h0 h1 hK => ?_
    have q9 : a9.tmps[9]? = some (vP pb) := (h0 9 (by kernel_rfl)).trans rfl
    have s9 := Rega.eval_of q9
    have q294 : a9.tmps[294]? = some (bF) := hS 16 294 dc rfl (ltd 347 rfl)
    have s294 := Rega.eval_of q294
    go_simp
    exact hK
   ·refine pur st9 rfl rfl fun L9 α a9 u9 K9 hL hcl hA hG hS h0 h1 hK => ?_
    have q27 : a9.tmps[27]? = some (vP B5) := (h0 27 (by kernel_rfl)).trans rfl
    have s27 := Rega.eval_of q27
    have q294 : a9.tmps[294]? = some (bF) := hS 16 294 dc rfl (ltd 347 rfl)
    have s294 := Rega.eval_of q294
    have e0 : R9 L9 α 1999 = row (B5) 31 #[vU 0, vU 8] := rfl
    have hr := hG.rowAt 1999 (act_base 1999 rfl) e0
    have c0 : u9.cell? ⟨B5, 0, none⟩ = some (vU 0) := hr.cell rfl
    have c1 : u9.cell? ⟨B5, 1, none⟩ = some (vU 8) := hr.cell rfl
    clear hr e0
    go_simp
    exact hK
   ·intro L9 α a9 u9 K9 hL hcl hA hG hS h0 h1 hK
    replace hL : L9 19 = false := hL
    have q295 : a9.tmps[295]? = some (vP pb) := hS 17 295 dc rfl (ltd 347 rfl)
    have s295 := Rega.eval_of q295
    have q296 : a9.tmps[296]? = some (.agg #[vU 0, vU 8]) := hS 18 296 dc rfl (ltd 347 rfl)
    have s296 := Rega.eval_of q296
    have q294 : a9.tmps[294]? = some (bF) := hS 16 294 dc rfl (ltd 347 rfl)
    have s294 := Rega.eval_of q294
    go_simp
    have e0 : R9 L9 α 2999 = row (pb) 252 PC := rfl
    have e1 : R9 L9 α 3999 = row (sb2) 260 (full symZ (symL ss) c2) := rfl
    have hM : ∀ i, i ∈ [2999, 3999] → act rG43ep_0Cnt 6 L9 i := by
     intro i hi
     simp only [List.mem_cons, List.not_mem_nil, or_false] at hi
     rcases hi with rfl | rfl
     ·exact act_base 2999 rfl
     ·exact act_base 3999 rfl
    have hP : Own w0 u9 [row (pb) 252 PC, row (sb2) 260 (full symZ (symL ss) c2)] _ := (hG.pick [2999, 3999] dc hM).conv (by
     show [R9 L9 α 2999, R9 L9 α 3999] = _
     rw [e0, e1])
    clear e0 e1 hM
    refine Calls.mono (symName pb PC sb2 c2 ss ns 0 8 ⟨#[95, 112, 114, 111, 109, 105, 115, 101]⟩ _ _ _ hP hk hns (by omega) (H9hS.out 8 (by omega) (by intro _; first | rfl | trivial))) ?_
    rintro e9 u1 ⟨rfl, hQ⟩
    obtain ⟨α', hα'⟩ : ∃ α' : Rega.Atoms, α' = α := ⟨_, rfl⟩
    have f0 : R9 (Rega.ran L9 19) α' 2999 = row (pb) 252 PC := rfl
    have f1 : R9 (Rega.ran L9 19) α' 3999 = row (sb2) 260 (full symZ (symL ss) c2) := rfl
    have hα : ∀ j, j % 1000 ≠ 19 → α' j = α j := fun j hj => by rw [hα']
    skip
    refine hK _ α' _ hα ?_ (step_call (st9) hL hcl hα [2999, 3999] [2999, 3999] dc dc dc (M := _) ?_ hG hQ)
    ·rfl
    ·show [R9 (Rega.ran L9 19) α' 2999, R9 (Rega.ran L9 19) α' 3999] = _
     rw [f0, f1]
   ·refine pur st9 rfl rfl fun L9 α a9 u9 K9 hL hcl hA hG hS h0 h1 hK => ?_
    have q297 : a9.tmps[297]? = some (.string ⟨#[95, 112, 114, 111, 109, 105, 115, 101]⟩) := hS 19 297 dc rfl (ltd 347 rfl)
    have s297 := Rega.eval_of q297
    have q294 : a9.tmps[294]? = some (bF) := hS 16 294 dc rfl (ltd 347 rfl)
    have s294 := Rega.eval_of q294
    go_simp
    exact hK
   ·refine pur st9 rfl rfl fun L9 α a9 u9 K9 hL hcl hA hG hS h0 h1 hK => ?_
    have q294 : a9.tmps[294]? = some (bF) := hS 16 294 dc rfl (ltd 347 rfl)
    have s294 := Rega.eval_of q294
    have q298 : a9.tmps[298]? = some (bF) := hS 20 298 dc rfl (ltd 347 rfl)
    have s298 := Rega.eval_of q298
    go_simp
    exact hK
  clear st9
  intro α u hG
  have e0 : R9 (fun k => decide (k < 22)) α 999 = row (B5_1) 31 #[vU 0, vU 8] := rfl
  have e1 : R9 (fun k => decide (k < 22)) α 1999 = row (B5) 31 #[vU 0, vU 8] := rfl
  have e2 : R9 (fun k => decide (k < 22)) α 2999 = row (pb) 252 PC := rfl
  have e3 : R9 (fun k => decide (k < 22)) α 3999 = row (sb2) 260 (full symZ (symL ss) c2) := rfl
  have e4 : R9 (fun k => decide (k < 22)) α 4999 = row (pt) 107 QC := rfl
  have e5 : R9 (fun k => decide (k < 22)) α 5999 = row (db) 113 (full dsyZ DL cd) := rfl
  have hO : Own w0 u [row (B5_1) 31 #[vU 0, vU 8], row (B5) 31 #[vU 0, vU 8], row (pb) 252 PC, row (sb2) 260 (full symZ (symL ss) c2), row (pt) 107 QC, row (db) 113 (full dsyZ DL cd)] X9_7 := (hG.list [999, 1999, 2999, 3999, 4999, 5999] dc (act_all dc)).conv (by
   show [R9 (fun k => decide (k < 22)) α 999, R9 (fun k => decide (k < 22)) α 1999, R9 (fun k => decide (k < 22)) α 2999, R9 (fun k => decide (k < 22)) α 3999, R9 (fun k => decide (k < 22)) α 4999, R9 (fun k => decide (k < 22)) α 5999] = _
   rw [e0, e1, e2, e3, e4, e5])
  clear hG e0 e1 e2 e3 e4 e5 R9
  generalize hfr : Rega.frameAt _ _ _ _ _ = fr
  have hdf : fr = ⟨#[.string nm, A0, A1, .bool true, A2, A3, A4, A5, A6, vP pb, vP cs, vP orf, A7, A8, A9, vP pt, v6 0, v6 0, vP rt, AA, AB, AC, vP rs, AD, AE, AF, AG, vP B5, vP B5_1, AJ, AK, AL, AM, AN, AO, AP, AQ, AR, AS, AT, AU, AV, AW, AX, AY, AZ, B0, B1, B2, B3, B4, B6, B7, B8, B9, BA, BB, BC, BD, BE, BF, BG, BH, BI, BJ, BK, BL, BM, BN, BO, BP, BQ, BR, BS, BT, BU, BV, BW, BX, BY, BZ, C0, C1, C2, C3, C4, C5, C6, C7, C8, C9, CA, CB, CC, CD, CE, CF, CG, CH, CI, CJ, CK, CL, CM, CN, CO, CP, CQ, CR, CS, CT, CU, CV, CW, CX, CY, CZ, E0, E1, E2, E3, E4, E5, E6, E7, E8, E9, EA, EB, EC, ED, EE, EF, EG, EH, EI, EJ, EK, EL, EM, EN, EO, EP, EQ, ER, ES, ET, EU, EV, EW, EX, EY, EZ, F0, F1, F2, F3, F4, F5, F6, F7, F8, F9, FA, FB, FC, FD, FE, FF, FG, FH, FI, FJ, FK, FL, FM, FN, FO, FP, FQ, FR, FS, FT, FU, FV, FW, FX, FY, FZ, G0, G1, G2, G3, G4, G5, G6, G7, G8, G9, GA, GB, GC, GD, GE, GF, GG, GH, GI, GJ, GK, GM, GN, GO, GP, GQ, GR, GS, GT, vP pb, .agg #[vU 0, vU 2], .string ⟨#[95, 115, 116, 97, 99, 107]⟩, bF, bF, vP pb, vP cs, vP cs, .pointer (some ⟨cs, 5, none⟩), vS gb2 7 (7 + cg2), v6 0, v6 2, .pointer (some ⟨gb2, 4, none⟩), .agg #[vU 0, vU 4], .string ⟨#[95]⟩, bF, bF, bF, vP pb, vP cs, vP cs, .pointer (some ⟨cs, 5, none⟩), vS gb2 7 (7 + cg2), v6 0, v6 3, .pointer (some ⟨gb2, 6, none⟩), .agg #[vU 0, vU 5], .string ⟨#[95, 101, 114, 114, 111, 114]⟩, bF, bF, bF, vP pb, vP cs, vP cs, .pointer (some ⟨cs, 5, none⟩), vS gb2 7 (7 + cg2), v6 0, v6 4, .pointer (some ⟨gb2, 8, none⟩), .agg #[vU 0, vU 6], .string ⟨#[95, 104, 97, 115, 69, 114, 114, 111, 114]⟩, bF, bF, .bool true, vP cs, vP cs, .pointer (some ⟨cs, 5, none⟩), vS gb2 7 (7 + cg2), v6 0, v6 5, .pointer (some ⟨gb2, 10, none⟩), .agg #[vU 0, vU 8], vP cs, vP cs, .pointer (some ⟨cs, 5, none⟩), vS gb2 7 (7 + cg2), v6 0, v6 6, .pointer (some ⟨gb2, 12, none⟩), .agg #[vU 0, vU 8], .agg #[vU 0, vU 8], .agg #[vU 0, vU 8], bF, bF, .agg #[vU 0, vU 8], vP pt, vP pt, .pointer (some ⟨pt, 3, none⟩), vS db 5 (5 + cd), v6 0, v6 4, .pointer (some ⟨db, 12, none⟩), .pointer (some ⟨db, 12, none⟩), .agg #[vU 0, vU 8], bF, bF, bF, vP pb, .agg #[vU 0, vU 8], .string ⟨#[95, 112, 114, 111, 109, 105, 115, 101]⟩, bF, bF, M4, M5, M6, M7, M8, M9, MA, MB, MC, MD, ME, MF, MG, MH, MI, MJ, MK, ML, MM, MN, MO, MP, MQ, MR, MS, MT, MU, MV, MW, MX, MY, MZ, N0, N1, N2, N3, N4, N5, N6, N7, N8, N9, NA, NB, NC, ND, NE], []⟩ := by rw [← hfr]; kernel_rfl
  clear hfr
  subst hdf
  clear α
  subst hX9_7
  replace hO : Own w0 u [row (B5_1) 31 #[vU 0, vU 8], row (B5) 31 #[vU 0, vU 8], row (pb) 252 PC, row (sb2) 260 (full symZ (symL ss) c2), row (pt) 107 QC, row (db) 113 (full dsyZ DL cd), row (orf) 31 #[vU 0, vU 0], row (cs) 99 KC, row (gb2) 31 (full refZ GL cg2), row (rt) 31 #[vU 0, vU 1], row (rs) 31 #[vU 0, vU 2]] X := hO.back HL.out HX.out [4, 6, 7, 9, 10] dc dc
  clear HL HX
  obtain ⟨aq, ar, aA, aB, -⟩ := hO.k2 0 rfl
  obtain ⟨bC, bD, bE, bG, -⟩ := hO.k2 1 rfl
  obtain ⟨bH, bI, au, av, -⟩ := hO.k2 6 rfl
  obtain ⟨bJ, bK, bL, bM, -⟩ := hO.k2 9 rfl
  obtain ⟨bN, bO, bP, bQ, -⟩ := hO.k2 10 rfl
  have HO := Lib.hid hO
  clear hO
  go_wp2_with (first | (with_reducible refine Own.stay (fn := Tryd.f4) ?_) | (first | (go_at_call 16; go_in) | (go_at_call 24; go_in) | (go_at_call 15; go_in)))
  try with_reducible refine Own.Stay.mk ?_
  have hO := HO.out
  clear HO aq ar aA aB bC bD bE bG bH bI au av bJ bK bL bM bN bO bP bQ
  rw [HC9.out]
  exact HB.out (hO.sub [6, 2, 3, 4, 5, 9] dc)
end Go.Proofs.YtikopplofkemlaaDoor.Use
namespace Go.Proofs.YtikopplofkemlaaDoor.Use
open Go.ChangeShapes Go.WideShapes Go.ChangeAt Go.RowKit Go.Sort Own
set_option linter.unusedVariables false
noncomputable def rG43fl_0E (nd : Nat) (DL : List Value) (pt : Nat) (QC : Array Value) (db : Nat) (cd : Nat) (orf : Nat) (rt : Nat) (j : Nat) (x : Int) : Nat → Rega.Atoms → Value
 | 0, α => vP pt
 | 1, α => vP pt
 | 2, α => .pointer (some ⟨pt, 3, none⟩)
 | 3, α => vS db nd (nd + cd)
 | 4, α => v6 (j : Int)
 | 5, α => .pointer (some ⟨db, j * 3, none⟩)
 | 6, α => .pointer (some ⟨db, j * 3, none⟩)
 | 7, α => .agg #[vU 0, vU x]
 | 8, α => .agg #[vU 0, vU 1]
 | 9, α => bF
 | 10, α => bF
 | 11, α => vP pt
 | 12, α => vP pt
 | 13, α => .pointer (some ⟨pt, 3, none⟩)
 | 14, α => vS db nd (nd + cd)
 | 15, α => v6 (j : Int)
 | 16, α => .pointer (some ⟨db, j * 3, none⟩)
 | 17, α => .pointer (some ⟨db, j * 3, none⟩)
 | 18, α => .agg #[vU 0, vU x]
 | 19, α => .agg #[vU 0, vU 0]
 | 20, α => bF
 | 21, α => bF
 | 22, α => bF
 | 23, α => vP pt
 | 24, α => vP pt
 | 25, α => .pointer (some ⟨pt, 3, none⟩)
 | 26, α => vS db nd (nd + cd)
 | 27, α => v6 (j : Int)
 | 28, α => .pointer (some ⟨db, j * 3, none⟩)
 | 29, α => .pointer (some ⟨db, j * 3 + 2, none⟩)
 | 30, α => bF
 | 31, α => bF
 | _, _ => undef
noncomputable def rG43fl_0Anc : Nat → List Nat
 | 1 => [0]
 | 2 => [0, 1]
 | 3 => [0, 1, 2]
 | 5 => [0, 1, 2, 3, 4]
 | 6 => [0, 1, 2, 3, 4, 5]
 | 7 => [0, 1, 2, 3, 4, 5, 6]
 | 9 => [0, 1, 2, 3, 4, 5, 6, 7, 8]
 | 10 => [0, 1, 2, 3, 4, 5, 6, 7, 8, 9]
 | 11 => [0, 1, 2, 3, 4, 5, 6, 7, 8, 9, 10]
 | 12 => [0, 1, 2, 3, 4, 5, 6, 7, 8, 9, 10, 11]
 | 13 => [0, 1, 2, 3, 4, 5, 6, 7, 8, 9, 10, 11, 12]
 | 14 => [0, 1, 2, 3, 4, 5, 6, 7, 8, 9, 10, 11, 12, 13]
 | 15 => [0, 1, 2, 3, 4, 5, 6, 7, 8, 9, 10]
 | 16 => [0, 1, 2, 3, 4, 5, 6, 7, 8, 9, 10, 11, 12, 13, 14, 15]
 | 17 => [0, 1, 2, 3, 4, 5, 6, 7, 8, 9, 10, 11, 12, 13, 14, 15, 16]
 | 18 => [0, 1, 2, 3, 4, 5, 6, 7, 8, 9, 10, 11, 12, 13, 14, 15, 16, 17]
 | 19 => [0, 1, 2, 3, 4, 5, 6, 7, 8, 9, 10]
 | 20 => [0, 1, 2, 3, 4, 5, 6, 7, 8, 9, 10, 11, 12, 13, 14, 15, 16, 17, 18, 19]
 | 21 => [0, 1, 2, 3, 4, 5, 6, 7, 8, 9, 10, 11, 12, 13, 14, 15, 16, 17, 18, 19, 20]
 | 22 => [0, 1, 2, 3, 4, 5, 6, 7, 8, 9, 10, 11, 12, 13, 14, 15, 16, 17, 18, 19, 20, 21]
 | 23 => [0, 1, 2, 3, 4, 5, 6, 7, 8, 9, 10, 11, 12, 13, 14, 15, 16, 17, 18, 19, 20, 21, 22]
 | 24 => [0, 1, 2, 3, 4, 5, 6, 7, 8, 9, 10, 11, 12, 13, 14, 15, 16, 17, 18, 19, 20, 21, 22, 23]
 | 25 => [0, 1, 2, 3, 4, 5, 6, 7, 8, 9, 10, 11, 12, 13, 14, 15, 16, 17, 18, 19, 20, 21, 22, 23, 24]
 | 26 => [0, 1, 2, 3, 4, 5, 6, 7, 8, 9, 10, 11, 12, 13, 14, 15, 16, 17, 18, 19, 20, 21, 22, 23, 24, 25]
 | 27 => [0, 1, 2, 3, 4, 5, 6, 7, 8, 9, 10, 11, 12, 13, 14, 15, 16, 17, 18, 19, 20, 21, 22]
 | 28 => [0, 1, 2, 3, 4, 5, 6, 7, 8, 9, 10, 11, 12, 13, 14, 15, 16, 17, 18, 19, 20, 21, 22, 23, 24, 25, 26, 27]
 | 29 => [0, 1, 2, 3, 4, 5, 6, 7, 8, 9, 10, 11, 12, 13, 14, 15, 16, 17, 18, 19, 20, 21, 22, 23, 24, 25, 26, 27, 28]
 | 30 => [0, 1, 2, 3, 4, 5, 6, 7, 8, 9, 10, 11, 12, 13, 14, 15, 16, 17, 18, 19, 20, 21, 22, 23, 24, 25, 26, 27, 28, 29]
 | 31 => [0, 1, 2, 3, 4, 5, 6, 7, 8, 9, 10, 11, 12, 13, 14, 15, 16, 17, 18, 19, 20, 21, 22, 23, 24, 25, 26, 27, 28, 29, 30]
 | _ => []
noncomputable def rG43fl_0Trn : Nat → List Nat
 | _ => []
noncomputable def rG43fl_0Cnt : List (Nat × Nat) := []
noncomputable def rG43fl_0R (nd : Nat) (DL : List Value) (pt : Nat) (QC : Array Value) (db : Nat) (cd : Nat) (orf : Nat) (rt : Nat) (j : Nat) (x : Int) (L9 : Nat → Bool) (α : Rega.Atoms) (ix9 : Nat) : Rw := if ix9 = 999 then row (orf) 31 #[vU 0, vU 0] else if ix9 = 1999 then row (pt) 107 QC else if ix9 = 2999 then row (db) 113 (full dsyZ DL cd) else if ix9 = 3999 then row (rt) 31 #[vU 0, vU 1] else (0, .map #[] 0)
theorem rG43fl_0_he (nd : Nat) (DL : List Value) (pt : Nat) (QC : Array Value) (db : Nat) (cd : Nat) (orf : Nat) (rt : Nat) (j : Nat) (x : Int) : ∀ kk α α', (∀ j, (j % 1000 = kk ∨ j % 1000 ∈ rG43fl_0Anc kk) → α j = α' j) → rG43fl_0E nd DL pt QC db cd orf rt j x kk α = rG43fl_0E nd DL pt QC db cd orf rt j x kk α' := by
 intro kk α α' h
 match kk with
 | 0 => rfl
 | 1 => rfl
 | 2 => rfl
 | 3 => rfl
 | 4 => rfl
 | 5 => rfl
 | 6 => rfl
 | 7 => rfl
 | 8 => rfl
 | 9 => rfl
 | 10 => rfl
 | 11 => rfl
 | 12 => rfl
 | 13 => rfl
 | 14 => rfl
 | 15 => rfl
 | 16 => rfl
 | 17 => rfl
 | 18 => rfl
 | 19 => rfl
 | 20 => rfl
 | 21 => rfl
 | 22 => rfl
 | 23 => rfl
 | 24 => rfl
 | 25 => rfl
 | 26 => rfl
 | 27 => rfl
 | 28 => rfl
 | 29 => rfl
 | 30 => rfl
 | 31 => rfl
 | n + 32 => rfl
theorem rG43fl_0_st (nd : Nat) (DL : List Value) (pt : Nat) (QC : Array Value) (db : Nat) (cd : Nat) (orf : Nat) (rt : Nat) (j : Nat) (x : Int) : Stable rG43fl_0Cnt 4 rG43fl_0Anc rG43fl_0Trn (rG43fl_0R nd DL pt QC db cd orf rt j x) := by
 intro k9 L9 α α' ix9 hk hcl hα hact ht
 have hp := act_places hact
 replace hp : ix9 ∈ [999, 1999, 2999, 3999] := hp
 simp only [List.mem_cons, List.not_mem_nil, or_false] at hp
 rcases hp with rfl | rfl | rfl | rfl
 ·rfl
 ·rfl
 ·rfl
 ·rfl

set_option maxRecDepth 100000 in
set_option maxHeartbeats 4000000 in
theorem tg43f (nm : ByteArray) (awb : Bool) (ng nd ns : Nat) (ss : List Sy) (DL : List Value) (pb : Nat) (PC : Array Value) (sb2 c2 pt : Nat) (QC : Array Value) (db cd orf rt : Nat) (w0 : World) (X : Nat → Obj → Prop) (Post : Ending → World → Prop) (hP : ∀ w3, Own w0 w3 [] X → Post (.returned (.bool true)) w3) (hk : PC[106]? = some (vS sb2 ns (ns + c2))) (hds : QC[3]? = some (vS db nd (nd + cd))) (hA : (awb = false ∧ ng = 5 ∧ nd = 4) ∨ (awb = true ∧ ng = 7 ∧ nd = 5)) (hns : ss.length = ns) (hnb : ns ≤ 100) (hS : ∀ q : Nat, q < 9 → (q = 8 → awb = true) → ∃ y : Sy, ss[q]? = some y ∧ y.nm = nmG nm q) (hDL : ∀ j : Nat, j < nd → ∃ x : Int, DL[j * 3]? = some (vU 0) ∧ DL[j * 3 + 1]? = some (vU x) ∧ DL[j * 3 + 2]? = some (bF) ∧ ¬ x = 0 ∧ ¬ x = 1) :
  Hg43f nm awb ng nd ns ss DL pb PC sb2 c2 pt QC db cd orf rt w0 X (bodyPost Tryd.prog Tryd.f4 Post) := by
 unfold Hg43f
 intro  A0 A1 A2 A3 A4 A5 A6 A7 A8 A9 AA AB AC AD AE AF AG AH AI AJ AK AL AM AN AO AP AQ AR AS AT AU AV AW AX AY AZ B0 B1 B2 B3 B4 B5 B6 B7 B8 B9 BA BB BC BD BE BF BG BH BI BJ BK BL BM BN BO BP BQ BR BS BT BU BV BW BX BY BZ C0 C1 C2 C3 C4 C5 C6 C7 C8 C9 CA CB CC CD CE CF CG CH CI CJ CK CL CM CN CO CP CQ CR CS CT CU CV CW CX CY CZ E0 E1 E2 E3 E4 E5 E6 E7 E8 E9 EA EB EC ED EE EF EG EH EI EJ EK EL EM EN EO EP EQ ER ES ET EU EV EW EX EY EZ F0 F1 F2 F3 F4 F5 F6 F7 F8 F9 FA FB FC FD FE FF FG FH FI FJ FK FL FM FN FO FP FQ FR FS FT FU FV FW FX FY FZ G0 G1 G2 G3 G4 G5 G6 G7 G8 G9 GA GB GC GD GE GF GG GH GI GJ GK GL GM GN GO GP GQ GR GS GT GU GV GW GX GY GZ I0 I1 I2 I3 I4 I5 I6 I7 I8 I9 IA IB IC ID IE IF IG IH II IJ IK IL IM IN IO IP IQ IR IS IT IU IV IW IX IY IZ J0 J1 J2 J3 J4 J5 J6 J7 J8 J9 JA JB JC JD JE JF JG JH JI JJ JK JL JM JN JO JP JQ JR JS JT JU JV JW JX JY JZ M0 M1 M2 M3 M4 M5 M6 M7 M8 M9 MA MB MC MD ME MF MG MH MI MJ MK ML MM MN MO MP MQ MR MS MT MU MV MW MX MY MZ N0 N1 N2 N3 N4 N5 N6 N7 N8 N9 NA NB NC ND NE NF NG w hO
 have HP := Lib.hid hP
 clear hP
 simp only [rg43f, Tryd.f4, Option.getD_some, cutC]
 have hng7 : ng ≤ 7 := by omega
 have hng5 : 5 ≤ ng := by omega
 have hnd5 : nd ≤ 5 := by omega
 have hnd4 : 4 ≤ nd := by omega
 have he0 : 0 < nd := by omega
 have he1 : 1 < nd := by omega
 have he2 : 2 < nd := by omega
 have he3 : 3 < nd := by omega
 have hd1 : (0 : Int) < (nd : Int) := by omega
 have hd2 : (1 : Int) < (nd : Int) := by omega
 have hd3 : (2 : Int) < (nd : Int) := by omega
 have hd4 : (3 : Int) < (nd : Int) := by omega
 have HA := Lib.hid hA
 clear hA
 have H9hS := Lib.hid hS
 clear hS
 have H9hDL := Lib.hid hDL
 clear hDL
 obtain ⟨aC, aD, aA, aB, -⟩ := hO.k2 0 rfl
 obtain ⟨aE, aF, aG, aH, -⟩ := hO.k2 5 rfl
 have HO := Lib.hid hO
 clear hO
 go_wp2_with (first | (with_reducible refine Own.stay (fn := Tryd.f4) ?_) | (first | (go_at_call 16; go_in) | (go_at_call 24; go_in) | (go_at_call 15; go_in)))
 try with_reducible refine Own.Stay.mk ?_
 have hO := HO.out
 clear HO aC aD aA aB aE aF aG aH
 go_loopg [29] nd (fun gf s29 wx => ∃ j : Nat, j + gf = nd ∧ s29 = v6 (j : Int) ∧ Own w0 wx [row (orf) 31 #[vU 0, vU 0], row (pb) 252 PC, row (sb2) 260 (full symZ (symL ss) c2), row (pt) 107 QC, row (db) 113 (full dsyZ DL cd), row (rt) 31 #[vU 0, vU 1]] X)
 case atStart => exact ⟨0, by omega, rfl, hO⟩
 obtain ⟨j, hj, rfl, hO⟩ := hrel
 by_cases hlt : j < nd
 ·skip
  obtain ⟨gq, rfl⟩ : ∃ gq, gk = gq + 1 := ⟨gk - 1, by omega⟩
  have hlt9 : (j : Int) < (nd : Int) := by omega
  have hj8 : (0 : Int) ≤ (j : Int) := by omega
  obtain ⟨x, da0, da1, da2, hx0, hx1⟩ := H9hDL.out j hlt
  obtain ⟨ix9, hix9, hax9, hjx9⟩ := hO.ix
  have aK := hjx9 0 _ _ rfl
  have aL := hjx9 1 _ _ rfl
  have aM := hjx9 2 _ _ rfl
  have aN := hjx9 3 _ _ rfl
  have aO := hjx9 4 _ _ rfl
  have aP := hjx9 5 _ _ rfl
  clear hjx9
  obtain ⟨aC, aD, aA, aB, aS⟩ := hO.k2 0 rfl
  have aT := hO.cell 1 rfl 106 hk
  have aU := hO.lt 1 rfl
  have aV := hO.free 1 rfl
  have aQ := hO.cell 3 rfl 3 hds
  have aI := hO.lt 3 rfl
  have aJ := hO.free 3 rfl
  have aW : wr.cell? ⟨db, j * 3, none⟩ = some (vU 0) := hO.cell 4 rfl (j * 3) ((full_at da0))
  have aX : wr.cell? ⟨db, j * 3 + 1, none⟩ = some (vU x) := hO.cell 4 rfl (j * 3 + 1) ((full_at da1))
  have aY : wr.cell? ⟨db, j * 3 + 2, none⟩ = some (bF) := hO.cell 4 rfl (j * 3 + 2) ((full_at da2))
  have aZ := hO.lt 4 rfl
  have aa := hO.free 4 rfl
  obtain ⟨aE, aF, aG, aH, aR⟩ := hO.k2 5 rfl
  have HO := Lib.hid hO
  clear hO
  go_wp2_with (first | (with_reducible refine Own.stay (fn := Tryd.f4) ?_) | (first | (go_at_call 16; go_in) | (go_at_call 24; go_in) | (go_at_call 15; go_in)))
  try with_reducible refine Own.Stay.mk ?_
  have hO := HO.out
  clear HO hix9 hax9 aK aL aM aN aO aP ix9 aC aD aA aB aS aT aU aV aQ aI aJ aW aX aY aZ aa aE aF aG aH aR
  obtain ⟨HL, HX⟩ := hid2 hO
  have hP9 := hO.pick [0, 3, 4, 5] dc
  generalize hX9_1 : Own.Rest _ _ X = X9_1 at hP9
  replace hP9 : Own w0 wr [row (orf) 31 #[vU 0, vU 0], row (pt) 107 QC, row (db) 113 (full dsyZ DL cd), row (rt) 31 #[vU 0, vU 1]] X9_1 := hP9
  clear hO
  have hO := hP9
  clear hP9
  have st9 := rG43fl_0_st nd DL pt QC db cd orf rt j x
  let R9 := rG43fl_0R nd DL pt QC db cd orf rt j x
  refine wp_region_own (e := rG43fl_0E nd DL pt QC db cd orf rt j x) (anc := rG43fl_0Anc) (G := (fun L9 α u9 => OwnF w0 u9 (act rG43fl_0Cnt 4 L9) (rG43fl_0R nd DL pt QC db cd orf rt j x L9 α) X9_1)) (by kernel_rfl) (by kernel_rfl) (by kernel_rfl) (by kernel_rfl) (rG43fl_0_he nd DL pt QC db cd orf rt j x) ?_ (RunsAll.all ?_) ?_
  ·have hp : ∀ i, act rG43fl_0Cnt 4 (fun _ => false) i → i ∈ [999, 1999, 2999, 3999] := by
    intro i hi
    have h9 : i % 1000 = 999 := by
     by_cases h : i % 1000 = 999
     ·exact h
     ·exact absurd (act_lt hi h) (by simp)
    unfold act at hi
    rw [if_pos h9] at hi
    simp only [List.mem_cons, List.not_mem_nil, or_false]
    omega
   refine hO.drew.family (fun i hi => ?_) (fun i j hi hj hij => ?_)
   ·have := hp i hi
    simp only [List.mem_cons, List.not_mem_nil, or_false] at this
    rcases this with rfl | rfl | rfl | rfl <;> rfl
   ·have h1 := hp i hi
    have h2 := hp j hj
    simp only [List.mem_cons, List.not_mem_nil, or_false] at h1 h2
    omega
  ·refine ⟨?_, ?_, ?_, ?_, ?_, ?_, ?_, ?_, ?_, ?_, ?_, ?_, ?_, ?_, ?_, ?_, ?_, ?_, ?_, ?_, ?_, ?_, ?_, ?_, ?_, ?_, ?_, ?_, ?_, ?_, ?_, ?_, trivial⟩
   ·refine pur st9 rfl rfl fun L9 α a9 u9 K9 hL hcl hA hG hS h0 h1 hK => ?_
    have s15 := eS (vP pt) ((h0 15 (by kernel_rfl)).trans rfl)
    go_simp
    exact hK
   ·refine pur st9 rfl rfl fun L9 α a9 u9 K9 hL hcl hA hG hS h0 h1 hK => ?_
    have s310 := eS (vP pt) (hS 0 310 dc rfl (ltd 347 rfl))
    go_simp
    exact hK
   ·refine pur st9 rfl rfl fun L9 α a9 u9 K9 hL hcl hA hG hS h0 h1 hK => ?_
    have s311 := eS (vP pt) (hS 1 311 dc rfl (ltd 347 rfl))
    go_simp
    exact hK
   ·refine pur st9 rfl rfl fun L9 α a9 u9 K9 hL hcl hA hG hS h0 h1 hK => ?_
    have s312 := eS (.pointer (some ⟨pt, 3, none⟩)) (hS 2 312 dc rfl (ltd 347 rfl))
    have e0 : R9 L9 α 1999 = row (pt) 107 QC := rfl
    have hr := hG.rowAt 1999 (act_base 1999 rfl) e0
    have c0 : u9.cell? ⟨pt, 3, none⟩ = some (vS db nd (nd + cd)) := hr.cell (hds)
    clear hr e0
    go_simp
    exact hK
   ·refine pur st9 rfl rfl fun L9 α a9 u9 K9 hL hcl hA hG hS h0 h1 hK => ?_
    have q29 : a9.tmps[29]? = some (v6 (j : Int)) := (h0 29 (by kernel_rfl)).trans rfl
    have s29 := Rega.eval_of q29
    go_simp
    exact hK
   ·refine pur st9 rfl rfl fun L9 α a9 u9 K9 hL hcl hA hG hS h0 h1 hK => ?_
    have q313 : a9.tmps[313]? = some (vS db nd (nd + cd)) := hS 3 313 dc rfl (ltd 347 rfl)
    have s313 := Rega.eval_of q313
    have q314 : a9.tmps[314]? = some (v6 (j : Int)) := hS 4 314 dc rfl (ltd 347 rfl)
    have s314 := Rega.eval_of q314
    go_simp
    exact hK
   ·refine pur st9 rfl rfl fun L9 α a9 u9 K9 hL hcl hA hG hS h0 h1 hK => ?_
    have s315 := eS (.pointer (some ⟨db, j * 3, none⟩)) (hS 5 315 dc rfl (ltd 347 rfl))
    go_simp
    exact hK
   ·refine pur st9 rfl rfl fun L9 α a9 u9 K9 hL hcl hA hG hS h0 h1 hK => ?_
    have s316 := eS (.pointer (some ⟨db, j * 3, none⟩)) (hS 6 316 dc rfl (ltd 347 rfl))
    have e0 : R9 L9 α 2999 = row (db) 113 (full dsyZ DL cd) := rfl
    have hr := hG.rowAt 2999 (act_base 2999 rfl) e0
    have c0 : u9.cell? ⟨db, j * 3, none⟩ = some (vU 0) := hr.cell ((full_at da0))
    have c1 : u9.cell? ⟨db, j * 3 + 1, none⟩ = some (vU x) := hr.cell ((full_at da1))
    clear hr e0
    go_simp
    exact hK
   ·refine pur st9 rfl rfl fun L9 α a9 u9 K9 hL hcl hA hG hS h0 h1 hK => ?_
    have s18 := eS (vP rt) ((h0 18 (by kernel_rfl)).trans rfl)
    have e0 : R9 L9 α 3999 = row (rt) 31 #[vU 0, vU 1] := rfl
    have hr := hG.rowAt 3999 (act_base 3999 rfl) e0
    have c0 : u9.cell? ⟨rt, 0, none⟩ = some (vU 0) := hr.cell rfl
    have c1 : u9.cell? ⟨rt, 1, none⟩ = some (vU 1) := hr.cell rfl
    clear hr e0
    go_simp
    exact hK
   ·refine pur st9 rfl rfl fun L9 α a9 u9 K9 hL hcl hA hG hS h0 h1 hK => ?_
    have q317 : a9.tmps[317]? = some (.agg #[vU 0, vU x]) := hS 7 317 dc rfl (ltd 347 rfl)
    have s317 := Rega.eval_of q317
    have q318 : a9.tmps[318]? = some (.agg #[vU 0, vU 1]) := hS 8 318 dc rfl (ltd 347 rfl)
    have s318 := Rega.eval_of q318
    go_simp
    exact hK
   ·refine pur st9 rfl rfl fun L9 α a9 u9 K9 hL hcl hA hG hS h0 h1 hK => ?_
    have q319 : a9.tmps[319]? = some (bF) := hS 9 319 dc rfl (ltd 347 rfl)
    have s319 := Rega.eval_of q319
    go_simp
    exact hK
   ·refine pur st9 rfl rfl fun L9 α a9 u9 K9 hL hcl hA hG hS h0 h1 hK => ?_
    have q15 : a9.tmps[15]? = some (vP pt) := (h0 15 (by kernel_rfl)).trans rfl
    have s15 := Rega.eval_of q15
    have q320 : a9.tmps[320]? = some (bF) := hS 10 320 dc rfl (ltd 347 rfl)
    have s320 := Rega.eval_of q320
    go_simp
    exact hK
   ·refine pur st9 rfl rfl fun L9 α a9 u9 K9 hL hcl hA hG hS h0 h1 hK => ?_
    have q321 : a9.tmps[321]? = some (vP pt) := hS 11 321 dc rfl (ltd 347 rfl)
    have s321 := Rega.eval_of q321
    have q320 : a9.tmps[320]? = some (bF) := hS 10 320 dc rfl (ltd 347 rfl)
    have s320 := Rega.eval_of q320
    go_simp
    exact hK
   ·refine pur st9 rfl rfl fun L9 α a9 u9 K9 hL hcl hA hG hS h0 h1 hK => ?_
    have q322 : a9.tmps[322]? = some (vP pt) := hS 12 322 dc rfl (ltd 347 rfl)
    have s322 := Rega.eval_of q322
    have q320 : a9.tmps[320]? = some (bF) := hS 10 320 dc rfl (ltd 347 rfl)
    have s320 := Rega.eval_of q320
    go_simp
    exact hK
   ·refine pur st9 rfl rfl fun L9 α a9 u9 K9 hL hcl hA hG hS h0 h1 hK => ?_
    have q323 : a9.tmps[323]? = some (.pointer (some ⟨pt, 3, none⟩)) := hS 13 323 dc rfl (ltd 347 rfl)
    have s323 := Rega.eval_of q323
    have q320 : a9.tmps[320]? = some (bF) := hS 10 320 dc rfl (ltd 347 rfl)
    have s320 := Rega.eval_of q320
    have e0 : R9 L9 α 1999 = row (pt) 107 QC := rfl
    have hr := hG.rowAt 1999 (act_base 1999 rfl) e0
    have c0 : u9.cell? ⟨pt, 3, none⟩ = some (vS db nd (nd + cd)) := hr.cell (hds)
    clear hr e0
    go_simp
    exact hK
   ·refine pur st9 rfl rfl fun L9 α a9 u9 K9 hL hcl hA hG hS h0 h1 hK => ?_
    have q29 : a9.tmps[29]? = some (v6 (j : Int)) := (h0 29 (by kernel_rfl)).trans rfl
    have s29 := Rega.eval_of q29
    have q320 : a9.tmps[320]? = some (bF) := hS 10 320 dc rfl (ltd 347 rfl)
    have s320 := Rega.eval_of q320
    go_simp
    exact hK
   ·refine pur st9 rfl rfl fun L9 α a9 u9 K9 hL hcl hA hG hS h0 h1 hK => ?_
    have q324 : a9.tmps[324]? = some (vS db nd (nd + cd)) := hS 14 324 dc rfl (ltd 347 rfl)
    have s324 := Rega.eval_of q324
    have q325 : a9.tmps[325]? = some (v6 (j : Int)) := hS 15 325 dc rfl (ltd 347 rfl)
    have s325 := Rega.eval_of q325
    have q320 : a9.tmps[320]? = some (bF) := hS 10 320 dc rfl (ltd 347 rfl)
    have s320 := Rega.eval_of q320
    go_simp
    exact hK
   ·refine pur st9 rfl rfl fun L9 α a9 u9 K9 hL hcl hA hG hS h0 h1 hK => ?_
    have q326 : a9.tmps[326]? = some (.pointer (some ⟨db, j * 3, none⟩)) := hS 16 326 dc rfl (ltd 347 rfl)
    have s326 := Rega.eval_of q326
    have q320 : a9.tmps[320]? = some (bF) := hS 10 320 dc rfl (ltd 347 rfl)
    have s320 := Rega.eval_of q320
    go_simp
    exact hK
   ·refine pur st9 rfl rfl fun L9 α a9 u9 K9 hL hcl hA hG hS h0 h1 hK => ?_
    have q327 : a9.tmps[327]? = some (.pointer (some ⟨db, j * 3, none⟩)) := hS 17 327 dc rfl (ltd 347 rfl)
    have s327 := Rega.eval_of q327
    have q320 : a9.tmps[320]? = some (bF) := hS 10 320 dc rfl (ltd 347 rfl)
    have s320 := Rega.eval_of q320
    have e0 : R9 L9 α 2999 = row (db) 113 (full dsyZ DL cd) := rfl
    have hr := hG.rowAt 2999 (act_base 2999 rfl) e0
    have c0 : u9.cell? ⟨db, j * 3, none⟩ = some (vU 0) := hr.cell ((full_at da0))
    have c1 : u9.cell? ⟨db, j * 3 + 1, none⟩ = some (vU x) := hr.cell ((full_at da1))
    clear hr e0
    go_simp
    exact hK
   ·refine pur st9 rfl rfl fun L9 α a9 u9 K9 hL hcl hA hG hS h0 h1 hK => ?_
    have q11 : a9.tmps[11]? = some (vP orf) := (h0 11 (by kernel_rfl)).trans rfl
    have s11 := Rega.eval_of q11
    have q320 : a9.tmps[320]? = some (bF) := hS 10 320 dc rfl (ltd 347 rfl)
    have s320 := Rega.eval_of q320
    have e0 : R9 L9 α 999 = row (orf) 31 #[vU 0, vU 0] := rfl
    have hr := hG.rowAt 999 (act_base 999 rfl) e0
    have c0 : u9.cell? ⟨orf, 0, none⟩ = some (vU 0) := hr.cell rfl
    have c1 : u9.cell? ⟨orf, 1, none⟩ = some (vU 0) := hr.cell rfl
    clear hr e0
    go_simp
    exact hK
   ·refine pur st9 rfl rfl fun L9 α a9 u9 K9 hL hcl hA hG hS h0 h1 hK => ?_
    have q328 : a9.tmps[328]? = some (.agg #[vU 0, vU x]) := hS 18 328 dc rfl (ltd 347 rfl)
    have s328 := Rega.eval_of q328
    have q329 : a9.tmps[329]? = some (.agg #[vU 0, vU 0]) := hS 19 329 dc rfl (ltd 347 rfl)
    have s329 := Rega.eval_of q329
    have q320 : a9.tmps[320]? = some (bF) := hS 10 320 dc rfl (ltd 347 rfl)
    have s320 := Rega.eval_of q320
    go_simp
    exact hK
   ·refine pur st9 rfl rfl fun L9 α a9 u9 K9 hL hcl hA hG hS h0 h1 hK => ?_
    have q320 : a9.tmps[320]? = some (bF) := hS 10 320 dc rfl (ltd 347 rfl)
    have s320 := Rega.eval_of q320
    have q330 : a9.tmps[330]? = some (bF) := hS 20 330 dc rfl (ltd 347 rfl)
    have s330 := Rega.eval_of q330
    go_simp
    exact hK
   ·refine pur st9 rfl rfl fun L9 α a9 u9 K9 hL hcl hA hG hS h0 h1 hK => ?_
    have q331 : a9.tmps[331]? = some (bF) := hS 21 331 dc rfl (ltd 347 rfl)
    have s331 := Rega.eval_of q331
    go_simp
    exact hK
   ·refine pur st9 rfl rfl fun L9 α a9 u9 K9 hL hcl hA hG hS h0 h1 hK => ?_
    have q15 : a9.tmps[15]? = some (vP pt) := (h0 15 (by kernel_rfl)).trans rfl
    have s15 := Rega.eval_of q15
    have q332 : a9.tmps[332]? = some (bF) := hS 22 332 dc rfl (ltd 347 rfl)
    have s332 := Rega.eval_of q332
    go_simp
    exact hK
   ·refine pur st9 rfl rfl fun L9 α a9 u9 K9 hL hcl hA hG hS h0 h1 hK => ?_
    have q333 : a9.tmps[333]? = some (vP pt) := hS 23 333 dc rfl (ltd 347 rfl)
    have s333 := Rega.eval_of q333
    have q332 : a9.tmps[332]? = some (bF) := hS 22 332 dc rfl (ltd 347 rfl)
    have s332 := Rega.eval_of q332
    go_simp
    exact hK
   ·refine pur st9 rfl rfl fun L9 α a9 u9 K9 hL hcl hA hG hS h0 h1 hK => ?_
    have q334 : a9.tmps[334]? = some (vP pt) := hS 24 334 dc rfl (ltd 347 rfl)
    have s334 := Rega.eval_of q334
    have q332 : a9.tmps[332]? = some (bF) := hS 22 332 dc rfl (ltd 347 rfl)
    have s332 := Rega.eval_of q332
    go_simp
    exact hK
   ·refine pur st9 rfl rfl fun L9 α a9 u9 K9 hL hcl hA hG hS h0 h1 hK => ?_
    have q335 : a9.tmps[335]? = some (.pointer (some ⟨pt, 3, none⟩)) := hS 25 335 dc rfl (ltd 347 rfl)
    have s335 := Rega.eval_of q335
    have q332 : a9.tmps[332]? = some (bF) := hS 22 332 dc rfl (ltd 347 rfl)
    have s332 := Rega.eval_of q332
    have e0 : R9 L9 α 1999 = row (pt) 107 QC := rfl
    have hr := hG.rowAt 1999 (act_base 1999 rfl) e0
    have c0 : u9.cell? ⟨pt, 3, none⟩ = some (vS db nd (nd + cd)) := hr.cell (hds)
    clear hr e0
    go_simp
    exact hK
   ·refine pur st9 rfl rfl fun L9 α a9 u9 K9 hL hcl hA hG hS h0 h1 hK => ?_
    have q29 : a9.tmps[29]? = some (v6 (j : Int)) := (h0 29 (by kernel_rfl)).trans rfl
    have s29 := Rega.eval_of q29
    have q332 : a9.tmps[332]? = some (bF) := hS 22 332 dc rfl (ltd 347 rfl)
    have s332 := Rega.eval_of q332
    go_simp
    exact hK
   ·refine pur st9 rfl rfl fun L9 α a9 u9 K9 hL hcl hA hG hS h0 h1 hK => ?_
    have q336 : a9.tmps[336]? = some (vS db nd (nd + cd)) := hS 26 336 dc rfl (ltd 347 rfl)
    have s336 := Rega.eval_of q336
    have q337 : a9.tmps[337]? = some (v6 (j : Int)) := hS 27 337 dc rfl (ltd 347 rfl)
    have s337 := Rega.eval_of q337
    have q332 : a9.tmps[332]? = some (bF) := hS 22 332 dc rfl (ltd 347 rfl)
    have s332 := Rega.eval_of q332
    go_simp
    exact hK
   ·refine pur st9 rfl rfl fun L9 α a9 u9 K9 hL hcl hA hG hS h0 h1 hK => ?_
    have q338 : a9.tmps[338]? = some (.pointer (some ⟨db, j * 3, none⟩)) := hS 28 338 dc rfl (ltd 347 rfl)
    have s338 := Rega.eval_of q338
    have q332 : a9.tmps[332]? = some (bF) := hS 22 332 dc rfl (ltd 347 rfl)
    have s332 := Rega.eval_of q332
    go_simp
    exact hK
   ·refine pur st9 rfl rfl fun L9 α a9 u9 K9 hL hcl hA hG hS h0 h1 hK => ?_
    have q339 : a9.tmps[339]? = some (.pointer (some ⟨db, j * 3 + 2, none⟩)) := hS 29 339 dc rfl (ltd 347 rfl)
    have s339 := Rega.eval_of q339
    have q332 : a9.tmps[332]? = some (bF) := hS 22 332 dc rfl (ltd 347 rfl)
    have s332 := Rega.eval_of q332
    have e0 : R9 L9 α 2999 = row (db) 113 (full dsyZ DL cd) := rfl
    have hr := hG.rowAt 2999 (act_base 2999 rfl) e0
    have c0 : u9.cell? ⟨db, j * 3 + 2, none⟩ = some (bF) := hr.cell ((full_at da2))
    clear hr e0
    go_simp
    exact hK
   ·refine pur st9 rfl rfl fun L9 α a9 u9 K9 hL hcl hA hG hS h0 h1 hK => ?_
    have q332 : a9.tmps[332]? = some (bF) := hS 22 332 dc rfl (ltd 347 rfl)
    have s332 := Rega.eval_of q332
    have q340 : a9.tmps[340]? = some (bF) := hS 30 340 dc rfl (ltd 347 rfl)
    have s340 := Rega.eval_of q340
    go_simp
    exact hK
  clear st9
  intro α u hG
  have e0 : R9 (fun k => decide (k < 32)) α 999 = row (orf) 31 #[vU 0, vU 0] := rfl
  have e1 : R9 (fun k => decide (k < 32)) α 1999 = row (pt) 107 QC := rfl
  have e2 : R9 (fun k => decide (k < 32)) α 2999 = row (db) 113 (full dsyZ DL cd) := rfl
  have e3 : R9 (fun k => decide (k < 32)) α 3999 = row (rt) 31 #[vU 0, vU 1] := rfl
  have hO : Own w0 u [row (orf) 31 #[vU 0, vU 0], row (pt) 107 QC, row (db) 113 (full dsyZ DL cd), row (rt) 31 #[vU 0, vU 1]] X9_1 := (hG.list [999, 1999, 2999, 3999] dc (act_all dc)).conv (by
   show [R9 (fun k => decide (k < 32)) α 999, R9 (fun k => decide (k < 32)) α 1999, R9 (fun k => decide (k < 32)) α 2999, R9 (fun k => decide (k < 32)) α 3999] = _
   rw [e0, e1, e2, e3])
  clear hG e0 e1 e2 e3 R9
  generalize hfr : Rega.frameAt _ _ _ _ _ = fr
  have hdf : fr = ⟨#[.string nm, A0, A1, A2, A3, A4, A5, A6, u8, vP pb, A8, vP orf, A9, AA, AB, vP pt, AC, v6 0, vP rt, AD, AE, AF, AG, AH, AI, AJ, AK, AL, AM, v6 (j : Int), AO, AP, AQ, AR, AS, AT, AU, AV, AW, AX, AY, AZ, B0, B1, B2, B3, B4, B5, B6, B7, B8, B9, BA, BB, BC, BD, BE, BF, BG, BH, BI, BJ, BK, BL, BM, BN, BO, BP, BQ, BR, BS, BT, BU, BV, BW, BX, BY, BZ, C0, C1, C2, C3, C4, C5, C6, C7, C8, C9, CA, CB, CC, CD, CE, CF, CG, CH, CI, CJ, CK, CL, CM, CN, CO, CP, CQ, CR, CS, CT, CU, CV, CW, CX, CY, CZ, E0, E1, E2, E3, E4, E5, E6, E7, E8, E9, EA, EB, EC, ED, EE, EF, EG, EH, EI, EJ, EK, EL, EM, EN, EO, EP, EQ, ER, ES, ET, EU, EV, EW, EX, EY, EZ, F0, F1, F2, F3, F4, F5, F6, F7, F8, F9, FA, FB, FC, FD, FE, FF, FG, FH, FI, FJ, FK, FL, FM, FN, FO, FP, FQ, FR, FS, FT, FU, FV, FW, FX, FY, FZ, G0, G1, G2, G3, G4, G5, G6, G7, G8, G9, GA, GB, GC, GD, GE, GF, GG, GH, GI, GJ, GK, GL, GM, GN, GO, GP, GQ, GR, GS, GT, GU, GV, GW, GX, GY, GZ, I0, I1, I2, I3, I4, I5, I6, I7, I8, I9, IA, IB, IC, ID, IE, IF, IG, IH, II, IJ, IK, IL, IM, IN, IO, IP, IQ, IR, IS, IT, IU, IV, IW, IX, IY, IZ, J0, J1, J2, J3, J4, J5, J6, J7, J8, J9, JA, JB, JC, JD, JE, JF, JG, JH, JI, JJ, JK, JL, JM, JN, JO, JP, JQ, JR, JS, JT, JU, JV, JW, JX, JY, JZ, M0, M1, M2, M3, M4, M5, v6 0, v6 (j : Int), vP pt, vP pt, .pointer (some ⟨pt, 3, none⟩), vS db nd (nd + cd), v6 (nd : Int), .bool true, u308, u309, vP pt, vP pt, .pointer (some ⟨pt, 3, none⟩), vS db nd (nd + cd), v6 (j : Int), .pointer (some ⟨db, j * 3, none⟩), .pointer (some ⟨db, j * 3, none⟩), .agg #[vU 0, vU x], .agg #[vU 0, vU 1], bF, bF, vP pt, vP pt, .pointer (some ⟨pt, 3, none⟩), vS db nd (nd + cd), v6 (j : Int), .pointer (some ⟨db, j * 3, none⟩), .pointer (some ⟨db, j * 3, none⟩), .agg #[vU 0, vU x], .agg #[vU 0, vU 0], bF, bF, bF, vP pt, vP pt, .pointer (some ⟨pt, 3, none⟩), vS db nd (nd + cd), v6 (j : Int), .pointer (some ⟨db, j * 3, none⟩), .pointer (some ⟨db, j * 3 + 2, none⟩), bF, bF, NC, ND, NE, NF, NG], []⟩ := by rw [← hfr]; kernel_rfl
  clear hfr
  subst hdf
  clear α
  subst hX9_1
  replace hO : Own w0 u [row (orf) 31 #[vU 0, vU 0], row (pt) 107 QC, row (db) 113 (full dsyZ DL cd), row (rt) 31 #[vU 0, vU 1], row (pb) 252 PC, row (sb2) 260 (full symZ (symL ss) c2)] X := hO.back HL.out HX.out [1, 2] dc dc
  clear HL HX
  obtain ⟨aC, aD, aA, aB, -⟩ := hO.k2 0 rfl
  obtain ⟨ab, ac, aI, aJ, -⟩ := hO.k2 3 rfl
  have HO := Lib.hid hO
  clear hO
  go_wp2_with (first | (with_reducible refine Own.stay (fn := Tryd.f4) ?_) | (first | (go_at_call 16; go_in) | (go_at_call 24; go_in) | (go_at_call 15; go_in)))
  try with_reducible refine Own.Stay.mk ?_
  have hO := HO.out
  clear HO aC aD aA aB ab ac aI aJ
  go_roundg gq
  case measure => omega
  case rel => exact ⟨j + 1, by omega, by first | rfl | simp, hO.sub [0, 4, 5, 1, 2, 3] dc⟩
 obtain rfl : gk = 0 := by omega
 obtain rfl : nd = j := by omega
 have hlt9 : ¬ (nd : Int) < (nd : Int) := by omega
 obtain ⟨ix9, hix9, hax9, hjx9⟩ := hO.ix
 have aK := hjx9 0 _ _ rfl
 have aL := hjx9 1 _ _ rfl
 have aM := hjx9 2 _ _ rfl
 have aN := hjx9 3 _ _ rfl
 have aO := hjx9 4 _ _ rfl
 have aP := hjx9 5 _ _ rfl
 clear hjx9
 obtain ⟨aC, aD, aA, aB, aS⟩ := hO.k2 0 rfl
 have aT := hO.cell 1 rfl 106 hk
 have aU := hO.lt 1 rfl
 have aV := hO.free 1 rfl
 have aQ := hO.cell 3 rfl 3 hds
 have aI := hO.lt 3 rfl
 have aJ := hO.free 3 rfl
 obtain ⟨aE, aF, aG, aH, aR⟩ := hO.k2 5 rfl
 have HO := Lib.hid hO
 clear hO
 go_wp2_with (first | (with_reducible refine Own.stay (fn := Tryd.f4) ?_) | (first | (go_at_call 16; go_in) | (go_at_call 24; go_in) | (go_at_call 15; go_in)))
 try with_reducible refine Own.Stay.mk ?_
 have hO := HO.out
 clear HO hix9 hax9 aK aL aM aN aO aP ix9 aC aD aA aB aS aT aU aV aQ aI aJ aE aF aG aH aR
 obtain ⟨HL, HX⟩ := hid2 hO
 have hP9 := hO.pick [1, 2] dc
 have h9_hn : ss.length = ns := hns
 have h9_hnb : ns ≤ 2000000 := (by omega)
 have h9_hnm9 : ∃ y : Sy, ss[0]? = some y ∧ y.nm = nm := (H9hS.out 0 (by omega) (by omega))
 have T9 := symName pb PC sb2 c2 ss ns 0 0 nm _ _ _ hP9 hk h9_hn h9_hnb h9_hnm9
 refine Calls.mono T9 ?_
 clear hP9 T9 h9_hn h9_hnb h9_hnm9
 rintro e uw2 ⟨rfl, hQ⟩
 replace hO : Own w0 uw2 [row (pb) 252 PC, row (sb2) 260 (full symZ (symL ss) c2), row (orf) 31 #[vU 0, vU 0], row (pt) 107 QC, row (db) 113 (full dsyZ DL cd), row (rt) 31 #[vU 0, vU 1]] X := hQ.back HL.out HX.out [0, 3, 4, 5] dc dc
 clear hQ HL HX
 obtain ⟨ix9, hix9, hax9, hjx9⟩ := hO.ix
 have aK := hjx9 0 _ _ rfl
 have aL := hjx9 1 _ _ rfl
 have aM := hjx9 2 _ _ rfl
 have aN := hjx9 3 _ _ rfl
 have aO := hjx9 4 _ _ rfl
 have aP := hjx9 5 _ _ rfl
 clear hjx9
 have ad := hO.cell 0 rfl 106 hk
 have aA := hO.lt 0 rfl
 have aB := hO.free 0 rfl
 obtain ⟨ae, af, ag, ah, ai⟩ := hO.k2 2 rfl
 have aQ := hO.cell 3 rfl 3 hds
 have aI := hO.lt 3 rfl
 have aJ := hO.free 3 rfl
 obtain ⟨aE, aF, aG, aH, aR⟩ := hO.k2 5 rfl
 have HO := Lib.hid hO
 clear hO
 go_wp2_with (first | (with_reducible refine Own.stay (fn := Tryd.f4) ?_) | (first | (go_at_call 16; go_in) | (go_at_call 24; go_in) | (go_at_call 15; go_in)))
 try with_reducible refine Own.Stay.mk ?_
 have hO := HO.out
 clear HO hix9 hax9 aK aL aM aN aO aP ix9 ad aA aB ae af ag ah ai aQ aI aJ aE aF aG aH aR
 exact HP.out _ (hO.sub [] dc)
end Go.Proofs.YtikopplofkemlaaDoor.Use
namespace Go.Proofs.YtikopplofkemlaaDoor.Use
open Go.ChangeShapes Go.WideShapes Go.ChangeAt Go.RowKit Go.Sort Own
set_option linter.unusedVariables false
set_option maxRecDepth 100000 in
set_option maxHeartbeats 4000000 in
theorem tl430 (pb : Nat) (nm : ByteArray) (pt cs ini dbx ib bx : Nat) (lv : Int) (orf qb qc lb ld li la yb sb2 c2 gb2 cg2 db cd kb : Nat) (clv : Value) (PC QC KC : Array Value) {A0 A1 A2 A3 A4 A5 A6 A7 A8 A9 AA AB AC AD AE AF AG AH AI AJ AK AL AM AN AO AP AQ AR AS AT AU AV AW AX AY AZ B0 B1 B2 B3 B4 B5 B6 B7 B8 B9 BA BB BC BD BE BF BG BH BI BJ BK BL BM BN BO BP BQ BR BS BT BU BV BW BX BY BZ C0 C1 C2 C3 C4 C5 C6 C7 C8 C9 CA CB CC CD CE CF CG CH CI CJ CK CL CM CN CO CP CQ CR CS CT CU CV CW CX CY CZ E0 E1 E2 E3 E4 E5 E6 E7 E8 E9 EA EB EC ED EE EF EG EH EI EJ EK EL EM EN EO EP EQ ER ES ET EU EV EW EX EY EZ F0 F1 F2 F3 F4 F5 F6 F7 F8 F9 FA FB FC FD FE FF FG FH FI FJ FK FL FM FN FO FP FQ FR FS FT FU FV FW FX FY FZ G0 G1 G2 G3 G4 G5 G6 G7 G8 G9 GA GB GC GD GE GF GG GH GI GJ GK GL GM GN GO GP GQ GR GS GT GU GV GW GX GY GZ I0 I1 I2 I3 I4 I5 I6 I7 I8 I9 IA IB IC ID IE IF IG IH II IJ IK IL IM IN IO IP IQ IR IS IT IU IV IW IX IY IZ J0 J1 J2 J3 J4 J5 J6 J7 J8 J9 JA JB JC JD JE JF JG JH JI JJ JK JL JM JN JO JP JQ JR JS JT JU JV JW JX JY JZ M0 M1 M2 M3 M4 M5 M6 M7 M8 M9 MA MB MC MD ME MF MG MH MI MJ MK ML MM MN MO MP MQ MR MS MT MU MV MW MX MY MZ N0 N1 N2 N3 N4 N5 N6 N7 N8 N9 NA NB NC : Value} (w0 w : World) (X : Nat → Obj → Prop) (Post : Ending → World → Prop) (hP : ∀ w3, Own w0 w3 [] X → Post (.returned (.bool true)) w3) (hO : Own w0 w [row (orf) 31 #[vU 0, vU 0], row (qb) 61 (full stmZ [vF 42 lb, vI 5, vF 67 yb, vI 5] qc), row (lb) 57 #[vS ld 1 1, v8 0, bF, bF], row (ld) 54 #[vF 134 li, vI 5, vF 315 la, vI 5], row (li) 136 #[vU 0, vU 2], row (pb) 252 PC, row (sb2) 260 (full symZ (symL (bump (stF0 ([sy nm 0, sy (un nm) 0, sy ⟨#[95, 115, 116, 97, 99, 107]⟩ 1, sy ⟨#[95, 95, 117, 115, 105, 110, 103]⟩ 1]) 2 4) 4)) c2), row (pt) 107 QC, row (cs) 99 KC, row (gb2) 31 (full refZ ([vU 0, vU 1, vU 0, vU 2, vU 0, vU 4, vU 0, vU 5, vU 0, vU 6]) cg2), row (db) 113 (full dsyZ [vU 0, vU 2, bF, vU 0, vU 4, bF, vU 0, vU 5, bF, vU 0, vU 6, bF] cd), row (ini) 57 #[vS dbx 1 1, v8 0, bF, bF], row (ib) 136 #[vU 0, vU 1], row (kb) 72 #[vS qb 2 (2 + qc), clv], row (dbx) 54 #[vF 134 ib, vI 3, .nilIface, vI 0], row (bx) 61 #[vF 110 kb, vI lv]] X) (hk106 : PC[106]? = some (vS sb2 8 (8 + c2))) (hcg : KC[5]? = some (vS gb2 5 (5 + cg2))) (hds : QC[3]? = some (vS db 4 (4 + cd))) :
  Code.wp Tryd.prog rest43 (bodyPost Tryd.prog Tryd.f4 Post) ⟨#[.string nm, A0, A1, bF, A2, A3, A4, A5, A6, vP pb, vP cs, vP orf, vP ini, vP bx, A7, vP pt, v6 0, v6 0, A8, A9, AA, AB, AC, AD, AE, AF, AG, AH, AI, AJ, AK, AL, AM, AN, AO, AP, AQ, AR, AS, AT, AU, AV, AW, AX, AY, AZ, B0, B1, B2, B3, B4, B5, B6, B7, B8, B9, BA, BB, BC, BD, BE, BF, BG, BH, BI, BJ, BK, BL, BM, BN, BO, BP, BQ, BR, BS, BT, BU, BV, BW, BX, BY, BZ, C0, C1, C2, C3, C4, C5, C6, C7, C8, C9, CA, CB, CC, CD, CE, CF, CG, CH, CI, CJ, CK, CL, CM, CN, CO, CP, CQ, CR, CS, CT, CU, CV, CW, CX, CY, CZ, E0, E1, E2, E3, E4, E5, E6, E7, E8, E9, EA, EB, EC, ED, EE, EF, EG, EH, EI, EJ, EK, EL, EM, EN, EO, EP, EQ, ER, ES, ET, EU, EV, EW, EX, EY, EZ, F0, F1, F2, F3, F4, F5, F6, F7, F8, F9, FA, FB, FC, FD, FE, FF, FG, FH, FI, FJ, FK, FL, FM, FN, FO, FP, FQ, FR, FS, FT, FU, FV, FW, FX, FY, FZ, G0, G1, G2, G3, G4, G5, G6, G7, G8, G9, GA, GB, GC, GD, GE, GF, GG, GH, GI, GJ, GK, GL, GM, GN, GO, GP, GQ, GR, GS, GT, GU, GV, GW, GX, GY, GZ, I0, I1, I2, I3, I4, I5, I6, I7, I8, I9, IA, IB, IC, ID, IE, IF, IG, IH, II, IJ, IK, IL, IM, IN, IO, IP, IQ, IR, IS, IT, IU, IV, IW, IX, IY, IZ, J0, J1, J2, J3, J4, J5, J6, J7, J8, J9, JA, JB, JC, JD, JE, JF, JG, JH, JI, JJ, JK, JL, JM, JN, JO, JP, JQ, JR, JS, JT, JU, JV, JW, JX, JY, JZ, M0, M1, M2, M3, M4, M5, M6, M7, M8, M9, MA, MB, MC, MD, ME, MF, MG, MH, MI, MJ, MK, ML, MM, MN, MO, MP, MQ, MR, MS, MT, MU, MV, MW, MX, MY, MZ, N0, N1, N2, N3, N4, N5, N6, N7, N8, N9, NA, NB, NC], []⟩ w := by
 have hA : (false = false ∧ 5 = 5 ∧ 4 = 4) ∨ (false = true ∧ 5 = 7 ∧ 4 = 5) := by simp
 have hG : ∀ q : Nat, q < 2 → ([vU 0, vU 1, vU 0, vU 2, vU 0, vU 4, vU 0, vU 5, vU 0, vU 6] : List Value)[q * 2]? = some (vU 0) ∧ ([vU 0, vU 1, vU 0, vU 2, vU 0, vU 4, vU 0, vU 5, vU 0, vU 6] : List Value)[q * 2 + 1]? = some (vU ((q : Int) + 1)) := by
  intro q hq
  have h9 : q = 0 ∨ q = 1 := by omega
  rcases h9 with rfl | rfl
  ·exact ⟨rfl, rfl⟩
  ·exact ⟨rfl, rfl⟩
 have hD : ([vU 0, vU 2, bF, vU 0, vU 4, bF, vU 0, vU 5, bF, vU 0, vU 6, bF] : List Value)[0]? = some (vU 0) ∧ ([vU 0, vU 2, bF, vU 0, vU 4, bF, vU 0, vU 5, bF, vU 0, vU 6, bF] : List Value)[1]? = some (vU 2) := ⟨rfl, rfl⟩
 have hGD : ∀ j : Nat, j < 3 → ([vU 0, vU 1, vU 0, vU 2, vU 0, vU 4, vU 0, vU 5, vU 0, vU 6] : List Value)[(2 + j) * 2]? = some (vU 0) ∧ ([vU 0, vU 1, vU 0, vU 2, vU 0, vU 4, vU 0, vU 5, vU 0, vU 6] : List Value)[(2 + j) * 2 + 1]? = some (vU ((j : Int) + 4)) ∧ ([vU 0, vU 2, bF, vU 0, vU 4, bF, vU 0, vU 5, bF, vU 0, vU 6, bF] : List Value)[(1 + j) * 3]? = some (vU 0) ∧ ([vU 0, vU 2, bF, vU 0, vU 4, bF, vU 0, vU 5, bF, vU 0, vU 6, bF] : List Value)[(1 + j) * 3 + 1]? = some (vU ((j : Int) + 4)) := by
  intro j hj
  have h9 : j = 0 ∨ j = 1 ∨ j = 2 := by omega
  rcases h9 with rfl | rfl | rfl
  ·exact ⟨rfl, rfl, rfl, rfl⟩
  ·exact ⟨rfl, rfl, rfl, rfl⟩
  ·exact ⟨rfl, rfl, rfl, rfl⟩
 have hPP : false = true → ([vU 0, vU 1, vU 0, vU 2, vU 0, vU 4, vU 0, vU 5, vU 0, vU 6] : List Value)[10]? = some (vU 0) ∧ ([vU 0, vU 1, vU 0, vU 2, vU 0, vU 4, vU 0, vU 5, vU 0, vU 6] : List Value)[11]? = some (vU 8) ∧ ([vU 0, vU 1, vU 0, vU 2, vU 0, vU 4, vU 0, vU 5, vU 0, vU 6] : List Value)[12]? = some (vU 0) ∧ ([vU 0, vU 1, vU 0, vU 2, vU 0, vU 4, vU 0, vU 5, vU 0, vU 6] : List Value)[13]? = some (vU 8) ∧ ([vU 0, vU 2, bF, vU 0, vU 4, bF, vU 0, vU 5, bF, vU 0, vU 6, bF] : List Value)[12]? = some (vU 0) ∧ ([vU 0, vU 2, bF, vU 0, vU 4, bF, vU 0, vU 5, bF, vU 0, vU 6, bF] : List Value)[13]? = some (vU 8) := fun h => by cases h
 have hns : (bump (stF0 ([sy nm 0, sy (un nm) 0, sy ⟨#[95, 115, 116, 97, 99, 107]⟩ 1, sy ⟨#[95, 95, 117, 115, 105, 110, 103]⟩ 1]) 2 4) 4).length = 8 := rfl
 have hS : ∀ q : Nat, q < 9 → (q = 8 → false = true) → ∃ y : Sy, (bump (stF0 ([sy nm 0, sy (un nm) 0, sy ⟨#[95, 115, 116, 97, 99, 107]⟩ 1, sy ⟨#[95, 95, 117, 115, 105, 110, 103]⟩ 1]) 2 4) 4)[q]? = some y ∧ y.nm = nmG nm q := by
  intro q hq h8
  have h9 : q = 0 ∨ q = 1 ∨ q = 2 ∨ q = 3 ∨ q = 4 ∨ q = 5 ∨ q = 6 ∨ q = 7 ∨ q = 8 := by omega
  rcases h9 with rfl | rfl | rfl | rfl | rfl | rfl | rfl | rfl | rfl
  ·exact ⟨_, rfl, rfl⟩
  ·exact ⟨_, rfl, rfl⟩
  ·exact ⟨_, rfl, rfl⟩
  ·exact ⟨_, rfl, rfl⟩
  ·exact ⟨_, rfl, rfl⟩
  ·exact ⟨_, rfl, rfl⟩
  ·exact ⟨_, rfl, rfl⟩
  ·exact ⟨_, rfl, rfl⟩
  ·exact absurd (h8 rfl) dc
 have hDL : ∀ j : Nat, j < 4 → ∃ x : Int, ([vU 0, vU 2, bF, vU 0, vU 4, bF, vU 0, vU 5, bF, vU 0, vU 6, bF] : List Value)[j * 3]? = some (vU 0) ∧ ([vU 0, vU 2, bF, vU 0, vU 4, bF, vU 0, vU 5, bF, vU 0, vU 6, bF] : List Value)[j * 3 + 1]? = some (vU x) ∧ ([vU 0, vU 2, bF, vU 0, vU 4, bF, vU 0, vU 5, bF, vU 0, vU 6, bF] : List Value)[j * 3 + 2]? = some (bF) ∧ ¬ x = 0 ∧ ¬ x = 1 := by
  intro j hj
  have h9 : j = 0 ∨ j = 1 ∨ j = 2 ∨ j = 3 := by omega
  rcases h9 with rfl | rfl | rfl | rfl
  ·exact ⟨_, rfl, rfl, rfl, by decide, by decide⟩
  ·exact ⟨_, rfl, rfl, rfl, by decide, by decide⟩
  ·exact ⟨_, rfl, rfl, rfl, by decide, by decide⟩
  ·exact ⟨_, rfl, rfl, rfl, by decide, by decide⟩
 refine tg43a nm false (bump (stF0 ([sy nm 0, sy (un nm) 0, sy ⟨#[95, 115, 116, 97, 99, 107]⟩ 1, sy ⟨#[95, 95, 117, 115, 105, 110, 103]⟩ 1]) 2 4) 4) ([vU 0, vU 1, vU 0, vU 2, vU 0, vU 4, vU 0, vU 5, vU 0, vU 6] : List Value) ([vU 0, vU 2, bF, vU 0, vU 4, bF, vU 0, vU 5, bF, vU 0, vU 6, bF] : List Value) pb PC sb2 c2 pt QC cs KC gb2 cg2 db cd orf ini dbx ib bx lv qb qc lb ld li la yb kb clv 5 4 w0 w X _ ?_ hO 
 exact tg43b nm false 5 4 _ _ _ pb PC sb2 c2 pt QC cs KC gb2 cg2 db cd orf w0 X _ (fun rt rs => (tg43c nm false 5 4 _ _ _ pb PC sb2 c2 pt QC cs KC gb2 cg2 db cd orf _ _ w0 X _ (tg43d nm false 5 4 _ _ _ pb PC sb2 c2 pt QC cs KC gb2 cg2 db cd orf _ _ 8 w0 X _ (tg43e nm false 5 4 8 _ _ _ pb PC sb2 c2 pt QC cs KC gb2 cg2 db cd orf _ _ w0 X _ (tg43f nm false 5 4 8 _ _ pb PC sb2 c2 pt QC db cd orf _ w0 X Post hP hk106 hds hA hns (by omega) hS hDL) hk106 hcg hds hA hns (by omega) hGD hPP hS) hcg hds hA hGD) hcg hds hA hG hD)) hA
end Go.Proofs.YtikopplofkemlaaDoor.Use
namespace Go.Proofs.YtikopplofkemlaaDoor.Use
open Go.ChangeShapes Go.WideShapes Go.ChangeAt Go.RowKit Go.Sort Own
set_option linter.unusedVariables false
set_option maxRecDepth 100000 in
set_option maxHeartbeats 4000000 in
theorem tl431 (pb : Nat) (nm : ByteArray) (pt cs ini dbx ib bx : Nat) (lv : Int) (orf qb qc lb ld li la yb sb2 c2 gb2 cg2 db cd kb : Nat) (clv : Value) (PC QC KC : Array Value) {A0 A1 A2 A3 A4 A5 A6 A7 A8 A9 AA AB AC AD AE AF AG AH AI AJ AK AL AM AN AO AP AQ AR AS AT AU AV AW AX AY AZ B0 B1 B2 B3 B4 B5 B6 B7 B8 B9 BA BB BC BD BE BF BG BH BI BJ BK BL BM BN BO BP BQ BR BS BT BU BV BW BX BY BZ C0 C1 C2 C3 C4 C5 C6 C7 C8 C9 CA CB CC CD CE CF CG CH CI CJ CK CL CM CN CO CP CQ CR CS CT CU CV CW CX CY CZ E0 E1 E2 E3 E4 E5 E6 E7 E8 E9 EA EB EC ED EE EF EG EH EI EJ EK EL EM EN EO EP EQ ER ES ET EU EV EW EX EY EZ F0 F1 F2 F3 F4 F5 F6 F7 F8 F9 FA FB FC FD FE FF FG FH FI FJ FK FL FM FN FO FP FQ FR FS FT FU FV FW FX FY FZ G0 G1 G2 G3 G4 G5 G6 G7 G8 G9 GA GB GC GD GE GF GG GH GI GJ GK GL GM GN GO GP GQ GR GS GT GU GV GW GX GY GZ I0 I1 I2 I3 I4 I5 I6 I7 I8 I9 IA IB IC ID IE IF IG IH II IJ IK IL IM IN IO IP IQ IR IS IT IU IV IW IX IY IZ J0 J1 J2 J3 J4 J5 J6 J7 J8 J9 JA JB JC JD JE JF JG JH JI JJ JK JL JM JN JO JP JQ JR JS JT JU JV JW JX JY JZ M0 M1 M2 M3 M4 M5 M6 M7 M8 M9 MA MB MC MD ME MF MG MH MI MJ MK ML MM MN MO MP MQ MR MS MT MU MV MW MX MY MZ N0 N1 N2 N3 N4 N5 N6 N7 N8 N9 NA NB NC : Value} (w0 w : World) (X : Nat → Obj → Prop) (Post : Ending → World → Prop) (hP : ∀ w3, Own w0 w3 [] X → Post (.returned (.bool true)) w3) (hO : Own w0 w [row (orf) 31 #[vU 0, vU 0], row (qb) 61 (full stmZ [vF 42 lb, vI 5, vF 67 yb, vI 5] qc), row (lb) 57 #[vS ld 1 1, v8 0, bF, bF], row (ld) 54 #[vF 134 li, vI 5, vF 315 la, vI 5], row (li) 136 #[vU 0, vU 2], row (pb) 252 PC, row (sb2) 260 (full symZ (symL (bump (stF1 ([sy nm 0, sy (un nm) 0, sy ⟨#[95, 115, 116, 97, 99, 107]⟩ 1, sy ⟨#[95, 95, 117, 115, 105, 110, 103]⟩ 1]) 2 4) 4)) c2), row (pt) 107 QC, row (cs) 99 KC, row (gb2) 31 (full refZ ([vU 0, vU 1, vU 0, vU 2, vU 0, vU 4, vU 0, vU 5, vU 0, vU 6, vU 0, vU 8, vU 0, vU 8]) cg2), row (db) 113 (full dsyZ [vU 0, vU 2, bF, vU 0, vU 4, bF, vU 0, vU 5, bF, vU 0, vU 6, bF, vU 0, vU 8, bF] cd), row (ini) 57 #[vS dbx 1 1, v8 0, bF, bF], row (ib) 136 #[vU 0, vU 1], row (kb) 72 #[vS qb 2 (2 + qc), clv], row (dbx) 54 #[vF 134 ib, vI 3, .nilIface, vI 0], row (bx) 61 #[vF 110 kb, vI lv]] X) (hk106 : PC[106]? = some (vS sb2 9 (9 + c2))) (hcg : KC[5]? = some (vS gb2 7 (7 + cg2))) (hds : QC[3]? = some (vS db 5 (5 + cd))) :
  Code.wp Tryd.prog rest43 (bodyPost Tryd.prog Tryd.f4 Post) ⟨#[.string nm, A0, A1, .bool true, A2, A3, A4, A5, A6, vP pb, vP cs, vP orf, vP ini, vP bx, A7, vP pt, v6 0, v6 0, A8, A9, AA, AB, AC, AD, AE, AF, AG, AH, AI, AJ, AK, AL, AM, AN, AO, AP, AQ, AR, AS, AT, AU, AV, AW, AX, AY, AZ, B0, B1, B2, B3, B4, B5, B6, B7, B8, B9, BA, BB, BC, BD, BE, BF, BG, BH, BI, BJ, BK, BL, BM, BN, BO, BP, BQ, BR, BS, BT, BU, BV, BW, BX, BY, BZ, C0, C1, C2, C3, C4, C5, C6, C7, C8, C9, CA, CB, CC, CD, CE, CF, CG, CH, CI, CJ, CK, CL, CM, CN, CO, CP, CQ, CR, CS, CT, CU, CV, CW, CX, CY, CZ, E0, E1, E2, E3, E4, E5, E6, E7, E8, E9, EA, EB, EC, ED, EE, EF, EG, EH, EI, EJ, EK, EL, EM, EN, EO, EP, EQ, ER, ES, ET, EU, EV, EW, EX, EY, EZ, F0, F1, F2, F3, F4, F5, F6, F7, F8, F9, FA, FB, FC, FD, FE, FF, FG, FH, FI, FJ, FK, FL, FM, FN, FO, FP, FQ, FR, FS, FT, FU, FV, FW, FX, FY, FZ, G0, G1, G2, G3, G4, G5, G6, G7, G8, G9, GA, GB, GC, GD, GE, GF, GG, GH, GI, GJ, GK, GL, GM, GN, GO, GP, GQ, GR, GS, GT, GU, GV, GW, GX, GY, GZ, I0, I1, I2, I3, I4, I5, I6, I7, I8, I9, IA, IB, IC, ID, IE, IF, IG, IH, II, IJ, IK, IL, IM, IN, IO, IP, IQ, IR, IS, IT, IU, IV, IW, IX, IY, IZ, J0, J1, J2, J3, J4, J5, J6, J7, J8, J9, JA, JB, JC, JD, JE, JF, JG, JH, JI, JJ, JK, JL, JM, JN, JO, JP, JQ, JR, JS, JT, JU, JV, JW, JX, JY, JZ, M0, M1, M2, M3, M4, M5, M6, M7, M8, M9, MA, MB, MC, MD, ME, MF, MG, MH, MI, MJ, MK, ML, MM, MN, MO, MP, MQ, MR, MS, MT, MU, MV, MW, MX, MY, MZ, N0, N1, N2, N3, N4, N5, N6, N7, N8, N9, NA, NB, NC], []⟩ w := by
 have hA : (true = false ∧ 7 = 5 ∧ 5 = 4) ∨ (true = true ∧ 7 = 7 ∧ 5 = 5) := by simp
 have hG : ∀ q : Nat, q < 2 → ([vU 0, vU 1, vU 0, vU 2, vU 0, vU 4, vU 0, vU 5, vU 0, vU 6, vU 0, vU 8, vU 0, vU 8] : List Value)[q * 2]? = some (vU 0) ∧ ([vU 0, vU 1, vU 0, vU 2, vU 0, vU 4, vU 0, vU 5, vU 0, vU 6, vU 0, vU 8, vU 0, vU 8] : List Value)[q * 2 + 1]? = some (vU ((q : Int) + 1)) := by
  intro q hq
  have h9 : q = 0 ∨ q = 1 := by omega
  rcases h9 with rfl | rfl
  ·exact ⟨rfl, rfl⟩
  ·exact ⟨rfl, rfl⟩
 have hD : ([vU 0, vU 2, bF, vU 0, vU 4, bF, vU 0, vU 5, bF, vU 0, vU 6, bF, vU 0, vU 8, bF] : List Value)[0]? = some (vU 0) ∧ ([vU 0, vU 2, bF, vU 0, vU 4, bF, vU 0, vU 5, bF, vU 0, vU 6, bF, vU 0, vU 8, bF] : List Value)[1]? = some (vU 2) := ⟨rfl, rfl⟩
 have hGD : ∀ j : Nat, j < 3 → ([vU 0, vU 1, vU 0, vU 2, vU 0, vU 4, vU 0, vU 5, vU 0, vU 6, vU 0, vU 8, vU 0, vU 8] : List Value)[(2 + j) * 2]? = some (vU 0) ∧ ([vU 0, vU 1, vU 0, vU 2, vU 0, vU 4, vU 0, vU 5, vU 0, vU 6, vU 0, vU 8, vU 0, vU 8] : List Value)[(2 + j) * 2 + 1]? = some (vU ((j : Int) + 4)) ∧ ([vU 0, vU 2, bF, vU 0, vU 4, bF, vU 0, vU 5, bF, vU 0, vU 6, bF, vU 0, vU 8, bF] : List Value)[(1 + j) * 3]? = some (vU 0) ∧ ([vU 0, vU 2, bF, vU 0, vU 4, bF, vU 0, vU 5, bF, vU 0, vU 6, bF, vU 0, vU 8, bF] : List Value)[(1 + j) * 3 + 1]? = some (vU ((j : Int) + 4)) := by
  intro j hj
  have h9 : j = 0 ∨ j = 1 ∨ j = 2 := by omega
  rcases h9 with rfl | rfl | rfl
  ·exact ⟨rfl, rfl, rfl, rfl⟩
  ·exact ⟨rfl, rfl, rfl, rfl⟩
  ·exact ⟨rfl, rfl, rfl, rfl⟩
 have hPP : true = true → ([vU 0, vU 1, vU 0, vU 2, vU 0, vU 4, vU 0, vU 5, vU 0, vU 6, vU 0, vU 8, vU 0, vU 8] : List Value)[10]? = some (vU 0) ∧ ([vU 0, vU 1, vU 0, vU 2, vU 0, vU 4, vU 0, vU 5, vU 0, vU 6, vU 0, vU 8, vU 0, vU 8] : List Value)[11]? = some (vU 8) ∧ ([vU 0, vU 1, vU 0, vU 2, vU 0, vU 4, vU 0, vU 5, vU 0, vU 6, vU 0, vU 8, vU 0, vU 8] : List Value)[12]? = some (vU 0) ∧ ([vU 0, vU 1, vU 0, vU 2, vU 0, vU 4, vU 0, vU 5, vU 0, vU 6, vU 0, vU 8, vU 0, vU 8] : List Value)[13]? = some (vU 8) ∧ ([vU 0, vU 2, bF, vU 0, vU 4, bF, vU 0, vU 5, bF, vU 0, vU 6, bF, vU 0, vU 8, bF] : List Value)[12]? = some (vU 0) ∧ ([vU 0, vU 2, bF, vU 0, vU 4, bF, vU 0, vU 5, bF, vU 0, vU 6, bF, vU 0, vU 8, bF] : List Value)[13]? = some (vU 8) := fun _ => ⟨rfl, rfl, rfl, rfl, rfl, rfl⟩
 have hns : (bump (stF1 ([sy nm 0, sy (un nm) 0, sy ⟨#[95, 115, 116, 97, 99, 107]⟩ 1, sy ⟨#[95, 95, 117, 115, 105, 110, 103]⟩ 1]) 2 4) 4).length = 9 := rfl
 have hS : ∀ q : Nat, q < 9 → (q = 8 → true = true) → ∃ y : Sy, (bump (stF1 ([sy nm 0, sy (un nm) 0, sy ⟨#[95, 115, 116, 97, 99, 107]⟩ 1, sy ⟨#[95, 95, 117, 115, 105, 110, 103]⟩ 1]) 2 4) 4)[q]? = some y ∧ y.nm = nmG nm q := by
  intro q hq h8
  have h9 : q = 0 ∨ q = 1 ∨ q = 2 ∨ q = 3 ∨ q = 4 ∨ q = 5 ∨ q = 6 ∨ q = 7 ∨ q = 8 := by omega
  rcases h9 with rfl | rfl | rfl | rfl | rfl | rfl | rfl | rfl | rfl
  ·exact ⟨_, rfl, rfl⟩
  ·exact ⟨_, rfl, rfl⟩
  ·exact ⟨_, rfl, rfl⟩
  ·exact ⟨_, rfl, rfl⟩
  ·exact ⟨_, rfl, rfl⟩
  ·exact ⟨_, rfl, rfl⟩
  ·exact ⟨_, rfl, rfl⟩
  ·exact ⟨_, rfl, rfl⟩
  ·exact ⟨_, rfl, rfl⟩
 have hDL : ∀ j : Nat, j < 5 → ∃ x : Int, ([vU 0, vU 2, bF, vU 0, vU 4, bF, vU 0, vU 5, bF, vU 0, vU 6, bF, vU 0, vU 8, bF] : List Value)[j * 3]? = some (vU 0) ∧ ([vU 0, vU 2, bF, vU 0, vU 4, bF, vU 0, vU 5, bF, vU 0, vU 6, bF, vU 0, vU 8, bF] : List Value)[j * 3 + 1]? = some (vU x) ∧ ([vU 0, vU 2, bF, vU 0, vU 4, bF, vU 0, vU 5, bF, vU 0, vU 6, bF, vU 0, vU 8, bF] : List Value)[j * 3 + 2]? = some (bF) ∧ ¬ x = 0 ∧ ¬ x = 1 := by
  intro j hj
  have h9 : j = 0 ∨ j = 1 ∨ j = 2 ∨ j = 3 ∨ j = 4 := by omega
  rcases h9 with rfl | rfl | rfl | rfl | rfl
  ·exact ⟨_, rfl, rfl, rfl, by decide, by decide⟩
  ·exact ⟨_, rfl, rfl, rfl, by decide, by decide⟩
  ·exact ⟨_, rfl, rfl, rfl, by decide, by decide⟩
  ·exact ⟨_, rfl, rfl, rfl, by decide, by decide⟩
  ·exact ⟨_, rfl, rfl, rfl, by decide, by decide⟩
 refine tg43a nm true (bump (stF1 ([sy nm 0, sy (un nm) 0, sy ⟨#[95, 115, 116, 97, 99, 107]⟩ 1, sy ⟨#[95, 95, 117, 115, 105, 110, 103]⟩ 1]) 2 4) 4) ([vU 0, vU 1, vU 0, vU 2, vU 0, vU 4, vU 0, vU 5, vU 0, vU 6, vU 0, vU 8, vU 0, vU 8] : List Value) ([vU 0, vU 2, bF, vU 0, vU 4, bF, vU 0, vU 5, bF, vU 0, vU 6, bF, vU 0, vU 8, bF] : List Value) pb PC sb2 c2 pt QC cs KC gb2 cg2 db cd orf ini dbx ib bx lv qb qc lb ld li la yb kb clv 7 5 w0 w X _ ?_ hO 
 exact tg43b nm true 7 5 _ _ _ pb PC sb2 c2 pt QC cs KC gb2 cg2 db cd orf w0 X _ (fun rt rs => (tg43c nm true 7 5 _ _ _ pb PC sb2 c2 pt QC cs KC gb2 cg2 db cd orf _ _ w0 X _ (tg43d nm true 7 5 _ _ _ pb PC sb2 c2 pt QC cs KC gb2 cg2 db cd orf _ _ 9 w0 X _ (tg43e nm true 7 5 9 _ _ _ pb PC sb2 c2 pt QC cs KC gb2 cg2 db cd orf _ _ w0 X _ (tg43f nm true 7 5 9 _ _ pb PC sb2 c2 pt QC db cd orf _ w0 X Post hP hk106 hds hA hns (by omega) hS hDL) hk106 hcg hds hA hns (by omega) hGD hPP hS) hcg hds hA hGD) hcg hds hA hG hD)) hA
end Go.Proofs.YtikopplofkemlaaDoor.Use
