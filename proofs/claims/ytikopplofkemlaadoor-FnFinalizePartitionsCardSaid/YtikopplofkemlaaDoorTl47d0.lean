/- Row 47: what the law reads of the try statement, the scope and the part. No condition. -/
import Derived.Test.YtikopplofkemlaaDoorAbb
import Derived.Test.YtikopplofkemlaaDoorTl47c
import Derived.Test.YtikopplofkemlaaDoorLs47
import Derived.Test.YtikopplofkemlaaDoorMsc
import Derived.Test.YtikopplofkemlaaDoorEls
import Derived.Test.YtikopplofkemlaaDoorUmp
import Derived.Test.YtikopplofkemlaaDoorLive
import Derived.Test.YtikopplofkemlaaDoorLoop
import Derived.Test.YtikopplofkemlaaDoorUms
import Derived.Test.YtikopplofkemlaaDoorAppL
import Derived.Test.YtikopplofkemlaaDoorApp
import Derived.Test.YtikopplofkemlaaDoorOwnK
import Derived.Test.YtikopplofkemlaaDoorOwn
import Derived.Test.YtikopplofkemlaaDoorDeepCells
import Derived.Test.YtikopplofkemlaaDoorRows
import Derived.Test.YtikopplofkemlaaDoorUse
namespace Go.Proofs.YtikopplofkemlaaDoor.Use
open Go.ChangeShapes Go.WideShapes Go.ChangeAt Go.RowKit Go.Sort Own
set_option linter.unusedVariables false
noncomputable def rtl47d0i1E (n : Nat) (yb : Nat) (yc : Nat) (yf : Nat) (tb : Nat) (D : Dt) (hst : Bool) (il : Nat) (co2 : Nat) (j : Nat) (b : Nat) (oj : Nat) : Nat → Rega.Atoms → Value
 | 0, α => vP yb
 | 1, α => vP yb
 | 2, α => .pointer (some ⟨yb, 2, none⟩)
 | 3, α => .pointer (some ⟨yb, 2, none⟩)
 | 4, α => .slice (some ⟨tb, 0, none⟩) il n
 | 5, α => .int .i64 (j : Int)
 | 6, α => .pointer (some ⟨tb, j * 2, none⟩)
 | 7, α => .pointer (some ⟨tb, j * 2 + 1, none⟩)
 | 8, α => .pointer (some ⟨tb, j * 2 + 1, none⟩)
 | 9, α => vI ((oj : Int) + 1)
 | 10, α => .slice (some ⟨b, 0, none⟩) il co2
 | 11, α => .int .i64 (j : Int)
 | 12, α => .pointer (some ⟨b, j, none⟩)
 | 13, α => vI ((oj : Int) + 1)
 | 14, α => bF
 | _, _ => undef
noncomputable def rtl47d0i1Anc : Nat → List Nat
 | 1 => [0]
 | 2 => [0, 1]
 | 3 => [0, 1, 2]
 | 4 => [0, 1, 2, 3]
 | 6 => [0, 1, 2, 3, 4, 5]
 | 7 => [0, 1, 2, 3, 4, 5, 6]
 | 8 => [0, 1, 2, 3, 4, 5, 6, 7]
 | 9 => [0, 1, 2, 3, 4, 5, 6, 7, 8]
 | 12 => [10, 11]
 | 13 => [10, 11, 12]
 | 14 => [0, 1, 2, 3, 4, 5, 6, 7, 8, 9, 10, 11, 12, 13]
 | _ => []
noncomputable def rtl47d0i1Trn : Nat → List Nat
 | _ => []
noncomputable def rtl47d0i1Cnt : List (Nat × Nat) := []
noncomputable def rtl47d0i1R (n : Nat) (yb : Nat) (yc : Nat) (yf : Nat) (tb : Nat) (D : Dt) (hst : Bool) (il : Nat) (co2 : Nat) (j : Nat) (b : Nat) (oj : Nat) (L9 : Nat → Bool) (α : Rega.Atoms) (ix9 : Nat) : Rw := if ix9 = 999 then row (yb) 76 #[vP yc, vP yf, .slice (some ⟨tb, 0, none⟩) il n, vI 0, vI 7] else if ix9 = 1999 then row (tb) 61 (full stmZ (stL D (arrI D hst n n)) 0) else (0, .map #[] 0)
theorem rtl47d0i1_he (n : Nat) (yb : Nat) (yc : Nat) (yf : Nat) (tb : Nat) (D : Dt) (hst : Bool) (il : Nat) (co2 : Nat) (j : Nat) (b : Nat) (oj : Nat) : ∀ kk α α', (∀ j, (j % 1000 = kk ∨ j % 1000 ∈ rtl47d0i1Anc kk) → α j = α' j) → rtl47d0i1E n yb yc yf tb D hst il co2 j b oj kk α = rtl47d0i1E n yb yc yf tb D hst il co2 j b oj kk α' := by
 intro kk α α' h
 match kk with
 | 0 => rfl
 | 1 => rfl
 | 2 => rfl
 | 3 => rfl
 | 4 => rfl
 | 5 => rfl
 | 6 => rfl
 | 7 => rfl
 | 8 => rfl
 | 9 => rfl
 | 10 => rfl
 | 11 => rfl
 | 12 => rfl
 | 13 => rfl
 | 14 => rfl
 | n + 15 => rfl
theorem rtl47d0i1_st (n : Nat) (yb : Nat) (yc : Nat) (yf : Nat) (tb : Nat) (D : Dt) (hst : Bool) (il : Nat) (co2 : Nat) (j : Nat) (b : Nat) (oj : Nat) : Stable rtl47d0i1Cnt 2 rtl47d0i1Anc rtl47d0i1Trn (rtl47d0i1R n yb yc yf tb D hst il co2 j b oj) := by
 intro k9 L9 α α' ix9 hk hcl hα hact ht
 have hp := act_places hact
 replace hp : ix9 ∈ [999, 1999] := hp
 simp only [List.mem_cons, List.not_mem_nil, or_false] at hp
 rcases hp with rfl | rfl
 ·rfl
 ·rfl
noncomputable def rtl47d0c1E (kb : Nat) (cs : Nat) (gb2 : Nat) (cg2 : Nat) (src : Int) (g0 : Int) (g1 : Int) (g2 : Int) (g3 : Int) (KC2 : Array Value) : Nat → Rega.Atoms → Value
 | 0, α => vP cs
 | 1, α => vP cs
 | 2, α => .pointer (some ⟨cs, 5, none⟩)
 | 3, α => .slice (some ⟨gb2, 0, none⟩) 4 (4 + cg2)
 | 4, α => .int .i64 4
 | 5, α => .int .i64 0
 | 6, α => .int .i64 4
 | 7, α => bF
 | 8, α => bF
 | 9, α => vP cs
 | 10, α => vP cs
 | 11, α => .pointer (some ⟨cs, 5, none⟩)
 | 12, α => .slice (some ⟨gb2, 0, none⟩) 4 (4 + cg2)
 | 13, α => .int .i64 0
 | 14, α => vP gb2
 | 15, α => .agg #[vU src, vU g0]
 | 16, α => .agg #[vU src, vU g0]
 | 17, α => bF
 | 18, α => bF
 | _, _ => undef
noncomputable def rtl47d0c1Anc : Nat → List Nat
 | 1 => [0]
 | 2 => [0, 1]
 | 3 => [0, 1, 2]
 | 4 => [0, 1, 2, 3]
 | 6 => [5]
 | 7 => [0, 1, 2, 3, 4, 5, 6]
 | 8 => [0, 1, 2, 3, 4, 5, 6, 7]
 | 9 => [0, 1, 2, 3, 4, 5, 6, 7, 8]
 | 10 => [0, 1, 2, 3, 4, 5, 6, 7, 8, 9]
 | 11 => [0, 1, 2, 3, 4, 5, 6, 7, 8, 9, 10]
 | 12 => [0, 1, 2, 3, 4, 5, 6, 7, 8, 9, 10, 11]
 | 13 => [0, 1, 2, 3, 4, 5, 6, 7, 8]
 | 14 => [0, 1, 2, 3, 4, 5, 6, 7, 8, 9, 10, 11, 12, 13]
 | 15 => [0, 1, 2, 3, 4, 5, 6, 7, 8, 9, 10, 11, 12, 13, 14]
 | 16 => [0, 1, 2, 3, 4, 5, 6, 7, 8]
 | 17 => [0, 1, 2, 3, 4, 5, 6, 7, 8, 9, 10, 11, 12, 13, 14, 15, 16]
 | 18 => [0, 1, 2, 3, 4, 5, 6, 7, 8, 9, 10, 11, 12, 13, 14, 15, 16, 17]
 | _ => []
noncomputable def rtl47d0c1Trn : Nat → List Nat
 | _ => []
noncomputable def rtl47d0c1Cnt : List (Nat × Nat) := []
noncomputable def rtl47d0c1R (kb : Nat) (cs : Nat) (gb2 : Nat) (cg2 : Nat) (src : Int) (g0 : Int) (g1 : Int) (g2 : Int) (g3 : Int) (KC2 : Array Value) (L9 : Nat → Bool) (α : Rega.Atoms) (ix9 : Nat) : Rw := if ix9 = 999 then row (cs) 99 KC2 else if ix9 = 1999 then row (gb2) 31 (full refZ [vU src, vU g0, vU src, vU g1, vU src, vU g2, vU src, vU g3] cg2) else if ix9 = 2999 then row (kb) 31 #[vU src, vU g0] else (0, .map #[] 0)
theorem rtl47d0c1_he (kb : Nat) (cs : Nat) (gb2 : Nat) (cg2 : Nat) (src : Int) (g0 : Int) (g1 : Int) (g2 : Int) (g3 : Int) (KC2 : Array Value) : ∀ kk α α', (∀ j, (j % 1000 = kk ∨ j % 1000 ∈ rtl47d0c1Anc kk) → α j = α' j) → rtl47d0c1E kb cs gb2 cg2 src g0 g1 g2 g3 KC2 kk α = rtl47d0c1E kb cs gb2 cg2 src g0 g1 g2 g3 KC2 kk α' := by
 intro kk α α' h
 match kk with
 | 0 => rfl
 | 1 => rfl
 | 2 => rfl
 | 3 => rfl
 | 4 => rfl
 | 5 => rfl
 | 6 => rfl
 | 7 => rfl
 | 8 => rfl
 | 9 => rfl
 | 10 => rfl
 | 11 => rfl
 | 12 => rfl
 | 13 => rfl
 | 14 => rfl
 | 15 => rfl
 | 16 => rfl
 | 17 => rfl
 | 18 => rfl
 | n + 19 => rfl
theorem rtl47d0c1_st (kb : Nat) (cs : Nat) (gb2 : Nat) (cg2 : Nat) (src : Int) (g0 : Int) (g1 : Int) (g2 : Int) (g3 : Int) (KC2 : Array Value) : Stable rtl47d0c1Cnt 3 rtl47d0c1Anc rtl47d0c1Trn (rtl47d0c1R kb cs gb2 cg2 src g0 g1 g2 g3 KC2) := by
 intro k9 L9 α α' ix9 hk hcl hα hact ht
 have hp := act_places hact
 replace hp : ix9 ∈ [999, 1999, 2999] := hp
 simp only [List.mem_cons, List.not_mem_nil, or_false] at hp
 rcases hp with rfl | rfl | rfl
 ·rfl
 ·rfl
 ·rfl
noncomputable def rtl47d0c2E (kb : Nat) (pt : Nat) (db : Nat) (cd : Nat) (src : Int) (g0 : Int) (d1 : Int) (d2 : Int) (d3 : Int) (QC2 : Array Value) : Nat → Rega.Atoms → Value
 | 0, α => vP pt
 | 1, α => vP pt
 | 2, α => .pointer (some ⟨pt, 3, none⟩)
 | 3, α => .slice (some ⟨db, 0, none⟩) 4 (4 + cd)
 | 4, α => .int .i64 4
 | 5, α => .int .i64 0
 | 6, α => .int .i64 4
 | 7, α => .int .i64 4
 | 8, α => bF
 | 9, α => bF
 | 10, α => vP pt
 | 11, α => vP pt
 | 12, α => .pointer (some ⟨pt, 3, none⟩)
 | 13, α => .slice (some ⟨db, 0, none⟩) 4 (4 + cd)
 | 14, α => .int .i64 0
 | 15, α => vP db
 | 16, α => vP db
 | 17, α => .agg #[vU src, vU g0]
 | 18, α => .agg #[vU src, vU g0]
 | 19, α => bF
 | 20, α => bF
 | _, _ => undef
noncomputable def rtl47d0c2Anc : Nat → List Nat
 | 1 => [0]
 | 2 => [0, 1]
 | 3 => [0, 1, 2]
 | 4 => [0, 1, 2, 3]
 | 7 => [5, 6]
 | 8 => [0, 1, 2, 3, 4, 5, 6, 7]
 | 9 => [0, 1, 2, 3, 4, 5, 6, 7, 8]
 | 10 => [0, 1, 2, 3, 4, 5, 6, 7, 8, 9]
 | 11 => [0, 1, 2, 3, 4, 5, 6, 7, 8, 9, 10]
 | 12 => [0, 1, 2, 3, 4, 5, 6, 7, 8, 9, 10, 11]
 | 13 => [0, 1, 2, 3, 4, 5, 6, 7, 8, 9, 10, 11, 12]
 | 14 => [0, 1, 2, 3, 4, 5, 6, 7, 8, 9]
 | 15 => [0, 1, 2, 3, 4, 5, 6, 7, 8, 9, 10, 11, 12, 13, 14]
 | 16 => [0, 1, 2, 3, 4, 5, 6, 7, 8, 9, 10, 11, 12, 13, 14, 15]
 | 17 => [0, 1, 2, 3, 4, 5, 6, 7, 8, 9, 10, 11, 12, 13, 14, 15, 16]
 | 18 => [0, 1, 2, 3, 4, 5, 6, 7, 8, 9]
 | 19 => [0, 1, 2, 3, 4, 5, 6, 7, 8, 9, 10, 11, 12, 13, 14, 15, 16, 17, 18]
 | 20 => [0, 1, 2, 3, 4, 5, 6, 7, 8, 9, 10, 11, 12, 13, 14, 15, 16, 17, 18, 19]
 | _ => []
noncomputable def rtl47d0c2Trn : Nat → List Nat
 | _ => []
noncomputable def rtl47d0c2Cnt : List (Nat × Nat) := []
noncomputable def rtl47d0c2R (kb : Nat) (pt : Nat) (db : Nat) (cd : Nat) (src : Int) (g0 : Int) (d1 : Int) (d2 : Int) (d3 : Int) (QC2 : Array Value) (L9 : Nat → Bool) (α : Rega.Atoms) (ix9 : Nat) : Rw := if ix9 = 999 then row (kb) 31 #[vU src, vU g0] else if ix9 = 1999 then row (pt) 107 QC2 else if ix9 = 2999 then row (db) 113 (full dsyZ [vU src, vU g0, bF, vU src, vU d1, bF, vU src, vU d2, bF, vU src, vU d3, bF] cd) else (0, .map #[] 0)
theorem rtl47d0c2_he (kb : Nat) (pt : Nat) (db : Nat) (cd : Nat) (src : Int) (g0 : Int) (d1 : Int) (d2 : Int) (d3 : Int) (QC2 : Array Value) : ∀ kk α α', (∀ j, (j % 1000 = kk ∨ j % 1000 ∈ rtl47d0c2Anc kk) → α j = α' j) → rtl47d0c2E kb pt db cd src g0 d1 d2 d3 QC2 kk α = rtl47d0c2E kb pt db cd src g0 d1 d2 d3 QC2 kk α' := by
 intro kk α α' h
 match kk with
 | 0 => rfl
 | 1 => rfl
 | 2 => rfl
 | 3 => rfl
 | 4 => rfl
 | 5 => rfl
 | 6 => rfl
 | 7 => rfl
 | 8 => rfl
 | 9 => rfl
 | 10 => rfl
 | 11 => rfl
 | 12 => rfl
 | 13 => rfl
 | 14 => rfl
 | 15 => rfl
 | 16 => rfl
 | 17 => rfl
 | 18 => rfl
 | 19 => rfl
 | 20 => rfl
 | n + 21 => rfl
theorem rtl47d0c2_st (kb : Nat) (pt : Nat) (db : Nat) (cd : Nat) (src : Int) (g0 : Int) (d1 : Int) (d2 : Int) (d3 : Int) (QC2 : Array Value) : Stable rtl47d0c2Cnt 3 rtl47d0c2Anc rtl47d0c2Trn (rtl47d0c2R kb pt db cd src g0 d1 d2 d3 QC2) := by
 intro k9 L9 α α' ix9 hk hcl hα hact ht
 have hp := act_places hact
 replace hp : ix9 ∈ [999, 1999, 2999] := hp
 simp only [List.mem_cons, List.not_mem_nil, or_false] at hp
 rcases hp with rfl | rfl | rfl
 ·rfl
 ·rfl
 ·rfl

set_option maxRecDepth 100000 in
set_option maxHeartbeats 4000000 in
theorem tl47d0 (n yb yc yf fb kb pt cs gb2 cg2 db cd tb : Nat) (D : Dt) (hst : Bool) (src g0 g1 g2 g3 d1 d2 d3 : Int) (KC2 QC2 : Array Value) (sa so2 : Option Addr) (il co2 : Nat) (A0 A1 A2 A3 A4 A5 A6 A7 A8 A9 AA AB AC AD AE AF AG AH AI AJ AK AL AM AN AO AP AQ AR AS AT AU AV AW AX AY AZ B0 B1 B2 B3 B4 B5 B6 B7 B8 B9 BA BB BC BD BE BF BG BH BI BJ BK BL BM BN BO BP BQ BR BS BT BU BV BW BX BY BZ C0 C1 C2 C3 C4 C5 C6 C7 C8 C9 CA CB CC CD CE CF CG CH CI CJ CK CL CM CN CO CP CQ CR CS CT CU CV CW CX CY CZ E0 E1 E2 E3 E4 E5 E6 E7 E8 E9 EA EB EC ED EE EF EG EH EI EJ EK EL EM EN EO EP EQ ER ES ET EU EV EW EX EY EZ F0 F1 F2 F3 F4 F5 F6 F7 F8 F9 FA FB FC FD FE FF FG FH FI FJ FK FL FM FN FO FP FQ FR FS FT FU FV FW FX FY FZ G0 G1 G2 G3 G4 G5 G6 G7 G8 G9 GA GB GC GD GE GF GG GH GI GJ GK GL GM GN GO GP GQ GR GS GT GU GV GW GX GY GZ I0 I1 I2 I3 I4 I5 I6 I7 I8 I9 IA IB IC ID IE IF IG IH II IJ IK IL IM IN IO IP IQ IR IS IT IU IV IW IX IY IZ J0 J1 J2 J3 J4 J5 J6 J7 J8 J9 JA JB JC JD JE JF JG JH JI JJ JK JL JM JN JO JP JQ JR JS JT JU JV JW JX JY JZ M0 M1 M2 M3 M4 M5 M6 M7 M8 M9 MA MB MC MD ME MF MG MH MI MJ MK ML MM MN MO MP MQ MR MS MT MU MV MW MX MY MZ N0 N1 N2 N3 N4 N5 N6 N7 N8 N9 NA NB NC : Value) (w0 w : World) (X : Nat → Obj → Prop) (Post : Ending → World → Prop) (hP : ∀ w2 : World, Own w0 w2 [] X → Post (.returned (.bool true)) w2) (hO : Own w0 w [row (yb) 76 #[vP yc, vP yf, .slice sa il n, vI 0, vI 7], row (yf) 116 #[.slice (some ⟨fb, 0, none⟩) 1 1, vI 0, vI 7], row (tb) 61 (full stmZ (stL D (arrI D hst n n)) 0), row (pt) 107 QC2, row (cs) 99 KC2, row (gb2) 31 (full refZ [vU src, vU g0, vU src, vU g1, vU src, vU g2, vU src, vU g3] cg2), row (db) 113 (full dsyZ [vU src, vU g0, bF, vU src, vU d1, bF, vU src, vU d2, bF, vU src, vU d3, bF] cd), row (kb) 31 #[vU src, vU g0]] X) (hn4 : n ≤ 4096) (hDl : D.lc = (fun j : Nat => (j : Int) + 1)) (hil : il = (ins D hst n).length) (hsa : 0 < il → sa = some ⟨tb, 0, none⟩) (hso2 : 0 < il → ∃ b c : Nat, so2 = some ⟨b, 0, none⟩ ∧ X b (.cells (full i32Z (iL (ins D hst n)) c) 21 (0, 0))) (hm5 : KC2[5]? = some (.slice (some ⟨gb2, 0, none⟩) 4 (4 + cg2))) (hq3 : QC2[3]? = some (.slice (some ⟨db, 0, none⟩) 4 (4 + cd))) :
  Code.wp Tryd.prog rest47c (bodyPost Tryd.prog Tryd.f6 Post) ⟨#[A0, A1, bF, A2, A3, A4, A5, A6, vP cs, A7, vP kb, A8, A9, AA, AB, vP pt, .int .i64 0, .int .i64 0, AC, AD, .slice so2 il co2, AE, AF, AG, AH, AI, AJ, vP yb, AK, AL, AM, AN, AO, AP, AQ, AR, AS, AT, AU, AV, AW, AX, AY, AZ, B0, B1, B2, B3, B4, B5, B6, B7, B8, B9, BA, BB, BC, BD, BE, BF, BG, BH, BI, BJ, BK, BL, BM, BN, BO, BP, BQ, BR, BS, BT, BU, BV, BW, BX, BY, BZ, C0, C1, C2, C3, C4, C5, C6, C7, C8, C9, CA, CB, CC, CD, CE, CF, CG, CH, CI, CJ, CK, CL, CM, CN, CO, CP, CQ, CR, CS, CT, CU, CV, CW, CX, CY, CZ, E0, E1, E2, E3, E4, E5, E6, E7, E8, E9, EA, EB, EC, ED, EE, EF, EG, EH, EI, EJ, EK, EL, EM, EN, EO, EP, EQ, ER, ES, ET, EU, EV, EW, EX, EY, EZ, F0, F1, F2, F3, F4, F5, F6, F7, F8, F9, FA, FB, FC, FD, FE, FF, FG, FH, FI, FJ, FK, FL, FM, FN, FO, FP, FQ, FR, FS, FT, FU, FV, FW, FX, FY, FZ, G0, G1, G2, G3, G4, G5, G6, G7, G8, G9, GA, GB, GC, GD, GE, GF, GG, GH, GI, GJ, GK, GL, GM, GN, GO, GP, GQ, GR, GS, GT, GU, GV, GW, GX, GY, GZ, I0, I1, I2, I3, I4, I5, I6, I7, I8, I9, IA, IB, IC, ID, IE, IF, IG, IH, II, IJ, IK, IL, IM, IN, IO, IP, IQ, IR, IS, IT, IU, IV, IW, IX, IY, IZ, J0, J1, J2, J3, J4, J5, J6, J7, J8, J9, JA, JB, JC, JD, JE, JF, JG, JH, JI, JJ, JK, JL, JM, JN, JO, JP, JQ, JR, JS, JT, JU, JV, JW, JX, JY, JZ, M0, M1, M2, M3, M4, M5, M6, M7, M8, M9, MA, MB, MC, MD, ME, MF, MG, MH, MI, MJ, MK, ML, MM, MN, MO, MP, MQ, MR, MS, MT, MU, MV, MW, MX, MY, MZ, N0, N1, N2, N3, N4, N5, N6, N7, N8, N9, NA, NB, NC], []⟩ w := by
 have HP := Lib.hid hP
 clear hP
 simp only [rest47c, Tryd.f6, Option.getD_some, cutC]
 have hil4 : il ≤ 4096 := by rw [hil]; exact Nat.le_trans ins_len hn4
 have HIL := Lib.hid hil
 have HSA := Lib.hid hsa
 have HSO2 := Lib.hid hso2
 have HDL := Lib.hid hDl
 clear hil hsa hso2 hDl
 have hil9 : (il : Int) ≤ 4096 := by omega
 have hil8 : (0 : Int) ≤ (il : Int) := by omega
 obtain ⟨c9_0_0, c9_0_1, c9_0_2, c9_0_3, c9_0_4, lt9_0, y9_0, -⟩ := hO.k5 0 rfl
 obtain ⟨c9_1_0, c9_1_1, c9_1_2, lt9_1, y9_1, -⟩ := hO.k3 1 rfl
 obtain ⟨c9_7_0, c9_7_1, lt9_7, y9_7, -⟩ := hO.k2 7 rfl
 have HO := Lib.hid hO
 clear hO
 go_wp2_with (first | (with_reducible refine Own.stay (fn := Tryd.f6) ?_) | fail)
 try with_reducible refine Own.Stay.mk ?_
 have hO := HO.out
 clear HO c9_0_0 c9_0_1 c9_0_2 c9_0_3 c9_0_4 lt9_0 y9_0 c9_1_0 c9_1_1 c9_1_2 lt9_1 y9_1 c9_7_0 c9_7_1 lt9_7 y9_7
 go_loopg [29] il (fun gf s29 wx => ∃ j : Nat, j + gf = il ∧ s29 = .int .i64 (j : Int) ∧ Own w0 wx [row (yb) 76 #[vP yc, vP yf, .slice sa il n, vI 0, vI 7], row (yf) 116 #[.slice (some ⟨fb, 0, none⟩) 1 1, vI 0, vI 7], row (tb) 61 (full stmZ (stL D (arrI D hst n n)) 0), row (pt) 107 QC2, row (cs) 99 KC2, row (gb2) 31 (full refZ [vU src, vU g0, vU src, vU g1, vU src, vU g2, vU src, vU g3] cg2), row (db) 113 (full dsyZ [vU src, vU g0, bF, vU src, vU d1, bF, vU src, vU d2, bF, vU src, vU d3, bF] cd), row (kb) 31 #[vU src, vU g0]] X)
 case atStart => exact ⟨0, by omega, rfl, hO⟩
 obtain ⟨j, hjm, rfl, hO⟩ := hrel
 by_cases hlt : j < il
 ·skip
  obtain ⟨gq, rfl⟩ : ∃ gq, gk = gq + 1 := ⟨gk - 1, by omega⟩
  have hlt9 : (j : Int) < (il : Int) := by omega
  have hj8 : (0 : Int) ≤ (j : Int) := by omega
  have hj7 : (j : Int) ≤ 4096 := by omega
  obtain ⟨b, c, hsob, hxb⟩ := HSO2.out (by omega)
  subst hsob
  obtain ⟨oj, hoj⟩ : ∃ oj, (ins D hst n)[j]? = some oj := ⟨_, List.getElem?_eq_getElem (by rw [← HIL.out]; exact hlt)⟩
  have hsa9 := HSA.out (by omega)
  subst hsa9
  have ha : (arrI D hst n n)[j]? = some oj := by unfold arrI; rw [List.getElem?_append_left (by rw [← HIL.out]; exact hlt)]; exact hoj
  have hq1 : (stL D (arrI D hst n n))[j * 2 + 1]? = some (vI ((oj : Int) + 1)) := by rw [stL_at1 ha, HDL.out]
  obtain ⟨c9_0_0, c9_0_1, c9_0_2, c9_0_3, c9_0_4, lt9_0, y9_0, -⟩ := hO.k5 0 rfl
  obtain ⟨c9_1_0, c9_1_1, c9_1_2, lt9_1, y9_1, -⟩ := hO.k3 1 rfl
  obtain ⟨c9_7_0, c9_7_1, lt9_7, y9_7, -⟩ := hO.k2 7 rfl
  have HO := Lib.hid hO
  clear hO
  go_wp2_with (first | (with_reducible refine Own.stay (fn := Tryd.f6) ?_) | fail)
  try with_reducible refine Own.Stay.mk ?_
  have hO := HO.out
  clear HO c9_0_0 c9_0_1 c9_0_2 c9_0_3 c9_0_4 lt9_0 y9_0 c9_1_0 c9_1_1 c9_1_2 lt9_1 y9_1 c9_7_0 c9_7_1 lt9_7 y9_7
  have hL := hO.apart
  have hX := hO.apartX
  have HL := Lib.hid hL
  have HX := Lib.hid hX
  clear hL hX
  have hP9 := hO.pick [0, 2] (by decide)
  generalize hX9_1 : Own.Rest _ _ X = X9_1 at hP9
  replace hP9 : Own w0 wr [row (yb) 76 #[vP yc, vP yf, .slice (some ⟨tb, 0, none⟩) il n, vI 0, vI 7], row (tb) 61 (full stmZ (stL D (arrI D hst n n)) 0)] X9_1 := hP9
  clear hO
  have hO := hP9
  clear hP9
  have hxr2 : X9_1 b (.cells (full i32Z (iL (ins D hst n)) c) 21 (0, 0)) := by rw [← hX9_1]; exact Or.inl hxb
  have st9 := rtl47d0i1_st n yb yc yf tb D hst il co2 j b oj
  let R9 := rtl47d0i1R n yb yc yf tb D hst il co2 j b oj
  refine wp_region_own (e := rtl47d0i1E n yb yc yf tb D hst il co2 j b oj) (anc := rtl47d0i1Anc) (G := (fun L9 α u9 => OwnF w0 u9 (act rtl47d0i1Cnt 2 L9) (rtl47d0i1R n yb yc yf tb D hst il co2 j b oj L9 α) X9_1)) (by kernel_rfl) (by kernel_rfl) (by kernel_rfl) (by kernel_rfl) (rtl47d0i1_he n yb yc yf tb D hst il co2 j b oj) ?_ (RunsAll.all ?_) ?_
  ·have hp : ∀ i, act rtl47d0i1Cnt 2 (fun _ => false) i → i ∈ [999, 1999] := by
    intro i hi
    have h9 : i % 1000 = 999 := by
     by_cases h : i % 1000 = 999
     ·exact h
     ·exact absurd (act_lt hi h) (by simp)
    unfold act at hi
    rw [if_pos h9] at hi
    simp only [List.mem_cons, List.not_mem_nil, or_false]
    omega
   refine hO.drew.family (fun i hi => ?_) (fun i j hi hj hij => ?_)
   ·have := hp i hi
    simp only [List.mem_cons, List.not_mem_nil, or_false] at this
    rcases this with rfl | rfl <;> rfl
   ·have h1 := hp i hi
    have h2 := hp j hj
    simp only [List.mem_cons, List.not_mem_nil, or_false] at h1 h2
    omega
  ·refine ⟨?_, ?_, ?_, ?_, ?_, ?_, ?_, ?_, ?_, ?_, ?_, ?_, ?_, ?_, ?_, trivial⟩
   ·intro L9 α a9 u9 K9 hL hcl hA hG hS h0 h1 hK
    replace hL : L9 0 = false := hL
    have q27 : a9.tmps[27]? = some (vP yb) := (h0 27 (by kernel_rfl)).trans rfl
    have s27 := Rega.eval_of q27
    go_simp
    exact hK _ α _ (fun _ _ => rfl) rfl (step_same (st9) hL hcl rfl rfl hG)
   ·intro L9 α a9 u9 K9 hL hcl hA hG hS h0 h1 hK
    replace hL : L9 1 = false := hL
    have q271 : a9.tmps[271]? = some (vP yb) := hS 0 271 (by decide) rfl (by show 271 < 345; decide)
    have s271 := Rega.eval_of q271
    go_simp
    exact hK _ α _ (fun _ _ => rfl) rfl (step_same (st9) hL hcl rfl rfl hG)
   ·intro L9 α a9 u9 K9 hL hcl hA hG hS h0 h1 hK
    replace hL : L9 2 = false := hL
    have q272 : a9.tmps[272]? = some (vP yb) := hS 1 272 (by decide) rfl (by show 272 < 345; decide)
    have s272 := Rega.eval_of q272
    go_simp
    exact hK _ α _ (fun _ _ => rfl) rfl (step_same (st9) hL hcl rfl rfl hG)
   ·intro L9 α a9 u9 K9 hL hcl hA hG hS h0 h1 hK
    replace hL : L9 3 = false := hL
    have q273 : a9.tmps[273]? = some (.pointer (some ⟨yb, 2, none⟩)) := hS 2 273 (by decide) rfl (by show 273 < 345; decide)
    have s273 := Rega.eval_of q273
    go_simp
    exact hK _ α _ (fun _ _ => rfl) rfl (step_same (st9) hL hcl rfl rfl hG)
   ·intro L9 α a9 u9 K9 hL hcl hA hG hS h0 h1 hK
    replace hL : L9 4 = false := hL
    have q274 : a9.tmps[274]? = some (.pointer (some ⟨yb, 2, none⟩)) := hS 3 274 (by decide) rfl (by show 274 < 345; decide)
    have s274 := Rega.eval_of q274
    have e0 : R9 L9 α 999 = row (yb) 76 #[vP yc, vP yf, .slice (some ⟨tb, 0, none⟩) il n, vI 0, vI 7] := rfl
    have hr := hG.rowAt 999 (act_base 999 rfl) e0
    have c0 : u9.cell? ⟨yb, 2, none⟩ = some (.slice (some ⟨tb, 0, none⟩) il n) := hr.cell rfl
    clear hr e0
    go_simp
    exact hK _ α _ (fun _ _ => rfl) rfl (step_same (st9) hL hcl rfl rfl hG)
   ·intro L9 α a9 u9 K9 hL hcl hA hG hS h0 h1 hK
    replace hL : L9 5 = false := hL
    have q29 : a9.tmps[29]? = some (.int .i64 (j : Int)) := (h0 29 (by kernel_rfl)).trans rfl
    have s29 := Rega.eval_of q29
    go_simp
    exact hK _ α _ (fun _ _ => rfl) rfl (step_same (st9) hL hcl rfl rfl hG)
   ·intro L9 α a9 u9 K9 hL hcl hA hG hS h0 h1 hK
    replace hL : L9 6 = false := hL
    have q275 : a9.tmps[275]? = some (.slice (some ⟨tb, 0, none⟩) il n) := hS 4 275 (by decide) rfl (by show 275 < 345; decide)
    have s275 := Rega.eval_of q275
    have q276 : a9.tmps[276]? = some (.int .i64 (j : Int)) := hS 5 276 (by decide) rfl (by show 276 < 345; decide)
    have s276 := Rega.eval_of q276
    go_simp
    exact hK _ α _ (fun _ _ => rfl) rfl (step_same (st9) hL hcl rfl rfl hG)
   ·intro L9 α a9 u9 K9 hL hcl hA hG hS h0 h1 hK
    replace hL : L9 7 = false := hL
    have q277 : a9.tmps[277]? = some (.pointer (some ⟨tb, j * 2, none⟩)) := hS 6 277 (by decide) rfl (by show 277 < 345; decide)
    have s277 := Rega.eval_of q277
    go_simp
    exact hK _ α _ (fun _ _ => rfl) rfl (step_same (st9) hL hcl rfl rfl hG)
   ·intro L9 α a9 u9 K9 hL hcl hA hG hS h0 h1 hK
    replace hL : L9 8 = false := hL
    have q278 : a9.tmps[278]? = some (.pointer (some ⟨tb, j * 2 + 1, none⟩)) := hS 7 278 (by decide) rfl (by show 278 < 345; decide)
    have s278 := Rega.eval_of q278
    go_simp
    exact hK _ α _ (fun _ _ => rfl) rfl (step_same (st9) hL hcl rfl rfl hG)
   ·intro L9 α a9 u9 K9 hL hcl hA hG hS h0 h1 hK
    replace hL : L9 9 = false := hL
    have q279 : a9.tmps[279]? = some (.pointer (some ⟨tb, j * 2 + 1, none⟩)) := hS 8 279 (by decide) rfl (by show 279 < 345; decide)
    have s279 := Rega.eval_of q279
    have e0 : R9 L9 α 1999 = row (tb) 61 (full stmZ (stL D (arrI D hst n n)) 0) := rfl
    have hr := hG.rowAt 1999 (act_base 1999 rfl) e0
    have c0 : u9.cell? ⟨tb, j * 2 + 1, none⟩ = some (vI ((oj : Int) + 1)) := hr.cell ((full_at hq1))
    clear hr e0
    go_simp
    exact hK _ α _ (fun _ _ => rfl) rfl (step_same (st9) hL hcl rfl rfl hG)
   ·intro L9 α a9 u9 K9 hL hcl hA hG hS h0 h1 hK
    replace hL : L9 10 = false := hL
    have q20 : a9.tmps[20]? = some (.slice (some ⟨b, 0, none⟩) il co2) := (h0 20 (by kernel_rfl)).trans rfl
    have s20 := Rega.eval_of q20
    go_simp
    exact hK _ α _ (fun _ _ => rfl) rfl (step_same (st9) hL hcl rfl rfl hG)
   ·intro L9 α a9 u9 K9 hL hcl hA hG hS h0 h1 hK
    replace hL : L9 11 = false := hL
    have q29 : a9.tmps[29]? = some (.int .i64 (j : Int)) := (h0 29 (by kernel_rfl)).trans rfl
    have s29 := Rega.eval_of q29
    go_simp
    exact hK _ α _ (fun _ _ => rfl) rfl (step_same (st9) hL hcl rfl rfl hG)
   ·intro L9 α a9 u9 K9 hL hcl hA hG hS h0 h1 hK
    replace hL : L9 12 = false := hL
    have q281 : a9.tmps[281]? = some (.slice (some ⟨b, 0, none⟩) il co2) := hS 10 281 (by decide) rfl (by show 281 < 345; decide)
    have s281 := Rega.eval_of q281
    have q282 : a9.tmps[282]? = some (.int .i64 (j : Int)) := hS 11 282 (by decide) rfl (by show 282 < 345; decide)
    have s282 := Rega.eval_of q282
    go_simp
    exact hK _ α _ (fun _ _ => rfl) rfl (step_same (st9) hL hcl rfl rfl hG)
   ·intro L9 α a9 u9 K9 hL hcl hA hG hS h0 h1 hK
    replace hL : L9 13 = false := hL
    have q283 : a9.tmps[283]? = some (.pointer (some ⟨b, j, none⟩)) := hS 12 283 (by decide) rfl (by show 283 < 345; decide)
    have s283 := Rega.eval_of q283
    have c0 : u9.cell? ⟨b, j, none⟩ = some (vI ((oj : Int) + 1)) := Base.RowAt.cell (show Base.RowAt u9 b 21 (full i32Z (iL (ins D hst n)) c) from (hG.frame _ _ hxr2).2.1) (full_at (iL_at hoj))
    go_simp
    exact hK _ α _ (fun _ _ => rfl) rfl (step_same (st9) hL hcl rfl rfl hG)
   ·intro L9 α a9 u9 K9 hL hcl hA hG hS h0 h1 hK
    replace hL : L9 14 = false := hL
    have q280 : a9.tmps[280]? = some (vI ((oj : Int) + 1)) := hS 9 280 (by decide) rfl (by show 280 < 345; decide)
    have s280 := Rega.eval_of q280
    have q284 : a9.tmps[284]? = some (vI ((oj : Int) + 1)) := hS 13 284 (by decide) rfl (by show 284 < 345; decide)
    have s284 := Rega.eval_of q284
    go_simp
    exact hK _ α _ (fun _ _ => rfl) rfl (step_same (st9) hL hcl rfl rfl hG)
  clear st9
  intro α u hG
  have e0 : R9 (fun k => decide (k < 15)) α 999 = row (yb) 76 #[vP yc, vP yf, .slice (some ⟨tb, 0, none⟩) il n, vI 0, vI 7] := rfl
  have e1 : R9 (fun k => decide (k < 15)) α 1999 = row (tb) 61 (full stmZ (stL D (arrI D hst n n)) 0) := rfl
  have hO : Own w0 u [row (yb) 76 #[vP yc, vP yf, .slice (some ⟨tb, 0, none⟩) il n, vI 0, vI 7], row (tb) 61 (full stmZ (stL D (arrI D hst n n)) 0)] X9_1 := (hG.list [999, 1999] (by decide) (act_all (by decide))).conv (by
   show [R9 (fun k => decide (k < 15)) α 999, R9 (fun k => decide (k < 15)) α 1999] = _
   rw [e0, e1])
  clear hG e0 e1 R9
  generalize hfr : Rega.frameAt _ _ _ _ _ = fr
  have hdf : fr = ⟨#[A0, A1, bF, A2, A3, A4, u6, A6, vP cs, A7, vP kb, A8, A9, AA, AB, vP pt, .int .i64 0, .int .i64 0, AC, AD, .slice (some ⟨b, 0, none⟩) il co2, AE, AF, AG, AH, AI, AJ, vP yb, .int .i64 1, .int .i64 (j : Int), AM, AN, AO, AP, AQ, AR, AS, AT, AU, AV, AW, AX, AY, AZ, B0, B1, B2, B3, B4, B5, B6, B7, B8, B9, BA, BB, BC, BD, BE, BF, BG, BH, BI, BJ, BK, BL, BM, BN, BO, BP, BQ, BR, BS, BT, BU, BV, BW, BX, BY, BZ, C0, C1, C2, C3, C4, C5, C6, C7, C8, C9, CA, CB, CC, CD, CE, CF, CG, CH, CI, CJ, CK, CL, CM, CN, CO, CP, CQ, CR, CS, CT, CU, CV, CW, CX, CY, CZ, E0, E1, E2, E3, E4, E5, E6, E7, E8, E9, EA, EB, EC, ED, EE, EF, EG, EH, EI, EJ, EK, EL, EM, EN, EO, EP, EQ, ER, ES, ET, EU, EV, EW, EX, EY, EZ, F0, F1, F2, F3, F4, F5, F6, F7, F8, F9, FA, FB, FC, FD, FE, FF, FG, FH, FI, FJ, FK, FL, FM, FN, FO, FP, FQ, FR, FS, FT, FU, FV, FW, FX, FY, FZ, G0, G1, G2, G3, G4, G5, G6, G7, G8, G9, GA, GB, GC, GD, GE, GF, GG, GH, GI, GJ, GK, GL, GM, GN, GO, GP, GQ, GR, GS, GT, GU, GV, GW, GX, GY, GZ, I0, I1, I2, I3, I4, I5, I6, I7, I8, I9, IA, IB, IC, ID, IE, IF, IG, IH, bF, vP yb, vP yb, .pointer (some ⟨yb, 1, none⟩), vP yf, vP yf, vP yf, vP yf, .slice (some ⟨fb, 0, none⟩) 1 1, .int .i64 1, .int .i64 1, bF, bF, vP yb, vP yb, .pointer (some ⟨yb, 2, none⟩), .pointer (some ⟨yb, 2, none⟩), .slice (some ⟨tb, 0, none⟩) il n, .int .i64 (il : Int), .slice (some ⟨b, 0, none⟩) il co2, .int .i64 (il : Int), bF, bF, .int .i64 (j : Int), .slice (some ⟨b, 0, none⟩) il co2, .int .i64 (il : Int), .bool true, u269, u270, vP yb, vP yb, .pointer (some ⟨yb, 2, none⟩), .pointer (some ⟨yb, 2, none⟩), .slice (some ⟨tb, 0, none⟩) il n, .int .i64 (j : Int), .pointer (some ⟨tb, j * 2, none⟩), .pointer (some ⟨tb, j * 2 + 1, none⟩), .pointer (some ⟨tb, j * 2 + 1, none⟩), vI ((oj : Int) + 1), .slice (some ⟨b, 0, none⟩) il co2, .int .i64 (j : Int), .pointer (some ⟨b, j, none⟩), vI ((oj : Int) + 1), bF, JQ, JR, JS, JT, JU, JV, JW, JX, JY, JZ, M0, M1, M2, M3, M4, M5, M6, M7, M8, M9, MA, MB, MC, MD, ME, MF, MG, MH, MI, MJ, MK, ML, MM, MN, MO, MP, MQ, MR, MS, MT, MU, MV, MW, MX, MY, MZ, N0, N1, N2, N3, N4, N5, N6, N7, N8, N9, NA, NB, NC], []⟩ := by rw [← hfr]; kernel_rfl
  clear hfr
  subst hdf
  clear α
  clear hxr2
  subst hX9_1
  have hN : Own w0 u [row (yb) 76 #[vP yc, vP yf, .slice (some ⟨tb, 0, none⟩) il n, vI 0, vI 7], row (tb) 61 (full stmZ (stL D (arrI D hst n n)) 0), row (yf) 116 #[.slice (some ⟨fb, 0, none⟩) 1 1, vI 0, vI 7], row (pt) 107 QC2, row (cs) 99 KC2, row (gb2) 31 (full refZ [vU src, vU g0, vU src, vU g1, vU src, vU g2, vU src, vU g3] cg2), row (db) 113 (full dsyZ [vU src, vU g0, bF, vU src, vU d1, bF, vU src, vU d2, bF, vU src, vU d3, bF] cd), row (kb) 31 #[vU src, vU g0]] X := hO.back HL.out HX.out [1, 3, 4, 5, 6, 7] (by decide) (by decide)
  clear hO HL HX
  have hO := hN
  clear hN
  obtain ⟨c9_0_0, c9_0_1, c9_0_2, c9_0_3, c9_0_4, lt9_0, y9_0, -⟩ := hO.k5 0 rfl
  obtain ⟨c9_2_0, c9_2_1, c9_2_2, lt9_2, y9_2, -⟩ := hO.k3 2 rfl
  obtain ⟨c9_7_0, c9_7_1, lt9_7, y9_7, -⟩ := hO.k2 7 rfl
  have HO := Lib.hid hO
  clear hO
  go_wp2_with (first | (with_reducible refine Own.stay (fn := Tryd.f6) ?_) | fail)
  try with_reducible refine Own.Stay.mk ?_
  have hO := HO.out
  clear HO c9_0_0 c9_0_1 c9_0_2 c9_0_3 c9_0_4 lt9_0 y9_0 c9_2_0 c9_2_1 c9_2_2 lt9_2 y9_2 c9_7_0 c9_7_1 lt9_7 y9_7
  go_roundg gq
  case measure => omega
  case rel => exact ⟨j + 1, by omega, by first | rfl | simp, hO.sub [0, 2, 1, 3, 4, 5, 6, 7] (by decide)⟩
 obtain rfl : il = j := by omega
 have hlt9 : ¬ (il : Int) < (il : Int) := by omega
 have hN : Own w0 wr [row (pt) 107 QC2, row (cs) 99 KC2, row (gb2) 31 (full refZ [vU src, vU g0, vU src, vU g1, vU src, vU g2, vU src, vU g3] cg2), row (db) 113 (full dsyZ [vU src, vU g0, bF, vU src, vU d1, bF, vU src, vU d2, bF, vU src, vU d3, bF] cd), row (kb) 31 #[vU src, vU g0]] X := hO.sub [3, 4, 5, 6, 7] (by decide)
 clear hO
 have hO := hN
 clear hN
 obtain ⟨c9_4_0, c9_4_1, lt9_4, y9_4, -⟩ := hO.k2 4 rfl
 have HO := Lib.hid hO
 clear hO
 go_wp2_with (first | (with_reducible refine Own.stay (fn := Tryd.f6) ?_) | fail)
 try with_reducible refine Own.Stay.mk ?_
 have hO := HO.out
 clear HO c9_4_0 c9_4_1 lt9_4 y9_4
 have hL := hO.apart
 have hX := hO.apartX
 have HL := Lib.hid hL
 have HX := Lib.hid hX
 clear hL hX
 have hP9 := hO.pick [1, 2, 4] (by decide)
 generalize hX9_3 : Own.Rest _ _ X = X9_3 at hP9
 replace hP9 : Own w0 wr [row (cs) 99 KC2, row (gb2) 31 (full refZ [vU src, vU g0, vU src, vU g1, vU src, vU g2, vU src, vU g3] cg2), row (kb) 31 #[vU src, vU g0]] X9_3 := hP9
 clear hO
 have hO := hP9
 clear hP9
 have st9 := rtl47d0c1_st kb cs gb2 cg2 src g0 g1 g2 g3 KC2
 let R9 := rtl47d0c1R kb cs gb2 cg2 src g0 g1 g2 g3 KC2
 refine wp_region_own (e := rtl47d0c1E kb cs gb2 cg2 src g0 g1 g2 g3 KC2) (anc := rtl47d0c1Anc) (G := (fun L9 α u9 => OwnF w0 u9 (act rtl47d0c1Cnt 3 L9) (rtl47d0c1R kb cs gb2 cg2 src g0 g1 g2 g3 KC2 L9 α) X9_3)) (by kernel_rfl) (by kernel_rfl) (by kernel_rfl) (by kernel_rfl) (rtl47d0c1_he kb cs gb2 cg2 src g0 g1 g2 g3 KC2) ?_ (RunsAll.all ?_) ?_
 ·have hp : ∀ i, act rtl47d0c1Cnt 3 (fun _ => false) i → i ∈ [999, 1999, 2999] := by
   intro i hi
   have h9 : i % 1000 = 999 := by
    by_cases h : i % 1000 = 999
    ·exact h
    ·exact absurd (act_lt hi h) (by simp)
   unfold act at hi
   rw [if_pos h9] at hi
   simp only [List.mem_cons, List.not_mem_nil, or_false]
   omega
  refine hO.drew.family (fun i hi => ?_) (fun i j hi hj hij => ?_)
  ·have := hp i hi
   simp only [List.mem_cons, List.not_mem_nil, or_false] at this
   rcases this with rfl | rfl | rfl <;> rfl
  ·have h1 := hp i hi
   have h2 := hp j hj
   simp only [List.mem_cons, List.not_mem_nil, or_false] at h1 h2
   omega
 ·refine ⟨?_, ?_, ?_, ?_, ?_, ?_, ?_, ?_, ?_, ?_, ?_, ?_, ?_, ?_, ?_, ?_, ?_, ?_, ?_, trivial⟩
  ·intro L9 α a9 u9 K9 hL hcl hA hG hS h0 h1 hK
   replace hL : L9 0 = false := hL
   have q8 : a9.tmps[8]? = some (vP cs) := (h0 8 (by kernel_rfl)).trans rfl
   have s8 := Rega.eval_of q8
   go_simp
   exact hK _ α _ (fun _ _ => rfl) rfl (step_same (st9) hL hcl rfl rfl hG)
  ·intro L9 α a9 u9 K9 hL hcl hA hG hS h0 h1 hK
   replace hL : L9 1 = false := hL
   have q287 : a9.tmps[287]? = some (vP cs) := hS 0 287 (by decide) rfl (by show 287 < 345; decide)
   have s287 := Rega.eval_of q287
   go_simp
   exact hK _ α _ (fun _ _ => rfl) rfl (step_same (st9) hL hcl rfl rfl hG)
  ·intro L9 α a9 u9 K9 hL hcl hA hG hS h0 h1 hK
   replace hL : L9 2 = false := hL
   have q288 : a9.tmps[288]? = some (vP cs) := hS 1 288 (by decide) rfl (by show 288 < 345; decide)
   have s288 := Rega.eval_of q288
   go_simp
   exact hK _ α _ (fun _ _ => rfl) rfl (step_same (st9) hL hcl rfl rfl hG)
  ·intro L9 α a9 u9 K9 hL hcl hA hG hS h0 h1 hK
   replace hL : L9 3 = false := hL
   have q289 : a9.tmps[289]? = some (.pointer (some ⟨cs, 5, none⟩)) := hS 2 289 (by decide) rfl (by show 289 < 345; decide)
   have s289 := Rega.eval_of q289
   have e0 : R9 L9 α 999 = row (cs) 99 KC2 := rfl
   have hr := hG.rowAt 999 (act_base 999 rfl) e0
   have c0 : u9.cell? ⟨cs, 5, none⟩ = some (.slice (some ⟨gb2, 0, none⟩) 4 (4 + cg2)) := hr.cell (hm5)
   clear hr e0
   go_simp
   exact hK _ α _ (fun _ _ => rfl) rfl (step_same (st9) hL hcl rfl rfl hG)
  ·intro L9 α a9 u9 K9 hL hcl hA hG hS h0 h1 hK
   replace hL : L9 4 = false := hL
   have q290 : a9.tmps[290]? = some (.slice (some ⟨gb2, 0, none⟩) 4 (4 + cg2)) := hS 3 290 (by decide) rfl (by show 290 < 345; decide)
   have s290 := Rega.eval_of q290
   go_simp
   exact hK _ α _ (fun _ _ => rfl) rfl (step_same (st9) hL hcl rfl rfl hG)
  ·intro L9 α a9 u9 K9 hL hcl hA hG hS h0 h1 hK
   replace hL : L9 5 = false := hL
   have q16 : a9.tmps[16]? = some (.int .i64 0) := (h0 16 (by kernel_rfl)).trans rfl
   have s16 := Rega.eval_of q16
   go_simp
   exact hK _ α _ (fun _ _ => rfl) rfl (step_same (st9) hL hcl rfl rfl hG)
  ·intro L9 α a9 u9 K9 hL hcl hA hG hS h0 h1 hK
   replace hL : L9 6 = false := hL
   have q292 : a9.tmps[292]? = some (.int .i64 0) := hS 5 292 (by decide) rfl (by show 292 < 345; decide)
   have s292 := Rega.eval_of q292
   go_simp
   exact hK _ α _ (fun _ _ => rfl) rfl (step_same (st9) hL hcl rfl rfl hG)
  ·intro L9 α a9 u9 K9 hL hcl hA hG hS h0 h1 hK
   replace hL : L9 7 = false := hL
   have q291 : a9.tmps[291]? = some (.int .i64 4) := hS 4 291 (by decide) rfl (by show 291 < 345; decide)
   have s291 := Rega.eval_of q291
   have q293 : a9.tmps[293]? = some (.int .i64 4) := hS 6 293 (by decide) rfl (by show 293 < 345; decide)
   have s293 := Rega.eval_of q293
   go_simp
   exact hK _ α _ (fun _ _ => rfl) rfl (step_same (st9) hL hcl rfl rfl hG)
  ·intro L9 α a9 u9 K9 hL hcl hA hG hS h0 h1 hK
   replace hL : L9 8 = false := hL
   have q294 : a9.tmps[294]? = some (bF) := hS 7 294 (by decide) rfl (by show 294 < 345; decide)
   have s294 := Rega.eval_of q294
   go_simp
   exact hK _ α _ (fun _ _ => rfl) rfl (step_same (st9) hL hcl rfl rfl hG)
  ·intro L9 α a9 u9 K9 hL hcl hA hG hS h0 h1 hK
   replace hL : L9 9 = false := hL
   have q8 : a9.tmps[8]? = some (vP cs) := (h0 8 (by kernel_rfl)).trans rfl
   have s8 := Rega.eval_of q8
   have q295 : a9.tmps[295]? = some (bF) := hS 8 295 (by decide) rfl (by show 295 < 345; decide)
   have s295 := Rega.eval_of q295
   go_simp
   exact hK _ α _ (fun _ _ => rfl) rfl (step_same (st9) hL hcl rfl rfl hG)
  ·intro L9 α a9 u9 K9 hL hcl hA hG hS h0 h1 hK
   replace hL : L9 10 = false := hL
   have q296 : a9.tmps[296]? = some (vP cs) := hS 9 296 (by decide) rfl (by show 296 < 345; decide)
   have s296 := Rega.eval_of q296
   have q295 : a9.tmps[295]? = some (bF) := hS 8 295 (by decide) rfl (by show 295 < 345; decide)
   have s295 := Rega.eval_of q295
   go_simp
   exact hK _ α _ (fun _ _ => rfl) rfl (step_same (st9) hL hcl rfl rfl hG)
  ·intro L9 α a9 u9 K9 hL hcl hA hG hS h0 h1 hK
   replace hL : L9 11 = false := hL
   have q297 : a9.tmps[297]? = some (vP cs) := hS 10 297 (by decide) rfl (by show 297 < 345; decide)
   have s297 := Rega.eval_of q297
   have q295 : a9.tmps[295]? = some (bF) := hS 8 295 (by decide) rfl (by show 295 < 345; decide)
   have s295 := Rega.eval_of q295
   go_simp
   exact hK _ α _ (fun _ _ => rfl) rfl (step_same (st9) hL hcl rfl rfl hG)
  ·intro L9 α a9 u9 K9 hL hcl hA hG hS h0 h1 hK
   replace hL : L9 12 = false := hL
   have q298 : a9.tmps[298]? = some (.pointer (some ⟨cs, 5, none⟩)) := hS 11 298 (by decide) rfl (by show 298 < 345; decide)
   have s298 := Rega.eval_of q298
   have q295 : a9.tmps[295]? = some (bF) := hS 8 295 (by decide) rfl (by show 295 < 345; decide)
   have s295 := Rega.eval_of q295
   have e0 : R9 L9 α 999 = row (cs) 99 KC2 := rfl
   have hr := hG.rowAt 999 (act_base 999 rfl) e0
   have c0 : u9.cell? ⟨cs, 5, none⟩ = some (.slice (some ⟨gb2, 0, none⟩) 4 (4 + cg2)) := hr.cell (hm5)
   clear hr e0
   go_simp
   exact hK _ α _ (fun _ _ => rfl) rfl (step_same (st9) hL hcl rfl rfl hG)
  ·intro L9 α a9 u9 K9 hL hcl hA hG hS h0 h1 hK
   replace hL : L9 13 = false := hL
   have q16 : a9.tmps[16]? = some (.int .i64 0) := (h0 16 (by kernel_rfl)).trans rfl
   have s16 := Rega.eval_of q16
   have q295 : a9.tmps[295]? = some (bF) := hS 8 295 (by decide) rfl (by show 295 < 345; decide)
   have s295 := Rega.eval_of q295
   go_simp
   exact hK _ α _ (fun _ _ => rfl) rfl (step_same (st9) hL hcl rfl rfl hG)
  ·intro L9 α a9 u9 K9 hL hcl hA hG hS h0 h1 hK
   replace hL : L9 14 = false := hL
   have q299 : a9.tmps[299]? = some (.slice (some ⟨gb2, 0, none⟩) 4 (4 + cg2)) := hS 12 299 (by decide) rfl (by show 299 < 345; decide)
   have s299 := Rega.eval_of q299
   have q300 : a9.tmps[300]? = some (.int .i64 0) := hS 13 300 (by decide) rfl (by show 300 < 345; decide)
   have s300 := Rega.eval_of q300
   have q295 : a9.tmps[295]? = some (bF) := hS 8 295 (by decide) rfl (by show 295 < 345; decide)
   have s295 := Rega.eval_of q295
   go_simp
   exact hK _ α _ (fun _ _ => rfl) rfl (step_same (st9) hL hcl rfl rfl hG)
  ·intro L9 α a9 u9 K9 hL hcl hA hG hS h0 h1 hK
   replace hL : L9 15 = false := hL
   have q301 : a9.tmps[301]? = some (vP gb2) := hS 14 301 (by decide) rfl (by show 301 < 345; decide)
   have s301 := Rega.eval_of q301
   have q295 : a9.tmps[295]? = some (bF) := hS 8 295 (by decide) rfl (by show 295 < 345; decide)
   have s295 := Rega.eval_of q295
   have e0 : R9 L9 α 1999 = row (gb2) 31 (full refZ [vU src, vU g0, vU src, vU g1, vU src, vU g2, vU src, vU g3] cg2) := rfl
   have hr := hG.rowAt 1999 (act_base 1999 rfl) e0
   have c0 : u9.cell? ⟨gb2, 0, none⟩ = some (vU src) := hr.cell ((full_at rfl))
   have c1 : u9.cell? ⟨gb2, 1, none⟩ = some (vU g0) := hr.cell ((full_at rfl))
   clear hr e0
   go_simp
   exact hK _ α _ (fun _ _ => rfl) rfl (step_same (st9) hL hcl rfl rfl hG)
  ·intro L9 α a9 u9 K9 hL hcl hA hG hS h0 h1 hK
   replace hL : L9 16 = false := hL
   have q10 : a9.tmps[10]? = some (vP kb) := (h0 10 (by kernel_rfl)).trans rfl
   have s10 := Rega.eval_of q10
   have q295 : a9.tmps[295]? = some (bF) := hS 8 295 (by decide) rfl (by show 295 < 345; decide)
   have s295 := Rega.eval_of q295
   have e0 : R9 L9 α 2999 = row (kb) 31 #[vU src, vU g0] := rfl
   have hr := hG.rowAt 2999 (act_base 2999 rfl) e0
   have c0 : u9.cell? ⟨kb, 0, none⟩ = some (vU src) := hr.cell rfl
   have c1 : u9.cell? ⟨kb, 1, none⟩ = some (vU g0) := hr.cell rfl
   clear hr e0
   go_simp
   exact hK _ α _ (fun _ _ => rfl) rfl (step_same (st9) hL hcl rfl rfl hG)
  ·intro L9 α a9 u9 K9 hL hcl hA hG hS h0 h1 hK
   replace hL : L9 17 = false := hL
   have q302 : a9.tmps[302]? = some (.agg #[vU src, vU g0]) := hS 15 302 (by decide) rfl (by show 302 < 345; decide)
   have s302 := Rega.eval_of q302
   have q303 : a9.tmps[303]? = some (.agg #[vU src, vU g0]) := hS 16 303 (by decide) rfl (by show 303 < 345; decide)
   have s303 := Rega.eval_of q303
   have q295 : a9.tmps[295]? = some (bF) := hS 8 295 (by decide) rfl (by show 295 < 345; decide)
   have s295 := Rega.eval_of q295
   go_simp
   exact hK _ α _ (fun _ _ => rfl) rfl (step_same (st9) hL hcl rfl rfl hG)
  ·intro L9 α a9 u9 K9 hL hcl hA hG hS h0 h1 hK
   replace hL : L9 18 = false := hL
   have q295 : a9.tmps[295]? = some (bF) := hS 8 295 (by decide) rfl (by show 295 < 345; decide)
   have s295 := Rega.eval_of q295
   have q304 : a9.tmps[304]? = some (bF) := hS 17 304 (by decide) rfl (by show 304 < 345; decide)
   have s304 := Rega.eval_of q304
   go_simp
   exact hK _ α _ (fun _ _ => rfl) rfl (step_same (st9) hL hcl rfl rfl hG)
 clear st9
 intro α u hG
 have e0 : R9 (fun k => decide (k < 19)) α 999 = row (cs) 99 KC2 := rfl
 have e1 : R9 (fun k => decide (k < 19)) α 1999 = row (gb2) 31 (full refZ [vU src, vU g0, vU src, vU g1, vU src, vU g2, vU src, vU g3] cg2) := rfl
 have e2 : R9 (fun k => decide (k < 19)) α 2999 = row (kb) 31 #[vU src, vU g0] := rfl
 have hO : Own w0 u [row (cs) 99 KC2, row (gb2) 31 (full refZ [vU src, vU g0, vU src, vU g1, vU src, vU g2, vU src, vU g3] cg2), row (kb) 31 #[vU src, vU g0]] X9_3 := (hG.list [999, 1999, 2999] (by decide) (act_all (by decide))).conv (by
  show [R9 (fun k => decide (k < 19)) α 999, R9 (fun k => decide (k < 19)) α 1999, R9 (fun k => decide (k < 19)) α 2999] = _
  rw [e0, e1, e2])
 clear hG e0 e1 e2 R9
 generalize hfr : Rega.frameAt _ _ _ _ _ = fr
 have hdf : fr = ⟨#[A0, A1, bF, A2, A3, A4, u6, A6, vP cs, A7, vP kb, A8, A9, AA, AB, vP pt, .int .i64 0, .int .i64 0, AC, AD, .slice so2 il co2, AE, AF, AG, AH, AI, AJ, vP yb, .int .i64 1, .int .i64 (il : Int), .int .i64 4, AN, AO, AP, AQ, AR, AS, AT, AU, AV, AW, AX, AY, AZ, B0, B1, B2, B3, B4, B5, B6, B7, B8, B9, BA, BB, BC, BD, BE, BF, BG, BH, BI, BJ, BK, BL, BM, BN, BO, BP, BQ, BR, BS, BT, BU, BV, BW, BX, BY, BZ, C0, C1, C2, C3, C4, C5, C6, C7, C8, C9, CA, CB, CC, CD, CE, CF, CG, CH, CI, CJ, CK, CL, CM, CN, CO, CP, CQ, CR, CS, CT, CU, CV, CW, CX, CY, CZ, E0, E1, E2, E3, E4, E5, E6, E7, E8, E9, EA, EB, EC, ED, EE, EF, EG, EH, EI, EJ, EK, EL, EM, EN, EO, EP, EQ, ER, ES, ET, EU, EV, EW, EX, EY, EZ, F0, F1, F2, F3, F4, F5, F6, F7, F8, F9, FA, FB, FC, FD, FE, FF, FG, FH, FI, FJ, FK, FL, FM, FN, FO, FP, FQ, FR, FS, FT, FU, FV, FW, FX, FY, FZ, G0, G1, G2, G3, G4, G5, G6, G7, G8, G9, GA, GB, GC, GD, GE, GF, GG, GH, GI, GJ, GK, GL, GM, GN, GO, GP, GQ, GR, GS, GT, GU, GV, GW, GX, GY, GZ, I0, I1, I2, I3, I4, I5, I6, I7, I8, I9, IA, IB, IC, ID, IE, IF, IG, IH, bF, vP yb, vP yb, .pointer (some ⟨yb, 1, none⟩), vP yf, vP yf, vP yf, vP yf, .slice (some ⟨fb, 0, none⟩) 1 1, .int .i64 1, .int .i64 1, bF, bF, vP yb, vP yb, .pointer (some ⟨yb, 2, none⟩), .pointer (some ⟨yb, 2, none⟩), .slice sa il n, .int .i64 (il : Int), .slice so2 il co2, .int .i64 (il : Int), bF, bF, .int .i64 (il : Int), .slice so2 il co2, .int .i64 (il : Int), bF, u269, u270, u271, u272, u273, u274, u275, u276, u277, u278, u279, u280, u281, u282, u283, u284, u285, bF, vP cs, vP cs, .pointer (some ⟨cs, 5, none⟩), .slice (some ⟨gb2, 0, none⟩) 4 (4 + cg2), .int .i64 4, .int .i64 0, .int .i64 4, bF, bF, vP cs, vP cs, .pointer (some ⟨cs, 5, none⟩), .slice (some ⟨gb2, 0, none⟩) 4 (4 + cg2), .int .i64 0, vP gb2, .agg #[vU src, vU g0], .agg #[vU src, vU g0], bF, bF, MA, MB, MC, MD, ME, MF, MG, MH, MI, MJ, MK, ML, MM, MN, MO, MP, MQ, MR, MS, MT, MU, MV, MW, MX, MY, MZ, N0, N1, N2, N3, N4, N5, N6, N7, N8, N9, NA, NB, NC], []⟩ := by rw [← hfr]; kernel_rfl
 clear hfr
 subst hdf
 clear α
 subst hX9_3
 have hN : Own w0 u [row (cs) 99 KC2, row (gb2) 31 (full refZ [vU src, vU g0, vU src, vU g1, vU src, vU g2, vU src, vU g3] cg2), row (kb) 31 #[vU src, vU g0], row (pt) 107 QC2, row (db) 113 (full dsyZ [vU src, vU g0, bF, vU src, vU d1, bF, vU src, vU d2, bF, vU src, vU d3, bF] cd)] X := hO.back HL.out HX.out [0, 3] (by decide) (by decide)
 clear hO HL HX
 have hO := hN
 clear hN
 obtain ⟨c9_2_0, c9_2_1, lt9_2, y9_2, -⟩ := hO.k2 2 rfl
 have HO := Lib.hid hO
 clear hO
 go_wp2_with (first | (with_reducible refine Own.stay (fn := Tryd.f6) ?_) | fail)
 try with_reducible refine Own.Stay.mk ?_
 have hO := HO.out
 clear HO c9_2_0 c9_2_1 lt9_2 y9_2
 have hL := hO.apart
 have hX := hO.apartX
 have HL := Lib.hid hL
 have HX := Lib.hid hX
 clear hL hX
 have hP9 := hO.pick [2, 3, 4] (by decide)
 generalize hX9_4 : Own.Rest _ _ X = X9_4 at hP9
 replace hP9 : Own w0 u [row (kb) 31 #[vU src, vU g0], row (pt) 107 QC2, row (db) 113 (full dsyZ [vU src, vU g0, bF, vU src, vU d1, bF, vU src, vU d2, bF, vU src, vU d3, bF] cd)] X9_4 := hP9
 clear hO
 have hO := hP9
 clear hP9
 have st9 := rtl47d0c2_st kb pt db cd src g0 d1 d2 d3 QC2
 let R9 := rtl47d0c2R kb pt db cd src g0 d1 d2 d3 QC2
 refine wp_region_own (e := rtl47d0c2E kb pt db cd src g0 d1 d2 d3 QC2) (anc := rtl47d0c2Anc) (G := (fun L9 α u9 => OwnF w0 u9 (act rtl47d0c2Cnt 3 L9) (rtl47d0c2R kb pt db cd src g0 d1 d2 d3 QC2 L9 α) X9_4)) (by kernel_rfl) (by kernel_rfl) (by kernel_rfl) (by kernel_rfl) (rtl47d0c2_he kb pt db cd src g0 d1 d2 d3 QC2) ?_ (RunsAll.all ?_) ?_
 ·have hp : ∀ i, act rtl47d0c2Cnt 3 (fun _ => false) i → i ∈ [999, 1999, 2999] := by
   intro i hi
   have h9 : i % 1000 = 999 := by
    by_cases h : i % 1000 = 999
    ·exact h
    ·exact absurd (act_lt hi h) (by simp)
   unfold act at hi
   rw [if_pos h9] at hi
   simp only [List.mem_cons, List.not_mem_nil, or_false]
   omega
  refine hO.drew.family (fun i hi => ?_) (fun i j hi hj hij => ?_)
  ·have := hp i hi
   simp only [List.mem_cons, List.not_mem_nil, or_false] at this
   rcases this with rfl | rfl | rfl <;> rfl
  ·have h1 := hp i hi
   have h2 := hp j hj
   simp only [List.mem_cons, List.not_mem_nil, or_false] at h1 h2
   omega
 ·refine ⟨?_, ?_, ?_, ?_, ?_, ?_, ?_, ?_, ?_, ?_, ?_, ?_, ?_, ?_, ?_, ?_, ?_, ?_, ?_, ?_, ?_, trivial⟩
  ·intro L9 α a9 u9 K9 hL hcl hA hG hS h0 h1 hK
   replace hL : L9 0 = false := hL
   have q15 : a9.tmps[15]? = some (vP pt) := (h0 15 (by kernel_rfl)).trans rfl
   have s15 := Rega.eval_of q15
   go_simp
   exact hK _ α _ (fun _ _ => rfl) rfl (step_same (st9) hL hcl rfl rfl hG)
  ·intro L9 α a9 u9 K9 hL hcl hA hG hS h0 h1 hK
   replace hL : L9 1 = false := hL
   have q306 : a9.tmps[306]? = some (vP pt) := hS 0 306 (by decide) rfl (by show 306 < 345; decide)
   have s306 := Rega.eval_of q306
   go_simp
   exact hK _ α _ (fun _ _ => rfl) rfl (step_same (st9) hL hcl rfl rfl hG)
  ·intro L9 α a9 u9 K9 hL hcl hA hG hS h0 h1 hK
   replace hL : L9 2 = false := hL
   have q307 : a9.tmps[307]? = some (vP pt) := hS 1 307 (by decide) rfl (by show 307 < 345; decide)
   have s307 := Rega.eval_of q307
   go_simp
   exact hK _ α _ (fun _ _ => rfl) rfl (step_same (st9) hL hcl rfl rfl hG)
  ·intro L9 α a9 u9 K9 hL hcl hA hG hS h0 h1 hK
   replace hL : L9 3 = false := hL
   have q308 : a9.tmps[308]? = some (.pointer (some ⟨pt, 3, none⟩)) := hS 2 308 (by decide) rfl (by show 308 < 345; decide)
   have s308 := Rega.eval_of q308
   have e0 : R9 L9 α 1999 = row (pt) 107 QC2 := rfl
   have hr := hG.rowAt 1999 (act_base 1999 rfl) e0
   have c0 : u9.cell? ⟨pt, 3, none⟩ = some (.slice (some ⟨db, 0, none⟩) 4 (4 + cd)) := hr.cell (hq3)
   clear hr e0
   go_simp
   exact hK _ α _ (fun _ _ => rfl) rfl (step_same (st9) hL hcl rfl rfl hG)
  ·intro L9 α a9 u9 K9 hL hcl hA hG hS h0 h1 hK
   replace hL : L9 4 = false := hL
   have q309 : a9.tmps[309]? = some (.slice (some ⟨db, 0, none⟩) 4 (4 + cd)) := hS 3 309 (by decide) rfl (by show 309 < 345; decide)
   have s309 := Rega.eval_of q309
   go_simp
   exact hK _ α _ (fun _ _ => rfl) rfl (step_same (st9) hL hcl rfl rfl hG)
  ·intro L9 α a9 u9 K9 hL hcl hA hG hS h0 h1 hK
   replace hL : L9 5 = false := hL
   have q17 : a9.tmps[17]? = some (.int .i64 0) := (h0 17 (by kernel_rfl)).trans rfl
   have s17 := Rega.eval_of q17
   go_simp
   exact hK _ α _ (fun _ _ => rfl) rfl (step_same (st9) hL hcl rfl rfl hG)
  ·intro L9 α a9 u9 K9 hL hcl hA hG hS h0 h1 hK
   replace hL : L9 6 = false := hL
   have q30 : a9.tmps[30]? = some (.int .i64 4) := (h0 30 (by kernel_rfl)).trans rfl
   have s30 := Rega.eval_of q30
   go_simp
   exact hK _ α _ (fun _ _ => rfl) rfl (step_same (st9) hL hcl rfl rfl hG)
  ·intro L9 α a9 u9 K9 hL hcl hA hG hS h0 h1 hK
   replace hL : L9 7 = false := hL
   have q311 : a9.tmps[311]? = some (.int .i64 0) := hS 5 311 (by decide) rfl (by show 311 < 345; decide)
   have s311 := Rega.eval_of q311
   have q312 : a9.tmps[312]? = some (.int .i64 4) := hS 6 312 (by decide) rfl (by show 312 < 345; decide)
   have s312 := Rega.eval_of q312
   go_simp
   exact hK _ α _ (fun _ _ => rfl) rfl (step_same (st9) hL hcl rfl rfl hG)
  ·intro L9 α a9 u9 K9 hL hcl hA hG hS h0 h1 hK
   replace hL : L9 8 = false := hL
   have q310 : a9.tmps[310]? = some (.int .i64 4) := hS 4 310 (by decide) rfl (by show 310 < 345; decide)
   have s310 := Rega.eval_of q310
   have q313 : a9.tmps[313]? = some (.int .i64 4) := hS 7 313 (by decide) rfl (by show 313 < 345; decide)
   have s313 := Rega.eval_of q313
   go_simp
   exact hK _ α _ (fun _ _ => rfl) rfl (step_same (st9) hL hcl rfl rfl hG)
  ·intro L9 α a9 u9 K9 hL hcl hA hG hS h0 h1 hK
   replace hL : L9 9 = false := hL
   have q314 : a9.tmps[314]? = some (bF) := hS 8 314 (by decide) rfl (by show 314 < 345; decide)
   have s314 := Rega.eval_of q314
   go_simp
   exact hK _ α _ (fun _ _ => rfl) rfl (step_same (st9) hL hcl rfl rfl hG)
  ·intro L9 α a9 u9 K9 hL hcl hA hG hS h0 h1 hK
   replace hL : L9 10 = false := hL
   have q15 : a9.tmps[15]? = some (vP pt) := (h0 15 (by kernel_rfl)).trans rfl
   have s15 := Rega.eval_of q15
   have q315 : a9.tmps[315]? = some (bF) := hS 9 315 (by decide) rfl (by show 315 < 345; decide)
   have s315 := Rega.eval_of q315
   go_simp
   exact hK _ α _ (fun _ _ => rfl) rfl (step_same (st9) hL hcl rfl rfl hG)
  ·intro L9 α a9 u9 K9 hL hcl hA hG hS h0 h1 hK
   replace hL : L9 11 = false := hL
   have q316 : a9.tmps[316]? = some (vP pt) := hS 10 316 (by decide) rfl (by show 316 < 345; decide)
   have s316 := Rega.eval_of q316
   have q315 : a9.tmps[315]? = some (bF) := hS 9 315 (by decide) rfl (by show 315 < 345; decide)
   have s315 := Rega.eval_of q315
   go_simp
   exact hK _ α _ (fun _ _ => rfl) rfl (step_same (st9) hL hcl rfl rfl hG)
  ·intro L9 α a9 u9 K9 hL hcl hA hG hS h0 h1 hK
   replace hL : L9 12 = false := hL
   have q317 : a9.tmps[317]? = some (vP pt) := hS 11 317 (by decide) rfl (by show 317 < 345; decide)
   have s317 := Rega.eval_of q317
   have q315 : a9.tmps[315]? = some (bF) := hS 9 315 (by decide) rfl (by show 315 < 345; decide)
   have s315 := Rega.eval_of q315
   go_simp
   exact hK _ α _ (fun _ _ => rfl) rfl (step_same (st9) hL hcl rfl rfl hG)
  ·intro L9 α a9 u9 K9 hL hcl hA hG hS h0 h1 hK
   replace hL : L9 13 = false := hL
   have q318 : a9.tmps[318]? = some (.pointer (some ⟨pt, 3, none⟩)) := hS 12 318 (by decide) rfl (by show 318 < 345; decide)
   have s318 := Rega.eval_of q318
   have q315 : a9.tmps[315]? = some (bF) := hS 9 315 (by decide) rfl (by show 315 < 345; decide)
   have s315 := Rega.eval_of q315
   have e0 : R9 L9 α 1999 = row (pt) 107 QC2 := rfl
   have hr := hG.rowAt 1999 (act_base 1999 rfl) e0
   have c0 : u9.cell? ⟨pt, 3, none⟩ = some (.slice (some ⟨db, 0, none⟩) 4 (4 + cd)) := hr.cell (hq3)
   clear hr e0
   go_simp
   exact hK _ α _ (fun _ _ => rfl) rfl (step_same (st9) hL hcl rfl rfl hG)
  ·intro L9 α a9 u9 K9 hL hcl hA hG hS h0 h1 hK
   replace hL : L9 14 = false := hL
   have q17 : a9.tmps[17]? = some (.int .i64 0) := (h0 17 (by kernel_rfl)).trans rfl
   have s17 := Rega.eval_of q17
   have q315 : a9.tmps[315]? = some (bF) := hS 9 315 (by decide) rfl (by show 315 < 345; decide)
   have s315 := Rega.eval_of q315
   go_simp
   exact hK _ α _ (fun _ _ => rfl) rfl (step_same (st9) hL hcl rfl rfl hG)
  ·intro L9 α a9 u9 K9 hL hcl hA hG hS h0 h1 hK
   replace hL : L9 15 = false := hL
   have q319 : a9.tmps[319]? = some (.slice (some ⟨db, 0, none⟩) 4 (4 + cd)) := hS 13 319 (by decide) rfl (by show 319 < 345; decide)
   have s319 := Rega.eval_of q319
   have q320 : a9.tmps[320]? = some (.int .i64 0) := hS 14 320 (by decide) rfl (by show 320 < 345; decide)
   have s320 := Rega.eval_of q320
   have q315 : a9.tmps[315]? = some (bF) := hS 9 315 (by decide) rfl (by show 315 < 345; decide)
   have s315 := Rega.eval_of q315
   go_simp
   exact hK _ α _ (fun _ _ => rfl) rfl (step_same (st9) hL hcl rfl rfl hG)
  ·intro L9 α a9 u9 K9 hL hcl hA hG hS h0 h1 hK
   replace hL : L9 16 = false := hL
   have q321 : a9.tmps[321]? = some (vP db) := hS 15 321 (by decide) rfl (by show 321 < 345; decide)
   have s321 := Rega.eval_of q321
   have q315 : a9.tmps[315]? = some (bF) := hS 9 315 (by decide) rfl (by show 315 < 345; decide)
   have s315 := Rega.eval_of q315
   go_simp
   exact hK _ α _ (fun _ _ => rfl) rfl (step_same (st9) hL hcl rfl rfl hG)
  ·intro L9 α a9 u9 K9 hL hcl hA hG hS h0 h1 hK
   replace hL : L9 17 = false := hL
   have q322 : a9.tmps[322]? = some (vP db) := hS 16 322 (by decide) rfl (by show 322 < 345; decide)
   have s322 := Rega.eval_of q322
   have q315 : a9.tmps[315]? = some (bF) := hS 9 315 (by decide) rfl (by show 315 < 345; decide)
   have s315 := Rega.eval_of q315
   have e0 : R9 L9 α 2999 = row (db) 113 (full dsyZ [vU src, vU g0, bF, vU src, vU d1, bF, vU src, vU d2, bF, vU src, vU d3, bF] cd) := rfl
   have hr := hG.rowAt 2999 (act_base 2999 rfl) e0
   have c0 : u9.cell? ⟨db, 0, none⟩ = some (vU src) := hr.cell ((full_at rfl))
   have c1 : u9.cell? ⟨db, 1, none⟩ = some (vU g0) := hr.cell ((full_at rfl))
   clear hr e0
   go_simp
   exact hK _ α _ (fun _ _ => rfl) rfl (step_same (st9) hL hcl rfl rfl hG)
  ·intro L9 α a9 u9 K9 hL hcl hA hG hS h0 h1 hK
   replace hL : L9 18 = false := hL
   have q10 : a9.tmps[10]? = some (vP kb) := (h0 10 (by kernel_rfl)).trans rfl
   have s10 := Rega.eval_of q10
   have q315 : a9.tmps[315]? = some (bF) := hS 9 315 (by decide) rfl (by show 315 < 345; decide)
   have s315 := Rega.eval_of q315
   have e0 : R9 L9 α 999 = row (kb) 31 #[vU src, vU g0] := rfl
   have hr := hG.rowAt 999 (act_base 999 rfl) e0
   have c0 : u9.cell? ⟨kb, 0, none⟩ = some (vU src) := hr.cell rfl
   have c1 : u9.cell? ⟨kb, 1, none⟩ = some (vU g0) := hr.cell rfl
   clear hr e0
   go_simp
   exact hK _ α _ (fun _ _ => rfl) rfl (step_same (st9) hL hcl rfl rfl hG)
  ·intro L9 α a9 u9 K9 hL hcl hA hG hS h0 h1 hK
   replace hL : L9 19 = false := hL
   have q323 : a9.tmps[323]? = some (.agg #[vU src, vU g0]) := hS 17 323 (by decide) rfl (by show 323 < 345; decide)
   have s323 := Rega.eval_of q323
   have q324 : a9.tmps[324]? = some (.agg #[vU src, vU g0]) := hS 18 324 (by decide) rfl (by show 324 < 345; decide)
   have s324 := Rega.eval_of q324
   have q315 : a9.tmps[315]? = some (bF) := hS 9 315 (by decide) rfl (by show 315 < 345; decide)
   have s315 := Rega.eval_of q315
   go_simp
   exact hK _ α _ (fun _ _ => rfl) rfl (step_same (st9) hL hcl rfl rfl hG)
  ·intro L9 α a9 u9 K9 hL hcl hA hG hS h0 h1 hK
   replace hL : L9 20 = false := hL
   have q315 : a9.tmps[315]? = some (bF) := hS 9 315 (by decide) rfl (by show 315 < 345; decide)
   have s315 := Rega.eval_of q315
   have q325 : a9.tmps[325]? = some (bF) := hS 19 325 (by decide) rfl (by show 325 < 345; decide)
   have s325 := Rega.eval_of q325
   go_simp
   exact hK _ α _ (fun _ _ => rfl) rfl (step_same (st9) hL hcl rfl rfl hG)
 clear st9
 intro α u hG
 have e0 : R9 (fun k => decide (k < 21)) α 999 = row (kb) 31 #[vU src, vU g0] := rfl
 have e1 : R9 (fun k => decide (k < 21)) α 1999 = row (pt) 107 QC2 := rfl
 have e2 : R9 (fun k => decide (k < 21)) α 2999 = row (db) 113 (full dsyZ [vU src, vU g0, bF, vU src, vU d1, bF, vU src, vU d2, bF, vU src, vU d3, bF] cd) := rfl
 have hO : Own w0 u [row (kb) 31 #[vU src, vU g0], row (pt) 107 QC2, row (db) 113 (full dsyZ [vU src, vU g0, bF, vU src, vU d1, bF, vU src, vU d2, bF, vU src, vU d3, bF] cd)] X9_4 := (hG.list [999, 1999, 2999] (by decide) (act_all (by decide))).conv (by
  show [R9 (fun k => decide (k < 21)) α 999, R9 (fun k => decide (k < 21)) α 1999, R9 (fun k => decide (k < 21)) α 2999] = _
  rw [e0, e1, e2])
 clear hG e0 e1 e2 R9
 generalize hfr : Rega.frameAt _ _ _ _ _ = fr
 have hdf : fr = ⟨#[A0, A1, bF, A2, A3, A4, u6, A6, vP cs, A7, vP kb, A8, A9, AA, AB, vP pt, .int .i64 0, .int .i64 0, AC, AD, .slice so2 il co2, AE, AF, AG, AH, AI, AJ, vP yb, .int .i64 1, .int .i64 (il : Int), .int .i64 4, AN, AO, AP, AQ, AR, AS, AT, AU, AV, AW, AX, AY, AZ, B0, B1, B2, B3, B4, B5, B6, B7, B8, B9, BA, BB, BC, BD, BE, BF, BG, BH, BI, BJ, BK, BL, BM, BN, BO, BP, BQ, BR, BS, BT, BU, BV, BW, BX, BY, BZ, C0, C1, C2, C3, C4, C5, C6, C7, C8, C9, CA, CB, CC, CD, CE, CF, CG, CH, CI, CJ, CK, CL, CM, CN, CO, CP, CQ, CR, CS, CT, CU, CV, CW, CX, CY, CZ, E0, E1, E2, E3, E4, E5, E6, E7, E8, E9, EA, EB, EC, ED, EE, EF, EG, EH, EI, EJ, EK, EL, EM, EN, EO, EP, EQ, ER, ES, ET, EU, EV, EW, EX, EY, EZ, F0, F1, F2, F3, F4, F5, F6, F7, F8, F9, FA, FB, FC, FD, FE, FF, FG, FH, FI, FJ, FK, FL, FM, FN, FO, FP, FQ, FR, FS, FT, FU, FV, FW, FX, FY, FZ, G0, G1, G2, G3, G4, G5, G6, G7, G8, G9, GA, GB, GC, GD, GE, GF, GG, GH, GI, GJ, GK, GL, GM, GN, GO, GP, GQ, GR, GS, GT, GU, GV, GW, GX, GY, GZ, I0, I1, I2, I3, I4, I5, I6, I7, I8, I9, IA, IB, IC, ID, IE, IF, IG, IH, bF, vP yb, vP yb, .pointer (some ⟨yb, 1, none⟩), vP yf, vP yf, vP yf, vP yf, .slice (some ⟨fb, 0, none⟩) 1 1, .int .i64 1, .int .i64 1, bF, bF, vP yb, vP yb, .pointer (some ⟨yb, 2, none⟩), .pointer (some ⟨yb, 2, none⟩), .slice sa il n, .int .i64 (il : Int), .slice so2 il co2, .int .i64 (il : Int), bF, bF, .int .i64 (il : Int), .slice so2 il co2, .int .i64 (il : Int), bF, u269, u270, u271, u272, u273, u274, u275, u276, u277, u278, u279, u280, u281, u282, u283, u284, u285, bF, vP cs, vP cs, .pointer (some ⟨cs, 5, none⟩), .slice (some ⟨gb2, 0, none⟩) 4 (4 + cg2), .int .i64 4, .int .i64 0, .int .i64 4, bF, bF, vP cs, vP cs, .pointer (some ⟨cs, 5, none⟩), .slice (some ⟨gb2, 0, none⟩) 4 (4 + cg2), .int .i64 0, vP gb2, .agg #[vU src, vU g0], .agg #[vU src, vU g0], bF, bF, vP pt, vP pt, .pointer (some ⟨pt, 3, none⟩), .slice (some ⟨db, 0, none⟩) 4 (4 + cd), .int .i64 4, .int .i64 0, .int .i64 4, .int .i64 4, bF, bF, vP pt, vP pt, .pointer (some ⟨pt, 3, none⟩), .slice (some ⟨db, 0, none⟩) 4 (4 + cd), .int .i64 0, vP db, vP db, .agg #[vU src, vU g0], .agg #[vU src, vU g0], bF, bF, MV, MW, MX, MY, MZ, N0, N1, N2, N3, N4, N5, N6, N7, N8, N9, NA, NB, NC], []⟩ := by rw [← hfr]; kernel_rfl
 clear hfr
 subst hdf
 clear α
 subst hX9_4
 have hN : Own w0 u [row (kb) 31 #[vU src, vU g0], row (pt) 107 QC2, row (db) 113 (full dsyZ [vU src, vU g0, bF, vU src, vU d1, bF, vU src, vU d2, bF, vU src, vU d3, bF] cd), row (cs) 99 KC2, row (gb2) 31 (full refZ [vU src, vU g0, vU src, vU g1, vU src, vU g2, vU src, vU g3] cg2)] X := hO.back HL.out HX.out [0, 1] (by decide) (by decide)
 clear hO HL HX
 have hO := hN
 clear hN
 obtain ⟨c9_0_0, c9_0_1, lt9_0, y9_0, -⟩ := hO.k2 0 rfl
 have HO := Lib.hid hO
 clear hO
 go_wp2_with (first | (with_reducible refine Own.stay (fn := Tryd.f6) ?_) | fail)
 try with_reducible refine Own.Stay.mk ?_
 have hO := HO.out
 clear HO c9_0_0 c9_0_1 lt9_0 y9_0
 have hN : Own w0 u [row (pt) 107 QC2, row (db) 113 (full dsyZ [vU src, vU g0, bF, vU src, vU d1, bF, vU src, vU d2, bF, vU src, vU d3, bF] cd)] X := hO.sub [1, 2] (by decide)
 clear hO
 have hO := hN
 clear hN
 go_loopg [31] 4 (fun gf s31 wx => ∃ j : Nat, j + gf = 4 ∧ s31 = .int .i64 (j : Int) ∧ Own w0 wx [row (pt) 107 QC2, row (db) 113 (full dsyZ [vU src, vU g0, bF, vU src, vU d1, bF, vU src, vU d2, bF, vU src, vU d3, bF] cd)] X)
 case atStart => exact ⟨0, by omega, rfl, hO⟩
 obtain ⟨j, hjm, rfl, hO⟩ := hrel
 by_cases hlt : j < 4
 ·skip
  obtain ⟨gq, rfl⟩ : ∃ gq, gk = gq + 1 := ⟨gk - 1, by omega⟩
  have hlt9 : (j : Int) < 4 := by omega
  have hj8 : (0 : Int) ≤ (j : Int) := by omega
  have hj7 : (j : Int) ≤ 4096 := by omega
  have hdb : ([vU src, vU g0, bF, vU src, vU d1, bF, vU src, vU d2, bF, vU src, vU d3, bF] : List Value)[j * 3 + 2]? = some (bF) := by
   match j, hlt with
   | 0, _ => rfl
   | 1, _ => rfl
   | 2, _ => rfl
   | 3, _ => rfl
   | j + 4, h => exact absurd h (by omega)
  have HDB := Lib.hid hdb
  clear hdb
  obtain ⟨ix9, hix9, hax9, hjx9⟩ := hO.ix
  have ix9_0 : ix9 pt = 0 := hjx9 0 _ _ rfl
  have ix9_1 : ix9 db = 1 := hjx9 1 _ _ rfl
  clear hjx9
  have c9_0_3 : wr.cell? ⟨pt, 3, none⟩ = some (.slice (some ⟨db, 0, none⟩) 4 (4 + cd)) := hO.cell 0 rfl (3) (hq3)
  have lt9_0 : pt < wr.heap.size := hO.lt 0 rfl
  have y9_0 : ∀ o, wr.frozen? ⟨pt, o, none⟩ = false := hO.free 0 rfl
  have c9_1_j_3_2 : wr.cell? ⟨db, j * 3 + 2, none⟩ = some (bF) := hO.cell 1 rfl (j * 3 + 2) ((full_at HDB.out))
  have lt9_1 : db < wr.heap.size := hO.lt 1 rfl
  have y9_1 : ∀ o, wr.frozen? ⟨db, o, none⟩ = false := hO.free 1 rfl
  have HO := Lib.hid hO
  clear hO
  go_wp2_with (first | (with_reducible refine Own.stay (fn := Tryd.f6) ?_) | fail)
  try with_reducible refine Own.Stay.mk ?_
  have hO := HO.out
  clear HO hix9 hax9 ix9_0 ix9_1 ix9 c9_0_3 lt9_0 y9_0 c9_1_j_3_2 lt9_1 y9_1
  go_roundg gq
  case measure => omega
  case rel => exact ⟨j + 1, by omega, by first | rfl | simp, hO.sub [0, 1] (by decide)⟩
 obtain rfl : j = 4 := by omega
 have hlt9 : ¬ ((4 : Nat) : Int) < 4 := by omega
 obtain ⟨ix9, hix9, hax9, hjx9⟩ := hO.ix
 have ix9_0 : ix9 pt = 0 := hjx9 0 _ _ rfl
 have ix9_1 : ix9 db = 1 := hjx9 1 _ _ rfl
 clear hjx9
 have c9_0_3 : wr.cell? ⟨pt, 3, none⟩ = some (.slice (some ⟨db, 0, none⟩) 4 (4 + cd)) := hO.cell 0 rfl (3) (hq3)
 have lt9_0 : pt < wr.heap.size := hO.lt 0 rfl
 have y9_0 : ∀ o, wr.frozen? ⟨pt, o, none⟩ = false := hO.free 0 rfl
 have c9_1_0 : wr.cell? ⟨db, 0, none⟩ = some (vU src) := hO.cell 1 rfl (0) ((full_at rfl))
 have c9_1_1 : wr.cell? ⟨db, 1, none⟩ = some (vU g0) := hO.cell 1 rfl (1) ((full_at rfl))
 have c9_1_2 : wr.cell? ⟨db, 2, none⟩ = some (bF) := hO.cell 1 rfl (2) ((full_at rfl))
 have c9_1_3 : wr.cell? ⟨db, 3, none⟩ = some (vU src) := hO.cell 1 rfl (3) ((full_at rfl))
 have c9_1_4 : wr.cell? ⟨db, 4, none⟩ = some (vU d1) := hO.cell 1 rfl (4) ((full_at rfl))
 have c9_1_5 : wr.cell? ⟨db, 5, none⟩ = some (bF) := hO.cell 1 rfl (5) ((full_at rfl))
 have c9_1_6 : wr.cell? ⟨db, 6, none⟩ = some (vU src) := hO.cell 1 rfl (6) ((full_at rfl))
 have c9_1_7 : wr.cell? ⟨db, 7, none⟩ = some (vU d2) := hO.cell 1 rfl (7) ((full_at rfl))
 have c9_1_8 : wr.cell? ⟨db, 8, none⟩ = some (bF) := hO.cell 1 rfl (8) ((full_at rfl))
 have c9_1_9 : wr.cell? ⟨db, 9, none⟩ = some (vU src) := hO.cell 1 rfl (9) ((full_at rfl))
 have c9_1_10 : wr.cell? ⟨db, 10, none⟩ = some (vU d3) := hO.cell 1 rfl (10) ((full_at rfl))
 have c9_1_11 : wr.cell? ⟨db, 11, none⟩ = some (bF) := hO.cell 1 rfl (11) ((full_at rfl))
 have lt9_1 : db < wr.heap.size := hO.lt 1 rfl
 have y9_1 : ∀ o, wr.frozen? ⟨db, o, none⟩ = false := hO.free 1 rfl
 have HO := Lib.hid hO
 clear hO
 go_wp2_with (first | (with_reducible refine Own.stay (fn := Tryd.f6) ?_) | fail)
 try with_reducible refine Own.Stay.mk ?_
 have hO := HO.out
 clear HO hix9 hax9 ix9_0 ix9_1 ix9 c9_0_3 lt9_0 y9_0 c9_1_0 c9_1_1 c9_1_2 c9_1_3 c9_1_4 c9_1_5 c9_1_6 c9_1_7 c9_1_8 c9_1_9 c9_1_10 c9_1_11 lt9_1 y9_1
 exact HP.out _ (hO.sub [] (by decide))
end Go.Proofs.YtikopplofkemlaaDoor.Use
