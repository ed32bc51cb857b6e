/- Several texts in one. No condition. -/
import Derived.Test.YtikopplofkemlaaDoorCps
import Derived.Test.YtikopplofkemlaaDoorSetup
namespace Go.Proofs.YtikopplofkemlaaDoor.Use
open Go.ChangeShapes Go.WideShapes Go.ChangeAt Go.RowKit Go.Sort Own
set_option linter.unusedVariables false
noncomputable def rest40 : Code := cutC 14 (Tryd.f3.body.getD .skip)
def Hb400 (n : Nat) (z : Nat → ByteArray) (w0 : World) (X : Nat → Obj → Prop) (Q : Exit → Act → World → Prop) : Prop :=
 ∀ (pb sb c pt mu mp cs ms kx kr nb rb lb tb : Nat) (PC : Array Value) (D : Nat → Nat → Nat) ⦃A0 A1 A2 A3 A4 A5 A6 A7 A8 A9 AA AB AC AD AE AF AG AH AI AJ AK AL AM AN AO AP AQ AR AS AT AU AV AW AX AY AZ B0 B1 B2 B3 B4 B5 B6 B7 B8 B9 BA BB BC BD BE BF BG BH BI BJ BK BL BM BN BO BP BQ BR BS BT BU BV BW BX BY BZ C0 C1 C2 C3 C4 C5 C6 C7 C8 C9 CA CB CC CD CE CF CG CH CI CJ CK CL CM CN CO CP CQ CR CS CT CU CV CW CX CY CZ E0 E1 E2 E3 E4 E5 E6 E7 E8 E9 EA EB EC ED EE EF EG EH EI EJ EK EL EM EN EO EP EQ ER ES ET EU EV EW EX EY EZ F0 F1 F2 F3 F4 F5 F6 F7 F8 F9 FA FB FC FD FE FF FG FH FI FJ FK FL FM FN FO FP FQ FR FS FT FU FV FW FX FY FZ G0 G1 G2 G3 G4 G5 G6 G7 G8 G9 GA GB GC GD GE GF GG GH GI GJ GK GL GM GN GO GP GQ GR GS GT GU GV GW GX GY GZ I0 I1 I2 I3 I4 I5 I6 I7 I8 I9 IA IB IC ID IE IF IG IH II IJ IK IL IM IN IO IP IQ IR IS IT IU IV IW IX IY IZ J0 J1 J2 J3 J4 J5 J6 J7 J8 J9 JA JB JC JD JE JF JG JH JI JJ : Value⦄ ⦃w2 : World⦄, PC[350]? = some (bF) → PC[32]? = some (bF) → PC[105]? = some (vP pt) → PC[66]? = some (vU 0) → PC[117]? = some (.map (some mp)) → PC[187]? = some (vP ms) → PC[104]? = some (vP cs) → PC[333]? = some (bF) → PC[23]? = some (.int .u64 0) → PC[106]? = some (vS sb (n + 1) (n + 1 + c)) → n ≤ 4096 → InjD D n → SepD X D n → Own w0 w2 [row (pb) 252 PC, row (sb) 260 (full symZ (symL (stX z n)) c), row (rb) 31 (rfR n 0), row (lb) 42 (loR D n 0), row (tb) 61 (sxR D n 0), row (nb) 9 (nmR z n 0), row (kx) 33 #[vI 7, vU 0, vU 0, bF], row (kr) 31 #[vU 0, vU 0], row (pt) 107 #[vN, vN, vN, vN, .map (some mu), .map none, .map none, vN, bF, bF, bF], ((mu, .map (uA ([])) (uN ([]))) : Rw), ((mp, .map #[] 0) : Rw), row (cs) 99 #[vO, vP ms, vN, .map none, vN, vN, vI 0, vI 0, vU 0, vU 0, bF, bF, bF, bF, v8 0, v8 8], row (ms) 99 #[vO, vO, vN, .map none, vN, vN, vI 0, vI 0, vU 0, vU 0, bF, bF, bF, bF, v8 0, v8 6]] (NodX X D 0 n) → Code.wp Tryd.prog rest40 Q ⟨#[vS nb n n, bF, A0, A1, A2, A3, A4, vP pb, vP cs, vP kx, vP kr, v6 (n : Int), vS rb n n, vS lb n n, vS tb n n, A5, A6, A7, A8, A9, AA, AB, AC, AD, AE, AF, AG, AH, AI, AJ, AK, AL, AM, AN, AO, AP, AQ, AR, AS, AT, AU, AV, AW, AX, AY, AZ, B0, B1, B2, B3, B4, B5, B6, B7, B8, B9, BA, BB, BC, BD, BE, BF, BG, BH, BI, BJ, BK, BL, BM, BN, BO, BP, BQ, BR, BS, BT, BU, BV, BW, BX, BY, BZ, C0, C1, C2, C3, C4, C5, C6, C7, C8, C9, CA, CB, CC, CD, CE, CF, CG, CH, CI, CJ, CK, CL, CM, CN, CO, CP, CQ, CR, CS, CT, CU, CV, CW, CX, CY, CZ, E0, E1, E2, E3, E4, E5, E6, E7, E8, E9, EA, EB, EC, ED, EE, EF, EG, EH, EI, EJ, EK, EL, EM, EN, EO, EP, EQ, ER, ES, ET, EU, EV, EW, EX, EY, EZ, F0, F1, F2, F3, F4, F5, F6, F7, F8, F9, FA, FB, FC, FD, FE, FF, FG, FH, FI, FJ, FK, FL, FM, FN, FO, FP, FQ, FR, FS, FT, FU, FV, FW, FX, FY, FZ, G0, G1, G2, G3, G4, G5, G6, G7, G8, G9, GA, GB, GC, GD, GE, GF, GG, GH, GI, GJ, GK, GL, GM, GN, GO, GP, GQ, GR, GS, GT, GU, GV, GW, GX, GY, GZ, I0, I1, I2, I3, I4, I5, I6, I7, I8, I9, IA, IB, IC, ID, IE, IF, IG, IH, II, IJ, IK, IL, IM, IN, IO, IP, IQ, IR, IS, IT, IU, IV, IW, IX, IY, IZ, J0, J1, J2, J3, J4, J5, J6, J7, J8, J9, JA, JB, JC, JD, JE, JF, JG, JH, JI, JJ], []⟩ w2
def Hb401 (n : Nat) (z : Nat → ByteArray) (w0 : World) (X : Nat → Obj → Prop) (Q : Exit → Act → World → Prop) : Prop :=
 ∀ (pb sb c pt mu mp cs ms kx kr nb rb lb tb : Nat) (PC : Array Value) (D : Nat → Nat → Nat) ⦃A0 A1 A2 A3 A4 A5 A6 A7 A8 A9 AA AB AC AD AE AF AG AH AI AJ AK AL AM AN AO AP AQ AR AS AT AU AV AW AX AY AZ B0 B1 B2 B3 B4 B5 B6 B7 B8 B9 BA BB BC BD BE BF BG BH BI BJ BK BL BM BN BO BP BQ BR BS BT BU BV BW BX BY BZ C0 C1 C2 C3 C4 C5 C6 C7 C8 C9 CA CB CC CD CE CF CG CH CI CJ CK CL CM CN CO CP CQ CR CS CT CU CV CW CX CY CZ E0 E1 E2 E3 E4 E5 E6 E7 E8 E9 EA EB EC ED EE EF EG EH EI EJ EK EL EM EN EO EP EQ ER ES ET EU EV EW EX EY EZ F0 F1 F2 F3 F4 F5 F6 F7 F8 F9 FA FB FC FD FE FF FG FH FI FJ FK FL FM FN FO FP FQ FR FS FT FU FV FW FX FY FZ G0 G1 G2 G3 G4 G5 G6 G7 G8 G9 GA GB GC GD GE GF GG GH GI GJ GK GL GM GN GO GP GQ GR GS GT GU GV GW GX GY GZ I0 I1 I2 I3 I4 I5 I6 I7 I8 I9 IA IB IC ID IE IF IG IH II IJ IK IL IM IN IO IP IQ IR IS IT IU IV IW IX IY IZ J0 J1 J2 J3 J4 J5 J6 J7 J8 J9 JA JB JC JD JE JF JG JH JI JJ : Value⦄ ⦃w2 : World⦄, PC[350]? = some (bF) → PC[32]? = some (bF) → PC[105]? = some (vP pt) → PC[66]? = some (vU 0) → PC[117]? = some (.map (some mp)) → PC[187]? = some (vP ms) → PC[104]? = some (vP cs) → PC[333]? = some (bF) → PC[23]? = some (.int .u64 0) → PC[106]? = some (vS sb (n + 1) (n + 1 + c)) → n ≤ 4096 → InjD D n → SepD X D n → Own w0 w2 [row (pb) 252 PC, row (sb) 260 (full symZ (symL (stX z n)) c), row (rb) 31 (rfR n 0), row (lb) 42 (loR D n 0), row (tb) 61 (sxR D n 0), row (nb) 9 (nmR z n 0), row (kx) 33 #[vI 7, vU 0, vU 0, .bool true], row (kr) 31 #[vU 0, vU 0], row (pt) 107 #[vN, vN, vN, vN, .map (some mu), .map none, .map none, vN, bF, bF, bF], ((mu, .map (uA ([])) (uN ([]))) : Rw), ((mp, .map #[] 0) : Rw), row (cs) 99 #[vO, vP ms, vN, .map none, vN, vN, vI 0, vI 0, vU 0, vU 0, bF, bF, bF, bF, v8 0, v8 8], row (ms) 99 #[vO, vO, vN, .map none, vN, vN, vI 0, vI 0, vU 0, vU 0, bF, bF, bF, bF, v8 0, v8 6]] (NodX X D 0 n) → Code.wp Tryd.prog rest40 Q ⟨#[vS nb n n, .bool true, A0, A1, A2, A3, A4, vP pb, vP cs, vP kx, vP kr, v6 (n : Int), vS rb n n, vS lb n n, vS tb n n, A5, A6, A7, A8, A9, AA, AB, AC, AD, AE, AF, AG, AH, AI, AJ, AK, AL, AM, AN, AO, AP, AQ, AR, AS, AT, AU, AV, AW, AX, AY, AZ, B0, B1, B2, B3, B4, B5, B6, B7, B8, B9, BA, BB, BC, BD, BE, BF, BG, BH, BI, BJ, BK, BL, BM, BN, BO, BP, BQ, BR, BS, BT, BU, BV, BW, BX, BY, BZ, C0, C1, C2, C3, C4, C5, C6, C7, C8, C9, CA, CB, CC, CD, CE, CF, CG, CH, CI, CJ, CK, CL, CM, CN, CO, CP, CQ, CR, CS, CT, CU, CV, CW, CX, CY, CZ, E0, E1, E2, E3, E4, E5, E6, E7, E8, E9, EA, EB, EC, ED, EE, EF, EG, EH, EI, EJ, EK, EL, EM, EN, EO, EP, EQ, ER, ES, ET, EU, EV, EW, EX, EY, EZ, F0, F1, F2, F3, F4, F5, F6, F7, F8, F9, FA, FB, FC, FD, FE, FF, FG, FH, FI, FJ, FK, FL, FM, FN, FO, FP, FQ, FR, FS, FT, FU, FV, FW, FX, FY, FZ, G0, G1, G2, G3, G4, G5, G6, G7, G8, G9, GA, GB, GC, GD, GE, GF, GG, GH, GI, GJ, GK, GL, GM, GN, GO, GP, GQ, GR, GS, GT, GU, GV, GW, GX, GY, GZ, I0, I1, I2, I3, I4, I5, I6, I7, I8, I9, IA, IB, IC, ID, IE, IF, IG, IH, II, IJ, IK, IL, IM, IN, IO, IP, IQ, IR, IS, IT, IU, IV, IW, IX, IY, IZ, J0, J1, J2, J3, J4, J5, J6, J7, J8, J9, JA, JB, JC, JD, JE, JF, JG, JH, JI, JJ], []⟩ w2

end Go.Proofs.YtikopplofkemlaaDoor.Use
namespace Go.Proofs.YtikopplofkemlaaDoor.Use
open Go.ChangeShapes Go.WideShapes Go.ChangeAt Go.RowKit Go.Sort Own
set_option linter.unusedVariables false
noncomputable def rest40e : Code := cutC 26 (Tryd.f3.body.getD .skip)

def asXclPost (nb : Nat) (l0 : Int) (w0 : World) (X : Nat → Obj → Prop) (e : Ending) (w' : World) : Prop :=
 e = .returned (vP nb) ∧ Own w0 w' [] X
set_option maxRecDepth 100000 in
set_option maxHeartbeats 1000000 in
theorem asXcl (nb : Nat) (l0 : Int) (w0 w : World) (X : Nat → Obj → Prop) (hO : Own w0 w [] X)  :
  Calls Tryd.prog 18 #[.agg #[vF 69 nb, vI l0]] w (asXclPost nb l0 w0 X) := by
 go_enter Tryd.func18, Tryd.ntmps18
 go_wp2_with (first | (with_reducible refine Own.stay (fn := Tryd.f18) ?_) | fail)
 try with_reducible refine Own.Stay.mk ?_
 generalize hW : World.alloc _ _ = W2
 have hN : Own w0 W2 [row (w.heap.size) 61 #[vF 69 nb, vI l0]] X := by
  rw [← hW]
  exact (hO).alloc' _ (w.heap.size) (by simp)
 clear hW hO
 generalize w.heap.size = B1 at hN ⊢
 have hO := hN
 clear hN
 refine bodyPost_ret (v := vP nb) ?_ rfl ⟨rfl, hO.sub [] dc⟩
 simp [results, Tryd.results18, go_sem]
def asXclNPost (nb : Nat) (l0 : Int) (w0 : World) (X : Nat → Obj → Prop) (e : Ending) (w' : World) : Prop :=
 e = .returned (vO) ∧ Own w0 w' [] X
set_option maxRecDepth 100000 in
set_option maxHeartbeats 1000000 in
theorem asXclN (nb : Nat) (l0 : Int) (w0 w : World) (X : Nat → Obj → Prop) (hO : Own w0 w [] X)  :
  Calls Tryd.prog 18 #[.agg #[vF 67 nb, vI l0]] w (asXclNPost nb l0 w0 X) := by
 go_enter Tryd.func18, Tryd.ntmps18
 go_wp2_with (first | (with_reducible refine Own.stay (fn := Tryd.f18) ?_) | fail)
 try with_reducible refine Own.Stay.mk ?_
 generalize hW : World.alloc _ _ = W2
 have hN : Own w0 W2 [row (w.heap.size) 61 #[vF 67 nb, vI l0]] X := by
  rw [← hW]
  exact (hO).alloc' _ (w.heap.size) (by simp)
 clear hW hO
 generalize w.heap.size = B1 at hN ⊢
 have hO := hN
 clear hN
 refine bodyPost_ret (v := vO) ?_ rfl ⟨rfl, hO.sub [] dc⟩
 simp [results, Tryd.results18, go_sem]
end Go.Proofs.YtikopplofkemlaaDoor.Use
