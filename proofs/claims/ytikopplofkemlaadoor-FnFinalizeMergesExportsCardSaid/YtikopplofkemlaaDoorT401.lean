/- Row 40: finalize and the reads. No condition. -/
import Derived.Test.YtikopplofkemlaaDoorLp41
import Derived.Test.YtikopplofkemlaaDoorFid
namespace Go.Proofs.YtikopplofkemlaaDoor.Use
open Go.ChangeShapes Go.WideShapes Go.ChangeAt Go.RowKit Go.Sort Own
set_option linter.unusedVariables false

set_option maxRecDepth 100000 in
set_option maxHeartbeats 4000000 in
theorem t401 (n : Nat) (z : Nat → ByteArray) (D : Nat → Nat → Nat) (pb sb c pt mu mp cs ms kx kr nb rb lb tb : Nat) (PC : Array Value) {A0 A1 A2 A3 A4 A5 A6 A7 A8 A9 AA AB AC AD AE AF AG AH AI AJ AK AL AM AN AO AP AQ AR AS AT AU AV AW AX AY AZ B0 B1 B2 B3 B4 B5 B6 B7 B8 B9 BA BB BC BD BE BF BG BH BI BJ BK BL BM BN BO BP BQ BR BS BT BU BV BW BX BY BZ C0 C1 C2 C3 C4 C5 C6 C7 C8 C9 CA CB CC CD CE CF CG CH CI CJ CK CL CM CN CO CP CQ CR CS CT CU CV CW CX CY CZ E0 E1 E2 E3 E4 E5 E6 E7 E8 E9 EA EB EC ED EE EF EG EH EI EJ EK EL EM EN EO EP EQ ER ES ET EU EV EW EX EY EZ F0 F1 F2 F3 F4 F5 F6 F7 F8 F9 FA FB FC FD FE FF FG FH FI FJ FK FL FM FN FO FP FQ FR FS FT FU FV FW FX FY FZ G0 G1 G2 G3 G4 G5 G6 G7 G8 G9 GA GB GC GD GE GF GG GH GI GJ GK GL GM GN GO GP GQ GR GS GT GU GV GW GX GY GZ I0 I1 I2 I3 I4 I5 I6 I7 I8 I9 IA IB IC ID IE IF IG IH II IJ IK IL IM IN IO IP IQ IR IS IT IU IV IW IX IY IZ J0 J1 J2 J3 J4 J5 J6 J7 J8 J9 JA JB JC JD JE JF JG JH JI JJ : Value} (w0 w : World) (X : Nat → Obj → Prop) (Post : Ending → World → Prop) (hP : ∀ w3, Own w0 w3 [] X → Post (.returned (.bool true)) w3) (hO : Own w0 w [row (pb) 252 PC, row (sb) 260 (full symZ (symL (stX z n)) c), row (rb) 31 (rfR n 0), row (lb) 42 (loR D n 0), row (tb) 61 (sxR D n 0), row (nb) 9 (nmR z n 0), row (kx) 33 #[vI 7, vU 0, vU 0, .bool true], row (kr) 31 #[vU 0, vU 0], row (pt) 107 #[vN, vN, vN, vN, .map (some mu), .map none, .map none, vN, bF, bF, bF], ((mu, .map (uA ([])) (uN ([]))) : Rw), ((mp, .map #[] 0) : Rw), row (cs) 99 #[vO, vP ms, vN, .map none, vN, vN, vI 0, vI 0, vU 0, vU 0, bF, bF, bF, bF, v8 0, v8 8], row (ms) 99 #[vO, vO, vN, .map none, vN, vN, vI 0, vI 0, vU 0, vU 0, bF, bF, bF, bF, v8 0, v8 6]] (NodX X D 0 n)) (hf350 : PC[350]? = some (bF)) (hf32 : PC[32]? = some (bF)) (hf105 : PC[105]? = some (vP pt)) (hf66 : PC[66]? = some (vU 0)) (hf117 : PC[117]? = some (.map (some mp))) (hf187 : PC[187]? = some (vP ms)) (hf104 : PC[104]? = some (vP cs)) (hf333 : PC[333]? = some (bF)) (hf23 : PC[23]? = some (.int .u64 0)) (hf106 : PC[106]? = some (vS sb (n + 1) (n + 1 + c))) (hn4 : n ≤ 4096) (hij : InjD D n) (hsp : SepD X D n) (h0 : 0 < n) (hg0 : w0.cell? ⟨0, 0, none⟩ = some (vU 4294967295)) (hg1 : w0.cell? ⟨0, 1, none⟩ = some (vU 4294967295)) :
  Code.wp Tryd.prog rest40 (bodyPost Tryd.prog Tryd.f3 Post) ⟨#[vS nb n n, .bool true, A0, A1, A2, A3, A4, vP pb, vP cs, vP kx, vP kr, v6 (n : Int), vS rb n n, vS lb n n, vS tb n n, A5, A6, A7, A8, A9, AA, AB, AC, AD, AE, AF, AG, AH, AI, AJ, AK, AL, AM, AN, AO, AP, AQ, AR, AS, AT, AU, AV, AW, AX, AY, AZ, B0, B1, B2, B3, B4, B5, B6, B7, B8, B9, BA, BB, BC, BD, BE, BF, BG, BH, BI, BJ, BK, BL, BM, BN, BO, BP, BQ, BR, BS, BT, BU, BV, BW, BX, BY, BZ, C0, C1, C2, C3, C4, C5, C6, C7, C8, C9, CA, CB, CC, CD, CE, CF, CG, CH, CI, CJ, CK, CL, CM, CN, CO, CP, CQ, CR, CS, CT, CU, CV, CW, CX, CY, CZ, E0, E1, E2, E3, E4, E5, E6, E7, E8, E9, EA, EB, EC, ED, EE, EF, EG, EH, EI, EJ, EK, EL, EM, EN, EO, EP, EQ, ER, ES, ET, EU, EV, EW, EX, EY, EZ, F0, F1, F2, F3, F4, F5, F6, F7, F8, F9, FA, FB, FC, FD, FE, FF, FG, FH, FI, FJ, FK, FL, FM, FN, FO, FP, FQ, FR, FS, FT, FU, FV, FW, FX, FY, FZ, G0, G1, G2, G3, G4, G5, G6, G7, G8, G9, GA, GB, GC, GD, GE, GF, GG, GH, GI, GJ, GK, GL, GM, GN, GO, GP, GQ, GR, GS, GT, GU, GV, GW, GX, GY, GZ, I0, I1, I2, I3, I4, I5, I6, I7, I8, I9, IA, IB, IC, ID, IE, IF, IG, IH, II, IJ, IK, IL, IM, IN, IO, IP, IQ, IR, IS, IT, IU, IV, IW, IX, IY, IZ, J0, J1, J2, J3, J4, J5, J6, J7, J8, J9, JA, JB, JC, JD, JE, JF, JG, JH, JI, JJ], []⟩ w := by
 have HP := Lib.hid hP
 clear hP
 have H9hij := Lib.hid hij
 have H9hsp := Lib.hid hsp
 clear hij hsp
 obtain ⟨c9, hc9⟩ : ∃ c, c = rest40e := ⟨_, rfl⟩
 have HC9 := Lib.hid hc9
 simp only [rest40e, Tryd.f3, Option.getD_some, cutC] at hc9
 simp only [rest40, Tryd.f3, Option.getD_some, cutC]
 rw [← hc9]
 clear hc9
 have hn9 : (n : Int) ≤ 4096 := by omega
 have hn8 : (0 : Int) ≤ (n : Int) := by omega
 have h09 : (0 : Int) < (n : Int) := by omega
 replace hO : Own w0 w [row (pb) 252 PC, row (sb) 260 (full symZ (symL (stX z n)) c), row (rb) 31 (rfR n 0), row (lb) 42 (loR D n 0), row (tb) 61 (full stmZ (stL (dtL (D 0) lcE) (List.range n)) 0), row (nb) 9 (nmR z n 0), row (kx) 33 #[vI 7, vU 0, vU 0, .bool true], row (kr) 31 #[vU 0, vU 0], row (pt) 107 #[vN, vN, vN, vN, .map (some mu), .map none, .map none, vN, bF, bF, bF], ((mu, .map (uA ([])) (uN ([]))) : Rw), ((mp, .map #[] 0) : Rw), row (cs) 99 #[vO, vP ms, vN, .map none, vN, vN, vI 0, vI 0, vU 0, vU 0, bF, bF, bF, bF, v8 0, v8 8], row (ms) 99 #[vO, vO, vN, .map none, vN, vN, vI 0, vI 0, vU 0, vU 0, bF, bF, bF, bF, v8 0, v8 6]] (NodX X D 0 n) := hO.conv (by rw [sxR_stL])
 obtain ⟨aU, aV, ba, bb, aW, aX, -⟩ := hO.k4 6 rfl
 obtain ⟨ao, ap, aq, ar, -⟩ := hO.k2 7 rfl
 have HO := Lib.hid hO
 clear hO
 go_wp2_with (first | (with_reducible refine Own.stay (fn := Tryd.f3) ?_) | fail)
 try with_reducible refine Own.Stay.mk ?_
 have hO := HO.out
 clear HO aU aV ba bb aW aX ao ap aq ar
 obtain ⟨HL, HX⟩ := hid2 hO
 have hS9 := SepD.rest (is := [6, 0, 1, 10, 12, 8, 9, 11, 4]) H9hsp.out HX.out
 have T9 := finxd1 pb PC sb c (stX z n) (n + 1) 0 mp #[] 0 ms #[vO, vO, vN, .map none, vN, vN, vI 0, vI 0, vU 0, vU 0, bF, bF, bF, bF, v8 0, v8 6] pt #[vN, vN, vN, vN, .map (some mu), .map none, .map none, vN, bF, bF, bF] mu ([]) cs #[vO, vP ms, vN, .map none, vN, vN, vI 0, vI 0, vU 0, vU 0, bF, bF, bF, bF, v8 0, v8 8] kx 7 0 tb n 0 D z w0 w _ ((hO.pick [6, 0, 1, 10, 12, 8, 9, 11, 4] dc).weaken NodX.rest) hf350 hf32 hf105 hf66 hf117 hf187 hf104 hf333 hf23 hf106 (stX_len z n) (by first | assumption | omega | rfl) rfl rfl rfl rfl rfl (by first | assumption | omega | rfl) (by rfl) (by first | assumption | omega | rfl) h0 (fun i hi => stX_at z hi) H9hij.out hS9 (by first | assumption | omega | rfl) (by first | assumption | omega | rfl)
 refine Calls.mono T9 ?_
 clear T9
 rintro e u7 ⟨nd1, nd2, nd3, nd4, nd5, nd6, nd7, nd8, nd9, nd10, nd11, nd12, nd13, nd14, nd15, nd16, nd17, nd18, nd19, nd20, nd21, nd22, nd23, rfl, pr24, pr25, pr26, pr27, pr28, pr29, pr30, hQ⟩
 replace hO : Own w0 u7 [row (nd1) 61 (full stmZ [vF 42 nd3, vI 7, vF 67 nd7, vI 7, vF 69 nd17, vI 7] nd2), row (nd3) 57 #[vS nd4 1 1, v8 0, bF, bF], row (nd4) 54 #[vF 134 nd5, vI 7, vF 315 nd6, vI 7], row (nd5) 136 #[vU 0, vU 0], row (nd7) 76 #[vP nd8, vP nd9, vS tb n n, vI 0, vI 7], row (nd9) 116 #[vS nd10 2 2, vI 0, vI 7], row (pb) 252 nd20, row (nd11) 260 (full symZ (symL (bump (stF1 (stX z n) 0 (n + 1)) (n + 1))) nd12), row (pt) 107 nd21, ((mu, .map (uA nd23) (uN nd23)) : Rw), row (cs) 99 nd22, row (nd13) 31 (full refZ [vU 0, vU 0, vU 0, vU ((n + 1) : Int), vU 0, vU ((n + 1) + 1 : Int), vU 0, vU ((n + 1) + 1 + 1 : Int), vU 0, vU ((n + 1) + 1 + 1 + 1 + 1 : Int), vU 0, vU ((n + 1) + 1 + 1 + 1 + 1 : Int)] nd14), row (nd15) 113 (full dsyZ [vU 0, vU 0, bF, vU 0, vU ((n + 1) : Int), bF, vU 0, vU ((n + 1) + 1 : Int), bF, vU 0, vU ((n + 1) + 1 + 1 : Int), bF, vU 0, vU ((n + 1) + 1 + 1 + 1 + 1 : Int), bF] nd16), row (tb) 61 (full stmZ (stL (dtL (D 0) lcE) (List.range n)) 0), row (nd17) 79 #[vS nd18 n (n + nd19), bF], row (nd18) 83 (full cliZ (tab (exC z) n) nd19), row (rb) 31 (rfR n 0), row (lb) 42 (loR D n 0), row (nb) 9 (nmR z n 0), row (kr) 31 #[vU 0, vU 0]] (NodX X D n n) := NodX.back hQ hS9 HL.out (fun b o h => HX.out b o (Or.inl h)) [2, 3, 5, 7] dc dc
 clear hQ HL HX hS9
 replace hO : Own w0 u7 [row (nd1) 61 (full stmZ [vF 42 nd3, vI 7, vF 67 nd7, vI 7, vF 69 nd17, vI 7] nd2), row (nd3) 57 #[vS nd4 1 1, v8 0, bF, bF], row (nd4) 54 #[vF 134 nd5, vI 7, vF 315 nd6, vI 7], row (nd5) 136 #[vU 0, vU 0], row (nd7) 76 #[vP nd8, vP nd9, vS tb n n, vI 0, vI 7], row (tb) 61 (full stmZ (stL (dtL (D 0) lcE) (List.range n)) 0), row (nd17) 79 #[vS nd18 n (n + nd19), bF], row (nd18) 83 (full cliZ (tab (exC z) n) nd19), row (rb) 31 (rfR n 0), row (lb) 42 (loR D n 0), row (nb) 9 (nmR z n 0), row (kr) 31 #[vU 0, vU 0]] (NodX X D n n) := hO.sub [0, 1, 2, 3, 4, 13, 14, 15, 16, 17, 18, 19] dc
 obtain ⟨ix9, hix9, hax9, hjx9⟩ := hO.ix
 have aY := hjx9 0 _ _ rfl
 have aZ := hjx9 1 _ _ rfl
 have aa := hjx9 2 _ _ rfl
 have ab := hjx9 3 _ _ rfl
 have ac := hjx9 4 _ _ rfl
 have ad := hjx9 5 _ _ rfl
 have ae := hjx9 6 _ _ rfl
 have af := hjx9 7 _ _ rfl
 have ag := hjx9 8 _ _ rfl
 have ah := hjx9 9 _ _ rfl
 have ai := hjx9 10 _ _ rfl
 have aj := hjx9 11 _ _ rfl
 clear hjx9
 have au : Base.plainAt u7 (nd1) = true := hO.plain 0 rfl
 have ak : u7.cell? ⟨nd1, 0, none⟩ = some (vF 42 nd3) := hO.cell 0 rfl (0) ((full_at rfl))
 have al : u7.cell? ⟨nd1, 1, none⟩ = some (vI 7) := hO.cell 0 rfl (1) ((full_at rfl))
 have bc : u7.cell? ⟨nd1, 2, none⟩ = some (vF 67 nd7) := hO.cell 0 rfl (2) ((full_at rfl))
 have bd : u7.cell? ⟨nd1, 3, none⟩ = some (vI 7) := hO.cell 0 rfl (3) ((full_at rfl))
 have be : u7.cell? ⟨nd1, 4, none⟩ = some (vF 69 nd17) := hO.cell 0 rfl (4) ((full_at rfl))
 have bf : u7.cell? ⟨nd1, 5, none⟩ = some (vI 7) := hO.cell 0 rfl (5) ((full_at rfl))
 have am := hO.lt 0 rfl
 have an := hO.free 0 rfl
 obtain ⟨aA, aB, av, aw, aC, aD, -⟩ := hO.k4 1 rfl
 obtain ⟨aE, aF, aG, aH, aI, aJ, -⟩ := hO.k4 2 rfl
 obtain ⟨aK, aL, aM, aN, -⟩ := hO.k2 3 rfl
 obtain ⟨aO, aP, aQ, aR, ax, aS, aT, -⟩ := hO.k5 4 rfl
 have bE : Base.plainAt u7 (tb) = true := hO.plain 5 rfl
 obtain ⟨aU, aV, aW, aX, -⟩ := hO.k2 6 rfl
 have bG : Base.plainAt u7 (rb) = true := hO.plain 8 rfl
 obtain ⟨ay, az, bA, bB, bH⟩ := hO.k2 11 rfl
 have HO := Lib.hid hO
 clear hO
 go_wp2_with (first | (with_reducible refine Own.stay (fn := Tryd.f3) ?_) | fail)
 try with_reducible refine Own.Stay.mk ?_
 have hO := HO.out
 clear HO hix9 hax9 aY aZ aa ab ac ad ae af ag ah ai aj ix9 au ak al bc bd be bf am an aA aB av aw aC aD aE aF aG aH aI aJ aK aL aM aN aO aP aQ aR ax aS aT bE aU aV aW aX bG ay az bA bB bH
 obtain ⟨HL, HX⟩ := hid2 hO
 have hP9 := hO.pick [] dc
 have T9 := asLocal nd3 7 _ _ _ hP9 
 refine Calls.mono T9 ?_
 clear hP9 T9
 rintro e uw31 ⟨rfl, hQ⟩
 replace hO : Own w0 uw31 [row (nd1) 61 (full stmZ [vF 42 nd3, vI 7, vF 67 nd7, vI 7, vF 69 nd17, vI 7] nd2), row (nd3) 57 #[vS nd4 1 1, v8 0, bF, bF], row (nd4) 54 #[vF 134 nd5, vI 7, vF 315 nd6, vI 7], row (nd5) 136 #[vU 0, vU 0], row (nd7) 76 #[vP nd8, vP nd9, vS tb n n, vI 0, vI 7], row (tb) 61 (full stmZ (stL (dtL (D 0) lcE) (List.range n)) 0), row (nd17) 79 #[vS nd18 n (n + nd19), bF], row (nd18) 83 (full cliZ (tab (exC z) n) nd19), row (rb) 31 (rfR n 0), row (lb) 42 (loR D n 0), row (nb) 9 (nmR z n 0), row (kr) 31 #[vU 0, vU 0]] (NodX X D n n) := hQ.back HL.out HX.out [0, 1, 2, 3, 4, 5, 6, 7, 8, 9, 10, 11] dc dc
 clear hQ HL HX
 obtain ⟨aA, aB, av, aw, aC, aD, -⟩ := hO.k4 1 rfl
 obtain ⟨aE, aF, aG, aH, aI, aJ, -⟩ := hO.k4 2 rfl
 obtain ⟨aK, aL, aM, aN, -⟩ := hO.k2 3 rfl
 obtain ⟨aO, aP, aQ, aR, ax, aS, aT, -⟩ := hO.k5 4 rfl
 obtain ⟨aU, aV, aW, aX, -⟩ := hO.k2 6 rfl
 obtain ⟨ay, az, bA, bB, -⟩ := hO.k2 11 rfl
 have HO := Lib.hid hO
 clear hO
 go_wp2_with (first | (with_reducible refine Own.stay (fn := Tryd.f3) ?_) | fail)
 try with_reducible refine Own.Stay.mk ?_
 have hO := HO.out
 clear HO aA aB av aw aC aD aE aF aG aH aI aJ aK aL aM aN aO aP aQ aR ax aS aT aU aV aW aX ay az bA bB
 obtain ⟨HL, HX⟩ := hid2 hO
 have hP9 := hO.pick [3] dc
 have T9 := bindRef nd5 7 0 0 _ _ _ hP9 
 refine Calls.mono T9 ?_
 clear hP9 T9
 rintro e uw32 ⟨rfl, hQ⟩
 replace hO : Own w0 uw32 [row (nd5) 136 #[vU 0, vU 0], row (nd1) 61 (full stmZ [vF 42 nd3, vI 7, vF 67 nd7, vI 7, vF 69 nd17, vI 7] nd2), row (nd3) 57 #[vS nd4 1 1, v8 0, bF, bF], row (nd4) 54 #[vF 134 nd5, vI 7, vF 315 nd6, vI 7], row (nd7) 76 #[vP nd8, vP nd9, vS tb n n, vI 0, vI 7], row (tb) 61 (full stmZ (stL (dtL (D 0) lcE) (List.range n)) 0), row (nd17) 79 #[vS nd18 n (n + nd19), bF], row (nd18) 83 (full cliZ (tab (exC z) n) nd19), row (rb) 31 (rfR n 0), row (lb) 42 (loR D n 0), row (nb) 9 (nmR z n 0), row (kr) 31 #[vU 0, vU 0]] (NodX X D n n) := hQ.back HL.out HX.out [0, 1, 2, 4, 5, 6, 7, 8, 9, 10, 11] dc dc
 clear hQ HL HX
 obtain ⟨ix9, hix9, hax9, hjx9⟩ := hO.ix
 have aY := hjx9 0 _ _ rfl
 have aZ := hjx9 1 _ _ rfl
 have aa := hjx9 2 _ _ rfl
 have ab := hjx9 3 _ _ rfl
 have ac := hjx9 4 _ _ rfl
 have ad := hjx9 5 _ _ rfl
 have ae := hjx9 6 _ _ rfl
 have af := hjx9 7 _ _ rfl
 have ag := hjx9 8 _ _ rfl
 have ah := hjx9 9 _ _ rfl
 have ai := hjx9 10 _ _ rfl
 have aj := hjx9 11 _ _ rfl
 clear hjx9
 obtain ⟨ak, al, am, an, -⟩ := hO.k2 0 rfl
 have bg : Base.plainAt uw32 (nd1) = true := hO.plain 1 rfl
 have aA : uw32.cell? ⟨nd1, 0, none⟩ = some (vF 42 nd3) := hO.cell 1 rfl (0) ((full_at rfl))
 have aB : uw32.cell? ⟨nd1, 1, none⟩ = some (vI 7) := hO.cell 1 rfl (1) ((full_at rfl))
 have av : uw32.cell? ⟨nd1, 2, none⟩ = some (vF 67 nd7) := hO.cell 1 rfl (2) ((full_at rfl))
 have aw : uw32.cell? ⟨nd1, 3, none⟩ = some (vI 7) := hO.cell 1 rfl (3) ((full_at rfl))
 have bh : uw32.cell? ⟨nd1, 4, none⟩ = some (vF 69 nd17) := hO.cell 1 rfl (4) ((full_at rfl))
 have bi : uw32.cell? ⟨nd1, 5, none⟩ = some (vI 7) := hO.cell 1 rfl (5) ((full_at rfl))
 have aC := hO.lt 1 rfl
 have aD := hO.free 1 rfl
 obtain ⟨aE, aF, aG, aH, aI, aJ, -⟩ := hO.k4 2 rfl
 obtain ⟨aK, aL, bC, bD, aM, aN, -⟩ := hO.k4 3 rfl
 obtain ⟨aO, aP, aQ, aR, ax, aS, aT, -⟩ := hO.k5 4 rfl
 have bE : Base.plainAt uw32 (tb) = true := hO.plain 5 rfl
 obtain ⟨aU, aV, aW, aX, -⟩ := hO.k2 6 rfl
 have bG : Base.plainAt uw32 (rb) = true := hO.plain 8 rfl
 obtain ⟨ay, az, bA, bB, bH⟩ := hO.k2 11 rfl
 have HO := Lib.hid hO
 clear hO
 go_wp2_with (first | (with_reducible refine Own.stay (fn := Tryd.f3) ?_) | fail)
 try with_reducible refine Own.Stay.mk ?_
 have hO := HO.out
 clear HO hix9 hax9 aY aZ aa ab ac ad ae af ag ah ai aj ix9 ak al am an bg aA aB av aw bh bi aC aD aE aF aG aH aI aJ aK aL bC bD aM aN aO aP aQ aR ax aS aT bE aU aV aW aX bG ay az bA bB bH
 generalize hW : World.alloc _ _ = W34
 have hN : Own w0 W34 [row (uw32.heap.size) 31 #[vU 0, vU 0], row (nd5) 136 #[vU 0, vU 0], row (nd1) 61 (full stmZ [vF 42 nd3, vI 7, vF 67 nd7, vI 7, vF 69 nd17, vI 7] nd2), row (nd3) 57 #[vS nd4 1 1, v8 0, bF, bF], row (nd4) 54 #[vF 134 nd5, vI 7, vF 315 nd6, vI 7], row (nd7) 76 #[vP nd8, vP nd9, vS tb n n, vI 0, vI 7], row (tb) 61 (full stmZ (stL (dtL (D 0) lcE) (List.range n)) 0), row (nd17) 79 #[vS nd18 n (n + nd19), bF], row (nd18) 83 (full cliZ (tab (exC z) n) nd19), row (rb) 31 (rfR n 0), row (lb) 42 (loR D n 0), row (nb) 9 (nmR z n 0), row (kr) 31 #[vU 0, vU 0]] (NodX X D n n) := by
  rw [← hW]
  exact (hO).alloc' _ (uw32.heap.size) (by simp)
 clear hW hO
 generalize uw32.heap.size = B33 at hN ⊢
 have hO := hN
 clear hN
 obtain ⟨HL, HX⟩ := hid2 hO
 have hP9 := hO.pick [] dc
 have T9 := asTry nd7 7 _ _ _ hP9 
 refine Calls.mono T9 ?_
 clear hP9 T9
 rintro e uw35 ⟨rfl, hQ⟩
 replace hO : Own w0 uw35 [row (B33) 31 #[vU 0, vU 0], row (nd5) 136 #[vU 0, vU 0], row (nd1) 61 (full stmZ [vF 42 nd3, vI 7, vF 67 nd7, vI 7, vF 69 nd17, vI 7] nd2), row (nd3) 57 #[vS nd4 1 1, v8 0, bF, bF], row (nd4) 54 #[vF 134 nd5, vI 7, vF 315 nd6, vI 7], row (nd7) 76 #[vP nd8, vP nd9, vS tb n n, vI 0, vI 7], row (tb) 61 (full stmZ (stL (dtL (D 0) lcE) (List.range n)) 0), row (nd17) 79 #[vS nd18 n (n + nd19), bF], row (nd18) 83 (full cliZ (tab (exC z) n) nd19), row (rb) 31 (rfR n 0), row (lb) 42 (loR D n 0), row (nb) 9 (nmR z n 0), row (kr) 31 #[vU 0, vU 0]] (NodX X D n n) := hQ.back HL.out HX.out [0, 1, 2, 3, 4, 5, 6, 7, 8, 9, 10, 11, 12] dc dc
 clear hQ HL HX
 obtain ⟨ix9, hix9, hax9, hjx9⟩ := hO.ix
 have aY := hjx9 0 _ _ rfl
 have aZ := hjx9 1 _ _ rfl
 have aa := hjx9 2 _ _ rfl
 have ab := hjx9 3 _ _ rfl
 have ac := hjx9 4 _ _ rfl
 have ad := hjx9 5 _ _ rfl
 have ae := hjx9 6 _ _ rfl
 have af := hjx9 7 _ _ rfl
 have ag := hjx9 8 _ _ rfl
 have ah := hjx9 9 _ _ rfl
 have ai := hjx9 10 _ _ rfl
 have aj := hjx9 11 _ _ rfl
 have bI := hjx9 12 _ _ rfl
 clear hjx9
 obtain ⟨ak, al, am, an, au⟩ := hO.k2 0 rfl
 obtain ⟨aA, aB, aC, aD, -⟩ := hO.k2 1 rfl
 have bJ : Base.plainAt uw35 (nd1) = true := hO.plain 2 rfl
 have aE : uw35.cell? ⟨nd1, 0, none⟩ = some (vF 42 nd3) := hO.cell 2 rfl (0) ((full_at rfl))
 have aF : uw35.cell? ⟨nd1, 1, none⟩ = some (vI 7) := hO.cell 2 rfl (1) ((full_at rfl))
 have aG : uw35.cell? ⟨nd1, 2, none⟩ = some (vF 67 nd7) := hO.cell 2 rfl (2) ((full_at rfl))
 have aH : uw35.cell? ⟨nd1, 3, none⟩ = some (vI 7) := hO.cell 2 rfl (3) ((full_at rfl))
 have bK : uw35.cell? ⟨nd1, 4, none⟩ = some (vF 69 nd17) := hO.cell 2 rfl (4) ((full_at rfl))
 have bL : uw35.cell? ⟨nd1, 5, none⟩ = some (vI 7) := hO.cell 2 rfl (5) ((full_at rfl))
 have aI := hO.lt 2 rfl
 have aJ := hO.free 2 rfl
 obtain ⟨aK, aL, bC, bD, aM, aN, -⟩ := hO.k4 3 rfl
 obtain ⟨aO, aP, aQ, aR, aS, aT, -⟩ := hO.k4 4 rfl
 obtain ⟨bM, bN, bO, bP, bQ, bR, bS, -⟩ := hO.k5 5 rfl
 have bT : Base.plainAt uw35 (tb) = true := hO.plain 6 rfl
 obtain ⟨ao, ap, aq, ar, -⟩ := hO.k2 7 rfl
 have bU : Base.plainAt uw35 (rb) = true := hO.plain 9 rfl
 obtain ⟨bV, bW, bX, bY, bZ⟩ := hO.k2 12 rfl
 have HO := Lib.hid hO
 clear hO
 go_wp2_with (first | (with_reducible refine Own.stay (fn := Tryd.f3) ?_) | fail)
 try with_reducible refine Own.Stay.mk ?_
 have hO := HO.out
 clear HO hix9 hax9 aY aZ aa ab ac ad ae af ag ah ai aj bI ix9 ak al am an au aA aB aC aD bJ aE aF aG aH bK bL aI aJ aK aL bC bD aM aN aO aP aQ aR aS aT bM bN bO bP bQ bR bS bT ao ap aq ar bU bV bW bX bY bZ
 obtain ⟨HL, HX⟩ := hid2 hO
 have hP9 := hO.pick [] dc
 have T9 := asXcl nd17 7 _ _ _ hP9 
 refine Calls.mono T9 ?_
 clear hP9 T9
 rintro e uw36 ⟨rfl, hQ⟩
 replace hO : Own w0 uw36 [row (B33) 31 #[vU 0, vU 0], row (nd5) 136 #[vU 0, vU 0], row (nd1) 61 (full stmZ [vF 42 nd3, vI 7, vF 67 nd7, vI 7, vF 69 nd17, vI 7] nd2), row (nd3) 57 #[vS nd4 1 1, v8 0, bF, bF], row (nd4) 54 #[vF 134 nd5, vI 7, vF 315 nd6, vI 7], row (nd7) 76 #[vP nd8, vP nd9, vS tb n n, vI 0, vI 7], row (tb) 61 (full stmZ (stL (dtL (D 0) lcE) (List.range n)) 0), row (nd17) 79 #[vS nd18 n (n + nd19), bF], row (nd18) 83 (full cliZ (tab (exC z) n) nd19), row (rb) 31 (rfR n 0), row (lb) 42 (loR D n 0), row (nb) 9 (nmR z n 0), row (kr) 31 #[vU 0, vU 0]] (NodX X D n n) := hQ.back HL.out HX.out [0, 1, 2, 3, 4, 5, 6, 7, 8, 9, 10, 11, 12] dc dc
 clear hQ HL HX
 obtain ⟨ix9, hix9, hax9, hjx9⟩ := hO.ix
 have aY := hjx9 0 _ _ rfl
 have aZ := hjx9 1 _ _ rfl
 have aa := hjx9 2 _ _ rfl
 have ab := hjx9 3 _ _ rfl
 have ac := hjx9 4 _ _ rfl
 have ad := hjx9 5 _ _ rfl
 have ae := hjx9 6 _ _ rfl
 have af := hjx9 7 _ _ rfl
 have ag := hjx9 8 _ _ rfl
 have ah := hjx9 9 _ _ rfl
 have ai := hjx9 10 _ _ rfl
 have aj := hjx9 11 _ _ rfl
 have bI := hjx9 12 _ _ rfl
 clear hjx9
 obtain ⟨ak, al, am, an, au⟩ := hO.k2 0 rfl
 obtain ⟨aA, aB, aC, aD, -⟩ := hO.k2 1 rfl
 have bJ : Base.plainAt uw36 (nd1) = true := hO.plain 2 rfl
 have aE : uw36.cell? ⟨nd1, 0, none⟩ = some (vF 42 nd3) := hO.cell 2 rfl (0) ((full_at rfl))
 have aF : uw36.cell? ⟨nd1, 1, none⟩ = some (vI 7) := hO.cell 2 rfl (1) ((full_at rfl))
 have aG : uw36.cell? ⟨nd1, 2, none⟩ = some (vF 67 nd7) := hO.cell 2 rfl (2) ((full_at rfl))
 have aH : uw36.cell? ⟨nd1, 3, none⟩ = some (vI 7) := hO.cell 2 rfl (3) ((full_at rfl))
 have bK : uw36.cell? ⟨nd1, 4, none⟩ = some (vF 69 nd17) := hO.cell 2 rfl (4) ((full_at rfl))
 have bL : uw36.cell? ⟨nd1, 5, none⟩ = some (vI 7) := hO.cell 2 rfl (5) ((full_at rfl))
 have aI := hO.lt 2 rfl
 have aJ := hO.free 2 rfl
 obtain ⟨aK, aL, bC, bD, aM, aN, -⟩ := hO.k4 3 rfl
 obtain ⟨aO, aP, aQ, aR, aS, aT, -⟩ := hO.k4 4 rfl
 obtain ⟨bM, bN, bO, bP, bQ, bR, bS, -⟩ := hO.k5 5 rfl
 have bT : Base.plainAt uw36 (tb) = true := hO.plain 6 rfl
 obtain ⟨ao, ap, aq, ar, -⟩ := hO.k2 7 rfl
 have bU : Base.plainAt uw36 (rb) = true := hO.plain 9 rfl
 obtain ⟨bV, bW, bX, bY, bZ⟩ := hO.k2 12 rfl
 have HO := Lib.hid hO
 clear hO
 go_wp2_with (first | (with_reducible refine Own.stay (fn := Tryd.f3) ?_) | fail)
 try with_reducible refine Own.Stay.mk ?_
 have hO := HO.out
 clear HO hix9 hax9 aY aZ aa ab ac ad ae af ag ah ai aj bI ix9 ak al am an au aA aB aC aD bJ aE aF aG aH bK bL aI aJ aK aL bC bD aM aN aO aP aQ aR aS aT bM bN bO bP bQ bR bS bT ao ap aq ar bU bV bW bX bY bZ
 rw [HC9.out]
 exact lp40 n z D nb rb lb tb nd18 nd19 nd17 nd7 nd8 nd9 w0 uw36 X Post (fun w3 h3 => HP.out w3 (h3.weaken fun b o h => Or.inl h)) (hO.sub [8, 7, 5, 6, 11, 9, 10] dc) hn4
end Go.Proofs.YtikopplofkemlaaDoor.Use
