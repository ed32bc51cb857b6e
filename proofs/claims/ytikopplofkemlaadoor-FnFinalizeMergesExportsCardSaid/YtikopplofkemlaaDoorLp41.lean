/- Row 40: the loop over the names. No condition. -/
import Derived.Test.YtikopplofkemlaaDoorHb4
namespace Go.Proofs.YtikopplofkemlaaDoor.Use
open Go.ChangeShapes Go.WideShapes Go.ChangeAt Go.RowKit Go.Sort Own
set_option linter.unusedVariables false
noncomputable def rLP0E (n : Nat) (z : Nat → ByteArray) (nb : Nat) (rb : Nat) (j : Nat) (B1 : Nat) : Nat → Rega.Atoms → Value
 | 0, α => vP B1
 | 1, α => .string (z j)
 | 2, α => vS nb n n
 | 3, α => v6 (j : Int)
 | 4, α => .pointer (some ⟨nb, j, none⟩)
 | 5, α => .string (z j)
 | 6, α => bF
 | 7, α => bF
 | 8, α => .pointer (some ⟨B1, 3, none⟩)
 | 9, α => .pointer (some ⟨B1, 4, none⟩)
 | 10, α => .agg #[vU 0, vU ((j : Int) + 1)]
 | 11, α => vS rb n n
 | 12, α => v6 (j : Int)
 | 13, α => .pointer (some ⟨rb, j * 2, none⟩)
 | 14, α => .agg #[vU 0, vU ((j : Int) + 1)]
 | 15, α => bF
 | 16, α => bF
 | 17, α => bF
 | 18, α => .pointer (some ⟨B1, 3, none⟩)
 | 19, α => .pointer (some ⟨B1, 3, none⟩)
 | 20, α => .pointer (some ⟨B1, 3, none⟩)
 | 21, α => vI ((j : Int) + 1)
 | 22, α => v6 (j : Int)
 | 23, α => v6 ((j : Int) + 1)
 | 24, α => vI ((j : Int) + 1)
 | 25, α => bF
 | 26, α => bF
 | 27, α => bF
 | 28, α => .pointer (some ⟨B1, 2, none⟩)
 | 29, α => .pointer (some ⟨B1, 2, none⟩)
 | 30, α => vI ((j : Int) + 1)
 | 31, α => v6 (j : Int)
 | 32, α => v6 ((j : Int) + 1)
 | 33, α => vI ((j : Int) + 1)
 | 34, α => bF
 | 35, α => bF
 | _, _ => undef
noncomputable def rLP0Anc : Nat → List Nat
 | 1 => [0]
 | 4 => [2, 3]
 | 5 => [2, 3, 4]
 | 6 => [0, 1, 2, 3, 4, 5]
 | 7 => [0, 1, 2, 3, 4, 5, 6]
 | 8 => [0, 1, 2, 3, 4, 5, 6, 7]
 | 9 => [0, 1, 2, 3, 4, 5, 6, 7, 8]
 | 10 => [0, 1, 2, 3, 4, 5, 6, 7, 8, 9]
 | 11 => [0, 1, 2, 3, 4, 5, 6, 7]
 | 12 => [0, 1, 2, 3, 4, 5, 6, 7]
 | 13 => [0, 1, 2, 3, 4, 5, 6, 7, 11, 12]
 | 14 => [0, 1, 2, 3, 4, 5, 6, 7, 11, 12, 13]
 | 15 => [0, 1, 2, 3, 4, 5, 6, 7, 8, 9, 10, 11, 12, 13, 14]
 | 16 => [0, 1, 2, 3, 4, 5, 6, 7, 8, 9, 10, 11, 12, 13, 14, 15]
 | 17 => [0, 1, 2, 3, 4, 5, 6, 7, 8, 9, 10, 11, 12, 13, 14, 15, 16]
 | 18 => [0, 1, 2, 3, 4, 5, 6, 7, 8, 9, 10, 11, 12, 13, 14, 15, 16, 17]
 | 19 => [0, 1, 2, 3, 4, 5, 6, 7, 8, 9, 10, 11, 12, 13, 14, 15, 16, 17, 18]
 | 20 => [0, 1, 2, 3, 4, 5, 6, 7, 8, 9, 10, 11, 12, 13, 14, 15, 16, 17, 18, 19]
 | 21 => [0, 1, 2, 3, 4, 5, 6, 7, 8, 9, 10, 11, 12, 13, 14, 15, 16, 17, 18, 19, 20]
 | 22 => [0, 1, 2, 3, 4, 5, 6, 7, 8, 9, 10, 11, 12, 13, 14, 15, 16, 17]
 | 23 => [0, 1, 2, 3, 4, 5, 6, 7, 8, 9, 10, 11, 12, 13, 14, 15, 16, 17, 22]
 | 24 => [0, 1, 2, 3, 4, 5, 6, 7, 8, 9, 10, 11, 12, 13, 14, 15, 16, 17, 22, 23]
 | 25 => [0, 1, 2, 3, 4, 5, 6, 7, 8, 9, 10, 11, 12, 13, 14, 15, 16, 17, 18, 19, 20, 21, 22, 23, 24]
 | 26 => [0, 1, 2, 3, 4, 5, 6, 7, 8, 9, 10, 11, 12, 13, 14, 15, 16, 17, 18, 19, 20, 21, 22, 23, 24, 25]
 | 27 => [0, 1, 2, 3, 4, 5, 6, 7, 8, 9, 10, 11, 12, 13, 14, 15, 16, 17, 18, 19, 20, 21, 22, 23, 24, 25, 26]
 | 28 => [0, 1, 2, 3, 4, 5, 6, 7, 8, 9, 10, 11, 12, 13, 14, 15, 16, 17, 18, 19, 20, 21, 22, 23, 24, 25, 26, 27]
 | 29 => [0, 1, 2, 3, 4, 5, 6, 7, 8, 9, 10, 11, 12, 13, 14, 15, 16, 17, 18, 19, 20, 21, 22, 23, 24, 25, 26, 27, 28]
 | 30 => [0, 1, 2, 3, 4, 5, 6, 7, 8, 9, 10, 11, 12, 13, 14, 15, 16, 17, 18, 19, 20, 21, 22, 23, 24, 25, 26, 27, 28, 29]
 | 31 => [0, 1, 2, 3, 4, 5, 6, 7, 8, 9, 10, 11, 12, 13, 14, 15, 16, 17, 18, 19, 20, 21, 22, 23, 24, 25, 26, 27]
 | 32 => [0, 1, 2, 3, 4, 5, 6, 7, 8, 9, 10, 11, 12, 13, 14, 15, 16, 17, 18, 19, 20, 21, 22, 23, 24, 25, 26, 27, 31]
 | 33 => [0, 1, 2, 3, 4, 5, 6, 7, 8, 9, 10, 11, 12, 13, 14, 15, 16, 17, 18, 19, 20, 21, 22, 23, 24, 25, 26, 27, 31, 32]
 | 34 => [0, 1, 2, 3, 4, 5, 6, 7, 8, 9, 10, 11, 12, 13, 14, 15, 16, 17, 18, 19, 20, 21, 22, 23, 24, 25, 26, 27, 28, 29, 30, 31, 32, 33]
 | 35 => [0, 1, 2, 3, 4, 5, 6, 7, 8, 9, 10, 11, 12, 13, 14, 15, 16, 17, 18, 19, 20, 21, 22, 23, 24, 25, 26, 27, 28, 29, 30, 31, 32, 33, 34]
 | _ => []
noncomputable def rLP0Trn : Nat → List Nat
 | _ => []
noncomputable def rLP0Cnt : List (Nat × Nat) := []
noncomputable def rLP0R (n : Nat) (z : Nat → ByteArray) (nb : Nat) (rb : Nat) (j : Nat) (B1 : Nat) (L9 : Nat → Bool) (α : Rega.Atoms) (ix9 : Nat) : Rw := if ix9 = 999 then row (B1) 83 #[.string (z j), .string ⟨#[]⟩, vI ((j : Int) + 1), vI ((j : Int) + 1), vU 0, vU ((j : Int) + 1)] else if ix9 = 1999 then row (nb) 9 (nmR z n 0) else if ix9 = 2999 then row (rb) 31 (rfR n 0) else (0, .map #[] 0)
theorem rLP0_he (n : Nat) (z : Nat → ByteArray) (nb : Nat) (rb : Nat) (j : Nat) (B1 : Nat) : ∀ kk α α', (∀ j, (j % 1000 = kk ∨ j % 1000 ∈ rLP0Anc kk) → α j = α' j) → rLP0E n z nb rb j B1 kk α = rLP0E n z nb rb j B1 kk α' := by
 intro kk α α' h
 match kk with
 | 0 => rfl
 | 1 => rfl
 | 2 => rfl
 | 3 => rfl
 | 4 => rfl
 | 5 => rfl
 | 6 => rfl
 | 7 => rfl
 | 8 => rfl
 | 9 => rfl
 | 10 => rfl
 | 11 => rfl
 | 12 => rfl
 | 13 => rfl
 | 14 => rfl
 | 15 => rfl
 | 16 => rfl
 | 17 => rfl
 | 18 => rfl
 | 19 => rfl
 | 20 => rfl
 | 21 => rfl
 | 22 => rfl
 | 23 => rfl
 | 24 => rfl
 | 25 => rfl
 | 26 => rfl
 | 27 => rfl
 | 28 => rfl
 | 29 => rfl
 | 30 => rfl
 | 31 => rfl
 | 32 => rfl
 | 33 => rfl
 | 34 => rfl
 | 35 => rfl
 | n + 36 => rfl
theorem rLP0_st (n : Nat) (z : Nat → ByteArray) (nb : Nat) (rb : Nat) (j : Nat) (B1 : Nat) : Stable rLP0Cnt 3 rLP0Anc rLP0Trn (rLP0R n z nb rb j B1) := by
 intro k9 L9 α α' ix9 hk hcl hα hact ht
 have hp := act_places hact
 replace hp : ix9 ∈ [999, 1999, 2999] := hp
 simp only [List.mem_cons, List.not_mem_nil, or_false] at hp
 rcases hp with rfl | rfl | rfl
 ·rfl
 ·rfl
 ·rfl

set_option maxRecDepth 100000 in
set_option maxHeartbeats 4000000 in
theorem lp40 (n : Nat) (z : Nat → ByteArray) (D : Nat → Nat → Nat) (nb rb lb tb xb xc xn yb yc yf : Nat) {A0 A1 A2 A3 A4 A5 A6 A7 A8 A9 AA AB AC AD AE AF AG AH AI AJ AK AL AM AN AO AP AQ AR AS AT AU AV AW AX AY AZ B0 B2 B3 B4 B5 B6 B7 B8 B9 BA BB BC BD BE BF BG BH BI BJ BK BL BM BN BO BP BQ BR BS BT BU BV BW BX BY BZ C0 C1 C2 C3 C4 C5 C6 C7 C8 C9 CA CB CC CD CE CF CG CH CI CJ CK CL CM CN CO CP CQ CR CS CT CU CV CW CX CY CZ E0 E1 E2 E3 E4 E5 E6 E7 E8 E9 EA EB EC ED EE EF EG EH EI EJ EK EL EM EN EO EP EQ ER ES ET EU EV EW EX EY EZ F0 F1 F2 F3 F4 F5 F6 F7 F8 F9 FA FB FC FD FE FF FG FH FI FJ FK FL FM FN FO FP FQ FR FS FT FU FV FW FX FY FZ G0 G1 G2 G3 G4 G5 G6 G7 G8 G9 GA GB GC GD GE GF GG GH GI GJ GK GL GM GN GO GP GQ GR GS GT GU GV GW GX GY GZ I0 I1 I2 I3 I4 I5 I6 I7 I8 I9 IA IB IC ID IE IF IG IH II IJ IK IL IM IN IO IP IQ IR IS IT IU IV IW IX IY IZ J0 J1 J2 J3 J4 J5 J6 J7 J8 J9 JA JB JC JD JE JF JG JH JI JJ JK JL JM JN JO : Value} (w0 w : World) (X : Nat → Obj → Prop) (Post : Ending → World → Prop) (hP : ∀ w3, Own w0 w3 [] (NodX X D n n) → Post (.returned (.bool true)) w3) (hO : Own w0 w [row (xb) 83 (full cliZ (tab (exC z) n) xc), row (xn) 79 #[vS xb n (n + xc), bF], row (yb) 76 #[vP yc, vP yf, vS tb n n, vI 0, vI 7], row (tb) 61 (full stmZ (stL (dtL (D 0) lcE) (List.range n)) 0), row (nb) 9 (nmR z n 0), row (rb) 31 (rfR n 0), row (lb) 42 (loR D n 0)] (NodX X D n n)) (hn4 : n ≤ 4096) :
  Code.wp Tryd.prog rest40e (bodyPost Tryd.prog Tryd.f3 Post) ⟨#[vS nb n n, A0, A1, A2, A3, A4, A5, A6, A7, A8, A9, v6 (n : Int), vS rb n n, vS lb n n, AA, AB, AC, AD, AE, AF, vP yb, vP xn, AG, AH, AI, AJ, AK, AL, AM, AN, AO, AP, AQ, AR, AS, AT, AU, AV, AW, AX, AY, AZ, B0, B2, B3, B4, B5, B6, B7, B8, B9, BA, BB, BC, BD, BE, BF, BG, BH, BI, BJ, BK, BL, BM, BN, BO, BP, BQ, BR, BS, BT, BU, BV, BW, BX, BY, BZ, C0, C1, C2, C3, C4, C5, C6, C7, C8, C9, CA, CB, CC, CD, CE, CF, CG, CH, CI, CJ, CK, CL, CM, CN, CO, CP, CQ, CR, CS, CT, CU, CV, CW, CX, CY, CZ, E0, E1, E2, E3, E4, E5, E6, E7, E8, E9, EA, EB, EC, ED, EE, EF, EG, EH, EI, EJ, EK, EL, EM, EN, EO, EP, EQ, ER, ES, ET, EU, EV, EW, EX, EY, EZ, F0, F1, F2, F3, F4, F5, F6, F7, F8, F9, FA, FB, FC, FD, FE, FF, FG, FH, FI, FJ, FK, FL, FM, FN, FO, FP, FQ, FR, FS, FT, FU, FV, FW, FX, FY, FZ, G0, G1, G2, G3, G4, G5, G6, G7, G8, G9, GA, GB, GC, GD, GE, GF, GG, GH, GI, GJ, GK, GL, GM, GN, GO, GP, GQ, GR, GS, GT, GU, GV, GW, GX, GY, GZ, I0, I1, I2, I3, I4, I5, I6, I7, I8, I9, IA, IB, IC, ID, IE, IF, IG, IH, II, IJ, IK, IL, IM, IN, IO, IP, IQ, IR, IS, IT, IU, IV, IW, IX, IY, IZ, J0, J1, J2, J3, J4, J5, J6, J7, J8, J9, JA, JB, JC, JD, JE, JF, JG, JH, JI, JJ, JK, JL, JM, JN, JO], []⟩ w := by
 have HP := Lib.hid hP
 clear hP
 simp only [rest40e, Tryd.f3, Option.getD_some, cutC]
 have hn9 : (n : Int) ≤ 4096 := by omega
 have hn8 : (0 : Int) ≤ (n : Int) := by omega
 obtain ⟨aE, aF, aA, aB, -⟩ := hO.k2 1 rfl
 obtain ⟨aG, aH, aI, aJ, aK, aC, aD, -⟩ := hO.k5 2 rfl
 have HO := Lib.hid hO
 clear hO
 go_wp2_with (first | (with_reducible refine Own.stay (fn := Tryd.f3) ?_) | fail)
 try with_reducible refine Own.Stay.mk ?_
 have hO := HO.out
 clear HO aE aF aA aB aG aH aI aJ aK aC aD
 go_loopg [22] n (fun gf s22 wx => ∃ j : Nat, j + gf = n ∧ s22 = v6 (j : Int) ∧ Own w0 wx [row (xb) 83 (full cliZ (tab (exC z) n) xc), row (xn) 79 #[vS xb n (n + xc), bF], row (yb) 76 #[vP yc, vP yf, vS tb n n, vI 0, vI 7], row (tb) 61 (full stmZ (stL (dtL (D 0) lcE) (List.range n)) 0), row (nb) 9 (nmR z n 0), row (rb) 31 (rfR n 0), row (lb) 42 (loR D n 0)] (NodX X D n n))
 case atStart => exact ⟨0, by omega, rfl, hO⟩
 obtain ⟨j, hjn, rfl, hO⟩ := hrel
 by_cases hlt : j < n
 ·skip
  obtain ⟨gq, rfl⟩ : ∃ gq, gk = gq + 1 := ⟨gk - 1, by omega⟩
  have hlt9 : (j : Int) < (n : Int) := by omega
  have hj8 : (0 : Int) ≤ (j : Int) := by omega
  have hj7 : (j : Int) ≤ 4096 := by omega
  have hw32 : IntKind.i32.wrap ((j : Int) + 1) = (j : Int) + 1 := by rw [IntKind.wrap_i32]; omega
  have hw64 : IntKind.i64.wrap ((j : Int) + 1) = (j : Int) + 1 := by rw [IntKind.wrap_i64]; omega
  have ha0 : (List.range n)[j]? = some j := by simp [hlt]
  have hc1 : (stL (dtL (D 0) lcE) (List.range n))[j * 2 + 1]? = some (vI ((j : Int) + 1)) := stL_at1 (D := dtL (D 0) lcE) ha0
  clear ha0
  have hx0 : (tab (exC z) n)[j * 6]? = some (.string (z j)) := tab_at (exC_len z) hlt (o := 0) rfl
  have hx1 : (tab (exC z) n)[j * 6 + 1]? = some (.string ⟨#[]⟩) := tab_at (exC_len z) hlt (o := 1) rfl
  have hx2 : (tab (exC z) n)[j * 6 + 2]? = some (vI ((j : Int) + 1)) := tab_at (exC_len z) hlt (o := 2) rfl
  have hx3 : (tab (exC z) n)[j * 6 + 3]? = some (vI ((j : Int) + 1)) := tab_at (exC_len z) hlt (o := 3) rfl
  have hx4 : (tab (exC z) n)[j * 6 + 4]? = some (vU 0) := tab_at (exC_len z) hlt (o := 4) rfl
  have hx5 : (tab (exC z) n)[j * 6 + 5]? = some (vU ((j : Int) + 1)) := tab_at (exC_len z) hlt (o := 5) rfl
  obtain ⟨ix9, hix9, hax9, hjx9⟩ := hO.ix
  have aL := hjx9 0 _ _ rfl
  have aM := hjx9 1 _ _ rfl
  have aN := hjx9 2 _ _ rfl
  have aO := hjx9 3 _ _ rfl
  have aP := hjx9 4 _ _ rfl
  have aQ := hjx9 5 _ _ rfl
  have aR := hjx9 6 _ _ rfl
  clear hjx9
  have ac : wr.cell? ⟨xb, j * 6, none⟩ = some (.string (z j)) := hO.cell 0 rfl (j * 6) ((full_at hx0))
  have ad : wr.cell? ⟨xb, j * 6 + 1, none⟩ = some (.string ⟨#[]⟩) := hO.cell 0 rfl (j * 6 + 1) ((full_at hx1))
  have ae : wr.cell? ⟨xb, j * 6 + 2, none⟩ = some (vI ((j : Int) + 1)) := hO.cell 0 rfl (j * 6 + 2) ((full_at hx2))
  have af : wr.cell? ⟨xb, j * 6 + 3, none⟩ = some (vI ((j : Int) + 1)) := hO.cell 0 rfl (j * 6 + 3) ((full_at hx3))
  have ag : wr.cell? ⟨xb, j * 6 + 4, none⟩ = some (vU 0) := hO.cell 0 rfl (j * 6 + 4) ((full_at hx4))
  have ah : wr.cell? ⟨xb, j * 6 + 5, none⟩ = some (vU ((j : Int) + 1)) := hO.cell 0 rfl (j * 6 + 5) ((full_at hx5))
  have aS := hO.lt 0 rfl
  have aT := hO.free 0 rfl
  obtain ⟨aE, aF, aA, aB, -⟩ := hO.k2 1 rfl
  obtain ⟨aG, aH, aI, aJ, aK, aC, aD, -⟩ := hO.k5 2 rfl
  have ai : wr.cell? ⟨tb, j * 2 + 1, none⟩ = some (vI ((j : Int) + 1)) := hO.cell 3 rfl (j * 2 + 1) ((full_at hc1))
  have aU := hO.lt 3 rfl
  have aV := hO.free 3 rfl
  have aj : wr.cell? ⟨nb, j, none⟩ = some (.string (z j)) := hO.cell 4 rfl (j) ((nmR_at z hlt))
  have aW := hO.lt 4 rfl
  have aX := hO.free 4 rfl
  have ak : wr.cell? ⟨rb, j * 2, none⟩ = some (vU 0) := hO.cell 5 rfl (j * 2) ((rfR_at0 hlt))
  have al : wr.cell? ⟨rb, j * 2 + 1, none⟩ = some (vU ((j : Int) + 1)) := hO.cell 5 rfl (j * 2 + 1) ((rfR_at1 hlt))
  have aY := hO.lt 5 rfl
  have aZ := hO.free 5 rfl
  have am : wr.cell? ⟨lb, j, none⟩ = some (.pointer (some ⟨D 0 j, 0, none⟩)) := hO.cell 6 rfl (j) ((loR_at D hlt))
  have aa := hO.lt 6 rfl
  have ab := hO.free 6 rfl
  have HO := Lib.hid hO
  clear hO
  have fx1 : wr.cell? ⟨D 0 j, 1, none⟩ = some (v8 0) := Base.RowAt.cell (show Base.RowAt wr (D 0 j) 57 #[vS (D 1 j) 1 1, v8 0, bF, bF] from by
   have h9 := (HO.out.frame (D 0 j) _ (Or.inr ⟨0, j, by omega, hlt, rfl, rfl⟩)).2.1
   rw [objE_turned D n j hlt] at h9
   exact h9) rfl
  have fx2 : wr.cell? ⟨D 0 j, 2, none⟩ = some (bF) := Base.RowAt.cell (show Base.RowAt wr (D 0 j) 57 #[vS (D 1 j) 1 1, v8 0, bF, bF] from by
   have h9 := (HO.out.frame (D 0 j) _ (Or.inr ⟨0, j, by omega, hlt, rfl, rfl⟩)).2.1
   rw [objE_turned D n j hlt] at h9
   exact h9) rfl
  have fxl : D 0 j < wr.heap.size := Base.block_of_cell fx1
  go_wp2_with (first | (with_reducible refine Own.stay (fn := Tryd.f3) ?_) | fail)
  try with_reducible refine Own.Stay.mk ?_
  have hO := HO.out
  clear HO hix9 hax9 aL aM aN aO aP aQ aR ix9 fx1 fx2 fxl ac ad ae af ag ah aS aT aE aF aA aB aG aH aI aJ aK aC aD ai aU aV aj aW aX ak al aY aZ am aa ab
  generalize hW : World.alloc _ _ = W2
  have hN : Own w0 W2 [row (wr.heap.size) 83 #[.string (z j), .string ⟨#[]⟩, vI ((j : Int) + 1), vI ((j : Int) + 1), vU 0, vU ((j : Int) + 1)], row (xb) 83 (full cliZ (tab (exC z) n) xc), row (xn) 79 #[vS xb n (n + xc), bF], row (yb) 76 #[vP yc, vP yf, vS tb n n, vI 0, vI 7], row (tb) 61 (full stmZ (stL (dtL (D 0) lcE) (List.range n)) 0), row (nb) 9 (nmR z n 0), row (rb) 31 (rfR n 0), row (lb) 42 (loR D n 0)] (NodX X D n n) := by
   rw [← hW]
   exact (hO).alloc' _ (wr.heap.size) (by simp)
  clear hW hO
  generalize wr.heap.size = B1 at hN ⊢
  have hO := hN
  clear hN
  obtain ⟨HL, HX⟩ := hid2 hO
  have hP9 := hO.pick [0, 5, 6] dc
  generalize hX9_3 : Own.Rest _ _ (NodX X D n n) = X9_3 at hP9
  replace hP9 : Own w0 W2 [row (B1) 83 #[.string (z j), .string ⟨#[]⟩, vI ((j : Int) + 1), vI ((j : Int) + 1), vU 0, vU ((j : Int) + 1)], row (nb) 9 (nmR z n 0), row (rb) 31 (rfR n 0)] X9_3 := hP9
  clear hO
  have hO := hP9
  clear hP9
  have st9 := rLP0_st n z nb rb j B1
  let R9 := rLP0R n z nb rb j B1
  refine wp_region_own (e := rLP0E n z nb rb j B1) (anc := rLP0Anc) (G := (fun L9 α u9 => OwnF w0 u9 (act rLP0Cnt 3 L9) (rLP0R n z nb rb j B1 L9 α) X9_3)) (by kernel_rfl) (by kernel_rfl) (by kernel_rfl) (by kernel_rfl) (rLP0_he n z nb rb j B1) ?_ (RunsAll.all ?_) ?_
  ·have hp : ∀ i, act rLP0Cnt 3 (fun _ => false) i → i ∈ [999, 1999, 2999] := by
    intro i hi
    have h9 : i % 1000 = 999 := by
     by_cases h : i % 1000 = 999
     ·exact h
     ·exact absurd (act_lt hi h) (by simp)
    unfold act at hi
    rw [if_pos h9] at hi
    simp only [List.mem_cons, List.not_mem_nil, or_false]
    omega
   refine hO.drew.family (fun i hi => ?_) (fun i j hi hj hij => ?_)
   ·have := hp i hi
    simp only [List.mem_cons, List.not_mem_nil, or_false] at this
    rcases this with rfl | rfl | rfl <;> rfl
   ·have h1 := hp i hi
    have h2 := hp j hj
    simp only [List.mem_cons, List.not_mem_nil, or_false] at h1 h2
    omega
  ·refine ⟨?_, ?_, ?_, ?_, ?_, ?_, ?_, ?_, ?_, ?_, ?_, ?_, ?_, ?_, ?_, ?_, ?_, ?_, ?_, ?_, ?_, ?_, ?_, ?_, ?_, ?_, ?_, ?_, ?_, ?_, ?_, ?_, ?_, ?_, ?_, ?_, trivial⟩
   ·refine pur st9 rfl rfl fun L9 α a9 u9 K9 hL hcl hA hG hS h0 h1 hK => ?_
    have s23 := eS (vP B1) ((h0 23 (by kernel_rfl)).trans rfl)
    go_simp
    exact hK
   ·refine pur st9 rfl rfl fun L9 α a9 u9 K9 hL hcl hA hG hS h0 h1 hK => ?_
    have s215 := eS (vP B1) (hS 0 215 dc rfl (ltd 282 rfl))
    have e0 : R9 L9 α 999 = row (B1) 83 #[.string (z j), .string ⟨#[]⟩, vI ((j : Int) + 1), vI ((j : Int) + 1), vU 0, vU ((j : Int) + 1)] := rfl
    have hr := hG.rowAt 999 (act_base 999 rfl) e0
    have c0 : u9.cell? ⟨B1, 0, none⟩ = some (.string (z j)) := hr.cell rfl
    clear hr e0
    go_simp
    exact hK
   ·refine pur st9 rfl rfl fun L9 α a9 u9 K9 hL hcl hA hG hS h0 h1 hK => ?_
    have q0 : a9.tmps[0]? = some (vS nb n n) := (h0 0 (by kernel_rfl)).trans rfl
    have s0 := Rega.eval_of q0
    go_simp
    exact hK
   ·refine pur st9 rfl rfl fun L9 α a9 u9 K9 hL hcl hA hG hS h0 h1 hK => ?_
    have q22 : a9.tmps[22]? = some (v6 (j : Int)) := (h0 22 (by kernel_rfl)).trans rfl
    have s22 := Rega.eval_of q22
    go_simp
    exact hK
   ·refine pur st9 rfl rfl fun L9 α a9 u9 K9 hL hcl hA hG hS h0 h1 hK => ?_
    have q217 : a9.tmps[217]? = some (vS nb n n) := hS 2 217 dc rfl (ltd 282 rfl)
    have s217 := Rega.eval_of q217
    have q218 : a9.tmps[218]? = some (v6 (j : Int)) := hS 3 218 dc rfl (ltd 282 rfl)
    have s218 := Rega.eval_of q218
    go_simp
    exact hK
   ·refine pur st9 rfl rfl fun L9 α a9 u9 K9 hL hcl hA hG hS h0 h1 hK => ?_
    have s219 := eS (.pointer (some ⟨nb, j, none⟩)) (hS 4 219 dc rfl (ltd 282 rfl))
    have e0 : R9 L9 α 1999 = row (nb) 9 (nmR z n 0) := rfl
    have hr := hG.rowAt 1999 (act_base 1999 rfl) e0
    have c0 : u9.cell? ⟨nb, j, none⟩ = some (.string (z j)) := hr.cell ((nmR_at z hlt))
    clear hr e0
    go_simp
    exact hK
   ·refine pur st9 rfl rfl fun L9 α a9 u9 K9 hL hcl hA hG hS h0 h1 hK => ?_
    have q216 : a9.tmps[216]? = some (.string (z j)) := hS 1 216 dc rfl (ltd 282 rfl)
    have s216 := Rega.eval_of q216
    have q220 : a9.tmps[220]? = some (.string (z j)) := hS 5 220 dc rfl (ltd 282 rfl)
    have s220 := Rega.eval_of q220
    go_simp
    exact hK
   ·refine pur st9 rfl rfl fun L9 α a9 u9 K9 hL hcl hA hG hS h0 h1 hK => ?_
    have q221 : a9.tmps[221]? = some (bF) := hS 6 221 dc rfl (ltd 282 rfl)
    have s221 := Rega.eval_of q221
    go_simp
    exact hK
   ·refine pur st9 rfl rfl fun L9 α a9 u9 K9 hL hcl hA hG hS h0 h1 hK => ?_
    have q23 : a9.tmps[23]? = some (vP B1) := (h0 23 (by kernel_rfl)).trans rfl
    have s23 := Rega.eval_of q23
    have q222 : a9.tmps[222]? = some (bF) := hS 7 222 dc rfl (ltd 282 rfl)
    have s222 := Rega.eval_of q222
    go_simp
    exact hK
   ·refine pur st9 rfl rfl fun L9 α a9 u9 K9 hL hcl hA hG hS h0 h1 hK => ?_
    have q223 : a9.tmps[223]? = some (.pointer (some ⟨B1, 3, none⟩)) := hS 8 223 dc rfl (ltd 282 rfl)
    have s223 := Rega.eval_of q223
    have q222 : a9.tmps[222]? = some (bF) := hS 7 222 dc rfl (ltd 282 rfl)
    have s222 := Rega.eval_of q222
    go_simp
    exact hK
   ·refine pur st9 rfl rfl fun L9 α a9 u9 K9 hL hcl hA hG hS h0 h1 hK => ?_
    have q224 : a9.tmps[224]? = some (.pointer (some ⟨B1, 4, none⟩)) := hS 9 224 dc rfl (ltd 282 rfl)
    have s224 := Rega.eval_of q224
    have q222 : a9.tmps[222]? = some (bF) := hS 7 222 dc rfl (ltd 282 rfl)
    have s222 := Rega.eval_of q222
    have e0 : R9 L9 α 999 = row (B1) 83 #[.string (z j), .string ⟨#[]⟩, vI ((j : Int) + 1), vI ((j : Int) + 1), vU 0, vU ((j : Int) + 1)] := rfl
    have hr := hG.rowAt 999 (act_base 999 rfl) e0
    have c0 : u9.cell? ⟨B1, 4, none⟩ = some (vU 0) := hr.cell rfl
    have c1 : u9.cell? ⟨B1, 5, none⟩ = some (vU ((j : Int) + 1)) := hr.cell rfl
    clear hr e0
    go_simp
    exact hK
   ·refine pur st9 rfl rfl fun L9 α a9 u9 K9 hL hcl hA hG hS h0 h1 hK => ?_
    have q12 : a9.tmps[12]? = some (vS rb n n) := (h0 12 (by kernel_rfl)).trans rfl
    have s12 := Rega.eval_of q12
    have q222 : a9.tmps[222]? = some (bF) := hS 7 222 dc rfl (ltd 282 rfl)
    have s222 := Rega.eval_of q222
    go_simp
    exact hK
   ·refine pur st9 rfl rfl fun L9 α a9 u9 K9 hL hcl hA hG hS h0 h1 hK => ?_
    have q22 : a9.tmps[22]? = some (v6 (j : Int)) := (h0 22 (by kernel_rfl)).trans rfl
    have s22 := Rega.eval_of q22
    have q222 : a9.tmps[222]? = some (bF) := hS 7 222 dc rfl (ltd 282 rfl)
    have s222 := Rega.eval_of q222
    go_simp
    exact hK
   ·refine pur st9 rfl rfl fun L9 α a9 u9 K9 hL hcl hA hG hS h0 h1 hK => ?_
    have q226 : a9.tmps[226]? = some (vS rb n n) := hS 11 226 dc rfl (ltd 282 rfl)
    have s226 := Rega.eval_of q226
    have q227 : a9.tmps[227]? = some (v6 (j : Int)) := hS 12 227 dc rfl (ltd 282 rfl)
    have s227 := Rega.eval_of q227
    have q222 : a9.tmps[222]? = some (bF) := hS 7 222 dc rfl (ltd 282 rfl)
    have s222 := Rega.eval_of q222
    go_simp
    exact hK
   ·refine pur st9 rfl rfl fun L9 α a9 u9 K9 hL hcl hA hG hS h0 h1 hK => ?_
    have q228 : a9.tmps[228]? = some (.pointer (some ⟨rb, j * 2, none⟩)) := hS 13 228 dc rfl (ltd 282 rfl)
    have s228 := Rega.eval_of q228
    have q222 : a9.tmps[222]? = some (bF) := hS 7 222 dc rfl (ltd 282 rfl)
    have s222 := Rega.eval_of q222
    have e0 : R9 L9 α 2999 = row (rb) 31 (rfR n 0) := rfl
    have hr := hG.rowAt 2999 (act_base 2999 rfl) e0
    have c0 : u9.cell? ⟨rb, j * 2, none⟩ = some (vU 0) := hr.cell ((rfR_at0 hlt))
    have c1 : u9.cell? ⟨rb, j * 2 + 1, none⟩ = some (vU ((j : Int) + 1)) := hr.cell ((rfR_at1 hlt))
    clear hr e0
    go_simp
    exact hK
   ·refine pur st9 rfl rfl fun L9 α a9 u9 K9 hL hcl hA hG hS h0 h1 hK => ?_
    have q225 : a9.tmps[225]? = some (.agg #[vU 0, vU ((j : Int) + 1)]) := hS 10 225 dc rfl (ltd 282 rfl)
    have s225 := Rega.eval_of q225
    have q229 : a9.tmps[229]? = some (.agg #[vU 0, vU ((j : Int) + 1)]) := hS 14 229 dc rfl (ltd 282 rfl)
    have s229 := Rega.eval_of q229
    have q222 : a9.tmps[222]? = some (bF) := hS 7 222 dc rfl (ltd 282 rfl)
    have s222 := Rega.eval_of q222
    go_simp
    exact hK
   ·refine pur st9 rfl rfl fun L9 α a9 u9 K9 hL hcl hA hG hS h0 h1 hK => ?_
    have q222 : a9.tmps[222]? = some (bF) := hS 7 222 dc rfl (ltd 282 rfl)
    have s222 := Rega.eval_of q222
    have q230 : a9.tmps[230]? = some (bF) := hS 15 230 dc rfl (ltd 282 rfl)
    have s230 := Rega.eval_of q230
    go_simp
    exact hK
   ·refine pur st9 rfl rfl fun L9 α a9 u9 K9 hL hcl hA hG hS h0 h1 hK => ?_
    have q231 : a9.tmps[231]? = some (bF) := hS 16 231 dc rfl (ltd 282 rfl)
    have s231 := Rega.eval_of q231
    go_simp
    exact hK
   ·refine pur st9 rfl rfl fun L9 α a9 u9 K9 hL hcl hA hG hS h0 h1 hK => ?_
    have q23 : a9.tmps[23]? = some (vP B1) := (h0 23 (by kernel_rfl)).trans rfl
    have s23 := Rega.eval_of q23
    have q232 : a9.tmps[232]? = some (bF) := hS 17 232 dc rfl (ltd 282 rfl)
    have s232 := Rega.eval_of q232
    go_simp
    exact hK
   ·refine pur st9 rfl rfl fun L9 α a9 u9 K9 hL hcl hA hG hS h0 h1 hK => ?_
    have q233 : a9.tmps[233]? = some (.pointer (some ⟨B1, 3, none⟩)) := hS 18 233 dc rfl (ltd 282 rfl)
    have s233 := Rega.eval_of q233
    have q232 : a9.tmps[232]? = some (bF) := hS 17 232 dc rfl (ltd 282 rfl)
    have s232 := Rega.eval_of q232
    go_simp
    exact hK
   ·refine pur st9 rfl rfl fun L9 α a9 u9 K9 hL hcl hA hG hS h0 h1 hK => ?_
    have q234 : a9.tmps[234]? = some (.pointer (some ⟨B1, 3, none⟩)) := hS 19 234 dc rfl (ltd 282 rfl)
    have s234 := Rega.eval_of q234
    have q232 : a9.tmps[232]? = some (bF) := hS 17 232 dc rfl (ltd 282 rfl)
    have s232 := Rega.eval_of q232
    go_simp
    exact hK
   ·refine pur st9 rfl rfl fun L9 α a9 u9 K9 hL hcl hA hG hS h0 h1 hK => ?_
    have q235 : a9.tmps[235]? = some (.pointer (some ⟨B1, 3, none⟩)) := hS 20 235 dc rfl (ltd 282 rfl)
    have s235 := Rega.eval_of q235
    have q232 : a9.tmps[232]? = some (bF) := hS 17 232 dc rfl (ltd 282 rfl)
    have s232 := Rega.eval_of q232
    have e0 : R9 L9 α 999 = row (B1) 83 #[.string (z j), .string ⟨#[]⟩, vI ((j : Int) + 1), vI ((j : Int) + 1), vU 0, vU ((j : Int) + 1)] := rfl
    have hr := hG.rowAt 999 (act_base 999 rfl) e0
    have c0 : u9.cell? ⟨B1, 3, none⟩ = some (vI ((j : Int) + 1)) := hr.cell rfl
    clear hr e0
    go_simp
    exact hK
   ·refine pur st9 rfl rfl fun L9 α a9 u9 K9 hL hcl hA hG hS h0 h1 hK => ?_
    have q22 : a9.tmps[22]? = some (v6 (j : Int)) := (h0 22 (by kernel_rfl)).trans rfl
    have s22 := Rega.eval_of q22
    have q232 : a9.tmps[232]? = some (bF) := hS 17 232 dc rfl (ltd 282 rfl)
    have s232 := Rega.eval_of q232
    go_simp
    exact hK
   ·refine pur st9 rfl rfl fun L9 α a9 u9 K9 hL hcl hA hG hS h0 h1 hK => ?_
    have q237 : a9.tmps[237]? = some (v6 (j : Int)) := hS 22 237 dc rfl (ltd 282 rfl)
    have s237 := Rega.eval_of q237
    have q232 : a9.tmps[232]? = some (bF) := hS 17 232 dc rfl (ltd 282 rfl)
    have s232 := Rega.eval_of q232
    go_simp
    exact hK
   ·refine pur st9 rfl rfl fun L9 α a9 u9 K9 hL hcl hA hG hS h0 h1 hK => ?_
    have q238 : a9.tmps[238]? = some (v6 ((j : Int) + 1)) := hS 23 238 dc rfl (ltd 282 rfl)
    have s238 := Rega.eval_of q238
    have q232 : a9.tmps[232]? = some (bF) := hS 17 232 dc rfl (ltd 282 rfl)
    have s232 := Rega.eval_of q232
    go_simp
    exact hK
   ·refine pur st9 rfl rfl fun L9 α a9 u9 K9 hL hcl hA hG hS h0 h1 hK => ?_
    have q236 : a9.tmps[236]? = some (vI ((j : Int) + 1)) := hS 21 236 dc rfl (ltd 282 rfl)
    have s236 := Rega.eval_of q236
    have q239 : a9.tmps[239]? = some (vI ((j : Int) + 1)) := hS 24 239 dc rfl (ltd 282 rfl)
    have s239 := Rega.eval_of q239
    have q232 : a9.tmps[232]? = some (bF) := hS 17 232 dc rfl (ltd 282 rfl)
    have s232 := Rega.eval_of q232
    go_simp
    exact hK
   ·refine pur st9 rfl rfl fun L9 α a9 u9 K9 hL hcl hA hG hS h0 h1 hK => ?_
    have q232 : a9.tmps[232]? = some (bF) := hS 17 232 dc rfl (ltd 282 rfl)
    have s232 := Rega.eval_of q232
    have q240 : a9.tmps[240]? = some (bF) := hS 25 240 dc rfl (ltd 282 rfl)
    have s240 := Rega.eval_of q240
    go_simp
    exact hK
   ·refine pur st9 rfl rfl fun L9 α a9 u9 K9 hL hcl hA hG hS h0 h1 hK => ?_
    have q241 : a9.tmps[241]? = some (bF) := hS 26 241 dc rfl (ltd 282 rfl)
    have s241 := Rega.eval_of q241
    go_simp
    exact hK
   ·refine pur st9 rfl rfl fun L9 α a9 u9 K9 hL hcl hA hG hS h0 h1 hK => ?_
    have q23 : a9.tmps[23]? = some (vP B1) := (h0 23 (by kernel_rfl)).trans rfl
    have s23 := Rega.eval_of q23
    have q242 : a9.tmps[242]? = some (bF) := hS 27 242 dc rfl (ltd 282 rfl)
    have s242 := Rega.eval_of q242
    go_simp
    exact hK
   ·refine pur st9 rfl rfl fun L9 α a9 u9 K9 hL hcl hA hG hS h0 h1 hK => ?_
    have q243 : a9.tmps[243]? = some (.pointer (some ⟨B1, 2, none⟩)) := hS 28 243 dc rfl (ltd 282 rfl)
    have s243 := Rega.eval_of q243
    have q242 : a9.tmps[242]? = some (bF) := hS 27 242 dc rfl (ltd 282 rfl)
    have s242 := Rega.eval_of q242
    go_simp
    exact hK
   ·refine pur st9 rfl rfl fun L9 α a9 u9 K9 hL hcl hA hG hS h0 h1 hK => ?_
    have q244 : a9.tmps[244]? = some (.pointer (some ⟨B1, 2, none⟩)) := hS 29 244 dc rfl (ltd 282 rfl)
    have s244 := Rega.eval_of q244
    have q242 : a9.tmps[242]? = some (bF) := hS 27 242 dc rfl (ltd 282 rfl)
    have s242 := Rega.eval_of q242
    have e0 : R9 L9 α 999 = row (B1) 83 #[.string (z j), .string ⟨#[]⟩, vI ((j : Int) + 1), vI ((j : Int) + 1), vU 0, vU ((j : Int) + 1)] := rfl
    have hr := hG.rowAt 999 (act_base 999 rfl) e0
    have c0 : u9.cell? ⟨B1, 2, none⟩ = some (vI ((j : Int) + 1)) := hr.cell rfl
    clear hr e0
    go_simp
    exact hK
   ·refine pur st9 rfl rfl fun L9 α a9 u9 K9 hL hcl hA hG hS h0 h1 hK => ?_
    have q22 : a9.tmps[22]? = some (v6 (j : Int)) := (h0 22 (by kernel_rfl)).trans rfl
    have s22 := Rega.eval_of q22
    have q242 : a9.tmps[242]? = some (bF) := hS 27 242 dc rfl (ltd 282 rfl)
    have s242 := Rega.eval_of q242
    go_simp
    exact hK
   ·refine pur st9 rfl rfl fun L9 α a9 u9 K9 hL hcl hA hG hS h0 h1 hK => ?_
    have q246 : a9.tmps[246]? = some (v6 (j : Int)) := hS 31 246 dc rfl (ltd 282 rfl)
    have s246 := Rega.eval_of q246
    have q242 : a9.tmps[242]? = some (bF) := hS 27 242 dc rfl (ltd 282 rfl)
    have s242 := Rega.eval_of q242
    go_simp
    exact hK
   ·refine pur st9 rfl rfl fun L9 α a9 u9 K9 hL hcl hA hG hS h0 h1 hK => ?_
    have q247 : a9.tmps[247]? = some (v6 ((j : Int) + 1)) := hS 32 247 dc rfl (ltd 282 rfl)
    have s247 := Rega.eval_of q247
    have q242 : a9.tmps[242]? = some (bF) := hS 27 242 dc rfl (ltd 282 rfl)
    have s242 := Rega.eval_of q242
    go_simp
    exact hK
   ·refine pur st9 rfl rfl fun L9 α a9 u9 K9 hL hcl hA hG hS h0 h1 hK => ?_
    have q245 : a9.tmps[245]? = some (vI ((j : Int) + 1)) := hS 30 245 dc rfl (ltd 282 rfl)
    have s245 := Rega.eval_of q245
    have q248 : a9.tmps[248]? = some (vI ((j : Int) + 1)) := hS 33 248 dc rfl (ltd 282 rfl)
    have s248 := Rega.eval_of q248
    have q242 : a9.tmps[242]? = some (bF) := hS 27 242 dc rfl (ltd 282 rfl)
    have s242 := Rega.eval_of q242
    go_simp
    exact hK
   ·refine pur st9 rfl rfl fun L9 α a9 u9 K9 hL hcl hA hG hS h0 h1 hK => ?_
    have q242 : a9.tmps[242]? = some (bF) := hS 27 242 dc rfl (ltd 282 rfl)
    have s242 := Rega.eval_of q242
    have q249 : a9.tmps[249]? = some (bF) := hS 34 249 dc rfl (ltd 282 rfl)
    have s249 := Rega.eval_of q249
    go_simp
    exact hK
  clear st9
  intro α u hG
  have e0 : R9 (fun k => decide (k < 36)) α 999 = row (B1) 83 #[.string (z j), .string ⟨#[]⟩, vI ((j : Int) + 1), vI ((j : Int) + 1), vU 0, vU ((j : Int) + 1)] := rfl
  have e1 : R9 (fun k => decide (k < 36)) α 1999 = row (nb) 9 (nmR z n 0) := rfl
  have e2 : R9 (fun k => decide (k < 36)) α 2999 = row (rb) 31 (rfR n 0) := rfl
  have hO : Own w0 u [row (B1) 83 #[.string (z j), .string ⟨#[]⟩, vI ((j : Int) + 1), vI ((j : Int) + 1), vU 0, vU ((j : Int) + 1)], row (nb) 9 (nmR z n 0), row (rb) 31 (rfR n 0)] X9_3 := (hG.list [999, 1999, 2999] dc (act_all dc)).conv (by
   show [R9 (fun k => decide (k < 36)) α 999, R9 (fun k => decide (k < 36)) α 1999, R9 (fun k => decide (k < 36)) α 2999] = _
   rw [e0, e1, e2])
  clear hG e0 e1 e2 R9
  generalize hfr : Rega.frameAt _ _ _ _ _ = fr
  have hdf : fr = ⟨#[vS nb n n, A0, A1, A2, u4, A4, A5, A6, A7, A8, A9, v6 (n : Int), vS rb n n, vS lb n n, AA, AB, AC, AD, AE, AF, vP yb, vP xn, v6 (j : Int), vP B1, AI, AJ, AK, AL, AM, AN, AO, AP, AQ, AR, AS, AT, AU, AV, AW, AX, AY, AZ, B0, B2, B3, B4, B5, B6, B7, B8, B9, BA, BB, BC, BD, BE, BF, BG, BH, BI, BJ, BK, BL, BM, BN, BO, BP, BQ, BR, BS, BT, BU, BV, BW, BX, BY, BZ, C0, C1, C2, C3, C4, C5, C6, C7, C8, C9, CA, CB, CC, CD, CE, CF, CG, CH, CI, CJ, CK, CL, CM, CN, CO, CP, CQ, CR, CS, CT, CU, CV, CW, CX, CY, CZ, E0, E1, E2, E3, E4, E5, E6, E7, E8, E9, EA, EB, EC, ED, EE, EF, EG, EH, EI, EJ, EK, EL, EM, EN, EO, EP, EQ, ER, ES, ET, EU, EV, EW, EX, EY, EZ, F0, F1, F2, F3, F4, F5, F6, F7, F8, F9, FA, FB, FC, FD, FE, FF, FG, FH, FI, FJ, FK, FL, FM, FN, FO, FP, FQ, FR, FS, FT, FU, FV, FW, FX, FY, FZ, G0, G1, G2, G3, G4, G5, G6, G7, G8, G9, GA, GB, GC, GD, GE, GF, GG, GH, v6 (j : Int), v6 (n : Int), .bool true, u206, u207, vP xn, vP xn, vP xn, vS xb n (n + xc), v6 (j : Int), .pointer (some ⟨xb, j * 6, none⟩), .agg #[.string (z j), .string ⟨#[]⟩, vI ((j : Int) + 1), vI ((j : Int) + 1), vU 0, vU ((j : Int) + 1)], vP B1, .string (z j), vS nb n n, v6 (j : Int), .pointer (some ⟨nb, j, none⟩), .string (z j), bF, bF, .pointer (some ⟨B1, 3, none⟩), .pointer (some ⟨B1, 4, none⟩), .agg #[vU 0, vU ((j : Int) + 1)], vS rb n n, v6 (j : Int), .pointer (some ⟨rb, j * 2, none⟩), .agg #[vU 0, vU ((j : Int) + 1)], bF, bF, bF, .pointer (some ⟨B1, 3, none⟩), .pointer (some ⟨B1, 3, none⟩), .pointer (some ⟨B1, 3, none⟩), vI ((j : Int) + 1), v6 (j : Int), v6 ((j : Int) + 1), vI ((j : Int) + 1), bF, bF, bF, .pointer (some ⟨B1, 2, none⟩), .pointer (some ⟨B1, 2, none⟩), vI ((j : Int) + 1), v6 (j : Int), v6 ((j : Int) + 1), vI ((j : Int) + 1), bF, bF, u251, u252, u253, u254, u255, u256, u257, u258, u259, u260, u261, u262, u263, u264, u265, u266, u267, u268, u269, u270, u271, u272, u273, u274, u275, u276, u277, u278, u279, u280, u281], []⟩ := by rw [← hfr]; kernel_rfl
  clear hfr
  subst hdf
  clear α
  subst hX9_3
  replace hO : Own w0 u [row (B1) 83 #[.string (z j), .string ⟨#[]⟩, vI ((j : Int) + 1), vI ((j : Int) + 1), vU 0, vU ((j : Int) + 1)], row (nb) 9 (nmR z n 0), row (rb) 31 (rfR n 0), row (xb) 83 (full cliZ (tab (exC z) n) xc), row (xn) 79 #[vS xb n (n + xc), bF], row (yb) 76 #[vP yc, vP yf, vS tb n n, vI 0, vI 7], row (tb) 61 (full stmZ (stL (dtL (D 0) lcE) (List.range n)) 0), row (lb) 42 (loR D n 0)] (NodX X D n n) := hO.back HL.out HX.out [1, 2, 3, 4, 7] dc dc
  clear HL HX
  obtain ⟨ix9, hix9, hax9, hjx9⟩ := hO.ix
  have aL := hjx9 0 _ _ rfl
  have aM := hjx9 1 _ _ rfl
  have aN := hjx9 2 _ _ rfl
  have aO := hjx9 3 _ _ rfl
  have aP := hjx9 4 _ _ rfl
  have aQ := hjx9 5 _ _ rfl
  have aR := hjx9 6 _ _ rfl
  have an := hjx9 7 _ _ rfl
  clear hjx9
  obtain ⟨ao, ap, aq, ar, au, av, aS, aT, aw⟩ := hO.k6 0 rfl
  have ax : u.cell? ⟨nb, j, none⟩ = some (.string (z j)) := hO.cell 1 rfl (j) ((nmR_at z hlt))
  have aA := hO.lt 1 rfl
  have aB := hO.free 1 rfl
  have ay : u.cell? ⟨rb, j * 2, none⟩ = some (vU 0) := hO.cell 2 rfl (j * 2) ((rfR_at0 hlt))
  have az : u.cell? ⟨rb, j * 2 + 1, none⟩ = some (vU ((j : Int) + 1)) := hO.cell 2 rfl (j * 2 + 1) ((rfR_at1 hlt))
  have aC := hO.lt 2 rfl
  have aD := hO.free 2 rfl
  have bA : Base.plainAt u (xb) = true := hO.plain 3 rfl
  have bB : u.cell? ⟨xb, j * 6, none⟩ = some (.string (z j)) := hO.cell 3 rfl (j * 6) ((full_at hx0))
  have bC : u.cell? ⟨xb, j * 6 + 1, none⟩ = some (.string ⟨#[]⟩) := hO.cell 3 rfl (j * 6 + 1) ((full_at hx1))
  have bD : u.cell? ⟨xb, j * 6 + 2, none⟩ = some (vI ((j : Int) + 1)) := hO.cell 3 rfl (j * 6 + 2) ((full_at hx2))
  have bE : u.cell? ⟨xb, j * 6 + 3, none⟩ = some (vI ((j : Int) + 1)) := hO.cell 3 rfl (j * 6 + 3) ((full_at hx3))
  have bG : u.cell? ⟨xb, j * 6 + 4, none⟩ = some (vU 0) := hO.cell 3 rfl (j * 6 + 4) ((full_at hx4))
  have bH : u.cell? ⟨xb, j * 6 + 5, none⟩ = some (vU ((j : Int) + 1)) := hO.cell 3 rfl (j * 6 + 5) ((full_at hx5))
  have aU := hO.lt 3 rfl
  have aV := hO.free 3 rfl
  obtain ⟨bI, bJ, aW, aX, -⟩ := hO.k2 4 rfl
  obtain ⟨bK, bL, bM, bN, bO, aY, aZ, -⟩ := hO.k5 5 rfl
  have bP : u.cell? ⟨tb, j * 2 + 1, none⟩ = some (vI ((j : Int) + 1)) := hO.cell 6 rfl (j * 2 + 1) ((full_at hc1))
  have aa := hO.lt 6 rfl
  have ab := hO.free 6 rfl
  have bQ : u.cell? ⟨lb, j, none⟩ = some (.pointer (some ⟨D 0 j, 0, none⟩)) := hO.cell 7 rfl (j) ((loR_at D hlt))
  have bR := hO.lt 7 rfl
  have bS := hO.free 7 rfl
  have HO := Lib.hid hO
  clear hO
  have fx1 : u.cell? ⟨D 0 j, 1, none⟩ = some (v8 0) := Base.RowAt.cell (show Base.RowAt u (D 0 j) 57 #[vS (D 1 j) 1 1, v8 0, bF, bF] from by
   have h9 := (HO.out.frame (D 0 j) _ (Or.inr ⟨0, j, by omega, hlt, rfl, rfl⟩)).2.1
   rw [objE_turned D n j hlt] at h9
   exact h9) rfl
  have fx2 : u.cell? ⟨D 0 j, 2, none⟩ = some (bF) := Base.RowAt.cell (show Base.RowAt u (D 0 j) 57 #[vS (D 1 j) 1 1, v8 0, bF, bF] from by
   have h9 := (HO.out.frame (D 0 j) _ (Or.inr ⟨0, j, by omega, hlt, rfl, rfl⟩)).2.1
   rw [objE_turned D n j hlt] at h9
   exact h9) rfl
  have fxl : D 0 j < u.heap.size := Base.block_of_cell fx1
  go_wp2_with (first | (with_reducible refine Own.stay (fn := Tryd.f3) ?_) | fail)
  try with_reducible refine Own.Stay.mk ?_
  have hO := HO.out
  clear HO hix9 hax9 aL aM aN aO aP aQ aR an ix9 fx1 fx2 fxl ao ap aq ar au av aS aT aw ax aA aB ay az aC aD bA bB bC bD bE bG bH aU aV bI bJ aW aX bK bL bM bN bO aY aZ bP aa ab bQ bR bS
  go_roundg gq
  case measure => omega
  case rel => exact ⟨j + 1, by omega, by first | rfl | simp, hO.sub [3, 4, 5, 6, 1, 2, 7] dc⟩
 obtain rfl : gk = 0 := by omega
 obtain rfl : n = j := by omega
 have hlt9 : ¬ (n : Int) < (n : Int) := by omega
 obtain ⟨ix9, hix9, hax9, hjx9⟩ := hO.ix
 have aL := hjx9 0 _ _ rfl
 have aM := hjx9 1 _ _ rfl
 have aN := hjx9 2 _ _ rfl
 have aO := hjx9 3 _ _ rfl
 have aP := hjx9 4 _ _ rfl
 have aQ := hjx9 5 _ _ rfl
 have aR := hjx9 6 _ _ rfl
 clear hjx9
 obtain ⟨aE, aF, aA, aB, -⟩ := hO.k2 1 rfl
 obtain ⟨aG, aH, aI, aJ, aK, aC, aD, -⟩ := hO.k5 2 rfl
 have HO := Lib.hid hO
 clear hO
 go_wp2_with (first | (with_reducible refine Own.stay (fn := Tryd.f3) ?_) | fail)
 try with_reducible refine Own.Stay.mk ?_
 have hO := HO.out
 clear HO hix9 hax9 aL aM aN aO aP aQ aR ix9 aE aF aA aB aG aH aI aJ aK aC aD
 exact HP.out _ (hO.sub [] dc)
end Go.Proofs.YtikopplofkemlaaDoor.Use
