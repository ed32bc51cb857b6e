/- Several texts in one. No condition. -/
import Derived.Test.YtikopplofkemlaaDoorFinB00
import Derived.Test.YtikopplofkemlaaDoorFax
import Derived.Test.YtikopplofkemlaaDoorApf
namespace Go.Proofs.YtikopplofkemlaaDoor.Use
open Go.ChangeShapes Go.WideShapes Go.ChangeAt Go.RowKit Go.Sort Own
set_option linter.unusedVariables false
def finy00Post (pb : Nat) (PC : Array Value) (sb c : Nat) (st : List Sy) (n : Nat) (src : Int) (mp : Nat) (es : Array MapEntry) (k ms : Nat) (MC : Array Value) (pt : Nat) (QC : Array Value) (mu : Nat) (ul : List (Int × Int × Int)) (cs : Nat) (KC : Array Value) (cx : Nat) (loc : Int) (si tb nn tc : Nat) (ad : Nat → Nat) (lc : Nat → Int) (w0 : World) (X : Nat → Obj → Prop) (e : Ending) (w' : World) : Prop :=
 ∃ qb : Nat, ∃ qc : Nat, ∃ lb : Nat, ∃ ld : Nat, ∃ li : Nat, ∃ la : Nat, ∃ yb : Nat, ∃ yc : Nat, ∃ yf : Nat, ∃ fb : Nat, ∃ sb2 : Nat, ∃ c2 : Nat, ∃ gb2 : Nat, ∃ cg2 : Nat, ∃ db : Nat, ∃ cd : Nat, ∃ PC2 : Array Value, ∃ QC2 : Array Value, ∃ KC2 : Array Value, ∃ ul2 : List (Int × Int × Int), e = .returned (vS qb 2 (2 + qc)) ∧ PC2[350]? = some (bF) ∧ PC2[32]? = some (bF) ∧ PC2[105]? = some (vP pt) ∧ PC2[106]? = some (vS sb2 (n + 4) (n + 4 + c2)) ∧ QC2[4]? = some (.map (some mu)) ∧ QC2[3]? = some (vS db 4 (4 + cd)) ∧ KC2[5]? = some (vS gb2 4 (4 + cg2)) ∧ Own w0 w' [row (qb) 61 (full stmZ [vF 42 lb, vI loc, vF 67 yb, vI loc] qc), row (lb) 57 #[vS ld 1 1, v8 0, bF, bF], row (ld) 54 #[vF 134 li, vI loc, vF 315 la, vI loc], row (li) 136 #[vU src, vU (si : Int)], row (yb) 76 #[vP yc, vP yf, vS tb nn (nn + tc), vI 0, vI loc], row (yf) 116 #[vS fb 1 1, vI 0, vI loc], row (pb) 252 PC2, row (sb2) 260 (full symZ (symL (bump (stF0 st si n) n)) c2), row (pt) 107 QC2, ((mu, .map (uA ul2) (uN ul2)) : Rw), row (cs) 99 KC2, row (gb2) 31 (full refZ ([vU src, vU (si : Int), vU src, vU (n : Int), vU src, vU (n + 1 : Int), vU src, vU (n + 1 + 1 : Int)]) cg2), row (db) 113 (full dsyZ [vU src, vU (si : Int), bF, vU src, vU (n : Int), bF, vU src, vU (n + 1 : Int), bF, vU src, vU (n + 1 + 1 : Int), bF] cd), row (tb) 61 (full stmZ (stL (dtL ad lc) (List.range nn)) tc)] X
set_option maxRecDepth 100000 in
set_option maxHeartbeats 4000000 in
theorem finy00 (pb : Nat) (PC : Array Value) (sb c : Nat) (st : List Sy) (n : Nat) (src : Int) (mp : Nat) (es : Array MapEntry) (k ms : Nat) (MC : Array Value) (pt : Nat) (QC : Array Value) (mu : Nat) (ul : List (Int × Int × Int)) (cs : Nat) (KC : Array Value) (cx : Nat) (loc : Int) (si tb nn tc : Nat) (ad : Nat → Nat) (lc : Nat → Int) (w0 w : World) (X : Nat → Obj → Prop) (hO : Own w0 w [row (cx) 33 #[vI loc, vU src, vU (si : Int), bF], row (pb) 252 PC, row (sb) 260 (full symZ (symL st) c), ((mp, .map es k) : Rw), row (ms) 99 MC, row (pt) 107 QC, ((mu, .map (uA ul) (uN ul)) : Rw), row (cs) 99 KC, row (tb) 61 (full stmZ (stL (dtL ad lc) (List.range nn)) tc)] X) (hk350 : PC[350]? = some (bF)) (hk32 : PC[32]? = some (bF)) (hk105 : PC[105]? = some (vP pt)) (hk66 : PC[66]? = some (vU src)) (hk117 : PC[117]? = some (.map (some mp))) (hk187 : PC[187]? = some (vP ms)) (hk104 : PC[104]? = some (vP cs)) (hk333 : PC[333]? = some (bF)) (hk23 : PC[23]? = some (.int .u64 0)) (hk106 : PC[106]? = some (vS sb n (n + c))) (hn : st.length = n) (hnb : n ≤ 100000) (hsu : QC[4]? = some (.map (some mu))) (hds : QC[3]? = some (vN)) (hkind : KC[15]? = some (v8 8)) (hgen : MC[5]? = some (vN)) (hcg : KC[5]? = some (vN)) (hsi : si < n) (hno : Instr.findNow .string (.string ⟨#[95, 95, 99, 97, 108, 108, 68, 105, 115, 112, 111, 115, 101]⟩) es.toList 0 = some none) (hnn : nn ≤ 5000) (hloc : ∀ i : Nat, i < nn → ∃ lcs : List Value, X (ad i) (.cells lcs.toArray 57 (0, 0)) ∧ lcs[2]? = some (bF)) (hg0 : w0.cell? ⟨0, 0, none⟩ = some (vU 4294967295)) (hg1 : w0.cell? ⟨0, 1, none⟩ = some (vU 4294967295)) :
  Calls Tryd.prog 39 #[vP cx, vP pb, vS tb nn (nn + tc), bF] w (finy00Post pb PC sb c st n src mp es k ms MC pt QC mu ul cs KC cx loc si tb nn tc ad lc w0 X) := by
 go_enter Tryd.func39, Tryd.ntmps39
 obtain ⟨c9, hc9⟩ : ∃ c, c = restA := ⟨_, rfl⟩
 have HC9 := Lib.hid hc9
 simp only [restA, Tryd.f39, Option.getD_some, cutC] at hc9
 rw [← hc9]
 clear hc9
 have HLC := Lib.hid hloc
 clear hloc
 have hn9 : (nn : Int) ≤ 5000 := by omega
 have hn8 : (0 : Int) ≤ (nn : Int) := by omega
 obtain ⟨aC, aD, aE, aF, aA, aB, -⟩ := hO.k4 0 rfl
 have HO := Lib.hid hO
 clear hO
 go_wp2_with (first | (with_reducible refine Own.stay (fn := Tryd.f39) ?_) | (at_builtin; refine Own.appStop ?_) | fail)
 try with_reducible refine Own.Stay.mk ?_
 have hO := HO.out
 clear HO aC aD aE aF aA aB
 generalize hW : World.alloc _ _ = W2
 have hN : Own w0 W2 [row (w.heap.size + 1) 77 #[vN], row (w.heap.size) 25 #[vP pb], row (cx) 33 #[vI loc, vU src, vU (si : Int), bF], row (pb) 252 PC, row (sb) 260 (full symZ (symL st) c), ((mp, .map es k) : Rw), row (ms) 99 MC, row (pt) 107 QC, ((mu, .map (uA ul) (uN ul)) : Rw), row (cs) 99 KC, row (tb) 61 (full stmZ (stL (dtL ad lc) (List.range nn)) tc)] X := by
  rw [← hW]
  exact ((hO).alloc' _ (w.heap.size) (by simp)).alloc' _ (w.heap.size + 1) (by simp)
 clear hW hO
 generalize w.heap.size + 1 = B1_1 at hN ⊢
 generalize w.heap.size = B1 at hN ⊢
 have hO := hN
 clear hN
 have hL := hO.apart
 have hX := hO.apartX
 have HL0 := Lib.hid hL
 have HX0 := Lib.hid hX
 clear hL hX
 have hP9 := hO.pick [10] dc
 generalize hX9 : Own.Rest _ _ X = X9 at hP9
 have hXY : ∀ b o, X b o → X9 b o := by rw [← hX9]; exact fun b o h => Or.inl h
 have HXE := Lib.hid hX9
 clear hX9
 have HXY := Lib.hid hXY
 clear hXY
 replace hO : Own w0 W2 [row (tb) 61 (full stmZ (stL (dtL ad lc) (List.range nn)) tc)] X9 := hP9
 clear hP9
 go_loopg [9, 11, 33] nn (fun gf s9 s11 s33 wx => ∃ i : Nat, i + gf = nn ∧ s33 = v6 (i : Int) ∧ s11 = v6 (i : Int) ∧ s9 = vN ∧ Own w0 wx [row (tb) 61 (full stmZ (stL (dtL ad lc) (List.range nn)) tc)] X9)
 case atStart => exact ⟨0, by omega, rfl, rfl, rfl, hO⟩
 obtain ⟨i, hin, rfl, rfl, rfl, hO⟩ := hrel
 have hi9 : (i : Int) ≤ 5000 := by omega
 have hi8 : (0 : Int) ≤ (i : Int) := by omega
 by_cases hlt : i < nn
 ·skip
  obtain ⟨gq, rfl⟩ : ∃ gq, gk = gq + 1 := ⟨gk - 1, by omega⟩
  have hlt9 : (i : Int) < (nn : Int) := by omega
  have ha0 : (List.range nn)[i]? = some i := by simp [hlt]
  have hc0 : (stL (dtL ad lc) (List.range nn))[i * 2]? = some (.iface 42 (.pointer (some ⟨ad i, 0, none⟩))) := stL_at0 (D := dtL ad lc) ha0
  have hc1 : (stL (dtL ad lc) (List.range nn))[i * 2 + 1]? = some (vI (lc i)) := stL_at1 (D := dtL ad lc) ha0
  clear ha0
  obtain ⟨lcs, hlx, hle⟩ := HLC.out i hlt
  have hlx := HXY.out _ _ hlx
  obtain ⟨ix9, hix9, hax9, hjx9⟩ := hO.ix
  have aG := hjx9 0 _ _ rfl
  clear hjx9
  have aH : wr.cell? ⟨tb, i * 2, none⟩ = some (.iface 42 (.pointer (some ⟨ad i, 0, none⟩))) := hO.cell 0 rfl (i * 2) ((full_at hc0))
  have aI : wr.cell? ⟨tb, i * 2 + 1, none⟩ = some (vI (lc i)) := hO.cell 0 rfl (i * 2 + 1) ((full_at hc1))
  have aA := hO.lt 0 rfl
  have aB := hO.free 0 rfl
  have HO := Lib.hid hO
  clear hO
  have fx0 : wr.cell? ⟨ad i, 2, none⟩ = some (bF) := Base.RowAt.cell (show Base.RowAt wr (ad i) 57 lcs.toArray from (HO.out.frame _ _ hlx).2.1) (by simpa using hle)
  have fx1 : ad i < wr.heap.size := Base.block_of_cell fx0
  go_wp2_with (first | (with_reducible refine Own.stay (fn := Tryd.f39) ?_) | (at_builtin; refine Own.appStop ?_) | fail)
  try with_reducible refine Own.Stay.mk ?_
  have hO := HO.out
  clear HO hix9 hax9 aG ix9 fx0 fx1 aH aI aA aB
  generalize hW : World.alloc _ _ = W4
  have hN : Own w0 W4 [row (wr.heap.size + 1) 42 #[.pointer (some ⟨ad i, 0, none⟩)], row (wr.heap.size) 61 #[.iface 42 (.pointer (some ⟨ad i, 0, none⟩)), vI (lc i)], row (tb) 61 (full stmZ (((stL (dtL ad lc) (List.range nn)).set (i * 2) (.iface 42 (.pointer (some ⟨ad i, 0, none⟩)))).set (i * 2 + 1) (vI (lc i))) tc)] X9 := by
   rw [← hW]
   exact ((((hO).setFull 0 rfl (i * 2) hc0 _).setFull 0 rfl (i * 2 + 1) (set_ne hc1 (by omega)) _).alloc' _ (wr.heap.size) (by simp)).alloc' _ (wr.heap.size + 1) (by simp)
  clear hW hO
  generalize wr.heap.size + 1 = B3_1 at hN ⊢
  generalize wr.heap.size = B3 at hN ⊢
  have hO := hN
  clear hN
  have h9 := stL_set (D := dtL ad lc) (l := List.range nn) (p := i) i (by simpa using hlt)
  rw [range_set] at h9
  have hN : Own w0 W4 [row (tb) 61 (full stmZ (stL (dtL ad lc) (List.range nn)) tc)] X9 := (hO.sub [2] dc).conv (by
   rw [← h9]
   rw [h9]
   exact congrArg (fun l : List Value => [row (tb) 61 (full stmZ l tc)]) h9)
  go_roundg gq
  case measure => omega
  case rel => exact ⟨i + 1, by omega, by first | rfl | simp, by first | rfl | simp, rfl, hN⟩
 obtain rfl : nn = i := by omega
 have hlt9 : ¬ (nn : Int) < (nn : Int) := by omega
 clear hlt hin
 have hM := hO
 rw [← HXE.out] at hM
 replace hO : Own w0 wr [row (tb) 61 (full stmZ (stL (dtL ad lc) (List.range nn)) tc), row (B1_1) 77 #[vN], row (B1) 25 #[vP pb], row (cx) 33 #[vI loc, vU src, vU (si : Int), bF], row (pb) 252 PC, row (sb) 260 (full symZ (symL st) c), ((mp, .map es k) : Rw), row (ms) 99 MC, row (pt) 107 QC, ((mu, .map (uA ul) (uN ul)) : Rw), row (cs) 99 KC] X := hM.back HL0.out HX0.out [0, 1, 2, 3, 4, 5, 6, 7, 8, 9] dc dc
 clear hM HL0 HX0 HXE HXY
 obtain ⟨aJ, aK, aL, -⟩ := hO.k1 1 rfl
 obtain ⟨aM, aN, aO, -⟩ := hO.k1 2 rfl
 obtain ⟨aP, aQ, aR, aS, aT, aU, -⟩ := hO.k4 3 rfl
 have HO := Lib.hid hO
 clear hO
 go_wp2_with (first | (with_reducible refine Own.stay (fn := Tryd.f39) ?_) | (at_builtin; refine Own.appStop ?_) | fail)
 try with_reducible refine Own.Stay.mk ?_
 have hO := HO.out
 clear HO aJ aK aL aM aN aO aP aQ aR aS aT aU
 rw [HC9.out]
 obtain ⟨HL, HX⟩ := hid2 hO
 have hP9 := hO.pick [2, 3, 4, 5, 6, 7, 8, 9, 10] dc
 refine finA00 pb PC sb c st n src mp es k ms MC pt QC mu ul cs KC cx B1 B1_1 loc si (vS tb nn (nn + tc)) (vN) w0 wr _ _ ?_ hP9 hk350 hk32 hk105 hk66 hk117 hk187 hk104 hk333 hk23 hk106 hn hnb hsu hds hkind hgen hcg hsi hno hg0 hg1
 clear hP9
 unfold Fb00
 intro v21 v22 v23 v26 fb sb2 c2 gb2 cg2 db cd PC2 QC2 KC2 ul2
 intros
 rename_i w2 hp350 hp32 hp105 hp106 hq4 hq3 hm5 hQ
 replace hO : Own w0 w2 [row (B1) 25 #[vP pb], row (cx) 33 #[vI loc, vU src, vU (si : Int), bF], row (v21) 31 #[vU src, vU (n : Int)], row (v22) 31 #[vU src, vU (n + 1 : Int)], row (v23) 31 #[vU src, vU (n + 1 + 1 : Int)], row (v26) 28 #[vI loc], row (pb) 252 PC2, row (sb2) 260 (full symZ (symL (stF0 st si n)) c2), row (pt) 107 QC2, ((mu, .map (uA ul2) (uN ul2)) : Rw), row (cs) 99 KC2, row (gb2) 31 (full refZ ([vU src, vU (si : Int), vU src, vU (n : Int), vU src, vU (n + 1 : Int), vU src, vU (n + 1 + 1 : Int)]) cg2), row (db) 113 (full dsyZ [vU src, vU (si : Int), bF, vU src, vU (n : Int), bF, vU src, vU (n + 1 : Int), bF, vU src, vU (n + 1 + 1 : Int), bF] cd), row (tb) 61 (full stmZ (stL (dtL ad lc) (List.range nn)) tc), row (B1_1) 77 #[vN]] X := hQ.back HL.out HX.out [0, 1] dc dc
 clear hQ HL HX
 obtain ⟨HL, HX⟩ := hid2 hO
 have hP9 := hO.pick [0, 1, 2, 3, 4, 5, 14, 6, 7, 8, 9] dc
 refine finB00 pb PC2 sb2 c2 (stF0 st si n) (n + 4) pt QC2 mu ul2 src cx B1 B1_1 v21 v22 v23 v26 loc si n (n + 1 : Int) (n + 1 + 1 : Int) false (some ⟨tb, 0, none⟩) nn (nn + tc) fb 1 w0 w2 _ _ ?_ hP9 hp350 hp32 hp105 hp106 (by rw [stF0_length, hn]) (by omega) (by omega) hq4
 clear hP9
 intro qb qc lb ld li la yb yc yf w3 hQ
 replace hO : Own w0 w3 [row (qb) 61 (full stmZ [vF 42 lb, vI loc, vF 67 yb, vI loc] qc), row (lb) 57 #[vS ld 1 1, v8 0, bF, bF], row (ld) 54 #[vF 134 li, vI loc, vF 315 la, vI loc], row (li) 136 #[vU src, vU (si : Int)], row (yb) 76 #[vP yc, vP yf, vS tb nn (nn + tc), vI 0, vI loc], row (yf) 116 #[vS fb 1 1, vI 0, vI loc], row (pb) 252 PC2, row (sb2) 260 (full symZ (symL (bump (stF0 st si n) n)) c2), row (pt) 107 QC2, ((mu, .map (uA (ubump ul2 src (n : Int))) (uN (ubump ul2 src (n : Int)))) : Rw), row (cs) 99 KC2, row (gb2) 31 (full refZ ([vU src, vU (si : Int), vU src, vU (n : Int), vU src, vU (n + 1 : Int), vU src, vU (n + 1 + 1 : Int)]) cg2), row (db) 113 (full dsyZ [vU src, vU (si : Int), bF, vU src, vU (n : Int), bF, vU src, vU (n + 1 : Int), bF, vU src, vU (n + 1 + 1 : Int), bF] cd), row (tb) 61 (full stmZ (stL (dtL ad lc) (List.range nn)) tc)] X := hQ.back HL.out HX.out [10, 11, 12, 13] dc dc
 clear hQ HL HX
 exact ⟨qb, qc, lb, ld, li, la, yb, yc, yf, fb, sb2, c2, gb2, cg2, db, cd, PC2, QC2, KC2, (ubump ul2 src (n : Int)), rfl, hp350, hp32, hp105, hp106, hq4, hq3, hm5, hO.sub [0, 1, 2, 3, 4, 5, 6, 7, 8, 9, 10, 11, 12, 13] dc⟩
end Go.Proofs.YtikopplofkemlaaDoor.Use
namespace Go.Proofs.YtikopplofkemlaaDoor.Use
open Go.ChangeShapes Go.WideShapes Go.ChangeAt Go.RowKit Go.Sort Own
set_option linter.unusedVariables false
def finy10Post (pb : Nat) (PC : Array Value) (sb c : Nat) (st : List Sy) (n : Nat) (src : Int) (mp : Nat) (es : Array MapEntry) (k ms : Nat) (MC : Array Value) (pt : Nat) (QC : Array Value) (mu : Nat) (ul : List (Int × Int × Int)) (cs : Nat) (KC : Array Value) (cx : Nat) (loc : Int) (si tb nn tc : Nat) (ad : Nat → Nat) (lc : Nat → Int) (w0 : World) (X : Nat → Obj → Prop) (e : Ending) (w' : World) : Prop :=
 ∃ qb : Nat, ∃ qc : Nat, ∃ lb : Nat, ∃ ld : Nat, ∃ li : Nat, ∃ la : Nat, ∃ yb : Nat, ∃ yc : Nat, ∃ yf : Nat, ∃ fb : Nat, ∃ sb2 : Nat, ∃ c2 : Nat, ∃ gb2 : Nat, ∃ cg2 : Nat, ∃ db : Nat, ∃ cd : Nat, ∃ PC2 : Array Value, ∃ QC2 : Array Value, ∃ KC2 : Array Value, ∃ ul2 : List (Int × Int × Int), e = .returned (vS qb 2 (2 + qc)) ∧ PC2[350]? = some (bF) ∧ PC2[32]? = some (bF) ∧ PC2[105]? = some (vP pt) ∧ PC2[106]? = some (vS sb2 (n + 5) (n + 5 + c2)) ∧ QC2[4]? = some (.map (some mu)) ∧ QC2[3]? = some (vS db 5 (5 + cd)) ∧ KC2[5]? = some (vS gb2 6 (6 + cg2)) ∧ Own w0 w' [row (qb) 61 (full stmZ [vF 42 lb, vI loc, vF 67 yb, vI loc] qc), row (lb) 57 #[vS ld 1 1, v8 0, bF, bF], row (ld) 54 #[vF 134 li, vI loc, vF 315 la, vI loc], row (li) 136 #[vU src, vU (si : Int)], row (yb) 76 #[vP yc, vP yf, vS tb nn (nn + tc), vI 0, vI loc], row (yf) 116 #[vS fb 2 2, vI 0, vI loc], row (pb) 252 PC2, row (sb2) 260 (full symZ (symL (bump (stF1 st si n) n)) c2), row (pt) 107 QC2, ((mu, .map (uA ul2) (uN ul2)) : Rw), row (cs) 99 KC2, row (gb2) 31 (full refZ ([vU src, vU (si : Int), vU src, vU (n : Int), vU src, vU (n + 1 : Int), vU src, vU (n + 1 + 1 : Int), vU src, vU (n + 1 + 1 + 1 + 1 : Int), vU src, vU (n + 1 + 1 + 1 + 1 : Int)]) cg2), row (db) 113 (full dsyZ [vU src, vU (si : Int), bF, vU src, vU (n : Int), bF, vU src, vU (n + 1 : Int), bF, vU src, vU (n + 1 + 1 : Int), bF, vU src, vU (n + 1 + 1 + 1 + 1 : Int), bF] cd), row (tb) 61 (full stmZ (stL (dtL ad lc) (List.range nn)) tc)] X
set_option maxRecDepth 100000 in
set_option maxHeartbeats 4000000 in
theorem finy10 (pb : Nat) (PC : Array Value) (sb c : Nat) (st : List Sy) (n : Nat) (src : Int) (mp : Nat) (es : Array MapEntry) (k ms : Nat) (MC : Array Value) (pt : Nat) (QC : Array Value) (mu : Nat) (ul : List (Int × Int × Int)) (cs : Nat) (KC : Array Value) (cx : Nat) (loc : Int) (si tb nn tc : Nat) (ad : Nat → Nat) (lc : Nat → Int) (w0 w : World) (X : Nat → Obj → Prop) (hO : Own w0 w [row (cx) 33 #[vI loc, vU src, vU (si : Int), .bool true], row (pb) 252 PC, row (sb) 260 (full symZ (symL st) c), ((mp, .map es k) : Rw), row (ms) 99 MC, row (pt) 107 QC, ((mu, .map (uA ul) (uN ul)) : Rw), row (cs) 99 KC, row (tb) 61 (full stmZ (stL (dtL ad lc) (List.range nn)) tc)] X) (hk350 : PC[350]? = some (bF)) (hk32 : PC[32]? = some (bF)) (hk105 : PC[105]? = some (vP pt)) (hk66 : PC[66]? = some (vU src)) (hk117 : PC[117]? = some (.map (some mp))) (hk187 : PC[187]? = some (vP ms)) (hk104 : PC[104]? = some (vP cs)) (hk333 : PC[333]? = some (bF)) (hk23 : PC[23]? = some (.int .u64 0)) (hk106 : PC[106]? = some (vS sb n (n + c))) (hn : st.length = n) (hnb : n ≤ 100000) (hsu : QC[4]? = some (.map (some mu))) (hds : QC[3]? = some (vN)) (hkind : KC[15]? = some (v8 8)) (hgen : MC[5]? = some (vN)) (hcg : KC[5]? = some (vN)) (hsi : si < n) (hno : Instr.findNow .string (.string ⟨#[95, 95, 99, 97, 108, 108, 68, 105, 115, 112, 111, 115, 101]⟩) es.toList 0 = some none) (hnn : nn ≤ 5000) (hloc : ∀ i : Nat, i < nn → ∃ lcs : List Value, X (ad i) (.cells lcs.toArray 57 (0, 0)) ∧ lcs[2]? = some (bF)) (hg0 : w0.cell? ⟨0, 0, none⟩ = some (vU 4294967295)) (hg1 : w0.cell? ⟨0, 1, none⟩ = some (vU 4294967295)) :
  Calls Tryd.prog 39 #[vP cx, vP pb, vS tb nn (nn + tc), bF] w (finy10Post pb PC sb c st n src mp es k ms MC pt QC mu ul cs KC cx loc si tb nn tc ad lc w0 X) := by
 go_enter Tryd.func39, Tryd.ntmps39
 obtain ⟨c9, hc9⟩ : ∃ c, c = restA := ⟨_, rfl⟩
 have HC9 := Lib.hid hc9
 simp only [restA, Tryd.f39, Option.getD_some, cutC] at hc9
 rw [← hc9]
 clear hc9
 have HLC := Lib.hid hloc
 clear hloc
 have hn9 : (nn : Int) ≤ 5000 := by omega
 have hn8 : (0 : Int) ≤ (nn : Int) := by omega
 obtain ⟨aC, aD, aE, aF, aA, aB, -⟩ := hO.k4 0 rfl
 have HO := Lib.hid hO
 clear hO
 go_wp2_with (first | (with_reducible refine Own.stay (fn := Tryd.f39) ?_) | (at_builtin; refine Own.appStop ?_) | fail)
 try with_reducible refine Own.Stay.mk ?_
 have hO := HO.out
 clear HO aC aD aE aF aA aB
 generalize hW : World.alloc _ _ = W2
 have hN : Own w0 W2 [row (w.heap.size + 1) 77 #[vN], row (w.heap.size) 25 #[vP pb], row (cx) 33 #[vI loc, vU src, vU (si : Int), .bool true], row (pb) 252 PC, row (sb) 260 (full symZ (symL st) c), ((mp, .map es k) : Rw), row (ms) 99 MC, row (pt) 107 QC, ((mu, .map (uA ul) (uN ul)) : Rw), row (cs) 99 KC, row (tb) 61 (full stmZ (stL (dtL ad lc) (List.range nn)) tc)] X := by
  rw [← hW]
  exact ((hO).alloc' _ (w.heap.size) (by simp)).alloc' _ (w.heap.size + 1) (by simp)
 clear hW hO
 generalize w.heap.size + 1 = B1_1 at hN ⊢
 generalize w.heap.size = B1 at hN ⊢
 have hO := hN
 clear hN
 have hL := hO.apart
 have hX := hO.apartX
 have HL0 := Lib.hid hL
 have HX0 := Lib.hid hX
 clear hL hX
 have hP9 := hO.pick [10] dc
 generalize hX9 : Own.Rest _ _ X = X9 at hP9
 have hXY : ∀ b o, X b o → X9 b o := by rw [← hX9]; exact fun b o h => Or.inl h
 have HXE := Lib.hid hX9
 clear hX9
 have HXY := Lib.hid hXY
 clear hXY
 replace hO : Own w0 W2 [row (tb) 61 (full stmZ (stL (dtL ad lc) (List.range nn)) tc)] X9 := hP9
 clear hP9
 go_loopg [9, 11, 33] nn (fun gf s9 s11 s33 wx => ∃ i : Nat, i + gf = nn ∧ s33 = v6 (i : Int) ∧ s11 = v6 (i : Int) ∧ s9 = vN ∧ Own w0 wx [row (tb) 61 (full stmZ (stL (dtL ad lc) (List.range nn)) tc)] X9)
 case atStart => exact ⟨0, by omega, rfl, rfl, rfl, hO⟩
 obtain ⟨i, hin, rfl, rfl, rfl, hO⟩ := hrel
 have hi9 : (i : Int) ≤ 5000 := by omega
 have hi8 : (0 : Int) ≤ (i : Int) := by omega
 by_cases hlt : i < nn
 ·skip
  obtain ⟨gq, rfl⟩ : ∃ gq, gk = gq + 1 := ⟨gk - 1, by omega⟩
  have hlt9 : (i : Int) < (nn : Int) := by omega
  have ha0 : (List.range nn)[i]? = some i := by simp [hlt]
  have hc0 : (stL (dtL ad lc) (List.range nn))[i * 2]? = some (.iface 42 (.pointer (some ⟨ad i, 0, none⟩))) := stL_at0 (D := dtL ad lc) ha0
  have hc1 : (stL (dtL ad lc) (List.range nn))[i * 2 + 1]? = some (vI (lc i)) := stL_at1 (D := dtL ad lc) ha0
  clear ha0
  obtain ⟨lcs, hlx, hle⟩ := HLC.out i hlt
  have hlx := HXY.out _ _ hlx
  obtain ⟨ix9, hix9, hax9, hjx9⟩ := hO.ix
  have aG := hjx9 0 _ _ rfl
  clear hjx9
  have aH : wr.cell? ⟨tb, i * 2, none⟩ = some (.iface 42 (.pointer (some ⟨ad i, 0, none⟩))) := hO.cell 0 rfl (i * 2) ((full_at hc0))
  have aI : wr.cell? ⟨tb, i * 2 + 1, none⟩ = some (vI (lc i)) := hO.cell 0 rfl (i * 2 + 1) ((full_at hc1))
  have aA := hO.lt 0 rfl
  have aB := hO.free 0 rfl
  have HO := Lib.hid hO
  clear hO
  have fx0 : wr.cell? ⟨ad i, 2, none⟩ = some (bF) := Base.RowAt.cell (show Base.RowAt wr (ad i) 57 lcs.toArray from (HO.out.frame _ _ hlx).2.1) (by simpa using hle)
  have fx1 : ad i < wr.heap.size := Base.block_of_cell fx0
  go_wp2_with (first | (with_reducible refine Own.stay (fn := Tryd.f39) ?_) | (at_builtin; refine Own.appStop ?_) | fail)
  try with_reducible refine Own.Stay.mk ?_
  have hO := HO.out
  clear HO hix9 hax9 aG ix9 fx0 fx1 aH aI aA aB
  generalize hW : World.alloc _ _ = W4
  have hN : Own w0 W4 [row (wr.heap.size + 1) 42 #[.pointer (some ⟨ad i, 0, none⟩)], row (wr.heap.size) 61 #[.iface 42 (.pointer (some ⟨ad i, 0, none⟩)), vI (lc i)], row (tb) 61 (full stmZ (((stL (dtL ad lc) (List.range nn)).set (i * 2) (.iface 42 (.pointer (some ⟨ad i, 0, none⟩)))).set (i * 2 + 1) (vI (lc i))) tc)] X9 := by
   rw [← hW]
   exact ((((hO).setFull 0 rfl (i * 2) hc0 _).setFull 0 rfl (i * 2 + 1) (set_ne hc1 (by omega)) _).alloc' _ (wr.heap.size) (by simp)).alloc' _ (wr.heap.size + 1) (by simp)
  clear hW hO
  generalize wr.heap.size + 1 = B3_1 at hN ⊢
  generalize wr.heap.size = B3 at hN ⊢
  have hO := hN
  clear hN
  have h9 := stL_set (D := dtL ad lc) (l := List.range nn) (p := i) i (by simpa using hlt)
  rw [range_set] at h9
  have hN : Own w0 W4 [row (tb) 61 (full stmZ (stL (dtL ad lc) (List.range nn)) tc)] X9 := (hO.sub [2] dc).conv (by
   rw [← h9]
   rw [h9]
   exact congrArg (fun l : List Value => [row (tb) 61 (full stmZ l tc)]) h9)
  go_roundg gq
  case measure => omega
  case rel => exact ⟨i + 1, by omega, by first | rfl | simp, by first | rfl | simp, rfl, hN⟩
 obtain rfl : nn = i := by omega
 have hlt9 : ¬ (nn : Int) < (nn : Int) := by omega
 clear hlt hin
 have hM := hO
 rw [← HXE.out] at hM
 replace hO : Own w0 wr [row (tb) 61 (full stmZ (stL (dtL ad lc) (List.range nn)) tc), row (B1_1) 77 #[vN], row (B1) 25 #[vP pb], row (cx) 33 #[vI loc, vU src, vU (si : Int), .bool true], row (pb) 252 PC, row (sb) 260 (full symZ (symL st) c), ((mp, .map es k) : Rw), row (ms) 99 MC, row (pt) 107 QC, ((mu, .map (uA ul) (uN ul)) : Rw), row (cs) 99 KC] X := hM.back HL0.out HX0.out [0, 1, 2, 3, 4, 5, 6, 7, 8, 9] dc dc
 clear hM HL0 HX0 HXE HXY
 obtain ⟨aJ, aK, aL, -⟩ := hO.k1 1 rfl
 obtain ⟨aM, aN, aO, -⟩ := hO.k1 2 rfl
 obtain ⟨aP, aQ, aR, aS, aT, aU, -⟩ := hO.k4 3 rfl
 have HO := Lib.hid hO
 clear hO
 go_wp2_with (first | (with_reducible refine Own.stay (fn := Tryd.f39) ?_) | (at_builtin; refine Own.appStop ?_) | fail)
 try with_reducible refine Own.Stay.mk ?_
 have hO := HO.out
 clear HO aJ aK aL aM aN aO aP aQ aR aS aT aU
 rw [HC9.out]
 obtain ⟨HL, HX⟩ := hid2 hO
 have hP9 := hO.pick [2, 3, 4, 5, 6, 7, 8, 9, 10] dc
 refine finA10 pb PC sb c st n src mp es k ms MC pt QC mu ul cs KC cx B1 B1_1 loc si (vS tb nn (nn + tc)) (vN) w0 wr _ _ ?_ hP9 hk350 hk32 hk105 hk66 hk117 hk187 hk104 hk333 hk23 hk106 hn hnb hsu hds hkind hgen hcg hsi hno hg0 hg1
 clear hP9
 unfold Fb10
 intro v21 v22 v23 v26 fb sb2 c2 gb2 cg2 db cd PC2 QC2 KC2 ul2
 intros
 rename_i w2 hp350 hp32 hp105 hp106 hq4 hq3 hm5 hQ
 replace hO : Own w0 w2 [row (B1) 25 #[vP pb], row (cx) 33 #[vI loc, vU src, vU (si : Int), .bool true], row (v21) 31 #[vU src, vU (n : Int)], row (v22) 31 #[vU src, vU (n + 1 : Int)], row (v23) 31 #[vU src, vU (n + 1 + 1 : Int)], row (v26) 28 #[vI loc], row (pb) 252 PC2, row (sb2) 260 (full symZ (symL (stF1 st si n)) c2), row (pt) 107 QC2, ((mu, .map (uA ul2) (uN ul2)) : Rw), row (cs) 99 KC2, row (gb2) 31 (full refZ ([vU src, vU (si : Int), vU src, vU (n : Int), vU src, vU (n + 1 : Int), vU src, vU (n + 1 + 1 : Int), vU src, vU (n + 1 + 1 + 1 + 1 : Int), vU src, vU (n + 1 + 1 + 1 + 1 : Int)]) cg2), row (db) 113 (full dsyZ [vU src, vU (si : Int), bF, vU src, vU (n : Int), bF, vU src, vU (n + 1 : Int), bF, vU src, vU (n + 1 + 1 : Int), bF, vU src, vU (n + 1 + 1 + 1 + 1 : Int), bF] cd), row (tb) 61 (full stmZ (stL (dtL ad lc) (List.range nn)) tc), row (B1_1) 77 #[vN]] X := hQ.back HL.out HX.out [0, 1] dc dc
 clear hQ HL HX
 obtain ⟨HL, HX⟩ := hid2 hO
 have hP9 := hO.pick [0, 1, 2, 3, 4, 5, 14, 6, 7, 8, 9] dc
 refine finB00 pb PC2 sb2 c2 (stF1 st si n) (n + 5) pt QC2 mu ul2 src cx B1 B1_1 v21 v22 v23 v26 loc si n (n + 1 : Int) (n + 1 + 1 : Int) true (some ⟨tb, 0, none⟩) nn (nn + tc) fb 2 w0 w2 _ _ ?_ hP9 hp350 hp32 hp105 hp106 (by rw [stF1_length, hn]) (by omega) (by omega) hq4
 clear hP9
 intro qb qc lb ld li la yb yc yf w3 hQ
 replace hO : Own w0 w3 [row (qb) 61 (full stmZ [vF 42 lb, vI loc, vF 67 yb, vI loc] qc), row (lb) 57 #[vS ld 1 1, v8 0, bF, bF], row (ld) 54 #[vF 134 li, vI loc, vF 315 la, vI loc], row (li) 136 #[vU src, vU (si : Int)], row (yb) 76 #[vP yc, vP yf, vS tb nn (nn + tc), vI 0, vI loc], row (yf) 116 #[vS fb 2 2, vI 0, vI loc], row (pb) 252 PC2, row (sb2) 260 (full symZ (symL (bump (stF1 st si n) n)) c2), row (pt) 107 QC2, ((mu, .map (uA (ubump ul2 src (n : Int))) (uN (ubump ul2 src (n : Int)))) : Rw), row (cs) 99 KC2, row (gb2) 31 (full refZ ([vU src, vU (si : Int), vU src, vU (n : Int), vU src, vU (n + 1 : Int), vU src, vU (n + 1 + 1 : Int), vU src, vU (n + 1 + 1 + 1 + 1 : Int), vU src, vU (n + 1 + 1 + 1 + 1 : Int)]) cg2), row (db) 113 (full dsyZ [vU src, vU (si : Int), bF, vU src, vU (n : Int), bF, vU src, vU (n + 1 : Int), bF, vU src, vU (n + 1 + 1 : Int), bF, vU src, vU (n + 1 + 1 + 1 + 1 : Int), bF] cd), row (tb) 61 (full stmZ (stL (dtL ad lc) (List.range nn)) tc)] X := hQ.back HL.out HX.out [10, 11, 12, 13] dc dc
 clear hQ HL HX
 exact ⟨qb, qc, lb, ld, li, la, yb, yc, yf, fb, sb2, c2, gb2, cg2, db, cd, PC2, QC2, KC2, (ubump ul2 src (n : Int)), rfl, hp350, hp32, hp105, hp106, hq4, hq3, hm5, hO.sub [0, 1, 2, 3, 4, 5, 6, 7, 8, 9, 10, 11, 12, 13] dc⟩
end Go.Proofs.YtikopplofkemlaaDoor.Use
