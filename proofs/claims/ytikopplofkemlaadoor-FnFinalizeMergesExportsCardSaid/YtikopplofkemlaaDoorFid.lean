/- Several texts in one. No condition. -/
import Derived.Test.YtikopplofkemlaaDoorFin9
import Derived.Test.YtikopplofkemlaaDoorFiy
namespace Go.Proofs.YtikopplofkemlaaDoor.Use
open Go.ChangeShapes Go.WideShapes Go.ChangeAt Go.RowKit Go.Sort Own
set_option linter.unusedVariables false
def finxd0Post (pb : Nat) (PC : Array Value) (sb c : Nat) (st : List Sy) (n : Nat) (src : Int) (mp : Nat) (es : Array MapEntry) (k ms : Nat) (MC : Array Value) (pt : Nat) (QC : Array Value) (mu : Nat) (ul : List (Int × Int × Int)) (cs : Nat) (KC : Array Value) (cx : Nat) (loc : Int) (si tb nn tc : Nat) (D : Nat → Nat → Nat) (z : Nat → ByteArray) (w0 : World) (X : Nat → Obj → Prop) (e : Ending) (w' : World) : Prop :=
 ∃ qb : Nat, ∃ qc : Nat, ∃ lb : Nat, ∃ ld : Nat, ∃ li : Nat, ∃ la : Nat, ∃ yb : Nat, ∃ yc : Nat, ∃ yf : Nat, ∃ fb : Nat, ∃ sb2 : Nat, ∃ c2 : Nat, ∃ gb2 : Nat, ∃ cg2 : Nat, ∃ db : Nat, ∃ cd : Nat, ∃ xn : Nat, ∃ xb : Nat, ∃ xc : Nat, ∃ PC2 : Array Value, ∃ QC2 : Array Value, ∃ KC2 : Array Value, ∃ ul2 : List (Int × Int × Int), e = .returned (vS qb 3 (3 + qc)) ∧ PC2[350]? = some (bF) ∧ PC2[32]? = some (bF) ∧ PC2[105]? = some (vP pt) ∧ PC2[106]? = some (vS sb2 (n + 4) (n + 4 + c2)) ∧ QC2[4]? = some (.map (some mu)) ∧ QC2[3]? = some (vS db 4 (4 + cd)) ∧ KC2[5]? = some (vS gb2 4 (4 + cg2)) ∧ Own w0 w' [row (qb) 61 (full stmZ [vF 42 lb, vI loc, vF 67 yb, vI loc, vF 69 xn, vI loc] qc), row (lb) 57 #[vS ld 1 1, v8 0, bF, bF], row (ld) 54 #[vF 134 li, vI loc, vF 315 la, vI loc], row (li) 136 #[vU src, vU (si : Int)], row (yb) 76 #[vP yc, vP yf, vS tb nn (nn + tc), vI 0, vI loc], row (yf) 116 #[vS fb 1 1, vI 0, vI loc], row (pb) 252 PC2, row (sb2) 260 (full symZ (symL (bump (stF0 st si n) n)) c2), row (pt) 107 QC2, ((mu, .map (uA ul2) (uN ul2)) : Rw), row (cs) 99 KC2, row (gb2) 31 (full refZ ([vU src, vU (si : Int), vU src, vU (n : Int), vU src, vU (n + 1 : Int), vU src, vU (n + 1 + 1 : Int)]) cg2), row (db) 113 (full dsyZ [vU src, vU (si : Int), bF, vU src, vU (n : Int), bF, vU src, vU (n + 1 : Int), bF, vU src, vU (n + 1 + 1 : Int), bF] cd), row (tb) 61 (full stmZ (stL (dtL (D 0) lcE) (List.range nn)) tc), row (xn) 79 #[vS xb nn (nn + xc), bF], row (xb) 83 (full cliZ (tab (exC z) nn) xc)] (NodX X D nn nn)
set_option maxRecDepth 100000 in
set_option maxHeartbeats 1000000 in
theorem finxd0 (pb : Nat) (PC : Array Value) (sb c : Nat) (st : List Sy) (n : Nat) (src : Int) (mp : Nat) (es : Array MapEntry) (k ms : Nat) (MC : Array Value) (pt : Nat) (QC : Array Value) (mu : Nat) (ul : List (Int × Int × Int)) (cs : Nat) (KC : Array Value) (cx : Nat) (loc : Int) (si tb nn tc : Nat) (D : Nat → Nat → Nat) (z : Nat → ByteArray) (w0 w : World) (X : Nat → Obj → Prop) (hO : Own w0 w [row (cx) 33 #[vI loc, vU src, vU (si : Int), bF], row (pb) 252 PC, row (sb) 260 (full symZ (symL st) c), ((mp, .map es k) : Rw), row (ms) 99 MC, row (pt) 107 QC, ((mu, .map (uA ul) (uN ul)) : Rw), row (cs) 99 KC, row (tb) 61 (full stmZ (stL (dtL (D 0) lcE) (List.range nn)) tc)] (NodX X D 0 nn)) (hk350 : PC[350]? = some (bF)) (hk32 : PC[32]? = some (bF)) (hk105 : PC[105]? = some (vP pt)) (hk66 : PC[66]? = some (vU src)) (hk117 : PC[117]? = some (.map (some mp))) (hk187 : PC[187]? = some (vP ms)) (hk104 : PC[104]? = some (vP cs)) (hk333 : PC[333]? = some (bF)) (hk23 : PC[23]? = some (.int .u64 0)) (hk106 : PC[106]? = some (vS sb n (n + c))) (hn : st.length = n) (hnb : n ≤ 100000) (hsu : QC[4]? = some (.map (some mu))) (hds : QC[3]? = some (vN)) (hkind : KC[15]? = some (v8 8)) (hgen : MC[5]? = some (vN)) (hcg : KC[5]? = some (vN)) (hsi : si < n) (hno : Instr.findNow .string (.string ⟨#[95, 95, 99, 97, 108, 108, 68, 105, 115, 112, 111, 115, 101]⟩) es.toList 0 = some none) (hnn : nn ≤ 5000) (hn0 : 0 < nn) (hnm : ∀ i : Nat, i < nn → ∃ y : Sy, st[i + 1]? = some y ∧ y.nm = z i) (hij : InjD D nn) (hsp : SepD X D nn) (hg0 : w0.cell? ⟨0, 0, none⟩ = some (vU 4294967295)) (hg1 : w0.cell? ⟨0, 1, none⟩ = some (vU 4294967295)) :
  Calls Tryd.prog 14 #[vP cx, vP pb, vS tb nn (nn + tc), bF] w (finxd0Post pb PC sb c st n src mp es k ms MC pt QC mu ul cs KC cx loc si tb nn tc D z w0 X) := by
 go_enter Tryd.func14, Tryd.ntmps14
 have H9hnm := Lib.hid hnm
 have H9hij := Lib.hid hij
 have H9hsp := Lib.hid hsp
 clear hnm hij hsp
 obtain ⟨aA, aB, aC, aD, aE, aF, -⟩ := hO.k4 0 rfl
 have HO := Lib.hid hO
 clear hO
 go_wp2_with (first | (with_reducible refine Own.stay (fn := Tryd.f14) ?_) | fail)
 try with_reducible refine Own.Stay.mk ?_
 have hO := HO.out
 clear HO aA aB aC aD aE aF
 refine Calls.mono (finx0 pb PC sb c st n src mp es k ms MC pt QC mu ul cs KC cx loc si tb nn tc D z w0 w X (hO.sub [0, 1, 2, 3, 4, 5, 6, 7, 8] dc) hk350 hk32 hk105 hk66 hk117 hk187 hk104 hk333 hk23 hk106 hn hnb hsu hds hkind hgen hcg hsi hno hnn hn0 H9hnm.out H9hij.out H9hsp.out hg0 hg1) ?_
 rintro e u1 ⟨qb, qc, lb, ld, li, la, yb, yc, yf, fb, sb2, c2, gb2, cg2, db, cd, xn, xb, xc, PC2, QC2, KC2, ul2, rfl, hp350, hp32, hp105, hp106, hq4, hq3, hm5, hQ⟩
 clear hO
 have hO := hQ
 clear hQ
 obtain ⟨aG, aH, aI, aJ, aK, aL, -⟩ := hO.k4 1 rfl
 obtain ⟨aM, aN, aO, aP, aQ, aR, -⟩ := hO.k4 2 rfl
 obtain ⟨aS, aT, aU, aV, -⟩ := hO.k2 3 rfl
 obtain ⟨aW, aX, aY, aZ, aa, ab, ac, -⟩ := hO.k5 4 rfl
 obtain ⟨ad, ae, af, ag, ah, -⟩ := hO.k3 5 rfl
 obtain ⟨ai, aj, ak, al, -⟩ := hO.k2 14 rfl
 have HO := Lib.hid hO
 clear hO
 go_wp2_with (first | (with_reducible refine Own.stay (fn := Tryd.f14) ?_) | fail)
 try with_reducible refine Own.Stay.mk ?_
 have hO := HO.out
 clear HO aG aH aI aJ aK aL aM aN aO aP aQ aR aS aT aU aV aW aX aY aZ aa ab ac ad ae af ag ah ai aj ak al
 refine bodyPost_ret (v := vS qb 3 (3 + qc)) ?_ rfl ⟨qb, qc, lb, ld, li, la, yb, yc, yf, fb, sb2, c2, gb2, cg2, db, cd, xn, xb, xc, PC2, QC2, KC2, ul2, rfl, hp350, hp32, hp105, hp106, hq4, hq3, hm5, hO.sub [0, 1, 2, 3, 4, 5, 6, 7, 8, 9, 10, 11, 12, 13, 14, 15] dc⟩
 simp [results, Tryd.results14, go_sem]
end Go.Proofs.YtikopplofkemlaaDoor.Use
namespace Go.Proofs.YtikopplofkemlaaDoor.Use
open Go.ChangeShapes Go.WideShapes Go.ChangeAt Go.RowKit Go.Sort Own
set_option linter.unusedVariables false
def finxd1Post (pb : Nat) (PC : Array Value) (sb c : Nat) (st : List Sy) (n : Nat) (src : Int) (mp : Nat) (es : Array MapEntry) (k ms : Nat) (MC : Array Value) (pt : Nat) (QC : Array Value) (mu : Nat) (ul : List (Int × Int × Int)) (cs : Nat) (KC : Array Value) (cx : Nat) (loc : Int) (si tb nn tc : Nat) (D : Nat → Nat → Nat) (z : Nat → ByteArray) (w0 : World) (X : Nat → Obj → Prop) (e : Ending) (w' : World) : Prop :=
 ∃ qb : Nat, ∃ qc : Nat, ∃ lb : Nat, ∃ ld : Nat, ∃ li : Nat, ∃ la : Nat, ∃ yb : Nat, ∃ yc : Nat, ∃ yf : Nat, ∃ fb : Nat, ∃ sb2 : Nat, ∃ c2 : Nat, ∃ gb2 : Nat, ∃ cg2 : Nat, ∃ db : Nat, ∃ cd : Nat, ∃ xn : Nat, ∃ xb : Nat, ∃ xc : Nat, ∃ PC2 : Array Value, ∃ QC2 : Array Value, ∃ KC2 : Array Value, ∃ ul2 : List (Int × Int × Int), e = .returned (vS qb 3 (3 + qc)) ∧ PC2[350]? = some (bF) ∧ PC2[32]? = some (bF) ∧ PC2[105]? = some (vP pt) ∧ PC2[106]? = some (vS sb2 (n + 5) (n + 5 + c2)) ∧ QC2[4]? = some (.map (some mu)) ∧ QC2[3]? = some (vS db 5 (5 + cd)) ∧ KC2[5]? = some (vS gb2 6 (6 + cg2)) ∧ Own w0 w' [row (qb) 61 (full stmZ [vF 42 lb, vI loc, vF 67 yb, vI loc, vF 69 xn, vI loc] qc), row (lb) 57 #[vS ld 1 1, v8 0, bF, bF], row (ld) 54 #[vF 134 li, vI loc, vF 315 la, vI loc], row (li) 136 #[vU src, vU (si : Int)], row (yb) 76 #[vP yc, vP yf, vS tb nn (nn + tc), vI 0, vI loc], row (yf) 116 #[vS fb 2 2, vI 0, vI loc], row (pb) 252 PC2, row (sb2) 260 (full symZ (symL (bump (stF1 st si n) n)) c2), row (pt) 107 QC2, ((mu, .map (uA ul2) (uN ul2)) : Rw), row (cs) 99 KC2, row (gb2) 31 (full refZ ([vU src, vU (si : Int), vU src, vU (n : Int), vU src, vU (n + 1 : Int), vU src, vU (n + 1 + 1 : Int), vU src, vU (n + 1 + 1 + 1 + 1 : Int), vU src, vU (n + 1 + 1 + 1 + 1 : Int)]) cg2), row (db) 113 (full dsyZ [vU src, vU (si : Int), bF, vU src, vU (n : Int), bF, vU src, vU (n + 1 : Int), bF, vU src, vU (n + 1 + 1 : Int), bF, vU src, vU (n + 1 + 1 + 1 + 1 : Int), bF] cd), row (tb) 61 (full stmZ (stL (dtL (D 0) lcE) (List.range nn)) tc), row (xn) 79 #[vS xb nn (nn + xc), bF], row (xb) 83 (full cliZ (tab (exC z) nn) xc)] (NodX X D nn nn)
set_option maxRecDepth 100000 in
set_option maxHeartbeats 1000000 in
theorem finxd1 (pb : Nat) (PC : Array Value) (sb c : Nat) (st : List Sy) (n : Nat) (src : Int) (mp : Nat) (es : Array MapEntry) (k ms : Nat) (MC : Array Value) (pt : Nat) (QC : Array Value) (mu : Nat) (ul : List (Int × Int × Int)) (cs : Nat) (KC : Array Value) (cx : Nat) (loc : Int) (si tb nn tc : Nat) (D : Nat → Nat → Nat) (z : Nat → ByteArray) (w0 w : World) (X : Nat → Obj → Prop) (hO : Own w0 w [row (cx) 33 #[vI loc, vU src, vU (si : Int), .bool true], row (pb) 252 PC, row (sb) 260 (full symZ (symL st) c), ((mp, .map es k) : Rw), row (ms) 99 MC, row (pt) 107 QC, ((mu, .map (uA ul) (uN ul)) : Rw), row (cs) 99 KC, row (tb) 61 (full stmZ (stL (dtL (D 0) lcE) (List.range nn)) tc)] (NodX X D 0 nn)) (hk350 : PC[350]? = some (bF)) (hk32 : PC[32]? = some (bF)) (hk105 : PC[105]? = some (vP pt)) (hk66 : PC[66]? = some (vU src)) (hk117 : PC[117]? = some (.map (some mp))) (hk187 : PC[187]? = some (vP ms)) (hk104 : PC[104]? = some (vP cs)) (hk333 : PC[333]? = some (bF)) (hk23 : PC[23]? = some (.int .u64 0)) (hk106 : PC[106]? = some (vS sb n (n + c))) (hn : st.length = n) (hnb : n ≤ 100000) (hsu : QC[4]? = some (.map (some mu))) (hds : QC[3]? = some (vN)) (hkind : KC[15]? = some (v8 8)) (hgen : MC[5]? = some (vN)) (hcg : KC[5]? = some (vN)) (hsi : si < n) (hno : Instr.findNow .string (.string ⟨#[95, 95, 99, 97, 108, 108, 68, 105, 115, 112, 111, 115, 101]⟩) es.toList 0 = some none) (hnn : nn ≤ 5000) (hn0 : 0 < nn) (hnm : ∀ i : Nat, i < nn → ∃ y : Sy, st[i + 1]? = some y ∧ y.nm = z i) (hij : InjD D nn) (hsp : SepD X D nn) (hg0 : w0.cell? ⟨0, 0, none⟩ = some (vU 4294967295)) (hg1 : w0.cell? ⟨0, 1, none⟩ = some (vU 4294967295)) :
  Calls Tryd.prog 14 #[vP cx, vP pb, vS tb nn (nn + tc), bF] w (finxd1Post pb PC sb c st n src mp es k ms MC pt QC mu ul cs KC cx loc si tb nn tc D z w0 X) := by
 go_enter Tryd.func14, Tryd.ntmps14
 have H9hnm := Lib.hid hnm
 have H9hij := Lib.hid hij
 have H9hsp := Lib.hid hsp
 clear hnm hij hsp
 obtain ⟨aA, aB, aC, aD, aE, aF, -⟩ := hO.k4 0 rfl
 have HO := Lib.hid hO
 clear hO
 go_wp2_with (first | (with_reducible refine Own.stay (fn := Tryd.f14) ?_) | fail)
 try with_reducible refine Own.Stay.mk ?_
 have hO := HO.out
 clear HO aA aB aC aD aE aF
 refine Calls.mono (finx1 pb PC sb c st n src mp es k ms MC pt QC mu ul cs KC cx loc si tb nn tc D z w0 w X (hO.sub [0, 1, 2, 3, 4, 5, 6, 7, 8] dc) hk350 hk32 hk105 hk66 hk117 hk187 hk104 hk333 hk23 hk106 hn hnb hsu hds hkind hgen hcg hsi hno hnn hn0 H9hnm.out H9hij.out H9hsp.out hg0 hg1) ?_
 rintro e u1 ⟨qb, qc, lb, ld, li, la, yb, yc, yf, fb, sb2, c2, gb2, cg2, db, cd, xn, xb, xc, PC2, QC2, KC2, ul2, rfl, hp350, hp32, hp105, hp106, hq4, hq3, hm5, hQ⟩
 clear hO
 have hO := hQ
 clear hQ
 obtain ⟨aG, aH, aI, aJ, aK, aL, -⟩ := hO.k4 1 rfl
 obtain ⟨aM, aN, aO, aP, aQ, aR, -⟩ := hO.k4 2 rfl
 obtain ⟨aS, aT, aU, aV, -⟩ := hO.k2 3 rfl
 obtain ⟨aW, aX, aY, aZ, aa, ab, ac, -⟩ := hO.k5 4 rfl
 obtain ⟨ad, ae, af, ag, ah, -⟩ := hO.k3 5 rfl
 obtain ⟨ai, aj, ak, al, -⟩ := hO.k2 14 rfl
 have HO := Lib.hid hO
 clear hO
 go_wp2_with (first | (with_reducible refine Own.stay (fn := Tryd.f14) ?_) | fail)
 try with_reducible refine Own.Stay.mk ?_
 have hO := HO.out
 clear HO aG aH aI aJ aK aL aM aN aO aP aQ aR aS aT aU aV aW aX aY aZ aa ab ac ad ae af ag ah ai aj ak al
 refine bodyPost_ret (v := vS qb 3 (3 + qc)) ?_ rfl ⟨qb, qc, lb, ld, li, la, yb, yc, yf, fb, sb2, c2, gb2, cg2, db, cd, xn, xb, xc, PC2, QC2, KC2, ul2, rfl, hp350, hp32, hp105, hp106, hq4, hq3, hm5, hO.sub [0, 1, 2, 3, 4, 5, 6, 7, 8, 9, 10, 11, 12, 13, 14, 15] dc⟩
 simp [results, Tryd.results14, go_sem]
end Go.Proofs.YtikopplofkemlaaDoor.Use
namespace Go.Proofs.YtikopplofkemlaaDoor.Use
open Go.ChangeShapes Go.WideShapes Go.ChangeAt Go.RowKit Go.Sort Own
set_option linter.unusedVariables false
def finyd0Post (pb : Nat) (PC : Array Value) (sb c : Nat) (st : List Sy) (n : Nat) (src : Int) (mp : Nat) (es : Array MapEntry) (k ms : Nat) (MC : Array Value) (pt : Nat) (QC : Array Value) (mu : Nat) (ul : List (Int × Int × Int)) (cs : Nat) (KC : Array Value) (cx : Nat) (loc : Int) (si tb nn tc : Nat) (ad : Nat → Nat) (lc : Nat → Int) (w0 : World) (X : Nat → Obj → Prop) (e : Ending) (w' : World) : Prop :=
 ∃ qb : Nat, ∃ qc : Nat, ∃ lb : Nat, ∃ ld : Nat, ∃ li : Nat, ∃ la : Nat, ∃ yb : Nat, ∃ yc : Nat, ∃ yf : Nat, ∃ fb : Nat, ∃ sb2 : Nat, ∃ c2 : Nat, ∃ gb2 : Nat, ∃ cg2 : Nat, ∃ db : Nat, ∃ cd : Nat, ∃ PC2 : Array Value, ∃ QC2 : Array Value, ∃ KC2 : Array Value, ∃ ul2 : List (Int × Int × Int), e = .returned (vS qb 2 (2 + qc)) ∧ PC2[350]? = some (bF) ∧ PC2[32]? = some (bF) ∧ PC2[105]? = some (vP pt) ∧ PC2[106]? = some (vS sb2 (n + 4) (n + 4 + c2)) ∧ QC2[4]? = some (.map (some mu)) ∧ QC2[3]? = some (vS db 4 (4 + cd)) ∧ KC2[5]? = some (vS gb2 4 (4 + cg2)) ∧ Own w0 w' [row (qb) 61 (full stmZ [vF 42 lb, vI loc, vF 67 yb, vI loc] qc), row (lb) 57 #[vS ld 1 1, v8 0, bF, bF], row (ld) 54 #[vF 134 li, vI loc, vF 315 la, vI loc], row (li) 136 #[vU src, vU (si : Int)], row (yb) 76 #[vP yc, vP yf, vS tb nn (nn + tc), vI 0, vI loc], row (yf) 116 #[vS fb 1 1, vI 0, vI loc], row (pb) 252 PC2, row (sb2) 260 (full symZ (symL (bump (stF0 st si n) n)) c2), row (pt) 107 QC2, ((mu, .map (uA ul2) (uN ul2)) : Rw), row (cs) 99 KC2, row (gb2) 31 (full refZ ([vU src, vU (si : Int), vU src, vU (n : Int), vU src, vU (n + 1 : Int), vU src, vU (n + 1 + 1 : Int)]) cg2), row (db) 113 (full dsyZ [vU src, vU (si : Int), bF, vU src, vU (n : Int), bF, vU src, vU (n + 1 : Int), bF, vU src, vU (n + 1 + 1 : Int), bF] cd), row (tb) 61 (full stmZ (stL (dtL ad lc) (List.range nn)) tc)] X
set_option maxRecDepth 100000 in
set_option maxHeartbeats 1000000 in
theorem finyd0 (pb : Nat) (PC : Array Value) (sb c : Nat) (st : List Sy) (n : Nat) (src : Int) (mp : Nat) (es : Array MapEntry) (k ms : Nat) (MC : Array Value) (pt : Nat) (QC : Array Value) (mu : Nat) (ul : List (Int × Int × Int)) (cs : Nat) (KC : Array Value) (cx : Nat) (loc : Int) (si tb nn tc : Nat) (ad : Nat → Nat) (lc : Nat → Int) (w0 w : World) (X : Nat → Obj → Prop) (hO : Own w0 w [row (cx) 33 #[vI loc, vU src, vU (si : Int), bF], row (pb) 252 PC, row (sb) 260 (full symZ (symL st) c), ((mp, .map es k) : Rw), row (ms) 99 MC, row (pt) 107 QC, ((mu, .map (uA ul) (uN ul)) : Rw), row (cs) 99 KC, row (tb) 61 (full stmZ (stL (dtL ad lc) (List.range nn)) tc)] X) (hk350 : PC[350]? = some (bF)) (hk32 : PC[32]? = some (bF)) (hk105 : PC[105]? = some (vP pt)) (hk66 : PC[66]? = some (vU src)) (hk117 : PC[117]? = some (.map (some mp))) (hk187 : PC[187]? = some (vP ms)) (hk104 : PC[104]? = some (vP cs)) (hk333 : PC[333]? = some (bF)) (hk23 : PC[23]? = some (.int .u64 0)) (hk106 : PC[106]? = some (vS sb n (n + c))) (hn : st.length = n) (hnb : n ≤ 100000) (hsu : QC[4]? = some (.map (some mu))) (hds : QC[3]? = some (vN)) (hkind : KC[15]? = some (v8 8)) (hgen : MC[5]? = some (vN)) (hcg : KC[5]? = some (vN)) (hsi : si < n) (hno : Instr.findNow .string (.string ⟨#[95, 95, 99, 97, 108, 108, 68, 105, 115, 112, 111, 115, 101]⟩) es.toList 0 = some none) (hnn : nn ≤ 5000) (hloc : ∀ i : Nat, i < nn → ∃ lcs : List Value, X (ad i) (.cells lcs.toArray 57 (0, 0)) ∧ lcs[2]? = some (bF)) (hg0 : w0.cell? ⟨0, 0, none⟩ = some (vU 4294967295)) (hg1 : w0.cell? ⟨0, 1, none⟩ = some (vU 4294967295)) :
  Calls Tryd.prog 14 #[vP cx, vP pb, vS tb nn (nn + tc), bF] w (finyd0Post pb PC sb c st n src mp es k ms MC pt QC mu ul cs KC cx loc si tb nn tc ad lc w0 X) := by
 go_enter Tryd.func14, Tryd.ntmps14
 have HLC := Lib.hid hloc
 clear hloc
 obtain ⟨aA, aB, aC, aD, aE, aF, -⟩ := hO.k4 0 rfl
 have HO := Lib.hid hO
 clear hO
 go_wp2_with (first | (with_reducible refine Own.stay (fn := Tryd.f14) ?_) | fail)
 try with_reducible refine Own.Stay.mk ?_
 have hO := HO.out
 clear HO aA aB aC aD aE aF
 obtain ⟨HL, HX⟩ := hid2 hO
 have hP9 := hO.pick [0, 1, 2, 3, 4, 5, 6, 7, 8] dc
 have T9 := finy00 pb PC sb c st n src mp es k ms MC pt QC mu ul cs KC cx loc si tb nn tc ad lc _ _ _ hP9 hk350 hk32 hk105 hk66 hk117 hk187 hk104 hk333 hk23 hk106 hn hnb hsu hds hkind hgen hcg hsi hno hnn (fun i hi => let ⟨l, a, b⟩ := HLC.out i hi; ⟨l, Or.inl a, b⟩) hg0 hg1
 refine Calls.mono T9 ?_
 clear hP9 T9
 rintro e uw1 ⟨nd2, nd3, nd4, nd5, nd6, nd7, nd8, nd9, nd10, nd11, nd12, nd13, nd14, nd15, nd16, nd17, nd18, nd19, nd20, nd21, rfl, pr22, pr23, pr24, pr25, pr26, pr27, pr28, hQ⟩
 replace hO : Own w0 uw1 [row (nd2) 61 (full stmZ [vF 42 nd4, vI loc, vF 67 nd8, vI loc] nd3), row (nd4) 57 #[vS nd5 1 1, v8 0, bF, bF], row (nd5) 54 #[vF 134 nd6, vI loc, vF 315 nd7, vI loc], row (nd6) 136 #[vU src, vU (si : Int)], row (nd8) 76 #[vP nd9, vP nd10, vS tb nn (nn + tc), vI 0, vI loc], row (nd10) 116 #[vS nd11 1 1, vI 0, vI loc], row (pb) 252 nd18, row (nd12) 260 (full symZ (symL (bump (stF0 st si n) n)) nd13), row (pt) 107 nd19, ((mu, .map (uA nd21) (uN nd21)) : Rw), row (cs) 99 nd20, row (nd14) 31 (full refZ [vU src, vU (si : Int), vU src, vU (n : Int), vU src, vU (n + 1 : Int), vU src, vU (n + 1 + 1 : Int)] nd15), row (nd16) 113 (full dsyZ [vU src, vU (si : Int), bF, vU src, vU (n : Int), bF, vU src, vU (n + 1 : Int), bF, vU src, vU (n + 1 + 1 : Int), bF] nd17), row (tb) 61 (full stmZ (stL (dtL ad lc) (List.range nn)) tc)] X := hQ.back HL.out HX.out [] dc dc
 clear hQ HL HX
 obtain ⟨aG, aH, aI, aJ, aK, aL, -⟩ := hO.k4 1 rfl
 obtain ⟨aM, aN, aO, aP, aQ, aR, -⟩ := hO.k4 2 rfl
 obtain ⟨aS, aT, aU, aV, -⟩ := hO.k2 3 rfl
 obtain ⟨aW, aX, aY, aZ, aa, ab, ac, -⟩ := hO.k5 4 rfl
 obtain ⟨ae, af, ag, ah, ai, -⟩ := hO.k3 5 rfl
 have HO := Lib.hid hO
 clear hO
 go_wp2_with (first | (with_reducible refine Own.stay (fn := Tryd.f14) ?_) | fail)
 try with_reducible refine Own.Stay.mk ?_
 have hO := HO.out
 clear HO aG aH aI aJ aK aL aM aN aO aP aQ aR aS aT aU aV aW aX aY aZ aa ab ac ae af ag ah ai
 refine bodyPost_ret (v := vS nd2 2 (2 + nd3)) ?_ rfl ⟨nd2, nd3, nd4, nd5, nd6, nd7, nd8, nd9, nd10, nd11, nd12, nd13, nd14, nd15, nd16, nd17, nd18, nd19, nd20, nd21, rfl, pr22, pr23, pr24, pr25, pr26, pr27, pr28, hO.sub [0, 1, 2, 3, 4, 5, 6, 7, 8, 9, 10, 11, 12, 13] dc⟩
 simp [results, Tryd.results14, go_sem]
end Go.Proofs.YtikopplofkemlaaDoor.Use
namespace Go.Proofs.YtikopplofkemlaaDoor.Use
open Go.ChangeShapes Go.WideShapes Go.ChangeAt Go.RowKit Go.Sort Own
set_option linter.unusedVariables false
def finyd1Post (pb : Nat) (PC : Array Value) (sb c : Nat) (st : List Sy) (n : Nat) (src : Int) (mp : Nat) (es : Array MapEntry) (k ms : Nat) (MC : Array Value) (pt : Nat) (QC : Array Value) (mu : Nat) (ul : List (Int × Int × Int)) (cs : Nat) (KC : Array Value) (cx : Nat) (loc : Int) (si tb nn tc : Nat) (ad : Nat → Nat) (lc : Nat → Int) (w0 : World) (X : Nat → Obj → Prop) (e : Ending) (w' : World) : Prop :=
 ∃ qb : Nat, ∃ qc : Nat, ∃ lb : Nat, ∃ ld : Nat, ∃ li : Nat, ∃ la : Nat, ∃ yb : Nat, ∃ yc : Nat, ∃ yf : Nat, ∃ fb : Nat, ∃ sb2 : Nat, ∃ c2 : Nat, ∃ gb2 : Nat, ∃ cg2 : Nat, ∃ db : Nat, ∃ cd : Nat, ∃ PC2 : Array Value, ∃ QC2 : Array Value, ∃ KC2 : Array Value, ∃ ul2 : List (Int × Int × Int), e = .returned (vS qb 2 (2 + qc)) ∧ PC2[350]? = some (bF) ∧ PC2[32]? = some (bF) ∧ PC2[105]? = some (vP pt) ∧ PC2[106]? = some (vS sb2 (n + 5) (n + 5 + c2)) ∧ QC2[4]? = some (.map (some mu)) ∧ QC2[3]? = some (vS db 5 (5 + cd)) ∧ KC2[5]? = some (vS gb2 6 (6 + cg2)) ∧ Own w0 w' [row (qb) 61 (full stmZ [vF 42 lb, vI loc, vF 67 yb, vI loc] qc), row (lb) 57 #[vS ld 1 1, v8 0, bF, bF], row (ld) 54 #[vF 134 li, vI loc, vF 315 la, vI loc], row (li) 136 #[vU src, vU (si : Int)], row (yb) 76 #[vP yc, vP yf, vS tb nn (nn + tc), vI 0, vI loc], row (yf) 116 #[vS fb 2 2, vI 0, vI loc], row (pb) 252 PC2, row (sb2) 260 (full symZ (symL (bump (stF1 st si n) n)) c2), row (pt) 107 QC2, ((mu, .map (uA ul2) (uN ul2)) : Rw), row (cs) 99 KC2, row (gb2) 31 (full refZ ([vU src, vU (si : Int), vU src, vU (n : Int), vU src, vU (n + 1 : Int), vU src, vU (n + 1 + 1 : Int), vU src, vU (n + 1 + 1 + 1 + 1 : Int), vU src, vU (n + 1 + 1 + 1 + 1 : Int)]) cg2), row (db) 113 (full dsyZ [vU src, vU (si : Int), bF, vU src, vU (n : Int), bF, vU src, vU (n + 1 : Int), bF, vU src, vU (n + 1 + 1 : Int), bF, vU src, vU (n + 1 + 1 + 1 + 1 : Int), bF] cd), row (tb) 61 (full stmZ (stL (dtL ad lc) (List.range nn)) tc)] X
set_option maxRecDepth 100000 in
set_option maxHeartbeats 1000000 in
theorem finyd1 (pb : Nat) (PC : Array Value) (sb c : Nat) (st : List Sy) (n : Nat) (src : Int) (mp : Nat) (es : Array MapEntry) (k ms : Nat) (MC : Array Value) (pt : Nat) (QC : Array Value) (mu : Nat) (ul : List (Int × Int × Int)) (cs : Nat) (KC : Array Value) (cx : Nat) (loc : Int) (si tb nn tc : Nat) (ad : Nat → Nat) (lc : Nat → Int) (w0 w : World) (X : Nat → Obj → Prop) (hO : Own w0 w [row (cx) 33 #[vI loc, vU src, vU (si : Int), .bool true], row (pb) 252 PC, row (sb) 260 (full symZ (symL st) c), ((mp, .map es k) : Rw), row (ms) 99 MC, row (pt) 107 QC, ((mu, .map (uA ul) (uN ul)) : Rw), row (cs) 99 KC, row (tb) 61 (full stmZ (stL (dtL ad lc) (List.range nn)) tc)] X) (hk350 : PC[350]? = some (bF)) (hk32 : PC[32]? = some (bF)) (hk105 : PC[105]? = some (vP pt)) (hk66 : PC[66]? = some (vU src)) (hk117 : PC[117]? = some (.map (some mp))) (hk187 : PC[187]? = some (vP ms)) (hk104 : PC[104]? = some (vP cs)) (hk333 : PC[333]? = some (bF)) (hk23 : PC[23]? = some (.int .u64 0)) (hk106 : PC[106]? = some (vS sb n (n + c))) (hn : st.length = n) (hnb : n ≤ 100000) (hsu : QC[4]? = some (.map (some mu))) (hds : QC[3]? = some (vN)) (hkind : KC[15]? = some (v8 8)) (hgen : MC[5]? = some (vN)) (hcg : KC[5]? = some (vN)) (hsi : si < n) (hno : Instr.findNow .string (.string ⟨#[95, 95, 99, 97, 108, 108, 68, 105, 115, 112, 111, 115, 101]⟩) es.toList 0 = some none) (hnn : nn ≤ 5000) (hloc : ∀ i : Nat, i < nn → ∃ lcs : List Value, X (ad i) (.cells lcs.toArray 57 (0, 0)) ∧ lcs[2]? = some (bF)) (hg0 : w0.cell? ⟨0, 0, none⟩ = some (vU 4294967295)) (hg1 : w0.cell? ⟨0, 1, none⟩ = some (vU 4294967295)) :
  Calls Tryd.prog 14 #[vP cx, vP pb, vS tb nn (nn + tc), bF] w (finyd1Post pb PC sb c st n src mp es k ms MC pt QC mu ul cs KC cx loc si tb nn tc ad lc w0 X) := by
 go_enter Tryd.func14, Tryd.ntmps14
 have HLC := Lib.hid hloc
 clear hloc
 obtain ⟨aA, aB, aC, aD, aE, aF, -⟩ := hO.k4 0 rfl
 have HO := Lib.hid hO
 clear hO
 go_wp2_with (first | (with_reducible refine Own.stay (fn := Tryd.f14) ?_) | fail)
 try with_reducible refine Own.Stay.mk ?_
 have hO := HO.out
 clear HO aA aB aC aD aE aF
 obtain ⟨HL, HX⟩ := hid2 hO
 have hP9 := hO.pick [0, 1, 2, 3, 4, 5, 6, 7, 8] dc
 have T9 := finy10 pb PC sb c st n src mp es k ms MC pt QC mu ul cs KC cx loc si tb nn tc ad lc _ _ _ hP9 hk350 hk32 hk105 hk66 hk117 hk187 hk104 hk333 hk23 hk106 hn hnb hsu hds hkind hgen hcg hsi hno hnn (fun i hi => let ⟨l, a, b⟩ := HLC.out i hi; ⟨l, Or.inl a, b⟩) hg0 hg1
 refine Calls.mono T9 ?_
 clear hP9 T9
 rintro e uw1 ⟨nd2, nd3, nd4, nd5, nd6, nd7, nd8, nd9, nd10, nd11, nd12, nd13, nd14, nd15, nd16, nd17, nd18, nd19, nd20, nd21, rfl, pr22, pr23, pr24, pr25, pr26, pr27, pr28, hQ⟩
 replace hO : Own w0 uw1 [row (nd2) 61 (full stmZ [vF 42 nd4, vI loc, vF 67 nd8, vI loc] nd3), row (nd4) 57 #[vS nd5 1 1, v8 0, bF, bF], row (nd5) 54 #[vF 134 nd6, vI loc, vF 315 nd7, vI loc], row (nd6) 136 #[vU src, vU (si : Int)], row (nd8) 76 #[vP nd9, vP nd10, vS tb nn (nn + tc), vI 0, vI loc], row (nd10) 116 #[vS nd11 2 2, vI 0, vI loc], row (pb) 252 nd18, row (nd12) 260 (full symZ (symL (bump (stF1 st si n) n)) nd13), row (pt) 107 nd19, ((mu, .map (uA nd21) (uN nd21)) : Rw), row (cs) 99 nd20, row (nd14) 31 (full refZ [vU src, vU (si : Int), vU src, vU (n : Int), vU src, vU (n + 1 : Int), vU src, vU (n + 1 + 1 : Int), vU src, vU (n + 1 + 1 + 1 + 1 : Int), vU src, vU (n + 1 + 1 + 1 + 1 : Int)] nd15), row (nd16) 113 (full dsyZ [vU src, vU (si : Int), bF, vU src, vU (n : Int), bF, vU src, vU (n + 1 : Int), bF, vU src, vU (n + 1 + 1 : Int), bF, vU src, vU (n + 1 + 1 + 1 + 1 : Int), bF] nd17), row (tb) 61 (full stmZ (stL (dtL ad lc) (List.range nn)) tc)] X := hQ.back HL.out HX.out [] dc dc
 clear hQ HL HX
 obtain ⟨aG, aH, aI, aJ, aK, aL, -⟩ := hO.k4 1 rfl
 obtain ⟨aM, aN, aO, aP, aQ, aR, -⟩ := hO.k4 2 rfl
 obtain ⟨aS, aT, aU, aV, -⟩ := hO.k2 3 rfl
 obtain ⟨aW, aX, aY, aZ, aa, ab, ac, -⟩ := hO.k5 4 rfl
 obtain ⟨ae, af, ag, ah, ai, -⟩ := hO.k3 5 rfl
 have HO := Lib.hid hO
 clear hO
 go_wp2_with (first | (with_reducible refine Own.stay (fn := Tryd.f14) ?_) | fail)
 try with_reducible refine Own.Stay.mk ?_
 have hO := HO.out
 clear HO aG aH aI aJ aK aL aM aN aO aP aQ aR aS aT aU aV aW aX aY aZ aa ab ac ae af ag ah ai
 refine bodyPost_ret (v := vS nd2 2 (2 + nd3)) ?_ rfl ⟨nd2, nd3, nd4, nd5, nd6, nd7, nd8, nd9, nd10, nd11, nd12, nd13, nd14, nd15, nd16, nd17, nd18, nd19, nd20, nd21, rfl, pr22, pr23, pr24, pr25, pr26, pr27, pr28, hO.sub [0, 1, 2, 3, 4, 5, 6, 7, 8, 9, 10, 11, 12, 13] dc⟩
 simp [results, Tryd.results14, go_sem]
end Go.Proofs.YtikopplofkemlaaDoor.Use
