/- Several texts in one. No condition. -/
import Derived.Test.YtikopplofkemlaaDoorMsc
namespace Go.Proofs.YtikopplofkemlaaDoor.Use
open Go.ChangeShapes Go.WideShapes Go.ChangeAt Go.RowKit Go.Sort Own
set_option linter.unusedVariables false
/-- Declarations, told by number: their nodes and places. -/
def dtL (ad : Nat → Nat) (lc : Nat → Int) : Dt := ⟨fun _ => 3, ad, lc⟩
theorem range_set (n i : Nat) : (List.range n).set i i = List.range n := by
 apply List.ext_getElem?
 intro j
 by_cases h : j < n
 ·rw [List.getElem?_set]
  split
  ·rename_i hij
   subst hij
   simp [h]
  ·rfl
 ·simp [h]
section
variable {P : Program} {ops : Array Oper} {rest : List Oper} {w0 w : World} {X : Nat → Obj → Prop}
/-- An append of cells that lie at the head of a row. -/
theorem run_append_src (t ty e : TypeId) (i : TypeInfo) (z : Value) (size bytes : Nat) (ht : P.underlying t = some (.slice e)) (hi : P.info? e = some i) (hz : i.zero = some z)
  (hsize : i.size = size) (hby : i.bytes = bytes) (hzs : z.cells.size = size) (hsz : 0 < size)
  {g n cp c ad m mc te : Nat} {l news : List Value} {arr : Array Value} (h : Own w0 w [row g e (full z.cells l c), row ad te arr] X) (hl : l.length = n * size) (hcp : cp = n + c)
  (hn : news.length = m * size) (hs : ∀ (j : Nat) (u : Value), news[j]? = some u → arr[j]? = some u) (h1 : ∀ u ∈ news, u.oneCell' = true) (h63 : n + m ≤ maxLen) (hbytes : (n + m) * bytes ≤ 140737488355328) :
  ∃ g' c' w', (Builtin.append_ #[t, t] ty #[vS g n cp, vS ad m mc]).run P w = .ok (vS g' (n + m) (n + m + c')) w' ∧
   Own w0 w' [row g' e (full z.cells (l ++ news) c'), row ad te arr] X := by
 subst hsize
 subst hby
 subst hcp
 have hg := h.rowAt 0 rfl
 have hnews : ∀ j u, news[j]? = some u → w.cell? ((⟨ad, 0, none⟩ : Addr).add j) = some u := fun j u hj => by
  rw [add_cell]
  exact h.cell 1 rfl j (hs j u hj)
 by_cases hroom : m ≤ c
 ·obtain ⟨c', rfl⟩ := Nat.exists_eq_add_of_le hroom
  have hfs : (full z.cells l (m + c')).size = n * i.size + (m + c') * i.size := by unfold full; simp [size_zeroCells, hzs, hl]
  have hr := run_append_room (P := P) w t ty e i ht hi g n (n + (m + c')) _ hg ⟨ad, 0, none⟩ m mc news hn hnews h1 (by omega) (by rw [hfs, hn, Nat.add_mul m]; omega)
  have e1 : ((full z.cells l (m + c')).toList.take (n * i.size) ++ news ++ (full z.cells l (m + c')).toList.drop (n * i.size + news.length)).toArray = full z.cells (l ++ news) c' := by
   unfold full
   simp only [Array.toList_append]
   rw [← hl, List.take_left, ← List.drop_drop, List.drop_left, hn, ← hzs, zeroCells_drop]
   apply Array.ext'
   simp
  rw [e1] at hr
  refine ⟨g, c', _, by rw [hr]; congr 2; omega, ?_⟩
  exact h.moved 0 rfl ⟨rfl, rfl, rfl, by simp, fun k _ hk => setRow_other w g k _ (fun e => hk (by rw [e]))⟩ (setRow_heap w g _ _ e _ hg) (Or.inl rfl)
 ·have holds : ∀ j u, l[j]? = some u → w.cell? ((⟨g, 0, none⟩ : Addr).add j) = some u := fun j u hj => by
   rw [add_cell]
   exact h.cell 0 rfl j (full_at hj)
  have hr := run_append_grow (P := P) w t ty e i z ht hi hz ⟨g, 0, none⟩ n (n + c) l hl holds ⟨ad, 0, none⟩ m mc news hn hnews (by omega) (by simp only [maxLen] at h63; omega) (growslice_fits (by omega) hbytes)
  have hge := grownCap_ge w (n + m) (n + c) e
  obtain ⟨c', hc'⟩ := Nat.exists_eq_add_of_le hge
  have e2 : l.toArray ++ news.toArray ++ Builtin.zeroCells z.cells (grownCap w (n + m) (n + c) e - (n + m)) = full z.cells (l ++ news) c' := by
   unfold full
   rw [hc', show n + m + c' - (n + m) = c' by omega]
   simp
  rw [e2, hc'] at hr
  refine ⟨_, c', _, hr, ?_⟩
  refine h.moved 0 rfl ⟨rfl, rfl, rfl, by simp, fun k hk _ => heap_alloc_old w.drew _ hk⟩ (heap_alloc_new w.drew _) (Or.inr rfl)
theorem wpList_append_src {o : Oper} {a : Act} {Q : Exit → Act → World → Prop} (hg : o.guard = none) (s x : Operand) (t : TypeId) (ho : o.op = .call { callee := .builtin .append, args := #[s, x], argTypes := #[t, t] })
  (e : TypeId) (i : TypeInfo) (z : Value) (size bytes : Nat) (ht : P.underlying t = some (.slice e)) (hi : P.info? e = some i) (hz : i.zero = some z)
  (hsize : i.size = size) (hby : i.bytes = bytes) (hzs : z.cells.size = size) (hsz : 0 < size)
  {g n cp c ad m mc te : Nat} {l news : List Value} {arr : Array Value} (h : Own w0 w [row g e (full z.cells l c), row ad te arr] X) (hs : a.eval s = vS g n cp) (hx : a.eval x = vS ad m mc)
  (hl : l.length = n * size) (hcp : cp = n + c) (hn : news.length = m * size) (hsr : ∀ (j : Nat) (u : Value), news[j]? = some u → arr[j]? = some u) (h1 : ∀ u ∈ news, u.oneCell' = true) (h63 : n + m ≤ maxLen) (hbytes : (n + m) * bytes ≤ 140737488355328)
  (hK : ∀ g' c' w', Own w0 w' [row g' e (full z.cells (l ++ news) c'), row ad te arr] X → wpList P ops Q rest (a.put o.dst (vS g' (n + m) (n + m + c'))) w') : wpList P ops Q (o :: rest) a w :=
 wpList_plain hg fun K hK' => by
  obtain ⟨g', c', w', hr, hO⟩ := run_append_src (P := P) t o.type e i z size bytes ht hi hz hsize hby hzs hsz (mc := mc) h hl hcp hn hsr h1 h63 hbytes
  unfold Oper.wp execOp
  simp only [ho, resolve, invoke, builtin, Sem.run_bind, Sem.run_pure, Result.andThen_ok, List.map_toArray, List.map_cons, List.map_nil, hs, hx, hr]
  exact hK' _ _ (hK g' c' w' hO)
theorem wpList_append_none {o : Oper} {a : Act} {Q : Exit → Act → World → Prop} (hg : o.guard = none) (s x : Operand) (t : TypeId) (ho : o.op = .call { callee := .builtin .append, args := #[s, x], argTypes := #[t, t] })
  (e : TypeId) (i : TypeInfo) (ht : P.underlying t = some (.slice e)) (hi : P.info? e = some i) {b : Option Addr} {n cp : Nat} (hle : n ≤ cp) (hs : a.eval s = .slice b n cp) (hx : a.eval x = vN)
  (hK : wpList P ops Q rest (a.put o.dst (.slice b n cp)) w) : wpList P ops Q (o :: rest) a w :=
 wpList_plain hg fun K hK' => by
  have hr : (Builtin.append_ #[t, t] o.type #[.slice b n cp, vN]).run P w = .ok (.slice b n cp) w := by cases b <;> simp [Builtin.append_, run_underlying ht, sizeOf, typeInfo, hi, Builtin.lenOf, Builtin.firstCells, hle, storeCells]
  unfold Oper.wp execOp
  simp only [ho, resolve, invoke, builtin, Sem.run_bind, Sem.run_pure, Result.andThen_ok, List.map_toArray, List.map_cons, List.map_nil, hs, hx, hr]
  exact hK' _ _ hK
end

end Go.Proofs.YtikopplofkemlaaDoor.Use
namespace Go.Proofs.YtikopplofkemlaaDoor.Use
open Go.ChangeShapes Go.WideShapes Go.ChangeAt Go.RowKit Go.Sort Own
set_option linter.unusedVariables false
theorem loop_ne (b : ByteArray) (i : Nat) (r : List UInt8) (h : r ≠ []) : ByteArray.toList.loop b i r ≠ [] := by
 induction i, r using ByteArray.toList.loop.induct b with
 | case1 i r hi ih =>
  unfold ByteArray.toList.loop
  rw [if_pos hi]
  exact ih (by simp)
 | case2 i r hi =>
  unfold ByteArray.toList.loop
  rw [if_neg hi]
  simpa using h
theorem toList_ne (b : ByteArray) (h : 0 < b.size) : (b.toList == []) = false := by
 have h2 : b.toList ≠ [] := by
  unfold ByteArray.toList ByteArray.toList.loop
  rw [if_pos h]
  exact loop_ne _ _ _ (by simp)
 cases hb : b.toList with
 | nil => exact absurd hb h2
 | cons x l => rfl
@[go_sem] theorem run_typeAssert_sure {P : Program} (w : World) (t xT : TypeId) (v : Value) (hu : Base.isPtr (P.underlying t) = true) : (Instr.typeAssert (.iface t v) xT t false).run P w = .ok v w := by
 obtain ⟨e, he⟩ := Base.isPtr_inv hu
 simp [Instr.typeAssert, run_underlying he]
/-- A name behind a bar. -/
def un (nm : ByteArray) : ByteArray := ⟨#[95]⟩ ++ nm
theorem un_ne (nm : ByteArray) : ((un nm).toList == []) = false := toList_ne _ (by unfold un; simp [ByteArray.size_append]; show 0 < 1 + _; omega)
/-- Declarations behind another one. -/
def adS (a : Nat) (ad : Nat → Nat) (i : Nat) : Nat := match i with | 0 => a | i + 1 => ad i
def lcS (a : Int) (lc : Nat → Int) (i : Nat) : Int := match i with | 0 => a | i + 1 => lc i
theorem stL_shift (a : Nat) (l0 : Int) (ad : Nat → Nat) (lc : Nat → Int) : ∀ l : List Nat, stL (dtL (adS a ad) (lcS l0 lc)) (l.map (· + 1)) = stL (dtL ad lc) l
 | [] => rfl
 | i :: l => by
  rw [List.map_cons, stL, stL, stL_shift a l0 ad lc l]
  rfl
theorem stL_front (a : Nat) (l0 : Int) (ad : Nat → Nat) (lc : Nat → Int) (m : Nat) : [vF 42 a, vI l0] ++ stL (dtL ad lc) (List.range m) = stL (dtL (adS a ad) (lcS l0 lc)) (List.range (m + 1)) := by
 rw [List.range_succ_eq_map, stL, ← stL_shift a l0 ad lc (List.range m)]
 rfl
theorem stL_one' (D : Dt) (l : List Nat) : ∀ u ∈ stL D l, u.oneCell' = true := by
 induction l with
 | nil => intro u hu; cases hu
 | cons i l ih =>
  intro u hu
  rcases List.mem_append.1 hu with h | h
  ·simp only [stC, List.mem_cons, List.not_mem_nil, or_false] at h
   rcases h with rfl | rfl <;> rfl
  ·exact ih u h
theorem makeRoom (n : Nat) (hn : n ≤ 1048576) (w : World) : (Instr.makeSlice 40 (v6 0) (v6 (n : Int))).run Tryd.prog w = .ok (vS w.heap.size 0 n) (w.alloc (.cells (full stmZ [] n) 61)) := by
 obtain ⟨i, hi, z1, z2, z3⟩ := info_parts infoStm
 exact run_mk_full w 40 61 i (.agg stmZ) 2 24 Tryd.underlying40 hi z1 z2 z3 rfl .i64 .i64 0 n (Nat.zero_le _) (by omega) (by omega)
noncomputable def restU : Code := cutC 9 (Tryd.f41.body.getD .skip)

def Hu (pb : Nat) (PC : Array Value) (sb : Nat) (c : Nat) (nm : ByteArray) (mp : Nat) (k : Nat) (ms : Nat) (MC : Array Value) (pt : Nat) (QC : Array Value) (mu : Nat) (cs : Nat) (KC : Array Value) (ini : Nat) (kd : Int) (dbx : Nat) (ib : Nat) (bx : Nat) (l0 : Int) (l3 : Int) (lv : Int) (m : Nat) (ad : Nat → Nat) (lc : Nat → Int) (w0 : World) (X : Nat → Obj → Prop) (Q : Exit → Act → World → Prop) : Prop :=
 ∀ (sb2 c2 gb2 cg2 tr kb tb tc nl nd ni ne : Nat) (bv clv : Value) ⦃A0 A1 A2 A3 A4 A5 A6 A7 A8 A9 AA AB AC AD AE AF AG AH AI AJ AK AL AM AN AO AP AQ AR AS AT AU AV AW AX AY AZ B0 B1 B2 B3 B4 B5 B6 B7 B8 B9 BA BB BC BD BE BF BG BH BI BJ BK BL BM BN BO BP BQ BR BS BT BU BV BW BX BY BZ C0 C1 C2 C3 C4 C5 C6 C7 C8 C9 CA CB CC CD CE CF CG CH CI CJ CK CL CM CN CO CP CQ CR CS CT CU CV CW CX CY CZ E0 E1 E2 E3 E4 E5 E6 E7 E8 E9 EA EB EC ED EE EF EG EH EI EJ EK EL EM EN EO EP EQ ER ES ET EU EV EW EX EY EZ F0 F1 F2 F3 F4 F5 F6 : Value⦄ ⦃w2 : World⦄, Own w0 w2 [row (pb) 252 (PC.setIfInBounds 106 (vS sb2 2 (2 + c2))), row (sb2) 260 (full symZ (symL [sy nm 0, sy (un nm) 0]) c2), ((mp, .map #[] k) : Rw), row (ms) 99 MC, row (pt) 107 QC, ((mu, .map (uA ([])) (uN ([]))) : Rw), row (cs) 99 (KC.setIfInBounds 5 (vS gb2 1 (1 + cg2))), row (gb2) 31 (full refZ [vU 0, vU 1] cg2), row (ini) 57 #[vS dbx 1 1, v8 kd, bF, bF], row (dbx) 54 #[vF 134 ib, vI l3, .nilIface, vI 0], row (ib) 136 #[vU 0, vU 0], row (tr) 31 #[vU 0, vU 1], row (kb) 72 #[bv, clv], row (tb) 61 (full stmZ (stL (dtL (adS nl ad) (lcS l0 lc)) (List.range (m + 1))) tc), row (nl) 57 #[vS nd 1 1, v8 kd, bF, bF], row (nd) 54 #[vF 134 ni, vI l3, vF 267 ne, vI l3], row (ni) 136 #[vU 0, vU 0], row (ne) 270 #[vU 0, vU 1, bF, bF, bF], row (bx) 61 #[vF 110 kb, vI lv]] X → Code.wp Tryd.prog restU Q ⟨#[vP pb, A0, vP ini, A1, A2, A3, A4, A5, A6, vP ib, vP tr, vP kb, A7, A8, A9, vS tb (m + 1) (m + 1 + tc), AA, AB, AC, AD, AE, AF, AG, AH, AI, AJ, AK, AL, AM, AN, AO, AP, AQ, AR, AS, AT, AU, AV, AW, AX, AY, AZ, B0, B1, B2, B3, B4, B5, B6, B7, B8, B9, BA, BB, BC, BD, BE, BF, BG, BH, BI, BJ, BK, BL, BM, BN, BO, BP, BQ, BR, BS, BT, BU, BV, BW, BX, BY, BZ, C0, C1, C2, C3, C4, C5, C6, C7, C8, C9, CA, CB, CC, CD, CE, CF, CG, CH, CI, CJ, CK, CL, CM, CN, CO, CP, CQ, CR, CS, CT, CU, CV, CW, CX, CY, CZ, E0, E1, E2, E3, E4, E5, E6, E7, E8, E9, EA, EB, EC, ED, EE, EF, EG, EH, EI, EJ, EK, EL, EM, EN, EO, EP, EQ, ER, ES, ET, EU, EV, EW, EX, EY, EZ, F0, F1, F2, F3, F4, F5, F6], []⟩ w2

end Go.Proofs.YtikopplofkemlaaDoor.Use
