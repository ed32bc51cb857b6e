/- Row 40: the law up to finalize. No condition. -/
import Derived.Test.YtikopplofkemlaaDoorHb4
namespace Go.Proofs.YtikopplofkemlaaDoor.Use
open Go.ChangeShapes Go.WideShapes Go.ChangeAt Go.RowKit Go.Sort Own
set_option linter.unusedVariables false

set_option maxRecDepth 100000 in
set_option maxHeartbeats 4000000 in
theorem hd400 (sa : Addr) (n cp : Nat) (z : Nat → ByteArray) (w0 w : World) (X : Nat → Obj → Prop) (Post : Ending → World → Prop) (hP : ∀ w3, Own w0 w3 [] X → Post (.returned (.bool true)) w3) (hK : Hb400 n z w0 X (bodyPost Tryd.prog Tryd.f3 Post)) (hO : Own w0 w [] X) (hB : ∀ i : Nat, i < n → w0.cell? (sa.add i) = some (.string (z i))) (hg0 : w0.cell? ⟨0, 0, none⟩ = some (vU 4294967295)) (hg1 : w0.cell? ⟨0, 1, none⟩ = some (vU 4294967295)) :
  Calls Tryd.prog 3 #[.slice (some sa) n cp, bF] w Post := by
 go_enter Tryd.func3, Tryd.ntmps3
 have HP := Lib.hid hP
 have HK := Lib.hid hK
 have HB := Lib.hid hB
 clear hP hK hB
 obtain ⟨c9, hc9⟩ : ∃ c, c = rest40 := ⟨_, rfl⟩
 have HC9 := Lib.hid hc9
 simp only [rest40, Tryd.f3, Option.getD_some, cutC] at hc9
 rw [← hc9]
 clear hc9
 go_wp2_with (first | (with_reducible refine Own.stay (fn := Tryd.f3) ?_) | fail)
 try with_reducible refine Own.Stay.mk ?_
 obtain ⟨HL, HX⟩ := hid2 hO
 have hP9 := hO.pick [] dc
 have h9_hB : ∀ i : Nat, i < n → w0.cell? (sa.add i) = some (.string (z i)) := HB.out
 have T9 := bytS sa n cp z false _ _ _ hP9 h9_hB
 refine Calls.mono T9 ?_
 clear hP9 T9 h9_hB
 rintro e uw1 ⟨nd2, rfl, pr3, hQ⟩
 replace hO : Own w0 uw1 [] X := hQ.back HL.out HX.out [] dc dc
 clear hQ HL HX
 cases nd2
 ·skip
  clear pr3
  go_wp2_with (first | (with_reducible refine Own.stay (fn := Tryd.f3) ?_) | fail)
  try with_reducible refine Own.Stay.mk ?_
  go_ret
  exact HP.out _ (hO.sub [] dc)
 obtain ⟨hn6, hz6⟩ := pr3 rfl
 clear pr3
 have HZ := Lib.hid hz6
 clear hz6
 have hn8 : (0 : Int) ≤ (n : Int) := by omega
 by_cases hn4 : 4096 < n
 ·skip
  have hn9 : (4096 : Int) < (n : Int) := by omega
  go_wp2_with (first | (with_reducible refine Own.stay (fn := Tryd.f3) ?_) | fail)
  try with_reducible refine Own.Stay.mk ?_
  go_ret
  exact HP.out _ (hO.sub [] dc)
 have hn9 : (n : Int) ≤ 4096 := by omega
 go_wp2_with (first | (with_reducible refine Own.stay (fn := Tryd.f3) ?_) | fail)
 try with_reducible refine Own.Stay.mk ?_
 go_loopg [5, 6] n (fun gf s5 s6 wx => ∃ k t : Nat, k + gf = n ∧ s6 = v6 (k : Int) ∧ s5 = v6 (t : Int) ∧ t ≤ k * 1048592 ∧ Own w0 wx [] X)
 case atStart => exact ⟨0, 0, by omega, rfl, rfl, by omega, hO⟩
 obtain ⟨k, t, hk, rfl, rfl, ht, hO⟩ := hrel
 have ht8 : (0 : Int) ≤ (t : Int) := by omega
 have ht7 : (t : Int) ≤ 8589934592 := by omega
 have hk8 : (0 : Int) ≤ (k : Int) := by omega
 by_cases hlt : k < n
 ·skip
  obtain ⟨gq, rfl⟩ : ∃ gq, gk = gq + 1 := ⟨gk - 1, by omega⟩
  have hlt9 : (k : Int) < (n : Int) := by omega
  have ho2 : wr.cell? (sa.add k) = some (.string (z k)) := Base.cell_belowA hO.below (HB.out k hlt)
  have hzk := HZ.out k hlt
  have hz9 : ((z k).size : Int) ≤ 1048576 := by omega
  have hz8 : (0 : Int) ≤ ((z k).size : Int) := by omega
  go_wp2_with (first | (with_reducible refine Own.stay (fn := Tryd.f3) ?_) | fail)
  try with_reducible refine Own.Stay.mk ?_
  go_roundg gq
  case measure => omega
  case rel => exact ⟨k + 1, t + ((z k).size + 16), by omega, by first | rfl | simp, by first | rfl | simp, by omega, hO⟩
 obtain rfl : gk = 0 := by omega
 obtain rfl : n = k := by omega
 have hlt9 : ¬ (n : Int) < (n : Int) := by omega
 by_cases ht4 : 1048576 < t
 ·skip
  have ht9 : (1048576 : Int) < (t : Int) := by omega
  go_wp2_with (first | (with_reducible refine Own.stay (fn := Tryd.f3) ?_) | fail)
  try with_reducible refine Own.Stay.mk ?_
  go_ret
  exact HP.out _ (hO.sub [] dc)
 have ht9 : (t : Int) ≤ 1048576 := by omega
 have hm1 := makeRefs n (by omega)
 have hm2 := makePlcs n (by omega)
 have hm3 := makeStms n (by omega)
 have hn7 : n ≤ 4096 := by omega
 go_wp2_with (first | (with_reducible refine Own.stay (fn := Tryd.f3) ?_) | fail)
 try with_reducible refine Own.Stay.mk ?_
 obtain ⟨HL, HX⟩ := hid2 hO
 have hP9 := hO.pick [] dc
 have h9_hn : n ≤ 4096 := hn7
 have h9_hB : ∀ i : Nat, i < n → w0.cell? (sa.add i) = some (.string (z i)) := HB.out
 have T9 := copyStr sa n cp z _ _ _ hP9 h9_hn h9_hB
 refine Calls.mono T9 ?_
 clear hP9 T9 h9_hn h9_hB
 rintro e uw4 ⟨nd5, rfl, hQ⟩
 replace hO : Own w0 uw4 [row (nd5) 9 (nmR z n 0)] X := hQ.back HL.out HX.out [] dc dc
 clear hQ HL HX
 go_wp2_with (first | (with_reducible refine Own.stay (fn := Tryd.f3) ?_) | fail)
 try with_reducible refine Own.Stay.mk ?_
 obtain ⟨HL, HX⟩ := hid2 hO
 have hP9 := hO.pick [] dc
 have h9_hg0 : w0.cell? ⟨0, 0, none⟩ = some (vU 4294967295) := (by first | assumption | omega | (simp; done) | (simp; omega))
 have h9_hg1 : w0.cell? ⟨0, 1, none⟩ = some (vU 4294967295) := (by first | assumption | omega | (simp; done) | (simp; omega))
 have T9 := setup0  _ _ _ hP9 h9_hg0 h9_hg1
 refine Calls.mono T9 ?_
 clear hP9 T9 h9_hg0 h9_hg1
 rintro e uw6 ⟨nd7, nd8, nd9, nd10, nd11, nd12, nd13, nd14, nd15, rfl, hQ⟩
 replace hO : Own w0 uw6 [row (nd7) 252 ((newPar nd8 nd14 nd15 nd11 nd13).setIfInBounds 106 (vS nd9 1 (1 + nd10))), row (nd9) 260 (full symZ (symL ([sy ⟨#[95, 115, 116, 97, 99, 107]⟩ 0])) nd10), row (nd11) 107 #[vN, vN, vN, vN, .map (some nd12), .map none, .map none, vN, bF, bF, bF], ((nd12, .map (uA ([])) (uN ([]))) : Rw), ((nd13, .map #[] 0) : Rw), row (nd14) 99 #[vO, vP nd15, vN, .map none, vN, vN, vI 0, vI 0, vU 0, vU 0, bF, bF, bF, bF, v8 0, v8 8], row (nd15) 99 #[vO, vO, vN, .map none, vN, vN, vI 0, vI 0, vU 0, vU 0, bF, bF, bF, bF, v8 0, v8 6], row (nd5) 9 (nmR z n 0)] X := hQ.back HL.out HX.out [0] dc dc
 clear hQ HL HX
 go_wp2_with (first | (with_reducible refine Own.stay (fn := Tryd.f3) ?_) | fail)
 try with_reducible refine Own.Stay.mk ?_
 generalize hW : World.alloc _ _ = W17
 have hN : Own w0 W17 [row (uw6.heap.size) 33 #[vI 7, vU 0, vU 0, bF], row (nd7) 252 ((newPar nd8 nd14 nd15 nd11 nd13).setIfInBounds 106 (vS nd9 1 (1 + nd10))), row (nd9) 260 (full symZ (symL ([sy ⟨#[95, 115, 116, 97, 99, 107]⟩ 0])) nd10), row (nd11) 107 #[vN, vN, vN, vN, .map (some nd12), .map none, .map none, vN, bF, bF, bF], ((nd12, .map (uA ([])) (uN ([]))) : Rw), ((nd13, .map #[] 0) : Rw), row (nd14) 99 #[vO, vP nd15, vN, .map none, vN, vN, vI 0, vI 0, vU 0, vU 0, bF, bF, bF, bF, v8 0, v8 8], row (nd15) 99 #[vO, vO, vN, .map none, vN, vN, vI 0, vI 0, vU 0, vU 0, bF, bF, bF, bF, v8 0, v8 6], row (nd5) 9 (nmR z n 0)] X := by
  rw [← hW]
  exact (hO).alloc' _ (uw6.heap.size) (by simp)
 clear hW hO
 generalize uw6.heap.size = B16 at hN ⊢
 have hO := hN
 clear hN
 obtain ⟨HL, HX⟩ := hid2 hO
 have hP9 := hO.pick [0] dc
 have T9 := ctxStack B16 7 0 0 false _ _ _ hP9 
 refine Calls.mono T9 ?_
 clear hP9 T9
 rintro e uw18 ⟨rfl, hQ⟩
 replace hO : Own w0 uw18 [row (B16) 33 #[vI 7, vU 0, vU 0, bF], row (nd7) 252 ((newPar nd8 nd14 nd15 nd11 nd13).setIfInBounds 106 (vS nd9 1 (1 + nd10))), row (nd9) 260 (full symZ (symL ([sy ⟨#[95, 115, 116, 97, 99, 107]⟩ 0])) nd10), row (nd11) 107 #[vN, vN, vN, vN, .map (some nd12), .map none, .map none, vN, bF, bF, bF], ((nd12, .map (uA ([])) (uN ([]))) : Rw), ((nd13, .map #[] 0) : Rw), row (nd14) 99 #[vO, vP nd15, vN, .map none, vN, vN, vI 0, vI 0, vU 0, vU 0, bF, bF, bF, bF, v8 0, v8 8], row (nd15) 99 #[vO, vO, vN, .map none, vN, vN, vI 0, vI 0, vU 0, vU 0, bF, bF, bF, bF, v8 0, v8 6], row (nd5) 9 (nmR z n 0)] X := hQ.back HL.out HX.out [1, 2, 3, 4, 5, 6, 7, 8] dc dc
 clear hQ HL HX
 obtain ⟨aM, aN, aU, aV, aA, aB, -⟩ := hO.k4 0 rfl
 have HO := Lib.hid hO
 clear hO
 go_wp2_with (first | (with_reducible refine Own.stay (fn := Tryd.f3) ?_) | fail)
 try with_reducible refine Own.Stay.mk ?_
 have hO := HO.out
 clear HO aM aN aU aV aA aB
 generalize hW : World.alloc _ _ = W20
 have hN : Own w0 W20 [row (uw18.heap.size + 1 + 1 + 1) 61 (full stmZ [] n), row (uw18.heap.size + 1 + 1) 42 (full plcZ [] n), row (uw18.heap.size + 1) 31 (full refZ [] n), row (uw18.heap.size) 31 #[vU 0, vU 0], row (B16) 33 #[vI 7, vU 0, vU 0, bF], row (nd7) 252 ((newPar nd8 nd14 nd15 nd11 nd13).setIfInBounds 106 (vS nd9 1 (1 + nd10))), row (nd9) 260 (full symZ (symL ([sy ⟨#[95, 115, 116, 97, 99, 107]⟩ 0])) nd10), row (nd11) 107 #[vN, vN, vN, vN, .map (some nd12), .map none, .map none, vN, bF, bF, bF], ((nd12, .map (uA ([])) (uN ([]))) : Rw), ((nd13, .map #[] 0) : Rw), row (nd14) 99 #[vO, vP nd15, vN, .map none, vN, vN, vI 0, vI 0, vU 0, vU 0, bF, bF, bF, bF, v8 0, v8 8], row (nd15) 99 #[vO, vO, vN, .map none, vN, vN, vI 0, vI 0, vU 0, vU 0, bF, bF, bF, bF, v8 0, v8 6], row (nd5) 9 (nmR z n 0)] X := by
  rw [← hW]
  exact ((((hO).alloc' _ (uw18.heap.size) (by simp)).alloc' _ (uw18.heap.size + 1) (by simp)).alloc' _ (uw18.heap.size + 1 + 1) (by simp)).alloc' _ (uw18.heap.size + 1 + 1 + 1) (by simp)
 clear hW hO
 generalize uw18.heap.size + 1 + 1 + 1 = B19_3 at hN ⊢
 generalize uw18.heap.size + 1 + 1 = B19_2 at hN ⊢
 generalize uw18.heap.size + 1 = B19_1 at hN ⊢
 generalize uw18.heap.size = B19 at hN ⊢
 have hO := hN
 clear hN
 have hL := hO.apart
 have hX := hO.apartX
 have HLa := Lib.hid hL
 have HXa := Lib.hid hX
 clear hL hX
 have hP9 := hO.pick [5, 6, 2, 1, 0, 12] dc
 generalize hX9 : Own.Rest _ _ X = X9a at hP9
 have HXEa := Lib.hid hX9
 clear hX9
 replace hO : Own w0 W20 [row (nd7) 252 ((newPar nd8 nd14 nd15 nd11 nd13).setIfInBounds 106 (vS nd9 1 (1 + nd10))), row (nd9) 260 (full symZ (symL ([sy ⟨#[95, 115, 116, 97, 99, 107]⟩ 0])) nd10), row (B19_1) 31 (full refZ [] n), row (B19_2) 42 (full plcZ [] n), row (B19_3) 61 (full stmZ [] n), row (nd5) 9 (nmR z n 0)] X9a := hP9
 clear hP9
 go_loopg [15] n (fun gf s15 wx => ∃ (i : Nat) (D : Nat → Nat → Nat) (PC : Array Value) (sb c : Nat), i + gf = n ∧ s15 = v6 (i : Int) ∧ PC[350]? = some (bF) ∧ PC[32]? = some (bF) ∧ PC[105]? = some (vP nd11) ∧ PC[66]? = some (vU 0) ∧ PC[117]? = some (.map (some nd13)) ∧ PC[187]? = some (vP nd15) ∧ PC[104]? = some (vP nd14) ∧ PC[333]? = some (bF) ∧ PC[23]? = some (.int .u64 0) ∧ PC[106]? = some (vS sb (i + 1) (i + 1 + c)) ∧ InjD D i ∧ SepD X9a D i ∧ Own w0 wx [row (nd7) 252 PC, row (sb) 260 (full symZ (symL (stX z i)) c), row (B19_1) 31 (rfR i gf), row (B19_2) 42 (loR D i gf), row (B19_3) 61 (sxR D i gf), row (nd5) 9 (nmR z n 0)] (NodX X9a D 0 i))
 case atStart => exact ⟨0, fun _ _ => 0, _, nd9, nd10, by omega, rfl, (get_other (newPar_350 _ _ _ _ _) (by omega) _), (get_other (newPar_32 _ _ _ _ _) (by omega) _), (get_other (newPar_105 _ _ _ _ _) (by omega) _), (get_other (newPar_66 _ _ _ _ _) (by omega) _), (get_other (newPar_117 _ _ _ _ _) (by omega) _), (get_other (newPar_187 _ _ _ _ _) (by omega) _), (get_other (newPar_104 _ _ _ _ _) (by omega) _), (get_other (newPar_333 _ _ _ _ _) (by omega) _), (get_other (newPar_23 _ _ _ _ _) (by omega) _), (get_set (newPar_106 _ _ _ _ _) _), fun q j q' j' _ h => absurd h (Nat.not_lt_zero j), fun b o _ q j _ h => absurd h (Nat.not_lt_zero j), (hO.weaken (Y := NodX X9a _ 0 0) (fun b o h => h.elim id fun ⟨q, j, _, hj, _⟩ => absurd hj (Nat.not_lt_zero j))).conv rfl⟩
 obtain ⟨i, D, PC, sb, c, hin, rfl, hf350, hf32, hf105, hf66, hf117, hf187, hf104, hf333, hf23, hf106, hij, hsp, hO⟩ := hrel
 by_cases hlt : i < n
 ·skip
  obtain ⟨gq, rfl⟩ : ∃ gq, gk = gq + 1 := ⟨gk - 1, by omega⟩
  have hlt9 : (i : Int) < (n : Int) := by omega
  have hi8 : (0 : Int) ≤ (i : Int) := by omega
  have hi7 : (i : Int) ≤ 4096 := by omega
  have hw32 : IntKind.i32.wrap ((i : Int) + 1) = (i : Int) + 1 := by rw [IntKind.wrap_i32]; omega
  have HIJ := Lib.hid hij
  have HSP := Lib.hid hsp
  clear hij hsp
  generalize hY : NodX X9a D 0 i = Yf at hO
  have HY := Lib.hid hY
  clear hY
  obtain ⟨ix9, hix9, hax9, hjx9⟩ := hO.ix
  have aC := hjx9 0 _ _ rfl
  have aD := hjx9 1 _ _ rfl
  have aE := hjx9 2 _ _ rfl
  have aF := hjx9 3 _ _ rfl
  have aG := hjx9 4 _ _ rfl
  have aH := hjx9 5 _ _ rfl
  clear hjx9
  have aW := hO.cell 0 rfl 23 hf23
  have aX := hO.cell 0 rfl 32 hf32
  have aY := hO.cell 0 rfl 66 hf66
  have aZ := hO.cell 0 rfl 104 hf104
  have aa := hO.cell 0 rfl 105 hf105
  have ab := hO.cell 0 rfl 106 hf106
  have ac := hO.cell 0 rfl 117 hf117
  have ad := hO.cell 0 rfl 187 hf187
  have ae := hO.cell 0 rfl 333 hf333
  have af := hO.cell 0 rfl 350 hf350
  have aA := hO.lt 0 rfl
  have aB := hO.free 0 rfl
  have ag : wr.cell? ⟨B19_1, i * 2, none⟩ = some (vU 0) := hO.cell 2 rfl (i * 2) ((rfR_z0 i gq))
  have ah : wr.cell? ⟨B19_1, i * 2 + 1, none⟩ = some (vU 0) := hO.cell 2 rfl (i * 2 + 1) ((rfR_z1 i gq))
  have aO := hO.lt 2 rfl
  have aP := hO.free 2 rfl
  have ai : wr.cell? ⟨B19_2, i, none⟩ = some (vO) := hO.cell 3 rfl (i) ((loR_at0 D i gq))
  have aI := hO.lt 3 rfl
  have aJ := hO.free 3 rfl
  have aj : wr.cell? ⟨B19_3, i * 2, none⟩ = some (.nilIface) := hO.cell 4 rfl (i * 2) ((sxR_z0 D i gq))
  have ak : wr.cell? ⟨B19_3, i * 2 + 1, none⟩ = some (vI 0) := hO.cell 4 rfl (i * 2 + 1) ((sxR_z1 D i gq))
  have aQ := hO.lt 4 rfl
  have aR := hO.free 4 rfl
  have al : wr.cell? ⟨nd5, i, none⟩ = some (.string (z i)) := hO.cell 5 rfl (i) ((nmR_at z hlt))
  have aK := hO.lt 5 rfl
  have aL := hO.free 5 rfl
  have HO := Lib.hid hO
  clear hO
  go_wp2_with (first | (with_reducible refine Own.stay (fn := Tryd.f3) ?_) | fail)
  try with_reducible refine Own.Stay.mk ?_
  have hO := HO.out
  clear HO hix9 hax9 aC aD aE aF aG aH ix9 aW aX aY aZ aa ab ac ad ae af aA aB ag ah aO aP ai aI aJ aj ak aQ aR al aK aL
  obtain ⟨HL, HX⟩ := hid2 hO
  have hP9 := hO.pick [0, 1] dc
  have h9_hn : (stX z i).length = (i + 1) := (stX_len z i)
  have h9_hnb : (i + 1) ≤ 2000000 := (by omega)
  have h9_hg0 : w0.cell? ⟨0, 0, none⟩ = some (vU 4294967295) := (by first | assumption | omega | (simp; done) | (simp; omega))
  have h9_hg1 : w0.cell? ⟨0, 1, none⟩ = some (vU 4294967295) := (by first | assumption | omega | (simp; done) | (simp; omega))
  have T9 := newSymD nd7 PC sb c (stX z i) (i + 1) 0 (z i) _ _ _ hP9 hf66 hf32 hf106 h9_hn h9_hnb h9_hg0 h9_hg1
  refine Calls.mono T9 ?_
  clear hP9 T9 h9_hn h9_hnb h9_hg0 h9_hg1
  rintro e uw21 ⟨nd22, nd23, rfl, hQ⟩
  replace hO : Own w0 uw21 [row (nd7) 252 (PC.setIfInBounds 106 (vS nd22 ((i + 1) + 1) ((i + 1) + 1 + nd23))), row (nd22) 260 (full symZ (symL ((stX z i) ++ [syk (z i) 27])) nd23), row (B19_1) 31 (rfR i (gq + 1)), row (B19_2) 42 (loR D i (gq + 1)), row (B19_3) 61 (sxR D i (gq + 1)), row (nd5) 9 (nmR z n 0)] Yf := hQ.back HL.out HX.out [2, 3, 4, 5] dc dc
  clear hQ HL HX
  obtain ⟨ix9, hix9, hax9, hjx9⟩ := hO.ix
  have aC := hjx9 0 _ _ rfl
  have aD := hjx9 1 _ _ rfl
  have aE := hjx9 2 _ _ rfl
  have aF := hjx9 3 _ _ rfl
  have aG := hjx9 4 _ _ rfl
  have aH := hjx9 5 _ _ rfl
  clear hjx9
  have aW : uw21.cell? ⟨nd7, 23, none⟩ = some (.int .u64 0) := hO.cell 0 rfl (23) ((get_other hf23 (by omega) _))
  have aX : uw21.cell? ⟨nd7, 32, none⟩ = some (bF) := hO.cell 0 rfl (32) ((get_other hf32 (by omega) _))
  have aY : uw21.cell? ⟨nd7, 66, none⟩ = some (vU 0) := hO.cell 0 rfl (66) ((get_other hf66 (by omega) _))
  have aZ : uw21.cell? ⟨nd7, 104, none⟩ = some (vP nd14) := hO.cell 0 rfl (104) ((get_other hf104 (by omega) _))
  have aa : uw21.cell? ⟨nd7, 105, none⟩ = some (vP nd11) := hO.cell 0 rfl (105) ((get_other hf105 (by omega) _))
  have ab : uw21.cell? ⟨nd7, 106, none⟩ = some (vS nd22 ((i + 1) + 1) ((i + 1) + 1 + nd23)) := hO.cell 0 rfl (106) ((get_set hf106 _))
  have ac : uw21.cell? ⟨nd7, 117, none⟩ = some (.map (some nd13)) := hO.cell 0 rfl (117) ((get_other hf117 (by omega) _))
  have ad : uw21.cell? ⟨nd7, 187, none⟩ = some (vP nd15) := hO.cell 0 rfl (187) ((get_other hf187 (by omega) _))
  have ae : uw21.cell? ⟨nd7, 333, none⟩ = some (bF) := hO.cell 0 rfl (333) ((get_other hf333 (by omega) _))
  have af : uw21.cell? ⟨nd7, 350, none⟩ = some (bF) := hO.cell 0 rfl (350) ((get_other hf350 (by omega) _))
  have aA := hO.lt 0 rfl
  have aB := hO.free 0 rfl
  have ag : uw21.cell? ⟨B19_1, i * 2, none⟩ = some (vU 0) := hO.cell 2 rfl (i * 2) ((rfR_z0 i gq))
  have ah : uw21.cell? ⟨B19_1, i * 2 + 1, none⟩ = some (vU 0) := hO.cell 2 rfl (i * 2 + 1) ((rfR_z1 i gq))
  have aO := hO.lt 2 rfl
  have aP := hO.free 2 rfl
  have ai : uw21.cell? ⟨B19_2, i, none⟩ = some (vO) := hO.cell 3 rfl (i) ((loR_at0 D i gq))
  have aI := hO.lt 3 rfl
  have aJ := hO.free 3 rfl
  have aj : uw21.cell? ⟨B19_3, i * 2, none⟩ = some (.nilIface) := hO.cell 4 rfl (i * 2) ((sxR_z0 D i gq))
  have ak : uw21.cell? ⟨B19_3, i * 2 + 1, none⟩ = some (vI 0) := hO.cell 4 rfl (i * 2 + 1) ((sxR_z1 D i gq))
  have aQ := hO.lt 4 rfl
  have aR := hO.free 4 rfl
  have al : uw21.cell? ⟨nd5, i, none⟩ = some (.string (z i)) := hO.cell 5 rfl (i) ((nmR_at z hlt))
  have aK := hO.lt 5 rfl
  have aL := hO.free 5 rfl
  have HO := Lib.hid hO
  clear hO
  go_wp2_with (first | (with_reducible refine Own.stay (fn := Tryd.f3) ?_) | fail)
  try with_reducible refine Own.Stay.mk ?_
  have hO := HO.out
  clear HO hix9 hax9 aC aD aE aF aG aH ix9 aW aX aY aZ aa ab ac ad ae af aA aB ag ah aO aP ai aI aJ aj ak aQ aR al aK aL
  generalize hW : World.setCell _ _ _ = W25
  have hN : Own w0 W25 [row (nd7) 252 (PC.setIfInBounds 106 (vS nd22 ((i + 1) + 1) ((i + 1) + 1 + nd23))), row (nd22) 260 (full symZ (symL ((stX z i) ++ [syk (z i) 27])) nd23), row (B19_1) 31 (((rfR i (gq + 1)).setIfInBounds (i * 2) (vU 0)).setIfInBounds (i * 2 + 1) (vU ((i : Int) + 1))), row (B19_2) 42 (loR D i (gq + 1)), row (B19_3) 61 (sxR D i (gq + 1)), row (nd5) 9 (nmR z n 0)] Yf := by
   rw [← hW]
   exact ((hO).set 2 rfl (i * 2) _).set 2 rfl (i * 2 + 1) _
  clear hW hO
  have hO := hN
  clear hN
  obtain ⟨HL, HX⟩ := hid2 hO
  have hP9 := hO.pick [] dc
  have T9 := identB ((i : Int) + 1) 0 ((i : Int) + 1) _ _ _ hP9 
  refine Calls.mono T9 ?_
  clear hP9 T9
  rintro e uw26 ⟨nd27, rfl, hQ⟩
  replace hO : Own w0 uw26 [row (nd27) 136 #[vU 0, vU ((i : Int) + 1)], row (nd7) 252 (PC.setIfInBounds 106 (vS nd22 ((i + 1) + 1) ((i + 1) + 1 + nd23))), row (nd22) 260 (full symZ (symL ((stX z i) ++ [syk (z i) 27])) nd23), row (B19_1) 31 (((rfR i (gq + 1)).setIfInBounds (i * 2) (vU 0)).setIfInBounds (i * 2 + 1) (vU ((i : Int) + 1))), row (B19_2) 42 (loR D i (gq + 1)), row (B19_3) 61 (sxR D i (gq + 1)), row (nd5) 9 (nmR z n 0)] Yf := hQ.back HL.out HX.out [0, 1, 2, 3, 4, 5] dc dc
  clear hQ HL HX
  obtain ⟨ix9, hix9, hax9, hjx9⟩ := hO.ix
  have aC := hjx9 0 _ _ rfl
  have aD := hjx9 1 _ _ rfl
  have aE := hjx9 2 _ _ rfl
  have aF := hjx9 3 _ _ rfl
  have aG := hjx9 4 _ _ rfl
  have aH := hjx9 5 _ _ rfl
  have am := hjx9 6 _ _ rfl
  clear hjx9
  obtain ⟨aM, aN, aA, aB, -⟩ := hO.k2 0 rfl
  have aw : uw26.cell? ⟨nd7, 23, none⟩ = some (.int .u64 0) := hO.cell 1 rfl (23) ((get_other hf23 (by omega) _))
  have ax : uw26.cell? ⟨nd7, 32, none⟩ = some (bF) := hO.cell 1 rfl (32) ((get_other hf32 (by omega) _))
  have ay : uw26.cell? ⟨nd7, 66, none⟩ = some (vU 0) := hO.cell 1 rfl (66) ((get_other hf66 (by omega) _))
  have az : uw26.cell? ⟨nd7, 104, none⟩ = some (vP nd14) := hO.cell 1 rfl (104) ((get_other hf104 (by omega) _))
  have bA : uw26.cell? ⟨nd7, 105, none⟩ = some (vP nd11) := hO.cell 1 rfl (105) ((get_other hf105 (by omega) _))
  have bB : uw26.cell? ⟨nd7, 106, none⟩ = some (vS nd22 ((i + 1) + 1) ((i + 1) + 1 + nd23)) := hO.cell 1 rfl (106) ((get_set hf106 _))
  have bC : uw26.cell? ⟨nd7, 117, none⟩ = some (.map (some nd13)) := hO.cell 1 rfl (117) ((get_other hf117 (by omega) _))
  have bD : uw26.cell? ⟨nd7, 187, none⟩ = some (vP nd15) := hO.cell 1 rfl (187) ((get_other hf187 (by omega) _))
  have bE : uw26.cell? ⟨nd7, 333, none⟩ = some (bF) := hO.cell 1 rfl (333) ((get_other hf333 (by omega) _))
  have bG : uw26.cell? ⟨nd7, 350, none⟩ = some (bF) := hO.cell 1 rfl (350) ((get_other hf350 (by omega) _))
  have an := hO.lt 1 rfl
  have ao := hO.free 1 rfl
  have bH : uw26.cell? ⟨B19_1, i * 2, none⟩ = some (vU 0) := hO.cell 3 rfl (i * 2) ((get_other (get_set (rfR_z0 i gq) _) (by omega) _))
  have bI : uw26.cell? ⟨B19_1, i * 2 + 1, none⟩ = some (vU ((i : Int) + 1)) := hO.cell 3 rfl (i * 2 + 1) ((get_set (get_other (rfR_z1 i gq) (by omega) _) _))
  have aI := hO.lt 3 rfl
  have aJ := hO.free 3 rfl
  have bJ : uw26.cell? ⟨B19_2, i, none⟩ = some (vO) := hO.cell 4 rfl (i) ((loR_at0 D i gq))
  have aQ := hO.lt 4 rfl
  have aR := hO.free 4 rfl
  have ap : uw26.cell? ⟨B19_3, i * 2, none⟩ = some (.nilIface) := hO.cell 5 rfl (i * 2) ((sxR_z0 D i gq))
  have aq : uw26.cell? ⟨B19_3, i * 2 + 1, none⟩ = some (vI 0) := hO.cell 5 rfl (i * 2 + 1) ((sxR_z1 D i gq))
  have aK := hO.lt 5 rfl
  have aL := hO.free 5 rfl
  have ar : uw26.cell? ⟨nd5, i, none⟩ = some (.string (z i)) := hO.cell 6 rfl (i) ((nmR_at z hlt))
  have aS := hO.lt 6 rfl
  have aT := hO.free 6 rfl
  have HO := Lib.hid hO
  clear hO
  go_wp2_with (first | (with_reducible refine Own.stay (fn := Tryd.f3) ?_) | fail)
  try with_reducible refine Own.Stay.mk ?_
  have hO := HO.out
  clear HO hix9 hax9 aC aD aE aF aG aH am ix9 aM aN aA aB aw ax ay az bA bB bC bD bE bG an ao bH bI aI aJ bJ aQ aR ap aq aK aL ar aS aT
  generalize hW : World.alloc _ _ = W29
  have hN : Own w0 W29 [row (uw26.heap.size + 1) 57 #[vS uw26.heap.size 1 1, v8 1, .bool true, bF], row (uw26.heap.size) 54 #[vF 134 nd27, vI ((i : Int) + 1), .nilIface, vI 0], row (nd27) 136 #[vU 0, vU ((i : Int) + 1)], row (nd7) 252 (PC.setIfInBounds 106 (vS nd22 ((i + 1) + 1) ((i + 1) + 1 + nd23))), row (nd22) 260 (full symZ (symL ((stX z i) ++ [syk (z i) 27])) nd23), row (B19_1) 31 (((rfR i (gq + 1)).setIfInBounds (i * 2) (vU 0)).setIfInBounds (i * 2 + 1) (vU ((i : Int) + 1))), row (B19_2) 42 ((loR D i (gq + 1)).setIfInBounds i (.pointer (some ⟨uw26.heap.size + 1, 0, none⟩))), row (B19_3) 61 (sxR D i (gq + 1)), row (nd5) 9 (nmR z n 0)] Yf := by
   rw [← hW]
   exact (((hO).set 4 rfl i _).alloc' _ (uw26.heap.size) (by simp)).alloc' _ (uw26.heap.size + 1) (by simp)
  clear hW hO
  generalize uw26.heap.size + 1 = B28_1 at hN ⊢
  generalize uw26.heap.size = B28 at hN ⊢
  have hO := hN
  clear hN
  obtain ⟨HL, HX⟩ := hid2 hO
  have hP9 := hO.pick [] dc
  have T9 := localStmt B28_1 ((i : Int) + 1) _ _ _ hP9 
  refine Calls.mono T9 ?_
  clear hP9 T9
  rintro e uw30 ⟨rfl, hQ⟩
  replace hO : Own w0 uw30 [row (B28_1) 57 #[vS B28 1 1, v8 1, .bool true, bF], row (B28) 54 #[vF 134 nd27, vI ((i : Int) + 1), .nilIface, vI 0], row (nd27) 136 #[vU 0, vU ((i : Int) + 1)], row (nd7) 252 (PC.setIfInBounds 106 (vS nd22 ((i + 1) + 1) ((i + 1) + 1 + nd23))), row (nd22) 260 (full symZ (symL ((stX z i) ++ [syk (z i) 27])) nd23), row (B19_1) 31 (((rfR i (gq + 1)).setIfInBounds (i * 2) (vU 0)).setIfInBounds (i * 2 + 1) (vU ((i : Int) + 1))), row (B19_2) 42 ((loR D i (gq + 1)).setIfInBounds i (vP B28_1)), row (B19_3) 61 (sxR D i (gq + 1)), row (nd5) 9 (nmR z n 0)] Yf := hQ.back HL.out HX.out [0, 1, 2, 3, 4, 5, 6, 7, 8] dc dc
  clear hQ HL HX
  obtain ⟨ix9, hix9, hax9, hjx9⟩ := hO.ix
  have aC := hjx9 0 _ _ rfl
  have aD := hjx9 1 _ _ rfl
  have aE := hjx9 2 _ _ rfl
  have aF := hjx9 3 _ _ rfl
  have aG := hjx9 4 _ _ rfl
  have aH := hjx9 5 _ _ rfl
  have am := hjx9 6 _ _ rfl
  have bK := hjx9 7 _ _ rfl
  have bL := hjx9 8 _ _ rfl
  clear hjx9
  obtain ⟨aM, aN, aU, aV, aA, aB, -⟩ := hO.k4 0 rfl
  obtain ⟨bM, bN, bO, bP, an, ao, -⟩ := hO.k4 1 rfl
  obtain ⟨bQ, bR, aO, aP, -⟩ := hO.k2 2 rfl
  have bS : uw30.cell? ⟨nd7, 23, none⟩ = some (.int .u64 0) := hO.cell 3 rfl (23) ((get_other hf23 (by omega) _))
  have bT : uw30.cell? ⟨nd7, 32, none⟩ = some (bF) := hO.cell 3 rfl (32) ((get_other hf32 (by omega) _))
  have bU : uw30.cell? ⟨nd7, 66, none⟩ = some (vU 0) := hO.cell 3 rfl (66) ((get_other hf66 (by omega) _))
  have bV : uw30.cell? ⟨nd7, 104, none⟩ = some (vP nd14) := hO.cell 3 rfl (104) ((get_other hf104 (by omega) _))
  have bW : uw30.cell? ⟨nd7, 105, none⟩ = some (vP nd11) := hO.cell 3 rfl (105) ((get_other hf105 (by omega) _))
  have bX : uw30.cell? ⟨nd7, 106, none⟩ = some (vS nd22 ((i + 1) + 1) ((i + 1) + 1 + nd23)) := hO.cell 3 rfl (106) ((get_set hf106 _))
  have bY : uw30.cell? ⟨nd7, 117, none⟩ = some (.map (some nd13)) := hO.cell 3 rfl (117) ((get_other hf117 (by omega) _))
  have bZ : uw30.cell? ⟨nd7, 187, none⟩ = some (vP nd15) := hO.cell 3 rfl (187) ((get_other hf187 (by omega) _))
  have ba : uw30.cell? ⟨nd7, 333, none⟩ = some (bF) := hO.cell 3 rfl (333) ((get_other hf333 (by omega) _))
  have bb : uw30.cell? ⟨nd7, 350, none⟩ = some (bF) := hO.cell 3 rfl (350) ((get_other hf350 (by omega) _))
  have aI := hO.lt 3 rfl
  have aJ := hO.free 3 rfl
  have ap : uw30.cell? ⟨B19_1, i * 2, none⟩ = some (vU 0) := hO.cell 5 rfl (i * 2) ((get_other (get_set (rfR_z0 i gq) _) (by omega) _))
  have aq : uw30.cell? ⟨B19_1, i * 2 + 1, none⟩ = some (vU ((i : Int) + 1)) := hO.cell 5 rfl (i * 2 + 1) ((get_set (get_other (rfR_z1 i gq) (by omega) _) _))
  have aK := hO.lt 5 rfl
  have aL := hO.free 5 rfl
  have ar : uw30.cell? ⟨B19_2, i, none⟩ = some (vP B28_1) := hO.cell 6 rfl (i) ((get_set (loR_at0 D i gq) _))
  have aS := hO.lt 6 rfl
  have aT := hO.free 6 rfl
  have bc : uw30.cell? ⟨B19_3, i * 2, none⟩ = some (.nilIface) := hO.cell 7 rfl (i * 2) ((sxR_z0 D i gq))
  have bd : uw30.cell? ⟨B19_3, i * 2 + 1, none⟩ = some (vI 0) := hO.cell 7 rfl (i * 2 + 1) ((sxR_z1 D i gq))
  have au := hO.lt 7 rfl
  have av := hO.free 7 rfl
  have be : uw30.cell? ⟨nd5, i, none⟩ = some (.string (z i)) := hO.cell 8 rfl (i) ((nmR_at z hlt))
  have bf := hO.lt 8 rfl
  have bg := hO.free 8 rfl
  have HO := Lib.hid hO
  clear hO
  go_wp2_with (first | (with_reducible refine Own.stay (fn := Tryd.f3) ?_) | fail)
  try with_reducible refine Own.Stay.mk ?_
  have hO := HO.out
  clear HO hix9 hax9 aC aD aE aF aG aH am bK bL ix9 aM aN aU aV aA aB bM bN bO bP an ao bQ bR aO aP bS bT bU bV bW bX bY bZ ba bb aI aJ ap aq aK aL ar aS aT bc bd au av be bf bg
  generalize hW : World.setCell _ _ _ = W32
  have hN : Own w0 W32 [row (B28_1) 57 #[vS B28 1 1, v8 1, .bool true, bF], row (B28) 54 #[vF 134 nd27, vI ((i : Int) + 1), .nilIface, vI 0], row (nd27) 136 #[vU 0, vU ((i : Int) + 1)], row (nd7) 252 (PC.setIfInBounds 106 (vS nd22 ((i + 1) + 1) ((i + 1) + 1 + nd23))), row (nd22) 260 (full symZ (symL ((stX z i) ++ [syk (z i) 27])) nd23), row (B19_1) 31 (((rfR i (gq + 1)).setIfInBounds (i * 2) (vU 0)).setIfInBounds (i * 2 + 1) (vU ((i : Int) + 1))), row (B19_2) 42 ((loR D i (gq + 1)).setIfInBounds i (vP B28_1)), row (B19_3) 61 (((sxR D i (gq + 1)).setIfInBounds (i * 2) (vF 42 B28_1)).setIfInBounds (i * 2 + 1) (vI ((i : Int) + 1))), row (nd5) 9 (nmR z n 0)] Yf := by
   rw [← hW]
   exact ((hO).set 7 rfl (i * 2) _).set 7 rfl (i * 2 + 1) _
  clear hW hO
  have hO := hN
  clear hN
  rw [← HY.out] at hO
  have hN : Own w0 W32 [row (B28_1) 57 #[vS B28 1 1, v8 1, .bool true, bF], row (B28) 54 #[vF 134 nd27, vI ((i : Int) + 1), .nilIface, vI 0], row (nd27) 136 #[vU 0, vU ((i : Int) + 1)], row (nd7) 252 (PC.setIfInBounds 106 (vS nd22 ((i + 1) + 1) ((i + 1) + 1 + nd23))), row (nd22) 260 (full symZ (symL (stX z (i + 1))) nd23), row (B19_1) 31 (rfR (i + 1) gq), row (B19_2) 42 (loR (updE D i B28_1 B28 nd27) (i + 1) gq), row (B19_3) 61 (sxR (updE D i B28_1 B28 nd27) (i + 1) gq), row (nd5) 9 (nmR z n 0)] (NodX X9a D 0 i) := (hO.sub [0, 1, 2, 3, 4, 5, 6, 7, 8] dc).conv (by
   rw [← rfR_next i gq, ← loR_next D i gq B28_1 B28 nd27, ← sxR_next D i gq B28_1 B28 nd27, ← stX_next z i]
   rfl)
  obtain ⟨hM, hi9, hs9⟩ := NodX.next hN HIJ.out HSP.out
  go_roundg gq
  case measure => omega
  case rel => exact ⟨i + 1, (updE D i B28_1 B28 nd27), PC.setIfInBounds 106 (vS nd22 ((i + 1) + 1) ((i + 1) + 1 + nd23)), nd22, nd23, by omega, by first | rfl | simp, (get_other hf350 (by omega) _), (get_other hf32 (by omega) _), (get_other hf105 (by omega) _), (get_other hf66 (by omega) _), (get_other hf117 (by omega) _), (get_other hf187 (by omega) _), (get_other hf104 (by omega) _), (get_other hf333 (by omega) _), (get_other hf23 (by omega) _), (get_set hf106 _), hi9, hs9, hM⟩
 obtain rfl : gk = 0 := by omega
 obtain rfl : n = i := by omega
 have hM := hO
 rw [← HXEa.out] at hM
 rw [← HXEa.out] at hsp
 have hN : Own w0 wr [row (nd7) 252 PC, row (sb) 260 (full symZ (symL (stX z n)) c), row (B19_1) 31 (rfR n 0), row (B19_2) 42 (loR D n 0), row (B19_3) 61 (sxR D n 0), row (nd5) 9 (nmR z n 0), row (B19) 31 #[vU 0, vU 0], row (B16) 33 #[vI 7, vU 0, vU 0, bF], row (nd11) 107 #[vN, vN, vN, vN, .map (some nd12), .map none, .map none, vN, bF, bF, bF], ((nd12, .map (uA ([])) (uN ([]))) : Rw), ((nd13, .map #[] 0) : Rw), row (nd14) 99 #[vO, vP nd15, vN, .map none, vN, vN, vI 0, vI 0, vU 0, vU 0, bF, bF, bF, bF, v8 0, v8 8], row (nd15) 99 #[vO, vO, vN, .map none, vN, vN, vI 0, vI 0, vU 0, vU 0, bF, bF, bF, bF, v8 0, v8 6]] (NodX X D 0 n) := NodX.back hM hsp HLa.out HXa.out [3, 4, 7, 8, 9, 10, 11] dc dc
 have hs0 : SepD X D n := fun b o h => hsp b o (Or.inl h)
 clear hM hO
 have hO := hN
 clear hN
 have hlt9 : ¬ (n : Int) < (n : Int) := by omega
 obtain ⟨bh, bi, aS, aT, -⟩ := hO.k2 6 rfl
 obtain ⟨bj, bk, bl, bm, au, av, -⟩ := hO.k4 7 rfl
 have HO := Lib.hid hO
 clear hO
 go_wp2_with (first | (with_reducible refine Own.stay (fn := Tryd.f3) ?_) | fail)
 try with_reducible refine Own.Stay.mk ?_
 have hO := HO.out
 clear HO bh bi aS aT bj bk bl bm au av
 rw [HC9.out]
 exact HK.out nd7 sb c nd11 nd12 nd13 nd14 nd15 B16 B19 nd5 B19_1 B19_2 B19_3 PC D hf350 hf32 hf105 hf66 hf117 hf187 hf104 hf333 hf23 hf106 hn7 hij hs0 (hO.sub [0, 1, 2, 3, 4, 5, 7, 6, 8, 9, 10, 11, 12] dc)
end Go.Proofs.YtikopplofkemlaaDoor.Use
