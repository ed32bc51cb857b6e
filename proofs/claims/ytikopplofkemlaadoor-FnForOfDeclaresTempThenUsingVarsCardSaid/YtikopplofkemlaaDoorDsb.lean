/- Several texts in one. No condition. -/
import Derived.Test.YtikopplofkemlaaDoorApf
import Derived.Test.YtikopplofkemlaaDoorGnc
namespace Go.Proofs.YtikopplofkemlaaDoor.Use
open Go.ChangeShapes Go.WideShapes Go.ChangeAt Go.RowKit Go.Sort Own
set_option linter.unusedVariables false
def i32Z : Array Value := #[vI 0]
theorem infoI32 : (Tryd.prog.info? 21).map (fun i => (i.zero, i.size, i.bytes)) = some (some (vI 0), 1, 4) := by kernel_rfl
/-- The places of the body's statements. -/
def lcB (i : Nat) : Int := 100 + (i : Int)
def wF (i : Nat) : List Value := [vI (100 + (i : Int))]
theorem wF_len (i : Nat) : (wF i).length = 1 := rfl
theorem makeI32s (n : Nat) (hn : n ≤ 1048576) (w : World) : (Instr.makeSlice 87 (v6 (n : Int)) (v6 (n : Int))).run Tryd.prog w = .ok (vS w.heap.size n n) (w.alloc (.cells (full i32Z [] n) 21)) := by
 obtain ⟨i, hi, z1, z2, z3⟩ := info_parts infoI32
 exact run_mk_full w 87 21 i (vI 0) 1 4 Tryd.underlying87 hi z1 z2 z3 rfl .i64 .i64 n n (Nat.le_refl _) (by omega) (by omega)
def wR (i g : Nat) : Array Value := full i32Z (tab wF i) g
theorem wF_next (i g : Nat) : (wR i (g + 1)).setIfInBounds i (vI (100 + (i : Int))) = wR (i + 1) g := by
 unfold wR
 have h := full_next1 (z := i32Z) (l := tab wF i) (c := g) (vI (100 + (i : Int))) rfl
 rw [tab_length wF_len i, Nat.mul_one] at h
 rw [h, tab_succ]
 rfl
theorem wF_at0 (i g : Nat) : (wR i (g + 1))[i]? = some (vI 0) := by
 unfold wR
 have := full_room (z := i32Z) (l := tab wF i) (c := g) (o := 0) rfl
 rwa [tab_length wF_len i, Nat.mul_one, Nat.add_zero] at this

def newSymDPost (pb : Nat) (PC : Array Value) (sb c : Nat) (st : List Sy) (n : Nat) (src : Int) (nm : ByteArray) (w0 : World) (X : Nat → Obj → Prop) (e : Ending) (w' : World) : Prop :=
 ∃ sb2 : Nat, ∃ c2 : Nat, e = .returned (.agg #[vU src, vU (n : Int)]) ∧ Own w0 w' [row (pb) 252 (PC.setIfInBounds 106 (vS sb2 (n + 1) (n + 1 + c2))), row (sb2) 260 (full symZ (symL (st ++ [syk nm 27])) c2)] X
set_option maxRecDepth 100000 in
set_option maxHeartbeats 1000000 in
theorem newSymD (pb : Nat) (PC : Array Value) (sb c : Nat) (st : List Sy) (n : Nat) (src : Int) (nm : ByteArray) (w0 w : World) (X : Nat → Obj → Prop) (hO : Own w0 w [row (pb) 252 PC, row (sb) 260 (full symZ (symL st) c)] X) (hk66 : PC[66]? = some (vU src)) (hk32 : PC[32]? = some (bF)) (hk106 : PC[106]? = some (vS sb n (n + c))) (hn : st.length = n) (hnb : n ≤ 2000000) (hg0 : w0.cell? ⟨0, 0, none⟩ = some (vU 4294967295)) (hg1 : w0.cell? ⟨0, 1, none⟩ = some (vU 4294967295)) :
  Calls Tryd.prog 11 #[vP pb, .string nm] w (newSymDPost pb PC sb c st n src nm w0 X) := by
 go_enter Tryd.func11, Tryd.ntmps11
 go_wp2_with (first | (with_reducible refine Own.stay (fn := Tryd.f11) ?_) | fail)
 try with_reducible refine Own.Stay.mk ?_
 generalize hW : World.alloc _ _ = W2
 have hN : Own w0 W2 [row (w.heap.size) 31 #[vU 0, vU 0], row (pb) 252 PC, row (sb) 260 (full symZ (symL st) c)] X := by
  rw [← hW]
  exact (hO).alloc' _ (w.heap.size) (by simp)
 clear hW hO
 generalize w.heap.size = B1 at hN ⊢
 have hO := hN
 clear hN
 obtain ⟨HL, HX⟩ := hid2 hO
 have hP9 := hO.pick [1, 2] dc
 have T9 := newSymG pb PC sb c st n src 27 nm _ _ _ hP9 hk66 hk32 hk106 hn hnb hg0 hg1
 refine Calls.mono T9 ?_
 clear hP9 T9
 rintro e u3 ⟨nd4, nd5, rfl, hQ⟩
 replace hO : Own w0 u3 [row (pb) 252 (PC.setIfInBounds 106 (vS nd4 (n + 1) (n + 1 + nd5))), row (nd4) 260 (full symZ (symL (st ++ [syk nm 27])) nd5), row (B1) 31 #[vU 0, vU 0]] X := hQ.back HL.out HX.out [0] dc dc
 clear hQ HL HX
 obtain ⟨aA, aB, aC, aD, -⟩ := hO.k2 2 rfl
 have HO := Lib.hid hO
 clear hO
 go_wp2_with (first | (with_reducible refine Own.stay (fn := Tryd.f11) ?_) | fail)
 try with_reducible refine Own.Stay.mk ?_
 have hO := HO.out
 clear HO aA aB aC aD
 generalize hW : World.setCell _ _ _ = W7
 have hN : Own w0 W7 [row (pb) 252 (PC.setIfInBounds 106 (vS nd4 (n + 1) (n + 1 + nd5))), row (nd4) 260 (full symZ (symL (st ++ [syk nm 27])) nd5), row (B1) 31 #[vU src, vU (n : Int)]] X := by
  rw [← hW]
  exact ((hO).set 2 rfl 0 _).set 2 rfl 1 _
 clear hW hO
 have hO := hN
 clear hN
 have z9_2_0 : W7.cell? ⟨B1, 0, none⟩ = some (vU src) := hO.cell 2 rfl 0 rfl
 have z9_2_1 : W7.cell? ⟨B1, 1, none⟩ = some (vU (n : Int)) := hO.cell 2 rfl 1 rfl
 refine bodyPost_ret (v := .agg #[vU src, vU (n : Int)]) ?_ rfl ⟨nd4, nd5, rfl, hO.sub [0, 1] dc⟩
 simp [results, Tryd.results11, go_sem, z9_2_0, z9_2_1]
def identBPost (k0 ra rj : Int) (w0 : World) (X : Nat → Obj → Prop) (e : Ending) (w' : World) : Prop :=
 ∃ nb : Nat, e = .returned (.agg #[vF 134 nb, vI k0]) ∧ Own w0 w' [row (nb) 136 #[vU ra, vU rj]] X
set_option maxRecDepth 100000 in
set_option maxHeartbeats 1000000 in
theorem identB (k0 ra rj : Int) (w0 w : World) (X : Nat → Obj → Prop) (hO : Own w0 w [] X)  :
  Calls Tryd.prog 12 #[vI k0, .agg #[vU ra, vU rj]] w (identBPost k0 ra rj w0 X) := by
 go_enter Tryd.func12, Tryd.ntmps12
 go_wp2_with (first | (with_reducible refine Own.stay (fn := Tryd.f12) ?_) | fail)
 try with_reducible refine Own.Stay.mk ?_
 generalize hW : World.alloc _ _ = W2
 have hN : Own w0 W2 [row (w.heap.size + 1 + 1) 136 #[vU ra, vU rj], row (w.heap.size + 1) 47 #[.iface 134 (.pointer (some ⟨w.heap.size + 1 + 1, 0, none⟩)), vI k0], row (w.heap.size) 31 #[vU ra, vU rj]] X := by
  rw [← hW]
  exact (((hO).alloc' _ (w.heap.size) (by simp)).alloc' _ (w.heap.size + 1) (by simp)).alloc' _ (w.heap.size + 1 + 1) (by simp)
 clear hW hO
 generalize w.heap.size + 1 + 1 = B1_2 at hN ⊢
 generalize w.heap.size + 1 = B1_1 at hN ⊢
 generalize w.heap.size = B1 at hN ⊢
 have hO := hN
 clear hN
 have z9_1_0 : W2.cell? ⟨B1_1, 0, none⟩ = some (vF 134 B1_2) := hO.cell 1 rfl 0 rfl
 have z9_1_1 : W2.cell? ⟨B1_1, 1, none⟩ = some (vI k0) := hO.cell 1 rfl 1 rfl
 refine bodyPost_ret (v := .agg #[vF 134 B1_2, vI k0]) ?_ rfl ⟨B1_2, rfl, hO.sub [0] dc⟩
 simp [results, Tryd.results12, go_sem, z9_1_0, z9_1_1]
def blockSPost (k0 : Int) (tb n cp : Nat) (w0 : World) (X : Nat → Obj → Prop) (e : Ending) (w' : World) : Prop :=
 ∃ nb : Nat, e = .returned (.agg #[vF 110 nb, vI k0]) ∧ Own w0 w' [row (nb) 72 #[vS tb n cp, vI 0]] X
set_option maxRecDepth 100000 in
set_option maxHeartbeats 1000000 in
theorem blockS (k0 : Int) (tb n cp : Nat) (w0 w : World) (X : Nat → Obj → Prop) (hO : Own w0 w [] X)  :
  Calls Tryd.prog 40 #[vI k0, vS tb n cp] w (blockSPost k0 tb n cp w0 X) := by
 go_enter Tryd.func40, Tryd.ntmps40
 go_wp2_with (first | (with_reducible refine Own.stay (fn := Tryd.f40) ?_) | fail)
 try with_reducible refine Own.Stay.mk ?_
 generalize hW : World.alloc _ _ = W2
 have hN : Own w0 W2 [row (w.heap.size + 1) 72 #[vS tb n cp, vI 0], row (w.heap.size) 61 #[.iface 110 (.pointer (some ⟨w.heap.size + 1, 0, none⟩)), vI k0]] X := by
  rw [← hW]
  exact ((hO).alloc' _ (w.heap.size) (by simp)).alloc' _ (w.heap.size + 1) (by simp)
 clear hW hO
 generalize w.heap.size + 1 = B1_1 at hN ⊢
 generalize w.heap.size = B1 at hN ⊢
 have hO := hN
 clear hN
 have z9_1_0 : W2.cell? ⟨B1, 0, none⟩ = some (vF 110 B1_1) := hO.cell 1 rfl 0 rfl
 have z9_1_1 : W2.cell? ⟨B1, 1, none⟩ = some (vI k0) := hO.cell 1 rfl 1 rfl
 refine bodyPost_ret (v := .agg #[vF 110 B1_1, vI k0]) ?_ rfl ⟨B1_1, rfl, hO.sub [0] dc⟩
 simp [results, Tryd.results40, go_sem, z9_1_0, z9_1_1]
end Go.Proofs.YtikopplofkemlaaDoor.Use
namespace Go.Proofs.YtikopplofkemlaaDoor.Use
open Go.ChangeShapes Go.WideShapes Go.ChangeAt Go.RowKit Go.Sort Own
set_option linter.unusedVariables false
noncomputable def rsetU0a4E (B1_2 : Nat) (B1 : Nat) (nd4 : Nat) (B12 : Nat) (B16_1 : Nat) : Nat → Rega.Atoms → Value
 | 0, α => vP nd4
 | 1, α => vP B1_2
 | 2, α => .agg #[vU 0, vU 0]
 | 3, α => vP B16_1
 | 4, α => vP nd4
 | 5, α => vP B1_2
 | 6, α => undef
 | 7, α => vP B16_1
 | _, _ => undef
noncomputable def rsetU0a4Anc : Nat → List Nat
 | 4 => [0]
 | 5 => [0, 1, 4]
 | 6 => [0, 1, 2, 4, 5]
 | 7 => [0, 1, 2, 3, 4, 5, 6]
 | _ => []
noncomputable def rsetU0a4Trn : Nat → List Nat
 | 6 => [1999]
 | _ => []
noncomputable def rsetU0a4Cnt : List (Nat × Nat) := []
noncomputable def rsetU0a4T1999 (B1_2 : Nat) (B1 : Nat) (nd4 : Nat) (B12 : Nat) (B16_1 : Nat) (L9 : Nat → Bool) (α : Rega.Atoms) : Rw := if L9 6 = true then row (B1) 31 #[vU 0, vU 0] else row (B1) 31 #[vU 0, vU 0]
noncomputable def rsetU0a4R (B1_2 : Nat) (B1 : Nat) (nd4 : Nat) (B12 : Nat) (B16_1 : Nat) (L9 : Nat → Bool) (α : Rega.Atoms) (ix9 : Nat) : Rw := if ix9 = 999 then row (B12) 31 #[vU 0, vU 0] else if ix9 = 1999 then rsetU0a4T1999 B1_2 B1 nd4 B12 B16_1 L9 α else (0, .map #[] 0)
theorem rsetU0a4_he (B1_2 : Nat) (B1 : Nat) (nd4 : Nat) (B12 : Nat) (B16_1 : Nat) : ∀ kk α α', (∀ j, (j % 1000 = kk ∨ j % 1000 ∈ rsetU0a4Anc kk) → α j = α' j) → rsetU0a4E B1_2 B1 nd4 B12 B16_1 kk α = rsetU0a4E B1_2 B1 nd4 B12 B16_1 kk α' := by
 intro kk α α' h
 match kk with
 | 0 => rfl
 | 1 => rfl
 | 2 => rfl
 | 3 => rfl
 | 4 => rfl
 | 5 => rfl
 | 6 => rfl
 | 7 => rfl
 | n + 8 => rfl
theorem rsetU0a4_st (B1_2 : Nat) (B1 : Nat) (nd4 : Nat) (B12 : Nat) (B16_1 : Nat) : Stable rsetU0a4Cnt 2 rsetU0a4Anc rsetU0a4Trn (rsetU0a4R B1_2 B1 nd4 B12 B16_1) := by
 intro k9 L9 α α' ix9 hk hcl hα hact ht
 have hp := act_places hact
 replace hp : ix9 ∈ [999, 1999] := hp
 simp only [List.mem_cons, List.not_mem_nil, or_false] at hp
 rcases hp with rfl | rfl
 ·rfl
 ·show rsetU0a4T1999 B1_2 B1 nd4 B12 B16_1 (Rega.ran L9 k9) α' = rsetU0a4T1999 B1_2 B1 nd4 B12 B16_1 L9 α
  unfold rsetU0a4T1999
  have n6 : 6 ≠ k9 := fun e => ht (by rw [← e]; decide)
  rw [ran_ne n6]
def setU0Post (nm : ByteArray) (w0 : World) (X : Nat → Obj → Prop) (e : Ending) (w' : World) : Prop :=
 ∃ pb : Nat, ∃ sb0 : Nat, ∃ sb : Nat, ∃ c : Nat, ∃ pt : Nat, ∃ mu : Nat, ∃ mp : Nat, ∃ cs : Nat, ∃ ms : Nat, ∃ ini : Nat, ∃ dbx : Nat, ∃ ib : Nat, e = .returned (.tuple #[vP pb, vP cs, .agg #[vU 0, vU 0], vP ini]) ∧ Own w0 w' [row (pb) 252 ((newPar sb0 cs ms pt mp).setIfInBounds 106 (vS sb 1 (1 + c))), row (sb) 260 (full symZ (symL ([sy nm 0])) c), row (pt) 107 #[vN, vN, vN, vN, .map (some mu), .map none, .map none, vN, bF, bF, bF], ((mu, .map (uA ([])) (uN ([]))) : Rw), ((mp, .map #[] 0) : Rw), row (cs) 99 #[vO, vP ms, vN, .map none, vN, vN, vI 0, vI 0, vU 0, vU 0, bF, bF, bF, bF, v8 0, v8 8], row (ms) 99 #[vO, vO, vN, .map none, vN, vN, vI 0, vI 0, vU 0, vU 0, bF, bF, bF, bF, v8 0, v8 6], row (ini) 57 #[vS dbx 1 1, v8 3, bF, bF], row (dbx) 54 #[vF 134 ib, vI 3, .nilIface, vI 0], row (ib) 136 #[vU 0, vU 0]] X
set_option maxRecDepth 100000 in
set_option maxHeartbeats 1000000 in
theorem setU0 (nm : ByteArray) (w0 w : World) (X : Nat → Obj → Prop) (hO : Own w0 w [] X) (hg0 : w0.cell? ⟨0, 0, none⟩ = some (vU 4294967295)) (hg1 : w0.cell? ⟨0, 1, none⟩ = some (vU 4294967295)) :
  Calls Tryd.prog 20 #[.string nm, bF] w (setU0Post nm w0 X) := by
 go_enter Tryd.func20, Tryd.ntmps20
 go_wp2_with (first | (with_reducible refine Own.stay (fn := Tryd.f20) ?_) | fail)
 try with_reducible refine Own.Stay.mk ?_
 generalize hW : World.alloc _ _ = W2
 have hN : Own w0 W2 [row (w.heap.size + 1 + 1) 99 #[vO, .pointer (some ⟨w.heap.size + 1, 0, none⟩), vN, .map none, vN, vN, vI 0, vI 0, vU 0, vU 0, bF, bF, bF, bF, v8 0, v8 8], row (w.heap.size + 1) 99 #[vO, vO, vN, .map none, vN, vN, vI 0, vI 0, vU 0, vU 0, bF, bF, bF, bF, v8 0, v8 6], row (w.heap.size) 31 #[vU 0, vU 0]] X := by
  rw [← hW]
  exact (((hO).alloc' _ (w.heap.size) (by simp)).alloc' _ (w.heap.size + 1) (by simp)).alloc' _ (w.heap.size + 1 + 1) (by simp)
 clear hW hO
 generalize w.heap.size + 1 + 1 = B1_2 at hN ⊢
 generalize w.heap.size + 1 = B1_1 at hN ⊢
 generalize w.heap.size = B1 at hN ⊢
 have hO := hN
 clear hN
 obtain ⟨HL, HX⟩ := hid2 hO
 have hP9 := hO.pick [] dc
 have T9 := newP B1_2 B1_1 _ _ _ hP9 
 refine Calls.mono T9 ?_
 clear hP9 T9
 rintro e uw3 ⟨nd4, nd5, nd6, nd7, nd8, rfl, hQ⟩
 replace hO : Own w0 uw3 [row (nd4) 252 (newPar nd5 B1_2 B1_1 nd6 nd8), row (nd5) 260 (full symZ (symL nosy) 0), row (nd6) 107 #[vN, vN, vN, vN, .map (some nd7), .map none, .map none, vN, bF, bF, bF], ((nd7, .map (uA ([])) (uN ([]))) : Rw), ((nd8, .map #[] 0) : Rw), row (B1_2) 99 #[vO, vP B1_1, vN, .map none, vN, vN, vI 0, vI 0, vU 0, vU 0, bF, bF, bF, bF, v8 0, v8 8], row (B1_1) 99 #[vO, vO, vN, .map none, vN, vN, vI 0, vI 0, vU 0, vU 0, bF, bF, bF, bF, v8 0, v8 6], row (B1) 31 #[vU 0, vU 0]] X := hQ.back HL.out HX.out [0, 1, 2] dc dc
 clear hQ HL HX
 obtain ⟨aA, aB, aC, aD, -⟩ := hO.k2 7 rfl
 have HO := Lib.hid hO
 clear hO
 go_wp2_with (first | (with_reducible refine Own.stay (fn := Tryd.f20) ?_) | fail)
 try with_reducible refine Own.Stay.mk ?_
 have hO := HO.out
 clear HO aA aB aC aD
 obtain ⟨HL, HX⟩ := hid2 hO
 have hP9 := hO.pick [0, 1] dc
 have h9_hn : nosy.length = 0 := rfl
 have h9_hnb : 0 ≤ 2000000 := (by omega)
 have T9 := newSymD nd4 (newPar nd5 B1_2 B1_1 nd6 nd8) nd5 0 nosy 0 0 nm _ _ _ hP9 (newPar_66 _ _ _ _ _) (newPar_32 _ _ _ _ _) (newPar_106 _ _ _ _ _) h9_hn h9_hnb hg0 hg1
 refine Calls.mono T9 ?_
 clear hP9 T9 h9_hn h9_hnb
 rintro e uw9 ⟨nd10, nd11, rfl, hQ⟩
 replace hO : Own w0 uw9 [row (nd4) 252 ((newPar nd5 B1_2 B1_1 nd6 nd8).setIfInBounds 106 (vS nd10 (0 + 1) (0 + 1 + nd11))), row (nd10) 260 (full symZ (symL (nosy ++ [syk nm 27])) nd11), row (nd6) 107 #[vN, vN, vN, vN, .map (some nd7), .map none, .map none, vN, bF, bF, bF], ((nd7, .map (uA ([])) (uN ([]))) : Rw), ((nd8, .map #[] 0) : Rw), row (B1_2) 99 #[vO, vP B1_1, vN, .map none, vN, vN, vI 0, vI 0, vU 0, vU 0, bF, bF, bF, bF, v8 0, v8 8], row (B1_1) 99 #[vO, vO, vN, .map none, vN, vN, vI 0, vI 0, vU 0, vU 0, bF, bF, bF, bF, v8 0, v8 6], row (B1) 31 #[vU 0, vU 0]] X := hQ.back HL.out HX.out [2, 3, 4, 5, 6, 7] dc dc
 clear hQ HL HX
 obtain ⟨aA, aB, aC, aD, -⟩ := hO.k2 7 rfl
 have HO := Lib.hid hO
 clear hO
 go_wp2_with (first | (with_reducible refine Own.stay (fn := Tryd.f20) ?_) | fail)
 try with_reducible refine Own.Stay.mk ?_
 have hO := HO.out
 clear HO aA aB aC aD
 generalize hW : World.alloc _ _ = W13
 have hN : Own w0 W13 [row (uw9.heap.size) 31 #[vU 0, vU 0], row (nd4) 252 ((newPar nd5 B1_2 B1_1 nd6 nd8).setIfInBounds 106 (vS nd10 (0 + 1) (0 + 1 + nd11))), row (nd10) 260 (full symZ (symL (nosy ++ [syk nm 27])) nd11), row (nd6) 107 #[vN, vN, vN, vN, .map (some nd7), .map none, .map none, vN, bF, bF, bF], ((nd7, .map (uA ([])) (uN ([]))) : Rw), ((nd8, .map #[] 0) : Rw), row (B1_2) 99 #[vO, vP B1_1, vN, .map none, vN, vN, vI 0, vI 0, vU 0, vU 0, bF, bF, bF, bF, v8 0, v8 8], row (B1_1) 99 #[vO, vO, vN, .map none, vN, vN, vI 0, vI 0, vU 0, vU 0, bF, bF, bF, bF, v8 0, v8 6], row (B1) 31 #[vU 0, vU 0]] X := by
  rw [← hW]
  exact (hO).alloc' _ (uw9.heap.size) (by simp)
 clear hW hO
 generalize uw9.heap.size = B12 at hN ⊢
 have hO := hN
 clear hN
 obtain ⟨HL, HX⟩ := hid2 hO
 have hP9 := hO.pick [] dc
 have T9 := identB 3 0 0 _ _ _ hP9 
 refine Calls.mono T9 ?_
 clear hP9 T9
 rintro e uw14 ⟨nd15, rfl, hQ⟩
 replace hO : Own w0 uw14 [row (nd15) 136 #[vU 0, vU 0], row (B12) 31 #[vU 0, vU 0], row (nd4) 252 ((newPar nd5 B1_2 B1_1 nd6 nd8).setIfInBounds 106 (vS nd10 (0 + 1) (0 + 1 + nd11))), row (nd10) 260 (full symZ (symL (nosy ++ [syk nm 27])) nd11), row (nd6) 107 #[vN, vN, vN, vN, .map (some nd7), .map none, .map none, vN, bF, bF, bF], ((nd7, .map (uA ([])) (uN ([]))) : Rw), ((nd8, .map #[] 0) : Rw), row (B1_2) 99 #[vO, vP B1_1, vN, .map none, vN, vN, vI 0, vI 0, vU 0, vU 0, bF, bF, bF, bF, v8 0, v8 8], row (B1_1) 99 #[vO, vO, vN, .map none, vN, vN, vI 0, vI 0, vU 0, vU 0, bF, bF, bF, bF, v8 0, v8 6], row (B1) 31 #[vU 0, vU 0]] X := hQ.back HL.out HX.out [0, 1, 2, 3, 4, 5, 6, 7, 8] dc dc
 clear hQ HL HX
 obtain ⟨aE, aF, aG, aH, -⟩ := hO.k2 0 rfl
 obtain ⟨aI, aJ, aK, aL, -⟩ := hO.k2 1 rfl
 obtain ⟨aM, aN, aO, aP, -⟩ := hO.k2 9 rfl
 have HO := Lib.hid hO
 clear hO
 go_wp2_with (first | (with_reducible refine Own.stay (fn := Tryd.f20) ?_) | fail)
 try with_reducible refine Own.Stay.mk ?_
 have hO := HO.out
 clear HO aE aF aG aH aI aJ aK aL aM aN aO aP
 generalize hW : World.alloc _ _ = W17
 have hN : Own w0 W17 [row (uw14.heap.size + 1) 57 #[vS uw14.heap.size 1 1, v8 3, bF, bF], row (uw14.heap.size) 54 #[vF 134 nd15, vI 3, .nilIface, vI 0], row (nd15) 136 #[vU 0, vU 0], row (B12) 31 #[vU 0, vU 0], row (nd4) 252 ((newPar nd5 B1_2 B1_1 nd6 nd8).setIfInBounds 106 (vS nd10 (0 + 1) (0 + 1 + nd11))), row (nd10) 260 (full symZ (symL (nosy ++ [syk nm 27])) nd11), row (nd6) 107 #[vN, vN, vN, vN, .map (some nd7), .map none, .map none, vN, bF, bF, bF], ((nd7, .map (uA ([])) (uN ([]))) : Rw), ((nd8, .map #[] 0) : Rw), row (B1_2) 99 #[vO, vP B1_1, vN, .map none, vN, vN, vI 0, vI 0, vU 0, vU 0, bF, bF, bF, bF, v8 0, v8 8], row (B1_1) 99 #[vO, vO, vN, .map none, vN, vN, vI 0, vI 0, vU 0, vU 0, bF, bF, bF, bF, v8 0, v8 6], row (B1) 31 #[vU 0, vU 0]] X := by
  rw [← hW]
  exact ((hO).alloc' _ (uw14.heap.size) (by simp)).alloc' _ (uw14.heap.size + 1) (by simp)
 clear hW hO
 generalize uw14.heap.size + 1 = B16_1 at hN ⊢
 generalize uw14.heap.size = B16 at hN ⊢
 have hO := hN
 clear hN
 obtain ⟨HL, HX⟩ := hid2 hO
 have hP9 := hO.pick [3, 11] dc
 generalize hX9_18 : Own.Rest _ _ X = X9_18 at hP9
 replace hP9 : Own w0 W17 [row (B12) 31 #[vU 0, vU 0], row (B1) 31 #[vU 0, vU 0]] X9_18 := hP9
 clear hO
 have hO := hP9
 clear hP9
 have st9 := rsetU0a4_st B1_2 B1 nd4 B12 B16_1
 let R9 := rsetU0a4R B1_2 B1 nd4 B12 B16_1
 refine wp_region_own (e := rsetU0a4E B1_2 B1 nd4 B12 B16_1) (anc := rsetU0a4Anc) (G := (fun L9 α u9 => OwnF w0 u9 (act rsetU0a4Cnt 2 L9) (rsetU0a4R B1_2 B1 nd4 B12 B16_1 L9 α) X9_18)) (by kernel_rfl) (by kernel_rfl) (by kernel_rfl) (by kernel_rfl) (rsetU0a4_he B1_2 B1 nd4 B12 B16_1) ?_ (RunsAll.all ?_) ?_
 ·have hp : ∀ i, act rsetU0a4Cnt 2 (fun _ => false) i → i ∈ [999, 1999] := by
   intro i hi
   have h9 : i % 1000 = 999 := by
    by_cases h : i % 1000 = 999
    ·exact h
    ·exact absurd (act_lt hi h) (by simp)
   unfold act at hi
   rw [if_pos h9] at hi
   simp only [List.mem_cons, List.not_mem_nil, or_false]
   omega
  refine hO.drew.family (fun i hi => ?_) (fun i j hi hj hij => ?_)
  ·have := hp i hi
   simp only [List.mem_cons, List.not_mem_nil, or_false] at this
   rcases this with rfl | rfl <;> rfl
  ·have h1 := hp i hi
   have h2 := hp j hj
   simp only [List.mem_cons, List.not_mem_nil, or_false] at h1 h2
   omega
 ·refine ⟨?_, ?_, ?_, ?_, ?_, ?_, ?_, ?_, trivial⟩
  ·refine pur st9 rfl rfl fun L9 α a9 u9 K9 hL hcl hA hG hS h0 h1 hK => ?_
   have s10 := eS (vP nd4) ((h0 10 (by kernel_rfl)).trans rfl)
   go_simp
   exact hK
  ·refine pur st9 rfl rfl fun L9 α a9 u9 K9 hL hcl hA hG hS h0 h1 hK => ?_
   have s9 := eS (vP B1_2) ((h0 9 (by kernel_rfl)).trans rfl)
   go_simp
   exact hK
  ·refine pur st9 rfl rfl fun L9 α a9 u9 K9 hL hcl hA hG hS h0 h1 hK => ?_
   have s11 := eS (vP B12) ((h0 11 (by kernel_rfl)).trans rfl)
   have e0 : R9 L9 α 999 = row (B12) 31 #[vU 0, vU 0] := rfl
   have hr := hG.rowAt 999 (act_base 999 rfl) e0
   have c0 : u9.cell? ⟨B12, 0, none⟩ = some (vU 0) := hr.cell rfl
   have c1 : u9.cell? ⟨B12, 1, none⟩ = some (vU 0) := hr.cell rfl
   clear hr e0
   go_simp
   exact hK
  ·refine pur st9 rfl rfl fun L9 α a9 u9 K9 hL hcl hA hG hS h0 h1 hK => ?_
   have s13 := eS (vP B16_1) ((h0 13 (by kernel_rfl)).trans rfl)
   go_simp
   exact hK
  ·refine pur st9 rfl rfl fun L9 α a9 u9 K9 hL hcl hA hG hS h0 h1 hK => ?_
   have s33 := eS (vP nd4) (hS 0 33 dc rfl (ltd 37 rfl))
   go_simp
   exact hK
  ·refine pur st9 rfl rfl fun L9 α a9 u9 K9 hL hcl hA hG hS h0 h1 hK => ?_
   have s34 := eS (vP B1_2) (hS 1 34 dc rfl (ltd 37 rfl))
   go_simp
   exact hK
  ·intro L9 α a9 u9 K9 hL hcl hA hG hS h0 h1 hK
   replace hL : L9 6 = false := hL
   have q6 : a9.tmps[6]? = some (vP B1) := (h0 6 (by kernel_rfl)).trans rfl
   have s6 := Rega.eval_of q6
   have q35 : a9.tmps[35]? = some (.agg #[vU 0, vU 0]) := hS 2 35 dc rfl (ltd 37 rfl)
   have s35 := Rega.eval_of q35
   have e0 : R9 L9 α 1999 = row (B1) 31 #[vU 0, vU 0] := by
    show rsetU0a4T1999 B1_2 B1 nd4 B12 B16_1 L9 α = _
    unfold rsetU0a4T1999
    rw [if_neg (by rw [hL]; decide)]
   have hr := hG.rowAt 1999 (act_base 1999 rfl) e0
   have c0 : u9.cell? ⟨B1, 0, none⟩ = some (vU 0) := hr.cell rfl
   have y0 : u9.frozen? ⟨B1, 0, none⟩ = false := hr.free (0)
   have c1 : u9.cell? ⟨B1, 1, none⟩ = some (vU 0) := hr.cell rfl
   have y1 : u9.frozen? ⟨B1, 1, none⟩ = false := hr.free (1)
   clear hr
   have E0 := Lib.hid e0
   clear e0
   go_simp
   have e1 : R9 (Rega.ran L9 6) α 1999 = row (B1) 31 #[vU 0, vU 0] := by
    show rsetU0a4T1999 B1_2 B1 nd4 B12 B16_1 (Rega.ran L9 6) α = _
    unfold rsetU0a4T1999
    rw [if_pos (show Rega.ran L9 6 6 = true from rfl)]
   exact hK _ α _ (fun _ _ => rfl) rfl (step_sets (st9) hL hcl rfl 1999 rfl (act_base 1999 rfl) E0.out (0) [vU 0, vU 0] (e1.trans rfl) hG)
  ·refine pur st9 rfl rfl fun L9 α a9 u9 K9 hL hcl hA hG hS h0 h1 hK => ?_
   have s36 := eS (vP B16_1) (hS 3 36 dc rfl (ltd 37 rfl))
   go_simp
   exact hK
 clear st9
 intro α u hG
 have e0 : R9 (fun k => decide (k < 8)) α 999 = row (B12) 31 #[vU 0, vU 0] := rfl
 have e1 : R9 (fun k => decide (k < 8)) α 1999 = row (B1) 31 #[vU 0, vU 0] := by
  show rsetU0a4T1999 B1_2 B1 nd4 B12 B16_1 (fun k => decide (k < 8)) α = _
  unfold rsetU0a4T1999
  rw [if_pos dc]
 have hO : Own w0 u [row (B12) 31 #[vU 0, vU 0], row (B1) 31 #[vU 0, vU 0]] X9_18 := (hG.list [999, 1999] dc (act_all dc)).conv (by
  show [R9 (fun k => decide (k < 8)) α 999, R9 (fun k => decide (k < 8)) α 1999] = _
  rw [e0, e1])
 clear hG e0 e1 R9
 generalize hfr : Rega.frameAt _ _ _ _ _ = fr
 have hdf : fr = ⟨#[.string nm, bF, undef, undef, vP nd4, vP B1_2, vP B1, vP B16_1, vP B1_1, vP B1_2, vP nd4, vP B12, v8 3, vP B16_1, .agg #[vO, vO, vN, .map none, vN, vN, vI 0, vI 0, vU 0, vU 0, bF, bF, bF, bF, v8 0, v8 6], vP B1_1, vP B1_1, .agg #[vO, vP B1_1, vN, .map none, vN, vN, vI 0, vI 0, vU 0, vU 0, bF, bF, bF, bF, v8 0, v8 8], vP B1_2, vP B1_2, vP B1_1, vP nd4, vP nd4, .string nm, .agg #[vU 0, vU 0], bF, v8 3, .agg #[vU 0, vU 0], .agg #[vF 134 nd15, vI 3], .agg #[vF 134 nd15, vI 3, .nilIface, vI 0], vS B16 1 1, .agg #[vS B16 1 1, v8 3, bF, bF], vP B16_1, vP nd4, vP B1_2, .agg #[vU 0, vU 0], vP B16_1], []⟩ := by rw [← hfr]; kernel_rfl
 clear hfr
 subst hdf
 clear α
 subst hX9_18
 replace hO : Own w0 u [row (B12) 31 #[vU 0, vU 0], row (B1) 31 #[vU 0, vU 0], row (B16_1) 57 #[vS B16 1 1, v8 3, bF, bF], row (B16) 54 #[vF 134 nd15, vI 3, .nilIface, vI 0], row (nd15) 136 #[vU 0, vU 0], row (nd4) 252 ((newPar nd5 B1_2 B1_1 nd6 nd8).setIfInBounds 106 (vS nd10 (0 + 1) (0 + 1 + nd11))), row (nd10) 260 (full symZ (symL (nosy ++ [syk nm 27])) nd11), row (nd6) 107 #[vN, vN, vN, vN, .map (some nd7), .map none, .map none, vN, bF, bF, bF], ((nd7, .map (uA ([])) (uN ([]))) : Rw), ((nd8, .map #[] 0) : Rw), row (B1_2) 99 #[vO, vP B1_1, vN, .map none, vN, vN, vI 0, vI 0, vU 0, vU 0, bF, bF, bF, bF, v8 0, v8 8], row (B1_1) 99 #[vO, vO, vN, .map none, vN, vN, vI 0, vI 0, vU 0, vU 0, bF, bF, bF, bF, v8 0, v8 6]] X := hO.back HL.out HX.out [0, 1, 2, 4, 5, 6, 7, 8, 9, 10] dc dc
 clear HL HX
 obtain ⟨aE, aF, aG, aH, -⟩ := hO.k2 0 rfl
 obtain ⟨aI, aJ, aK, aL, -⟩ := hO.k2 1 rfl
 obtain ⟨aQ, aR, aS, aT, aU, aV, -⟩ := hO.k4 2 rfl
 obtain ⟨aW, aX, aY, aZ, aa, ab, -⟩ := hO.k4 3 rfl
 obtain ⟨ac, ad, ae, af, -⟩ := hO.k2 4 rfl
 have HO := Lib.hid hO
 clear hO
 go_wp2_with (first | (with_reducible refine Own.stay (fn := Tryd.f20) ?_) | fail)
 try with_reducible refine Own.Stay.mk ?_
 have hO := HO.out
 clear HO aE aF aG aH aI aJ aK aL aQ aR aS aT aU aV aW aX aY aZ aa ab ac ad ae af
 have z9_1_0 : u.cell? ⟨B1, 0, none⟩ = some (vU 0) := hO.cell 1 rfl 0 rfl
 have z9_1_1 : u.cell? ⟨B1, 1, none⟩ = some (vU 0) := hO.cell 1 rfl 1 rfl
 refine bodyPost_ret (v := .tuple #[vP nd4, vP B1_2, .agg #[vU 0, vU 0], vP B16_1]) ?_ rfl ⟨nd4, nd5, nd10, nd11, nd6, nd7, nd8, B1_2, B1_1, B16_1, B16, nd15, rfl, hO.sub [5, 6, 7, 8, 9, 10, 11, 2, 3, 4] dc⟩
 simp [results, Tryd.results20, go_sem, z9_1_0, z9_1_1]
noncomputable def rsetU1a4E (B1_2 : Nat) (B1 : Nat) (nd4 : Nat) (B12 : Nat) (B16_1 : Nat) : Nat → Rega.Atoms → Value
 | 0, α => vP nd4
 | 1, α => vP B1_2
 | 2, α => .agg #[vU 0, vU 0]
 | 3, α => vP B16_1
 | 4, α => vP nd4
 | 5, α => vP B1_2
 | 6, α => undef
 | 7, α => vP B16_1
 | _, _ => undef
noncomputable def rsetU1a4Anc : Nat → List Nat
 | 4 => [0]
 | 5 => [0, 1, 4]
 | 6 => [0, 1, 2, 4, 5]
 | 7 => [0, 1, 2, 3, 4, 5, 6]
 | _ => []
noncomputable def rsetU1a4Trn : Nat → List Nat
 | 6 => [1999]
 | _ => []
noncomputable def rsetU1a4Cnt : List (Nat × Nat) := []
noncomputable def rsetU1a4T1999 (B1_2 : Nat) (B1 : Nat) (nd4 : Nat) (B12 : Nat) (B16_1 : Nat) (L9 : Nat → Bool) (α : Rega.Atoms) : Rw := if L9 6 = true then row (B1) 31 #[vU 0, vU 0] else row (B1) 31 #[vU 0, vU 0]
noncomputable def rsetU1a4R (B1_2 : Nat) (B1 : Nat) (nd4 : Nat) (B12 : Nat) (B16_1 : Nat) (L9 : Nat → Bool) (α : Rega.Atoms) (ix9 : Nat) : Rw := if ix9 = 999 then row (B12) 31 #[vU 0, vU 0] else if ix9 = 1999 then rsetU1a4T1999 B1_2 B1 nd4 B12 B16_1 L9 α else (0, .map #[] 0)
theorem rsetU1a4_he (B1_2 : Nat) (B1 : Nat) (nd4 : Nat) (B12 : Nat) (B16_1 : Nat) : ∀ kk α α', (∀ j, (j % 1000 = kk ∨ j % 1000 ∈ rsetU1a4Anc kk) → α j = α' j) → rsetU1a4E B1_2 B1 nd4 B12 B16_1 kk α = rsetU1a4E B1_2 B1 nd4 B12 B16_1 kk α' := by
 intro kk α α' h
 match kk with
 | 0 => rfl
 | 1 => rfl
 | 2 => rfl
 | 3 => rfl
 | 4 => rfl
 | 5 => rfl
 | 6 => rfl
 | 7 => rfl
 | n + 8 => rfl
theorem rsetU1a4_st (B1_2 : Nat) (B1 : Nat) (nd4 : Nat) (B12 : Nat) (B16_1 : Nat) : Stable rsetU1a4Cnt 2 rsetU1a4Anc rsetU1a4Trn (rsetU1a4R B1_2 B1 nd4 B12 B16_1) := by
 intro k9 L9 α α' ix9 hk hcl hα hact ht
 have hp := act_places hact
 replace hp : ix9 ∈ [999, 1999] := hp
 simp only [List.mem_cons, List.not_mem_nil, or_false] at hp
 rcases hp with rfl | rfl
 ·rfl
 ·show rsetU1a4T1999 B1_2 B1 nd4 B12 B16_1 (Rega.ran L9 k9) α' = rsetU1a4T1999 B1_2 B1 nd4 B12 B16_1 L9 α
  unfold rsetU1a4T1999
  have n6 : 6 ≠ k9 := fun e => ht (by rw [← e]; decide)
  rw [ran_ne n6]
def setU1Post (nm : ByteArray) (w0 : World) (X : Nat → Obj → Prop) (e : Ending) (w' : World) : Prop :=
 ∃ pb : Nat, ∃ sb0 : Nat, ∃ sb : Nat, ∃ c : Nat, ∃ pt : Nat, ∃ mu : Nat, ∃ mp : Nat, ∃ cs : Nat, ∃ ms : Nat, ∃ ini : Nat, ∃ dbx : Nat, ∃ ib : Nat, e = .returned (.tuple #[vP pb, vP cs, .agg #[vU 0, vU 0], vP ini]) ∧ Own w0 w' [row (pb) 252 ((newPar sb0 cs ms pt mp).setIfInBounds 106 (vS sb 1 (1 + c))), row (sb) 260 (full symZ (symL ([sy nm 0])) c), row (pt) 107 #[vN, vN, vN, vN, .map (some mu), .map none, .map none, vN, bF, bF, bF], ((mu, .map (uA ([])) (uN ([]))) : Rw), ((mp, .map #[] 0) : Rw), row (cs) 99 #[vO, vP ms, vN, .map none, vN, vN, vI 0, vI 0, vU 0, vU 0, bF, bF, bF, bF, v8 0, v8 8], row (ms) 99 #[vO, vO, vN, .map none, vN, vN, vI 0, vI 0, vU 0, vU 0, bF, bF, bF, bF, v8 0, v8 6], row (ini) 57 #[vS dbx 1 1, v8 4, bF, bF], row (dbx) 54 #[vF 134 ib, vI 3, .nilIface, vI 0], row (ib) 136 #[vU 0, vU 0]] X
set_option maxRecDepth 100000 in
set_option maxHeartbeats 1000000 in
theorem setU1 (nm : ByteArray) (w0 w : World) (X : Nat → Obj → Prop) (hO : Own w0 w [] X) (hg0 : w0.cell? ⟨0, 0, none⟩ = some (vU 4294967295)) (hg1 : w0.cell? ⟨0, 1, none⟩ = some (vU 4294967295)) :
  Calls Tryd.prog 20 #[.string nm, .bool true] w (setU1Post nm w0 X) := by
 go_enter Tryd.func20, Tryd.ntmps20
 go_wp2_with (first | (with_reducible refine Own.stay (fn := Tryd.f20) ?_) | fail)
 try with_reducible refine Own.Stay.mk ?_
 generalize hW : World.alloc _ _ = W2
 have hN : Own w0 W2 [row (w.heap.size + 1 + 1) 99 #[vO, .pointer (some ⟨w.heap.size + 1, 0, none⟩), vN, .map none, vN, vN, vI 0, vI 0, vU 0, vU 0, bF, bF, bF, bF, v8 0, v8 8], row (w.heap.size + 1) 99 #[vO, vO, vN, .map none, vN, vN, vI 0, vI 0, vU 0, vU 0, bF, bF, bF, bF, v8 0, v8 6], row (w.heap.size) 31 #[vU 0, vU 0]] X := by
  rw [← hW]
  exact (((hO).alloc' _ (w.heap.size) (by simp)).alloc' _ (w.heap.size + 1) (by simp)).alloc' _ (w.heap.size + 1 + 1) (by simp)
 clear hW hO
 generalize w.heap.size + 1 + 1 = B1_2 at hN ⊢
 generalize w.heap.size + 1 = B1_1 at hN ⊢
 generalize w.heap.size = B1 at hN ⊢
 have hO := hN
 clear hN
 obtain ⟨HL, HX⟩ := hid2 hO
 have hP9 := hO.pick [] dc
 have T9 := newP B1_2 B1_1 _ _ _ hP9 
 refine Calls.mono T9 ?_
 clear hP9 T9
 rintro e uw3 ⟨nd4, nd5, nd6, nd7, nd8, rfl, hQ⟩
 replace hO : Own w0 uw3 [row (nd4) 252 (newPar nd5 B1_2 B1_1 nd6 nd8), row (nd5) 260 (full symZ (symL nosy) 0), row (nd6) 107 #[vN, vN, vN, vN, .map (some nd7), .map none, .map none, vN, bF, bF, bF], ((nd7, .map (uA ([])) (uN ([]))) : Rw), ((nd8, .map #[] 0) : Rw), row (B1_2) 99 #[vO, vP B1_1, vN, .map none, vN, vN, vI 0, vI 0, vU 0, vU 0, bF, bF, bF, bF, v8 0, v8 8], row (B1_1) 99 #[vO, vO, vN, .map none, vN, vN, vI 0, vI 0, vU 0, vU 0, bF, bF, bF, bF, v8 0, v8 6], row (B1) 31 #[vU 0, vU 0]] X := hQ.back HL.out HX.out [0, 1, 2] dc dc
 clear hQ HL HX
 obtain ⟨aA, aB, aC, aD, -⟩ := hO.k2 7 rfl
 have HO := Lib.hid hO
 clear hO
 go_wp2_with (first | (with_reducible refine Own.stay (fn := Tryd.f20) ?_) | fail)
 try with_reducible refine Own.Stay.mk ?_
 have hO := HO.out
 clear HO aA aB aC aD
 obtain ⟨HL, HX⟩ := hid2 hO
 have hP9 := hO.pick [0, 1] dc
 have h9_hn : nosy.length = 0 := rfl
 have h9_hnb : 0 ≤ 2000000 := (by omega)
 have T9 := newSymD nd4 (newPar nd5 B1_2 B1_1 nd6 nd8) nd5 0 nosy 0 0 nm _ _ _ hP9 (newPar_66 _ _ _ _ _) (newPar_32 _ _ _ _ _) (newPar_106 _ _ _ _ _) h9_hn h9_hnb hg0 hg1
 refine Calls.mono T9 ?_
 clear hP9 T9 h9_hn h9_hnb
 rintro e uw9 ⟨nd10, nd11, rfl, hQ⟩
 replace hO : Own w0 uw9 [row (nd4) 252 ((newPar nd5 B1_2 B1_1 nd6 nd8).setIfInBounds 106 (vS nd10 (0 + 1) (0 + 1 + nd11))), row (nd10) 260 (full symZ (symL (nosy ++ [syk nm 27])) nd11), row (nd6) 107 #[vN, vN, vN, vN, .map (some nd7), .map none, .map none, vN, bF, bF, bF], ((nd7, .map (uA ([])) (uN ([]))) : Rw), ((nd8, .map #[] 0) : Rw), row (B1_2) 99 #[vO, vP B1_1, vN, .map none, vN, vN, vI 0, vI 0, vU 0, vU 0, bF, bF, bF, bF, v8 0, v8 8], row (B1_1) 99 #[vO, vO, vN, .map none, vN, vN, vI 0, vI 0, vU 0, vU 0, bF, bF, bF, bF, v8 0, v8 6], row (B1) 31 #[vU 0, vU 0]] X := hQ.back HL.out HX.out [2, 3, 4, 5, 6, 7] dc dc
 clear hQ HL HX
 obtain ⟨aA, aB, aC, aD, -⟩ := hO.k2 7 rfl
 have HO := Lib.hid hO
 clear hO
 go_wp2_with (first | (with_reducible refine Own.stay (fn := Tryd.f20) ?_) | fail)
 try with_reducible refine Own.Stay.mk ?_
 have hO := HO.out
 clear HO aA aB aC aD
 generalize hW : World.alloc _ _ = W13
 have hN : Own w0 W13 [row (uw9.heap.size) 31 #[vU 0, vU 0], row (nd4) 252 ((newPar nd5 B1_2 B1_1 nd6 nd8).setIfInBounds 106 (vS nd10 (0 + 1) (0 + 1 + nd11))), row (nd10) 260 (full symZ (symL (nosy ++ [syk nm 27])) nd11), row (nd6) 107 #[vN, vN, vN, vN, .map (some nd7), .map none, .map none, vN, bF, bF, bF], ((nd7, .map (uA ([])) (uN ([]))) : Rw), ((nd8, .map #[] 0) : Rw), row (B1_2) 99 #[vO, vP B1_1, vN, .map none, vN, vN, vI 0, vI 0, vU 0, vU 0, bF, bF, bF, bF, v8 0, v8 8], row (B1_1) 99 #[vO, vO, vN, .map none, vN, vN, vI 0, vI 0, vU 0, vU 0, bF, bF, bF, bF, v8 0, v8 6], row (B1) 31 #[vU 0, vU 0]] X := by
  rw [← hW]
  exact (hO).alloc' _ (uw9.heap.size) (by simp)
 clear hW hO
 generalize uw9.heap.size = B12 at hN ⊢
 have hO := hN
 clear hN
 obtain ⟨HL, HX⟩ := hid2 hO
 have hP9 := hO.pick [] dc
 have T9 := identB 3 0 0 _ _ _ hP9 
 refine Calls.mono T9 ?_
 clear hP9 T9
 rintro e uw14 ⟨nd15, rfl, hQ⟩
 replace hO : Own w0 uw14 [row (nd15) 136 #[vU 0, vU 0], row (B12) 31 #[vU 0, vU 0], row (nd4) 252 ((newPar nd5 B1_2 B1_1 nd6 nd8).setIfInBounds 106 (vS nd10 (0 + 1) (0 + 1 + nd11))), row (nd10) 260 (full symZ (symL (nosy ++ [syk nm 27])) nd11), row (nd6) 107 #[vN, vN, vN, vN, .map (some nd7), .map none, .map none, vN, bF, bF, bF], ((nd7, .map (uA ([])) (uN ([]))) : Rw), ((nd8, .map #[] 0) : Rw), row (B1_2) 99 #[vO, vP B1_1, vN, .map none, vN, vN, vI 0, vI 0, vU 0, vU 0, bF, bF, bF, bF, v8 0, v8 8], row (B1_1) 99 #[vO, vO, vN, .map none, vN, vN, vI 0, vI 0, vU 0, vU 0, bF, bF, bF, bF, v8 0, v8 6], row (B1) 31 #[vU 0, vU 0]] X := hQ.back HL.out HX.out [0, 1, 2, 3, 4, 5, 6, 7, 8] dc dc
 clear hQ HL HX
 obtain ⟨aE, aF, aG, aH, -⟩ := hO.k2 0 rfl
 obtain ⟨aI, aJ, aK, aL, -⟩ := hO.k2 1 rfl
 obtain ⟨aM, aN, aO, aP, -⟩ := hO.k2 9 rfl
 have HO := Lib.hid hO
 clear hO
 go_wp2_with (first | (with_reducible refine Own.stay (fn := Tryd.f20) ?_) | fail)
 try with_reducible refine Own.Stay.mk ?_
 have hO := HO.out
 clear HO aE aF aG aH aI aJ aK aL aM aN aO aP
 generalize hW : World.alloc _ _ = W17
 have hN : Own w0 W17 [row (uw14.heap.size + 1) 57 #[vS uw14.heap.size 1 1, v8 4, bF, bF], row (uw14.heap.size) 54 #[vF 134 nd15, vI 3, .nilIface, vI 0], row (nd15) 136 #[vU 0, vU 0], row (B12) 31 #[vU 0, vU 0], row (nd4) 252 ((newPar nd5 B1_2 B1_1 nd6 nd8).setIfInBounds 106 (vS nd10 (0 + 1) (0 + 1 + nd11))), row (nd10) 260 (full symZ (symL (nosy ++ [syk nm 27])) nd11), row (nd6) 107 #[vN, vN, vN, vN, .map (some nd7), .map none, .map none, vN, bF, bF, bF], ((nd7, .map (uA ([])) (uN ([]))) : Rw), ((nd8, .map #[] 0) : Rw), row (B1_2) 99 #[vO, vP B1_1, vN, .map none, vN, vN, vI 0, vI 0, vU 0, vU 0, bF, bF, bF, bF, v8 0, v8 8], row (B1_1) 99 #[vO, vO, vN, .map none, vN, vN, vI 0, vI 0, vU 0, vU 0, bF, bF, bF, bF, v8 0, v8 6], row (B1) 31 #[vU 0, vU 0]] X := by
  rw [← hW]
  exact ((hO).alloc' _ (uw14.heap.size) (by simp)).alloc' _ (uw14.heap.size + 1) (by simp)
 clear hW hO
 generalize uw14.heap.size + 1 = B16_1 at hN ⊢
 generalize uw14.heap.size = B16 at hN ⊢
 have hO := hN
 clear hN
 obtain ⟨HL, HX⟩ := hid2 hO
 have hP9 := hO.pick [3, 11] dc
 generalize hX9_18 : Own.Rest _ _ X = X9_18 at hP9
 replace hP9 : Own w0 W17 [row (B12) 31 #[vU 0, vU 0], row (B1) 31 #[vU 0, vU 0]] X9_18 := hP9
 clear hO
 have hO := hP9
 clear hP9
 have st9 := rsetU1a4_st B1_2 B1 nd4 B12 B16_1
 let R9 := rsetU1a4R B1_2 B1 nd4 B12 B16_1
 refine wp_region_own (e := rsetU1a4E B1_2 B1 nd4 B12 B16_1) (anc := rsetU1a4Anc) (G := (fun L9 α u9 => OwnF w0 u9 (act rsetU1a4Cnt 2 L9) (rsetU1a4R B1_2 B1 nd4 B12 B16_1 L9 α) X9_18)) (by kernel_rfl) (by kernel_rfl) (by kernel_rfl) (by kernel_rfl) (rsetU1a4_he B1_2 B1 nd4 B12 B16_1) ?_ (RunsAll.all ?_) ?_
 ·have hp : ∀ i, act rsetU1a4Cnt 2 (fun _ => false) i → i ∈ [999, 1999] := by
   intro i hi
   have h9 : i % 1000 = 999 := by
    by_cases h : i % 1000 = 999
    ·exact h
    ·exact absurd (act_lt hi h) (by simp)
   unfold act at hi
   rw [if_pos h9] at hi
   simp only [List.mem_cons, List.not_mem_nil, or_false]
   omega
  refine hO.drew.family (fun i hi => ?_) (fun i j hi hj hij => ?_)
  ·have := hp i hi
   simp only [List.mem_cons, List.not_mem_nil, or_false] at this
   rcases this with rfl | rfl <;> rfl
  ·have h1 := hp i hi
   have h2 := hp j hj
   simp only [List.mem_cons, List.not_mem_nil, or_false] at h1 h2
   omega
 ·refine ⟨?_, ?_, ?_, ?_, ?_, ?_, ?_, ?_, trivial⟩
  ·refine pur st9 rfl rfl fun L9 α a9 u9 K9 hL hcl hA hG hS h0 h1 hK => ?_
   have s10 := eS (vP nd4) ((h0 10 (by kernel_rfl)).trans rfl)
   go_simp
   exact hK
  ·refine pur st9 rfl rfl fun L9 α a9 u9 K9 hL hcl hA hG hS h0 h1 hK => ?_
   have s9 := eS (vP B1_2) ((h0 9 (by kernel_rfl)).trans rfl)
   go_simp
   exact hK
  ·refine pur st9 rfl rfl fun L9 α a9 u9 K9 hL hcl hA hG hS h0 h1 hK => ?_
   have s11 := eS (vP B12) ((h0 11 (by kernel_rfl)).trans rfl)
   have e0 : R9 L9 α 999 = row (B12) 31 #[vU 0, vU 0] := rfl
   have hr := hG.rowAt 999 (act_base 999 rfl) e0
   have c0 : u9.cell? ⟨B12, 0, none⟩ = some (vU 0) := hr.cell rfl
   have c1 : u9.cell? ⟨B12, 1, none⟩ = some (vU 0) := hr.cell rfl
   clear hr e0
   go_simp
   exact hK
  ·refine pur st9 rfl rfl fun L9 α a9 u9 K9 hL hcl hA hG hS h0 h1 hK => ?_
   have s13 := eS (vP B16_1) ((h0 13 (by kernel_rfl)).trans rfl)
   go_simp
   exact hK
  ·refine pur st9 rfl rfl fun L9 α a9 u9 K9 hL hcl hA hG hS h0 h1 hK => ?_
   have s33 := eS (vP nd4) (hS 0 33 dc rfl (ltd 37 rfl))
   go_simp
   exact hK
  ·refine pur st9 rfl rfl fun L9 α a9 u9 K9 hL hcl hA hG hS h0 h1 hK => ?_
   have s34 := eS (vP B1_2) (hS 1 34 dc rfl (ltd 37 rfl))
   go_simp
   exact hK
  ·intro L9 α a9 u9 K9 hL hcl hA hG hS h0 h1 hK
   replace hL : L9 6 = false := hL
   have q6 : a9.tmps[6]? = some (vP B1) := (h0 6 (by kernel_rfl)).trans rfl
   have s6 := Rega.eval_of q6
   have q35 : a9.tmps[35]? = some (.agg #[vU 0, vU 0]) := hS 2 35 dc rfl (ltd 37 rfl)
   have s35 := Rega.eval_of q35
   have e0 : R9 L9 α 1999 = row (B1) 31 #[vU 0, vU 0] := by
    show rsetU1a4T1999 B1_2 B1 nd4 B12 B16_1 L9 α = _
    unfold rsetU1a4T1999
    rw [if_neg (by rw [hL]; decide)]
   have hr := hG.rowAt 1999 (act_base 1999 rfl) e0
   have c0 : u9.cell? ⟨B1, 0, none⟩ = some (vU 0) := hr.cell rfl
   have y0 : u9.frozen? ⟨B1, 0, none⟩ = false := hr.free (0)
   have c1 : u9.cell? ⟨B1, 1, none⟩ = some (vU 0) := hr.cell rfl
   have y1 : u9.frozen? ⟨B1, 1, none⟩ = false := hr.free (1)
   clear hr
   have E0 := Lib.hid e0
   clear e0
   go_simp
   have e1 : R9 (Rega.ran L9 6) α 1999 = row (B1) 31 #[vU 0, vU 0] := by
    show rsetU1a4T1999 B1_2 B1 nd4 B12 B16_1 (Rega.ran L9 6) α = _
    unfold rsetU1a4T1999
    rw [if_pos (show Rega.ran L9 6 6 = true from rfl)]
   exact hK _ α _ (fun _ _ => rfl) rfl (step_sets (st9) hL hcl rfl 1999 rfl (act_base 1999 rfl) E0.out (0) [vU 0, vU 0] (e1.trans rfl) hG)
  ·refine pur st9 rfl rfl fun L9 α a9 u9 K9 hL hcl hA hG hS h0 h1 hK => ?_
   have s36 := eS (vP B16_1) (hS 3 36 dc rfl (ltd 37 rfl))
   go_simp
   exact hK
 clear st9
 intro α u hG
 have e0 : R9 (fun k => decide (k < 8)) α 999 = row (B12) 31 #[vU 0, vU 0] := rfl
 have e1 : R9 (fun k => decide (k < 8)) α 1999 = row (B1) 31 #[vU 0, vU 0] := by
  show rsetU1a4T1999 B1_2 B1 nd4 B12 B16_1 (fun k => decide (k < 8)) α = _
  unfold rsetU1a4T1999
  rw [if_pos dc]
 have hO : Own w0 u [row (B12) 31 #[vU 0, vU 0], row (B1) 31 #[vU 0, vU 0]] X9_18 := (hG.list [999, 1999] dc (act_all dc)).conv (by
  show [R9 (fun k => decide (k < 8)) α 999, R9 (fun k => decide (k < 8)) α 1999] = _
  rw [e0, e1])
 clear hG e0 e1 R9
 generalize hfr : Rega.frameAt _ _ _ _ _ = fr
 have hdf : fr = ⟨#[.string nm, .bool true, undef, undef, vP nd4, vP B1_2, vP B1, vP B16_1, vP B1_1, vP B1_2, vP nd4, vP B12, v8 4, vP B16_1, .agg #[vO, vO, vN, .map none, vN, vN, vI 0, vI 0, vU 0, vU 0, bF, bF, bF, bF, v8 0, v8 6], vP B1_1, vP B1_1, .agg #[vO, vP B1_1, vN, .map none, vN, vN, vI 0, vI 0, vU 0, vU 0, bF, bF, bF, bF, v8 0, v8 8], vP B1_2, vP B1_2, vP B1_1, vP nd4, vP nd4, .string nm, .agg #[vU 0, vU 0], .bool true, v8 4, .agg #[vU 0, vU 0], .agg #[vF 134 nd15, vI 3], .agg #[vF 134 nd15, vI 3, .nilIface, vI 0], vS B16 1 1, .agg #[vS B16 1 1, v8 4, bF, bF], vP B16_1, vP nd4, vP B1_2, .agg #[vU 0, vU 0], vP B16_1], []⟩ := by rw [← hfr]; kernel_rfl
 clear hfr
 subst hdf
 clear α
 subst hX9_18
 replace hO : Own w0 u [row (B12) 31 #[vU 0, vU 0], row (B1) 31 #[vU 0, vU 0], row (B16_1) 57 #[vS B16 1 1, v8 4, bF, bF], row (B16) 54 #[vF 134 nd15, vI 3, .nilIface, vI 0], row (nd15) 136 #[vU 0, vU 0], row (nd4) 252 ((newPar nd5 B1_2 B1_1 nd6 nd8).setIfInBounds 106 (vS nd10 (0 + 1) (0 + 1 + nd11))), row (nd10) 260 (full symZ (symL (nosy ++ [syk nm 27])) nd11), row (nd6) 107 #[vN, vN, vN, vN, .map (some nd7), .map none, .map none, vN, bF, bF, bF], ((nd7, .map (uA ([])) (uN ([]))) : Rw), ((nd8, .map #[] 0) : Rw), row (B1_2) 99 #[vO, vP B1_1, vN, .map none, vN, vN, vI 0, vI 0, vU 0, vU 0, bF, bF, bF, bF, v8 0, v8 8], row (B1_1) 99 #[vO, vO, vN, .map none, vN, vN, vI 0, vI 0, vU 0, vU 0, bF, bF, bF, bF, v8 0, v8 6]] X := hO.back HL.out HX.out [0, 1, 2, 4, 5, 6, 7, 8, 9, 10] dc dc
 clear HL HX
 obtain ⟨aE, aF, aG, aH, -⟩ := hO.k2 0 rfl
 obtain ⟨aI, aJ, aK, aL, -⟩ := hO.k2 1 rfl
 obtain ⟨aQ, aR, aS, aT, aU, aV, -⟩ := hO.k4 2 rfl
 obtain ⟨aW, aX, aY, aZ, aa, ab, -⟩ := hO.k4 3 rfl
 obtain ⟨ac, ad, ae, af, -⟩ := hO.k2 4 rfl
 have HO := Lib.hid hO
 clear hO
 go_wp2_with (first | (with_reducible refine Own.stay (fn := Tryd.f20) ?_) | fail)
 try with_reducible refine Own.Stay.mk ?_
 have hO := HO.out
 clear HO aE aF aG aH aI aJ aK aL aQ aR aS aT aU aV aW aX aY aZ aa ab ac ad ae af
 have z9_1_0 : u.cell? ⟨B1, 0, none⟩ = some (vU 0) := hO.cell 1 rfl 0 rfl
 have z9_1_1 : u.cell? ⟨B1, 1, none⟩ = some (vU 0) := hO.cell 1 rfl 1 rfl
 refine bodyPost_ret (v := .tuple #[vP nd4, vP B1_2, .agg #[vU 0, vU 0], vP B16_1]) ?_ rfl ⟨nd4, nd5, nd10, nd11, nd6, nd7, nd8, B1_2, B1_1, B16_1, B16, nd15, rfl, hO.sub [5, 6, 7, 8, 9, 10, 11, 2, 3, 4] dc⟩
 simp [results, Tryd.results20, go_sem, z9_1_0, z9_1_1]
end Go.Proofs.YtikopplofkemlaaDoor.Use
namespace Go.Proofs.YtikopplofkemlaaDoor.Use
open Go.ChangeShapes Go.WideShapes Go.ChangeAt Go.RowKit Go.Sort Own
set_option linter.unusedVariables false
def bod0Post (sh : Int) (n : Nat) (w0 : World) (X : Nat → Obj → Prop) (e : Ending) (w' : World) : Prop :=
 ∃ kb : Nat, ∃ tb : Nat, ∃ wb : Nat, ∃ ad : Nat → Nat, e = .returned (.tuple #[.agg #[vF 110 kb, vI 50], vS wb n n]) ∧ Own w0 w' [row (kb) 72 #[vS tb n n, vI 0], row (tb) 61 (full stmZ (stL (dtL ad lcB) (List.range n)) 0), row (wb) 21 (full i32Z (tab wF n) 0)] (LcX X (dtL ad lcB) n)
set_option maxRecDepth 100000 in
set_option maxHeartbeats 4000000 in
theorem bod0 (sh : Int) (n : Nat) (w0 w : World) (X : Nat → Obj → Prop) (hO : Own w0 w [] X) (hsh : sh.tmod 3 = 0) (hn4 : n ≤ 4096) :
  Calls Tryd.prog 21 #[v8 sh, v6 (n : Int)] w (bod0Post sh n w0 X) := by
 go_enter Tryd.func21, Tryd.ntmps21
 have hn9 : (n : Int) ≤ 4096 := by omega
 have hn8 : (0 : Int) ≤ (n : Int) := by omega
 have hms := makeStms n (by omega)
 have hmw := makeI32s n (by omega)
 go_wp2_with (first | (with_reducible refine Own.stay (fn := Tryd.f21) ?_) | (at_builtin; refine Own.appStop ?_) | fail)
 try with_reducible refine Own.Stay.mk ?_
 generalize hW : World.alloc _ _ = W2
 have hN : Own w0 W2 [row (w.heap.size + 1 + 1) 21 (full i32Z [] n), row (w.heap.size + 1) 61 (full stmZ [] n), row (w.heap.size) 61 #[.nilIface, vI 0]] X := by
  rw [← hW]
  exact (((hO).alloc' _ (w.heap.size) (by simp)).alloc' _ (w.heap.size + 1) (by simp)).alloc' _ (w.heap.size + 1 + 1) (by simp)
 clear hW hO
 generalize w.heap.size + 1 + 1 = B1_2 at hN ⊢
 generalize w.heap.size + 1 = B1_1 at hN ⊢
 generalize w.heap.size = B1 at hN ⊢
 have hO := hN
 clear hN
 replace hO : Own w0 W2 [row (B1_1) 61 (stR (dtL (fun _ => 0) lcB) 0 n), row (B1_2) 21 (wR 0 n), row (B1) 61 #[.nilIface, vI 0]] X := (hO.sub [1, 0, 2] dc).conv rfl
 go_loopg [8] n (fun gf s8 wx => ∃ (i : Nat) (ad : Nat → Nat), i + gf = n ∧ s8 = v6 (i : Int) ∧ Own w0 wx [row (B1_1) 61 (stR (dtL ad lcB) i gf), row (B1_2) 21 (wR i gf), row (B1) 61 #[.nilIface, vI 0]] (LcX X (dtL ad lcB) i))
 case atStart => exact ⟨0, fun _ => 0, by omega, rfl, (hO.weaken (Y := LcX X _ 0) (fun b o h => h.zero))⟩
 obtain ⟨i, ad, hin, rfl, hO⟩ := hrel
 by_cases hlt : i < n
 ·skip
  obtain ⟨gq, rfl⟩ : ∃ gq, gk = gq + 1 := ⟨gk - 1, by omega⟩
  have hlt9 : (i : Int) < (n : Int) := by omega
  have hi8 : (0 : Int) ≤ (i : Int) := by omega
  have hi7 : (i : Int) ≤ 4096 := by omega
  have hw64 : IntKind.i64.wrap (100 + (i : Int)) = 100 + (i : Int) := by rw [IntKind.wrap_i64]; omega
  have hw32 : IntKind.i32.wrap (100 + (i : Int)) = 100 + (i : Int) := by rw [IntKind.wrap_i32]; omega
  generalize hY : LcX X (dtL ad lcB) i = Yf at hO
  have HY := Lib.hid hY
  clear hY
  obtain ⟨aI, aJ, aC, aD, -⟩ := hO.k2 2 rfl
  have HO := Lib.hid hO
  clear hO
  go_wp2_with (first | (with_reducible refine Own.stay (fn := Tryd.f21) ?_) | (at_builtin; refine Own.appStop ?_) | fail)
  try with_reducible refine Own.Stay.mk ?_
  have hO := HO.out
  clear HO aI aJ aC aD
  generalize hW : World.alloc _ _ = W4
  have hN : Own w0 W4 [row (wr.heap.size) 57 #[vN, v8 0, bF, bF], row (B1_1) 61 (stR (dtL ad lcB) i (gq + 1)), row (B1_2) 21 (wR i (gq + 1)), row (B1) 61 #[.nilIface, vI 0]] Yf := by
   rw [← hW]
   exact (hO).alloc' _ (wr.heap.size) (by simp)
  clear hW hO
  generalize wr.heap.size = B3 at hN ⊢
  have hO := hN
  clear hN
  obtain ⟨HL, HX⟩ := hid2 hO
  have hP9 := hO.pick [] dc
  have T9 := localStmt B3 (100 + (i : Int)) _ _ _ hP9 
  refine Calls.mono T9 ?_
  clear hP9 T9
  rintro e uw5 ⟨rfl, hQ⟩
  replace hO : Own w0 uw5 [row (B3) 57 #[vN, v8 0, bF, bF], row (B1_1) 61 (stR (dtL ad lcB) i (gq + 1)), row (B1_2) 21 (wR i (gq + 1)), row (B1) 61 #[.nilIface, vI 0]] Yf := hQ.back HL.out HX.out [0, 1, 2, 3] dc dc
  clear hQ HL HX
  obtain ⟨ix9, hix9, hax9, hjx9⟩ := hO.ix
  have aS := hjx9 0 _ _ rfl
  have aT := hjx9 1 _ _ rfl
  have aU := hjx9 2 _ _ rfl
  have aV := hjx9 3 _ _ rfl
  clear hjx9
  obtain ⟨aE, aF, aK, aL, aA, aB, -⟩ := hO.k4 0 rfl
  have aW : Base.plainAt uw5 (B1_1) = true := hO.plain 1 rfl
  have aX : uw5.cell? ⟨B1_1, i * 2, none⟩ = some (.nilIface) := hO.cell 1 rfl (i * 2) ((stR_at0 (dtL ad lcB) i gq))
  have aY : uw5.cell? ⟨B1_1, i * 2 + 1, none⟩ = some (vI 0) := hO.cell 1 rfl (i * 2 + 1) ((stR_at1 (dtL ad lcB) i gq))
  have aG := hO.lt 1 rfl
  have aH := hO.free 1 rfl
  have aZ : uw5.cell? ⟨B1_2, i, none⟩ = some (vI 0) := hO.cell 2 rfl (i) ((wF_at0 i gq))
  have aC := hO.lt 2 rfl
  have aD := hO.free 2 rfl
  obtain ⟨aM, aN, aO, aP, aa⟩ := hO.k2 3 rfl
  have HO := Lib.hid hO
  clear hO
  go_wp2_with (first | (with_reducible refine Own.stay (fn := Tryd.f21) ?_) | (at_builtin; refine Own.appStop ?_) | fail)
  try with_reducible refine Own.Stay.mk ?_
  have hO := HO.out
  clear HO hix9 hax9 aS aT aU aV ix9 aE aF aK aL aA aB aW aX aY aG aH aZ aC aD aM aN aO aP aa
  generalize hW : World.setCell _ _ _ = W7
  have hN : Own w0 W7 [row (B3) 57 #[vN, v8 0, bF, bF], row (B1_1) 61 (((stR (dtL ad lcB) i (gq + 1)).setIfInBounds (i * 2) (vF 42 B3)).setIfInBounds (i * 2 + 1) (vI (100 + (i : Int)))), row (B1_2) 21 ((wR i (gq + 1)).setIfInBounds i (vI (100 + (i : Int)))), row (B1) 61 #[.nilIface, vI 0]] Yf := by
   rw [← hW]
   exact (((hO).set 1 rfl (i * 2) _).set 1 rfl (i * 2 + 1) _).set 2 rfl i _
  clear hW hO
  have hO := hN
  clear hN
  rw [← HY.out] at hO
  have hN := Own.give (b := B3) (o := .cells #[vN, v8 0, bF, bF] 57 (0, 0)) (Y := LcX X (updT (dtL ad lcB) i B3) (i + 1)) ((hO.sub [0, 1, 2, 3] dc).conv rfl) (LcX.next B3)
  have hM : Own w0 W7 [row (B1_1) 61 (stR (updT (dtL ad lcB) i B3) (i + 1) gq), row (B1_2) 21 (wR (i + 1) gq), row (B1) 61 #[.nilIface, vI 0]] (LcX X (updT (dtL ad lcB) i B3) (i + 1)) := hN.conv (by
   rw [← stR_next (dtL ad lcB) i gq B3 _ _ (by
    unfold stC
    rw [show (updT (dtL ad lcB) i B3).kd i = 3 from rfl, updT_ad, show (updT (dtL ad lcB) i B3).lc i = 100 + (i : Int) from rfl]), ← wF_next i gq]
   rfl)
  go_roundg gq
  case measure => omega
  case rel => exact ⟨i + 1, (updT (dtL ad lcB) i B3).ad, by omega, by first | rfl | simp, hM⟩
 obtain rfl : gk = 0 := by omega
 obtain rfl : n = i := by omega
 have hlt9 : ¬ (n : Int) < (n : Int) := by omega
 replace hO : Own w0 wr [row (B1_1) 61 (full stmZ (stL (dtL ad lcB) (List.range n)) 0), row (B1_2) 21 (full i32Z (tab wF n) 0), row (B1) 61 #[.nilIface, vI 0]] (LcX X (dtL ad lcB) n) := hO.conv (by rw [← tab_stL]; rfl)
 generalize hY : LcX X (dtL ad lcB) n = Yf at hO
 have HY := Lib.hid hY
 clear hY
 obtain ⟨aI, aJ, aC, aD, -⟩ := hO.k2 2 rfl
 have HO := Lib.hid hO
 clear hO
 go_wp2_with (first | (with_reducible refine Own.stay (fn := Tryd.f21) ?_) | (at_builtin; refine Own.appStop ?_) | fail)
 try with_reducible refine Own.Stay.mk ?_
 have hO := HO.out
 clear HO aI aJ aC aD
 obtain ⟨HL, HX⟩ := hid2 hO
 have hP9 := hO.pick [] dc
 have T9 := blockS 50 B1_1 n n _ _ _ hP9 
 refine Calls.mono T9 ?_
 clear hP9 T9
 rintro e uw8 ⟨nd9, rfl, hQ⟩
 replace hO : Own w0 uw8 [row (nd9) 72 #[vS B1_1 n n, vI 0], row (B1_1) 61 (full stmZ (stL (dtL ad lcB) (List.range n)) 0), row (B1_2) 21 (full i32Z (tab wF n) 0), row (B1) 61 #[.nilIface, vI 0]] Yf := hQ.back HL.out HX.out [0, 1, 2] dc dc
 clear hQ HL HX
 obtain ⟨aE, aF, aA, aB, -⟩ := hO.k2 0 rfl
 obtain ⟨aM, aN, aO, aP, -⟩ := hO.k2 3 rfl
 have HO := Lib.hid hO
 clear hO
 go_wp2_with (first | (with_reducible refine Own.stay (fn := Tryd.f21) ?_) | (at_builtin; refine Own.appStop ?_) | fail)
 try with_reducible refine Own.Stay.mk ?_
 have hO := HO.out
 clear HO aE aF aA aB aM aN aO aP
 generalize hW : World.setCell _ _ _ = W11
 have hN : Own w0 W11 [row (nd9) 72 #[vS B1_1 n n, vI 0], row (B1_1) 61 (full stmZ (stL (dtL ad lcB) (List.range n)) 0), row (B1_2) 21 (full i32Z (tab wF n) 0), row (B1) 61 #[vF 110 nd9, vI 50]] Yf := by
  rw [← hW]
  exact ((hO).set 3 rfl 0 _).set 3 rfl 1 _
 clear hW hO
 have hO := hN
 clear hN
 rw [← HY.out] at hO
 have z9_3_0 : W11.cell? ⟨B1, 0, none⟩ = some (vF 110 nd9) := hO.cell 3 rfl 0 rfl
 have z9_3_1 : W11.cell? ⟨B1, 1, none⟩ = some (vI 50) := hO.cell 3 rfl 1 rfl
 refine bodyPost_ret (v := .tuple #[.agg #[vF 110 nd9, vI 50], vS B1_2 n n]) ?_ rfl ⟨nd9, B1_1, B1_2, ad, rfl, hO.sub [0, 1, 2] dc⟩
 simp [results, Tryd.results21, go_sem, z9_3_0, z9_3_1]
def bod1Post (sh nb : Int) (w0 : World) (X : Nat → Obj → Prop) (e : Ending) (w' : World) : Prop :=
 ∃ bn : Nat, ∃ wb : Nat, e = .returned (.tuple #[.agg #[vF 42 bn, vI 100], vS wb 1 1]) ∧ Own w0 w' [row (bn) 57 #[vN, v8 0, bF, bF], row (wb) 21 #[vI 100]] X
set_option maxRecDepth 100000 in
set_option maxHeartbeats 4000000 in
theorem bod1 (sh nb : Int) (w0 w : World) (X : Nat → Obj → Prop) (hO : Own w0 w [] X) (hsh : sh.tmod 3 = 1) :
  Calls Tryd.prog 21 #[v8 sh, v6 nb] w (bod1Post sh nb w0 X) := by
 go_enter Tryd.func21, Tryd.ntmps21
 go_wp2_with (first | (with_reducible refine Own.stay (fn := Tryd.f21) ?_) | (at_builtin; refine Own.appStop ?_) | fail)
 try with_reducible refine Own.Stay.mk ?_
 generalize hW : World.alloc _ _ = W2
 have hN : Own w0 W2 [row (w.heap.size + 1) 57 #[vN, v8 0, bF, bF], row (w.heap.size) 61 #[.nilIface, vI 0]] X := by
  rw [← hW]
  exact ((hO).alloc' _ (w.heap.size) (by simp)).alloc' _ (w.heap.size + 1) (by simp)
 clear hW hO
 generalize w.heap.size + 1 = B1_1 at hN ⊢
 generalize w.heap.size = B1 at hN ⊢
 have hO := hN
 clear hN
 obtain ⟨HL, HX⟩ := hid2 hO
 have hP9 := hO.pick [] dc
 have T9 := localStmt B1_1 100 _ _ _ hP9 
 refine Calls.mono T9 ?_
 clear hP9 T9
 rintro e uw3 ⟨rfl, hQ⟩
 replace hO : Own w0 uw3 [row (B1_1) 57 #[vN, v8 0, bF, bF], row (B1) 61 #[.nilIface, vI 0]] X := hQ.back HL.out HX.out [0, 1] dc dc
 clear hQ HL HX
 obtain ⟨aE, aF, aK, aL, aA, aB, -⟩ := hO.k4 0 rfl
 obtain ⟨aQ, aR, aG, aH, -⟩ := hO.k2 1 rfl
 have HO := Lib.hid hO
 clear hO
 go_wp2_with (first | (with_reducible refine Own.stay (fn := Tryd.f21) ?_) | (at_builtin; refine Own.appStop ?_) | fail)
 try with_reducible refine Own.Stay.mk ?_
 have hO := HO.out
 clear HO aE aF aK aL aA aB aQ aR aG aH
 generalize hW : World.alloc _ _ = W5
 have hN : Own w0 W5 [row (uw3.heap.size) 21 #[vI 100], row (B1_1) 57 #[vN, v8 0, bF, bF], row (B1) 61 #[vF 42 B1_1, vI 100]] X := by
  rw [← hW]
  exact (((hO).set 1 rfl 0 _).set 1 rfl 1 _).alloc' _ (uw3.heap.size) (by simp)
 clear hW hO
 generalize uw3.heap.size = B4 at hN ⊢
 have hO := hN
 clear hN
 have z9_2_0 : W5.cell? ⟨B1, 0, none⟩ = some (vF 42 B1_1) := hO.cell 2 rfl 0 rfl
 have z9_2_1 : W5.cell? ⟨B1, 1, none⟩ = some (vI 100) := hO.cell 2 rfl 1 rfl
 refine bodyPost_ret (v := .tuple #[.agg #[vF 42 B1_1, vI 100], vS B4 1 1]) ?_ rfl ⟨B1_1, B4, rfl, hO.sub [1, 0] dc⟩
 simp [results, Tryd.results21, go_sem, z9_2_0, z9_2_1]
def bod2Post (sh nb : Int) (w0 : World) (X : Nat → Obj → Prop) (e : Ending) (w' : World) : Prop :=
 ∃ bn : Nat, e = .returned (.tuple #[.agg #[vF 275 bn, vI 50], vN]) ∧ Own w0 w' [row (bn) 277 #[]] X
set_option maxRecDepth 100000 in
set_option maxHeartbeats 4000000 in
theorem bod2 (sh nb : Int) (w0 w : World) (X : Nat → Obj → Prop) (hO : Own w0 w [] X) (hsh : sh.tmod 3 = 2) :
  Calls Tryd.prog 21 #[v8 sh, v6 nb] w (bod2Post sh nb w0 X) := by
 go_enter Tryd.func21, Tryd.ntmps21
 go_wp2_with (first | (with_reducible refine Own.stay (fn := Tryd.f21) ?_) | (at_builtin; refine Own.appStop ?_) | fail)
 try with_reducible refine Own.Stay.mk ?_
 generalize hW : World.alloc _ _ = W2
 have hN : Own w0 W2 [row (w.heap.size) 61 #[.nilIface, vI 0]] X := by
  rw [← hW]
  exact (hO).alloc' _ (w.heap.size) (by simp)
 clear hW hO
 generalize w.heap.size = B1 at hN ⊢
 have hO := hN
 clear hN
 obtain ⟨HL, HX⟩ := hid2 hO
 have hP9 := hO.pick [] dc
 have T9 := emptyS 50 _ _ _ hP9 
 refine Calls.mono T9 ?_
 clear hP9 T9
 rintro e uw3 ⟨nd4, rfl, hQ⟩
 replace hO : Own w0 uw3 [row (nd4) 277 #[], row (B1) 61 #[.nilIface, vI 0]] X := hQ.back HL.out HX.out [0] dc dc
 clear hQ HL HX
 obtain ⟨aA, aB, -⟩ := hO.k0 0 rfl
 obtain ⟨aQ, aR, aG, aH, -⟩ := hO.k2 1 rfl
 have HO := Lib.hid hO
 clear hO
 go_wp2_with (first | (with_reducible refine Own.stay (fn := Tryd.f21) ?_) | (at_builtin; refine Own.appStop ?_) | fail)
 try with_reducible refine Own.Stay.mk ?_
 have hO := HO.out
 clear HO aA aB aQ aR aG aH
 generalize hW : World.setCell _ _ _ = W6
 have hN : Own w0 W6 [row (nd4) 277 #[], row (B1) 61 #[vF 275 nd4, vI 50]] X := by
  rw [← hW]
  exact ((hO).set 1 rfl 0 _).set 1 rfl 1 _
 clear hW hO
 have hO := hN
 clear hN
 have z9_1_0 : W6.cell? ⟨B1, 0, none⟩ = some (vF 275 nd4) := hO.cell 1 rfl 0 rfl
 have z9_1_1 : W6.cell? ⟨B1, 1, none⟩ = some (vI 50) := hO.cell 1 rfl 1 rfl
 refine bodyPost_ret (v := .tuple #[.agg #[vF 275 nd4, vI 50], vN]) ?_ rfl ⟨nd4, rfl, hO.sub [0] dc⟩
 simp [results, Tryd.results21, go_sem, z9_1_0, z9_1_1]
end Go.Proofs.YtikopplofkemlaaDoor.Use
namespace Go.Proofs.YtikopplofkemlaaDoor.Use
open Go.ChangeShapes Go.WideShapes Go.ChangeAt Go.RowKit Go.Sort Own
set_option linter.unusedVariables false
noncomputable def rSNM1E (pb : Nat) (PC : Array Value) (sb : Nat) (c : Nat) (st : List Sy) (n : Nat) (rs : Int) (i : Nat) (nm : ByteArray) (B1 : Nat) : Nat → Rega.Atoms → Value
 | 0, α => vP pb
 | 1, α => vP pb
 | 2, α => .pointer (some ⟨pb, 106, none⟩)
 | 3, α => vS sb n (n + c)
 | 4, α => .pointer (some ⟨B1, 1, none⟩)
 | 5, α => vU (i : Int)
 | 6, α => .pointer (some ⟨sb, i * 10, none⟩)
 | 7, α => .pointer (some ⟨sb, i * 10 + 1, none⟩)
 | 8, α => .string nm
 | 9, α => .string nm
 | _, _ => undef
noncomputable def rSNM1Anc : Nat → List Nat
 | 1 => [0]
 | 2 => [0, 1]
 | 3 => [0, 1, 2]
 | 5 => [4]
 | 6 => [0, 1, 2, 3, 4, 5]
 | 7 => [0, 1, 2, 3, 4, 5, 6]
 | 8 => [0, 1, 2, 3, 4, 5, 6, 7]
 | 9 => [0, 1, 2, 3, 4, 5, 6, 7, 8]
 | _ => []
noncomputable def rSNM1Trn : Nat → List Nat
 | _ => []
noncomputable def rSNM1Cnt : List (Nat × Nat) := []
noncomputable def rSNM1R (pb : Nat) (PC : Array Value) (sb : Nat) (c : Nat) (st : List Sy) (n : Nat) (rs : Int) (i : Nat) (nm : ByteArray) (B1 : Nat) (L9 : Nat → Bool) (α : Rega.Atoms) (ix9 : Nat) : Rw := if ix9 = 999 then row (B1) 31 #[vU rs, vU (i : Int)] else if ix9 = 1999 then row (pb) 252 PC else if ix9 = 2999 then row (sb) 260 (full symZ (symL st) c) else (0, .map #[] 0)
theorem rSNM1_he (pb : Nat) (PC : Array Value) (sb : Nat) (c : Nat) (st : List Sy) (n : Nat) (rs : Int) (i : Nat) (nm : ByteArray) (B1 : Nat) : ∀ kk α α', (∀ j, (j % 1000 = kk ∨ j % 1000 ∈ rSNM1Anc kk) → α j = α' j) → rSNM1E pb PC sb c st n rs i nm B1 kk α = rSNM1E pb PC sb c st n rs i nm B1 kk α' := by
 intro kk α α' h
 match kk with
 | 0 => rfl
 | 1 => rfl
 | 2 => rfl
 | 3 => rfl
 | 4 => rfl
 | 5 => rfl
 | 6 => rfl
 | 7 => rfl
 | 8 => rfl
 | 9 => rfl
 | n + 10 => rfl
theorem rSNM1_st (pb : Nat) (PC : Array Value) (sb : Nat) (c : Nat) (st : List Sy) (n : Nat) (rs : Int) (i : Nat) (nm : ByteArray) (B1 : Nat) : Stable rSNM1Cnt 3 rSNM1Anc rSNM1Trn (rSNM1R pb PC sb c st n rs i nm B1) := by
 intro k9 L9 α α' ix9 hk hcl hα hact ht
 have hp := act_places hact
 replace hp : ix9 ∈ [999, 1999, 2999] := hp
 simp only [List.mem_cons, List.not_mem_nil, or_false] at hp
 rcases hp with rfl | rfl | rfl
 ·rfl
 ·rfl
 ·rfl
def symNamePost (pb : Nat) (PC : Array Value) (sb c : Nat) (st : List Sy) (n : Nat) (rs : Int) (i : Nat) (nm : ByteArray) (w0 : World) (X : Nat → Obj → Prop) (e : Ending) (w' : World) : Prop :=
 e = .returned (.string nm) ∧ Own w0 w' [row (pb) 252 PC, row (sb) 260 (full symZ (symL st) c)] X
set_option maxRecDepth 100000 in
set_option maxHeartbeats 1000000 in
theorem symName (pb : Nat) (PC : Array Value) (sb c : Nat) (st : List Sy) (n : Nat) (rs : Int) (i : Nat) (nm : ByteArray) (w0 w : World) (X : Nat → Obj → Prop) (hO : Own w0 w [row (pb) 252 PC, row (sb) 260 (full symZ (symL st) c)] X) (hk106 : PC[106]? = some (vS sb n (n + c))) (hn : st.length = n) (hnb : n ≤ 2000000) (hnm9 : ∃ y : Sy, st[i]? = some y ∧ y.nm = nm) :
  Calls Tryd.prog 25 #[vP pb, .agg #[vU rs, vU (i : Int)]] w (symNamePost pb PC sb c st n rs i nm w0 X) := by
 obtain ⟨y, hy, hynm⟩ := hnm9
 have hi : i < n := by rw [← hn]; exact (List.getElem?_eq_some_iff.1 hy).1
 have hi9 : (i : Int) < (n : Int) := by omega
 have hi8 : (0 : Int) ≤ (i : Int) := by omega
 have hyv : (symL st)[i * 10 + 1]? = some (.string nm) := by rw [← hynm]; exact symL_at st i y 1 _ hy rfl
 clear hy hynm
 go_enter Tryd.func25, Tryd.ntmps25
 go_wp2_with (first | (with_reducible refine Own.stay (fn := Tryd.f25) ?_) | fail)
 try with_reducible refine Own.Stay.mk ?_
 generalize hW : World.alloc _ _ = W2
 have hN : Own w0 W2 [row (w.heap.size) 31 #[vU rs, vU (i : Int)], row (pb) 252 PC, row (sb) 260 (full symZ (symL st) c)] X := by
  rw [← hW]
  exact (hO).alloc' _ (w.heap.size) (by simp)
 clear hW hO
 generalize w.heap.size = B1 at hN ⊢
 have hO := hN
 clear hN
 have st9 := rSNM1_st pb PC sb c st n rs i nm B1
 let R9 := rSNM1R pb PC sb c st n rs i nm B1
 refine wp_region_own (e := rSNM1E pb PC sb c st n rs i nm B1) (anc := rSNM1Anc) (G := (fun L9 α u9 => OwnF w0 u9 (act rSNM1Cnt 3 L9) (rSNM1R pb PC sb c st n rs i nm B1 L9 α) X)) (by kernel_rfl) (by kernel_rfl) (by kernel_rfl) (by kernel_rfl) (rSNM1_he pb PC sb c st n rs i nm B1) ?_ (RunsAll.all ?_) ?_
 ·have hp : ∀ i, act rSNM1Cnt 3 (fun _ => false) i → i ∈ [999, 1999, 2999] := by
   intro i hi
   have h9 : i % 1000 = 999 := by
    by_cases h : i % 1000 = 999
    ·exact h
    ·exact absurd (act_lt hi h) (by simp)
   unfold act at hi
   rw [if_pos h9] at hi
   simp only [List.mem_cons, List.not_mem_nil, or_false]
   omega
  refine hO.drew.family (fun i hi => ?_) (fun i j hi hj hij => ?_)
  ·have := hp i hi
   simp only [List.mem_cons, List.not_mem_nil, or_false] at this
   rcases this with rfl | rfl | rfl <;> rfl
  ·have h1 := hp i hi
   have h2 := hp j hj
   simp only [List.mem_cons, List.not_mem_nil, or_false] at h1 h2
   omega
 ·refine ⟨?_, ?_, ?_, ?_, ?_, ?_, ?_, ?_, ?_, ?_, trivial⟩
  ·refine pur st9 rfl rfl fun L9 α a9 u9 K9 hL hcl hA hG hS h0 h1 hK => ?_
   have s0 := eS (vP pb) ((h0 0 (by kernel_rfl)).trans rfl)
   go_simp
   exact hK
  ·refine pur st9 rfl rfl fun L9 α a9 u9 K9 hL hcl hA hG hS h0 h1 hK => ?_
   have s5 := eS (vP pb) (hS 0 5 dc rfl (ltd 14 rfl))
   go_simp
   exact hK
  ·refine pur st9 rfl rfl fun L9 α a9 u9 K9 hL hcl hA hG hS h0 h1 hK => ?_
   have s6 := eS (vP pb) (hS 1 6 dc rfl (ltd 14 rfl))
   go_simp
   exact hK
  ·refine pur st9 rfl rfl fun L9 α a9 u9 K9 hL hcl hA hG hS h0 h1 hK => ?_
   have s7 := eS (.pointer (some ⟨pb, 106, none⟩)) (hS 2 7 dc rfl (ltd 14 rfl))
   have e0 : R9 L9 α 1999 = row (pb) 252 PC := rfl
   have hr := hG.rowAt 1999 (act_base 1999 rfl) e0
   have c0 : u9.cell? ⟨pb, 106, none⟩ = some (vS sb n (n + c)) := hr.cell (hk106)
   clear hr e0
   go_simp
   exact hK
  ·refine pur st9 rfl rfl fun L9 α a9 u9 K9 hL hcl hA hG hS h0 h1 hK => ?_
   have s3 := eS (vP B1) ((h0 3 (by kernel_rfl)).trans rfl)
   go_simp
   exact hK
  ·refine pur st9 rfl rfl fun L9 α a9 u9 K9 hL hcl hA hG hS h0 h1 hK => ?_
   have s9 := eS (.pointer (some ⟨B1, 1, none⟩)) (hS 4 9 dc rfl (ltd 14 rfl))
   have e0 : R9 L9 α 999 = row (B1) 31 #[vU rs, vU (i : Int)] := rfl
   have hr := hG.rowAt 999 (act_base 999 rfl) e0
   have c0 : u9.cell? ⟨B1, 1, none⟩ = some (vU (i : Int)) := hr.cell rfl
   clear hr e0
   go_simp
   exact hK
  ·refine pur st9 rfl rfl fun L9 α a9 u9 K9 hL hcl hA hG hS h0 h1 hK => ?_
   have q8 : a9.tmps[8]? = some (vS sb n (n + c)) := hS 3 8 dc rfl (ltd 14 rfl)
   have s8 := Rega.eval_of q8
   have q10 : a9.tmps[10]? = some (vU (i : Int)) := hS 5 10 dc rfl (ltd 14 rfl)
   have s10 := Rega.eval_of q10
   go_simp
   exact hK
  ·refine pur st9 rfl rfl fun L9 α a9 u9 K9 hL hcl hA hG hS h0 h1 hK => ?_
   have s11 := eS (.pointer (some ⟨sb, i * 10, none⟩)) (hS 6 11 dc rfl (ltd 14 rfl))
   go_simp
   exact hK
  ·refine pur st9 rfl rfl fun L9 α a9 u9 K9 hL hcl hA hG hS h0 h1 hK => ?_
   have s12 := eS (.pointer (some ⟨sb, i * 10 + 1, none⟩)) (hS 7 12 dc rfl (ltd 14 rfl))
   have e0 : R9 L9 α 2999 = row (sb) 260 (full symZ (symL st) c) := rfl
   have hr := hG.rowAt 2999 (act_base 2999 rfl) e0
   have c0 : u9.cell? ⟨sb, i * 10 + 1, none⟩ = some (.string nm) := hr.cell ((full_at hyv))
   clear hr e0
   go_simp
   exact hK
  ·refine pur st9 rfl rfl fun L9 α a9 u9 K9 hL hcl hA hG hS h0 h1 hK => ?_
   have q13 : a9.tmps[13]? = some (.string nm) := hS 8 13 dc rfl (ltd 14 rfl)
   have s13 := Rega.eval_of q13
   go_simp
   exact hK
 clear st9
 intro α u hG
 have e0 : R9 (fun k => decide (k < 10)) α 999 = row (B1) 31 #[vU rs, vU (i : Int)] := rfl
 have e1 : R9 (fun k => decide (k < 10)) α 1999 = row (pb) 252 PC := rfl
 have e2 : R9 (fun k => decide (k < 10)) α 2999 = row (sb) 260 (full symZ (symL st) c) := rfl
 have hO : Own w0 u [row (B1) 31 #[vU rs, vU (i : Int)], row (pb) 252 PC, row (sb) 260 (full symZ (symL st) c)] X := (hG.list [999, 1999, 2999] dc (act_all dc)).conv (by
  show [R9 (fun k => decide (k < 10)) α 999, R9 (fun k => decide (k < 10)) α 1999, R9 (fun k => decide (k < 10)) α 2999] = _
  rw [e0, e1, e2])
 clear hG e0 e1 e2 R9
 generalize hfr : Rega.frameAt _ _ _ _ _ = fr
 have hdf : fr = ⟨#[vP pb, .agg #[vU rs, vU (i : Int)], undef, vP B1, .string nm, vP pb, vP pb, .pointer (some ⟨pb, 106, none⟩), vS sb n (n + c), .pointer (some ⟨B1, 1, none⟩), vU (i : Int), .pointer (some ⟨sb, i * 10, none⟩), .pointer (some ⟨sb, i * 10 + 1, none⟩), .string nm], []⟩ := by rw [← hfr]; kernel_rfl
 clear hfr
 subst hdf
 clear α
 obtain ⟨aA, aB, aC, aD, -⟩ := hO.k2 0 rfl
 have HO := Lib.hid hO
 clear hO
 go_wp2_with (first | (with_reducible refine Own.stay (fn := Tryd.f25) ?_) | fail)
 try with_reducible refine Own.Stay.mk ?_
 have hO := HO.out
 clear HO aA aB aC aD
 refine bodyPost_ret (v := .string nm) ?_ rfl ⟨rfl, hO.sub [1, 2] dc⟩
 simp [results, Tryd.results25, go_sem]
end Go.Proofs.YtikopplofkemlaaDoor.Use
namespace Go.Proofs.YtikopplofkemlaaDoor.Use
open Go.ChangeShapes Go.WideShapes Go.ChangeAt Go.RowKit Go.Sort Own
set_option linter.unusedVariables false
noncomputable def rest43 : Code := cutC 9 (Tryd.f4.body.getD .skip)
end Go.Proofs.YtikopplofkemlaaDoor.Use
namespace Go.Proofs.YtikopplofkemlaaDoor.Use
open Go.ChangeShapes Go.WideShapes Go.ChangeAt Go.RowKit Go.Sort Own
set_option linter.unusedVariables false
theorem _root_.Go.Proofs.YtikopplofkemlaaDoor.Own.Own.meet {w0 w w' : World} {L M : List Rw} {X Z : Nat → Obj → Prop} (h : Own w0 w M X) (h' : Own w w' L Z) : ∃ Y : Nat → Obj → Prop, (∀ b o, X b o → Y b o) ∧ (∀ b o, Z b o → Y b o) ∧ Own w0 w' (L ++ M) Y := by
 have hs := h.step h'.below
 have hlt : ∀ r, r ∈ M → r.1 < w.heap.size := fun r hr => (Array.getElem?_eq_some_iff.1 (h.rows r hr).2).1
 have hltX : ∀ b o, X b o → b < w.heap.size := fun b o hx => (Array.getElem?_eq_some_iff.1 (h.frame b o hx).2.1).1
 have hle : w0.heap.size ≤ w.heap.size := h.below.size
 refine ⟨fun b o => X b o ∨ Z b o, fun b o hx => Or.inl hx, fun b o hx => Or.inr hx, hs.below, fun r hr => ?_, List.pairwise_append.2 ⟨h'.apart, hs.apart, fun r hr s hs' => ?_⟩, fun b o hx => ?_⟩
 ·rcases List.mem_append.1 hr with hr | hr
  ·exact ⟨Nat.le_trans hle (h'.rows r hr).1, (h'.rows r hr).2⟩
  ·exact hs.rows r hr
 ·have h1 := (h'.rows r hr).1
  have h2 := hlt s hs'
  omega
 ·rcases hx with hx | hx
  ·refine ⟨(hs.frame b o hx).1, (hs.frame b o hx).2.1, fun r hr => ?_⟩
   rcases List.mem_append.1 hr with hr | hr
   ·have h1 := (h'.rows r hr).1
    have h2 := hltX b o hx
    omega
   ·exact (hs.frame b o hx).2.2 r hr
  ·refine ⟨Nat.le_trans hle (h'.frame b o hx).1, (h'.frame b o hx).2.1, fun r hr => ?_⟩
   rcases List.mem_append.1 hr with hr | hr
   ·exact (h'.frame b o hx).2.2 r hr
   ·have h1 := (h'.frame b o hx).1
    have h2 := hlt r hr
    omega
theorem lc_one (a b : Nat) : stL (dtL (adS a (fun _ => b)) (lcS 5 (fun _ => 100))) (List.range (1 + 1)) = stL (dtL (adS a (fun _ => b)) (lcS 5 lcB)) (List.range (1 + 1)) := by kernel_rfl
theorem lc_none (a b : Nat) : stL (dtL (adS a (fun _ => b)) (lcS 5 (fun _ => 0))) (List.range (0 + 1)) = stL (dtL (adS a (fun _ => b)) (lcS 5 lcB)) (List.range (0 + 1)) := by kernel_rfl

end Go.Proofs.YtikopplofkemlaaDoor.Use
