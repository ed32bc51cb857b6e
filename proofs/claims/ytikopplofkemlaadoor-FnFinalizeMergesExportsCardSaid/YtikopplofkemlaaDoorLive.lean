/- Symbols made. No condition. -/
import Derived.Test.YtikopplofkemlaaDoorAbb
import Derived.Test.YtikopplofkemlaaDoorUms
import Derived.Test.YtikopplofkemlaaDoorOap
import Derived.Test.YtikopplofkemlaaDoorUse
namespace Go.Proofs.YtikopplofkemlaaDoor.Use
open Go.ChangeShapes Go.WideShapes Go.ChangeAt Go.RowKit Go.Sort Own
set_option linter.unusedVariables false
structure Sy where
 nm : ByteArray
 l0 : Int
 l1 : Int
 uc : Nat
 fl : Int
 kd : Int
/-- A symbol of no special kind that links nowhere. -/
def sy (nm : ByteArray) (uc : Nat) : Sy := ⟨nm, 4294967295, 4294967295, uc, 0, 27⟩
def syk (nm : ByteArray) (kd : Int) : Sy := ⟨nm, 4294967295, 4294967295, 0, 0, kd⟩
def Sy.cells (s : Sy) : List Value := [vO, .string s.nm, vU s.l0, vU s.l1, vU s.uc, vU 0, vU 0, .int .u16 s.fl, v8 s.kd, v8 0]
def symL (st : List Sy) : List Value := st.flatMap Sy.cells
def Sy.up (s : Sy) : Sy := ⟨s.nm, s.l0, s.l1, (s.uc + 1) % 4294967296, s.fl, s.kd⟩
def bump : List Sy → Nat → List Sy
 | [], _ => []
 | s :: l, 0 => s.up :: l
 | s :: l, i + 1 => s :: bump l i
theorem bump_length : ∀ (st : List Sy) (i : Nat), (bump st i).length = st.length
 | [], _ => rfl
 | _ :: _, 0 => rfl
 | _ :: l, i + 1 => congrArg (· + 1) (bump_length l i)
theorem symL_cons (s : Sy) (st : List Sy) : symL (s :: st) = s.cells ++ symL st := rfl
theorem symL_append (st st2 : List Sy) : symL (st ++ st2) = symL st ++ symL st2 := by simp [symL]
theorem symL_length : ∀ st : List Sy, (symL st).length = st.length * 10
 | [] => rfl
 | s :: l => by rw [symL_cons, List.length_append, symL_length l, List.length_cons]; show 10 + _ = _; omega
theorem symL_at : ∀ (st : List Sy) (i : Nat) (s : Sy) (o : Nat) (v : Value), st[i]? = some s → s.cells[o]? = some v → (symL st)[i * 10 + o]? = some v
 | [], _, _, _, _, h, _ => by simp at h
 | x :: l, 0, s, o, v, h, ho => by
  cases h
  have hl := (List.getElem?_eq_some_iff.1 ho).1
  rw [symL_cons, List.getElem?_append_left (by omega)]
  rw [show 0 * 10 + o = o by omega]
  exact ho
 | x :: l, i + 1, s, o, v, h, ho => by
  have hx : x.cells.length = 10 := rfl
  rw [symL_cons, List.getElem?_append_right (by rw [hx]; omega), hx, show (i + 1) * 10 + o - 10 = i * 10 + o by omega]
  exact symL_at l i s o v h ho
theorem symL_bump : ∀ (st : List Sy) (i : Nat) (s : Sy), st[i]? = some s → (symL st).set (i * 10 + 4) (vU (((s.uc + 1) % 4294967296 : Nat) : Int)) = symL (bump st i)
 | [], _, _, h => by simp at h
 | x :: l, 0, s, h => by cases h; rfl
 | x :: l, i + 1, s, h => by
  have hx : x.cells.length = 10 := rfl
  rw [symL_cons, List.set_append_right _ _ (by rw [hx]; omega), hx, show (i + 1) * 10 + 4 - 10 = i * 10 + 4 by omega, symL_bump l i s h]
  rfl
def symZ : Array Value := #[vO, .string ⟨#[]⟩, vU 0, vU 0, vU 0, vU 0, vU 0, .int .u16 0, v8 0, v8 0]
def refZ : Array Value := #[vU 0, vU 0]
theorem infoSym : (Tryd.prog.info? 260).map (fun i => (i.zero, i.size, i.bytes)) = some (some (.agg symZ), 10, 48) := by kernel_rfl
theorem infoRef : (Tryd.prog.info? 31).map (fun i => (i.zero, i.size, i.bytes)) = some (some (.agg refZ), 2, 8) := by kernel_rfl
noncomputable def rNS1E (pb : Nat) (PC : Array Value) (sb : Nat) (c : Nat) (n : Nat) (src : Int) : Nat → Rega.Atoms → Value
 | 0, α => vP pb
 | 1, α => vP pb
 | 2, α => .pointer (some ⟨pb, 57, none⟩)
 | 3, α => .pointer (some ⟨pb, 66, none⟩)
 | 4, α => vU src
 | 5, α => vP pb
 | 6, α => vP pb
 | 7, α => .pointer (some ⟨pb, 106, none⟩)
 | 8, α => vS sb n (n + c)
 | 9, α => v6 (n : Int)
 | 10, α => vU (n : Int)
 | 11, α => .agg #[vU src, vU (n : Int)]
 | 12, α => vP (α 12)
 | 13, α => undef
 | _, _ => undef
noncomputable def rNS1Anc : Nat → List Nat
 | 1 => [0]
 | 2 => [0, 1]
 | 3 => [0, 1, 2]
 | 4 => [0, 1, 2, 3]
 | 6 => [5]
 | 7 => [5, 6]
 | 8 => [5, 6, 7]
 | 9 => [5, 6, 7, 8]
 | 10 => [5, 6, 7, 8, 9]
 | 11 => [0, 1, 2, 3, 4, 5, 6, 7, 8, 9, 10]
 | 13 => [0, 1, 2, 3, 4, 5, 6, 7, 8, 9, 10, 11, 12]
 | _ => []
noncomputable def rNS1Trn : Nat → List Nat
 | 13 => [12]
 | _ => []
noncomputable def rNS1Cnt : List (Nat × Nat) := [(12, 1)]
noncomputable def rNS1T12 (pb : Nat) (PC : Array Value) (sb : Nat) (c : Nat) (n : Nat) (src : Int) (L9 : Nat → Bool) (α : Rega.Atoms) : Rw := if L9 13 = true then row (α 12) 31 #[vU src, vU (n : Int)] else row (α 12) 31 #[vU 0, vU 0]
noncomputable def rNS1R (pb : Nat) (PC : Array Value) (sb : Nat) (c : Nat) (n : Nat) (src : Int) (L9 : Nat → Bool) (α : Rega.Atoms) (ix9 : Nat) : Rw := if ix9 = 999 then row (pb) 252 PC else if ix9 = 12 then rNS1T12 pb PC sb c n src L9 α else (0, .map #[] 0)
theorem rNS1_he (pb : Nat) (PC : Array Value) (sb : Nat) (c : Nat) (n : Nat) (src : Int) : ∀ kk α α', (∀ j, (j % 1000 = kk ∨ j % 1000 ∈ rNS1Anc kk) → α j = α' j) → rNS1E pb PC sb c n src kk α = rNS1E pb PC sb c n src kk α' := by
 intro kk α α' h
 match kk with
 | 0 => rfl
 | 1 => rfl
 | 2 => rfl
 | 3 => rfl
 | 4 => rfl
 | 5 => rfl
 | 6 => rfl
 | 7 => rfl
 | 8 => rfl
 | 9 => rfl
 | 10 => rfl
 | 11 => rfl
 | 12 => simp only [rNS1E, h 12 (Or.inl rfl)]
 | 13 => rfl
 | n + 14 => rfl
theorem rNS1_st (pb : Nat) (PC : Array Value) (sb : Nat) (c : Nat) (n : Nat) (src : Int) : Stable rNS1Cnt 1 rNS1Anc rNS1Trn (rNS1R pb PC sb c n src) := by
 intro k9 L9 α α' ix9 hk hcl hα hact ht
 have hp := act_places hact
 replace hp : ix9 ∈ [999, 12] := hp
 simp only [List.mem_cons, List.not_mem_nil, or_false] at hp
 rcases hp with rfl | rfl
 ·rfl
 ·have e0 : L9 12 = true := act_lt hact dc
  show rNS1T12 pb PC sb c n src (Rega.ran L9 k9) α' = rNS1T12 pb PC sb c n src L9 α
  unfold rNS1T12
  have n13 : 13 ≠ k9 := fun e => ht (by rw [← e]; decide)
  rw [ran_ne n13]
  by_cases e13 : L9 13 = true
  ·first | rw [if_pos e13, if_pos e13] | rw [if_pos e13]
   try simp only [hα 12 (ne_ran hk (hcl 13 e13 12 dc))]
  first | rw [if_neg e13, if_neg e13] | rw [if_neg e13]
  try simp only [hα 12 (ne_ran hk e0)]
noncomputable def rNS2E (pb : Nat) (PC : Array Value) (sb : Nat) (c : Nat) (st : List Sy) (n : Nat) (kd : Int) (nm : ByteArray) : Nat → Rega.Atoms → Value
 | 0, α => vP pb
 | 1, α => vP pb
 | 2, α => vP pb
 | 3, α => .pointer (some ⟨pb, 106, none⟩)
 | 4, α => vS sb n (n + c)
 | 5, α => v8 kd
 | 6, α => .string nm
 | 7, α => .agg #[vU 4294967295, vU 4294967295]
 | 8, α => .agg #[vO, .string nm, vU 4294967295, vU 4294967295, vU 0, vU 0, vU 0, .int .u16 0, v8 kd, v8 0]
 | 9, α => vS (α 9) 1 1
 | 10, α => vS (α 10) (n + 1) (n + 1 + α 1010)
 | 11, α => vP pb
 | 12, α => .pointer (some ⟨pb, 106, none⟩)
 | 13, α => undef
 | _, _ => undef
noncomputable def rNS2Anc : Nat → List Nat
 | 2 => [1]
 | 3 => [1, 2]
 | 4 => [1, 2, 3]
 | 8 => [5, 6, 7]
 | 9 => [5, 6, 7, 8]
 | 10 => [1, 2, 3, 4, 5, 6, 7, 8, 9]
 | 11 => [0, 1, 2, 3, 4, 5, 6, 7, 8, 9, 10]
 | 12 => [0, 1, 2, 3, 4, 5, 6, 7, 8, 9, 10, 11]
 | 13 => [0, 1, 2, 3, 4, 5, 6, 7, 8, 9, 10, 11, 12]
 | _ => []
noncomputable def rNS2Trn : Nat → List Nat
 | 10 => [1999]
 | 13 => [999]
 | _ => []
noncomputable def rNS2Cnt : List (Nat × Nat) := [(9, 1)]
noncomputable def rNS2T999 (pb : Nat) (PC : Array Value) (sb : Nat) (c : Nat) (st : List Sy) (n : Nat) (kd : Int) (nm : ByteArray) (L9 : Nat → Bool) (α : Rega.Atoms) : Rw := if L9 13 = true then row (pb) 252 (PC.setIfInBounds 106 (vS (α 10) (n + 1) (n + 1 + α 1010))) else row (pb) 252 PC
noncomputable def rNS2T1999 (pb : Nat) (PC : Array Value) (sb : Nat) (c : Nat) (st : List Sy) (n : Nat) (kd : Int) (nm : ByteArray) (L9 : Nat → Bool) (α : Rega.Atoms) : Rw := if L9 10 = true then row (α 10) 260 (full symZ ((symL st) ++ [vO, .string nm, vU 4294967295, vU 4294967295, vU 0, vU 0, vU 0, .int .u16 0, v8 kd, v8 0]) (α 1010)) else row (sb) 260 (full symZ (symL st) c)
noncomputable def rNS2R (pb : Nat) (PC : Array Value) (sb : Nat) (c : Nat) (st : List Sy) (n : Nat) (kd : Int) (nm : ByteArray) (L9 : Nat → Bool) (α : Rega.Atoms) (ix9 : Nat) : Rw := if ix9 = 999 then rNS2T999 pb PC sb c st n kd nm L9 α else if ix9 = 1999 then rNS2T1999 pb PC sb c st n kd nm L9 α else if ix9 = 9 then row (α 9) 260 #[vO, .string nm, vU 4294967295, vU 4294967295, vU 0, vU 0, vU 0, .int .u16 0, v8 kd, v8 0] else (0, .map #[] 0)
theorem rNS2_he (pb : Nat) (PC : Array Value) (sb : Nat) (c : Nat) (st : List Sy) (n : Nat) (kd : Int) (nm : ByteArray) : ∀ kk α α', (∀ j, (j % 1000 = kk ∨ j % 1000 ∈ rNS2Anc kk) → α j = α' j) → rNS2E pb PC sb c st n kd nm kk α = rNS2E pb PC sb c st n kd nm kk α' := by
 intro kk α α' h
 match kk with
 | 0 => rfl
 | 1 => rfl
 | 2 => rfl
 | 3 => rfl
 | 4 => rfl
 | 5 => rfl
 | 6 => rfl
 | 7 => rfl
 | 8 => rfl
 | 9 => simp only [rNS2E, h 9 (Or.inl rfl)]
 | 10 => simp only [rNS2E, h 10 (Or.inl rfl), h 1010 (Or.inl rfl)]
 | 11 => rfl
 | 12 => rfl
 | 13 => rfl
 | n + 14 => rfl
theorem rNS2_st (pb : Nat) (PC : Array Value) (sb : Nat) (c : Nat) (st : List Sy) (n : Nat) (kd : Int) (nm : ByteArray) : Stable rNS2Cnt 2 rNS2Anc rNS2Trn (rNS2R pb PC sb c st n kd nm) := by
 intro k9 L9 α α' ix9 hk hcl hα hact ht
 have hp := act_places hact
 replace hp : ix9 ∈ [999, 1999, 9] := hp
 simp only [List.mem_cons, List.not_mem_nil, or_false] at hp
 rcases hp with rfl | rfl | rfl
 ·show rNS2T999 pb PC sb c st n kd nm (Rega.ran L9 k9) α' = rNS2T999 pb PC sb c st n kd nm L9 α
  unfold rNS2T999
  have n13 : 13 ≠ k9 := fun e => ht (by rw [← e]; decide)
  rw [ran_ne n13]
  by_cases e13 : L9 13 = true
  ·first | rw [if_pos e13, if_pos e13] | rw [if_pos e13]
   try simp only [hα 10 (ne_ran hk (hcl 13 e13 10 dc)), hα 1010 (ne_ran hk (hcl 13 e13 10 dc))]
  first | rw [if_neg e13, if_neg e13] | rw [if_neg e13]
 ·show rNS2T1999 pb PC sb c st n kd nm (Rega.ran L9 k9) α' = rNS2T1999 pb PC sb c st n kd nm L9 α
  unfold rNS2T1999
  have n10 : 10 ≠ k9 := fun e => ht (by rw [← e]; decide)
  rw [ran_ne n10]
  by_cases e10 : L9 10 = true
  ·first | rw [if_pos e10, if_pos e10] | rw [if_pos e10]
   try simp only [hα 10 (ne_ran hk e10), hα 1010 (ne_ran hk e10)]
  first | rw [if_neg e10, if_neg e10] | rw [if_neg e10]
 ·have e0 : L9 9 = true := act_lt hact dc
  show row (α' 9) 260 #[vO, .string nm, vU 4294967295, vU 4294967295, vU 0, vU 0, vU 0, .int .u16 0, v8 kd, v8 0] = row (α 9) 260 #[vO, .string nm, vU 4294967295, vU 4294967295, vU 0, vU 0, vU 0, .int .u16 0, v8 kd, v8 0]
  simp only [hα 9 (ne_ran hk e0)]
def newSymGPost (pb : Nat) (PC : Array Value) (sb c : Nat) (st : List Sy) (n : Nat) (src kd : Int) (nm : ByteArray) (w0 : World) (X : Nat → Obj → Prop) (e : Ending) (w' : World) : Prop :=
 ∃ sb2 : Nat, ∃ c2 : Nat, e = .returned (.agg #[vU src, vU (n : Int)]) ∧ Own w0 w' [row (pb) 252 (PC.setIfInBounds 106 (vS sb2 (n + 1) (n + 1 + c2))), row (sb2) 260 (full symZ (symL (st ++ [syk nm kd])) c2)] X
set_option maxRecDepth 100000 in
set_option maxHeartbeats 1000000 in
theorem newSymG (pb : Nat) (PC : Array Value) (sb c : Nat) (st : List Sy) (n : Nat) (src kd : Int) (nm : ByteArray) (w0 w : World) (X : Nat → Obj → Prop) (hO : Own w0 w [row (pb) 252 PC, row (sb) 260 (full symZ (symL st) c)] X) (hk66 : PC[66]? = some (vU src)) (hk32 : PC[32]? = some (bF)) (hk106 : PC[106]? = some (vS sb n (n + c))) (hn : st.length = n) (hnb : n ≤ 2000000) (hg0 : w0.cell? ⟨0, 0, none⟩ = some (vU 4294967295)) (hg1 : w0.cell? ⟨0, 1, none⟩ = some (vU 4294967295)) :
  Calls Tryd.prog 38 #[vP pb, v8 kd, .string nm] w (newSymGPost pb PC sb c st n src kd nm w0 X) := by
 go_enter Tryd.func38, Tryd.ntmps38
 have aA := hO.cell 0 rfl 32 hk32
 have aB := hO.cell 0 rfl 66 hk66
 have aC := hO.cell 0 rfl 106 hk106
 have aD := hO.lt 0 rfl
 have aE := hO.free 0 rfl
 have HO := Lib.hid hO
 clear hO
 have hsl : (symL st).length = n * 10 := by rw [symL_length, hn]
 go_wp2_with (first | (with_reducible refine Own.stay (fn := Tryd.f38) ?_) | fail)
 try with_reducible refine Own.Stay.mk ?_
 have hO := HO.out
 clear HO aA aB aC aD aE
 generalize hW : World.alloc _ _ = W2
 have hN : Own w0 W2 [row (w.heap.size) 31 #[vU 0, vU 0], row (pb) 252 PC, row (sb) 260 (full symZ (symL st) c)] X := by
  rw [← hW]
  exact (hO).alloc' _ (w.heap.size) (by simp)
 clear hW hO
 generalize w.heap.size = B1 at hN ⊢
 have hO := hN
 clear hN
 obtain ⟨HL, HX⟩ := hid2 hO
 have hP9 := hO.pick [1] dc
 generalize hX9_3 : Own.Rest _ _ X = X9_3 at hP9
 replace hP9 : Own w0 W2 [row (pb) 252 PC] X9_3 := hP9
 clear hO
 have hO := hP9
 clear hP9
 have st9 := rNS1_st pb PC sb c n src
 let R9 := rNS1R pb PC sb c n src
 refine wp_region_own (e := rNS1E pb PC sb c n src) (anc := rNS1Anc) (G := (fun L9 α u9 => OwnF w0 u9 (act rNS1Cnt 1 L9) (rNS1R pb PC sb c n src L9 α) X9_3)) (by kernel_rfl) (by kernel_rfl) (by kernel_rfl) (by kernel_rfl) (rNS1_he pb PC sb c n src) ?_ (RunsAll.all ?_) ?_
 ·have hp : ∀ i, act rNS1Cnt 1 (fun _ => false) i → i ∈ [999] := by
   intro i hi
   have h9 : i % 1000 = 999 := by
    by_cases h : i % 1000 = 999
    ·exact h
    ·exact absurd (act_lt hi h) (by simp)
   unfold act at hi
   rw [if_pos h9] at hi
   simp only [List.mem_cons, List.not_mem_nil, or_false]
   omega
  refine hO.drew.family (fun i hi => ?_) (fun i j hi hj hij => ?_)
  ·have := hp i hi
   simp only [List.mem_cons, List.not_mem_nil, or_false] at this
   subst this
   rfl
  ·have h1 := hp i hi
   have h2 := hp j hj
   simp only [List.mem_cons, List.not_mem_nil, or_false] at h1 h2
   omega
 ·refine ⟨?_, ?_, ?_, ?_, ?_, ?_, ?_, ?_, ?_, ?_, ?_, ?_, ?_, ?_, trivial⟩
  ·refine pur st9 rfl rfl fun L9 α a9 u9 K9 hL hcl hA hG hS h0 h1 hK => ?_
   have s0 := eS (vP pb) ((h0 0 (by kernel_rfl)).trans rfl)
   go_simp
   exact hK
  ·refine pur st9 rfl rfl fun L9 α a9 u9 K9 hL hcl hA hG hS h0 h1 hK => ?_
   have s8 := eS (vP pb) (hS 0 8 dc rfl (ltd 50 rfl))
   go_simp
   exact hK
  ·refine pur st9 rfl rfl fun L9 α a9 u9 K9 hL hcl hA hG hS h0 h1 hK => ?_
   have s9 := eS (vP pb) (hS 1 9 dc rfl (ltd 50 rfl))
   go_simp
   exact hK
  ·refine pur st9 rfl rfl fun L9 α a9 u9 K9 hL hcl hA hG hS h0 h1 hK => ?_
   have s10 := eS (.pointer (some ⟨pb, 57, none⟩)) (hS 2 10 dc rfl (ltd 50 rfl))
   go_simp
   exact hK
  ·refine pur st9 rfl rfl fun L9 α a9 u9 K9 hL hcl hA hG hS h0 h1 hK => ?_
   have s11 := eS (.pointer (some ⟨pb, 66, none⟩)) (hS 3 11 dc rfl (ltd 50 rfl))
   have e0 : R9 L9 α 999 = row (pb) 252 PC := rfl
   have hr := hG.rowAt 999 (act_base 999 rfl) e0
   have c0 : u9.cell? ⟨pb, 66, none⟩ = some (vU src) := hr.cell (hk66)
   clear hr e0
   go_simp
   exact hK
  ·refine pur st9 rfl rfl fun L9 α a9 u9 K9 hL hcl hA hG hS h0 h1 hK => ?_
   have s0 := eS (vP pb) ((h0 0 (by kernel_rfl)).trans rfl)
   go_simp
   exact hK
  ·refine pur st9 rfl rfl fun L9 α a9 u9 K9 hL hcl hA hG hS h0 h1 hK => ?_
   have s13 := eS (vP pb) (hS 5 13 dc rfl (ltd 50 rfl))
   go_simp
   exact hK
  ·refine pur st9 rfl rfl fun L9 α a9 u9 K9 hL hcl hA hG hS h0 h1 hK => ?_
   have s14 := eS (vP pb) (hS 6 14 dc rfl (ltd 50 rfl))
   go_simp
   exact hK
  ·refine pur st9 rfl rfl fun L9 α a9 u9 K9 hL hcl hA hG hS h0 h1 hK => ?_
   have s15 := eS (.pointer (some ⟨pb, 106, none⟩)) (hS 7 15 dc rfl (ltd 50 rfl))
   have e0 : R9 L9 α 999 = row (pb) 252 PC := rfl
   have hr := hG.rowAt 999 (act_base 999 rfl) e0
   have c0 : u9.cell? ⟨pb, 106, none⟩ = some (vS sb n (n + c)) := hr.cell (hk106)
   clear hr e0
   go_simp
   exact hK
  ·refine pur st9 rfl rfl fun L9 α a9 u9 K9 hL hcl hA hG hS h0 h1 hK => ?_
   have q16 : a9.tmps[16]? = some (vS sb n (n + c)) := hS 8 16 dc rfl (ltd 50 rfl)
   have s16 := Rega.eval_of q16
   go_simp
   exact hK
  ·refine pur st9 rfl rfl fun L9 α a9 u9 K9 hL hcl hA hG hS h0 h1 hK => ?_
   have q17 : a9.tmps[17]? = some (v6 (n : Int)) := hS 9 17 dc rfl (ltd 50 rfl)
   have s17 := Rega.eval_of q17
   have hwr9 : IntKind.u32.wrap (n : Int) = (n : Int) := by rw [IntKind.wrap_u32]; omega
   go_simp
   exact hK
  ·refine pur st9 rfl rfl fun L9 α a9 u9 K9 hL hcl hA hG hS h0 h1 hK => ?_
   have q12 : a9.tmps[12]? = some (vU src) := hS 4 12 dc rfl (ltd 50 rfl)
   have s12 := Rega.eval_of q12
   have q18 : a9.tmps[18]? = some (vU (n : Int)) := hS 10 18 dc rfl (ltd 50 rfl)
   have s18 := Rega.eval_of q18
   go_simp
   exact hK
  ·intro L9 α a9 u9 K9 hL hcl hA hG hS h0 h1 hK
   replace hL : L9 12 = false := hL
   go_simp
   have e1 : R9 (Rega.ran L9 12) (fun j => if j = 12 then u9.heap.size else α j) 12 = row (u9.heap.size) 31 #[vU 0, vU 0] := by
    show rNS1T12 pb PC sb c n src (Rega.ran L9 12) (fun j => if j = 12 then u9.heap.size else α j) = _
    unfold rNS1T12
    exact ((if_neg (fun e => (fun e => by have := hcl 13 e 12 dc; rw [hL] at this; cases this) ((ran_ne dc).symm.trans e))).trans rfl)
   exact hK _ (fun j => if j = 12 then u9.heap.size else α j) _ (fun j hj => if_neg (fun e => hj (by rw [e]))) rfl (step_alloc st9 hL hcl rfl rfl dc _ e1 hG)
  ·intro L9 α a9 u9 K9 hL hcl hA hG hS h0 h1 hK
   replace hL : L9 13 = false := hL
   have q7 : a9.tmps[7]? = some (vP (α 12)) := hS 12 7 dc rfl (ltd 50 rfl)
   have s7 := Rega.eval_of q7
   have q19 : a9.tmps[19]? = some (.agg #[vU src, vU (n : Int)]) := hS 11 19 dc rfl (ltd 50 rfl)
   have s19 := Rega.eval_of q19
   have e0 : R9 L9 α 12 = row (α 12) 31 #[vU 0, vU 0] := by
    show rNS1T12 pb PC sb c n src L9 α = _
    unfold rNS1T12
    rw [if_neg (by rw [hL]; decide)]
   have hr := hG.rowAt 12 (act_new 12 rfl (hA 12 dc)) e0
   have c0 : u9.cell? ⟨α 12, 0, none⟩ = some (vU 0) := hr.cell rfl
   have y0 : u9.frozen? ⟨α 12, 0, none⟩ = false := hr.free (0)
   have c1 : u9.cell? ⟨α 12, 1, none⟩ = some (vU 0) := hr.cell rfl
   have y1 : u9.frozen? ⟨α 12, 1, none⟩ = false := hr.free (1)
   clear hr
   have E0 := Lib.hid e0
   clear e0
   go_simp
   have e1 : R9 (Rega.ran L9 13) α 12 = row (α 12) 31 #[vU src, vU (n : Int)] := by
    show rNS1T12 pb PC sb c n src (Rega.ran L9 13) α = _
    unfold rNS1T12
    rw [if_pos (show Rega.ran L9 13 13 = true from rfl)]
   exact hK _ α _ (fun _ _ => rfl) rfl (step_sets (st9) hL hcl rfl 12 rfl (act_new 12 rfl (hA 12 dc)) E0.out (0) [vU src, vU (n : Int)] (e1.trans rfl) hG)
 clear st9
 intro α u hG
 have e0 : R9 (fun k => decide (k < 14)) α 999 = row (pb) 252 PC := rfl
 have e1 : R9 (fun k => decide (k < 14)) α 12 = row (α 12) 31 #[vU src, vU (n : Int)] := by
  show rNS1T12 pb PC sb c n src (fun k => decide (k < 14)) α = _
  unfold rNS1T12
  rw [if_pos dc]
 have hO : Own w0 u [row (pb) 252 PC, row (α 12) 31 #[vU src, vU (n : Int)]] X9_3 := (hG.list [999, 12] dc (act_all dc)).conv (by
  show [R9 (fun k => decide (k < 14)) α 999, R9 (fun k => decide (k < 14)) α 12] = _
  rw [e0, e1])
 clear hG e0 e1 R9
 generalize hfr : Rega.frameAt _ _ _ _ _ = fr
 have hdf : fr = ⟨#[vP pb, v8 kd, .string nm, undef, undef, undef, vP B1, vP (α 12), vP pb, vP pb, .pointer (some ⟨pb, 57, none⟩), .pointer (some ⟨pb, 66, none⟩), vU src, vP pb, vP pb, .pointer (some ⟨pb, 106, none⟩), vS sb n (n + c), v6 (n : Int), vU (n : Int), .agg #[vU src, vU (n : Int)], undef, undef, undef, undef, undef, undef, undef, undef, undef, undef, undef, undef, undef, undef, undef, undef, undef, undef, undef, undef, undef, undef, undef, undef, undef, undef, undef, undef, undef, undef], []⟩ := by rw [← hfr]; kernel_rfl
 clear hfr
 subst hdf
 generalize α 12 = nd4 at hO ⊢
 clear α
 subst hX9_3
 replace hO : Own w0 u [row (pb) 252 PC, row (nd4) 31 #[vU src, vU (n : Int)], row (B1) 31 #[vU 0, vU 0], row (sb) 260 (full symZ (symL st) c)] X := hO.back HL.out HX.out [0, 2] dc dc
 clear HL HX
 have aA := hO.cell 0 rfl 32 hk32
 have aB := hO.cell 0 rfl 66 hk66
 have aC := hO.cell 0 rfl 106 hk106
 have aD := hO.lt 0 rfl
 have aE := hO.free 0 rfl
 obtain ⟨aJ, aK, aL, aM, -⟩ := hO.k2 1 rfl
 obtain ⟨aF, aG, aH, aI, -⟩ := hO.k2 2 rfl
 have HO := Lib.hid hO
 clear hO
 go_wp2_with (first | (with_reducible refine Own.stay (fn := Tryd.f38) ?_) | fail)
 try with_reducible refine Own.Stay.mk ?_
 have hO := HO.out
 clear HO aA aB aC aD aE aJ aK aL aM aF aG aH aI
 obtain ⟨HL, HX⟩ := hid2 hO
 have hP9 := hO.pick [0, 3] dc
 generalize hX9_5 : Own.Rest _ _ X = X9_5 at hP9
 replace hP9 : Own w0 u [row (pb) 252 PC, row (sb) 260 (full symZ (symL st) c)] X9_5 := hP9
 clear hO
 have hO := hP9
 clear hP9
 have st9 := rNS2_st pb PC sb c st n kd nm
 let R9 := rNS2R pb PC sb c st n kd nm
 refine wp_region_own (e := rNS2E pb PC sb c st n kd nm) (anc := rNS2Anc) (G := (fun L9 α u9 => OwnF w0 u9 (act rNS2Cnt 2 L9) (rNS2R pb PC sb c st n kd nm L9 α) X9_5)) (by kernel_rfl) (by kernel_rfl) (by kernel_rfl) (by kernel_rfl) (rNS2_he pb PC sb c st n kd nm) ?_ (RunsAll.all ?_) ?_
 ·have hp : ∀ i, act rNS2Cnt 2 (fun _ => false) i → i ∈ [999, 1999] := by
   intro i hi
   have h9 : i % 1000 = 999 := by
    by_cases h : i % 1000 = 999
    ·exact h
    ·exact absurd (act_lt hi h) (by simp)
   unfold act at hi
   rw [if_pos h9] at hi
   simp only [List.mem_cons, List.not_mem_nil, or_false]
   omega
  refine hO.drew.family (fun i hi => ?_) (fun i j hi hj hij => ?_)
  ·have := hp i hi
   simp only [List.mem_cons, List.not_mem_nil, or_false] at this
   rcases this with rfl | rfl <;> rfl
  ·have h1 := hp i hi
   have h2 := hp j hj
   simp only [List.mem_cons, List.not_mem_nil, or_false] at h1 h2
   omega
 ·refine ⟨?_, ?_, ?_, ?_, ?_, ?_, ?_, ?_, ?_, ?_, ?_, ?_, ?_, ?_, trivial⟩
  ·refine pur st9 rfl rfl fun L9 α a9 u9 K9 hL hcl hA hG hS h0 h1 hK => ?_
   have s0 := eS (vP pb) ((h0 0 (by kernel_rfl)).trans rfl)
   go_simp
   exact hK
  ·refine pur st9 rfl rfl fun L9 α a9 u9 K9 hL hcl hA hG hS h0 h1 hK => ?_
   have s0 := eS (vP pb) ((h0 0 (by kernel_rfl)).trans rfl)
   go_simp
   exact hK
  ·refine pur st9 rfl rfl fun L9 α a9 u9 K9 hL hcl hA hG hS h0 h1 hK => ?_
   have s21 := eS (vP pb) (hS 1 21 dc rfl (ltd 50 rfl))
   go_simp
   exact hK
  ·refine pur st9 rfl rfl fun L9 α a9 u9 K9 hL hcl hA hG hS h0 h1 hK => ?_
   have s22 := eS (vP pb) (hS 2 22 dc rfl (ltd 50 rfl))
   go_simp
   exact hK
  ·refine pur st9 rfl rfl fun L9 α a9 u9 K9 hL hcl hA hG hS h0 h1 hK => ?_
   replace hL : L9 4 = false := hL
   have s23 := eS (.pointer (some ⟨pb, 106, none⟩)) (hS 3 23 dc rfl (ltd 50 rfl))
   have e0 : R9 L9 α 999 = row (pb) 252 PC := by
    show rNS2T999 pb PC sb c st n kd nm L9 α = _
    unfold rNS2T999
    rw [if_neg (fun e => by have := hcl 13 e 4 dc; rw [hL] at this; cases this)]
   have hr := hG.rowAt 999 (act_base 999 rfl) e0
   have c0 : u9.cell? ⟨pb, 106, none⟩ = some (vS sb n (n + c)) := hr.cell (hk106)
   clear hr e0
   go_simp
   exact hK
  ·refine pur st9 rfl rfl fun L9 α a9 u9 K9 hL hcl hA hG hS h0 h1 hK => ?_
   have q1 : a9.tmps[1]? = some (v8 kd) := (h0 1 (by kernel_rfl)).trans rfl
   have s1 := Rega.eval_of q1
   go_simp
   exact hK
  ·refine pur st9 rfl rfl fun L9 α a9 u9 K9 hL hcl hA hG hS h0 h1 hK => ?_
   have q2 : a9.tmps[2]? = some (.string nm) := (h0 2 (by kernel_rfl)).trans rfl
   have s2 := Rega.eval_of q2
   go_simp
   exact hK
  ·refine pur st9 rfl rfl fun L9 α a9 u9 K9 hL hcl hA hG hS h0 h1 hK => ?_
   have c0 : u9.cell? ⟨0, 0, none⟩ = some (vU 4294967295) := Base.cell_below hG.below (Base.block_of_cell hg0) hg0
   have c1 : u9.cell? ⟨0, 1, none⟩ = some (vU 4294967295) := Base.cell_below hG.below (Base.block_of_cell hg1) hg1
   go_simp
   exact hK
  ·refine pur st9 rfl rfl fun L9 α a9 u9 K9 hL hcl hA hG hS h0 h1 hK => ?_
   have q25 : a9.tmps[25]? = some (v8 kd) := hS 5 25 dc rfl (ltd 50 rfl)
   have s25 := Rega.eval_of q25
   have q26 : a9.tmps[26]? = some (.string nm) := hS 6 26 dc rfl (ltd 50 rfl)
   have s26 := Rega.eval_of q26
   have q27 : a9.tmps[27]? = some (.agg #[vU 4294967295, vU 4294967295]) := hS 7 27 dc rfl (ltd 50 rfl)
   have s27 := Rega.eval_of q27
   go_simp
   exact hK
  ·intro L9 α a9 u9 K9 hL hcl hA hG hS h0 h1 hK
   replace hL : L9 9 = false := hL
   have q28 : a9.tmps[28]? = some (.agg #[vO, .string nm, vU 4294967295, vU 4294967295, vU 0, vU 0, vU 0, .int .u16 0, v8 kd, v8 0]) := hS 8 28 dc rfl (ltd 50 rfl)
   have s28 := Rega.eval_of q28
   go_simp
   exact hK _ (fun j => if j = 9 then u9.heap.size else α j) _ (fun j hj => if_neg (fun e => hj (by rw [e]))) rfl (step_alloc st9 hL hcl rfl rfl dc _ rfl hG)
  ·intro L9 α a9 u9 K9 hL hcl hA hG hS h0 h1 hK
   replace hL : L9 10 = false := hL
   have q24 : a9.tmps[24]? = some (vS sb n (n + c)) := hS 4 24 dc rfl (ltd 50 rfl)
   have s24 := Rega.eval_of q24
   have q29 : a9.tmps[29]? = some (vS (α 9) 1 1) := hS 9 29 dc rfl (ltd 50 rfl)
   have s29 := Rega.eval_of q29
   simp only [Region.wanted, if_true]
   have e0 : R9 L9 α 1999 = row (sb) 260 (full symZ (symL st) c) := by
    show rNS2T1999 pb PC sb c st n kd nm L9 α = _
    unfold rNS2T1999
    rw [if_neg (by rw [hL]; decide)]
   have e1 : R9 L9 α 9 = row (α 9) 260 #[vO, .string nm, vU 4294967295, vU 4294967295, vU 0, vU 0, vU 0, .int .u16 0, v8 kd, v8 0] := rfl
   have hM : ∀ i, i ∈ [1999, 9] → act rNS2Cnt 2 L9 i := by
    intro i hi
    simp only [List.mem_cons, List.not_mem_nil, or_false] at hi
    rcases hi with rfl | rfl
    ·exact act_base 1999 rfl
    ·exact act_new 9 rfl (hA 9 dc)
   have hP : Own w0 u9 [row (sb) 260 (full symZ (symL st) c), row (α 9) 260 #[vO, .string nm, vU 4294967295, vU 4294967295, vU 0, vU 0, vU 0, .int .u16 0, v8 kd, v8 0]] _ := (hG.pick [1999, 9] dc hM).conv (by
    show [R9 L9 α 1999, R9 L9 α 9] = _
    rw [e0, e1])
   clear e0 e1 hM
   obtain ⟨i9, hi9, z1, z2, z3⟩ := info_parts infoSym
   refine wp_append_full (Operand.tmp 24) (Operand.tmp 29) 199 rfl 260 i9 (.agg symZ) 10 48 Tryd.underlying199 hi9 z1 z2 z3 rfl dc hP s24 s29 (by first | rfl | assumption | (simp; done) | (simp; omega)) (by first | rfl | assumption | omega) rfl (oneAll rfl) (by first | decide | omega | (unfold maxLen; omega)) (by first | decide | omega | (unfold maxLen; omega)) ?_
   intro b0 b1 u1 hQ
   obtain ⟨α', hα'⟩ : ∃ α' : Rega.Atoms, α' = (fun j => if j = 10 then b0 else if j = 1010 then b1 else α j) := ⟨_, rfl⟩
   have f0 : R9 (Rega.ran L9 10) α' 1999 = row (α' 10) 260 (full symZ ((symL st) ++ [vO, .string nm, vU 4294967295, vU 4294967295, vU 0, vU 0, vU 0, .int .u16 0, v8 kd, v8 0]) (α' 1010)) := by
    show rNS2T1999 pb PC sb c st n kd nm (Rega.ran L9 10) α' = _
    unfold rNS2T1999
    rw [if_pos (show Rega.ran L9 10 10 = true from rfl)]
   have f1 : R9 (Rega.ran L9 10) α' 9 = row (α' 9) 260 #[vO, .string nm, vU 4294967295, vU 4294967295, vU 0, vU 0, vU 0, .int .u16 0, v8 kd, v8 0] := rfl
   have hα : ∀ j, j % 1000 ≠ 10 → α' j = α j := fun j hj => by rw [hα']; simp only []; rw [if_neg (by omega), if_neg (by omega)]
   have hb0 : α' 10 = b0 := by rw [hα']; rfl
   have hb1 : α' 1010 = b1 := by rw [hα']; rfl
   have ha9 : α' 9 = α 9 := hα 9 dc
   refine hK _ α' _ hα ?_ (step_call (st9) hL hcl hα [1999, 9] [1999, 9] dc dc dc (M := _) ?_ hG hQ)
   ·show _ = (vS (α' 10) (n + 1) (n + 1 + α' 1010) : Value)
    simp only [hb0, hb1]
   ·show [R9 (Rega.ran L9 10) α' 1999, R9 (Rega.ran L9 10) α' 9] = _
    rw [f0, f1]
    simp only [hb0, hb1, ha9]
    try rfl
  ·refine pur st9 rfl rfl fun L9 α a9 u9 K9 hL hcl hA hG hS h0 h1 hK => ?_
   have s20 := eS (vP pb) (hS 0 20 dc rfl (ltd 50 rfl))
   go_simp
   exact hK
  ·refine pur st9 rfl rfl fun L9 α a9 u9 K9 hL hcl hA hG hS h0 h1 hK => ?_
   have s31 := eS (vP pb) (hS 11 31 dc rfl (ltd 50 rfl))
   go_simp
   exact hK
  ·intro L9 α a9 u9 K9 hL hcl hA hG hS h0 h1 hK
   replace hL : L9 13 = false := hL
   have q32 : a9.tmps[32]? = some (.pointer (some ⟨pb, 106, none⟩)) := hS 12 32 dc rfl (ltd 50 rfl)
   have s32 := Rega.eval_of q32
   have q30 : a9.tmps[30]? = some (vS (α 10) (n + 1) (n + 1 + α 1010)) := hS 10 30 dc rfl (ltd 50 rfl)
   have s30 := Rega.eval_of q30
   have e0 : R9 L9 α 999 = row (pb) 252 PC := by
    show rNS2T999 pb PC sb c st n kd nm L9 α = _
    unfold rNS2T999
    rw [if_neg (by rw [hL]; decide)]
   have hr := hG.rowAt 999 (act_base 999 rfl) e0
   have c0 : u9.cell? ⟨pb, 106, none⟩ = some (vS sb n (n + c)) := hr.cell (hk106)
   have y0 : u9.frozen? ⟨pb, 106, none⟩ = false := hr.free (106)
   clear hr
   have E0 := Lib.hid e0
   clear e0
   go_simp
   have e1 : R9 (Rega.ran L9 13) α 999 = row (pb) 252 (PC.setIfInBounds 106 (vS (α 10) (n + 1) (n + 1 + α 1010))) := by
    show rNS2T999 pb PC sb c st n kd nm (Rega.ran L9 13) α = _
    unfold rNS2T999
    rw [if_pos (show Rega.ran L9 13 13 = true from rfl)]
   exact hK _ α _ (fun _ _ => rfl) rfl (step_sets (st9) hL hcl rfl 999 rfl (act_base 999 rfl) E0.out (106) [vS (α 10) (n + 1) (n + 1 + α 1010)] (e1.trans rfl) hG)
 clear st9
 intro α u hG
 have e0 : R9 (fun k => decide (k < 14)) α 999 = row (pb) 252 (PC.setIfInBounds 106 (vS (α 10) (n + 1) (n + 1 + α 1010))) := by
  show rNS2T999 pb PC sb c st n kd nm (fun k => decide (k < 14)) α = _
  unfold rNS2T999
  rw [if_pos dc]
 have e1 : R9 (fun k => decide (k < 14)) α 1999 = row (α 10) 260 (full symZ ((symL st) ++ [vO, .string nm, vU 4294967295, vU 4294967295, vU 0, vU 0, vU 0, .int .u16 0, v8 kd, v8 0]) (α 1010)) := by
  show rNS2T1999 pb PC sb c st n kd nm (fun k => decide (k < 14)) α = _
  unfold rNS2T1999
  rw [if_pos dc]
 have e2 : R9 (fun k => decide (k < 14)) α 9 = row (α 9) 260 #[vO, .string nm, vU 4294967295, vU 4294967295, vU 0, vU 0, vU 0, .int .u16 0, v8 kd, v8 0] := rfl
 have hO : Own w0 u [row (pb) 252 (PC.setIfInBounds 106 (vS (α 10) (n + 1) (n + 1 + α 1010))), row (α 10) 260 (full symZ ((symL st) ++ [vO, .string nm, vU 4294967295, vU 4294967295, vU 0, vU 0, vU 0, .int .u16 0, v8 kd, v8 0]) (α 1010)), row (α 9) 260 #[vO, .string nm, vU 4294967295, vU 4294967295, vU 0, vU 0, vU 0, .int .u16 0, v8 kd, v8 0]] X9_5 := (hG.list [999, 1999, 9] dc (act_all dc)).conv (by
  show [R9 (fun k => decide (k < 14)) α 999, R9 (fun k => decide (k < 14)) α 1999, R9 (fun k => decide (k < 14)) α 9] = _
  rw [e0, e1, e2])
 clear hG e0 e1 e2 R9
 generalize hfr : Rega.frameAt _ _ _ _ _ = fr
 have hdf : fr = ⟨#[vP pb, v8 kd, .string nm, undef, undef, undef, vP B1, vP nd4, vP pb, vP pb, .pointer (some ⟨pb, 57, none⟩), .pointer (some ⟨pb, 66, none⟩), vU src, vP pb, vP pb, .pointer (some ⟨pb, 106, none⟩), vS sb n (n + c), v6 (n : Int), vU (n : Int), .agg #[vU src, vU (n : Int)], vP pb, vP pb, vP pb, .pointer (some ⟨pb, 106, none⟩), vS sb n (n + c), v8 kd, .string nm, .agg #[vU 4294967295, vU 4294967295], .agg #[vO, .string nm, vU 4294967295, vU 4294967295, vU 0, vU 0, vU 0, .int .u16 0, v8 kd, v8 0], vS (α 9) 1 1, vS (α 10) (n + 1) (n + 1 + α 1010), vP pb, .pointer (some ⟨pb, 106, none⟩), undef, undef, undef, undef, undef, undef, undef, undef, undef, undef, undef, undef, undef, undef, undef, undef, undef], []⟩ := by rw [← hfr]; kernel_rfl
 clear hfr
 subst hdf
 generalize α 9 = nd6 at hO ⊢
 generalize α 10 = nd7 at hO ⊢
 generalize α 1010 = nd8 at hO ⊢
 clear α
 subst hX9_5
 replace hO : Own w0 u [row (pb) 252 (PC.setIfInBounds 106 (vS nd7 (n + 1) (n + 1 + nd8))), row (nd7) 260 (full symZ ((symL st) ++ [vO, .string nm, vU 4294967295, vU 4294967295, vU 0, vU 0, vU 0, .int .u16 0, v8 kd, v8 0]) (nd8)), row (nd6) 260 #[vO, .string nm, vU 4294967295, vU 4294967295, vU 0, vU 0, vU 0, .int .u16 0, v8 kd, v8 0], row (nd4) 31 #[vU src, vU (n : Int)], row (B1) 31 #[vU 0, vU 0]] X := hO.back HL.out HX.out [1, 2] dc dc
 clear HL HX
 have aA : u.cell? ⟨pb, 32, none⟩ = some (bF) := hO.cell 0 rfl (32) ((get_other hk32 (by omega) _))
 have aB : u.cell? ⟨pb, 66, none⟩ = some (vU src) := hO.cell 0 rfl (66) ((get_other hk66 (by omega) _))
 have aC : u.cell? ⟨pb, 106, none⟩ = some (vS nd7 (n + 1) (n + 1 + nd8)) := hO.cell 0 rfl (106) ((get_set hk106 _))
 have aD := hO.lt 0 rfl
 have aE := hO.free 0 rfl
 obtain ⟨aF, aG, aN, aO, aP, aQ, aR, aS, aT, aU, aH, aI, -⟩ := hO.k10 2 rfl
 obtain ⟨aV, aW, aX, aY, -⟩ := hO.k2 3 rfl
 obtain ⟨aZ, aa, ab, ac, -⟩ := hO.k2 4 rfl
 have HO := Lib.hid hO
 clear hO
 go_wp2_with (first | (with_reducible refine Own.stay (fn := Tryd.f38) ?_) | fail)
 try with_reducible refine Own.Stay.mk ?_
 have hO := HO.out
 clear HO aA aB aC aD aE aF aG aN aO aP aQ aR aS aT aU aH aI aV aW aX aY aZ aa ab ac
 generalize hW : World.setCell _ _ _ = W10
 have hN : Own w0 W10 [row (pb) 252 (PC.setIfInBounds 106 (vS nd7 (n + 1) (n + 1 + nd8))), row (nd7) 260 (full symZ ((symL st) ++ [vO, .string nm, vU 4294967295, vU 4294967295, vU 0, vU 0, vU 0, .int .u16 0, v8 kd, v8 0]) (nd8)), row (nd6) 260 #[vO, .string nm, vU 4294967295, vU 4294967295, vU 0, vU 0, vU 0, .int .u16 0, v8 kd, v8 0], row (nd4) 31 #[vU src, vU (n : Int)], row (B1) 31 #[vU src, vU (n : Int)]] X := by
  rw [← hW]
  exact ((hO).set 4 rfl 0 _).set 4 rfl 1 _
 clear hW hO
 have hO := hN
 clear hN
 replace hO : Own w0 W10 [row (pb) 252 (PC.setIfInBounds 106 (vS nd7 (n + 1) (n + 1 + nd8))), row (nd7) 260 (full symZ (symL (st ++ [syk nm kd])) (nd8)), row (nd6) 260 #[vO, .string nm, vU 4294967295, vU 4294967295, vU 0, vU 0, vU 0, .int .u16 0, v8 kd, v8 0], row (nd4) 31 #[vU src, vU (n : Int)], row (B1) 31 #[vU src, vU (n : Int)]] X := hO.conv (by rw [symL_append]; rfl)
 have z9_4_0 : W10.cell? ⟨B1, 0, none⟩ = some (vU src) := hO.cell 4 rfl 0 rfl
 have z9_4_1 : W10.cell? ⟨B1, 1, none⟩ = some (vU (n : Int)) := hO.cell 4 rfl 1 rfl
 refine bodyPost_ret (v := .agg #[vU src, vU (n : Int)]) ?_ rfl ⟨nd7, nd8, rfl, hO.sub [0, 1] dc⟩
 simp [results, Tryd.results38, go_sem, z9_4_0, z9_4_1]
end Go.Proofs.YtikopplofkemlaaDoor.Use
