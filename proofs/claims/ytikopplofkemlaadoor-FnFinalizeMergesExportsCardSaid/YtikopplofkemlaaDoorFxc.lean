/- finalize's closure over exports, and its callers. No condition. -/
import Derived.Test.YtikopplofkemlaaDoorNdx
namespace Go.Proofs.YtikopplofkemlaaDoor.Use
open Go.ChangeShapes Go.WideShapes Go.ChangeAt Go.RowKit Go.Sort Own
set_option linter.unusedVariables false
noncomputable def rfxc0a1E (pb : Nat) (PC : Array Value) (sb : Nat) (c : Nat) (st : List Sy) (n : Nat) (e10 : Nat) (x5 : Nat) (bd : Nat) (lc : Int) (i : Nat) (nm : ByteArray) (B1 : Nat) : Nat → Rega.Atoms → Value
 | 0, α => vN
 | 1, α => vP pb
 | 2, α => vP pb
 | 3, α => .pointer (some ⟨pb, 106, none⟩)
 | 4, α => vS sb n (n + c)
 | 5, α => vP bd
 | 6, α => vP bd
 | 7, α => vP bd
 | 8, α => .pointer (some ⟨bd, 1, none⟩)
 | 9, α => vU (i : Int)
 | 10, α => .pointer (some ⟨sb, i * 10, none⟩)
 | 11, α => .pointer (some ⟨sb, i * 10 + 1, none⟩)
 | 12, α => .string nm
 | 13, α => .agg #[vI lc]
 | 14, α => .agg #[vI lc]
 | 15, α => vP bd
 | 16, α => vP bd
 | 17, α => vP bd
 | 18, α => .agg #[vU 0, vU (i : Int)]
 | 19, α => .agg #[vI lc, vU 0, vU (i : Int)]
 | 20, α => .agg #[.string nm, .string ⟨#[]⟩, vI lc, vI lc, vU 0, vU (i : Int)]
 | 21, α => vS (α 21) 1 1
 | 22, α => vS (α 22) 1 (1 + α 1022)
 | 23, α => undef
 | _, _ => undef
noncomputable def rfxc0a1Anc : Nat → List Nat
 | 2 => [1]
 | 3 => [1, 2]
 | 4 => [1, 2, 3]
 | 6 => [5]
 | 7 => [5, 6]
 | 8 => [5, 6, 7]
 | 9 => [5, 6, 7, 8]
 | 10 => [1, 2, 3, 4, 5, 6, 7, 8, 9]
 | 11 => [1, 2, 3, 4, 5, 6, 7, 8, 9, 10]
 | 12 => [1, 2, 3, 4, 5, 6, 7, 8, 9, 10, 11]
 | 16 => [15]
 | 17 => [15, 16]
 | 18 => [15, 16, 17]
 | 19 => [14, 15, 16, 17, 18]
 | 20 => [1, 2, 3, 4, 5, 6, 7, 8, 9, 10, 11, 12, 13, 14, 15, 16, 17, 18, 19]
 | 21 => [1, 2, 3, 4, 5, 6, 7, 8, 9, 10, 11, 12, 13, 14, 15, 16, 17, 18, 19, 20]
 | 22 => [0, 1, 2, 3, 4, 5, 6, 7, 8, 9, 10, 11, 12, 13, 14, 15, 16, 17, 18, 19, 20, 21]
 | 23 => [0, 1, 2, 3, 4, 5, 6, 7, 8, 9, 10, 11, 12, 13, 14, 15, 16, 17, 18, 19, 20, 21, 22]
 | _ => []
noncomputable def rfxc0a1Trn : Nat → List Nat
 | 23 => [1999]
 | _ => []
noncomputable def rfxc0a1Cnt : List (Nat × Nat) := [(21, 1), (22, 1)]
noncomputable def rfxc0a1T1999 (pb : Nat) (PC : Array Value) (sb : Nat) (c : Nat) (st : List Sy) (n : Nat) (e10 : Nat) (x5 : Nat) (bd : Nat) (lc : Int) (i : Nat) (nm : ByteArray) (B1 : Nat) (L9 : Nat → Bool) (α : Rega.Atoms) : Rw := if L9 23 = true then row (e10) 77 #[vS (α 22) 1 (1 + α 1022)] else row (e10) 77 #[vN]
noncomputable def rfxc0a1R (pb : Nat) (PC : Array Value) (sb : Nat) (c : Nat) (st : List Sy) (n : Nat) (e10 : Nat) (x5 : Nat) (bd : Nat) (lc : Int) (i : Nat) (nm : ByteArray) (B1 : Nat) (L9 : Nat → Bool) (α : Rega.Atoms) (ix9 : Nat) : Rw := if ix9 = 999 then row (B1) 28 #[vI lc] else if ix9 = 1999 then rfxc0a1T1999 pb PC sb c st n e10 x5 bd lc i nm B1 L9 α else if ix9 = 2999 then row (x5) 25 #[vP pb] else if ix9 = 3999 then row (bd) 136 #[vU 0, vU (i : Int)] else if ix9 = 4999 then row (pb) 252 PC else if ix9 = 5999 then row (sb) 260 (full symZ (symL st) c) else if ix9 = 21 then row (α 21) 83 #[.string nm, .string ⟨#[]⟩, vI lc, vI lc, vU 0, vU (i : Int)] else if ix9 = 22 then row (α 22) 83 (full cliZ [.string nm, .string ⟨#[]⟩, vI lc, vI lc, vU 0, vU (i : Int)] (α 1022)) else (0, .map #[] 0)
theorem rfxc0a1_he (pb : Nat) (PC : Array Value) (sb : Nat) (c : Nat) (st : List Sy) (n : Nat) (e10 : Nat) (x5 : Nat) (bd : Nat) (lc : Int) (i : Nat) (nm : ByteArray) (B1 : Nat) : ∀ kk α α', (∀ j, (j % 1000 = kk ∨ j % 1000 ∈ rfxc0a1Anc kk) → α j = α' j) → rfxc0a1E pb PC sb c st n e10 x5 bd lc i nm B1 kk α = rfxc0a1E pb PC sb c st n e10 x5 bd lc i nm B1 kk α' := by
 intro kk α α' h
 match kk with
 | 0 => rfl
 | 1 => rfl
 | 2 => rfl
 | 3 => rfl
 | 4 => rfl
 | 5 => rfl
 | 6 => rfl
 | 7 => rfl
 | 8 => rfl
 | 9 => rfl
 | 10 => rfl
 | 11 => rfl
 | 12 => rfl
 | 13 => rfl
 | 14 => rfl
 | 15 => rfl
 | 16 => rfl
 | 17 => rfl
 | 18 => rfl
 | 19 => rfl
 | 20 => rfl
 | 21 => simp only [rfxc0a1E, h 21 (Or.inl rfl)]
 | 22 => simp only [rfxc0a1E, h 22 (Or.inl rfl), h 1022 (Or.inl rfl)]
 | 23 => rfl
 | n + 24 => rfl
theorem rfxc0a1_st (pb : Nat) (PC : Array Value) (sb : Nat) (c : Nat) (st : List Sy) (n : Nat) (e10 : Nat) (x5 : Nat) (bd : Nat) (lc : Int) (i : Nat) (nm : ByteArray) (B1 : Nat) : Stable rfxc0a1Cnt 6 rfxc0a1Anc rfxc0a1Trn (rfxc0a1R pb PC sb c st n e10 x5 bd lc i nm B1) := by
 intro k9 L9 α α' ix9 hk hcl hα hact ht
 have hp := act_places hact
 replace hp : ix9 ∈ [999, 1999, 2999, 3999, 4999, 5999, 21, 22] := hp
 simp only [List.mem_cons, List.not_mem_nil, or_false] at hp
 rcases hp with rfl | rfl | rfl | rfl | rfl | rfl | rfl | rfl
 ·rfl
 ·show rfxc0a1T1999 pb PC sb c st n e10 x5 bd lc i nm B1 (Rega.ran L9 k9) α' = rfxc0a1T1999 pb PC sb c st n e10 x5 bd lc i nm B1 L9 α
  unfold rfxc0a1T1999
  have n23 : 23 ≠ k9 := fun e => ht (by rw [← e]; decide)
  rw [ran_ne n23]
  by_cases e23 : L9 23 = true
  ·first | rw [if_pos e23, if_pos e23] | rw [if_pos e23]
   try simp only [hα 22 (ne_ran hk (hcl 23 e23 22 dc)), hα 1022 (ne_ran hk (hcl 23 e23 22 dc))]
  first | rw [if_neg e23, if_neg e23] | rw [if_neg e23]
 ·rfl
 ·rfl
 ·rfl
 ·rfl
 ·have e0 : L9 21 = true := act_lt hact dc
  show row (α' 21) 83 #[.string nm, .string ⟨#[]⟩, vI lc, vI lc, vU 0, vU (i : Int)] = row (α 21) 83 #[.string nm, .string ⟨#[]⟩, vI lc, vI lc, vU 0, vU (i : Int)]
  simp only [hα 21 (ne_ran hk e0)]
 ·have e0 : L9 22 = true := act_lt hact dc
  show row (α' 22) 83 (full cliZ [.string nm, .string ⟨#[]⟩, vI lc, vI lc, vU 0, vU (i : Int)] (α' 1022)) = row (α 22) 83 (full cliZ [.string nm, .string ⟨#[]⟩, vI lc, vI lc, vU 0, vU (i : Int)] (α 1022))
  simp only [hα 22 (ne_ran hk e0), hα 1022 (ne_ran hk e0)]
def fxc0Post (pb : Nat) (PC : Array Value) (sb c : Nat) (st : List Sy) (n e10 x5 sx ad dd bd : Nat) (lc : Int) (i : Nat) (nm : ByteArray) (w0 : World) (X : Nat → Obj → Prop) (e : Ending) (w' : World) : Prop :=
 ∃ xb2 : Nat, ∃ xc2 : Nat, e = .returned (.tuple #[]) ∧ Own w0 w' [row (e10) 77 #[vS xb2 1 (1 + xc2)], row (x5) 25 #[vP pb], row (sx) 42 #[vP ad], row (bd) 136 #[vU 0, vU (i : Int)], row (ad) 57 #[vS dd 1 1, v8 0, .bool true, bF], row (pb) 252 PC, row (sb) 260 (full symZ (symL st) c), row (xb2) 83 (full cliZ ([.string nm, .string ⟨#[]⟩, vI lc, vI lc, vU 0, vU (i : Int)]) xc2)] X
set_option maxRecDepth 100000 in
set_option maxHeartbeats 1000000 in
theorem fxc0 (pb : Nat) (PC : Array Value) (sb c : Nat) (st : List Sy) (n e10 x5 sx ad dd bd : Nat) (lc : Int) (i : Nat) (nm : ByteArray) (w0 w : World) (X : Nat → Obj → Prop) (hO : Own w0 w [row (e10) 77 #[vN], row (x5) 25 #[vP pb], row (sx) 42 #[vP ad], row (bd) 136 #[vU 0, vU (i : Int)], row (ad) 57 #[vS dd 1 1, v8 1, .bool true, bF], row (pb) 252 PC, row (sb) 260 (full symZ (symL st) c)] X) (hk106 : PC[106]? = some (vS sb n (n + c))) (hn : st.length = n) (hnb : n ≤ 100000) (hnm9 : ∃ y : Sy, st[i]? = some y ∧ y.nm = nm) :
  Calls Tryd.prog 45 #[.agg #[vI lc], vP bd, vP e10, vP x5, vP sx] w (fxc0Post pb PC sb c st n e10 x5 sx ad dd bd lc i nm w0 X) := by
 obtain ⟨y, hy, hynm⟩ := hnm9
 have hi : i < n := by rw [← hn]; exact (List.getElem?_eq_some_iff.1 hy).1
 have hi9 : (i : Int) < (n : Int) := by omega
 have hi8 : (0 : Int) ≤ (i : Int) := by omega
 have hyv : (symL st)[i * 10 + 1]? = some (.string nm) := by rw [← hynm]; exact symL_at st i y 1 _ hy rfl
 clear hy hynm
 go_enter Tryd.func45, Tryd.ntmps45
 obtain ⟨aA, aB, aC, -⟩ := hO.k1 0 rfl
 obtain ⟨aD, aE, aF, -⟩ := hO.k1 1 rfl
 obtain ⟨aG, aH, aI, -⟩ := hO.k1 2 rfl
 obtain ⟨aJ, aK, aL, aM, -⟩ := hO.k2 3 rfl
 obtain ⟨aN, aO, aP, aQ, aR, aS, -⟩ := hO.k4 4 rfl
 have HO := Lib.hid hO
 clear hO
 go_wp2_with (first | (with_reducible refine Own.stay (fn := Tryd.f45) ?_) | fail)
 try with_reducible refine Own.Stay.mk ?_
 have hO := HO.out
 clear HO aA aB aC aD aE aF aG aH aI aJ aK aL aM aN aO aP aQ aR aS
 generalize hW : World.alloc _ _ = W2
 have hN : Own w0 W2 [row (w.heap.size) 28 #[vI lc], row (e10) 77 #[vN], row (x5) 25 #[vP pb], row (sx) 42 #[vP ad], row (bd) 136 #[vU 0, vU (i : Int)], row (ad) 57 #[vS dd 1 1, v8 1, .bool true, bF], row (pb) 252 PC, row (sb) 260 (full symZ (symL st) c)] X := by
  rw [← hW]
  exact (hO).alloc' _ (w.heap.size) (by simp)
 clear hW hO
 generalize w.heap.size = B1 at hN ⊢
 have hO := hN
 clear hN
 obtain ⟨HL, HX⟩ := hid2 hO
 have hP9 := hO.pick [0, 1, 2, 4, 6, 7] dc
 generalize hX9_3 : Own.Rest _ _ X = X9_3 at hP9
 replace hP9 : Own w0 W2 [row (B1) 28 #[vI lc], row (e10) 77 #[vN], row (x5) 25 #[vP pb], row (bd) 136 #[vU 0, vU (i : Int)], row (pb) 252 PC, row (sb) 260 (full symZ (symL st) c)] X9_3 := hP9
 clear hO
 have hO := hP9
 clear hP9
 have st9 := rfxc0a1_st pb PC sb c st n e10 x5 bd lc i nm B1
 let R9 := rfxc0a1R pb PC sb c st n e10 x5 bd lc i nm B1
 refine wp_region_own (e := rfxc0a1E pb PC sb c st n e10 x5 bd lc i nm B1) (anc := rfxc0a1Anc) (G := (fun L9 α u9 => OwnF w0 u9 (act rfxc0a1Cnt 6 L9) (rfxc0a1R pb PC sb c st n e10 x5 bd lc i nm B1 L9 α) X9_3)) (by kernel_rfl) (by kernel_rfl) (by kernel_rfl) (by kernel_rfl) (rfxc0a1_he pb PC sb c st n e10 x5 bd lc i nm B1) ?_ (RunsAll.all ?_) ?_
 ·have hp : ∀ i, act rfxc0a1Cnt 6 (fun _ => false) i → i ∈ [999, 1999, 2999, 3999, 4999, 5999] := by
   intro i hi
   have h9 : i % 1000 = 999 := by
    by_cases h : i % 1000 = 999
    ·exact h
    ·exact absurd (act_lt hi h) (by simp)
   unfold act at hi
   rw [if_pos h9] at hi
   simp only [List.mem_cons, List.not_mem_nil, or_false]
   omega
  refine hO.drew.family (fun i hi => ?_) (fun i j hi hj hij => ?_)
  ·have := hp i hi
   simp only [List.mem_cons, List.not_mem_nil, or_false] at this
   rcases this with rfl | rfl | rfl | rfl | rfl | rfl <;> rfl
  ·have h1 := hp i hi
   have h2 := hp j hj
   simp only [List.mem_cons, List.not_mem_nil, or_false] at h1 h2
   omega
 ·refine ⟨?_, ?_, ?_, ?_, ?_, ?_, ?_, ?_, ?_, ?_, ?_, ?_, ?_, ?_, ?_, ?_, ?_, ?_, ?_, ?_, ?_, ?_, ?_, ?_, trivial⟩
  ·refine pur st9 rfl rfl fun L9 α a9 u9 K9 hL hcl hA hG hS h0 h1 hK => ?_
   replace hL : L9 0 = false := hL
   have s2 := eS (vP e10) ((h0 2 (by kernel_rfl)).trans rfl)
   have e0 : R9 L9 α 1999 = row (e10) 77 #[vN] := by
    show rfxc0a1T1999 pb PC sb c st n e10 x5 bd lc i nm B1 L9 α = _
    unfold rfxc0a1T1999
    rw [if_neg (fun e => by have := hcl 23 e 0 dc; rw [hL] at this; cases this)]
   have hr := hG.rowAt 1999 (act_base 1999 rfl) e0
   have c0 : u9.cell? ⟨e10, 0, none⟩ = some (vN) := hr.cell rfl
   clear hr e0
   go_simp
   exact hK
  ·refine pur st9 rfl rfl fun L9 α a9 u9 K9 hL hcl hA hG hS h0 h1 hK => ?_
   have s3 := eS (vP x5) ((h0 3 (by kernel_rfl)).trans rfl)
   have e0 : R9 L9 α 2999 = row (x5) 25 #[vP pb] := rfl
   have hr := hG.rowAt 2999 (act_base 2999 rfl) e0
   have c0 : u9.cell? ⟨x5, 0, none⟩ = some (vP pb) := hr.cell rfl
   clear hr e0
   go_simp
   exact hK
  ·refine pur st9 rfl rfl fun L9 α a9 u9 K9 hL hcl hA hG hS h0 h1 hK => ?_
   have s8 := eS (vP pb) (hS 1 8 dc rfl (ltd 33 rfl))
   go_simp
   exact hK
  ·refine pur st9 rfl rfl fun L9 α a9 u9 K9 hL hcl hA hG hS h0 h1 hK => ?_
   have s9 := eS (vP pb) (hS 2 9 dc rfl (ltd 33 rfl))
   go_simp
   exact hK
  ·refine pur st9 rfl rfl fun L9 α a9 u9 K9 hL hcl hA hG hS h0 h1 hK => ?_
   have s10 := eS (.pointer (some ⟨pb, 106, none⟩)) (hS 3 10 dc rfl (ltd 33 rfl))
   have e0 : R9 L9 α 4999 = row (pb) 252 PC := rfl
   have hr := hG.rowAt 4999 (act_base 4999 rfl) e0
   have c0 : u9.cell? ⟨pb, 106, none⟩ = some (vS sb n (n + c)) := hr.cell (hk106)
   clear hr e0
   go_simp
   exact hK
  ·refine pur st9 rfl rfl fun L9 α a9 u9 K9 hL hcl hA hG hS h0 h1 hK => ?_
   have s1 := eS (vP bd) ((h0 1 (by kernel_rfl)).trans rfl)
   go_simp
   exact hK
  ·refine pur st9 rfl rfl fun L9 α a9 u9 K9 hL hcl hA hG hS h0 h1 hK => ?_
   have s12 := eS (vP bd) (hS 5 12 dc rfl (ltd 33 rfl))
   go_simp
   exact hK
  ·refine pur st9 rfl rfl fun L9 α a9 u9 K9 hL hcl hA hG hS h0 h1 hK => ?_
   have s13 := eS (vP bd) (hS 6 13 dc rfl (ltd 33 rfl))
   go_simp
   exact hK
  ·refine pur st9 rfl rfl fun L9 α a9 u9 K9 hL hcl hA hG hS h0 h1 hK => ?_
   have s14 := eS (vP bd) (hS 7 14 dc rfl (ltd 33 rfl))
   go_simp
   exact hK
  ·refine pur st9 rfl rfl fun L9 α a9 u9 K9 hL hcl hA hG hS h0 h1 hK => ?_
   have s15 := eS (.pointer (some ⟨bd, 1, none⟩)) (hS 8 15 dc rfl (ltd 33 rfl))
   have e0 : R9 L9 α 3999 = row (bd) 136 #[vU 0, vU (i : Int)] := rfl
   have hr := hG.rowAt 3999 (act_base 3999 rfl) e0
   have c0 : u9.cell? ⟨bd, 1, none⟩ = some (vU (i : Int)) := hr.cell rfl
   clear hr e0
   go_simp
   exact hK
  ·refine pur st9 rfl rfl fun L9 α a9 u9 K9 hL hcl hA hG hS h0 h1 hK => ?_
   have q11 : a9.tmps[11]? = some (vS sb n (n + c)) := hS 4 11 dc rfl (ltd 33 rfl)
   have s11 := Rega.eval_of q11
   have q16 : a9.tmps[16]? = some (vU (i : Int)) := hS 9 16 dc rfl (ltd 33 rfl)
   have s16 := Rega.eval_of q16
   go_simp
   exact hK
  ·refine pur st9 rfl rfl fun L9 α a9 u9 K9 hL hcl hA hG hS h0 h1 hK => ?_
   have s17 := eS (.pointer (some ⟨sb, i * 10, none⟩)) (hS 10 17 dc rfl (ltd 33 rfl))
   go_simp
   exact hK
  ·refine pur st9 rfl rfl fun L9 α a9 u9 K9 hL hcl hA hG hS h0 h1 hK => ?_
   have s18 := eS (.pointer (some ⟨sb, i * 10 + 1, none⟩)) (hS 11 18 dc rfl (ltd 33 rfl))
   have e0 : R9 L9 α 5999 = row (sb) 260 (full symZ (symL st) c) := rfl
   have hr := hG.rowAt 5999 (act_base 5999 rfl) e0
   have c0 : u9.cell? ⟨sb, i * 10 + 1, none⟩ = some (.string nm) := hr.cell ((full_at hyv))
   clear hr e0
   go_simp
   exact hK
  ·refine pur st9 rfl rfl fun L9 α a9 u9 K9 hL hcl hA hG hS h0 h1 hK => ?_
   have s5 := eS (vP B1) ((h0 5 (by kernel_rfl)).trans rfl)
   have e0 : R9 L9 α 999 = row (B1) 28 #[vI lc] := rfl
   have hr := hG.rowAt 999 (act_base 999 rfl) e0
   have c0 : u9.cell? ⟨B1, 0, none⟩ = some (vI lc) := hr.cell rfl
   clear hr e0
   go_simp
   exact hK
  ·refine pur st9 rfl rfl fun L9 α a9 u9 K9 hL hcl hA hG hS h0 h1 hK => ?_
   have s5 := eS (vP B1) ((h0 5 (by kernel_rfl)).trans rfl)
   have e0 : R9 L9 α 999 = row (B1) 28 #[vI lc] := rfl
   have hr := hG.rowAt 999 (act_base 999 rfl) e0
   have c0 : u9.cell? ⟨B1, 0, none⟩ = some (vI lc) := hr.cell rfl
   clear hr e0
   go_simp
   exact hK
  ·refine pur st9 rfl rfl fun L9 α a9 u9 K9 hL hcl hA hG hS h0 h1 hK => ?_
   have s1 := eS (vP bd) ((h0 1 (by kernel_rfl)).trans rfl)
   go_simp
   exact hK
  ·refine pur st9 rfl rfl fun L9 α a9 u9 K9 hL hcl hA hG hS h0 h1 hK => ?_
   have s22 := eS (vP bd) (hS 15 22 dc rfl (ltd 33 rfl))
   go_simp
   exact hK
  ·refine pur st9 rfl rfl fun L9 α a9 u9 K9 hL hcl hA hG hS h0 h1 hK => ?_
   have s23 := eS (vP bd) (hS 16 23 dc rfl (ltd 33 rfl))
   go_simp
   exact hK
  ·refine pur st9 rfl rfl fun L9 α a9 u9 K9 hL hcl hA hG hS h0 h1 hK => ?_
   have s24 := eS (vP bd) (hS 17 24 dc rfl (ltd 33 rfl))
   have e0 : R9 L9 α 3999 = row (bd) 136 #[vU 0, vU (i : Int)] := rfl
   have hr := hG.rowAt 3999 (act_base 3999 rfl) e0
   have c0 : u9.cell? ⟨bd, 0, none⟩ = some (vU 0) := hr.cell rfl
   have c1 : u9.cell? ⟨bd, 1, none⟩ = some (vU (i : Int)) := hr.cell rfl
   clear hr e0
   go_simp
   exact hK
  ·refine pur st9 rfl rfl fun L9 α a9 u9 K9 hL hcl hA hG hS h0 h1 hK => ?_
   have q21 : a9.tmps[21]? = some (.agg #[vI lc]) := hS 14 21 dc rfl (ltd 33 rfl)
   have s21 := Rega.eval_of q21
   have q25 : a9.tmps[25]? = some (.agg #[vU 0, vU (i : Int)]) := hS 18 25 dc rfl (ltd 33 rfl)
   have s25 := Rega.eval_of q25
   go_simp
   exact hK
  ·refine pur st9 rfl rfl fun L9 α a9 u9 K9 hL hcl hA hG hS h0 h1 hK => ?_
   have q19 : a9.tmps[19]? = some (.string nm) := hS 12 19 dc rfl (ltd 33 rfl)
   have s19 := Rega.eval_of q19
   have q20 : a9.tmps[20]? = some (.agg #[vI lc]) := hS 13 20 dc rfl (ltd 33 rfl)
   have s20 := Rega.eval_of q20
   have q26 : a9.tmps[26]? = some (.agg #[vI lc, vU 0, vU (i : Int)]) := hS 19 26 dc rfl (ltd 33 rfl)
   have s26 := Rega.eval_of q26
   go_simp
   exact hK
  ·intro L9 α a9 u9 K9 hL hcl hA hG hS h0 h1 hK
   replace hL : L9 21 = false := hL
   have q27 : a9.tmps[27]? = some (.agg #[.string nm, .string ⟨#[]⟩, vI lc, vI lc, vU 0, vU (i : Int)]) := hS 20 27 dc rfl (ltd 33 rfl)
   have s27 := Rega.eval_of q27
   go_simp
   exact hK _ (fun j => if j = 21 then u9.heap.size else α j) _ (fun j hj => if_neg (fun e => hj (by rw [e]))) rfl (step_alloc st9 hL hcl rfl rfl dc _ rfl hG)
  ·intro L9 α a9 u9 K9 hL hcl hA hG hS h0 h1 hK
   replace hL : L9 22 = false := hL
   have q7 : a9.tmps[7]? = some (vN) := hS 0 7 dc rfl (ltd 33 rfl)
   have s7 := Rega.eval_of q7
   have q28 : a9.tmps[28]? = some (vS (α 21) 1 1) := hS 21 28 dc rfl (ltd 33 rfl)
   have s28 := Rega.eval_of q28
   simp only [Region.wanted, if_true]
   have e0 : R9 L9 α 21 = row (α 21) 83 #[.string nm, .string ⟨#[]⟩, vI lc, vI lc, vU 0, vU (i : Int)] := rfl
   have hM : ∀ i, i ∈ [21] → act rfxc0a1Cnt 6 L9 i := by
    intro i hi
    simp only [List.mem_cons, List.not_mem_nil, or_false] at hi
    subst hi
    exact act_new 21 rfl (hA 21 dc)
   have hP : Own w0 u9 [row (α 21) 83 #[.string nm, .string ⟨#[]⟩, vI lc, vI lc, vU 0, vU (i : Int)]] _ := (hG.pick [21] dc hM).conv (by
    show [R9 L9 α 21] = _
    rw [e0])
   clear e0 hM
   obtain ⟨i9, hi9, z1, z2, z3⟩ := info_parts infoCli
   refine wp_append_full_nil (Operand.tmp 7) (Operand.tmp 28) 77 rfl 83 i9 (.agg cliZ) 6 48 Tryd.underlying77 hi9 z1 z2 z3 hP s7 s28 rfl dc (by first | decide | omega | (unfold maxLen; omega)) (by first | decide | omega | (unfold maxLen; omega)) ?_
   intro b0 b1 u1 hQ
   obtain ⟨α', hα'⟩ : ∃ α' : Rega.Atoms, α' = (fun j => if j = 22 then b0 else if j = 1022 then b1 else α j) := ⟨_, rfl⟩
   have f0 : R9 (Rega.ran L9 22) α' 22 = row (α' 22) 83 (full cliZ [.string nm, .string ⟨#[]⟩, vI lc, vI lc, vU 0, vU (i : Int)] (α' 1022)) := rfl
   have f1 : R9 (Rega.ran L9 22) α' 21 = row (α' 21) 83 #[.string nm, .string ⟨#[]⟩, vI lc, vI lc, vU 0, vU (i : Int)] := rfl
   have hα : ∀ j, j % 1000 ≠ 22 → α' j = α j := fun j hj => by rw [hα']; simp only []; rw [if_neg (by omega), if_neg (by omega)]
   have hb0 : α' 22 = b0 := by rw [hα']; rfl
   have hb1 : α' 1022 = b1 := by rw [hα']; rfl
   have ha21 : α' 21 = α 21 := hα 21 dc
   refine hK _ α' _ hα ?_ (step_call (st9) hL hcl hα [21] [22, 21] dc dc dc (M := _) ?_ hG hQ)
   ·show _ = (vS (α' 22) 1 (1 + α' 1022) : Value)
    simp only [hb0, hb1]
   ·show [R9 (Rega.ran L9 22) α' 22, R9 (Rega.ran L9 22) α' 21] = _
    rw [f0, f1]
    simp only [hb0, hb1, ha21]
    try rfl
  ·intro L9 α a9 u9 K9 hL hcl hA hG hS h0 h1 hK
   replace hL : L9 23 = false := hL
   have q2 : a9.tmps[2]? = some (vP e10) := (h0 2 (by kernel_rfl)).trans rfl
   have s2 := Rega.eval_of q2
   have q29 : a9.tmps[29]? = some (vS (α 22) 1 (1 + α 1022)) := hS 22 29 dc rfl (ltd 33 rfl)
   have s29 := Rega.eval_of q29
   have e0 : R9 L9 α 1999 = row (e10) 77 #[vN] := by
    show rfxc0a1T1999 pb PC sb c st n e10 x5 bd lc i nm B1 L9 α = _
    unfold rfxc0a1T1999
    rw [if_neg (by rw [hL]; decide)]
   have hr := hG.rowAt 1999 (act_base 1999 rfl) e0
   have c0 : u9.cell? ⟨e10, 0, none⟩ = some (vN) := hr.cell rfl
   have y0 : u9.frozen? ⟨e10, 0, none⟩ = false := hr.free (0)
   clear hr
   have E0 := Lib.hid e0
   clear e0
   go_simp
   have e1 : R9 (Rega.ran L9 23) α 1999 = row (e10) 77 #[vS (α 22) 1 (1 + α 1022)] := by
    show rfxc0a1T1999 pb PC sb c st n e10 x5 bd lc i nm B1 (Rega.ran L9 23) α = _
    unfold rfxc0a1T1999
    rw [if_pos (show Rega.ran L9 23 23 = true from rfl)]
   exact hK _ α _ (fun _ _ => rfl) rfl (step_sets (st9) hL hcl rfl 1999 rfl (act_base 1999 rfl) E0.out (0) [vS (α 22) 1 (1 + α 1022)] (e1.trans rfl) hG)
 clear st9
 intro α u hG
 have e0 : R9 (fun k => decide (k < 24)) α 999 = row (B1) 28 #[vI lc] := rfl
 have e1 : R9 (fun k => decide (k < 24)) α 1999 = row (e10) 77 #[vS (α 22) 1 (1 + α 1022)] := by
  show rfxc0a1T1999 pb PC sb c st n e10 x5 bd lc i nm B1 (fun k => decide (k < 24)) α = _
  unfold rfxc0a1T1999
  rw [if_pos dc]
 have e2 : R9 (fun k => decide (k < 24)) α 2999 = row (x5) 25 #[vP pb] := rfl
 have e3 : R9 (fun k => decide (k < 24)) α 3999 = row (bd) 136 #[vU 0, vU (i : Int)] := rfl
 have e4 : R9 (fun k => decide (k < 24)) α 4999 = row (pb) 252 PC := rfl
 have e5 : R9 (fun k => decide (k < 24)) α 5999 = row (sb) 260 (full symZ (symL st) c) := rfl
 have e6 : R9 (fun k => decide (k < 24)) α 21 = row (α 21) 83 #[.string nm, .string ⟨#[]⟩, vI lc, vI lc, vU 0, vU (i : Int)] := rfl
 have e7 : R9 (fun k => decide (k < 24)) α 22 = row (α 22) 83 (full cliZ [.string nm, .string ⟨#[]⟩, vI lc, vI lc, vU 0, vU (i : Int)] (α 1022)) := rfl
 have hO : Own w0 u [row (B1) 28 #[vI lc], row (e10) 77 #[vS (α 22) 1 (1 + α 1022)], row (x5) 25 #[vP pb], row (bd) 136 #[vU 0, vU (i : Int)], row (pb) 252 PC, row (sb) 260 (full symZ (symL st) c), row (α 21) 83 #[.string nm, .string ⟨#[]⟩, vI lc, vI lc, vU 0, vU (i : Int)], row (α 22) 83 (full cliZ [.string nm, .string ⟨#[]⟩, vI lc, vI lc, vU 0, vU (i : Int)] (α 1022))] X9_3 := (hG.list [999, 1999, 2999, 3999, 4999, 5999, 21, 22] dc (act_all dc)).conv (by
  show [R9 (fun k => decide (k < 24)) α 999, R9 (fun k => decide (k < 24)) α 1999, R9 (fun k => decide (k < 24)) α 2999, R9 (fun k => decide (k < 24)) α 3999, R9 (fun k => decide (k < 24)) α 4999, R9 (fun k => decide (k < 24)) α 5999, R9 (fun k => decide (k < 24)) α 21, R9 (fun k => decide (k < 24)) α 22] = _
  rw [e0, e1, e2, e3, e4, e5, e6, e7])
 clear hG e0 e1 e2 e3 e4 e5 e6 e7 R9
 generalize hfr : Rega.frameAt _ _ _ _ _ = fr
 have hdf : fr = ⟨#[.agg #[vI lc], vP bd, vP e10, vP x5, vP sx, vP B1, undef, vN, vP pb, vP pb, .pointer (some ⟨pb, 106, none⟩), vS sb n (n + c), vP bd, vP bd, vP bd, .pointer (some ⟨bd, 1, none⟩), vU (i : Int), .pointer (some ⟨sb, i * 10, none⟩), .pointer (some ⟨sb, i * 10 + 1, none⟩), .string nm, .agg #[vI lc], .agg #[vI lc], vP bd, vP bd, vP bd, .agg #[vU 0, vU (i : Int)], .agg #[vI lc, vU 0, vU (i : Int)], .agg #[.string nm, .string ⟨#[]⟩, vI lc, vI lc, vU 0, vU (i : Int)], vS (α 21) 1 1, vS (α 22) 1 (1 + α 1022), undef, undef, undef], []⟩ := by rw [← hfr]; kernel_rfl
 clear hfr
 subst hdf
 generalize α 21 = nd4 at hO ⊢
 generalize α 22 = nd5 at hO ⊢
 generalize α 1022 = nd6 at hO ⊢
 clear α
 subst hX9_3
 replace hO : Own w0 u [row (B1) 28 #[vI lc], row (e10) 77 #[vS nd5 1 (1 + nd6)], row (x5) 25 #[vP pb], row (bd) 136 #[vU 0, vU (i : Int)], row (pb) 252 PC, row (sb) 260 (full symZ (symL st) c), row (nd4) 83 #[.string nm, .string ⟨#[]⟩, vI lc, vI lc, vU 0, vU (i : Int)], row (nd5) 83 (full cliZ [.string nm, .string ⟨#[]⟩, vI lc, vI lc, vU 0, vU (i : Int)] (nd6)), row (sx) 42 #[vP ad], row (ad) 57 #[vS dd 1 1, v8 1, .bool true, bF]] X := hO.back HL.out HX.out [3, 5] dc dc
 clear HL HX
 obtain ⟨aA, aB, aC, -⟩ := hO.k1 0 rfl
 obtain ⟨aD, aE, aF, -⟩ := hO.k1 1 rfl
 obtain ⟨aG, aH, aI, -⟩ := hO.k1 2 rfl
 obtain ⟨aJ, aK, aL, aM, -⟩ := hO.k2 3 rfl
 obtain ⟨am, an, ao, ap, aq, ar, au, av, -⟩ := hO.k6 6 rfl
 obtain ⟨aZ, aa, ab, -⟩ := hO.k1 8 rfl
 obtain ⟨ac, ae, af, ag, ah, ai, -⟩ := hO.k4 9 rfl
 have HO := Lib.hid hO
 clear hO
 go_wp2_with (first | (with_reducible refine Own.stay (fn := Tryd.f45) ?_) | fail)
 try with_reducible refine Own.Stay.mk ?_
 have hO := HO.out
 clear HO aA aB aC aD aE aF aG aH aI aJ aK aL aM am an ao ap aq ar au av aZ aa ab ac ae af ag ah ai
 generalize hW : World.setCell _ _ _ = W8
 have hN : Own w0 W8 [row (B1) 28 #[vI lc], row (e10) 77 #[vS nd5 1 (1 + nd6)], row (x5) 25 #[vP pb], row (bd) 136 #[vU 0, vU (i : Int)], row (pb) 252 PC, row (sb) 260 (full symZ (symL st) c), row (nd4) 83 #[.string nm, .string ⟨#[]⟩, vI lc, vI lc, vU 0, vU (i : Int)], row (nd5) 83 (full cliZ [.string nm, .string ⟨#[]⟩, vI lc, vI lc, vU 0, vU (i : Int)] (nd6)), row (sx) 42 #[vP ad], row (ad) 57 #[vS dd 1 1, v8 0, .bool true, bF]] X := by
  rw [← hW]
  exact (hO).set 9 rfl 1 _
 clear hW hO
 have hO := hN
 clear hN
 refine bodyPost_ret (v := .tuple #[]) ?_ rfl ⟨nd5, nd6, rfl, hO.sub [1, 2, 8, 3, 9, 4, 5, 7] dc⟩
 simp [results, Tryd.results45, go_sem]
def fxb0Post (pb : Nat) (PC : Array Value) (sb c : Nat) (st : List Sy) (n e10 x5 sx ad dd bd : Nat) (lc : Int) (i : Nat) (nm : ByteArray) (w0 : World) (X : Nat → Obj → Prop) (e : Ending) (w' : World) : Prop :=
 ∃ xb2 : Nat, ∃ xc2 : Nat, e = .returned (.tuple #[]) ∧ Own w0 w' [row (e10) 77 #[vS xb2 1 (1 + xc2)], row (x5) 25 #[vP pb], row (sx) 42 #[vP ad], row (bd) 136 #[vU 0, vU (i : Int)], row (ad) 57 #[vS dd 1 1, v8 0, .bool true, bF], row (pb) 252 PC, row (sb) 260 (full symZ (symL st) c), row (xb2) 83 (full cliZ ([.string nm, .string ⟨#[]⟩, vI lc, vI lc, vU 0, vU (i : Int)]) xc2)] X
set_option maxRecDepth 100000 in
set_option maxHeartbeats 1000000 in
theorem fxb0 (pb : Nat) (PC : Array Value) (sb c : Nat) (st : List Sy) (n e10 x5 sx ad dd bd : Nat) (lc : Int) (i : Nat) (nm : ByteArray) (w0 w : World) (X : Nat → Obj → Prop) (hO : Own w0 w [row (e10) 77 #[vN], row (x5) 25 #[vP pb], row (sx) 42 #[vP ad], row (bd) 136 #[vU 0, vU (i : Int)], row (ad) 57 #[vS dd 1 1, v8 1, .bool true, bF], row (pb) 252 PC, row (sb) 260 (full symZ (symL st) c)] X) (hk106 : PC[106]? = some (vS sb n (n + c))) (hn : st.length = n) (hnb : n ≤ 100000) (hnm9 : ∃ y : Sy, st[i]? = some y ∧ y.nm = nm) :
  Calls Tryd.prog 53 #[.agg #[vF 134 bd, vI lc], .func (Fn.func 45) #[] #[vP e10, vP x5, vP sx]] w (fxb0Post pb PC sb c st n e10 x5 sx ad dd bd lc i nm w0 X) := by
 go_enter Tryd.func53, Tryd.ntmps53
 obtain ⟨aA, aB, aC, -⟩ := hO.k1 0 rfl
 obtain ⟨aD, aE, aF, -⟩ := hO.k1 1 rfl
 obtain ⟨aG, aH, aI, -⟩ := hO.k1 2 rfl
 obtain ⟨aJ, aK, aL, aM, -⟩ := hO.k2 3 rfl
 obtain ⟨aN, aO, aP, aQ, aR, aS, -⟩ := hO.k4 4 rfl
 have HO := Lib.hid hO
 clear hO
 go_wp2_with (first | (with_reducible refine Own.stay (fn := Tryd.f53) ?_) | fail)
 try with_reducible refine Own.Stay.mk ?_
 have hO := HO.out
 clear HO aA aB aC aD aE aF aG aH aI aJ aK aL aM aN aO aP aQ aR aS
 generalize hW : World.alloc _ _ = W2
 have hN : Own w0 W2 [row (w.heap.size) 47 #[vF 134 bd, vI lc], row (e10) 77 #[vN], row (x5) 25 #[vP pb], row (sx) 42 #[vP ad], row (bd) 136 #[vU 0, vU (i : Int)], row (ad) 57 #[vS dd 1 1, v8 1, .bool true, bF], row (pb) 252 PC, row (sb) 260 (full symZ (symL st) c)] X := by
  rw [← hW]
  exact (hO).alloc' _ (w.heap.size) (by simp)
 clear hW hO
 generalize w.heap.size = B1 at hN ⊢
 have hO := hN
 clear hN
 obtain ⟨HL, HX⟩ := hid2 hO
 have hP9 := hO.pick [1, 2, 3, 4, 5, 6, 7] dc
 have T9 := fxc0 pb PC sb c st n e10 x5 sx ad dd bd lc i _ _ _ _ hP9 hk106 hn hnb hnm9
 refine Calls.mono T9 ?_
 clear hP9 T9
 rintro e uw3 ⟨nd4, nd5, rfl, hQ⟩
 replace hO : Own w0 uw3 [row (e10) 77 #[vS nd4 1 (1 + nd5)], row (x5) 25 #[vP pb], row (sx) 42 #[vP ad], row (bd) 136 #[vU 0, vU (i : Int)], row (ad) 57 #[vS dd 1 1, v8 0, .bool true, bF], row (pb) 252 PC, row (sb) 260 (full symZ (symL st) c), row (nd4) 83 (full cliZ [.string nm, .string ⟨#[]⟩, vI lc, vI lc, vU 0, vU (i : Int)] nd5), row (B1) 47 #[vF 134 bd, vI lc]] X := hQ.back HL.out HX.out [0] dc dc
 clear hQ HL HX
 obtain ⟨aA, aB, aC, -⟩ := hO.k1 0 rfl
 obtain ⟨aD, aE, aF, -⟩ := hO.k1 1 rfl
 obtain ⟨aG, aH, aI, -⟩ := hO.k1 2 rfl
 obtain ⟨aJ, aK, aL, aM, -⟩ := hO.k2 3 rfl
 obtain ⟨aN, aO, aP, aQ, aR, aS, -⟩ := hO.k4 4 rfl
 obtain ⟨aZ, aj, aa, ab, -⟩ := hO.k2 8 rfl
 have HO := Lib.hid hO
 clear hO
 go_wp2_with (first | (with_reducible refine Own.stay (fn := Tryd.f53) ?_) | fail)
 try with_reducible refine Own.Stay.mk ?_
 have hO := HO.out
 clear HO aA aB aC aD aE aF aG aH aI aJ aK aL aM aN aO aP aQ aR aS aZ aj aa ab
 refine bodyPost_ret (v := .tuple #[]) ?_ rfl ⟨nd4, nd5, rfl, hO.sub [0, 1, 2, 3, 4, 5, 6, 7] dc⟩
 simp [results, Tryd.results53, go_sem]
def fxd0Post (pb : Nat) (PC : Array Value) (sb c : Nat) (st : List Sy) (n e10 x5 sx ad dd bd : Nat) (lc : Int) (i : Nat) (nm : ByteArray) (w0 : World) (X : Nat → Obj → Prop) (e : Ending) (w' : World) : Prop :=
 ∃ xb2 : Nat, ∃ xc2 : Nat, e = .returned (.tuple #[]) ∧ Own w0 w' [row (e10) 77 #[vS xb2 1 (1 + xc2)], row (x5) 25 #[vP pb], row (sx) 42 #[vP ad], row (bd) 136 #[vU 0, vU (i : Int)], row (ad) 57 #[vS dd 1 1, v8 0, .bool true, bF], row (pb) 252 PC, row (sb) 260 (full symZ (symL st) c), row (dd) 54 #[vF 134 bd, vI lc, .nilIface, vI 0], row (xb2) 83 (full cliZ ([.string nm, .string ⟨#[]⟩, vI lc, vI lc, vU 0, vU (i : Int)]) xc2)] X
set_option maxRecDepth 100000 in
set_option maxHeartbeats 1000000 in
theorem fxd0 (pb : Nat) (PC : Array Value) (sb c : Nat) (st : List Sy) (n e10 x5 sx ad dd bd : Nat) (lc : Int) (i : Nat) (nm : ByteArray) (w0 w : World) (X : Nat → Obj → Prop) (hO : Own w0 w [row (e10) 77 #[vN], row (x5) 25 #[vP pb], row (sx) 42 #[vP ad], row (bd) 136 #[vU 0, vU (i : Int)], row (ad) 57 #[vS dd 1 1, v8 1, .bool true, bF], row (pb) 252 PC, row (sb) 260 (full symZ (symL st) c), row (dd) 54 #[vF 134 bd, vI lc, .nilIface, vI 0]] X) (hk106 : PC[106]? = some (vS sb n (n + c))) (hn : st.length = n) (hnb : n ≤ 100000) (hnm9 : ∃ y : Sy, st[i]? = some y ∧ y.nm = nm) :
  Calls Tryd.prog 44 #[vS dd 1 1, .func (Fn.func 45) #[] #[vP e10, vP x5, vP sx]] w (fxd0Post pb PC sb c st n e10 x5 sx ad dd bd lc i nm w0 X) := by
 go_enter Tryd.func44, Tryd.ntmps44
 obtain ⟨aA, aB, aC, -⟩ := hO.k1 0 rfl
 obtain ⟨aD, aE, aF, -⟩ := hO.k1 1 rfl
 obtain ⟨aG, aH, aI, -⟩ := hO.k1 2 rfl
 obtain ⟨aJ, aK, aL, aM, -⟩ := hO.k2 3 rfl
 obtain ⟨aN, aO, aP, aQ, aR, aS, -⟩ := hO.k4 4 rfl
 obtain ⟨aT, aU, aV, aW, aX, aY, -⟩ := hO.k4 7 rfl
 have HO := Lib.hid hO
 clear hO
 go_wp2_with (first | (with_reducible refine Own.stay (fn := Tryd.f44) ?_) | fail)
 try with_reducible refine Own.Stay.mk ?_
 have hO := HO.out
 clear HO aA aB aC aD aE aF aG aH aI aJ aK aL aM aN aO aP aQ aR aS aT aU aV aW aX aY
 go_loopg [8] 2 (fun gf s8 wx => (gf = 2 ∧ s8 = v6 0 ∧ Own w0 wx [row (e10) 77 #[vN], row (x5) 25 #[vP pb], row (sx) 42 #[vP ad], row (bd) 136 #[vU 0, vU (i : Int)], row (ad) 57 #[vS dd 1 1, v8 1, .bool true, bF], row (pb) 252 PC, row (sb) 260 (full symZ (symL st) c), row (dd) 54 #[vF 134 bd, vI lc, .nilIface, vI 0]] X) ∨ (gf = 1 ∧ s8 = v6 1 ∧ ∃ xb2 xc2 : Nat, Own w0 wx [row (e10) 77 #[vS xb2 1 (1 + xc2)], row (x5) 25 #[vP pb], row (sx) 42 #[vP ad], row (bd) 136 #[vU 0, vU (i : Int)], row (ad) 57 #[vS dd 1 1, v8 0, .bool true, bF], row (pb) 252 PC, row (sb) 260 (full symZ (symL st) c), row (dd) 54 #[vF 134 bd, vI lc, .nilIface, vI 0], row (xb2) 83 (full cliZ ([.string nm, .string ⟨#[]⟩, vI lc, vI lc, vU 0, vU (i : Int)]) xc2)] X))
 case atStart => exact Or.inl ⟨rfl, rfl, hO⟩
 obtain ⟨rfl, rfl, hO⟩ | ⟨rfl, rfl, xb2, xc2, hO⟩ := hrel
 ·skip
  obtain ⟨aA, aB, aC, -⟩ := hO.k1 0 rfl
  obtain ⟨aD, aE, aF, -⟩ := hO.k1 1 rfl
  obtain ⟨aG, aH, aI, -⟩ := hO.k1 2 rfl
  obtain ⟨aJ, aK, aL, aM, -⟩ := hO.k2 3 rfl
  obtain ⟨aN, aO, aP, aQ, aR, aS, -⟩ := hO.k4 4 rfl
  obtain ⟨aT, aU, aV, aW, aX, aY, -⟩ := hO.k4 7 rfl
  have HO := Lib.hid hO
  clear hO
  go_wp2_with (first | (with_reducible refine Own.stay (fn := Tryd.f44) ?_) | fail)
  try with_reducible refine Own.Stay.mk ?_
  have hO := HO.out
  clear HO aA aB aC aD aE aF aG aH aI aJ aK aL aM aN aO aP aQ aR aS aT aU aV aW aX aY
  generalize hW : World.alloc _ _ = W2
  have hN : Own w0 W2 [row (wr.heap.size) 54 #[vF 134 bd, vI lc, .nilIface, vI 0], row (e10) 77 #[vN], row (x5) 25 #[vP pb], row (sx) 42 #[vP ad], row (bd) 136 #[vU 0, vU (i : Int)], row (ad) 57 #[vS dd 1 1, v8 1, .bool true, bF], row (pb) 252 PC, row (sb) 260 (full symZ (symL st) c), row (dd) 54 #[vF 134 bd, vI lc, .nilIface, vI 0]] X := by
   rw [← hW]
   exact (hO).alloc' _ (wr.heap.size) (by simp)
  clear hW hO
  generalize wr.heap.size = B1 at hN ⊢
  have hO := hN
  clear hN
  obtain ⟨HL, HX⟩ := hid2 hO
  have hP9 := hO.pick [1, 2, 3, 4, 5, 6, 7] dc
  have T9 := fxb0 pb PC sb c st n e10 x5 sx ad dd bd lc i _ _ _ _ hP9 hk106 hn hnb hnm9
  refine Calls.mono T9 ?_
  clear hP9 T9
  rintro e uw3 ⟨nd4, nd5, rfl, hQ⟩
  replace hO : Own w0 uw3 [row (e10) 77 #[vS nd4 1 (1 + nd5)], row (x5) 25 #[vP pb], row (sx) 42 #[vP ad], row (bd) 136 #[vU 0, vU (i : Int)], row (ad) 57 #[vS dd 1 1, v8 0, .bool true, bF], row (pb) 252 PC, row (sb) 260 (full symZ (symL st) c), row (nd4) 83 (full cliZ [.string nm, .string ⟨#[]⟩, vI lc, vI lc, vU 0, vU (i : Int)] nd5), row (B1) 54 #[vF 134 bd, vI lc, .nilIface, vI 0], row (dd) 54 #[vF 134 bd, vI lc, .nilIface, vI 0]] X := hQ.back HL.out HX.out [0, 8] dc dc
  clear hQ HL HX
  obtain ⟨aA, aB, aC, -⟩ := hO.k1 0 rfl
  obtain ⟨aD, aE, aF, -⟩ := hO.k1 1 rfl
  obtain ⟨aG, aH, aI, -⟩ := hO.k1 2 rfl
  obtain ⟨aJ, aK, aL, aM, -⟩ := hO.k2 3 rfl
  obtain ⟨aN, aO, aP, aQ, aR, aS, -⟩ := hO.k4 4 rfl
  obtain ⟨aZ, aj, ak, al, aa, ab, -⟩ := hO.k4 8 rfl
  obtain ⟨ac, ae, af, ag, ah, ai, -⟩ := hO.k4 9 rfl
  have HO := Lib.hid hO
  clear hO
  go_wp2_with (first | (with_reducible refine Own.stay (fn := Tryd.f44) ?_) | fail)
  try with_reducible refine Own.Stay.mk ?_
  have hO := HO.out
  clear HO aA aB aC aD aE aF aG aH aI aJ aK aL aM aN aO aP aQ aR aS aZ aj ak al aa ab ac ae af ag ah ai
  go_roundg 1
  case measure => omega
  case rel => exact Or.inr ⟨rfl, rfl, nd4, nd5, hO.sub [0, 1, 2, 3, 4, 5, 6, 9, 7] dc⟩
 obtain ⟨aA, aB, aC, -⟩ := hO.k1 0 rfl
 obtain ⟨aD, aE, aF, -⟩ := hO.k1 1 rfl
 obtain ⟨aG, aH, aI, -⟩ := hO.k1 2 rfl
 obtain ⟨aJ, aK, aL, aM, -⟩ := hO.k2 3 rfl
 obtain ⟨aN, aO, aP, aQ, aR, aS, -⟩ := hO.k4 4 rfl
 obtain ⟨aT, aU, aV, aW, aX, aY, -⟩ := hO.k4 7 rfl
 have HO := Lib.hid hO
 clear hO
 go_wp2_with (first | (with_reducible refine Own.stay (fn := Tryd.f44) ?_) | fail)
 try with_reducible refine Own.Stay.mk ?_
 have hO := HO.out
 clear HO aA aB aC aD aE aF aG aH aI aJ aK aL aM aN aO aP aQ aR aS aT aU aV aW aX aY
 refine bodyPost_ret (v := .tuple #[]) ?_ rfl ⟨xb2, xc2, rfl, hO.sub [0, 1, 2, 3, 4, 5, 6, 7, 8] dc⟩
 simp [results, Tryd.results44, go_sem]
noncomputable def rfxc1a1E (pb : Nat) (PC : Array Value) (sb : Nat) (c : Nat) (st : List Sy) (n : Nat) (e10 : Nat) (x5 : Nat) (bd : Nat) (lc : Int) (i : Nat) (nm : ByteArray) (xb : Nat) (XL : List Value) (xl : Nat) (xc : Nat) (B1 : Nat) : Nat → Rega.Atoms → Value
 | 0, α => vS xb xl (xl + xc)
 | 1, α => vP pb
 | 2, α => vP pb
 | 3, α => .pointer (some ⟨pb, 106, none⟩)
 | 4, α => vS sb n (n + c)
 | 5, α => vP bd
 | 6, α => vP bd
 | 7, α => vP bd
 | 8, α => .pointer (some ⟨bd, 1, none⟩)
 | 9, α => vU (i : Int)
 | 10, α => .pointer (some ⟨sb, i * 10, none⟩)
 | 11, α => .pointer (some ⟨sb, i * 10 + 1, none⟩)
 | 12, α => .string nm
 | 13, α => .agg #[vI lc]
 | 14, α => .agg #[vI lc]
 | 15, α => vP bd
 | 16, α => vP bd
 | 17, α => vP bd
 | 18, α => .agg #[vU 0, vU (i : Int)]
 | 19, α => .agg #[vI lc, vU 0, vU (i : Int)]
 | 20, α => .agg #[.string nm, .string ⟨#[]⟩, vI lc, vI lc, vU 0, vU (i : Int)]
 | 21, α => vS (α 21) 1 1
 | 22, α => vS (α 22) (xl + 1) (xl + 1 + α 1022)
 | 23, α => undef
 | _, _ => undef
noncomputable def rfxc1a1Anc : Nat → List Nat
 | 2 => [1]
 | 3 => [1, 2]
 | 4 => [1, 2, 3]
 | 6 => [5]
 | 7 => [5, 6]
 | 8 => [5, 6, 7]
 | 9 => [5, 6, 7, 8]
 | 10 => [1, 2, 3, 4, 5, 6, 7, 8, 9]
 | 11 => [1, 2, 3, 4, 5, 6, 7, 8, 9, 10]
 | 12 => [1, 2, 3, 4, 5, 6, 7, 8, 9, 10, 11]
 | 16 => [15]
 | 17 => [15, 16]
 | 18 => [15, 16, 17]
 | 19 => [14, 15, 16, 17, 18]
 | 20 => [1, 2, 3, 4, 5, 6, 7, 8, 9, 10, 11, 12, 13, 14, 15, 16, 17, 18, 19]
 | 21 => [1, 2, 3, 4, 5, 6, 7, 8, 9, 10, 11, 12, 13, 14, 15, 16, 17, 18, 19, 20]
 | 22 => [0, 1, 2, 3, 4, 5, 6, 7, 8, 9, 10, 11, 12, 13, 14, 15, 16, 17, 18, 19, 20, 21]
 | 23 => [0, 1, 2, 3, 4, 5, 6, 7, 8, 9, 10, 11, 12, 13, 14, 15, 16, 17, 18, 19, 20, 21, 22]
 | _ => []
noncomputable def rfxc1a1Trn : Nat → List Nat
 | 22 => [6999]
 | 23 => [1999]
 | _ => []
noncomputable def rfxc1a1Cnt : List (Nat × Nat) := [(21, 1)]
noncomputable def rfxc1a1T1999 (pb : Nat) (PC : Array Value) (sb : Nat) (c : Nat) (st : List Sy) (n : Nat) (e10 : Nat) (x5 : Nat) (bd : Nat) (lc : Int) (i : Nat) (nm : ByteArray) (xb : Nat) (XL : List Value) (xl : Nat) (xc : Nat) (B1 : Nat) (L9 : Nat → Bool) (α : Rega.Atoms) : Rw := if L9 23 = true then row (e10) 77 #[vS (α 22) (xl + 1) (xl + 1 + α 1022)] else row (e10) 77 #[vS xb xl (xl + xc)]
noncomputable def rfxc1a1T6999 (pb : Nat) (PC : Array Value) (sb : Nat) (c : Nat) (st : List Sy) (n : Nat) (e10 : Nat) (x5 : Nat) (bd : Nat) (lc : Int) (i : Nat) (nm : ByteArray) (xb : Nat) (XL : List Value) (xl : Nat) (xc : Nat) (B1 : Nat) (L9 : Nat → Bool) (α : Rega.Atoms) : Rw := if L9 22 = true then row (α 22) 83 (full cliZ (XL ++ [.string nm, .string ⟨#[]⟩, vI lc, vI lc, vU 0, vU (i : Int)]) (α 1022)) else row (xb) 83 (full cliZ XL xc)
noncomputable def rfxc1a1R (pb : Nat) (PC : Array Value) (sb : Nat) (c : Nat) (st : List Sy) (n : Nat) (e10 : Nat) (x5 : Nat) (bd : Nat) (lc : Int) (i : Nat) (nm : ByteArray) (xb : Nat) (XL : List Value) (xl : Nat) (xc : Nat) (B1 : Nat) (L9 : Nat → Bool) (α : Rega.Atoms) (ix9 : Nat) : Rw := if ix9 = 999 then row (B1) 28 #[vI lc] else if ix9 = 1999 then rfxc1a1T1999 pb PC sb c st n e10 x5 bd lc i nm xb XL xl xc B1 L9 α else if ix9 = 2999 then row (x5) 25 #[vP pb] else if ix9 = 3999 then row (bd) 136 #[vU 0, vU (i : Int)] else if ix9 = 4999 then row (pb) 252 PC else if ix9 = 5999 then row (sb) 260 (full symZ (symL st) c) else if ix9 = 6999 then rfxc1a1T6999 pb PC sb c st n e10 x5 bd lc i nm xb XL xl xc B1 L9 α else if ix9 = 21 then row (α 21) 83 #[.string nm, .string ⟨#[]⟩, vI lc, vI lc, vU 0, vU (i : Int)] else (0, .map #[] 0)
theorem rfxc1a1_he (pb : Nat) (PC : Array Value) (sb : Nat) (c : Nat) (st : List Sy) (n : Nat) (e10 : Nat) (x5 : Nat) (bd : Nat) (lc : Int) (i : Nat) (nm : ByteArray) (xb : Nat) (XL : List Value) (xl : Nat) (xc : Nat) (B1 : Nat) : ∀ kk α α', (∀ j, (j % 1000 = kk ∨ j % 1000 ∈ rfxc1a1Anc kk) → α j = α' j) → rfxc1a1E pb PC sb c st n e10 x5 bd lc i nm xb XL xl xc B1 kk α = rfxc1a1E pb PC sb c st n e10 x5 bd lc i nm xb XL xl xc B1 kk α' := by
 intro kk α α' h
 match kk with
 | 0 => rfl
 | 1 => rfl
 | 2 => rfl
 | 3 => rfl
 | 4 => rfl
 | 5 => rfl
 | 6 => rfl
 | 7 => rfl
 | 8 => rfl
 | 9 => rfl
 | 10 => rfl
 | 11 => rfl
 | 12 => rfl
 | 13 => rfl
 | 14 => rfl
 | 15 => rfl
 | 16 => rfl
 | 17 => rfl
 | 18 => rfl
 | 19 => rfl
 | 20 => rfl
 | 21 => simp only [rfxc1a1E, h 21 (Or.inl rfl)]
 | 22 => simp only [rfxc1a1E, h 22 (Or.inl rfl), h 1022 (Or.inl rfl)]
 | 23 => rfl
 | n + 24 => rfl
theorem rfxc1a1_st (pb : Nat) (PC : Array Value) (sb : Nat) (c : Nat) (st : List Sy) (n : Nat) (e10 : Nat) (x5 : Nat) (bd : Nat) (lc : Int) (i : Nat) (nm : ByteArray) (xb : Nat) (XL : List Value) (xl : Nat) (xc : Nat) (B1 : Nat) : Stable rfxc1a1Cnt 7 rfxc1a1Anc rfxc1a1Trn (rfxc1a1R pb PC sb c st n e10 x5 bd lc i nm xb XL xl xc B1) := by
 intro k9 L9 α α' ix9 hk hcl hα hact ht
 have hp := act_places hact
 replace hp : ix9 ∈ [999, 1999, 2999, 3999, 4999, 5999, 6999, 21] := hp
 simp only [List.mem_cons, List.not_mem_nil, or_false] at hp
 rcases hp with rfl | rfl | rfl | rfl | rfl | rfl | rfl | rfl
 ·rfl
 ·show rfxc1a1T1999 pb PC sb c st n e10 x5 bd lc i nm xb XL xl xc B1 (Rega.ran L9 k9) α' = rfxc1a1T1999 pb PC sb c st n e10 x5 bd lc i nm xb XL xl xc B1 L9 α
  unfold rfxc1a1T1999
  have n23 : 23 ≠ k9 := fun e => ht (by rw [← e]; decide)
  rw [ran_ne n23]
  by_cases e23 : L9 23 = true
  ·first | rw [if_pos e23, if_pos e23] | rw [if_pos e23]
   try simp only [hα 22 (ne_ran hk (hcl 23 e23 22 dc)), hα 1022 (ne_ran hk (hcl 23 e23 22 dc))]
  first | rw [if_neg e23, if_neg e23] | rw [if_neg e23]
 ·rfl
 ·rfl
 ·rfl
 ·rfl
 ·show rfxc1a1T6999 pb PC sb c st n e10 x5 bd lc i nm xb XL xl xc B1 (Rega.ran L9 k9) α' = rfxc1a1T6999 pb PC sb c st n e10 x5 bd lc i nm xb XL xl xc B1 L9 α
  unfold rfxc1a1T6999
  have n22 : 22 ≠ k9 := fun e => ht (by rw [← e]; decide)
  rw [ran_ne n22]
  by_cases e22 : L9 22 = true
  ·first | rw [if_pos e22, if_pos e22] | rw [if_pos e22]
   try simp only [hα 22 (ne_ran hk e22), hα 1022 (ne_ran hk e22)]
  first | rw [if_neg e22, if_neg e22] | rw [if_neg e22]
 ·have e0 : L9 21 = true := act_lt hact dc
  show row (α' 21) 83 #[.string nm, .string ⟨#[]⟩, vI lc, vI lc, vU 0, vU (i : Int)] = row (α 21) 83 #[.string nm, .string ⟨#[]⟩, vI lc, vI lc, vU 0, vU (i : Int)]
  simp only [hα 21 (ne_ran hk e0)]
def fxc1Post (pb : Nat) (PC : Array Value) (sb c : Nat) (st : List Sy) (n e10 x5 sx ad dd bd : Nat) (lc : Int) (i : Nat) (nm : ByteArray) (xb : Nat) (XL : List Value) (xl xc : Nat) (w0 : World) (X : Nat → Obj → Prop) (e : Ending) (w' : World) : Prop :=
 ∃ xb2 : Nat, ∃ xc2 : Nat, e = .returned (.tuple #[]) ∧ Own w0 w' [row (e10) 77 #[vS xb2 (xl + 1) (xl + 1 + xc2)], row (x5) 25 #[vP pb], row (sx) 42 #[vP ad], row (bd) 136 #[vU 0, vU (i : Int)], row (ad) 57 #[vS dd 1 1, v8 0, .bool true, bF], row (pb) 252 PC, row (sb) 260 (full symZ (symL st) c), row (xb2) 83 (full cliZ (XL ++ [.string nm, .string ⟨#[]⟩, vI lc, vI lc, vU 0, vU (i : Int)]) xc2)] X
set_option maxRecDepth 100000 in
set_option maxHeartbeats 1000000 in
theorem fxc1 (pb : Nat) (PC : Array Value) (sb c : Nat) (st : List Sy) (n e10 x5 sx ad dd bd : Nat) (lc : Int) (i : Nat) (nm : ByteArray) (xb : Nat) (XL : List Value) (xl xc : Nat) (w0 w : World) (X : Nat → Obj → Prop) (hO : Own w0 w [row (e10) 77 #[vS xb xl (xl + xc)], row (x5) 25 #[vP pb], row (sx) 42 #[vP ad], row (bd) 136 #[vU 0, vU (i : Int)], row (ad) 57 #[vS dd 1 1, v8 1, .bool true, bF], row (pb) 252 PC, row (sb) 260 (full symZ (symL st) c), row (xb) 83 (full cliZ XL xc)] X) (hk106 : PC[106]? = some (vS sb n (n + c))) (hn : st.length = n) (hnb : n ≤ 100000) (hnm9 : ∃ y : Sy, st[i]? = some y ∧ y.nm = nm) (hxl : XL.length = xl * 6) (hxb : xl ≤ 5000) :
  Calls Tryd.prog 45 #[.agg #[vI lc], vP bd, vP e10, vP x5, vP sx] w (fxc1Post pb PC sb c st n e10 x5 sx ad dd bd lc i nm xb XL xl xc w0 X) := by
 obtain ⟨y, hy, hynm⟩ := hnm9
 have hi : i < n := by rw [← hn]; exact (List.getElem?_eq_some_iff.1 hy).1
 have hi9 : (i : Int) < (n : Int) := by omega
 have hi8 : (0 : Int) ≤ (i : Int) := by omega
 have hyv : (symL st)[i * 10 + 1]? = some (.string nm) := by rw [← hynm]; exact symL_at st i y 1 _ hy rfl
 clear hy hynm
 go_enter Tryd.func45, Tryd.ntmps45
 obtain ⟨aA, aB, aC, -⟩ := hO.k1 0 rfl
 obtain ⟨aD, aE, aF, -⟩ := hO.k1 1 rfl
 obtain ⟨aG, aH, aI, -⟩ := hO.k1 2 rfl
 obtain ⟨aJ, aK, aL, aM, -⟩ := hO.k2 3 rfl
 obtain ⟨aN, aO, aP, aQ, aR, aS, -⟩ := hO.k4 4 rfl
 have HO := Lib.hid hO
 clear hO
 go_wp2_with (first | (with_reducible refine Own.stay (fn := Tryd.f45) ?_) | fail)
 try with_reducible refine Own.Stay.mk ?_
 have hO := HO.out
 clear HO aA aB aC aD aE aF aG aH aI aJ aK aL aM aN aO aP aQ aR aS
 generalize hW : World.alloc _ _ = W2
 have hN : Own w0 W2 [row (w.heap.size) 28 #[vI lc], row (e10) 77 #[vS xb xl (xl + xc)], row (x5) 25 #[vP pb], row (sx) 42 #[vP ad], row (bd) 136 #[vU 0, vU (i : Int)], row (ad) 57 #[vS dd 1 1, v8 1, .bool true, bF], row (pb) 252 PC, row (sb) 260 (full symZ (symL st) c), row (xb) 83 (full cliZ XL xc)] X := by
  rw [← hW]
  exact (hO).alloc' _ (w.heap.size) (by simp)
 clear hW hO
 generalize w.heap.size = B1 at hN ⊢
 have hO := hN
 clear hN
 obtain ⟨HL, HX⟩ := hid2 hO
 have hP9 := hO.pick [0, 1, 2, 4, 6, 7, 8] dc
 generalize hX9_3 : Own.Rest _ _ X = X9_3 at hP9
 replace hP9 : Own w0 W2 [row (B1) 28 #[vI lc], row (e10) 77 #[vS xb xl (xl + xc)], row (x5) 25 #[vP pb], row (bd) 136 #[vU 0, vU (i : Int)], row (pb) 252 PC, row (sb) 260 (full symZ (symL st) c), row (xb) 83 (full cliZ XL xc)] X9_3 := hP9
 clear hO
 have hO := hP9
 clear hP9
 have st9 := rfxc1a1_st pb PC sb c st n e10 x5 bd lc i nm xb XL xl xc B1
 let R9 := rfxc1a1R pb PC sb c st n e10 x5 bd lc i nm xb XL xl xc B1
 refine wp_region_own (e := rfxc1a1E pb PC sb c st n e10 x5 bd lc i nm xb XL xl xc B1) (anc := rfxc1a1Anc) (G := (fun L9 α u9 => OwnF w0 u9 (act rfxc1a1Cnt 7 L9) (rfxc1a1R pb PC sb c st n e10 x5 bd lc i nm xb XL xl xc B1 L9 α) X9_3)) (by kernel_rfl) (by kernel_rfl) (by kernel_rfl) (by kernel_rfl) (rfxc1a1_he pb PC sb c st n e10 x5 bd lc i nm xb XL xl xc B1) ?_ (RunsAll.all ?_) ?_
 ·have hp : ∀ i, act rfxc1a1Cnt 7 (fun _ => false) i → i ∈ [999, 1999, 2999, 3999, 4999, 5999, 6999] := by
   intro i hi
   have h9 : i % 1000 = 999 := by
    by_cases h : i % 1000 = 999
    ·exact h
    ·exact absurd (act_lt hi h) (by simp)
   unfold act at hi
   rw [if_pos h9] at hi
   simp only [List.mem_cons, List.not_mem_nil, or_false]
   omega
  refine hO.drew.family (fun i hi => ?_) (fun i j hi hj hij => ?_)
  ·have := hp i hi
   simp only [List.mem_cons, List.not_mem_nil, or_false] at this
   rcases this with rfl | rfl | rfl | rfl | rfl | rfl | rfl <;> rfl
  ·have h1 := hp i hi
   have h2 := hp j hj
   simp only [List.mem_cons, List.not_mem_nil, or_false] at h1 h2
   omega
 ·refine ⟨?_, ?_, ?_, ?_, ?_, ?_, ?_, ?_, ?_, ?_, ?_, ?_, ?_, ?_, ?_, ?_, ?_, ?_, ?_, ?_, ?_, ?_, ?_, ?_, trivial⟩
  ·refine pur st9 rfl rfl fun L9 α a9 u9 K9 hL hcl hA hG hS h0 h1 hK => ?_
   replace hL : L9 0 = false := hL
   have s2 := eS (vP e10) ((h0 2 (by kernel_rfl)).trans rfl)
   have e0 : R9 L9 α 1999 = row (e10) 77 #[vS xb xl (xl + xc)] := by
    show rfxc1a1T1999 pb PC sb c st n e10 x5 bd lc i nm xb XL xl xc B1 L9 α = _
    unfold rfxc1a1T1999
    rw [if_neg (fun e => by have := hcl 23 e 0 dc; rw [hL] at this; cases this)]
   have hr := hG.rowAt 1999 (act_base 1999 rfl) e0
   have c0 : u9.cell? ⟨e10, 0, none⟩ = some (vS xb xl (xl + xc)) := hr.cell rfl
   clear hr e0
   go_simp
   exact hK
  ·refine pur st9 rfl rfl fun L9 α a9 u9 K9 hL hcl hA hG hS h0 h1 hK => ?_
   have s3 := eS (vP x5) ((h0 3 (by kernel_rfl)).trans rfl)
   have e0 : R9 L9 α 2999 = row (x5) 25 #[vP pb] := rfl
   have hr := hG.rowAt 2999 (act_base 2999 rfl) e0
   have c0 : u9.cell? ⟨x5, 0, none⟩ = some (vP pb) := hr.cell rfl
   clear hr e0
   go_simp
   exact hK
  ·refine pur st9 rfl rfl fun L9 α a9 u9 K9 hL hcl hA hG hS h0 h1 hK => ?_
   have s8 := eS (vP pb) (hS 1 8 dc rfl (ltd 33 rfl))
   go_simp
   exact hK
  ·refine pur st9 rfl rfl fun L9 α a9 u9 K9 hL hcl hA hG hS h0 h1 hK => ?_
   have s9 := eS (vP pb) (hS 2 9 dc rfl (ltd 33 rfl))
   go_simp
   exact hK
  ·refine pur st9 rfl rfl fun L9 α a9 u9 K9 hL hcl hA hG hS h0 h1 hK => ?_
   have s10 := eS (.pointer (some ⟨pb, 106, none⟩)) (hS 3 10 dc rfl (ltd 33 rfl))
   have e0 : R9 L9 α 4999 = row (pb) 252 PC := rfl
   have hr := hG.rowAt 4999 (act_base 4999 rfl) e0
   have c0 : u9.cell? ⟨pb, 106, none⟩ = some (vS sb n (n + c)) := hr.cell (hk106)
   clear hr e0
   go_simp
   exact hK
  ·refine pur st9 rfl rfl fun L9 α a9 u9 K9 hL hcl hA hG hS h0 h1 hK => ?_
   have s1 := eS (vP bd) ((h0 1 (by kernel_rfl)).trans rfl)
   go_simp
   exact hK
  ·refine pur st9 rfl rfl fun L9 α a9 u9 K9 hL hcl hA hG hS h0 h1 hK => ?_
   have s12 := eS (vP bd) (hS 5 12 dc rfl (ltd 33 rfl))
   go_simp
   exact hK
  ·refine pur st9 rfl rfl fun L9 α a9 u9 K9 hL hcl hA hG hS h0 h1 hK => ?_
   have s13 := eS (vP bd) (hS 6 13 dc rfl (ltd 33 rfl))
   go_simp
   exact hK
  ·refine pur st9 rfl rfl fun L9 α a9 u9 K9 hL hcl hA hG hS h0 h1 hK => ?_
   have s14 := eS (vP bd) (hS 7 14 dc rfl (ltd 33 rfl))
   go_simp
   exact hK
  ·refine pur st9 rfl rfl fun L9 α a9 u9 K9 hL hcl hA hG hS h0 h1 hK => ?_
   have s15 := eS (.pointer (some ⟨bd, 1, none⟩)) (hS 8 15 dc rfl (ltd 33 rfl))
   have e0 : R9 L9 α 3999 = row (bd) 136 #[vU 0, vU (i : Int)] := rfl
   have hr := hG.rowAt 3999 (act_base 3999 rfl) e0
   have c0 : u9.cell? ⟨bd, 1, none⟩ = some (vU (i : Int)) := hr.cell rfl
   clear hr e0
   go_simp
   exact hK
  ·refine pur st9 rfl rfl fun L9 α a9 u9 K9 hL hcl hA hG hS h0 h1 hK => ?_
   have q11 : a9.tmps[11]? = some (vS sb n (n + c)) := hS 4 11 dc rfl (ltd 33 rfl)
   have s11 := Rega.eval_of q11
   have q16 : a9.tmps[16]? = some (vU (i : Int)) := hS 9 16 dc rfl (ltd 33 rfl)
   have s16 := Rega.eval_of q16
   go_simp
   exact hK
  ·refine pur st9 rfl rfl fun L9 α a9 u9 K9 hL hcl hA hG hS h0 h1 hK => ?_
   have s17 := eS (.pointer (some ⟨sb, i * 10, none⟩)) (hS 10 17 dc rfl (ltd 33 rfl))
   go_simp
   exact hK
  ·refine pur st9 rfl rfl fun L9 α a9 u9 K9 hL hcl hA hG hS h0 h1 hK => ?_
   have s18 := eS (.pointer (some ⟨sb, i * 10 + 1, none⟩)) (hS 11 18 dc rfl (ltd 33 rfl))
   have e0 : R9 L9 α 5999 = row (sb) 260 (full symZ (symL st) c) := rfl
   have hr := hG.rowAt 5999 (act_base 5999 rfl) e0
   have c0 : u9.cell? ⟨sb, i * 10 + 1, none⟩ = some (.string nm) := hr.cell ((full_at hyv))
   clear hr e0
   go_simp
   exact hK
  ·refine pur st9 rfl rfl fun L9 α a9 u9 K9 hL hcl hA hG hS h0 h1 hK => ?_
   have s5 := eS (vP B1) ((h0 5 (by kernel_rfl)).trans rfl)
   have e0 : R9 L9 α 999 = row (B1) 28 #[vI lc] := rfl
   have hr := hG.rowAt 999 (act_base 999 rfl) e0
   have c0 : u9.cell? ⟨B1, 0, none⟩ = some (vI lc) := hr.cell rfl
   clear hr e0
   go_simp
   exact hK
  ·refine pur st9 rfl rfl fun L9 α a9 u9 K9 hL hcl hA hG hS h0 h1 hK => ?_
   have s5 := eS (vP B1) ((h0 5 (by kernel_rfl)).trans rfl)
   have e0 : R9 L9 α 999 = row (B1) 28 #[vI lc] := rfl
   have hr := hG.rowAt 999 (act_base 999 rfl) e0
   have c0 : u9.cell? ⟨B1, 0, none⟩ = some (vI lc) := hr.cell rfl
   clear hr e0
   go_simp
   exact hK
  ·refine pur st9 rfl rfl fun L9 α a9 u9 K9 hL hcl hA hG hS h0 h1 hK => ?_
   have s1 := eS (vP bd) ((h0 1 (by kernel_rfl)).trans rfl)
   go_simp
   exact hK
  ·refine pur st9 rfl rfl fun L9 α a9 u9 K9 hL hcl hA hG hS h0 h1 hK => ?_
   have s22 := eS (vP bd) (hS 15 22 dc rfl (ltd 33 rfl))
   go_simp
   exact hK
  ·refine pur st9 rfl rfl fun L9 α a9 u9 K9 hL hcl hA hG hS h0 h1 hK => ?_
   have s23 := eS (vP bd) (hS 16 23 dc rfl (ltd 33 rfl))
   go_simp
   exact hK
  ·refine pur st9 rfl rfl fun L9 α a9 u9 K9 hL hcl hA hG hS h0 h1 hK => ?_
   have s24 := eS (vP bd) (hS 17 24 dc rfl (ltd 33 rfl))
   have e0 : R9 L9 α 3999 = row (bd) 136 #[vU 0, vU (i : Int)] := rfl
   have hr := hG.rowAt 3999 (act_base 3999 rfl) e0
   have c0 : u9.cell? ⟨bd, 0, none⟩ = some (vU 0) := hr.cell rfl
   have c1 : u9.cell? ⟨bd, 1, none⟩ = some (vU (i : Int)) := hr.cell rfl
   clear hr e0
   go_simp
   exact hK
  ·refine pur st9 rfl rfl fun L9 α a9 u9 K9 hL hcl hA hG hS h0 h1 hK => ?_
   have q21 : a9.tmps[21]? = some (.agg #[vI lc]) := hS 14 21 dc rfl (ltd 33 rfl)
   have s21 := Rega.eval_of q21
   have q25 : a9.tmps[25]? = some (.agg #[vU 0, vU (i : Int)]) := hS 18 25 dc rfl (ltd 33 rfl)
   have s25 := Rega.eval_of q25
   go_simp
   exact hK
  ·refine pur st9 rfl rfl fun L9 α a9 u9 K9 hL hcl hA hG hS h0 h1 hK => ?_
   have q19 : a9.tmps[19]? = some (.string nm) := hS 12 19 dc rfl (ltd 33 rfl)
   have s19 := Rega.eval_of q19
   have q20 : a9.tmps[20]? = some (.agg #[vI lc]) := hS 13 20 dc rfl (ltd 33 rfl)
   have s20 := Rega.eval_of q20
   have q26 : a9.tmps[26]? = some (.agg #[vI lc, vU 0, vU (i : Int)]) := hS 19 26 dc rfl (ltd 33 rfl)
   have s26 := Rega.eval_of q26
   go_simp
   exact hK
  ·intro L9 α a9 u9 K9 hL hcl hA hG hS h0 h1 hK
   replace hL : L9 21 = false := hL
   have q27 : a9.tmps[27]? = some (.agg #[.string nm, .string ⟨#[]⟩, vI lc, vI lc, vU 0, vU (i : Int)]) := hS 20 27 dc rfl (ltd 33 rfl)
   have s27 := Rega.eval_of q27
   go_simp
   exact hK _ (fun j => if j = 21 then u9.heap.size else α j) _ (fun j hj => if_neg (fun e => hj (by rw [e]))) rfl (step_alloc st9 hL hcl rfl rfl dc _ rfl hG)
  ·intro L9 α a9 u9 K9 hL hcl hA hG hS h0 h1 hK
   replace hL : L9 22 = false := hL
   have q7 : a9.tmps[7]? = some (vS xb xl (xl + xc)) := hS 0 7 dc rfl (ltd 33 rfl)
   have s7 := Rega.eval_of q7
   have q28 : a9.tmps[28]? = some (vS (α 21) 1 1) := hS 21 28 dc rfl (ltd 33 rfl)
   have s28 := Rega.eval_of q28
   simp only [Region.wanted, if_true]
   have e0 : R9 L9 α 6999 = row (xb) 83 (full cliZ XL xc) := by
    show rfxc1a1T6999 pb PC sb c st n e10 x5 bd lc i nm xb XL xl xc B1 L9 α = _
    unfold rfxc1a1T6999
    rw [if_neg (by rw [hL]; decide)]
   have e1 : R9 L9 α 21 = row (α 21) 83 #[.string nm, .string ⟨#[]⟩, vI lc, vI lc, vU 0, vU (i : Int)] := rfl
   have hM : ∀ i, i ∈ [6999, 21] → act rfxc1a1Cnt 7 L9 i := by
    intro i hi
    simp only [List.mem_cons, List.not_mem_nil, or_false] at hi
    rcases hi with rfl | rfl
    ·exact act_base 6999 rfl
    ·exact act_new 21 rfl (hA 21 dc)
   have hP : Own w0 u9 [row (xb) 83 (full cliZ XL xc), row (α 21) 83 #[.string nm, .string ⟨#[]⟩, vI lc, vI lc, vU 0, vU (i : Int)]] _ := (hG.pick [6999, 21] dc hM).conv (by
    show [R9 L9 α 6999, R9 L9 α 21] = _
    rw [e0, e1])
   clear e0 e1 hM
   obtain ⟨i9, hi9, z1, z2, z3⟩ := info_parts infoCli
   refine wp_append_full (Operand.tmp 7) (Operand.tmp 28) 77 rfl 83 i9 (.agg cliZ) 6 48 Tryd.underlying77 hi9 z1 z2 z3 rfl dc hP s7 s28 (by first | rfl | assumption | (simp; done) | (simp; omega)) (by first | rfl | assumption | omega) rfl (oneAll rfl) (by first | decide | omega | (unfold maxLen; omega)) (by first | decide | omega | (unfold maxLen; omega)) ?_
   intro b0 b1 u1 hQ
   obtain ⟨α', hα'⟩ : ∃ α' : Rega.Atoms, α' = (fun j => if j = 22 then b0 else if j = 1022 then b1 else α j) := ⟨_, rfl⟩
   have f0 : R9 (Rega.ran L9 22) α' 6999 = row (α' 22) 83 (full cliZ (XL ++ [.string nm, .string ⟨#[]⟩, vI lc, vI lc, vU 0, vU (i : Int)]) (α' 1022)) := by
    show rfxc1a1T6999 pb PC sb c st n e10 x5 bd lc i nm xb XL xl xc B1 (Rega.ran L9 22) α' = _
    unfold rfxc1a1T6999
    rw [if_pos (show Rega.ran L9 22 22 = true from rfl)]
   have f1 : R9 (Rega.ran L9 22) α' 21 = row (α' 21) 83 #[.string nm, .string ⟨#[]⟩, vI lc, vI lc, vU 0, vU (i : Int)] := rfl
   have hα : ∀ j, j % 1000 ≠ 22 → α' j = α j := fun j hj => by rw [hα']; simp only []; rw [if_neg (by omega), if_neg (by omega)]
   have hb0 : α' 22 = b0 := by rw [hα']; rfl
   have hb1 : α' 1022 = b1 := by rw [hα']; rfl
   have ha21 : α' 21 = α 21 := hα 21 dc
   refine hK _ α' _ hα ?_ (step_call (st9) hL hcl hα [6999, 21] [6999, 21] dc dc dc (M := _) ?_ hG hQ)
   ·show _ = (vS (α' 22) (xl + 1) (xl + 1 + α' 1022) : Value)
    simp only [hb0, hb1]
   ·show [R9 (Rega.ran L9 22) α' 6999, R9 (Rega.ran L9 22) α' 21] = _
    rw [f0, f1]
    simp only [hb0, hb1, ha21]
    try rfl
  ·intro L9 α a9 u9 K9 hL hcl hA hG hS h0 h1 hK
   replace hL : L9 23 = false := hL
   have q2 : a9.tmps[2]? = some (vP e10) := (h0 2 (by kernel_rfl)).trans rfl
   have s2 := Rega.eval_of q2
   have q29 : a9.tmps[29]? = some (vS (α 22) (xl + 1) (xl + 1 + α 1022)) := hS 22 29 dc rfl (ltd 33 rfl)
   have s29 := Rega.eval_of q29
   have e0 : R9 L9 α 1999 = row (e10) 77 #[vS xb xl (xl + xc)] := by
    show rfxc1a1T1999 pb PC sb c st n e10 x5 bd lc i nm xb XL xl xc B1 L9 α = _
    unfold rfxc1a1T1999
    rw [if_neg (by rw [hL]; decide)]
   have hr := hG.rowAt 1999 (act_base 1999 rfl) e0
   have c0 : u9.cell? ⟨e10, 0, none⟩ = some (vS xb xl (xl + xc)) := hr.cell rfl
   have y0 : u9.frozen? ⟨e10, 0, none⟩ = false := hr.free (0)
   clear hr
   have E0 := Lib.hid e0
   clear e0
   go_simp
   have e1 : R9 (Rega.ran L9 23) α 1999 = row (e10) 77 #[vS (α 22) (xl + 1) (xl + 1 + α 1022)] := by
    show rfxc1a1T1999 pb PC sb c st n e10 x5 bd lc i nm xb XL xl xc B1 (Rega.ran L9 23) α = _
    unfold rfxc1a1T1999
    rw [if_pos (show Rega.ran L9 23 23 = true from rfl)]
   exact hK _ α _ (fun _ _ => rfl) rfl (step_sets (st9) hL hcl rfl 1999 rfl (act_base 1999 rfl) E0.out (0) [vS (α 22) (xl + 1) (xl + 1 + α 1022)] (e1.trans rfl) hG)
 clear st9
 intro α u hG
 have e0 : R9 (fun k => decide (k < 24)) α 999 = row (B1) 28 #[vI lc] := rfl
 have e1 : R9 (fun k => decide (k < 24)) α 1999 = row (e10) 77 #[vS (α 22) (xl + 1) (xl + 1 + α 1022)] := by
  show rfxc1a1T1999 pb PC sb c st n e10 x5 bd lc i nm xb XL xl xc B1 (fun k => decide (k < 24)) α = _
  unfold rfxc1a1T1999
  rw [if_pos dc]
 have e2 : R9 (fun k => decide (k < 24)) α 2999 = row (x5) 25 #[vP pb] := rfl
 have e3 : R9 (fun k => decide (k < 24)) α 3999 = row (bd) 136 #[vU 0, vU (i : Int)] := rfl
 have e4 : R9 (fun k => decide (k < 24)) α 4999 = row (pb) 252 PC := rfl
 have e5 : R9 (fun k => decide (k < 24)) α 5999 = row (sb) 260 (full symZ (symL st) c) := rfl
 have e6 : R9 (fun k => decide (k < 24)) α 6999 = row (α 22) 83 (full cliZ (XL ++ [.string nm, .string ⟨#[]⟩, vI lc, vI lc, vU 0, vU (i : Int)]) (α 1022)) := by
  show rfxc1a1T6999 pb PC sb c st n e10 x5 bd lc i nm xb XL xl xc B1 (fun k => decide (k < 24)) α = _
  unfold rfxc1a1T6999
  rw [if_pos dc]
 have e7 : R9 (fun k => decide (k < 24)) α 21 = row (α 21) 83 #[.string nm, .string ⟨#[]⟩, vI lc, vI lc, vU 0, vU (i : Int)] := rfl
 have hO : Own w0 u [row (B1) 28 #[vI lc], row (e10) 77 #[vS (α 22) (xl + 1) (xl + 1 + α 1022)], row (x5) 25 #[vP pb], row (bd) 136 #[vU 0, vU (i : Int)], row (pb) 252 PC, row (sb) 260 (full symZ (symL st) c), row (α 22) 83 (full cliZ (XL ++ [.string nm, .string ⟨#[]⟩, vI lc, vI lc, vU 0, vU (i : Int)]) (α 1022)), row (α 21) 83 #[.string nm, .string ⟨#[]⟩, vI lc, vI lc, vU 0, vU (i : Int)]] X9_3 := (hG.list [999, 1999, 2999, 3999, 4999, 5999, 6999, 21] dc (act_all dc)).conv (by
  show [R9 (fun k => decide (k < 24)) α 999, R9 (fun k => decide (k < 24)) α 1999, R9 (fun k => decide (k < 24)) α 2999, R9 (fun k => decide (k < 24)) α 3999, R9 (fun k => decide (k < 24)) α 4999, R9 (fun k => decide (k < 24)) α 5999, R9 (fun k => decide (k < 24)) α 6999, R9 (fun k => decide (k < 24)) α 21] = _
  rw [e0, e1, e2, e3, e4, e5, e6, e7])
 clear hG e0 e1 e2 e3 e4 e5 e6 e7 R9
 generalize hfr : Rega.frameAt _ _ _ _ _ = fr
 have hdf : fr = ⟨#[.agg #[vI lc], vP bd, vP e10, vP x5, vP sx, vP B1, undef, vS xb xl (xl + xc), vP pb, vP pb, .pointer (some ⟨pb, 106, none⟩), vS sb n (n + c), vP bd, vP bd, vP bd, .pointer (some ⟨bd, 1, none⟩), vU (i : Int), .pointer (some ⟨sb, i * 10, none⟩), .pointer (some ⟨sb, i * 10 + 1, none⟩), .string nm, .agg #[vI lc], .agg #[vI lc], vP bd, vP bd, vP bd, .agg #[vU 0, vU (i : Int)], .agg #[vI lc, vU 0, vU (i : Int)], .agg #[.string nm, .string ⟨#[]⟩, vI lc, vI lc, vU 0, vU (i : Int)], vS (α 21) 1 1, vS (α 22) (xl + 1) (xl + 1 + α 1022), undef, undef, undef], []⟩ := by rw [← hfr]; kernel_rfl
 clear hfr
 subst hdf
 generalize α 21 = nd4 at hO ⊢
 generalize α 22 = nd5 at hO ⊢
 generalize α 1022 = nd6 at hO ⊢
 clear α
 subst hX9_3
 replace hO : Own w0 u [row (B1) 28 #[vI lc], row (e10) 77 #[vS nd5 (xl + 1) (xl + 1 + nd6)], row (x5) 25 #[vP pb], row (bd) 136 #[vU 0, vU (i : Int)], row (pb) 252 PC, row (sb) 260 (full symZ (symL st) c), row (nd5) 83 (full cliZ (XL ++ [.string nm, .string ⟨#[]⟩, vI lc, vI lc, vU 0, vU (i : Int)]) (nd6)), row (nd4) 83 #[.string nm, .string ⟨#[]⟩, vI lc, vI lc, vU 0, vU (i : Int)], row (sx) 42 #[vP ad], row (ad) 57 #[vS dd 1 1, v8 1, .bool true, bF]] X := hO.back HL.out HX.out [3, 5] dc dc
 clear HL HX
 obtain ⟨aA, aB, aC, -⟩ := hO.k1 0 rfl
 obtain ⟨aD, aE, aF, -⟩ := hO.k1 1 rfl
 obtain ⟨aG, aH, aI, -⟩ := hO.k1 2 rfl
 obtain ⟨aJ, aK, aL, aM, -⟩ := hO.k2 3 rfl
 obtain ⟨aT, aU, aV, aW, aw, ax, aX, aY, -⟩ := hO.k6 7 rfl
 obtain ⟨aZ, aa, ab, -⟩ := hO.k1 8 rfl
 obtain ⟨ac, ae, af, ag, ah, ai, -⟩ := hO.k4 9 rfl
 have HO := Lib.hid hO
 clear hO
 go_wp2_with (first | (with_reducible refine Own.stay (fn := Tryd.f45) ?_) | fail)
 try with_reducible refine Own.Stay.mk ?_
 have hO := HO.out
 clear HO aA aB aC aD aE aF aG aH aI aJ aK aL aM aT aU aV aW aw ax aX aY aZ aa ab ac ae af ag ah ai
 generalize hW : World.setCell _ _ _ = W8
 have hN : Own w0 W8 [row (B1) 28 #[vI lc], row (e10) 77 #[vS nd5 (xl + 1) (xl + 1 + nd6)], row (x5) 25 #[vP pb], row (bd) 136 #[vU 0, vU (i : Int)], row (pb) 252 PC, row (sb) 260 (full symZ (symL st) c), row (nd5) 83 (full cliZ (XL ++ [.string nm, .string ⟨#[]⟩, vI lc, vI lc, vU 0, vU (i : Int)]) (nd6)), row (nd4) 83 #[.string nm, .string ⟨#[]⟩, vI lc, vI lc, vU 0, vU (i : Int)], row (sx) 42 #[vP ad], row (ad) 57 #[vS dd 1 1, v8 0, .bool true, bF]] X := by
  rw [← hW]
  exact (hO).set 9 rfl 1 _
 clear hW hO
 have hO := hN
 clear hN
 refine bodyPost_ret (v := .tuple #[]) ?_ rfl ⟨nd5, nd6, rfl, hO.sub [1, 2, 8, 3, 9, 4, 5, 6] dc⟩
 simp [results, Tryd.results45, go_sem]
def fxb1Post (pb : Nat) (PC : Array Value) (sb c : Nat) (st : List Sy) (n e10 x5 sx ad dd bd : Nat) (lc : Int) (i : Nat) (nm : ByteArray) (xb : Nat) (XL : List Value) (xl xc : Nat) (w0 : World) (X : Nat → Obj → Prop) (e : Ending) (w' : World) : Prop :=
 ∃ xb2 : Nat, ∃ xc2 : Nat, e = .returned (.tuple #[]) ∧ Own w0 w' [row (e10) 77 #[vS xb2 (xl + 1) (xl + 1 + xc2)], row (x5) 25 #[vP pb], row (sx) 42 #[vP ad], row (bd) 136 #[vU 0, vU (i : Int)], row (ad) 57 #[vS dd 1 1, v8 0, .bool true, bF], row (pb) 252 PC, row (sb) 260 (full symZ (symL st) c), row (xb2) 83 (full cliZ (XL ++ [.string nm, .string ⟨#[]⟩, vI lc, vI lc, vU 0, vU (i : Int)]) xc2)] X
set_option maxRecDepth 100000 in
set_option maxHeartbeats 1000000 in
theorem fxb1 (pb : Nat) (PC : Array Value) (sb c : Nat) (st : List Sy) (n e10 x5 sx ad dd bd : Nat) (lc : Int) (i : Nat) (nm : ByteArray) (xb : Nat) (XL : List Value) (xl xc : Nat) (w0 w : World) (X : Nat → Obj → Prop) (hO : Own w0 w [row (e10) 77 #[vS xb xl (xl + xc)], row (x5) 25 #[vP pb], row (sx) 42 #[vP ad], row (bd) 136 #[vU 0, vU (i : Int)], row (ad) 57 #[vS dd 1 1, v8 1, .bool true, bF], row (pb) 252 PC, row (sb) 260 (full symZ (symL st) c), row (xb) 83 (full cliZ XL xc)] X) (hk106 : PC[106]? = some (vS sb n (n + c))) (hn : st.length = n) (hnb : n ≤ 100000) (hnm9 : ∃ y : Sy, st[i]? = some y ∧ y.nm = nm) (hxl : XL.length = xl * 6) (hxb : xl ≤ 5000) :
  Calls Tryd.prog 53 #[.agg #[vF 134 bd, vI lc], .func (Fn.func 45) #[] #[vP e10, vP x5, vP sx]] w (fxb1Post pb PC sb c st n e10 x5 sx ad dd bd lc i nm xb XL xl xc w0 X) := by
 go_enter Tryd.func53, Tryd.ntmps53
 obtain ⟨aA, aB, aC, -⟩ := hO.k1 0 rfl
 obtain ⟨aD, aE, aF, -⟩ := hO.k1 1 rfl
 obtain ⟨aG, aH, aI, -⟩ := hO.k1 2 rfl
 obtain ⟨aJ, aK, aL, aM, -⟩ := hO.k2 3 rfl
 obtain ⟨aN, aO, aP, aQ, aR, aS, -⟩ := hO.k4 4 rfl
 have HO := Lib.hid hO
 clear hO
 go_wp2_with (first | (with_reducible refine Own.stay (fn := Tryd.f53) ?_) | fail)
 try with_reducible refine Own.Stay.mk ?_
 have hO := HO.out
 clear HO aA aB aC aD aE aF aG aH aI aJ aK aL aM aN aO aP aQ aR aS
 generalize hW : World.alloc _ _ = W2
 have hN : Own w0 W2 [row (w.heap.size) 47 #[vF 134 bd, vI lc], row (e10) 77 #[vS xb xl (xl + xc)], row (x5) 25 #[vP pb], row (sx) 42 #[vP ad], row (bd) 136 #[vU 0, vU (i : Int)], row (ad) 57 #[vS dd 1 1, v8 1, .bool true, bF], row (pb) 252 PC, row (sb) 260 (full symZ (symL st) c), row (xb) 83 (full cliZ XL xc)] X := by
  rw [← hW]
  exact (hO).alloc' _ (w.heap.size) (by simp)
 clear hW hO
 generalize w.heap.size = B1 at hN ⊢
 have hO := hN
 clear hN
 obtain ⟨HL, HX⟩ := hid2 hO
 have hP9 := hO.pick [1, 2, 3, 4, 5, 6, 7, 8] dc
 have T9 := fxc1 pb PC sb c st n e10 x5 sx ad dd bd lc i _ xb XL xl xc _ _ _ hP9 hk106 hn hnb hnm9 hxl hxb
 refine Calls.mono T9 ?_
 clear hP9 T9
 rintro e uw3 ⟨nd4, nd5, rfl, hQ⟩
 replace hO : Own w0 uw3 [row (e10) 77 #[vS nd4 (xl + 1) (xl + 1 + nd5)], row (x5) 25 #[vP pb], row (sx) 42 #[vP ad], row (bd) 136 #[vU 0, vU (i : Int)], row (ad) 57 #[vS dd 1 1, v8 0, .bool true, bF], row (pb) 252 PC, row (sb) 260 (full symZ (symL st) c), row (nd4) 83 (full cliZ (XL ++ [.string nm, .string ⟨#[]⟩, vI lc, vI lc, vU 0, vU (i : Int)]) nd5), row (B1) 47 #[vF 134 bd, vI lc]] X := hQ.back HL.out HX.out [0] dc dc
 clear hQ HL HX
 obtain ⟨aA, aB, aC, -⟩ := hO.k1 0 rfl
 obtain ⟨aD, aE, aF, -⟩ := hO.k1 1 rfl
 obtain ⟨aG, aH, aI, -⟩ := hO.k1 2 rfl
 obtain ⟨aJ, aK, aL, aM, -⟩ := hO.k2 3 rfl
 obtain ⟨aN, aO, aP, aQ, aR, aS, -⟩ := hO.k4 4 rfl
 obtain ⟨aZ, aj, aa, ab, -⟩ := hO.k2 8 rfl
 have HO := Lib.hid hO
 clear hO
 go_wp2_with (first | (with_reducible refine Own.stay (fn := Tryd.f53) ?_) | fail)
 try with_reducible refine Own.Stay.mk ?_
 have hO := HO.out
 clear HO aA aB aC aD aE aF aG aH aI aJ aK aL aM aN aO aP aQ aR aS aZ aj aa ab
 refine bodyPost_ret (v := .tuple #[]) ?_ rfl ⟨nd4, nd5, rfl, hO.sub [0, 1, 2, 3, 4, 5, 6, 7] dc⟩
 simp [results, Tryd.results53, go_sem]
def fxd1Post (pb : Nat) (PC : Array Value) (sb c : Nat) (st : List Sy) (n e10 x5 sx ad dd bd : Nat) (lc : Int) (i : Nat) (nm : ByteArray) (xb : Nat) (XL : List Value) (xl xc : Nat) (w0 : World) (X : Nat → Obj → Prop) (e : Ending) (w' : World) : Prop :=
 ∃ xb2 : Nat, ∃ xc2 : Nat, e = .returned (.tuple #[]) ∧ Own w0 w' [row (e10) 77 #[vS xb2 (xl + 1) (xl + 1 + xc2)], row (x5) 25 #[vP pb], row (sx) 42 #[vP ad], row (bd) 136 #[vU 0, vU (i : Int)], row (ad) 57 #[vS dd 1 1, v8 0, .bool true, bF], row (pb) 252 PC, row (sb) 260 (full symZ (symL st) c), row (dd) 54 #[vF 134 bd, vI lc, .nilIface, vI 0], row (xb2) 83 (full cliZ (XL ++ [.string nm, .string ⟨#[]⟩, vI lc, vI lc, vU 0, vU (i : Int)]) xc2)] X
set_option maxRecDepth 100000 in
set_option maxHeartbeats 1000000 in
theorem fxd1 (pb : Nat) (PC : Array Value) (sb c : Nat) (st : List Sy) (n e10 x5 sx ad dd bd : Nat) (lc : Int) (i : Nat) (nm : ByteArray) (xb : Nat) (XL : List Value) (xl xc : Nat) (w0 w : World) (X : Nat → Obj → Prop) (hO : Own w0 w [row (e10) 77 #[vS xb xl (xl + xc)], row (x5) 25 #[vP pb], row (sx) 42 #[vP ad], row (bd) 136 #[vU 0, vU (i : Int)], row (ad) 57 #[vS dd 1 1, v8 1, .bool true, bF], row (pb) 252 PC, row (sb) 260 (full symZ (symL st) c), row (dd) 54 #[vF 134 bd, vI lc, .nilIface, vI 0], row (xb) 83 (full cliZ XL xc)] X) (hk106 : PC[106]? = some (vS sb n (n + c))) (hn : st.length = n) (hnb : n ≤ 100000) (hnm9 : ∃ y : Sy, st[i]? = some y ∧ y.nm = nm) (hxl : XL.length = xl * 6) (hxb : xl ≤ 5000) :
  Calls Tryd.prog 44 #[vS dd 1 1, .func (Fn.func 45) #[] #[vP e10, vP x5, vP sx]] w (fxd1Post pb PC sb c st n e10 x5 sx ad dd bd lc i nm xb XL xl xc w0 X) := by
 go_enter Tryd.func44, Tryd.ntmps44
 obtain ⟨aA, aB, aC, -⟩ := hO.k1 0 rfl
 obtain ⟨aD, aE, aF, -⟩ := hO.k1 1 rfl
 obtain ⟨aG, aH, aI, -⟩ := hO.k1 2 rfl
 obtain ⟨aJ, aK, aL, aM, -⟩ := hO.k2 3 rfl
 obtain ⟨aN, aO, aP, aQ, aR, aS, -⟩ := hO.k4 4 rfl
 obtain ⟨aT, aU, aV, aW, aX, aY, -⟩ := hO.k4 7 rfl
 have HO := Lib.hid hO
 clear hO
 go_wp2_with (first | (with_reducible refine Own.stay (fn := Tryd.f44) ?_) | fail)
 try with_reducible refine Own.Stay.mk ?_
 have hO := HO.out
 clear HO aA aB aC aD aE aF aG aH aI aJ aK aL aM aN aO aP aQ aR aS aT aU aV aW aX aY
 go_loopg [8] 2 (fun gf s8 wx => (gf = 2 ∧ s8 = v6 0 ∧ Own w0 wx [row (e10) 77 #[vS xb xl (xl + xc)], row (x5) 25 #[vP pb], row (sx) 42 #[vP ad], row (bd) 136 #[vU 0, vU (i : Int)], row (ad) 57 #[vS dd 1 1, v8 1, .bool true, bF], row (pb) 252 PC, row (sb) 260 (full symZ (symL st) c), row (dd) 54 #[vF 134 bd, vI lc, .nilIface, vI 0], row (xb) 83 (full cliZ XL xc)] X) ∨ (gf = 1 ∧ s8 = v6 1 ∧ ∃ xb2 xc2 : Nat, Own w0 wx [row (e10) 77 #[vS xb2 (xl + 1) (xl + 1 + xc2)], row (x5) 25 #[vP pb], row (sx) 42 #[vP ad], row (bd) 136 #[vU 0, vU (i : Int)], row (ad) 57 #[vS dd 1 1, v8 0, .bool true, bF], row (pb) 252 PC, row (sb) 260 (full symZ (symL st) c), row (dd) 54 #[vF 134 bd, vI lc, .nilIface, vI 0], row (xb2) 83 (full cliZ (XL ++ [.string nm, .string ⟨#[]⟩, vI lc, vI lc, vU 0, vU (i : Int)]) xc2)] X))
 case atStart => exact Or.inl ⟨rfl, rfl, hO⟩
 obtain ⟨rfl, rfl, hO⟩ | ⟨rfl, rfl, xb2, xc2, hO⟩ := hrel
 ·skip
  obtain ⟨aA, aB, aC, -⟩ := hO.k1 0 rfl
  obtain ⟨aD, aE, aF, -⟩ := hO.k1 1 rfl
  obtain ⟨aG, aH, aI, -⟩ := hO.k1 2 rfl
  obtain ⟨aJ, aK, aL, aM, -⟩ := hO.k2 3 rfl
  obtain ⟨aN, aO, aP, aQ, aR, aS, -⟩ := hO.k4 4 rfl
  obtain ⟨aT, aU, aV, aW, aX, aY, -⟩ := hO.k4 7 rfl
  have HO := Lib.hid hO
  clear hO
  go_wp2_with (first | (with_reducible refine Own.stay (fn := Tryd.f44) ?_) | fail)
  try with_reducible refine Own.Stay.mk ?_
  have hO := HO.out
  clear HO aA aB aC aD aE aF aG aH aI aJ aK aL aM aN aO aP aQ aR aS aT aU aV aW aX aY
  generalize hW : World.alloc _ _ = W2
  have hN : Own w0 W2 [row (wr.heap.size) 54 #[vF 134 bd, vI lc, .nilIface, vI 0], row (e10) 77 #[vS xb xl (xl + xc)], row (x5) 25 #[vP pb], row (sx) 42 #[vP ad], row (bd) 136 #[vU 0, vU (i : Int)], row (ad) 57 #[vS dd 1 1, v8 1, .bool true, bF], row (pb) 252 PC, row (sb) 260 (full symZ (symL st) c), row (dd) 54 #[vF 134 bd, vI lc, .nilIface, vI 0], row (xb) 83 (full cliZ XL xc)] X := by
   rw [← hW]
   exact (hO).alloc' _ (wr.heap.size) (by simp)
  clear hW hO
  generalize wr.heap.size = B1 at hN ⊢
  have hO := hN
  clear hN
  obtain ⟨HL, HX⟩ := hid2 hO
  have hP9 := hO.pick [1, 2, 3, 4, 5, 6, 7, 9] dc
  have T9 := fxb1 pb PC sb c st n e10 x5 sx ad dd bd lc i _ xb XL xl xc _ _ _ hP9 hk106 hn hnb hnm9 hxl hxb
  refine Calls.mono T9 ?_
  clear hP9 T9
  rintro e uw3 ⟨nd4, nd5, rfl, hQ⟩
  replace hO : Own w0 uw3 [row (e10) 77 #[vS nd4 (xl + 1) (xl + 1 + nd5)], row (x5) 25 #[vP pb], row (sx) 42 #[vP ad], row (bd) 136 #[vU 0, vU (i : Int)], row (ad) 57 #[vS dd 1 1, v8 0, .bool true, bF], row (pb) 252 PC, row (sb) 260 (full symZ (symL st) c), row (nd4) 83 (full cliZ (XL ++ [.string nm, .string ⟨#[]⟩, vI lc, vI lc, vU 0, vU (i : Int)]) nd5), row (B1) 54 #[vF 134 bd, vI lc, .nilIface, vI 0], row (dd) 54 #[vF 134 bd, vI lc, .nilIface, vI 0]] X := hQ.back HL.out HX.out [0, 8] dc dc
  clear hQ HL HX
  obtain ⟨aA, aB, aC, -⟩ := hO.k1 0 rfl
  obtain ⟨aD, aE, aF, -⟩ := hO.k1 1 rfl
  obtain ⟨aG, aH, aI, -⟩ := hO.k1 2 rfl
  obtain ⟨aJ, aK, aL, aM, -⟩ := hO.k2 3 rfl
  obtain ⟨aN, aO, aP, aQ, aR, aS, -⟩ := hO.k4 4 rfl
  obtain ⟨aZ, aj, ak, al, aa, ab, -⟩ := hO.k4 8 rfl
  obtain ⟨ac, ae, af, ag, ah, ai, -⟩ := hO.k4 9 rfl
  have HO := Lib.hid hO
  clear hO
  go_wp2_with (first | (with_reducible refine Own.stay (fn := Tryd.f44) ?_) | fail)
  try with_reducible refine Own.Stay.mk ?_
  have hO := HO.out
  clear HO aA aB aC aD aE aF aG aH aI aJ aK aL aM aN aO aP aQ aR aS aZ aj ak al aa ab ac ae af ag ah ai
  go_roundg 1
  case measure => omega
  case rel => exact Or.inr ⟨rfl, rfl, nd4, nd5, hO.sub [0, 1, 2, 3, 4, 5, 6, 9, 7] dc⟩
 obtain ⟨aA, aB, aC, -⟩ := hO.k1 0 rfl
 obtain ⟨aD, aE, aF, -⟩ := hO.k1 1 rfl
 obtain ⟨aG, aH, aI, -⟩ := hO.k1 2 rfl
 obtain ⟨aJ, aK, aL, aM, -⟩ := hO.k2 3 rfl
 obtain ⟨aN, aO, aP, aQ, aR, aS, -⟩ := hO.k4 4 rfl
 obtain ⟨aT, aU, aV, aW, aX, aY, -⟩ := hO.k4 7 rfl
 have HO := Lib.hid hO
 clear hO
 go_wp2_with (first | (with_reducible refine Own.stay (fn := Tryd.f44) ?_) | fail)
 try with_reducible refine Own.Stay.mk ?_
 have hO := HO.out
 clear HO aA aB aC aD aE aF aG aH aI aJ aK aL aM aN aO aP aQ aR aS aT aU aV aW aX aY
 refine bodyPost_ret (v := .tuple #[]) ?_ rfl ⟨xb2, xc2, rfl, hO.sub [0, 1, 2, 3, 4, 5, 6, 7, 8] dc⟩
 simp [results, Tryd.results44, go_sem]
end Go.Proofs.YtikopplofkemlaaDoor.Use
