/- recordUsage where a part keeps the uses. No condition. -/
import Derived.Test.YtikopplofkemlaaDoorLive
namespace Go.Proofs.YtikopplofkemlaaDoor.Use
open Go.ChangeShapes Go.WideShapes Go.ChangeAt Go.RowKit Go.Sort Own
set_option linter.unusedVariables false
noncomputable def rUse1E (pb : Nat) (PC : Array Value) (sb : Nat) (c : Nat) (st : List Sy) (n : Nat) (rs : Int) (i : Nat) (y : Sy) (v9 : Int) (B1 : Nat) : Nat → Rega.Atoms → Value
 | 0, α => vP pb
 | 1, α => vP pb
 | 2, α => .pointer (some ⟨pb, 106, none⟩)
 | 3, α => vS sb n (n + c)
 | 4, α => .pointer (some ⟨B1, 1, none⟩)
 | 5, α => vU (i : Int)
 | 6, α => .pointer (some ⟨sb, i * 10, none⟩)
 | 7, α => .pointer (some ⟨sb, i * 10 + 4, none⟩)
 | 8, α => vU (y.uc : Int)
 | 9, α => vU v9
 | 10, α => .pointer (some ⟨sb, i * 10, none⟩)
 | 11, α => .pointer (some ⟨sb, i * 10 + 4, none⟩)
 | 12, α => undef
 | _, _ => undef
noncomputable def rUse1Anc : Nat → List Nat
 | 1 => [0]
 | 2 => [0, 1]
 | 3 => [0, 1, 2]
 | 5 => [4]
 | 6 => [0, 1, 2, 3, 4, 5]
 | 7 => [0, 1, 2, 3, 4, 5, 6]
 | 8 => [0, 1, 2, 3, 4, 5, 6, 7]
 | 9 => [0, 1, 2, 3, 4, 5, 6, 7, 8]
 | 10 => [0, 1, 2, 3, 4, 5, 6, 7, 8, 9]
 | 11 => [0, 1, 2, 3, 4, 5, 6, 7, 8, 9, 10]
 | 12 => [0, 1, 2, 3, 4, 5, 6, 7, 8, 9, 10, 11]
 | _ => []
noncomputable def rUse1Trn : Nat → List Nat
 | 12 => [2999]
 | _ => []
noncomputable def rUse1Cnt : List (Nat × Nat) := []
noncomputable def rUse1T2999 (pb : Nat) (PC : Array Value) (sb : Nat) (c : Nat) (st : List Sy) (n : Nat) (rs : Int) (i : Nat) (y : Sy) (v9 : Int) (B1 : Nat) (L9 : Nat → Bool) (α : Rega.Atoms) : Rw := if L9 12 = true then row (sb) 260 (full symZ ((symL st).set (i * 10 + 4) (vU v9)) c) else row (sb) 260 (full symZ (symL st) c)
noncomputable def rUse1R (pb : Nat) (PC : Array Value) (sb : Nat) (c : Nat) (st : List Sy) (n : Nat) (rs : Int) (i : Nat) (y : Sy) (v9 : Int) (B1 : Nat) (L9 : Nat → Bool) (α : Rega.Atoms) (ix9 : Nat) : Rw := if ix9 = 999 then row (B1) 31 #[vU rs, vU (i : Int)] else if ix9 = 1999 then row (pb) 252 PC else if ix9 = 2999 then rUse1T2999 pb PC sb c st n rs i y v9 B1 L9 α else (0, .map #[] 0)
theorem rUse1_he (pb : Nat) (PC : Array Value) (sb : Nat) (c : Nat) (st : List Sy) (n : Nat) (rs : Int) (i : Nat) (y : Sy) (v9 : Int) (B1 : Nat) : ∀ kk α α', (∀ j, (j % 1000 = kk ∨ j % 1000 ∈ rUse1Anc kk) → α j = α' j) → rUse1E pb PC sb c st n rs i y v9 B1 kk α = rUse1E pb PC sb c st n rs i y v9 B1 kk α' := by
 intro kk α α' h
 match kk with
 | 0 => rfl
 | 1 => rfl
 | 2 => rfl
 | 3 => rfl
 | 4 => rfl
 | 5 => rfl
 | 6 => rfl
 | 7 => rfl
 | 8 => rfl
 | 9 => rfl
 | 10 => rfl
 | 11 => rfl
 | 12 => rfl
 | n + 13 => rfl
theorem rUse1_st (pb : Nat) (PC : Array Value) (sb : Nat) (c : Nat) (st : List Sy) (n : Nat) (rs : Int) (i : Nat) (y : Sy) (v9 : Int) (B1 : Nat) : Stable rUse1Cnt 3 rUse1Anc rUse1Trn (rUse1R pb PC sb c st n rs i y v9 B1) := by
 intro k9 L9 α α' ix9 hk hcl hα hact ht
 have hp := act_places hact
 replace hp : ix9 ∈ [999, 1999, 2999] := hp
 simp only [List.mem_cons, List.not_mem_nil, or_false] at hp
 rcases hp with rfl | rfl | rfl
 ·rfl
 ·rfl
 ·show rUse1T2999 pb PC sb c st n rs i y v9 B1 (Rega.ran L9 k9) α' = rUse1T2999 pb PC sb c st n rs i y v9 B1 L9 α
  unfold rUse1T2999
  have n12 : 12 ≠ k9 := fun e => ht (by rw [← e]; decide)
  rw [ran_ne n12]
noncomputable def rUse2E (pt : Nat) (QC : Array Value) (mu : Nat) (ul : List (Int × Int × Int)) (rs : Int) (i : Nat) (B1 : Nat) : Nat → Rega.Atoms → Value
 | 0, α => vP pt
 | 1, α => vP pt
 | 2, α => .pointer (some ⟨pt, 4, none⟩)
 | 3, α => .map (some mu)
 | 4, α => .agg #[vU rs, vU (i : Int)]
 | 5, α => .agg #[vU (uC ul rs (i : Int))]
 | 6, α => vP (α 6)
 | 7, α => undef
 | _, _ => undef
noncomputable def rUse2Anc : Nat → List Nat
 | 1 => [0]
 | 2 => [0, 1]
 | 3 => [0, 1, 2]
 | 5 => [0, 1, 2, 3, 4]
 | 7 => [0, 1, 2, 3, 4, 5, 6]
 | _ => []
noncomputable def rUse2Trn : Nat → List Nat
 | 7 => [6]
 | _ => []
noncomputable def rUse2Cnt : List (Nat × Nat) := [(6, 1)]
noncomputable def rUse2T6 (pt : Nat) (QC : Array Value) (mu : Nat) (ul : List (Int × Int × Int)) (rs : Int) (i : Nat) (B1 : Nat) (L9 : Nat → Bool) (α : Rega.Atoms) : Rw := if L9 7 = true then row (α 6) 324 #[vU (uC ul rs (i : Int))] else row (α 6) 324 #[vU 0]
noncomputable def rUse2R (pt : Nat) (QC : Array Value) (mu : Nat) (ul : List (Int × Int × Int)) (rs : Int) (i : Nat) (B1 : Nat) (L9 : Nat → Bool) (α : Rega.Atoms) (ix9 : Nat) : Rw := if ix9 = 999 then row (B1) 31 #[vU rs, vU (i : Int)] else if ix9 = 1999 then row (pt) 107 QC else if ix9 = 2999 then ((mu, .map (uA ul) (uN ul)) : Rw) else if ix9 = 6 then rUse2T6 pt QC mu ul rs i B1 L9 α else (0, .map #[] 0)
theorem rUse2_he (pt : Nat) (QC : Array Value) (mu : Nat) (ul : List (Int × Int × Int)) (rs : Int) (i : Nat) (B1 : Nat) : ∀ kk α α', (∀ j, (j % 1000 = kk ∨ j % 1000 ∈ rUse2Anc kk) → α j = α' j) → rUse2E pt QC mu ul rs i B1 kk α = rUse2E pt QC mu ul rs i B1 kk α' := by
 intro kk α α' h
 match kk with
 | 0 => rfl
 | 1 => rfl
 | 2 => rfl
 | 3 => rfl
 | 4 => rfl
 | 5 => rfl
 | 6 => simp only [rUse2E, h 6 (Or.inl rfl)]
 | 7 => rfl
 | n + 8 => rfl
theorem rUse2_st (pt : Nat) (QC : Array Value) (mu : Nat) (ul : List (Int × Int × Int)) (rs : Int) (i : Nat) (B1 : Nat) : Stable rUse2Cnt 3 rUse2Anc rUse2Trn (rUse2R pt QC mu ul rs i B1) := by
 intro k9 L9 α α' ix9 hk hcl hα hact ht
 have hp := act_places hact
 replace hp : ix9 ∈ [999, 1999, 2999, 6] := hp
 simp only [List.mem_cons, List.not_mem_nil, or_false] at hp
 rcases hp with rfl | rfl | rfl | rfl
 ·rfl
 ·rfl
 ·rfl
 ·have e0 : L9 6 = true := act_lt hact dc
  show rUse2T6 pt QC mu ul rs i B1 (Rega.ran L9 k9) α' = rUse2T6 pt QC mu ul rs i B1 L9 α
  unfold rUse2T6
  have n7 : 7 ≠ k9 := fun e => ht (by rw [← e]; decide)
  rw [ran_ne n7]
  by_cases e7 : L9 7 = true
  ·first | rw [if_pos e7, if_pos e7] | rw [if_pos e7]
   try simp only [hα 6 (ne_ran hk (hcl 7 e7 6 dc))]
  first | rw [if_neg e7, if_neg e7] | rw [if_neg e7]
  try simp only [hα 6 (ne_ran hk e0)]
noncomputable def rUse3E (pt : Nat) (QC : Array Value) (mu : Nat) (ul : List (Int × Int × Int)) (rs : Int) (i : Nat) (B1 : Nat) (nd5 : Nat) : Nat → Rega.Atoms → Value
 | 0, α => vP pt
 | 1, α => vP pt
 | 2, α => .pointer (some ⟨pt, 4, none⟩)
 | 3, α => .map (some mu)
 | 4, α => .agg #[vU rs, vU (i : Int)]
 | 5, α => .agg #[vU ((uC ul rs (i : Int) + 1) % 4294967296)]
 | 6, α => undef
 | _, _ => undef
noncomputable def rUse3Anc : Nat → List Nat
 | 1 => [0]
 | 2 => [0, 1]
 | 3 => [0, 1, 2]
 | 6 => [0, 1, 2, 3, 4, 5]
 | _ => []
noncomputable def rUse3Trn : Nat → List Nat
 | 6 => [2999]
 | _ => []
noncomputable def rUse3Cnt : List (Nat × Nat) := []
noncomputable def rUse3T2999 (pt : Nat) (QC : Array Value) (mu : Nat) (ul : List (Int × Int × Int)) (rs : Int) (i : Nat) (B1 : Nat) (nd5 : Nat) (L9 : Nat → Bool) (α : Rega.Atoms) : Rw := if L9 6 = true then ((mu, .map (uA (ubump ul rs (i : Int))) (uN (ubump ul rs (i : Int)))) : Rw) else ((mu, .map (uA ul) (uN ul)) : Rw)
noncomputable def rUse3R (pt : Nat) (QC : Array Value) (mu : Nat) (ul : List (Int × Int × Int)) (rs : Int) (i : Nat) (B1 : Nat) (nd5 : Nat) (L9 : Nat → Bool) (α : Rega.Atoms) (ix9 : Nat) : Rw := if ix9 = 999 then row (B1) 31 #[vU rs, vU (i : Int)] else if ix9 = 1999 then row (pt) 107 QC else if ix9 = 2999 then rUse3T2999 pt QC mu ul rs i B1 nd5 L9 α else if ix9 = 3999 then row (nd5) 324 #[vU ((uC ul rs (i : Int) + 1) % 4294967296)] else (0, .map #[] 0)
theorem rUse3_he (pt : Nat) (QC : Array Value) (mu : Nat) (ul : List (Int × Int × Int)) (rs : Int) (i : Nat) (B1 : Nat) (nd5 : Nat) : ∀ kk α α', (∀ j, (j % 1000 = kk ∨ j % 1000 ∈ rUse3Anc kk) → α j = α' j) → rUse3E pt QC mu ul rs i B1 nd5 kk α = rUse3E pt QC mu ul rs i B1 nd5 kk α' := by
 intro kk α α' h
 match kk with
 | 0 => rfl
 | 1 => rfl
 | 2 => rfl
 | 3 => rfl
 | 4 => rfl
 | 5 => rfl
 | 6 => rfl
 | n + 7 => rfl
theorem rUse3_st (pt : Nat) (QC : Array Value) (mu : Nat) (ul : List (Int × Int × Int)) (rs : Int) (i : Nat) (B1 : Nat) (nd5 : Nat) : Stable rUse3Cnt 4 rUse3Anc rUse3Trn (rUse3R pt QC mu ul rs i B1 nd5) := by
 intro k9 L9 α α' ix9 hk hcl hα hact ht
 have hp := act_places hact
 replace hp : ix9 ∈ [999, 1999, 2999, 3999] := hp
 simp only [List.mem_cons, List.not_mem_nil, or_false] at hp
 rcases hp with rfl | rfl | rfl | rfl
 ·rfl
 ·rfl
 ·show rUse3T2999 pt QC mu ul rs i B1 nd5 (Rega.ran L9 k9) α' = rUse3T2999 pt QC mu ul rs i B1 nd5 L9 α
  unfold rUse3T2999
  have n6 : 6 ≠ k9 := fun e => ht (by rw [← e]; decide)
  rw [ran_ne n6]
 ·rfl
def usePPost (pb : Nat) (PC : Array Value) (sb c : Nat) (st : List Sy) (n pt : Nat) (QC : Array Value) (mu : Nat) (ul : List (Int × Int × Int)) (rs : Int) (i : Nat) (w0 : World) (X : Nat → Obj → Prop) (e : Ending) (w' : World) : Prop :=
 e = .returned (.tuple #[]) ∧ Own w0 w' [row (pb) 252 PC, row (sb) 260 (full symZ (symL (bump st i)) c), row (pt) 107 QC, ((mu, .map (uA (ubump ul rs (i : Int))) (uN (ubump ul rs (i : Int)))) : Rw)] X
set_option maxRecDepth 100000 in
set_option maxHeartbeats 1000000 in
theorem useP (pb : Nat) (PC : Array Value) (sb c : Nat) (st : List Sy) (n pt : Nat) (QC : Array Value) (mu : Nat) (ul : List (Int × Int × Int)) (rs : Int) (i : Nat) (w0 w : World) (X : Nat → Obj → Prop) (hO : Own w0 w [row (pb) 252 PC, row (sb) 260 (full symZ (symL st) c), row (pt) 107 QC, ((mu, .map (uA ul) (uN ul)) : Rw)] X) (hk350 : PC[350]? = some (bF)) (hk32 : PC[32]? = some (bF)) (hk105 : PC[105]? = some (vP pt)) (hk106 : PC[106]? = some (vS sb n (n + c))) (hn : st.length = n) (hnb : n ≤ 4000000) (hsu : QC[4]? = some (.map (some mu))) (hi : i < n) :
  Calls Tryd.prog 47 #[vP pb, .agg #[vU rs, vU (i : Int)]] w (usePPost pb PC sb c st n pt QC mu ul rs i w0 X) := by
 obtain ⟨y, hy⟩ : ∃ y, st[i]? = some y := ⟨_, List.getElem?_eq_getElem (by rw [hn]; exact hi)⟩
 have hyv := symL_at st i y 4 _ hy rfl
 obtain ⟨v9, hv9⟩ : ∃ v9 : Int, v9 = (((y.uc + 1) % 4294967296 : Nat) : Int) := ⟨_, rfl⟩
 have hwr : IntKind.u32.wrap ((y.uc : Int) + 1) = v9 := by rw [IntKind.wrap_u32, hv9]; omega
 have HV9 := Lib.hid hv9
 clear hv9
 have hi9 : (i : Int) < (n : Int) := by omega
 have hi8 : (0 : Int) ≤ (i : Int) := by omega
 have HS := Lib.hid hy
 clear hy
 go_enter Tryd.func47, Tryd.ntmps47
 obtain ⟨ix9, hix9, hax9, hjx9⟩ := hO.ix
 have aC := hjx9 0 _ _ rfl
 have aD := hjx9 1 _ _ rfl
 have aE := hjx9 2 _ _ rfl
 have aF := hjx9 3 _ _ rfl
 clear hjx9
 have aQ := hO.cell 0 rfl 32 hk32
 have aR := hO.cell 0 rfl 105 hk105
 have aS := hO.cell 0 rfl 106 hk106
 have aT := hO.cell 0 rfl 350 hk350
 have aA := hO.lt 0 rfl
 have aB := hO.free 0 rfl
 have aU : w.cell? ⟨sb, i * 10 + 4, none⟩ = some (vU (y.uc : Int)) := hO.cell 1 rfl (i * 10 + 4) ((full_at hyv))
 have aG := hO.lt 1 rfl
 have aH := hO.free 1 rfl
 have aV := hO.cell 2 rfl 4 hsu
 have aM := hO.lt 2 rfl
 have aN := hO.free 2 rfl
 have HO := Lib.hid hO
 clear hO
 go_wp2_with (first | (with_reducible refine Own.stay (fn := Tryd.f47) ?_) | fail)
 try with_reducible refine Own.Stay.mk ?_
 have hO := HO.out
 clear HO hix9 hax9 aC aD aE aF ix9 aQ aR aS aT aA aB aU aG aH aV aM aN
 generalize hW : World.alloc _ _ = W2
 have hN : Own w0 W2 [row (w.heap.size) 31 #[vU rs, vU (i : Int)], row (pb) 252 PC, row (sb) 260 (full symZ (symL st) c), row (pt) 107 QC, ((mu, .map (uA ul) (uN ul)) : Rw)] X := by
  rw [← hW]
  exact (hO).alloc' _ (w.heap.size) (by simp)
 clear hW hO
 generalize w.heap.size = B1 at hN ⊢
 have hO := hN
 clear hN
 obtain ⟨HL, HX⟩ := hid2 hO
 have hP9 := hO.pick [0, 1, 2] dc
 generalize hX9_3 : Own.Rest _ _ X = X9_3 at hP9
 replace hP9 : Own w0 W2 [row (B1) 31 #[vU rs, vU (i : Int)], row (pb) 252 PC, row (sb) 260 (full symZ (symL st) c)] X9_3 := hP9
 clear hO
 have hO := hP9
 clear hP9
 have st9 := rUse1_st pb PC sb c st n rs i y v9 B1
 let R9 := rUse1R pb PC sb c st n rs i y v9 B1
 refine wp_region_own (e := rUse1E pb PC sb c st n rs i y v9 B1) (anc := rUse1Anc) (G := (fun L9 α u9 => OwnF w0 u9 (act rUse1Cnt 3 L9) (rUse1R pb PC sb c st n rs i y v9 B1 L9 α) X9_3)) (by kernel_rfl) (by kernel_rfl) (by kernel_rfl) (by kernel_rfl) (rUse1_he pb PC sb c st n rs i y v9 B1) ?_ (RunsAll.all ?_) ?_
 ·have hp : ∀ i, act rUse1Cnt 3 (fun _ => false) i → i ∈ [999, 1999, 2999] := by
   intro i hi
   have h9 : i % 1000 = 999 := by
    by_cases h : i % 1000 = 999
    ·exact h
    ·exact absurd (act_lt hi h) (by simp)
   unfold act at hi
   rw [if_pos h9] at hi
   simp only [List.mem_cons, List.not_mem_nil, or_false]
   omega
  refine hO.drew.family (fun i hi => ?_) (fun i j hi hj hij => ?_)
  ·have := hp i hi
   simp only [List.mem_cons, List.not_mem_nil, or_false] at this
   rcases this with rfl | rfl | rfl <;> rfl
  ·have h1 := hp i hi
   have h2 := hp j hj
   simp only [List.mem_cons, List.not_mem_nil, or_false] at h1 h2
   omega
 ·refine ⟨?_, ?_, ?_, ?_, ?_, ?_, ?_, ?_, ?_, ?_, ?_, ?_, ?_, trivial⟩
  ·refine pur st9 rfl rfl fun L9 α a9 u9 K9 hL hcl hA hG hS h0 h1 hK => ?_
   have s0 := eS (vP pb) ((h0 0 (by kernel_rfl)).trans rfl)
   go_simp
   exact hK
  ·refine pur st9 rfl rfl fun L9 α a9 u9 K9 hL hcl hA hG hS h0 h1 hK => ?_
   have s11 := eS (vP pb) (hS 0 11 dc rfl (ltd 62 rfl))
   go_simp
   exact hK
  ·refine pur st9 rfl rfl fun L9 α a9 u9 K9 hL hcl hA hG hS h0 h1 hK => ?_
   have s12 := eS (vP pb) (hS 1 12 dc rfl (ltd 62 rfl))
   go_simp
   exact hK
  ·refine pur st9 rfl rfl fun L9 α a9 u9 K9 hL hcl hA hG hS h0 h1 hK => ?_
   have s13 := eS (.pointer (some ⟨pb, 106, none⟩)) (hS 2 13 dc rfl (ltd 62 rfl))
   have e0 : R9 L9 α 1999 = row (pb) 252 PC := rfl
   have hr := hG.rowAt 1999 (act_base 1999 rfl) e0
   have c0 : u9.cell? ⟨pb, 106, none⟩ = some (vS sb n (n + c)) := hr.cell (hk106)
   clear hr e0
   go_simp
   exact hK
  ·refine pur st9 rfl rfl fun L9 α a9 u9 K9 hL hcl hA hG hS h0 h1 hK => ?_
   have s3 := eS (vP B1) ((h0 3 (by kernel_rfl)).trans rfl)
   go_simp
   exact hK
  ·refine pur st9 rfl rfl fun L9 α a9 u9 K9 hL hcl hA hG hS h0 h1 hK => ?_
   have s15 := eS (.pointer (some ⟨B1, 1, none⟩)) (hS 4 15 dc rfl (ltd 62 rfl))
   have e0 : R9 L9 α 999 = row (B1) 31 #[vU rs, vU (i : Int)] := rfl
   have hr := hG.rowAt 999 (act_base 999 rfl) e0
   have c0 : u9.cell? ⟨B1, 1, none⟩ = some (vU (i : Int)) := hr.cell rfl
   clear hr e0
   go_simp
   exact hK
  ·refine pur st9 rfl rfl fun L9 α a9 u9 K9 hL hcl hA hG hS h0 h1 hK => ?_
   have q14 : a9.tmps[14]? = some (vS sb n (n + c)) := hS 3 14 dc rfl (ltd 62 rfl)
   have s14 := Rega.eval_of q14
   have q16 : a9.tmps[16]? = some (vU (i : Int)) := hS 5 16 dc rfl (ltd 62 rfl)
   have s16 := Rega.eval_of q16
   go_simp
   exact hK
  ·refine pur st9 rfl rfl fun L9 α a9 u9 K9 hL hcl hA hG hS h0 h1 hK => ?_
   have s17 := eS (.pointer (some ⟨sb, i * 10, none⟩)) (hS 6 17 dc rfl (ltd 62 rfl))
   go_simp
   exact hK
  ·refine pur st9 rfl rfl fun L9 α a9 u9 K9 hL hcl hA hG hS h0 h1 hK => ?_
   replace hL : L9 8 = false := hL
   have s18 := eS (.pointer (some ⟨sb, i * 10 + 4, none⟩)) (hS 7 18 dc rfl (ltd 62 rfl))
   have e0 : R9 L9 α 2999 = row (sb) 260 (full symZ (symL st) c) := by
    show rUse1T2999 pb PC sb c st n rs i y v9 B1 L9 α = _
    unfold rUse1T2999
    rw [if_neg (fun e => by have := hcl 12 e 8 dc; rw [hL] at this; cases this)]
   have hr := hG.rowAt 2999 (act_base 2999 rfl) e0
   have c0 : u9.cell? ⟨sb, i * 10 + 4, none⟩ = some (vU (y.uc : Int)) := hr.cell ((full_at hyv))
   clear hr e0
   go_simp
   exact hK
  ·refine pur st9 rfl rfl fun L9 α a9 u9 K9 hL hcl hA hG hS h0 h1 hK => ?_
   have q19 : a9.tmps[19]? = some (vU (y.uc : Int)) := hS 8 19 dc rfl (ltd 62 rfl)
   have s19 := Rega.eval_of q19
   go_simp
   exact hK
  ·refine pur st9 rfl rfl fun L9 α a9 u9 K9 hL hcl hA hG hS h0 h1 hK => ?_
   have q14 : a9.tmps[14]? = some (vS sb n (n + c)) := hS 3 14 dc rfl (ltd 62 rfl)
   have s14 := Rega.eval_of q14
   have q16 : a9.tmps[16]? = some (vU (i : Int)) := hS 5 16 dc rfl (ltd 62 rfl)
   have s16 := Rega.eval_of q16
   go_simp
   exact hK
  ·refine pur st9 rfl rfl fun L9 α a9 u9 K9 hL hcl hA hG hS h0 h1 hK => ?_
   have s21 := eS (.pointer (some ⟨sb, i * 10, none⟩)) (hS 10 21 dc rfl (ltd 62 rfl))
   go_simp
   exact hK
  ·intro L9 α a9 u9 K9 hL hcl hA hG hS h0 h1 hK
   replace hL : L9 12 = false := hL
   have q22 : a9.tmps[22]? = some (.pointer (some ⟨sb, i * 10 + 4, none⟩)) := hS 11 22 dc rfl (ltd 62 rfl)
   have s22 := Rega.eval_of q22
   have q20 : a9.tmps[20]? = some (vU v9) := hS 9 20 dc rfl (ltd 62 rfl)
   have s20 := Rega.eval_of q20
   have e0 : R9 L9 α 2999 = row (sb) 260 (full symZ (symL st) c) := by
    show rUse1T2999 pb PC sb c st n rs i y v9 B1 L9 α = _
    unfold rUse1T2999
    rw [if_neg (by rw [hL]; decide)]
   have hr := hG.rowAt 2999 (act_base 2999 rfl) e0
   have c0 : u9.cell? ⟨sb, i * 10 + 4, none⟩ = some (vU (y.uc : Int)) := hr.cell ((full_at hyv))
   have y0 : u9.frozen? ⟨sb, i * 10 + 4, none⟩ = false := hr.free (i * 10 + 4)
   clear hr
   have E0 := Lib.hid e0
   clear e0
   go_simp
   have e1 : R9 (Rega.ran L9 12) α 2999 = row (sb) 260 (full symZ ((symL st).set (i * 10 + 4) (vU v9)) c) := by
    show rUse1T2999 pb PC sb c st n rs i y v9 B1 (Rega.ran L9 12) α = _
    unfold rUse1T2999
    rw [if_pos (show Rega.ran L9 12 12 = true from rfl)]
   exact hK _ α _ (fun _ _ => rfl) rfl (step_sets (st9) hL hcl rfl 2999 rfl (act_base 2999 rfl) E0.out (i * 10 + 4) [vU v9] (e1.trans (congrArg (row _ _) (full_set (i := i * 10 + 4) hyv _).symm)) hG)
 clear st9
 intro α u hG
 have e0 : R9 (fun k => decide (k < 13)) α 999 = row (B1) 31 #[vU rs, vU (i : Int)] := rfl
 have e1 : R9 (fun k => decide (k < 13)) α 1999 = row (pb) 252 PC := rfl
 have e2 : R9 (fun k => decide (k < 13)) α 2999 = row (sb) 260 (full symZ ((symL st).set (i * 10 + 4) (vU v9)) c) := by
  show rUse1T2999 pb PC sb c st n rs i y v9 B1 (fun k => decide (k < 13)) α = _
  unfold rUse1T2999
  rw [if_pos dc]
 have hO : Own w0 u [row (B1) 31 #[vU rs, vU (i : Int)], row (pb) 252 PC, row (sb) 260 (full symZ ((symL st).set (i * 10 + 4) (vU v9)) c)] X9_3 := (hG.list [999, 1999, 2999] dc (act_all dc)).conv (by
  show [R9 (fun k => decide (k < 13)) α 999, R9 (fun k => decide (k < 13)) α 1999, R9 (fun k => decide (k < 13)) α 2999] = _
  rw [e0, e1, e2])
 clear hG e0 e1 e2 R9
 generalize hfr : Rega.frameAt _ _ _ _ _ = fr
 have hdf : fr = ⟨#[vP pb, .agg #[vU rs, vU (i : Int)], undef, vP B1, undef, undef, vP pb, vP pb, .pointer (some ⟨pb, 350, none⟩), bF, .bool true, vP pb, vP pb, .pointer (some ⟨pb, 106, none⟩), vS sb n (n + c), .pointer (some ⟨B1, 1, none⟩), vU (i : Int), .pointer (some ⟨sb, i * 10, none⟩), .pointer (some ⟨sb, i * 10 + 4, none⟩), vU (y.uc : Int), vU v9, .pointer (some ⟨sb, i * 10, none⟩), .pointer (some ⟨sb, i * 10 + 4, none⟩), undef, undef, undef, undef, undef, undef, undef, undef, undef, undef, undef, undef, undef, undef, undef, undef, undef, undef, undef, undef, undef, undef, undef, undef, undef, undef, undef, undef, undef, undef, undef, undef, undef, undef, undef, undef, undef, undef, undef], []⟩ := by rw [← hfr]; kernel_rfl
 clear hfr
 subst hdf
 clear α
 subst hX9_3
 replace hO : Own w0 u [row (B1) 31 #[vU rs, vU (i : Int)], row (pb) 252 PC, row (sb) 260 (full symZ ((symL st).set (i * 10 + 4) (vU v9)) c), row (pt) 107 QC, ((mu, .map (uA ul) (uN ul)) : Rw)] X := hO.back HL.out HX.out [3, 4] dc dc
 clear HL HX
 obtain ⟨ix9, hix9, hax9, hjx9⟩ := hO.ix
 have aC := hjx9 0 _ _ rfl
 have aD := hjx9 1 _ _ rfl
 have aE := hjx9 2 _ _ rfl
 have aF := hjx9 3 _ _ rfl
 have aO := hjx9 4 _ _ rfl
 clear hjx9
 obtain ⟨aI, aJ, aA, aB, -⟩ := hO.k2 0 rfl
 have aW := hO.cell 1 rfl 32 hk32
 have aX := hO.cell 1 rfl 105 hk105
 have aY := hO.cell 1 rfl 106 hk106
 have aZ := hO.cell 1 rfl 350 hk350
 have aG := hO.lt 1 rfl
 have aH := hO.free 1 rfl
 have aa : u.cell? ⟨sb, i * 10 + 4, none⟩ = some (vU v9) := hO.cell 2 rfl (i * 10 + 4) ((full_at (set_get hyv _)))
 have aM := hO.lt 2 rfl
 have aN := hO.free 2 rfl
 have ab := hO.cell 3 rfl 4 hsu
 have aK := hO.lt 3 rfl
 have aL := hO.free 3 rfl
 have HO := Lib.hid hO
 clear hO
 go_wp2_with (first | (with_reducible refine Own.stay (fn := Tryd.f47) ?_) | fail)
 try with_reducible refine Own.Stay.mk ?_
 have hO := HO.out
 clear HO hix9 hax9 aC aD aE aF aO ix9 aI aJ aA aB aW aX aY aZ aG aH aa aM aN ab aK aL
 obtain ⟨HL, HX⟩ := hid2 hO
 have hP9 := hO.pick [0, 3, 4] dc
 generalize hX9_4 : Own.Rest _ _ X = X9_4 at hP9
 replace hP9 : Own w0 u [row (B1) 31 #[vU rs, vU (i : Int)], row (pt) 107 QC, ((mu, .map (uA ul) (uN ul)) : Rw)] X9_4 := hP9
 clear hO
 have hO := hP9
 clear hP9
 have st9 := rUse2_st pt QC mu ul rs i B1
 let R9 := rUse2R pt QC mu ul rs i B1
 refine wp_region_own (e := rUse2E pt QC mu ul rs i B1) (anc := rUse2Anc) (G := (fun L9 α u9 => OwnF w0 u9 (act rUse2Cnt 3 L9) (rUse2R pt QC mu ul rs i B1 L9 α) X9_4)) (by kernel_rfl) (by kernel_rfl) (by kernel_rfl) (by kernel_rfl) (rUse2_he pt QC mu ul rs i B1) ?_ (RunsAll.all ?_) ?_
 ·have hp : ∀ i, act rUse2Cnt 3 (fun _ => false) i → i ∈ [999, 1999, 2999] := by
   intro i hi
   have h9 : i % 1000 = 999 := by
    by_cases h : i % 1000 = 999
    ·exact h
    ·exact absurd (act_lt hi h) (by simp)
   unfold act at hi
   rw [if_pos h9] at hi
   simp only [List.mem_cons, List.not_mem_nil, or_false]
   omega
  refine hO.drew.family (fun i hi => ?_) (fun i j hi hj hij => ?_)
  ·have := hp i hi
   simp only [List.mem_cons, List.not_mem_nil, or_false] at this
   rcases this with rfl | rfl | rfl <;> rfl
  ·have h1 := hp i hi
   have h2 := hp j hj
   simp only [List.mem_cons, List.not_mem_nil, or_false] at h1 h2
   omega
 ·refine ⟨?_, ?_, ?_, ?_, ?_, ?_, ?_, ?_, trivial⟩
  ·refine pur st9 rfl rfl fun L9 α a9 u9 K9 hL hcl hA hG hS h0 h1 hK => ?_
   have s4 := eS (vP pt) ((h0 4 (by kernel_rfl)).trans rfl)
   go_simp
   exact hK
  ·refine pur st9 rfl rfl fun L9 α a9 u9 K9 hL hcl hA hG hS h0 h1 hK => ?_
   have s29 := eS (vP pt) (hS 0 29 dc rfl (ltd 62 rfl))
   go_simp
   exact hK
  ·refine pur st9 rfl rfl fun L9 α a9 u9 K9 hL hcl hA hG hS h0 h1 hK => ?_
   have s30 := eS (vP pt) (hS 1 30 dc rfl (ltd 62 rfl))
   go_simp
   exact hK
  ·refine pur st9 rfl rfl fun L9 α a9 u9 K9 hL hcl hA hG hS h0 h1 hK => ?_
   have s31 := eS (.pointer (some ⟨pt, 4, none⟩)) (hS 2 31 dc rfl (ltd 62 rfl))
   have e0 : R9 L9 α 1999 = row (pt) 107 QC := rfl
   have hr := hG.rowAt 1999 (act_base 1999 rfl) e0
   have c0 : u9.cell? ⟨pt, 4, none⟩ = some (.map (some mu)) := hr.cell (hsu)
   clear hr e0
   go_simp
   exact hK
  ·refine pur st9 rfl rfl fun L9 α a9 u9 K9 hL hcl hA hG hS h0 h1 hK => ?_
   have s3 := eS (vP B1) ((h0 3 (by kernel_rfl)).trans rfl)
   have e0 : R9 L9 α 999 = row (B1) 31 #[vU rs, vU (i : Int)] := rfl
   have hr := hG.rowAt 999 (act_base 999 rfl) e0
   have c0 : u9.cell? ⟨B1, 0, none⟩ = some (vU rs) := hr.cell rfl
   have c1 : u9.cell? ⟨B1, 1, none⟩ = some (vU (i : Int)) := hr.cell rfl
   clear hr e0
   go_simp
   exact hK
  ·refine pur st9 rfl rfl fun L9 α a9 u9 K9 hL hcl hA hG hS h0 h1 hK => ?_
   have q32 : a9.tmps[32]? = some (.map (some mu)) := hS 3 32 dc rfl (ltd 62 rfl)
   have s32 := Rega.eval_of q32
   have q33 : a9.tmps[33]? = some (.agg #[vU rs, vU (i : Int)]) := hS 4 33 dc rfl (ltd 62 rfl)
   have s33 := Rega.eval_of q33
   have e0 : R9 L9 α 2999 = ((mu, .map (uA ul) (uN ul)) : Rw) := rfl
   have hm := hG.mapAt 2999 (act_base 2999 rfl) e0
   have hl9 : (Instr.lookup 102 (.map (some mu)) (.agg #[vU rs, vU (i : Int)]) false).run Tryd.prog u9 = .ok (.agg #[vU (uC ul rs (i : Int))]) u9 := run_lookup_ue u9 Tryd.underlying102 hm rs (i : Int) (Tryd.zeroValue324 _)
   clear e0 hm
   go_simp
   exact hK
  ·intro L9 α a9 u9 K9 hL hcl hA hG hS h0 h1 hK
   replace hL : L9 6 = false := hL
   go_simp
   have e1 : R9 (Rega.ran L9 6) (fun j => if j = 6 then u9.heap.size else α j) 6 = row (u9.heap.size) 324 #[vU 0] := by
    show rUse2T6 pt QC mu ul rs i B1 (Rega.ran L9 6) (fun j => if j = 6 then u9.heap.size else α j) = _
    unfold rUse2T6
    exact ((if_neg (fun e => (fun e => by have := hcl 7 e 6 dc; rw [hL] at this; cases this) ((ran_ne dc).symm.trans e))).trans rfl)
   exact hK _ (fun j => if j = 6 then u9.heap.size else α j) _ (fun j hj => if_neg (fun e => hj (by rw [e]))) rfl (step_alloc st9 hL hcl rfl rfl dc _ e1 hG)
  ·intro L9 α a9 u9 K9 hL hcl hA hG hS h0 h1 hK
   replace hL : L9 7 = false := hL
   have q5 : a9.tmps[5]? = some (vP (α 6)) := hS 6 5 dc rfl (ltd 62 rfl)
   have s5 := Rega.eval_of q5
   have q34 : a9.tmps[34]? = some (.agg #[vU (uC ul rs (i : Int))]) := hS 5 34 dc rfl (ltd 62 rfl)
   have s34 := Rega.eval_of q34
   have e0 : R9 L9 α 6 = row (α 6) 324 #[vU 0] := by
    show rUse2T6 pt QC mu ul rs i B1 L9 α = _
    unfold rUse2T6
    rw [if_neg (by rw [hL]; decide)]
   have hr := hG.rowAt 6 (act_new 6 rfl (hA 6 dc)) e0
   have c0 : u9.cell? ⟨α 6, 0, none⟩ = some (vU 0) := hr.cell rfl
   have y0 : u9.frozen? ⟨α 6, 0, none⟩ = false := hr.free (0)
   clear hr
   have E0 := Lib.hid e0
   clear e0
   go_simp
   have e1 : R9 (Rega.ran L9 7) α 6 = row (α 6) 324 #[vU (uC ul rs (i : Int))] := by
    show rUse2T6 pt QC mu ul rs i B1 (Rega.ran L9 7) α = _
    unfold rUse2T6
    rw [if_pos (show Rega.ran L9 7 7 = true from rfl)]
   exact hK _ α _ (fun _ _ => rfl) rfl (step_sets (st9) hL hcl rfl 6 rfl (act_new 6 rfl (hA 6 dc)) E0.out (0) [vU (uC ul rs (i : Int))] (e1.trans rfl) hG)
 clear st9
 intro α u hG
 have e0 : R9 (fun k => decide (k < 8)) α 999 = row (B1) 31 #[vU rs, vU (i : Int)] := rfl
 have e1 : R9 (fun k => decide (k < 8)) α 1999 = row (pt) 107 QC := rfl
 have e2 : R9 (fun k => decide (k < 8)) α 2999 = ((mu, .map (uA ul) (uN ul)) : Rw) := rfl
 have e3 : R9 (fun k => decide (k < 8)) α 6 = row (α 6) 324 #[vU (uC ul rs (i : Int))] := by
  show rUse2T6 pt QC mu ul rs i B1 (fun k => decide (k < 8)) α = _
  unfold rUse2T6
  rw [if_pos dc]
 have hO : Own w0 u [row (B1) 31 #[vU rs, vU (i : Int)], row (pt) 107 QC, ((mu, .map (uA ul) (uN ul)) : Rw), row (α 6) 324 #[vU (uC ul rs (i : Int))]] X9_4 := (hG.list [999, 1999, 2999, 6] dc (act_all dc)).conv (by
  show [R9 (fun k => decide (k < 8)) α 999, R9 (fun k => decide (k < 8)) α 1999, R9 (fun k => decide (k < 8)) α 2999, R9 (fun k => decide (k < 8)) α 6] = _
  rw [e0, e1, e2, e3])
 clear hG e0 e1 e2 e3 R9
 generalize hfr : Rega.frameAt _ _ _ _ _ = fr
 have hdf : fr = ⟨#[vP pb, .agg #[vU rs, vU (i : Int)], undef, vP B1, vP pt, vP (α 6), vP pb, vP pb, .pointer (some ⟨pb, 350, none⟩), bF, .bool true, vP pb, vP pb, .pointer (some ⟨pb, 106, none⟩), vS sb n (n + c), .pointer (some ⟨B1, 1, none⟩), vU (i : Int), .pointer (some ⟨sb, i * 10, none⟩), .pointer (some ⟨sb, i * 10 + 4, none⟩), vU (y.uc : Int), vU v9, .pointer (some ⟨sb, i * 10, none⟩), .pointer (some ⟨sb, i * 10 + 4, none⟩), vP pb, vP pb, .pointer (some ⟨pb, 105, none⟩), vP pt, vP pt, .bool true, vP pt, vP pt, .pointer (some ⟨pt, 4, none⟩), .map (some mu), .agg #[vU rs, vU (i : Int)], .agg #[vU (uC ul rs (i : Int))], undef, undef, undef, undef, undef, undef, undef, undef, undef, undef, undef, undef, undef, undef, undef, undef, undef, undef, undef, undef, undef, undef, undef, undef, undef, undef, undef], []⟩ := by rw [← hfr]; kernel_rfl
 clear hfr
 subst hdf
 generalize α 6 = nd5 at hO ⊢
 clear α
 subst hX9_4
 replace hO : Own w0 u [row (B1) 31 #[vU rs, vU (i : Int)], row (pt) 107 QC, ((mu, .map (uA ul) (uN ul)) : Rw), row (nd5) 324 #[vU (uC ul rs (i : Int))], row (pb) 252 PC, row (sb) 260 (full symZ ((symL st).set (i * 10 + 4) (vU v9)) c)] X := hO.back HL.out HX.out [1, 2] dc dc
 clear HL HX
 obtain ⟨aI, aJ, aA, aB, -⟩ := hO.k2 0 rfl
 obtain ⟨aP, aK, aL, -⟩ := hO.k1 3 rfl
 have HO := Lib.hid hO
 clear hO
 go_wp2_with (first | (with_reducible refine Own.stay (fn := Tryd.f47) ?_) | fail)
 try with_reducible refine Own.Stay.mk ?_
 have hO := HO.out
 clear HO aI aJ aA aB aP aK aL
 generalize hW : World.setCell _ _ _ = W7
 have hN : Own w0 W7 [row (B1) 31 #[vU rs, vU (i : Int)], row (pt) 107 QC, ((mu, .map (uA ul) (uN ul)) : Rw), row (nd5) 324 #[vU ((uC ul rs (i : Int) + 1) % 4294967296)], row (pb) 252 PC, row (sb) 260 (full symZ ((symL st).set (i * 10 + 4) (vU v9)) c)] X := by
  rw [← hW]
  exact (hO).set 3 rfl 0 _
 clear hW hO
 have hO := hN
 clear hN
 obtain ⟨HL, HX⟩ := hid2 hO
 have hP9 := hO.pick [0, 1, 2, 3] dc
 generalize hX9_8 : Own.Rest _ _ X = X9_8 at hP9
 replace hP9 : Own w0 W7 [row (B1) 31 #[vU rs, vU (i : Int)], row (pt) 107 QC, ((mu, .map (uA ul) (uN ul)) : Rw), row (nd5) 324 #[vU ((uC ul rs (i : Int) + 1) % 4294967296)]] X9_8 := hP9
 clear hO
 have hO := hP9
 clear hP9
 have st9 := rUse3_st pt QC mu ul rs i B1 nd5
 let R9 := rUse3R pt QC mu ul rs i B1 nd5
 refine wp_region_own (e := rUse3E pt QC mu ul rs i B1 nd5) (anc := rUse3Anc) (G := (fun L9 α u9 => OwnF w0 u9 (act rUse3Cnt 4 L9) (rUse3R pt QC mu ul rs i B1 nd5 L9 α) X9_8)) (by kernel_rfl) (by kernel_rfl) (by kernel_rfl) (by kernel_rfl) (rUse3_he pt QC mu ul rs i B1 nd5) ?_ (RunsAll.all ?_) ?_
 ·have hp : ∀ i, act rUse3Cnt 4 (fun _ => false) i → i ∈ [999, 1999, 2999, 3999] := by
   intro i hi
   have h9 : i % 1000 = 999 := by
    by_cases h : i % 1000 = 999
    ·exact h
    ·exact absurd (act_lt hi h) (by simp)
   unfold act at hi
   rw [if_pos h9] at hi
   simp only [List.mem_cons, List.not_mem_nil, or_false]
   omega
  refine hO.drew.family (fun i hi => ?_) (fun i j hi hj hij => ?_)
  ·have := hp i hi
   simp only [List.mem_cons, List.not_mem_nil, or_false] at this
   rcases this with rfl | rfl | rfl | rfl <;> rfl
  ·have h1 := hp i hi
   have h2 := hp j hj
   simp only [List.mem_cons, List.not_mem_nil, or_false] at h1 h2
   omega
 ·refine ⟨?_, ?_, ?_, ?_, ?_, ?_, ?_, trivial⟩
  ·refine pur st9 rfl rfl fun L9 α a9 u9 K9 hL hcl hA hG hS h0 h1 hK => ?_
   have s4 := eS (vP pt) ((h0 4 (by kernel_rfl)).trans rfl)
   go_simp
   exact hK
  ·refine pur st9 rfl rfl fun L9 α a9 u9 K9 hL hcl hA hG hS h0 h1 hK => ?_
   have s39 := eS (vP pt) (hS 0 39 dc rfl (ltd 62 rfl))
   go_simp
   exact hK
  ·refine pur st9 rfl rfl fun L9 α a9 u9 K9 hL hcl hA hG hS h0 h1 hK => ?_
   have s40 := eS (vP pt) (hS 1 40 dc rfl (ltd 62 rfl))
   go_simp
   exact hK
  ·refine pur st9 rfl rfl fun L9 α a9 u9 K9 hL hcl hA hG hS h0 h1 hK => ?_
   have s41 := eS (.pointer (some ⟨pt, 4, none⟩)) (hS 2 41 dc rfl (ltd 62 rfl))
   have e0 : R9 L9 α 1999 = row (pt) 107 QC := rfl
   have hr := hG.rowAt 1999 (act_base 1999 rfl) e0
   have c0 : u9.cell? ⟨pt, 4, none⟩ = some (.map (some mu)) := hr.cell (hsu)
   clear hr e0
   go_simp
   exact hK
  ·refine pur st9 rfl rfl fun L9 α a9 u9 K9 hL hcl hA hG hS h0 h1 hK => ?_
   have s3 := eS (vP B1) ((h0 3 (by kernel_rfl)).trans rfl)
   have e0 : R9 L9 α 999 = row (B1) 31 #[vU rs, vU (i : Int)] := rfl
   have hr := hG.rowAt 999 (act_base 999 rfl) e0
   have c0 : u9.cell? ⟨B1, 0, none⟩ = some (vU rs) := hr.cell rfl
   have c1 : u9.cell? ⟨B1, 1, none⟩ = some (vU (i : Int)) := hr.cell rfl
   clear hr e0
   go_simp
   exact hK
  ·refine pur st9 rfl rfl fun L9 α a9 u9 K9 hL hcl hA hG hS h0 h1 hK => ?_
   have s5 := eS (vP nd5) ((h0 5 (by kernel_rfl)).trans rfl)
   have e0 : R9 L9 α 3999 = row (nd5) 324 #[vU ((uC ul rs (i : Int) + 1) % 4294967296)] := rfl
   have hr := hG.rowAt 3999 (act_base 3999 rfl) e0
   have c0 : u9.cell? ⟨nd5, 0, none⟩ = some (vU ((uC ul rs (i : Int) + 1) % 4294967296)) := hr.cell rfl
   clear hr e0
   go_simp
   exact hK
  ·intro L9 α a9 u9 K9 hL hcl hA hG hS h0 h1 hK
   replace hL : L9 6 = false := hL
   have q42 : a9.tmps[42]? = some (.map (some mu)) := hS 3 42 dc rfl (ltd 62 rfl)
   have s42 := Rega.eval_of q42
   have q43 : a9.tmps[43]? = some (.agg #[vU rs, vU (i : Int)]) := hS 4 43 dc rfl (ltd 62 rfl)
   have s43 := Rega.eval_of q43
   have q44 : a9.tmps[44]? = some (.agg #[vU ((uC ul rs (i : Int) + 1) % 4294967296)]) := hS 5 44 dc rfl (ltd 62 rfl)
   have s44 := Rega.eval_of q44
   have e0 : R9 L9 α 2999 = ((mu, .map (uA ul) (uN ul)) : Rw) := by
    show rUse3T2999 pt QC mu ul rs i B1 nd5 L9 α = _
    unfold rUse3T2999
    rw [if_neg (by rw [hL]; decide)]
   have hm := hG.mapAt 2999 (act_base 2999 rfl) e0
   have hu9 : (Instr.mapUpdate 102 (.map (some mu)) (.agg #[vU rs, vU (i : Int)]) (.agg #[vU ((uC ul rs (i : Int) + 1) % 4294967296)])).run Tryd.prog u9 = .ok () (Base.setMap u9 mu (uA (ubump ul rs (i : Int))) (uN (ubump ul rs (i : Int)))) := run_update_ue u9 Tryd.underlying102 hm rs (i : Int)
   have E0 := Lib.hid e0
   clear e0 hm
   go_simp
   have e1 : R9 (Rega.ran L9 6) α 2999 = ((mu, .map (uA (ubump ul rs (i : Int))) (uN (ubump ul rs (i : Int)))) : Rw) := by
    show rUse3T2999 pt QC mu ul rs i B1 nd5 (Rega.ran L9 6) α = _
    unfold rUse3T2999
    rw [if_pos (show Rega.ran L9 6 6 = true from rfl)]
   exact hK _ α _ (fun _ _ => rfl) rfl (step_setMap (st9) hL hcl rfl 2999 rfl (act_base 2999 rfl) E0.out (e1.trans rfl) hG)
 clear st9
 intro α u hG
 have e0 : R9 (fun k => decide (k < 7)) α 999 = row (B1) 31 #[vU rs, vU (i : Int)] := rfl
 have e1 : R9 (fun k => decide (k < 7)) α 1999 = row (pt) 107 QC := rfl
 have e2 : R9 (fun k => decide (k < 7)) α 2999 = ((mu, .map (uA (ubump ul rs (i : Int))) (uN (ubump ul rs (i : Int)))) : Rw) := by
  show rUse3T2999 pt QC mu ul rs i B1 nd5 (fun k => decide (k < 7)) α = _
  unfold rUse3T2999
  rw [if_pos dc]
 have e3 : R9 (fun k => decide (k < 7)) α 3999 = row (nd5) 324 #[vU ((uC ul rs (i : Int) + 1) % 4294967296)] := rfl
 have hO : Own w0 u [row (B1) 31 #[vU rs, vU (i : Int)], row (pt) 107 QC, ((mu, .map (uA (ubump ul rs (i : Int))) (uN (ubump ul rs (i : Int)))) : Rw), row (nd5) 324 #[vU ((uC ul rs (i : Int) + 1) % 4294967296)]] X9_8 := (hG.list [999, 1999, 2999, 3999] dc (act_all dc)).conv (by
  show [R9 (fun k => decide (k < 7)) α 999, R9 (fun k => decide (k < 7)) α 1999, R9 (fun k => decide (k < 7)) α 2999, R9 (fun k => decide (k < 7)) α 3999] = _
  rw [e0, e1, e2, e3])
 clear hG e0 e1 e2 e3 R9
 generalize hfr : Rega.frameAt _ _ _ _ _ = fr
 have hdf : fr = ⟨#[vP pb, .agg #[vU rs, vU (i : Int)], undef, vP B1, vP pt, vP nd5, vP pb, vP pb, .pointer (some ⟨pb, 350, none⟩), bF, .bool true, vP pb, vP pb, .pointer (some ⟨pb, 106, none⟩), vS sb n (n + c), .pointer (some ⟨B1, 1, none⟩), vU (i : Int), .pointer (some ⟨sb, i * 10, none⟩), .pointer (some ⟨sb, i * 10 + 4, none⟩), vU (y.uc : Int), vU v9, .pointer (some ⟨sb, i * 10, none⟩), .pointer (some ⟨sb, i * 10 + 4, none⟩), vP pb, vP pb, .pointer (some ⟨pb, 105, none⟩), vP pt, vP pt, .bool true, vP pt, vP pt, .pointer (some ⟨pt, 4, none⟩), .map (some mu), .agg #[vU rs, vU (i : Int)], .agg #[vU (uC ul rs (i : Int))], vP nd5, vU (uC ul rs (i : Int)), vU ((uC ul rs (i : Int) + 1) % 4294967296), vP nd5, vP pt, vP pt, .pointer (some ⟨pt, 4, none⟩), .map (some mu), .agg #[vU rs, vU (i : Int)], .agg #[vU ((uC ul rs (i : Int) + 1) % 4294967296)], undef, undef, undef, undef, undef, undef, undef, undef, undef, undef, undef, undef, undef, undef, undef, undef, undef], []⟩ := by rw [← hfr]; kernel_rfl
 clear hfr
 subst hdf
 clear α
 subst hX9_8
 replace hO : Own w0 u [row (B1) 31 #[vU rs, vU (i : Int)], row (pt) 107 QC, ((mu, .map (uA (ubump ul rs (i : Int))) (uN (ubump ul rs (i : Int)))) : Rw), row (nd5) 324 #[vU ((uC ul rs (i : Int) + 1) % 4294967296)], row (pb) 252 PC, row (sb) 260 (full symZ ((symL st).set (i * 10 + 4) (vU v9)) c)] X := hO.back HL.out HX.out [4, 5] dc dc
 clear HL HX
 obtain ⟨ix9, hix9, hax9, hjx9⟩ := hO.ix
 have aC := hjx9 0 _ _ rfl
 have aD := hjx9 1 _ _ rfl
 have aE := hjx9 2 _ _ rfl
 have aF := hjx9 3 _ _ rfl
 have aO := hjx9 4 _ _ rfl
 have ac := hjx9 5 _ _ rfl
 clear hjx9
 obtain ⟨aI, aJ, aA, aB, -⟩ := hO.k2 0 rfl
 have ad := hO.cell 1 rfl 4 hsu
 have aG := hO.lt 1 rfl
 have aH := hO.free 1 rfl
 obtain ⟨aP, aK, aL, -⟩ := hO.k1 3 rfl
 have ae := hO.cell 4 rfl 32 hk32
 have af := hO.cell 4 rfl 105 hk105
 have ag := hO.cell 4 rfl 106 hk106
 have ah := hO.cell 4 rfl 350 hk350
 have ai := hO.lt 4 rfl
 have aj := hO.free 4 rfl
 have ak : u.cell? ⟨sb, i * 10 + 4, none⟩ = some (vU v9) := hO.cell 5 rfl (i * 10 + 4) ((full_at (set_get hyv _)))
 have al := hO.lt 5 rfl
 have am := hO.free 5 rfl
 have HO := Lib.hid hO
 clear hO
 go_wp2_with (first | (with_reducible refine Own.stay (fn := Tryd.f47) ?_) | fail)
 try with_reducible refine Own.Stay.mk ?_
 have hO := HO.out
 clear HO hix9 hax9 aC aD aE aF aO ac ix9 aI aJ aA aB ad aG aH aP aK aL ae af ag ah ai aj ak al am
 replace hO : Own w0 u [row (B1) 31 #[vU rs, vU (i : Int)], row (pt) 107 QC, ((mu, .map (uA (ubump ul rs (i : Int))) (uN (ubump ul rs (i : Int)))) : Rw), row (nd5) 324 #[vU ((uC ul rs (i : Int) + 1) % 4294967296)], row (pb) 252 PC, row (sb) 260 (full symZ (symL (bump st i)) c)] X := hO.conv (by rw [HV9.out, symL_bump st i y HS.out])
 refine bodyPost_ret (v := .tuple #[]) ?_ rfl ⟨rfl, hO.sub [4, 5, 1, 2] dc⟩
 simp [results, Tryd.results47, go_sem]
end Go.Proofs.YtikopplofkemlaaDoor.Use
