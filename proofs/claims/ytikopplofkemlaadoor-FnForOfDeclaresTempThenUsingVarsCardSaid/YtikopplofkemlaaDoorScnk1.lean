/- The scan of a using declaration of one name, and of others behind it. No condition. -/
import Derived.Test.YtikopplofkemlaaDoorImp0
import Derived.Test.YtikopplofkemlaaDoorApf
namespace Go.Proofs.YtikopplofkemlaaDoor.Use
open Go.ChangeShapes Go.WideShapes Go.ChangeAt Go.RowKit Go.Sort Own
set_option linter.unusedVariables false
def expZ : Array Value := #[.nilIface, vI 0]
theorem infoExp : (Tryd.prog.info? 52).map (fun i => (i.zero, i.size, i.bytes)) = some (some (.agg expZ), 2, 24) := by kernel_rfl

noncomputable def rscnK1d5E (src : Int) (cx : Nat) (si : Nat) (l0 : Int) (l3 : Int) (ni : Nat) (ne : Nat) (B3_1 : Nat) (B3 : Nat) : Nat → Rega.Atoms → Value
 | 0, α => .agg #[vI l3]
 | 1, α => vP cx
 | 2, α => vP cx
 | 3, α => .pointer (some ⟨cx, 1, none⟩)
 | 4, α => .agg #[vU src, vU (si : Int)]
 | 5, α => .agg #[vU src, vU (si : Int), bF, bF, bF]
 | 6, α => vP (α 6)
 | 7, α => vF 267 (α 6)
 | 8, α => .agg #[vF 267 (α 6), vI l3]
 | 9, α => .pointer (some ⟨B3, 2, none⟩)
 | 10, α => .agg #[vF 267 ne, vI l3]
 | 11, α => vS (α 11) 2 2
 | 12, α => vS (α 11) 2 2
 | _, _ => undef
noncomputable def rscnK1d5Anc : Nat → List Nat
 | 2 => [1]
 | 3 => [1, 2]
 | 4 => [1, 2, 3]
 | 5 => [1, 2, 3, 4]
 | 6 => [1, 2, 3, 4, 5]
 | 7 => [1, 2, 3, 4, 5, 6]
 | 8 => [0, 1, 2, 3, 4, 5, 6, 7]
 | 10 => [9]
 | 11 => [0, 1, 2, 3, 4, 5, 6, 7, 8, 9, 10]
 | 12 => [0, 1, 2, 3, 4, 5, 6, 7, 8, 9, 10, 11]
 | _ => []
noncomputable def rscnK1d5Trn : Nat → List Nat
 | _ => []
noncomputable def rscnK1d5Cnt : List (Nat × Nat) := [(6, 1), (11, 1)]
noncomputable def rscnK1d5R (src : Int) (cx : Nat) (si : Nat) (l0 : Int) (l3 : Int) (ni : Nat) (ne : Nat) (B3_1 : Nat) (B3 : Nat) (L9 : Nat → Bool) (α : Rega.Atoms) (ix9 : Nat) : Rw := if ix9 = 999 then row (B3_1) 28 #[vI l3] else if ix9 = 1999 then row (B3) 54 #[vF 134 ni, vI l3, vF 267 ne, vI l3] else if ix9 = 2999 then row (cx) 33 #[vI l0, vU src, vU (si : Int), .bool true] else if ix9 = 6 then row (α 6) 270 #[vU src, vU (si : Int), bF, bF, bF] else if ix9 = 11 then row (α 11) 52 #[vF 267 (α 6), vI l3, vF 267 ne, vI l3] else (0, .map #[] 0)
theorem rscnK1d5_he (src : Int) (cx : Nat) (si : Nat) (l0 : Int) (l3 : Int) (ni : Nat) (ne : Nat) (B3_1 : Nat) (B3 : Nat) : ∀ kk α α', (∀ j, (j % 1000 = kk ∨ j % 1000 ∈ rscnK1d5Anc kk) → α j = α' j) → rscnK1d5E src cx si l0 l3 ni ne B3_1 B3 kk α = rscnK1d5E src cx si l0 l3 ni ne B3_1 B3 kk α' := by
 intro kk α α' h
 match kk with
 | 0 => rfl
 | 1 => rfl
 | 2 => rfl
 | 3 => rfl
 | 4 => rfl
 | 5 => rfl
 | 6 => simp only [rscnK1d5E, h 6 (Or.inl rfl)]
 | 7 => simp only [rscnK1d5E, h 6 (Or.inr dc)]
 | 8 => simp only [rscnK1d5E, h 6 (Or.inr dc)]
 | 9 => rfl
 | 10 => rfl
 | 11 => simp only [rscnK1d5E, h 11 (Or.inl rfl)]
 | 12 => simp only [rscnK1d5E, h 11 (Or.inr dc)]
 | n + 13 => rfl
theorem rscnK1d5_st (src : Int) (cx : Nat) (si : Nat) (l0 : Int) (l3 : Int) (ni : Nat) (ne : Nat) (B3_1 : Nat) (B3 : Nat) : Stable rscnK1d5Cnt 3 rscnK1d5Anc rscnK1d5Trn (rscnK1d5R src cx si l0 l3 ni ne B3_1 B3) := by
 intro k9 L9 α α' ix9 hk hcl hα hact ht
 have hp := act_places hact
 replace hp : ix9 ∈ [999, 1999, 2999, 6, 11] := hp
 simp only [List.mem_cons, List.not_mem_nil, or_false] at hp
 rcases hp with rfl | rfl | rfl | rfl | rfl
 ·rfl
 ·rfl
 ·rfl
 ·have e0 : L9 6 = true := act_lt hact dc
  show row (α' 6) 270 #[vU src, vU (si : Int), bF, bF, bF] = row (α 6) 270 #[vU src, vU (si : Int), bF, bF, bF]
  simp only [hα 6 (ne_ran hk e0)]
 ·have e0 : L9 11 = true := act_lt hact dc
  show row (α' 11) 52 #[vF 267 (α' 6), vI l3, vF 267 ne, vI l3] = row (α 11) 52 #[vF 267 (α 6), vI l3, vF 267 ne, vI l3]
  simp only [hα 6 (ne_ran hk (hcl 11 e0 6 dc)), hα 11 (ne_ran hk e0)]
noncomputable def rscnK1d13E (pb : Nat) (PC : Array Value) (sb : Nat) (c : Nat) (st : List Sy) (n : Nat) (src : Int) (mp : Nat) (es : Array MapEntry) (k : Nat) (ms : Nat) (MC : Array Value) (pt : Nat) (QC : Array Value) (mu : Nat) (ul : List (Int × Int × Int)) (si : Nat) (nl : Nat) (nd : Nat) (l3 : Int) (ni : Nat) (ne : Nat) (B3_1 : Nat) (nd11 : Nat) (nc12 : Nat) : Nat → Rega.Atoms → Value
 | 0, α => vP nl
 | 1, α => vP nl
 | 2, α => vP nl
 | 3, α => vS nd 1 1
 | 4, α => v6 0
 | 5, α => vP pb
 | 6, α => .agg #[vI l3]
 | 7, α => vS nd11 3 (3 + nc12)
 | 8, α => .agg #[vF 261 (α 8), vI l3]
 | 9, α => vP nd
 | 10, α => .pointer (some ⟨nd, 2, none⟩)
 | 11, α => undef
 | _, _ => undef
noncomputable def rscnK1d13Anc : Nat → List Nat
 | 1 => [0]
 | 2 => [0, 1]
 | 3 => [0, 1, 2]
 | 8 => [5, 6, 7]
 | 9 => [0, 1, 2, 3, 4, 5, 6, 7, 8]
 | 10 => [0, 1, 2, 3, 4, 5, 6, 7, 8, 9]
 | 11 => [0, 1, 2, 3, 4, 5, 6, 7, 8, 9, 10]
 | _ => []
noncomputable def rscnK1d13Trn : Nat → List Nat
 | 8 => [1999, 2999, 5999, 6999, 4999]
 | 11 => [8999]
 | _ => []
noncomputable def rscnK1d13Cnt : List (Nat × Nat) := [(8, 3)]
noncomputable def rscnK1d13T1999 (pb : Nat) (PC : Array Value) (sb : Nat) (c : Nat) (st : List Sy) (n : Nat) (src : Int) (mp : Nat) (es : Array MapEntry) (k : Nat) (ms : Nat) (MC : Array Value) (pt : Nat) (QC : Array Value) (mu : Nat) (ul : List (Int × Int × Int)) (si : Nat) (nl : Nat) (nd : Nat) (l3 : Int) (ni : Nat) (ne : Nat) (B3_1 : Nat) (nd11 : Nat) (nc12 : Nat) (L9 : Nat → Bool) (α : Rega.Atoms) : Rw := if L9 8 = true then row (pb) 252 (PC.setIfInBounds 106 (vS (α 3008) (n + 1) (n + 1 + (α 4008)))) else row (pb) 252 PC
noncomputable def rscnK1d13T2999 (pb : Nat) (PC : Array Value) (sb : Nat) (c : Nat) (st : List Sy) (n : Nat) (src : Int) (mp : Nat) (es : Array MapEntry) (k : Nat) (ms : Nat) (MC : Array Value) (pt : Nat) (QC : Array Value) (mu : Nat) (ul : List (Int × Int × Int)) (si : Nat) (nl : Nat) (nd : Nat) (l3 : Int) (ni : Nat) (ne : Nat) (B3_1 : Nat) (nd11 : Nat) (nc12 : Nat) (L9 : Nat → Bool) (α : Rega.Atoms) : Rw := if L9 8 = true then row (α 3008) 260 (full symZ (symL (bump ((bump st si) ++ [syk ⟨#[95, 95, 117, 115, 105, 110, 103]⟩ 27]) n)) (α 4008)) else row (sb) 260 (full symZ (symL (bump st si)) c)
noncomputable def rscnK1d13T4999 (pb : Nat) (PC : Array Value) (sb : Nat) (c : Nat) (st : List Sy) (n : Nat) (src : Int) (mp : Nat) (es : Array MapEntry) (k : Nat) (ms : Nat) (MC : Array Value) (pt : Nat) (QC : Array Value) (mu : Nat) (ul : List (Int × Int × Int)) (si : Nat) (nl : Nat) (nd : Nat) (l3 : Int) (ni : Nat) (ne : Nat) (B3_1 : Nat) (nd11 : Nat) (nc12 : Nat) (L9 : Nat → Bool) (α : Rega.Atoms) : Rw := if L9 8 = true then ((mu, .map (uA (ubump (ubump ul src (si : Int)) src (n : Int))) (uN (ubump (ubump ul src (si : Int)) src (n : Int)))) : Rw) else ((mu, .map (uA (ubump ul src (si : Int))) (uN (ubump ul src (si : Int)))) : Rw)
noncomputable def rscnK1d13T5999 (pb : Nat) (PC : Array Value) (sb : Nat) (c : Nat) (st : List Sy) (n : Nat) (src : Int) (mp : Nat) (es : Array MapEntry) (k : Nat) (ms : Nat) (MC : Array Value) (pt : Nat) (QC : Array Value) (mu : Nat) (ul : List (Int × Int × Int)) (si : Nat) (nl : Nat) (nd : Nat) (l3 : Int) (ni : Nat) (ne : Nat) (B3_1 : Nat) (nd11 : Nat) (nc12 : Nat) (L9 : Nat → Bool) (α : Rega.Atoms) : Rw := if L9 8 = true then ((mp, .map (es.push ⟨.string ⟨#[95, 95, 117, 115, 105, 110, 103]⟩, .agg #[vI l3, vU src, vU (n : Int)], k⟩) (k + 1)) : Rw) else ((mp, .map es k) : Rw)
noncomputable def rscnK1d13T6999 (pb : Nat) (PC : Array Value) (sb : Nat) (c : Nat) (st : List Sy) (n : Nat) (src : Int) (mp : Nat) (es : Array MapEntry) (k : Nat) (ms : Nat) (MC : Array Value) (pt : Nat) (QC : Array Value) (mu : Nat) (ul : List (Int × Int × Int)) (si : Nat) (nl : Nat) (nd : Nat) (l3 : Int) (ni : Nat) (ne : Nat) (B3_1 : Nat) (nd11 : Nat) (nc12 : Nat) (L9 : Nat → Bool) (α : Rega.Atoms) : Rw := if L9 8 = true then row (ms) 99 (MC.setIfInBounds 5 (vS (α 2008) 1 (1 + (α 5008)))) else row (ms) 99 MC
noncomputable def rscnK1d13T8999 (pb : Nat) (PC : Array Value) (sb : Nat) (c : Nat) (st : List Sy) (n : Nat) (src : Int) (mp : Nat) (es : Array MapEntry) (k : Nat) (ms : Nat) (MC : Array Value) (pt : Nat) (QC : Array Value) (mu : Nat) (ul : List (Int × Int × Int)) (si : Nat) (nl : Nat) (nd : Nat) (l3 : Int) (ni : Nat) (ne : Nat) (B3_1 : Nat) (nd11 : Nat) (nc12 : Nat) (L9 : Nat → Bool) (α : Rega.Atoms) : Rw := if L9 11 = true then row (nd) 54 #[vF 134 ni, vI l3, vF 261 (α 8), vI l3] else row (nd) 54 #[vF 134 ni, vI l3, vF 267 ne, vI l3]
noncomputable def rscnK1d13R (pb : Nat) (PC : Array Value) (sb : Nat) (c : Nat) (st : List Sy) (n : Nat) (src : Int) (mp : Nat) (es : Array MapEntry) (k : Nat) (ms : Nat) (MC : Array Value) (pt : Nat) (QC : Array Value) (mu : Nat) (ul : List (Int × Int × Int)) (si : Nat) (nl : Nat) (nd : Nat) (l3 : Int) (ni : Nat) (ne : Nat) (B3_1 : Nat) (nd11 : Nat) (nc12 : Nat) (L9 : Nat → Bool) (α : Rega.Atoms) (ix9 : Nat) : Rw := if ix9 = 999 then row (B3_1) 28 #[vI l3] else if ix9 = 1999 then rscnK1d13T1999 pb PC sb c st n src mp es k ms MC pt QC mu ul si nl nd l3 ni ne B3_1 nd11 nc12 L9 α else if ix9 = 2999 then rscnK1d13T2999 pb PC sb c st n src mp es k ms MC pt QC mu ul si nl nd l3 ni ne B3_1 nd11 nc12 L9 α else if ix9 = 3999 then row (pt) 107 QC else if ix9 = 4999 then rscnK1d13T4999 pb PC sb c st n src mp es k ms MC pt QC mu ul si nl nd l3 ni ne B3_1 nd11 nc12 L9 α else if ix9 = 5999 then rscnK1d13T5999 pb PC sb c st n src mp es k ms MC pt QC mu ul si nl nd l3 ni ne B3_1 nd11 nc12 L9 α else if ix9 = 6999 then rscnK1d13T6999 pb PC sb c st n src mp es k ms MC pt QC mu ul si nl nd l3 ni ne B3_1 nd11 nc12 L9 α else if ix9 = 7999 then row (nl) 57 #[vS nd 1 1, v8 4, bF, bF] else if ix9 = 8999 then rscnK1d13T8999 pb PC sb c st n src mp es k ms MC pt QC mu ul si nl nd l3 ni ne B3_1 nd11 nc12 L9 α else if ix9 = 8 then row (α 8) 266 #[vF 267 (α 1008), vI l3, vS nd11 3 (3 + nc12), vI 0, v8 0, v8 0, bF, bF] else if ix9 = 1008 then row (α 1008) 270 #[vU src, vU (n : Int), bF, bF, bF] else if ix9 = 2008 then row (α 2008) 31 (full refZ ([vU src, vU (n : Int)]) (α 5008)) else (0, .map #[] 0)
theorem rscnK1d13_he (pb : Nat) (PC : Array Value) (sb : Nat) (c : Nat) (st : List Sy) (n : Nat) (src : Int) (mp : Nat) (es : Array MapEntry) (k : Nat) (ms : Nat) (MC : Array Value) (pt : Nat) (QC : Array Value) (mu : Nat) (ul : List (Int × Int × Int)) (si : Nat) (nl : Nat) (nd : Nat) (l3 : Int) (ni : Nat) (ne : Nat) (B3_1 : Nat) (nd11 : Nat) (nc12 : Nat) : ∀ kk α α', (∀ j, (j % 1000 = kk ∨ j % 1000 ∈ rscnK1d13Anc kk) → α j = α' j) → rscnK1d13E pb PC sb c st n src mp es k ms MC pt QC mu ul si nl nd l3 ni ne B3_1 nd11 nc12 kk α = rscnK1d13E pb PC sb c st n src mp es k ms MC pt QC mu ul si nl nd l3 ni ne B3_1 nd11 nc12 kk α' := by
 intro kk α α' h
 match kk with
 | 0 => rfl
 | 1 => rfl
 | 2 => rfl
 | 3 => rfl
 | 4 => rfl
 | 5 => rfl
 | 6 => rfl
 | 7 => rfl
 | 8 => simp only [rscnK1d13E, h 8 (Or.inl rfl)]
 | 9 => rfl
 | 10 => rfl
 | 11 => rfl
 | n + 12 => rfl
theorem rscnK1d13_st (pb : Nat) (PC : Array Value) (sb : Nat) (c : Nat) (st : List Sy) (n : Nat) (src : Int) (mp : Nat) (es : Array MapEntry) (k : Nat) (ms : Nat) (MC : Array Value) (pt : Nat) (QC : Array Value) (mu : Nat) (ul : List (Int × Int × Int)) (si : Nat) (nl : Nat) (nd : Nat) (l3 : Int) (ni : Nat) (ne : Nat) (B3_1 : Nat) (nd11 : Nat) (nc12 : Nat) : Stable rscnK1d13Cnt 9 rscnK1d13Anc rscnK1d13Trn (rscnK1d13R pb PC sb c st n src mp es k ms MC pt QC mu ul si nl nd l3 ni ne B3_1 nd11 nc12) := by
 intro k9 L9 α α' ix9 hk hcl hα hact ht
 have hp := act_places hact
 replace hp : ix9 ∈ [999, 1999, 2999, 3999, 4999, 5999, 6999, 7999, 8999, 8, 1008, 2008] := hp
 simp only [List.mem_cons, List.not_mem_nil, or_false] at hp
 rcases hp with rfl | rfl | rfl | rfl | rfl | rfl | rfl | rfl | rfl | rfl | rfl | rfl
 ·rfl
 ·show rscnK1d13T1999 pb PC sb c st n src mp es k ms MC pt QC mu ul si nl nd l3 ni ne B3_1 nd11 nc12 (Rega.ran L9 k9) α' = rscnK1d13T1999 pb PC sb c st n src mp es k ms MC pt QC mu ul si nl nd l3 ni ne B3_1 nd11 nc12 L9 α
  unfold rscnK1d13T1999
  have n8 : 8 ≠ k9 := fun e => ht (by rw [← e]; decide)
  rw [ran_ne n8]
  by_cases e8 : L9 8 = true
  ·first | rw [if_pos e8, if_pos e8] | rw [if_pos e8]
   try simp only [hα 3008 (ne_ran hk e8), hα 4008 (ne_ran hk e8)]
  first | rw [if_neg e8, if_neg e8] | rw [if_neg e8]
 ·show rscnK1d13T2999 pb PC sb c st n src mp es k ms MC pt QC mu ul si nl nd l3 ni ne B3_1 nd11 nc12 (Rega.ran L9 k9) α' = rscnK1d13T2999 pb PC sb c st n src mp es k ms MC pt QC mu ul si nl nd l3 ni ne B3_1 nd11 nc12 L9 α
  unfold rscnK1d13T2999
  have n8 : 8 ≠ k9 := fun e => ht (by rw [← e]; decide)
  rw [ran_ne n8]
  by_cases e8 : L9 8 = true
  ·first | rw [if_pos e8, if_pos e8] | rw [if_pos e8]
   try simp only [hα 3008 (ne_ran hk e8), hα 4008 (ne_ran hk e8)]
  first | rw [if_neg e8, if_neg e8] | rw [if_neg e8]
 ·rfl
 ·show rscnK1d13T4999 pb PC sb c st n src mp es k ms MC pt QC mu ul si nl nd l3 ni ne B3_1 nd11 nc12 (Rega.ran L9 k9) α' = rscnK1d13T4999 pb PC sb c st n src mp es k ms MC pt QC mu ul si nl nd l3 ni ne B3_1 nd11 nc12 L9 α
  unfold rscnK1d13T4999
  have n8 : 8 ≠ k9 := fun e => ht (by rw [← e]; decide)
  rw [ran_ne n8]
 ·show rscnK1d13T5999 pb PC sb c st n src mp es k ms MC pt QC mu ul si nl nd l3 ni ne B3_1 nd11 nc12 (Rega.ran L9 k9) α' = rscnK1d13T5999 pb PC sb c st n src mp es k ms MC pt QC mu ul si nl nd l3 ni ne B3_1 nd11 nc12 L9 α
  unfold rscnK1d13T5999
  have n8 : 8 ≠ k9 := fun e => ht (by rw [← e]; decide)
  rw [ran_ne n8]
 ·show rscnK1d13T6999 pb PC sb c st n src mp es k ms MC pt QC mu ul si nl nd l3 ni ne B3_1 nd11 nc12 (Rega.ran L9 k9) α' = rscnK1d13T6999 pb PC sb c st n src mp es k ms MC pt QC mu ul si nl nd l3 ni ne B3_1 nd11 nc12 L9 α
  unfold rscnK1d13T6999
  have n8 : 8 ≠ k9 := fun e => ht (by rw [← e]; decide)
  rw [ran_ne n8]
  by_cases e8 : L9 8 = true
  ·first | rw [if_pos e8, if_pos e8] | rw [if_pos e8]
   try simp only [hα 2008 (ne_ran hk e8), hα 5008 (ne_ran hk e8)]
  first | rw [if_neg e8, if_neg e8] | rw [if_neg e8]
 ·rfl
 ·show rscnK1d13T8999 pb PC sb c st n src mp es k ms MC pt QC mu ul si nl nd l3 ni ne B3_1 nd11 nc12 (Rega.ran L9 k9) α' = rscnK1d13T8999 pb PC sb c st n src mp es k ms MC pt QC mu ul si nl nd l3 ni ne B3_1 nd11 nc12 L9 α
  unfold rscnK1d13T8999
  have n11 : 11 ≠ k9 := fun e => ht (by rw [← e]; decide)
  rw [ran_ne n11]
  by_cases e11 : L9 11 = true
  ·first | rw [if_pos e11, if_pos e11] | rw [if_pos e11]
   try simp only [hα 8 (ne_ran hk (hcl 11 e11 8 dc))]
  first | rw [if_neg e11, if_neg e11] | rw [if_neg e11]
 ·have e0 : L9 8 = true := act_lt hact dc
  show row (α' 8) 266 #[vF 267 (α' 1008), vI l3, vS nd11 3 (3 + nc12), vI 0, v8 0, v8 0, bF, bF] = row (α 8) 266 #[vF 267 (α 1008), vI l3, vS nd11 3 (3 + nc12), vI 0, v8 0, v8 0, bF, bF]
  simp only [hα 8 (ne_ran hk e0), hα 1008 (ne_ran hk e0)]
 ·have e0 : L9 8 = true := act_lt hact dc
  show row (α' 1008) 270 #[vU src, vU (n : Int), bF, bF, bF] = row (α 1008) 270 #[vU src, vU (n : Int), bF, bF, bF]
  simp only [hα 1008 (ne_ran hk e0)]
 ·have e0 : L9 8 = true := act_lt hact dc
  show row (α' 2008) 31 (full refZ ([vU src, vU (n : Int)]) (α' 5008)) = row (α 2008) 31 (full refZ ([vU src, vU (n : Int)]) (α 5008))
  simp only [hα 2008 (ne_ran hk e0), hα 5008 (ne_ran hk e0)]
def scnK1Post (pb : Nat) (PC : Array Value) (sb c : Nat) (st : List Sy) (n : Nat) (src : Int) (mp : Nat) (es : Array MapEntry) (k ms : Nat) (MC : Array Value) (pt : Nat) (QC : Array Value) (mu : Nat) (ul : List (Int × Int × Int)) (cs : Nat) (KC : Array Value) (qp cx si tb tc m : Nat) (ad : Nat → Nat) (lc : Nat → Int) (nl : Nat) (l0 : Int) (nd : Nat) (l3 : Int) (ni ne : Nat) (w0 : World) (X : Nat → Obj → Prop) (e : Ending) (w' : World) : Prop :=
 ∃ ca : Nat, ∃ b : Nat, ∃ sb2 : Nat, ∃ c2 : Nat, ∃ gb2 : Nat, ∃ cg2 : Nat, ∃ a0 : Nat, ∃ ab : Nat, ∃ a2 : Nat, ∃ ac : Nat, e = .returned (.tuple #[]) ∧ Own w0 w' [row (cx) 33 #[vI l0, vU src, vU (si : Int), .bool true], row (pb) 252 (PC.setIfInBounds 106 (vS sb2 (n + 1) (n + 1 + c2))), row (sb2) 260 (full symZ (symL (bump ((bump st si) ++ [syk ⟨#[95, 95, 117, 115, 105, 110, 103]⟩ 27]) n)) c2), ((mp, .map (es.push ⟨.string ⟨#[95, 95, 117, 115, 105, 110, 103]⟩, .agg #[vI l3, vU src, vU (n : Int)], k⟩) (k + 1)) : Rw), row (ms) 99 (MC.setIfInBounds 5 (vS gb2 1 (1 + cg2))), row (gb2) 31 (full refZ ([vU src, vU (n : Int)]) cg2), row (pt) 107 QC, ((mu, .map (uA (ubump (ubump ul src (si : Int)) src (n : Int))) (uN (ubump (ubump ul src (si : Int)) src (n : Int)))) : Rw), row (cs) 99 KC, row (tb) 61 (full stmZ (stL (dtL ad lc) (List.range (m + 1))) tc), row (nl) 57 #[vS nd 1 1, v8 2, bF, bF], row (nd) 54 #[vF 134 ni, vI l3, vF 261 ca, vI l3], row (ca) 266 #[vF 267 b, vI l3, vS ab 3 (3 + ac), vI 0, v8 0, v8 0, bF, bF], row (ab) 52 (full expZ [vF 267 a0, vI l3, vF 267 ne, vI l3, vF 271 a2, vI l3] ac), row (a0) 270 #[vU src, vU (si : Int), bF, bF, bF], row (a2) 274 #[.bool true]] X
set_option maxRecDepth 100000 in
set_option maxHeartbeats 4000000 in
theorem scnK1 (pb : Nat) (PC : Array Value) (sb c : Nat) (st : List Sy) (n : Nat) (src : Int) (mp : Nat) (es : Array MapEntry) (k ms : Nat) (MC : Array Value) (pt : Nat) (QC : Array Value) (mu : Nat) (ul : List (Int × Int × Int)) (cs : Nat) (KC : Array Value) (qp cx si tb tc m : Nat) (ad : Nat → Nat) (lc : Nat → Int) (nl : Nat) (l0 : Int) (nd : Nat) (l3 : Int) (ni ne : Nat) (w0 w : World) (X : Nat → Obj → Prop) (hO : Own w0 w [row (cx) 33 #[vI 0, vU src, vU (si : Int), bF], row (pb) 252 PC, row (sb) 260 (full symZ (symL st) c), ((mp, .map es k) : Rw), row (ms) 99 MC, row (pt) 107 QC, ((mu, .map (uA ul) (uN ul)) : Rw), row (cs) 99 KC, row (tb) 61 (full stmZ (stL (dtL ad lc) (List.range (m + 1))) tc), row (nl) 57 #[vS nd 1 1, v8 4, bF, bF], row (nd) 54 #[vF 134 ni, vI l3, vF 267 ne, vI l3]] X) (hk350 : PC[350]? = some (bF)) (hk32 : PC[32]? = some (bF)) (hk105 : PC[105]? = some (vP pt)) (hk66 : PC[66]? = some (vU src)) (hk117 : PC[117]? = some (.map (some mp))) (hk187 : PC[187]? = some (vP ms)) (hk104 : PC[104]? = some (vP cs)) (hk23 : PC[23]? = some (.int .u64 0)) (hk34 : PC[34]? = some (v8 0)) (hk352 : PC[352]? = some (bF)) (hk106 : PC[106]? = some (vS sb n (n + c))) (hn : st.length = n) (hnb : n ≤ 100000) (hsu : QC[4]? = some (.map (some mu))) (hgen : MC[5]? = some (vN)) (hsi : si < n) (hno : Instr.findNow .string (.string ⟨#[95, 95, 117, 115, 105, 110, 103]⟩) es.toList 0 = some none) (hpar : KC[1]? = some (vP qp)) (hm : m ≤ 4096) (had : ad 0 = nl) (hlc : lc 0 = l0) (hloc : ∀ i : Nat, 0 < i → i < m + 1 → X (ad i) (.cells #[vN, v8 0, bF, bF] 57 (0, 0))) (hg0 : w0.cell? ⟨0, 0, none⟩ = some (vU 4294967295)) (hg1 : w0.cell? ⟨0, 1, none⟩ = some (vU 4294967295)) :
  Calls Tryd.prog 43 #[vP cx, vP pb, vS tb (m + 1) (m + 1 + tc)] w (scnK1Post pb PC sb c st n src mp es k ms MC pt QC mu ul cs KC qp cx si tb tc m ad lc nl l0 nd l3 ni ne w0 X) := by
 go_enter Tryd.func43, Tryd.ntmps43
 have HLC := Lib.hid hloc
 clear hloc
 have hm9 : (m : Int) ≤ 4096 := by omega
 have hm8 : (0 : Int) ≤ (m : Int) := by omega
 obtain ⟨aA, aJ, aK, aL, aB, aC, -⟩ := hO.k4 0 rfl
 obtain ⟨ah, ai, bC, bD, aM, aN, -⟩ := hO.k4 9 rfl
 obtain ⟨aD, aE, aF, aG, aH, aI, -⟩ := hO.k4 10 rfl
 have HO := Lib.hid hO
 clear hO
 go_wp2_with (first | (with_reducible refine Own.stay (fn := Tryd.f43) ?_) | (at_builtin; refine Own.appStop ?_) | (first | (go_at_call 51; go_in) | (go_at_call 52; go_in) | (go_at_call 57; go_in)))
 try with_reducible refine Own.Stay.mk ?_
 have hO := HO.out
 clear HO aA aJ aK aL aB aC ah ai bC bD aM aN aD aE aF aG aH aI
 go_loopg [16] (m + 1) (fun gf s16 wx => (gf = m + 1 ∧ s16 = v6 0 ∧ Own w0 wx [row (cx) 33 #[vI 0, vU src, vU (si : Int), bF], row (pb) 252 PC, row (sb) 260 (full symZ (symL st) c), ((mp, .map es k) : Rw), row (ms) 99 MC, row (pt) 107 QC, ((mu, .map (uA ul) (uN ul)) : Rw), row (cs) 99 KC, row (tb) 61 (full stmZ (stL (dtL ad lc) (List.range (m + 1))) tc), row (nl) 57 #[vS nd 1 1, v8 4, bF, bF], row (nd) 54 #[vF 134 ni, vI l3, vF 267 ne, vI l3]] X) ∨ (∃ i : Nat, 0 < i ∧ i + gf = m + 1 ∧ s16 = v6 (i : Int) ∧ ∃ ca b sb2 c2 gb2 cg2 a0 ab a2 ac : Nat, Own w0 wx [row (cx) 33 #[vI l0, vU src, vU (si : Int), .bool true], row (pb) 252 (PC.setIfInBounds 106 (vS sb2 (n + 1) (n + 1 + c2))), row (sb2) 260 (full symZ (symL (bump ((bump st si) ++ [syk ⟨#[95, 95, 117, 115, 105, 110, 103]⟩ 27]) n)) c2), ((mp, .map (es.push ⟨.string ⟨#[95, 95, 117, 115, 105, 110, 103]⟩, .agg #[vI l3, vU src, vU (n : Int)], k⟩) (k + 1)) : Rw), row (ms) 99 (MC.setIfInBounds 5 (vS gb2 1 (1 + cg2))), row (gb2) 31 (full refZ ([vU src, vU (n : Int)]) cg2), row (pt) 107 QC, ((mu, .map (uA (ubump (ubump ul src (si : Int)) src (n : Int))) (uN (ubump (ubump ul src (si : Int)) src (n : Int)))) : Rw), row (cs) 99 KC, row (tb) 61 (full stmZ (stL (dtL ad lc) (List.range (m + 1))) tc), row (nl) 57 #[vS nd 1 1, v8 2, bF, bF], row (nd) 54 #[vF 134 ni, vI l3, vF 261 ca, vI l3], row (ca) 266 #[vF 267 b, vI l3, vS ab 3 (3 + ac), vI 0, v8 0, v8 0, bF, bF], row (ab) 52 (full expZ [vF 267 a0, vI l3, vF 267 ne, vI l3, vF 271 a2, vI l3] ac), row (a0) 270 #[vU src, vU (si : Int), bF, bF, bF], row (a2) 274 #[.bool true]] X))
 case atStart => exact Or.inl ⟨rfl, rfl, hO⟩
 obtain ⟨rfl, rfl, hO⟩ | ⟨i, hi0, him, rfl, ca, b, sb2, c2, gb2, cg2, a0, ab, a2, ac, hO⟩ := hrel
 ·skip
  have ha0 : (List.range (m + 1))[0]? = some 0 := by simp
  have hc0 : (stL (dtL ad lc) (List.range (m + 1)))[0]? = some (vF 42 nl) := (stL_at0 (D := dtL ad lc) (p := 0) ha0).trans (by rw [← had]; rfl)
  have hc1 : (stL (dtL ad lc) (List.range (m + 1)))[1]? = some (vI l0) := (stL_at1 (D := dtL ad lc) (p := 0) ha0).trans (by rw [← hlc]; rfl)
  clear ha0
  obtain ⟨ix9, hix9, hax9, hjx9⟩ := hO.ix
  have bE := hjx9 0 _ _ rfl
  have bG := hjx9 1 _ _ rfl
  have bH := hjx9 2 _ _ rfl
  have bI := hjx9 3 _ _ rfl
  have bJ := hjx9 4 _ _ rfl
  have bK := hjx9 5 _ _ rfl
  have bL := hjx9 6 _ _ rfl
  have bM := hjx9 7 _ _ rfl
  have bN := hjx9 8 _ _ rfl
  have bO := hjx9 9 _ _ rfl
  have bP := hjx9 10 _ _ rfl
  clear hjx9
  obtain ⟨aA, aJ, aK, aL, aB, aC, -⟩ := hO.k4 0 rfl
  have bj := hO.cell 1 rfl 23 hk23
  have bk := hO.cell 1 rfl 32 hk32
  have bl := hO.cell 1 rfl 34 hk34
  have bm := hO.cell 1 rfl 66 hk66
  have bn := hO.cell 1 rfl 104 hk104
  have bo := hO.cell 1 rfl 105 hk105
  have bp := hO.cell 1 rfl 106 hk106
  have bq := hO.cell 1 rfl 117 hk117
  have br := hO.cell 1 rfl 187 hk187
  have bs := hO.cell 1 rfl 350 hk350
  have bt := hO.cell 1 rfl 352 hk352
  have aO := hO.lt 1 rfl
  have aP := hO.free 1 rfl
  have bQ : Base.plainAt wr (ms) = true := hO.plain 4 rfl
  have bu := hO.cell 4 rfl 5 hgen
  have aQ := hO.lt 4 rfl
  have aR := hO.free 4 rfl
  have co := hO.cell 5 rfl 4 hsu
  have aS := hO.lt 5 rfl
  have aT := hO.free 5 rfl
  have cp : Base.plainAt wr (cs) = true := hO.plain 7 rfl
  have bR := hO.cell 7 rfl 1 hpar
  have bS := hO.lt 7 rfl
  have bT := hO.free 7 rfl
  have bv : wr.cell? ⟨tb, 0, none⟩ = some (vF 42 nl) := hO.cell 8 rfl (0) ((full_at hc0))
  have bU : wr.cell? ⟨tb, 1, none⟩ = some (vI l0) := hO.cell 8 rfl (1) ((full_at hc1))
  have bV := hO.lt 8 rfl
  have bW := hO.free 8 rfl
  obtain ⟨ah, ai, bC, bD, aM, aN, -⟩ := hO.k4 9 rfl
  obtain ⟨aD, aE, aF, aG, aH, aI, -⟩ := hO.k4 10 rfl
  have HO := Lib.hid hO
  clear hO
  go_wp2_with (first | (with_reducible refine Own.stay (fn := Tryd.f43) ?_) | (at_builtin; refine Own.appStop ?_) | (first | (go_at_call 51; go_in) | (go_at_call 52; go_in) | (go_at_call 57; go_in)))
  try with_reducible refine Own.Stay.mk ?_
  have hO := HO.out
  clear HO hix9 hax9 bE bG bH bI bJ bK bL bM bN bO bP ix9 aA aJ aK aL aB aC bj bk bl bm bn bo bp bq br bs bt aO aP bQ bu aQ aR co aS aT cp bR bS bT bv bU bV bW ah ai bC bD aM aN aD aE aF aG aH aI
  generalize hW : World.alloc _ _ = W2
  have hN : Own w0 W2 [row (wr.heap.size) 61 #[vF 42 nl, vI l0], row (cx) 33 #[vI l0, vU src, vU (si : Int), .bool true], row (pb) 252 PC, row (sb) 260 (full symZ (symL st) c), ((mp, .map es k) : Rw), row (ms) 99 MC, row (pt) 107 QC, ((mu, .map (uA ul) (uN ul)) : Rw), row (cs) 99 KC, row (tb) 61 (full stmZ (stL (dtL ad lc) (List.range (m + 1))) tc), row (nl) 57 #[vS nd 1 1, v8 4, bF, bF], row (nd) 54 #[vF 134 ni, vI l3, vF 267 ne, vI l3]] X := by
   rw [← hW]
   exact (((hO).set 0 rfl 0 _).set 0 rfl 3 _).alloc' _ (wr.heap.size) (by simp)
  clear hW hO
  generalize wr.heap.size = B1 at hN ⊢
  have hO := hN
  clear hN
  go_loopg [58] 2 (fun gf s58 wx => (gf = 2 ∧ s58 = v6 0 ∧ Own w0 wx [row (B1) 61 #[vF 42 nl, vI l0], row (cx) 33 #[vI l0, vU src, vU (si : Int), .bool true], row (pb) 252 PC, row (sb) 260 (full symZ (symL st) c), ((mp, .map es k) : Rw), row (ms) 99 MC, row (pt) 107 QC, ((mu, .map (uA ul) (uN ul)) : Rw), row (cs) 99 KC, row (tb) 61 (full stmZ (stL (dtL ad lc) (List.range (m + 1))) tc), row (nl) 57 #[vS nd 1 1, v8 4, bF, bF], row (nd) 54 #[vF 134 ni, vI l3, vF 267 ne, vI l3]] X) ∨ (gf = 1 ∧ s58 = v6 1 ∧ ∃ ca b sb2 c2 gb2 cg2 a0 ab a2 ac : Nat, Own w0 wx [row (cx) 33 #[vI l0, vU src, vU (si : Int), .bool true], row (pb) 252 (PC.setIfInBounds 106 (vS sb2 (n + 1) (n + 1 + c2))), row (sb2) 260 (full symZ (symL (bump ((bump st si) ++ [syk ⟨#[95, 95, 117, 115, 105, 110, 103]⟩ 27]) n)) c2), ((mp, .map (es.push ⟨.string ⟨#[95, 95, 117, 115, 105, 110, 103]⟩, .agg #[vI l3, vU src, vU (n : Int)], k⟩) (k + 1)) : Rw), row (ms) 99 (MC.setIfInBounds 5 (vS gb2 1 (1 + cg2))), row (gb2) 31 (full refZ ([vU src, vU (n : Int)]) cg2), row (pt) 107 QC, ((mu, .map (uA (ubump (ubump ul src (si : Int)) src (n : Int))) (uN (ubump (ubump ul src (si : Int)) src (n : Int)))) : Rw), row (cs) 99 KC, row (tb) 61 (full stmZ (stL (dtL ad lc) (List.range (m + 1))) tc), row (nl) 57 #[vS nd 1 1, v8 4, bF, bF], row (nd) 54 #[vF 134 ni, vI l3, vF 261 ca, vI l3], row (ca) 266 #[vF 267 b, vI l3, vS ab 3 (3 + ac), vI 0, v8 0, v8 0, bF, bF], row (ab) 52 (full expZ [vF 267 a0, vI l3, vF 267 ne, vI l3, vF 271 a2, vI l3] ac), row (a0) 270 #[vU src, vU (si : Int), bF, bF, bF], row (a2) 274 #[.bool true]] X))
  case atStart => exact Or.inl ⟨rfl, rfl, hO⟩
  obtain ⟨rfl, rfl, hO⟩ | ⟨rfl, rfl, ca, b, sb2, c2, gb2, cg2, a0, ab, a2, ac, hO⟩ := hrel
  ·skip
   obtain ⟨aA, aJ, aB, aC, -⟩ := hO.k2 0 rfl
   obtain ⟨bX, bY, bw, bx, aO, aP, -⟩ := hO.k4 1 rfl
   obtain ⟨aD, aE, aF, aG, aH, aI, -⟩ := hO.k4 10 rfl
   obtain ⟨aU, aV, aj, ak, aW, aX, -⟩ := hO.k4 11 rfl
   have HO := Lib.hid hO
   clear hO
   go_wp2_with (first | (with_reducible refine Own.stay (fn := Tryd.f43) ?_) | (at_builtin; refine Own.appStop ?_) | (first | (go_at_call 51; go_in) | (go_at_call 52; go_in) | (go_at_call 57; go_in)))
   try with_reducible refine Own.Stay.mk ?_
   have hO := HO.out
   clear HO aA aJ aB aC bX bY bw bx aO aP aD aE aF aG aH aI aU aV aj ak aW aX
   generalize hW : World.alloc _ _ = W4
   have hN : Own w0 W4 [row (wr.heap.size + 1) 28 #[vI l3], row (wr.heap.size) 54 #[vF 134 ni, vI l3, vF 267 ne, vI l3], row (B1) 61 #[vF 42 nl, vI l0], row (cx) 33 #[vI l0, vU src, vU (si : Int), .bool true], row (pb) 252 PC, row (sb) 260 (full symZ (symL st) c), ((mp, .map es k) : Rw), row (ms) 99 MC, row (pt) 107 QC, ((mu, .map (uA ul) (uN ul)) : Rw), row (cs) 99 KC, row (tb) 61 (full stmZ (stL (dtL ad lc) (List.range (m + 1))) tc), row (nl) 57 #[vS nd 1 1, v8 4, bF, bF], row (nd) 54 #[vF 134 ni, vI l3, vF 267 ne, vI l3]] X := by
    rw [← hW]
    exact ((hO).alloc' _ (wr.heap.size) (by simp)).alloc' _ (wr.heap.size + 1) (by simp)
   clear hW hO
   generalize wr.heap.size + 1 = B3_1 at hN ⊢
   generalize wr.heap.size = B3 at hN ⊢
   have hO := hN
   clear hN
   obtain ⟨HL, HX⟩ := hid2 hO
   have hP9 := hO.pick [4, 5, 8, 9] dc
   have h9_hnb : n ≤ 4000000 := (by omega)
   have T9 := useP pb PC sb c st n pt QC mu ul src si _ _ _ hP9 hk350 hk32 hk105 hk106 (by first | assumption | (simp [bump_length]; omega) | (simp [bump_length, hn]; done)) h9_hnb hsu (by omega)
   refine Calls.mono T9 ?_
   clear hP9 T9 h9_hnb
   rintro e uw5 ⟨rfl, hQ⟩
   replace hO : Own w0 uw5 [row (pb) 252 PC, row (sb) 260 (full symZ (symL (bump st si)) c), row (pt) 107 QC, ((mu, .map (uA (ubump ul src (si : Int))) (uN (ubump ul src (si : Int)))) : Rw), row (B3_1) 28 #[vI l3], row (B3) 54 #[vF 134 ni, vI l3, vF 267 ne, vI l3], row (B1) 61 #[vF 42 nl, vI l0], row (cx) 33 #[vI l0, vU src, vU (si : Int), .bool true], ((mp, .map es k) : Rw), row (ms) 99 MC, row (cs) 99 KC, row (tb) 61 (full stmZ (stL (dtL ad lc) (List.range (m + 1))) tc), row (nl) 57 #[vS nd 1 1, v8 4, bF, bF], row (nd) 54 #[vF 134 ni, vI l3, vF 267 ne, vI l3]] X := hQ.back HL.out HX.out [0, 1, 2, 3, 6, 7, 10, 11, 12, 13] dc dc
   clear hQ HL HX
   obtain ⟨bZ, aQ, aR, -⟩ := hO.k1 4 rfl
   obtain ⟨al, am, bz, cA, aS, aT, -⟩ := hO.k4 5 rfl
   obtain ⟨cB, cC, ba, bb, -⟩ := hO.k2 6 rfl
   obtain ⟨cD, bR, cE, cF, bS, bT, -⟩ := hO.k4 7 rfl
   obtain ⟨an, ao, ap, aq, ar, au, -⟩ := hO.k4 12 rfl
   obtain ⟨av, aw, bc, bd, ax, ay, -⟩ := hO.k4 13 rfl
   have HO := Lib.hid hO
   clear hO
   go_wp2_with (first | (with_reducible refine Own.stay (fn := Tryd.f43) ?_) | (at_builtin; refine Own.appStop ?_) | (first | (go_at_call 51; go_in) | (go_at_call 52; go_in) | (go_at_call 57; go_in)))
   try with_reducible refine Own.Stay.mk ?_
   have hO := HO.out
   clear HO bZ aQ aR al am bz cA aS aT cB cC ba bb cD bR cE cF bS bT an ao ap aq ar au av aw bc bd ax ay
   obtain ⟨HL, HX⟩ := hid2 hO
   have hP9 := hO.pick [4, 5, 7] dc
   generalize hX9_6 : Own.Rest _ _ X = X9_6 at hP9
   replace hP9 : Own w0 uw5 [row (B3_1) 28 #[vI l3], row (B3) 54 #[vF 134 ni, vI l3, vF 267 ne, vI l3], row (cx) 33 #[vI l0, vU src, vU (si : Int), .bool true]] X9_6 := hP9
   clear hO
   have hO := hP9
   clear hP9
   have st9 := rscnK1d5_st src cx si l0 l3 ni ne B3_1 B3
   let R9 := rscnK1d5R src cx si l0 l3 ni ne B3_1 B3
   refine wp_region_own (e := rscnK1d5E src cx si l0 l3 ni ne B3_1 B3) (anc := rscnK1d5Anc) (G := (fun L9 α u9 => OwnF w0 u9 (act rscnK1d5Cnt 3 L9) (rscnK1d5R src cx si l0 l3 ni ne B3_1 B3 L9 α) X9_6)) (by kernel_rfl) (by kernel_rfl) (by kernel_rfl) (by kernel_rfl) (rscnK1d5_he src cx si l0 l3 ni ne B3_1 B3) ?_ (RunsAll.all ?_) ?_
   ·have hp : ∀ i, act rscnK1d5Cnt 3 (fun _ => false) i → i ∈ [999, 1999, 2999] := by
     intro i hi
     have h9 : i % 1000 = 999 := by
      by_cases h : i % 1000 = 999
      ·exact h
      ·exact absurd (act_lt hi h) (by simp)
     unfold act at hi
     rw [if_pos h9] at hi
     simp only [List.mem_cons, List.not_mem_nil, or_false]
     omega
    refine hO.drew.family (fun i hi => ?_) (fun i j hi hj hij => ?_)
    ·have := hp i hi
     simp only [List.mem_cons, List.not_mem_nil, or_false] at this
     rcases this with rfl | rfl | rfl <;> rfl
    ·have h1 := hp i hi
     have h2 := hp j hj
     simp only [List.mem_cons, List.not_mem_nil, or_false] at h1 h2
     omega
   ·refine ⟨?_, ?_, ?_, ?_, ?_, ?_, ?_, ?_, ?_, ?_, ?_, ?_, ?_, trivial⟩
    ·refine pur st9 rfl rfl fun L9 α a9 u9 K9 hL hcl hA hG hS h0 h1 hK => ?_
     have s12 := eS (vP B3_1) ((h0 12 (by kernel_rfl)).trans rfl)
     have e0 : R9 L9 α 999 = row (B3_1) 28 #[vI l3] := rfl
     have hr := hG.rowAt 999 (act_base 999 rfl) e0
     have c0 : u9.cell? ⟨B3_1, 0, none⟩ = some (vI l3) := hr.cell rfl
     clear hr e0
     go_simp
     exact hK
    ·refine pur st9 rfl rfl fun L9 α a9 u9 K9 hL hcl hA hG hS h0 h1 hK => ?_
     have s0 := eS (vP cx) ((h0 0 (by kernel_rfl)).trans rfl)
     go_simp
     exact hK
    ·refine pur st9 rfl rfl fun L9 α a9 u9 K9 hL hcl hA hG hS h0 h1 hK => ?_
     have s77 := eS (vP cx) (hS 1 77 dc rfl (ltd 136 rfl))
     go_simp
     exact hK
    ·refine pur st9 rfl rfl fun L9 α a9 u9 K9 hL hcl hA hG hS h0 h1 hK => ?_
     have s78 := eS (vP cx) (hS 2 78 dc rfl (ltd 136 rfl))
     go_simp
     exact hK
    ·refine pur st9 rfl rfl fun L9 α a9 u9 K9 hL hcl hA hG hS h0 h1 hK => ?_
     have s79 := eS (.pointer (some ⟨cx, 1, none⟩)) (hS 3 79 dc rfl (ltd 136 rfl))
     have e0 : R9 L9 α 2999 = row (cx) 33 #[vI l0, vU src, vU (si : Int), .bool true] := rfl
     have hr := hG.rowAt 2999 (act_base 2999 rfl) e0
     have c0 : u9.cell? ⟨cx, 1, none⟩ = some (vU src) := hr.cell rfl
     have c1 : u9.cell? ⟨cx, 2, none⟩ = some (vU (si : Int)) := hr.cell rfl
     clear hr e0
     go_simp
     exact hK
    ·refine pur st9 rfl rfl fun L9 α a9 u9 K9 hL hcl hA hG hS h0 h1 hK => ?_
     have q80 : a9.tmps[80]? = some (.agg #[vU src, vU (si : Int)]) := hS 4 80 dc rfl (ltd 136 rfl)
     have s80 := Rega.eval_of q80
     go_simp
     exact hK
    ·intro L9 α a9 u9 K9 hL hcl hA hG hS h0 h1 hK
     replace hL : L9 6 = false := hL
     have q81 : a9.tmps[81]? = some (.agg #[vU src, vU (si : Int), bF, bF, bF]) := hS 5 81 dc rfl (ltd 136 rfl)
     have s81 := Rega.eval_of q81
     go_simp
     exact hK _ (fun j => if j = 6 then u9.heap.size else α j) _ (fun j hj => if_neg (fun e => hj (by rw [e]))) rfl (step_alloc st9 hL hcl rfl rfl dc _ rfl hG)
    ·refine pur st9 rfl rfl fun L9 α a9 u9 K9 hL hcl hA hG hS h0 h1 hK => ?_
     have s82 := eS (vP (α 6)) (hS 6 82 dc rfl (ltd 136 rfl))
     go_simp
     exact hK
    ·refine pur st9 rfl rfl fun L9 α a9 u9 K9 hL hcl hA hG hS h0 h1 hK => ?_
     have q76 : a9.tmps[76]? = some (.agg #[vI l3]) := hS 0 76 dc rfl (ltd 136 rfl)
     have s76 := Rega.eval_of q76
     have q83 : a9.tmps[83]? = some (vF 267 (α 6)) := hS 7 83 dc rfl (ltd 136 rfl)
     have s83 := Rega.eval_of q83
     go_simp
     exact hK
    ·refine pur st9 rfl rfl fun L9 α a9 u9 K9 hL hcl hA hG hS h0 h1 hK => ?_
     have s11 := eS (vP B3) ((h0 11 (by kernel_rfl)).trans rfl)
     go_simp
     exact hK
    ·refine pur st9 rfl rfl fun L9 α a9 u9 K9 hL hcl hA hG hS h0 h1 hK => ?_
     have s85 := eS (.pointer (some ⟨B3, 2, none⟩)) (hS 9 85 dc rfl (ltd 136 rfl))
     have e0 : R9 L9 α 1999 = row (B3) 54 #[vF 134 ni, vI l3, vF 267 ne, vI l3] := rfl
     have hr := hG.rowAt 1999 (act_base 1999 rfl) e0
     have c0 : u9.cell? ⟨B3, 2, none⟩ = some (vF 267 ne) := hr.cell rfl
     have c1 : u9.cell? ⟨B3, 3, none⟩ = some (vI l3) := hr.cell rfl
     clear hr e0
     go_simp
     exact hK
    ·intro L9 α a9 u9 K9 hL hcl hA hG hS h0 h1 hK
     replace hL : L9 11 = false := hL
     have q84 : a9.tmps[84]? = some (.agg #[vF 267 (α 6), vI l3]) := hS 8 84 dc rfl (ltd 136 rfl)
     have s84 := Rega.eval_of q84
     have q86 : a9.tmps[86]? = some (.agg #[vF 267 ne, vI l3]) := hS 10 86 dc rfl (ltd 136 rfl)
     have s86 := Rega.eval_of q86
     go_simp
     exact hK _ (fun j => if j = 11 then u9.heap.size else α j) _ (fun j hj => if_neg (fun e => hj (by rw [e]))) rfl (step_alloc st9 hL hcl rfl rfl dc _ rfl hG)
    ·refine pur st9 rfl rfl fun L9 α a9 u9 K9 hL hcl hA hG hS h0 h1 hK => ?_
     have q87 : a9.tmps[87]? = some (vS (α 11) 2 2) := hS 11 87 dc rfl (ltd 136 rfl)
     have s87 := Rega.eval_of q87
     go_simp
     exact hK
   clear st9
   intro α u hG
   have e0 : R9 (fun k => decide (k < 13)) α 999 = row (B3_1) 28 #[vI l3] := rfl
   have e1 : R9 (fun k => decide (k < 13)) α 1999 = row (B3) 54 #[vF 134 ni, vI l3, vF 267 ne, vI l3] := rfl
   have e2 : R9 (fun k => decide (k < 13)) α 2999 = row (cx) 33 #[vI l0, vU src, vU (si : Int), .bool true] := rfl
   have e3 : R9 (fun k => decide (k < 13)) α 6 = row (α 6) 270 #[vU src, vU (si : Int), bF, bF, bF] := rfl
   have e4 : R9 (fun k => decide (k < 13)) α 11 = row (α 11) 52 #[vF 267 (α 6), vI l3, vF 267 ne, vI l3] := rfl
   have hO : Own w0 u [row (B3_1) 28 #[vI l3], row (B3) 54 #[vF 134 ni, vI l3, vF 267 ne, vI l3], row (cx) 33 #[vI l0, vU src, vU (si : Int), .bool true], row (α 6) 270 #[vU src, vU (si : Int), bF, bF, bF], row (α 11) 52 #[vF 267 (α 6), vI l3, vF 267 ne, vI l3]] X9_6 := (hG.list [999, 1999, 2999, 6, 11] dc (act_all dc)).conv (by
    show [R9 (fun k => decide (k < 13)) α 999, R9 (fun k => decide (k < 13)) α 1999, R9 (fun k => decide (k < 13)) α 2999, R9 (fun k => decide (k < 13)) α 6, R9 (fun k => decide (k < 13)) α 11] = _
    rw [e0, e1, e2, e3, e4])
   clear hG e0 e1 e2 e3 e4 R9
   generalize hfr : Rega.frameAt _ _ _ _ _ = fr
   have hdf : fr = ⟨#[vP cx, vP pb, vS tb (m + 1) (m + 1 + tc), undef, undef, undef, undef, vP B1, vP nl, .bool true, v6 0, vP B3, vP B3_1, vS (α 11) 2 2, vS tb (m + 1) (m + 1 + tc), v6 ((m : Int) + 1), v6 0, .bool true, vP tb, .agg #[vF 42 nl, vI l0], .tuple #[vP nl, .bool true], vP B1, vF 42 nl, .tuple #[vP nl, .bool true], vP nl, .bool true, .bool true, .bool true, vP nl, vP nl, .pointer (some ⟨nl, 1, none⟩), v8 4, .bool true, .bool true, vP cx, vP cx, vP cx, vP cx, vI 0, .bool true, vP cx, .pointer (some ⟨B1, 1, none⟩), .agg #[vI l0], vP cx, vP cx, vP nl, vP nl, .pointer (some ⟨nl, 1, none⟩), v8 4, .bool true, vP cx, vP cx, .pointer (some ⟨cx, 3, none⟩), vP nl, vP nl, vP nl, vS nd 1 1, v6 1, v6 0, .bool true, v6 0, vP nd, .agg #[vF 134 ni, vI l3, vF 267 ne, vI l3], .pointer (some ⟨B3, 2, none⟩), .pointer (some ⟨B3, 2, none⟩), vF 267 ne, .bool true, .pointer (some ⟨B3, 2, none⟩), .pointer (some ⟨B3, 3, none⟩), .agg #[vI l3], vP pb, vP cx, vP cx, .pointer (some ⟨cx, 1, none⟩), .agg #[vU src, vU (si : Int)], .tuple #[], .agg #[vI l3], vP cx, vP cx, .pointer (some ⟨cx, 1, none⟩), .agg #[vU src, vU (si : Int)], .agg #[vU src, vU (si : Int), bF, bF, bF], vP (α 6), vF 267 (α 6), .agg #[vF 267 (α 6), vI l3], .pointer (some ⟨B3, 2, none⟩), .agg #[vF 267 ne, vI l3], vS (α 11) 2 2, u88, u89, u90, u91, u92, u93, u94, u95, u96, u97, u98, u99, u100, u101, u102, u103, u104, u105, u106, u107, u108, u109, u110, u111, u112, u113, u114, u115, u116, u117, u118, u119, u120, u121, u122, u123, u124, u125, u126, u127, u128, u129, u130, u131, u132, u133, u134, u135], []⟩ := by rw [← hfr]; kernel_rfl
   clear hfr
   subst hdf
   generalize α 6 = nd7 at hO ⊢
   generalize α 11 = nd8 at hO ⊢
   clear α
   subst hX9_6
   replace hO : Own w0 u [row (B3_1) 28 #[vI l3], row (B3) 54 #[vF 134 ni, vI l3, vF 267 ne, vI l3], row (cx) 33 #[vI l0, vU src, vU (si : Int), .bool true], row (nd7) 270 #[vU src, vU (si : Int), bF, bF, bF], row (nd8) 52 #[vF 267 nd7, vI l3, vF 267 ne, vI l3], row (pb) 252 PC, row (sb) 260 (full symZ (symL (bump st si)) c), row (pt) 107 QC, ((mu, .map (uA (ubump ul src (si : Int))) (uN (ubump ul src (si : Int)))) : Rw), row (B1) 61 #[vF 42 nl, vI l0], ((mp, .map es k) : Rw), row (ms) 99 MC, row (cs) 99 KC, row (tb) 61 (full stmZ (stL (dtL ad lc) (List.range (m + 1))) tc), row (nl) 57 #[vS nd 1 1, v8 4, bF, bF], row (nd) 54 #[vF 134 ni, vI l3, vF 267 ne, vI l3]] X := hO.back HL.out HX.out [0, 1, 2, 3, 6, 8, 9, 10, 11, 12, 13] dc dc
   clear HL HX
   obtain ⟨aA, aB, aC, -⟩ := hO.k1 0 rfl
   obtain ⟨bX, bY, bw, bx, aO, aP, -⟩ := hO.k4 1 rfl
   obtain ⟨cG, cq, cr, ct, cH, cI, -⟩ := hO.k4 2 rfl
   obtain ⟨cJ, cu, cv, cw, cy, cK, cL, -⟩ := hO.k5 3 rfl
   obtain ⟨bZ, cM, cN, cO, aQ, aR, -⟩ := hO.k4 4 rfl
   obtain ⟨ah, ai, aM, aN, -⟩ := hO.k2 9 rfl
   obtain ⟨aY, az, bA, bB, aZ, aa, -⟩ := hO.k4 14 rfl
   obtain ⟨ae, cP, cQ, cR, af, ag, -⟩ := hO.k4 15 rfl
   have HO := Lib.hid hO
   clear hO
   go_wp2_with (first | (with_reducible refine Own.stay (fn := Tryd.f43) ?_) | (at_builtin; refine Own.appStop ?_) | (first | (go_at_call 51; go_in) | (go_at_call 52; go_in) | (go_at_call 57; go_in)))
   try with_reducible refine Own.Stay.mk ?_
   have hO := HO.out
   clear HO aA aB aC bX bY bw bx aO aP cG cq cr ct cH cI cJ cu cv cw cy cK cL bZ cM cN cO aQ aR ah ai aM aN aY az bA bB aZ aa ae cP cQ cR af ag
   generalize hW : World.alloc _ _ = W10
   have hN : Own w0 W10 [row (u.heap.size + 1) 52 #[vF 271 u.heap.size, vI l3], row (u.heap.size) 274 #[.bool true], row (B3_1) 28 #[vI l3], row (B3) 54 #[vF 134 ni, vI l3, vF 267 ne, vI l3], row (cx) 33 #[vI l0, vU src, vU (si : Int), .bool true], row (nd7) 270 #[vU src, vU (si : Int), bF, bF, bF], row (nd8) 52 #[vF 267 nd7, vI l3, vF 267 ne, vI l3], row (pb) 252 PC, row (sb) 260 (full symZ (symL (bump st si)) c), row (pt) 107 QC, ((mu, .map (uA (ubump ul src (si : Int))) (uN (ubump ul src (si : Int)))) : Rw), row (B1) 61 #[vF 42 nl, vI l0], ((mp, .map es k) : Rw), row (ms) 99 MC, row (cs) 99 KC, row (tb) 61 (full stmZ (stL (dtL ad lc) (List.range (m + 1))) tc), row (nl) 57 #[vS nd 1 1, v8 4, bF, bF], row (nd) 54 #[vF 134 ni, vI l3, vF 267 ne, vI l3]] X := by
    rw [← hW]
    exact ((hO).alloc' _ (u.heap.size) (by simp)).alloc' _ (u.heap.size + 1) (by simp)
   clear hW hO
   generalize u.heap.size + 1 = B9_1 at hN ⊢
   generalize u.heap.size = B9 at hN ⊢
   have hO := hN
   clear hN
   replace hO : Own w0 W10 [row (B9_1) 52 #[vF 271 B9, vI l3], row (B9) 274 #[.bool true], row (B3_1) 28 #[vI l3], row (B3) 54 #[vF 134 ni, vI l3, vF 267 ne, vI l3], row (cx) 33 #[vI l0, vU src, vU (si : Int), .bool true], row (nd7) 270 #[vU src, vU (si : Int), bF, bF, bF], row (nd8) 52 (full expZ [vF 267 nd7, vI l3, vF 267 ne, vI l3] 0), row (pb) 252 PC, row (sb) 260 (full symZ (symL (bump st si)) c), row (pt) 107 QC, ((mu, .map (uA (ubump ul src (si : Int))) (uN (ubump ul src (si : Int)))) : Rw), row (B1) 61 #[vF 42 nl, vI l0], ((mp, .map es k) : Rw), row (ms) 99 MC, row (cs) 99 KC, row (tb) 61 (full stmZ (stL (dtL ad lc) (List.range (m + 1))) tc), row (nl) 57 #[vS nd 1 1, v8 4, bF, bF], row (nd) 54 #[vF 134 ni, vI l3, vF 267 ne, vI l3]] X := hO.conv (by rw [Own.full_nil])
   refine Own.AppStop.mk ?_
   obtain ⟨i9, hi9, z1, z2, z3⟩ := info_parts infoExp
   obtain ⟨HL, HX⟩ := hid2 hO
   have hP9 := hO.pick [6, 0] dc
   refine Own.wpList_append_full rfl (.tmp 93) (.tmp 99) 117 rfl 52 i9 (.agg expZ) 2 24 Tryd.underlying117 hi9 z1 z2 z3 rfl dc hP9 rfl rfl (by first | rfl | assumption | (simp; done) | (simp; omega)) (by first | rfl | assumption | omega) rfl (oneAll rfl) (by first | decide | omega | (unfold maxLen; omega)) (by first | decide | omega | (unfold maxLen; omega)) ?_
   intro nd11 nc12 u13 hQ
   clear hP9
   replace hO : Own w0 u13 [row (nd11) 52 (full expZ [vF 267 nd7, vI l3, vF 267 ne, vI l3, vF 271 B9, vI l3] nc12), row (B9_1) 52 #[vF 271 B9, vI l3], row (B9) 274 #[.bool true], row (B3_1) 28 #[vI l3], row (B3) 54 #[vF 134 ni, vI l3, vF 267 ne, vI l3], row (cx) 33 #[vI l0, vU src, vU (si : Int), .bool true], row (nd7) 270 #[vU src, vU (si : Int), bF, bF, bF], row (pb) 252 PC, row (sb) 260 (full symZ (symL (bump st si)) c), row (pt) 107 QC, ((mu, .map (uA (ubump ul src (si : Int))) (uN (ubump ul src (si : Int)))) : Rw), row (B1) 61 #[vF 42 nl, vI l0], ((mp, .map es k) : Rw), row (ms) 99 MC, row (cs) 99 KC, row (tb) 61 (full stmZ (stL (dtL ad lc) (List.range (m + 1))) tc), row (nl) 57 #[vS nd 1 1, v8 4, bF, bF], row (nd) 54 #[vF 134 ni, vI l3, vF 267 ne, vI l3]] X := hQ.back HL.out HX.out [1, 2, 3, 4, 5, 7, 8, 9, 10, 11, 12, 13, 14, 15, 16, 17] dc dc
   clear hQ HL HX
   obtain ⟨bX, bY, aO, aP, -⟩ := hO.k2 1 rfl
   obtain ⟨cG, cH, cI, -⟩ := hO.k1 2 rfl
   obtain ⟨cJ, cK, cL, -⟩ := hO.k1 3 rfl
   obtain ⟨bZ, cM, cN, cO, aQ, aR, -⟩ := hO.k4 4 rfl
   obtain ⟨al, am, bz, cA, aS, aT, -⟩ := hO.k4 5 rfl
   obtain ⟨cB, cC, cz, dA, cS, ba, bb, -⟩ := hO.k5 6 rfl
   obtain ⟨aU, aV, aW, aX, -⟩ := hO.k2 11 rfl
   obtain ⟨cT, cU, cV, cW, cX, cY, -⟩ := hO.k4 16 rfl
   obtain ⟨cZ, cb, cc, cd, ce, cf, -⟩ := hO.k4 17 rfl
   have HO := Lib.hid hO
   clear hO
   go_wp2_with (first | (with_reducible refine Own.stay (fn := Tryd.f43) ?_) | (at_builtin; refine Own.appStop ?_) | (first | (go_at_call 51; go_in) | (go_at_call 52; go_in) | (go_at_call 57; go_in)))
   try with_reducible refine Own.Stay.mk ?_
   have hO := HO.out
   clear HO bX bY aO aP cG cH cI cJ cK cL bZ cM cN cO aQ aR al am bz cA aS aT cB cC cz dA cS ba bb aU aV aW aX cT cU cV cW cX cY cZ cb cc cd ce cf
   obtain ⟨HL, HX⟩ := hid2 hO
   have hP9 := hO.pick [3, 7, 8, 9, 10, 12, 13, 16, 17] dc
   generalize hX9_14 : Own.Rest _ _ X = X9_14 at hP9
   replace hP9 : Own w0 u13 [row (B3_1) 28 #[vI l3], row (pb) 252 PC, row (sb) 260 (full symZ (symL (bump st si)) c), row (pt) 107 QC, ((mu, .map (uA (ubump ul src (si : Int))) (uN (ubump ul src (si : Int)))) : Rw), ((mp, .map es k) : Rw), row (ms) 99 MC, row (nl) 57 #[vS nd 1 1, v8 4, bF, bF], row (nd) 54 #[vF 134 ni, vI l3, vF 267 ne, vI l3]] X9_14 := hP9
   clear hO
   have hO := hP9
   clear hP9
   have st9 := rscnK1d13_st pb PC sb c st n src mp es k ms MC pt QC mu ul si nl nd l3 ni ne B3_1 nd11 nc12
   let R9 := rscnK1d13R pb PC sb c st n src mp es k ms MC pt QC mu ul si nl nd l3 ni ne B3_1 nd11 nc12
   refine wp_region_own (e := rscnK1d13E pb PC sb c st n src mp es k ms MC pt QC mu ul si nl nd l3 ni ne B3_1 nd11 nc12) (anc := rscnK1d13Anc) (G := (fun L9 α u9 => OwnF w0 u9 (act rscnK1d13Cnt 9 L9) (rscnK1d13R pb PC sb c st n src mp es k ms MC pt QC mu ul si nl nd l3 ni ne B3_1 nd11 nc12 L9 α) X9_14)) (by kernel_rfl) (by kernel_rfl) (by kernel_rfl) (by kernel_rfl) (rscnK1d13_he pb PC sb c st n src mp es k ms MC pt QC mu ul si nl nd l3 ni ne B3_1 nd11 nc12) ?_ (RunsAll.all ?_) ?_
   ·have hp : ∀ i, act rscnK1d13Cnt 9 (fun _ => false) i → i ∈ [999, 1999, 2999, 3999, 4999, 5999, 6999, 7999, 8999] := by
     intro i hi
     have h9 : i % 1000 = 999 := by
      by_cases h : i % 1000 = 999
      ·exact h
      ·exact absurd (act_lt hi h) (by simp)
     unfold act at hi
     rw [if_pos h9] at hi
     simp only [List.mem_cons, List.not_mem_nil, or_false]
     omega
    refine hO.drew.family (fun i hi => ?_) (fun i j hi hj hij => ?_)
    ·have := hp i hi
     simp only [List.mem_cons, List.not_mem_nil, or_false] at this
     rcases this with rfl | rfl | rfl | rfl | rfl | rfl | rfl | rfl | rfl <;> rfl
    ·have h1 := hp i hi
     have h2 := hp j hj
     simp only [List.mem_cons, List.not_mem_nil, or_false] at h1 h2
     omega
   ·refine ⟨?_, ?_, ?_, ?_, ?_, ?_, ?_, ?_, ?_, ?_, ?_, ?_, trivial⟩
    ·refine pur st9 rfl rfl fun L9 α a9 u9 K9 hL hcl hA hG hS h0 h1 hK => ?_
     have s8 := eS (vP nl) ((h0 8 (by kernel_rfl)).trans rfl)
     go_simp
     exact hK
    ·refine pur st9 rfl rfl fun L9 α a9 u9 K9 hL hcl hA hG hS h0 h1 hK => ?_
     have s101 := eS (vP nl) (hS 0 101 dc rfl (ltd 136 rfl))
     go_simp
     exact hK
    ·refine pur st9 rfl rfl fun L9 α a9 u9 K9 hL hcl hA hG hS h0 h1 hK => ?_
     have s102 := eS (vP nl) (hS 1 102 dc rfl (ltd 136 rfl))
     go_simp
     exact hK
    ·refine pur st9 rfl rfl fun L9 α a9 u9 K9 hL hcl hA hG hS h0 h1 hK => ?_
     have s103 := eS (vP nl) (hS 2 103 dc rfl (ltd 136 rfl))
     have e0 : R9 L9 α 7999 = row (nl) 57 #[vS nd 1 1, v8 4, bF, bF] := rfl
     have hr := hG.rowAt 7999 (act_base 7999 rfl) e0
     have c0 : u9.cell? ⟨nl, 0, none⟩ = some (vS nd 1 1) := hr.cell rfl
     clear hr e0
     go_simp
     exact hK
    ·refine pur st9 rfl rfl fun L9 α a9 u9 K9 hL hcl hA hG hS h0 h1 hK => ?_
     have q10 : a9.tmps[10]? = some (v6 0) := (h0 10 (by kernel_rfl)).trans rfl
     have s10 := Rega.eval_of q10
     go_simp
     exact hK
    ·refine pur st9 rfl rfl fun L9 α a9 u9 K9 hL hcl hA hG hS h0 h1 hK => ?_
     have s1 := eS (vP pb) ((h0 1 (by kernel_rfl)).trans rfl)
     go_simp
     exact hK
    ·refine pur st9 rfl rfl fun L9 α a9 u9 K9 hL hcl hA hG hS h0 h1 hK => ?_
     have s12 := eS (vP B3_1) ((h0 12 (by kernel_rfl)).trans rfl)
     have e0 : R9 L9 α 999 = row (B3_1) 28 #[vI l3] := rfl
     have hr := hG.rowAt 999 (act_base 999 rfl) e0
     have c0 : u9.cell? ⟨B3_1, 0, none⟩ = some (vI l3) := hr.cell rfl
     clear hr e0
     go_simp
     exact hK
    ·refine pur st9 rfl rfl fun L9 α a9 u9 K9 hL hcl hA hG hS h0 h1 hK => ?_
     have q13 : a9.tmps[13]? = some (vS nd11 3 (3 + nc12)) := (h0 13 (by kernel_rfl)).trans rfl
     have s13 := Rega.eval_of q13
     go_simp
     exact hK
    ·intro L9 α a9 u9 K9 hL hcl hA hG hS h0 h1 hK
     replace hL : L9 8 = false := hL
     have q106 : a9.tmps[106]? = some (vP pb) := hS 5 106 dc rfl (ltd 136 rfl)
     have s106 := Rega.eval_of q106
     have q107 : a9.tmps[107]? = some (.agg #[vI l3]) := hS 6 107 dc rfl (ltd 136 rfl)
     have s107 := Rega.eval_of q107
     have q108 : a9.tmps[108]? = some (vS nd11 3 (3 + nc12)) := hS 7 108 dc rfl (ltd 136 rfl)
     have s108 := Rega.eval_of q108
     go_simp
     have e0 : R9 L9 α 1999 = row (pb) 252 PC := by
      show rscnK1d13T1999 pb PC sb c st n src mp es k ms MC pt QC mu ul si nl nd l3 ni ne B3_1 nd11 nc12 L9 α = _
      unfold rscnK1d13T1999
      rw [if_neg (by rw [hL]; decide)]
     have e1 : R9 L9 α 2999 = row (sb) 260 (full symZ (symL (bump st si)) c) := by
      show rscnK1d13T2999 pb PC sb c st n src mp es k ms MC pt QC mu ul si nl nd l3 ni ne B3_1 nd11 nc12 L9 α = _
      unfold rscnK1d13T2999
      rw [if_neg (by rw [hL]; decide)]
     have e2 : R9 L9 α 5999 = ((mp, .map es k) : Rw) := by
      show rscnK1d13T5999 pb PC sb c st n src mp es k ms MC pt QC mu ul si nl nd l3 ni ne B3_1 nd11 nc12 L9 α = _
      unfold rscnK1d13T5999
      rw [if_neg (by rw [hL]; decide)]
     have e3 : R9 L9 α 6999 = row (ms) 99 MC := by
      show rscnK1d13T6999 pb PC sb c st n src mp es k ms MC pt QC mu ul si nl nd l3 ni ne B3_1 nd11 nc12 L9 α = _
      unfold rscnK1d13T6999
      rw [if_neg (by rw [hL]; decide)]
     have e4 : R9 L9 α 3999 = row (pt) 107 QC := rfl
     have e5 : R9 L9 α 4999 = ((mu, .map (uA (ubump ul src (si : Int))) (uN (ubump ul src (si : Int)))) : Rw) := by
      show rscnK1d13T4999 pb PC sb c st n src mp es k ms MC pt QC mu ul si nl nd l3 ni ne B3_1 nd11 nc12 L9 α = _
      unfold rscnK1d13T4999
      rw [if_neg (by rw [hL]; decide)]
     have hM : ∀ i, i ∈ [1999, 2999, 5999, 6999, 3999, 4999] → act rscnK1d13Cnt 9 L9 i := by
      intro i hi
      simp only [List.mem_cons, List.not_mem_nil, or_false] at hi
      rcases hi with rfl | rfl | rfl | rfl | rfl | rfl
      ·exact act_base 1999 rfl
      ·exact act_base 2999 rfl
      ·exact act_base 5999 rfl
      ·exact act_base 6999 rfl
      ·exact act_base 3999 rfl
      ·exact act_base 4999 rfl
     have hP : Own w0 u9 [row (pb) 252 PC, row (sb) 260 (full symZ (symL (bump st si)) c), ((mp, .map es k) : Rw), row (ms) 99 MC, row (pt) 107 QC, ((mu, .map (uA (ubump ul src (si : Int))) (uN (ubump ul src (si : Int)))) : Rw)] _ := (hG.pick [1999, 2999, 5999, 6999, 3999, 4999] dc hM).conv (by
      show [R9 L9 α 1999, R9 L9 α 2999, R9 L9 α 5999, R9 L9 α 6999, R9 L9 α 3999, R9 L9 α 4999] = _
      rw [e0, e1, e2, e3, e4, e5])
     clear e0 e1 e2 e3 e4 e5 hM
     refine Calls.mono (callP0 pb PC sb c (bump st si) n src mp es k ms MC l3 ⟨#[95, 95, 117, 115, 105, 110, 103]⟩ pt QC mu (ubump ul src (si : Int)) nd11 3 (3 + nc12) _ _ _ hP hk350 hk32 hk105 hk66 hk117 hk187 hk106 (by first | assumption | (simp [bump_length]; omega) | (simp [bump_length, hn]; done)) (by omega) hgen hno hg0 hg1 hsu) ?_
     rintro e9 u1 ⟨b0, b1, b3, b4, b2, b5, rfl, hQ⟩
     obtain ⟨α', hα'⟩ : ∃ α' : Rega.Atoms, α' = (fun j => if j = 8 then b0 else if j = 1008 then b1 else if j = 2008 then b2 else if j = 3008 then b3 else if j = 4008 then b4 else if j = 5008 then b5 else α j) := ⟨_, rfl⟩
     have f0 : R9 (Rega.ran L9 8) α' 1999 = row (pb) 252 (PC.setIfInBounds 106 (vS (α' 3008) (n + 1) (n + 1 + (α' 4008)))) := by
      show rscnK1d13T1999 pb PC sb c st n src mp es k ms MC pt QC mu ul si nl nd l3 ni ne B3_1 nd11 nc12 (Rega.ran L9 8) α' = _
      unfold rscnK1d13T1999
      rw [if_pos (show Rega.ran L9 8 8 = true from rfl)]
     have f1 : R9 (Rega.ran L9 8) α' 2999 = row (α' 3008) 260 (full symZ (symL (bump ((bump st si) ++ [syk ⟨#[95, 95, 117, 115, 105, 110, 103]⟩ 27]) n)) (α' 4008)) := by
      show rscnK1d13T2999 pb PC sb c st n src mp es k ms MC pt QC mu ul si nl nd l3 ni ne B3_1 nd11 nc12 (Rega.ran L9 8) α' = _
      unfold rscnK1d13T2999
      rw [if_pos (show Rega.ran L9 8 8 = true from rfl)]
     have f2 : R9 (Rega.ran L9 8) α' 5999 = ((mp, .map (es.push ⟨.string ⟨#[95, 95, 117, 115, 105, 110, 103]⟩, .agg #[vI l3, vU src, vU (n : Int)], k⟩) (k + 1)) : Rw) := by
      show rscnK1d13T5999 pb PC sb c st n src mp es k ms MC pt QC mu ul si nl nd l3 ni ne B3_1 nd11 nc12 (Rega.ran L9 8) α' = _
      unfold rscnK1d13T5999
      rw [if_pos (show Rega.ran L9 8 8 = true from rfl)]
     have f3 : R9 (Rega.ran L9 8) α' 6999 = row (ms) 99 (MC.setIfInBounds 5 (vS (α' 2008) 1 (1 + (α' 5008)))) := by
      show rscnK1d13T6999 pb PC sb c st n src mp es k ms MC pt QC mu ul si nl nd l3 ni ne B3_1 nd11 nc12 (Rega.ran L9 8) α' = _
      unfold rscnK1d13T6999
      rw [if_pos (show Rega.ran L9 8 8 = true from rfl)]
     have f4 : R9 (Rega.ran L9 8) α' 3999 = row (pt) 107 QC := rfl
     have f5 : R9 (Rega.ran L9 8) α' 4999 = ((mu, .map (uA (ubump (ubump ul src (si : Int)) src (n : Int))) (uN (ubump (ubump ul src (si : Int)) src (n : Int)))) : Rw) := by
      show rscnK1d13T4999 pb PC sb c st n src mp es k ms MC pt QC mu ul si nl nd l3 ni ne B3_1 nd11 nc12 (Rega.ran L9 8) α' = _
      unfold rscnK1d13T4999
      rw [if_pos (show Rega.ran L9 8 8 = true from rfl)]
     have f6 : R9 (Rega.ran L9 8) α' 2008 = row (α' 2008) 31 (full refZ ([vU src, vU (n : Int)]) (α' 5008)) := rfl
     have f7 : R9 (Rega.ran L9 8) α' 1008 = row (α' 1008) 270 #[vU src, vU (n : Int), bF, bF, bF] := rfl
     have f8 : R9 (Rega.ran L9 8) α' 8 = row (α' 8) 266 #[vF 267 (α' 1008), vI l3, vS nd11 3 (3 + nc12), vI 0, v8 0, v8 0, bF, bF] := rfl
     have hα : ∀ j, j % 1000 ≠ 8 → α' j = α j := fun j hj => by rw [hα']; simp only []; rw [if_neg (by omega), if_neg (by omega), if_neg (by omega), if_neg (by omega), if_neg (by omega), if_neg (by omega)]
     have hb0 : α' 8 = b0 := by rw [hα']; rfl
     have hb1 : α' 1008 = b1 := by rw [hα']; rfl
     have hb2 : α' 2008 = b2 := by rw [hα']; rfl
     have hb3 : α' 3008 = b3 := by rw [hα']; rfl
     have hb4 : α' 4008 = b4 := by rw [hα']; rfl
     have hb5 : α' 5008 = b5 := by rw [hα']; rfl
     skip
     refine hK _ α' _ hα ?_ (step_call (st9) hL hcl hα [1999, 2999, 5999, 6999, 3999, 4999] [1999, 2999, 5999, 6999, 3999, 4999, 2008, 1008, 8] dc dc dc (M := _) ?_ hG hQ)
     ·show _ = (.agg #[vF 261 (α' 8), vI l3] : Value)
      simp only [hb0]
     ·show [R9 (Rega.ran L9 8) α' 1999, R9 (Rega.ran L9 8) α' 2999, R9 (Rega.ran L9 8) α' 5999, R9 (Rega.ran L9 8) α' 6999, R9 (Rega.ran L9 8) α' 3999, R9 (Rega.ran L9 8) α' 4999, R9 (Rega.ran L9 8) α' 2008, R9 (Rega.ran L9 8) α' 1008, R9 (Rega.ran L9 8) α' 8] = _
      rw [f0, f1, f2, f3, f4, f5, f6, f7, f8]
      simp only [hb0, hb1, hb2, hb3, hb4, hb5]
      try rfl
    ·refine pur st9 rfl rfl fun L9 α a9 u9 K9 hL hcl hA hG hS h0 h1 hK => ?_
     have q104 : a9.tmps[104]? = some (vS nd 1 1) := hS 3 104 dc rfl (ltd 136 rfl)
     have s104 := Rega.eval_of q104
     have q105 : a9.tmps[105]? = some (v6 0) := hS 4 105 dc rfl (ltd 136 rfl)
     have s105 := Rega.eval_of q105
     go_simp
     exact hK
    ·refine pur st9 rfl rfl fun L9 α a9 u9 K9 hL hcl hA hG hS h0 h1 hK => ?_
     have s110 := eS (vP nd) (hS 9 110 dc rfl (ltd 136 rfl))
     go_simp
     exact hK
    ·intro L9 α a9 u9 K9 hL hcl hA hG hS h0 h1 hK
     replace hL : L9 11 = false := hL
     have q111 : a9.tmps[111]? = some (.pointer (some ⟨nd, 2, none⟩)) := hS 10 111 dc rfl (ltd 136 rfl)
     have s111 := Rega.eval_of q111
     have q109 : a9.tmps[109]? = some (.agg #[vF 261 (α 8), vI l3]) := hS 8 109 dc rfl (ltd 136 rfl)
     have s109 := Rega.eval_of q109
     have e0 : R9 L9 α 8999 = row (nd) 54 #[vF 134 ni, vI l3, vF 267 ne, vI l3] := by
      show rscnK1d13T8999 pb PC sb c st n src mp es k ms MC pt QC mu ul si nl nd l3 ni ne B3_1 nd11 nc12 L9 α = _
      unfold rscnK1d13T8999
      rw [if_neg (by rw [hL]; decide)]
     have hr := hG.rowAt 8999 (act_base 8999 rfl) e0
     have c0 : u9.cell? ⟨nd, 2, none⟩ = some (vF 267 ne) := hr.cell rfl
     have y0 : u9.frozen? ⟨nd, 2, none⟩ = false := hr.free (2)
     have c1 : u9.cell? ⟨nd, 3, none⟩ = some (vI l3) := hr.cell rfl
     have y1 : u9.frozen? ⟨nd, 3, none⟩ = false := hr.free (3)
     clear hr
     have E0 := Lib.hid e0
     clear e0
     go_simp
     have e1 : R9 (Rega.ran L9 11) α 8999 = row (nd) 54 #[vF 134 ni, vI l3, vF 261 (α 8), vI l3] := by
      show rscnK1d13T8999 pb PC sb c st n src mp es k ms MC pt QC mu ul si nl nd l3 ni ne B3_1 nd11 nc12 (Rega.ran L9 11) α = _
      unfold rscnK1d13T8999
      rw [if_pos (show Rega.ran L9 11 11 = true from rfl)]
     exact hK _ α _ (fun _ _ => rfl) rfl (step_sets (st9) hL hcl rfl 8999 rfl (act_base 8999 rfl) E0.out (2) [vF 261 (α 8), vI l3] (e1.trans rfl) hG)
   clear st9
   intro α u hG
   have e0 : R9 (fun k => decide (k < 12)) α 999 = row (B3_1) 28 #[vI l3] := rfl
   have e1 : R9 (fun k => decide (k < 12)) α 1999 = row (pb) 252 (PC.setIfInBounds 106 (vS (α 3008) (n + 1) (n + 1 + (α 4008)))) := by
    show rscnK1d13T1999 pb PC sb c st n src mp es k ms MC pt QC mu ul si nl nd l3 ni ne B3_1 nd11 nc12 (fun k => decide (k < 12)) α = _
    unfold rscnK1d13T1999
    rw [if_pos dc]
   have e2 : R9 (fun k => decide (k < 12)) α 2999 = row (α 3008) 260 (full symZ (symL (bump ((bump st si) ++ [syk ⟨#[95, 95, 117, 115, 105, 110, 103]⟩ 27]) n)) (α 4008)) := by
    show rscnK1d13T2999 pb PC sb c st n src mp es k ms MC pt QC mu ul si nl nd l3 ni ne B3_1 nd11 nc12 (fun k => decide (k < 12)) α = _
    unfold rscnK1d13T2999
    rw [if_pos dc]
   have e3 : R9 (fun k => decide (k < 12)) α 3999 = row (pt) 107 QC := rfl
   have e4 : R9 (fun k => decide (k < 12)) α 4999 = ((mu, .map (uA (ubump (ubump ul src (si : Int)) src (n : Int))) (uN (ubump (ubump ul src (si : Int)) src (n : Int)))) : Rw) := by
    show rscnK1d13T4999 pb PC sb c st n src mp es k ms MC pt QC mu ul si nl nd l3 ni ne B3_1 nd11 nc12 (fun k => decide (k < 12)) α = _
    unfold rscnK1d13T4999
    rw [if_pos dc]
   have e5 : R9 (fun k => decide (k < 12)) α 5999 = ((mp, .map (es.push ⟨.string ⟨#[95, 95, 117, 115, 105, 110, 103]⟩, .agg #[vI l3, vU src, vU (n : Int)], k⟩) (k + 1)) : Rw) := by
    show rscnK1d13T5999 pb PC sb c st n src mp es k ms MC pt QC mu ul si nl nd l3 ni ne B3_1 nd11 nc12 (fun k => decide (k < 12)) α = _
    unfold rscnK1d13T5999
    rw [if_pos dc]
   have e6 : R9 (fun k => decide (k < 12)) α 6999 = row (ms) 99 (MC.setIfInBounds 5 (vS (α 2008) 1 (1 + (α 5008)))) := by
    show rscnK1d13T6999 pb PC sb c st n src mp es k ms MC pt QC mu ul si nl nd l3 ni ne B3_1 nd11 nc12 (fun k => decide (k < 12)) α = _
    unfold rscnK1d13T6999
    rw [if_pos dc]
   have e7 : R9 (fun k => decide (k < 12)) α 7999 = row (nl) 57 #[vS nd 1 1, v8 4, bF, bF] := rfl
   have e8 : R9 (fun k => decide (k < 12)) α 8999 = row (nd) 54 #[vF 134 ni, vI l3, vF 261 (α 8), vI l3] := by
    show rscnK1d13T8999 pb PC sb c st n src mp es k ms MC pt QC mu ul si nl nd l3 ni ne B3_1 nd11 nc12 (fun k => decide (k < 12)) α = _
    unfold rscnK1d13T8999
    rw [if_pos dc]
   have e9 : R9 (fun k => decide (k < 12)) α 8 = row (α 8) 266 #[vF 267 (α 1008), vI l3, vS nd11 3 (3 + nc12), vI 0, v8 0, v8 0, bF, bF] := rfl
   have e10 : R9 (fun k => decide (k < 12)) α 1008 = row (α 1008) 270 #[vU src, vU (n : Int), bF, bF, bF] := rfl
   have e11 : R9 (fun k => decide (k < 12)) α 2008 = row (α 2008) 31 (full refZ ([vU src, vU (n : Int)]) (α 5008)) := rfl
   have hO : Own w0 u [row (B3_1) 28 #[vI l3], row (pb) 252 (PC.setIfInBounds 106 (vS (α 3008) (n + 1) (n + 1 + (α 4008)))), row (α 3008) 260 (full symZ (symL (bump ((bump st si) ++ [syk ⟨#[95, 95, 117, 115, 105, 110, 103]⟩ 27]) n)) (α 4008)), row (pt) 107 QC, ((mu, .map (uA (ubump (ubump ul src (si : Int)) src (n : Int))) (uN (ubump (ubump ul src (si : Int)) src (n : Int)))) : Rw), ((mp, .map (es.push ⟨.string ⟨#[95, 95, 117, 115, 105, 110, 103]⟩, .agg #[vI l3, vU src, vU (n : Int)], k⟩) (k + 1)) : Rw), row (ms) 99 (MC.setIfInBounds 5 (vS (α 2008) 1 (1 + (α 5008)))), row (nl) 57 #[vS nd 1 1, v8 4, bF, bF], row (nd) 54 #[vF 134 ni, vI l3, vF 261 (α 8), vI l3], row (α 8) 266 #[vF 267 (α 1008), vI l3, vS nd11 3 (3 + nc12), vI 0, v8 0, v8 0, bF, bF], row (α 1008) 270 #[vU src, vU (n : Int), bF, bF, bF], row (α 2008) 31 (full refZ ([vU src, vU (n : Int)]) (α 5008))] X9_14 := (hG.list [999, 1999, 2999, 3999, 4999, 5999, 6999, 7999, 8999, 8, 1008, 2008] dc (act_all dc)).conv (by
    show [R9 (fun k => decide (k < 12)) α 999, R9 (fun k => decide (k < 12)) α 1999, R9 (fun k => decide (k < 12)) α 2999, R9 (fun k => decide (k < 12)) α 3999, R9 (fun k => decide (k < 12)) α 4999, R9 (fun k => decide (k < 12)) α 5999, R9 (fun k => decide (k < 12)) α 6999, R9 (fun k => decide (k < 12)) α 7999, R9 (fun k => decide (k < 12)) α 8999, R9 (fun k => decide (k < 12)) α 8, R9 (fun k => decide (k < 12)) α 1008, R9 (fun k => decide (k < 12)) α 2008] = _
    rw [e0, e1, e2, e3, e4, e5, e6, e7, e8, e9, e10, e11])
   clear hG e0 e1 e2 e3 e4 e5 e6 e7 e8 e9 e10 e11 R9
   generalize hfr : Rega.frameAt _ _ _ _ _ = fr
   have hdf : fr = ⟨#[vP cx, vP pb, vS tb (m + 1) (m + 1 + tc), undef, undef, undef, undef, vP B1, vP nl, .bool true, v6 0, vP B3, vP B3_1, vS nd11 3 (3 + nc12), vS tb (m + 1) (m + 1 + tc), v6 ((m : Int) + 1), v6 0, .bool true, vP tb, .agg #[vF 42 nl, vI l0], .tuple #[vP nl, .bool true], vP B1, vF 42 nl, .tuple #[vP nl, .bool true], vP nl, .bool true, .bool true, .bool true, vP nl, vP nl, .pointer (some ⟨nl, 1, none⟩), v8 4, .bool true, .bool true, vP cx, vP cx, vP cx, vP cx, vI 0, .bool true, vP cx, .pointer (some ⟨B1, 1, none⟩), .agg #[vI l0], vP cx, vP cx, vP nl, vP nl, .pointer (some ⟨nl, 1, none⟩), v8 4, .bool true, vP cx, vP cx, .pointer (some ⟨cx, 3, none⟩), vP nl, vP nl, vP nl, vS nd 1 1, v6 1, v6 0, .bool true, v6 0, vP nd, .agg #[vF 134 ni, vI l3, vF 267 ne, vI l3], .pointer (some ⟨B3, 2, none⟩), .pointer (some ⟨B3, 2, none⟩), vF 267 ne, .bool true, .pointer (some ⟨B3, 2, none⟩), .pointer (some ⟨B3, 3, none⟩), .agg #[vI l3], vP pb, vP cx, vP cx, .pointer (some ⟨cx, 1, none⟩), .agg #[vU src, vU (si : Int)], .tuple #[], .agg #[vI l3], vP cx, vP cx, .pointer (some ⟨cx, 1, none⟩), .agg #[vU src, vU (si : Int)], .agg #[vU src, vU (si : Int), bF, bF, bF], vP nd7, vF 267 nd7, .agg #[vF 267 nd7, vI l3], .pointer (some ⟨B3, 2, none⟩), .agg #[vF 267 ne, vI l3], vS nd8 2 2, vP nl, vP nl, .pointer (some ⟨nl, 1, none⟩), v8 4, .bool true, vS nd8 2 2, .agg #[vI l3], .agg #[.bool true], vP B9, vF 271 B9, .agg #[vF 271 B9, vI l3], vS B9_1 1 1, vS nd11 3 (3 + nc12), vP nl, vP nl, vP nl, vS nd 1 1, v6 0, vP pb, .agg #[vI l3], vS nd11 3 (3 + nc12), .agg #[vF 261 (α 8), vI l3], vP nd, .pointer (some ⟨nd, 2, none⟩), u112, u113, u114, u115, u116, u117, u118, u119, u120, u121, u122, u123, u124, u125, u126, u127, u128, u129, u130, u131, u132, u133, u134, u135], []⟩ := by rw [← hfr]; kernel_rfl
   clear hfr
   subst hdf
   generalize α 8 = nd15 at hO ⊢
   generalize α 1008 = nd16 at hO ⊢
   generalize α 2008 = nd17 at hO ⊢
   generalize α 3008 = nd18 at hO ⊢
   generalize α 4008 = nd19 at hO ⊢
   generalize α 5008 = nd20 at hO ⊢
   clear α
   subst hX9_14
   replace hO : Own w0 u [row (B3_1) 28 #[vI l3], row (pb) 252 (PC.setIfInBounds 106 (vS nd18 (n + 1) (n + 1 + (nd19)))), row (nd18) 260 (full symZ (symL (bump ((bump st si) ++ [syk ⟨#[95, 95, 117, 115, 105, 110, 103]⟩ 27]) n)) (nd19)), row (pt) 107 QC, ((mu, .map (uA (ubump (ubump ul src (si : Int)) src (n : Int))) (uN (ubump (ubump ul src (si : Int)) src (n : Int)))) : Rw), ((mp, .map (es.push ⟨.string ⟨#[95, 95, 117, 115, 105, 110, 103]⟩, .agg #[vI l3, vU src, vU (n : Int)], k⟩) (k + 1)) : Rw), row (ms) 99 (MC.setIfInBounds 5 (vS nd17 1 (1 + (nd20)))), row (nl) 57 #[vS nd 1 1, v8 4, bF, bF], row (nd) 54 #[vF 134 ni, vI l3, vF 261 nd15, vI l3], row (nd15) 266 #[vF 267 nd16, vI l3, vS nd11 3 (3 + nc12), vI 0, v8 0, v8 0, bF, bF], row (nd16) 270 #[vU src, vU (n : Int), bF, bF, bF], row (nd17) 31 (full refZ ([vU src, vU (n : Int)]) (nd20)), row (nd11) 52 (full expZ [vF 267 nd7, vI l3, vF 267 ne, vI l3, vF 271 B9, vI l3] nc12), row (B9_1) 52 #[vF 271 B9, vI l3], row (B9) 274 #[.bool true], row (B3) 54 #[vF 134 ni, vI l3, vF 267 ne, vI l3], row (cx) 33 #[vI l0, vU src, vU (si : Int), .bool true], row (nd7) 270 #[vU src, vU (si : Int), bF, bF, bF], row (B1) 61 #[vF 42 nl, vI l0], row (cs) 99 KC, row (tb) 61 (full stmZ (stL (dtL ad lc) (List.range (m + 1))) tc)] X := hO.back HL.out HX.out [0, 1, 2, 4, 5, 6, 11, 14, 15] dc dc
   clear HL HX
   replace hO : Own w0 u [row (B3_1) 28 #[vI l3], row (pb) 252 (PC.setIfInBounds 106 (vS nd18 (n + 1) (n + 1 + (nd19)))), row (nd18) 260 (full symZ (symL (bump ((bump st si) ++ [syk ⟨#[95, 95, 117, 115, 105, 110, 103]⟩ 27]) n)) (nd19)), row (pt) 107 QC, ((mu, .map (uA (ubump (ubump ul src (si : Int)) src (n : Int))) (uN (ubump (ubump ul src (si : Int)) src (n : Int)))) : Rw), ((mp, .map (es.push ⟨.string ⟨#[95, 95, 117, 115, 105, 110, 103]⟩, .agg #[vI l3, vU src, vU (n : Int)], k⟩) (k + 1)) : Rw), row (ms) 99 (MC.setIfInBounds 5 (vS nd17 1 (1 + (nd20)))), row (nl) 57 #[vS nd 1 1, v8 4, bF, bF], row (nd) 54 #[vF 134 ni, vI l3, vF 261 nd15, vI l3], row (nd15) 266 #[vF 267 nd16, vI l3, vS nd11 3 (3 + nc12), vI 0, v8 0, v8 0, bF, bF], row (nd16) 270 #[vU src, vU (n : Int), bF, bF, bF], row (nd17) 31 (full refZ [vU src, vU (n : Int)] (nd20)), row (nd11) 52 (full expZ [vF 267 nd7, vI l3, vF 267 ne, vI l3, vF 271 B9, vI l3] nc12), row (B9_1) 52 #[vF 271 B9, vI l3], row (B9) 274 #[.bool true], row (B3) 54 #[vF 134 ni, vI l3, vF 267 ne, vI l3], row (cx) 33 #[vI l0, vU src, vU (si : Int), .bool true], row (nd7) 270 #[vU src, vU (si : Int), bF, bF, bF], row (B1) 61 #[vF 42 nl, vI l0], row (cs) 99 KC, row (tb) 61 (full stmZ (stL (dtL ad lc) (List.range (m + 1))) tc)] X := hO
   obtain ⟨aA, aB, aC, -⟩ := hO.k1 0 rfl
   obtain ⟨cD, bR, cE, cF, bS, bT, -⟩ := hO.k4 7 rfl
   obtain ⟨bv, bU, dB, dC, bV, bW, -⟩ := hO.k4 8 rfl
   obtain ⟨ah, ai, bC, bD, dD, dE, dF, dG, aM, aN, -⟩ := hO.k8 9 rfl
   obtain ⟨aD, aE, aF, aG, dH, aH, aI, -⟩ := hO.k5 10 rfl
   obtain ⟨av, aw, ax, ay, -⟩ := hO.k2 13 rfl
   obtain ⟨aY, aZ, aa, -⟩ := hO.k1 14 rfl
   obtain ⟨ae, cP, cQ, cR, af, ag, -⟩ := hO.k4 15 rfl
   obtain ⟨cT, cU, cV, cW, cX, cY, -⟩ := hO.k4 16 rfl
   obtain ⟨cZ, cb, cc, cd, dI, ce, cf, -⟩ := hO.k5 17 rfl
   obtain ⟨dJ, dK, dL, dM, -⟩ := hO.k2 18 rfl
   have HO := Lib.hid hO
   clear hO
   go_wp2_with (first | (with_reducible refine Own.stay (fn := Tryd.f43) ?_) | (at_builtin; refine Own.appStop ?_) | (first | (go_at_call 51; go_in) | (go_at_call 52; go_in) | (go_at_call 57; go_in)))
   try with_reducible refine Own.Stay.mk ?_
   have hO := HO.out
   clear HO aA aB aC cD bR cE cF bS bT bv bU dB dC bV bW ah ai bC bD dD dE dF dG aM aN aD aE aF aG dH aH aI av aw ax ay aY aZ aa ae cP cQ cR af ag cT cU cV cW cX cY cZ cb cc cd dI ce cf dJ dK dL dM
   go_roundg 1
   case measure => omega
   case rel => exact Or.inr ⟨rfl, rfl, nd15, nd16, nd18, nd19, nd17, nd20, nd7, nd11, B9, nc12, hO.sub [16, 1, 2, 5, 6, 11, 3, 4, 19, 20, 7, 8, 9, 12, 17, 14] dc⟩
  obtain ⟨ix9, hix9, hax9, hjx9⟩ := hO.ix
  have bE := hjx9 0 _ _ rfl
  have bG := hjx9 1 _ _ rfl
  have bH := hjx9 2 _ _ rfl
  have bI := hjx9 3 _ _ rfl
  have bJ := hjx9 4 _ _ rfl
  have bK := hjx9 5 _ _ rfl
  have bL := hjx9 6 _ _ rfl
  have bM := hjx9 7 _ _ rfl
  have bN := hjx9 8 _ _ rfl
  have bO := hjx9 9 _ _ rfl
  have bP := hjx9 10 _ _ rfl
  have cg := hjx9 11 _ _ rfl
  have ch := hjx9 12 _ _ rfl
  have ci := hjx9 13 _ _ rfl
  have cj := hjx9 14 _ _ rfl
  have ck := hjx9 15 _ _ rfl
  clear hjx9
  obtain ⟨aA, aJ, aK, aL, aB, aC, -⟩ := hO.k4 0 rfl
  have bj : wr.cell? ⟨pb, 23, none⟩ = some (.int .u64 0) := hO.cell 1 rfl (23) ((get_other hk23 (by omega) _))
  have bk : wr.cell? ⟨pb, 32, none⟩ = some (bF) := hO.cell 1 rfl (32) ((get_other hk32 (by omega) _))
  have bl : wr.cell? ⟨pb, 34, none⟩ = some (v8 0) := hO.cell 1 rfl (34) ((get_other hk34 (by omega) _))
  have bm : wr.cell? ⟨pb, 66, none⟩ = some (vU src) := hO.cell 1 rfl (66) ((get_other hk66 (by omega) _))
  have bn : wr.cell? ⟨pb, 104, none⟩ = some (vP cs) := hO.cell 1 rfl (104) ((get_other hk104 (by omega) _))
  have bo : wr.cell? ⟨pb, 105, none⟩ = some (vP pt) := hO.cell 1 rfl (105) ((get_other hk105 (by omega) _))
  have bp : wr.cell? ⟨pb, 106, none⟩ = some (vS sb2 (n + 1) (n + 1 + c2)) := hO.cell 1 rfl (106) ((get_set hk106 _))
  have bq : wr.cell? ⟨pb, 117, none⟩ = some (.map (some mp)) := hO.cell 1 rfl (117) ((get_other hk117 (by omega) _))
  have br : wr.cell? ⟨pb, 187, none⟩ = some (vP ms) := hO.cell 1 rfl (187) ((get_other hk187 (by omega) _))
  have bs : wr.cell? ⟨pb, 350, none⟩ = some (bF) := hO.cell 1 rfl (350) ((get_other hk350 (by omega) _))
  have bt : wr.cell? ⟨pb, 352, none⟩ = some (bF) := hO.cell 1 rfl (352) ((get_other hk352 (by omega) _))
  have aO := hO.lt 1 rfl
  have aP := hO.free 1 rfl
  have bQ : Base.plainAt wr (ms) = true := hO.plain 4 rfl
  have bu : wr.cell? ⟨ms, 5, none⟩ = some (vS gb2 1 (1 + cg2)) := hO.cell 4 rfl (5) ((get_set hgen _))
  have aQ := hO.lt 4 rfl
  have aR := hO.free 4 rfl
  have al : wr.cell? ⟨gb2, 0, none⟩ = some (vU src) := hO.cell 5 rfl (0) ((full_at rfl))
  have am : wr.cell? ⟨gb2, 1, none⟩ = some (vU (n : Int)) := hO.cell 5 rfl (1) ((full_at rfl))
  have aS := hO.lt 5 rfl
  have aT := hO.free 5 rfl
  have cS := hO.cell 6 rfl 4 hsu
  have ba := hO.lt 6 rfl
  have bb := hO.free 6 rfl
  have cl : Base.plainAt wr (cs) = true := hO.plain 8 rfl
  have bU := hO.cell 8 rfl 1 hpar
  have bV := hO.lt 8 rfl
  have bW := hO.free 8 rfl
  obtain ⟨aD, aE, aF, aG, aH, aI, -⟩ := hO.k4 10 rfl
  obtain ⟨aU, aV, aj, ak, aW, aX, -⟩ := hO.k4 11 rfl
  obtain ⟨an, ao, ap, aq, be, bf, bg, bh, ar, au, -⟩ := hO.k8 12 rfl
  have av : wr.cell? ⟨ab, 0, none⟩ = some (vF 267 a0) := hO.cell 13 rfl (0) ((full_at rfl))
  have aw : wr.cell? ⟨ab, 1, none⟩ = some (vI l3) := hO.cell 13 rfl (1) ((full_at rfl))
  have bc : wr.cell? ⟨ab, 2, none⟩ = some (vF 267 ne) := hO.cell 13 rfl (2) ((full_at rfl))
  have bd : wr.cell? ⟨ab, 3, none⟩ = some (vI l3) := hO.cell 13 rfl (3) ((full_at rfl))
  have cm : wr.cell? ⟨ab, 4, none⟩ = some (vF 271 a2) := hO.cell 13 rfl (4) ((full_at rfl))
  have cn : wr.cell? ⟨ab, 5, none⟩ = some (vI l3) := hO.cell 13 rfl (5) ((full_at rfl))
  have ax := hO.lt 13 rfl
  have ay := hO.free 13 rfl
  obtain ⟨aY, az, bA, bB, bi, aZ, aa, -⟩ := hO.k5 14 rfl
  obtain ⟨ae, af, ag, -⟩ := hO.k1 15 rfl
  have HO := Lib.hid hO
  clear hO
  go_wp2_with (first | (with_reducible refine Own.stay (fn := Tryd.f43) ?_) | (at_builtin; refine Own.appStop ?_) | (first | (go_at_call 51; go_in) | (go_at_call 52; go_in) | (go_at_call 57; go_in)))
  try with_reducible refine Own.Stay.mk ?_
  have hO := HO.out
  clear HO hix9 hax9 bE bG bH bI bJ bK bL bM bN bO bP cg ch ci cj ck ix9 aA aJ aK aL aB aC bj bk bl bm bn bo bp bq br bs bt aO aP bQ bu aQ aR al am aS aT cS ba bb cl bU bV bW aD aE aF aG aH aI aU aV aj ak aW aX an ao ap aq be bf bg bh ar au av aw bc bd cm cn ax ay aY az bA bB bi aZ aa ae af ag
  generalize hW : World.setCell _ _ _ = W22
  have hN : Own w0 W22 [row (cx) 33 #[vI l0, vU src, vU (si : Int), .bool true], row (pb) 252 (PC.setIfInBounds 106 (vS sb2 (n + 1) (n + 1 + c2))), row (sb2) 260 (full symZ (symL (bump ((bump st si) ++ [syk ⟨#[95, 95, 117, 115, 105, 110, 103]⟩ 27]) n)) c2), ((mp, .map (es.push ⟨.string ⟨#[95, 95, 117, 115, 105, 110, 103]⟩, .agg #[vI l3, vU src, vU (n : Int)], k⟩) (k + 1)) : Rw), row (ms) 99 (MC.setIfInBounds 5 (vS gb2 1 (1 + cg2))), row (gb2) 31 (full refZ ([vU src, vU (n : Int)]) cg2), row (pt) 107 QC, ((mu, .map (uA (ubump (ubump ul src (si : Int)) src (n : Int))) (uN (ubump (ubump ul src (si : Int)) src (n : Int)))) : Rw), row (cs) 99 KC, row (tb) 61 (full stmZ (stL (dtL ad lc) (List.range (m + 1))) tc), row (nl) 57 #[vS nd 1 1, v8 2, bF, bF], row (nd) 54 #[vF 134 ni, vI l3, vF 261 ca, vI l3], row (ca) 266 #[vF 267 b, vI l3, vS ab 3 (3 + ac), vI 0, v8 0, v8 0, bF, bF], row (ab) 52 (full expZ [vF 267 a0, vI l3, vF 267 ne, vI l3, vF 271 a2, vI l3] ac), row (a0) 270 #[vU src, vU (si : Int), bF, bF, bF], row (a2) 274 #[.bool true]] X := by
   rw [← hW]
   exact (hO).set 10 rfl 1 _
  clear hW hO
  have hO := hN
  clear hN
  go_roundg m
  case measure => omega
  case rel => exact Or.inr ⟨1, by omega, by omega, rfl, ca, b, sb2, c2, gb2, cg2, a0, ab, a2, ac, hO.sub [0, 1, 2, 3, 4, 5, 6, 7, 8, 9, 10, 11, 12, 13, 14, 15] dc⟩
 have hi9 : (i : Int) ≤ 4097 := by omega
 have hi8 : (0 : Int) ≤ (i : Int) := by omega
 by_cases hlt : i < m + 1
 ·skip
  obtain ⟨gq, rfl⟩ : ∃ gq, gk = gq + 1 := ⟨gk - 1, by omega⟩
  have hlt9 : (i : Int) < (m : Int) + 1 := by omega
  have ha0 : (List.range (m + 1))[i]? = some i := by simp [hlt]
  have hc0 : (stL (dtL ad lc) (List.range (m + 1)))[i * 2]? = some (.iface 42 (.pointer (some ⟨ad i, 0, none⟩))) := stL_at0 (D := dtL ad lc) ha0
  have hc1 : (stL (dtL ad lc) (List.range (m + 1)))[i * 2 + 1]? = some (vI (lc i)) := stL_at1 (D := dtL ad lc) ha0
  clear ha0
  have hlx := HLC.out i hi0 hlt
  obtain ⟨ix9, hix9, hax9, hjx9⟩ := hO.ix
  have bE := hjx9 0 _ _ rfl
  have bG := hjx9 1 _ _ rfl
  have bH := hjx9 2 _ _ rfl
  have bI := hjx9 3 _ _ rfl
  have bJ := hjx9 4 _ _ rfl
  have bK := hjx9 5 _ _ rfl
  have bL := hjx9 6 _ _ rfl
  have bM := hjx9 7 _ _ rfl
  have bN := hjx9 8 _ _ rfl
  have bO := hjx9 9 _ _ rfl
  have bP := hjx9 10 _ _ rfl
  have cg := hjx9 11 _ _ rfl
  have ch := hjx9 12 _ _ rfl
  have ci := hjx9 13 _ _ rfl
  have cj := hjx9 14 _ _ rfl
  have ck := hjx9 15 _ _ rfl
  clear hjx9
  obtain ⟨aA, aJ, aK, aL, aB, aC, -⟩ := hO.k4 0 rfl
  have bQ : Base.plainAt wr (ms) = true := hO.plain 4 rfl
  have al : wr.cell? ⟨gb2, 0, none⟩ = some (vU src) := hO.cell 5 rfl (0) ((full_at rfl))
  have am : wr.cell? ⟨gb2, 1, none⟩ = some (vU (n : Int)) := hO.cell 5 rfl (1) ((full_at rfl))
  have aS := hO.lt 5 rfl
  have aT := hO.free 5 rfl
  have cl : Base.plainAt wr (cs) = true := hO.plain 8 rfl
  have dN : wr.cell? ⟨tb, i * 2, none⟩ = some (.iface 42 (.pointer (some ⟨ad i, 0, none⟩))) := hO.cell 9 rfl (i * 2) ((full_at hc0))
  have dO : wr.cell? ⟨tb, i * 2 + 1, none⟩ = some (vI (lc i)) := hO.cell 9 rfl (i * 2 + 1) ((full_at hc1))
  have aM := hO.lt 9 rfl
  have aN := hO.free 9 rfl
  obtain ⟨aD, aE, aF, aG, aH, aI, -⟩ := hO.k4 10 rfl
  obtain ⟨aU, aV, aj, ak, aW, aX, -⟩ := hO.k4 11 rfl
  obtain ⟨an, ao, ap, aq, be, bf, bg, bh, ar, au, -⟩ := hO.k8 12 rfl
  have av : wr.cell? ⟨ab, 0, none⟩ = some (vF 267 a0) := hO.cell 13 rfl (0) ((full_at rfl))
  have aw : wr.cell? ⟨ab, 1, none⟩ = some (vI l3) := hO.cell 13 rfl (1) ((full_at rfl))
  have bc : wr.cell? ⟨ab, 2, none⟩ = some (vF 267 ne) := hO.cell 13 rfl (2) ((full_at rfl))
  have bd : wr.cell? ⟨ab, 3, none⟩ = some (vI l3) := hO.cell 13 rfl (3) ((full_at rfl))
  have cm : wr.cell? ⟨ab, 4, none⟩ = some (vF 271 a2) := hO.cell 13 rfl (4) ((full_at rfl))
  have cn : wr.cell? ⟨ab, 5, none⟩ = some (vI l3) := hO.cell 13 rfl (5) ((full_at rfl))
  have ax := hO.lt 13 rfl
  have ay := hO.free 13 rfl
  obtain ⟨aY, az, bA, bB, bi, aZ, aa, -⟩ := hO.k5 14 rfl
  obtain ⟨ae, af, ag, -⟩ := hO.k1 15 rfl
  have HO := Lib.hid hO
  clear hO
  have fx0 : wr.cell? ⟨ad i, 1, none⟩ = some (v8 0) := Base.RowAt.cell (show Base.RowAt wr (ad i) 57 #[vN, v8 0, bF, bF] from (HO.out.frame _ _ hlx).2.1) rfl
  have fx1 : ad i < wr.heap.size := Base.block_of_cell fx0
  go_wp2_with (first | (with_reducible refine Own.stay (fn := Tryd.f43) ?_) | (at_builtin; refine Own.appStop ?_) | (first | (go_at_call 51; go_in) | (go_at_call 52; go_in) | (go_at_call 57; go_in)))
  try with_reducible refine Own.Stay.mk ?_
  have hO := HO.out
  clear HO hix9 hax9 bE bG bH bI bJ bK bL bM bN bO bP cg ch ci cj ck ix9 fx0 fx1 aA aJ aK aL aB aC bQ al am aS aT cl dN dO aM aN aD aE aF aG aH aI aU aV aj ak aW aX an ao ap aq be bf bg bh ar au av aw bc bd cm cn ax ay aY az bA bB bi aZ aa ae af ag
  generalize hW : World.alloc _ _ = W24
  have hN : Own w0 W24 [row (wr.heap.size) 61 #[.iface 42 (.pointer (some ⟨ad i, 0, none⟩)), vI (lc i)], row (cx) 33 #[vI l0, vU src, vU (si : Int), .bool true], row (pb) 252 (PC.setIfInBounds 106 (vS sb2 (n + 1) (n + 1 + c2))), row (sb2) 260 (full symZ (symL (bump ((bump st si) ++ [syk ⟨#[95, 95, 117, 115, 105, 110, 103]⟩ 27]) n)) c2), ((mp, .map (es.push ⟨.string ⟨#[95, 95, 117, 115, 105, 110, 103]⟩, .agg #[vI l3, vU src, vU (n : Int)], k⟩) (k + 1)) : Rw), row (ms) 99 (MC.setIfInBounds 5 (vS gb2 1 (1 + cg2))), row (gb2) 31 (full refZ ([vU src, vU (n : Int)]) cg2), row (pt) 107 QC, ((mu, .map (uA (ubump (ubump ul src (si : Int)) src (n : Int))) (uN (ubump (ubump ul src (si : Int)) src (n : Int)))) : Rw), row (cs) 99 KC, row (tb) 61 (full stmZ (stL (dtL ad lc) (List.range (m + 1))) tc), row (nl) 57 #[vS nd 1 1, v8 2, bF, bF], row (nd) 54 #[vF 134 ni, vI l3, vF 261 ca, vI l3], row (ca) 266 #[vF 267 b, vI l3, vS ab 3 (3 + ac), vI 0, v8 0, v8 0, bF, bF], row (ab) 52 (full expZ [vF 267 a0, vI l3, vF 267 ne, vI l3, vF 271 a2, vI l3] ac), row (a0) 270 #[vU src, vU (si : Int), bF, bF, bF], row (a2) 274 #[.bool true]] X := by
   rw [← hW]
   exact (hO).alloc' _ (wr.heap.size) (by simp)
  clear hW hO
  generalize wr.heap.size = B23 at hN ⊢
  have hO := hN
  clear hN
  go_roundg gq
  case measure => omega
  case rel => exact Or.inr ⟨i + 1, by omega, by omega, by first | rfl | simp, ca, b, sb2, c2, gb2, cg2, a0, ab, a2, ac, hO.sub [1, 2, 3, 4, 5, 6, 7, 8, 9, 10, 11, 12, 13, 14, 15, 16] dc⟩
 obtain rfl : i = m + 1 := by omega
 have hlt9 : ¬ (m : Int) + 1 < (m : Int) + 1 := by omega
 obtain ⟨aA, aJ, aK, aL, aB, aC, -⟩ := hO.k4 0 rfl
 obtain ⟨aD, aE, aF, aG, aH, aI, -⟩ := hO.k4 10 rfl
 obtain ⟨aU, aV, aj, ak, aW, aX, -⟩ := hO.k4 11 rfl
 obtain ⟨an, ao, ap, aq, be, bf, bg, bh, ar, au, -⟩ := hO.k8 12 rfl
 obtain ⟨aY, az, bA, bB, bi, aZ, aa, -⟩ := hO.k5 14 rfl
 obtain ⟨ae, af, ag, -⟩ := hO.k1 15 rfl
 have HO := Lib.hid hO
 clear hO
 go_wp2_with (first | (with_reducible refine Own.stay (fn := Tryd.f43) ?_) | (at_builtin; refine Own.appStop ?_) | (first | (go_at_call 51; go_in) | (go_at_call 52; go_in) | (go_at_call 57; go_in)))
 try with_reducible refine Own.Stay.mk ?_
 have hO := HO.out
 clear HO aA aJ aK aL aB aC aD aE aF aG aH aI aU aV aj ak aW aX an ao ap aq be bf bg bh ar au aY az bA bB bi aZ aa ae af ag
 refine bodyPost_ret (v := .tuple #[]) ?_ rfl ⟨ca, b, sb2, c2, gb2, cg2, a0, ab, a2, ac, rfl, hO.sub [0, 1, 2, 3, 4, 5, 6, 7, 8, 9, 10, 11, 12, 13, 14, 15] dc⟩
 simp [results, Tryd.results43, go_sem]
end Go.Proofs.YtikopplofkemlaaDoor.Use
