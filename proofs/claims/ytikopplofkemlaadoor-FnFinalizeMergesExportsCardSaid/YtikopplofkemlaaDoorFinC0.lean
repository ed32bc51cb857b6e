/- finalize's first part, up to its await. No condition. -/
import Derived.Test.YtikopplofkemlaaDoorGnc
import Derived.Test.YtikopplofkemlaaDoorImp0
import Derived.Test.YtikopplofkemlaaDoorFnc
namespace Go.Proofs.YtikopplofkemlaaDoor.Use
open Go.ChangeShapes Go.WideShapes Go.ChangeAt Go.RowKit Go.Sort Own
set_option linter.unusedVariables false
noncomputable def rfinC0b1E (n : Nat) (src : Int) (cs : Nat) (KC : Array Value) (cx : Nat) (loc : Int) (si : Nat) (awb : Bool) (B4 : Nat) (B9 : Nat) (B14 : Nat) : Nat → Rega.Atoms → Value
 | 0, α => vP cs
 | 1, α => vP cs
 | 2, α => vP cs
 | 3, α => .pointer (some ⟨cs, 5, none⟩)
 | 4, α => vN
 | 5, α => vP cx
 | 6, α => vP cx
 | 7, α => .pointer (some ⟨cx, 1, none⟩)
 | 8, α => .agg #[vU src, vU (si : Int)]
 | 9, α => .agg #[vU src, vU (n : Int)]
 | 10, α => .agg #[vU src, vU ((n : Int) + 1)]
 | 11, α => .agg #[vU src, vU ((n : Int) + 1 + 1)]
 | 12, α => vS (α 12) 4 4
 | 13, α => vS (α 13) 4 (4 + α 1013)
 | 14, α => vP cs
 | 15, α => .pointer (some ⟨cs, 5, none⟩)
 | 16, α => undef
 | _, _ => undef
noncomputable def rfinC0b1Anc : Nat → List Nat
 | 2 => [1]
 | 3 => [1, 2]
 | 4 => [1, 2, 3]
 | 6 => [5]
 | 7 => [5, 6]
 | 8 => [5, 6, 7]
 | 12 => [5, 6, 7, 8, 9, 10, 11]
 | 13 => [1, 2, 3, 4, 5, 6, 7, 8, 9, 10, 11, 12]
 | 14 => [0, 1, 2, 3, 4, 5, 6, 7, 8, 9, 10, 11, 12, 13]
 | 15 => [0, 1, 2, 3, 4, 5, 6, 7, 8, 9, 10, 11, 12, 13, 14]
 | 16 => [0, 1, 2, 3, 4, 5, 6, 7, 8, 9, 10, 11, 12, 13, 14, 15]
 | _ => []
noncomputable def rfinC0b1Trn : Nat → List Nat
 | 16 => [4999]
 | _ => []
noncomputable def rfinC0b1Cnt : List (Nat × Nat) := [(12, 1), (13, 1)]
noncomputable def rfinC0b1T4999 (n : Nat) (src : Int) (cs : Nat) (KC : Array Value) (cx : Nat) (loc : Int) (si : Nat) (awb : Bool) (B4 : Nat) (B9 : Nat) (B14 : Nat) (L9 : Nat → Bool) (α : Rega.Atoms) : Rw := if L9 16 = true then row (cs) 99 (KC.setIfInBounds 5 (vS (α 13) 4 (4 + α 1013))) else row (cs) 99 KC
noncomputable def rfinC0b1R (n : Nat) (src : Int) (cs : Nat) (KC : Array Value) (cx : Nat) (loc : Int) (si : Nat) (awb : Bool) (B4 : Nat) (B9 : Nat) (B14 : Nat) (L9 : Nat → Bool) (α : Rega.Atoms) (ix9 : Nat) : Rw := if ix9 = 999 then row (B14) 31 #[vU src, vU ((n : Int) + 1 + 1)] else if ix9 = 1999 then row (B9) 31 #[vU src, vU ((n : Int) + 1)] else if ix9 = 2999 then row (B4) 31 #[vU src, vU (n : Int)] else if ix9 = 3999 then row (cx) 33 #[vI loc, vU src, vU (si : Int), .bool awb] else if ix9 = 4999 then rfinC0b1T4999 n src cs KC cx loc si awb B4 B9 B14 L9 α else if ix9 = 12 then row (α 12) 31 #[vU src, vU (si : Int), vU src, vU (n : Int), vU src, vU ((n : Int) + 1), vU src, vU ((n : Int) + 1 + 1)] else if ix9 = 13 then row (α 13) 31 (full refZ [vU src, vU (si : Int), vU src, vU (n : Int), vU src, vU ((n : Int) + 1), vU src, vU ((n : Int) + 1 + 1)] (α 1013)) else (0, .map #[] 0)
theorem rfinC0b1_he (n : Nat) (src : Int) (cs : Nat) (KC : Array Value) (cx : Nat) (loc : Int) (si : Nat) (awb : Bool) (B4 : Nat) (B9 : Nat) (B14 : Nat) : ∀ kk α α', (∀ j, (j % 1000 = kk ∨ j % 1000 ∈ rfinC0b1Anc kk) → α j = α' j) → rfinC0b1E n src cs KC cx loc si awb B4 B9 B14 kk α = rfinC0b1E n src cs KC cx loc si awb B4 B9 B14 kk α' := by
 intro kk α α' h
 match kk with
 | 0 => rfl
 | 1 => rfl
 | 2 => rfl
 | 3 => rfl
 | 4 => rfl
 | 5 => rfl
 | 6 => rfl
 | 7 => rfl
 | 8 => rfl
 | 9 => rfl
 | 10 => rfl
 | 11 => rfl
 | 12 => simp only [rfinC0b1E, h 12 (Or.inl rfl)]
 | 13 => simp only [rfinC0b1E, h 13 (Or.inl rfl), h 1013 (Or.inl rfl)]
 | 14 => rfl
 | 15 => rfl
 | 16 => rfl
 | n + 17 => rfl
theorem rfinC0b1_st (n : Nat) (src : Int) (cs : Nat) (KC : Array Value) (cx : Nat) (loc : Int) (si : Nat) (awb : Bool) (B4 : Nat) (B9 : Nat) (B14 : Nat) : Stable rfinC0b1Cnt 5 rfinC0b1Anc rfinC0b1Trn (rfinC0b1R n src cs KC cx loc si awb B4 B9 B14) := by
 intro k9 L9 α α' ix9 hk hcl hα hact ht
 have hp := act_places hact
 replace hp : ix9 ∈ [999, 1999, 2999, 3999, 4999, 12, 13] := hp
 simp only [List.mem_cons, List.not_mem_nil, or_false] at hp
 rcases hp with rfl | rfl | rfl | rfl | rfl | rfl | rfl
 ·rfl
 ·rfl
 ·rfl
 ·rfl
 ·show rfinC0b1T4999 n src cs KC cx loc si awb B4 B9 B14 (Rega.ran L9 k9) α' = rfinC0b1T4999 n src cs KC cx loc si awb B4 B9 B14 L9 α
  unfold rfinC0b1T4999
  have n16 : 16 ≠ k9 := fun e => ht (by rw [← e]; decide)
  rw [ran_ne n16]
  by_cases e16 : L9 16 = true
  ·first | rw [if_pos e16, if_pos e16] | rw [if_pos e16]
   try simp only [hα 13 (ne_ran hk (hcl 16 e16 13 dc)), hα 1013 (ne_ran hk (hcl 16 e16 13 dc))]
  first | rw [if_neg e16, if_neg e16] | rw [if_neg e16]
 ·have e0 : L9 12 = true := act_lt hact dc
  show row (α' 12) 31 #[vU src, vU (si : Int), vU src, vU (n : Int), vU src, vU ((n : Int) + 1), vU src, vU ((n : Int) + 1 + 1)] = row (α 12) 31 #[vU src, vU (si : Int), vU src, vU (n : Int), vU src, vU ((n : Int) + 1), vU src, vU ((n : Int) + 1 + 1)]
  simp only [hα 12 (ne_ran hk e0)]
 ·have e0 : L9 13 = true := act_lt hact dc
  show row (α' 13) 31 (full refZ [vU src, vU (si : Int), vU src, vU (n : Int), vU src, vU ((n : Int) + 1), vU src, vU ((n : Int) + 1 + 1)] (α' 1013)) = row (α 13) 31 (full refZ [vU src, vU (si : Int), vU src, vU (n : Int), vU src, vU ((n : Int) + 1), vU src, vU ((n : Int) + 1 + 1)] (α 1013))
  simp only [hα 13 (ne_ran hk e0), hα 1013 (ne_ran hk e0)]
noncomputable def rfinC0b2E (pb : Nat) (n : Nat) (src : Int) (pt : Nat) (QC : Array Value) (cx : Nat) (x5 : Nat) (loc : Int) (si : Nat) (awb : Bool) (B4 : Nat) (B9 : Nat) (B14 : Nat) (PC1 : Array Value) : Nat → Rega.Atoms → Value
 | 0, α => vP pb
 | 1, α => vP pb
 | 2, α => .pointer (some ⟨pb, 105, none⟩)
 | 3, α => vP pt
 | 4, α => vP pb
 | 5, α => vP pb
 | 6, α => .pointer (some ⟨pb, 105, none⟩)
 | 7, α => vP pt
 | 8, α => vP pt
 | 9, α => .pointer (some ⟨pt, 3, none⟩)
 | 10, α => vN
 | 11, α => bF
 | 12, α => vP cx
 | 13, α => vP cx
 | 14, α => .pointer (some ⟨cx, 1, none⟩)
 | 15, α => .agg #[vU src, vU (si : Int)]
 | 16, α => .agg #[vU src, vU (si : Int), bF]
 | 17, α => bF
 | 18, α => .agg #[vU src, vU (n : Int)]
 | 19, α => .agg #[vU src, vU (n : Int), bF]
 | 20, α => bF
 | 21, α => .agg #[vU src, vU ((n : Int) + 1)]
 | 22, α => .agg #[vU src, vU ((n : Int) + 1), bF]
 | 23, α => bF
 | 24, α => .agg #[vU src, vU ((n : Int) + 1 + 1)]
 | 25, α => .agg #[vU src, vU ((n : Int) + 1 + 1), bF]
 | 26, α => vS (α 26) 4 4
 | 27, α => vS (α 27) 4 (4 + α 1027)
 | 28, α => vP pt
 | 29, α => .pointer (some ⟨pt, 3, none⟩)
 | 30, α => undef
 | _, _ => undef
noncomputable def rfinC0b2Anc : Nat → List Nat
 | 1 => [0]
 | 2 => [0, 1]
 | 3 => [0, 1, 2]
 | 5 => [4]
 | 6 => [4, 5]
 | 7 => [4, 5, 6]
 | 8 => [4, 5, 6, 7]
 | 9 => [4, 5, 6, 7, 8]
 | 10 => [4, 5, 6, 7, 8, 9]
 | 13 => [12]
 | 14 => [12, 13]
 | 15 => [12, 13, 14]
 | 16 => [11, 12, 13, 14, 15]
 | 19 => [17, 18]
 | 22 => [20, 21]
 | 25 => [23, 24]
 | 26 => [11, 12, 13, 14, 15, 16, 17, 18, 19, 20, 21, 22, 23, 24, 25]
 | 27 => [4, 5, 6, 7, 8, 9, 10, 11, 12, 13, 14, 15, 16, 17, 18, 19, 20, 21, 22, 23, 24, 25, 26]
 | 28 => [0, 1, 2, 3, 4, 5, 6, 7, 8, 9, 10, 11, 12, 13, 14, 15, 16, 17, 18, 19, 20, 21, 22, 23, 24, 25, 26, 27]
 | 29 => [0, 1, 2, 3, 4, 5, 6, 7, 8, 9, 10, 11, 12, 13, 14, 15, 16, 17, 18, 19, 20, 21, 22, 23, 24, 25, 26, 27, 28]
 | 30 => [0, 1, 2, 3, 4, 5, 6, 7, 8, 9, 10, 11, 12, 13, 14, 15, 16, 17, 18, 19, 20, 21, 22, 23, 24, 25, 26, 27, 28, 29]
 | _ => []
noncomputable def rfinC0b2Trn : Nat → List Nat
 | 30 => [6999]
 | _ => []
noncomputable def rfinC0b2Cnt : List (Nat × Nat) := [(26, 1), (27, 1)]
noncomputable def rfinC0b2T6999 (pb : Nat) (n : Nat) (src : Int) (pt : Nat) (QC : Array Value) (cx : Nat) (x5 : Nat) (loc : Int) (si : Nat) (awb : Bool) (B4 : Nat) (B9 : Nat) (B14 : Nat) (PC1 : Array Value) (L9 : Nat → Bool) (α : Rega.Atoms) : Rw := if L9 30 = true then row (pt) 107 (QC.setIfInBounds 3 (vS (α 27) 4 (4 + α 1027))) else row (pt) 107 QC
noncomputable def rfinC0b2R (pb : Nat) (n : Nat) (src : Int) (pt : Nat) (QC : Array Value) (cx : Nat) (x5 : Nat) (loc : Int) (si : Nat) (awb : Bool) (B4 : Nat) (B9 : Nat) (B14 : Nat) (PC1 : Array Value) (L9 : Nat → Bool) (α : Rega.Atoms) (ix9 : Nat) : Rw := if ix9 = 999 then row (B14) 31 #[vU src, vU ((n : Int) + 1 + 1)] else if ix9 = 1999 then row (B9) 31 #[vU src, vU ((n : Int) + 1)] else if ix9 = 2999 then row (B4) 31 #[vU src, vU (n : Int)] else if ix9 = 3999 then row (cx) 33 #[vI loc, vU src, vU (si : Int), .bool awb] else if ix9 = 4999 then row (pb) 252 PC1 else if ix9 = 5999 then row (x5) 25 #[vP pb] else if ix9 = 6999 then rfinC0b2T6999 pb n src pt QC cx x5 loc si awb B4 B9 B14 PC1 L9 α else if ix9 = 26 then row (α 26) 113 #[vU src, vU (si : Int), bF, vU src, vU (n : Int), bF, vU src, vU ((n : Int) + 1), bF, vU src, vU ((n : Int) + 1 + 1), bF] else if ix9 = 27 then row (α 27) 113 (full dsyZ [vU src, vU (si : Int), bF, vU src, vU (n : Int), bF, vU src, vU ((n : Int) + 1), bF, vU src, vU ((n : Int) + 1 + 1), bF] (α 1027)) else (0, .map #[] 0)
theorem rfinC0b2_he (pb : Nat) (n : Nat) (src : Int) (pt : Nat) (QC : Array Value) (cx : Nat) (x5 : Nat) (loc : Int) (si : Nat) (awb : Bool) (B4 : Nat) (B9 : Nat) (B14 : Nat) (PC1 : Array Value) : ∀ kk α α', (∀ j, (j % 1000 = kk ∨ j % 1000 ∈ rfinC0b2Anc kk) → α j = α' j) → rfinC0b2E pb n src pt QC cx x5 loc si awb B4 B9 B14 PC1 kk α = rfinC0b2E pb n src pt QC cx x5 loc si awb B4 B9 B14 PC1 kk α' := by
 intro kk α α' h
 match kk with
 | 0 => rfl
 | 1 => rfl
 | 2 => rfl
 | 3 => rfl
 | 4 => rfl
 | 5 => rfl
 | 6 => rfl
 | 7 => rfl
 | 8 => rfl
 | 9 => rfl
 | 10 => rfl
 | 11 => rfl
 | 12 => rfl
 | 13 => rfl
 | 14 => rfl
 | 15 => rfl
 | 16 => rfl
 | 17 => rfl
 | 18 => rfl
 | 19 => rfl
 | 20 => rfl
 | 21 => rfl
 | 22 => rfl
 | 23 => rfl
 | 24 => rfl
 | 25 => rfl
 | 26 => simp only [rfinC0b2E, h 26 (Or.inl rfl)]
 | 27 => simp only [rfinC0b2E, h 27 (Or.inl rfl), h 1027 (Or.inl rfl)]
 | 28 => rfl
 | 29 => rfl
 | 30 => rfl
 | n + 31 => rfl
theorem rfinC0b2_st (pb : Nat) (n : Nat) (src : Int) (pt : Nat) (QC : Array Value) (cx : Nat) (x5 : Nat) (loc : Int) (si : Nat) (awb : Bool) (B4 : Nat) (B9 : Nat) (B14 : Nat) (PC1 : Array Value) : Stable rfinC0b2Cnt 7 rfinC0b2Anc rfinC0b2Trn (rfinC0b2R pb n src pt QC cx x5 loc si awb B4 B9 B14 PC1) := by
 intro k9 L9 α α' ix9 hk hcl hα hact ht
 have hp := act_places hact
 replace hp : ix9 ∈ [999, 1999, 2999, 3999, 4999, 5999, 6999, 26, 27] := hp
 simp only [List.mem_cons, List.not_mem_nil, or_false] at hp
 rcases hp with rfl | rfl | rfl | rfl | rfl | rfl | rfl | rfl | rfl
 ·rfl
 ·rfl
 ·rfl
 ·rfl
 ·rfl
 ·rfl
 ·show rfinC0b2T6999 pb n src pt QC cx x5 loc si awb B4 B9 B14 PC1 (Rega.ran L9 k9) α' = rfinC0b2T6999 pb n src pt QC cx x5 loc si awb B4 B9 B14 PC1 L9 α
  unfold rfinC0b2T6999
  have n30 : 30 ≠ k9 := fun e => ht (by rw [← e]; decide)
  rw [ran_ne n30]
  by_cases e30 : L9 30 = true
  ·first | rw [if_pos e30, if_pos e30] | rw [if_pos e30]
   try simp only [hα 27 (ne_ran hk (hcl 30 e30 27 dc)), hα 1027 (ne_ran hk (hcl 30 e30 27 dc))]
  first | rw [if_neg e30, if_neg e30] | rw [if_neg e30]
 ·have e0 : L9 26 = true := act_lt hact dc
  show row (α' 26) 113 #[vU src, vU (si : Int), bF, vU src, vU (n : Int), bF, vU src, vU ((n : Int) + 1), bF, vU src, vU ((n : Int) + 1 + 1), bF] = row (α 26) 113 #[vU src, vU (si : Int), bF, vU src, vU (n : Int), bF, vU src, vU ((n : Int) + 1), bF, vU src, vU ((n : Int) + 1 + 1), bF]
  simp only [hα 26 (ne_ran hk e0)]
 ·have e0 : L9 27 = true := act_lt hact dc
  show row (α' 27) 113 (full dsyZ [vU src, vU (si : Int), bF, vU src, vU (n : Int), bF, vU src, vU ((n : Int) + 1), bF, vU src, vU ((n : Int) + 1 + 1), bF] (α' 1027)) = row (α 27) 113 (full dsyZ [vU src, vU (si : Int), bF, vU src, vU (n : Int), bF, vU src, vU ((n : Int) + 1), bF, vU src, vU ((n : Int) + 1 + 1), bF] (α 1027))
  simp only [hα 27 (ne_ran hk e0), hα 1027 (ne_ran hk e0)]
noncomputable def rfinC0b3E (pb : Nat) (src : Int) (pt : Nat) (QC : Array Value) (mu : Nat) (ul : List (Int × Int × Int)) (cx : Nat) (x5 : Nat) (loc : Int) (si : Nat) (awb : Bool) (nd12 : Nat) (nd13 : Nat) (PC1 : Array Value) (s3 : List Sy) (nd22 : Nat) (nd23 : Nat) : Nat → Rega.Atoms → Value
 | 0, α => vP pb
 | 1, α => vP cx
 | 2, α => vP cx
 | 3, α => .pointer (some ⟨cx, 1, none⟩)
 | 4, α => .agg #[vU src, vU (si : Int)]
 | 5, α => .tuple #[]
 | _, _ => undef
noncomputable def rfinC0b3Anc : Nat → List Nat
 | 2 => [1]
 | 3 => [1, 2]
 | 4 => [1, 2, 3]
 | 5 => [0, 1, 2, 3, 4]
 | _ => []
noncomputable def rfinC0b3Trn : Nat → List Nat
 | 5 => [4999, 5999]
 | _ => []
noncomputable def rfinC0b3Cnt : List (Nat × Nat) := []
noncomputable def rfinC0b3T4999 (pb : Nat) (src : Int) (pt : Nat) (QC : Array Value) (mu : Nat) (ul : List (Int × Int × Int)) (cx : Nat) (x5 : Nat) (loc : Int) (si : Nat) (awb : Bool) (nd12 : Nat) (nd13 : Nat) (PC1 : Array Value) (s3 : List Sy) (nd22 : Nat) (nd23 : Nat) (L9 : Nat → Bool) (α : Rega.Atoms) : Rw := if L9 5 = true then row (nd12) 260 (full symZ (symL (bump s3 si)) nd13) else row (nd12) 260 (full symZ (symL s3) nd13)
noncomputable def rfinC0b3T5999 (pb : Nat) (src : Int) (pt : Nat) (QC : Array Value) (mu : Nat) (ul : List (Int × Int × Int)) (cx : Nat) (x5 : Nat) (loc : Int) (si : Nat) (awb : Bool) (nd12 : Nat) (nd13 : Nat) (PC1 : Array Value) (s3 : List Sy) (nd22 : Nat) (nd23 : Nat) (L9 : Nat → Bool) (α : Rega.Atoms) : Rw := if L9 5 = true then ((mu, .map (uA (ubump ul src (si : Int))) (uN (ubump ul src (si : Int)))) : Rw) else ((mu, .map (uA ul) (uN ul)) : Rw)
noncomputable def rfinC0b3R (pb : Nat) (src : Int) (pt : Nat) (QC : Array Value) (mu : Nat) (ul : List (Int × Int × Int)) (cx : Nat) (x5 : Nat) (loc : Int) (si : Nat) (awb : Bool) (nd12 : Nat) (nd13 : Nat) (PC1 : Array Value) (s3 : List Sy) (nd22 : Nat) (nd23 : Nat) (L9 : Nat → Bool) (α : Rega.Atoms) (ix9 : Nat) : Rw := if ix9 = 999 then row (cx) 33 #[vI loc, vU src, vU (si : Int), .bool awb] else if ix9 = 1999 then row (pb) 252 PC1 else if ix9 = 2999 then row (x5) 25 #[vP pb] else if ix9 = 3999 then row (pt) 107 (QC.setIfInBounds 3 (vS nd22 4 (4 + nd23))) else if ix9 = 4999 then rfinC0b3T4999 pb src pt QC mu ul cx x5 loc si awb nd12 nd13 PC1 s3 nd22 nd23 L9 α else if ix9 = 5999 then rfinC0b3T5999 pb src pt QC mu ul cx x5 loc si awb nd12 nd13 PC1 s3 nd22 nd23 L9 α else (0, .map #[] 0)
theorem rfinC0b3_he (pb : Nat) (src : Int) (pt : Nat) (QC : Array Value) (mu : Nat) (ul : List (Int × Int × Int)) (cx : Nat) (x5 : Nat) (loc : Int) (si : Nat) (awb : Bool) (nd12 : Nat) (nd13 : Nat) (PC1 : Array Value) (s3 : List Sy) (nd22 : Nat) (nd23 : Nat) : ∀ kk α α', (∀ j, (j % 1000 = kk ∨ j % 1000 ∈ rfinC0b3Anc kk) → α j = α' j) → rfinC0b3E pb src pt QC mu ul cx x5 loc si awb nd12 nd13 PC1 s3 nd22 nd23 kk α = rfinC0b3E pb src pt QC mu ul cx x5 loc si awb nd12 nd13 PC1 s3 nd22 nd23 kk α' := by
 intro kk α α' h
 match kk with
 | 0 => rfl
 | 1 => rfl
 | 2 => rfl
 | 3 => rfl
 | 4 => rfl
 | 5 => rfl
 | n + 6 => rfl
theorem rfinC0b3_st (pb : Nat) (src : Int) (pt : Nat) (QC : Array Value) (mu : Nat) (ul : List (Int × Int × Int)) (cx : Nat) (x5 : Nat) (loc : Int) (si : Nat) (awb : Bool) (nd12 : Nat) (nd13 : Nat) (PC1 : Array Value) (s3 : List Sy) (nd22 : Nat) (nd23 : Nat) : Stable rfinC0b3Cnt 6 rfinC0b3Anc rfinC0b3Trn (rfinC0b3R pb src pt QC mu ul cx x5 loc si awb nd12 nd13 PC1 s3 nd22 nd23) := by
 intro k9 L9 α α' ix9 hk hcl hα hact ht
 have hp := act_places hact
 replace hp : ix9 ∈ [999, 1999, 2999, 3999, 4999, 5999] := hp
 simp only [List.mem_cons, List.not_mem_nil, or_false] at hp
 rcases hp with rfl | rfl | rfl | rfl | rfl | rfl
 ·rfl
 ·rfl
 ·rfl
 ·rfl
 ·show rfinC0b3T4999 pb src pt QC mu ul cx x5 loc si awb nd12 nd13 PC1 s3 nd22 nd23 (Rega.ran L9 k9) α' = rfinC0b3T4999 pb src pt QC mu ul cx x5 loc si awb nd12 nd13 PC1 s3 nd22 nd23 L9 α
  unfold rfinC0b3T4999
  have n5 : 5 ≠ k9 := fun e => ht (by rw [← e]; decide)
  rw [ran_ne n5]
 ·show rfinC0b3T5999 pb src pt QC mu ul cx x5 loc si awb nd12 nd13 PC1 s3 nd22 nd23 (Rega.ran L9 k9) α' = rfinC0b3T5999 pb src pt QC mu ul cx x5 loc si awb nd12 nd13 PC1 s3 nd22 nd23 L9 α
  unfold rfinC0b3T5999
  have n5 : 5 ≠ k9 := fun e => ht (by rw [← e]; decide)
  rw [ran_ne n5]
noncomputable def rfinC0b6E (pb : Nat) (n : Nat) (src : Int) (mp : Nat) (es : Array MapEntry) (k : Nat) (ms : Nat) (MC : Array Value) (pt : Nat) (QC : Array Value) (mu : Nat) (ul : List (Int × Int × Int)) (cx : Nat) (x5 : Nat) (loc : Int) (si : Nat) (awb : Bool) (B9 : Nat) (nd12 : Nat) (nd13 : Nat) (B14 : Nat) (PC1 : Array Value) (s3 : List Sy) (nd22 : Nat) (nd23 : Nat) (B24 : Nat) : Nat → Rega.Atoms → Value
 | 0, α => vP pb
 | 1, α => .agg #[vI loc]
 | 2, α => .agg #[vI loc]
 | 3, α => vP cx
 | 4, α => vP cx
 | 5, α => .pointer (some ⟨cx, 1, none⟩)
 | 6, α => .agg #[vU src, vU (si : Int)]
 | 7, α => .agg #[vU src, vU (si : Int), bF, bF, bF]
 | 8, α => vP (α 8)
 | 9, α => vF 267 (α 8)
 | 10, α => .agg #[vF 267 (α 8), vI loc]
 | 11, α => .agg #[vI loc]
 | 12, α => .agg #[vU src, vU ((n : Int) + 1)]
 | 13, α => .agg #[vU src, vU ((n : Int) + 1), bF, bF, bF]
 | 14, α => vP (α 14)
 | 15, α => vF 267 (α 14)
 | 16, α => .agg #[vF 267 (α 14), vI loc]
 | 17, α => .agg #[vI loc]
 | 18, α => .agg #[vU src, vU ((n : Int) + 1 + 1)]
 | 19, α => .agg #[vU src, vU ((n : Int) + 1 + 1), bF, bF, bF]
 | 20, α => vP (α 20)
 | 21, α => vF 267 (α 20)
 | 22, α => .agg #[vF 267 (α 20), vI loc]
 | 23, α => vS (α 23) 3 3
 | 24, α => .agg #[vF 261 (α 24), vI loc]
 | 25, α => vP (α 25)
 | 26, α => undef
 | _, _ => undef
noncomputable def rfinC0b6Anc : Nat → List Nat
 | 4 => [3]
 | 5 => [3, 4]
 | 6 => [3, 4, 5]
 | 7 => [3, 4, 5, 6]
 | 8 => [3, 4, 5, 6, 7]
 | 9 => [3, 4, 5, 6, 7, 8]
 | 10 => [2, 3, 4, 5, 6, 7, 8, 9]
 | 13 => [12]
 | 14 => [12, 13]
 | 15 => [12, 13, 14]
 | 16 => [11, 12, 13, 14, 15]
 | 19 => [18]
 | 20 => [18, 19]
 | 21 => [18, 19, 20]
 | 22 => [17, 18, 19, 20, 21]
 | 23 => [2, 3, 4, 5, 6, 7, 8, 9, 10, 11, 12, 13, 14, 15, 16, 17, 18, 19, 20, 21, 22]
 | 24 => [0, 1, 2, 3, 4, 5, 6, 7, 8, 9, 10, 11, 12, 13, 14, 15, 16, 17, 18, 19, 20, 21, 22, 23]
 | 26 => [0, 1, 2, 3, 4, 5, 6, 7, 8, 9, 10, 11, 12, 13, 14, 15, 16, 17, 18, 19, 20, 21, 22, 23, 24, 25]
 | _ => []
noncomputable def rfinC0b6Trn : Nat → List Nat
 | 24 => [999, 1999, 9999, 10999, 3999]
 | 26 => [25]
 | _ => []
noncomputable def rfinC0b6Cnt : List (Nat × Nat) := [(8, 1), (14, 1), (20, 1), (23, 1), (24, 3), (25, 1)]
noncomputable def rfinC0b6T999 (pb : Nat) (n : Nat) (src : Int) (mp : Nat) (es : Array MapEntry) (k : Nat) (ms : Nat) (MC : Array Value) (pt : Nat) (QC : Array Value) (mu : Nat) (ul : List (Int × Int × Int)) (cx : Nat) (x5 : Nat) (loc : Int) (si : Nat) (awb : Bool) (B9 : Nat) (nd12 : Nat) (nd13 : Nat) (B14 : Nat) (PC1 : Array Value) (s3 : List Sy) (nd22 : Nat) (nd23 : Nat) (B24 : Nat) (L9 : Nat → Bool) (α : Rega.Atoms) : Rw := if L9 24 = true then row (pb) 252 (PC1.setIfInBounds 106 (vS (α 3024) ((((n + 1) + 1) + 1) + 1) ((((n + 1) + 1) + 1) + 1 + (α 4024)))) else row (pb) 252 PC1
noncomputable def rfinC0b6T1999 (pb : Nat) (n : Nat) (src : Int) (mp : Nat) (es : Array MapEntry) (k : Nat) (ms : Nat) (MC : Array Value) (pt : Nat) (QC : Array Value) (mu : Nat) (ul : List (Int × Int × Int)) (cx : Nat) (x5 : Nat) (loc : Int) (si : Nat) (awb : Bool) (B9 : Nat) (nd12 : Nat) (nd13 : Nat) (B14 : Nat) (PC1 : Array Value) (s3 : List Sy) (nd22 : Nat) (nd23 : Nat) (B24 : Nat) (L9 : Nat → Bool) (α : Rega.Atoms) : Rw := if L9 24 = true then row (α 3024) 260 (full symZ (symL (bump ((bump (bump (bump s3 si) (n + 1)) ((n + 1) + 1)) ++ [syk ⟨#[95, 95, 99, 97, 108, 108, 68, 105, 115, 112, 111, 115, 101]⟩ 27]) (((n + 1) + 1) + 1))) (α 4024)) else row (nd12) 260 (full symZ (symL (bump (bump (bump s3 si) (n + 1)) (n + 1 + 1))) nd13)
noncomputable def rfinC0b6T3999 (pb : Nat) (n : Nat) (src : Int) (mp : Nat) (es : Array MapEntry) (k : Nat) (ms : Nat) (MC : Array Value) (pt : Nat) (QC : Array Value) (mu : Nat) (ul : List (Int × Int × Int)) (cx : Nat) (x5 : Nat) (loc : Int) (si : Nat) (awb : Bool) (B9 : Nat) (nd12 : Nat) (nd13 : Nat) (B14 : Nat) (PC1 : Array Value) (s3 : List Sy) (nd22 : Nat) (nd23 : Nat) (B24 : Nat) (L9 : Nat → Bool) (α : Rega.Atoms) : Rw := if L9 24 = true then ((mu, .map (uA (ubump (ubump (ubump (ubump ul src (si : Int)) src ((n + 1) : Int)) src (((n + 1) + 1) : Int)) src ((((n + 1) + 1) + 1) : Int))) (uN (ubump (ubump (ubump (ubump ul src (si : Int)) src ((n + 1) : Int)) src (((n + 1) + 1) : Int)) src ((((n + 1) + 1) + 1) : Int)))) : Rw) else ((mu, .map (uA (ubump (ubump (ubump ul src (si : Int)) src ((n + 1) : Int)) src ((n + 1 + 1) : Int))) (uN (ubump (ubump (ubump ul src (si : Int)) src ((n + 1) : Int)) src ((n + 1 + 1) : Int)))) : Rw)
noncomputable def rfinC0b6T9999 (pb : Nat) (n : Nat) (src : Int) (mp : Nat) (es : Array MapEntry) (k : Nat) (ms : Nat) (MC : Array Value) (pt : Nat) (QC : Array Value) (mu : Nat) (ul : List (Int × Int × Int)) (cx : Nat) (x5 : Nat) (loc : Int) (si : Nat) (awb : Bool) (B9 : Nat) (nd12 : Nat) (nd13 : Nat) (B14 : Nat) (PC1 : Array Value) (s3 : List Sy) (nd22 : Nat) (nd23 : Nat) (B24 : Nat) (L9 : Nat → Bool) (α : Rega.Atoms) : Rw := if L9 24 = true then ((mp, .map (es.push ⟨.string ⟨#[95, 95, 99, 97, 108, 108, 68, 105, 115, 112, 111, 115, 101]⟩, .agg #[vI loc, vU src, vU ((((n + 1) + 1) + 1) : Int)], k⟩) (k + 1)) : Rw) else ((mp, .map es k) : Rw)
noncomputable def rfinC0b6T10999 (pb : Nat) (n : Nat) (src : Int) (mp : Nat) (es : Array MapEntry) (k : Nat) (ms : Nat) (MC : Array Value) (pt : Nat) (QC : Array Value) (mu : Nat) (ul : List (Int × Int × Int)) (cx : Nat) (x5 : Nat) (loc : Int) (si : Nat) (awb : Bool) (B9 : Nat) (nd12 : Nat) (nd13 : Nat) (B14 : Nat) (PC1 : Array Value) (s3 : List Sy) (nd22 : Nat) (nd23 : Nat) (B24 : Nat) (L9 : Nat → Bool) (α : Rega.Atoms) : Rw := if L9 24 = true then row (ms) 99 (MC.setIfInBounds 5 (vS (α 2024) 1 (1 + (α 5024)))) else row (ms) 99 MC
noncomputable def rfinC0b6T25 (pb : Nat) (n : Nat) (src : Int) (mp : Nat) (es : Array MapEntry) (k : Nat) (ms : Nat) (MC : Array Value) (pt : Nat) (QC : Array Value) (mu : Nat) (ul : List (Int × Int × Int)) (cx : Nat) (x5 : Nat) (loc : Int) (si : Nat) (awb : Bool) (B9 : Nat) (nd12 : Nat) (nd13 : Nat) (B14 : Nat) (PC1 : Array Value) (s3 : List Sy) (nd22 : Nat) (nd23 : Nat) (B24 : Nat) (L9 : Nat → Bool) (α : Rega.Atoms) : Rw := if L9 26 = true then row (α 25) 52 #[vF 261 (α 24), vI loc] else row (α 25) 52 #[.nilIface, vI 0]
noncomputable def rfinC0b6R (pb : Nat) (n : Nat) (src : Int) (mp : Nat) (es : Array MapEntry) (k : Nat) (ms : Nat) (MC : Array Value) (pt : Nat) (QC : Array Value) (mu : Nat) (ul : List (Int × Int × Int)) (cx : Nat) (x5 : Nat) (loc : Int) (si : Nat) (awb : Bool) (B9 : Nat) (nd12 : Nat) (nd13 : Nat) (B14 : Nat) (PC1 : Array Value) (s3 : List Sy) (nd22 : Nat) (nd23 : Nat) (B24 : Nat) (L9 : Nat → Bool) (α : Rega.Atoms) (ix9 : Nat) : Rw := if ix9 = 999 then rfinC0b6T999 pb n src mp es k ms MC pt QC mu ul cx x5 loc si awb B9 nd12 nd13 B14 PC1 s3 nd22 nd23 B24 L9 α else if ix9 = 1999 then rfinC0b6T1999 pb n src mp es k ms MC pt QC mu ul cx x5 loc si awb B9 nd12 nd13 B14 PC1 s3 nd22 nd23 B24 L9 α else if ix9 = 2999 then row (pt) 107 (QC.setIfInBounds 3 (vS nd22 4 (4 + nd23))) else if ix9 = 3999 then rfinC0b6T3999 pb n src mp es k ms MC pt QC mu ul cx x5 loc si awb B9 nd12 nd13 B14 PC1 s3 nd22 nd23 B24 L9 α else if ix9 = 4999 then row (cx) 33 #[vI loc, vU src, vU (si : Int), .bool awb] else if ix9 = 5999 then row (x5) 25 #[vP pb] else if ix9 = 6999 then row (B24) 28 #[vI loc] else if ix9 = 7999 then row (B14) 31 #[vU src, vU ((n : Int) + 1 + 1)] else if ix9 = 8999 then row (B9) 31 #[vU src, vU ((n : Int) + 1)] else if ix9 = 9999 then rfinC0b6T9999 pb n src mp es k ms MC pt QC mu ul cx x5 loc si awb B9 nd12 nd13 B14 PC1 s3 nd22 nd23 B24 L9 α else if ix9 = 10999 then rfinC0b6T10999 pb n src mp es k ms MC pt QC mu ul cx x5 loc si awb B9 nd12 nd13 B14 PC1 s3 nd22 nd23 B24 L9 α else if ix9 = 8 then row (α 8) 270 #[vU src, vU (si : Int), bF, bF, bF] else if ix9 = 14 then row (α 14) 270 #[vU src, vU ((n : Int) + 1), bF, bF, bF] else if ix9 = 20 then row (α 20) 270 #[vU src, vU ((n : Int) + 1 + 1), bF, bF, bF] else if ix9 = 23 then row (α 23) 52 #[vF 267 (α 8), vI loc, vF 267 (α 14), vI loc, vF 267 (α 20), vI loc] else if ix9 = 24 then row (α 24) 266 #[vF 267 (α 1024), vI loc, vS (α 23) 3 3, vI 0, v8 0, v8 0, bF, bF] else if ix9 = 1024 then row (α 1024) 270 #[vU src, vU ((((n + 1) + 1) + 1) : Int), bF, bF, bF] else if ix9 = 2024 then row (α 2024) 31 (full refZ ([vU src, vU ((((n + 1) + 1) + 1) : Int)]) (α 5024)) else if ix9 = 25 then rfinC0b6T25 pb n src mp es k ms MC pt QC mu ul cx x5 loc si awb B9 nd12 nd13 B14 PC1 s3 nd22 nd23 B24 L9 α else (0, .map #[] 0)
theorem rfinC0b6_he (pb : Nat) (n : Nat) (src : Int) (mp : Nat) (es : Array MapEntry) (k : Nat) (ms : Nat) (MC : Array Value) (pt : Nat) (QC : Array Value) (mu : Nat) (ul : List (Int × Int × Int)) (cx : Nat) (x5 : Nat) (loc : Int) (si : Nat) (awb : Bool) (B9 : Nat) (nd12 : Nat) (nd13 : Nat) (B14 : Nat) (PC1 : Array Value) (s3 : List Sy) (nd22 : Nat) (nd23 : Nat) (B24 : Nat) : ∀ kk α α', (∀ j, (j % 1000 = kk ∨ j % 1000 ∈ rfinC0b6Anc kk) → α j = α' j) → rfinC0b6E pb n src mp es k ms MC pt QC mu ul cx x5 loc si awb B9 nd12 nd13 B14 PC1 s3 nd22 nd23 B24 kk α = rfinC0b6E pb n src mp es k ms MC pt QC mu ul cx x5 loc si awb B9 nd12 nd13 B14 PC1 s3 nd22 nd23 B24 kk α' := by
 intro kk α α' h
 match kk with
 | 0 => rfl
 | 1 => rfl
 | 2 => rfl
 | 3 => rfl
 | 4 => rfl
 | 5 => rfl
 | 6 => rfl
 | 7 => rfl
 | 8 => simp only [rfinC0b6E, h 8 (Or.inl rfl)]
 | 9 => simp only [rfinC0b6E, h 8 (Or.inr dc)]
 | 10 => simp only [rfinC0b6E, h 8 (Or.inr dc)]
 | 11 => rfl
 | 12 => rfl
 | 13 => rfl
 | 14 => simp only [rfinC0b6E, h 14 (Or.inl rfl)]
 | 15 => simp only [rfinC0b6E, h 14 (Or.inr dc)]
 | 16 => simp only [rfinC0b6E, h 14 (Or.inr dc)]
 | 17 => rfl
 | 18 => rfl
 | 19 => rfl
 | 20 => simp only [rfinC0b6E, h 20 (Or.inl rfl)]
 | 21 => simp only [rfinC0b6E, h 20 (Or.inr dc)]
 | 22 => simp only [rfinC0b6E, h 20 (Or.inr dc)]
 | 23 => simp only [rfinC0b6E, h 23 (Or.inl rfl)]
 | 24 => simp only [rfinC0b6E, h 24 (Or.inl rfl)]
 | 25 => simp only [rfinC0b6E, h 25 (Or.inl rfl)]
 | 26 => rfl
 | n + 27 => rfl
theorem rfinC0b6_st (pb : Nat) (n : Nat) (src : Int) (mp : Nat) (es : Array MapEntry) (k : Nat) (ms : Nat) (MC : Array Value) (pt : Nat) (QC : Array Value) (mu : Nat) (ul : List (Int × Int × Int)) (cx : Nat) (x5 : Nat) (loc : Int) (si : Nat) (awb : Bool) (B9 : Nat) (nd12 : Nat) (nd13 : Nat) (B14 : Nat) (PC1 : Array Value) (s3 : List Sy) (nd22 : Nat) (nd23 : Nat) (B24 : Nat) : Stable rfinC0b6Cnt 11 rfinC0b6Anc rfinC0b6Trn (rfinC0b6R pb n src mp es k ms MC pt QC mu ul cx x5 loc si awb B9 nd12 nd13 B14 PC1 s3 nd22 nd23 B24) := by
 intro k9 L9 α α' ix9 hk hcl hα hact ht
 have hp := act_places hact
 replace hp : ix9 ∈ [999, 1999, 2999, 3999, 4999, 5999, 6999, 7999, 8999, 9999, 10999, 8, 14, 20, 23, 24, 1024, 2024, 25] := hp
 simp only [List.mem_cons, List.not_mem_nil, or_false] at hp
 rcases hp with rfl | rfl | rfl | rfl | rfl | rfl | rfl | rfl | rfl | rfl | rfl | rfl | rfl | rfl | rfl | rfl | rfl | rfl | rfl
 ·show rfinC0b6T999 pb n src mp es k ms MC pt QC mu ul cx x5 loc si awb B9 nd12 nd13 B14 PC1 s3 nd22 nd23 B24 (Rega.ran L9 k9) α' = rfinC0b6T999 pb n src mp es k ms MC pt QC mu ul cx x5 loc si awb B9 nd12 nd13 B14 PC1 s3 nd22 nd23 B24 L9 α
  unfold rfinC0b6T999
  have n24 : 24 ≠ k9 := fun e => ht (by rw [← e]; decide)
  rw [ran_ne n24]
  by_cases e24 : L9 24 = true
  ·first | rw [if_pos e24, if_pos e24] | rw [if_pos e24]
   try simp only [hα 3024 (ne_ran hk e24), hα 4024 (ne_ran hk e24)]
  first | rw [if_neg e24, if_neg e24] | rw [if_neg e24]
 ·show rfinC0b6T1999 pb n src mp es k ms MC pt QC mu ul cx x5 loc si awb B9 nd12 nd13 B14 PC1 s3 nd22 nd23 B24 (Rega.ran L9 k9) α' = rfinC0b6T1999 pb n src mp es k ms MC pt QC mu ul cx x5 loc si awb B9 nd12 nd13 B14 PC1 s3 nd22 nd23 B24 L9 α
  unfold rfinC0b6T1999
  have n24 : 24 ≠ k9 := fun e => ht (by rw [← e]; decide)
  rw [ran_ne n24]
  by_cases e24 : L9 24 = true
  ·first | rw [if_pos e24, if_pos e24] | rw [if_pos e24]
   try simp only [hα 3024 (ne_ran hk e24), hα 4024 (ne_ran hk e24)]
  first | rw [if_neg e24, if_neg e24] | rw [if_neg e24]
 ·rfl
 ·show rfinC0b6T3999 pb n src mp es k ms MC pt QC mu ul cx x5 loc si awb B9 nd12 nd13 B14 PC1 s3 nd22 nd23 B24 (Rega.ran L9 k9) α' = rfinC0b6T3999 pb n src mp es k ms MC pt QC mu ul cx x5 loc si awb B9 nd12 nd13 B14 PC1 s3 nd22 nd23 B24 L9 α
  unfold rfinC0b6T3999
  have n24 : 24 ≠ k9 := fun e => ht (by rw [← e]; decide)
  rw [ran_ne n24]
 ·rfl
 ·rfl
 ·rfl
 ·rfl
 ·rfl
 ·show rfinC0b6T9999 pb n src mp es k ms MC pt QC mu ul cx x5 loc si awb B9 nd12 nd13 B14 PC1 s3 nd22 nd23 B24 (Rega.ran L9 k9) α' = rfinC0b6T9999 pb n src mp es k ms MC pt QC mu ul cx x5 loc si awb B9 nd12 nd13 B14 PC1 s3 nd22 nd23 B24 L9 α
  unfold rfinC0b6T9999
  have n24 : 24 ≠ k9 := fun e => ht (by rw [← e]; decide)
  rw [ran_ne n24]
 ·show rfinC0b6T10999 pb n src mp es k ms MC pt QC mu ul cx x5 loc si awb B9 nd12 nd13 B14 PC1 s3 nd22 nd23 B24 (Rega.ran L9 k9) α' = rfinC0b6T10999 pb n src mp es k ms MC pt QC mu ul cx x5 loc si awb B9 nd12 nd13 B14 PC1 s3 nd22 nd23 B24 L9 α
  unfold rfinC0b6T10999
  have n24 : 24 ≠ k9 := fun e => ht (by rw [← e]; decide)
  rw [ran_ne n24]
  by_cases e24 : L9 24 = true
  ·first | rw [if_pos e24, if_pos e24] | rw [if_pos e24]
   try simp only [hα 2024 (ne_ran hk e24), hα 5024 (ne_ran hk e24)]
  first | rw [if_neg e24, if_neg e24] | rw [if_neg e24]
 ·have e0 : L9 8 = true := act_lt hact dc
  show row (α' 8) 270 #[vU src, vU (si : Int), bF, bF, bF] = row (α 8) 270 #[vU src, vU (si : Int), bF, bF, bF]
  simp only [hα 8 (ne_ran hk e0)]
 ·have e0 : L9 14 = true := act_lt hact dc
  show row (α' 14) 270 #[vU src, vU ((n : Int) + 1), bF, bF, bF] = row (α 14) 270 #[vU src, vU ((n : Int) + 1), bF, bF, bF]
  simp only [hα 14 (ne_ran hk e0)]
 ·have e0 : L9 20 = true := act_lt hact dc
  show row (α' 20) 270 #[vU src, vU ((n : Int) + 1 + 1), bF, bF, bF] = row (α 20) 270 #[vU src, vU ((n : Int) + 1 + 1), bF, bF, bF]
  simp only [hα 20 (ne_ran hk e0)]
 ·have e0 : L9 23 = true := act_lt hact dc
  show row (α' 23) 52 #[vF 267 (α' 8), vI loc, vF 267 (α' 14), vI loc, vF 267 (α' 20), vI loc] = row (α 23) 52 #[vF 267 (α 8), vI loc, vF 267 (α 14), vI loc, vF 267 (α 20), vI loc]
  simp only [hα 8 (ne_ran hk (hcl 23 e0 8 dc)), hα 14 (ne_ran hk (hcl 23 e0 14 dc)), hα 20 (ne_ran hk (hcl 23 e0 20 dc)), hα 23 (ne_ran hk e0)]
 ·have e0 : L9 24 = true := act_lt hact dc
  show row (α' 24) 266 #[vF 267 (α' 1024), vI loc, vS (α' 23) 3 3, vI 0, v8 0, v8 0, bF, bF] = row (α 24) 266 #[vF 267 (α 1024), vI loc, vS (α 23) 3 3, vI 0, v8 0, v8 0, bF, bF]
  simp only [hα 23 (ne_ran hk (hcl 24 e0 23 dc)), hα 24 (ne_ran hk e0), hα 1024 (ne_ran hk e0)]
 ·have e0 : L9 24 = true := act_lt hact dc
  show row (α' 1024) 270 #[vU src, vU ((((n + 1) + 1) + 1) : Int), bF, bF, bF] = row (α 1024) 270 #[vU src, vU ((((n + 1) + 1) + 1) : Int), bF, bF, bF]
  simp only [hα 1024 (ne_ran hk e0)]
 ·have e0 : L9 24 = true := act_lt hact dc
  show row (α' 2024) 31 (full refZ ([vU src, vU ((((n + 1) + 1) + 1) : Int)]) (α' 5024)) = row (α 2024) 31 (full refZ ([vU src, vU ((((n + 1) + 1) + 1) : Int)]) (α 5024))
  simp only [hα 2024 (ne_ran hk e0), hα 5024 (ne_ran hk e0)]
 ·have e0 : L9 25 = true := act_lt hact dc
  show rfinC0b6T25 pb n src mp es k ms MC pt QC mu ul cx x5 loc si awb B9 nd12 nd13 B14 PC1 s3 nd22 nd23 B24 (Rega.ran L9 k9) α' = rfinC0b6T25 pb n src mp es k ms MC pt QC mu ul cx x5 loc si awb B9 nd12 nd13 B14 PC1 s3 nd22 nd23 B24 L9 α
  unfold rfinC0b6T25
  have n26 : 26 ≠ k9 := fun e => ht (by rw [← e]; decide)
  rw [ran_ne n26]
  by_cases e26 : L9 26 = true
  ·first | rw [if_pos e26, if_pos e26] | rw [if_pos e26]
   try simp only [hα 24 (ne_ran hk (hcl 26 e26 24 dc)), hα 25 (ne_ran hk (hcl 26 e26 25 dc))]
  first | rw [if_neg e26, if_neg e26] | rw [if_neg e26]
  try simp only [hα 25 (ne_ran hk e0)]

set_option maxRecDepth 100000 in
set_option maxHeartbeats 4000000 in
theorem finC0 (pb : Nat) (PC : Array Value) (sb c : Nat) (st : List Sy) (n : Nat) (src : Int) (mp : Nat) (es : Array MapEntry) (k ms : Nat) (MC : Array Value) (pt : Nat) (QC : Array Value) (mu : Nat) (ul : List (Int × Int × Int)) (cs : Nat) (KC : Array Value) (cx x5 e10 : Nat) (loc : Int) (si : Nat) (awb : Bool) (sv2 rv9 : Value) {A0 A1 A2 A3 A4 A5 A6 A7 A8 A9 AA AB AC AD AE AF AG AH AI AJ AK AL AM AN AO AP AQ AR AS AT AU AV AW AX AY AZ B0 B1 B2 B3 B5 B6 B7 B8 BA BB BC BD BE BF BG BH BI BJ BK BL BM BN BO BP BQ BR BS BT BU BV BW BX BY BZ C0 C1 C2 C3 C4 C5 C6 C7 C8 C9 CA CB CC CD CE CF CG CH CI CJ CK CL CM CN CO CP CQ CR CS CT CU CV CW CX CY CZ E1 E2 E3 E4 E5 E6 E7 E8 E9 EA EB EC ED EE EF EG EH EI EJ EK EL EM EN EO EP EQ ER ES ET EU EV EW EX EY EZ F0 F1 F2 F3 F4 F5 F6 F7 F8 F9 FA FB FC FD FE FF FG FH FI FJ FK FL FM FN FO FP FQ FR FS FT FU FV FW FX FY FZ G0 G1 G2 G3 G4 G5 G6 G7 G8 G9 GA GB GC GD GE GF GG GH GI GJ GK GL GM GN GO GP GQ GR GS GT GU GV GW GX GY GZ I0 I1 I2 I3 I4 I5 I6 I7 I8 I9 IA IB IC ID IE IF IG IH II IJ IK IL IM IN IO IP IQ IR IS IT IU IV IW IX IY IZ J0 J1 J2 J3 J4 J5 J6 J7 J8 J9 JA JB JC JD JE JF JG JH JI JJ JK JL JM JN JO JP JQ JR JS JT JU JV JW JX JY JZ M0 M1 M2 M3 M4 M5 M6 M7 M8 M9 MA MB MD ME MF MG MH MI MJ MK ML MM MN MO MP MQ MR MS MT MU MV MW MX MY MZ N0 N1 N2 N3 N4 N5 N6 N7 N8 N9 NA NB NC ND NE NF NG NH NI NJ NK NL NM NN NO NP NQ NR NS NT NU NV NW NX NY NZ O0 O1 O2 O3 O4 O5 O6 O7 O8 O9 OA OB OC OD OE OF OG OH OI OJ OK OL OM ON OO OP OQ OR OS OT OU OV OW OX OY OZ P0 P1 P2 P3 P4 P5 P6 P7 P8 P9 PA PB PD PE PF PG PH PI PJ PK PL PM PN : Value} (w0 w : World) (X : Nat → Obj → Prop) (Q : Exit → Act → World → Prop) (hB : Fc0 st n src pt mu cs pb cx x5 e10 loc si awb sv2 rv9 w0 X Q) (hO : Own w0 w [row (x5) 25 #[vP pb], row (cx) 33 #[vI loc, vU src, vU (si : Int), .bool awb], row (pb) 252 PC, row (sb) 260 (full symZ (symL st) c), ((mp, .map es k) : Rw), row (ms) 99 MC, row (pt) 107 QC, ((mu, .map (uA ul) (uN ul)) : Rw), row (cs) 99 KC] X) (hk350 : PC[350]? = some (bF)) (hk32 : PC[32]? = some (bF)) (hk105 : PC[105]? = some (vP pt)) (hk66 : PC[66]? = some (vU src)) (hk117 : PC[117]? = some (.map (some mp))) (hk187 : PC[187]? = some (vP ms)) (hk104 : PC[104]? = some (vP cs)) (hk333 : PC[333]? = some (bF)) (hk23 : PC[23]? = some (.int .u64 0)) (hk106 : PC[106]? = some (vS sb n (n + c))) (hn : st.length = n) (hnb : n ≤ 100000) (hsu : QC[4]? = some (.map (some mu))) (hds : QC[3]? = some (vN)) (hkind : KC[15]? = some (v8 8)) (hgen : MC[5]? = some (vN)) (hcg : KC[5]? = some (vN)) (hsi : si < n) (hno : Instr.findNow .string (.string ⟨#[95, 95, 99, 97, 108, 108, 68, 105, 115, 112, 111, 115, 101]⟩) es.toList 0 = some none) (hg0 : w0.cell? ⟨0, 0, none⟩ = some (vU 4294967295)) (hg1 : w0.cell? ⟨0, 1, none⟩ = some (vU 4294967295)) :
  Code.wp Tryd.prog restA Q ⟨#[vP cx, A0, sv2, A1, A2, vP x5, A3, A4, A5, rv9, vP e10, A6, A7, A8, A9, AA, AB, AC, AD, AE, AF, AG, AH, AI, AJ, AK, AL, AM, AN, AO, AP, AQ, AR, AS, AT, AU, AV, AW, AX, AY, AZ, B0, B1, B2, B3, B5, B6, B7, B8, BA, BB, BC, BD, BE, BF, BG, BH, BI, BJ, BK, BL, BM, BN, BO, BP, BQ, BR, BS, BT, BU, BV, BW, BX, BY, BZ, C0, C1, C2, C3, C4, C5, C6, C7, C8, C9, CA, CB, CC, CD, CE, CF, CG, CH, CI, CJ, CK, CL, CM, CN, CO, CP, CQ, CR, CS, CT, CU, CV, CW, CX, CY, CZ, E1, E2, E3, E4, E5, E6, E7, E8, E9, EA, EB, EC, ED, EE, EF, EG, EH, EI, EJ, EK, EL, EM, EN, EO, EP, EQ, ER, ES, ET, EU, EV, EW, EX, EY, EZ, F0, F1, F2, F3, F4, F5, F6, F7, F8, F9, FA, FB, FC, FD, FE, FF, FG, FH, FI, FJ, FK, FL, FM, FN, FO, FP, FQ, FR, FS, FT, FU, FV, FW, FX, FY, FZ, G0, G1, G2, G3, G4, G5, G6, G7, G8, G9, GA, GB, GC, GD, GE, GF, GG, GH, GI, GJ, GK, GL, GM, GN, GO, GP, GQ, GR, GS, GT, GU, GV, GW, GX, GY, GZ, I0, I1, I2, I3, I4, I5, I6, I7, I8, I9, IA, IB, IC, ID, IE, IF, IG, IH, II, IJ, IK, IL, IM, IN, IO, IP, IQ, IR, IS, IT, IU, IV, IW, IX, IY, IZ, J0, J1, J2, J3, J4, J5, J6, J7, J8, J9, JA, JB, JC, JD, JE, JF, JG, JH, JI, JJ, JK, JL, JM, JN, JO, JP, JQ, JR, JS, JT, JU, JV, JW, JX, JY, JZ, M0, M1, M2, M3, M4, M5, M6, M7, M8, M9, MA, MB, MD, ME, MF, MG, MH, MI, MJ, MK, ML, MM, MN, MO, MP, MQ, MR, MS, MT, MU, MV, MW, MX, MY, MZ, N0, N1, N2, N3, N4, N5, N6, N7, N8, N9, NA, NB, NC, ND, NE, NF, NG, NH, NI, NJ, NK, NL, NM, NN, NO, NP, NQ, NR, NS, NT, NU, NV, NW, NX, NY, NZ, O0, O1, O2, O3, O4, O5, O6, O7, O8, O9, OA, OB, OC, OD, OE, OF, OG, OH, OI, OJ, OK, OL, OM, ON, OO, OP, OQ, OR, OS, OT, OU, OV, OW, OX, OY, OZ, P0, P1, P2, P3, P4, P5, P6, P7, P8, P9, PA, PB, PD, PE, PF, PG, PH, PI, PJ, PK, PL, PM, PN], []⟩ w := by
 have HB := Lib.hid hB
 clear hB
 obtain ⟨c9, hc9⟩ : ∃ c, c = restC := ⟨_, rfl⟩
 have HC9 := Lib.hid hc9
 simp only [restC, Tryd.f39, Option.getD_some, cutC] at hc9
 simp only [restA, Tryd.f39, Option.getD_some, cutC]
 rw [← hc9]
 clear hc9
 obtain ⟨aQ, aD, aE, -⟩ := hO.k1 0 rfl
 obtain ⟨au, av, bX, bY, aa, ab, -⟩ := hO.k4 1 rfl
 have HO := Lib.hid hO
 clear hO
 go_wp2_with (first | (with_reducible refine Own.stay (fn := Tryd.f39) ?_) | (first | (go_at_call 46; go_in)))
 try with_reducible refine Own.Stay.mk ?_
 have hO := HO.out
 clear HO aQ aD aE au av bX bY aa ab
 obtain ⟨HL, HX⟩ := hid2 hO
 have hP9 := hO.pick [2, 3] dc
 have h9_hnb : n ≤ 2000000 := (by omega)
 have T9 := newSymG pb PC sb c st n src 27 ⟨#[95]⟩ _ _ _ hP9 hk66 hk32 hk106 (by first | assumption | (simp [hn]; done) | (simp [bump_length, hn]; done)) h9_hnb hg0 hg1
 refine Calls.mono T9 ?_
 clear hP9 T9 h9_hnb
 rintro e uw1 ⟨nd2, nd3, rfl, hQ⟩
 replace hO : Own w0 uw1 [row (pb) 252 (PC.setIfInBounds 106 (vS nd2 (n + 1) (n + 1 + nd3))), row (nd2) 260 (full symZ (symL (st ++ [syk ⟨#[95]⟩ 27])) nd3), row (x5) 25 #[vP pb], row (cx) 33 #[vI loc, vU src, vU (si : Int), .bool awb], ((mp, .map es k) : Rw), row (ms) 99 MC, row (pt) 107 QC, ((mu, .map (uA ul) (uN ul)) : Rw), row (cs) 99 KC] X := hQ.back HL.out HX.out [0, 1, 4, 5, 6, 7, 8] dc dc
 clear hQ HL HX
 obtain ⟨aF, aG, aH, -⟩ := hO.k1 2 rfl
 obtain ⟨aI, aR, aw, ax, aJ, aK, -⟩ := hO.k4 3 rfl
 have HO := Lib.hid hO
 clear hO
 go_wp2_with (first | (with_reducible refine Own.stay (fn := Tryd.f39) ?_) | (first | (go_at_call 46; go_in)))
 try with_reducible refine Own.Stay.mk ?_
 have hO := HO.out
 clear HO aF aG aH aI aR aw ax aJ aK
 generalize hW : World.alloc _ _ = W5
 have hN : Own w0 W5 [row (uw1.heap.size) 31 #[vU src, vU (n : Int)], row (pb) 252 (PC.setIfInBounds 106 (vS nd2 (n + 1) (n + 1 + nd3))), row (nd2) 260 (full symZ (symL (st ++ [syk ⟨#[95]⟩ 27])) nd3), row (x5) 25 #[vP pb], row (cx) 33 #[vI loc, vU src, vU (si : Int), .bool awb], ((mp, .map es k) : Rw), row (ms) 99 MC, row (pt) 107 QC, ((mu, .map (uA ul) (uN ul)) : Rw), row (cs) 99 KC] X := by
  rw [← hW]
  exact (hO).alloc' _ (uw1.heap.size) (by simp)
 clear hW hO
 generalize uw1.heap.size = B4 at hN ⊢
 have hO := hN
 clear hN
 obtain ⟨HL, HX⟩ := hid2 hO
 have hP9 := hO.pick [1, 2] dc
 have h9_hn : (st ++ [syk ⟨#[95]⟩ 27]).length = (n + 1) := (by first | assumption | (simp [hn]; done) | (simp [bump_length, hn]; done))
 have h9_hnb : (n + 1) ≤ 2000000 := (by omega)
 have T9 := newSymG pb (PC.setIfInBounds 106 (vS nd2 (n + 1) ((n + 1) + nd3))) nd2 nd3 (st ++ [syk ⟨#[95]⟩ 27]) (n + 1) src 27 ⟨#[95, 101, 114, 114, 111, 114]⟩ _ _ _ hP9 (get_other hk66 (by omega) _) (get_other hk32 (by omega) _) (get_set hk106 _) h9_hn h9_hnb hg0 hg1
 refine Calls.mono T9 ?_
 clear hP9 T9 h9_hn h9_hnb
 rintro e uw6 ⟨nd7, nd8, rfl, hQ⟩
 replace hO : Own w0 uw6 [row (pb) 252 ((PC.setIfInBounds 106 (vS nd2 (n + 1) ((n + 1) + nd3))).setIfInBounds 106 (vS nd7 ((n + 1) + 1) ((n + 1) + 1 + nd8))), row (nd7) 260 (full symZ (symL ((st ++ [syk ⟨#[95]⟩ 27]) ++ [syk ⟨#[95, 101, 114, 114, 111, 114]⟩ 27])) nd8), row (B4) 31 #[vU src, vU (n : Int)], row (x5) 25 #[vP pb], row (cx) 33 #[vI loc, vU src, vU (si : Int), .bool awb], ((mp, .map es k) : Rw), row (ms) 99 MC, row (pt) 107 QC, ((mu, .map (uA ul) (uN ul)) : Rw), row (cs) 99 KC] X := hQ.back HL.out HX.out [0, 3, 4, 5, 6, 7, 8, 9] dc dc
 clear hQ HL HX
 obtain ⟨aF, ac, aG, aH, -⟩ := hO.k2 2 rfl
 obtain ⟨aI, aJ, aK, -⟩ := hO.k1 3 rfl
 obtain ⟨aL, aS, ad, ae, aM, aN, -⟩ := hO.k4 4 rfl
 have HO := Lib.hid hO
 clear hO
 go_wp2_with (first | (with_reducible refine Own.stay (fn := Tryd.f39) ?_) | (first | (go_at_call 46; go_in)))
 try with_reducible refine Own.Stay.mk ?_
 have hO := HO.out
 clear HO aF ac aG aH aI aJ aK aL aS ad ae aM aN
 generalize hW : World.alloc _ _ = W10
 have hN : Own w0 W10 [row (uw6.heap.size) 31 #[vU src, vU ((n : Int) + 1)], row (pb) 252 ((PC.setIfInBounds 106 (vS nd2 (n + 1) ((n + 1) + nd3))).setIfInBounds 106 (vS nd7 ((n + 1) + 1) ((n + 1) + 1 + nd8))), row (nd7) 260 (full symZ (symL ((st ++ [syk ⟨#[95]⟩ 27]) ++ [syk ⟨#[95, 101, 114, 114, 111, 114]⟩ 27])) nd8), row (B4) 31 #[vU src, vU (n : Int)], row (x5) 25 #[vP pb], row (cx) 33 #[vI loc, vU src, vU (si : Int), .bool awb], ((mp, .map es k) : Rw), row (ms) 99 MC, row (pt) 107 QC, ((mu, .map (uA ul) (uN ul)) : Rw), row (cs) 99 KC] X := by
  rw [← hW]
  exact (hO).alloc' _ (uw6.heap.size) (by simp)
 clear hW hO
 generalize uw6.heap.size = B9 at hN ⊢
 have hO := hN
 clear hN
 obtain ⟨HL, HX⟩ := hid2 hO
 have hP9 := hO.pick [1, 2] dc
 have h9_hn : ((st ++ [syk ⟨#[95]⟩ 27]) ++ [syk ⟨#[95, 101, 114, 114, 111, 114]⟩ 27]).length = ((n + 1) + 1) := (by first | assumption | (simp [hn]; done) | (simp [bump_length, hn]; done))
 have h9_hnb : ((n + 1) + 1) ≤ 2000000 := (by omega)
 have T9 := newSymG pb ((PC.setIfInBounds 106 (vS nd2 (n + 1) ((n + 1) + nd3))).setIfInBounds 106 (vS nd7 ((n + 1) + 1) (((n + 1) + 1) + nd8))) nd7 nd8 ((st ++ [syk ⟨#[95]⟩ 27]) ++ [syk ⟨#[95, 101, 114, 114, 111, 114]⟩ 27]) ((n + 1) + 1) src 27 ⟨#[95, 104, 97, 115, 69, 114, 114, 111, 114]⟩ _ _ _ hP9 (get_other (get_other hk66 (by omega) _) (by omega) _) (get_other (get_other hk32 (by omega) _) (by omega) _) (get_set (get_set hk106 _) _) h9_hn h9_hnb hg0 hg1
 refine Calls.mono T9 ?_
 clear hP9 T9 h9_hn h9_hnb
 rintro e uw11 ⟨nd12, nd13, rfl, hQ⟩
 replace hO : Own w0 uw11 [row (pb) 252 (((PC.setIfInBounds 106 (vS nd2 (n + 1) ((n + 1) + nd3))).setIfInBounds 106 (vS nd7 ((n + 1) + 1) (((n + 1) + 1) + nd8))).setIfInBounds 106 (vS nd12 (((n + 1) + 1) + 1) (((n + 1) + 1) + 1 + nd13))), row (nd12) 260 (full symZ (symL (((st ++ [syk ⟨#[95]⟩ 27]) ++ [syk ⟨#[95, 101, 114, 114, 111, 114]⟩ 27]) ++ [syk ⟨#[95, 104, 97, 115, 69, 114, 114, 111, 114]⟩ 27])) nd13), row (B9) 31 #[vU src, vU ((n : Int) + 1)], row (B4) 31 #[vU src, vU (n : Int)], row (x5) 25 #[vP pb], row (cx) 33 #[vI loc, vU src, vU (si : Int), .bool awb], ((mp, .map es k) : Rw), row (ms) 99 MC, row (pt) 107 QC, ((mu, .map (uA ul) (uN ul)) : Rw), row (cs) 99 KC] X := hQ.back HL.out HX.out [0, 3, 4, 5, 6, 7, 8, 9, 10] dc dc
 clear hQ HL HX
 obtain ⟨ix9, hix9, hax9, hjx9⟩ := hO.ix
 have bC := hjx9 0 _ _ rfl
 have bD := hjx9 1 _ _ rfl
 have bE := hjx9 2 _ _ rfl
 have bG := hjx9 3 _ _ rfl
 have bH := hjx9 4 _ _ rfl
 have bI := hjx9 5 _ _ rfl
 have bJ := hjx9 6 _ _ rfl
 have bK := hjx9 7 _ _ rfl
 have bL := hjx9 8 _ _ rfl
 have bM := hjx9 9 _ _ rfl
 have bN := hjx9 10 _ _ rfl
 clear hjx9
 have bZ : uw11.cell? ⟨pb, 23, none⟩ = some (.int .u64 0) := hO.cell 0 rfl (23) ((get_other (get_other (get_other hk23 (by omega) _) (by omega) _) (by omega) _))
 have ba : uw11.cell? ⟨pb, 32, none⟩ = some (bF) := hO.cell 0 rfl (32) ((get_other (get_other (get_other hk32 (by omega) _) (by omega) _) (by omega) _))
 have bb : uw11.cell? ⟨pb, 66, none⟩ = some (vU src) := hO.cell 0 rfl (66) ((get_other (get_other (get_other hk66 (by omega) _) (by omega) _) (by omega) _))
 have bc : uw11.cell? ⟨pb, 104, none⟩ = some (vP cs) := hO.cell 0 rfl (104) ((get_other (get_other (get_other hk104 (by omega) _) (by omega) _) (by omega) _))
 have bd : uw11.cell? ⟨pb, 105, none⟩ = some (vP pt) := hO.cell 0 rfl (105) ((get_other (get_other (get_other hk105 (by omega) _) (by omega) _) (by omega) _))
 have be : uw11.cell? ⟨pb, 106, none⟩ = some (vS nd12 (((n + 1) + 1) + 1) (((n + 1) + 1) + 1 + nd13)) := hO.cell 0 rfl (106) ((get_set (get_set (get_set hk106 _) _) _))
 have bf : uw11.cell? ⟨pb, 117, none⟩ = some (.map (some mp)) := hO.cell 0 rfl (117) ((get_other (get_other (get_other hk117 (by omega) _) (by omega) _) (by omega) _))
 have bg : uw11.cell? ⟨pb, 187, none⟩ = some (vP ms) := hO.cell 0 rfl (187) ((get_other (get_other (get_other hk187 (by omega) _) (by omega) _) (by omega) _))
 have bh : uw11.cell? ⟨pb, 333, none⟩ = some (bF) := hO.cell 0 rfl (333) ((get_other (get_other (get_other hk333 (by omega) _) (by omega) _) (by omega) _))
 have bi : uw11.cell? ⟨pb, 350, none⟩ = some (bF) := hO.cell 0 rfl (350) ((get_other (get_other (get_other hk350 (by omega) _) (by omega) _) (by omega) _))
 have aD := hO.lt 0 rfl
 have aE := hO.free 0 rfl
 obtain ⟨aF, ac, aG, aH, bj⟩ := hO.k2 2 rfl
 obtain ⟨aI, aR, aJ, aK, bO⟩ := hO.k2 3 rfl
 obtain ⟨aL, aM, aN, -⟩ := hO.k1 4 rfl
 obtain ⟨aA, bP, bQ, bR, aB, aC, -⟩ := hO.k4 5 rfl
 have bk : Base.plainAt uw11 (ms) = true := hO.plain 7 rfl
 have bl := hO.cell 7 rfl 5 hgen
 have aT := hO.lt 7 rfl
 have aU := hO.free 7 rfl
 have bm := hO.cell 8 rfl 3 hds
 have bn := hO.cell 8 rfl 4 hsu
 have aO := hO.lt 8 rfl
 have aP := hO.free 8 rfl
 have bo : Base.plainAt uw11 (cs) = true := hO.plain 10 rfl
 have bS := hO.cell 10 rfl 5 hcg
 have bp := hO.cell 10 rfl 15 hkind
 have bT := hO.lt 10 rfl
 have bU := hO.free 10 rfl
 have HO := Lib.hid hO
 clear hO
 go_wp2_with (first | (with_reducible refine Own.stay (fn := Tryd.f39) ?_) | (first | (go_at_call 46; go_in)))
 try with_reducible refine Own.Stay.mk ?_
 have hO := HO.out
 clear HO hix9 hax9 bC bD bE bG bH bI bJ bK bL bM bN ix9 bZ ba bb bc bd be bf bg bh bi aD aE aF ac aG aH bj aI aR aJ aK bO aL aM aN aA bP bQ bR aB aC bk bl aT aU bm bn aO aP bo bS bp bT bU
 generalize hW : World.alloc _ _ = W15
 have hN : Own w0 W15 [row (uw11.heap.size) 31 #[vU src, vU ((n : Int) + 1 + 1)], row (pb) 252 (((PC.setIfInBounds 106 (vS nd2 (n + 1) ((n + 1) + nd3))).setIfInBounds 106 (vS nd7 ((n + 1) + 1) (((n + 1) + 1) + nd8))).setIfInBounds 106 (vS nd12 (((n + 1) + 1) + 1) (((n + 1) + 1) + 1 + nd13))), row (nd12) 260 (full symZ (symL (((st ++ [syk ⟨#[95]⟩ 27]) ++ [syk ⟨#[95, 101, 114, 114, 111, 114]⟩ 27]) ++ [syk ⟨#[95, 104, 97, 115, 69, 114, 114, 111, 114]⟩ 27])) nd13), row (B9) 31 #[vU src, vU ((n : Int) + 1)], row (B4) 31 #[vU src, vU (n : Int)], row (x5) 25 #[vP pb], row (cx) 33 #[vI loc, vU src, vU (si : Int), .bool awb], ((mp, .map es k) : Rw), row (ms) 99 MC, row (pt) 107 QC, ((mu, .map (uA ul) (uN ul)) : Rw), row (cs) 99 KC] X := by
  rw [← hW]
  exact (hO).alloc' _ (uw11.heap.size) (by simp)
 clear hW hO
 generalize uw11.heap.size = B14 at hN ⊢
 have hO := hN
 clear hN
 obtain ⟨PC1, hPC1⟩ : ∃ x9 : Array Value, x9 = ((PC.setIfInBounds 106 (vS nd2 (n + 1) ((n + 1) + nd3))).setIfInBounds 106 (vS nd7 ((n + 1) + 1) (((n + 1) + 1) + nd8))).setIfInBounds 106 (vS nd12 (((n + 1) + 1) + 1) (((n + 1) + 1) + 1 + nd13)) := ⟨_, rfl⟩
 have h1_350 : PC1[350]? = some (bF) := by rw [hPC1]; exact (get_other (get_other (get_other hk350 (by omega) _) (by omega) _) (by omega) _)
 have h1_32 : PC1[32]? = some (bF) := by rw [hPC1]; exact (get_other (get_other (get_other hk32 (by omega) _) (by omega) _) (by omega) _)
 have h1_105 : PC1[105]? = some (vP pt) := by rw [hPC1]; exact (get_other (get_other (get_other hk105 (by omega) _) (by omega) _) (by omega) _)
 have h1_66 : PC1[66]? = some (vU src) := by rw [hPC1]; exact (get_other (get_other (get_other hk66 (by omega) _) (by omega) _) (by omega) _)
 have h1_117 : PC1[117]? = some (.map (some mp)) := by rw [hPC1]; exact (get_other (get_other (get_other hk117 (by omega) _) (by omega) _) (by omega) _)
 have h1_187 : PC1[187]? = some (vP ms) := by rw [hPC1]; exact (get_other (get_other (get_other hk187 (by omega) _) (by omega) _) (by omega) _)
 have h1_104 : PC1[104]? = some (vP cs) := by rw [hPC1]; exact (get_other (get_other (get_other hk104 (by omega) _) (by omega) _) (by omega) _)
 have h1_333 : PC1[333]? = some (bF) := by rw [hPC1]; exact (get_other (get_other (get_other hk333 (by omega) _) (by omega) _) (by omega) _)
 have h1_23 : PC1[23]? = some (.int .u64 0) := by rw [hPC1]; exact (get_other (get_other (get_other hk23 (by omega) _) (by omega) _) (by omega) _)
 have h1_106 : PC1[106]? = some (vS nd12 (((n + 1) + 1) + 1) (((n + 1) + 1) + 1 + nd13)) := by rw [hPC1]; exact (get_set (get_set (get_set hk106 _) _) _)
 have hN : Own w0 W15 [row (B14) 31 #[vU src, vU ((n : Int) + 1 + 1)], row (pb) 252 PC1, row (nd12) 260 (full symZ (symL (((st ++ [syk ⟨#[95]⟩ 27]) ++ [syk ⟨#[95, 101, 114, 114, 111, 114]⟩ 27]) ++ [syk ⟨#[95, 104, 97, 115, 69, 114, 114, 111, 114]⟩ 27])) nd13), row (B9) 31 #[vU src, vU ((n : Int) + 1)], row (B4) 31 #[vU src, vU (n : Int)], row (x5) 25 #[vP pb], row (cx) 33 #[vI loc, vU src, vU (si : Int), .bool awb], ((mp, .map es k) : Rw), row (ms) 99 MC, row (pt) 107 QC, ((mu, .map (uA ul) (uN ul)) : Rw), row (cs) 99 KC] X := by rw [hPC1]; exact hO
 clear hO
 have hO := hN
 clear hN hPC1
 obtain ⟨s3, hs3⟩ : ∃ x9 : List Sy, x9 = ((st ++ [syk ⟨#[95]⟩ 27]) ++ [syk ⟨#[95, 101, 114, 114, 111, 114]⟩ 27]) ++ [syk ⟨#[95, 104, 97, 115, 69, 114, 114, 111, 114]⟩ 27] := ⟨_, rfl⟩
 have hls3 : s3.length = n + 1 + 1 + 1 := by rw [hs3]; simp [hn]
 replace hO : Own w0 W15 [row (B14) 31 #[vU src, vU ((n : Int) + 1 + 1)], row (pb) 252 PC1, row (nd12) 260 (full symZ (symL s3) nd13), row (B9) 31 #[vU src, vU ((n : Int) + 1)], row (B4) 31 #[vU src, vU (n : Int)], row (x5) 25 #[vP pb], row (cx) 33 #[vI loc, vU src, vU (si : Int), .bool awb], ((mp, .map es k) : Rw), row (ms) 99 MC, row (pt) 107 QC, ((mu, .map (uA ul) (uN ul)) : Rw), row (cs) 99 KC] X := by rw [hs3]; exact hO
 have Hs3 := Lib.hid hs3
 clear hs3
 go_loopg [24] 1 (fun gf s24 wx => s24 = vP cs ∧ Own w0 wx [row (B14) 31 #[vU src, vU ((n : Int) + 1 + 1)], row (pb) 252 PC1, row (nd12) 260 (full symZ (symL s3) nd13), row (B9) 31 #[vU src, vU ((n : Int) + 1)], row (B4) 31 #[vU src, vU (n : Int)], row (x5) 25 #[vP pb], row (cx) 33 #[vI loc, vU src, vU (si : Int), .bool awb], ((mp, .map es k) : Rw), row (ms) 99 MC, row (pt) 107 QC, ((mu, .map (uA ul) (uN ul)) : Rw), row (cs) 99 KC] X)
 case atStart => exact ⟨rfl, hO⟩
 obtain ⟨rfl, hO⟩ := hrel
 obtain ⟨ix9, hix9, hax9, hjx9⟩ := hO.ix
 have bC := hjx9 0 _ _ rfl
 have bD := hjx9 1 _ _ rfl
 have bE := hjx9 2 _ _ rfl
 have bG := hjx9 3 _ _ rfl
 have bH := hjx9 4 _ _ rfl
 have bI := hjx9 5 _ _ rfl
 have bJ := hjx9 6 _ _ rfl
 have bK := hjx9 7 _ _ rfl
 have bL := hjx9 8 _ _ rfl
 have bM := hjx9 9 _ _ rfl
 have bN := hjx9 10 _ _ rfl
 have bq := hjx9 11 _ _ rfl
 clear hjx9
 obtain ⟨aQ, af, aD, aE, br⟩ := hO.k2 0 rfl
 have bs := hO.cell 1 rfl 23 h1_23
 have bt := hO.cell 1 rfl 32 h1_32
 have bu := hO.cell 1 rfl 66 h1_66
 have bv := hO.cell 1 rfl 104 h1_104
 have bw := hO.cell 1 rfl 105 h1_105
 have bx := hO.cell 1 rfl 106 h1_106
 have bz := hO.cell 1 rfl 117 h1_117
 have cA := hO.cell 1 rfl 187 h1_187
 have cB := hO.cell 1 rfl 333 h1_333
 have cC := hO.cell 1 rfl 350 h1_350
 have aa := hO.lt 1 rfl
 have ab := hO.free 1 rfl
 obtain ⟨aI, aR, aJ, aK, bO⟩ := hO.k2 3 rfl
 obtain ⟨aL, aS, aM, aN, cD⟩ := hO.k2 4 rfl
 obtain ⟨aA, aB, aC, -⟩ := hO.k1 5 rfl
 obtain ⟨aV, cE, cF, cG, aW, aX, -⟩ := hO.k4 6 rfl
 have cH : Base.plainAt wr (ms) = true := hO.plain 8 rfl
 have cI := hO.cell 8 rfl 5 hgen
 have aO := hO.lt 8 rfl
 have aP := hO.free 8 rfl
 have cJ := hO.cell 9 rfl 3 hds
 have cK := hO.cell 9 rfl 4 hsu
 have aY := hO.lt 9 rfl
 have aZ := hO.free 9 rfl
 have cL : Base.plainAt wr (cs) = true := hO.plain 11 rfl
 have cM := hO.cell 11 rfl 5 hcg
 have cN := hO.cell 11 rfl 15 hkind
 have bV := hO.lt 11 rfl
 have bW := hO.free 11 rfl
 have HO := Lib.hid hO
 clear hO
 go_wp2_with (first | (with_reducible refine Own.stay (fn := Tryd.f39) ?_) | (first | (go_at_call 46; go_in)))
 try with_reducible refine Own.Stay.mk ?_
 have hO := HO.out
 clear HO hix9 hax9 bC bD bE bG bH bI bJ bK bL bM bN bq ix9 aQ af aD aE br bs bt bu bv bw bx bz cA cB cC aa ab aI aR aJ aK bO aL aS aM aN cD aA aB aC aV cE cF cG aW aX cH cI aO aP cJ cK aY aZ cL cM cN bV bW
 obtain ⟨HL, HX⟩ := hid2 hO
 have hP9 := hO.pick [0, 3, 4, 6, 11] dc
 generalize hX9_16 : Own.Rest _ _ X = X9_16 at hP9
 replace hP9 : Own w0 wr [row (B14) 31 #[vU src, vU ((n : Int) + 1 + 1)], row (B9) 31 #[vU src, vU ((n : Int) + 1)], row (B4) 31 #[vU src, vU (n : Int)], row (cx) 33 #[vI loc, vU src, vU (si : Int), .bool awb], row (cs) 99 KC] X9_16 := hP9
 clear hO
 have hO := hP9
 clear hP9
 have st9 := rfinC0b1_st n src cs KC cx loc si awb B4 B9 B14
 let R9 := rfinC0b1R n src cs KC cx loc si awb B4 B9 B14
 refine wp_region_own (e := rfinC0b1E n src cs KC cx loc si awb B4 B9 B14) (anc := rfinC0b1Anc) (G := (fun L9 α u9 => OwnF w0 u9 (act rfinC0b1Cnt 5 L9) (rfinC0b1R n src cs KC cx loc si awb B4 B9 B14 L9 α) X9_16)) (by kernel_rfl) (by kernel_rfl) (by kernel_rfl) (by kernel_rfl) (rfinC0b1_he n src cs KC cx loc si awb B4 B9 B14) ?_ (RunsAll.all ?_) ?_
 ·have hp : ∀ i, act rfinC0b1Cnt 5 (fun _ => false) i → i ∈ [999, 1999, 2999, 3999, 4999] := by
   intro i hi
   have h9 : i % 1000 = 999 := by
    by_cases h : i % 1000 = 999
    ·exact h
    ·exact absurd (act_lt hi h) (by simp)
   unfold act at hi
   rw [if_pos h9] at hi
   simp only [List.mem_cons, List.not_mem_nil, or_false]
   omega
  refine hO.drew.family (fun i hi => ?_) (fun i j hi hj hij => ?_)
  ·have := hp i hi
   simp only [List.mem_cons, List.not_mem_nil, or_false] at this
   rcases this with rfl | rfl | rfl | rfl | rfl <;> rfl
  ·have h1 := hp i hi
   have h2 := hp j hj
   simp only [List.mem_cons, List.not_mem_nil, or_false] at h1 h2
   omega
 ·refine ⟨?_, ?_, ?_, ?_, ?_, ?_, ?_, ?_, ?_, ?_, ?_, ?_, ?_, ?_, ?_, ?_, ?_, trivial⟩
  ·refine pur st9 rfl rfl fun L9 α a9 u9 K9 hL hcl hA hG hS h0 h1 hK => ?_
   have s24 := eS (vP cs) ((h0 24 (by kernel_rfl)).trans rfl)
   go_simp
   exact hK
  ·refine pur st9 rfl rfl fun L9 α a9 u9 K9 hL hcl hA hG hS h0 h1 hK => ?_
   have s24 := eS (vP cs) ((h0 24 (by kernel_rfl)).trans rfl)
   go_simp
   exact hK
  ·refine pur st9 rfl rfl fun L9 α a9 u9 K9 hL hcl hA hG hS h0 h1 hK => ?_
   have s148 := eS (vP cs) (hS 1 148 dc rfl (ltd 420 rfl))
   go_simp
   exact hK
  ·refine pur st9 rfl rfl fun L9 α a9 u9 K9 hL hcl hA hG hS h0 h1 hK => ?_
   have s149 := eS (vP cs) (hS 2 149 dc rfl (ltd 420 rfl))
   go_simp
   exact hK
  ·refine pur st9 rfl rfl fun L9 α a9 u9 K9 hL hcl hA hG hS h0 h1 hK => ?_
   replace hL : L9 4 = false := hL
   have s150 := eS (.pointer (some ⟨cs, 5, none⟩)) (hS 3 150 dc rfl (ltd 420 rfl))
   have e0 : R9 L9 α 4999 = row (cs) 99 KC := by
    show rfinC0b1T4999 n src cs KC cx loc si awb B4 B9 B14 L9 α = _
    unfold rfinC0b1T4999
    rw [if_neg (fun e => by have := hcl 16 e 4 dc; rw [hL] at this; cases this)]
   have hr := hG.rowAt 4999 (act_base 4999 rfl) e0
   have c0 : u9.cell? ⟨cs, 5, none⟩ = some (vN) := hr.cell (hcg)
   clear hr e0
   go_simp
   exact hK
  ·refine pur st9 rfl rfl fun L9 α a9 u9 K9 hL hcl hA hG hS h0 h1 hK => ?_
   have s0 := eS (vP cx) ((h0 0 (by kernel_rfl)).trans rfl)
   go_simp
   exact hK
  ·refine pur st9 rfl rfl fun L9 α a9 u9 K9 hL hcl hA hG hS h0 h1 hK => ?_
   have s152 := eS (vP cx) (hS 5 152 dc rfl (ltd 420 rfl))
   go_simp
   exact hK
  ·refine pur st9 rfl rfl fun L9 α a9 u9 K9 hL hcl hA hG hS h0 h1 hK => ?_
   have s153 := eS (vP cx) (hS 6 153 dc rfl (ltd 420 rfl))
   go_simp
   exact hK
  ·refine pur st9 rfl rfl fun L9 α a9 u9 K9 hL hcl hA hG hS h0 h1 hK => ?_
   have s154 := eS (.pointer (some ⟨cx, 1, none⟩)) (hS 7 154 dc rfl (ltd 420 rfl))
   have e0 : R9 L9 α 3999 = row (cx) 33 #[vI loc, vU src, vU (si : Int), .bool awb] := rfl
   have hr := hG.rowAt 3999 (act_base 3999 rfl) e0
   have c0 : u9.cell? ⟨cx, 1, none⟩ = some (vU src) := hr.cell rfl
   have c1 : u9.cell? ⟨cx, 2, none⟩ = some (vU (si : Int)) := hr.cell rfl
   clear hr e0
   go_simp
   exact hK
  ·refine pur st9 rfl rfl fun L9 α a9 u9 K9 hL hcl hA hG hS h0 h1 hK => ?_
   have s21 := eS (vP B4) ((h0 21 (by kernel_rfl)).trans rfl)
   have e0 : R9 L9 α 2999 = row (B4) 31 #[vU src, vU (n : Int)] := rfl
   have hr := hG.rowAt 2999 (act_base 2999 rfl) e0
   have c0 : u9.cell? ⟨B4, 0, none⟩ = some (vU src) := hr.cell rfl
   have c1 : u9.cell? ⟨B4, 1, none⟩ = some (vU (n : Int)) := hr.cell rfl
   clear hr e0
   go_simp
   exact hK
  ·refine pur st9 rfl rfl fun L9 α a9 u9 K9 hL hcl hA hG hS h0 h1 hK => ?_
   have s22 := eS (vP B9) ((h0 22 (by kernel_rfl)).trans rfl)
   have e0 : R9 L9 α 1999 = row (B9) 31 #[vU src, vU ((n : Int) + 1)] := rfl
   have hr := hG.rowAt 1999 (act_base 1999 rfl) e0
   have c0 : u9.cell? ⟨B9, 0, none⟩ = some (vU src) := hr.cell rfl
   have c1 : u9.cell? ⟨B9, 1, none⟩ = some (vU ((n : Int) + 1)) := hr.cell rfl
   clear hr e0
   go_simp
   exact hK
  ·refine pur st9 rfl rfl fun L9 α a9 u9 K9 hL hcl hA hG hS h0 h1 hK => ?_
   have s23 := eS (vP B14) ((h0 23 (by kernel_rfl)).trans rfl)
   have e0 : R9 L9 α 999 = row (B14) 31 #[vU src, vU ((n : Int) + 1 + 1)] := rfl
   have hr := hG.rowAt 999 (act_base 999 rfl) e0
   have c0 : u9.cell? ⟨B14, 0, none⟩ = some (vU src) := hr.cell rfl
   have c1 : u9.cell? ⟨B14, 1, none⟩ = some (vU ((n : Int) + 1 + 1)) := hr.cell rfl
   clear hr e0
   go_simp
   exact hK
  ·intro L9 α a9 u9 K9 hL hcl hA hG hS h0 h1 hK
   replace hL : L9 12 = false := hL
   have q155 : a9.tmps[155]? = some (.agg #[vU src, vU (si : Int)]) := hS 8 155 dc rfl (ltd 420 rfl)
   have s155 := Rega.eval_of q155
   have q156 : a9.tmps[156]? = some (.agg #[vU src, vU (n : Int)]) := hS 9 156 dc rfl (ltd 420 rfl)
   have s156 := Rega.eval_of q156
   have q157 : a9.tmps[157]? = some (.agg #[vU src, vU ((n : Int) + 1)]) := hS 10 157 dc rfl (ltd 420 rfl)
   have s157 := Rega.eval_of q157
   have q158 : a9.tmps[158]? = some (.agg #[vU src, vU ((n : Int) + 1 + 1)]) := hS 11 158 dc rfl (ltd 420 rfl)
   have s158 := Rega.eval_of q158
   go_simp
   exact hK _ (fun j => if j = 12 then u9.heap.size else α j) _ (fun j hj => if_neg (fun e => hj (by rw [e]))) rfl (step_alloc st9 hL hcl rfl rfl dc _ rfl hG)
  ·intro L9 α a9 u9 K9 hL hcl hA hG hS h0 h1 hK
   replace hL : L9 13 = false := hL
   have q151 : a9.tmps[151]? = some (vN) := hS 4 151 dc rfl (ltd 420 rfl)
   have s151 := Rega.eval_of q151
   have q159 : a9.tmps[159]? = some (vS (α 12) 4 4) := hS 12 159 dc rfl (ltd 420 rfl)
   have s159 := Rega.eval_of q159
   simp only [Region.wanted, if_true]
   have e0 : R9 L9 α 12 = row (α 12) 31 #[vU src, vU (si : Int), vU src, vU (n : Int), vU src, vU ((n : Int) + 1), vU src, vU ((n : Int) + 1 + 1)] := rfl
   have hM : ∀ i, i ∈ [12] → act rfinC0b1Cnt 5 L9 i := by
    intro i hi
    simp only [List.mem_cons, List.not_mem_nil, or_false] at hi
    subst hi
    exact act_new 12 rfl (hA 12 dc)
   have hP : Own w0 u9 [row (α 12) 31 #[vU src, vU (si : Int), vU src, vU (n : Int), vU src, vU ((n : Int) + 1), vU src, vU ((n : Int) + 1 + 1)]] _ := (hG.pick [12] dc hM).conv (by
    show [R9 L9 α 12] = _
    rw [e0])
   clear e0 hM
   obtain ⟨i9, hi9, z1, z2, z3⟩ := info_parts infoRef
   refine wp_append_full_nil (Operand.tmp 151) (Operand.tmp 159) 38 rfl 31 i9 (.agg refZ) 2 8 Tryd.underlying38 hi9 z1 z2 z3 hP s151 s159 rfl dc (by first | decide | omega | (unfold maxLen; omega)) (by first | decide | omega | (unfold maxLen; omega)) ?_
   intro b0 b1 u1 hQ
   obtain ⟨α', hα'⟩ : ∃ α' : Rega.Atoms, α' = (fun j => if j = 13 then b0 else if j = 1013 then b1 else α j) := ⟨_, rfl⟩
   have f0 : R9 (Rega.ran L9 13) α' 13 = row (α' 13) 31 (full refZ [vU src, vU (si : Int), vU src, vU (n : Int), vU src, vU ((n : Int) + 1), vU src, vU ((n : Int) + 1 + 1)] (α' 1013)) := rfl
   have f1 : R9 (Rega.ran L9 13) α' 12 = row (α' 12) 31 #[vU src, vU (si : Int), vU src, vU (n : Int), vU src, vU ((n : Int) + 1), vU src, vU ((n : Int) + 1 + 1)] := rfl
   have hα : ∀ j, j % 1000 ≠ 13 → α' j = α j := fun j hj => by rw [hα']; simp only []; rw [if_neg (by omega), if_neg (by omega)]
   have hb0 : α' 13 = b0 := by rw [hα']; rfl
   have hb1 : α' 1013 = b1 := by rw [hα']; rfl
   have ha12 : α' 12 = α 12 := hα 12 dc
   refine hK _ α' _ hα ?_ (step_call (st9) hL hcl hα [12] [13, 12] dc dc dc (M := _) ?_ hG hQ)
   ·show _ = (vS (α' 13) 4 (4 + α' 1013) : Value)
    simp only [hb0, hb1]
   ·show [R9 (Rega.ran L9 13) α' 13, R9 (Rega.ran L9 13) α' 12] = _
    rw [f0, f1]
    simp only [hb0, hb1, ha12]
    try rfl
  ·refine pur st9 rfl rfl fun L9 α a9 u9 K9 hL hcl hA hG hS h0 h1 hK => ?_
   have s147 := eS (vP cs) (hS 0 147 dc rfl (ltd 420 rfl))
   go_simp
   exact hK
  ·refine pur st9 rfl rfl fun L9 α a9 u9 K9 hL hcl hA hG hS h0 h1 hK => ?_
   have s161 := eS (vP cs) (hS 14 161 dc rfl (ltd 420 rfl))
   go_simp
   exact hK
  ·intro L9 α a9 u9 K9 hL hcl hA hG hS h0 h1 hK
   replace hL : L9 16 = false := hL
   have q162 : a9.tmps[162]? = some (.pointer (some ⟨cs, 5, none⟩)) := hS 15 162 dc rfl (ltd 420 rfl)
   have s162 := Rega.eval_of q162
   have q160 : a9.tmps[160]? = some (vS (α 13) 4 (4 + α 1013)) := hS 13 160 dc rfl (ltd 420 rfl)
   have s160 := Rega.eval_of q160
   have e0 : R9 L9 α 4999 = row (cs) 99 KC := by
    show rfinC0b1T4999 n src cs KC cx loc si awb B4 B9 B14 L9 α = _
    unfold rfinC0b1T4999
    rw [if_neg (by rw [hL]; decide)]
   have hr := hG.rowAt 4999 (act_base 4999 rfl) e0
   have c0 : u9.cell? ⟨cs, 5, none⟩ = some (vN) := hr.cell (hcg)
   have y0 : u9.frozen? ⟨cs, 5, none⟩ = false := hr.free (5)
   clear hr
   have E0 := Lib.hid e0
   clear e0
   go_simp
   have e1 : R9 (Rega.ran L9 16) α 4999 = row (cs) 99 (KC.setIfInBounds 5 (vS (α 13) 4 (4 + α 1013))) := by
    show rfinC0b1T4999 n src cs KC cx loc si awb B4 B9 B14 (Rega.ran L9 16) α = _
    unfold rfinC0b1T4999
    rw [if_pos (show Rega.ran L9 16 16 = true from rfl)]
   exact hK _ α _ (fun _ _ => rfl) rfl (step_sets (st9) hL hcl rfl 4999 rfl (act_base 4999 rfl) E0.out (5) [vS (α 13) 4 (4 + α 1013)] (e1.trans rfl) hG)
 clear st9
 intro α u hG
 have e0 : R9 (fun k => decide (k < 17)) α 999 = row (B14) 31 #[vU src, vU ((n : Int) + 1 + 1)] := rfl
 have e1 : R9 (fun k => decide (k < 17)) α 1999 = row (B9) 31 #[vU src, vU ((n : Int) + 1)] := rfl
 have e2 : R9 (fun k => decide (k < 17)) α 2999 = row (B4) 31 #[vU src, vU (n : Int)] := rfl
 have e3 : R9 (fun k => decide (k < 17)) α 3999 = row (cx) 33 #[vI loc, vU src, vU (si : Int), .bool awb] := rfl
 have e4 : R9 (fun k => decide (k < 17)) α 4999 = row (cs) 99 (KC.setIfInBounds 5 (vS (α 13) 4 (4 + α 1013))) := by
  show rfinC0b1T4999 n src cs KC cx loc si awb B4 B9 B14 (fun k => decide (k < 17)) α = _
  unfold rfinC0b1T4999
  rw [if_pos dc]
 have e5 : R9 (fun k => decide (k < 17)) α 12 = row (α 12) 31 #[vU src, vU (si : Int), vU src, vU (n : Int), vU src, vU ((n : Int) + 1), vU src, vU ((n : Int) + 1 + 1)] := rfl
 have e6 : R9 (fun k => decide (k < 17)) α 13 = row (α 13) 31 (full refZ [vU src, vU (si : Int), vU src, vU (n : Int), vU src, vU ((n : Int) + 1), vU src, vU ((n : Int) + 1 + 1)] (α 1013)) := rfl
 have hO : Own w0 u [row (B14) 31 #[vU src, vU ((n : Int) + 1 + 1)], row (B9) 31 #[vU src, vU ((n : Int) + 1)], row (B4) 31 #[vU src, vU (n : Int)], row (cx) 33 #[vI loc, vU src, vU (si : Int), .bool awb], row (cs) 99 (KC.setIfInBounds 5 (vS (α 13) 4 (4 + α 1013))), row (α 12) 31 #[vU src, vU (si : Int), vU src, vU (n : Int), vU src, vU ((n : Int) + 1), vU src, vU ((n : Int) + 1 + 1)], row (α 13) 31 (full refZ [vU src, vU (si : Int), vU src, vU (n : Int), vU src, vU ((n : Int) + 1), vU src, vU ((n : Int) + 1 + 1)] (α 1013))] X9_16 := (hG.list [999, 1999, 2999, 3999, 4999, 12, 13] dc (act_all dc)).conv (by
  show [R9 (fun k => decide (k < 17)) α 999, R9 (fun k => decide (k < 17)) α 1999, R9 (fun k => decide (k < 17)) α 2999, R9 (fun k => decide (k < 17)) α 3999, R9 (fun k => decide (k < 17)) α 4999, R9 (fun k => decide (k < 17)) α 12, R9 (fun k => decide (k < 17)) α 13] = _
  rw [e0, e1, e2, e3, e4, e5, e6])
 clear hG e0 e1 e2 e3 e4 e5 e6 R9
 generalize hfr : Rega.frameAt _ _ _ _ _ = fr
 have hdf : fr = ⟨#[vP cx, A0, sv2, A1, A2, vP x5, A3, A4, A5, rv9, vP e10, A6, A7, A8, A9, AA, AB, AC, AD, AE, AF, vP B4, vP B9, vP B14, vP cs, bF, AL, AM, AN, AO, AP, AQ, AR, AS, AT, AU, AV, AW, AX, AY, AZ, B0, B1, B2, B3, B5, B6, B7, B8, BA, BB, BC, BD, BE, BF, BG, BH, BI, BJ, BK, BL, BM, BN, BO, BP, BQ, BR, BS, BT, BU, BV, BW, BX, BY, BZ, C0, C1, C2, C3, C4, C5, C6, C7, C8, C9, CA, CB, CC, CD, CE, CF, CG, CH, CI, CJ, CK, CL, CM, CN, CO, CP, CQ, CR, CS, CT, CU, CV, CW, CX, CY, CZ, E1, E2, E3, E4, E5, E6, E7, E8, E9, EA, vP pb, .agg #[vU src, vU (n : Int)], vP pb, .agg #[vU src, vU ((n : Int) + 1)], vP pb, .agg #[vU src, vU ((n : Int) + 1 + 1)], vP pb, vP pb, .pointer (some ⟨pb, 104, none⟩), vP cs, vP cs, vP cs, .pointer (some ⟨cs, 15, none⟩), v8 8, .bool true, bF, u137, u138, u139, u140, vP cs, vP pb, vP pb, .pointer (some ⟨pb, 187, none⟩), vP ms, bF, vP cs, vP cs, vP cs, .pointer (some ⟨cs, 5, none⟩), vN, vP cx, vP cx, .pointer (some ⟨cx, 1, none⟩), .agg #[vU src, vU (si : Int)], .agg #[vU src, vU (n : Int)], .agg #[vU src, vU ((n : Int) + 1)], .agg #[vU src, vU ((n : Int) + 1 + 1)], vS (α 12) 4 4, vS (α 13) 4 (4 + α 1013), vP cs, .pointer (some ⟨cs, 5, none⟩), FH, FI, FJ, FK, FL, FM, FN, FO, FP, FQ, FR, FS, FT, FU, FV, FW, FX, FY, FZ, G0, G1, G2, G3, G4, G5, G6, G7, G8, G9, GA, GB, GC, GD, GE, GF, GG, GH, GI, GJ, GK, GL, GM, GN, GO, GP, GQ, GR, GS, GT, GU, GV, GW, GX, GY, GZ, I0, I1, I2, I3, I4, I5, I6, I7, I8, I9, IA, IB, IC, ID, IE, IF, IG, IH, II, IJ, IK, IL, IM, IN, IO, IP, IQ, IR, IS, IT, IU, IV, IW, IX, IY, IZ, J0, J1, J2, J3, J4, J5, J6, J7, J8, J9, JA, JB, JC, JD, JE, JF, JG, JH, JI, JJ, JK, JL, JM, JN, JO, JP, JQ, JR, JS, JT, JU, JV, JW, JX, JY, JZ, M0, M1, M2, M3, M4, M5, M6, M7, M8, M9, MA, MB, MD, ME, MF, MG, MH, MI, MJ, MK, ML, MM, MN, MO, MP, MQ, MR, MS, MT, MU, MV, MW, MX, MY, MZ, N0, N1, N2, N3, N4, N5, N6, N7, N8, N9, NA, NB, NC, ND, NE, NF, NG, NH, NI, NJ, NK, NL, NM, NN, NO, NP, NQ, NR, NS, NT, NU, NV, NW, NX, NY, NZ, O0, O1, O2, O3, O4, O5, O6, O7, O8, O9, OA, OB, OC, OD, OE, OF, OG, OH, OI, OJ, OK, OL, OM, ON, OO, OP, OQ, OR, OS, OT, OU, OV, OW, OX, OY, OZ, P0, P1, P2, P3, P4, P5, P6, P7, P8, P9, PA, PB, PD, PE, PF, PG, PH, PI, PJ, PK, PL, PM, PN], []⟩ := by rw [← hfr]; kernel_rfl
 clear hfr
 subst hdf
 generalize α 12 = nd17 at hO ⊢
 generalize α 13 = nd18 at hO ⊢
 generalize α 1013 = nd19 at hO ⊢
 clear α
 subst hX9_16
 replace hO : Own w0 u [row (B14) 31 #[vU src, vU ((n : Int) + 1 + 1)], row (B9) 31 #[vU src, vU ((n : Int) + 1)], row (B4) 31 #[vU src, vU (n : Int)], row (cx) 33 #[vI loc, vU src, vU (si : Int), .bool awb], row (cs) 99 (KC.setIfInBounds 5 (vS nd18 4 (4 + nd19))), row (nd17) 31 #[vU src, vU (si : Int), vU src, vU (n : Int), vU src, vU ((n : Int) + 1), vU src, vU ((n : Int) + 1 + 1)], row (nd18) 31 (full refZ [vU src, vU (si : Int), vU src, vU (n : Int), vU src, vU ((n : Int) + 1), vU src, vU ((n : Int) + 1 + 1)] (nd19)), row (pb) 252 PC1, row (nd12) 260 (full symZ (symL s3) nd13), row (x5) 25 #[vP pb], ((mp, .map es k) : Rw), row (ms) 99 MC, row (pt) 107 QC, ((mu, .map (uA ul) (uN ul)) : Rw)] X := hO.back HL.out HX.out [1, 2, 5, 7, 8, 9, 10] dc dc
 clear HL HX
 obtain ⟨aQ, af, aD, aE, -⟩ := hO.k2 0 rfl
 obtain ⟨au, av, aa, ab, -⟩ := hO.k2 1 rfl
 obtain ⟨aF, ac, aG, aH, -⟩ := hO.k2 2 rfl
 obtain ⟨aI, aR, aw, ax, aJ, aK, -⟩ := hO.k4 3 rfl
 obtain ⟨aA, bP, bQ, bR, cO, cP, cQ, cR, aB, aC, -⟩ := hO.k8 5 rfl
 obtain ⟨ag, aY, aZ, -⟩ := hO.k1 9 rfl
 have HO := Lib.hid hO
 clear hO
 go_wp2_with (first | (with_reducible refine Own.stay (fn := Tryd.f39) ?_) | (first | (go_at_call 46; go_in)))
 try with_reducible refine Own.Stay.mk ?_
 have hO := HO.out
 clear HO aQ af aD aE au av aa ab aF ac aG aH aI aR aw ax aJ aK aA bP bQ bR cO cP cQ cR aB aC ag aY aZ
 obtain ⟨HL, HX⟩ := hid2 hO
 have hP9 := hO.pick [0, 1, 2, 3, 7, 9, 12] dc
 generalize hX9_20 : Own.Rest _ _ X = X9_20 at hP9
 replace hP9 : Own w0 u [row (B14) 31 #[vU src, vU ((n : Int) + 1 + 1)], row (B9) 31 #[vU src, vU ((n : Int) + 1)], row (B4) 31 #[vU src, vU (n : Int)], row (cx) 33 #[vI loc, vU src, vU (si : Int), .bool awb], row (pb) 252 PC1, row (x5) 25 #[vP pb], row (pt) 107 QC] X9_20 := hP9
 clear hO
 have hO := hP9
 clear hP9
 have st9 := rfinC0b2_st pb n src pt QC cx x5 loc si awb B4 B9 B14 PC1
 let R9 := rfinC0b2R pb n src pt QC cx x5 loc si awb B4 B9 B14 PC1
 refine wp_region_own (e := rfinC0b2E pb n src pt QC cx x5 loc si awb B4 B9 B14 PC1) (anc := rfinC0b2Anc) (G := (fun L9 α u9 => OwnF w0 u9 (act rfinC0b2Cnt 7 L9) (rfinC0b2R pb n src pt QC cx x5 loc si awb B4 B9 B14 PC1 L9 α) X9_20)) (by kernel_rfl) (by kernel_rfl) (by kernel_rfl) (by kernel_rfl) (rfinC0b2_he pb n src pt QC cx x5 loc si awb B4 B9 B14 PC1) ?_ (RunsAll.all ?_) ?_
 ·have hp : ∀ i, act rfinC0b2Cnt 7 (fun _ => false) i → i ∈ [999, 1999, 2999, 3999, 4999, 5999, 6999] := by
   intro i hi
   have h9 : i % 1000 = 999 := by
    by_cases h : i % 1000 = 999
    ·exact h
    ·exact absurd (act_lt hi h) (by simp)
   unfold act at hi
   rw [if_pos h9] at hi
   simp only [List.mem_cons, List.not_mem_nil, or_false]
   omega
  refine hO.drew.family (fun i hi => ?_) (fun i j hi hj hij => ?_)
  ·have := hp i hi
   simp only [List.mem_cons, List.not_mem_nil, or_false] at this
   rcases this with rfl | rfl | rfl | rfl | rfl | rfl | rfl <;> rfl
  ·have h1 := hp i hi
   have h2 := hp j hj
   simp only [List.mem_cons, List.not_mem_nil, or_false] at h1 h2
   omega
 ·refine ⟨?_, ?_, ?_, ?_, ?_, ?_, ?_, ?_, ?_, ?_, ?_, ?_, ?_, ?_, ?_, ?_, ?_, ?_, ?_, ?_, ?_, ?_, ?_, ?_, ?_, ?_, ?_, ?_, ?_, ?_, ?_, trivial⟩
  ·refine pur st9 rfl rfl fun L9 α a9 u9 K9 hL hcl hA hG hS h0 h1 hK => ?_
   have s5 := eS (vP x5) ((h0 5 (by kernel_rfl)).trans rfl)
   have e0 : R9 L9 α 5999 = row (x5) 25 #[vP pb] := rfl
   have hr := hG.rowAt 5999 (act_base 5999 rfl) e0
   have c0 : u9.cell? ⟨x5, 0, none⟩ = some (vP pb) := hr.cell rfl
   clear hr e0
   go_simp
   exact hK
  ·refine pur st9 rfl rfl fun L9 α a9 u9 K9 hL hcl hA hG hS h0 h1 hK => ?_
   have s163 := eS (vP pb) (hS 0 163 dc rfl (ltd 420 rfl))
   go_simp
   exact hK
  ·refine pur st9 rfl rfl fun L9 α a9 u9 K9 hL hcl hA hG hS h0 h1 hK => ?_
   have s164 := eS (vP pb) (hS 1 164 dc rfl (ltd 420 rfl))
   go_simp
   exact hK
  ·refine pur st9 rfl rfl fun L9 α a9 u9 K9 hL hcl hA hG hS h0 h1 hK => ?_
   have s165 := eS (.pointer (some ⟨pb, 105, none⟩)) (hS 2 165 dc rfl (ltd 420 rfl))
   have e0 : R9 L9 α 4999 = row (pb) 252 PC1 := rfl
   have hr := hG.rowAt 4999 (act_base 4999 rfl) e0
   have c0 : u9.cell? ⟨pb, 105, none⟩ = some (vP pt) := hr.cell (h1_105)
   clear hr e0
   go_simp
   exact hK
  ·refine pur st9 rfl rfl fun L9 α a9 u9 K9 hL hcl hA hG hS h0 h1 hK => ?_
   have s5 := eS (vP x5) ((h0 5 (by kernel_rfl)).trans rfl)
   have e0 : R9 L9 α 5999 = row (x5) 25 #[vP pb] := rfl
   have hr := hG.rowAt 5999 (act_base 5999 rfl) e0
   have c0 : u9.cell? ⟨x5, 0, none⟩ = some (vP pb) := hr.cell rfl
   clear hr e0
   go_simp
   exact hK
  ·refine pur st9 rfl rfl fun L9 α a9 u9 K9 hL hcl hA hG hS h0 h1 hK => ?_
   have s167 := eS (vP pb) (hS 4 167 dc rfl (ltd 420 rfl))
   go_simp
   exact hK
  ·refine pur st9 rfl rfl fun L9 α a9 u9 K9 hL hcl hA hG hS h0 h1 hK => ?_
   have s168 := eS (vP pb) (hS 5 168 dc rfl (ltd 420 rfl))
   go_simp
   exact hK
  ·refine pur st9 rfl rfl fun L9 α a9 u9 K9 hL hcl hA hG hS h0 h1 hK => ?_
   have s169 := eS (.pointer (some ⟨pb, 105, none⟩)) (hS 6 169 dc rfl (ltd 420 rfl))
   have e0 : R9 L9 α 4999 = row (pb) 252 PC1 := rfl
   have hr := hG.rowAt 4999 (act_base 4999 rfl) e0
   have c0 : u9.cell? ⟨pb, 105, none⟩ = some (vP pt) := hr.cell (h1_105)
   clear hr e0
   go_simp
   exact hK
  ·refine pur st9 rfl rfl fun L9 α a9 u9 K9 hL hcl hA hG hS h0 h1 hK => ?_
   have s170 := eS (vP pt) (hS 7 170 dc rfl (ltd 420 rfl))
   go_simp
   exact hK
  ·refine pur st9 rfl rfl fun L9 α a9 u9 K9 hL hcl hA hG hS h0 h1 hK => ?_
   have s171 := eS (vP pt) (hS 8 171 dc rfl (ltd 420 rfl))
   go_simp
   exact hK
  ·refine pur st9 rfl rfl fun L9 α a9 u9 K9 hL hcl hA hG hS h0 h1 hK => ?_
   replace hL : L9 10 = false := hL
   have s172 := eS (.pointer (some ⟨pt, 3, none⟩)) (hS 9 172 dc rfl (ltd 420 rfl))
   have e0 : R9 L9 α 6999 = row (pt) 107 QC := by
    show rfinC0b2T6999 pb n src pt QC cx x5 loc si awb B4 B9 B14 PC1 L9 α = _
    unfold rfinC0b2T6999
    rw [if_neg (fun e => by have := hcl 30 e 10 dc; rw [hL] at this; cases this)]
   have hr := hG.rowAt 6999 (act_base 6999 rfl) e0
   have c0 : u9.cell? ⟨pt, 3, none⟩ = some (vN) := hr.cell (hds)
   clear hr e0
   go_simp
   exact hK
  ·refine pur st9 rfl rfl fun L9 α a9 u9 K9 hL hcl hA hG hS h0 h1 hK => ?_
   have q25 : a9.tmps[25]? = some (bF) := (h0 25 (by kernel_rfl)).trans rfl
   have s25 := Rega.eval_of q25
   go_simp
   exact hK
  ·refine pur st9 rfl rfl fun L9 α a9 u9 K9 hL hcl hA hG hS h0 h1 hK => ?_
   have s0 := eS (vP cx) ((h0 0 (by kernel_rfl)).trans rfl)
   go_simp
   exact hK
  ·refine pur st9 rfl rfl fun L9 α a9 u9 K9 hL hcl hA hG hS h0 h1 hK => ?_
   have s175 := eS (vP cx) (hS 12 175 dc rfl (ltd 420 rfl))
   go_simp
   exact hK
  ·refine pur st9 rfl rfl fun L9 α a9 u9 K9 hL hcl hA hG hS h0 h1 hK => ?_
   have s176 := eS (vP cx) (hS 13 176 dc rfl (ltd 420 rfl))
   go_simp
   exact hK
  ·refine pur st9 rfl rfl fun L9 α a9 u9 K9 hL hcl hA hG hS h0 h1 hK => ?_
   have s177 := eS (.pointer (some ⟨cx, 1, none⟩)) (hS 14 177 dc rfl (ltd 420 rfl))
   have e0 : R9 L9 α 3999 = row (cx) 33 #[vI loc, vU src, vU (si : Int), .bool awb] := rfl
   have hr := hG.rowAt 3999 (act_base 3999 rfl) e0
   have c0 : u9.cell? ⟨cx, 1, none⟩ = some (vU src) := hr.cell rfl
   have c1 : u9.cell? ⟨cx, 2, none⟩ = some (vU (si : Int)) := hr.cell rfl
   clear hr e0
   go_simp
   exact hK
  ·refine pur st9 rfl rfl fun L9 α a9 u9 K9 hL hcl hA hG hS h0 h1 hK => ?_
   have q174 : a9.tmps[174]? = some (bF) := hS 11 174 dc rfl (ltd 420 rfl)
   have s174 := Rega.eval_of q174
   have q178 : a9.tmps[178]? = some (.agg #[vU src, vU (si : Int)]) := hS 15 178 dc rfl (ltd 420 rfl)
   have s178 := Rega.eval_of q178
   go_simp
   exact hK
  ·refine pur st9 rfl rfl fun L9 α a9 u9 K9 hL hcl hA hG hS h0 h1 hK => ?_
   have q25 : a9.tmps[25]? = some (bF) := (h0 25 (by kernel_rfl)).trans rfl
   have s25 := Rega.eval_of q25
   go_simp
   exact hK
  ·refine pur st9 rfl rfl fun L9 α a9 u9 K9 hL hcl hA hG hS h0 h1 hK => ?_
   have s21 := eS (vP B4) ((h0 21 (by kernel_rfl)).trans rfl)
   have e0 : R9 L9 α 2999 = row (B4) 31 #[vU src, vU (n : Int)] := rfl
   have hr := hG.rowAt 2999 (act_base 2999 rfl) e0
   have c0 : u9.cell? ⟨B4, 0, none⟩ = some (vU src) := hr.cell rfl
   have c1 : u9.cell? ⟨B4, 1, none⟩ = some (vU (n : Int)) := hr.cell rfl
   clear hr e0
   go_simp
   exact hK
  ·refine pur st9 rfl rfl fun L9 α a9 u9 K9 hL hcl hA hG hS h0 h1 hK => ?_
   have q180 : a9.tmps[180]? = some (bF) := hS 17 180 dc rfl (ltd 420 rfl)
   have s180 := Rega.eval_of q180
   have q181 : a9.tmps[181]? = some (.agg #[vU src, vU (n : Int)]) := hS 18 181 dc rfl (ltd 420 rfl)
   have s181 := Rega.eval_of q181
   go_simp
   exact hK
  ·refine pur st9 rfl rfl fun L9 α a9 u9 K9 hL hcl hA hG hS h0 h1 hK => ?_
   have q25 : a9.tmps[25]? = some (bF) := (h0 25 (by kernel_rfl)).trans rfl
   have s25 := Rega.eval_of q25
   go_simp
   exact hK
  ·refine pur st9 rfl rfl fun L9 α a9 u9 K9 hL hcl hA hG hS h0 h1 hK => ?_
   have s22 := eS (vP B9) ((h0 22 (by kernel_rfl)).trans rfl)
   have e0 : R9 L9 α 1999 = row (B9) 31 #[vU src, vU ((n : Int) + 1)] := rfl
   have hr := hG.rowAt 1999 (act_base 1999 rfl) e0
   have c0 : u9.cell? ⟨B9, 0, none⟩ = some (vU src) := hr.cell rfl
   have c1 : u9.cell? ⟨B9, 1, none⟩ = some (vU ((n : Int) + 1)) := hr.cell rfl
   clear hr e0
   go_simp
   exact hK
  ·refine pur st9 rfl rfl fun L9 α a9 u9 K9 hL hcl hA hG hS h0 h1 hK => ?_
   have q183 : a9.tmps[183]? = some (bF) := hS 20 183 dc rfl (ltd 420 rfl)
   have s183 := Rega.eval_of q183
   have q184 : a9.tmps[184]? = some (.agg #[vU src, vU ((n : Int) + 1)]) := hS 21 184 dc rfl (ltd 420 rfl)
   have s184 := Rega.eval_of q184
   go_simp
   exact hK
  ·refine pur st9 rfl rfl fun L9 α a9 u9 K9 hL hcl hA hG hS h0 h1 hK => ?_
   have q25 : a9.tmps[25]? = some (bF) := (h0 25 (by kernel_rfl)).trans rfl
   have s25 := Rega.eval_of q25
   go_simp
   exact hK
  ·refine pur st9 rfl rfl fun L9 α a9 u9 K9 hL hcl hA hG hS h0 h1 hK => ?_
   have s23 := eS (vP B14) ((h0 23 (by kernel_rfl)).trans rfl)
   have e0 : R9 L9 α 999 = row (B14) 31 #[vU src, vU ((n : Int) + 1 + 1)] := rfl
   have hr := hG.rowAt 999 (act_base 999 rfl) e0
   have c0 : u9.cell? ⟨B14, 0, none⟩ = some (vU src) := hr.cell rfl
   have c1 : u9.cell? ⟨B14, 1, none⟩ = some (vU ((n : Int) + 1 + 1)) := hr.cell rfl
   clear hr e0
   go_simp
   exact hK
  ·refine pur st9 rfl rfl fun L9 α a9 u9 K9 hL hcl hA hG hS h0 h1 hK => ?_
   have q186 : a9.tmps[186]? = some (bF) := hS 23 186 dc rfl (ltd 420 rfl)
   have s186 := Rega.eval_of q186
   have q187 : a9.tmps[187]? = some (.agg #[vU src, vU ((n : Int) + 1 + 1)]) := hS 24 187 dc rfl (ltd 420 rfl)
   have s187 := Rega.eval_of q187
   go_simp
   exact hK
  ·intro L9 α a9 u9 K9 hL hcl hA hG hS h0 h1 hK
   replace hL : L9 26 = false := hL
   have q179 : a9.tmps[179]? = some (.agg #[vU src, vU (si : Int), bF]) := hS 16 179 dc rfl (ltd 420 rfl)
   have s179 := Rega.eval_of q179
   have q182 : a9.tmps[182]? = some (.agg #[vU src, vU (n : Int), bF]) := hS 19 182 dc rfl (ltd 420 rfl)
   have s182 := Rega.eval_of q182
   have q185 : a9.tmps[185]? = some (.agg #[vU src, vU ((n : Int) + 1), bF]) := hS 22 185 dc rfl (ltd 420 rfl)
   have s185 := Rega.eval_of q185
   have q188 : a9.tmps[188]? = some (.agg #[vU src, vU ((n : Int) + 1 + 1), bF]) := hS 25 188 dc rfl (ltd 420 rfl)
   have s188 := Rega.eval_of q188
   go_simp
   exact hK _ (fun j => if j = 26 then u9.heap.size else α j) _ (fun j hj => if_neg (fun e => hj (by rw [e]))) rfl (step_alloc st9 hL hcl rfl rfl dc _ rfl hG)
  ·intro L9 α a9 u9 K9 hL hcl hA hG hS h0 h1 hK
   replace hL : L9 27 = false := hL
   have q173 : a9.tmps[173]? = some (vN) := hS 10 173 dc rfl (ltd 420 rfl)
   have s173 := Rega.eval_of q173
   have q189 : a9.tmps[189]? = some (vS (α 26) 4 4) := hS 26 189 dc rfl (ltd 420 rfl)
   have s189 := Rega.eval_of q189
   simp only [Region.wanted, if_true]
   have e0 : R9 L9 α 26 = row (α 26) 113 #[vU src, vU (si : Int), bF, vU src, vU (n : Int), bF, vU src, vU ((n : Int) + 1), bF, vU src, vU ((n : Int) + 1 + 1), bF] := rfl
   have hM : ∀ i, i ∈ [26] → act rfinC0b2Cnt 7 L9 i := by
    intro i hi
    simp only [List.mem_cons, List.not_mem_nil, or_false] at hi
    subst hi
    exact act_new 26 rfl (hA 26 dc)
   have hP : Own w0 u9 [row (α 26) 113 #[vU src, vU (si : Int), bF, vU src, vU (n : Int), bF, vU src, vU ((n : Int) + 1), bF, vU src, vU ((n : Int) + 1 + 1), bF]] _ := (hG.pick [26] dc hM).conv (by
    show [R9 L9 α 26] = _
    rw [e0])
   clear e0 hM
   obtain ⟨i9, hi9, z1, z2, z3⟩ := info_parts infoDsy
   refine wp_append_full_nil (Operand.tmp 173) (Operand.tmp 189) 101 rfl 113 i9 (.agg dsyZ) 3 12 Tryd.underlying101 hi9 z1 z2 z3 hP s173 s189 rfl dc (by first | decide | omega | (unfold maxLen; omega)) (by first | decide | omega | (unfold maxLen; omega)) ?_
   intro b0 b1 u1 hQ
   obtain ⟨α', hα'⟩ : ∃ α' : Rega.Atoms, α' = (fun j => if j = 27 then b0 else if j = 1027 then b1 else α j) := ⟨_, rfl⟩
   have f0 : R9 (Rega.ran L9 27) α' 27 = row (α' 27) 113 (full dsyZ [vU src, vU (si : Int), bF, vU src, vU (n : Int), bF, vU src, vU ((n : Int) + 1), bF, vU src, vU ((n : Int) + 1 + 1), bF] (α' 1027)) := rfl
   have f1 : R9 (Rega.ran L9 27) α' 26 = row (α' 26) 113 #[vU src, vU (si : Int), bF, vU src, vU (n : Int), bF, vU src, vU ((n : Int) + 1), bF, vU src, vU ((n : Int) + 1 + 1), bF] := rfl
   have hα : ∀ j, j % 1000 ≠ 27 → α' j = α j := fun j hj => by rw [hα']; simp only []; rw [if_neg (by omega), if_neg (by omega)]
   have hb0 : α' 27 = b0 := by rw [hα']; rfl
   have hb1 : α' 1027 = b1 := by rw [hα']; rfl
   have ha26 : α' 26 = α 26 := hα 26 dc
   refine hK _ α' _ hα ?_ (step_call (st9) hL hcl hα [26] [27, 26] dc dc dc (M := _) ?_ hG hQ)
   ·show _ = (vS (α' 27) 4 (4 + α' 1027) : Value)
    simp only [hb0, hb1]
   ·show [R9 (Rega.ran L9 27) α' 27, R9 (Rega.ran L9 27) α' 26] = _
    rw [f0, f1]
    simp only [hb0, hb1, ha26]
    try rfl
  ·refine pur st9 rfl rfl fun L9 α a9 u9 K9 hL hcl hA hG hS h0 h1 hK => ?_
   have s166 := eS (vP pt) (hS 3 166 dc rfl (ltd 420 rfl))
   go_simp
   exact hK
  ·refine pur st9 rfl rfl fun L9 α a9 u9 K9 hL hcl hA hG hS h0 h1 hK => ?_
   have s191 := eS (vP pt) (hS 28 191 dc rfl (ltd 420 rfl))
   go_simp
   exact hK
  ·intro L9 α a9 u9 K9 hL hcl hA hG hS h0 h1 hK
   replace hL : L9 30 = false := hL
   have q192 : a9.tmps[192]? = some (.pointer (some ⟨pt, 3, none⟩)) := hS 29 192 dc rfl (ltd 420 rfl)
   have s192 := Rega.eval_of q192
   have q190 : a9.tmps[190]? = some (vS (α 27) 4 (4 + α 1027)) := hS 27 190 dc rfl (ltd 420 rfl)
   have s190 := Rega.eval_of q190
   have e0 : R9 L9 α 6999 = row (pt) 107 QC := by
    show rfinC0b2T6999 pb n src pt QC cx x5 loc si awb B4 B9 B14 PC1 L9 α = _
    unfold rfinC0b2T6999
    rw [if_neg (by rw [hL]; decide)]
   have hr := hG.rowAt 6999 (act_base 6999 rfl) e0
   have c0 : u9.cell? ⟨pt, 3, none⟩ = some (vN) := hr.cell (hds)
   have y0 : u9.frozen? ⟨pt, 3, none⟩ = false := hr.free (3)
   clear hr
   have E0 := Lib.hid e0
   clear e0
   go_simp
   have e1 : R9 (Rega.ran L9 30) α 6999 = row (pt) 107 (QC.setIfInBounds 3 (vS (α 27) 4 (4 + α 1027))) := by
    show rfinC0b2T6999 pb n src pt QC cx x5 loc si awb B4 B9 B14 PC1 (Rega.ran L9 30) α = _
    unfold rfinC0b2T6999
    rw [if_pos (show Rega.ran L9 30 30 = true from rfl)]
   exact hK _ α _ (fun _ _ => rfl) rfl (step_sets (st9) hL hcl rfl 6999 rfl (act_base 6999 rfl) E0.out (3) [vS (α 27) 4 (4 + α 1027)] (e1.trans rfl) hG)
 clear st9
 intro α u hG
 have e0 : R9 (fun k => decide (k < 31)) α 999 = row (B14) 31 #[vU src, vU ((n : Int) + 1 + 1)] := rfl
 have e1 : R9 (fun k => decide (k < 31)) α 1999 = row (B9) 31 #[vU src, vU ((n : Int) + 1)] := rfl
 have e2 : R9 (fun k => decide (k < 31)) α 2999 = row (B4) 31 #[vU src, vU (n : Int)] := rfl
 have e3 : R9 (fun k => decide (k < 31)) α 3999 = row (cx) 33 #[vI loc, vU src, vU (si : Int), .bool awb] := rfl
 have e4 : R9 (fun k => decide (k < 31)) α 4999 = row (pb) 252 PC1 := rfl
 have e5 : R9 (fun k => decide (k < 31)) α 5999 = row (x5) 25 #[vP pb] := rfl
 have e6 : R9 (fun k => decide (k < 31)) α 6999 = row (pt) 107 (QC.setIfInBounds 3 (vS (α 27) 4 (4 + α 1027))) := by
  show rfinC0b2T6999 pb n src pt QC cx x5 loc si awb B4 B9 B14 PC1 (fun k => decide (k < 31)) α = _
  unfold rfinC0b2T6999
  rw [if_pos dc]
 have e7 : R9 (fun k => decide (k < 31)) α 26 = row (α 26) 113 #[vU src, vU (si : Int), bF, vU src, vU (n : Int), bF, vU src, vU ((n : Int) + 1), bF, vU src, vU ((n : Int) + 1 + 1), bF] := rfl
 have e8 : R9 (fun k => decide (k < 31)) α 27 = row (α 27) 113 (full dsyZ [vU src, vU (si : Int), bF, vU src, vU (n : Int), bF, vU src, vU ((n : Int) + 1), bF, vU src, vU ((n : Int) + 1 + 1), bF] (α 1027)) := rfl
 have hO : Own w0 u [row (B14) 31 #[vU src, vU ((n : Int) + 1 + 1)], row (B9) 31 #[vU src, vU ((n : Int) + 1)], row (B4) 31 #[vU src, vU (n : Int)], row (cx) 33 #[vI loc, vU src, vU (si : Int), .bool awb], row (pb) 252 PC1, row (x5) 25 #[vP pb], row (pt) 107 (QC.setIfInBounds 3 (vS (α 27) 4 (4 + α 1027))), row (α 26) 113 #[vU src, vU (si : Int), bF, vU src, vU (n : Int), bF, vU src, vU ((n : Int) + 1), bF, vU src, vU ((n : Int) + 1 + 1), bF], row (α 27) 113 (full dsyZ [vU src, vU (si : Int), bF, vU src, vU (n : Int), bF, vU src, vU ((n : Int) + 1), bF, vU src, vU ((n : Int) + 1 + 1), bF] (α 1027))] X9_20 := (hG.list [999, 1999, 2999, 3999, 4999, 5999, 6999, 26, 27] dc (act_all dc)).conv (by
  show [R9 (fun k => decide (k < 31)) α 999, R9 (fun k => decide (k < 31)) α 1999, R9 (fun k => decide (k < 31)) α 2999, R9 (fun k => decide (k < 31)) α 3999, R9 (fun k => decide (k < 31)) α 4999, R9 (fun k => decide (k < 31)) α 5999, R9 (fun k => decide (k < 31)) α 6999, R9 (fun k => decide (k < 31)) α 26, R9 (fun k => decide (k < 31)) α 27] = _
  rw [e0, e1, e2, e3, e4, e5, e6, e7, e8])
 clear hG e0 e1 e2 e3 e4 e5 e6 e7 e8 R9
 generalize hfr : Rega.frameAt _ _ _ _ _ = fr
 have hdf : fr = ⟨#[vP cx, A0, sv2, A1, A2, vP x5, A3, A4, A5, rv9, vP e10, A6, A7, A8, A9, AA, AB, AC, AD, AE, AF, vP B4, vP B9, vP B14, vP cs, bF, AL, AM, AN, AO, AP, AQ, AR, AS, AT, AU, AV, AW, AX, AY, AZ, B0, B1, B2, B3, B5, B6, B7, B8, BA, BB, BC, BD, BE, BF, BG, BH, BI, BJ, BK, BL, BM, BN, BO, BP, BQ, BR, BS, BT, BU, BV, BW, BX, BY, BZ, C0, C1, C2, C3, C4, C5, C6, C7, C8, C9, CA, CB, CC, CD, CE, CF, CG, CH, CI, CJ, CK, CL, CM, CN, CO, CP, CQ, CR, CS, CT, CU, CV, CW, CX, CY, CZ, E1, E2, E3, E4, E5, E6, E7, E8, E9, EA, vP pb, .agg #[vU src, vU (n : Int)], vP pb, .agg #[vU src, vU ((n : Int) + 1)], vP pb, .agg #[vU src, vU ((n : Int) + 1 + 1)], vP pb, vP pb, .pointer (some ⟨pb, 104, none⟩), vP cs, vP cs, vP cs, .pointer (some ⟨cs, 15, none⟩), v8 8, .bool true, bF, u137, u138, u139, u140, vP cs, vP pb, vP pb, .pointer (some ⟨pb, 187, none⟩), vP ms, bF, vP cs, vP cs, vP cs, .pointer (some ⟨cs, 5, none⟩), vN, vP cx, vP cx, .pointer (some ⟨cx, 1, none⟩), .agg #[vU src, vU (si : Int)], .agg #[vU src, vU (n : Int)], .agg #[vU src, vU ((n : Int) + 1)], .agg #[vU src, vU ((n : Int) + 1 + 1)], vS nd17 4 4, vS nd18 4 (4 + nd19), vP cs, .pointer (some ⟨cs, 5, none⟩), vP pb, vP pb, .pointer (some ⟨pb, 105, none⟩), vP pt, vP pb, vP pb, .pointer (some ⟨pb, 105, none⟩), vP pt, vP pt, .pointer (some ⟨pt, 3, none⟩), vN, bF, vP cx, vP cx, .pointer (some ⟨cx, 1, none⟩), .agg #[vU src, vU (si : Int)], .agg #[vU src, vU (si : Int), bF], bF, .agg #[vU src, vU (n : Int)], .agg #[vU src, vU (n : Int), bF], bF, .agg #[vU src, vU ((n : Int) + 1)], .agg #[vU src, vU ((n : Int) + 1), bF], bF, .agg #[vU src, vU ((n : Int) + 1 + 1)], .agg #[vU src, vU ((n : Int) + 1 + 1), bF], vS (α 26) 4 4, vS (α 27) 4 (4 + α 1027), vP pt, .pointer (some ⟨pt, 3, none⟩), GB, GC, GD, GE, GF, GG, GH, GI, GJ, GK, GL, GM, GN, GO, GP, GQ, GR, GS, GT, GU, GV, GW, GX, GY, GZ, I0, I1, I2, I3, I4, I5, I6, I7, I8, I9, IA, IB, IC, ID, IE, IF, IG, IH, II, IJ, IK, IL, IM, IN, IO, IP, IQ, IR, IS, IT, IU, IV, IW, IX, IY, IZ, J0, J1, J2, J3, J4, J5, J6, J7, J8, J9, JA, JB, JC, JD, JE, JF, JG, JH, JI, JJ, JK, JL, JM, JN, JO, JP, JQ, JR, JS, JT, JU, JV, JW, JX, JY, JZ, M0, M1, M2, M3, M4, M5, M6, M7, M8, M9, MA, MB, MD, ME, MF, MG, MH, MI, MJ, MK, ML, MM, MN, MO, MP, MQ, MR, MS, MT, MU, MV, MW, MX, MY, MZ, N0, N1, N2, N3, N4, N5, N6, N7, N8, N9, NA, NB, NC, ND, NE, NF, NG, NH, NI, NJ, NK, NL, NM, NN, NO, NP, NQ, NR, NS, NT, NU, NV, NW, NX, NY, NZ, O0, O1, O2, O3, O4, O5, O6, O7, O8, O9, OA, OB, OC, OD, OE, OF, OG, OH, OI, OJ, OK, OL, OM, ON, OO, OP, OQ, OR, OS, OT, OU, OV, OW, OX, OY, OZ, P0, P1, P2, P3, P4, P5, P6, P7, P8, P9, PA, PB, PD, PE, PF, PG, PH, PI, PJ, PK, PL, PM, PN], []⟩ := by rw [← hfr]; kernel_rfl
 clear hfr
 subst hdf
 generalize α 26 = nd21 at hO ⊢
 generalize α 27 = nd22 at hO ⊢
 generalize α 1027 = nd23 at hO ⊢
 clear α
 subst hX9_20
 replace hO : Own w0 u [row (B14) 31 #[vU src, vU ((n : Int) + 1 + 1)], row (B9) 31 #[vU src, vU ((n : Int) + 1)], row (B4) 31 #[vU src, vU (n : Int)], row (cx) 33 #[vI loc, vU src, vU (si : Int), .bool awb], row (pb) 252 PC1, row (x5) 25 #[vP pb], row (pt) 107 (QC.setIfInBounds 3 (vS nd22 4 (4 + nd23))), row (nd21) 113 #[vU src, vU (si : Int), bF, vU src, vU (n : Int), bF, vU src, vU ((n : Int) + 1), bF, vU src, vU ((n : Int) + 1 + 1), bF], row (nd22) 113 (full dsyZ [vU src, vU (si : Int), bF, vU src, vU (n : Int), bF, vU src, vU ((n : Int) + 1), bF, vU src, vU ((n : Int) + 1 + 1), bF] (nd23)), row (cs) 99 (KC.setIfInBounds 5 (vS nd18 4 (4 + nd19))), row (nd17) 31 #[vU src, vU (si : Int), vU src, vU (n : Int), vU src, vU ((n : Int) + 1), vU src, vU ((n : Int) + 1 + 1)], row (nd18) 31 (full refZ [vU src, vU (si : Int), vU src, vU (n : Int), vU src, vU ((n : Int) + 1), vU src, vU ((n : Int) + 1 + 1)] (nd19)), row (nd12) 260 (full symZ (symL s3) nd13), ((mp, .map es k) : Rw), row (ms) 99 MC, ((mu, .map (uA ul) (uN ul)) : Rw)] X := hO.back HL.out HX.out [4, 5, 6, 8, 10, 11, 13] dc dc
 clear HL HX
 obtain ⟨aQ, af, aD, aE, -⟩ := hO.k2 0 rfl
 obtain ⟨au, av, aa, ab, -⟩ := hO.k2 1 rfl
 obtain ⟨aF, ac, aG, aH, -⟩ := hO.k2 2 rfl
 obtain ⟨aI, aR, aw, ax, aJ, aK, -⟩ := hO.k4 3 rfl
 obtain ⟨aA, aB, aC, -⟩ := hO.k1 5 rfl
 obtain ⟨cS, cT, cU, cV, cW, bS, cX, cY, bT, bU, -⟩ := hO.k8 10 rfl
 have HO := Lib.hid hO
 clear hO
 go_wp2_with (first | (with_reducible refine Own.stay (fn := Tryd.f39) ?_) | (first | (go_at_call 46; go_in)))
 try with_reducible refine Own.Stay.mk ?_
 have hO := HO.out
 clear HO aQ af aD aE au av aa ab aF ac aG aH aI aR aw ax aJ aK aA aB aC cS cT cU cV cW bS cX cY bT bU
 generalize hW : World.alloc _ _ = W25
 have hN : Own w0 W25 [row (u.heap.size) 28 #[vI loc], row (B14) 31 #[vU src, vU ((n : Int) + 1 + 1)], row (B9) 31 #[vU src, vU ((n : Int) + 1)], row (B4) 31 #[vU src, vU (n : Int)], row (cx) 33 #[vI loc, vU src, vU (si : Int), .bool awb], row (pb) 252 PC1, row (x5) 25 #[vP pb], row (pt) 107 (QC.setIfInBounds 3 (vS nd22 4 (4 + nd23))), row (nd21) 113 #[vU src, vU (si : Int), bF, vU src, vU (n : Int), bF, vU src, vU ((n : Int) + 1), bF, vU src, vU ((n : Int) + 1 + 1), bF], row (nd22) 113 (full dsyZ [vU src, vU (si : Int), bF, vU src, vU (n : Int), bF, vU src, vU ((n : Int) + 1), bF, vU src, vU ((n : Int) + 1 + 1), bF] (nd23)), row (cs) 99 (KC.setIfInBounds 5 (vS nd18 4 (4 + nd19))), row (nd17) 31 #[vU src, vU (si : Int), vU src, vU (n : Int), vU src, vU ((n : Int) + 1), vU src, vU ((n : Int) + 1 + 1)], row (nd18) 31 (full refZ [vU src, vU (si : Int), vU src, vU (n : Int), vU src, vU ((n : Int) + 1), vU src, vU ((n : Int) + 1 + 1)] (nd19)), row (nd12) 260 (full symZ (symL s3) nd13), ((mp, .map es k) : Rw), row (ms) 99 MC, ((mu, .map (uA ul) (uN ul)) : Rw)] X := by
  rw [← hW]
  exact (hO).alloc' _ (u.heap.size) (by simp)
 clear hW hO
 generalize u.heap.size = B24 at hN ⊢
 have hO := hN
 clear hN
 obtain ⟨HL, HX⟩ := hid2 hO
 have hP9 := hO.pick [4, 5, 6, 7, 13, 16] dc
 generalize hX9_26 : Own.Rest _ _ X = X9_26 at hP9
 replace hP9 : Own w0 W25 [row (cx) 33 #[vI loc, vU src, vU (si : Int), .bool awb], row (pb) 252 PC1, row (x5) 25 #[vP pb], row (pt) 107 (QC.setIfInBounds 3 (vS nd22 4 (4 + nd23))), row (nd12) 260 (full symZ (symL s3) nd13), ((mu, .map (uA ul) (uN ul)) : Rw)] X9_26 := hP9
 clear hO
 have hO := hP9
 clear hP9
 have st9 := rfinC0b3_st pb src pt QC mu ul cx x5 loc si awb nd12 nd13 PC1 s3 nd22 nd23
 let R9 := rfinC0b3R pb src pt QC mu ul cx x5 loc si awb nd12 nd13 PC1 s3 nd22 nd23
 refine wp_region_own (e := rfinC0b3E pb src pt QC mu ul cx x5 loc si awb nd12 nd13 PC1 s3 nd22 nd23) (anc := rfinC0b3Anc) (G := (fun L9 α u9 => OwnF w0 u9 (act rfinC0b3Cnt 6 L9) (rfinC0b3R pb src pt QC mu ul cx x5 loc si awb nd12 nd13 PC1 s3 nd22 nd23 L9 α) X9_26)) (by kernel_rfl) (by kernel_rfl) (by kernel_rfl) (by kernel_rfl) (rfinC0b3_he pb src pt QC mu ul cx x5 loc si awb nd12 nd13 PC1 s3 nd22 nd23) ?_ (RunsAll.all ?_) ?_
 ·have hp : ∀ i, act rfinC0b3Cnt 6 (fun _ => false) i → i ∈ [999, 1999, 2999, 3999, 4999, 5999] := by
   intro i hi
   have h9 : i % 1000 = 999 := by
    by_cases h : i % 1000 = 999
    ·exact h
    ·exact absurd (act_lt hi h) (by simp)
   unfold act at hi
   rw [if_pos h9] at hi
   simp only [List.mem_cons, List.not_mem_nil, or_false]
   omega
  refine hO.drew.family (fun i hi => ?_) (fun i j hi hj hij => ?_)
  ·have := hp i hi
   simp only [List.mem_cons, List.not_mem_nil, or_false] at this
   rcases this with rfl | rfl | rfl | rfl | rfl | rfl <;> rfl
  ·have h1 := hp i hi
   have h2 := hp j hj
   simp only [List.mem_cons, List.not_mem_nil, or_false] at h1 h2
   omega
 ·refine ⟨?_, ?_, ?_, ?_, ?_, ?_, trivial⟩
  ·refine pur st9 rfl rfl fun L9 α a9 u9 K9 hL hcl hA hG hS h0 h1 hK => ?_
   have s5 := eS (vP x5) ((h0 5 (by kernel_rfl)).trans rfl)
   have e0 : R9 L9 α 2999 = row (x5) 25 #[vP pb] := rfl
   have hr := hG.rowAt 2999 (act_base 2999 rfl) e0
   have c0 : u9.cell? ⟨x5, 0, none⟩ = some (vP pb) := hr.cell rfl
   clear hr e0
   go_simp
   exact hK
  ·refine pur st9 rfl rfl fun L9 α a9 u9 K9 hL hcl hA hG hS h0 h1 hK => ?_
   have s0 := eS (vP cx) ((h0 0 (by kernel_rfl)).trans rfl)
   go_simp
   exact hK
  ·refine pur st9 rfl rfl fun L9 α a9 u9 K9 hL hcl hA hG hS h0 h1 hK => ?_
   have s198 := eS (vP cx) (hS 1 198 dc rfl (ltd 420 rfl))
   go_simp
   exact hK
  ·refine pur st9 rfl rfl fun L9 α a9 u9 K9 hL hcl hA hG hS h0 h1 hK => ?_
   have s199 := eS (vP cx) (hS 2 199 dc rfl (ltd 420 rfl))
   go_simp
   exact hK
  ·refine pur st9 rfl rfl fun L9 α a9 u9 K9 hL hcl hA hG hS h0 h1 hK => ?_
   have s200 := eS (.pointer (some ⟨cx, 1, none⟩)) (hS 3 200 dc rfl (ltd 420 rfl))
   have e0 : R9 L9 α 999 = row (cx) 33 #[vI loc, vU src, vU (si : Int), .bool awb] := rfl
   have hr := hG.rowAt 999 (act_base 999 rfl) e0
   have c0 : u9.cell? ⟨cx, 1, none⟩ = some (vU src) := hr.cell rfl
   have c1 : u9.cell? ⟨cx, 2, none⟩ = some (vU (si : Int)) := hr.cell rfl
   clear hr e0
   go_simp
   exact hK
  ·intro L9 α a9 u9 K9 hL hcl hA hG hS h0 h1 hK
   replace hL : L9 5 = false := hL
   have q197 : a9.tmps[197]? = some (vP pb) := hS 0 197 dc rfl (ltd 420 rfl)
   have s197 := Rega.eval_of q197
   have q201 : a9.tmps[201]? = some (.agg #[vU src, vU (si : Int)]) := hS 4 201 dc rfl (ltd 420 rfl)
   have s201 := Rega.eval_of q201
   go_simp
   have e0 : R9 L9 α 1999 = row (pb) 252 PC1 := rfl
   have e1 : R9 L9 α 4999 = row (nd12) 260 (full symZ (symL s3) nd13) := by
    show rfinC0b3T4999 pb src pt QC mu ul cx x5 loc si awb nd12 nd13 PC1 s3 nd22 nd23 L9 α = _
    unfold rfinC0b3T4999
    rw [if_neg (by rw [hL]; decide)]
   have e2 : R9 L9 α 3999 = row (pt) 107 (QC.setIfInBounds 3 (vS nd22 4 (4 + nd23))) := rfl
   have e3 : R9 L9 α 5999 = ((mu, .map (uA ul) (uN ul)) : Rw) := by
    show rfinC0b3T5999 pb src pt QC mu ul cx x5 loc si awb nd12 nd13 PC1 s3 nd22 nd23 L9 α = _
    unfold rfinC0b3T5999
    rw [if_neg (by rw [hL]; decide)]
   have hM : ∀ i, i ∈ [1999, 4999, 3999, 5999] → act rfinC0b3Cnt 6 L9 i := by
    intro i hi
    simp only [List.mem_cons, List.not_mem_nil, or_false] at hi
    rcases hi with rfl | rfl | rfl | rfl
    ·exact act_base 1999 rfl
    ·exact act_base 4999 rfl
    ·exact act_base 3999 rfl
    ·exact act_base 5999 rfl
   have hP : Own w0 u9 [row (pb) 252 PC1, row (nd12) 260 (full symZ (symL s3) nd13), row (pt) 107 (QC.setIfInBounds 3 (vS nd22 4 (4 + nd23))), ((mu, .map (uA ul) (uN ul)) : Rw)] _ := (hG.pick [1999, 4999, 3999, 5999] dc hM).conv (by
    show [R9 L9 α 1999, R9 L9 α 4999, R9 L9 α 3999, R9 L9 α 5999] = _
    rw [e0, e1, e2, e3])
   clear e0 e1 e2 e3 hM
   refine Calls.mono (useP pb PC1 nd12 nd13 s3 (((n + 1) + 1) + 1) pt (QC.setIfInBounds 3 (vS nd22 4 (4 + nd23))) mu ul src si _ _ _ hP h1_350 h1_32 h1_105 h1_106 (by first | assumption | (simp; done) | (simp [bump_length]; done) | (simp [bump_length]; omega)) (by omega) (get_other hsu (by omega) _) (by omega)) ?_
   rintro e9 u1 ⟨rfl, hQ⟩
   obtain ⟨α', hα'⟩ : ∃ α' : Rega.Atoms, α' = α := ⟨_, rfl⟩
   have f0 : R9 (Rega.ran L9 5) α' 1999 = row (pb) 252 PC1 := rfl
   have f1 : R9 (Rega.ran L9 5) α' 4999 = row (nd12) 260 (full symZ (symL (bump s3 si)) nd13) := by
    show rfinC0b3T4999 pb src pt QC mu ul cx x5 loc si awb nd12 nd13 PC1 s3 nd22 nd23 (Rega.ran L9 5) α' = _
    unfold rfinC0b3T4999
    rw [if_pos (show Rega.ran L9 5 5 = true from rfl)]
   have f2 : R9 (Rega.ran L9 5) α' 3999 = row (pt) 107 (QC.setIfInBounds 3 (vS nd22 4 (4 + nd23))) := rfl
   have f3 : R9 (Rega.ran L9 5) α' 5999 = ((mu, .map (uA (ubump ul src (si : Int))) (uN (ubump ul src (si : Int)))) : Rw) := by
    show rfinC0b3T5999 pb src pt QC mu ul cx x5 loc si awb nd12 nd13 PC1 s3 nd22 nd23 (Rega.ran L9 5) α' = _
    unfold rfinC0b3T5999
    rw [if_pos (show Rega.ran L9 5 5 = true from rfl)]
   have hα : ∀ j, j % 1000 ≠ 5 → α' j = α j := fun j hj => by rw [hα']
   skip
   refine hK _ α' _ hα ?_ (step_call (st9) hL hcl hα [1999, 4999, 3999, 5999] [1999, 4999, 3999, 5999] dc dc dc (M := _) ?_ hG hQ)
   ·rfl
   ·show [R9 (Rega.ran L9 5) α' 1999, R9 (Rega.ran L9 5) α' 4999, R9 (Rega.ran L9 5) α' 3999, R9 (Rega.ran L9 5) α' 5999] = _
    rw [f0, f1, f2, f3]
 clear st9
 intro α u hG
 have e0 : R9 (fun k => decide (k < 6)) α 999 = row (cx) 33 #[vI loc, vU src, vU (si : Int), .bool awb] := rfl
 have e1 : R9 (fun k => decide (k < 6)) α 1999 = row (pb) 252 PC1 := rfl
 have e2 : R9 (fun k => decide (k < 6)) α 2999 = row (x5) 25 #[vP pb] := rfl
 have e3 : R9 (fun k => decide (k < 6)) α 3999 = row (pt) 107 (QC.setIfInBounds 3 (vS nd22 4 (4 + nd23))) := rfl
 have e4 : R9 (fun k => decide (k < 6)) α 4999 = row (nd12) 260 (full symZ (symL (bump s3 si)) nd13) := by
  show rfinC0b3T4999 pb src pt QC mu ul cx x5 loc si awb nd12 nd13 PC1 s3 nd22 nd23 (fun k => decide (k < 6)) α = _
  unfold rfinC0b3T4999
  rw [if_pos dc]
 have e5 : R9 (fun k => decide (k < 6)) α 5999 = ((mu, .map (uA (ubump ul src (si : Int))) (uN (ubump ul src (si : Int)))) : Rw) := by
  show rfinC0b3T5999 pb src pt QC mu ul cx x5 loc si awb nd12 nd13 PC1 s3 nd22 nd23 (fun k => decide (k < 6)) α = _
  unfold rfinC0b3T5999
  rw [if_pos dc]
 have hO : Own w0 u [row (cx) 33 #[vI loc, vU src, vU (si : Int), .bool awb], row (pb) 252 PC1, row (x5) 25 #[vP pb], row (pt) 107 (QC.setIfInBounds 3 (vS nd22 4 (4 + nd23))), row (nd12) 260 (full symZ (symL (bump s3 si)) nd13), ((mu, .map (uA (ubump ul src (si : Int))) (uN (ubump ul src (si : Int)))) : Rw)] X9_26 := (hG.list [999, 1999, 2999, 3999, 4999, 5999] dc (act_all dc)).conv (by
  show [R9 (fun k => decide (k < 6)) α 999, R9 (fun k => decide (k < 6)) α 1999, R9 (fun k => decide (k < 6)) α 2999, R9 (fun k => decide (k < 6)) α 3999, R9 (fun k => decide (k < 6)) α 4999, R9 (fun k => decide (k < 6)) α 5999] = _
  rw [e0, e1, e2, e3, e4, e5])
 clear hG e0 e1 e2 e3 e4 e5 R9
 generalize hfr : Rega.frameAt _ _ _ _ _ = fr
 have hdf : fr = ⟨#[vP cx, A0, sv2, A1, A2, vP x5, A3, A4, A5, rv9, vP e10, A6, A7, A8, A9, AA, AB, AC, AD, AE, AF, vP B4, vP B9, vP B14, vP cs, bF, vP B24, AM, AN, AO, AP, AQ, AR, AS, AT, AU, AV, AW, AX, AY, AZ, B0, B1, B2, B3, B5, B6, B7, B8, BA, BB, BC, BD, BE, BF, BG, BH, BI, BJ, BK, BL, BM, BN, BO, BP, BQ, BR, BS, BT, BU, BV, BW, BX, BY, BZ, C0, C1, C2, C3, C4, C5, C6, C7, C8, C9, CA, CB, CC, CD, CE, CF, CG, CH, CI, CJ, CK, CL, CM, CN, CO, CP, CQ, CR, CS, CT, CU, CV, CW, CX, CY, CZ, E1, E2, E3, E4, E5, E6, E7, E8, E9, EA, vP pb, .agg #[vU src, vU (n : Int)], vP pb, .agg #[vU src, vU ((n : Int) + 1)], vP pb, .agg #[vU src, vU ((n : Int) + 1 + 1)], vP pb, vP pb, .pointer (some ⟨pb, 104, none⟩), vP cs, vP cs, vP cs, .pointer (some ⟨cs, 15, none⟩), v8 8, .bool true, bF, u137, u138, u139, u140, vP cs, vP pb, vP pb, .pointer (some ⟨pb, 187, none⟩), vP ms, bF, vP cs, vP cs, vP cs, .pointer (some ⟨cs, 5, none⟩), vN, vP cx, vP cx, .pointer (some ⟨cx, 1, none⟩), .agg #[vU src, vU (si : Int)], .agg #[vU src, vU (n : Int)], .agg #[vU src, vU ((n : Int) + 1)], .agg #[vU src, vU ((n : Int) + 1 + 1)], vS nd17 4 4, vS nd18 4 (4 + nd19), vP cs, .pointer (some ⟨cs, 5, none⟩), vP pb, vP pb, .pointer (some ⟨pb, 105, none⟩), vP pt, vP pb, vP pb, .pointer (some ⟨pb, 105, none⟩), vP pt, vP pt, .pointer (some ⟨pt, 3, none⟩), vN, bF, vP cx, vP cx, .pointer (some ⟨cx, 1, none⟩), .agg #[vU src, vU (si : Int)], .agg #[vU src, vU (si : Int), bF], bF, .agg #[vU src, vU (n : Int)], .agg #[vU src, vU (n : Int), bF], bF, .agg #[vU src, vU ((n : Int) + 1)], .agg #[vU src, vU ((n : Int) + 1), bF], bF, .agg #[vU src, vU ((n : Int) + 1 + 1)], .agg #[vU src, vU ((n : Int) + 1 + 1), bF], vS nd21 4 4, vS nd22 4 (4 + nd23), vP pt, .pointer (some ⟨pt, 3, none⟩), vP cx, vP cx, vP cx, .agg #[vI loc], vP pb, vP cx, vP cx, .pointer (some ⟨cx, 1, none⟩), .agg #[vU src, vU (si : Int)], .tuple #[], GL, GM, GN, GO, GP, GQ, GR, GS, GT, GU, GV, GW, GX, GY, GZ, I0, I1, I2, I3, I4, I5, I6, I7, I8, I9, IA, IB, IC, ID, IE, IF, IG, IH, II, IJ, IK, IL, IM, IN, IO, IP, IQ, IR, IS, IT, IU, IV, IW, IX, IY, IZ, J0, J1, J2, J3, J4, J5, J6, J7, J8, J9, JA, JB, JC, JD, JE, JF, JG, JH, JI, JJ, JK, JL, JM, JN, JO, JP, JQ, JR, JS, JT, JU, JV, JW, JX, JY, JZ, M0, M1, M2, M3, M4, M5, M6, M7, M8, M9, MA, MB, MD, ME, MF, MG, MH, MI, MJ, MK, ML, MM, MN, MO, MP, MQ, MR, MS, MT, MU, MV, MW, MX, MY, MZ, N0, N1, N2, N3, N4, N5, N6, N7, N8, N9, NA, NB, NC, ND, NE, NF, NG, NH, NI, NJ, NK, NL, NM, NN, NO, NP, NQ, NR, NS, NT, NU, NV, NW, NX, NY, NZ, O0, O1, O2, O3, O4, O5, O6, O7, O8, O9, OA, OB, OC, OD, OE, OF, OG, OH, OI, OJ, OK, OL, OM, ON, OO, OP, OQ, OR, OS, OT, OU, OV, OW, OX, OY, OZ, P0, P1, P2, P3, P4, P5, P6, P7, P8, P9, PA, PB, PD, PE, PF, PG, PH, PI, PJ, PK, PL, PM, PN], []⟩ := by rw [← hfr]; kernel_rfl
 clear hfr
 subst hdf
 clear α
 subst hX9_26
 replace hO : Own w0 u [row (cx) 33 #[vI loc, vU src, vU (si : Int), .bool awb], row (pb) 252 PC1, row (x5) 25 #[vP pb], row (pt) 107 (QC.setIfInBounds 3 (vS nd22 4 (4 + nd23))), row (nd12) 260 (full symZ (symL (bump s3 si)) nd13), ((mu, .map (uA (ubump ul src (si : Int))) (uN (ubump ul src (si : Int)))) : Rw), row (B24) 28 #[vI loc], row (B14) 31 #[vU src, vU ((n : Int) + 1 + 1)], row (B9) 31 #[vU src, vU ((n : Int) + 1)], row (B4) 31 #[vU src, vU (n : Int)], row (nd21) 113 #[vU src, vU (si : Int), bF, vU src, vU (n : Int), bF, vU src, vU ((n : Int) + 1), bF, vU src, vU ((n : Int) + 1 + 1), bF], row (nd22) 113 (full dsyZ [vU src, vU (si : Int), bF, vU src, vU (n : Int), bF, vU src, vU ((n : Int) + 1), bF, vU src, vU ((n : Int) + 1 + 1), bF] (nd23)), row (cs) 99 (KC.setIfInBounds 5 (vS nd18 4 (4 + nd19))), row (nd17) 31 #[vU src, vU (si : Int), vU src, vU (n : Int), vU src, vU ((n : Int) + 1), vU src, vU ((n : Int) + 1 + 1)], row (nd18) 31 (full refZ [vU src, vU (si : Int), vU src, vU (n : Int), vU src, vU ((n : Int) + 1), vU src, vU ((n : Int) + 1 + 1)] (nd19)), ((mp, .map es k) : Rw), row (ms) 99 MC] X := hO.back HL.out HX.out [0, 1, 2, 3, 8, 9, 10, 11, 12, 14, 15] dc dc
 clear HL HX
 obtain ⟨aQ, af, cZ, ca, aD, aE, -⟩ := hO.k4 0 rfl
 obtain ⟨aF, aG, aH, -⟩ := hO.k1 2 rfl
 obtain ⟨aV, aW, aX, -⟩ := hO.k1 6 rfl
 obtain ⟨ah, ai, aT, aU, -⟩ := hO.k2 7 rfl
 obtain ⟨aj, ak, aO, aP, -⟩ := hO.k2 8 rfl
 obtain ⟨ag, ay, aY, aZ, -⟩ := hO.k2 9 rfl
 obtain ⟨al, am, an, ao, ap, az, bA, bB, aq, ar, -⟩ := hO.k8 13 rfl
 have HO := Lib.hid hO
 clear hO
 go_wp2_with (first | (with_reducible refine Own.stay (fn := Tryd.f39) ?_) | (first | (go_at_call 46; go_in)))
 try with_reducible refine Own.Stay.mk ?_
 have hO := HO.out
 clear HO aQ af cZ ca aD aE aF aG aH aV aW aX ah ai aT aU aj ak aO aP ag ay aY aZ al am an ao ap az bA bB aq ar
 obtain ⟨HL, HX⟩ := hid2 hO
 have hP9 := hO.pick [1, 4, 3, 5] dc
 have h9_hn : (bump s3 si).length = (((n + 1) + 1) + 1) := (by first | assumption | (simp; done) | (simp [bump_length]; done) | (simp [bump_length]; omega))
 have h9_hnb : (((n + 1) + 1) + 1) ≤ 4000000 := (by omega)
 have h9_hi : (n + 1) < (((n + 1) + 1) + 1) := (by omega)
 have T9 := useP pb PC1 nd12 nd13 (bump s3 si) (((n + 1) + 1) + 1) pt (QC.setIfInBounds 3 (vS nd22 4 (4 + nd23))) mu (ubump ul src (si : Int)) src (n + 1) _ _ _ hP9 h1_350 h1_32 h1_105 h1_106 h9_hn h9_hnb (get_other hsu (by omega) _) h9_hi
 refine Calls.mono T9 ?_
 clear hP9 T9 h9_hn h9_hnb h9_hi
 rintro e uw27 ⟨rfl, hQ⟩
 replace hO : Own w0 uw27 [row (pb) 252 PC1, row (nd12) 260 (full symZ (symL (bump (bump s3 si) (n + 1))) nd13), row (pt) 107 (QC.setIfInBounds 3 (vS nd22 4 (4 + nd23))), ((mu, .map (uA (ubump (ubump ul src (si : Int)) src ((n + 1) : Int))) (uN (ubump (ubump ul src (si : Int)) src ((n + 1) : Int)))) : Rw), row (cx) 33 #[vI loc, vU src, vU (si : Int), .bool awb], row (x5) 25 #[vP pb], row (B24) 28 #[vI loc], row (B14) 31 #[vU src, vU ((n : Int) + 1 + 1)], row (B9) 31 #[vU src, vU ((n : Int) + 1)], row (B4) 31 #[vU src, vU (n : Int)], row (nd21) 113 #[vU src, vU (si : Int), bF, vU src, vU (n : Int), bF, vU src, vU ((n : Int) + 1), bF, vU src, vU ((n : Int) + 1 + 1), bF], row (nd22) 113 (full dsyZ [vU src, vU (si : Int), bF, vU src, vU (n : Int), bF, vU src, vU ((n : Int) + 1), bF, vU src, vU ((n : Int) + 1 + 1), bF] (nd23)), row (cs) 99 (KC.setIfInBounds 5 (vS nd18 4 (4 + nd19))), row (nd17) 31 #[vU src, vU (si : Int), vU src, vU (n : Int), vU src, vU ((n : Int) + 1), vU src, vU ((n : Int) + 1 + 1)], row (nd18) 31 (full refZ [vU src, vU (si : Int), vU src, vU (n : Int), vU src, vU ((n : Int) + 1), vU src, vU ((n : Int) + 1 + 1)] (nd19)), ((mp, .map es k) : Rw), row (ms) 99 MC] X := hQ.back HL.out HX.out [0, 2, 6, 7, 8, 9, 10, 11, 12, 13, 14, 15, 16] dc dc
 clear hQ HL HX
 obtain ⟨aL, aS, ad, ae, aM, aN, -⟩ := hO.k4 4 rfl
 obtain ⟨aA, aB, aC, -⟩ := hO.k1 5 rfl
 obtain ⟨aV, aW, aX, -⟩ := hO.k1 6 rfl
 obtain ⟨ah, ai, aT, aU, -⟩ := hO.k2 7 rfl
 obtain ⟨aj, ak, aO, aP, -⟩ := hO.k2 8 rfl
 obtain ⟨ag, ay, aY, aZ, -⟩ := hO.k2 9 rfl
 obtain ⟨al, am, an, ao, ap, az, bA, bB, aq, ar, -⟩ := hO.k8 13 rfl
 have HO := Lib.hid hO
 clear hO
 go_wp2_with (first | (with_reducible refine Own.stay (fn := Tryd.f39) ?_) | (first | (go_at_call 46; go_in)))
 try with_reducible refine Own.Stay.mk ?_
 have hO := HO.out
 clear HO aL aS ad ae aM aN aA aB aC aV aW aX ah ai aT aU aj ak aO aP ag ay aY aZ al am an ao ap az bA bB aq ar
 obtain ⟨HL, HX⟩ := hid2 hO
 have hP9 := hO.pick [0, 1, 2, 3] dc
 have h9_hn : (bump (bump s3 si) (n + 1)).length = (((n + 1) + 1) + 1) := (by first | assumption | (simp; done) | (simp [bump_length]; done) | (simp [bump_length]; omega))
 have h9_hnb : (((n + 1) + 1) + 1) ≤ 4000000 := (by omega)
 have h9_hi : (n + 1 + 1) < (((n + 1) + 1) + 1) := (by omega)
 have T9 := useP pb PC1 nd12 nd13 (bump (bump s3 si) (n + 1)) (((n + 1) + 1) + 1) pt (QC.setIfInBounds 3 (vS nd22 4 (4 + nd23))) mu (ubump (ubump ul src (si : Int)) src ((n + 1) : Int)) src (n + 1 + 1) _ _ _ hP9 h1_350 h1_32 h1_105 h1_106 h9_hn h9_hnb (get_other hsu (by omega) _) h9_hi
 refine Calls.mono T9 ?_
 clear hP9 T9 h9_hn h9_hnb h9_hi
 rintro e uw28 ⟨rfl, hQ⟩
 replace hO : Own w0 uw28 [row (pb) 252 PC1, row (nd12) 260 (full symZ (symL (bump (bump (bump s3 si) (n + 1)) (n + 1 + 1))) nd13), row (pt) 107 (QC.setIfInBounds 3 (vS nd22 4 (4 + nd23))), ((mu, .map (uA (ubump (ubump (ubump ul src (si : Int)) src ((n + 1) : Int)) src ((n + 1 + 1) : Int))) (uN (ubump (ubump (ubump ul src (si : Int)) src ((n + 1) : Int)) src ((n + 1 + 1) : Int)))) : Rw), row (cx) 33 #[vI loc, vU src, vU (si : Int), .bool awb], row (x5) 25 #[vP pb], row (B24) 28 #[vI loc], row (B14) 31 #[vU src, vU ((n : Int) + 1 + 1)], row (B9) 31 #[vU src, vU ((n : Int) + 1)], row (B4) 31 #[vU src, vU (n : Int)], row (nd21) 113 #[vU src, vU (si : Int), bF, vU src, vU (n : Int), bF, vU src, vU ((n : Int) + 1), bF, vU src, vU ((n : Int) + 1 + 1), bF], row (nd22) 113 (full dsyZ [vU src, vU (si : Int), bF, vU src, vU (n : Int), bF, vU src, vU ((n : Int) + 1), bF, vU src, vU ((n : Int) + 1 + 1), bF] (nd23)), row (cs) 99 (KC.setIfInBounds 5 (vS nd18 4 (4 + nd19))), row (nd17) 31 #[vU src, vU (si : Int), vU src, vU (n : Int), vU src, vU ((n : Int) + 1), vU src, vU ((n : Int) + 1 + 1)], row (nd18) 31 (full refZ [vU src, vU (si : Int), vU src, vU (n : Int), vU src, vU ((n : Int) + 1), vU src, vU ((n : Int) + 1 + 1)] (nd19)), ((mp, .map es k) : Rw), row (ms) 99 MC] X := hQ.back HL.out HX.out [4, 5, 6, 7, 8, 9, 10, 11, 12, 13, 14, 15, 16] dc dc
 clear hQ HL HX
 obtain ⟨aL, aS, ad, ae, aM, aN, -⟩ := hO.k4 4 rfl
 obtain ⟨aA, aB, aC, -⟩ := hO.k1 5 rfl
 obtain ⟨aV, aW, aX, -⟩ := hO.k1 6 rfl
 obtain ⟨ah, ai, aT, aU, -⟩ := hO.k2 7 rfl
 obtain ⟨aj, ak, aO, aP, -⟩ := hO.k2 8 rfl
 obtain ⟨ag, ay, aY, aZ, -⟩ := hO.k2 9 rfl
 obtain ⟨al, am, an, ao, ap, az, bA, bB, aq, ar, -⟩ := hO.k8 13 rfl
 have HO := Lib.hid hO
 clear hO
 go_wp2_with (first | (with_reducible refine Own.stay (fn := Tryd.f39) ?_) | (first | (go_at_call 46; go_in)))
 try with_reducible refine Own.Stay.mk ?_
 have hO := HO.out
 clear HO aL aS ad ae aM aN aA aB aC aV aW aX ah ai aT aU aj ak aO aP ag ay aY aZ al am an ao ap az bA bB aq ar
 obtain ⟨HL, HX⟩ := hid2 hO
 have hP9 := hO.pick [0, 1, 2, 3, 4, 5, 6, 7, 8, 15, 16] dc
 generalize hX9_29 : Own.Rest _ _ X = X9_29 at hP9
 replace hP9 : Own w0 uw28 [row (pb) 252 PC1, row (nd12) 260 (full symZ (symL (bump (bump (bump s3 si) (n + 1)) (n + 1 + 1))) nd13), row (pt) 107 (QC.setIfInBounds 3 (vS nd22 4 (4 + nd23))), ((mu, .map (uA (ubump (ubump (ubump ul src (si : Int)) src ((n + 1) : Int)) src ((n + 1 + 1) : Int))) (uN (ubump (ubump (ubump ul src (si : Int)) src ((n + 1) : Int)) src ((n + 1 + 1) : Int)))) : Rw), row (cx) 33 #[vI loc, vU src, vU (si : Int), .bool awb], row (x5) 25 #[vP pb], row (B24) 28 #[vI loc], row (B14) 31 #[vU src, vU ((n : Int) + 1 + 1)], row (B9) 31 #[vU src, vU ((n : Int) + 1)], ((mp, .map es k) : Rw), row (ms) 99 MC] X9_29 := hP9
 clear hO
 have hO := hP9
 clear hP9
 have st9 := rfinC0b6_st pb n src mp es k ms MC pt QC mu ul cx x5 loc si awb B9 nd12 nd13 B14 PC1 s3 nd22 nd23 B24
 let R9 := rfinC0b6R pb n src mp es k ms MC pt QC mu ul cx x5 loc si awb B9 nd12 nd13 B14 PC1 s3 nd22 nd23 B24
 refine wp_region_own (e := rfinC0b6E pb n src mp es k ms MC pt QC mu ul cx x5 loc si awb B9 nd12 nd13 B14 PC1 s3 nd22 nd23 B24) (anc := rfinC0b6Anc) (G := (fun L9 α u9 => OwnF w0 u9 (act rfinC0b6Cnt 11 L9) (rfinC0b6R pb n src mp es k ms MC pt QC mu ul cx x5 loc si awb B9 nd12 nd13 B14 PC1 s3 nd22 nd23 B24 L9 α) X9_29)) (by kernel_rfl) (by kernel_rfl) (by kernel_rfl) (by kernel_rfl) (rfinC0b6_he pb n src mp es k ms MC pt QC mu ul cx x5 loc si awb B9 nd12 nd13 B14 PC1 s3 nd22 nd23 B24) ?_ (RunsAll.all ?_) ?_
 ·have hp : ∀ i, act rfinC0b6Cnt 11 (fun _ => false) i → i ∈ [999, 1999, 2999, 3999, 4999, 5999, 6999, 7999, 8999, 9999, 10999] := by
   intro i hi
   have h9 : i % 1000 = 999 := by
    by_cases h : i % 1000 = 999
    ·exact h
    ·exact absurd (act_lt hi h) (by simp)
   unfold act at hi
   rw [if_pos h9] at hi
   simp only [List.mem_cons, List.not_mem_nil, or_false]
   omega
  refine hO.drew.family (fun i hi => ?_) (fun i j hi hj hij => ?_)
  ·have := hp i hi
   simp only [List.mem_cons, List.not_mem_nil, or_false] at this
   rcases this with rfl | rfl | rfl | rfl | rfl | rfl | rfl | rfl | rfl | rfl | rfl <;> rfl
  ·have h1 := hp i hi
   have h2 := hp j hj
   simp only [List.mem_cons, List.not_mem_nil, or_false] at h1 h2
   omega
 ·refine ⟨?_, ?_, ?_, ?_, ?_, ?_, ?_, ?_, ?_, ?_, ?_, ?_, ?_, ?_, ?_, ?_, ?_, ?_, ?_, ?_, ?_, ?_, ?_, ?_, ?_, ?_, ?_, trivial⟩
  ·refine pur st9 rfl rfl fun L9 α a9 u9 K9 hL hcl hA hG hS h0 h1 hK => ?_
   have s5 := eS (vP x5) ((h0 5 (by kernel_rfl)).trans rfl)
   have e0 : R9 L9 α 5999 = row (x5) 25 #[vP pb] := rfl
   have hr := hG.rowAt 5999 (act_base 5999 rfl) e0
   have c0 : u9.cell? ⟨x5, 0, none⟩ = some (vP pb) := hr.cell rfl
   clear hr e0
   go_simp
   exact hK
  ·refine pur st9 rfl rfl fun L9 α a9 u9 K9 hL hcl hA hG hS h0 h1 hK => ?_
   have s26 := eS (vP B24) ((h0 26 (by kernel_rfl)).trans rfl)
   have e0 : R9 L9 α 6999 = row (B24) 28 #[vI loc] := rfl
   have hr := hG.rowAt 6999 (act_base 6999 rfl) e0
   have c0 : u9.cell? ⟨B24, 0, none⟩ = some (vI loc) := hr.cell rfl
   clear hr e0
   go_simp
   exact hK
  ·refine pur st9 rfl rfl fun L9 α a9 u9 K9 hL hcl hA hG hS h0 h1 hK => ?_
   have s26 := eS (vP B24) ((h0 26 (by kernel_rfl)).trans rfl)
   have e0 : R9 L9 α 6999 = row (B24) 28 #[vI loc] := rfl
   have hr := hG.rowAt 6999 (act_base 6999 rfl) e0
   have c0 : u9.cell? ⟨B24, 0, none⟩ = some (vI loc) := hr.cell rfl
   clear hr e0
   go_simp
   exact hK
  ·refine pur st9 rfl rfl fun L9 α a9 u9 K9 hL hcl hA hG hS h0 h1 hK => ?_
   have s0 := eS (vP cx) ((h0 0 (by kernel_rfl)).trans rfl)
   go_simp
   exact hK
  ·refine pur st9 rfl rfl fun L9 α a9 u9 K9 hL hcl hA hG hS h0 h1 hK => ?_
   have s212 := eS (vP cx) (hS 3 212 dc rfl (ltd 420 rfl))
   go_simp
   exact hK
  ·refine pur st9 rfl rfl fun L9 α a9 u9 K9 hL hcl hA hG hS h0 h1 hK => ?_
   have s213 := eS (vP cx) (hS 4 213 dc rfl (ltd 420 rfl))
   go_simp
   exact hK
  ·refine pur st9 rfl rfl fun L9 α a9 u9 K9 hL hcl hA hG hS h0 h1 hK => ?_
   have s214 := eS (.pointer (some ⟨cx, 1, none⟩)) (hS 5 214 dc rfl (ltd 420 rfl))
   have e0 : R9 L9 α 4999 = row (cx) 33 #[vI loc, vU src, vU (si : Int), .bool awb] := rfl
   have hr := hG.rowAt 4999 (act_base 4999 rfl) e0
   have c0 : u9.cell? ⟨cx, 1, none⟩ = some (vU src) := hr.cell rfl
   have c1 : u9.cell? ⟨cx, 2, none⟩ = some (vU (si : Int)) := hr.cell rfl
   clear hr e0
   go_simp
   exact hK
  ·refine pur st9 rfl rfl fun L9 α a9 u9 K9 hL hcl hA hG hS h0 h1 hK => ?_
   have q215 : a9.tmps[215]? = some (.agg #[vU src, vU (si : Int)]) := hS 6 215 dc rfl (ltd 420 rfl)
   have s215 := Rega.eval_of q215
   go_simp
   exact hK
  ·intro L9 α a9 u9 K9 hL hcl hA hG hS h0 h1 hK
   replace hL : L9 8 = false := hL
   have q216 : a9.tmps[216]? = some (.agg #[vU src, vU (si : Int), bF, bF, bF]) := hS 7 216 dc rfl (ltd 420 rfl)
   have s216 := Rega.eval_of q216
   go_simp
   exact hK _ (fun j => if j = 8 then u9.heap.size else α j) _ (fun j hj => if_neg (fun e => hj (by rw [e]))) rfl (step_alloc st9 hL hcl rfl rfl dc _ rfl hG)
  ·refine pur st9 rfl rfl fun L9 α a9 u9 K9 hL hcl hA hG hS h0 h1 hK => ?_
   have s217 := eS (vP (α 8)) (hS 8 217 dc rfl (ltd 420 rfl))
   go_simp
   exact hK
  ·refine pur st9 rfl rfl fun L9 α a9 u9 K9 hL hcl hA hG hS h0 h1 hK => ?_
   have q211 : a9.tmps[211]? = some (.agg #[vI loc]) := hS 2 211 dc rfl (ltd 420 rfl)
   have s211 := Rega.eval_of q211
   have q218 : a9.tmps[218]? = some (vF 267 (α 8)) := hS 9 218 dc rfl (ltd 420 rfl)
   have s218 := Rega.eval_of q218
   go_simp
   exact hK
  ·refine pur st9 rfl rfl fun L9 α a9 u9 K9 hL hcl hA hG hS h0 h1 hK => ?_
   have s26 := eS (vP B24) ((h0 26 (by kernel_rfl)).trans rfl)
   have e0 : R9 L9 α 6999 = row (B24) 28 #[vI loc] := rfl
   have hr := hG.rowAt 6999 (act_base 6999 rfl) e0
   have c0 : u9.cell? ⟨B24, 0, none⟩ = some (vI loc) := hr.cell rfl
   clear hr e0
   go_simp
   exact hK
  ·refine pur st9 rfl rfl fun L9 α a9 u9 K9 hL hcl hA hG hS h0 h1 hK => ?_
   have s22 := eS (vP B9) ((h0 22 (by kernel_rfl)).trans rfl)
   have e0 : R9 L9 α 8999 = row (B9) 31 #[vU src, vU ((n : Int) + 1)] := rfl
   have hr := hG.rowAt 8999 (act_base 8999 rfl) e0
   have c0 : u9.cell? ⟨B9, 0, none⟩ = some (vU src) := hr.cell rfl
   have c1 : u9.cell? ⟨B9, 1, none⟩ = some (vU ((n : Int) + 1)) := hr.cell rfl
   clear hr e0
   go_simp
   exact hK
  ·refine pur st9 rfl rfl fun L9 α a9 u9 K9 hL hcl hA hG hS h0 h1 hK => ?_
   have q221 : a9.tmps[221]? = some (.agg #[vU src, vU ((n : Int) + 1)]) := hS 12 221 dc rfl (ltd 420 rfl)
   have s221 := Rega.eval_of q221
   go_simp
   exact hK
  ·intro L9 α a9 u9 K9 hL hcl hA hG hS h0 h1 hK
   replace hL : L9 14 = false := hL
   have q222 : a9.tmps[222]? = some (.agg #[vU src, vU ((n : Int) + 1), bF, bF, bF]) := hS 13 222 dc rfl (ltd 420 rfl)
   have s222 := Rega.eval_of q222
   go_simp
   exact hK _ (fun j => if j = 14 then u9.heap.size else α j) _ (fun j hj => if_neg (fun e => hj (by rw [e]))) rfl (step_alloc st9 hL hcl rfl rfl dc _ rfl hG)
  ·refine pur st9 rfl rfl fun L9 α a9 u9 K9 hL hcl hA hG hS h0 h1 hK => ?_
   have s223 := eS (vP (α 14)) (hS 14 223 dc rfl (ltd 420 rfl))
   go_simp
   exact hK
  ·refine pur st9 rfl rfl fun L9 α a9 u9 K9 hL hcl hA hG hS h0 h1 hK => ?_
   have q220 : a9.tmps[220]? = some (.agg #[vI loc]) := hS 11 220 dc rfl (ltd 420 rfl)
   have s220 := Rega.eval_of q220
   have q224 : a9.tmps[224]? = some (vF 267 (α 14)) := hS 15 224 dc rfl (ltd 420 rfl)
   have s224 := Rega.eval_of q224
   go_simp
   exact hK
  ·refine pur st9 rfl rfl fun L9 α a9 u9 K9 hL hcl hA hG hS h0 h1 hK => ?_
   have s26 := eS (vP B24) ((h0 26 (by kernel_rfl)).trans rfl)
   have e0 : R9 L9 α 6999 = row (B24) 28 #[vI loc] := rfl
   have hr := hG.rowAt 6999 (act_base 6999 rfl) e0
   have c0 : u9.cell? ⟨B24, 0, none⟩ = some (vI loc) := hr.cell rfl
   clear hr e0
   go_simp
   exact hK
  ·refine pur st9 rfl rfl fun L9 α a9 u9 K9 hL hcl hA hG hS h0 h1 hK => ?_
   have s23 := eS (vP B14) ((h0 23 (by kernel_rfl)).trans rfl)
   have e0 : R9 L9 α 7999 = row (B14) 31 #[vU src, vU ((n : Int) + 1 + 1)] := rfl
   have hr := hG.rowAt 7999 (act_base 7999 rfl) e0
   have c0 : u9.cell? ⟨B14, 0, none⟩ = some (vU src) := hr.cell rfl
   have c1 : u9.cell? ⟨B14, 1, none⟩ = some (vU ((n : Int) + 1 + 1)) := hr.cell rfl
   clear hr e0
   go_simp
   exact hK
  ·refine pur st9 rfl rfl fun L9 α a9 u9 K9 hL hcl hA hG hS h0 h1 hK => ?_
   have q227 : a9.tmps[227]? = some (.agg #[vU src, vU ((n : Int) + 1 + 1)]) := hS 18 227 dc rfl (ltd 420 rfl)
   have s227 := Rega.eval_of q227
   go_simp
   exact hK
  ·intro L9 α a9 u9 K9 hL hcl hA hG hS h0 h1 hK
   replace hL : L9 20 = false := hL
   have q228 : a9.tmps[228]? = some (.agg #[vU src, vU ((n : Int) + 1 + 1), bF, bF, bF]) := hS 19 228 dc rfl (ltd 420 rfl)
   have s228 := Rega.eval_of q228
   go_simp
   exact hK _ (fun j => if j = 20 then u9.heap.size else α j) _ (fun j hj => if_neg (fun e => hj (by rw [e]))) rfl (step_alloc st9 hL hcl rfl rfl dc _ rfl hG)
  ·refine pur st9 rfl rfl fun L9 α a9 u9 K9 hL hcl hA hG hS h0 h1 hK => ?_
   have s229 := eS (vP (α 20)) (hS 20 229 dc rfl (ltd 420 rfl))
   go_simp
   exact hK
  ·refine pur st9 rfl rfl fun L9 α a9 u9 K9 hL hcl hA hG hS h0 h1 hK => ?_
   have q226 : a9.tmps[226]? = some (.agg #[vI loc]) := hS 17 226 dc rfl (ltd 420 rfl)
   have s226 := Rega.eval_of q226
   have q230 : a9.tmps[230]? = some (vF 267 (α 20)) := hS 21 230 dc rfl (ltd 420 rfl)
   have s230 := Rega.eval_of q230
   go_simp
   exact hK
  ·intro L9 α a9 u9 K9 hL hcl hA hG hS h0 h1 hK
   replace hL : L9 23 = false := hL
   have q219 : a9.tmps[219]? = some (.agg #[vF 267 (α 8), vI loc]) := hS 10 219 dc rfl (ltd 420 rfl)
   have s219 := Rega.eval_of q219
   have q225 : a9.tmps[225]? = some (.agg #[vF 267 (α 14), vI loc]) := hS 16 225 dc rfl (ltd 420 rfl)
   have s225 := Rega.eval_of q225
   have q231 : a9.tmps[231]? = some (.agg #[vF 267 (α 20), vI loc]) := hS 22 231 dc rfl (ltd 420 rfl)
   have s231 := Rega.eval_of q231
   go_simp
   exact hK _ (fun j => if j = 23 then u9.heap.size else α j) _ (fun j hj => if_neg (fun e => hj (by rw [e]))) rfl (step_alloc st9 hL hcl rfl rfl dc _ rfl hG)
  ·intro L9 α a9 u9 K9 hL hcl hA hG hS h0 h1 hK
   replace hL : L9 24 = false := hL
   have q209 : a9.tmps[209]? = some (vP pb) := hS 0 209 dc rfl (ltd 420 rfl)
   have s209 := Rega.eval_of q209
   have q210 : a9.tmps[210]? = some (.agg #[vI loc]) := hS 1 210 dc rfl (ltd 420 rfl)
   have s210 := Rega.eval_of q210
   have q232 : a9.tmps[232]? = some (vS (α 23) 3 3) := hS 23 232 dc rfl (ltd 420 rfl)
   have s232 := Rega.eval_of q232
   go_simp
   have e0 : R9 L9 α 999 = row (pb) 252 PC1 := by
    show rfinC0b6T999 pb n src mp es k ms MC pt QC mu ul cx x5 loc si awb B9 nd12 nd13 B14 PC1 s3 nd22 nd23 B24 L9 α = _
    unfold rfinC0b6T999
    rw [if_neg (by rw [hL]; decide)]
   have e1 : R9 L9 α 1999 = row (nd12) 260 (full symZ (symL (bump (bump (bump s3 si) (n + 1)) (n + 1 + 1))) nd13) := by
    show rfinC0b6T1999 pb n src mp es k ms MC pt QC mu ul cx x5 loc si awb B9 nd12 nd13 B14 PC1 s3 nd22 nd23 B24 L9 α = _
    unfold rfinC0b6T1999
    rw [if_neg (by rw [hL]; decide)]
   have e2 : R9 L9 α 9999 = ((mp, .map es k) : Rw) := by
    show rfinC0b6T9999 pb n src mp es k ms MC pt QC mu ul cx x5 loc si awb B9 nd12 nd13 B14 PC1 s3 nd22 nd23 B24 L9 α = _
    unfold rfinC0b6T9999
    rw [if_neg (by rw [hL]; decide)]
   have e3 : R9 L9 α 10999 = row (ms) 99 MC := by
    show rfinC0b6T10999 pb n src mp es k ms MC pt QC mu ul cx x5 loc si awb B9 nd12 nd13 B14 PC1 s3 nd22 nd23 B24 L9 α = _
    unfold rfinC0b6T10999
    rw [if_neg (by rw [hL]; decide)]
   have e4 : R9 L9 α 2999 = row (pt) 107 (QC.setIfInBounds 3 (vS nd22 4 (4 + nd23))) := rfl
   have e5 : R9 L9 α 3999 = ((mu, .map (uA (ubump (ubump (ubump ul src (si : Int)) src ((n + 1) : Int)) src ((n + 1 + 1) : Int))) (uN (ubump (ubump (ubump ul src (si : Int)) src ((n + 1) : Int)) src ((n + 1 + 1) : Int)))) : Rw) := by
    show rfinC0b6T3999 pb n src mp es k ms MC pt QC mu ul cx x5 loc si awb B9 nd12 nd13 B14 PC1 s3 nd22 nd23 B24 L9 α = _
    unfold rfinC0b6T3999
    rw [if_neg (by rw [hL]; decide)]
   have hM : ∀ i, i ∈ [999, 1999, 9999, 10999, 2999, 3999] → act rfinC0b6Cnt 11 L9 i := by
    intro i hi
    simp only [List.mem_cons, List.not_mem_nil, or_false] at hi
    rcases hi with rfl | rfl | rfl | rfl | rfl | rfl
    ·exact act_base 999 rfl
    ·exact act_base 1999 rfl
    ·exact act_base 9999 rfl
    ·exact act_base 10999 rfl
    ·exact act_base 2999 rfl
    ·exact act_base 3999 rfl
   have hP : Own w0 u9 [row (pb) 252 PC1, row (nd12) 260 (full symZ (symL (bump (bump (bump s3 si) (n + 1)) (n + 1 + 1))) nd13), ((mp, .map es k) : Rw), row (ms) 99 MC, row (pt) 107 (QC.setIfInBounds 3 (vS nd22 4 (4 + nd23))), ((mu, .map (uA (ubump (ubump (ubump ul src (si : Int)) src ((n + 1) : Int)) src ((n + 1 + 1) : Int))) (uN (ubump (ubump (ubump ul src (si : Int)) src ((n + 1) : Int)) src ((n + 1 + 1) : Int)))) : Rw)] _ := (hG.pick [999, 1999, 9999, 10999, 2999, 3999] dc hM).conv (by
    show [R9 L9 α 999, R9 L9 α 1999, R9 L9 α 9999, R9 L9 α 10999, R9 L9 α 2999, R9 L9 α 3999] = _
    rw [e0, e1, e2, e3, e4, e5])
   clear e0 e1 e2 e3 e4 e5 hM
   refine Calls.mono (callP0 pb PC1 nd12 nd13 (bump (bump (bump s3 si) (n + 1)) ((n + 1) + 1)) (((n + 1) + 1) + 1) src mp es k ms MC loc ⟨#[95, 95, 99, 97, 108, 108, 68, 105, 115, 112, 111, 115, 101]⟩ pt (QC.setIfInBounds 3 (vS nd22 4 (4 + nd23))) mu (ubump (ubump (ubump ul src (si : Int)) src ((n + 1) : Int)) src (((n + 1) + 1) : Int)) (α 23) 3 3 _ _ _ hP h1_350 h1_32 h1_105 h1_66 h1_117 h1_187 h1_106 (by first | assumption | (simp; done) | (simp [bump_length]; done) | (simp [bump_length]; omega)) (by omega) hgen hno hg0 hg1 (get_other hsu (by omega) _)) ?_
   rintro e9 u1 ⟨b0, b1, b3, b4, b2, b5, rfl, hQ⟩
   obtain ⟨α', hα'⟩ : ∃ α' : Rega.Atoms, α' = (fun j => if j = 24 then b0 else if j = 1024 then b1 else if j = 2024 then b2 else if j = 3024 then b3 else if j = 4024 then b4 else if j = 5024 then b5 else α j) := ⟨_, rfl⟩
   have f0 : R9 (Rega.ran L9 24) α' 999 = row (pb) 252 (PC1.setIfInBounds 106 (vS (α' 3024) ((((n + 1) + 1) + 1) + 1) ((((n + 1) + 1) + 1) + 1 + (α' 4024)))) := by
    show rfinC0b6T999 pb n src mp es k ms MC pt QC mu ul cx x5 loc si awb B9 nd12 nd13 B14 PC1 s3 nd22 nd23 B24 (Rega.ran L9 24) α' = _
    unfold rfinC0b6T999
    rw [if_pos (show Rega.ran L9 24 24 = true from rfl)]
   have f1 : R9 (Rega.ran L9 24) α' 1999 = row (α' 3024) 260 (full symZ (symL (bump ((bump (bump (bump s3 si) (n + 1)) ((n + 1) + 1)) ++ [syk ⟨#[95, 95, 99, 97, 108, 108, 68, 105, 115, 112, 111, 115, 101]⟩ 27]) (((n + 1) + 1) + 1))) (α' 4024)) := by
    show rfinC0b6T1999 pb n src mp es k ms MC pt QC mu ul cx x5 loc si awb B9 nd12 nd13 B14 PC1 s3 nd22 nd23 B24 (Rega.ran L9 24) α' = _
    unfold rfinC0b6T1999
    rw [if_pos (show Rega.ran L9 24 24 = true from rfl)]
   have f2 : R9 (Rega.ran L9 24) α' 9999 = ((mp, .map (es.push ⟨.string ⟨#[95, 95, 99, 97, 108, 108, 68, 105, 115, 112, 111, 115, 101]⟩, .agg #[vI loc, vU src, vU ((((n + 1) + 1) + 1) : Int)], k⟩) (k + 1)) : Rw) := by
    show rfinC0b6T9999 pb n src mp es k ms MC pt QC mu ul cx x5 loc si awb B9 nd12 nd13 B14 PC1 s3 nd22 nd23 B24 (Rega.ran L9 24) α' = _
    unfold rfinC0b6T9999
    rw [if_pos (show Rega.ran L9 24 24 = true from rfl)]
   have f3 : R9 (Rega.ran L9 24) α' 10999 = row (ms) 99 (MC.setIfInBounds 5 (vS (α' 2024) 1 (1 + (α' 5024)))) := by
    show rfinC0b6T10999 pb n src mp es k ms MC pt QC mu ul cx x5 loc si awb B9 nd12 nd13 B14 PC1 s3 nd22 nd23 B24 (Rega.ran L9 24) α' = _
    unfold rfinC0b6T10999
    rw [if_pos (show Rega.ran L9 24 24 = true from rfl)]
   have f4 : R9 (Rega.ran L9 24) α' 2999 = row (pt) 107 (QC.setIfInBounds 3 (vS nd22 4 (4 + nd23))) := rfl
   have f5 : R9 (Rega.ran L9 24) α' 3999 = ((mu, .map (uA (ubump (ubump (ubump (ubump ul src (si : Int)) src ((n + 1) : Int)) src (((n + 1) + 1) : Int)) src ((((n + 1) + 1) + 1) : Int))) (uN (ubump (ubump (ubump (ubump ul src (si : Int)) src ((n + 1) : Int)) src (((n + 1) + 1) : Int)) src ((((n + 1) + 1) + 1) : Int)))) : Rw) := by
    show rfinC0b6T3999 pb n src mp es k ms MC pt QC mu ul cx x5 loc si awb B9 nd12 nd13 B14 PC1 s3 nd22 nd23 B24 (Rega.ran L9 24) α' = _
    unfold rfinC0b6T3999
    rw [if_pos (show Rega.ran L9 24 24 = true from rfl)]
   have f6 : R9 (Rega.ran L9 24) α' 2024 = row (α' 2024) 31 (full refZ ([vU src, vU ((((n + 1) + 1) + 1) : Int)]) (α' 5024)) := rfl
   have f7 : R9 (Rega.ran L9 24) α' 1024 = row (α' 1024) 270 #[vU src, vU ((((n + 1) + 1) + 1) : Int), bF, bF, bF] := rfl
   have f8 : R9 (Rega.ran L9 24) α' 24 = row (α' 24) 266 #[vF 267 (α' 1024), vI loc, vS (α' 23) 3 3, vI 0, v8 0, v8 0, bF, bF] := rfl
   have hα : ∀ j, j % 1000 ≠ 24 → α' j = α j := fun j hj => by rw [hα']; simp only []; rw [if_neg (by omega), if_neg (by omega), if_neg (by omega), if_neg (by omega), if_neg (by omega), if_neg (by omega)]
   have hb0 : α' 24 = b0 := by rw [hα']; rfl
   have hb1 : α' 1024 = b1 := by rw [hα']; rfl
   have hb2 : α' 2024 = b2 := by rw [hα']; rfl
   have hb3 : α' 3024 = b3 := by rw [hα']; rfl
   have hb4 : α' 4024 = b4 := by rw [hα']; rfl
   have hb5 : α' 5024 = b5 := by rw [hα']; rfl
   have ha23 : α' 23 = α 23 := hα 23 dc
   skip
   refine hK _ α' _ hα ?_ (step_call (st9) hL hcl hα [999, 1999, 9999, 10999, 2999, 3999] [999, 1999, 9999, 10999, 2999, 3999, 2024, 1024, 24] dc dc dc (M := _) ?_ hG hQ)
   ·show _ = (.agg #[vF 261 (α' 24), vI loc] : Value)
    simp only [hb0]
   ·show [R9 (Rega.ran L9 24) α' 999, R9 (Rega.ran L9 24) α' 1999, R9 (Rega.ran L9 24) α' 9999, R9 (Rega.ran L9 24) α' 10999, R9 (Rega.ran L9 24) α' 2999, R9 (Rega.ran L9 24) α' 3999, R9 (Rega.ran L9 24) α' 2024, R9 (Rega.ran L9 24) α' 1024, R9 (Rega.ran L9 24) α' 24] = _
    rw [f0, f1, f2, f3, f4, f5, f6, f7, f8]
    simp only [hb0, hb1, hb2, hb3, hb4, hb5, ha23]
    try rfl
  ·intro L9 α a9 u9 K9 hL hcl hA hG hS h0 h1 hK
   replace hL : L9 25 = false := hL
   go_simp
   have e1 : R9 (Rega.ran L9 25) (fun j => if j = 25 then u9.heap.size else α j) 25 = row (u9.heap.size) 52 #[.nilIface, vI 0] := by
    show rfinC0b6T25 pb n src mp es k ms MC pt QC mu ul cx x5 loc si awb B9 nd12 nd13 B14 PC1 s3 nd22 nd23 B24 (Rega.ran L9 25) (fun j => if j = 25 then u9.heap.size else α j) = _
    unfold rfinC0b6T25
    exact ((if_neg (fun e => (fun e => by have := hcl 26 e 25 dc; rw [hL] at this; cases this) ((ran_ne dc).symm.trans e))).trans rfl)
   exact hK _ (fun j => if j = 25 then u9.heap.size else α j) _ (fun j hj => if_neg (fun e => hj (by rw [e]))) rfl (step_alloc st9 hL hcl rfl rfl dc _ e1 hG)
  ·intro L9 α a9 u9 K9 hL hcl hA hG hS h0 h1 hK
   replace hL : L9 26 = false := hL
   have q27 : a9.tmps[27]? = some (vP (α 25)) := hS 25 27 dc rfl (ltd 420 rfl)
   have s27 := Rega.eval_of q27
   have q233 : a9.tmps[233]? = some (.agg #[vF 261 (α 24), vI loc]) := hS 24 233 dc rfl (ltd 420 rfl)
   have s233 := Rega.eval_of q233
   have e0 : R9 L9 α 25 = row (α 25) 52 #[.nilIface, vI 0] := by
    show rfinC0b6T25 pb n src mp es k ms MC pt QC mu ul cx x5 loc si awb B9 nd12 nd13 B14 PC1 s3 nd22 nd23 B24 L9 α = _
    unfold rfinC0b6T25
    rw [if_neg (by rw [hL]; decide)]
   have hr := hG.rowAt 25 (act_new 25 rfl (hA 25 dc)) e0
   have c0 : u9.cell? ⟨α 25, 0, none⟩ = some (.nilIface) := hr.cell rfl
   have y0 : u9.frozen? ⟨α 25, 0, none⟩ = false := hr.free (0)
   have c1 : u9.cell? ⟨α 25, 1, none⟩ = some (vI 0) := hr.cell rfl
   have y1 : u9.frozen? ⟨α 25, 1, none⟩ = false := hr.free (1)
   clear hr
   have E0 := Lib.hid e0
   clear e0
   go_simp
   have e1 : R9 (Rega.ran L9 26) α 25 = row (α 25) 52 #[vF 261 (α 24), vI loc] := by
    show rfinC0b6T25 pb n src mp es k ms MC pt QC mu ul cx x5 loc si awb B9 nd12 nd13 B14 PC1 s3 nd22 nd23 B24 (Rega.ran L9 26) α = _
    unfold rfinC0b6T25
    rw [if_pos (show Rega.ran L9 26 26 = true from rfl)]
   exact hK _ α _ (fun _ _ => rfl) rfl (step_sets (st9) hL hcl rfl 25 rfl (act_new 25 rfl (hA 25 dc)) E0.out (0) [vF 261 (α 24), vI loc] (e1.trans rfl) hG)
 clear st9
 intro α u hG
 have e0 : R9 (fun k => decide (k < 27)) α 999 = row (pb) 252 (PC1.setIfInBounds 106 (vS (α 3024) ((((n + 1) + 1) + 1) + 1) ((((n + 1) + 1) + 1) + 1 + (α 4024)))) := by
  show rfinC0b6T999 pb n src mp es k ms MC pt QC mu ul cx x5 loc si awb B9 nd12 nd13 B14 PC1 s3 nd22 nd23 B24 (fun k => decide (k < 27)) α = _
  unfold rfinC0b6T999
  rw [if_pos dc]
 have e1 : R9 (fun k => decide (k < 27)) α 1999 = row (α 3024) 260 (full symZ (symL (bump ((bump (bump (bump s3 si) (n + 1)) ((n + 1) + 1)) ++ [syk ⟨#[95, 95, 99, 97, 108, 108, 68, 105, 115, 112, 111, 115, 101]⟩ 27]) (((n + 1) + 1) + 1))) (α 4024)) := by
  show rfinC0b6T1999 pb n src mp es k ms MC pt QC mu ul cx x5 loc si awb B9 nd12 nd13 B14 PC1 s3 nd22 nd23 B24 (fun k => decide (k < 27)) α = _
  unfold rfinC0b6T1999
  rw [if_pos dc]
 have e2 : R9 (fun k => decide (k < 27)) α 2999 = row (pt) 107 (QC.setIfInBounds 3 (vS nd22 4 (4 + nd23))) := rfl
 have e3 : R9 (fun k => decide (k < 27)) α 3999 = ((mu, .map (uA (ubump (ubump (ubump (ubump ul src (si : Int)) src ((n + 1) : Int)) src (((n + 1) + 1) : Int)) src ((((n + 1) + 1) + 1) : Int))) (uN (ubump (ubump (ubump (ubump ul src (si : Int)) src ((n + 1) : Int)) src (((n + 1) + 1) : Int)) src ((((n + 1) + 1) + 1) : Int)))) : Rw) := by
  show rfinC0b6T3999 pb n src mp es k ms MC pt QC mu ul cx x5 loc si awb B9 nd12 nd13 B14 PC1 s3 nd22 nd23 B24 (fun k => decide (k < 27)) α = _
  unfold rfinC0b6T3999
  rw [if_pos dc]
 have e4 : R9 (fun k => decide (k < 27)) α 4999 = row (cx) 33 #[vI loc, vU src, vU (si : Int), .bool awb] := rfl
 have e5 : R9 (fun k => decide (k < 27)) α 5999 = row (x5) 25 #[vP pb] := rfl
 have e6 : R9 (fun k => decide (k < 27)) α 6999 = row (B24) 28 #[vI loc] := rfl
 have e7 : R9 (fun k => decide (k < 27)) α 7999 = row (B14) 31 #[vU src, vU ((n : Int) + 1 + 1)] := rfl
 have e8 : R9 (fun k => decide (k < 27)) α 8999 = row (B9) 31 #[vU src, vU ((n : Int) + 1)] := rfl
 have e9 : R9 (fun k => decide (k < 27)) α 9999 = ((mp, .map (es.push ⟨.string ⟨#[95, 95, 99, 97, 108, 108, 68, 105, 115, 112, 111, 115, 101]⟩, .agg #[vI loc, vU src, vU ((((n + 1) + 1) + 1) : Int)], k⟩) (k + 1)) : Rw) := by
  show rfinC0b6T9999 pb n src mp es k ms MC pt QC mu ul cx x5 loc si awb B9 nd12 nd13 B14 PC1 s3 nd22 nd23 B24 (fun k => decide (k < 27)) α = _
  unfold rfinC0b6T9999
  rw [if_pos dc]
 have e10 : R9 (fun k => decide (k < 27)) α 10999 = row (ms) 99 (MC.setIfInBounds 5 (vS (α 2024) 1 (1 + (α 5024)))) := by
  show rfinC0b6T10999 pb n src mp es k ms MC pt QC mu ul cx x5 loc si awb B9 nd12 nd13 B14 PC1 s3 nd22 nd23 B24 (fun k => decide (k < 27)) α = _
  unfold rfinC0b6T10999
  rw [if_pos dc]
 have e11 : R9 (fun k => decide (k < 27)) α 8 = row (α 8) 270 #[vU src, vU (si : Int), bF, bF, bF] := rfl
 have e12 : R9 (fun k => decide (k < 27)) α 14 = row (α 14) 270 #[vU src, vU ((n : Int) + 1), bF, bF, bF] := rfl
 have e13 : R9 (fun k => decide (k < 27)) α 20 = row (α 20) 270 #[vU src, vU ((n : Int) + 1 + 1), bF, bF, bF] := rfl
 have e14 : R9 (fun k => decide (k < 27)) α 23 = row (α 23) 52 #[vF 267 (α 8), vI loc, vF 267 (α 14), vI loc, vF 267 (α 20), vI loc] := rfl
 have e15 : R9 (fun k => decide (k < 27)) α 24 = row (α 24) 266 #[vF 267 (α 1024), vI loc, vS (α 23) 3 3, vI 0, v8 0, v8 0, bF, bF] := rfl
 have e16 : R9 (fun k => decide (k < 27)) α 1024 = row (α 1024) 270 #[vU src, vU ((((n + 1) + 1) + 1) : Int), bF, bF, bF] := rfl
 have e17 : R9 (fun k => decide (k < 27)) α 2024 = row (α 2024) 31 (full refZ ([vU src, vU ((((n + 1) + 1) + 1) : Int)]) (α 5024)) := rfl
 have e18 : R9 (fun k => decide (k < 27)) α 25 = row (α 25) 52 #[vF 261 (α 24), vI loc] := by
  show rfinC0b6T25 pb n src mp es k ms MC pt QC mu ul cx x5 loc si awb B9 nd12 nd13 B14 PC1 s3 nd22 nd23 B24 (fun k => decide (k < 27)) α = _
  unfold rfinC0b6T25
  rw [if_pos dc]
 have hO : Own w0 u [row (pb) 252 (PC1.setIfInBounds 106 (vS (α 3024) ((((n + 1) + 1) + 1) + 1) ((((n + 1) + 1) + 1) + 1 + (α 4024)))), row (α 3024) 260 (full symZ (symL (bump ((bump (bump (bump s3 si) (n + 1)) ((n + 1) + 1)) ++ [syk ⟨#[95, 95, 99, 97, 108, 108, 68, 105, 115, 112, 111, 115, 101]⟩ 27]) (((n + 1) + 1) + 1))) (α 4024)), row (pt) 107 (QC.setIfInBounds 3 (vS nd22 4 (4 + nd23))), ((mu, .map (uA (ubump (ubump (ubump (ubump ul src (si : Int)) src ((n + 1) : Int)) src (((n + 1) + 1) : Int)) src ((((n + 1) + 1) + 1) : Int))) (uN (ubump (ubump (ubump (ubump ul src (si : Int)) src ((n + 1) : Int)) src (((n + 1) + 1) : Int)) src ((((n + 1) + 1) + 1) : Int)))) : Rw), row (cx) 33 #[vI loc, vU src, vU (si : Int), .bool awb], row (x5) 25 #[vP pb], row (B24) 28 #[vI loc], row (B14) 31 #[vU src, vU ((n : Int) + 1 + 1)], row (B9) 31 #[vU src, vU ((n : Int) + 1)], ((mp, .map (es.push ⟨.string ⟨#[95, 95, 99, 97, 108, 108, 68, 105, 115, 112, 111, 115, 101]⟩, .agg #[vI loc, vU src, vU ((((n + 1) + 1) + 1) : Int)], k⟩) (k + 1)) : Rw), row (ms) 99 (MC.setIfInBounds 5 (vS (α 2024) 1 (1 + (α 5024)))), row (α 8) 270 #[vU src, vU (si : Int), bF, bF, bF], row (α 14) 270 #[vU src, vU ((n : Int) + 1), bF, bF, bF], row (α 20) 270 #[vU src, vU ((n : Int) + 1 + 1), bF, bF, bF], row (α 23) 52 #[vF 267 (α 8), vI loc, vF 267 (α 14), vI loc, vF 267 (α 20), vI loc], row (α 24) 266 #[vF 267 (α 1024), vI loc, vS (α 23) 3 3, vI 0, v8 0, v8 0, bF, bF], row (α 1024) 270 #[vU src, vU ((((n + 1) + 1) + 1) : Int), bF, bF, bF], row (α 2024) 31 (full refZ ([vU src, vU ((((n + 1) + 1) + 1) : Int)]) (α 5024)), row (α 25) 52 #[vF 261 (α 24), vI loc]] X9_29 := (hG.list [999, 1999, 2999, 3999, 4999, 5999, 6999, 7999, 8999, 9999, 10999, 8, 14, 20, 23, 24, 1024, 2024, 25] dc (act_all dc)).conv (by
  show [R9 (fun k => decide (k < 27)) α 999, R9 (fun k => decide (k < 27)) α 1999, R9 (fun k => decide (k < 27)) α 2999, R9 (fun k => decide (k < 27)) α 3999, R9 (fun k => decide (k < 27)) α 4999, R9 (fun k => decide (k < 27)) α 5999, R9 (fun k => decide (k < 27)) α 6999, R9 (fun k => decide (k < 27)) α 7999, R9 (fun k => decide (k < 27)) α 8999, R9 (fun k => decide (k < 27)) α 9999, R9 (fun k => decide (k < 27)) α 10999, R9 (fun k => decide (k < 27)) α 8, R9 (fun k => decide (k < 27)) α 14, R9 (fun k => decide (k < 27)) α 20, R9 (fun k => decide (k < 27)) α 23, R9 (fun k => decide (k < 27)) α 24, R9 (fun k => decide (k < 27)) α 1024, R9 (fun k => decide (k < 27)) α 2024, R9 (fun k => decide (k < 27)) α 25] = _
  rw [e0, e1, e2, e3, e4, e5, e6, e7, e8, e9, e10, e11, e12, e13, e14, e15, e16, e17, e18])
 clear hG e0 e1 e2 e3 e4 e5 e6 e7 e8 e9 e10 e11 e12 e13 e14 e15 e16 e17 e18 R9
 generalize hfr : Rega.frameAt _ _ _ _ _ = fr
 have hdf : fr = ⟨#[vP cx, A0, sv2, A1, A2, vP x5, A3, A4, A5, rv9, vP e10, A6, A7, A8, A9, AA, AB, AC, AD, AE, AF, vP B4, vP B9, vP B14, vP cs, bF, vP B24, vP (α 25), AN, AO, AP, AQ, AR, AS, AT, AU, AV, AW, AX, AY, AZ, B0, B1, B2, B3, B5, B6, B7, B8, BA, BB, BC, BD, BE, BF, BG, BH, BI, BJ, BK, BL, BM, BN, BO, BP, BQ, BR, BS, BT, BU, BV, BW, BX, BY, BZ, C0, C1, C2, C3, C4, C5, C6, C7, C8, C9, CA, CB, CC, CD, CE, CF, CG, CH, CI, CJ, CK, CL, CM, CN, CO, CP, CQ, CR, CS, CT, CU, CV, CW, CX, CY, CZ, E1, E2, E3, E4, E5, E6, E7, E8, E9, EA, vP pb, .agg #[vU src, vU (n : Int)], vP pb, .agg #[vU src, vU ((n : Int) + 1)], vP pb, .agg #[vU src, vU ((n : Int) + 1 + 1)], vP pb, vP pb, .pointer (some ⟨pb, 104, none⟩), vP cs, vP cs, vP cs, .pointer (some ⟨cs, 15, none⟩), v8 8, .bool true, bF, u137, u138, u139, u140, vP cs, vP pb, vP pb, .pointer (some ⟨pb, 187, none⟩), vP ms, bF, vP cs, vP cs, vP cs, .pointer (some ⟨cs, 5, none⟩), vN, vP cx, vP cx, .pointer (some ⟨cx, 1, none⟩), .agg #[vU src, vU (si : Int)], .agg #[vU src, vU (n : Int)], .agg #[vU src, vU ((n : Int) + 1)], .agg #[vU src, vU ((n : Int) + 1 + 1)], vS nd17 4 4, vS nd18 4 (4 + nd19), vP cs, .pointer (some ⟨cs, 5, none⟩), vP pb, vP pb, .pointer (some ⟨pb, 105, none⟩), vP pt, vP pb, vP pb, .pointer (some ⟨pb, 105, none⟩), vP pt, vP pt, .pointer (some ⟨pt, 3, none⟩), vN, bF, vP cx, vP cx, .pointer (some ⟨cx, 1, none⟩), .agg #[vU src, vU (si : Int)], .agg #[vU src, vU (si : Int), bF], bF, .agg #[vU src, vU (n : Int)], .agg #[vU src, vU (n : Int), bF], bF, .agg #[vU src, vU ((n : Int) + 1)], .agg #[vU src, vU ((n : Int) + 1), bF], bF, .agg #[vU src, vU ((n : Int) + 1 + 1)], .agg #[vU src, vU ((n : Int) + 1 + 1), bF], vS nd21 4 4, vS nd22 4 (4 + nd23), vP pt, .pointer (some ⟨pt, 3, none⟩), vP cx, vP cx, vP cx, .agg #[vI loc], vP pb, vP cx, vP cx, .pointer (some ⟨cx, 1, none⟩), .agg #[vU src, vU (si : Int)], .tuple #[], vP pb, .agg #[vU src, vU ((n : Int) + 1)], .tuple #[], vP pb, .agg #[vU src, vU ((n : Int) + 1 + 1)], .tuple #[], vP pb, .agg #[vI loc], .agg #[vI loc], vP cx, vP cx, .pointer (some ⟨cx, 1, none⟩), .agg #[vU src, vU (si : Int)], .agg #[vU src, vU (si : Int), bF, bF, bF], vP (α 8), vF 267 (α 8), .agg #[vF 267 (α 8), vI loc], .agg #[vI loc], .agg #[vU src, vU ((n : Int) + 1)], .agg #[vU src, vU ((n : Int) + 1), bF, bF, bF], vP (α 14), vF 267 (α 14), .agg #[vF 267 (α 14), vI loc], .agg #[vI loc], .agg #[vU src, vU ((n : Int) + 1 + 1)], .agg #[vU src, vU ((n : Int) + 1 + 1), bF, bF, bF], vP (α 20), vF 267 (α 20), .agg #[vF 267 (α 20), vI loc], vS (α 23) 3 3, .agg #[vF 261 (α 24), vI loc], IG, IH, II, IJ, IK, IL, IM, IN, IO, IP, IQ, IR, IS, IT, IU, IV, IW, IX, IY, IZ, J0, J1, J2, J3, J4, J5, J6, J7, J8, J9, JA, JB, JC, JD, JE, JF, JG, JH, JI, JJ, JK, JL, JM, JN, JO, JP, JQ, JR, JS, JT, JU, JV, JW, JX, JY, JZ, M0, M1, M2, M3, M4, M5, M6, M7, M8, M9, MA, MB, MD, ME, MF, MG, MH, MI, MJ, MK, ML, MM, MN, MO, MP, MQ, MR, MS, MT, MU, MV, MW, MX, MY, MZ, N0, N1, N2, N3, N4, N5, N6, N7, N8, N9, NA, NB, NC, ND, NE, NF, NG, NH, NI, NJ, NK, NL, NM, NN, NO, NP, NQ, NR, NS, NT, NU, NV, NW, NX, NY, NZ, O0, O1, O2, O3, O4, O5, O6, O7, O8, O9, OA, OB, OC, OD, OE, OF, OG, OH, OI, OJ, OK, OL, OM, ON, OO, OP, OQ, OR, OS, OT, OU, OV, OW, OX, OY, OZ, P0, P1, P2, P3, P4, P5, P6, P7, P8, P9, PA, PB, PD, PE, PF, PG, PH, PI, PJ, PK, PL, PM, PN], []⟩ := by rw [← hfr]; kernel_rfl
 clear hfr
 subst hdf
 generalize α 8 = nd30 at hO ⊢
 generalize α 14 = nd31 at hO ⊢
 generalize α 20 = nd32 at hO ⊢
 generalize α 23 = nd33 at hO ⊢
 generalize α 24 = nd34 at hO ⊢
 generalize α 25 = nd35 at hO ⊢
 generalize α 1024 = nd36 at hO ⊢
 generalize α 2024 = nd37 at hO ⊢
 generalize α 3024 = nd38 at hO ⊢
 generalize α 4024 = nd39 at hO ⊢
 generalize α 5024 = nd40 at hO ⊢
 clear α
 subst hX9_29
 replace hO : Own w0 u [row (pb) 252 (PC1.setIfInBounds 106 (vS nd38 ((((n + 1) + 1) + 1) + 1) ((((n + 1) + 1) + 1) + 1 + (nd39)))), row (nd38) 260 (full symZ (symL (bump ((bump (bump (bump s3 si) (n + 1)) ((n + 1) + 1)) ++ [syk ⟨#[95, 95, 99, 97, 108, 108, 68, 105, 115, 112, 111, 115, 101]⟩ 27]) (((n + 1) + 1) + 1))) (nd39)), row (pt) 107 (QC.setIfInBounds 3 (vS nd22 4 (4 + nd23))), ((mu, .map (uA (ubump (ubump (ubump (ubump ul src (si : Int)) src ((n + 1) : Int)) src (((n + 1) + 1) : Int)) src ((((n + 1) + 1) + 1) : Int))) (uN (ubump (ubump (ubump (ubump ul src (si : Int)) src ((n + 1) : Int)) src (((n + 1) + 1) : Int)) src ((((n + 1) + 1) + 1) : Int)))) : Rw), row (cx) 33 #[vI loc, vU src, vU (si : Int), .bool awb], row (x5) 25 #[vP pb], row (B24) 28 #[vI loc], row (B14) 31 #[vU src, vU ((n : Int) + 1 + 1)], row (B9) 31 #[vU src, vU ((n : Int) + 1)], ((mp, .map (es.push ⟨.string ⟨#[95, 95, 99, 97, 108, 108, 68, 105, 115, 112, 111, 115, 101]⟩, .agg #[vI loc, vU src, vU ((((n + 1) + 1) + 1) : Int)], k⟩) (k + 1)) : Rw), row (ms) 99 (MC.setIfInBounds 5 (vS nd37 1 (1 + (nd40)))), row (nd30) 270 #[vU src, vU (si : Int), bF, bF, bF], row (nd31) 270 #[vU src, vU ((n : Int) + 1), bF, bF, bF], row (nd32) 270 #[vU src, vU ((n : Int) + 1 + 1), bF, bF, bF], row (nd33) 52 #[vF 267 nd30, vI loc, vF 267 nd31, vI loc, vF 267 nd32, vI loc], row (nd34) 266 #[vF 267 nd36, vI loc, vS nd33 3 3, vI 0, v8 0, v8 0, bF, bF], row (nd36) 270 #[vU src, vU ((((n + 1) + 1) + 1) : Int), bF, bF, bF], row (nd37) 31 (full refZ ([vU src, vU ((((n + 1) + 1) + 1) : Int)]) (nd40)), row (nd35) 52 #[vF 261 nd34, vI loc], row (B4) 31 #[vU src, vU (n : Int)], row (nd21) 113 #[vU src, vU (si : Int), bF, vU src, vU (n : Int), bF, vU src, vU ((n : Int) + 1), bF, vU src, vU ((n : Int) + 1 + 1), bF], row (nd22) 113 (full dsyZ [vU src, vU (si : Int), bF, vU src, vU (n : Int), bF, vU src, vU ((n : Int) + 1), bF, vU src, vU ((n : Int) + 1 + 1), bF] (nd23)), row (cs) 99 (KC.setIfInBounds 5 (vS nd18 4 (4 + nd19))), row (nd17) 31 #[vU src, vU (si : Int), vU src, vU (n : Int), vU src, vU ((n : Int) + 1), vU src, vU ((n : Int) + 1 + 1)], row (nd18) 31 (full refZ [vU src, vU (si : Int), vU src, vU (n : Int), vU src, vU ((n : Int) + 1), vU src, vU ((n : Int) + 1 + 1)] (nd19))] X := hO.back HL.out HX.out [9, 10, 11, 12, 13, 14] dc dc
 clear HL HX
 replace hO : Own w0 u [row (pb) 252 (PC1.setIfInBounds 106 (vS nd38 ((((n + 1) + 1) + 1) + 1) ((((n + 1) + 1) + 1) + 1 + (nd39)))), row (nd38) 260 (full symZ (symL (bump ((bump (bump (bump s3 si) (n + 1)) ((n + 1) + 1)) ++ [syk ⟨#[95, 95, 99, 97, 108, 108, 68, 105, 115, 112, 111, 115, 101]⟩ 27]) (((n + 1) + 1) + 1))) (nd39)), row (pt) 107 (QC.setIfInBounds 3 (vS nd22 4 (4 + nd23))), ((mu, .map (uA (ubump (ubump (ubump (ubump ul src (si : Int)) src ((n + 1) : Int)) src (((n + 1) + 1) : Int)) src ((((n + 1) + 1) + 1) : Int))) (uN (ubump (ubump (ubump (ubump ul src (si : Int)) src ((n + 1) : Int)) src (((n + 1) + 1) : Int)) src ((((n + 1) + 1) + 1) : Int)))) : Rw), row (cx) 33 #[vI loc, vU src, vU (si : Int), .bool awb], row (x5) 25 #[vP pb], row (B24) 28 #[vI loc], row (B14) 31 #[vU src, vU ((n : Int) + 1 + 1)], row (B9) 31 #[vU src, vU ((n : Int) + 1)], ((mp, .map (es.push ⟨.string ⟨#[95, 95, 99, 97, 108, 108, 68, 105, 115, 112, 111, 115, 101]⟩, .agg #[vI loc, vU src, vU ((((n + 1) + 1) + 1) : Int)], k⟩) (k + 1)) : Rw), row (ms) 99 (MC.setIfInBounds 5 (vS nd37 1 (1 + (nd40)))), row (nd30) 270 #[vU src, vU (si : Int), bF, bF, bF], row (nd31) 270 #[vU src, vU ((n : Int) + 1), bF, bF, bF], row (nd32) 270 #[vU src, vU ((n : Int) + 1 + 1), bF, bF, bF], row (nd33) 52 #[vF 267 nd30, vI loc, vF 267 nd31, vI loc, vF 267 nd32, vI loc], row (nd34) 266 #[vF 267 nd36, vI loc, vS nd33 3 3, vI 0, v8 0, v8 0, bF, bF], row (nd36) 270 #[vU src, vU ((((n + 1) + 1) + 1) : Int), bF, bF, bF], row (nd37) 31 (full refZ [vU src, vU ((((n + 1) + 1) + 1) : Int)] (nd40)), row (nd35) 52 #[vF 261 nd34, vI loc], row (B4) 31 #[vU src, vU (n : Int)], row (nd21) 113 #[vU src, vU (si : Int), bF, vU src, vU (n : Int), bF, vU src, vU ((n : Int) + 1), bF, vU src, vU ((n : Int) + 1 + 1), bF], row (nd22) 113 (full dsyZ [vU src, vU (si : Int), bF, vU src, vU (n : Int), bF, vU src, vU ((n : Int) + 1), bF, vU src, vU ((n : Int) + 1 + 1), bF] (nd23)), row (cs) 99 (KC.setIfInBounds 5 (vS nd18 4 (4 + nd19))), row (nd17) 31 #[vU src, vU (si : Int), vU src, vU (n : Int), vU src, vU ((n : Int) + 1), vU src, vU ((n : Int) + 1 + 1)], row (nd18) 31 (full refZ [vU src, vU (si : Int), vU src, vU (n : Int), vU src, vU ((n : Int) + 1), vU src, vU ((n : Int) + 1 + 1)] (nd19))] X := hO
 obtain ⟨aL, aS, ad, ae, aM, aN, -⟩ := hO.k4 4 rfl
 obtain ⟨aA, aB, aC, -⟩ := hO.k1 5 rfl
 obtain ⟨aV, aW, aX, -⟩ := hO.k1 6 rfl
 obtain ⟨ah, ai, aT, aU, -⟩ := hO.k2 7 rfl
 obtain ⟨aj, ak, aO, aP, -⟩ := hO.k2 8 rfl
 obtain ⟨cb, cc, cd, ce, cf, bV, bW, -⟩ := hO.k5 11 rfl
 obtain ⟨cg, ch, ci, cj, ck, cl, cm, -⟩ := hO.k5 12 rfl
 obtain ⟨al, am, an, ao, ap, aq, ar, -⟩ := hO.k5 13 rfl
 obtain ⟨cn, co, cp, cq, cr, ct, cu, cv, -⟩ := hO.k6 14 rfl
 obtain ⟨cw, cy, cz, dA, dB, dC, dD, dE, dF, dG, -⟩ := hO.k8 15 rfl
 obtain ⟨dH, dI, dJ, dK, dL, dM, dN, -⟩ := hO.k5 16 rfl
 obtain ⟨dO, dP, dQ, dR, -⟩ := hO.k2 18 rfl
 obtain ⟨dS, dT, dU, dV, -⟩ := hO.k2 19 rfl
 obtain ⟨dW, dX, dY, dZ, da, db, dc, dd, de, df, -⟩ := hO.k8 23 rfl
 have HO := Lib.hid hO
 clear hO
 go_wp2_with (first | (with_reducible refine Own.stay (fn := Tryd.f39) ?_) | (first | (go_at_call 46; go_in)))
 try with_reducible refine Own.Stay.mk ?_
 have hO := HO.out
 clear HO aL aS ad ae aM aN aA aB aC aV aW aX ah ai aT aU aj ak aO aP cb cc cd ce cf bV bW cg ch ci cj ck cl cm al am an ao ap aq ar cn co cp cq cr ct cu cv cw cy cz dA dB dC dD dE dF dG dH dI dJ dK dL dM dN dO dP dQ dR dS dT dU dV dW dX dY dZ da db dc dd de df
 have hN : Own w0 u [row (pb) 252 (PC1.setIfInBounds 106 (vS nd38 ((((n + 1) + 1) + 1) + 1) ((((n + 1) + 1) + 1) + 1 + (nd39)))), row (nd38) 260 (full symZ (symL (stF0 st si n)) (nd39)), row (pt) 107 (QC.setIfInBounds 3 (vS nd22 4 (4 + nd23))), ((mu, .map (uA (ubump (ubump (ubump (ubump ul src (si : Int)) src ((n + 1) : Int)) src (((n + 1) + 1) : Int)) src ((((n + 1) + 1) + 1) : Int))) (uN (ubump (ubump (ubump (ubump ul src (si : Int)) src ((n + 1) : Int)) src (((n + 1) + 1) : Int)) src ((((n + 1) + 1) + 1) : Int)))) : Rw), row (cx) 33 #[vI loc, vU src, vU (si : Int), .bool awb], row (x5) 25 #[vP pb], row (B24) 28 #[vI loc], row (B14) 31 #[vU src, vU ((n : Int) + 1 + 1)], row (B9) 31 #[vU src, vU ((n : Int) + 1)], ((mp, .map (es.push ⟨.string ⟨#[95, 95, 99, 97, 108, 108, 68, 105, 115, 112, 111, 115, 101]⟩, .agg #[vI loc, vU src, vU ((((n + 1) + 1) + 1) : Int)], k⟩) (k + 1)) : Rw), row (ms) 99 (MC.setIfInBounds 5 (vS nd37 1 (1 + (nd40)))), row (nd30) 270 #[vU src, vU (si : Int), bF, bF, bF], row (nd31) 270 #[vU src, vU ((n : Int) + 1), bF, bF, bF], row (nd32) 270 #[vU src, vU ((n : Int) + 1 + 1), bF, bF, bF], row (nd33) 52 #[vF 267 nd30, vI loc, vF 267 nd31, vI loc, vF 267 nd32, vI loc], row (nd34) 266 #[vF 267 nd36, vI loc, vS nd33 3 3, vI 0, v8 0, v8 0, bF, bF], row (nd36) 270 #[vU src, vU ((((n + 1) + 1) + 1) : Int), bF, bF, bF], row (nd37) 31 (full refZ [vU src, vU ((((n + 1) + 1) + 1) : Int)] (nd40)), row (nd35) 52 #[vF 261 nd34, vI loc], row (B4) 31 #[vU src, vU (n : Int)], row (nd21) 113 #[vU src, vU (si : Int), bF, vU src, vU (n : Int), bF, vU src, vU ((n : Int) + 1), bF, vU src, vU ((n : Int) + 1 + 1), bF], row (nd22) 113 (full dsyZ [vU src, vU (si : Int), bF, vU src, vU (n : Int), bF, vU src, vU ((n : Int) + 1), bF, vU src, vU ((n : Int) + 1 + 1), bF] (nd23)), row (cs) 99 (KC.setIfInBounds 5 (vS nd18 4 (4 + nd19))), row (nd17) 31 #[vU src, vU (si : Int), vU src, vU (n : Int), vU src, vU ((n : Int) + 1), vU src, vU ((n : Int) + 1 + 1)], row (nd18) 31 (full refZ [vU src, vU (si : Int), vU src, vU (n : Int), vU src, vU ((n : Int) + 1), vU src, vU ((n : Int) + 1 + 1)] (nd19))] X := by
  have h9 := Hs3.out
  subst h9
  exact hO
 clear hO
 have hO := hN
 clear hN
 rw [HC9.out]
 exact HB.out B4 B9 B14 B24 nd35 nd38 (nd39) nd18 (nd19) nd22 (nd23) (vF 261 nd34) (PC1.setIfInBounds 106 (vS nd38 ((((n + 1) + 1) + 1) + 1) ((((n + 1) + 1) + 1) + 1 + (nd39)))) (QC.setIfInBounds 3 (vS nd22 4 (4 + nd23))) (KC.setIfInBounds 5 (vS nd18 4 (4 + nd19))) (ubump (ubump (ubump (ubump ul src (si : Int)) src ((n + 1) : Int)) src (((n + 1) + 1) : Int)) src ((((n + 1) + 1) + 1) : Int)) (get_other h1_350 (by omega) _) (get_other h1_32 (by omega) _) (get_other h1_105 (by omega) _) (get_set h1_106 _) (get_other h1_66 (by omega) _) (get_other h1_104 (by omega) _) (get_other h1_333 (by omega) _) (get_other h1_23 (by omega) _) (get_other hsu (by omega) _) (get_set hds _) (get_set hcg _) (get_other hkind (by omega) _) (hO.sub [5, 4, 19, 8, 7, 6, 18, 0, 1, 2, 3, 22, 24, 21] dc)
end Go.Proofs.YtikopplofkemlaaDoor.Use
