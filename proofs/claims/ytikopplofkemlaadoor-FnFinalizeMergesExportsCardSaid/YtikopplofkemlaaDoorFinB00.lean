/- finalize's second part, walked. No condition. -/
import Derived.Test.YtikopplofkemlaaDoorEls
namespace Go.Proofs.YtikopplofkemlaaDoor.Use
open Go.ChangeShapes Go.WideShapes Go.ChangeAt Go.RowKit Go.Sort Own
set_option linter.unusedVariables false
noncomputable def rfinB00a2E (src : Int) (cx : Nat) (v21 : Nat) (v22 : Nat) (v23 : Nat) (v26 : Nat) (loc : Int) (si : Nat) (i0 : Nat) (i1 : Int) (i2 : Int) (awb : Bool) (sa : Option Addr) (enl : Nat) (ecp : Nat) (fb : Nat) (fl : Nat) : Nat → Rega.Atoms → Value
 | 0, α => vN
 | 1, α => .agg #[vI loc]
 | 2, α => .agg #[vI loc]
 | 3, α => vP cx
 | 4, α => vP cx
 | 5, α => .pointer (some ⟨cx, 1, none⟩)
 | 6, α => .agg #[vU src, vU (si : Int)]
 | 7, α => .agg #[vU src, vU (si : Int)]
 | 8, α => vP (α 8)
 | 9, α => vF 134 (α 8)
 | 10, α => .agg #[vF 134 (α 8), vI loc]
 | 11, α => .agg #[vI loc]
 | 12, α => .agg #[vN, vI 0, vI 0, bF, bF]
 | 13, α => vP (α 13)
 | 14, α => vF 315 (α 13)
 | 15, α => .agg #[vF 315 (α 13), vI loc]
 | 16, α => .agg #[vF 134 (α 8), vI loc, vF 315 (α 13), vI loc]
 | 17, α => vS (α 17) 1 1
 | 18, α => .agg #[vS (α 17) 1 1, v8 0, bF, bF]
 | 19, α => vP (α 19)
 | 20, α => vF 42 (α 19)
 | 21, α => .agg #[vF 42 (α 19), vI loc]
 | 22, α => .agg #[vI loc]
 | 23, α => .slice sa enl ecp
 | 24, α => .agg #[.slice sa enl ecp, vI 0]
 | 25, α => .agg #[vI loc]
 | 26, α => .agg #[vI loc]
 | 27, α => .agg #[vI loc]
 | 28, α => .agg #[vU src, vU (i0 : Int)]
 | 29, α => .agg #[vU src, vU (i0 : Int)]
 | 30, α => vP (α 30)
 | 31, α => vF 134 (α 30)
 | 32, α => .agg #[vF 134 (α 30), vI loc]
 | 33, α => .agg #[vI loc]
 | 34, α => .agg #[vI loc]
 | 35, α => .agg #[vU src, vU i1]
 | 36, α => .agg #[vU src, vU i1]
 | 37, α => vP (α 37)
 | 38, α => vF 134 (α 37)
 | 39, α => .agg #[vF 134 (α 37), vI loc]
 | 40, α => .agg #[vI loc]
 | 41, α => .agg #[vU src, vU (i0 : Int)]
 | 42, α => .agg #[vU src, vU (i0 : Int), bF, bF, bF]
 | 43, α => vP (α 43)
 | 44, α => vF 267 (α 43)
 | 45, α => .agg #[vF 267 (α 43), vI loc]
 | 46, α => .agg #[vF 134 (α 37), vI loc, vF 267 (α 43), vI loc]
 | 47, α => .agg #[vI loc]
 | 48, α => .agg #[vU src, vU i2]
 | 49, α => .agg #[vU src, vU i2]
 | 50, α => vP (α 50)
 | 51, α => vF 134 (α 50)
 | 52, α => .agg #[vF 134 (α 50), vI loc]
 | 53, α => .agg #[vI loc]
 | 54, α => .agg #[.bool true]
 | 55, α => vP (α 55)
 | 56, α => vF 271 (α 55)
 | 57, α => .agg #[vF 271 (α 55), vI loc]
 | 58, α => .agg #[vF 134 (α 50), vI loc, vF 271 (α 55), vI loc]
 | 59, α => vS (α 59) 2 2
 | 60, α => .agg #[vS (α 59) 2 2, v8 0, bF, bF]
 | 61, α => vP (α 61)
 | 62, α => vF 42 (α 61)
 | 63, α => .agg #[vF 42 (α 61), vI loc]
 | 64, α => vS (α 64) 1 1
 | 65, α => .agg #[vS (α 64) 1 1, vI 0]
 | 66, α => .agg #[vI loc]
 | 67, α => .agg #[vF 134 (α 30), vI loc, vS (α 64) 1 1, vI 0, vI loc, vI loc]
 | 68, α => vP (α 68)
 | 69, α => .agg #[vI loc]
 | 70, α => vS fb fl fl
 | 71, α => .agg #[vS fb fl fl, vI 0]
 | 72, α => .agg #[vS fb fl fl, vI 0, vI loc]
 | 73, α => vP (α 73)
 | 74, α => .agg #[vP (α 68), vP (α 73), .slice sa enl ecp, vI 0, vI loc]
 | 75, α => vP (α 75)
 | 76, α => vF 67 (α 75)
 | 77, α => .agg #[vF 67 (α 75), vI loc]
 | 78, α => vS (α 78) 2 2
 | 79, α => vS (α 79) 2 (2 + α 1079)
 | 80, α => vS (α 79) 2 (2 + α 1079)
 | _, _ => undef
noncomputable def rfinB00a2Anc : Nat → List Nat
 | 4 => [3]
 | 5 => [3, 4]
 | 6 => [3, 4, 5]
 | 7 => [3, 4, 5, 6]
 | 8 => [3, 4, 5, 6, 7]
 | 9 => [3, 4, 5, 6, 7, 8]
 | 10 => [2, 3, 4, 5, 6, 7, 8, 9]
 | 13 => [12]
 | 14 => [12, 13]
 | 15 => [11, 12, 13, 14]
 | 16 => [2, 3, 4, 5, 6, 7, 8, 9, 10, 11, 12, 13, 14, 15]
 | 17 => [2, 3, 4, 5, 6, 7, 8, 9, 10, 11, 12, 13, 14, 15, 16]
 | 18 => [2, 3, 4, 5, 6, 7, 8, 9, 10, 11, 12, 13, 14, 15, 16, 17]
 | 19 => [2, 3, 4, 5, 6, 7, 8, 9, 10, 11, 12, 13, 14, 15, 16, 17, 18]
 | 20 => [2, 3, 4, 5, 6, 7, 8, 9, 10, 11, 12, 13, 14, 15, 16, 17, 18, 19]
 | 21 => [1, 2, 3, 4, 5, 6, 7, 8, 9, 10, 11, 12, 13, 14, 15, 16, 17, 18, 19, 20]
 | 24 => [23]
 | 29 => [28]
 | 30 => [28, 29]
 | 31 => [28, 29, 30]
 | 32 => [27, 28, 29, 30, 31]
 | 36 => [35]
 | 37 => [35, 36]
 | 38 => [35, 36, 37]
 | 39 => [34, 35, 36, 37, 38]
 | 42 => [41]
 | 43 => [41, 42]
 | 44 => [41, 42, 43]
 | 45 => [40, 41, 42, 43, 44]
 | 46 => [34, 35, 36, 37, 38, 39, 40, 41, 42, 43, 44, 45]
 | 49 => [48]
 | 50 => [48, 49]
 | 51 => [48, 49, 50]
 | 52 => [47, 48, 49, 50, 51]
 | 55 => [54]
 | 56 => [54, 55]
 | 57 => [53, 54, 55, 56]
 | 58 => [47, 48, 49, 50, 51, 52, 53, 54, 55, 56, 57]
 | 59 => [34, 35, 36, 37, 38, 39, 40, 41, 42, 43, 44, 45, 46, 47, 48, 49, 50, 51, 52, 53, 54, 55, 56, 57, 58]
 | 60 => [34, 35, 36, 37, 38, 39, 40, 41, 42, 43, 44, 45, 46, 47, 48, 49, 50, 51, 52, 53, 54, 55, 56, 57, 58, 59]
 | 61 => [34, 35, 36, 37, 38, 39, 40, 41, 42, 43, 44, 45, 46, 47, 48, 49, 50, 51, 52, 53, 54, 55, 56, 57, 58, 59, 60]
 | 62 => [34, 35, 36, 37, 38, 39, 40, 41, 42, 43, 44, 45, 46, 47, 48, 49, 50, 51, 52, 53, 54, 55, 56, 57, 58, 59, 60, 61]
 | 63 => [33, 34, 35, 36, 37, 38, 39, 40, 41, 42, 43, 44, 45, 46, 47, 48, 49, 50, 51, 52, 53, 54, 55, 56, 57, 58, 59, 60, 61, 62]
 | 64 => [33, 34, 35, 36, 37, 38, 39, 40, 41, 42, 43, 44, 45, 46, 47, 48, 49, 50, 51, 52, 53, 54, 55, 56, 57, 58, 59, 60, 61, 62, 63]
 | 65 => [33, 34, 35, 36, 37, 38, 39, 40, 41, 42, 43, 44, 45, 46, 47, 48, 49, 50, 51, 52, 53, 54, 55, 56, 57, 58, 59, 60, 61, 62, 63, 64]
 | 67 => [26, 27, 28, 29, 30, 31, 32, 33, 34, 35, 36, 37, 38, 39, 40, 41, 42, 43, 44, 45, 46, 47, 48, 49, 50, 51, 52, 53, 54, 55, 56, 57, 58, 59, 60, 61, 62, 63, 64, 65, 66]
 | 68 => [26, 27, 28, 29, 30, 31, 32, 33, 34, 35, 36, 37, 38, 39, 40, 41, 42, 43, 44, 45, 46, 47, 48, 49, 50, 51, 52, 53, 54, 55, 56, 57, 58, 59, 60, 61, 62, 63, 64, 65, 66, 67]
 | 71 => [70]
 | 72 => [69, 70, 71]
 | 73 => [69, 70, 71, 72]
 | 74 => [23, 24, 25, 26, 27, 28, 29, 30, 31, 32, 33, 34, 35, 36, 37, 38, 39, 40, 41, 42, 43, 44, 45, 46, 47, 48, 49, 50, 51, 52, 53, 54, 55, 56, 57, 58, 59, 60, 61, 62, 63, 64, 65, 66, 67, 68, 69, 70, 71, 72, 73]
 | 75 => [23, 24, 25, 26, 27, 28, 29, 30, 31, 32, 33, 34, 35, 36, 37, 38, 39, 40, 41, 42, 43, 44, 45, 46, 47, 48, 49, 50, 51, 52, 53, 54, 55, 56, 57, 58, 59, 60, 61, 62, 63, 64, 65, 66, 67, 68, 69, 70, 71, 72, 73, 74]
 | 76 => [23, 24, 25, 26, 27, 28, 29, 30, 31, 32, 33, 34, 35, 36, 37, 38, 39, 40, 41, 42, 43, 44, 45, 46, 47, 48, 49, 50, 51, 52, 53, 54, 55, 56, 57, 58, 59, 60, 61, 62, 63, 64, 65, 66, 67, 68, 69, 70, 71, 72, 73, 74, 75]
 | 77 => [22, 23, 24, 25, 26, 27, 28, 29, 30, 31, 32, 33, 34, 35, 36, 37, 38, 39, 40, 41, 42, 43, 44, 45, 46, 47, 48, 49, 50, 51, 52, 53, 54, 55, 56, 57, 58, 59, 60, 61, 62, 63, 64, 65, 66, 67, 68, 69, 70, 71, 72, 73, 74, 75, 76]
 | 78 => [1, 2, 3, 4, 5, 6, 7, 8, 9, 10, 11, 12, 13, 14, 15, 16, 17, 18, 19, 20, 21, 22, 23, 24, 25, 26, 27, 28, 29, 30, 31, 32, 33, 34, 35, 36, 37, 38, 39, 40, 41, 42, 43, 44, 45, 46, 47, 48, 49, 50, 51, 52, 53, 54, 55, 56, 57, 58, 59, 60, 61, 62, 63, 64, 65, 66, 67, 68, 69, 70, 71, 72, 73, 74, 75, 76, 77]
 | 79 => [0, 1, 2, 3, 4, 5, 6, 7, 8, 9, 10, 11, 12, 13, 14, 15, 16, 17, 18, 19, 20, 21, 22, 23, 24, 25, 26, 27, 28, 29, 30, 31, 32, 33, 34, 35, 36, 37, 38, 39, 40, 41, 42, 43, 44, 45, 46, 47, 48, 49, 50, 51, 52, 53, 54, 55, 56, 57, 58, 59, 60, 61, 62, 63, 64, 65, 66, 67, 68, 69, 70, 71, 72, 73, 74, 75, 76, 77, 78]
 | 80 => [0, 1, 2, 3, 4, 5, 6, 7, 8, 9, 10, 11, 12, 13, 14, 15, 16, 17, 18, 19, 20, 21, 22, 23, 24, 25, 26, 27, 28, 29, 30, 31, 32, 33, 34, 35, 36, 37, 38, 39, 40, 41, 42, 43, 44, 45, 46, 47, 48, 49, 50, 51, 52, 53, 54, 55, 56, 57, 58, 59, 60, 61, 62, 63, 64, 65, 66, 67, 68, 69, 70, 71, 72, 73, 74, 75, 76, 77, 78, 79]
 | _ => []
noncomputable def rfinB00a2Trn : Nat → List Nat
 | _ => []
noncomputable def rfinB00a2Cnt : List (Nat × Nat) := [(8, 1), (13, 1), (17, 1), (19, 1), (30, 1), (37, 1), (43, 1), (50, 1), (55, 1), (59, 1), (61, 1), (64, 1), (68, 1), (73, 1), (75, 1), (78, 1), (79, 1)]
noncomputable def rfinB00a2R (src : Int) (cx : Nat) (v21 : Nat) (v22 : Nat) (v23 : Nat) (v26 : Nat) (loc : Int) (si : Nat) (i0 : Nat) (i1 : Int) (i2 : Int) (awb : Bool) (sa : Option Addr) (enl : Nat) (ecp : Nat) (fb : Nat) (fl : Nat) (L9 : Nat → Bool) (α : Rega.Atoms) (ix9 : Nat) : Rw := if ix9 = 999 then row (cx) 33 #[vI loc, vU src, vU (si : Int), .bool awb] else if ix9 = 1999 then row (v21) 31 #[vU src, vU (i0 : Int)] else if ix9 = 2999 then row (v22) 31 #[vU src, vU i1] else if ix9 = 3999 then row (v23) 31 #[vU src, vU i2] else if ix9 = 4999 then row (v26) 28 #[vI loc] else if ix9 = 8 then row (α 8) 136 #[vU src, vU (si : Int)] else if ix9 = 13 then row (α 13) 317 #[vN, vI 0, vI 0, bF, bF] else if ix9 = 17 then row (α 17) 54 #[vF 134 (α 8), vI loc, vF 315 (α 13), vI loc] else if ix9 = 19 then row (α 19) 57 #[vS (α 17) 1 1, v8 0, bF, bF] else if ix9 = 30 then row (α 30) 136 #[vU src, vU (i0 : Int)] else if ix9 = 37 then row (α 37) 136 #[vU src, vU i1] else if ix9 = 43 then row (α 43) 270 #[vU src, vU (i0 : Int), bF, bF, bF] else if ix9 = 50 then row (α 50) 136 #[vU src, vU i2] else if ix9 = 55 then row (α 55) 274 #[.bool true] else if ix9 = 59 then row (α 59) 54 #[vF 134 (α 37), vI loc, vF 267 (α 43), vI loc, vF 134 (α 50), vI loc, vF 271 (α 55), vI loc] else if ix9 = 61 then row (α 61) 57 #[vS (α 59) 2 2, v8 0, bF, bF] else if ix9 = 64 then row (α 64) 61 #[vF 42 (α 61), vI loc] else if ix9 = 68 then row (α 68) 319 #[vF 134 (α 30), vI loc, vS (α 64) 1 1, vI 0, vI loc, vI loc] else if ix9 = 73 then row (α 73) 116 #[vS fb fl fl, vI 0, vI loc] else if ix9 = 75 then row (α 75) 76 #[vP (α 68), vP (α 73), .slice sa enl ecp, vI 0, vI loc] else if ix9 = 78 then row (α 78) 61 #[vF 42 (α 19), vI loc, vF 67 (α 75), vI loc] else if ix9 = 79 then row (α 79) 61 (full stmZ [vF 42 (α 19), vI loc, vF 67 (α 75), vI loc] (α 1079)) else (0, .map #[] 0)
set_option maxHeartbeats 4000000 in
theorem rfinB00a2_he (src : Int) (cx : Nat) (v21 : Nat) (v22 : Nat) (v23 : Nat) (v26 : Nat) (loc : Int) (si : Nat) (i0 : Nat) (i1 : Int) (i2 : Int) (awb : Bool) (sa : Option Addr) (enl : Nat) (ecp : Nat) (fb : Nat) (fl : Nat) : ∀ kk α α', (∀ j, (j % 1000 = kk ∨ j % 1000 ∈ rfinB00a2Anc kk) → α j = α' j) → rfinB00a2E src cx v21 v22 v23 v26 loc si i0 i1 i2 awb sa enl ecp fb fl kk α = rfinB00a2E src cx v21 v22 v23 v26 loc si i0 i1 i2 awb sa enl ecp fb fl kk α' := by
 intro kk α α' h
 match kk with
 | 0 => rfl
 | 1 => rfl
 | 2 => rfl
 | 3 => rfl
 | 4 => rfl
 | 5 => rfl
 | 6 => rfl
 | 7 => rfl
 | 8 => simp only [rfinB00a2E, h 8 (Or.inl rfl)]
 | 9 => simp only [rfinB00a2E, h 8 (Or.inr dc)]
 | 10 => simp only [rfinB00a2E, h 8 (Or.inr dc)]
 | 11 => rfl
 | 12 => rfl
 | 13 => simp only [rfinB00a2E, h 13 (Or.inl rfl)]
 | 14 => simp only [rfinB00a2E, h 13 (Or.inr dc)]
 | 15 => simp only [rfinB00a2E, h 13 (Or.inr dc)]
 | 16 => simp only [rfinB00a2E, h 8 (Or.inr dc), h 13 (Or.inr dc)]
 | 17 => simp only [rfinB00a2E, h 17 (Or.inl rfl)]
 | 18 => simp only [rfinB00a2E, h 17 (Or.inr dc)]
 | 19 => simp only [rfinB00a2E, h 19 (Or.inl rfl)]
 | 20 => simp only [rfinB00a2E, h 19 (Or.inr dc)]
 | 21 => simp only [rfinB00a2E, h 19 (Or.inr dc)]
 | 22 => rfl
 | 23 => rfl
 | 24 => rfl
 | 25 => rfl
 | 26 => rfl
 | 27 => rfl
 | 28 => rfl
 | 29 => rfl
 | 30 => simp only [rfinB00a2E, h 30 (Or.inl rfl)]
 | 31 => simp only [rfinB00a2E, h 30 (Or.inr dc)]
 | 32 => simp only [rfinB00a2E, h 30 (Or.inr dc)]
 | 33 => rfl
 | 34 => rfl
 | 35 => rfl
 | 36 => rfl
 | 37 => simp only [rfinB00a2E, h 37 (Or.inl rfl)]
 | 38 => simp only [rfinB00a2E, h 37 (Or.inr dc)]
 | 39 => simp only [rfinB00a2E, h 37 (Or.inr dc)]
 | 40 => rfl
 | 41 => rfl
 | 42 => rfl
 | 43 => simp only [rfinB00a2E, h 43 (Or.inl rfl)]
 | 44 => simp only [rfinB00a2E, h 43 (Or.inr dc)]
 | 45 => simp only [rfinB00a2E, h 43 (Or.inr dc)]
 | 46 => simp only [rfinB00a2E, h 37 (Or.inr dc), h 43 (Or.inr dc)]
 | 47 => rfl
 | 48 => rfl
 | 49 => rfl
 | 50 => simp only [rfinB00a2E, h 50 (Or.inl rfl)]
 | 51 => simp only [rfinB00a2E, h 50 (Or.inr dc)]
 | 52 => simp only [rfinB00a2E, h 50 (Or.inr dc)]
 | 53 => rfl
 | 54 => rfl
 | 55 => simp only [rfinB00a2E, h 55 (Or.inl rfl)]
 | 56 => simp only [rfinB00a2E, h 55 (Or.inr dc)]
 | 57 => simp only [rfinB00a2E, h 55 (Or.inr dc)]
 | 58 => simp only [rfinB00a2E, h 50 (Or.inr dc), h 55 (Or.inr dc)]
 | 59 => simp only [rfinB00a2E, h 59 (Or.inl rfl)]
 | 60 => simp only [rfinB00a2E, h 59 (Or.inr dc)]
 | 61 => simp only [rfinB00a2E, h 61 (Or.inl rfl)]
 | 62 => simp only [rfinB00a2E, h 61 (Or.inr dc)]
 | 63 => simp only [rfinB00a2E, h 61 (Or.inr dc)]
 | 64 => simp only [rfinB00a2E, h 64 (Or.inl rfl)]
 | 65 => simp only [rfinB00a2E, h 64 (Or.inr dc)]
 | 66 => rfl
 | 67 => simp only [rfinB00a2E, h 30 (Or.inr dc), h 64 (Or.inr dc)]
 | 68 => simp only [rfinB00a2E, h 68 (Or.inl rfl)]
 | 69 => rfl
 | 70 => rfl
 | 71 => rfl
 | 72 => rfl
 | 73 => simp only [rfinB00a2E, h 73 (Or.inl rfl)]
 | 74 => simp only [rfinB00a2E, h 68 (Or.inr dc), h 73 (Or.inr dc)]
 | 75 => simp only [rfinB00a2E, h 75 (Or.inl rfl)]
 | 76 => simp only [rfinB00a2E, h 75 (Or.inr dc)]
 | 77 => simp only [rfinB00a2E, h 75 (Or.inr dc)]
 | 78 => simp only [rfinB00a2E, h 78 (Or.inl rfl)]
 | 79 => simp only [rfinB00a2E, h 79 (Or.inl rfl), h 1079 (Or.inl rfl)]
 | 80 => simp only [rfinB00a2E, h 79 (Or.inr dc), h 1079 (Or.inr dc)]
 | n + 81 => rfl
set_option maxHeartbeats 4000000 in
theorem rfinB00a2_st (src : Int) (cx : Nat) (v21 : Nat) (v22 : Nat) (v23 : Nat) (v26 : Nat) (loc : Int) (si : Nat) (i0 : Nat) (i1 : Int) (i2 : Int) (awb : Bool) (sa : Option Addr) (enl : Nat) (ecp : Nat) (fb : Nat) (fl : Nat) : Stable rfinB00a2Cnt 5 rfinB00a2Anc rfinB00a2Trn (rfinB00a2R src cx v21 v22 v23 v26 loc si i0 i1 i2 awb sa enl ecp fb fl) := by
 intro k9 L9 α α' ix9 hk hcl hα hact ht
 have hp := act_places hact
 replace hp : ix9 ∈ [999, 1999, 2999, 3999, 4999, 8, 13, 17, 19, 30, 37, 43, 50, 55, 59, 61, 64, 68, 73, 75, 78, 79] := hp
 simp only [List.mem_cons, List.not_mem_nil, or_false] at hp
 rcases hp with rfl | rfl | rfl | rfl | rfl | rfl | rfl | rfl | rfl | rfl | rfl | rfl | rfl | rfl | rfl | rfl | rfl | rfl | rfl | rfl | rfl | rfl
 ·rfl
 ·rfl
 ·rfl
 ·rfl
 ·rfl
 ·have e0 : L9 8 = true := act_lt hact dc
  show row (α' 8) 136 #[vU src, vU (si : Int)] = row (α 8) 136 #[vU src, vU (si : Int)]
  simp only [hα 8 (ne_ran hk e0)]
 ·have e0 : L9 13 = true := act_lt hact dc
  show row (α' 13) 317 #[vN, vI 0, vI 0, bF, bF] = row (α 13) 317 #[vN, vI 0, vI 0, bF, bF]
  simp only [hα 13 (ne_ran hk e0)]
 ·have e0 : L9 17 = true := act_lt hact dc
  show row (α' 17) 54 #[vF 134 (α' 8), vI loc, vF 315 (α' 13), vI loc] = row (α 17) 54 #[vF 134 (α 8), vI loc, vF 315 (α 13), vI loc]
  simp only [hα 8 (ne_ran hk (hcl 17 e0 8 dc)), hα 13 (ne_ran hk (hcl 17 e0 13 dc)), hα 17 (ne_ran hk e0)]
 ·have e0 : L9 19 = true := act_lt hact dc
  show row (α' 19) 57 #[vS (α' 17) 1 1, v8 0, bF, bF] = row (α 19) 57 #[vS (α 17) 1 1, v8 0, bF, bF]
  simp only [hα 17 (ne_ran hk (hcl 19 e0 17 dc)), hα 19 (ne_ran hk e0)]
 ·have e0 : L9 30 = true := act_lt hact dc
  show row (α' 30) 136 #[vU src, vU (i0 : Int)] = row (α 30) 136 #[vU src, vU (i0 : Int)]
  simp only [hα 30 (ne_ran hk e0)]
 ·have e0 : L9 37 = true := act_lt hact dc
  show row (α' 37) 136 #[vU src, vU i1] = row (α 37) 136 #[vU src, vU i1]
  simp only [hα 37 (ne_ran hk e0)]
 ·have e0 : L9 43 = true := act_lt hact dc
  show row (α' 43) 270 #[vU src, vU (i0 : Int), bF, bF, bF] = row (α 43) 270 #[vU src, vU (i0 : Int), bF, bF, bF]
  simp only [hα 43 (ne_ran hk e0)]
 ·have e0 : L9 50 = true := act_lt hact dc
  show row (α' 50) 136 #[vU src, vU i2] = row (α 50) 136 #[vU src, vU i2]
  simp only [hα 50 (ne_ran hk e0)]
 ·have e0 : L9 55 = true := act_lt hact dc
  show row (α' 55) 274 #[.bool true] = row (α 55) 274 #[.bool true]
  simp only [hα 55 (ne_ran hk e0)]
 ·have e0 : L9 59 = true := act_lt hact dc
  show row (α' 59) 54 #[vF 134 (α' 37), vI loc, vF 267 (α' 43), vI loc, vF 134 (α' 50), vI loc, vF 271 (α' 55), vI loc] = row (α 59) 54 #[vF 134 (α 37), vI loc, vF 267 (α 43), vI loc, vF 134 (α 50), vI loc, vF 271 (α 55), vI loc]
  simp only [hα 37 (ne_ran hk (hcl 59 e0 37 dc)), hα 43 (ne_ran hk (hcl 59 e0 43 dc)), hα 50 (ne_ran hk (hcl 59 e0 50 dc)), hα 55 (ne_ran hk (hcl 59 e0 55 dc)), hα 59 (ne_ran hk e0)]
 ·have e0 : L9 61 = true := act_lt hact dc
  show row (α' 61) 57 #[vS (α' 59) 2 2, v8 0, bF, bF] = row (α 61) 57 #[vS (α 59) 2 2, v8 0, bF, bF]
  simp only [hα 59 (ne_ran hk (hcl 61 e0 59 dc)), hα 61 (ne_ran hk e0)]
 ·have e0 : L9 64 = true := act_lt hact dc
  show row (α' 64) 61 #[vF 42 (α' 61), vI loc] = row (α 64) 61 #[vF 42 (α 61), vI loc]
  simp only [hα 61 (ne_ran hk (hcl 64 e0 61 dc)), hα 64 (ne_ran hk e0)]
 ·have e0 : L9 68 = true := act_lt hact dc
  show row (α' 68) 319 #[vF 134 (α' 30), vI loc, vS (α' 64) 1 1, vI 0, vI loc, vI loc] = row (α 68) 319 #[vF 134 (α 30), vI loc, vS (α 64) 1 1, vI 0, vI loc, vI loc]
  simp only [hα 30 (ne_ran hk (hcl 68 e0 30 dc)), hα 64 (ne_ran hk (hcl 68 e0 64 dc)), hα 68 (ne_ran hk e0)]
 ·have e0 : L9 73 = true := act_lt hact dc
  show row (α' 73) 116 #[vS fb fl fl, vI 0, vI loc] = row (α 73) 116 #[vS fb fl fl, vI 0, vI loc]
  simp only [hα 73 (ne_ran hk e0)]
 ·have e0 : L9 75 = true := act_lt hact dc
  show row (α' 75) 76 #[vP (α' 68), vP (α' 73), .slice sa enl ecp, vI 0, vI loc] = row (α 75) 76 #[vP (α 68), vP (α 73), .slice sa enl ecp, vI 0, vI loc]
  simp only [hα 68 (ne_ran hk (hcl 75 e0 68 dc)), hα 73 (ne_ran hk (hcl 75 e0 73 dc)), hα 75 (ne_ran hk e0)]
 ·have e0 : L9 78 = true := act_lt hact dc
  show row (α' 78) 61 #[vF 42 (α' 19), vI loc, vF 67 (α' 75), vI loc] = row (α 78) 61 #[vF 42 (α 19), vI loc, vF 67 (α 75), vI loc]
  simp only [hα 19 (ne_ran hk (hcl 78 e0 19 dc)), hα 75 (ne_ran hk (hcl 78 e0 75 dc)), hα 78 (ne_ran hk e0)]
 ·have e0 : L9 79 = true := act_lt hact dc
  show row (α' 79) 61 (full stmZ [vF 42 (α' 19), vI loc, vF 67 (α' 75), vI loc] (α' 1079)) = row (α 79) 61 (full stmZ [vF 42 (α 19), vI loc, vF 67 (α 75), vI loc] (α 1079))
  simp only [hα 19 (ne_ran hk (hcl 79 e0 19 dc)), hα 75 (ne_ran hk (hcl 79 e0 75 dc)), hα 79 (ne_ran hk e0), hα 1079 (ne_ran hk e0)]

set_option maxRecDepth 100000 in
set_option maxHeartbeats 4000000 in
theorem finB00 (pb : Nat) (PC : Array Value) (sb c : Nat) (st : List Sy) (n pt : Nat) (QC : Array Value) (mu : Nat) (ul : List (Int × Int × Int)) (src : Int) (cx x5 e10 v21 v22 v23 v26 : Nat) (loc : Int) (si i0 : Nat) (i1 i2 : Int) (awb : Bool) (sa : Option Addr) (enl ecp fb fl : Nat) {A0 A1 A2 A3 A4 A5 A6 A7 A8 A9 AA AB AC AD AE AF AG AH AI AJ AK AL AM AN AO AP AQ AR AS AT AU AV AW AX AY AZ B0 B1 B2 B3 B4 B5 B6 B7 B8 B9 BA BB BC BD BE BF BG BH BI BJ BK BL BM BN BO BP BQ BR BS BT BU BV BW BX BY BZ C0 C1 C2 C3 C4 C5 C6 C7 C8 C9 CA CB CC CD CE CF CG CH CI CJ CK CL CM CN CO CP CQ CR CS CT CU CV CW CX CY CZ E0 E1 E2 E3 E4 E5 E6 E7 E8 E9 EA EB EC ED EE EF EG EH EI EJ EK EL EM EN EO EP EQ ER ES ET EU EV EW EX EY EZ F0 F1 F2 F3 F4 F5 F6 F7 F8 F9 FA FB FC FD FE FF FG FH FI FJ FK FL FM FN FO FP FQ FR FS FT FU FV FW FX FY FZ G0 G1 G2 G3 G4 G5 G6 G7 G8 G9 GA GB GC GD GE GF GG GH GI GJ GK GL GM GN GO GP GQ GR GS GT GU GV GW GX GY GZ I0 I1 I2 I3 I4 I5 I6 I7 I8 I9 IA IB IC ID IE IF IG IH II IJ IK IL IM IN IO IP IQ IR IS IT IU IV IW IX IY IZ J0 J1 J2 J3 J4 J5 J6 J7 J8 J9 JA JB JC JD JE JF JG JH JI JJ JK JL JM JN JO JP JQ JR JS JT JU JV JW JX JY JZ M0 M1 M2 M3 M4 M5 M6 M7 M8 M9 MA MB MC MD ME MF MG MH MI MJ MK ML MM MN MO MP MQ MR MS MT MU MV MW MX MY MZ N0 N1 N2 N3 N4 N5 N6 N7 N8 N9 NA NB NC ND NE NF NG NH NI NJ NK NL NM NN NO NP NQ NR NS NT NU NV NW NX NY NZ O0 O1 O2 O3 O4 O5 O6 O7 O8 O9 OA OB OC OD OE OF OG OH OI OJ OK OL OM ON OO OP OQ OR OS OT OU OV OW OX OY OZ P0 P1 P2 P3 P4 P5 P6 P7 P8 P9 PA PB PD PE : Value} (w0 w : World) (X : Nat → Obj → Prop) (Post : Ending → World → Prop) (hP : ∀ (qb qc lb ld li la yb yc yf : Nat) (w2 : World), Own w0 w2 [row (qb) 61 (full stmZ [vF 42 lb, vI loc, vF 67 yb, vI loc] qc), row (lb) 57 #[vS ld 1 1, v8 0, bF, bF], row (ld) 54 #[vF 134 li, vI loc, vF 315 la, vI loc], row (li) 136 #[vU src, vU (si : Int)], row (yb) 76 #[vP yc, vP yf, .slice sa enl ecp, vI 0, vI loc], row (yf) 116 #[vS fb fl fl, vI 0, vI loc], row (pb) 252 PC, row (sb) 260 (full symZ (symL (bump st i0)) c), row (pt) 107 QC, ((mu, .map (uA (ubump ul src (i0 : Int))) (uN (ubump ul src (i0 : Int)))) : Rw)] X → Post (.returned (vS qb 2 (2 + qc))) w2) (hO : Own w0 w [row (x5) 25 #[vP pb], row (cx) 33 #[vI loc, vU src, vU (si : Int), .bool awb], row (v21) 31 #[vU src, vU (i0 : Int)], row (v22) 31 #[vU src, vU i1], row (v23) 31 #[vU src, vU i2], row (v26) 28 #[vI loc], row (e10) 77 #[vN], row (pb) 252 PC, row (sb) 260 (full symZ (symL st) c), row (pt) 107 QC, ((mu, .map (uA ul) (uN ul)) : Rw)] X) (hk350 : PC[350]? = some (bF)) (hk32 : PC[32]? = some (bF)) (hk105 : PC[105]? = some (vP pt)) (hk106 : PC[106]? = some (vS sb n (n + c))) (hn : st.length = n) (hnb : n ≤ 200000) (hi0 : i0 < n) (hsu : QC[4]? = some (.map (some mu))) :
  Code.wp Tryd.prog restB (bodyPost Tryd.prog Tryd.f39 Post) ⟨#[vP cx, A0, .slice sa enl ecp, A1, A2, vP x5, A3, A4, A5, vN, vP e10, A6, A7, A8, A9, AA, AB, AC, AD, AE, AF, vP v21, vP v22, vP v23, AG, AH, vP v26, AI, vS fb fl fl, AJ, AK, AL, AM, AN, AO, AP, AQ, AR, AS, AT, AU, AV, AW, AX, AY, AZ, B0, B1, B2, B3, B4, B5, B6, B7, B8, B9, BA, BB, BC, BD, BE, BF, BG, BH, BI, BJ, BK, BL, BM, BN, BO, BP, BQ, BR, BS, BT, BU, BV, BW, BX, BY, BZ, C0, C1, C2, C3, C4, C5, C6, C7, C8, C9, CA, CB, CC, CD, CE, CF, CG, CH, CI, CJ, CK, CL, CM, CN, CO, CP, CQ, CR, CS, CT, CU, CV, CW, CX, CY, CZ, E0, E1, E2, E3, E4, E5, E6, E7, E8, E9, EA, EB, EC, ED, EE, EF, EG, EH, EI, EJ, EK, EL, EM, EN, EO, EP, EQ, ER, ES, ET, EU, EV, EW, EX, EY, EZ, F0, F1, F2, F3, F4, F5, F6, F7, F8, F9, FA, FB, FC, FD, FE, FF, FG, FH, FI, FJ, FK, FL, FM, FN, FO, FP, FQ, FR, FS, FT, FU, FV, FW, FX, FY, FZ, G0, G1, G2, G3, G4, G5, G6, G7, G8, G9, GA, GB, GC, GD, GE, GF, GG, GH, GI, GJ, GK, GL, GM, GN, GO, GP, GQ, GR, GS, GT, GU, GV, GW, GX, GY, GZ, I0, I1, I2, I3, I4, I5, I6, I7, I8, I9, IA, IB, IC, ID, IE, IF, IG, IH, II, IJ, IK, IL, IM, IN, IO, IP, IQ, IR, IS, IT, IU, IV, IW, IX, IY, IZ, J0, J1, J2, J3, J4, J5, J6, J7, J8, J9, JA, JB, JC, JD, JE, JF, JG, JH, JI, JJ, JK, JL, JM, JN, JO, JP, JQ, JR, JS, JT, JU, JV, JW, JX, JY, JZ, M0, M1, M2, M3, M4, M5, M6, M7, M8, M9, MA, MB, MC, MD, ME, MF, MG, MH, MI, MJ, MK, ML, MM, MN, MO, MP, MQ, MR, MS, MT, MU, MV, MW, MX, MY, MZ, N0, N1, N2, N3, N4, N5, N6, N7, N8, N9, NA, NB, NC, ND, NE, NF, NG, NH, NI, NJ, NK, NL, NM, NN, NO, NP, NQ, NR, NS, NT, NU, NV, NW, NX, NY, NZ, O0, O1, O2, O3, O4, O5, O6, O7, O8, O9, OA, OB, OC, OD, OE, OF, OG, OH, OI, OJ, OK, OL, OM, ON, OO, OP, OQ, OR, OS, OT, OU, OV, OW, OX, OY, OZ, P0, P1, P2, P3, P4, P5, P6, P7, P8, P9, PA, PB, PD, PE], []⟩ w := by
 have HP := Lib.hid hP
 clear hP
 simp only [restB, Tryd.f39, Option.getD_some, cutC]
 obtain ⟨aJ, aK, aL, -⟩ := hO.k1 0 rfl
 obtain ⟨aM, aN, ao, ap, aO, aP, -⟩ := hO.k4 1 rfl
 obtain ⟨aQ, aR, aS, aT, -⟩ := hO.k2 2 rfl
 obtain ⟨aU, aV, aW, aX, -⟩ := hO.k2 3 rfl
 obtain ⟨aA, aq, aB, aC, -⟩ := hO.k2 4 rfl
 obtain ⟨aD, aE, aF, -⟩ := hO.k1 5 rfl
 obtain ⟨aG, aH, aI, -⟩ := hO.k1 6 rfl
 have HO := Lib.hid hO
 clear hO
 go_wp2_with (first | (with_reducible refine Own.stay (fn := Tryd.f39) ?_) | fail)
 try with_reducible refine Own.Stay.mk ?_
 have hO := HO.out
 clear HO aJ aK aL aM aN ao ap aO aP aQ aR aS aT aU aV aW aX aA aq aB aC aD aE aF aG aH aI
 obtain ⟨HL, HX⟩ := hid2 hO
 have hP9 := hO.pick [7, 8, 9, 10] dc
 have h9_hnb : n ≤ 4000000 := (by omega)
 have T9 := useP pb PC sb c st n pt QC mu ul src i0 _ _ _ hP9 hk350 hk32 hk105 hk106 hn h9_hnb hsu hi0
 refine Calls.mono T9 ?_
 clear hP9 T9 h9_hnb
 rintro e uw1 ⟨rfl, hQ⟩
 replace hO : Own w0 uw1 [row (pb) 252 PC, row (sb) 260 (full symZ (symL (bump st i0)) c), row (pt) 107 QC, ((mu, .map (uA (ubump ul src (i0 : Int))) (uN (ubump ul src (i0 : Int)))) : Rw), row (x5) 25 #[vP pb], row (cx) 33 #[vI loc, vU src, vU (si : Int), .bool awb], row (v21) 31 #[vU src, vU (i0 : Int)], row (v22) 31 #[vU src, vU i1], row (v23) 31 #[vU src, vU i2], row (v26) 28 #[vI loc], row (e10) 77 #[vN]] X := hQ.back HL.out HX.out [0, 1, 2, 3, 4, 5, 6] dc dc
 clear hQ HL HX
 obtain ⟨aA, aB, aC, -⟩ := hO.k1 4 rfl
 obtain ⟨aD, aY, ar, au, aE, aF, -⟩ := hO.k4 5 rfl
 obtain ⟨aG, aZ, aH, aI, -⟩ := hO.k2 6 rfl
 obtain ⟨aa, ab, ac, ad, -⟩ := hO.k2 7 rfl
 obtain ⟨ae, af, ag, ah, -⟩ := hO.k2 8 rfl
 obtain ⟨ai, aj, ak, -⟩ := hO.k1 9 rfl
 obtain ⟨al, am, an, -⟩ := hO.k1 10 rfl
 have HO := Lib.hid hO
 clear hO
 go_wp2_with (first | (with_reducible refine Own.stay (fn := Tryd.f39) ?_) | fail)
 try with_reducible refine Own.Stay.mk ?_
 have hO := HO.out
 clear HO aA aB aC aD aY ar au aE aF aG aZ aH aI aa ab ac ad ae af ag ah ai aj ak al am an
 obtain ⟨HL, HX⟩ := hid2 hO
 have hP9 := hO.pick [5, 6, 7, 8, 9] dc
 generalize hX9_2 : Own.Rest _ _ X = X9_2 at hP9
 replace hP9 : Own w0 uw1 [row (cx) 33 #[vI loc, vU src, vU (si : Int), .bool awb], row (v21) 31 #[vU src, vU (i0 : Int)], row (v22) 31 #[vU src, vU i1], row (v23) 31 #[vU src, vU i2], row (v26) 28 #[vI loc]] X9_2 := hP9
 clear hO
 have hO := hP9
 clear hP9
 have st9 := rfinB00a2_st src cx v21 v22 v23 v26 loc si i0 i1 i2 awb sa enl ecp fb fl
 let R9 := rfinB00a2R src cx v21 v22 v23 v26 loc si i0 i1 i2 awb sa enl ecp fb fl
 refine wp_region_own (e := rfinB00a2E src cx v21 v22 v23 v26 loc si i0 i1 i2 awb sa enl ecp fb fl) (anc := rfinB00a2Anc) (G := (fun L9 α u9 => OwnF w0 u9 (act rfinB00a2Cnt 5 L9) (rfinB00a2R src cx v21 v22 v23 v26 loc si i0 i1 i2 awb sa enl ecp fb fl L9 α) X9_2)) (by kernel_rfl) (by kernel_rfl) (by kernel_rfl) (by kernel_rfl) (rfinB00a2_he src cx v21 v22 v23 v26 loc si i0 i1 i2 awb sa enl ecp fb fl) ?_ (RunsAll.all ?_) ?_
 ·have hp : ∀ i, act rfinB00a2Cnt 5 (fun _ => false) i → i ∈ [999, 1999, 2999, 3999, 4999] := by
   intro i hi
   have h9 : i % 1000 = 999 := by
    by_cases h : i % 1000 = 999
    ·exact h
    ·exact absurd (act_lt hi h) (by simp)
   unfold act at hi
   rw [if_pos h9] at hi
   simp only [List.mem_cons, List.not_mem_nil, or_false]
   omega
  refine hO.drew.family (fun i hi => ?_) (fun i j hi hj hij => ?_)
  ·have := hp i hi
   simp only [List.mem_cons, List.not_mem_nil, or_false] at this
   rcases this with rfl | rfl | rfl | rfl | rfl <;> rfl
  ·have h1 := hp i hi
   have h2 := hp j hj
   simp only [List.mem_cons, List.not_mem_nil, or_false] at h1 h2
   omega
 ·refine ⟨?_, ?_, ?_, ?_, ?_, ?_, ?_, ?_, ?_, ?_, ?_, ?_, ?_, ?_, ?_, ?_, ?_, ?_, ?_, ?_, ?_, ?_, ?_, ?_, ?_, ?_, ?_, ?_, ?_, ?_, ?_, ?_, ?_, ?_, ?_, ?_, ?_, ?_, ?_, ?_, ?_, ?_, ?_, ?_, ?_, ?_, ?_, ?_, ?_, ?_, ?_, ?_, ?_, ?_, ?_, ?_, ?_, ?_, ?_, ?_, ?_, ?_, ?_, ?_, ?_, ?_, ?_, ?_, ?_, ?_, ?_, ?_, ?_, ?_, ?_, ?_, ?_, ?_, ?_, ?_, ?_, trivial⟩
  ·refine pur st9 rfl rfl fun L9 α a9 u9 K9 hL hcl hA hG hS h0 h1 hK => ?_
   replace hL : L9 0 = false := hL
   have q9 : a9.tmps[9]? = some (vN) := (h1 9 80 (by kernel_rfl) (by
    cases hz : L9 80 with
    | false => rfl
    | true =>
     have := hcl 80 hz 0 dc
     rw [hL] at this
     cases this)).trans rfl
   have s9 := Rega.eval_of q9
   go_simp
   exact hK
  ·refine pur st9 rfl rfl fun L9 α a9 u9 K9 hL hcl hA hG hS h0 h1 hK => ?_
   have s26 := eS (vP v26) ((h0 26 (by kernel_rfl)).trans rfl)
   have e0 : R9 L9 α 4999 = row (v26) 28 #[vI loc] := rfl
   have hr := hG.rowAt 4999 (act_base 4999 rfl) e0
   have c0 : u9.cell? ⟨v26, 0, none⟩ = some (vI loc) := hr.cell rfl
   clear hr e0
   go_simp
   exact hK
  ·refine pur st9 rfl rfl fun L9 α a9 u9 K9 hL hcl hA hG hS h0 h1 hK => ?_
   have s26 := eS (vP v26) ((h0 26 (by kernel_rfl)).trans rfl)
   have e0 : R9 L9 α 4999 = row (v26) 28 #[vI loc] := rfl
   have hr := hG.rowAt 4999 (act_base 4999 rfl) e0
   have c0 : u9.cell? ⟨v26, 0, none⟩ = some (vI loc) := hr.cell rfl
   clear hr e0
   go_simp
   exact hK
  ·refine pur st9 rfl rfl fun L9 α a9 u9 K9 hL hcl hA hG hS h0 h1 hK => ?_
   have s0 := eS (vP cx) ((h0 0 (by kernel_rfl)).trans rfl)
   go_simp
   exact hK
  ·refine pur st9 rfl rfl fun L9 α a9 u9 K9 hL hcl hA hG hS h0 h1 hK => ?_
   have s330 := eS (vP cx) (hS 3 330 dc rfl (ltd 420 rfl))
   go_simp
   exact hK
  ·refine pur st9 rfl rfl fun L9 α a9 u9 K9 hL hcl hA hG hS h0 h1 hK => ?_
   have s331 := eS (vP cx) (hS 4 331 dc rfl (ltd 420 rfl))
   go_simp
   exact hK
  ·refine pur st9 rfl rfl fun L9 α a9 u9 K9 hL hcl hA hG hS h0 h1 hK => ?_
   have s332 := eS (.pointer (some ⟨cx, 1, none⟩)) (hS 5 332 dc rfl (ltd 420 rfl))
   have e0 : R9 L9 α 999 = row (cx) 33 #[vI loc, vU src, vU (si : Int), .bool awb] := rfl
   have hr := hG.rowAt 999 (act_base 999 rfl) e0
   have c0 : u9.cell? ⟨cx, 1, none⟩ = some (vU src) := hr.cell rfl
   have c1 : u9.cell? ⟨cx, 2, none⟩ = some (vU (si : Int)) := hr.cell rfl
   clear hr e0
   go_simp
   exact hK
  ·refine pur st9 rfl rfl fun L9 α a9 u9 K9 hL hcl hA hG hS h0 h1 hK => ?_
   have q333 : a9.tmps[333]? = some (.agg #[vU src, vU (si : Int)]) := hS 6 333 dc rfl (ltd 420 rfl)
   have s333 := Rega.eval_of q333
   go_simp
   exact hK
  ·intro L9 α a9 u9 K9 hL hcl hA hG hS h0 h1 hK
   replace hL : L9 8 = false := hL
   have q334 : a9.tmps[334]? = some (.agg #[vU src, vU (si : Int)]) := hS 7 334 dc rfl (ltd 420 rfl)
   have s334 := Rega.eval_of q334
   go_simp
   exact hK _ (fun j => if j = 8 then u9.heap.size else α j) _ (fun j hj => if_neg (fun e => hj (by rw [e]))) rfl (step_alloc st9 hL hcl rfl rfl dc _ rfl hG)
  ·refine pur st9 rfl rfl fun L9 α a9 u9 K9 hL hcl hA hG hS h0 h1 hK => ?_
   have s335 := eS (vP (α 8)) (hS 8 335 dc rfl (ltd 420 rfl))
   go_simp
   exact hK
  ·refine pur st9 rfl rfl fun L9 α a9 u9 K9 hL hcl hA hG hS h0 h1 hK => ?_
   have q329 : a9.tmps[329]? = some (.agg #[vI loc]) := hS 2 329 dc rfl (ltd 420 rfl)
   have s329 := Rega.eval_of q329
   have q336 : a9.tmps[336]? = some (vF 134 (α 8)) := hS 9 336 dc rfl (ltd 420 rfl)
   have s336 := Rega.eval_of q336
   go_simp
   exact hK
  ·refine pur st9 rfl rfl fun L9 α a9 u9 K9 hL hcl hA hG hS h0 h1 hK => ?_
   have s26 := eS (vP v26) ((h0 26 (by kernel_rfl)).trans rfl)
   have e0 : R9 L9 α 4999 = row (v26) 28 #[vI loc] := rfl
   have hr := hG.rowAt 4999 (act_base 4999 rfl) e0
   have c0 : u9.cell? ⟨v26, 0, none⟩ = some (vI loc) := hr.cell rfl
   clear hr e0
   go_simp
   exact hK
  ·refine pur st9 rfl rfl fun L9 α a9 u9 K9 hL hcl hA hG hS h0 h1 hK => ?_
   go_simp
   exact hK
  ·intro L9 α a9 u9 K9 hL hcl hA hG hS h0 h1 hK
   replace hL : L9 13 = false := hL
   have q339 : a9.tmps[339]? = some (.agg #[vN, vI 0, vI 0, bF, bF]) := hS 12 339 dc rfl (ltd 420 rfl)
   have s339 := Rega.eval_of q339
   go_simp
   exact hK _ (fun j => if j = 13 then u9.heap.size else α j) _ (fun j hj => if_neg (fun e => hj (by rw [e]))) rfl (step_alloc st9 hL hcl rfl rfl dc _ rfl hG)
  ·refine pur st9 rfl rfl fun L9 α a9 u9 K9 hL hcl hA hG hS h0 h1 hK => ?_
   have s340 := eS (vP (α 13)) (hS 13 340 dc rfl (ltd 420 rfl))
   go_simp
   exact hK
  ·refine pur st9 rfl rfl fun L9 α a9 u9 K9 hL hcl hA hG hS h0 h1 hK => ?_
   have q338 : a9.tmps[338]? = some (.agg #[vI loc]) := hS 11 338 dc rfl (ltd 420 rfl)
   have s338 := Rega.eval_of q338
   have q341 : a9.tmps[341]? = some (vF 315 (α 13)) := hS 14 341 dc rfl (ltd 420 rfl)
   have s341 := Rega.eval_of q341
   go_simp
   exact hK
  ·refine pur st9 rfl rfl fun L9 α a9 u9 K9 hL hcl hA hG hS h0 h1 hK => ?_
   have q337 : a9.tmps[337]? = some (.agg #[vF 134 (α 8), vI loc]) := hS 10 337 dc rfl (ltd 420 rfl)
   have s337 := Rega.eval_of q337
   have q342 : a9.tmps[342]? = some (.agg #[vF 315 (α 13), vI loc]) := hS 15 342 dc rfl (ltd 420 rfl)
   have s342 := Rega.eval_of q342
   go_simp
   exact hK
  ·intro L9 α a9 u9 K9 hL hcl hA hG hS h0 h1 hK
   replace hL : L9 17 = false := hL
   have q343 : a9.tmps[343]? = some (.agg #[vF 134 (α 8), vI loc, vF 315 (α 13), vI loc]) := hS 16 343 dc rfl (ltd 420 rfl)
   have s343 := Rega.eval_of q343
   go_simp
   exact hK _ (fun j => if j = 17 then u9.heap.size else α j) _ (fun j hj => if_neg (fun e => hj (by rw [e]))) rfl (step_alloc st9 hL hcl rfl rfl dc _ rfl hG)
  ·refine pur st9 rfl rfl fun L9 α a9 u9 K9 hL hcl hA hG hS h0 h1 hK => ?_
   have q344 : a9.tmps[344]? = some (vS (α 17) 1 1) := hS 17 344 dc rfl (ltd 420 rfl)
   have s344 := Rega.eval_of q344
   go_simp
   exact hK
  ·intro L9 α a9 u9 K9 hL hcl hA hG hS h0 h1 hK
   replace hL : L9 19 = false := hL
   have q345 : a9.tmps[345]? = some (.agg #[vS (α 17) 1 1, v8 0, bF, bF]) := hS 18 345 dc rfl (ltd 420 rfl)
   have s345 := Rega.eval_of q345
   go_simp
   exact hK _ (fun j => if j = 19 then u9.heap.size else α j) _ (fun j hj => if_neg (fun e => hj (by rw [e]))) rfl (step_alloc st9 hL hcl rfl rfl dc _ rfl hG)
  ·refine pur st9 rfl rfl fun L9 α a9 u9 K9 hL hcl hA hG hS h0 h1 hK => ?_
   have s346 := eS (vP (α 19)) (hS 19 346 dc rfl (ltd 420 rfl))
   go_simp
   exact hK
  ·refine pur st9 rfl rfl fun L9 α a9 u9 K9 hL hcl hA hG hS h0 h1 hK => ?_
   have q328 : a9.tmps[328]? = some (.agg #[vI loc]) := hS 1 328 dc rfl (ltd 420 rfl)
   have s328 := Rega.eval_of q328
   have q347 : a9.tmps[347]? = some (vF 42 (α 19)) := hS 20 347 dc rfl (ltd 420 rfl)
   have s347 := Rega.eval_of q347
   go_simp
   exact hK
  ·refine pur st9 rfl rfl fun L9 α a9 u9 K9 hL hcl hA hG hS h0 h1 hK => ?_
   have s26 := eS (vP v26) ((h0 26 (by kernel_rfl)).trans rfl)
   have e0 : R9 L9 α 4999 = row (v26) 28 #[vI loc] := rfl
   have hr := hG.rowAt 4999 (act_base 4999 rfl) e0
   have c0 : u9.cell? ⟨v26, 0, none⟩ = some (vI loc) := hr.cell rfl
   clear hr e0
   go_simp
   exact hK
  ·refine pur st9 rfl rfl fun L9 α a9 u9 K9 hL hcl hA hG hS h0 h1 hK => ?_
   have q2 : a9.tmps[2]? = some (.slice sa enl ecp) := (h0 2 (by kernel_rfl)).trans rfl
   have s2 := Rega.eval_of q2
   go_simp
   exact hK
  ·refine pur st9 rfl rfl fun L9 α a9 u9 K9 hL hcl hA hG hS h0 h1 hK => ?_
   have q350 : a9.tmps[350]? = some (.slice sa enl ecp) := hS 23 350 dc rfl (ltd 420 rfl)
   have s350 := Rega.eval_of q350
   go_simp
   exact hK
  ·refine pur st9 rfl rfl fun L9 α a9 u9 K9 hL hcl hA hG hS h0 h1 hK => ?_
   have s26 := eS (vP v26) ((h0 26 (by kernel_rfl)).trans rfl)
   have e0 : R9 L9 α 4999 = row (v26) 28 #[vI loc] := rfl
   have hr := hG.rowAt 4999 (act_base 4999 rfl) e0
   have c0 : u9.cell? ⟨v26, 0, none⟩ = some (vI loc) := hr.cell rfl
   clear hr e0
   go_simp
   exact hK
  ·refine pur st9 rfl rfl fun L9 α a9 u9 K9 hL hcl hA hG hS h0 h1 hK => ?_
   have s26 := eS (vP v26) ((h0 26 (by kernel_rfl)).trans rfl)
   have e0 : R9 L9 α 4999 = row (v26) 28 #[vI loc] := rfl
   have hr := hG.rowAt 4999 (act_base 4999 rfl) e0
   have c0 : u9.cell? ⟨v26, 0, none⟩ = some (vI loc) := hr.cell rfl
   clear hr e0
   go_simp
   exact hK
  ·refine pur st9 rfl rfl fun L9 α a9 u9 K9 hL hcl hA hG hS h0 h1 hK => ?_
   have s26 := eS (vP v26) ((h0 26 (by kernel_rfl)).trans rfl)
   have e0 : R9 L9 α 4999 = row (v26) 28 #[vI loc] := rfl
   have hr := hG.rowAt 4999 (act_base 4999 rfl) e0
   have c0 : u9.cell? ⟨v26, 0, none⟩ = some (vI loc) := hr.cell rfl
   clear hr e0
   go_simp
   exact hK
  ·refine pur st9 rfl rfl fun L9 α a9 u9 K9 hL hcl hA hG hS h0 h1 hK => ?_
   have s21 := eS (vP v21) ((h0 21 (by kernel_rfl)).trans rfl)
   have e0 : R9 L9 α 1999 = row (v21) 31 #[vU src, vU (i0 : Int)] := rfl
   have hr := hG.rowAt 1999 (act_base 1999 rfl) e0
   have c0 : u9.cell? ⟨v21, 0, none⟩ = some (vU src) := hr.cell rfl
   have c1 : u9.cell? ⟨v21, 1, none⟩ = some (vU (i0 : Int)) := hr.cell rfl
   clear hr e0
   go_simp
   exact hK
  ·refine pur st9 rfl rfl fun L9 α a9 u9 K9 hL hcl hA hG hS h0 h1 hK => ?_
   have q355 : a9.tmps[355]? = some (.agg #[vU src, vU (i0 : Int)]) := hS 28 355 dc rfl (ltd 420 rfl)
   have s355 := Rega.eval_of q355
   go_simp
   exact hK
  ·intro L9 α a9 u9 K9 hL hcl hA hG hS h0 h1 hK
   replace hL : L9 30 = false := hL
   have q356 : a9.tmps[356]? = some (.agg #[vU src, vU (i0 : Int)]) := hS 29 356 dc rfl (ltd 420 rfl)
   have s356 := Rega.eval_of q356
   go_simp
   exact hK _ (fun j => if j = 30 then u9.heap.size else α j) _ (fun j hj => if_neg (fun e => hj (by rw [e]))) rfl (step_alloc st9 hL hcl rfl rfl dc _ rfl hG)
  ·refine pur st9 rfl rfl fun L9 α a9 u9 K9 hL hcl hA hG hS h0 h1 hK => ?_
   have s357 := eS (vP (α 30)) (hS 30 357 dc rfl (ltd 420 rfl))
   go_simp
   exact hK
  ·refine pur st9 rfl rfl fun L9 α a9 u9 K9 hL hcl hA hG hS h0 h1 hK => ?_
   have q354 : a9.tmps[354]? = some (.agg #[vI loc]) := hS 27 354 dc rfl (ltd 420 rfl)
   have s354 := Rega.eval_of q354
   have q358 : a9.tmps[358]? = some (vF 134 (α 30)) := hS 31 358 dc rfl (ltd 420 rfl)
   have s358 := Rega.eval_of q358
   go_simp
   exact hK
  ·refine pur st9 rfl rfl fun L9 α a9 u9 K9 hL hcl hA hG hS h0 h1 hK => ?_
   have s26 := eS (vP v26) ((h0 26 (by kernel_rfl)).trans rfl)
   have e0 : R9 L9 α 4999 = row (v26) 28 #[vI loc] := rfl
   have hr := hG.rowAt 4999 (act_base 4999 rfl) e0
   have c0 : u9.cell? ⟨v26, 0, none⟩ = some (vI loc) := hr.cell rfl
   clear hr e0
   go_simp
   exact hK
  ·refine pur st9 rfl rfl fun L9 α a9 u9 K9 hL hcl hA hG hS h0 h1 hK => ?_
   have s26 := eS (vP v26) ((h0 26 (by kernel_rfl)).trans rfl)
   have e0 : R9 L9 α 4999 = row (v26) 28 #[vI loc] := rfl
   have hr := hG.rowAt 4999 (act_base 4999 rfl) e0
   have c0 : u9.cell? ⟨v26, 0, none⟩ = some (vI loc) := hr.cell rfl
   clear hr e0
   go_simp
   exact hK
  ·refine pur st9 rfl rfl fun L9 α a9 u9 K9 hL hcl hA hG hS h0 h1 hK => ?_
   have s22 := eS (vP v22) ((h0 22 (by kernel_rfl)).trans rfl)
   have e0 : R9 L9 α 2999 = row (v22) 31 #[vU src, vU i1] := rfl
   have hr := hG.rowAt 2999 (act_base 2999 rfl) e0
   have c0 : u9.cell? ⟨v22, 0, none⟩ = some (vU src) := hr.cell rfl
   have c1 : u9.cell? ⟨v22, 1, none⟩ = some (vU i1) := hr.cell rfl
   clear hr e0
   go_simp
   exact hK
  ·refine pur st9 rfl rfl fun L9 α a9 u9 K9 hL hcl hA hG hS h0 h1 hK => ?_
   have q362 : a9.tmps[362]? = some (.agg #[vU src, vU i1]) := hS 35 362 dc rfl (ltd 420 rfl)
   have s362 := Rega.eval_of q362
   go_simp
   exact hK
  ·intro L9 α a9 u9 K9 hL hcl hA hG hS h0 h1 hK
   replace hL : L9 37 = false := hL
   have q363 : a9.tmps[363]? = some (.agg #[vU src, vU i1]) := hS 36 363 dc rfl (ltd 420 rfl)
   have s363 := Rega.eval_of q363
   go_simp
   exact hK _ (fun j => if j = 37 then u9.heap.size else α j) _ (fun j hj => if_neg (fun e => hj (by rw [e]))) rfl (step_alloc st9 hL hcl rfl rfl dc _ rfl hG)
  ·refine pur st9 rfl rfl fun L9 α a9 u9 K9 hL hcl hA hG hS h0 h1 hK => ?_
   have s364 := eS (vP (α 37)) (hS 37 364 dc rfl (ltd 420 rfl))
   go_simp
   exact hK
  ·refine pur st9 rfl rfl fun L9 α a9 u9 K9 hL hcl hA hG hS h0 h1 hK => ?_
   have q361 : a9.tmps[361]? = some (.agg #[vI loc]) := hS 34 361 dc rfl (ltd 420 rfl)
   have s361 := Rega.eval_of q361
   have q365 : a9.tmps[365]? = some (vF 134 (α 37)) := hS 38 365 dc rfl (ltd 420 rfl)
   have s365 := Rega.eval_of q365
   go_simp
   exact hK
  ·refine pur st9 rfl rfl fun L9 α a9 u9 K9 hL hcl hA hG hS h0 h1 hK => ?_
   have s26 := eS (vP v26) ((h0 26 (by kernel_rfl)).trans rfl)
   have e0 : R9 L9 α 4999 = row (v26) 28 #[vI loc] := rfl
   have hr := hG.rowAt 4999 (act_base 4999 rfl) e0
   have c0 : u9.cell? ⟨v26, 0, none⟩ = some (vI loc) := hr.cell rfl
   clear hr e0
   go_simp
   exact hK
  ·refine pur st9 rfl rfl fun L9 α a9 u9 K9 hL hcl hA hG hS h0 h1 hK => ?_
   have s21 := eS (vP v21) ((h0 21 (by kernel_rfl)).trans rfl)
   have e0 : R9 L9 α 1999 = row (v21) 31 #[vU src, vU (i0 : Int)] := rfl
   have hr := hG.rowAt 1999 (act_base 1999 rfl) e0
   have c0 : u9.cell? ⟨v21, 0, none⟩ = some (vU src) := hr.cell rfl
   have c1 : u9.cell? ⟨v21, 1, none⟩ = some (vU (i0 : Int)) := hr.cell rfl
   clear hr e0
   go_simp
   exact hK
  ·refine pur st9 rfl rfl fun L9 α a9 u9 K9 hL hcl hA hG hS h0 h1 hK => ?_
   have q368 : a9.tmps[368]? = some (.agg #[vU src, vU (i0 : Int)]) := hS 41 368 dc rfl (ltd 420 rfl)
   have s368 := Rega.eval_of q368
   go_simp
   exact hK
  ·intro L9 α a9 u9 K9 hL hcl hA hG hS h0 h1 hK
   replace hL : L9 43 = false := hL
   have q369 : a9.tmps[369]? = some (.agg #[vU src, vU (i0 : Int), bF, bF, bF]) := hS 42 369 dc rfl (ltd 420 rfl)
   have s369 := Rega.eval_of q369
   go_simp
   exact hK _ (fun j => if j = 43 then u9.heap.size else α j) _ (fun j hj => if_neg (fun e => hj (by rw [e]))) rfl (step_alloc st9 hL hcl rfl rfl dc _ rfl hG)
  ·refine pur st9 rfl rfl fun L9 α a9 u9 K9 hL hcl hA hG hS h0 h1 hK => ?_
   have s370 := eS (vP (α 43)) (hS 43 370 dc rfl (ltd 420 rfl))
   go_simp
   exact hK
  ·refine pur st9 rfl rfl fun L9 α a9 u9 K9 hL hcl hA hG hS h0 h1 hK => ?_
   have q367 : a9.tmps[367]? = some (.agg #[vI loc]) := hS 40 367 dc rfl (ltd 420 rfl)
   have s367 := Rega.eval_of q367
   have q371 : a9.tmps[371]? = some (vF 267 (α 43)) := hS 44 371 dc rfl (ltd 420 rfl)
   have s371 := Rega.eval_of q371
   go_simp
   exact hK
  ·refine pur st9 rfl rfl fun L9 α a9 u9 K9 hL hcl hA hG hS h0 h1 hK => ?_
   have q366 : a9.tmps[366]? = some (.agg #[vF 134 (α 37), vI loc]) := hS 39 366 dc rfl (ltd 420 rfl)
   have s366 := Rega.eval_of q366
   have q372 : a9.tmps[372]? = some (.agg #[vF 267 (α 43), vI loc]) := hS 45 372 dc rfl (ltd 420 rfl)
   have s372 := Rega.eval_of q372
   go_simp
   exact hK
  ·refine pur st9 rfl rfl fun L9 α a9 u9 K9 hL hcl hA hG hS h0 h1 hK => ?_
   have s26 := eS (vP v26) ((h0 26 (by kernel_rfl)).trans rfl)
   have e0 : R9 L9 α 4999 = row (v26) 28 #[vI loc] := rfl
   have hr := hG.rowAt 4999 (act_base 4999 rfl) e0
   have c0 : u9.cell? ⟨v26, 0, none⟩ = some (vI loc) := hr.cell rfl
   clear hr e0
   go_simp
   exact hK
  ·refine pur st9 rfl rfl fun L9 α a9 u9 K9 hL hcl hA hG hS h0 h1 hK => ?_
   have s23 := eS (vP v23) ((h0 23 (by kernel_rfl)).trans rfl)
   have e0 : R9 L9 α 3999 = row (v23) 31 #[vU src, vU i2] := rfl
   have hr := hG.rowAt 3999 (act_base 3999 rfl) e0
   have c0 : u9.cell? ⟨v23, 0, none⟩ = some (vU src) := hr.cell rfl
   have c1 : u9.cell? ⟨v23, 1, none⟩ = some (vU i2) := hr.cell rfl
   clear hr e0
   go_simp
   exact hK
  ·refine pur st9 rfl rfl fun L9 α a9 u9 K9 hL hcl hA hG hS h0 h1 hK => ?_
   have q375 : a9.tmps[375]? = some (.agg #[vU src, vU i2]) := hS 48 375 dc rfl (ltd 420 rfl)
   have s375 := Rega.eval_of q375
   go_simp
   exact hK
  ·intro L9 α a9 u9 K9 hL hcl hA hG hS h0 h1 hK
   replace hL : L9 50 = false := hL
   have q376 : a9.tmps[376]? = some (.agg #[vU src, vU i2]) := hS 49 376 dc rfl (ltd 420 rfl)
   have s376 := Rega.eval_of q376
   go_simp
   exact hK _ (fun j => if j = 50 then u9.heap.size else α j) _ (fun j hj => if_neg (fun e => hj (by rw [e]))) rfl (step_alloc st9 hL hcl rfl rfl dc _ rfl hG)
  ·refine pur st9 rfl rfl fun L9 α a9 u9 K9 hL hcl hA hG hS h0 h1 hK => ?_
   have s377 := eS (vP (α 50)) (hS 50 377 dc rfl (ltd 420 rfl))
   go_simp
   exact hK
  ·refine pur st9 rfl rfl fun L9 α a9 u9 K9 hL hcl hA hG hS h0 h1 hK => ?_
   have q374 : a9.tmps[374]? = some (.agg #[vI loc]) := hS 47 374 dc rfl (ltd 420 rfl)
   have s374 := Rega.eval_of q374
   have q378 : a9.tmps[378]? = some (vF 134 (α 50)) := hS 51 378 dc rfl (ltd 420 rfl)
   have s378 := Rega.eval_of q378
   go_simp
   exact hK
  ·refine pur st9 rfl rfl fun L9 α a9 u9 K9 hL hcl hA hG hS h0 h1 hK => ?_
   have s26 := eS (vP v26) ((h0 26 (by kernel_rfl)).trans rfl)
   have e0 : R9 L9 α 4999 = row (v26) 28 #[vI loc] := rfl
   have hr := hG.rowAt 4999 (act_base 4999 rfl) e0
   have c0 : u9.cell? ⟨v26, 0, none⟩ = some (vI loc) := hr.cell rfl
   clear hr e0
   go_simp
   exact hK
  ·refine pur st9 rfl rfl fun L9 α a9 u9 K9 hL hcl hA hG hS h0 h1 hK => ?_
   go_simp
   exact hK
  ·intro L9 α a9 u9 K9 hL hcl hA hG hS h0 h1 hK
   replace hL : L9 55 = false := hL
   have q381 : a9.tmps[381]? = some (.agg #[.bool true]) := hS 54 381 dc rfl (ltd 420 rfl)
   have s381 := Rega.eval_of q381
   go_simp
   exact hK _ (fun j => if j = 55 then u9.heap.size else α j) _ (fun j hj => if_neg (fun e => hj (by rw [e]))) rfl (step_alloc st9 hL hcl rfl rfl dc _ rfl hG)
  ·refine pur st9 rfl rfl fun L9 α a9 u9 K9 hL hcl hA hG hS h0 h1 hK => ?_
   have s382 := eS (vP (α 55)) (hS 55 382 dc rfl (ltd 420 rfl))
   go_simp
   exact hK
  ·refine pur st9 rfl rfl fun L9 α a9 u9 K9 hL hcl hA hG hS h0 h1 hK => ?_
   have q380 : a9.tmps[380]? = some (.agg #[vI loc]) := hS 53 380 dc rfl (ltd 420 rfl)
   have s380 := Rega.eval_of q380
   have q383 : a9.tmps[383]? = some (vF 271 (α 55)) := hS 56 383 dc rfl (ltd 420 rfl)
   have s383 := Rega.eval_of q383
   go_simp
   exact hK
  ·refine pur st9 rfl rfl fun L9 α a9 u9 K9 hL hcl hA hG hS h0 h1 hK => ?_
   have q379 : a9.tmps[379]? = some (.agg #[vF 134 (α 50), vI loc]) := hS 52 379 dc rfl (ltd 420 rfl)
   have s379 := Rega.eval_of q379
   have q384 : a9.tmps[384]? = some (.agg #[vF 271 (α 55), vI loc]) := hS 57 384 dc rfl (ltd 420 rfl)
   have s384 := Rega.eval_of q384
   go_simp
   exact hK
  ·intro L9 α a9 u9 K9 hL hcl hA hG hS h0 h1 hK
   replace hL : L9 59 = false := hL
   have q373 : a9.tmps[373]? = some (.agg #[vF 134 (α 37), vI loc, vF 267 (α 43), vI loc]) := hS 46 373 dc rfl (ltd 420 rfl)
   have s373 := Rega.eval_of q373
   have q385 : a9.tmps[385]? = some (.agg #[vF 134 (α 50), vI loc, vF 271 (α 55), vI loc]) := hS 58 385 dc rfl (ltd 420 rfl)
   have s385 := Rega.eval_of q385
   go_simp
   exact hK _ (fun j => if j = 59 then u9.heap.size else α j) _ (fun j hj => if_neg (fun e => hj (by rw [e]))) rfl (step_alloc st9 hL hcl rfl rfl dc _ rfl hG)
  ·refine pur st9 rfl rfl fun L9 α a9 u9 K9 hL hcl hA hG hS h0 h1 hK => ?_
   have q386 : a9.tmps[386]? = some (vS (α 59) 2 2) := hS 59 386 dc rfl (ltd 420 rfl)
   have s386 := Rega.eval_of q386
   go_simp
   exact hK
  ·intro L9 α a9 u9 K9 hL hcl hA hG hS h0 h1 hK
   replace hL : L9 61 = false := hL
   have q387 : a9.tmps[387]? = some (.agg #[vS (α 59) 2 2, v8 0, bF, bF]) := hS 60 387 dc rfl (ltd 420 rfl)
   have s387 := Rega.eval_of q387
   go_simp
   exact hK _ (fun j => if j = 61 then u9.heap.size else α j) _ (fun j hj => if_neg (fun e => hj (by rw [e]))) rfl (step_alloc st9 hL hcl rfl rfl dc _ rfl hG)
  ·refine pur st9 rfl rfl fun L9 α a9 u9 K9 hL hcl hA hG hS h0 h1 hK => ?_
   have s388 := eS (vP (α 61)) (hS 61 388 dc rfl (ltd 420 rfl))
   go_simp
   exact hK
  ·refine pur st9 rfl rfl fun L9 α a9 u9 K9 hL hcl hA hG hS h0 h1 hK => ?_
   have q360 : a9.tmps[360]? = some (.agg #[vI loc]) := hS 33 360 dc rfl (ltd 420 rfl)
   have s360 := Rega.eval_of q360
   have q389 : a9.tmps[389]? = some (vF 42 (α 61)) := hS 62 389 dc rfl (ltd 420 rfl)
   have s389 := Rega.eval_of q389
   go_simp
   exact hK
  ·intro L9 α a9 u9 K9 hL hcl hA hG hS h0 h1 hK
   replace hL : L9 64 = false := hL
   have q390 : a9.tmps[390]? = some (.agg #[vF 42 (α 61), vI loc]) := hS 63 390 dc rfl (ltd 420 rfl)
   have s390 := Rega.eval_of q390
   go_simp
   exact hK _ (fun j => if j = 64 then u9.heap.size else α j) _ (fun j hj => if_neg (fun e => hj (by rw [e]))) rfl (step_alloc st9 hL hcl rfl rfl dc _ rfl hG)
  ·refine pur st9 rfl rfl fun L9 α a9 u9 K9 hL hcl hA hG hS h0 h1 hK => ?_
   have q391 : a9.tmps[391]? = some (vS (α 64) 1 1) := hS 64 391 dc rfl (ltd 420 rfl)
   have s391 := Rega.eval_of q391
   go_simp
   exact hK
  ·refine pur st9 rfl rfl fun L9 α a9 u9 K9 hL hcl hA hG hS h0 h1 hK => ?_
   have s26 := eS (vP v26) ((h0 26 (by kernel_rfl)).trans rfl)
   have e0 : R9 L9 α 4999 = row (v26) 28 #[vI loc] := rfl
   have hr := hG.rowAt 4999 (act_base 4999 rfl) e0
   have c0 : u9.cell? ⟨v26, 0, none⟩ = some (vI loc) := hr.cell rfl
   clear hr e0
   go_simp
   exact hK
  ·refine pur st9 rfl rfl fun L9 α a9 u9 K9 hL hcl hA hG hS h0 h1 hK => ?_
   have q353 : a9.tmps[353]? = some (.agg #[vI loc]) := hS 26 353 dc rfl (ltd 420 rfl)
   have s353 := Rega.eval_of q353
   have q359 : a9.tmps[359]? = some (.agg #[vF 134 (α 30), vI loc]) := hS 32 359 dc rfl (ltd 420 rfl)
   have s359 := Rega.eval_of q359
   have q392 : a9.tmps[392]? = some (.agg #[vS (α 64) 1 1, vI 0]) := hS 65 392 dc rfl (ltd 420 rfl)
   have s392 := Rega.eval_of q392
   have q393 : a9.tmps[393]? = some (.agg #[vI loc]) := hS 66 393 dc rfl (ltd 420 rfl)
   have s393 := Rega.eval_of q393
   go_simp
   exact hK
  ·intro L9 α a9 u9 K9 hL hcl hA hG hS h0 h1 hK
   replace hL : L9 68 = false := hL
   have q394 : a9.tmps[394]? = some (.agg #[vF 134 (α 30), vI loc, vS (α 64) 1 1, vI 0, vI loc, vI loc]) := hS 67 394 dc rfl (ltd 420 rfl)
   have s394 := Rega.eval_of q394
   go_simp
   exact hK _ (fun j => if j = 68 then u9.heap.size else α j) _ (fun j hj => if_neg (fun e => hj (by rw [e]))) rfl (step_alloc st9 hL hcl rfl rfl dc _ rfl hG)
  ·refine pur st9 rfl rfl fun L9 α a9 u9 K9 hL hcl hA hG hS h0 h1 hK => ?_
   have s26 := eS (vP v26) ((h0 26 (by kernel_rfl)).trans rfl)
   have e0 : R9 L9 α 4999 = row (v26) 28 #[vI loc] := rfl
   have hr := hG.rowAt 4999 (act_base 4999 rfl) e0
   have c0 : u9.cell? ⟨v26, 0, none⟩ = some (vI loc) := hr.cell rfl
   clear hr e0
   go_simp
   exact hK
  ·refine pur st9 rfl rfl fun L9 α a9 u9 K9 hL hcl hA hG hS h0 h1 hK => ?_
   have q28 : a9.tmps[28]? = some (vS fb fl fl) := (h0 28 (by kernel_rfl)).trans rfl
   have s28 := Rega.eval_of q28
   go_simp
   exact hK
  ·refine pur st9 rfl rfl fun L9 α a9 u9 K9 hL hcl hA hG hS h0 h1 hK => ?_
   have q397 : a9.tmps[397]? = some (vS fb fl fl) := hS 70 397 dc rfl (ltd 420 rfl)
   have s397 := Rega.eval_of q397
   go_simp
   exact hK
  ·refine pur st9 rfl rfl fun L9 α a9 u9 K9 hL hcl hA hG hS h0 h1 hK => ?_
   have q396 : a9.tmps[396]? = some (.agg #[vI loc]) := hS 69 396 dc rfl (ltd 420 rfl)
   have s396 := Rega.eval_of q396
   have q398 : a9.tmps[398]? = some (.agg #[vS fb fl fl, vI 0]) := hS 71 398 dc rfl (ltd 420 rfl)
   have s398 := Rega.eval_of q398
   go_simp
   exact hK
  ·intro L9 α a9 u9 K9 hL hcl hA hG hS h0 h1 hK
   replace hL : L9 73 = false := hL
   have q399 : a9.tmps[399]? = some (.agg #[vS fb fl fl, vI 0, vI loc]) := hS 72 399 dc rfl (ltd 420 rfl)
   have s399 := Rega.eval_of q399
   go_simp
   exact hK _ (fun j => if j = 73 then u9.heap.size else α j) _ (fun j hj => if_neg (fun e => hj (by rw [e]))) rfl (step_alloc st9 hL hcl rfl rfl dc _ rfl hG)
  ·refine pur st9 rfl rfl fun L9 α a9 u9 K9 hL hcl hA hG hS h0 h1 hK => ?_
   have q351 : a9.tmps[351]? = some (.agg #[.slice sa enl ecp, vI 0]) := hS 24 351 dc rfl (ltd 420 rfl)
   have s351 := Rega.eval_of q351
   have q352 : a9.tmps[352]? = some (.agg #[vI loc]) := hS 25 352 dc rfl (ltd 420 rfl)
   have s352 := Rega.eval_of q352
   have q395 : a9.tmps[395]? = some (vP (α 68)) := hS 68 395 dc rfl (ltd 420 rfl)
   have s395 := Rega.eval_of q395
   have q400 : a9.tmps[400]? = some (vP (α 73)) := hS 73 400 dc rfl (ltd 420 rfl)
   have s400 := Rega.eval_of q400
   go_simp
   exact hK
  ·intro L9 α a9 u9 K9 hL hcl hA hG hS h0 h1 hK
   replace hL : L9 75 = false := hL
   have q401 : a9.tmps[401]? = some (.agg #[vP (α 68), vP (α 73), .slice sa enl ecp, vI 0, vI loc]) := hS 74 401 dc rfl (ltd 420 rfl)
   have s401 := Rega.eval_of q401
   go_simp
   exact hK _ (fun j => if j = 75 then u9.heap.size else α j) _ (fun j hj => if_neg (fun e => hj (by rw [e]))) rfl (step_alloc st9 hL hcl rfl rfl dc _ rfl hG)
  ·refine pur st9 rfl rfl fun L9 α a9 u9 K9 hL hcl hA hG hS h0 h1 hK => ?_
   have s402 := eS (vP (α 75)) (hS 75 402 dc rfl (ltd 420 rfl))
   go_simp
   exact hK
  ·refine pur st9 rfl rfl fun L9 α a9 u9 K9 hL hcl hA hG hS h0 h1 hK => ?_
   have q349 : a9.tmps[349]? = some (.agg #[vI loc]) := hS 22 349 dc rfl (ltd 420 rfl)
   have s349 := Rega.eval_of q349
   have q403 : a9.tmps[403]? = some (vF 67 (α 75)) := hS 76 403 dc rfl (ltd 420 rfl)
   have s403 := Rega.eval_of q403
   go_simp
   exact hK
  ·intro L9 α a9 u9 K9 hL hcl hA hG hS h0 h1 hK
   replace hL : L9 78 = false := hL
   have q348 : a9.tmps[348]? = some (.agg #[vF 42 (α 19), vI loc]) := hS 21 348 dc rfl (ltd 420 rfl)
   have s348 := Rega.eval_of q348
   have q404 : a9.tmps[404]? = some (.agg #[vF 67 (α 75), vI loc]) := hS 77 404 dc rfl (ltd 420 rfl)
   have s404 := Rega.eval_of q404
   go_simp
   exact hK _ (fun j => if j = 78 then u9.heap.size else α j) _ (fun j hj => if_neg (fun e => hj (by rw [e]))) rfl (step_alloc st9 hL hcl rfl rfl dc _ rfl hG)
  ·intro L9 α a9 u9 K9 hL hcl hA hG hS h0 h1 hK
   replace hL : L9 79 = false := hL
   have q327 : a9.tmps[327]? = some (vN) := hS 0 327 dc rfl (ltd 420 rfl)
   have s327 := Rega.eval_of q327
   have q405 : a9.tmps[405]? = some (vS (α 78) 2 2) := hS 78 405 dc rfl (ltd 420 rfl)
   have s405 := Rega.eval_of q405
   simp only [Region.wanted, if_true]
   have e0 : R9 L9 α 78 = row (α 78) 61 #[vF 42 (α 19), vI loc, vF 67 (α 75), vI loc] := rfl
   have hM : ∀ i, i ∈ [78] → act rfinB00a2Cnt 5 L9 i := by
    intro i hi
    simp only [List.mem_cons, List.not_mem_nil, or_false] at hi
    subst hi
    exact act_new 78 rfl (hA 78 dc)
   have hP : Own w0 u9 [row (α 78) 61 #[vF 42 (α 19), vI loc, vF 67 (α 75), vI loc]] _ := (hG.pick [78] dc hM).conv (by
    show [R9 L9 α 78] = _
    rw [e0])
   clear e0 hM
   obtain ⟨i9, hi9, z1, z2, z3⟩ := info_parts infoStm
   refine wp_append_full_nil (Operand.tmp 327) (Operand.tmp 405) 40 rfl 61 i9 (.agg stmZ) 2 24 Tryd.underlying40 hi9 z1 z2 z3 hP s327 s405 rfl dc (by first | decide | omega | (unfold maxLen; omega)) (by first | decide | omega | (unfold maxLen; omega)) ?_
   intro b0 b1 u1 hQ
   obtain ⟨α', hα'⟩ : ∃ α' : Rega.Atoms, α' = (fun j => if j = 79 then b0 else if j = 1079 then b1 else α j) := ⟨_, rfl⟩
   have f0 : R9 (Rega.ran L9 79) α' 79 = row (α' 79) 61 (full stmZ [vF 42 (α' 19), vI loc, vF 67 (α' 75), vI loc] (α' 1079)) := rfl
   have f1 : R9 (Rega.ran L9 79) α' 78 = row (α' 78) 61 #[vF 42 (α' 19), vI loc, vF 67 (α' 75), vI loc] := rfl
   have hα : ∀ j, j % 1000 ≠ 79 → α' j = α j := fun j hj => by rw [hα']; simp only []; rw [if_neg (by omega), if_neg (by omega)]
   have hb0 : α' 79 = b0 := by rw [hα']; rfl
   have hb1 : α' 1079 = b1 := by rw [hα']; rfl
   have ha19 : α' 19 = α 19 := hα 19 dc
   have ha75 : α' 75 = α 75 := hα 75 dc
   have ha78 : α' 78 = α 78 := hα 78 dc
   refine hK _ α' _ hα ?_ (step_call (st9) hL hcl hα [78] [79, 78] dc dc dc (M := _) ?_ hG hQ)
   ·show _ = (vS (α' 79) 2 (2 + α' 1079) : Value)
    simp only [hb0, hb1]
   ·show [R9 (Rega.ran L9 79) α' 79, R9 (Rega.ran L9 79) α' 78] = _
    rw [f0, f1]
    simp only [hb0, hb1, ha19, ha75, ha78]
    try rfl
  ·refine pur st9 rfl rfl fun L9 α a9 u9 K9 hL hcl hA hG hS h0 h1 hK => ?_
   have q406 : a9.tmps[406]? = some (vS (α 79) 2 (2 + α 1079)) := hS 79 406 dc rfl (ltd 420 rfl)
   have s406 := Rega.eval_of q406
   go_simp
   exact hK
 clear st9
 intro α u hG
 have e0 : R9 (fun k => decide (k < 81)) α 999 = row (cx) 33 #[vI loc, vU src, vU (si : Int), .bool awb] := rfl
 have e1 : R9 (fun k => decide (k < 81)) α 1999 = row (v21) 31 #[vU src, vU (i0 : Int)] := rfl
 have e2 : R9 (fun k => decide (k < 81)) α 2999 = row (v22) 31 #[vU src, vU i1] := rfl
 have e3 : R9 (fun k => decide (k < 81)) α 3999 = row (v23) 31 #[vU src, vU i2] := rfl
 have e4 : R9 (fun k => decide (k < 81)) α 4999 = row (v26) 28 #[vI loc] := rfl
 have e5 : R9 (fun k => decide (k < 81)) α 8 = row (α 8) 136 #[vU src, vU (si : Int)] := rfl
 have e6 : R9 (fun k => decide (k < 81)) α 13 = row (α 13) 317 #[vN, vI 0, vI 0, bF, bF] := rfl
 have e7 : R9 (fun k => decide (k < 81)) α 17 = row (α 17) 54 #[vF 134 (α 8), vI loc, vF 315 (α 13), vI loc] := rfl
 have e8 : R9 (fun k => decide (k < 81)) α 19 = row (α 19) 57 #[vS (α 17) 1 1, v8 0, bF, bF] := rfl
 have e9 : R9 (fun k => decide (k < 81)) α 30 = row (α 30) 136 #[vU src, vU (i0 : Int)] := rfl
 have e10 : R9 (fun k => decide (k < 81)) α 37 = row (α 37) 136 #[vU src, vU i1] := rfl
 have e11 : R9 (fun k => decide (k < 81)) α 43 = row (α 43) 270 #[vU src, vU (i0 : Int), bF, bF, bF] := rfl
 have e12 : R9 (fun k => decide (k < 81)) α 50 = row (α 50) 136 #[vU src, vU i2] := rfl
 have e13 : R9 (fun k => decide (k < 81)) α 55 = row (α 55) 274 #[.bool true] := rfl
 have e14 : R9 (fun k => decide (k < 81)) α 59 = row (α 59) 54 #[vF 134 (α 37), vI loc, vF 267 (α 43), vI loc, vF 134 (α 50), vI loc, vF 271 (α 55), vI loc] := rfl
 have e15 : R9 (fun k => decide (k < 81)) α 61 = row (α 61) 57 #[vS (α 59) 2 2, v8 0, bF, bF] := rfl
 have e16 : R9 (fun k => decide (k < 81)) α 64 = row (α 64) 61 #[vF 42 (α 61), vI loc] := rfl
 have e17 : R9 (fun k => decide (k < 81)) α 68 = row (α 68) 319 #[vF 134 (α 30), vI loc, vS (α 64) 1 1, vI 0, vI loc, vI loc] := rfl
 have e18 : R9 (fun k => decide (k < 81)) α 73 = row (α 73) 116 #[vS fb fl fl, vI 0, vI loc] := rfl
 have e19 : R9 (fun k => decide (k < 81)) α 75 = row (α 75) 76 #[vP (α 68), vP (α 73), .slice sa enl ecp, vI 0, vI loc] := rfl
 have e20 : R9 (fun k => decide (k < 81)) α 78 = row (α 78) 61 #[vF 42 (α 19), vI loc, vF 67 (α 75), vI loc] := rfl
 have e21 : R9 (fun k => decide (k < 81)) α 79 = row (α 79) 61 (full stmZ [vF 42 (α 19), vI loc, vF 67 (α 75), vI loc] (α 1079)) := rfl
 have hO : Own w0 u [row (cx) 33 #[vI loc, vU src, vU (si : Int), .bool awb], row (v21) 31 #[vU src, vU (i0 : Int)], row (v22) 31 #[vU src, vU i1], row (v23) 31 #[vU src, vU i2], row (v26) 28 #[vI loc], row (α 8) 136 #[vU src, vU (si : Int)], row (α 13) 317 #[vN, vI 0, vI 0, bF, bF], row (α 17) 54 #[vF 134 (α 8), vI loc, vF 315 (α 13), vI loc], row (α 19) 57 #[vS (α 17) 1 1, v8 0, bF, bF], row (α 30) 136 #[vU src, vU (i0 : Int)], row (α 37) 136 #[vU src, vU i1], row (α 43) 270 #[vU src, vU (i0 : Int), bF, bF, bF], row (α 50) 136 #[vU src, vU i2], row (α 55) 274 #[.bool true], row (α 59) 54 #[vF 134 (α 37), vI loc, vF 267 (α 43), vI loc, vF 134 (α 50), vI loc, vF 271 (α 55), vI loc], row (α 61) 57 #[vS (α 59) 2 2, v8 0, bF, bF], row (α 64) 61 #[vF 42 (α 61), vI loc], row (α 68) 319 #[vF 134 (α 30), vI loc, vS (α 64) 1 1, vI 0, vI loc, vI loc], row (α 73) 116 #[vS fb fl fl, vI 0, vI loc], row (α 75) 76 #[vP (α 68), vP (α 73), .slice sa enl ecp, vI 0, vI loc], row (α 78) 61 #[vF 42 (α 19), vI loc, vF 67 (α 75), vI loc], row (α 79) 61 (full stmZ [vF 42 (α 19), vI loc, vF 67 (α 75), vI loc] (α 1079))] X9_2 := (hG.list [999, 1999, 2999, 3999, 4999, 8, 13, 17, 19, 30, 37, 43, 50, 55, 59, 61, 64, 68, 73, 75, 78, 79] dc (act_all dc)).conv (by
  show [R9 (fun k => decide (k < 81)) α 999, R9 (fun k => decide (k < 81)) α 1999, R9 (fun k => decide (k < 81)) α 2999, R9 (fun k => decide (k < 81)) α 3999, R9 (fun k => decide (k < 81)) α 4999, R9 (fun k => decide (k < 81)) α 8, R9 (fun k => decide (k < 81)) α 13, R9 (fun k => decide (k < 81)) α 17, R9 (fun k => decide (k < 81)) α 19, R9 (fun k => decide (k < 81)) α 30, R9 (fun k => decide (k < 81)) α 37, R9 (fun k => decide (k < 81)) α 43, R9 (fun k => decide (k < 81)) α 50, R9 (fun k => decide (k < 81)) α 55, R9 (fun k => decide (k < 81)) α 59, R9 (fun k => decide (k < 81)) α 61, R9 (fun k => decide (k < 81)) α 64, R9 (fun k => decide (k < 81)) α 68, R9 (fun k => decide (k < 81)) α 73, R9 (fun k => decide (k < 81)) α 75, R9 (fun k => decide (k < 81)) α 78, R9 (fun k => decide (k < 81)) α 79] = _
  rw [e0, e1, e2, e3, e4, e5, e6, e7, e8, e9, e10, e11, e12, e13, e14, e15, e16, e17, e18, e19, e20, e21])
 clear hG e0 e1 e2 e3 e4 e5 e6 e7 e8 e9 e10 e11 e12 e13 e14 e15 e16 e17 e18 e19 e20 e21 R9
 generalize hfr : Rega.frameAt _ _ _ _ _ = fr
 have hdf : fr = ⟨#[vP cx, A0, .slice sa enl ecp, A1, A2, vP x5, A3, A4, A5, vS (α 79) 2 (2 + α 1079), vP e10, A6, A7, A8, A9, AA, AB, AC, AD, AE, AF, vP v21, vP v22, vP v23, AG, AH, vP v26, AI, vS fb fl fl, AJ, AK, AL, AM, AN, AO, AP, AQ, AR, AS, AT, AU, AV, AW, AX, AY, AZ, B0, B1, B2, B3, B4, B5, B6, B7, B8, B9, BA, BB, BC, BD, BE, BF, BG, BH, BI, BJ, BK, BL, BM, BN, BO, BP, BQ, BR, BS, BT, BU, BV, BW, BX, BY, BZ, C0, C1, C2, C3, C4, C5, C6, C7, C8, C9, CA, CB, CC, CD, CE, CF, CG, CH, CI, CJ, CK, CL, CM, CN, CO, CP, CQ, CR, CS, CT, CU, CV, CW, CX, CY, CZ, E0, E1, E2, E3, E4, E5, E6, E7, E8, E9, EA, EB, EC, ED, EE, EF, EG, EH, EI, EJ, EK, EL, EM, EN, EO, EP, EQ, ER, ES, ET, EU, EV, EW, EX, EY, EZ, F0, F1, F2, F3, F4, F5, F6, F7, F8, F9, FA, FB, FC, FD, FE, FF, FG, FH, FI, FJ, FK, FL, FM, FN, FO, FP, FQ, FR, FS, FT, FU, FV, FW, FX, FY, FZ, G0, G1, G2, G3, G4, G5, G6, G7, G8, G9, GA, GB, GC, GD, GE, GF, GG, GH, GI, GJ, GK, GL, GM, GN, GO, GP, GQ, GR, GS, GT, GU, GV, GW, GX, GY, GZ, I0, I1, I2, I3, I4, I5, I6, I7, I8, I9, IA, IB, IC, ID, IE, IF, IG, IH, II, IJ, IK, IL, IM, IN, IO, IP, IQ, IR, IS, IT, IU, IV, IW, IX, IY, IZ, J0, J1, J2, J3, J4, J5, J6, J7, J8, J9, JA, JB, JC, JD, JE, JF, JG, JH, JI, JJ, JK, JL, JM, JN, JO, JP, JQ, JR, JS, JT, JU, JV, JW, JX, JY, JZ, M0, M1, M2, M3, M4, M5, M6, M7, M8, M9, MA, MB, MC, MD, ME, MF, MG, MH, MI, MJ, MK, ML, MM, MN, MO, MP, vP pb, .agg #[vU src, vU (i0 : Int)], .tuple #[], vN, .agg #[vI loc], .agg #[vI loc], vP cx, vP cx, .pointer (some ⟨cx, 1, none⟩), .agg #[vU src, vU (si : Int)], .agg #[vU src, vU (si : Int)], vP (α 8), vF 134 (α 8), .agg #[vF 134 (α 8), vI loc], .agg #[vI loc], .agg #[vN, vI 0, vI 0, bF, bF], vP (α 13), vF 315 (α 13), .agg #[vF 315 (α 13), vI loc], .agg #[vF 134 (α 8), vI loc, vF 315 (α 13), vI loc], vS (α 17) 1 1, .agg #[vS (α 17) 1 1, v8 0, bF, bF], vP (α 19), vF 42 (α 19), .agg #[vF 42 (α 19), vI loc], .agg #[vI loc], .slice sa enl ecp, .agg #[.slice sa enl ecp, vI 0], .agg #[vI loc], .agg #[vI loc], .agg #[vI loc], .agg #[vU src, vU (i0 : Int)], .agg #[vU src, vU (i0 : Int)], vP (α 30), vF 134 (α 30), .agg #[vF 134 (α 30), vI loc], .agg #[vI loc], .agg #[vI loc], .agg #[vU src, vU i1], .agg #[vU src, vU i1], vP (α 37), vF 134 (α 37), .agg #[vF 134 (α 37), vI loc], .agg #[vI loc], .agg #[vU src, vU (i0 : Int)], .agg #[vU src, vU (i0 : Int), bF, bF, bF], vP (α 43), vF 267 (α 43), .agg #[vF 267 (α 43), vI loc], .agg #[vF 134 (α 37), vI loc, vF 267 (α 43), vI loc], .agg #[vI loc], .agg #[vU src, vU i2], .agg #[vU src, vU i2], vP (α 50), vF 134 (α 50), .agg #[vF 134 (α 50), vI loc], .agg #[vI loc], .agg #[.bool true], vP (α 55), vF 271 (α 55), .agg #[vF 271 (α 55), vI loc], .agg #[vF 134 (α 50), vI loc, vF 271 (α 55), vI loc], vS (α 59) 2 2, .agg #[vS (α 59) 2 2, v8 0, bF, bF], vP (α 61), vF 42 (α 61), .agg #[vF 42 (α 61), vI loc], vS (α 64) 1 1, .agg #[vS (α 64) 1 1, vI 0], .agg #[vI loc], .agg #[vF 134 (α 30), vI loc, vS (α 64) 1 1, vI 0, vI loc, vI loc], vP (α 68), .agg #[vI loc], vS fb fl fl, .agg #[vS fb fl fl, vI 0], .agg #[vS fb fl fl, vI 0, vI loc], vP (α 73), .agg #[vP (α 68), vP (α 73), .slice sa enl ecp, vI 0, vI loc], vP (α 75), vF 67 (α 75), .agg #[vF 67 (α 75), vI loc], vS (α 78) 2 2, vS (α 79) 2 (2 + α 1079), P1, P2, P3, P4, P5, P6, P7, P8, P9, PA, PB, PD, PE], []⟩ := by rw [← hfr]; kernel_rfl
 clear hfr
 subst hdf
 generalize α 8 = nd3 at hO ⊢
 generalize α 13 = nd4 at hO ⊢
 generalize α 17 = nd5 at hO ⊢
 generalize α 19 = nd6 at hO ⊢
 generalize α 30 = nd7 at hO ⊢
 generalize α 37 = nd8 at hO ⊢
 generalize α 43 = nd9 at hO ⊢
 generalize α 50 = nd10 at hO ⊢
 generalize α 55 = nd11 at hO ⊢
 generalize α 59 = nd12 at hO ⊢
 generalize α 61 = nd13 at hO ⊢
 generalize α 64 = nd14 at hO ⊢
 generalize α 68 = nd15 at hO ⊢
 generalize α 73 = nd16 at hO ⊢
 generalize α 75 = nd17 at hO ⊢
 generalize α 78 = nd18 at hO ⊢
 generalize α 79 = nd19 at hO ⊢
 generalize α 1079 = nd20 at hO ⊢
 clear α
 subst hX9_2
 replace hO : Own w0 u [row (cx) 33 #[vI loc, vU src, vU (si : Int), .bool awb], row (v21) 31 #[vU src, vU (i0 : Int)], row (v22) 31 #[vU src, vU i1], row (v23) 31 #[vU src, vU i2], row (v26) 28 #[vI loc], row (nd3) 136 #[vU src, vU (si : Int)], row (nd4) 317 #[vN, vI 0, vI 0, bF, bF], row (nd5) 54 #[vF 134 nd3, vI loc, vF 315 nd4, vI loc], row (nd6) 57 #[vS nd5 1 1, v8 0, bF, bF], row (nd7) 136 #[vU src, vU (i0 : Int)], row (nd8) 136 #[vU src, vU i1], row (nd9) 270 #[vU src, vU (i0 : Int), bF, bF, bF], row (nd10) 136 #[vU src, vU i2], row (nd11) 274 #[.bool true], row (nd12) 54 #[vF 134 nd8, vI loc, vF 267 nd9, vI loc, vF 134 nd10, vI loc, vF 271 nd11, vI loc], row (nd13) 57 #[vS nd12 2 2, v8 0, bF, bF], row (nd14) 61 #[vF 42 nd13, vI loc], row (nd15) 319 #[vF 134 nd7, vI loc, vS nd14 1 1, vI 0, vI loc, vI loc], row (nd16) 116 #[vS fb fl fl, vI 0, vI loc], row (nd17) 76 #[vP nd15, vP nd16, .slice sa enl ecp, vI 0, vI loc], row (nd18) 61 #[vF 42 nd6, vI loc, vF 67 nd17, vI loc], row (nd19) 61 (full stmZ [vF 42 nd6, vI loc, vF 67 nd17, vI loc] (nd20)), row (pb) 252 PC, row (sb) 260 (full symZ (symL (bump st i0)) c), row (pt) 107 QC, ((mu, .map (uA (ubump ul src (i0 : Int))) (uN (ubump ul src (i0 : Int)))) : Rw), row (x5) 25 #[vP pb], row (e10) 77 #[vN]] X := hO.back HL.out HX.out [0, 1, 2, 3, 4, 10] dc dc
 clear HL HX
 obtain ⟨ix9, hix9, hax9, hjx9⟩ := hO.ix
 have av := hjx9 0 _ _ rfl
 have aw := hjx9 1 _ _ rfl
 have ax := hjx9 2 _ _ rfl
 have ay := hjx9 3 _ _ rfl
 have az := hjx9 4 _ _ rfl
 have bA := hjx9 5 _ _ rfl
 have bB := hjx9 6 _ _ rfl
 have bC := hjx9 7 _ _ rfl
 have bD := hjx9 8 _ _ rfl
 have bE := hjx9 9 _ _ rfl
 have bG := hjx9 10 _ _ rfl
 have bH := hjx9 11 _ _ rfl
 have bI := hjx9 12 _ _ rfl
 have bJ := hjx9 13 _ _ rfl
 have bK := hjx9 14 _ _ rfl
 have bL := hjx9 15 _ _ rfl
 have bM := hjx9 16 _ _ rfl
 have bN := hjx9 17 _ _ rfl
 have bO := hjx9 18 _ _ rfl
 have bP := hjx9 19 _ _ rfl
 have bQ := hjx9 20 _ _ rfl
 have bR := hjx9 21 _ _ rfl
 have bS := hjx9 22 _ _ rfl
 have bT := hjx9 23 _ _ rfl
 have bU := hjx9 24 _ _ rfl
 have bV := hjx9 25 _ _ rfl
 have bW := hjx9 26 _ _ rfl
 have bX := hjx9 27 _ _ rfl
 clear hjx9
 obtain ⟨aJ, bY, bZ, ba, aK, aL, -⟩ := hO.k4 0 rfl
 obtain ⟨aM, aN, aO, aP, bb⟩ := hO.k2 1 rfl
 obtain ⟨aQ, aR, aS, aT, bc⟩ := hO.k2 2 rfl
 obtain ⟨aU, aV, aW, aX, bd⟩ := hO.k2 3 rfl
 obtain ⟨aA, aB, aC, -⟩ := hO.k1 4 rfl
 obtain ⟨aD, aY, aE, aF, be⟩ := hO.k2 5 rfl
 obtain ⟨aG, aZ, bf, bg, bh, aH, aI, -⟩ := hO.k5 6 rfl
 obtain ⟨aa, ab, bi, bj, ac, ad, bk⟩ := hO.k4 7 rfl
 obtain ⟨ae, af, bl, bm, ag, ah, bn⟩ := hO.k4 8 rfl
 obtain ⟨ai, bo, aj, ak, bp⟩ := hO.k2 9 rfl
 obtain ⟨al, bq, am, an, br⟩ := hO.k2 10 rfl
 obtain ⟨bs, bt, bu, bv, bw, bx, bz, -⟩ := hO.k5 11 rfl
 obtain ⟨cA, cB, cC, cD, cE⟩ := hO.k2 12 rfl
 obtain ⟨cF, cG, cH, -⟩ := hO.k1 13 rfl
 obtain ⟨cI, cJ, cK, cL, cM, cN, cO, cP, cQ, cR, cS⟩ := hO.k8 14 rfl
 obtain ⟨cT, cU, cV, cW, cX, cY, cZ⟩ := hO.k4 15 rfl
 obtain ⟨ca, cb, cc, cd, ce⟩ := hO.k2 16 rfl
 obtain ⟨cf, cg, ch, ci, cj, ck, cl, cm, -⟩ := hO.k6 17 rfl
 obtain ⟨cn, co, cp, cq, cr, -⟩ := hO.k3 18 rfl
 obtain ⟨cs, ct, cu, cv, cw, cy, cz, -⟩ := hO.k5 19 rfl
 obtain ⟨dA, dB, dC, dD, dE, dF, dG⟩ := hO.k4 20 rfl
 have dH : Base.plainAt u (nd19) = true := hO.plain 21 rfl
 have dI : u.cell? ⟨nd19, 0, none⟩ = some (vF 42 nd6) := hO.cell 21 rfl (0) ((full_at rfl))
 have dJ : u.cell? ⟨nd19, 1, none⟩ = some (vI loc) := hO.cell 21 rfl (1) ((full_at rfl))
 have dK : u.cell? ⟨nd19, 2, none⟩ = some (vF 67 nd17) := hO.cell 21 rfl (2) ((full_at rfl))
 have dL : u.cell? ⟨nd19, 3, none⟩ = some (vI loc) := hO.cell 21 rfl (3) ((full_at rfl))
 have dM := hO.lt 21 rfl
 have dN := hO.free 21 rfl
 have dO := hO.cell 22 rfl 32 hk32
 have dP := hO.cell 22 rfl 105 hk105
 have dQ := hO.cell 22 rfl 106 hk106
 have dR := hO.cell 22 rfl 350 hk350
 have dS := hO.lt 22 rfl
 have dT := hO.free 22 rfl
 have dU := hO.cell 24 rfl 4 hsu
 have dV := hO.lt 24 rfl
 have dW := hO.free 24 rfl
 obtain ⟨dX, dY, dZ, -⟩ := hO.k1 26 rfl
 obtain ⟨da, db, dc, -⟩ := hO.k1 27 rfl
 have HO := Lib.hid hO
 clear hO
 go_wp2_with (first | (with_reducible refine Own.stay (fn := Tryd.f39) ?_) | fail)
 try with_reducible refine Own.Stay.mk ?_
 have hO := HO.out
 clear HO hix9 hax9 av aw ax ay az bA bB bC bD bE bG bH bI bJ bK bL bM bN bO bP bQ bR bS bT bU bV bW bX ix9 aJ bY bZ ba aK aL aM aN aO aP bb aQ aR aS aT bc aU aV aW aX bd aA aB aC aD aY aE aF be aG aZ bf bg bh aH aI aa ab bi bj ac ad bk ae af bl bm ag ah bn ai bo aj ak bp al bq am an br bs bt bu bv bw bx bz cA cB cC cD cE cF cG cH cI cJ cK cL cM cN cO cP cQ cR cS cT cU cV cW cX cY cZ ca cb cc cd ce cf cg ch ci cj ck cl cm cn co cp cq cr cs ct cu cv cw cy cz dA dB dC dD dE dF dG dH dI dJ dK dL dM dN dO dP dQ dR dS dT dU dV dW dX dY dZ da db dc
 exact HP.out nd19 nd20 nd6 nd5 nd3 nd4 nd17 nd15 nd16 _ (hO.sub [21, 8, 7, 5, 19, 18, 22, 23, 24, 25] dc)
end Go.Proofs.YtikopplofkemlaaDoor.Use
