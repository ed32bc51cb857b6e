/- Row 33: the law behind the copies. No condition. -/
import Derived.Test.YtdbnnpoffpipjaaL33p
import Derived.Test.YtdbnnpoffpipjaaL33h
import Derived.Test.YtdbnnpoffpipjaaBsf
import Derived.Test.YtdbnnpoffpipjaaFlc
import Derived.Test.YtdbnnpoffpipjaaLp
import Derived.Test.YtdbnnpoffpipjaaCu
import Derived.Test.YtdbnnpoffpipjaaLf
import Derived.Test.YtdbnnpoffpipjaaIr
import Derived.Test.YtdbnnpoffpipjaaDr
import Derived.Test.YtdbnnpoffpipjaaLv
import Derived.Test.YtdbnnpoffpipjaaFlb
import Derived.Test.YtdbnnpoffpipjaaFin
import Derived.Test.YtdbnnpoffpipjaaFll
import Derived.Test.YtdbnnpoffpipjaaRdr
import Derived.Test.YtdbnnpoffpipjaaFfl
import Derived.Test.YtdbnnpoffpipjaaFfr
import Derived.Test.YtdbnnpoffpipjaaFnb
import Derived.Test.YtdbnnpoffpipjaaFp
import Derived.Test.YtdbnnpoffpipjaaFd
import Derived.Test.YtdbnnpoffpipjaaFn1
import Derived.Test.YtdbnnpoffpipjaaFf1
import Derived.Test.YtdbnnpoffpipjaaJn
import Derived.Test.YtdbnnpoffpipjaaTre
import Derived.Test.YtdbnnpoffpipjaaLoop
import Derived.Test.YtdbnnpoffpipjaaAppL
import Derived.Test.YtdbnnpoffpipjaaApp
import Derived.Test.YtdbnnpoffpipjaaOwnK
import Derived.Test.YtdbnnpoffpipjaaOwn
import Derived.Test.YtdbnnpoffpipjaaDeepCells
import Derived.Test.YtdbnnpoffpipjaaRows
namespace Go.Proofs.Ytdbnnpoffpipjaa.Use
open Go.ChangeShapes Go.WideShapes Go.ChangeAt Go.RowKit Go.Sort Own
set_option linter.unusedVariables false
def rtl33f00E (U : Nat → Nat) (n : Nat) (src : Int) (inn : Int) (ub : Nat) (B1_3 : Nat) (B1_2 : Nat) (B1_1 : Nat) (B1 : Nat) (inx : Int) (i : Nat) (D : Dat) (gq : Nat) : Nat → Rega.Atoms → Value
  | 0, α => .int .i64 (i : Int)
  | 1, α => .slice (some ⟨ub, 0, none⟩) n n
  | 2, α => .int .i64 (i : Int)
  | 3, α => .pointer (some ⟨ub, i, none⟩)
  | 4, α => .int .u8 (U i : Int)
  | 5, α => .agg #[.int .u32 src, .int .u32 inn]
  | 6, α => .agg #[.int .u32 src, .int .u32 inx]
  | 7, α => .tuple #[.agg #[.iface 59 (.pointer (some ⟨α 7, 0, none⟩)), .int .i32 (i : Int)], .pointer none]
  | 8, α => .tuple #[.agg #[.iface 59 (.pointer (some ⟨α 7, 0, none⟩)), .int .i32 (i : Int)], .pointer none]
  | 9, α => .agg #[.iface 59 (.pointer (some ⟨α 7, 0, none⟩)), .int .i32 (i : Int)]
  | 10, α => .pointer none
  | 11, α => .pointer (some ⟨α 11, 0, none⟩)
  | 12, α => undef
  | 13, α => .pointer none
  | _, _ => undef
def rtl33f00Anc : Nat → List Nat
  | 3 => [1, 2]
  | 4 => [1, 2, 3]
  | 7 => [0, 1, 2, 3, 4, 5, 6]
  | 8 => [0, 1, 2, 3, 4, 5, 6, 7]
  | 9 => [0, 1, 2, 3, 4, 5, 6, 7, 8]
  | 10 => [0, 1, 2, 3, 4, 5, 6, 7, 8]
  | 12 => [0, 1, 2, 3, 4, 5, 6, 7, 8, 9, 11]
  | 13 => [0, 1, 2, 3, 4, 5, 6, 7, 8, 9, 10, 11, 12]
  | _ => []
def rtl33f00Trn : Nat → List Nat
  | 12 => [11]
  | _ => []
def rtl33f00Cnt : List (Nat × Nat) := [(11, 1)]
def rtl33f00T11 (U : Nat → Nat) (n : Nat) (src : Int) (inn : Int) (ub : Nat) (B1_3 : Nat) (B1_2 : Nat) (B1_1 : Nat) (B1 : Nat) (inx : Int) (i : Nat) (D : Dat) (gq : Nat) (L9 : Nat → Bool) (α : Rega.Atoms) : Rw := if L9 12 = true then row (α 11) 35 #[.iface 59 (.pointer (some ⟨α 7, 0, none⟩)), .int .i32 (i : Int)] else row (α 11) 35 #[.nilIface, .int .i32 0]
def rtl33f00R (U : Nat → Nat) (n : Nat) (src : Int) (inn : Int) (ub : Nat) (B1_3 : Nat) (B1_2 : Nat) (B1_1 : Nat) (B1 : Nat) (inx : Int) (i : Nat) (D : Dat) (gq : Nat) (L9 : Nat → Bool) (α : Rega.Atoms) (ix9 : Nat) : Rw := if ix9 = 999 then row (B1_2) 35 (lvR D i (gq + 1)) else if ix9 = 1999 then row (B1_3) 36 (clR D i (gq + 1)) else if ix9 = 2999 then row (ub) 5 (itR U n) else if ix9 = 3999 then row (B1) 27 #[.int .u32 src, .int .u32 inn] else if ix9 = 4999 then row (B1_1) 27 #[.int .u32 src, .int .u32 inx] else if ix9 = 11 then rtl33f00T11 U n src inn ub B1_3 B1_2 B1_1 B1 inx i D gq L9 α else (0, .map #[] 0)
theorem rtl33f00_he (U : Nat → Nat) (n : Nat) (src : Int) (inn : Int) (ub : Nat) (B1_3 : Nat) (B1_2 : Nat) (B1_1 : Nat) (B1 : Nat) (inx : Int) (i : Nat) (D : Dat) (gq : Nat) : ∀ kk α α', (∀ j, (j % 1000 = kk ∨ j % 1000 ∈ rtl33f00Anc kk) → α j = α' j) → rtl33f00E U n src inn ub B1_3 B1_2 B1_1 B1 inx i D gq kk α = rtl33f00E U n src inn ub B1_3 B1_2 B1_1 B1 inx i D gq kk α' := by
  intro kk α α' h
  match kk with
  | 0 => rfl
  | 1 => rfl
  | 2 => rfl
  | 3 => rfl
  | 4 => rfl
  | 5 => rfl
  | 6 => rfl
  | 7 => simp only [rtl33f00E, h 7 (Or.inl rfl)]
  | 8 => simp only [rtl33f00E, h 7 (Or.inr (by decide))]
  | 9 => simp only [rtl33f00E, h 7 (Or.inr (by decide))]
  | 10 => rfl
  | 11 => simp only [rtl33f00E, h 11 (Or.inl rfl)]
  | 12 => rfl
  | 13 => rfl
  | n + 14 => rfl
theorem rtl33f00_st (U : Nat → Nat) (n : Nat) (src : Int) (inn : Int) (ub : Nat) (B1_3 : Nat) (B1_2 : Nat) (B1_1 : Nat) (B1 : Nat) (inx : Int) (i : Nat) (D : Dat) (gq : Nat) : Stable rtl33f00Cnt 5 rtl33f00Anc rtl33f00Trn (rtl33f00R U n src inn ub B1_3 B1_2 B1_1 B1 inx i D gq) := by
  intro k9 L9 α α' ix9 hk hcl hα hact ht
  have hp := act_places hact
  replace hp : ix9 ∈ [999, 1999, 2999, 3999, 4999, 11] := hp
  simp only [List.mem_cons, List.not_mem_nil, or_false] at hp
  rcases hp with rfl | rfl | rfl | rfl | rfl | rfl
  · rfl
  · rfl
  · rfl
  · rfl
  · rfl
  · have e0 : L9 11 = true := act_lt hact (by decide)
    show rtl33f00T11 U n src inn ub B1_3 B1_2 B1_1 B1 inx i D gq (Rega.ran L9 k9) α' = rtl33f00T11 U n src inn ub B1_3 B1_2 B1_1 B1 inx i D gq L9 α
    unfold rtl33f00T11
    have n12 : 12 ≠ k9 := fun e => ht (by rw [← e]; decide)
    rw [ran_ne n12]
    by_cases e12 : L9 12 = true
    · first | rw [if_pos e12, if_pos e12] | rw [if_pos e12]
      try simp only [hα 7 (ne_ran hk (hcl 12 e12 7 (by decide))), hα 11 (ne_ran hk (hcl 12 e12 11 (by decide)))]
    first | rw [if_neg e12, if_neg e12] | rw [if_neg e12]
    try simp only [hα 11 (ne_ran hk e0)]
def rtl33f10E (U : Nat → Nat) (n : Nat) (src : Int) (inn : Int) (ub : Nat) (B1_3 : Nat) (B1_2 : Nat) (B1_1 : Nat) (B1 : Nat) (inx : Int) (i : Nat) (D : Dat) (gq : Nat) : Nat → Rega.Atoms → Value
  | 0, α => .int .i64 (i : Int)
  | 1, α => .slice (some ⟨ub, 0, none⟩) n n
  | 2, α => .int .i64 (i : Int)
  | 3, α => .pointer (some ⟨ub, i, none⟩)
  | 4, α => .int .u8 (U i : Int)
  | 5, α => .agg #[.int .u32 src, .int .u32 inn]
  | 6, α => .agg #[.int .u32 src, .int .u32 inx]
  | 7, α => .tuple #[.agg #[.iface 36 (.pointer (some ⟨α 1007, 0, none⟩)), .int .i32 (i : Int)], .pointer (some ⟨α 1007, 0, none⟩)]
  | 8, α => .tuple #[.agg #[.iface 36 (.pointer (some ⟨α 1007, 0, none⟩)), .int .i32 (i : Int)], .pointer (some ⟨α 1007, 0, none⟩)]
  | 9, α => .agg #[.iface 36 (.pointer (some ⟨α 1007, 0, none⟩)), .int .i32 (i : Int)]
  | 10, α => .pointer (some ⟨α 1007, 0, none⟩)
  | 11, α => .pointer (some ⟨α 11, 0, none⟩)
  | 12, α => undef
  | 13, α => .pointer (some ⟨α 1007, 0, none⟩)
  | _, _ => undef
def rtl33f10Anc : Nat → List Nat
  | 3 => [1, 2]
  | 4 => [1, 2, 3]
  | 7 => [0, 1, 2, 3, 4, 5, 6]
  | 8 => [0, 1, 2, 3, 4, 5, 6, 7]
  | 9 => [0, 1, 2, 3, 4, 5, 6, 7, 8]
  | 10 => [0, 1, 2, 3, 4, 5, 6, 7, 8]
  | 12 => [0, 1, 2, 3, 4, 5, 6, 7, 8, 9, 11]
  | 13 => [0, 1, 2, 3, 4, 5, 6, 7, 8, 9, 10, 11, 12]
  | _ => []
def rtl33f10Trn : Nat → List Nat
  | 12 => [11]
  | _ => []
def rtl33f10Cnt : List (Nat × Nat) := [(7, 2), (11, 1)]
def rtl33f10T11 (U : Nat → Nat) (n : Nat) (src : Int) (inn : Int) (ub : Nat) (B1_3 : Nat) (B1_2 : Nat) (B1_1 : Nat) (B1 : Nat) (inx : Int) (i : Nat) (D : Dat) (gq : Nat) (L9 : Nat → Bool) (α : Rega.Atoms) : Rw := if L9 12 = true then row (α 11) 35 #[.iface 36 (.pointer (some ⟨α 1007, 0, none⟩)), .int .i32 (i : Int)] else row (α 11) 35 #[.nilIface, .int .i32 0]
def rtl33f10R (U : Nat → Nat) (n : Nat) (src : Int) (inn : Int) (ub : Nat) (B1_3 : Nat) (B1_2 : Nat) (B1_1 : Nat) (B1 : Nat) (inx : Int) (i : Nat) (D : Dat) (gq : Nat) (L9 : Nat → Bool) (α : Rega.Atoms) (ix9 : Nat) : Rw := if ix9 = 999 then row (B1_2) 35 (lvR D i (gq + 1)) else if ix9 = 1999 then row (B1_3) 36 (clR D i (gq + 1)) else if ix9 = 2999 then row (ub) 5 (itR U n) else if ix9 = 3999 then row (B1) 27 #[.int .u32 src, .int .u32 inn] else if ix9 = 4999 then row (B1_1) 27 #[.int .u32 src, .int .u32 inx] else if ix9 = 7 then row (α 7) 58 #[.int .u32 src, .int .u32 inn, .bool false, .bool false, .bool false] else if ix9 = 1007 then row (α 1007) 46 #[.iface 56 (.pointer (some ⟨α 7, 0, none⟩)), .int .i32 (i : Int), .slice none 0 0, .int .i32 0, .int .u8 0, .int .u8 0, .bool false, .bool false] else if ix9 = 11 then rtl33f10T11 U n src inn ub B1_3 B1_2 B1_1 B1 inx i D gq L9 α else (0, .map #[] 0)
theorem rtl33f10_he (U : Nat → Nat) (n : Nat) (src : Int) (inn : Int) (ub : Nat) (B1_3 : Nat) (B1_2 : Nat) (B1_1 : Nat) (B1 : Nat) (inx : Int) (i : Nat) (D : Dat) (gq : Nat) : ∀ kk α α', (∀ j, (j % 1000 = kk ∨ j % 1000 ∈ rtl33f10Anc kk) → α j = α' j) → rtl33f10E U n src inn ub B1_3 B1_2 B1_1 B1 inx i D gq kk α = rtl33f10E U n src inn ub B1_3 B1_2 B1_1 B1 inx i D gq kk α' := by
  intro kk α α' h
  match kk with
  | 0 => rfl
  | 1 => rfl
  | 2 => rfl
  | 3 => rfl
  | 4 => rfl
  | 5 => rfl
  | 6 => rfl
  | 7 => simp only [rtl33f10E, h 1007 (Or.inl rfl)]
  | 8 => simp only [rtl33f10E, h 1007 (Or.inr (by decide))]
  | 9 => simp only [rtl33f10E, h 1007 (Or.inr (by decide))]
  | 10 => simp only [rtl33f10E, h 1007 (Or.inr (by decide))]
  | 11 => simp only [rtl33f10E, h 11 (Or.inl rfl)]
  | 12 => rfl
  | 13 => simp only [rtl33f10E, h 1007 (Or.inr (by decide))]
  | n + 14 => rfl
theorem rtl33f10_st (U : Nat → Nat) (n : Nat) (src : Int) (inn : Int) (ub : Nat) (B1_3 : Nat) (B1_2 : Nat) (B1_1 : Nat) (B1 : Nat) (inx : Int) (i : Nat) (D : Dat) (gq : Nat) : Stable rtl33f10Cnt 5 rtl33f10Anc rtl33f10Trn (rtl33f10R U n src inn ub B1_3 B1_2 B1_1 B1 inx i D gq) := by
  intro k9 L9 α α' ix9 hk hcl hα hact ht
  have hp := act_places hact
  replace hp : ix9 ∈ [999, 1999, 2999, 3999, 4999, 7, 1007, 11] := hp
  simp only [List.mem_cons, List.not_mem_nil, or_false] at hp
  rcases hp with rfl | rfl | rfl | rfl | rfl | rfl | rfl | rfl
  · rfl
  · rfl
  · rfl
  · rfl
  · rfl
  · have e0 : L9 7 = true := act_lt hact (by decide)
    show row (α' 7) 58 #[.int .u32 src, .int .u32 inn, .bool false, .bool false, .bool false] = row (α 7) 58 #[.int .u32 src, .int .u32 inn, .bool false, .bool false, .bool false]
    simp only [hα 7 (ne_ran hk e0)]
  · have e0 : L9 7 = true := act_lt hact (by decide)
    show row (α' 1007) 46 #[.iface 56 (.pointer (some ⟨α' 7, 0, none⟩)), .int .i32 (i : Int), .slice none 0 0, .int .i32 0, .int .u8 0, .int .u8 0, .bool false, .bool false] = row (α 1007) 46 #[.iface 56 (.pointer (some ⟨α 7, 0, none⟩)), .int .i32 (i : Int), .slice none 0 0, .int .i32 0, .int .u8 0, .int .u8 0, .bool false, .bool false]
    simp only [hα 7 (ne_ran hk e0), hα 1007 (ne_ran hk e0)]
  · have e0 : L9 11 = true := act_lt hact (by decide)
    show rtl33f10T11 U n src inn ub B1_3 B1_2 B1_1 B1 inx i D gq (Rega.ran L9 k9) α' = rtl33f10T11 U n src inn ub B1_3 B1_2 B1_1 B1 inx i D gq L9 α
    unfold rtl33f10T11
    have n12 : 12 ≠ k9 := fun e => ht (by rw [← e]; decide)
    rw [ran_ne n12]
    by_cases e12 : L9 12 = true
    · first | rw [if_pos e12, if_pos e12] | rw [if_pos e12]
      try simp only [hα 11 (ne_ran hk (hcl 12 e12 11 (by decide))), hα 1007 (ne_ran hk (hcl 12 e12 7 (by decide)))]
    first | rw [if_neg e12, if_neg e12] | rw [if_neg e12]
    try simp only [hα 11 (ne_ran hk e0)]
def rtl33f20E (U : Nat → Nat) (n : Nat) (src : Int) (inn : Int) (ub : Nat) (B1_3 : Nat) (B1_2 : Nat) (B1_1 : Nat) (B1 : Nat) (inx : Int) (i : Nat) (D : Dat) (gq : Nat) : Nat → Rega.Atoms → Value
  | 0, α => .int .i64 (i : Int)
  | 1, α => .slice (some ⟨ub, 0, none⟩) n n
  | 2, α => .int .i64 (i : Int)
  | 3, α => .pointer (some ⟨ub, i, none⟩)
  | 4, α => .int .u8 (U i : Int)
  | 5, α => .agg #[.int .u32 src, .int .u32 inn]
  | 6, α => .agg #[.int .u32 src, .int .u32 inx]
  | 7, α => .tuple #[.agg #[.iface 36 (.pointer (some ⟨α 1007, 0, none⟩)), .int .i32 (i : Int)], .pointer (some ⟨α 1007, 0, none⟩)]
  | 8, α => .tuple #[.agg #[.iface 36 (.pointer (some ⟨α 1007, 0, none⟩)), .int .i32 (i : Int)], .pointer (some ⟨α 1007, 0, none⟩)]
  | 9, α => .agg #[.iface 36 (.pointer (some ⟨α 1007, 0, none⟩)), .int .i32 (i : Int)]
  | 10, α => .pointer (some ⟨α 1007, 0, none⟩)
  | 11, α => .pointer (some ⟨α 11, 0, none⟩)
  | 12, α => undef
  | 13, α => .pointer (some ⟨α 1007, 0, none⟩)
  | _, _ => undef
def rtl33f20Anc : Nat → List Nat
  | 3 => [1, 2]
  | 4 => [1, 2, 3]
  | 7 => [0, 1, 2, 3, 4, 5, 6]
  | 8 => [0, 1, 2, 3, 4, 5, 6, 7]
  | 9 => [0, 1, 2, 3, 4, 5, 6, 7, 8]
  | 10 => [0, 1, 2, 3, 4, 5, 6, 7, 8]
  | 12 => [0, 1, 2, 3, 4, 5, 6, 7, 8, 9, 11]
  | 13 => [0, 1, 2, 3, 4, 5, 6, 7, 8, 9, 10, 11, 12]
  | _ => []
def rtl33f20Trn : Nat → List Nat
  | 12 => [11]
  | _ => []
def rtl33f20Cnt : List (Nat × Nat) := [(7, 2), (11, 1)]
def rtl33f20T11 (U : Nat → Nat) (n : Nat) (src : Int) (inn : Int) (ub : Nat) (B1_3 : Nat) (B1_2 : Nat) (B1_1 : Nat) (B1 : Nat) (inx : Int) (i : Nat) (D : Dat) (gq : Nat) (L9 : Nat → Bool) (α : Rega.Atoms) : Rw := if L9 12 = true then row (α 11) 35 #[.iface 36 (.pointer (some ⟨α 1007, 0, none⟩)), .int .i32 (i : Int)] else row (α 11) 35 #[.nilIface, .int .i32 0]
def rtl33f20R (U : Nat → Nat) (n : Nat) (src : Int) (inn : Int) (ub : Nat) (B1_3 : Nat) (B1_2 : Nat) (B1_1 : Nat) (B1 : Nat) (inx : Int) (i : Nat) (D : Dat) (gq : Nat) (L9 : Nat → Bool) (α : Rega.Atoms) (ix9 : Nat) : Rw := if ix9 = 999 then row (B1_2) 35 (lvR D i (gq + 1)) else if ix9 = 1999 then row (B1_3) 36 (clR D i (gq + 1)) else if ix9 = 2999 then row (ub) 5 (itR U n) else if ix9 = 3999 then row (B1) 27 #[.int .u32 src, .int .u32 inn] else if ix9 = 4999 then row (B1_1) 27 #[.int .u32 src, .int .u32 inx] else if ix9 = 7 then row (α 7) 58 #[.int .u32 src, .int .u32 inx, .bool false, .bool false, .bool false] else if ix9 = 1007 then row (α 1007) 46 #[.iface 56 (.pointer (some ⟨α 7, 0, none⟩)), .int .i32 (i : Int), .slice none 0 0, .int .i32 0, .int .u8 0, .int .u8 0, .bool false, .bool false] else if ix9 = 11 then rtl33f20T11 U n src inn ub B1_3 B1_2 B1_1 B1 inx i D gq L9 α else (0, .map #[] 0)
theorem rtl33f20_he (U : Nat → Nat) (n : Nat) (src : Int) (inn : Int) (ub : Nat) (B1_3 : Nat) (B1_2 : Nat) (B1_1 : Nat) (B1 : Nat) (inx : Int) (i : Nat) (D : Dat) (gq : Nat) : ∀ kk α α', (∀ j, (j % 1000 = kk ∨ j % 1000 ∈ rtl33f20Anc kk) → α j = α' j) → rtl33f20E U n src inn ub B1_3 B1_2 B1_1 B1 inx i D gq kk α = rtl33f20E U n src inn ub B1_3 B1_2 B1_1 B1 inx i D gq kk α' := by
  intro kk α α' h
  match kk with
  | 0 => rfl
  | 1 => rfl
  | 2 => rfl
  | 3 => rfl
  | 4 => rfl
  | 5 => rfl
  | 6 => rfl
  | 7 => simp only [rtl33f20E, h 1007 (Or.inl rfl)]
  | 8 => simp only [rtl33f20E, h 1007 (Or.inr (by decide))]
  | 9 => simp only [rtl33f20E, h 1007 (Or.inr (by decide))]
  | 10 => simp only [rtl33f20E, h 1007 (Or.inr (by decide))]
  | 11 => simp only [rtl33f20E, h 11 (Or.inl rfl)]
  | 12 => rfl
  | 13 => simp only [rtl33f20E, h 1007 (Or.inr (by decide))]
  | n + 14 => rfl
theorem rtl33f20_st (U : Nat → Nat) (n : Nat) (src : Int) (inn : Int) (ub : Nat) (B1_3 : Nat) (B1_2 : Nat) (B1_1 : Nat) (B1 : Nat) (inx : Int) (i : Nat) (D : Dat) (gq : Nat) : Stable rtl33f20Cnt 5 rtl33f20Anc rtl33f20Trn (rtl33f20R U n src inn ub B1_3 B1_2 B1_1 B1 inx i D gq) := by
  intro k9 L9 α α' ix9 hk hcl hα hact ht
  have hp := act_places hact
  replace hp : ix9 ∈ [999, 1999, 2999, 3999, 4999, 7, 1007, 11] := hp
  simp only [List.mem_cons, List.not_mem_nil, or_false] at hp
  rcases hp with rfl | rfl | rfl | rfl | rfl | rfl | rfl | rfl
  · rfl
  · rfl
  · rfl
  · rfl
  · rfl
  · have e0 : L9 7 = true := act_lt hact (by decide)
    show row (α' 7) 58 #[.int .u32 src, .int .u32 inx, .bool false, .bool false, .bool false] = row (α 7) 58 #[.int .u32 src, .int .u32 inx, .bool false, .bool false, .bool false]
    simp only [hα 7 (ne_ran hk e0)]
  · have e0 : L9 7 = true := act_lt hact (by decide)
    show row (α' 1007) 46 #[.iface 56 (.pointer (some ⟨α' 7, 0, none⟩)), .int .i32 (i : Int), .slice none 0 0, .int .i32 0, .int .u8 0, .int .u8 0, .bool false, .bool false] = row (α 1007) 46 #[.iface 56 (.pointer (some ⟨α 7, 0, none⟩)), .int .i32 (i : Int), .slice none 0 0, .int .i32 0, .int .u8 0, .int .u8 0, .bool false, .bool false]
    simp only [hα 7 (ne_ran hk e0), hα 1007 (ne_ran hk e0)]
  · have e0 : L9 11 = true := act_lt hact (by decide)
    show rtl33f20T11 U n src inn ub B1_3 B1_2 B1_1 B1 inx i D gq (Rega.ran L9 k9) α' = rtl33f20T11 U n src inn ub B1_3 B1_2 B1_1 B1 inx i D gq L9 α
    unfold rtl33f20T11
    have n12 : 12 ≠ k9 := fun e => ht (by rw [← e]; decide)
    rw [ran_ne n12]
    by_cases e12 : L9 12 = true
    · first | rw [if_pos e12, if_pos e12] | rw [if_pos e12]
      try simp only [hα 11 (ne_ran hk (hcl 12 e12 11 (by decide))), hα 1007 (ne_ran hk (hcl 12 e12 7 (by decide)))]
    first | rw [if_neg e12, if_neg e12] | rw [if_neg e12]
    try simp only [hα 11 (ne_ran hk e0)]
def rtl33f01E (U : Nat → Nat) (n : Nat) (src : Int) (inn : Int) (ub : Nat) (B1_3 : Nat) (B1_2 : Nat) (B1_1 : Nat) (B1 : Nat) (inx : Int) (i : Nat) (D : Dat) (gq : Nat) (sb : Nat) (sc : Nat) (SL : List Nat) : Nat → Rega.Atoms → Value
  | 0, α => .int .i64 (i : Int)
  | 1, α => .slice (some ⟨ub, 0, none⟩) n n
  | 2, α => .int .i64 (i : Int)
  | 3, α => .pointer (some ⟨ub, i, none⟩)
  | 4, α => .int .u8 (U i : Int)
  | 5, α => .agg #[.int .u32 src, .int .u32 inn]
  | 6, α => .agg #[.int .u32 src, .int .u32 inx]
  | 7, α => .tuple #[.agg #[.iface 59 (.pointer (some ⟨α 7, 0, none⟩)), .int .i32 (i : Int)], .pointer none]
  | 8, α => .tuple #[.agg #[.iface 59 (.pointer (some ⟨α 7, 0, none⟩)), .int .i32 (i : Int)], .pointer none]
  | 9, α => .agg #[.iface 59 (.pointer (some ⟨α 7, 0, none⟩)), .int .i32 (i : Int)]
  | 10, α => .pointer none
  | 11, α => .pointer (some ⟨α 11, 0, none⟩)
  | 12, α => undef
  | 13, α => .pointer none
  | _, _ => undef
def rtl33f01Anc : Nat → List Nat
  | 3 => [1, 2]
  | 4 => [1, 2, 3]
  | 7 => [0, 1, 2, 3, 4, 5, 6]
  | 8 => [0, 1, 2, 3, 4, 5, 6, 7]
  | 9 => [0, 1, 2, 3, 4, 5, 6, 7, 8]
  | 10 => [0, 1, 2, 3, 4, 5, 6, 7, 8]
  | 12 => [0, 1, 2, 3, 4, 5, 6, 7, 8, 9, 11]
  | 13 => [0, 1, 2, 3, 4, 5, 6, 7, 8, 9, 10, 11, 12]
  | _ => []
def rtl33f01Trn : Nat → List Nat
  | 12 => [11]
  | _ => []
def rtl33f01Cnt : List (Nat × Nat) := [(11, 1)]
def rtl33f01T11 (U : Nat → Nat) (n : Nat) (src : Int) (inn : Int) (ub : Nat) (B1_3 : Nat) (B1_2 : Nat) (B1_1 : Nat) (B1 : Nat) (inx : Int) (i : Nat) (D : Dat) (gq : Nat) (sb : Nat) (sc : Nat) (SL : List Nat) (L9 : Nat → Bool) (α : Rega.Atoms) : Rw := if L9 12 = true then row (α 11) 35 #[.iface 59 (.pointer (some ⟨α 7, 0, none⟩)), .int .i32 (i : Int)] else row (α 11) 35 #[.nilIface, .int .i32 0]
def rtl33f01R (U : Nat → Nat) (n : Nat) (src : Int) (inn : Int) (ub : Nat) (B1_3 : Nat) (B1_2 : Nat) (B1_1 : Nat) (B1 : Nat) (inx : Int) (i : Nat) (D : Dat) (gq : Nat) (sb : Nat) (sc : Nat) (SL : List Nat) (L9 : Nat → Bool) (α : Rega.Atoms) (ix9 : Nat) : Rw := if ix9 = 999 then row (sb) 3 (full i64Z (ixV SL) sc) else if ix9 = 1999 then row (B1_2) 35 (lvR D i (gq + 1)) else if ix9 = 2999 then row (B1_3) 36 (clR D i (gq + 1)) else if ix9 = 3999 then row (ub) 5 (itR U n) else if ix9 = 4999 then row (B1) 27 #[.int .u32 src, .int .u32 inn] else if ix9 = 5999 then row (B1_1) 27 #[.int .u32 src, .int .u32 inx] else if ix9 = 11 then rtl33f01T11 U n src inn ub B1_3 B1_2 B1_1 B1 inx i D gq sb sc SL L9 α else (0, .map #[] 0)
theorem rtl33f01_he (U : Nat → Nat) (n : Nat) (src : Int) (inn : Int) (ub : Nat) (B1_3 : Nat) (B1_2 : Nat) (B1_1 : Nat) (B1 : Nat) (inx : Int) (i : Nat) (D : Dat) (gq : Nat) (sb : Nat) (sc : Nat) (SL : List Nat) : ∀ kk α α', (∀ j, (j % 1000 = kk ∨ j % 1000 ∈ rtl33f01Anc kk) → α j = α' j) → rtl33f01E U n src inn ub B1_3 B1_2 B1_1 B1 inx i D gq sb sc SL kk α = rtl33f01E U n src inn ub B1_3 B1_2 B1_1 B1 inx i D gq sb sc SL kk α' := by
  intro kk α α' h
  match kk with
  | 0 => rfl
  | 1 => rfl
  | 2 => rfl
  | 3 => rfl
  | 4 => rfl
  | 5 => rfl
  | 6 => rfl
  | 7 => simp only [rtl33f01E, h 7 (Or.inl rfl)]
  | 8 => simp only [rtl33f01E, h 7 (Or.inr (by decide))]
  | 9 => simp only [rtl33f01E, h 7 (Or.inr (by decide))]
  | 10 => rfl
  | 11 => simp only [rtl33f01E, h 11 (Or.inl rfl)]
  | 12 => rfl
  | 13 => rfl
  | n + 14 => rfl
theorem rtl33f01_st (U : Nat → Nat) (n : Nat) (src : Int) (inn : Int) (ub : Nat) (B1_3 : Nat) (B1_2 : Nat) (B1_1 : Nat) (B1 : Nat) (inx : Int) (i : Nat) (D : Dat) (gq : Nat) (sb : Nat) (sc : Nat) (SL : List Nat) : Stable rtl33f01Cnt 6 rtl33f01Anc rtl33f01Trn (rtl33f01R U n src inn ub B1_3 B1_2 B1_1 B1 inx i D gq sb sc SL) := by
  intro k9 L9 α α' ix9 hk hcl hα hact ht
  have hp := act_places hact
  replace hp : ix9 ∈ [999, 1999, 2999, 3999, 4999, 5999, 11] := hp
  simp only [List.mem_cons, List.not_mem_nil, or_false] at hp
  rcases hp with rfl | rfl | rfl | rfl | rfl | rfl | rfl
  · rfl
  · rfl
  · rfl
  · rfl
  · rfl
  · rfl
  · have e0 : L9 11 = true := act_lt hact (by decide)
    show rtl33f01T11 U n src inn ub B1_3 B1_2 B1_1 B1 inx i D gq sb sc SL (Rega.ran L9 k9) α' = rtl33f01T11 U n src inn ub B1_3 B1_2 B1_1 B1 inx i D gq sb sc SL L9 α
    unfold rtl33f01T11
    have n12 : 12 ≠ k9 := fun e => ht (by rw [← e]; decide)
    rw [ran_ne n12]
    by_cases e12 : L9 12 = true
    · first | rw [if_pos e12, if_pos e12] | rw [if_pos e12]
      try simp only [hα 7 (ne_ran hk (hcl 12 e12 7 (by decide))), hα 11 (ne_ran hk (hcl 12 e12 11 (by decide)))]
    first | rw [if_neg e12, if_neg e12] | rw [if_neg e12]
    try simp only [hα 11 (ne_ran hk e0)]
def rtl33f11E (U : Nat → Nat) (n : Nat) (src : Int) (inn : Int) (ub : Nat) (B1_3 : Nat) (B1_2 : Nat) (B1_1 : Nat) (B1 : Nat) (inx : Int) (i : Nat) (D : Dat) (gq : Nat) (sb : Nat) (sc : Nat) (SL : List Nat) : Nat → Rega.Atoms → Value
  | 0, α => .int .i64 (i : Int)
  | 1, α => .slice (some ⟨ub, 0, none⟩) n n
  | 2, α => .int .i64 (i : Int)
  | 3, α => .pointer (some ⟨ub, i, none⟩)
  | 4, α => .int .u8 (U i : Int)
  | 5, α => .agg #[.int .u32 src, .int .u32 inn]
  | 6, α => .agg #[.int .u32 src, .int .u32 inx]
  | 7, α => .tuple #[.agg #[.iface 36 (.pointer (some ⟨α 1007, 0, none⟩)), .int .i32 (i : Int)], .pointer (some ⟨α 1007, 0, none⟩)]
  | 8, α => .tuple #[.agg #[.iface 36 (.pointer (some ⟨α 1007, 0, none⟩)), .int .i32 (i : Int)], .pointer (some ⟨α 1007, 0, none⟩)]
  | 9, α => .agg #[.iface 36 (.pointer (some ⟨α 1007, 0, none⟩)), .int .i32 (i : Int)]
  | 10, α => .pointer (some ⟨α 1007, 0, none⟩)
  | 11, α => .pointer (some ⟨α 11, 0, none⟩)
  | 12, α => undef
  | 13, α => .pointer (some ⟨α 1007, 0, none⟩)
  | _, _ => undef
def rtl33f11Anc : Nat → List Nat
  | 3 => [1, 2]
  | 4 => [1, 2, 3]
  | 7 => [0, 1, 2, 3, 4, 5, 6]
  | 8 => [0, 1, 2, 3, 4, 5, 6, 7]
  | 9 => [0, 1, 2, 3, 4, 5, 6, 7, 8]
  | 10 => [0, 1, 2, 3, 4, 5, 6, 7, 8]
  | 12 => [0, 1, 2, 3, 4, 5, 6, 7, 8, 9, 11]
  | 13 => [0, 1, 2, 3, 4, 5, 6, 7, 8, 9, 10, 11, 12]
  | _ => []
def rtl33f11Trn : Nat → List Nat
  | 12 => [11]
  | _ => []
def rtl33f11Cnt : List (Nat × Nat) := [(7, 2), (11, 1)]
def rtl33f11T11 (U : Nat → Nat) (n : Nat) (src : Int) (inn : Int) (ub : Nat) (B1_3 : Nat) (B1_2 : Nat) (B1_1 : Nat) (B1 : Nat) (inx : Int) (i : Nat) (D : Dat) (gq : Nat) (sb : Nat) (sc : Nat) (SL : List Nat) (L9 : Nat → Bool) (α : Rega.Atoms) : Rw := if L9 12 = true then row (α 11) 35 #[.iface 36 (.pointer (some ⟨α 1007, 0, none⟩)), .int .i32 (i : Int)] else row (α 11) 35 #[.nilIface, .int .i32 0]
def rtl33f11R (U : Nat → Nat) (n : Nat) (src : Int) (inn : Int) (ub : Nat) (B1_3 : Nat) (B1_2 : Nat) (B1_1 : Nat) (B1 : Nat) (inx : Int) (i : Nat) (D : Dat) (gq : Nat) (sb : Nat) (sc : Nat) (SL : List Nat) (L9 : Nat → Bool) (α : Rega.Atoms) (ix9 : Nat) : Rw := if ix9 = 999 then row (sb) 3 (full i64Z (ixV SL) sc) else if ix9 = 1999 then row (B1_2) 35 (lvR D i (gq + 1)) else if ix9 = 2999 then row (B1_3) 36 (clR D i (gq + 1)) else if ix9 = 3999 then row (ub) 5 (itR U n) else if ix9 = 4999 then row (B1) 27 #[.int .u32 src, .int .u32 inn] else if ix9 = 5999 then row (B1_1) 27 #[.int .u32 src, .int .u32 inx] else if ix9 = 7 then row (α 7) 58 #[.int .u32 src, .int .u32 inn, .bool false, .bool false, .bool false] else if ix9 = 1007 then row (α 1007) 46 #[.iface 56 (.pointer (some ⟨α 7, 0, none⟩)), .int .i32 (i : Int), .slice none 0 0, .int .i32 0, .int .u8 0, .int .u8 0, .bool false, .bool false] else if ix9 = 11 then rtl33f11T11 U n src inn ub B1_3 B1_2 B1_1 B1 inx i D gq sb sc SL L9 α else (0, .map #[] 0)
theorem rtl33f11_he (U : Nat → Nat) (n : Nat) (src : Int) (inn : Int) (ub : Nat) (B1_3 : Nat) (B1_2 : Nat) (B1_1 : Nat) (B1 : Nat) (inx : Int) (i : Nat) (D : Dat) (gq : Nat) (sb : Nat) (sc : Nat) (SL : List Nat) : ∀ kk α α', (∀ j, (j % 1000 = kk ∨ j % 1000 ∈ rtl33f11Anc kk) → α j = α' j) → rtl33f11E U n src inn ub B1_3 B1_2 B1_1 B1 inx i D gq sb sc SL kk α = rtl33f11E U n src inn ub B1_3 B1_2 B1_1 B1 inx i D gq sb sc SL kk α' := by
  intro kk α α' h
  match kk with
  | 0 => rfl
  | 1 => rfl
  | 2 => rfl
  | 3 => rfl
  | 4 => rfl
  | 5 => rfl
  | 6 => rfl
  | 7 => simp only [rtl33f11E, h 1007 (Or.inl rfl)]
  | 8 => simp only [rtl33f11E, h 1007 (Or.inr (by decide))]
  | 9 => simp only [rtl33f11E, h 1007 (Or.inr (by decide))]
  | 10 => simp only [rtl33f11E, h 1007 (Or.inr (by decide))]
  | 11 => simp only [rtl33f11E, h 11 (Or.inl rfl)]
  | 12 => rfl
  | 13 => simp only [rtl33f11E, h 1007 (Or.inr (by decide))]
  | n + 14 => rfl
theorem rtl33f11_st (U : Nat → Nat) (n : Nat) (src : Int) (inn : Int) (ub : Nat) (B1_3 : Nat) (B1_2 : Nat) (B1_1 : Nat) (B1 : Nat) (inx : Int) (i : Nat) (D : Dat) (gq : Nat) (sb : Nat) (sc : Nat) (SL : List Nat) : Stable rtl33f11Cnt 6 rtl33f11Anc rtl33f11Trn (rtl33f11R U n src inn ub B1_3 B1_2 B1_1 B1 inx i D gq sb sc SL) := by
  intro k9 L9 α α' ix9 hk hcl hα hact ht
  have hp := act_places hact
  replace hp : ix9 ∈ [999, 1999, 2999, 3999, 4999, 5999, 7, 1007, 11] := hp
  simp only [List.mem_cons, List.not_mem_nil, or_false] at hp
  rcases hp with rfl | rfl | rfl | rfl | rfl | rfl | rfl | rfl | rfl
  · rfl
  · rfl
  · rfl
  · rfl
  · rfl
  · rfl
  · have e0 : L9 7 = true := act_lt hact (by decide)
    show row (α' 7) 58 #[.int .u32 src, .int .u32 inn, .bool false, .bool false, .bool false] = row (α 7) 58 #[.int .u32 src, .int .u32 inn, .bool false, .bool false, .bool false]
    simp only [hα 7 (ne_ran hk e0)]
  · have e0 : L9 7 = true := act_lt hact (by decide)
    show row (α' 1007) 46 #[.iface 56 (.pointer (some ⟨α' 7, 0, none⟩)), .int .i32 (i : Int), .slice none 0 0, .int .i32 0, .int .u8 0, .int .u8 0, .bool false, .bool false] = row (α 1007) 46 #[.iface 56 (.pointer (some ⟨α 7, 0, none⟩)), .int .i32 (i : Int), .slice none 0 0, .int .i32 0, .int .u8 0, .int .u8 0, .bool false, .bool false]
    simp only [hα 7 (ne_ran hk e0), hα 1007 (ne_ran hk e0)]
  · have e0 : L9 11 = true := act_lt hact (by decide)
    show rtl33f11T11 U n src inn ub B1_3 B1_2 B1_1 B1 inx i D gq sb sc SL (Rega.ran L9 k9) α' = rtl33f11T11 U n src inn ub B1_3 B1_2 B1_1 B1 inx i D gq sb sc SL L9 α
    unfold rtl33f11T11
    have n12 : 12 ≠ k9 := fun e => ht (by rw [← e]; decide)
    rw [ran_ne n12]
    by_cases e12 : L9 12 = true
    · first | rw [if_pos e12, if_pos e12] | rw [if_pos e12]
      try simp only [hα 11 (ne_ran hk (hcl 12 e12 11 (by decide))), hα 1007 (ne_ran hk (hcl 12 e12 7 (by decide)))]
    first | rw [if_neg e12, if_neg e12] | rw [if_neg e12]
    try simp only [hα 11 (ne_ran hk e0)]
def rtl33f21E (U : Nat → Nat) (n : Nat) (src : Int) (inn : Int) (ub : Nat) (B1_3 : Nat) (B1_2 : Nat) (B1_1 : Nat) (B1 : Nat) (inx : Int) (i : Nat) (D : Dat) (gq : Nat) (sb : Nat) (sc : Nat) (SL : List Nat) : Nat → Rega.Atoms → Value
  | 0, α => .int .i64 (i : Int)
  | 1, α => .slice (some ⟨ub, 0, none⟩) n n
  | 2, α => .int .i64 (i : Int)
  | 3, α => .pointer (some ⟨ub, i, none⟩)
  | 4, α => .int .u8 (U i : Int)
  | 5, α => .agg #[.int .u32 src, .int .u32 inn]
  | 6, α => .agg #[.int .u32 src, .int .u32 inx]
  | 7, α => .tuple #[.agg #[.iface 36 (.pointer (some ⟨α 1007, 0, none⟩)), .int .i32 (i : Int)], .pointer (some ⟨α 1007, 0, none⟩)]
  | 8, α => .tuple #[.agg #[.iface 36 (.pointer (some ⟨α 1007, 0, none⟩)), .int .i32 (i : Int)], .pointer (some ⟨α 1007, 0, none⟩)]
  | 9, α => .agg #[.iface 36 (.pointer (some ⟨α 1007, 0, none⟩)), .int .i32 (i : Int)]
  | 10, α => .pointer (some ⟨α 1007, 0, none⟩)
  | 11, α => .pointer (some ⟨α 11, 0, none⟩)
  | 12, α => undef
  | 13, α => .pointer (some ⟨α 1007, 0, none⟩)
  | _, _ => undef
def rtl33f21Anc : Nat → List Nat
  | 3 => [1, 2]
  | 4 => [1, 2, 3]
  | 7 => [0, 1, 2, 3, 4, 5, 6]
  | 8 => [0, 1, 2, 3, 4, 5, 6, 7]
  | 9 => [0, 1, 2, 3, 4, 5, 6, 7, 8]
  | 10 => [0, 1, 2, 3, 4, 5, 6, 7, 8]
  | 12 => [0, 1, 2, 3, 4, 5, 6, 7, 8, 9, 11]
  | 13 => [0, 1, 2, 3, 4, 5, 6, 7, 8, 9, 10, 11, 12]
  | _ => []
def rtl33f21Trn : Nat → List Nat
  | 12 => [11]
  | _ => []
def rtl33f21Cnt : List (Nat × Nat) := [(7, 2), (11, 1)]
def rtl33f21T11 (U : Nat → Nat) (n : Nat) (src : Int) (inn : Int) (ub : Nat) (B1_3 : Nat) (B1_2 : Nat) (B1_1 : Nat) (B1 : Nat) (inx : Int) (i : Nat) (D : Dat) (gq : Nat) (sb : Nat) (sc : Nat) (SL : List Nat) (L9 : Nat → Bool) (α : Rega.Atoms) : Rw := if L9 12 = true then row (α 11) 35 #[.iface 36 (.pointer (some ⟨α 1007, 0, none⟩)), .int .i32 (i : Int)] else row (α 11) 35 #[.nilIface, .int .i32 0]
def rtl33f21R (U : Nat → Nat) (n : Nat) (src : Int) (inn : Int) (ub : Nat) (B1_3 : Nat) (B1_2 : Nat) (B1_1 : Nat) (B1 : Nat) (inx : Int) (i : Nat) (D : Dat) (gq : Nat) (sb : Nat) (sc : Nat) (SL : List Nat) (L9 : Nat → Bool) (α : Rega.Atoms) (ix9 : Nat) : Rw := if ix9 = 999 then row (sb) 3 (full i64Z (ixV SL) sc) else if ix9 = 1999 then row (B1_2) 35 (lvR D i (gq + 1)) else if ix9 = 2999 then row (B1_3) 36 (clR D i (gq + 1)) else if ix9 = 3999 then row (ub) 5 (itR U n) else if ix9 = 4999 then row (B1) 27 #[.int .u32 src, .int .u32 inn] else if ix9 = 5999 then row (B1_1) 27 #[.int .u32 src, .int .u32 inx] else if ix9 = 7 then row (α 7) 58 #[.int .u32 src, .int .u32 inx, .bool false, .bool false, .bool false] else if ix9 = 1007 then row (α 1007) 46 #[.iface 56 (.pointer (some ⟨α 7, 0, none⟩)), .int .i32 (i : Int), .slice none 0 0, .int .i32 0, .int .u8 0, .int .u8 0, .bool false, .bool false] else if ix9 = 11 then rtl33f21T11 U n src inn ub B1_3 B1_2 B1_1 B1 inx i D gq sb sc SL L9 α else (0, .map #[] 0)
theorem rtl33f21_he (U : Nat → Nat) (n : Nat) (src : Int) (inn : Int) (ub : Nat) (B1_3 : Nat) (B1_2 : Nat) (B1_1 : Nat) (B1 : Nat) (inx : Int) (i : Nat) (D : Dat) (gq : Nat) (sb : Nat) (sc : Nat) (SL : List Nat) : ∀ kk α α', (∀ j, (j % 1000 = kk ∨ j % 1000 ∈ rtl33f21Anc kk) → α j = α' j) → rtl33f21E U n src inn ub B1_3 B1_2 B1_1 B1 inx i D gq sb sc SL kk α = rtl33f21E U n src inn ub B1_3 B1_2 B1_1 B1 inx i D gq sb sc SL kk α' := by
  intro kk α α' h
  match kk with
  | 0 => rfl
  | 1 => rfl
  | 2 => rfl
  | 3 => rfl
  | 4 => rfl
  | 5 => rfl
  | 6 => rfl
  | 7 => simp only [rtl33f21E, h 1007 (Or.inl rfl)]
  | 8 => simp only [rtl33f21E, h 1007 (Or.inr (by decide))]
  | 9 => simp only [rtl33f21E, h 1007 (Or.inr (by decide))]
  | 10 => simp only [rtl33f21E, h 1007 (Or.inr (by decide))]
  | 11 => simp only [rtl33f21E, h 11 (Or.inl rfl)]
  | 12 => rfl
  | 13 => simp only [rtl33f21E, h 1007 (Or.inr (by decide))]
  | n + 14 => rfl
theorem rtl33f21_st (U : Nat → Nat) (n : Nat) (src : Int) (inn : Int) (ub : Nat) (B1_3 : Nat) (B1_2 : Nat) (B1_1 : Nat) (B1 : Nat) (inx : Int) (i : Nat) (D : Dat) (gq : Nat) (sb : Nat) (sc : Nat) (SL : List Nat) : Stable rtl33f21Cnt 6 rtl33f21Anc rtl33f21Trn (rtl33f21R U n src inn ub B1_3 B1_2 B1_1 B1 inx i D gq sb sc SL) := by
  intro k9 L9 α α' ix9 hk hcl hα hact ht
  have hp := act_places hact
  replace hp : ix9 ∈ [999, 1999, 2999, 3999, 4999, 5999, 7, 1007, 11] := hp
  simp only [List.mem_cons, List.not_mem_nil, or_false] at hp
  rcases hp with rfl | rfl | rfl | rfl | rfl | rfl | rfl | rfl | rfl
  · rfl
  · rfl
  · rfl
  · rfl
  · rfl
  · rfl
  · have e0 : L9 7 = true := act_lt hact (by decide)
    show row (α' 7) 58 #[.int .u32 src, .int .u32 inx, .bool false, .bool false, .bool false] = row (α 7) 58 #[.int .u32 src, .int .u32 inx, .bool false, .bool false, .bool false]
    simp only [hα 7 (ne_ran hk e0)]
  · have e0 : L9 7 = true := act_lt hact (by decide)
    show row (α' 1007) 46 #[.iface 56 (.pointer (some ⟨α' 7, 0, none⟩)), .int .i32 (i : Int), .slice none 0 0, .int .i32 0, .int .u8 0, .int .u8 0, .bool false, .bool false] = row (α 1007) 46 #[.iface 56 (.pointer (some ⟨α 7, 0, none⟩)), .int .i32 (i : Int), .slice none 0 0, .int .i32 0, .int .u8 0, .int .u8 0, .bool false, .bool false]
    simp only [hα 7 (ne_ran hk e0), hα 1007 (ne_ran hk e0)]
  · have e0 : L9 11 = true := act_lt hact (by decide)
    show rtl33f21T11 U n src inn ub B1_3 B1_2 B1_1 B1 inx i D gq sb sc SL (Rega.ran L9 k9) α' = rtl33f21T11 U n src inn ub B1_3 B1_2 B1_1 B1 inx i D gq sb sc SL L9 α
    unfold rtl33f21T11
    have n12 : 12 ≠ k9 := fun e => ht (by rw [← e]; decide)
    rw [ran_ne n12]
    by_cases e12 : L9 12 = true
    · first | rw [if_pos e12, if_pos e12] | rw [if_pos e12]
      try simp only [hα 11 (ne_ran hk (hcl 12 e12 11 (by decide))), hα 1007 (ne_ran hk (hcl 12 e12 7 (by decide)))]
    first | rw [if_neg e12, if_neg e12] | rw [if_neg e12]
    try simp only [hα 11 (ne_ran hk e0)]

set_option maxRecDepth 100000 in
set_option maxHeartbeats 4000000 in
theorem tl33 (U : Nat → Nat) (n : Nat) (src inn : Int) (ub : Nat) (spv tz4 tz5 tz6 tz7 tz8 tz9 tz10 tz11 tz12 tz13 tz14 tz15 tz16 tz17 tz18 tz19 tz20 tz21 tz22 tz23 tz24 tz25 tz26 tz27 tz28 tz29 tz30 tz31 tz32 tz33 tz34 tz35 tz36 tz37 tz38 tz39 tz40 tz41 tz42 tz43 tz44 tz45 tz46 tz47 tz48 tz49 tz50 tz51 tz52 tz53 tz54 tz55 tz56 tz57 tz58 tz59 tz60 tz61 tz62 tz63 tz64 tz65 tz66 tz67 tz68 tz69 tz70 tz71 tz72 tz73 tz74 tz75 tz76 tz77 tz78 tz79 tz80 tz81 tz82 tz83 tz84 tz85 tz86 tz87 tz88 tz89 tz90 tz91 tz92 tz93 tz94 tz95 tz96 tz97 tz98 tz99 tz100 tz101 tz102 tz103 tz104 tz105 tz106 tz107 tz108 tz109 tz110 tz111 tz112 tz113 tz114 tz115 tz116 tz117 tz118 tz119 tz120 tz121 tz122 tz123 tz124 tz125 tz126 tz127 tz128 tz129 tz130 tz131 tz132 tz133 tz134 tz135 tz136 tz137 tz138 tz139 tz140 tz141 tz142 tz143 tz144 tz145 tz146 tz147 tz148 tz149 tz150 tz151 tz152 tz153 tz154 tz155 tz156 tz157 tz158 tz159 tz160 tz161 tz162 tz163 tz164 tz165 tz166 tz167 tz168 : Value) (w0 w : World) (X : Nat → Obj → Prop) (hO : Own w0 w [row (ub) 5 (itR U n)] X) (hn0 : 0 < n) (hn4 : n ≤ 4096) (hu9 : ∀ i : Nat, i < n → U i < 256) (hnx : ¬ bits BinOp.xor .u32 inn 1 = inn) (hbs : ∀ (D : Dat) (lb : Nat) (w0 w : World) (Y : Nat → Obj → Prop), Own w0 w [] Y → Y lb (.cells (lvR D n 0) 35 (0, 0)) → (∀ b o, X b o → Y b o) → Calls Try.prog 16 #[.slice (some ⟨lb, 0, none⟩) n n, .int .i64 0, .int .i64 (n : Int), spv] w (bsPost D 0 n w0 Y)) :
    Code.wp Try.prog rest33 (bodyPost Try.prog Try.f4 (l32Post w0 X)) ⟨#[.slice (some ⟨ub, 0, none⟩) n n, spv, .int .u32 src, .int .u32 inn, tz4, tz5, tz6, tz7, tz8, tz9, tz10, tz11, tz12, tz13, tz14, tz15, tz16, tz17, tz18, tz19, tz20, tz21, tz22, tz23, tz24, tz25, tz26, tz27, tz28, tz29, tz30, tz31, tz32, tz33, tz34, tz35, tz36, tz37, tz38, tz39, tz40, tz41, tz42, tz43, tz44, tz45, tz46, tz47, tz48, tz49, tz50, tz51, tz52, tz53, tz54, tz55, tz56, tz57, tz58, tz59, tz60, tz61, tz62, tz63, tz64, tz65, tz66, tz67, tz68, tz69, tz70, tz71, tz72, tz73, tz74, tz75, tz76, tz77, tz78, tz79, tz80, tz81, tz82, tz83, tz84, tz85, tz86, tz87, tz88, tz89, tz90, tz91, tz92, tz93, tz94, tz95, tz96, tz97, tz98, tz99, tz100, tz101, tz102, tz103, tz104, tz105, tz106, tz107, tz108, tz109, tz110, tz111, tz112, tz113, tz114, tz115, tz116, tz117, tz118, tz119, tz120, tz121, tz122, tz123, tz124, tz125, tz126, tz127, tz128, tz129, tz130, tz131, tz132, tz133, tz134, tz135, tz136, tz137, tz138, tz139, tz140, tz141, tz142, tz143, tz144, tz145, tz146, tz147, tz148, tz149, tz150, tz151, tz152, tz153, tz154, tz155, tz156, tz157, tz158, tz159, tz160, tz161, tz162, tz163, tz164, tz165, tz166, tz167, tz168], []⟩ w := by
  simp only [rest33, Try.f4, Option.getD_some, cutC]
  have hn9 : (n : Int) ≤ 4096 := by omega
  have hn8 : (0 : Int) ≤ (n : Int) := by omega
  have hn7 : (0 : Int) < (n : Int) := by omega
  have HBS := Lib.hid hbs
  clear hbs
  have hme := makeExprs n (by omega)
  have hmp := makePtrs n (by omega)
  go_wp2_with (first | (with_reducible refine Own.stay (fn := Try.f4) ?_) | (at_builtin; refine Own.appStop ?_) | fail)
  try with_reducible refine Own.Stay.mk ?_
  generalize hW : World.alloc _ _ = W2
  have hN : Own w0 W2 [row (w.heap.size + 1 + 1 + 1) 36 (full ptrZ [] n), row (w.heap.size + 1 + 1) 35 (full exprZ [] n), row (w.heap.size + 1) 27 #[.int .u32 src, .int .u32 (bits BinOp.xor .u32 inn 1)], row (w.heap.size) 27 #[.int .u32 src, .int .u32 inn], row (ub) 5 (itR U n)] X := by
    rw [← hW]
    exact ((((hO).alloc' _ (w.heap.size) (by simp)).alloc' _ (w.heap.size + 1) (by simp)).alloc' _ (w.heap.size + 1 + 1) (by simp)).alloc' _ (w.heap.size + 1 + 1 + 1) (by simp)
  clear hW hO
  generalize w.heap.size + 1 + 1 + 1 = B1_3 at hN ⊢
  generalize w.heap.size + 1 + 1 = B1_2 at hN ⊢
  generalize w.heap.size + 1 = B1_1 at hN ⊢
  generalize w.heap.size = B1 at hN ⊢
  have hO := hN
  clear hN
  generalize hix : bits BinOp.xor .u32 inn 1 = inx at hO hnx ⊢
  have hN : Own w0 W2 [row (B1_2) 35 (full exprZ [] n), row (B1_3) 36 (full ptrZ [] n), row (ub) 5 (itR U n), row (B1) 27 #[.int .u32 src, .int .u32 inn], row (B1_1) 27 #[.int .u32 src, .int .u32 inx]] X := hO.sub [1, 0, 4, 3, 2] (by decide)
  clear hO
  have hO := hN
  clear hN
  go_loopg [14, 15] n (fun gf s14 s15 wx => ∃ (i : Nat) (D : Dat), i + gf = n ∧ s15 = .int .i64 (i : Int) ∧ D.kd = (fun j => if (U j) % 3 = 0 then 0 else if (U j) % 3 = 1 then 1 else 2) ∧ D.src = src ∧ D.inn = inn ∧ D.inx = inx ∧ AptD D i ∧ ((s14 = .slice none 0 0 ∧ (∀ q, q < i → D.kd q ≠ 1) ∧ Own w0 wx [row (B1_2) 35 (lvR D i gf), row (B1_3) 36 (clR D i gf), row (ub) 5 (itR U n), row (B1) 27 #[.int .u32 src, .int .u32 inn], row (B1_1) 27 #[.int .u32 src, .int .u32 inx]] (LvX X D i)) ∨ (∃ (sb sc s : Nat) (SL : List Nat), s14 = .slice (some ⟨sb, 0, none⟩) s (s + sc) ∧ SL = SLs D i ∧ SL.length = s ∧ 0 < s ∧ Own w0 wx [row (sb) 3 (full i64Z (ixV SL) sc), row (B1_2) 35 (lvR D i gf), row (B1_3) 36 (clR D i gf), row (ub) 5 (itR U n), row (B1) 27 #[.int .u32 src, .int .u32 inn], row (B1_1) 27 #[.int .u32 src, .int .u32 inx]] (LvX X D i))))
  case atStart => exact ⟨0, ⟨fun j => if (U j) % 3 = 0 then 0 else if (U j) % 3 = 1 then 1 else 2, fun _ => 0, fun _ => 0, src, inn, inx⟩, by omega, rfl, rfl, rfl, rfl, rfl, (fun i j h1 h2 => absurd h2 (Nat.not_lt_zero j)), Or.inl ⟨rfl, fun q hq => absurd hq (Nat.not_lt_zero q), (hO.reframe (Y := LvX X _ 0) (fun b o h => h.zero)).conv rfl⟩⟩
  obtain ⟨i, D, hin, rfl, hDk, hDs, hDi, hDx, hap, hph⟩ := hrel
  by_cases hlt : i < n
  · skip
    obtain ⟨gq, rfl⟩ : ∃ gq, gk = gq + 1 := ⟨gk - 1, by omega⟩
    have hlt9 : (i : Int) < (n : Int) := by omega
    have hi8 : (0 : Int) ≤ (i : Int) := by omega
    have hku := hu9 i hlt
    have hl2 := tab_length (lfF_len D) i
    rcases hph with ⟨rfl, hno, hO⟩ | ⟨sb, sc, s, SL, rfl, hSL, hsl, hs0, hO⟩
    · skip
      by_cases h0 : U i % 3 = 0
      · skip
        have hrm : (U i : Int).tmod 3 = 0 := by have h9 : (U i : Int).tmod 3 = ((U i % 3 : Nat) : Int) := rfl; rw [h9]; omega
        have hkd : D.kd i = 0 := by rw [hDk]; simp only []; rw [if_pos h0]
        have HD := Lib.hid (And.intro hDk (And.intro hDs (And.intro hDi hDx)))
        have HAP := Lib.hid hap
        clear hDk hDs hDi hDx hap
        obtain ⟨X9_3, hX9_3⟩ : ∃ Y, Y = LvX X D i := ⟨_, rfl⟩
        rw [← hX9_3] at hO
        have HX9_3 := Lib.hid hX9_3
        clear hX9_3
        obtain ⟨c9_3_0, c9_3_1, lt9_3, y9_3, -⟩ := hO.k2 3 rfl
        obtain ⟨c9_4_0, c9_4_1, lt9_4, y9_4, -⟩ := hO.k2 4 rfl
        have HO := Lib.hid hO
        clear hO
        go_wp2_with (first | (with_reducible refine Own.stay (fn := Try.f4) ?_) | (at_builtin; refine Own.appStop ?_) | fail)
        try with_reducible refine Own.Stay.mk ?_
        have hO := HO.out
        clear HO c9_3_0 c9_3_1 lt9_3 y9_3 c9_4_0 c9_4_1 lt9_4 y9_4
        have st9 := rtl33f00_st U n src inn ub B1_3 B1_2 B1_1 B1 inx i D gq
        let R9 := rtl33f00R U n src inn ub B1_3 B1_2 B1_1 B1 inx i D gq
        refine wp_region_own (e := rtl33f00E U n src inn ub B1_3 B1_2 B1_1 B1 inx i D gq) (anc := rtl33f00Anc) (G := (fun L9 α u9 => OwnF w0 u9 (act rtl33f00Cnt 5 L9) (rtl33f00R U n src inn ub B1_3 B1_2 B1_1 B1 inx i D gq L9 α) X9_3)) (by kernel_rfl) (by kernel_rfl) (by kernel_rfl) (by kernel_rfl) (rtl33f00_he U n src inn ub B1_3 B1_2 B1_1 B1 inx i D gq) ?_ (RunsAll.all ?_) ?_
        · have hp : ∀ i, act rtl33f00Cnt 5 (fun _ => false) i → i ∈ [999, 1999, 2999, 3999, 4999] := by
            intro i hi
            have h9 : i % 1000 = 999 := by
              by_cases h : i % 1000 = 999
              · exact h
              · exact absurd (act_lt hi h) (by simp)
            unfold act at hi
            rw [if_pos h9] at hi
            simp only [List.mem_cons, List.not_mem_nil, or_false]
            omega
          refine hO.drew.family (fun i hi => ?_) (fun i j hi hj hij => ?_)
          · have := hp i hi
            simp only [List.mem_cons, List.not_mem_nil, or_false] at this
            rcases this with rfl | rfl | rfl | rfl | rfl <;> rfl
          · have h1 := hp i hi
            have h2 := hp j hj
            simp only [List.mem_cons, List.not_mem_nil, or_false] at h1 h2
            omega
        · refine ⟨?_, ?_, ?_, ?_, ?_, ?_, ?_, ?_, ?_, ?_, ?_, ?_, ?_, ?_, trivial⟩
          · intro L9 α a9 u9 K9 hL hcl hA hG hS h0 hK
            replace hL : L9 0 = false := hL
            have q15 : a9.tmps[15]? = some (.int .i64 (i : Int)) := (h0 15 (by kernel_rfl)).trans rfl
            have s15 := Rega.eval_of q15
            go_simp
            exact hK _ α _ (fun _ _ => rfl) rfl (step_same (st9) hL hcl rfl rfl hG)
          · intro L9 α a9 u9 K9 hL hcl hA hG hS h0 hK
            replace hL : L9 1 = false := hL
            have q0 : a9.tmps[0]? = some (.slice (some ⟨ub, 0, none⟩) n n) := (h0 0 (by kernel_rfl)).trans rfl
            have s0 := Rega.eval_of q0
            go_simp
            exact hK _ α _ (fun _ _ => rfl) rfl (step_same (st9) hL hcl rfl rfl hG)
          · intro L9 α a9 u9 K9 hL hcl hA hG hS h0 hK
            replace hL : L9 2 = false := hL
            have q15 : a9.tmps[15]? = some (.int .i64 (i : Int)) := (h0 15 (by kernel_rfl)).trans rfl
            have s15 := Rega.eval_of q15
            go_simp
            exact hK _ α _ (fun _ _ => rfl) rfl (step_same (st9) hL hcl rfl rfl hG)
          · intro L9 α a9 u9 K9 hL hcl hA hG hS h0 hK
            replace hL : L9 3 = false := hL
            have q63 : a9.tmps[63]? = some (.slice (some ⟨ub, 0, none⟩) n n) := hS 1 63 (by decide) rfl (by show 63 < 169; decide)
            have s63 := Rega.eval_of q63
            have q64 : a9.tmps[64]? = some (.int .i64 (i : Int)) := hS 2 64 (by decide) rfl (by show 64 < 169; decide)
            have s64 := Rega.eval_of q64
            go_simp
            exact hK _ α _ (fun _ _ => rfl) rfl (step_same (st9) hL hcl rfl rfl hG)
          · intro L9 α a9 u9 K9 hL hcl hA hG hS h0 hK
            replace hL : L9 4 = false := hL
            have q65 : a9.tmps[65]? = some (.pointer (some ⟨ub, i, none⟩)) := hS 3 65 (by decide) rfl (by show 65 < 169; decide)
            have s65 := Rega.eval_of q65
            have e0 : R9 L9 α 2999 = row (ub) 5 (itR U n) := rfl
            have hr := hG.rowAt 2999 (act_base 2999 rfl) e0
            have c0 : u9.cell? ⟨ub, i, none⟩ = some (.int .u8 (U i : Int)) := hr.cell ((itR_get hlt))
            clear hr e0
            go_simp
            exact hK _ α _ (fun _ _ => rfl) rfl (step_same (st9) hL hcl rfl rfl hG)
          · intro L9 α a9 u9 K9 hL hcl hA hG hS h0 hK
            replace hL : L9 5 = false := hL
            have q10 : a9.tmps[10]? = some (.pointer (some ⟨B1, 0, none⟩)) := (h0 10 (by kernel_rfl)).trans rfl
            have s10 := Rega.eval_of q10
            have e0 : R9 L9 α 3999 = row (B1) 27 #[.int .u32 src, .int .u32 inn] := rfl
            have hr := hG.rowAt 3999 (act_base 3999 rfl) e0
            have c0 : u9.cell? ⟨B1, 0, none⟩ = some (.int .u32 src) := hr.cell rfl
            have c1 : u9.cell? ⟨B1, 1, none⟩ = some (.int .u32 inn) := hr.cell rfl
            clear hr e0
            go_simp
            exact hK _ α _ (fun _ _ => rfl) rfl (step_same (st9) hL hcl rfl rfl hG)
          · intro L9 α a9 u9 K9 hL hcl hA hG hS h0 hK
            replace hL : L9 6 = false := hL
            have q11 : a9.tmps[11]? = some (.pointer (some ⟨B1_1, 0, none⟩)) := (h0 11 (by kernel_rfl)).trans rfl
            have s11 := Rega.eval_of q11
            have e0 : R9 L9 α 4999 = row (B1_1) 27 #[.int .u32 src, .int .u32 inx] := rfl
            have hr := hG.rowAt 4999 (act_base 4999 rfl) e0
            have c0 : u9.cell? ⟨B1_1, 0, none⟩ = some (.int .u32 src) := hr.cell rfl
            have c1 : u9.cell? ⟨B1_1, 1, none⟩ = some (.int .u32 inx) := hr.cell rfl
            clear hr e0
            go_simp
            exact hK _ α _ (fun _ _ => rfl) rfl (step_same (st9) hL hcl rfl rfl hG)
          · intro L9 α a9 u9 K9 hL hcl hA hG hS h0 hK
            replace hL : L9 7 = false := hL
            have q62 : a9.tmps[62]? = some (.int .i64 (i : Int)) := hS 0 62 (by decide) rfl (by show 62 < 169; decide)
            have s62 := Rega.eval_of q62
            have q66 : a9.tmps[66]? = some (.int .u8 (U i : Int)) := hS 4 66 (by decide) rfl (by show 66 < 169; decide)
            have s66 := Rega.eval_of q66
            have q67 : a9.tmps[67]? = some (.agg #[.int .u32 src, .int .u32 inn]) := hS 5 67 (by decide) rfl (by show 67 < 169; decide)
            have s67 := Rega.eval_of q67
            have q68 : a9.tmps[68]? = some (.agg #[.int .u32 src, .int .u32 inx]) := hS 6 68 (by decide) rfl (by show 68 < 169; decide)
            have s68 := Rega.eval_of q68
            go_simp
            have hM : ∀ i, i ∈ [] → act rtl33f00Cnt 5 L9 i := by intro i hi; simp at hi
            have hP : Own w0 u9 [] _ := hG.pick [] (by decide) (by simp)
            clear hM
            refine Calls.mono (leaf0 i (U i : Int) src inn inx _ _ _ hP (by omega) hrm) ?_
            rintro e9 u1 ⟨b0, rfl, hQ⟩
            obtain ⟨α', hα'⟩ : ∃ α' : Rega.Atoms, α' = (fun j => if j = 7 then b0 else α j) := ⟨_, rfl⟩
            have hα : ∀ j, j % 1000 ≠ 7 → α' j = α j := fun j hj => by rw [hα']; simp only []; rw [if_neg (by omega)]
            have hb0 : α' 7 = b0 := by rw [hα']; rfl
            skip
            refine hK _ α' _ hα ?_ (step_call (st9) hL hcl hα [] [] (by decide) (by decide) (by decide) (M := _) ?_ hG hQ)
            · show _ = (.tuple #[.agg #[.iface 59 (.pointer (some ⟨α' 7, 0, none⟩)), .int .i32 (i : Int)], .pointer none] : Value)
              simp only [hb0]
            · rfl
          · intro L9 α a9 u9 K9 hL hcl hA hG hS h0 hK
            replace hL : L9 8 = false := hL
            have q69 : a9.tmps[69]? = some (.tuple #[.agg #[.iface 59 (.pointer (some ⟨α 7, 0, none⟩)), .int .i32 (i : Int)], .pointer none]) := hS 7 69 (by decide) rfl (by show 69 < 169; decide)
            have s69 := Rega.eval_of q69
            go_simp
            exact hK _ α _ (fun _ _ => rfl) rfl (step_same (st9) hL hcl rfl rfl hG)
          · intro L9 α a9 u9 K9 hL hcl hA hG hS h0 hK
            replace hL : L9 9 = false := hL
            have q61 : a9.tmps[61]? = some (.tuple #[.agg #[.iface 59 (.pointer (some ⟨α 7, 0, none⟩)), .int .i32 (i : Int)], .pointer none]) := hS 8 61 (by decide) rfl (by show 61 < 169; decide)
            have s61 := Rega.eval_of q61
            go_simp
            exact hK _ α _ (fun _ _ => rfl) rfl (step_same (st9) hL hcl rfl rfl hG)
          · intro L9 α a9 u9 K9 hL hcl hA hG hS h0 hK
            replace hL : L9 10 = false := hL
            have q61 : a9.tmps[61]? = some (.tuple #[.agg #[.iface 59 (.pointer (some ⟨α 7, 0, none⟩)), .int .i32 (i : Int)], .pointer none]) := hS 8 61 (by decide) rfl (by show 61 < 169; decide)
            have s61 := Rega.eval_of q61
            go_simp
            exact hK _ α _ (fun _ _ => rfl) rfl (step_same (st9) hL hcl rfl rfl hG)
          · intro L9 α a9 u9 K9 hL hcl hA hG hS h0 hK
            replace hL : L9 11 = false := hL
            go_simp
            have e1 : R9 (Rega.ran L9 11) (fun j => if j = 11 then u9.heap.size else α j) 11 = row (u9.heap.size) 35 #[.nilIface, .int .i32 0] := by
              show rtl33f00T11 U n src inn ub B1_3 B1_2 B1_1 B1 inx i D gq (Rega.ran L9 11) (fun j => if j = 11 then u9.heap.size else α j) = _
              unfold rtl33f00T11
              exact ((if_neg (fun e => (fun e => by have := hcl 12 e 11 (by decide); rw [hL] at this; cases this) ((ran_ne (by decide)).symm.trans e))).trans rfl)
            exact hK _ (fun j => if j = 11 then u9.heap.size else α j) _ (fun j hj => if_neg (fun e => hj (by rw [e]))) rfl (step_alloc (st9) hL hcl rfl rfl (by decide) _ e1 hG)
          · intro L9 α a9 u9 K9 hL hcl hA hG hS h0 hK
            replace hL : L9 12 = false := hL
            have q16 : a9.tmps[16]? = some (.pointer (some ⟨α 11, 0, none⟩)) := hS 11 16 (by decide) rfl (by show 16 < 169; decide)
            have s16 := Rega.eval_of q16
            have q70 : a9.tmps[70]? = some (.agg #[.iface 59 (.pointer (some ⟨α 7, 0, none⟩)), .int .i32 (i : Int)]) := hS 9 70 (by decide) rfl (by show 70 < 169; decide)
            have s70 := Rega.eval_of q70
            have e0 : R9 L9 α 11 = row (α 11) 35 #[.nilIface, .int .i32 0] := by
              show rtl33f00T11 U n src inn ub B1_3 B1_2 B1_1 B1 inx i D gq L9 α = _
              unfold rtl33f00T11
              rw [if_neg (by rw [hL]; decide)]
            have hr := hG.rowAt 11 (act_new 11 rfl (hA 11 (by decide))) e0
            have c0 : u9.cell? ⟨α 11, 0, none⟩ = some (.nilIface) := hr.cell rfl
            have y0 : u9.frozen? ⟨α 11, 0, none⟩ = false := hr.free (0)
            have c1 : u9.cell? ⟨α 11, 1, none⟩ = some (.int .i32 0) := hr.cell rfl
            have y1 : u9.frozen? ⟨α 11, 1, none⟩ = false := hr.free (1)
            clear hr
            have E0 := Lib.hid e0
            clear e0
            go_simp
            have e1 : R9 (Rega.ran L9 12) α 11 = row (α 11) 35 #[.iface 59 (.pointer (some ⟨α 7, 0, none⟩)), .int .i32 (i : Int)] := by
              show rtl33f00T11 U n src inn ub B1_3 B1_2 B1_1 B1 inx i D gq (Rega.ran L9 12) α = _
              unfold rtl33f00T11
              rw [if_pos (show Rega.ran L9 12 12 = true from rfl)]
            exact hK _ α _ (fun _ _ => rfl) rfl (step_sets (st9) hL hcl rfl 11 rfl (act_new 11 rfl (hA 11 (by decide))) E0.out (0) [.iface 59 (.pointer (some ⟨α 7, 0, none⟩)), .int .i32 (i : Int)] (e1.trans rfl) hG)
          · intro L9 α a9 u9 K9 hL hcl hA hG hS h0 hK
            replace hL : L9 13 = false := hL
            have q71 : a9.tmps[71]? = some (.pointer none) := hS 10 71 (by decide) rfl (by show 71 < 169; decide)
            have s71 := Rega.eval_of q71
            go_simp
            exact hK _ α _ (fun _ _ => rfl) rfl (step_same (st9) hL hcl rfl rfl hG)
        clear st9
        intro α u hG
        have e0 : R9 (fun k => decide (k < 14)) α 999 = row (B1_2) 35 (lvR D i (gq + 1)) := rfl
        have e1 : R9 (fun k => decide (k < 14)) α 1999 = row (B1_3) 36 (clR D i (gq + 1)) := rfl
        have e2 : R9 (fun k => decide (k < 14)) α 2999 = row (ub) 5 (itR U n) := rfl
        have e3 : R9 (fun k => decide (k < 14)) α 3999 = row (B1) 27 #[.int .u32 src, .int .u32 inn] := rfl
        have e4 : R9 (fun k => decide (k < 14)) α 4999 = row (B1_1) 27 #[.int .u32 src, .int .u32 inx] := rfl
        have e5 : R9 (fun k => decide (k < 14)) α 11 = row (α 11) 35 #[.iface 59 (.pointer (some ⟨α 7, 0, none⟩)), .int .i32 (i : Int)] := by
          show rtl33f00T11 U n src inn ub B1_3 B1_2 B1_1 B1 inx i D gq (fun k => decide (k < 14)) α = _
          unfold rtl33f00T11
          rw [if_pos (by decide)]
        have hO : Own w0 u [row (B1_2) 35 (lvR D i (gq + 1)), row (B1_3) 36 (clR D i (gq + 1)), row (ub) 5 (itR U n), row (B1) 27 #[.int .u32 src, .int .u32 inn], row (B1_1) 27 #[.int .u32 src, .int .u32 inx], row (α 11) 35 #[.iface 59 (.pointer (some ⟨α 7, 0, none⟩)), .int .i32 (i : Int)]] X9_3 := (hG.list [999, 1999, 2999, 3999, 4999, 11] (by decide) (act_all (by decide))).conv (by
          show [R9 (fun k => decide (k < 14)) α 999, R9 (fun k => decide (k < 14)) α 1999, R9 (fun k => decide (k < 14)) α 2999, R9 (fun k => decide (k < 14)) α 3999, R9 (fun k => decide (k < 14)) α 4999, R9 (fun k => decide (k < 14)) α 11] = _
          rw [e0, e1, e2, e3, e4, e5])
        clear hG e0 e1 e2 e3 e4 e5 R9
        generalize hfr : Rega.frameAt _ _ _ _ _ = fr
        have hdf : fr = ⟨#[.slice (some ⟨ub, 0, none⟩) n n, spv, .int .u32 src, .int .u32 inn, tz4, tz5, tz6, tz7, tz8, .int .i64 (n : Int), .pointer (some ⟨B1, 0, none⟩), .pointer (some ⟨B1_1, 0, none⟩), .slice (some ⟨B1_2, 0, none⟩) n n, .slice (some ⟨B1_3, 0, none⟩) n n, .slice none 0 0, .int .i64 (i : Int), .pointer (some ⟨α 11, 0, none⟩), .pointer none, tz18, tz19, tz20, tz21, tz22, tz23, tz24, tz25, tz26, tz27, tz28, tz29, tz30, tz31, tz32, tz33, tz34, tz35, tz36, tz37, tz38, tz39, tz40, tz41, tz42, .slice (some ⟨ub, 0, none⟩) n n, .int .i64 (n : Int), .int .u32 src, .int .u32 inn, .agg #[.int .u32 src, .int .u32 inn], .int .u32 src, .int .u32 inn, .int .u32 inx, .agg #[.int .u32 src, .int .u32 inx], .int .i64 (n : Int), .slice (some ⟨B1_2, 0, none⟩) n n, .int .i64 (n : Int), .slice (some ⟨B1_3, 0, none⟩) n n, .int .i64 (i : Int), .int .i64 (n : Int), .bool true, u59, u60, .tuple #[.agg #[.iface 59 (.pointer (some ⟨α 7, 0, none⟩)), .int .i32 (i : Int)], .pointer none], .int .i64 (i : Int), .slice (some ⟨ub, 0, none⟩) n n, .int .i64 (i : Int), .pointer (some ⟨ub, i, none⟩), .int .u8 (U i : Int), .agg #[.int .u32 src, .int .u32 inn], .agg #[.int .u32 src, .int .u32 inx], .tuple #[.agg #[.iface 59 (.pointer (some ⟨α 7, 0, none⟩)), .int .i32 (i : Int)], .pointer none], .agg #[.iface 59 (.pointer (some ⟨α 7, 0, none⟩)), .int .i32 (i : Int)], .pointer none, u72, u73, u74, u75, u76, u77, u78, u79, u80, u81, u82, u83, u84, u85, u86, u87, u88, u89, tz90, tz91, tz92, tz93, tz94, tz95, tz96, tz97, tz98, tz99, tz100, tz101, tz102, tz103, tz104, tz105, tz106, tz107, tz108, tz109, tz110, tz111, tz112, tz113, tz114, tz115, tz116, tz117, tz118, tz119, tz120, tz121, tz122, tz123, tz124, tz125, tz126, tz127, tz128, tz129, tz130, tz131, tz132, tz133, tz134, tz135, tz136, tz137, tz138, tz139, tz140, tz141, tz142, tz143, tz144, tz145, tz146, tz147, tz148, tz149, tz150, tz151, tz152, tz153, tz154, tz155, tz156, tz157, tz158, tz159, tz160, tz161, tz162, tz163, tz164, tz165, tz166, tz167, tz168], []⟩ := by rw [← hfr]; kernel_rfl
        clear hfr
        subst hdf
        generalize α 7 = nd4 at hO ⊢
        generalize α 11 = nd5 at hO ⊢
        clear α
        obtain ⟨ix9, hix9, hax9, hjx9⟩ := hO.ix
        have ix9_0 : ix9 B1_2 = 0 := hjx9 0 _ _ rfl
        have ix9_1 : ix9 B1_3 = 1 := hjx9 1 _ _ rfl
        have ix9_2 : ix9 ub = 2 := hjx9 2 _ _ rfl
        have ix9_3 : ix9 B1 = 3 := hjx9 3 _ _ rfl
        have ix9_4 : ix9 B1_1 = 4 := hjx9 4 _ _ rfl
        have ix9_5 : ix9 nd5 = 5 := hjx9 5 _ _ rfl
        clear hjx9
        have pl9_0 : Base.plainAt u (B1_2) = true := hO.plain 0 rfl
        have c9_0_i_2 : u.cell? ⟨B1_2, i * 2, none⟩ = some (.nilIface) := hO.cell 0 rfl (i * 2) ((lvR_at0 D i gq))
        have c9_0_i_2_1 : u.cell? ⟨B1_2, i * 2 + 1, none⟩ = some (.int .i32 0) := hO.cell 0 rfl (i * 2 + 1) ((lvR_at1 D i gq))
        have lt9_0 : B1_2 < u.heap.size := hO.lt 0 rfl
        have y9_0 : ∀ o, u.frozen? ⟨B1_2, o, none⟩ = false := hO.free 0 rfl
        have c9_1_i : u.cell? ⟨B1_3, i, none⟩ = some (.pointer none) := hO.cell 1 rfl (i) ((clR_at D i gq))
        have lt9_1 : B1_3 < u.heap.size := hO.lt 1 rfl
        have y9_1 : ∀ o, u.frozen? ⟨B1_3, o, none⟩ = false := hO.free 1 rfl
        have c9_2_i : u.cell? ⟨ub, i, none⟩ = some (.int .u8 (U i : Int)) := hO.cell 2 rfl (i) ((itR_get hlt))
        have lt9_2 : ub < u.heap.size := hO.lt 2 rfl
        have y9_2 : ∀ o, u.frozen? ⟨ub, o, none⟩ = false := hO.free 2 rfl
        obtain ⟨c9_3_0, c9_3_1, lt9_3, y9_3, pl9_3⟩ := hO.k2 3 rfl
        obtain ⟨c9_4_0, c9_4_1, lt9_4, y9_4, pl9_4⟩ := hO.k2 4 rfl
        obtain ⟨c9_5_0, c9_5_1, lt9_5, y9_5, pl9_5⟩ := hO.k2 5 rfl
        have HO := Lib.hid hO
        clear hO
        go_wp2_with (first | (with_reducible refine Own.stay (fn := Try.f4) ?_) | (at_builtin; refine Own.appStop ?_) | fail)
        try with_reducible refine Own.Stay.mk ?_
        have hO := HO.out
        clear HO hix9 hax9 ix9_0 ix9_1 ix9_2 ix9_3 ix9_4 ix9_5 ix9 pl9_0 c9_0_i_2 c9_0_i_2_1 lt9_0 y9_0 c9_1_i lt9_1 y9_1 c9_2_i lt9_2 y9_2 c9_3_0 c9_3_1 lt9_3 y9_3 pl9_3 c9_4_0 c9_4_1 lt9_4 y9_4 pl9_4 c9_5_0 c9_5_1 lt9_5 y9_5 pl9_5
        generalize hW : World.setCell _ _ _ = W7
        have hN : Own w0 W7 [row (B1_2) 35 (((lvR D i (gq + 1)).setIfInBounds (i * 2) (.iface 59 (.pointer (some ⟨nd4, 0, none⟩)))).setIfInBounds (i * 2 + 1) (.int .i32 (i : Int))), row (B1_3) 36 ((clR D i (gq + 1)).setIfInBounds i (.pointer none)), row (ub) 5 (itR U n), row (B1) 27 #[.int .u32 src, .int .u32 inn], row (B1_1) 27 #[.int .u32 src, .int .u32 inx], row (nd5) 35 #[.iface 59 (.pointer (some ⟨nd4, 0, none⟩)), .int .i32 (i : Int)]] X9_3 := by
          rw [← hW]
          exact (((hO).set 0 rfl (i * 2) _).set 0 rfl (i * 2 + 1) _).set 1 rfl i _
        clear hW hO
        have hO := hN
        clear hN
        rw [HX9_3.out] at hO
        obtain ⟨hDk, hDs, hDi, hDx⟩ := HD.out
        have hN : Own w0 W7 [row (B1_2) 35 (((lvR D i (gq + 1)).setIfInBounds (i * 2) (.iface 59 (.pointer (some ⟨nd4, 0, none⟩)))).setIfInBounds (i * 2 + 1) (.int .i32 (i : Int))), row (B1_3) 36 ((clR D i (gq + 1)).setIfInBounds i (.pointer none)), row (ub) 5 (itR U n), row (B1) 27 #[.int .u32 src, .int .u32 inn], row (B1_1) 27 #[.int .u32 src, .int .u32 inx]] (LvX X D i) := hO.sub [0, 1, 2, 3, 4] (by decide)
        clear hO
        have hO := hN
        clear hN
        have hN := hO.reframe (LvX.skip nd4 0 hkd)
        have hA := HAP.out.skip nd4 0 hkd
        go_roundg gq
        case measure => omega
        case rel => exact ⟨i + 1, updD D i nd4 0, by omega, by first | rfl | simp, hDk, hDs, hDi, hDx, hA, Or.inl ⟨rfl, (fun q hq => (Nat.lt_succ_iff_lt_or_eq.1 hq).elim (fun h => hno q h) (fun h => by rw [h]; show D.kd i ≠ 1; rw [hkd]; decide)), hN.conv (by rw [lvR_next D i gq nd4 0 _ (by show _ = lfD _ _; unfold lfD; rw [if_pos (show (updD D i nd4 0).kd i = 0 from hkd), updD_ad]), clR_next D i gq nd4 0 _ (by unfold clD; rw [if_pos (show (updD D i nd4 0).kd i = 0 from hkd)])])⟩⟩
      by_cases h1 : U i % 3 = 1
      · skip
        have hrm : (U i : Int).tmod 3 = 1 := by have h9 : (U i : Int).tmod 3 = ((U i % 3 : Nat) : Int) := rfl; rw [h9]; omega
        have hkd : D.kd i = 1 := by rw [hDk]; simp only []; rw [if_neg h0, if_pos h1]
        have HD := Lib.hid (And.intro hDk (And.intro hDs (And.intro hDi hDx)))
        have HAP := Lib.hid hap
        clear hDk hDs hDi hDx hap
        obtain ⟨X9_8, hX9_8⟩ : ∃ Y, Y = LvX X D i := ⟨_, rfl⟩
        rw [← hX9_8] at hO
        have HX9_8 := Lib.hid hX9_8
        clear hX9_8
        obtain ⟨c9_3_0, c9_3_1, lt9_3, y9_3, -⟩ := hO.k2 3 rfl
        obtain ⟨c9_4_0, c9_4_1, lt9_4, y9_4, -⟩ := hO.k2 4 rfl
        have HO := Lib.hid hO
        clear hO
        go_wp2_with (first | (with_reducible refine Own.stay (fn := Try.f4) ?_) | (at_builtin; refine Own.appStop ?_) | fail)
        try with_reducible refine Own.Stay.mk ?_
        have hO := HO.out
        clear HO c9_3_0 c9_3_1 lt9_3 y9_3 c9_4_0 c9_4_1 lt9_4 y9_4
        have st9 := rtl33f10_st U n src inn ub B1_3 B1_2 B1_1 B1 inx i D gq
        let R9 := rtl33f10R U n src inn ub B1_3 B1_2 B1_1 B1 inx i D gq
        refine wp_region_own (e := rtl33f10E U n src inn ub B1_3 B1_2 B1_1 B1 inx i D gq) (anc := rtl33f10Anc) (G := (fun L9 α u9 => OwnF w0 u9 (act rtl33f10Cnt 5 L9) (rtl33f10R U n src inn ub B1_3 B1_2 B1_1 B1 inx i D gq L9 α) X9_8)) (by kernel_rfl) (by kernel_rfl) (by kernel_rfl) (by kernel_rfl) (rtl33f10_he U n src inn ub B1_3 B1_2 B1_1 B1 inx i D gq) ?_ (RunsAll.all ?_) ?_
        · have hp : ∀ i, act rtl33f10Cnt 5 (fun _ => false) i → i ∈ [999, 1999, 2999, 3999, 4999] := by
            intro i hi
            have h9 : i % 1000 = 999 := by
              by_cases h : i % 1000 = 999
              · exact h
              · exact absurd (act_lt hi h) (by simp)
            unfold act at hi
            rw [if_pos h9] at hi
            simp only [List.mem_cons, List.not_mem_nil, or_false]
            omega
          refine hO.drew.family (fun i hi => ?_) (fun i j hi hj hij => ?_)
          · have := hp i hi
            simp only [List.mem_cons, List.not_mem_nil, or_false] at this
            rcases this with rfl | rfl | rfl | rfl | rfl <;> rfl
          · have h1 := hp i hi
            have h2 := hp j hj
            simp only [List.mem_cons, List.not_mem_nil, or_false] at h1 h2
            omega
        · refine ⟨?_, ?_, ?_, ?_, ?_, ?_, ?_, ?_, ?_, ?_, ?_, ?_, ?_, ?_, trivial⟩
          · intro L9 α a9 u9 K9 hL hcl hA hG hS h0 hK
            replace hL : L9 0 = false := hL
            have q15 : a9.tmps[15]? = some (.int .i64 (i : Int)) := (h0 15 (by kernel_rfl)).trans rfl
            have s15 := Rega.eval_of q15
            go_simp
            exact hK _ α _ (fun _ _ => rfl) rfl (step_same (st9) hL hcl rfl rfl hG)
          · intro L9 α a9 u9 K9 hL hcl hA hG hS h0 hK
            replace hL : L9 1 = false := hL
            have q0 : a9.tmps[0]? = some (.slice (some ⟨ub, 0, none⟩) n n) := (h0 0 (by kernel_rfl)).trans rfl
            have s0 := Rega.eval_of q0
            go_simp
            exact hK _ α _ (fun _ _ => rfl) rfl (step_same (st9) hL hcl rfl rfl hG)
          · intro L9 α a9 u9 K9 hL hcl hA hG hS h0 hK
            replace hL : L9 2 = false := hL
            have q15 : a9.tmps[15]? = some (.int .i64 (i : Int)) := (h0 15 (by kernel_rfl)).trans rfl
            have s15 := Rega.eval_of q15
            go_simp
            exact hK _ α _ (fun _ _ => rfl) rfl (step_same (st9) hL hcl rfl rfl hG)
          · intro L9 α a9 u9 K9 hL hcl hA hG hS h0 hK
            replace hL : L9 3 = false := hL
            have q63 : a9.tmps[63]? = some (.slice (some ⟨ub, 0, none⟩) n n) := hS 1 63 (by decide) rfl (by show 63 < 169; decide)
            have s63 := Rega.eval_of q63
            have q64 : a9.tmps[64]? = some (.int .i64 (i : Int)) := hS 2 64 (by decide) rfl (by show 64 < 169; decide)
            have s64 := Rega.eval_of q64
            go_simp
            exact hK _ α _ (fun _ _ => rfl) rfl (step_same (st9) hL hcl rfl rfl hG)
          · intro L9 α a9 u9 K9 hL hcl hA hG hS h0 hK
            replace hL : L9 4 = false := hL
            have q65 : a9.tmps[65]? = some (.pointer (some ⟨ub, i, none⟩)) := hS 3 65 (by decide) rfl (by show 65 < 169; decide)
            have s65 := Rega.eval_of q65
            have e0 : R9 L9 α 2999 = row (ub) 5 (itR U n) := rfl
            have hr := hG.rowAt 2999 (act_base 2999 rfl) e0
            have c0 : u9.cell? ⟨ub, i, none⟩ = some (.int .u8 (U i : Int)) := hr.cell ((itR_get hlt))
            clear hr e0
            go_simp
            exact hK _ α _ (fun _ _ => rfl) rfl (step_same (st9) hL hcl rfl rfl hG)
          · intro L9 α a9 u9 K9 hL hcl hA hG hS h0 hK
            replace hL : L9 5 = false := hL
            have q10 : a9.tmps[10]? = some (.pointer (some ⟨B1, 0, none⟩)) := (h0 10 (by kernel_rfl)).trans rfl
            have s10 := Rega.eval_of q10
            have e0 : R9 L9 α 3999 = row (B1) 27 #[.int .u32 src, .int .u32 inn] := rfl
            have hr := hG.rowAt 3999 (act_base 3999 rfl) e0
            have c0 : u9.cell? ⟨B1, 0, none⟩ = some (.int .u32 src) := hr.cell rfl
            have c1 : u9.cell? ⟨B1, 1, none⟩ = some (.int .u32 inn) := hr.cell rfl
            clear hr e0
            go_simp
            exact hK _ α _ (fun _ _ => rfl) rfl (step_same (st9) hL hcl rfl rfl hG)
          · intro L9 α a9 u9 K9 hL hcl hA hG hS h0 hK
            replace hL : L9 6 = false := hL
            have q11 : a9.tmps[11]? = some (.pointer (some ⟨B1_1, 0, none⟩)) := (h0 11 (by kernel_rfl)).trans rfl
            have s11 := Rega.eval_of q11
            have e0 : R9 L9 α 4999 = row (B1_1) 27 #[.int .u32 src, .int .u32 inx] := rfl
            have hr := hG.rowAt 4999 (act_base 4999 rfl) e0
            have c0 : u9.cell? ⟨B1_1, 0, none⟩ = some (.int .u32 src) := hr.cell rfl
            have c1 : u9.cell? ⟨B1_1, 1, none⟩ = some (.int .u32 inx) := hr.cell rfl
            clear hr e0
            go_simp
            exact hK _ α _ (fun _ _ => rfl) rfl (step_same (st9) hL hcl rfl rfl hG)
          · intro L9 α a9 u9 K9 hL hcl hA hG hS h0 hK
            replace hL : L9 7 = false := hL
            have q62 : a9.tmps[62]? = some (.int .i64 (i : Int)) := hS 0 62 (by decide) rfl (by show 62 < 169; decide)
            have s62 := Rega.eval_of q62
            have q66 : a9.tmps[66]? = some (.int .u8 (U i : Int)) := hS 4 66 (by decide) rfl (by show 66 < 169; decide)
            have s66 := Rega.eval_of q66
            have q67 : a9.tmps[67]? = some (.agg #[.int .u32 src, .int .u32 inn]) := hS 5 67 (by decide) rfl (by show 67 < 169; decide)
            have s67 := Rega.eval_of q67
            have q68 : a9.tmps[68]? = some (.agg #[.int .u32 src, .int .u32 inx]) := hS 6 68 (by decide) rfl (by show 68 < 169; decide)
            have s68 := Rega.eval_of q68
            go_simp
            have hM : ∀ i, i ∈ [] → act rtl33f10Cnt 5 L9 i := by intro i hi; simp at hi
            have hP : Own w0 u9 [] _ := hG.pick [] (by decide) (by simp)
            clear hM
            refine Calls.mono (leaf1 i (U i : Int) src inn inx _ _ _ hP (by omega) hrm) ?_
            rintro e9 u1 ⟨b0, b1, rfl, hQ⟩
            obtain ⟨α', hα'⟩ : ∃ α' : Rega.Atoms, α' = (fun j => if j = 7 then b0 else if j = 1007 then b1 else α j) := ⟨_, rfl⟩
            have f0 : R9 (Rega.ran L9 7) α' 1007 = row (α' 1007) 46 #[.iface 56 (.pointer (some ⟨α' 7, 0, none⟩)), .int .i32 (i : Int), .slice none 0 0, .int .i32 0, .int .u8 0, .int .u8 0, .bool false, .bool false] := rfl
            have f1 : R9 (Rega.ran L9 7) α' 7 = row (α' 7) 58 #[.int .u32 src, .int .u32 inn, .bool false, .bool false, .bool false] := rfl
            have hα : ∀ j, j % 1000 ≠ 7 → α' j = α j := fun j hj => by rw [hα']; simp only []; rw [if_neg (by omega), if_neg (by omega)]
            have hb0 : α' 7 = b0 := by rw [hα']; rfl
            have hb1 : α' 1007 = b1 := by rw [hα']; rfl
            skip
            refine hK _ α' _ hα ?_ (step_call (st9) hL hcl hα [] [1007, 7] (by decide) (by decide) (by decide) (M := _) ?_ hG hQ)
            · show _ = (.tuple #[.agg #[.iface 36 (.pointer (some ⟨α' 1007, 0, none⟩)), .int .i32 (i : Int)], .pointer (some ⟨α' 1007, 0, none⟩)] : Value)
              simp only [hb1]
            · show [R9 (Rega.ran L9 7) α' 1007, R9 (Rega.ran L9 7) α' 7] = _
              rw [f0, f1]
              simp only [hb0, hb1]
          · intro L9 α a9 u9 K9 hL hcl hA hG hS h0 hK
            replace hL : L9 8 = false := hL
            have q69 : a9.tmps[69]? = some (.tuple #[.agg #[.iface 36 (.pointer (some ⟨α 1007, 0, none⟩)), .int .i32 (i : Int)], .pointer (some ⟨α 1007, 0, none⟩)]) := hS 7 69 (by decide) rfl (by show 69 < 169; decide)
            have s69 := Rega.eval_of q69
            go_simp
            exact hK _ α _ (fun _ _ => rfl) rfl (step_same (st9) hL hcl rfl rfl hG)
          · intro L9 α a9 u9 K9 hL hcl hA hG hS h0 hK
            replace hL : L9 9 = false := hL
            have q61 : a9.tmps[61]? = some (.tuple #[.agg #[.iface 36 (.pointer (some ⟨α 1007, 0, none⟩)), .int .i32 (i : Int)], .pointer (some ⟨α 1007, 0, none⟩)]) := hS 8 61 (by decide) rfl (by show 61 < 169; decide)
            have s61 := Rega.eval_of q61
            go_simp
            exact hK _ α _ (fun _ _ => rfl) rfl (step_same (st9) hL hcl rfl rfl hG)
          · intro L9 α a9 u9 K9 hL hcl hA hG hS h0 hK
            replace hL : L9 10 = false := hL
            have q61 : a9.tmps[61]? = some (.tuple #[.agg #[.iface 36 (.pointer (some ⟨α 1007, 0, none⟩)), .int .i32 (i : Int)], .pointer (some ⟨α 1007, 0, none⟩)]) := hS 8 61 (by decide) rfl (by show 61 < 169; decide)
            have s61 := Rega.eval_of q61
            go_simp
            exact hK _ α _ (fun _ _ => rfl) rfl (step_same (st9) hL hcl rfl rfl hG)
          · intro L9 α a9 u9 K9 hL hcl hA hG hS h0 hK
            replace hL : L9 11 = false := hL
            go_simp
            have e1 : R9 (Rega.ran L9 11) (fun j => if j = 11 then u9.heap.size else α j) 11 = row (u9.heap.size) 35 #[.nilIface, .int .i32 0] := by
              show rtl33f10T11 U n src inn ub B1_3 B1_2 B1_1 B1 inx i D gq (Rega.ran L9 11) (fun j => if j = 11 then u9.heap.size else α j) = _
              unfold rtl33f10T11
              exact ((if_neg (fun e => (fun e => by have := hcl 12 e 11 (by decide); rw [hL] at this; cases this) ((ran_ne (by decide)).symm.trans e))).trans rfl)
            exact hK _ (fun j => if j = 11 then u9.heap.size else α j) _ (fun j hj => if_neg (fun e => hj (by rw [e]))) rfl (step_alloc (st9) hL hcl rfl rfl (by decide) _ e1 hG)
          · intro L9 α a9 u9 K9 hL hcl hA hG hS h0 hK
            replace hL : L9 12 = false := hL
            have q16 : a9.tmps[16]? = some (.pointer (some ⟨α 11, 0, none⟩)) := hS 11 16 (by decide) rfl (by show 16 < 169; decide)
            have s16 := Rega.eval_of q16
            have q70 : a9.tmps[70]? = some (.agg #[.iface 36 (.pointer (some ⟨α 1007, 0, none⟩)), .int .i32 (i : Int)]) := hS 9 70 (by decide) rfl (by show 70 < 169; decide)
            have s70 := Rega.eval_of q70
            have e0 : R9 L9 α 11 = row (α 11) 35 #[.nilIface, .int .i32 0] := by
              show rtl33f10T11 U n src inn ub B1_3 B1_2 B1_1 B1 inx i D gq L9 α = _
              unfold rtl33f10T11
              rw [if_neg (by rw [hL]; decide)]
            have hr := hG.rowAt 11 (act_new 11 rfl (hA 11 (by decide))) e0
            have c0 : u9.cell? ⟨α 11, 0, none⟩ = some (.nilIface) := hr.cell rfl
            have y0 : u9.frozen? ⟨α 11, 0, none⟩ = false := hr.free (0)
            have c1 : u9.cell? ⟨α 11, 1, none⟩ = some (.int .i32 0) := hr.cell rfl
            have y1 : u9.frozen? ⟨α 11, 1, none⟩ = false := hr.free (1)
            clear hr
            have E0 := Lib.hid e0
            clear e0
            go_simp
            have e1 : R9 (Rega.ran L9 12) α 11 = row (α 11) 35 #[.iface 36 (.pointer (some ⟨α 1007, 0, none⟩)), .int .i32 (i : Int)] := by
              show rtl33f10T11 U n src inn ub B1_3 B1_2 B1_1 B1 inx i D gq (Rega.ran L9 12) α = _
              unfold rtl33f10T11
              rw [if_pos (show Rega.ran L9 12 12 = true from rfl)]
            exact hK _ α _ (fun _ _ => rfl) rfl (step_sets (st9) hL hcl rfl 11 rfl (act_new 11 rfl (hA 11 (by decide))) E0.out (0) [.iface 36 (.pointer (some ⟨α 1007, 0, none⟩)), .int .i32 (i : Int)] (e1.trans rfl) hG)
          · intro L9 α a9 u9 K9 hL hcl hA hG hS h0 hK
            replace hL : L9 13 = false := hL
            have q71 : a9.tmps[71]? = some (.pointer (some ⟨α 1007, 0, none⟩)) := hS 10 71 (by decide) rfl (by show 71 < 169; decide)
            have s71 := Rega.eval_of q71
            go_simp
            exact hK _ α _ (fun _ _ => rfl) rfl (step_same (st9) hL hcl rfl rfl hG)
        clear st9
        intro α u hG
        have e0 : R9 (fun k => decide (k < 14)) α 999 = row (B1_2) 35 (lvR D i (gq + 1)) := rfl
        have e1 : R9 (fun k => decide (k < 14)) α 1999 = row (B1_3) 36 (clR D i (gq + 1)) := rfl
        have e2 : R9 (fun k => decide (k < 14)) α 2999 = row (ub) 5 (itR U n) := rfl
        have e3 : R9 (fun k => decide (k < 14)) α 3999 = row (B1) 27 #[.int .u32 src, .int .u32 inn] := rfl
        have e4 : R9 (fun k => decide (k < 14)) α 4999 = row (B1_1) 27 #[.int .u32 src, .int .u32 inx] := rfl
        have e5 : R9 (fun k => decide (k < 14)) α 7 = row (α 7) 58 #[.int .u32 src, .int .u32 inn, .bool false, .bool false, .bool false] := rfl
        have e6 : R9 (fun k => decide (k < 14)) α 1007 = row (α 1007) 46 #[.iface 56 (.pointer (some ⟨α 7, 0, none⟩)), .int .i32 (i : Int), .slice none 0 0, .int .i32 0, .int .u8 0, .int .u8 0, .bool false, .bool false] := rfl
        have e7 : R9 (fun k => decide (k < 14)) α 11 = row (α 11) 35 #[.iface 36 (.pointer (some ⟨α 1007, 0, none⟩)), .int .i32 (i : Int)] := by
          show rtl33f10T11 U n src inn ub B1_3 B1_2 B1_1 B1 inx i D gq (fun k => decide (k < 14)) α = _
          unfold rtl33f10T11
          rw [if_pos (by decide)]
        have hO : Own w0 u [row (B1_2) 35 (lvR D i (gq + 1)), row (B1_3) 36 (clR D i (gq + 1)), row (ub) 5 (itR U n), row (B1) 27 #[.int .u32 src, .int .u32 inn], row (B1_1) 27 #[.int .u32 src, .int .u32 inx], row (α 7) 58 #[.int .u32 src, .int .u32 inn, .bool false, .bool false, .bool false], row (α 1007) 46 #[.iface 56 (.pointer (some ⟨α 7, 0, none⟩)), .int .i32 (i : Int), .slice none 0 0, .int .i32 0, .int .u8 0, .int .u8 0, .bool false, .bool false], row (α 11) 35 #[.iface 36 (.pointer (some ⟨α 1007, 0, none⟩)), .int .i32 (i : Int)]] X9_8 := (hG.list [999, 1999, 2999, 3999, 4999, 7, 1007, 11] (by decide) (act_all (by decide))).conv (by
          show [R9 (fun k => decide (k < 14)) α 999, R9 (fun k => decide (k < 14)) α 1999, R9 (fun k => decide (k < 14)) α 2999, R9 (fun k => decide (k < 14)) α 3999, R9 (fun k => decide (k < 14)) α 4999, R9 (fun k => decide (k < 14)) α 7, R9 (fun k => decide (k < 14)) α 1007, R9 (fun k => decide (k < 14)) α 11] = _
          rw [e0, e1, e2, e3, e4, e5, e6, e7])
        clear hG e0 e1 e2 e3 e4 e5 e6 e7 R9
        generalize hfr : Rega.frameAt _ _ _ _ _ = fr
        have hdf : fr = ⟨#[.slice (some ⟨ub, 0, none⟩) n n, spv, .int .u32 src, .int .u32 inn, tz4, tz5, tz6, tz7, tz8, .int .i64 (n : Int), .pointer (some ⟨B1, 0, none⟩), .pointer (some ⟨B1_1, 0, none⟩), .slice (some ⟨B1_2, 0, none⟩) n n, .slice (some ⟨B1_3, 0, none⟩) n n, .slice none 0 0, .int .i64 (i : Int), .pointer (some ⟨α 11, 0, none⟩), .pointer (some ⟨α 1007, 0, none⟩), tz18, tz19, tz20, tz21, tz22, tz23, tz24, tz25, tz26, tz27, tz28, tz29, tz30, tz31, tz32, tz33, tz34, tz35, tz36, tz37, tz38, tz39, tz40, tz41, tz42, .slice (some ⟨ub, 0, none⟩) n n, .int .i64 (n : Int), .int .u32 src, .int .u32 inn, .agg #[.int .u32 src, .int .u32 inn], .int .u32 src, .int .u32 inn, .int .u32 inx, .agg #[.int .u32 src, .int .u32 inx], .int .i64 (n : Int), .slice (some ⟨B1_2, 0, none⟩) n n, .int .i64 (n : Int), .slice (some ⟨B1_3, 0, none⟩) n n, .int .i64 (i : Int), .int .i64 (n : Int), .bool true, u59, u60, .tuple #[.agg #[.iface 36 (.pointer (some ⟨α 1007, 0, none⟩)), .int .i32 (i : Int)], .pointer (some ⟨α 1007, 0, none⟩)], .int .i64 (i : Int), .slice (some ⟨ub, 0, none⟩) n n, .int .i64 (i : Int), .pointer (some ⟨ub, i, none⟩), .int .u8 (U i : Int), .agg #[.int .u32 src, .int .u32 inn], .agg #[.int .u32 src, .int .u32 inx], .tuple #[.agg #[.iface 36 (.pointer (some ⟨α 1007, 0, none⟩)), .int .i32 (i : Int)], .pointer (some ⟨α 1007, 0, none⟩)], .agg #[.iface 36 (.pointer (some ⟨α 1007, 0, none⟩)), .int .i32 (i : Int)], .pointer (some ⟨α 1007, 0, none⟩), u72, u73, u74, u75, u76, u77, u78, u79, u80, u81, u82, u83, u84, u85, u86, u87, u88, u89, tz90, tz91, tz92, tz93, tz94, tz95, tz96, tz97, tz98, tz99, tz100, tz101, tz102, tz103, tz104, tz105, tz106, tz107, tz108, tz109, tz110, tz111, tz112, tz113, tz114, tz115, tz116, tz117, tz118, tz119, tz120, tz121, tz122, tz123, tz124, tz125, tz126, tz127, tz128, tz129, tz130, tz131, tz132, tz133, tz134, tz135, tz136, tz137, tz138, tz139, tz140, tz141, tz142, tz143, tz144, tz145, tz146, tz147, tz148, tz149, tz150, tz151, tz152, tz153, tz154, tz155, tz156, tz157, tz158, tz159, tz160, tz161, tz162, tz163, tz164, tz165, tz166, tz167, tz168], []⟩ := by rw [← hfr]; kernel_rfl
        clear hfr
        subst hdf
        generalize α 7 = nd9 at hO ⊢
        generalize α 11 = nd10 at hO ⊢
        generalize α 1007 = nd11 at hO ⊢
        clear α
        obtain ⟨ix9, hix9, hax9, hjx9⟩ := hO.ix
        have ix9_0 : ix9 B1_2 = 0 := hjx9 0 _ _ rfl
        have ix9_1 : ix9 B1_3 = 1 := hjx9 1 _ _ rfl
        have ix9_2 : ix9 ub = 2 := hjx9 2 _ _ rfl
        have ix9_3 : ix9 B1 = 3 := hjx9 3 _ _ rfl
        have ix9_4 : ix9 B1_1 = 4 := hjx9 4 _ _ rfl
        have ix9_5 : ix9 nd9 = 5 := hjx9 5 _ _ rfl
        have ix9_6 : ix9 nd11 = 6 := hjx9 6 _ _ rfl
        have ix9_7 : ix9 nd10 = 7 := hjx9 7 _ _ rfl
        clear hjx9
        have pl9_0 : Base.plainAt u (B1_2) = true := hO.plain 0 rfl
        have c9_0_i_2 : u.cell? ⟨B1_2, i * 2, none⟩ = some (.nilIface) := hO.cell 0 rfl (i * 2) ((lvR_at0 D i gq))
        have c9_0_i_2_1 : u.cell? ⟨B1_2, i * 2 + 1, none⟩ = some (.int .i32 0) := hO.cell 0 rfl (i * 2 + 1) ((lvR_at1 D i gq))
        have lt9_0 : B1_2 < u.heap.size := hO.lt 0 rfl
        have y9_0 : ∀ o, u.frozen? ⟨B1_2, o, none⟩ = false := hO.free 0 rfl
        have c9_1_i : u.cell? ⟨B1_3, i, none⟩ = some (.pointer none) := hO.cell 1 rfl (i) ((clR_at D i gq))
        have lt9_1 : B1_3 < u.heap.size := hO.lt 1 rfl
        have y9_1 : ∀ o, u.frozen? ⟨B1_3, o, none⟩ = false := hO.free 1 rfl
        have c9_2_i : u.cell? ⟨ub, i, none⟩ = some (.int .u8 (U i : Int)) := hO.cell 2 rfl (i) ((itR_get hlt))
        have lt9_2 : ub < u.heap.size := hO.lt 2 rfl
        have y9_2 : ∀ o, u.frozen? ⟨ub, o, none⟩ = false := hO.free 2 rfl
        obtain ⟨c9_3_0, c9_3_1, lt9_3, y9_3, pl9_3⟩ := hO.k2 3 rfl
        obtain ⟨c9_4_0, c9_4_1, lt9_4, y9_4, pl9_4⟩ := hO.k2 4 rfl
        obtain ⟨c9_5_0, c9_5_1, c9_5_2, c9_5_3, c9_5_4, lt9_5, y9_5, -⟩ := hO.k5 5 rfl
        obtain ⟨c9_6_0, c9_6_1, c9_6_2, c9_6_3, c9_6_4, c9_6_5, c9_6_6, c9_6_7, lt9_6, y9_6, -⟩ := hO.k8 6 rfl
        obtain ⟨c9_7_0, c9_7_1, lt9_7, y9_7, pl9_7⟩ := hO.k2 7 rfl
        have HO := Lib.hid hO
        clear hO
        go_wp2_with (first | (with_reducible refine Own.stay (fn := Try.f4) ?_) | (at_builtin; refine Own.appStop ?_) | fail)
        try with_reducible refine Own.Stay.mk ?_
        have hO := HO.out
        clear HO hix9 hax9 ix9_0 ix9_1 ix9_2 ix9_3 ix9_4 ix9_5 ix9_6 ix9_7 ix9 pl9_0 c9_0_i_2 c9_0_i_2_1 lt9_0 y9_0 c9_1_i lt9_1 y9_1 c9_2_i lt9_2 y9_2 c9_3_0 c9_3_1 lt9_3 y9_3 pl9_3 c9_4_0 c9_4_1 lt9_4 y9_4 pl9_4 c9_5_0 c9_5_1 c9_5_2 c9_5_3 c9_5_4 lt9_5 y9_5 c9_6_0 c9_6_1 c9_6_2 c9_6_3 c9_6_4 c9_6_5 c9_6_6 c9_6_7 lt9_6 y9_6 c9_7_0 c9_7_1 lt9_7 y9_7 pl9_7
        generalize hW : World.alloc _ _ = W13
        have hN : Own w0 W13 [row (u.heap.size) 3 #[.int .i64 (i : Int)], row (B1_2) 35 (((lvR D i (gq + 1)).setIfInBounds (i * 2) (.iface 36 (.pointer (some ⟨nd11, 0, none⟩)))).setIfInBounds (i * 2 + 1) (.int .i32 (i : Int))), row (B1_3) 36 ((clR D i (gq + 1)).setIfInBounds i (.pointer (some ⟨nd11, 0, none⟩))), row (ub) 5 (itR U n), row (B1) 27 #[.int .u32 src, .int .u32 inn], row (B1_1) 27 #[.int .u32 src, .int .u32 inx], row (nd9) 58 #[.int .u32 src, .int .u32 inn, .bool false, .bool false, .bool false], row (nd11) 46 #[.iface 56 (.pointer (some ⟨nd9, 0, none⟩)), .int .i32 (i : Int), .slice none 0 0, .int .i32 0, .int .u8 0, .int .u8 0, .bool false, .bool false], row (nd10) 35 #[.iface 36 (.pointer (some ⟨nd11, 0, none⟩)), .int .i32 (i : Int)]] X9_8 := by
          rw [← hW]
          exact ((((hO).set 0 rfl (i * 2) _).set 0 rfl (i * 2 + 1) _).set 1 rfl i _).alloc' _ (u.heap.size) (by simp)
        clear hW hO
        generalize u.heap.size = B12 at hN ⊢
        have hO := hN
        clear hN
        refine Own.AppStop.mk ?_
        obtain ⟨i9, hi9, z1, z2, z3⟩ := info_parts infoI64
        have hL := hO.apart
        have hX := hO.apartX
        have HL := Lib.hid hL
        have HX := Lib.hid hX
        clear hL hX
        have hP9 := hO.pick [0] (by decide)
        refine Own.wpList_append_full_nil rfl (.tmp 86) (.tmp 88) 54 rfl 3 i9 (.int .i64 0) 1 8 Try.underlying54 hi9 z1 z2 z3 hP9 rfl rfl rfl (by decide) (by first | decide | omega | (unfold maxLen; omega)) (by first | decide | omega | (unfold maxLen; omega)) ?_
        intro nd14 nc15 u16 hQ
        clear hP9
        have hN : Own w0 u16 [row (nd14) 3 (full i64Z [.int .i64 (i : Int)] nc15), row (B12) 3 #[.int .i64 (i : Int)], row (B1_2) 35 (((lvR D i (gq + 1)).setIfInBounds (i * 2) (.iface 36 (.pointer (some ⟨nd11, 0, none⟩)))).setIfInBounds (i * 2 + 1) (.int .i32 (i : Int))), row (B1_3) 36 ((clR D i (gq + 1)).setIfInBounds i (.pointer (some ⟨nd11, 0, none⟩))), row (ub) 5 (itR U n), row (B1) 27 #[.int .u32 src, .int .u32 inn], row (B1_1) 27 #[.int .u32 src, .int .u32 inx], row (nd9) 58 #[.int .u32 src, .int .u32 inn, .bool false, .bool false, .bool false], row (nd11) 46 #[.iface 56 (.pointer (some ⟨nd9, 0, none⟩)), .int .i32 (i : Int), .slice none 0 0, .int .i32 0, .int .u8 0, .int .u8 0, .bool false, .bool false], row (nd10) 35 #[.iface 36 (.pointer (some ⟨nd11, 0, none⟩)), .int .i32 (i : Int)]] X9_8 := hQ.back HL.out HX.out [1, 2, 3, 4, 5, 6, 7, 8] (by decide) (by decide)
        clear hQ HL HX hO
        have hO := hN
        clear hN
        obtain ⟨c9_1_0, lt9_1, y9_1, -⟩ := hO.k1 1 rfl
        obtain ⟨c9_5_0, c9_5_1, lt9_5, y9_5, -⟩ := hO.k2 5 rfl
        obtain ⟨c9_6_0, c9_6_1, lt9_6, y9_6, -⟩ := hO.k2 6 rfl
        obtain ⟨c9_7_0, c9_7_1, c9_7_2, c9_7_3, c9_7_4, lt9_7, y9_7, -⟩ := hO.k5 7 rfl
        obtain ⟨c9_8_0, c9_8_1, c9_8_2, c9_8_3, c9_8_4, c9_8_5, c9_8_6, c9_8_7, lt9_8, y9_8, -⟩ := hO.k8 8 rfl
        obtain ⟨c9_9_0, c9_9_1, lt9_9, y9_9, -⟩ := hO.k2 9 rfl
        have HO := Lib.hid hO
        clear hO
        go_wp2_with (first | (with_reducible refine Own.stay (fn := Try.f4) ?_) | (at_builtin; refine Own.appStop ?_) | fail)
        try with_reducible refine Own.Stay.mk ?_
        have hO := HO.out
        clear HO c9_1_0 lt9_1 y9_1 c9_5_0 c9_5_1 lt9_5 y9_5 c9_6_0 c9_6_1 lt9_6 y9_6 c9_7_0 c9_7_1 c9_7_2 c9_7_3 c9_7_4 lt9_7 y9_7 c9_8_0 c9_8_1 c9_8_2 c9_8_3 c9_8_4 c9_8_5 c9_8_6 c9_8_7 lt9_8 y9_8 c9_9_0 c9_9_1 lt9_9 y9_9
        rw [HX9_8.out] at hO
        obtain ⟨hDk, hDs, hDi, hDx⟩ := HD.out
        have hN : Own w0 u16 [row (nd11) 46 #[.iface 56 (.pointer (some ⟨nd9, 0, none⟩)), .int .i32 (i : Int), .slice none 0 0, .int .i32 0, .int .u8 0, .int .u8 0, .bool false, .bool false], row (nd9) 58 #[.int .u32 src, .int .u32 inn, .bool false, .bool false, .bool false], row (nd14) 3 (full i64Z [.int .i64 (i : Int)] nc15), row (B1_2) 35 (((lvR D i (gq + 1)).setIfInBounds (i * 2) (.iface 36 (.pointer (some ⟨nd11, 0, none⟩)))).setIfInBounds (i * 2 + 1) (.int .i32 (i : Int))), row (B1_3) 36 ((clR D i (gq + 1)).setIfInBounds i (.pointer (some ⟨nd11, 0, none⟩))), row (ub) 5 (itR U n), row (B1) 27 #[.int .u32 src, .int .u32 inn], row (B1_1) 27 #[.int .u32 src, .int .u32 inx]] (LvX X D i) := hO.sub [8, 7, 0, 2, 3, 4, 5, 6] (by decide)
        clear hO
        have hO := hN
        clear hN
        have hne : ∀ j, j < i → ¬ D.kd j = 0 → D.ad j ≠ nd11 := fun j hj h9 e => (hO.frame (D.ad j) _ (Or.inr ⟨j, hj, h9, Or.inl ⟨rfl, rfl⟩⟩)).2.2 _ List.mem_cons_self e.symm
        have hA := HAP.out.next nd9 hne
        have h1q := Own.give (b := nd11) (o := .cells (callC (.iface 56 (.pointer (some ⟨nd9, 0, none⟩))) (i : Int)) 46 (0, 0)) (Y := fun b o => LvX X D i b o ∨ (b = nd11 ∧ o = .cells (callC (.iface 56 (.pointer (some ⟨nd9, 0, none⟩))) (i : Int)) 46 (0, 0))) (hO.conv rfl) (fun b o h => h)
        have hN := Own.give (b := nd9) (o := .cells (idC D.src (D.inr i)) 58 (0, 0)) (Y := LvX X (updD D i nd11 nd9) (i + 1)) (h1q.conv (by rw [hDs, show D.inr i = inn from (if_pos hkd).trans hDi]; rfl)) (by
          intro b o h
          rcases LvX.next nd11 nd9 b o h with (h | h) | h
          · exact Or.inl (Or.inl h)
          · exact Or.inr h
          · exact Or.inl (Or.inr h))
        go_roundg gq
        case measure => omega
        case rel => exact ⟨i + 1, updD D i nd11 nd9, by omega, by first | rfl | simp, hDk, hDs, hDi, hDx, hA, Or.inr ⟨nd14, nc15, 1, [i], rfl, (by rw [SLs_upd, SLs_yes hkd, SLs_nil hno]; rfl), rfl, by omega, hN.conv (by rw [lvR_next D i gq nd11 nd9 _ (by show _ = lfD _ _; unfold lfD; rw [if_neg (by rw [show (updD D i nd11 nd9).kd i = 1 from hkd]; decide), updD_ad]), clR_next D i gq nd11 nd9 _ (by unfold clD; rw [if_neg (by rw [show (updD D i nd11 nd9).kd i = 1 from hkd]; decide), updD_ad])]; rfl)⟩⟩
      · skip
        have hrm : (U i : Int).tmod 3 = 2 := by have h9 : (U i : Int).tmod 3 = ((U i % 3 : Nat) : Int) := rfl; rw [h9]; omega
        have hkd : D.kd i = 2 := by rw [hDk]; simp only []; rw [if_neg h0, if_neg h1]
        have HD := Lib.hid (And.intro hDk (And.intro hDs (And.intro hDi hDx)))
        have HAP := Lib.hid hap
        clear hDk hDs hDi hDx hap
        obtain ⟨X9_17, hX9_17⟩ : ∃ Y, Y = LvX X D i := ⟨_, rfl⟩
        rw [← hX9_17] at hO
        have HX9_17 := Lib.hid hX9_17
        clear hX9_17
        obtain ⟨c9_3_0, c9_3_1, lt9_3, y9_3, -⟩ := hO.k2 3 rfl
        obtain ⟨c9_4_0, c9_4_1, lt9_4, y9_4, -⟩ := hO.k2 4 rfl
        have HO := Lib.hid hO
        clear hO
        go_wp2_with (first | (with_reducible refine Own.stay (fn := Try.f4) ?_) | (at_builtin; refine Own.appStop ?_) | fail)
        try with_reducible refine Own.Stay.mk ?_
        have hO := HO.out
        clear HO c9_3_0 c9_3_1 lt9_3 y9_3 c9_4_0 c9_4_1 lt9_4 y9_4
        have st9 := rtl33f20_st U n src inn ub B1_3 B1_2 B1_1 B1 inx i D gq
        let R9 := rtl33f20R U n src inn ub B1_3 B1_2 B1_1 B1 inx i D gq
        refine wp_region_own (e := rtl33f20E U n src inn ub B1_3 B1_2 B1_1 B1 inx i D gq) (anc := rtl33f20Anc) (G := (fun L9 α u9 => OwnF w0 u9 (act rtl33f20Cnt 5 L9) (rtl33f20R U n src inn ub B1_3 B1_2 B1_1 B1 inx i D gq L9 α) X9_17)) (by kernel_rfl) (by kernel_rfl) (by kernel_rfl) (by kernel_rfl) (rtl33f20_he U n src inn ub B1_3 B1_2 B1_1 B1 inx i D gq) ?_ (RunsAll.all ?_) ?_
        · have hp : ∀ i, act rtl33f20Cnt 5 (fun _ => false) i → i ∈ [999, 1999, 2999, 3999, 4999] := by
            intro i hi
            have h9 : i % 1000 = 999 := by
              by_cases h : i % 1000 = 999
              · exact h
              · exact absurd (act_lt hi h) (by simp)
            unfold act at hi
            rw [if_pos h9] at hi
            simp only [List.mem_cons, List.not_mem_nil, or_false]
            omega
          refine hO.drew.family (fun i hi => ?_) (fun i j hi hj hij => ?_)
          · have := hp i hi
            simp only [List.mem_cons, List.not_mem_nil, or_false] at this
            rcases this with rfl | rfl | rfl | rfl | rfl <;> rfl
          · have h1 := hp i hi
            have h2 := hp j hj
            simp only [List.mem_cons, List.not_mem_nil, or_false] at h1 h2
            omega
        · refine ⟨?_, ?_, ?_, ?_, ?_, ?_, ?_, ?_, ?_, ?_, ?_, ?_, ?_, ?_, trivial⟩
          · intro L9 α a9 u9 K9 hL hcl hA hG hS h0 hK
            replace hL : L9 0 = false := hL
            have q15 : a9.tmps[15]? = some (.int .i64 (i : Int)) := (h0 15 (by kernel_rfl)).trans rfl
            have s15 := Rega.eval_of q15
            go_simp
            exact hK _ α _ (fun _ _ => rfl) rfl (step_same (st9) hL hcl rfl rfl hG)
          · intro L9 α a9 u9 K9 hL hcl hA hG hS h0 hK
            replace hL : L9 1 = false := hL
            have q0 : a9.tmps[0]? = some (.slice (some ⟨ub, 0, none⟩) n n) := (h0 0 (by kernel_rfl)).trans rfl
            have s0 := Rega.eval_of q0
            go_simp
            exact hK _ α _ (fun _ _ => rfl) rfl (step_same (st9) hL hcl rfl rfl hG)
          · intro L9 α a9 u9 K9 hL hcl hA hG hS h0 hK
            replace hL : L9 2 = false := hL
            have q15 : a9.tmps[15]? = some (.int .i64 (i : Int)) := (h0 15 (by kernel_rfl)).trans rfl
            have s15 := Rega.eval_of q15
            go_simp
            exact hK _ α _ (fun _ _ => rfl) rfl (step_same (st9) hL hcl rfl rfl hG)
          · intro L9 α a9 u9 K9 hL hcl hA hG hS h0 hK
            replace hL : L9 3 = false := hL
            have q63 : a9.tmps[63]? = some (.slice (some ⟨ub, 0, none⟩) n n) := hS 1 63 (by decide) rfl (by show 63 < 169; decide)
            have s63 := Rega.eval_of q63
            have q64 : a9.tmps[64]? = some (.int .i64 (i : Int)) := hS 2 64 (by decide) rfl (by show 64 < 169; decide)
            have s64 := Rega.eval_of q64
            go_simp
            exact hK _ α _ (fun _ _ => rfl) rfl (step_same (st9) hL hcl rfl rfl hG)
          · intro L9 α a9 u9 K9 hL hcl hA hG hS h0 hK
            replace hL : L9 4 = false := hL
            have q65 : a9.tmps[65]? = some (.pointer (some ⟨ub, i, none⟩)) := hS 3 65 (by decide) rfl (by show 65 < 169; decide)
            have s65 := Rega.eval_of q65
            have e0 : R9 L9 α 2999 = row (ub) 5 (itR U n) := rfl
            have hr := hG.rowAt 2999 (act_base 2999 rfl) e0
            have c0 : u9.cell? ⟨ub, i, none⟩ = some (.int .u8 (U i : Int)) := hr.cell ((itR_get hlt))
            clear hr e0
            go_simp
            exact hK _ α _ (fun _ _ => rfl) rfl (step_same (st9) hL hcl rfl rfl hG)
          · intro L9 α a9 u9 K9 hL hcl hA hG hS h0 hK
            replace hL : L9 5 = false := hL
            have q10 : a9.tmps[10]? = some (.pointer (some ⟨B1, 0, none⟩)) := (h0 10 (by kernel_rfl)).trans rfl
            have s10 := Rega.eval_of q10
            have e0 : R9 L9 α 3999 = row (B1) 27 #[.int .u32 src, .int .u32 inn] := rfl
            have hr := hG.rowAt 3999 (act_base 3999 rfl) e0
            have c0 : u9.cell? ⟨B1, 0, none⟩ = some (.int .u32 src) := hr.cell rfl
            have c1 : u9.cell? ⟨B1, 1, none⟩ = some (.int .u32 inn) := hr.cell rfl
            clear hr e0
            go_simp
            exact hK _ α _ (fun _ _ => rfl) rfl (step_same (st9) hL hcl rfl rfl hG)
          · intro L9 α a9 u9 K9 hL hcl hA hG hS h0 hK
            replace hL : L9 6 = false := hL
            have q11 : a9.tmps[11]? = some (.pointer (some ⟨B1_1, 0, none⟩)) := (h0 11 (by kernel_rfl)).trans rfl
            have s11 := Rega.eval_of q11
            have e0 : R9 L9 α 4999 = row (B1_1) 27 #[.int .u32 src, .int .u32 inx] := rfl
            have hr := hG.rowAt 4999 (act_base 4999 rfl) e0
            have c0 : u9.cell? ⟨B1_1, 0, none⟩ = some (.int .u32 src) := hr.cell rfl
            have c1 : u9.cell? ⟨B1_1, 1, none⟩ = some (.int .u32 inx) := hr.cell rfl
            clear hr e0
            go_simp
            exact hK _ α _ (fun _ _ => rfl) rfl (step_same (st9) hL hcl rfl rfl hG)
          · intro L9 α a9 u9 K9 hL hcl hA hG hS h0 hK
            replace hL : L9 7 = false := hL
            have q62 : a9.tmps[62]? = some (.int .i64 (i : Int)) := hS 0 62 (by decide) rfl (by show 62 < 169; decide)
            have s62 := Rega.eval_of q62
            have q66 : a9.tmps[66]? = some (.int .u8 (U i : Int)) := hS 4 66 (by decide) rfl (by show 66 < 169; decide)
            have s66 := Rega.eval_of q66
            have q67 : a9.tmps[67]? = some (.agg #[.int .u32 src, .int .u32 inn]) := hS 5 67 (by decide) rfl (by show 67 < 169; decide)
            have s67 := Rega.eval_of q67
            have q68 : a9.tmps[68]? = some (.agg #[.int .u32 src, .int .u32 inx]) := hS 6 68 (by decide) rfl (by show 68 < 169; decide)
            have s68 := Rega.eval_of q68
            go_simp
            have hM : ∀ i, i ∈ [] → act rtl33f20Cnt 5 L9 i := by intro i hi; simp at hi
            have hP : Own w0 u9 [] _ := hG.pick [] (by decide) (by simp)
            clear hM
            refine Calls.mono (leaf2 i (U i : Int) src inn inx _ _ _ hP (by omega) hrm) ?_
            rintro e9 u1 ⟨b0, b1, rfl, hQ⟩
            obtain ⟨α', hα'⟩ : ∃ α' : Rega.Atoms, α' = (fun j => if j = 7 then b0 else if j = 1007 then b1 else α j) := ⟨_, rfl⟩
            have f0 : R9 (Rega.ran L9 7) α' 1007 = row (α' 1007) 46 #[.iface 56 (.pointer (some ⟨α' 7, 0, none⟩)), .int .i32 (i : Int), .slice none 0 0, .int .i32 0, .int .u8 0, .int .u8 0, .bool false, .bool false] := rfl
            have f1 : R9 (Rega.ran L9 7) α' 7 = row (α' 7) 58 #[.int .u32 src, .int .u32 inx, .bool false, .bool false, .bool false] := rfl
            have hα : ∀ j, j % 1000 ≠ 7 → α' j = α j := fun j hj => by rw [hα']; simp only []; rw [if_neg (by omega), if_neg (by omega)]
            have hb0 : α' 7 = b0 := by rw [hα']; rfl
            have hb1 : α' 1007 = b1 := by rw [hα']; rfl
            skip
            refine hK _ α' _ hα ?_ (step_call (st9) hL hcl hα [] [1007, 7] (by decide) (by decide) (by decide) (M := _) ?_ hG hQ)
            · show _ = (.tuple #[.agg #[.iface 36 (.pointer (some ⟨α' 1007, 0, none⟩)), .int .i32 (i : Int)], .pointer (some ⟨α' 1007, 0, none⟩)] : Value)
              simp only [hb1]
            · show [R9 (Rega.ran L9 7) α' 1007, R9 (Rega.ran L9 7) α' 7] = _
              rw [f0, f1]
              simp only [hb0, hb1]
          · intro L9 α a9 u9 K9 hL hcl hA hG hS h0 hK
            replace hL : L9 8 = false := hL
            have q69 : a9.tmps[69]? = some (.tuple #[.agg #[.iface 36 (.pointer (some ⟨α 1007, 0, none⟩)), .int .i32 (i : Int)], .pointer (some ⟨α 1007, 0, none⟩)]) := hS 7 69 (by decide) rfl (by show 69 < 169; decide)
            have s69 := Rega.eval_of q69
            go_simp
            exact hK _ α _ (fun _ _ => rfl) rfl (step_same (st9) hL hcl rfl rfl hG)
          · intro L9 α a9 u9 K9 hL hcl hA hG hS h0 hK
            replace hL : L9 9 = false := hL
            have q61 : a9.tmps[61]? = some (.tuple #[.agg #[.iface 36 (.pointer (some ⟨α 1007, 0, none⟩)), .int .i32 (i : Int)], .pointer (some ⟨α 1007, 0, none⟩)]) := hS 8 61 (by decide) rfl (by show 61 < 169; decide)
            have s61 := Rega.eval_of q61
            go_simp
            exact hK _ α _ (fun _ _ => rfl) rfl (step_same (st9) hL hcl rfl rfl hG)
          · intro L9 α a9 u9 K9 hL hcl hA hG hS h0 hK
            replace hL : L9 10 = false := hL
            have q61 : a9.tmps[61]? = some (.tuple #[.agg #[.iface 36 (.pointer (some ⟨α 1007, 0, none⟩)), .int .i32 (i : Int)], .pointer (some ⟨α 1007, 0, none⟩)]) := hS 8 61 (by decide) rfl (by show 61 < 169; decide)
            have s61 := Rega.eval_of q61
            go_simp
            exact hK _ α _ (fun _ _ => rfl) rfl (step_same (st9) hL hcl rfl rfl hG)
          · intro L9 α a9 u9 K9 hL hcl hA hG hS h0 hK
            replace hL : L9 11 = false := hL
            go_simp
            have e1 : R9 (Rega.ran L9 11) (fun j => if j = 11 then u9.heap.size else α j) 11 = row (u9.heap.size) 35 #[.nilIface, .int .i32 0] := by
              show rtl33f20T11 U n src inn ub B1_3 B1_2 B1_1 B1 inx i D gq (Rega.ran L9 11) (fun j => if j = 11 then u9.heap.size else α j) = _
              unfold rtl33f20T11
              exact ((if_neg (fun e => (fun e => by have := hcl 12 e 11 (by decide); rw [hL] at this; cases this) ((ran_ne (by decide)).symm.trans e))).trans rfl)
            exact hK _ (fun j => if j = 11 then u9.heap.size else α j) _ (fun j hj => if_neg (fun e => hj (by rw [e]))) rfl (step_alloc (st9) hL hcl rfl rfl (by decide) _ e1 hG)
          · intro L9 α a9 u9 K9 hL hcl hA hG hS h0 hK
            replace hL : L9 12 = false := hL
            have q16 : a9.tmps[16]? = some (.pointer (some ⟨α 11, 0, none⟩)) := hS 11 16 (by decide) rfl (by show 16 < 169; decide)
            have s16 := Rega.eval_of q16
            have q70 : a9.tmps[70]? = some (.agg #[.iface 36 (.pointer (some ⟨α 1007, 0, none⟩)), .int .i32 (i : Int)]) := hS 9 70 (by decide) rfl (by show 70 < 169; decide)
            have s70 := Rega.eval_of q70
            have e0 : R9 L9 α 11 = row (α 11) 35 #[.nilIface, .int .i32 0] := by
              show rtl33f20T11 U n src inn ub B1_3 B1_2 B1_1 B1 inx i D gq L9 α = _
              unfold rtl33f20T11
              rw [if_neg (by rw [hL]; decide)]
            have hr := hG.rowAt 11 (act_new 11 rfl (hA 11 (by decide))) e0
            have c0 : u9.cell? ⟨α 11, 0, none⟩ = some (.nilIface) := hr.cell rfl
            have y0 : u9.frozen? ⟨α 11, 0, none⟩ = false := hr.free (0)
            have c1 : u9.cell? ⟨α 11, 1, none⟩ = some (.int .i32 0) := hr.cell rfl
            have y1 : u9.frozen? ⟨α 11, 1, none⟩ = false := hr.free (1)
            clear hr
            have E0 := Lib.hid e0
            clear e0
            go_simp
            have e1 : R9 (Rega.ran L9 12) α 11 = row (α 11) 35 #[.iface 36 (.pointer (some ⟨α 1007, 0, none⟩)), .int .i32 (i : Int)] := by
              show rtl33f20T11 U n src inn ub B1_3 B1_2 B1_1 B1 inx i D gq (Rega.ran L9 12) α = _
              unfold rtl33f20T11
              rw [if_pos (show Rega.ran L9 12 12 = true from rfl)]
            exact hK _ α _ (fun _ _ => rfl) rfl (step_sets (st9) hL hcl rfl 11 rfl (act_new 11 rfl (hA 11 (by decide))) E0.out (0) [.iface 36 (.pointer (some ⟨α 1007, 0, none⟩)), .int .i32 (i : Int)] (e1.trans rfl) hG)
          · intro L9 α a9 u9 K9 hL hcl hA hG hS h0 hK
            replace hL : L9 13 = false := hL
            have q71 : a9.tmps[71]? = some (.pointer (some ⟨α 1007, 0, none⟩)) := hS 10 71 (by decide) rfl (by show 71 < 169; decide)
            have s71 := Rega.eval_of q71
            go_simp
            exact hK _ α _ (fun _ _ => rfl) rfl (step_same (st9) hL hcl rfl rfl hG)
        clear st9
        intro α u hG
        have e0 : R9 (fun k => decide (k < 14)) α 999 = row (B1_2) 35 (lvR D i (gq + 1)) := rfl
        have e1 : R9 (fun k => decide (k < 14)) α 1999 = row (B1_3) 36 (clR D i (gq + 1)) := rfl
        have e2 : R9 (fun k => decide (k < 14)) α 2999 = row (ub) 5 (itR U n) := rfl
        have e3 : R9 (fun k => decide (k < 14)) α 3999 = row (B1) 27 #[.int .u32 src, .int .u32 inn] := rfl
        have e4 : R9 (fun k => decide (k < 14)) α 4999 = row (B1_1) 27 #[.int .u32 src, .int .u32 inx] := rfl
        have e5 : R9 (fun k => decide (k < 14)) α 7 = row (α 7) 58 #[.int .u32 src, .int .u32 inx, .bool false, .bool false, .bool false] := rfl
        have e6 : R9 (fun k => decide (k < 14)) α 1007 = row (α 1007) 46 #[.iface 56 (.pointer (some ⟨α 7, 0, none⟩)), .int .i32 (i : Int), .slice none 0 0, .int .i32 0, .int .u8 0, .int .u8 0, .bool false, .bool false] := rfl
        have e7 : R9 (fun k => decide (k < 14)) α 11 = row (α 11) 35 #[.iface 36 (.pointer (some ⟨α 1007, 0, none⟩)), .int .i32 (i : Int)] := by
          show rtl33f20T11 U n src inn ub B1_3 B1_2 B1_1 B1 inx i D gq (fun k => decide (k < 14)) α = _
          unfold rtl33f20T11
          rw [if_pos (by decide)]
        have hO : Own w0 u [row (B1_2) 35 (lvR D i (gq + 1)), row (B1_3) 36 (clR D i (gq + 1)), row (ub) 5 (itR U n), row (B1) 27 #[.int .u32 src, .int .u32 inn], row (B1_1) 27 #[.int .u32 src, .int .u32 inx], row (α 7) 58 #[.int .u32 src, .int .u32 inx, .bool false, .bool false, .bool false], row (α 1007) 46 #[.iface 56 (.pointer (some ⟨α 7, 0, none⟩)), .int .i32 (i : Int), .slice none 0 0, .int .i32 0, .int .u8 0, .int .u8 0, .bool false, .bool false], row (α 11) 35 #[.iface 36 (.pointer (some ⟨α 1007, 0, none⟩)), .int .i32 (i : Int)]] X9_17 := (hG.list [999, 1999, 2999, 3999, 4999, 7, 1007, 11] (by decide) (act_all (by decide))).conv (by
          show [R9 (fun k => decide (k < 14)) α 999, R9 (fun k => decide (k < 14)) α 1999, R9 (fun k => decide (k < 14)) α 2999, R9 (fun k => decide (k < 14)) α 3999, R9 (fun k => decide (k < 14)) α 4999, R9 (fun k => decide (k < 14)) α 7, R9 (fun k => decide (k < 14)) α 1007, R9 (fun k => decide (k < 14)) α 11] = _
          rw [e0, e1, e2, e3, e4, e5, e6, e7])
        clear hG e0 e1 e2 e3 e4 e5 e6 e7 R9
        generalize hfr : Rega.frameAt _ _ _ _ _ = fr
        have hdf : fr = ⟨#[.slice (some ⟨ub, 0, none⟩) n n, spv, .int .u32 src, .int .u32 inn, tz4, tz5, tz6, tz7, tz8, .int .i64 (n : Int), .pointer (some ⟨B1, 0, none⟩), .pointer (some ⟨B1_1, 0, none⟩), .slice (some ⟨B1_2, 0, none⟩) n n, .slice (some ⟨B1_3, 0, none⟩) n n, .slice none 0 0, .int .i64 (i : Int), .pointer (some ⟨α 11, 0, none⟩), .pointer (some ⟨α 1007, 0, none⟩), tz18, tz19, tz20, tz21, tz22, tz23, tz24, tz25, tz26, tz27, tz28, tz29, tz30, tz31, tz32, tz33, tz34, tz35, tz36, tz37, tz38, tz39, tz40, tz41, tz42, .slice (some ⟨ub, 0, none⟩) n n, .int .i64 (n : Int), .int .u32 src, .int .u32 inn, .agg #[.int .u32 src, .int .u32 inn], .int .u32 src, .int .u32 inn, .int .u32 inx, .agg #[.int .u32 src, .int .u32 inx], .int .i64 (n : Int), .slice (some ⟨B1_2, 0, none⟩) n n, .int .i64 (n : Int), .slice (some ⟨B1_3, 0, none⟩) n n, .int .i64 (i : Int), .int .i64 (n : Int), .bool true, u59, u60, .tuple #[.agg #[.iface 36 (.pointer (some ⟨α 1007, 0, none⟩)), .int .i32 (i : Int)], .pointer (some ⟨α 1007, 0, none⟩)], .int .i64 (i : Int), .slice (some ⟨ub, 0, none⟩) n n, .int .i64 (i : Int), .pointer (some ⟨ub, i, none⟩), .int .u8 (U i : Int), .agg #[.int .u32 src, .int .u32 inn], .agg #[.int .u32 src, .int .u32 inx], .tuple #[.agg #[.iface 36 (.pointer (some ⟨α 1007, 0, none⟩)), .int .i32 (i : Int)], .pointer (some ⟨α 1007, 0, none⟩)], .agg #[.iface 36 (.pointer (some ⟨α 1007, 0, none⟩)), .int .i32 (i : Int)], .pointer (some ⟨α 1007, 0, none⟩), u72, u73, u74, u75, u76, u77, u78, u79, u80, u81, u82, u83, u84, u85, u86, u87, u88, u89, tz90, tz91, tz92, tz93, tz94, tz95, tz96, tz97, tz98, tz99, tz100, tz101, tz102, tz103, tz104, tz105, tz106, tz107, tz108, tz109, tz110, tz111, tz112, tz113, tz114, tz115, tz116, tz117, tz118, tz119, tz120, tz121, tz122, tz123, tz124, tz125, tz126, tz127, tz128, tz129, tz130, tz131, tz132, tz133, tz134, tz135, tz136, tz137, tz138, tz139, tz140, tz141, tz142, tz143, tz144, tz145, tz146, tz147, tz148, tz149, tz150, tz151, tz152, tz153, tz154, tz155, tz156, tz157, tz158, tz159, tz160, tz161, tz162, tz163, tz164, tz165, tz166, tz167, tz168], []⟩ := by rw [← hfr]; kernel_rfl
        clear hfr
        subst hdf
        generalize α 7 = nd18 at hO ⊢
        generalize α 11 = nd19 at hO ⊢
        generalize α 1007 = nd20 at hO ⊢
        clear α
        obtain ⟨ix9, hix9, hax9, hjx9⟩ := hO.ix
        have ix9_0 : ix9 B1_2 = 0 := hjx9 0 _ _ rfl
        have ix9_1 : ix9 B1_3 = 1 := hjx9 1 _ _ rfl
        have ix9_2 : ix9 ub = 2 := hjx9 2 _ _ rfl
        have ix9_3 : ix9 B1 = 3 := hjx9 3 _ _ rfl
        have ix9_4 : ix9 B1_1 = 4 := hjx9 4 _ _ rfl
        have ix9_5 : ix9 nd18 = 5 := hjx9 5 _ _ rfl
        have ix9_6 : ix9 nd20 = 6 := hjx9 6 _ _ rfl
        have ix9_7 : ix9 nd19 = 7 := hjx9 7 _ _ rfl
        clear hjx9
        have pl9_0 : Base.plainAt u (B1_2) = true := hO.plain 0 rfl
        have c9_0_i_2 : u.cell? ⟨B1_2, i * 2, none⟩ = some (.nilIface) := hO.cell 0 rfl (i * 2) ((lvR_at0 D i gq))
        have c9_0_i_2_1 : u.cell? ⟨B1_2, i * 2 + 1, none⟩ = some (.int .i32 0) := hO.cell 0 rfl (i * 2 + 1) ((lvR_at1 D i gq))
        have lt9_0 : B1_2 < u.heap.size := hO.lt 0 rfl
        have y9_0 : ∀ o, u.frozen? ⟨B1_2, o, none⟩ = false := hO.free 0 rfl
        have c9_1_i : u.cell? ⟨B1_3, i, none⟩ = some (.pointer none) := hO.cell 1 rfl (i) ((clR_at D i gq))
        have lt9_1 : B1_3 < u.heap.size := hO.lt 1 rfl
        have y9_1 : ∀ o, u.frozen? ⟨B1_3, o, none⟩ = false := hO.free 1 rfl
        have c9_2_i : u.cell? ⟨ub, i, none⟩ = some (.int .u8 (U i : Int)) := hO.cell 2 rfl (i) ((itR_get hlt))
        have lt9_2 : ub < u.heap.size := hO.lt 2 rfl
        have y9_2 : ∀ o, u.frozen? ⟨ub, o, none⟩ = false := hO.free 2 rfl
        obtain ⟨c9_3_0, c9_3_1, lt9_3, y9_3, pl9_3⟩ := hO.k2 3 rfl
        obtain ⟨c9_4_0, c9_4_1, lt9_4, y9_4, pl9_4⟩ := hO.k2 4 rfl
        obtain ⟨c9_5_0, c9_5_1, c9_5_2, c9_5_3, c9_5_4, lt9_5, y9_5, -⟩ := hO.k5 5 rfl
        obtain ⟨c9_6_0, c9_6_1, c9_6_2, c9_6_3, c9_6_4, c9_6_5, c9_6_6, c9_6_7, lt9_6, y9_6, -⟩ := hO.k8 6 rfl
        obtain ⟨c9_7_0, c9_7_1, lt9_7, y9_7, pl9_7⟩ := hO.k2 7 rfl
        have HO := Lib.hid hO
        clear hO
        go_wp2_with (first | (with_reducible refine Own.stay (fn := Try.f4) ?_) | (at_builtin; refine Own.appStop ?_) | fail)
        try with_reducible refine Own.Stay.mk ?_
        have hO := HO.out
        clear HO hix9 hax9 ix9_0 ix9_1 ix9_2 ix9_3 ix9_4 ix9_5 ix9_6 ix9_7 ix9 pl9_0 c9_0_i_2 c9_0_i_2_1 lt9_0 y9_0 c9_1_i lt9_1 y9_1 c9_2_i lt9_2 y9_2 c9_3_0 c9_3_1 lt9_3 y9_3 pl9_3 c9_4_0 c9_4_1 lt9_4 y9_4 pl9_4 c9_5_0 c9_5_1 c9_5_2 c9_5_3 c9_5_4 lt9_5 y9_5 c9_6_0 c9_6_1 c9_6_2 c9_6_3 c9_6_4 c9_6_5 c9_6_6 c9_6_7 lt9_6 y9_6 c9_7_0 c9_7_1 lt9_7 y9_7 pl9_7
        generalize hW : World.setCell _ _ _ = W22
        have hN : Own w0 W22 [row (B1_2) 35 (((lvR D i (gq + 1)).setIfInBounds (i * 2) (.iface 36 (.pointer (some ⟨nd20, 0, none⟩)))).setIfInBounds (i * 2 + 1) (.int .i32 (i : Int))), row (B1_3) 36 ((clR D i (gq + 1)).setIfInBounds i (.pointer (some ⟨nd20, 0, none⟩))), row (ub) 5 (itR U n), row (B1) 27 #[.int .u32 src, .int .u32 inn], row (B1_1) 27 #[.int .u32 src, .int .u32 inx], row (nd18) 58 #[.int .u32 src, .int .u32 inx, .bool false, .bool false, .bool false], row (nd20) 46 #[.iface 56 (.pointer (some ⟨nd18, 0, none⟩)), .int .i32 (i : Int), .slice none 0 0, .int .i32 0, .int .u8 0, .int .u8 0, .bool false, .bool false], row (nd19) 35 #[.iface 36 (.pointer (some ⟨nd20, 0, none⟩)), .int .i32 (i : Int)]] X9_17 := by
          rw [← hW]
          exact (((hO).set 0 rfl (i * 2) _).set 0 rfl (i * 2 + 1) _).set 1 rfl i _
        clear hW hO
        have hO := hN
        clear hN
        rw [HX9_17.out] at hO
        obtain ⟨hDk, hDs, hDi, hDx⟩ := HD.out
        have hN : Own w0 W22 [row (nd20) 46 #[.iface 56 (.pointer (some ⟨nd18, 0, none⟩)), .int .i32 (i : Int), .slice none 0 0, .int .i32 0, .int .u8 0, .int .u8 0, .bool false, .bool false], row (nd18) 58 #[.int .u32 src, .int .u32 inx, .bool false, .bool false, .bool false], row (B1_2) 35 (((lvR D i (gq + 1)).setIfInBounds (i * 2) (.iface 36 (.pointer (some ⟨nd20, 0, none⟩)))).setIfInBounds (i * 2 + 1) (.int .i32 (i : Int))), row (B1_3) 36 ((clR D i (gq + 1)).setIfInBounds i (.pointer (some ⟨nd20, 0, none⟩))), row (ub) 5 (itR U n), row (B1) 27 #[.int .u32 src, .int .u32 inn], row (B1_1) 27 #[.int .u32 src, .int .u32 inx]] (LvX X D i) := hO.sub [6, 5, 0, 1, 2, 3, 4] (by decide)
        clear hO
        have hO := hN
        clear hN
        have hne : ∀ j, j < i → ¬ D.kd j = 0 → D.ad j ≠ nd20 := fun j hj h9 e => (hO.frame (D.ad j) _ (Or.inr ⟨j, hj, h9, Or.inl ⟨rfl, rfl⟩⟩)).2.2 _ List.mem_cons_self e.symm
        have hA := HAP.out.next nd18 hne
        have h1q := Own.give (b := nd20) (o := .cells (callC (.iface 56 (.pointer (some ⟨nd18, 0, none⟩))) (i : Int)) 46 (0, 0)) (Y := fun b o => LvX X D i b o ∨ (b = nd20 ∧ o = .cells (callC (.iface 56 (.pointer (some ⟨nd18, 0, none⟩))) (i : Int)) 46 (0, 0))) (hO.conv rfl) (fun b o h => h)
        have hN := Own.give (b := nd18) (o := .cells (idC D.src (D.inr i)) 58 (0, 0)) (Y := LvX X (updD D i nd20 nd18) (i + 1)) (h1q.conv (by rw [hDs, show D.inr i = inx from (if_neg (by rw [hkd]; decide)).trans hDx]; rfl)) (by
          intro b o h
          rcases LvX.next nd20 nd18 b o h with (h | h) | h
          · exact Or.inl (Or.inl h)
          · exact Or.inr h
          · exact Or.inl (Or.inr h))
        go_roundg gq
        case measure => omega
        case rel => exact ⟨i + 1, updD D i nd20 nd18, by omega, by first | rfl | simp, hDk, hDs, hDi, hDx, hA, Or.inl ⟨rfl, (fun q hq => (Nat.lt_succ_iff_lt_or_eq.1 hq).elim (fun h => hno q h) (fun h => by rw [h]; show D.kd i ≠ 1; rw [hkd]; decide)), hN.conv (by rw [lvR_next D i gq nd20 nd18 _ (by show _ = lfD _ _; unfold lfD; rw [if_neg (by rw [show (updD D i nd20 nd18).kd i = 2 from hkd]; decide), updD_ad]), clR_next D i gq nd20 nd18 _ (by unfold clD; rw [if_neg (by rw [show (updD D i nd20 nd18).kd i = 2 from hkd]; decide), updD_ad])])⟩⟩
    · skip
      by_cases h0 : U i % 3 = 0
      · skip
        have hrm : (U i : Int).tmod 3 = 0 := by have h9 : (U i : Int).tmod 3 = ((U i % 3 : Nat) : Int) := rfl; rw [h9]; omega
        have hkd : D.kd i = 0 := by rw [hDk]; simp only []; rw [if_pos h0]
        have HD := Lib.hid (And.intro hDk (And.intro hDs (And.intro hDi hDx)))
        have HAP := Lib.hid hap
        clear hDk hDs hDi hDx hap
        have HSL := Lib.hid hSL
        clear hSL
        have hxl : (ixV SL).length = s * 1 := by rw [ixV_length, hsl, Nat.mul_one]
        have HSN := Lib.hid hsl
        clear hsl
        have hs4 : s ≤ 4096 := by
            have h9 := HSN.out
            rw [HSL.out] at h9
            have h8 : (SLs D i).length ≤ i := by unfold SLs; exact Nat.le_trans (List.length_filter_le _ _) (by rw [List.length_range]; exact Nat.le_refl _)
            omega
        obtain ⟨X9_23, hX9_23⟩ : ∃ Y, Y = LvX X D i := ⟨_, rfl⟩
        rw [← hX9_23] at hO
        have HX9_23 := Lib.hid hX9_23
        clear hX9_23
        obtain ⟨c9_4_0, c9_4_1, lt9_4, y9_4, -⟩ := hO.k2 4 rfl
        obtain ⟨c9_5_0, c9_5_1, lt9_5, y9_5, -⟩ := hO.k2 5 rfl
        have HO := Lib.hid hO
        clear hO
        go_wp2_with (first | (with_reducible refine Own.stay (fn := Try.f4) ?_) | (at_builtin; refine Own.appStop ?_) | fail)
        try with_reducible refine Own.Stay.mk ?_
        have hO := HO.out
        clear HO c9_4_0 c9_4_1 lt9_4 y9_4 c9_5_0 c9_5_1 lt9_5 y9_5
        have st9 := rtl33f01_st U n src inn ub B1_3 B1_2 B1_1 B1 inx i D gq sb sc SL
        let R9 := rtl33f01R U n src inn ub B1_3 B1_2 B1_1 B1 inx i D gq sb sc SL
        refine wp_region_own (e := rtl33f01E U n src inn ub B1_3 B1_2 B1_1 B1 inx i D gq sb sc SL) (anc := rtl33f01Anc) (G := (fun L9 α u9 => OwnF w0 u9 (act rtl33f01Cnt 6 L9) (rtl33f01R U n src inn ub B1_3 B1_2 B1_1 B1 inx i D gq sb sc SL L9 α) X9_23)) (by kernel_rfl) (by kernel_rfl) (by kernel_rfl) (by kernel_rfl) (rtl33f01_he U n src inn ub B1_3 B1_2 B1_1 B1 inx i D gq sb sc SL) ?_ (RunsAll.all ?_) ?_
        · have hp : ∀ i, act rtl33f01Cnt 6 (fun _ => false) i → i ∈ [999, 1999, 2999, 3999, 4999, 5999] := by
            intro i hi
            have h9 : i % 1000 = 999 := by
              by_cases h : i % 1000 = 999
              · exact h
              · exact absurd (act_lt hi h) (by simp)
            unfold act at hi
            rw [if_pos h9] at hi
            simp only [List.mem_cons, List.not_mem_nil, or_false]
            omega
          refine hO.drew.family (fun i hi => ?_) (fun i j hi hj hij => ?_)
          · have := hp i hi
            simp only [List.mem_cons, List.not_mem_nil, or_false] at this
            rcases this with rfl | rfl | rfl | rfl | rfl | rfl <;> rfl
          · have h1 := hp i hi
            have h2 := hp j hj
            simp only [List.mem_cons, List.not_mem_nil, or_false] at h1 h2
            omega
        · refine ⟨?_, ?_, ?_, ?_, ?_, ?_, ?_, ?_, ?_, ?_, ?_, ?_, ?_, ?_, trivial⟩
          · intro L9 α a9 u9 K9 hL hcl hA hG hS h0 hK
            replace hL : L9 0 = false := hL
            have q15 : a9.tmps[15]? = some (.int .i64 (i : Int)) := (h0 15 (by kernel_rfl)).trans rfl
            have s15 := Rega.eval_of q15
            go_simp
            exact hK _ α _ (fun _ _ => rfl) rfl (step_same (st9) hL hcl rfl rfl hG)
          · intro L9 α a9 u9 K9 hL hcl hA hG hS h0 hK
            replace hL : L9 1 = false := hL
            have q0 : a9.tmps[0]? = some (.slice (some ⟨ub, 0, none⟩) n n) := (h0 0 (by kernel_rfl)).trans rfl
            have s0 := Rega.eval_of q0
            go_simp
            exact hK _ α _ (fun _ _ => rfl) rfl (step_same (st9) hL hcl rfl rfl hG)
          · intro L9 α a9 u9 K9 hL hcl hA hG hS h0 hK
            replace hL : L9 2 = false := hL
            have q15 : a9.tmps[15]? = some (.int .i64 (i : Int)) := (h0 15 (by kernel_rfl)).trans rfl
            have s15 := Rega.eval_of q15
            go_simp
            exact hK _ α _ (fun _ _ => rfl) rfl (step_same (st9) hL hcl rfl rfl hG)
          · intro L9 α a9 u9 K9 hL hcl hA hG hS h0 hK
            replace hL : L9 3 = false := hL
            have q63 : a9.tmps[63]? = some (.slice (some ⟨ub, 0, none⟩) n n) := hS 1 63 (by decide) rfl (by show 63 < 169; decide)
            have s63 := Rega.eval_of q63
            have q64 : a9.tmps[64]? = some (.int .i64 (i : Int)) := hS 2 64 (by decide) rfl (by show 64 < 169; decide)
            have s64 := Rega.eval_of q64
            go_simp
            exact hK _ α _ (fun _ _ => rfl) rfl (step_same (st9) hL hcl rfl rfl hG)
          · intro L9 α a9 u9 K9 hL hcl hA hG hS h0 hK
            replace hL : L9 4 = false := hL
            have q65 : a9.tmps[65]? = some (.pointer (some ⟨ub, i, none⟩)) := hS 3 65 (by decide) rfl (by show 65 < 169; decide)
            have s65 := Rega.eval_of q65
            have e0 : R9 L9 α 3999 = row (ub) 5 (itR U n) := rfl
            have hr := hG.rowAt 3999 (act_base 3999 rfl) e0
            have c0 : u9.cell? ⟨ub, i, none⟩ = some (.int .u8 (U i : Int)) := hr.cell ((itR_get hlt))
            clear hr e0
            go_simp
            exact hK _ α _ (fun _ _ => rfl) rfl (step_same (st9) hL hcl rfl rfl hG)
          · intro L9 α a9 u9 K9 hL hcl hA hG hS h0 hK
            replace hL : L9 5 = false := hL
            have q10 : a9.tmps[10]? = some (.pointer (some ⟨B1, 0, none⟩)) := (h0 10 (by kernel_rfl)).trans rfl
            have s10 := Rega.eval_of q10
            have e0 : R9 L9 α 4999 = row (B1) 27 #[.int .u32 src, .int .u32 inn] := rfl
            have hr := hG.rowAt 4999 (act_base 4999 rfl) e0
            have c0 : u9.cell? ⟨B1, 0, none⟩ = some (.int .u32 src) := hr.cell rfl
            have c1 : u9.cell? ⟨B1, 1, none⟩ = some (.int .u32 inn) := hr.cell rfl
            clear hr e0
            go_simp
            exact hK _ α _ (fun _ _ => rfl) rfl (step_same (st9) hL hcl rfl rfl hG)
          · intro L9 α a9 u9 K9 hL hcl hA hG hS h0 hK
            replace hL : L9 6 = false := hL
            have q11 : a9.tmps[11]? = some (.pointer (some ⟨B1_1, 0, none⟩)) := (h0 11 (by kernel_rfl)).trans rfl
            have s11 := Rega.eval_of q11
            have e0 : R9 L9 α 5999 = row (B1_1) 27 #[.int .u32 src, .int .u32 inx] := rfl
            have hr := hG.rowAt 5999 (act_base 5999 rfl) e0
            have c0 : u9.cell? ⟨B1_1, 0, none⟩ = some (.int .u32 src) := hr.cell rfl
            have c1 : u9.cell? ⟨B1_1, 1, none⟩ = some (.int .u32 inx) := hr.cell rfl
            clear hr e0
            go_simp
            exact hK _ α _ (fun _ _ => rfl) rfl (step_same (st9) hL hcl rfl rfl hG)
          · intro L9 α a9 u9 K9 hL hcl hA hG hS h0 hK
            replace hL : L9 7 = false := hL
            have q62 : a9.tmps[62]? = some (.int .i64 (i : Int)) := hS 0 62 (by decide) rfl (by show 62 < 169; decide)
            have s62 := Rega.eval_of q62
            have q66 : a9.tmps[66]? = some (.int .u8 (U i : Int)) := hS 4 66 (by decide) rfl (by show 66 < 169; decide)
            have s66 := Rega.eval_of q66
            have q67 : a9.tmps[67]? = some (.agg #[.int .u32 src, .int .u32 inn]) := hS 5 67 (by decide) rfl (by show 67 < 169; decide)
            have s67 := Rega.eval_of q67
            have q68 : a9.tmps[68]? = some (.agg #[.int .u32 src, .int .u32 inx]) := hS 6 68 (by decide) rfl (by show 68 < 169; decide)
            have s68 := Rega.eval_of q68
            go_simp
            have hM : ∀ i, i ∈ [] → act rtl33f01Cnt 6 L9 i := by intro i hi; simp at hi
            have hP : Own w0 u9 [] _ := hG.pick [] (by decide) (by simp)
            clear hM
            refine Calls.mono (leaf0 i (U i : Int) src inn inx _ _ _ hP (by omega) hrm) ?_
            rintro e9 u1 ⟨b0, rfl, hQ⟩
            obtain ⟨α', hα'⟩ : ∃ α' : Rega.Atoms, α' = (fun j => if j = 7 then b0 else α j) := ⟨_, rfl⟩
            have hα : ∀ j, j % 1000 ≠ 7 → α' j = α j := fun j hj => by rw [hα']; simp only []; rw [if_neg (by omega)]
            have hb0 : α' 7 = b0 := by rw [hα']; rfl
            skip
            refine hK _ α' _ hα ?_ (step_call (st9) hL hcl hα [] [] (by decide) (by decide) (by decide) (M := _) ?_ hG hQ)
            · show _ = (.tuple #[.agg #[.iface 59 (.pointer (some ⟨α' 7, 0, none⟩)), .int .i32 (i : Int)], .pointer none] : Value)
              simp only [hb0]
            · rfl
          · intro L9 α a9 u9 K9 hL hcl hA hG hS h0 hK
            replace hL : L9 8 = false := hL
            have q69 : a9.tmps[69]? = some (.tuple #[.agg #[.iface 59 (.pointer (some ⟨α 7, 0, none⟩)), .int .i32 (i : Int)], .pointer none]) := hS 7 69 (by decide) rfl (by show 69 < 169; decide)
            have s69 := Rega.eval_of q69
            go_simp
            exact hK _ α _ (fun _ _ => rfl) rfl (step_same (st9) hL hcl rfl rfl hG)
          · intro L9 α a9 u9 K9 hL hcl hA hG hS h0 hK
            replace hL : L9 9 = false := hL
            have q61 : a9.tmps[61]? = some (.tuple #[.agg #[.iface 59 (.pointer (some ⟨α 7, 0, none⟩)), .int .i32 (i : Int)], .pointer none]) := hS 8 61 (by decide) rfl (by show 61 < 169; decide)
            have s61 := Rega.eval_of q61
            go_simp
            exact hK _ α _ (fun _ _ => rfl) rfl (step_same (st9) hL hcl rfl rfl hG)
          · intro L9 α a9 u9 K9 hL hcl hA hG hS h0 hK
            replace hL : L9 10 = false := hL
            have q61 : a9.tmps[61]? = some (.tuple #[.agg #[.iface 59 (.pointer (some ⟨α 7, 0, none⟩)), .int .i32 (i : Int)], .pointer none]) := hS 8 61 (by decide) rfl (by show 61 < 169; decide)
            have s61 := Rega.eval_of q61
            go_simp
            exact hK _ α _ (fun _ _ => rfl) rfl (step_same (st9) hL hcl rfl rfl hG)
          · intro L9 α a9 u9 K9 hL hcl hA hG hS h0 hK
            replace hL : L9 11 = false := hL
            go_simp
            have e1 : R9 (Rega.ran L9 11) (fun j => if j = 11 then u9.heap.size else α j) 11 = row (u9.heap.size) 35 #[.nilIface, .int .i32 0] := by
              show rtl33f01T11 U n src inn ub B1_3 B1_2 B1_1 B1 inx i D gq sb sc SL (Rega.ran L9 11) (fun j => if j = 11 then u9.heap.size else α j) = _
              unfold rtl33f01T11
              exact ((if_neg (fun e => (fun e => by have := hcl 12 e 11 (by decide); rw [hL] at this; cases this) ((ran_ne (by decide)).symm.trans e))).trans rfl)
            exact hK _ (fun j => if j = 11 then u9.heap.size else α j) _ (fun j hj => if_neg (fun e => hj (by rw [e]))) rfl (step_alloc (st9) hL hcl rfl rfl (by decide) _ e1 hG)
          · intro L9 α a9 u9 K9 hL hcl hA hG hS h0 hK
            replace hL : L9 12 = false := hL
            have q16 : a9.tmps[16]? = some (.pointer (some ⟨α 11, 0, none⟩)) := hS 11 16 (by decide) rfl (by show 16 < 169; decide)
            have s16 := Rega.eval_of q16
            have q70 : a9.tmps[70]? = some (.agg #[.iface 59 (.pointer (some ⟨α 7, 0, none⟩)), .int .i32 (i : Int)]) := hS 9 70 (by decide) rfl (by show 70 < 169; decide)
            have s70 := Rega.eval_of q70
            have e0 : R9 L9 α 11 = row (α 11) 35 #[.nilIface, .int .i32 0] := by
              show rtl33f01T11 U n src inn ub B1_3 B1_2 B1_1 B1 inx i D gq sb sc SL L9 α = _
              unfold rtl33f01T11
              rw [if_neg (by rw [hL]; decide)]
            have hr := hG.rowAt 11 (act_new 11 rfl (hA 11 (by decide))) e0
            have c0 : u9.cell? ⟨α 11, 0, none⟩ = some (.nilIface) := hr.cell rfl
            have y0 : u9.frozen? ⟨α 11, 0, none⟩ = false := hr.free (0)
            have c1 : u9.cell? ⟨α 11, 1, none⟩ = some (.int .i32 0) := hr.cell rfl
            have y1 : u9.frozen? ⟨α 11, 1, none⟩ = false := hr.free (1)
            clear hr
            have E0 := Lib.hid e0
            clear e0
            go_simp
            have e1 : R9 (Rega.ran L9 12) α 11 = row (α 11) 35 #[.iface 59 (.pointer (some ⟨α 7, 0, none⟩)), .int .i32 (i : Int)] := by
              show rtl33f01T11 U n src inn ub B1_3 B1_2 B1_1 B1 inx i D gq sb sc SL (Rega.ran L9 12) α = _
              unfold rtl33f01T11
              rw [if_pos (show Rega.ran L9 12 12 = true from rfl)]
            exact hK _ α _ (fun _ _ => rfl) rfl (step_sets (st9) hL hcl rfl 11 rfl (act_new 11 rfl (hA 11 (by decide))) E0.out (0) [.iface 59 (.pointer (some ⟨α 7, 0, none⟩)), .int .i32 (i : Int)] (e1.trans rfl) hG)
          · intro L9 α a9 u9 K9 hL hcl hA hG hS h0 hK
            replace hL : L9 13 = false := hL
            have q71 : a9.tmps[71]? = some (.pointer none) := hS 10 71 (by decide) rfl (by show 71 < 169; decide)
            have s71 := Rega.eval_of q71
            go_simp
            exact hK _ α _ (fun _ _ => rfl) rfl (step_same (st9) hL hcl rfl rfl hG)
        clear st9
        intro α u hG
        have e0 : R9 (fun k => decide (k < 14)) α 999 = row (sb) 3 (full i64Z (ixV SL) sc) := rfl
        have e1 : R9 (fun k => decide (k < 14)) α 1999 = row (B1_2) 35 (lvR D i (gq + 1)) := rfl
        have e2 : R9 (fun k => decide (k < 14)) α 2999 = row (B1_3) 36 (clR D i (gq + 1)) := rfl
        have e3 : R9 (fun k => decide (k < 14)) α 3999 = row (ub) 5 (itR U n) := rfl
        have e4 : R9 (fun k => decide (k < 14)) α 4999 = row (B1) 27 #[.int .u32 src, .int .u32 inn] := rfl
        have e5 : R9 (fun k => decide (k < 14)) α 5999 = row (B1_1) 27 #[.int .u32 src, .int .u32 inx] := rfl
        have e6 : R9 (fun k => decide (k < 14)) α 11 = row (α 11) 35 #[.iface 59 (.pointer (some ⟨α 7, 0, none⟩)), .int .i32 (i : Int)] := by
          show rtl33f01T11 U n src inn ub B1_3 B1_2 B1_1 B1 inx i D gq sb sc SL (fun k => decide (k < 14)) α = _
          unfold rtl33f01T11
          rw [if_pos (by decide)]
        have hO : Own w0 u [row (sb) 3 (full i64Z (ixV SL) sc), row (B1_2) 35 (lvR D i (gq + 1)), row (B1_3) 36 (clR D i (gq + 1)), row (ub) 5 (itR U n), row (B1) 27 #[.int .u32 src, .int .u32 inn], row (B1_1) 27 #[.int .u32 src, .int .u32 inx], row (α 11) 35 #[.iface 59 (.pointer (some ⟨α 7, 0, none⟩)), .int .i32 (i : Int)]] X9_23 := (hG.list [999, 1999, 2999, 3999, 4999, 5999, 11] (by decide) (act_all (by decide))).conv (by
          show [R9 (fun k => decide (k < 14)) α 999, R9 (fun k => decide (k < 14)) α 1999, R9 (fun k => decide (k < 14)) α 2999, R9 (fun k => decide (k < 14)) α 3999, R9 (fun k => decide (k < 14)) α 4999, R9 (fun k => decide (k < 14)) α 5999, R9 (fun k => decide (k < 14)) α 11] = _
          rw [e0, e1, e2, e3, e4, e5, e6])
        clear hG e0 e1 e2 e3 e4 e5 e6 R9
        generalize hfr : Rega.frameAt _ _ _ _ _ = fr
        have hdf : fr = ⟨#[.slice (some ⟨ub, 0, none⟩) n n, spv, .int .u32 src, .int .u32 inn, tz4, tz5, tz6, tz7, tz8, .int .i64 (n : Int), .pointer (some ⟨B1, 0, none⟩), .pointer (some ⟨B1_1, 0, none⟩), .slice (some ⟨B1_2, 0, none⟩) n n, .slice (some ⟨B1_3, 0, none⟩) n n, .slice (some ⟨sb, 0, none⟩) s (s + sc), .int .i64 (i : Int), .pointer (some ⟨α 11, 0, none⟩), .pointer none, tz18, tz19, tz20, tz21, tz22, tz23, tz24, tz25, tz26, tz27, tz28, tz29, tz30, tz31, tz32, tz33, tz34, tz35, tz36, tz37, tz38, tz39, tz40, tz41, tz42, .slice (some ⟨ub, 0, none⟩) n n, .int .i64 (n : Int), .int .u32 src, .int .u32 inn, .agg #[.int .u32 src, .int .u32 inn], .int .u32 src, .int .u32 inn, .int .u32 inx, .agg #[.int .u32 src, .int .u32 inx], .int .i64 (n : Int), .slice (some ⟨B1_2, 0, none⟩) n n, .int .i64 (n : Int), .slice (some ⟨B1_3, 0, none⟩) n n, .int .i64 (i : Int), .int .i64 (n : Int), .bool true, u59, u60, .tuple #[.agg #[.iface 59 (.pointer (some ⟨α 7, 0, none⟩)), .int .i32 (i : Int)], .pointer none], .int .i64 (i : Int), .slice (some ⟨ub, 0, none⟩) n n, .int .i64 (i : Int), .pointer (some ⟨ub, i, none⟩), .int .u8 (U i : Int), .agg #[.int .u32 src, .int .u32 inn], .agg #[.int .u32 src, .int .u32 inx], .tuple #[.agg #[.iface 59 (.pointer (some ⟨α 7, 0, none⟩)), .int .i32 (i : Int)], .pointer none], .agg #[.iface 59 (.pointer (some ⟨α 7, 0, none⟩)), .int .i32 (i : Int)], .pointer none, u72, u73, u74, u75, u76, u77, u78, u79, u80, u81, u82, u83, u84, u85, u86, u87, u88, u89, tz90, tz91, tz92, tz93, tz94, tz95, tz96, tz97, tz98, tz99, tz100, tz101, tz102, tz103, tz104, tz105, tz106, tz107, tz108, tz109, tz110, tz111, tz112, tz113, tz114, tz115, tz116, tz117, tz118, tz119, tz120, tz121, tz122, tz123, tz124, tz125, tz126, tz127, tz128, tz129, tz130, tz131, tz132, tz133, tz134, tz135, tz136, tz137, tz138, tz139, tz140, tz141, tz142, tz143, tz144, tz145, tz146, tz147, tz148, tz149, tz150, tz151, tz152, tz153, tz154, tz155, tz156, tz157, tz158, tz159, tz160, tz161, tz162, tz163, tz164, tz165, tz166, tz167, tz168], []⟩ := by rw [← hfr]; kernel_rfl
        clear hfr
        subst hdf
        generalize α 7 = nd24 at hO ⊢
        generalize α 11 = nd25 at hO ⊢
        clear α
        obtain ⟨ix9, hix9, hax9, hjx9⟩ := hO.ix
        have ix9_0 : ix9 sb = 0 := hjx9 0 _ _ rfl
        have ix9_1 : ix9 B1_2 = 1 := hjx9 1 _ _ rfl
        have ix9_2 : ix9 B1_3 = 2 := hjx9 2 _ _ rfl
        have ix9_3 : ix9 ub = 3 := hjx9 3 _ _ rfl
        have ix9_4 : ix9 B1 = 4 := hjx9 4 _ _ rfl
        have ix9_5 : ix9 B1_1 = 5 := hjx9 5 _ _ rfl
        have ix9_6 : ix9 nd25 = 6 := hjx9 6 _ _ rfl
        clear hjx9
        have pl9_1 : Base.plainAt u (B1_2) = true := hO.plain 1 rfl
        have c9_1_i_2 : u.cell? ⟨B1_2, i * 2, none⟩ = some (.nilIface) := hO.cell 1 rfl (i * 2) ((lvR_at0 D i gq))
        have c9_1_i_2_1 : u.cell? ⟨B1_2, i * 2 + 1, none⟩ = some (.int .i32 0) := hO.cell 1 rfl (i * 2 + 1) ((lvR_at1 D i gq))
        have lt9_1 : B1_2 < u.heap.size := hO.lt 1 rfl
        have y9_1 : ∀ o, u.frozen? ⟨B1_2, o, none⟩ = false := hO.free 1 rfl
        have c9_2_i : u.cell? ⟨B1_3, i, none⟩ = some (.pointer none) := hO.cell 2 rfl (i) ((clR_at D i gq))
        have lt9_2 : B1_3 < u.heap.size := hO.lt 2 rfl
        have y9_2 : ∀ o, u.frozen? ⟨B1_3, o, none⟩ = false := hO.free 2 rfl
        have c9_3_i : u.cell? ⟨ub, i, none⟩ = some (.int .u8 (U i : Int)) := hO.cell 3 rfl (i) ((itR_get hlt))
        have lt9_3 : ub < u.heap.size := hO.lt 3 rfl
        have y9_3 : ∀ o, u.frozen? ⟨ub, o, none⟩ = false := hO.free 3 rfl
        obtain ⟨c9_4_0, c9_4_1, lt9_4, y9_4, pl9_4⟩ := hO.k2 4 rfl
        obtain ⟨c9_5_0, c9_5_1, lt9_5, y9_5, pl9_5⟩ := hO.k2 5 rfl
        obtain ⟨c9_6_0, c9_6_1, lt9_6, y9_6, pl9_6⟩ := hO.k2 6 rfl
        have HO := Lib.hid hO
        clear hO
        go_wp2_with (first | (with_reducible refine Own.stay (fn := Try.f4) ?_) | (at_builtin; refine Own.appStop ?_) | fail)
        try with_reducible refine Own.Stay.mk ?_
        have hO := HO.out
        clear HO hix9 hax9 ix9_0 ix9_1 ix9_2 ix9_3 ix9_4 ix9_5 ix9_6 ix9 pl9_1 c9_1_i_2 c9_1_i_2_1 lt9_1 y9_1 c9_2_i lt9_2 y9_2 c9_3_i lt9_3 y9_3 c9_4_0 c9_4_1 lt9_4 y9_4 pl9_4 c9_5_0 c9_5_1 lt9_5 y9_5 pl9_5 c9_6_0 c9_6_1 lt9_6 y9_6 pl9_6
        generalize hW : World.setCell _ _ _ = W27
        have hN : Own w0 W27 [row (sb) 3 (full i64Z (ixV SL) sc), row (B1_2) 35 (((lvR D i (gq + 1)).setIfInBounds (i * 2) (.iface 59 (.pointer (some ⟨nd24, 0, none⟩)))).setIfInBounds (i * 2 + 1) (.int .i32 (i : Int))), row (B1_3) 36 ((clR D i (gq + 1)).setIfInBounds i (.pointer none)), row (ub) 5 (itR U n), row (B1) 27 #[.int .u32 src, .int .u32 inn], row (B1_1) 27 #[.int .u32 src, .int .u32 inx], row (nd25) 35 #[.iface 59 (.pointer (some ⟨nd24, 0, none⟩)), .int .i32 (i : Int)]] X9_23 := by
          rw [← hW]
          exact (((hO).set 1 rfl (i * 2) _).set 1 rfl (i * 2 + 1) _).set 2 rfl i _
        clear hW hO
        have hO := hN
        clear hN
        rw [HX9_23.out] at hO
        obtain ⟨hDk, hDs, hDi, hDx⟩ := HD.out
        have hN : Own w0 W27 [row (sb) 3 (full i64Z (ixV SL) sc), row (B1_2) 35 (((lvR D i (gq + 1)).setIfInBounds (i * 2) (.iface 59 (.pointer (some ⟨nd24, 0, none⟩)))).setIfInBounds (i * 2 + 1) (.int .i32 (i : Int))), row (B1_3) 36 ((clR D i (gq + 1)).setIfInBounds i (.pointer none)), row (ub) 5 (itR U n), row (B1) 27 #[.int .u32 src, .int .u32 inn], row (B1_1) 27 #[.int .u32 src, .int .u32 inx]] (LvX X D i) := hO.sub [0, 1, 2, 3, 4, 5] (by decide)
        clear hO
        have hO := hN
        clear hN
        have hN := hO.reframe (LvX.skip nd24 0 hkd)
        have hA := HAP.out.skip nd24 0 hkd
        go_roundg gq
        case measure => omega
        case rel => exact ⟨i + 1, updD D i nd24 0, by omega, by first | rfl | simp, hDk, hDs, hDi, hDx, hA, Or.inr ⟨sb, sc, s, SL, rfl, (by rw [SLs_upd, SLs_no (by rw [hkd]; decide)]; exact HSL.out), HSN.out, by omega, hN.conv (by rw [lvR_next D i gq nd24 0 _ (by show _ = lfD _ _; unfold lfD; rw [if_pos (show (updD D i nd24 0).kd i = 0 from hkd), updD_ad]), clR_next D i gq nd24 0 _ (by unfold clD; rw [if_pos (show (updD D i nd24 0).kd i = 0 from hkd)])])⟩⟩
      by_cases h1 : U i % 3 = 1
      · skip
        have hrm : (U i : Int).tmod 3 = 1 := by have h9 : (U i : Int).tmod 3 = ((U i % 3 : Nat) : Int) := rfl; rw [h9]; omega
        have hkd : D.kd i = 1 := by rw [hDk]; simp only []; rw [if_neg h0, if_pos h1]
        have HD := Lib.hid (And.intro hDk (And.intro hDs (And.intro hDi hDx)))
        have HAP := Lib.hid hap
        clear hDk hDs hDi hDx hap
        have HSL := Lib.hid hSL
        clear hSL
        have hxl : (ixV SL).length = s * 1 := by rw [ixV_length, hsl, Nat.mul_one]
        have HSN := Lib.hid hsl
        clear hsl
        have hs4 : s ≤ 4096 := by
            have h9 := HSN.out
            rw [HSL.out] at h9
            have h8 : (SLs D i).length ≤ i := by unfold SLs; exact Nat.le_trans (List.length_filter_le _ _) (by rw [List.length_range]; exact Nat.le_refl _)
            omega
        obtain ⟨X9_28, hX9_28⟩ : ∃ Y, Y = LvX X D i := ⟨_, rfl⟩
        rw [← hX9_28] at hO
        have HX9_28 := Lib.hid hX9_28
        clear hX9_28
        obtain ⟨c9_4_0, c9_4_1, lt9_4, y9_4, -⟩ := hO.k2 4 rfl
        obtain ⟨c9_5_0, c9_5_1, lt9_5, y9_5, -⟩ := hO.k2 5 rfl
        have HO := Lib.hid hO
        clear hO
        go_wp2_with (first | (with_reducible refine Own.stay (fn := Try.f4) ?_) | (at_builtin; refine Own.appStop ?_) | fail)
        try with_reducible refine Own.Stay.mk ?_
        have hO := HO.out
        clear HO c9_4_0 c9_4_1 lt9_4 y9_4 c9_5_0 c9_5_1 lt9_5 y9_5
        have st9 := rtl33f11_st U n src inn ub B1_3 B1_2 B1_1 B1 inx i D gq sb sc SL
        let R9 := rtl33f11R U n src inn ub B1_3 B1_2 B1_1 B1 inx i D gq sb sc SL
        refine wp_region_own (e := rtl33f11E U n src inn ub B1_3 B1_2 B1_1 B1 inx i D gq sb sc SL) (anc := rtl33f11Anc) (G := (fun L9 α u9 => OwnF w0 u9 (act rtl33f11Cnt 6 L9) (rtl33f11R U n src inn ub B1_3 B1_2 B1_1 B1 inx i D gq sb sc SL L9 α) X9_28)) (by kernel_rfl) (by kernel_rfl) (by kernel_rfl) (by kernel_rfl) (rtl33f11_he U n src inn ub B1_3 B1_2 B1_1 B1 inx i D gq sb sc SL) ?_ (RunsAll.all ?_) ?_
        · have hp : ∀ i, act rtl33f11Cnt 6 (fun _ => false) i → i ∈ [999, 1999, 2999, 3999, 4999, 5999] := by
            intro i hi
            have h9 : i % 1000 = 999 := by
              by_cases h : i % 1000 = 999
              · exact h
              · exact absurd (act_lt hi h) (by simp)
            unfold act at hi
            rw [if_pos h9] at hi
            simp only [List.mem_cons, List.not_mem_nil, or_false]
            omega
          refine hO.drew.family (fun i hi => ?_) (fun i j hi hj hij => ?_)
          · have := hp i hi
            simp only [List.mem_cons, List.not_mem_nil, or_false] at this
            rcases this with rfl | rfl | rfl | rfl | rfl | rfl <;> rfl
          · have h1 := hp i hi
            have h2 := hp j hj
            simp only [List.mem_cons, List.not_mem_nil, or_false] at h1 h2
            omega
        · refine ⟨?_, ?_, ?_, ?_, ?_, ?_, ?_, ?_, ?_, ?_, ?_, ?_, ?_, ?_, trivial⟩
          · intro L9 α a9 u9 K9 hL hcl hA hG hS h0 hK
            replace hL : L9 0 = false := hL
            have q15 : a9.tmps[15]? = some (.int .i64 (i : Int)) := (h0 15 (by kernel_rfl)).trans rfl
            have s15 := Rega.eval_of q15
            go_simp
            exact hK _ α _ (fun _ _ => rfl) rfl (step_same (st9) hL hcl rfl rfl hG)
          · intro L9 α a9 u9 K9 hL hcl hA hG hS h0 hK
            replace hL : L9 1 = false := hL
            have q0 : a9.tmps[0]? = some (.slice (some ⟨ub, 0, none⟩) n n) := (h0 0 (by kernel_rfl)).trans rfl
            have s0 := Rega.eval_of q0
            go_simp
            exact hK _ α _ (fun _ _ => rfl) rfl (step_same (st9) hL hcl rfl rfl hG)
          · intro L9 α a9 u9 K9 hL hcl hA hG hS h0 hK
            replace hL : L9 2 = false := hL
            have q15 : a9.tmps[15]? = some (.int .i64 (i : Int)) := (h0 15 (by kernel_rfl)).trans rfl
            have s15 := Rega.eval_of q15
            go_simp
            exact hK _ α _ (fun _ _ => rfl) rfl (step_same (st9) hL hcl rfl rfl hG)
          · intro L9 α a9 u9 K9 hL hcl hA hG hS h0 hK
            replace hL : L9 3 = false := hL
            have q63 : a9.tmps[63]? = some (.slice (some ⟨ub, 0, none⟩) n n) := hS 1 63 (by decide) rfl (by show 63 < 169; decide)
            have s63 := Rega.eval_of q63
            have q64 : a9.tmps[64]? = some (.int .i64 (i : Int)) := hS 2 64 (by decide) rfl (by show 64 < 169; decide)
            have s64 := Rega.eval_of q64
            go_simp
            exact hK _ α _ (fun _ _ => rfl) rfl (step_same (st9) hL hcl rfl rfl hG)
          · intro L9 α a9 u9 K9 hL hcl hA hG hS h0 hK
            replace hL : L9 4 = false := hL
            have q65 : a9.tmps[65]? = some (.pointer (some ⟨ub, i, none⟩)) := hS 3 65 (by decide) rfl (by show 65 < 169; decide)
            have s65 := Rega.eval_of q65
            have e0 : R9 L9 α 3999 = row (ub) 5 (itR U n) := rfl
            have hr := hG.rowAt 3999 (act_base 3999 rfl) e0
            have c0 : u9.cell? ⟨ub, i, none⟩ = some (.int .u8 (U i : Int)) := hr.cell ((itR_get hlt))
            clear hr e0
            go_simp
            exact hK _ α _ (fun _ _ => rfl) rfl (step_same (st9) hL hcl rfl rfl hG)
          · intro L9 α a9 u9 K9 hL hcl hA hG hS h0 hK
            replace hL : L9 5 = false := hL
            have q10 : a9.tmps[10]? = some (.pointer (some ⟨B1, 0, none⟩)) := (h0 10 (by kernel_rfl)).trans rfl
            have s10 := Rega.eval_of q10
            have e0 : R9 L9 α 4999 = row (B1) 27 #[.int .u32 src, .int .u32 inn] := rfl
            have hr := hG.rowAt 4999 (act_base 4999 rfl) e0
            have c0 : u9.cell? ⟨B1, 0, none⟩ = some (.int .u32 src) := hr.cell rfl
            have c1 : u9.cell? ⟨B1, 1, none⟩ = some (.int .u32 inn) := hr.cell rfl
            clear hr e0
            go_simp
            exact hK _ α _ (fun _ _ => rfl) rfl (step_same (st9) hL hcl rfl rfl hG)
          · intro L9 α a9 u9 K9 hL hcl hA hG hS h0 hK
            replace hL : L9 6 = false := hL
            have q11 : a9.tmps[11]? = some (.pointer (some ⟨B1_1, 0, none⟩)) := (h0 11 (by kernel_rfl)).trans rfl
            have s11 := Rega.eval_of q11
            have e0 : R9 L9 α 5999 = row (B1_1) 27 #[.int .u32 src, .int .u32 inx] := rfl
            have hr := hG.rowAt 5999 (act_base 5999 rfl) e0
            have c0 : u9.cell? ⟨B1_1, 0, none⟩ = some (.int .u32 src) := hr.cell rfl
            have c1 : u9.cell? ⟨B1_1, 1, none⟩ = some (.int .u32 inx) := hr.cell rfl
            clear hr e0
            go_simp
            exact hK _ α _ (fun _ _ => rfl) rfl (step_same (st9) hL hcl rfl rfl hG)
          · intro L9 α a9 u9 K9 hL hcl hA hG hS h0 hK
            replace hL : L9 7 = false := hL
            have q62 : a9.tmps[62]? = some (.int .i64 (i : Int)) := hS 0 62 (by decide) rfl (by show 62 < 169; decide)
            have s62 := Rega.eval_of q62
            have q66 : a9.tmps[66]? = some (.int .u8 (U i : Int)) := hS 4 66 (by decide) rfl (by show 66 < 169; decide)
            have s66 := Rega.eval_of q66
            have q67 : a9.tmps[67]? = some (.agg #[.int .u32 src, .int .u32 inn]) := hS 5 67 (by decide) rfl (by show 67 < 169; decide)
            have s67 := Rega.eval_of q67
            have q68 : a9.tmps[68]? = some (.agg #[.int .u32 src, .int .u32 inx]) := hS 6 68 (by decide) rfl (by show 68 < 169; decide)
            have s68 := Rega.eval_of q68
            go_simp
            have hM : ∀ i, i ∈ [] → act rtl33f11Cnt 6 L9 i := by intro i hi; simp at hi
            have hP : Own w0 u9 [] _ := hG.pick [] (by decide) (by simp)
            clear hM
            refine Calls.mono (leaf1 i (U i : Int) src inn inx _ _ _ hP (by omega) hrm) ?_
            rintro e9 u1 ⟨b0, b1, rfl, hQ⟩
            obtain ⟨α', hα'⟩ : ∃ α' : Rega.Atoms, α' = (fun j => if j = 7 then b0 else if j = 1007 then b1 else α j) := ⟨_, rfl⟩
            have f0 : R9 (Rega.ran L9 7) α' 1007 = row (α' 1007) 46 #[.iface 56 (.pointer (some ⟨α' 7, 0, none⟩)), .int .i32 (i : Int), .slice none 0 0, .int .i32 0, .int .u8 0, .int .u8 0, .bool false, .bool false] := rfl
            have f1 : R9 (Rega.ran L9 7) α' 7 = row (α' 7) 58 #[.int .u32 src, .int .u32 inn, .bool false, .bool false, .bool false] := rfl
            have hα : ∀ j, j % 1000 ≠ 7 → α' j = α j := fun j hj => by rw [hα']; simp only []; rw [if_neg (by omega), if_neg (by omega)]
            have hb0 : α' 7 = b0 := by rw [hα']; rfl
            have hb1 : α' 1007 = b1 := by rw [hα']; rfl
            skip
            refine hK _ α' _ hα ?_ (step_call (st9) hL hcl hα [] [1007, 7] (by decide) (by decide) (by decide) (M := _) ?_ hG hQ)
            · show _ = (.tuple #[.agg #[.iface 36 (.pointer (some ⟨α' 1007, 0, none⟩)), .int .i32 (i : Int)], .pointer (some ⟨α' 1007, 0, none⟩)] : Value)
              simp only [hb1]
            · show [R9 (Rega.ran L9 7) α' 1007, R9 (Rega.ran L9 7) α' 7] = _
              rw [f0, f1]
              simp only [hb0, hb1]
          · intro L9 α a9 u9 K9 hL hcl hA hG hS h0 hK
            replace hL : L9 8 = false := hL
            have q69 : a9.tmps[69]? = some (.tuple #[.agg #[.iface 36 (.pointer (some ⟨α 1007, 0, none⟩)), .int .i32 (i : Int)], .pointer (some ⟨α 1007, 0, none⟩)]) := hS 7 69 (by decide) rfl (by show 69 < 169; decide)
            have s69 := Rega.eval_of q69
            go_simp
            exact hK _ α _ (fun _ _ => rfl) rfl (step_same (st9) hL hcl rfl rfl hG)
          · intro L9 α a9 u9 K9 hL hcl hA hG hS h0 hK
            replace hL : L9 9 = false := hL
            have q61 : a9.tmps[61]? = some (.tuple #[.agg #[.iface 36 (.pointer (some ⟨α 1007, 0, none⟩)), .int .i32 (i : Int)], .pointer (some ⟨α 1007, 0, none⟩)]) := hS 8 61 (by decide) rfl (by show 61 < 169; decide)
            have s61 := Rega.eval_of q61
            go_simp
            exact hK _ α _ (fun _ _ => rfl) rfl (step_same (st9) hL hcl rfl rfl hG)
          · intro L9 α a9 u9 K9 hL hcl hA hG hS h0 hK
            replace hL : L9 10 = false := hL
            have q61 : a9.tmps[61]? = some (.tuple #[.agg #[.iface 36 (.pointer (some ⟨α 1007, 0, none⟩)), .int .i32 (i : Int)], .pointer (some ⟨α 1007, 0, none⟩)]) := hS 8 61 (by decide) rfl (by show 61 < 169; decide)
            have s61 := Rega.eval_of q61
            go_simp
            exact hK _ α _ (fun _ _ => rfl) rfl (step_same (st9) hL hcl rfl rfl hG)
          · intro L9 α a9 u9 K9 hL hcl hA hG hS h0 hK
            replace hL : L9 11 = false := hL
            go_simp
            have e1 : R9 (Rega.ran L9 11) (fun j => if j = 11 then u9.heap.size else α j) 11 = row (u9.heap.size) 35 #[.nilIface, .int .i32 0] := by
              show rtl33f11T11 U n src inn ub B1_3 B1_2 B1_1 B1 inx i D gq sb sc SL (Rega.ran L9 11) (fun j => if j = 11 then u9.heap.size else α j) = _
              unfold rtl33f11T11
              exact ((if_neg (fun e => (fun e => by have := hcl 12 e 11 (by decide); rw [hL] at this; cases this) ((ran_ne (by decide)).symm.trans e))).trans rfl)
            exact hK _ (fun j => if j = 11 then u9.heap.size else α j) _ (fun j hj => if_neg (fun e => hj (by rw [e]))) rfl (step_alloc (st9) hL hcl rfl rfl (by decide) _ e1 hG)
          · intro L9 α a9 u9 K9 hL hcl hA hG hS h0 hK
            replace hL : L9 12 = false := hL
            have q16 : a9.tmps[16]? = some (.pointer (some ⟨α 11, 0, none⟩)) := hS 11 16 (by decide) rfl (by show 16 < 169; decide)
            have s16 := Rega.eval_of q16
            have q70 : a9.tmps[70]? = some (.agg #[.iface 36 (.pointer (some ⟨α 1007, 0, none⟩)), .int .i32 (i : Int)]) := hS 9 70 (by decide) rfl (by show 70 < 169; decide)
            have s70 := Rega.eval_of q70
            have e0 : R9 L9 α 11 = row (α 11) 35 #[.nilIface, .int .i32 0] := by
              show rtl33f11T11 U n src inn ub B1_3 B1_2 B1_1 B1 inx i D gq sb sc SL L9 α = _
              unfold rtl33f11T11
              rw [if_neg (by rw [hL]; decide)]
            have hr := hG.rowAt 11 (act_new 11 rfl (hA 11 (by decide))) e0
            have c0 : u9.cell? ⟨α 11, 0, none⟩ = some (.nilIface) := hr.cell rfl
            have y0 : u9.frozen? ⟨α 11, 0, none⟩ = false := hr.free (0)
            have c1 : u9.cell? ⟨α 11, 1, none⟩ = some (.int .i32 0) := hr.cell rfl
            have y1 : u9.frozen? ⟨α 11, 1, none⟩ = false := hr.free (1)
            clear hr
            have E0 := Lib.hid e0
            clear e0
            go_simp
            have e1 : R9 (Rega.ran L9 12) α 11 = row (α 11) 35 #[.iface 36 (.pointer (some ⟨α 1007, 0, none⟩)), .int .i32 (i : Int)] := by
              show rtl33f11T11 U n src inn ub B1_3 B1_2 B1_1 B1 inx i D gq sb sc SL (Rega.ran L9 12) α = _
              unfold rtl33f11T11
              rw [if_pos (show Rega.ran L9 12 12 = true from rfl)]
            exact hK _ α _ (fun _ _ => rfl) rfl (step_sets (st9) hL hcl rfl 11 rfl (act_new 11 rfl (hA 11 (by decide))) E0.out (0) [.iface 36 (.pointer (some ⟨α 1007, 0, none⟩)), .int .i32 (i : Int)] (e1.trans rfl) hG)
          · intro L9 α a9 u9 K9 hL hcl hA hG hS h0 hK
            replace hL : L9 13 = false := hL
            have q71 : a9.tmps[71]? = some (.pointer (some ⟨α 1007, 0, none⟩)) := hS 10 71 (by decide) rfl (by show 71 < 169; decide)
            have s71 := Rega.eval_of q71
            go_simp
            exact hK _ α _ (fun _ _ => rfl) rfl (step_same (st9) hL hcl rfl rfl hG)
        clear st9
        intro α u hG
        have e0 : R9 (fun k => decide (k < 14)) α 999 = row (sb) 3 (full i64Z (ixV SL) sc) := rfl
        have e1 : R9 (fun k => decide (k < 14)) α 1999 = row (B1_2) 35 (lvR D i (gq + 1)) := rfl
        have e2 : R9 (fun k => decide (k < 14)) α 2999 = row (B1_3) 36 (clR D i (gq + 1)) := rfl
        have e3 : R9 (fun k => decide (k < 14)) α 3999 = row (ub) 5 (itR U n) := rfl
        have e4 : R9 (fun k => decide (k < 14)) α 4999 = row (B1) 27 #[.int .u32 src, .int .u32 inn] := rfl
        have e5 : R9 (fun k => decide (k < 14)) α 5999 = row (B1_1) 27 #[.int .u32 src, .int .u32 inx] := rfl
        have e6 : R9 (fun k => decide (k < 14)) α 7 = row (α 7) 58 #[.int .u32 src, .int .u32 inn, .bool false, .bool false, .bool false] := rfl
        have e7 : R9 (fun k => decide (k < 14)) α 1007 = row (α 1007) 46 #[.iface 56 (.pointer (some ⟨α 7, 0, none⟩)), .int .i32 (i : Int), .slice none 0 0, .int .i32 0, .int .u8 0, .int .u8 0, .bool false, .bool false] := rfl
        have e8 : R9 (fun k => decide (k < 14)) α 11 = row (α 11) 35 #[.iface 36 (.pointer (some ⟨α 1007, 0, none⟩)), .int .i32 (i : Int)] := by
          show rtl33f11T11 U n src inn ub B1_3 B1_2 B1_1 B1 inx i D gq sb sc SL (fun k => decide (k < 14)) α = _
          unfold rtl33f11T11
          rw [if_pos (by decide)]
        have hO : Own w0 u [row (sb) 3 (full i64Z (ixV SL) sc), row (B1_2) 35 (lvR D i (gq + 1)), row (B1_3) 36 (clR D i (gq + 1)), row (ub) 5 (itR U n), row (B1) 27 #[.int .u32 src, .int .u32 inn], row (B1_1) 27 #[.int .u32 src, .int .u32 inx], row (α 7) 58 #[.int .u32 src, .int .u32 inn, .bool false, .bool false, .bool false], row (α 1007) 46 #[.iface 56 (.pointer (some ⟨α 7, 0, none⟩)), .int .i32 (i : Int), .slice none 0 0, .int .i32 0, .int .u8 0, .int .u8 0, .bool false, .bool false], row (α 11) 35 #[.iface 36 (.pointer (some ⟨α 1007, 0, none⟩)), .int .i32 (i : Int)]] X9_28 := (hG.list [999, 1999, 2999, 3999, 4999, 5999, 7, 1007, 11] (by decide) (act_all (by decide))).conv (by
          show [R9 (fun k => decide (k < 14)) α 999, R9 (fun k => decide (k < 14)) α 1999, R9 (fun k => decide (k < 14)) α 2999, R9 (fun k => decide (k < 14)) α 3999, R9 (fun k => decide (k < 14)) α 4999, R9 (fun k => decide (k < 14)) α 5999, R9 (fun k => decide (k < 14)) α 7, R9 (fun k => decide (k < 14)) α 1007, R9 (fun k => decide (k < 14)) α 11] = _
          rw [e0, e1, e2, e3, e4, e5, e6, e7, e8])
        clear hG e0 e1 e2 e3 e4 e5 e6 e7 e8 R9
        generalize hfr : Rega.frameAt _ _ _ _ _ = fr
        have hdf : fr = ⟨#[.slice (some ⟨ub, 0, none⟩) n n, spv, .int .u32 src, .int .u32 inn, tz4, tz5, tz6, tz7, tz8, .int .i64 (n : Int), .pointer (some ⟨B1, 0, none⟩), .pointer (some ⟨B1_1, 0, none⟩), .slice (some ⟨B1_2, 0, none⟩) n n, .slice (some ⟨B1_3, 0, none⟩) n n, .slice (some ⟨sb, 0, none⟩) s (s + sc), .int .i64 (i : Int), .pointer (some ⟨α 11, 0, none⟩), .pointer (some ⟨α 1007, 0, none⟩), tz18, tz19, tz20, tz21, tz22, tz23, tz24, tz25, tz26, tz27, tz28, tz29, tz30, tz31, tz32, tz33, tz34, tz35, tz36, tz37, tz38, tz39, tz40, tz41, tz42, .slice (some ⟨ub, 0, none⟩) n n, .int .i64 (n : Int), .int .u32 src, .int .u32 inn, .agg #[.int .u32 src, .int .u32 inn], .int .u32 src, .int .u32 inn, .int .u32 inx, .agg #[.int .u32 src, .int .u32 inx], .int .i64 (n : Int), .slice (some ⟨B1_2, 0, none⟩) n n, .int .i64 (n : Int), .slice (some ⟨B1_3, 0, none⟩) n n, .int .i64 (i : Int), .int .i64 (n : Int), .bool true, u59, u60, .tuple #[.agg #[.iface 36 (.pointer (some ⟨α 1007, 0, none⟩)), .int .i32 (i : Int)], .pointer (some ⟨α 1007, 0, none⟩)], .int .i64 (i : Int), .slice (some ⟨ub, 0, none⟩) n n, .int .i64 (i : Int), .pointer (some ⟨ub, i, none⟩), .int .u8 (U i : Int), .agg #[.int .u32 src, .int .u32 inn], .agg #[.int .u32 src, .int .u32 inx], .tuple #[.agg #[.iface 36 (.pointer (some ⟨α 1007, 0, none⟩)), .int .i32 (i : Int)], .pointer (some ⟨α 1007, 0, none⟩)], .agg #[.iface 36 (.pointer (some ⟨α 1007, 0, none⟩)), .int .i32 (i : Int)], .pointer (some ⟨α 1007, 0, none⟩), u72, u73, u74, u75, u76, u77, u78, u79, u80, u81, u82, u83, u84, u85, u86, u87, u88, u89, tz90, tz91, tz92, tz93, tz94, tz95, tz96, tz97, tz98, tz99, tz100, tz101, tz102, tz103, tz104, tz105, tz106, tz107, tz108, tz109, tz110, tz111, tz112, tz113, tz114, tz115, tz116, tz117, tz118, tz119, tz120, tz121, tz122, tz123, tz124, tz125, tz126, tz127, tz128, tz129, tz130, tz131, tz132, tz133, tz134, tz135, tz136, tz137, tz138, tz139, tz140, tz141, tz142, tz143, tz144, tz145, tz146, tz147, tz148, tz149, tz150, tz151, tz152, tz153, tz154, tz155, tz156, tz157, tz158, tz159, tz160, tz161, tz162, tz163, tz164, tz165, tz166, tz167, tz168], []⟩ := by rw [← hfr]; kernel_rfl
        clear hfr
        subst hdf
        generalize α 7 = nd29 at hO ⊢
        generalize α 11 = nd30 at hO ⊢
        generalize α 1007 = nd31 at hO ⊢
        clear α
        obtain ⟨ix9, hix9, hax9, hjx9⟩ := hO.ix
        have ix9_0 : ix9 sb = 0 := hjx9 0 _ _ rfl
        have ix9_1 : ix9 B1_2 = 1 := hjx9 1 _ _ rfl
        have ix9_2 : ix9 B1_3 = 2 := hjx9 2 _ _ rfl
        have ix9_3 : ix9 ub = 3 := hjx9 3 _ _ rfl
        have ix9_4 : ix9 B1 = 4 := hjx9 4 _ _ rfl
        have ix9_5 : ix9 B1_1 = 5 := hjx9 5 _ _ rfl
        have ix9_6 : ix9 nd29 = 6 := hjx9 6 _ _ rfl
        have ix9_7 : ix9 nd31 = 7 := hjx9 7 _ _ rfl
        have ix9_8 : ix9 nd30 = 8 := hjx9 8 _ _ rfl
        clear hjx9
        have pl9_1 : Base.plainAt u (B1_2) = true := hO.plain 1 rfl
        have c9_1_i_2 : u.cell? ⟨B1_2, i * 2, none⟩ = some (.nilIface) := hO.cell 1 rfl (i * 2) ((lvR_at0 D i gq))
        have c9_1_i_2_1 : u.cell? ⟨B1_2, i * 2 + 1, none⟩ = some (.int .i32 0) := hO.cell 1 rfl (i * 2 + 1) ((lvR_at1 D i gq))
        have lt9_1 : B1_2 < u.heap.size := hO.lt 1 rfl
        have y9_1 : ∀ o, u.frozen? ⟨B1_2, o, none⟩ = false := hO.free 1 rfl
        have c9_2_i : u.cell? ⟨B1_3, i, none⟩ = some (.pointer none) := hO.cell 2 rfl (i) ((clR_at D i gq))
        have lt9_2 : B1_3 < u.heap.size := hO.lt 2 rfl
        have y9_2 : ∀ o, u.frozen? ⟨B1_3, o, none⟩ = false := hO.free 2 rfl
        have c9_3_i : u.cell? ⟨ub, i, none⟩ = some (.int .u8 (U i : Int)) := hO.cell 3 rfl (i) ((itR_get hlt))
        have lt9_3 : ub < u.heap.size := hO.lt 3 rfl
        have y9_3 : ∀ o, u.frozen? ⟨ub, o, none⟩ = false := hO.free 3 rfl
        obtain ⟨c9_4_0, c9_4_1, lt9_4, y9_4, pl9_4⟩ := hO.k2 4 rfl
        obtain ⟨c9_5_0, c9_5_1, lt9_5, y9_5, pl9_5⟩ := hO.k2 5 rfl
        obtain ⟨c9_6_0, c9_6_1, c9_6_2, c9_6_3, c9_6_4, lt9_6, y9_6, -⟩ := hO.k5 6 rfl
        obtain ⟨c9_7_0, c9_7_1, c9_7_2, c9_7_3, c9_7_4, c9_7_5, c9_7_6, c9_7_7, lt9_7, y9_7, -⟩ := hO.k8 7 rfl
        obtain ⟨c9_8_0, c9_8_1, lt9_8, y9_8, pl9_8⟩ := hO.k2 8 rfl
        have HO := Lib.hid hO
        clear hO
        go_wp2_with (first | (with_reducible refine Own.stay (fn := Try.f4) ?_) | (at_builtin; refine Own.appStop ?_) | fail)
        try with_reducible refine Own.Stay.mk ?_
        have hO := HO.out
        clear HO hix9 hax9 ix9_0 ix9_1 ix9_2 ix9_3 ix9_4 ix9_5 ix9_6 ix9_7 ix9_8 ix9 pl9_1 c9_1_i_2 c9_1_i_2_1 lt9_1 y9_1 c9_2_i lt9_2 y9_2 c9_3_i lt9_3 y9_3 c9_4_0 c9_4_1 lt9_4 y9_4 pl9_4 c9_5_0 c9_5_1 lt9_5 y9_5 pl9_5 c9_6_0 c9_6_1 c9_6_2 c9_6_3 c9_6_4 lt9_6 y9_6 c9_7_0 c9_7_1 c9_7_2 c9_7_3 c9_7_4 c9_7_5 c9_7_6 c9_7_7 lt9_7 y9_7 c9_8_0 c9_8_1 lt9_8 y9_8 pl9_8
        generalize hW : World.alloc _ _ = W33
        have hN : Own w0 W33 [row (u.heap.size) 3 #[.int .i64 (i : Int)], row (sb) 3 (full i64Z (ixV SL) sc), row (B1_2) 35 (((lvR D i (gq + 1)).setIfInBounds (i * 2) (.iface 36 (.pointer (some ⟨nd31, 0, none⟩)))).setIfInBounds (i * 2 + 1) (.int .i32 (i : Int))), row (B1_3) 36 ((clR D i (gq + 1)).setIfInBounds i (.pointer (some ⟨nd31, 0, none⟩))), row (ub) 5 (itR U n), row (B1) 27 #[.int .u32 src, .int .u32 inn], row (B1_1) 27 #[.int .u32 src, .int .u32 inx], row (nd29) 58 #[.int .u32 src, .int .u32 inn, .bool false, .bool false, .bool false], row (nd31) 46 #[.iface 56 (.pointer (some ⟨nd29, 0, none⟩)), .int .i32 (i : Int), .slice none 0 0, .int .i32 0, .int .u8 0, .int .u8 0, .bool false, .bool false], row (nd30) 35 #[.iface 36 (.pointer (some ⟨nd31, 0, none⟩)), .int .i32 (i : Int)]] X9_28 := by
          rw [← hW]
          exact ((((hO).set 1 rfl (i * 2) _).set 1 rfl (i * 2 + 1) _).set 2 rfl i _).alloc' _ (u.heap.size) (by simp)
        clear hW hO
        generalize u.heap.size = B32 at hN ⊢
        have hO := hN
        clear hN
        refine Own.AppStop.mk ?_
        obtain ⟨i9, hi9, z1, z2, z3⟩ := info_parts infoI64
        have hL := hO.apart
        have hX := hO.apartX
        have HL := Lib.hid hL
        have HX := Lib.hid hX
        clear hL hX
        have hP9 := hO.pick [1, 0] (by decide)
        refine Own.wpList_append_full rfl (.tmp 86) (.tmp 88) 54 rfl 3 i9 (.int .i64 0) 1 8 Try.underlying54 hi9 z1 z2 z3 rfl (by decide) hP9 rfl rfl (by first | rfl | assumption | (simp; done) | (simp; omega)) (by first | rfl | assumption | omega) rfl (oneAll rfl) (by first | decide | omega | (unfold maxLen; omega)) (by first | decide | omega | (unfold maxLen; omega)) ?_
        intro nd34 nc35 u36 hQ
        clear hP9
        have hN : Own w0 u36 [row (nd34) 3 (full i64Z ((ixV SL) ++ [.int .i64 (i : Int)]) nc35), row (B32) 3 #[.int .i64 (i : Int)], row (B1_2) 35 (((lvR D i (gq + 1)).setIfInBounds (i * 2) (.iface 36 (.pointer (some ⟨nd31, 0, none⟩)))).setIfInBounds (i * 2 + 1) (.int .i32 (i : Int))), row (B1_3) 36 ((clR D i (gq + 1)).setIfInBounds i (.pointer (some ⟨nd31, 0, none⟩))), row (ub) 5 (itR U n), row (B1) 27 #[.int .u32 src, .int .u32 inn], row (B1_1) 27 #[.int .u32 src, .int .u32 inx], row (nd29) 58 #[.int .u32 src, .int .u32 inn, .bool false, .bool false, .bool false], row (nd31) 46 #[.iface 56 (.pointer (some ⟨nd29, 0, none⟩)), .int .i32 (i : Int), .slice none 0 0, .int .i32 0, .int .u8 0, .int .u8 0, .bool false, .bool false], row (nd30) 35 #[.iface 36 (.pointer (some ⟨nd31, 0, none⟩)), .int .i32 (i : Int)]] X9_28 := hQ.back HL.out HX.out [2, 3, 4, 5, 6, 7, 8, 9] (by decide) (by decide)
        clear hQ HL HX hO
        have hO := hN
        clear hN
        obtain ⟨c9_1_0, lt9_1, y9_1, -⟩ := hO.k1 1 rfl
        obtain ⟨c9_5_0, c9_5_1, lt9_5, y9_5, -⟩ := hO.k2 5 rfl
        obtain ⟨c9_6_0, c9_6_1, lt9_6, y9_6, -⟩ := hO.k2 6 rfl
        obtain ⟨c9_7_0, c9_7_1, c9_7_2, c9_7_3, c9_7_4, lt9_7, y9_7, -⟩ := hO.k5 7 rfl
        obtain ⟨c9_8_0, c9_8_1, c9_8_2, c9_8_3, c9_8_4, c9_8_5, c9_8_6, c9_8_7, lt9_8, y9_8, -⟩ := hO.k8 8 rfl
        obtain ⟨c9_9_0, c9_9_1, lt9_9, y9_9, -⟩ := hO.k2 9 rfl
        have HO := Lib.hid hO
        clear hO
        go_wp2_with (first | (with_reducible refine Own.stay (fn := Try.f4) ?_) | (at_builtin; refine Own.appStop ?_) | fail)
        try with_reducible refine Own.Stay.mk ?_
        have hO := HO.out
        clear HO c9_1_0 lt9_1 y9_1 c9_5_0 c9_5_1 lt9_5 y9_5 c9_6_0 c9_6_1 lt9_6 y9_6 c9_7_0 c9_7_1 c9_7_2 c9_7_3 c9_7_4 lt9_7 y9_7 c9_8_0 c9_8_1 c9_8_2 c9_8_3 c9_8_4 c9_8_5 c9_8_6 c9_8_7 lt9_8 y9_8 c9_9_0 c9_9_1 lt9_9 y9_9
        rw [HX9_28.out] at hO
        obtain ⟨hDk, hDs, hDi, hDx⟩ := HD.out
        have hN : Own w0 u36 [row (nd31) 46 #[.iface 56 (.pointer (some ⟨nd29, 0, none⟩)), .int .i32 (i : Int), .slice none 0 0, .int .i32 0, .int .u8 0, .int .u8 0, .bool false, .bool false], row (nd29) 58 #[.int .u32 src, .int .u32 inn, .bool false, .bool false, .bool false], row (nd34) 3 (full i64Z ((ixV SL) ++ [.int .i64 (i : Int)]) nc35), row (B1_2) 35 (((lvR D i (gq + 1)).setIfInBounds (i * 2) (.iface 36 (.pointer (some ⟨nd31, 0, none⟩)))).setIfInBounds (i * 2 + 1) (.int .i32 (i : Int))), row (B1_3) 36 ((clR D i (gq + 1)).setIfInBounds i (.pointer (some ⟨nd31, 0, none⟩))), row (ub) 5 (itR U n), row (B1) 27 #[.int .u32 src, .int .u32 inn], row (B1_1) 27 #[.int .u32 src, .int .u32 inx]] (LvX X D i) := hO.sub [8, 7, 0, 2, 3, 4, 5, 6] (by decide)
        clear hO
        have hO := hN
        clear hN
        have hne : ∀ j, j < i → ¬ D.kd j = 0 → D.ad j ≠ nd31 := fun j hj h9 e => (hO.frame (D.ad j) _ (Or.inr ⟨j, hj, h9, Or.inl ⟨rfl, rfl⟩⟩)).2.2 _ List.mem_cons_self e.symm
        have hA := HAP.out.next nd29 hne
        have h1q := Own.give (b := nd31) (o := .cells (callC (.iface 56 (.pointer (some ⟨nd29, 0, none⟩))) (i : Int)) 46 (0, 0)) (Y := fun b o => LvX X D i b o ∨ (b = nd31 ∧ o = .cells (callC (.iface 56 (.pointer (some ⟨nd29, 0, none⟩))) (i : Int)) 46 (0, 0))) (hO.conv rfl) (fun b o h => h)
        have hN := Own.give (b := nd29) (o := .cells (idC D.src (D.inr i)) 58 (0, 0)) (Y := LvX X (updD D i nd31 nd29) (i + 1)) (h1q.conv (by rw [hDs, show D.inr i = inn from (if_pos hkd).trans hDi]; rfl)) (by
          intro b o h
          rcases LvX.next nd31 nd29 b o h with (h | h) | h
          · exact Or.inl (Or.inl h)
          · exact Or.inr h
          · exact Or.inl (Or.inr h))
        go_roundg gq
        case measure => omega
        case rel => exact ⟨i + 1, updD D i nd31 nd29, by omega, by first | rfl | simp, hDk, hDs, hDi, hDx, hA, Or.inr ⟨nd34, nc35, s + 1, SL ++ [i], rfl, (by rw [SLs_upd, SLs_yes hkd, ← HSL.out]), (by rw [List.length_append, HSN.out]; rfl), by omega, hN.conv (by rw [lvR_next D i gq nd31 nd29 _ (by show _ = lfD _ _; unfold lfD; rw [if_neg (by rw [show (updD D i nd31 nd29).kd i = 1 from hkd]; decide), updD_ad]), clR_next D i gq nd31 nd29 _ (by unfold clD; rw [if_neg (by rw [show (updD D i nd31 nd29).kd i = 1 from hkd]; decide), updD_ad]), ixV_one])⟩⟩
      · skip
        have hrm : (U i : Int).tmod 3 = 2 := by have h9 : (U i : Int).tmod 3 = ((U i % 3 : Nat) : Int) := rfl; rw [h9]; omega
        have hkd : D.kd i = 2 := by rw [hDk]; simp only []; rw [if_neg h0, if_neg h1]
        have HD := Lib.hid (And.intro hDk (And.intro hDs (And.intro hDi hDx)))
        have HAP := Lib.hid hap
        clear hDk hDs hDi hDx hap
        have HSL := Lib.hid hSL
        clear hSL
        have hxl : (ixV SL).length = s * 1 := by rw [ixV_length, hsl, Nat.mul_one]
        have HSN := Lib.hid hsl
        clear hsl
        have hs4 : s ≤ 4096 := by
            have h9 := HSN.out
            rw [HSL.out] at h9
            have h8 : (SLs D i).length ≤ i := by unfold SLs; exact Nat.le_trans (List.length_filter_le _ _) (by rw [List.length_range]; exact Nat.le_refl _)
            omega
        obtain ⟨X9_37, hX9_37⟩ : ∃ Y, Y = LvX X D i := ⟨_, rfl⟩
        rw [← hX9_37] at hO
        have HX9_37 := Lib.hid hX9_37
        clear hX9_37
        obtain ⟨c9_4_0, c9_4_1, lt9_4, y9_4, -⟩ := hO.k2 4 rfl
        obtain ⟨c9_5_0, c9_5_1, lt9_5, y9_5, -⟩ := hO.k2 5 rfl
        have HO := Lib.hid hO
        clear hO
        go_wp2_with (first | (with_reducible refine Own.stay (fn := Try.f4) ?_) | (at_builtin; refine Own.appStop ?_) | fail)
        try with_reducible refine Own.Stay.mk ?_
        have hO := HO.out
        clear HO c9_4_0 c9_4_1 lt9_4 y9_4 c9_5_0 c9_5_1 lt9_5 y9_5
        have st9 := rtl33f21_st U n src inn ub B1_3 B1_2 B1_1 B1 inx i D gq sb sc SL
        let R9 := rtl33f21R U n src inn ub B1_3 B1_2 B1_1 B1 inx i D gq sb sc SL
        refine wp_region_own (e := rtl33f21E U n src inn ub B1_3 B1_2 B1_1 B1 inx i D gq sb sc SL) (anc := rtl33f21Anc) (G := (fun L9 α u9 => OwnF w0 u9 (act rtl33f21Cnt 6 L9) (rtl33f21R U n src inn ub B1_3 B1_2 B1_1 B1 inx i D gq sb sc SL L9 α) X9_37)) (by kernel_rfl) (by kernel_rfl) (by kernel_rfl) (by kernel_rfl) (rtl33f21_he U n src inn ub B1_3 B1_2 B1_1 B1 inx i D gq sb sc SL) ?_ (RunsAll.all ?_) ?_
        · have hp : ∀ i, act rtl33f21Cnt 6 (fun _ => false) i → i ∈ [999, 1999, 2999, 3999, 4999, 5999] := by
            intro i hi
            have h9 : i % 1000 = 999 := by
              by_cases h : i % 1000 = 999
              · exact h
              · exact absurd (act_lt hi h) (by simp)
            unfold act at hi
            rw [if_pos h9] at hi
            simp only [List.mem_cons, List.not_mem_nil, or_false]
            omega
          refine hO.drew.family (fun i hi => ?_) (fun i j hi hj hij => ?_)
          · have := hp i hi
            simp only [List.mem_cons, List.not_mem_nil, or_false] at this
            rcases this with rfl | rfl | rfl | rfl | rfl | rfl <;> rfl
          · have h1 := hp i hi
            have h2 := hp j hj
            simp only [List.mem_cons, List.not_mem_nil, or_false] at h1 h2
            omega
        · refine ⟨?_, ?_, ?_, ?_, ?_, ?_, ?_, ?_, ?_, ?_, ?_, ?_, ?_, ?_, trivial⟩
          · intro L9 α a9 u9 K9 hL hcl hA hG hS h0 hK
            replace hL : L9 0 = false := hL
            have q15 : a9.tmps[15]? = some (.int .i64 (i : Int)) := (h0 15 (by kernel_rfl)).trans rfl
            have s15 := Rega.eval_of q15
            go_simp
            exact hK _ α _ (fun _ _ => rfl) rfl (step_same (st9) hL hcl rfl rfl hG)
          · intro L9 α a9 u9 K9 hL hcl hA hG hS h0 hK
            replace hL : L9 1 = false := hL
            have q0 : a9.tmps[0]? = some (.slice (some ⟨ub, 0, none⟩) n n) := (h0 0 (by kernel_rfl)).trans rfl
            have s0 := Rega.eval_of q0
            go_simp
            exact hK _ α _ (fun _ _ => rfl) rfl (step_same (st9) hL hcl rfl rfl hG)
          · intro L9 α a9 u9 K9 hL hcl hA hG hS h0 hK
            replace hL : L9 2 = false := hL
            have q15 : a9.tmps[15]? = some (.int .i64 (i : Int)) := (h0 15 (by kernel_rfl)).trans rfl
            have s15 := Rega.eval_of q15
            go_simp
            exact hK _ α _ (fun _ _ => rfl) rfl (step_same (st9) hL hcl rfl rfl hG)
          · intro L9 α a9 u9 K9 hL hcl hA hG hS h0 hK
            replace hL : L9 3 = false := hL
            have q63 : a9.tmps[63]? = some (.slice (some ⟨ub, 0, none⟩) n n) := hS 1 63 (by decide) rfl (by show 63 < 169; decide)
            have s63 := Rega.eval_of q63
            have q64 : a9.tmps[64]? = some (.int .i64 (i : Int)) := hS 2 64 (by decide) rfl (by show 64 < 169; decide)
            have s64 := Rega.eval_of q64
            go_simp
            exact hK _ α _ (fun _ _ => rfl) rfl (step_same (st9) hL hcl rfl rfl hG)
          · intro L9 α a9 u9 K9 hL hcl hA hG hS h0 hK
            replace hL : L9 4 = false := hL
            have q65 : a9.tmps[65]? = some (.pointer (some ⟨ub, i, none⟩)) := hS 3 65 (by decide) rfl (by show 65 < 169; decide)
            have s65 := Rega.eval_of q65
            have e0 : R9 L9 α 3999 = row (ub) 5 (itR U n) := rfl
            have hr := hG.rowAt 3999 (act_base 3999 rfl) e0
            have c0 : u9.cell? ⟨ub, i, none⟩ = some (.int .u8 (U i : Int)) := hr.cell ((itR_get hlt))
            clear hr e0
            go_simp
            exact hK _ α _ (fun _ _ => rfl) rfl (step_same (st9) hL hcl rfl rfl hG)
          · intro L9 α a9 u9 K9 hL hcl hA hG hS h0 hK
            replace hL : L9 5 = false := hL
            have q10 : a9.tmps[10]? = some (.pointer (some ⟨B1, 0, none⟩)) := (h0 10 (by kernel_rfl)).trans rfl
            have s10 := Rega.eval_of q10
            have e0 : R9 L9 α 4999 = row (B1) 27 #[.int .u32 src, .int .u32 inn] := rfl
            have hr := hG.rowAt 4999 (act_base 4999 rfl) e0
            have c0 : u9.cell? ⟨B1, 0, none⟩ = some (.int .u32 src) := hr.cell rfl
            have c1 : u9.cell? ⟨B1, 1, none⟩ = some (.int .u32 inn) := hr.cell rfl
            clear hr e0
            go_simp
            exact hK _ α _ (fun _ _ => rfl) rfl (step_same (st9) hL hcl rfl rfl hG)
          · intro L9 α a9 u9 K9 hL hcl hA hG hS h0 hK
            replace hL : L9 6 = false := hL
            have q11 : a9.tmps[11]? = some (.pointer (some ⟨B1_1, 0, none⟩)) := (h0 11 (by kernel_rfl)).trans rfl
            have s11 := Rega.eval_of q11
            have e0 : R9 L9 α 5999 = row (B1_1) 27 #[.int .u32 src, .int .u32 inx] := rfl
            have hr := hG.rowAt 5999 (act_base 5999 rfl) e0
            have c0 : u9.cell? ⟨B1_1, 0, none⟩ = some (.int .u32 src) := hr.cell rfl
            have c1 : u9.cell? ⟨B1_1, 1, none⟩ = some (.int .u32 inx) := hr.cell rfl
            clear hr e0
            go_simp
            exact hK _ α _ (fun _ _ => rfl) rfl (step_same (st9) hL hcl rfl rfl hG)
          · intro L9 α a9 u9 K9 hL hcl hA hG hS h0 hK
            replace hL : L9 7 = false := hL
            have q62 : a9.tmps[62]? = some (.int .i64 (i : Int)) := hS 0 62 (by decide) rfl (by show 62 < 169; decide)
            have s62 := Rega.eval_of q62
            have q66 : a9.tmps[66]? = some (.int .u8 (U i : Int)) := hS 4 66 (by decide) rfl (by show 66 < 169; decide)
            have s66 := Rega.eval_of q66
            have q67 : a9.tmps[67]? = some (.agg #[.int .u32 src, .int .u32 inn]) := hS 5 67 (by decide) rfl (by show 67 < 169; decide)
            have s67 := Rega.eval_of q67
            have q68 : a9.tmps[68]? = some (.agg #[.int .u32 src, .int .u32 inx]) := hS 6 68 (by decide) rfl (by show 68 < 169; decide)
            have s68 := Rega.eval_of q68
            go_simp
            have hM : ∀ i, i ∈ [] → act rtl33f21Cnt 6 L9 i := by intro i hi; simp at hi
            have hP : Own w0 u9 [] _ := hG.pick [] (by decide) (by simp)
            clear hM
            refine Calls.mono (leaf2 i (U i : Int) src inn inx _ _ _ hP (by omega) hrm) ?_
            rintro e9 u1 ⟨b0, b1, rfl, hQ⟩
            obtain ⟨α', hα'⟩ : ∃ α' : Rega.Atoms, α' = (fun j => if j = 7 then b0 else if j = 1007 then b1 else α j) := ⟨_, rfl⟩
            have f0 : R9 (Rega.ran L9 7) α' 1007 = row (α' 1007) 46 #[.iface 56 (.pointer (some ⟨α' 7, 0, none⟩)), .int .i32 (i : Int), .slice none 0 0, .int .i32 0, .int .u8 0, .int .u8 0, .bool false, .bool false] := rfl
            have f1 : R9 (Rega.ran L9 7) α' 7 = row (α' 7) 58 #[.int .u32 src, .int .u32 inx, .bool false, .bool false, .bool false] := rfl
            have hα : ∀ j, j % 1000 ≠ 7 → α' j = α j := fun j hj => by rw [hα']; simp only []; rw [if_neg (by omega), if_neg (by omega)]
            have hb0 : α' 7 = b0 := by rw [hα']; rfl
            have hb1 : α' 1007 = b1 := by rw [hα']; rfl
            skip
            refine hK _ α' _ hα ?_ (step_call (st9) hL hcl hα [] [1007, 7] (by decide) (by decide) (by decide) (M := _) ?_ hG hQ)
            · show _ = (.tuple #[.agg #[.iface 36 (.pointer (some ⟨α' 1007, 0, none⟩)), .int .i32 (i : Int)], .pointer (some ⟨α' 1007, 0, none⟩)] : Value)
              simp only [hb1]
            · show [R9 (Rega.ran L9 7) α' 1007, R9 (Rega.ran L9 7) α' 7] = _
              rw [f0, f1]
              simp only [hb0, hb1]
          · intro L9 α a9 u9 K9 hL hcl hA hG hS h0 hK
            replace hL : L9 8 = false := hL
            have q69 : a9.tmps[69]? = some (.tuple #[.agg #[.iface 36 (.pointer (some ⟨α 1007, 0, none⟩)), .int .i32 (i : Int)], .pointer (some ⟨α 1007, 0, none⟩)]) := hS 7 69 (by decide) rfl (by show 69 < 169; decide)
            have s69 := Rega.eval_of q69
            go_simp
            exact hK _ α _ (fun _ _ => rfl) rfl (step_same (st9) hL hcl rfl rfl hG)
          · intro L9 α a9 u9 K9 hL hcl hA hG hS h0 hK
            replace hL : L9 9 = false := hL
            have q61 : a9.tmps[61]? = some (.tuple #[.agg #[.iface 36 (.pointer (some ⟨α 1007, 0, none⟩)), .int .i32 (i : Int)], .pointer (some ⟨α 1007, 0, none⟩)]) := hS 8 61 (by decide) rfl (by show 61 < 169; decide)
            have s61 := Rega.eval_of q61
            go_simp
            exact hK _ α _ (fun _ _ => rfl) rfl (step_same (st9) hL hcl rfl rfl hG)
          · intro L9 α a9 u9 K9 hL hcl hA hG hS h0 hK
            replace hL : L9 10 = false := hL
            have q61 : a9.tmps[61]? = some (.tuple #[.agg #[.iface 36 (.pointer (some ⟨α 1007, 0, none⟩)), .int .i32 (i : Int)], .pointer (some ⟨α 1007, 0, none⟩)]) := hS 8 61 (by decide) rfl (by show 61 < 169; decide)
            have s61 := Rega.eval_of q61
            go_simp
            exact hK _ α _ (fun _ _ => rfl) rfl (step_same (st9) hL hcl rfl rfl hG)
          · intro L9 α a9 u9 K9 hL hcl hA hG hS h0 hK
            replace hL : L9 11 = false := hL
            go_simp
            have e1 : R9 (Rega.ran L9 11) (fun j => if j = 11 then u9.heap.size else α j) 11 = row (u9.heap.size) 35 #[.nilIface, .int .i32 0] := by
              show rtl33f21T11 U n src inn ub B1_3 B1_2 B1_1 B1 inx i D gq sb sc SL (Rega.ran L9 11) (fun j => if j = 11 then u9.heap.size else α j) = _
              unfold rtl33f21T11
              exact ((if_neg (fun e => (fun e => by have := hcl 12 e 11 (by decide); rw [hL] at this; cases this) ((ran_ne (by decide)).symm.trans e))).trans rfl)
            exact hK _ (fun j => if j = 11 then u9.heap.size else α j) _ (fun j hj => if_neg (fun e => hj (by rw [e]))) rfl (step_alloc (st9) hL hcl rfl rfl (by decide) _ e1 hG)
          · intro L9 α a9 u9 K9 hL hcl hA hG hS h0 hK
            replace hL : L9 12 = false := hL
            have q16 : a9.tmps[16]? = some (.pointer (some ⟨α 11, 0, none⟩)) := hS 11 16 (by decide) rfl (by show 16 < 169; decide)
            have s16 := Rega.eval_of q16
            have q70 : a9.tmps[70]? = some (.agg #[.iface 36 (.pointer (some ⟨α 1007, 0, none⟩)), .int .i32 (i : Int)]) := hS 9 70 (by decide) rfl (by show 70 < 169; decide)
            have s70 := Rega.eval_of q70
            have e0 : R9 L9 α 11 = row (α 11) 35 #[.nilIface, .int .i32 0] := by
              show rtl33f21T11 U n src inn ub B1_3 B1_2 B1_1 B1 inx i D gq sb sc SL L9 α = _
              unfold rtl33f21T11
              rw [if_neg (by rw [hL]; decide)]
            have hr := hG.rowAt 11 (act_new 11 rfl (hA 11 (by decide))) e0
            have c0 : u9.cell? ⟨α 11, 0, none⟩ = some (.nilIface) := hr.cell rfl
            have y0 : u9.frozen? ⟨α 11, 0, none⟩ = false := hr.free (0)
            have c1 : u9.cell? ⟨α 11, 1, none⟩ = some (.int .i32 0) := hr.cell rfl
            have y1 : u9.frozen? ⟨α 11, 1, none⟩ = false := hr.free (1)
            clear hr
            have E0 := Lib.hid e0
            clear e0
            go_simp
            have e1 : R9 (Rega.ran L9 12) α 11 = row (α 11) 35 #[.iface 36 (.pointer (some ⟨α 1007, 0, none⟩)), .int .i32 (i : Int)] := by
              show rtl33f21T11 U n src inn ub B1_3 B1_2 B1_1 B1 inx i D gq sb sc SL (Rega.ran L9 12) α = _
              unfold rtl33f21T11
              rw [if_pos (show Rega.ran L9 12 12 = true from rfl)]
            exact hK _ α _ (fun _ _ => rfl) rfl (step_sets (st9) hL hcl rfl 11 rfl (act_new 11 rfl (hA 11 (by decide))) E0.out (0) [.iface 36 (.pointer (some ⟨α 1007, 0, none⟩)), .int .i32 (i : Int)] (e1.trans rfl) hG)
          · intro L9 α a9 u9 K9 hL hcl hA hG hS h0 hK
            replace hL : L9 13 = false := hL
            have q71 : a9.tmps[71]? = some (.pointer (some ⟨α 1007, 0, none⟩)) := hS 10 71 (by decide) rfl (by show 71 < 169; decide)
            have s71 := Rega.eval_of q71
            go_simp
            exact hK _ α _ (fun _ _ => rfl) rfl (step_same (st9) hL hcl rfl rfl hG)
        clear st9
        intro α u hG
        have e0 : R9 (fun k => decide (k < 14)) α 999 = row (sb) 3 (full i64Z (ixV SL) sc) := rfl
        have e1 : R9 (fun k => decide (k < 14)) α 1999 = row (B1_2) 35 (lvR D i (gq + 1)) := rfl
        have e2 : R9 (fun k => decide (k < 14)) α 2999 = row (B1_3) 36 (clR D i (gq + 1)) := rfl
        have e3 : R9 (fun k => decide (k < 14)) α 3999 = row (ub) 5 (itR U n) := rfl
        have e4 : R9 (fun k => decide (k < 14)) α 4999 = row (B1) 27 #[.int .u32 src, .int .u32 inn] := rfl
        have e5 : R9 (fun k => decide (k < 14)) α 5999 = row (B1_1) 27 #[.int .u32 src, .int .u32 inx] := rfl
        have e6 : R9 (fun k => decide (k < 14)) α 7 = row (α 7) 58 #[.int .u32 src, .int .u32 inx, .bool false, .bool false, .bool false] := rfl
        have e7 : R9 (fun k => decide (k < 14)) α 1007 = row (α 1007) 46 #[.iface 56 (.pointer (some ⟨α 7, 0, none⟩)), .int .i32 (i : Int), .slice none 0 0, .int .i32 0, .int .u8 0, .int .u8 0, .bool false, .bool false] := rfl
        have e8 : R9 (fun k => decide (k < 14)) α 11 = row (α 11) 35 #[.iface 36 (.pointer (some ⟨α 1007, 0, none⟩)), .int .i32 (i : Int)] := by
          show rtl33f21T11 U n src inn ub B1_3 B1_2 B1_1 B1 inx i D gq sb sc SL (fun k => decide (k < 14)) α = _
          unfold rtl33f21T11
          rw [if_pos (by decide)]
        have hO : Own w0 u [row (sb) 3 (full i64Z (ixV SL) sc), row (B1_2) 35 (lvR D i (gq + 1)), row (B1_3) 36 (clR D i (gq + 1)), row (ub) 5 (itR U n), row (B1) 27 #[.int .u32 src, .int .u32 inn], row (B1_1) 27 #[.int .u32 src, .int .u32 inx], row (α 7) 58 #[.int .u32 src, .int .u32 inx, .bool false, .bool false, .bool false], row (α 1007) 46 #[.iface 56 (.pointer (some ⟨α 7, 0, none⟩)), .int .i32 (i : Int), .slice none 0 0, .int .i32 0, .int .u8 0, .int .u8 0, .bool false, .bool false], row (α 11) 35 #[.iface 36 (.pointer (some ⟨α 1007, 0, none⟩)), .int .i32 (i : Int)]] X9_37 := (hG.list [999, 1999, 2999, 3999, 4999, 5999, 7, 1007, 11] (by decide) (act_all (by decide))).conv (by
          show [R9 (fun k => decide (k < 14)) α 999, R9 (fun k => decide (k < 14)) α 1999, R9 (fun k => decide (k < 14)) α 2999, R9 (fun k => decide (k < 14)) α 3999, R9 (fun k => decide (k < 14)) α 4999, R9 (fun k => decide (k < 14)) α 5999, R9 (fun k => decide (k < 14)) α 7, R9 (fun k => decide (k < 14)) α 1007, R9 (fun k => decide (k < 14)) α 11] = _
          rw [e0, e1, e2, e3, e4, e5, e6, e7, e8])
        clear hG e0 e1 e2 e3 e4 e5 e6 e7 e8 R9
        generalize hfr : Rega.frameAt _ _ _ _ _ = fr
        have hdf : fr = ⟨#[.slice (some ⟨ub, 0, none⟩) n n, spv, .int .u32 src, .int .u32 inn, tz4, tz5, tz6, tz7, tz8, .int .i64 (n : Int), .pointer (some ⟨B1, 0, none⟩), .pointer (some ⟨B1_1, 0, none⟩), .slice (some ⟨B1_2, 0, none⟩) n n, .slice (some ⟨B1_3, 0, none⟩) n n, .slice (some ⟨sb, 0, none⟩) s (s + sc), .int .i64 (i : Int), .pointer (some ⟨α 11, 0, none⟩), .pointer (some ⟨α 1007, 0, none⟩), tz18, tz19, tz20, tz21, tz22, tz23, tz24, tz25, tz26, tz27, tz28, tz29, tz30, tz31, tz32, tz33, tz34, tz35, tz36, tz37, tz38, tz39, tz40, tz41, tz42, .slice (some ⟨ub, 0, none⟩) n n, .int .i64 (n : Int), .int .u32 src, .int .u32 inn, .agg #[.int .u32 src, .int .u32 inn], .int .u32 src, .int .u32 inn, .int .u32 inx, .agg #[.int .u32 src, .int .u32 inx], .int .i64 (n : Int), .slice (some ⟨B1_2, 0, none⟩) n n, .int .i64 (n : Int), .slice (some ⟨B1_3, 0, none⟩) n n, .int .i64 (i : Int), .int .i64 (n : Int), .bool true, u59, u60, .tuple #[.agg #[.iface 36 (.pointer (some ⟨α 1007, 0, none⟩)), .int .i32 (i : Int)], .pointer (some ⟨α 1007, 0, none⟩)], .int .i64 (i : Int), .slice (some ⟨ub, 0, none⟩) n n, .int .i64 (i : Int), .pointer (some ⟨ub, i, none⟩), .int .u8 (U i : Int), .agg #[.int .u32 src, .int .u32 inn], .agg #[.int .u32 src, .int .u32 inx], .tuple #[.agg #[.iface 36 (.pointer (some ⟨α 1007, 0, none⟩)), .int .i32 (i : Int)], .pointer (some ⟨α 1007, 0, none⟩)], .agg #[.iface 36 (.pointer (some ⟨α 1007, 0, none⟩)), .int .i32 (i : Int)], .pointer (some ⟨α 1007, 0, none⟩), u72, u73, u74, u75, u76, u77, u78, u79, u80, u81, u82, u83, u84, u85, u86, u87, u88, u89, tz90, tz91, tz92, tz93, tz94, tz95, tz96, tz97, tz98, tz99, tz100, tz101, tz102, tz103, tz104, tz105, tz106, tz107, tz108, tz109, tz110, tz111, tz112, tz113, tz114, tz115, tz116, tz117, tz118, tz119, tz120, tz121, tz122, tz123, tz124, tz125, tz126, tz127, tz128, tz129, tz130, tz131, tz132, tz133, tz134, tz135, tz136, tz137, tz138, tz139, tz140, tz141, tz142, tz143, tz144, tz145, tz146, tz147, tz148, tz149, tz150, tz151, tz152, tz153, tz154, tz155, tz156, tz157, tz158, tz159, tz160, tz161, tz162, tz163, tz164, tz165, tz166, tz167, tz168], []⟩ := by rw [← hfr]; kernel_rfl
        clear hfr
        subst hdf
        generalize α 7 = nd38 at hO ⊢
        generalize α 11 = nd39 at hO ⊢
        generalize α 1007 = nd40 at hO ⊢
        clear α
        obtain ⟨ix9, hix9, hax9, hjx9⟩ := hO.ix
        have ix9_0 : ix9 sb = 0 := hjx9 0 _ _ rfl
        have ix9_1 : ix9 B1_2 = 1 := hjx9 1 _ _ rfl
        have ix9_2 : ix9 B1_3 = 2 := hjx9 2 _ _ rfl
        have ix9_3 : ix9 ub = 3 := hjx9 3 _ _ rfl
        have ix9_4 : ix9 B1 = 4 := hjx9 4 _ _ rfl
        have ix9_5 : ix9 B1_1 = 5 := hjx9 5 _ _ rfl
        have ix9_6 : ix9 nd38 = 6 := hjx9 6 _ _ rfl
        have ix9_7 : ix9 nd40 = 7 := hjx9 7 _ _ rfl
        have ix9_8 : ix9 nd39 = 8 := hjx9 8 _ _ rfl
        clear hjx9
        have pl9_1 : Base.plainAt u (B1_2) = true := hO.plain 1 rfl
        have c9_1_i_2 : u.cell? ⟨B1_2, i * 2, none⟩ = some (.nilIface) := hO.cell 1 rfl (i * 2) ((lvR_at0 D i gq))
        have c9_1_i_2_1 : u.cell? ⟨B1_2, i * 2 + 1, none⟩ = some (.int .i32 0) := hO.cell 1 rfl (i * 2 + 1) ((lvR_at1 D i gq))
        have lt9_1 : B1_2 < u.heap.size := hO.lt 1 rfl
        have y9_1 : ∀ o, u.frozen? ⟨B1_2, o, none⟩ = false := hO.free 1 rfl
        have c9_2_i : u.cell? ⟨B1_3, i, none⟩ = some (.pointer none) := hO.cell 2 rfl (i) ((clR_at D i gq))
        have lt9_2 : B1_3 < u.heap.size := hO.lt 2 rfl
        have y9_2 : ∀ o, u.frozen? ⟨B1_3, o, none⟩ = false := hO.free 2 rfl
        have c9_3_i : u.cell? ⟨ub, i, none⟩ = some (.int .u8 (U i : Int)) := hO.cell 3 rfl (i) ((itR_get hlt))
        have lt9_3 : ub < u.heap.size := hO.lt 3 rfl
        have y9_3 : ∀ o, u.frozen? ⟨ub, o, none⟩ = false := hO.free 3 rfl
        obtain ⟨c9_4_0, c9_4_1, lt9_4, y9_4, pl9_4⟩ := hO.k2 4 rfl
        obtain ⟨c9_5_0, c9_5_1, lt9_5, y9_5, pl9_5⟩ := hO.k2 5 rfl
        obtain ⟨c9_6_0, c9_6_1, c9_6_2, c9_6_3, c9_6_4, lt9_6, y9_6, -⟩ := hO.k5 6 rfl
        obtain ⟨c9_7_0, c9_7_1, c9_7_2, c9_7_3, c9_7_4, c9_7_5, c9_7_6, c9_7_7, lt9_7, y9_7, -⟩ := hO.k8 7 rfl
        obtain ⟨c9_8_0, c9_8_1, lt9_8, y9_8, pl9_8⟩ := hO.k2 8 rfl
        have HO := Lib.hid hO
        clear hO
        go_wp2_with (first | (with_reducible refine Own.stay (fn := Try.f4) ?_) | (at_builtin; refine Own.appStop ?_) | fail)
        try with_reducible refine Own.Stay.mk ?_
        have hO := HO.out
        clear HO hix9 hax9 ix9_0 ix9_1 ix9_2 ix9_3 ix9_4 ix9_5 ix9_6 ix9_7 ix9_8 ix9 pl9_1 c9_1_i_2 c9_1_i_2_1 lt9_1 y9_1 c9_2_i lt9_2 y9_2 c9_3_i lt9_3 y9_3 c9_4_0 c9_4_1 lt9_4 y9_4 pl9_4 c9_5_0 c9_5_1 lt9_5 y9_5 pl9_5 c9_6_0 c9_6_1 c9_6_2 c9_6_3 c9_6_4 lt9_6 y9_6 c9_7_0 c9_7_1 c9_7_2 c9_7_3 c9_7_4 c9_7_5 c9_7_6 c9_7_7 lt9_7 y9_7 c9_8_0 c9_8_1 lt9_8 y9_8 pl9_8
        generalize hW : World.setCell _ _ _ = W42
        have hN : Own w0 W42 [row (sb) 3 (full i64Z (ixV SL) sc), row (B1_2) 35 (((lvR D i (gq + 1)).setIfInBounds (i * 2) (.iface 36 (.pointer (some ⟨nd40, 0, none⟩)))).setIfInBounds (i * 2 + 1) (.int .i32 (i : Int))), row (B1_3) 36 ((clR D i (gq + 1)).setIfInBounds i (.pointer (some ⟨nd40, 0, none⟩))), row (ub) 5 (itR U n), row (B1) 27 #[.int .u32 src, .int .u32 inn], row (B1_1) 27 #[.int .u32 src, .int .u32 inx], row (nd38) 58 #[.int .u32 src, .int .u32 inx, .bool false, .bool false, .bool false], row (nd40) 46 #[.iface 56 (.pointer (some ⟨nd38, 0, none⟩)), .int .i32 (i : Int), .slice none 0 0, .int .i32 0, .int .u8 0, .int .u8 0, .bool false, .bool false], row (nd39) 35 #[.iface 36 (.pointer (some ⟨nd40, 0, none⟩)), .int .i32 (i : Int)]] X9_37 := by
          rw [← hW]
          exact (((hO).set 1 rfl (i * 2) _).set 1 rfl (i * 2 + 1) _).set 2 rfl i _
        clear hW hO
        have hO := hN
        clear hN
        rw [HX9_37.out] at hO
        obtain ⟨hDk, hDs, hDi, hDx⟩ := HD.out
        have hN : Own w0 W42 [row (nd40) 46 #[.iface 56 (.pointer (some ⟨nd38, 0, none⟩)), .int .i32 (i : Int), .slice none 0 0, .int .i32 0, .int .u8 0, .int .u8 0, .bool false, .bool false], row (nd38) 58 #[.int .u32 src, .int .u32 inx, .bool false, .bool false, .bool false], row (sb) 3 (full i64Z (ixV SL) sc), row (B1_2) 35 (((lvR D i (gq + 1)).setIfInBounds (i * 2) (.iface 36 (.pointer (some ⟨nd40, 0, none⟩)))).setIfInBounds (i * 2 + 1) (.int .i32 (i : Int))), row (B1_3) 36 ((clR D i (gq + 1)).setIfInBounds i (.pointer (some ⟨nd40, 0, none⟩))), row (ub) 5 (itR U n), row (B1) 27 #[.int .u32 src, .int .u32 inn], row (B1_1) 27 #[.int .u32 src, .int .u32 inx]] (LvX X D i) := hO.sub [7, 6, 0, 1, 2, 3, 4, 5] (by decide)
        clear hO
        have hO := hN
        clear hN
        have hne : ∀ j, j < i → ¬ D.kd j = 0 → D.ad j ≠ nd40 := fun j hj h9 e => (hO.frame (D.ad j) _ (Or.inr ⟨j, hj, h9, Or.inl ⟨rfl, rfl⟩⟩)).2.2 _ List.mem_cons_self e.symm
        have hA := HAP.out.next nd38 hne
        have h1q := Own.give (b := nd40) (o := .cells (callC (.iface 56 (.pointer (some ⟨nd38, 0, none⟩))) (i : Int)) 46 (0, 0)) (Y := fun b o => LvX X D i b o ∨ (b = nd40 ∧ o = .cells (callC (.iface 56 (.pointer (some ⟨nd38, 0, none⟩))) (i : Int)) 46 (0, 0))) (hO.conv rfl) (fun b o h => h)
        have hN := Own.give (b := nd38) (o := .cells (idC D.src (D.inr i)) 58 (0, 0)) (Y := LvX X (updD D i nd40 nd38) (i + 1)) (h1q.conv (by rw [hDs, show D.inr i = inx from (if_neg (by rw [hkd]; decide)).trans hDx]; rfl)) (by
          intro b o h
          rcases LvX.next nd40 nd38 b o h with (h | h) | h
          · exact Or.inl (Or.inl h)
          · exact Or.inr h
          · exact Or.inl (Or.inr h))
        go_roundg gq
        case measure => omega
        case rel => exact ⟨i + 1, updD D i nd40 nd38, by omega, by first | rfl | simp, hDk, hDs, hDi, hDx, hA, Or.inr ⟨sb, sc, s, SL, rfl, (by rw [SLs_upd, SLs_no (by rw [hkd]; decide)]; exact HSL.out), HSN.out, by omega, hN.conv (by rw [lvR_next D i gq nd40 nd38 _ (by show _ = lfD _ _; unfold lfD; rw [if_neg (by rw [show (updD D i nd40 nd38).kd i = 2 from hkd]; decide), updD_ad]), clR_next D i gq nd40 nd38 _ (by unfold clD; rw [if_neg (by rw [show (updD D i nd40 nd38).kd i = 2 from hkd]; decide), updD_ad])])⟩⟩
  obtain rfl : gk = 0 := by omega
  obtain rfl : n = i := by omega
  subst hDs hDi hDx
  clear hlt
  have HDK := Lib.hid hDk
  clear hDk
  have hlt9 : ¬ (n : Int) < (n : Int) := by omega
  rcases hph with ⟨rfl, hno, hO⟩ | ⟨sb, sc, s, SL, rfl, hSL, hsl, hs0, hO⟩
  · skip
    obtain ⟨X8_143, hX8_143⟩ : ∃ Y, Y = LvX X D n := ⟨_, rfl⟩
    rw [← hX8_143] at hO
    have HX8 := Lib.hid hX8_143
    clear hX8_143
    obtain ⟨c9_3_0, c9_3_1, lt9_3, y9_3, -⟩ := hO.k2 3 rfl
    obtain ⟨c9_4_0, c9_4_1, lt9_4, y9_4, -⟩ := hO.k2 4 rfl
    have HO := Lib.hid hO
    clear hO
    go_wp2_with (first | (with_reducible refine Own.stay (fn := Try.f4) ?_) | (at_builtin; refine Own.appStop ?_) | fail)
    try with_reducible refine Own.Stay.mk ?_
    have hO := HO.out
    clear HO c9_3_0 c9_3_1 lt9_3 y9_3 c9_4_0 c9_4_1 lt9_4 y9_4
    generalize hW : World.alloc _ _ = W145
    have hN : Own w0 W145 [row (wr.heap.size) 35 #[.nilIface, .int .i32 0], row (B1_2) 35 (lvR D n 0), row (B1_3) 36 (clR D n 0), row (ub) 5 (itR U n), row (B1) 27 #[.int .u32 D.src, .int .u32 D.inn], row (B1_1) 27 #[.int .u32 D.src, .int .u32 D.inx]] X8_143 := by
      rw [← hW]
      exact (hO).alloc' _ (wr.heap.size) (by simp)
    clear hW hO
    generalize wr.heap.size = B144 at hN ⊢
    have hO := hN
    clear hN
    have hL := hO.apart
    have hX := hO.apartX
    have HL := Lib.hid hL
    have HX := Lib.hid hX
    clear hL hX
    have hP9 := hO.pick [] (by decide)
    have T9 := HBS.out D B1_2 _ _ _ hP9 (Or.inr ⟨1, by simp, rfl⟩) (fun b o h => Or.inl (by rw [HX8.out]; exact Or.inl h))
    refine Calls.mono T9 ?_
    clear hP9 T9
    rintro e uw146 ⟨nd147, rfl, pr148, hQ⟩
    have hN : Own w0 uw146 [row (B144) 35 #[.nilIface, .int .i32 0], row (B1_2) 35 (lvR D n 0), row (B1_3) 36 (clR D n 0), row (ub) 5 (itR U n), row (B1) 27 #[.int .u32 D.src, .int .u32 D.inn], row (B1_1) 27 #[.int .u32 D.src, .int .u32 D.inx]] (GX X8_143 D nd147) := hQ.backGX HL.out HX.out  (by
      intro r9 hr9
      simp only [List.mem_cons, List.not_mem_nil, or_false] at hr9
      rcases hr9 with rfl | rfl | rfl | rfl | rfl | rfl
      all_goals exact ⟨_, _, rfl, by decide⟩)
    clear hQ HL HX hO
    have hO := hN
    clear hN
    try simp only []
    have hT : nd147.flat = List.range' 0 n := pr148
    have hN := GX.nodes X8_143 D nd147
    have hYL : ∀ b o, LvX X D n b o → (GX X8_143 D nd147) b o := fun b o h => Or.inl (by rw [HX8.out]; exact h)
    clear pr148
    obtain ⟨c9_0_0, c9_0_1, lt9_0, y9_0, -⟩ := hO.k2 0 rfl
    obtain ⟨c9_4_0, c9_4_1, lt9_4, y9_4, -⟩ := hO.k2 4 rfl
    obtain ⟨c9_5_0, c9_5_1, lt9_5, y9_5, -⟩ := hO.k2 5 rfl
    have HO := Lib.hid hO
    clear hO
    go_wp2_with (first | (with_reducible refine Own.stay (fn := Try.f4) ?_) | (at_builtin; refine Own.appStop ?_) | fail)
    try with_reducible refine Own.Stay.mk ?_
    have hO := HO.out
    clear HO c9_0_0 c9_0_1 lt9_0 y9_0 c9_4_0 c9_4_1 lt9_4 y9_4 c9_5_0 c9_5_1 lt9_5 y9_5
    generalize hW : World.setCell _ _ _ = W150
    have hN : Own w0 W150 [row (B144) 35 #[dV D nd147, .int .i32 (lV nd147)], row (B1_2) 35 (lvR D n 0), row (B1_3) 36 (clR D n 0), row (ub) 5 (itR U n), row (B1) 27 #[.int .u32 D.src, .int .u32 D.inn], row (B1_1) 27 #[.int .u32 D.src, .int .u32 D.inx]] (GX X8_143 D nd147) := by
      rw [← hW]
      exact ((hO).set 0 rfl 0 _).set 0 rfl 1 _
    clear hW hO
    have hO := hN
    clear hN
    have hV : ∀ q, q ∈ nd147.flat → LeafIn (GX X8_143 D nd147) D q := fun q hq => LvX.leaf hYL (by rw [hT] at hq; have := List.mem_range'.1 hq; omega)
    have hTl : nd147.flat.length = n := by rw [hT, List.length_range']
    have HT := Lib.hid hT
    have HTL := Lib.hid hTl
    clear hT hTl
    go_loopg [19, 20, 21] 1 (fun gf s19 s20 s21 wx => s19 = .int .i64 0 ∧ s20 = .int .i64 (-1) ∧ s21 = .int .i64 0 ∧ Own w0 wx [row (B144) 35 #[dV D nd147, .int .i32 (lV nd147)], row (B1_2) 35 (lvR D n 0), row (B1_3) 36 (clR D n 0), row (ub) 5 (itR U n), row (B1) 27 #[.int .u32 D.src, .int .u32 D.inn], row (B1_1) 27 #[.int .u32 D.src, .int .u32 D.inx]] (GX X8_143 D nd147))
    case atStart => exact ⟨rfl, rfl, rfl, hO⟩
    obtain ⟨rfl, rfl, rfl, hO⟩ := hrel
    obtain ⟨c9_0_0, c9_0_1, lt9_0, y9_0, -⟩ := hO.k2 0 rfl
    obtain ⟨c9_4_0, c9_4_1, lt9_4, y9_4, -⟩ := hO.k2 4 rfl
    obtain ⟨c9_5_0, c9_5_1, lt9_5, y9_5, -⟩ := hO.k2 5 rfl
    have HO := Lib.hid hO
    clear hO
    go_wp2_with (first | (with_reducible refine Own.stay (fn := Try.f4) ?_) | (at_builtin; refine Own.appStop ?_) | fail)
    try with_reducible refine Own.Stay.mk ?_
    have hO := HO.out
    clear HO c9_0_0 c9_0_1 lt9_0 y9_0 c9_4_0 c9_4_1 lt9_4 y9_4 c9_5_0 c9_5_1 lt9_5 y9_5
    have hL := hO.apart
    have hX := hO.apartX
    have HL := Lib.hid hL
    have HX := Lib.hid hX
    clear hL hX
    have hP9 := hO.pick [] (by decide)
    have h9_h1 : ∀ i, i ∈ nd147.flat → D.kd i ≠ 1 := (fun q hq => hno q (by rw [HT.out] at hq; have := List.mem_range'.1 hq; omega))
    have h9_hne : ¬ D.inx = D.inn := hnx
    have T9 := doorN D nd147 _ _ _ hP9 (hN.mono fun _ _ h => Or.inl h) (fun q hq => (hV q hq).mono fun _ _ h => Or.inl h) h9_h1 h9_hne
    refine Calls.mono T9 ?_
    clear hP9 T9 h9_h1 h9_hne
    rintro e uw151 ⟨rfl, hQ⟩
    have hN : Own w0 uw151 [row (B144) 35 #[dV D nd147, .int .i32 (lV nd147)], row (B1_2) 35 (lvR D n 0), row (B1_3) 36 (clR D n 0), row (ub) 5 (itR U n), row (B1) 27 #[.int .u32 D.src, .int .u32 D.inn], row (B1_1) 27 #[.int .u32 D.src, .int .u32 D.inx]] (GX X8_143 D nd147) := hQ.back HL.out HX.out [0, 1, 2, 3, 4, 5] (by decide) (by decide)
    clear hQ HL HX hO
    have hO := hN
    clear hN
    try simp only []
    obtain ⟨c9_0_0, c9_0_1, lt9_0, y9_0, -⟩ := hO.k2 0 rfl
    obtain ⟨c9_4_0, c9_4_1, lt9_4, y9_4, -⟩ := hO.k2 4 rfl
    obtain ⟨c9_5_0, c9_5_1, lt9_5, y9_5, -⟩ := hO.k2 5 rfl
    have HO := Lib.hid hO
    clear hO
    go_wp2_with (first | (with_reducible refine Own.stay (fn := Try.f4) ?_) | (at_builtin; refine Own.appStop ?_) | fail)
    try with_reducible refine Own.Stay.mk ?_
    have hO := HO.out
    clear HO c9_0_0 c9_0_1 lt9_0 y9_0 c9_4_0 c9_4_1 lt9_4 y9_4 c9_5_0 c9_5_1 lt9_5 y9_5
    generalize hW : World.alloc _ _ = W153
    have hN : Own w0 W153 [row (uw151.heap.size + 1 + 1) 35 #[.nilIface, .int .i32 0], row (uw151.heap.size + 1) 33 #[.int .i32 0], row (uw151.heap.size) 35 #[.nilIface, .int .i32 0], row (B144) 35 #[dV D nd147, .int .i32 (lV nd147)], row (B1_2) 35 (lvR D n 0), row (B1_3) 36 (clR D n 0), row (ub) 5 (itR U n), row (B1) 27 #[.int .u32 D.src, .int .u32 D.inn], row (B1_1) 27 #[.int .u32 D.src, .int .u32 D.inx]] (GX X8_143 D nd147) := by
      rw [← hW]
      exact (((hO).alloc' _ (uw151.heap.size) (by simp)).alloc' _ (uw151.heap.size + 1) (by simp)).alloc' _ (uw151.heap.size + 1 + 1) (by simp)
    clear hW hO
    generalize uw151.heap.size + 1 + 1 = B152_2 at hN ⊢
    generalize uw151.heap.size + 1 = B152_1 at hN ⊢
    generalize uw151.heap.size = B152 at hN ⊢
    have hO := hN
    clear hN
    have hL := hO.apart
    have hX := hO.apartX
    have HL := Lib.hid hL
    have HX := Lib.hid hX
    clear hL hX
    have hP9 := hO.pick [] (by decide)
    have h9_hbd : nd147.flat.length ≤ 100000 := (by have := HTL.out; omega)
    have T9 := flat0 D nd147 _ _ _ hP9 (hN.mono fun _ _ h => Or.inl h) h9_hbd
    refine Calls.mono T9 ?_
    clear hP9 T9 h9_hbd
    rintro e uw154 ⟨nd155, nd156, rfl, hQ⟩
    have hN : Own w0 uw154 [row (nd155) 21 (full i32Z (rgV (nd147.flat)) nd156), row (B152_2) 35 #[.nilIface, .int .i32 0], row (B152_1) 33 #[.int .i32 0], row (B152) 35 #[.nilIface, .int .i32 0], row (B144) 35 #[dV D nd147, .int .i32 (lV nd147)], row (B1_2) 35 (lvR D n 0), row (B1_3) 36 (clR D n 0), row (ub) 5 (itR U n), row (B1) 27 #[.int .u32 D.src, .int .u32 D.inn], row (B1_1) 27 #[.int .u32 D.src, .int .u32 D.inx]] (GX X8_143 D nd147) := hQ.back HL.out HX.out [0, 1, 2, 3, 4, 5, 6, 7, 8] (by decide) (by decide)
    clear hQ HL HX hO
    have hO := hN
    clear hN
    try simp only []
    obtain ⟨c9_1_0, c9_1_1, lt9_1, y9_1, -⟩ := hO.k2 1 rfl
    obtain ⟨c9_2_0, lt9_2, y9_2, -⟩ := hO.k1 2 rfl
    obtain ⟨c9_3_0, c9_3_1, lt9_3, y9_3, -⟩ := hO.k2 3 rfl
    obtain ⟨c9_4_0, c9_4_1, lt9_4, y9_4, -⟩ := hO.k2 4 rfl
    obtain ⟨c9_8_0, c9_8_1, lt9_8, y9_8, -⟩ := hO.k2 8 rfl
    obtain ⟨c9_9_0, c9_9_1, lt9_9, y9_9, -⟩ := hO.k2 9 rfl
    have HO := Lib.hid hO
    clear hO
    go_wp2_with (first | (with_reducible refine Own.stay (fn := Try.f4) ?_) | (at_builtin; refine Own.appStop ?_) | fail)
    try with_reducible refine Own.Stay.mk ?_
    have hO := HO.out
    clear HO c9_1_0 c9_1_1 lt9_1 y9_1 c9_2_0 lt9_2 y9_2 c9_3_0 c9_3_1 lt9_3 y9_3 c9_4_0 c9_4_1 lt9_4 y9_4 c9_8_0 c9_8_1 lt9_8 y9_8 c9_9_0 c9_9_1 lt9_9 y9_9
    have hL := hO.apart
    have hX := hO.apartX
    have HL := Lib.hid hL
    have HX := Lib.hid hX
    clear hL hX
    have hP9 := hO.pick [0] (by decide)
    have h9_hm : nd147.flat.length = nd147.flat.length := rfl
    have h9_hhi : (n : Int) = 0 + (nd147.flat.length : Int) := (by have := HTL.out; omega)
    have h9_hlo9 : (n : Int) ≤ 5000 := (by omega)
    have T9 := isRng1 nd155 nd156 nd147.flat nd147.flat.length 0 (n : Int) _ _ _ hP9 h9_hm (fun q hq => by rw [HT.out]; rw [HTL.out] at hq; obtain ⟨v9, h8, h7⟩ := rng_at (lo := 0) hq; exact ⟨v9, h8, by omega⟩) h9_hhi (by omega) h9_hlo9
    refine Calls.mono T9 ?_
    clear hP9 T9 h9_hm h9_hhi h9_hlo9
    rintro e uw157 ⟨rfl, hQ⟩
    have hN : Own w0 uw157 [row (nd155) 21 (full i32Z (rgV nd147.flat) nd156), row (B152_2) 35 #[.nilIface, .int .i32 0], row (B152_1) 33 #[.int .i32 0], row (B152) 35 #[.nilIface, .int .i32 0], row (B144) 35 #[dV D nd147, .int .i32 (lV nd147)], row (B1_2) 35 (lvR D n 0), row (B1_3) 36 (clR D n 0), row (ub) 5 (itR U n), row (B1) 27 #[.int .u32 D.src, .int .u32 D.inn], row (B1_1) 27 #[.int .u32 D.src, .int .u32 D.inx]] (GX X8_143 D nd147) := hQ.back HL.out HX.out [1, 2, 3, 4, 5, 6, 7, 8, 9] (by decide) (by decide)
    clear hQ HL HX hO
    have hO := hN
    clear hN
    try simp only []
    obtain ⟨c9_1_0, c9_1_1, lt9_1, y9_1, -⟩ := hO.k2 1 rfl
    obtain ⟨c9_2_0, lt9_2, y9_2, -⟩ := hO.k1 2 rfl
    obtain ⟨c9_3_0, c9_3_1, lt9_3, y9_3, -⟩ := hO.k2 3 rfl
    obtain ⟨c9_4_0, c9_4_1, lt9_4, y9_4, -⟩ := hO.k2 4 rfl
    obtain ⟨c9_8_0, c9_8_1, lt9_8, y9_8, -⟩ := hO.k2 8 rfl
    obtain ⟨c9_9_0, c9_9_1, lt9_9, y9_9, -⟩ := hO.k2 9 rfl
    have HO := Lib.hid hO
    clear hO
    go_wp2_with (first | (with_reducible refine Own.stay (fn := Try.f4) ?_) | (at_builtin; refine Own.appStop ?_) | fail)
    try with_reducible refine Own.Stay.mk ?_
    have hO := HO.out
    clear HO c9_1_0 c9_1_1 lt9_1 y9_1 c9_2_0 lt9_2 y9_2 c9_3_0 c9_3_1 lt9_3 y9_3 c9_4_0 c9_4_1 lt9_4 y9_4 c9_8_0 c9_8_1 lt9_8 y9_8 c9_9_0 c9_9_1 lt9_9 y9_9
    have hO : Below w0.heap.size w0 uw157 := hO.below
    refine bodyPost_ret (v := .bool true) ?_ rfl ⟨rfl, hO⟩
    simp [results, go_sem]
  · skip
    obtain ⟨X8_158, hX8_158⟩ : ∃ Y, Y = LvX X D n := ⟨_, rfl⟩
    rw [← hX8_158] at hO
    have HX8 := Lib.hid hX8_158
    clear hX8_158
    have HSL := Lib.hid hSL
    clear hSL
    have hxl : (ixV SL).length = s * 1 := by rw [ixV_length, hsl, Nat.mul_one]
    have HSN := Lib.hid hsl
    clear hsl
    have hs4 : s ≤ 4096 := by
        have h9 := HSN.out
        rw [HSL.out] at h9
        have h8 : (SLs D n).length ≤ n := by unfold SLs; exact Nat.le_trans (List.length_filter_le _ _) (by rw [List.length_range]; exact Nat.le_refl _)
        omega
    obtain ⟨c9_4_0, c9_4_1, lt9_4, y9_4, -⟩ := hO.k2 4 rfl
    obtain ⟨c9_5_0, c9_5_1, lt9_5, y9_5, -⟩ := hO.k2 5 rfl
    have HO := Lib.hid hO
    clear hO
    go_wp2_with (first | (with_reducible refine Own.stay (fn := Try.f4) ?_) | (at_builtin; refine Own.appStop ?_) | fail)
    try with_reducible refine Own.Stay.mk ?_
    have hO := HO.out
    clear HO c9_4_0 c9_4_1 lt9_4 y9_4 c9_5_0 c9_5_1 lt9_5 y9_5
    generalize hW : World.alloc _ _ = W160
    have hN : Own w0 W160 [row (wr.heap.size) 35 #[.nilIface, .int .i32 0], row (sb) 3 (full i64Z (ixV SL) sc), row (B1_2) 35 (lvR D n 0), row (B1_3) 36 (clR D n 0), row (ub) 5 (itR U n), row (B1) 27 #[.int .u32 D.src, .int .u32 D.inn], row (B1_1) 27 #[.int .u32 D.src, .int .u32 D.inx]] X8_158 := by
      rw [← hW]
      exact (hO).alloc' _ (wr.heap.size) (by simp)
    clear hW hO
    generalize wr.heap.size = B159 at hN ⊢
    have hO := hN
    clear hN
    have hL := hO.apart
    have hX := hO.apartX
    have HL := Lib.hid hL
    have HX := Lib.hid hX
    clear hL hX
    have hP9 := hO.pick [] (by decide)
    have T9 := HBS.out D B1_2 _ _ _ hP9 (Or.inr ⟨2, by simp, rfl⟩) (fun b o h => Or.inl (by rw [HX8.out]; exact Or.inl h))
    refine Calls.mono T9 ?_
    clear hP9 T9
    rintro e uw161 ⟨nd162, rfl, pr163, hQ⟩
    have hN : Own w0 uw161 [row (B159) 35 #[.nilIface, .int .i32 0], row (sb) 3 (full i64Z (ixV SL) sc), row (B1_2) 35 (lvR D n 0), row (B1_3) 36 (clR D n 0), row (ub) 5 (itR U n), row (B1) 27 #[.int .u32 D.src, .int .u32 D.inn], row (B1_1) 27 #[.int .u32 D.src, .int .u32 D.inx]] (GX X8_158 D nd162) := hQ.backGX HL.out HX.out  (by
      intro r9 hr9
      simp only [List.mem_cons, List.not_mem_nil, or_false] at hr9
      rcases hr9 with rfl | rfl | rfl | rfl | rfl | rfl | rfl
      all_goals exact ⟨_, _, rfl, by decide⟩)
    clear hQ HL HX hO
    have hO := hN
    clear hN
    try simp only []
    have hT : nd162.flat = List.range' 0 n := pr163
    have hN := GX.nodes X8_158 D nd162
    have hYL : ∀ b o, LvX X D n b o → (GX X8_158 D nd162) b o := fun b o h => Or.inl (by rw [HX8.out]; exact h)
    clear pr163
    obtain ⟨c9_0_0, c9_0_1, lt9_0, y9_0, -⟩ := hO.k2 0 rfl
    obtain ⟨c9_5_0, c9_5_1, lt9_5, y9_5, -⟩ := hO.k2 5 rfl
    obtain ⟨c9_6_0, c9_6_1, lt9_6, y9_6, -⟩ := hO.k2 6 rfl
    have HO := Lib.hid hO
    clear hO
    go_wp2_with (first | (with_reducible refine Own.stay (fn := Try.f4) ?_) | (at_builtin; refine Own.appStop ?_) | fail)
    try with_reducible refine Own.Stay.mk ?_
    have hO := HO.out
    clear HO c9_0_0 c9_0_1 lt9_0 y9_0 c9_5_0 c9_5_1 lt9_5 y9_5 c9_6_0 c9_6_1 lt9_6 y9_6
    generalize hW : World.setCell _ _ _ = W165
    have hN : Own w0 W165 [row (B159) 35 #[dV D nd162, .int .i32 (lV nd162)], row (sb) 3 (full i64Z (ixV SL) sc), row (B1_2) 35 (lvR D n 0), row (B1_3) 36 (clR D n 0), row (ub) 5 (itR U n), row (B1) 27 #[.int .u32 D.src, .int .u32 D.inn], row (B1_1) 27 #[.int .u32 D.src, .int .u32 D.inx]] (GX X8_158 D nd162) := by
      rw [← hW]
      exact ((hO).set 0 rfl 0 _).set 0 rfl 1 _
    clear hW hO
    have hO := hN
    clear hN
    have hsn : s ≤ n := by
        have h9 := HSN.out
        rw [HSL.out] at h9
        have h8 : (SLs D n).length ≤ n := by unfold SLs; exact Nat.le_trans (List.length_filter_le _ _) (by rw [List.length_range]; exact Nat.le_refl _)
        omega
    go_loopg [19, 20, 21] (s + 1) (fun gf s19 s20 s21 wx => ∃ (lo fo : Nat) (o : Option Tr) (Y : Nat → Obj → Prop) (x : Int), fo + gf = s + 1 ∧ lo ≤ n ∧ x = (lo : Int) - 1 ∧ s19 = .int .i64 (fo : Int) ∧ s20 = .int .i64 x ∧ s21 = .int .i64 (fo : Int) ∧ flatO o = List.range' lo (n - lo) ∧ SL.drop fo = (List.range' lo (n - lo)).filter (fun q => D.kd q == 1) ∧ (∀ q, lo ≤ q → q < n → LeafIn Y D q) ∧ NodesO Y D o ∧ fo ≤ s ∧ Own w0 wx [row (B159) 35 #[dO D o, .int .i32 (lO o)], row (sb) 3 (full i64Z (ixV SL) sc), row (B1_2) 35 (lvR D n 0), row (B1_3) 36 (clR D n 0), row (ub) 5 (itR U n), row (B1) 27 #[.int .u32 D.src, .int .u32 D.inn], row (B1_1) 27 #[.int .u32 D.src, .int .u32 D.inx]] Y)
    case atStart => exact ⟨0, 0, some nd162, (GX X8_158 D nd162), -1, by omega, Nat.zero_le _, by omega, rfl, rfl, rfl, hT, (by show SL = _; rw [HSL.out]; unfold SLs; rw [List.range_eq_range']; rfl), (fun q _ hq => LvX.leaf hYL hq), hN, Nat.zero_le _, hO⟩
    obtain ⟨lo, fo, o, Y, x, hfg, hln, hx, rfl, rfl, rfl, hfl, hdr, hLf, hNo, hfs, hO⟩ := hrel
    obtain ⟨gq, rfl⟩ : ∃ gq, gk = gq + 1 := ⟨gk - 1, by omega⟩
    have hfn : (fo : Int) ≤ (n : Int) := by omega
    have hf8 : (0 : Int) ≤ (fo : Int) := by omega
    have hlo8 : (0 : Int) ≤ (lo : Int) := by omega
    have hlo9 : (lo : Int) ≤ (n : Int) := by omega
    have hx1 : x + 1 = (lo : Int) := by omega
    clear hYL hN hT
    have hfl9 : (flatO o).length = n - lo := by rw [hfl, List.length_range']
    rcases flt_cases hln HSN.out hfs hdr with ⟨hfe, hno⟩ | ⟨k, hk8, hk9, hfk, hSk, hk1, hno, hdr2⟩
    · skip
      subst hfe
      have hfe9 : ¬ (fo : Int) ≠ (fo : Int) := fun h => h rfl
      rcases o with _ | t
      · skip
        have hN : Own w0 wr [row (B159) 35 #[.nilIface, .int .i32 0], row (sb) 3 (full i64Z (ixV SL) sc), row (B1_2) 35 (lvR D n 0), row (B1_3) 36 (clR D n 0), row (ub) 5 (itR U n), row (B1) 27 #[.int .u32 D.src, .int .u32 D.inn], row (B1_1) 27 #[.int .u32 D.src, .int .u32 D.inx]] Y := hO
        clear hO
        have hO := hN
        clear hN
        have hle : (n : Int) = (lo : Int) := by have h9 : (0 : Nat) = n - lo := hfl9; omega
        have HLE := Lib.hid hle
        clear hle hfl9
        obtain ⟨c9_0_0, c9_0_1, lt9_0, y9_0, -⟩ := hO.k2 0 rfl
        obtain ⟨c9_5_0, c9_5_1, lt9_5, y9_5, -⟩ := hO.k2 5 rfl
        obtain ⟨c9_6_0, c9_6_1, lt9_6, y9_6, -⟩ := hO.k2 6 rfl
        have HO := Lib.hid hO
        clear hO
        go_wp2_with (first | (with_reducible refine Own.stay (fn := Try.f4) ?_) | (at_builtin; refine Own.appStop ?_) | fail)
        try with_reducible refine Own.Stay.mk ?_
        have hO := HO.out
        clear HO c9_0_0 c9_0_1 lt9_0 y9_0 c9_5_0 c9_5_1 lt9_5 y9_5 c9_6_0 c9_6_1 lt9_6 y9_6
        have hL := hO.apart
        have hX := hO.apartX
        have HL := Lib.hid hL
        have HX := Lib.hid hX
        clear hL hX
        have hP9 := hO.pick [] (by decide)
        have T9 := doorNil 0 D.src D.inn _ _ _ hP9 
        refine Calls.mono T9 ?_
        clear hP9 T9
        rintro e uw166 ⟨rfl, hQ⟩
        have hN : Own w0 uw166 [row (B159) 35 #[.nilIface, .int .i32 0], row (sb) 3 (full i64Z (ixV SL) sc), row (B1_2) 35 (lvR D n 0), row (B1_3) 36 (clR D n 0), row (ub) 5 (itR U n), row (B1) 27 #[.int .u32 D.src, .int .u32 D.inn], row (B1_1) 27 #[.int .u32 D.src, .int .u32 D.inx]] Y := hQ.back HL.out HX.out [0, 1, 2, 3, 4, 5, 6] (by decide) (by decide)
        clear hQ HL HX hO
        have hO := hN
        clear hN
        try simp only []
        obtain ⟨c9_0_0, c9_0_1, lt9_0, y9_0, -⟩ := hO.k2 0 rfl
        obtain ⟨c9_5_0, c9_5_1, lt9_5, y9_5, -⟩ := hO.k2 5 rfl
        obtain ⟨c9_6_0, c9_6_1, lt9_6, y9_6, -⟩ := hO.k2 6 rfl
        have HO := Lib.hid hO
        clear hO
        go_wp2_with (first | (with_reducible refine Own.stay (fn := Try.f4) ?_) | (at_builtin; refine Own.appStop ?_) | fail)
        try with_reducible refine Own.Stay.mk ?_
        have hO := HO.out
        clear HO c9_0_0 c9_0_1 lt9_0 y9_0 c9_5_0 c9_5_1 lt9_5 y9_5 c9_6_0 c9_6_1 lt9_6 y9_6
        generalize hW : World.alloc _ _ = W168
        have hN : Own w0 W168 [row (uw166.heap.size + 1 + 1) 35 #[.nilIface, .int .i32 0], row (uw166.heap.size + 1) 33 #[.int .i32 0], row (uw166.heap.size) 35 #[.nilIface, .int .i32 0], row (B159) 35 #[.nilIface, .int .i32 0], row (sb) 3 (full i64Z (ixV SL) sc), row (B1_2) 35 (lvR D n 0), row (B1_3) 36 (clR D n 0), row (ub) 5 (itR U n), row (B1) 27 #[.int .u32 D.src, .int .u32 D.inn], row (B1_1) 27 #[.int .u32 D.src, .int .u32 D.inx]] Y := by
          rw [← hW]
          exact (((hO).alloc' _ (uw166.heap.size) (by simp)).alloc' _ (uw166.heap.size + 1) (by simp)).alloc' _ (uw166.heap.size + 1 + 1) (by simp)
        clear hW hO
        generalize uw166.heap.size + 1 + 1 = B167_2 at hN ⊢
        generalize uw166.heap.size + 1 = B167_1 at hN ⊢
        generalize uw166.heap.size = B167 at hN ⊢
        have hO := hN
        clear hN
        have hL := hO.apart
        have hX := hO.apartX
        have HL := Lib.hid hL
        have HX := Lib.hid hX
        clear hL hX
        have hP9 := hO.pick [] (by decide)
        have T9 := flatNil 0 _ _ _ hP9 
        refine Calls.mono T9 ?_
        clear hP9 T9
        rintro e uw169 ⟨rfl, hQ⟩
        have hN : Own w0 uw169 [row (B167_2) 35 #[.nilIface, .int .i32 0], row (B167_1) 33 #[.int .i32 0], row (B167) 35 #[.nilIface, .int .i32 0], row (B159) 35 #[.nilIface, .int .i32 0], row (sb) 3 (full i64Z (ixV SL) sc), row (B1_2) 35 (lvR D n 0), row (B1_3) 36 (clR D n 0), row (ub) 5 (itR U n), row (B1) 27 #[.int .u32 D.src, .int .u32 D.inn], row (B1_1) 27 #[.int .u32 D.src, .int .u32 D.inx]] Y := hQ.back HL.out HX.out [0, 1, 2, 3, 4, 5, 6, 7, 8, 9] (by decide) (by decide)
        clear hQ HL HX hO
        have hO := hN
        clear hN
        try simp only []
        obtain ⟨c9_0_0, c9_0_1, lt9_0, y9_0, -⟩ := hO.k2 0 rfl
        obtain ⟨c9_1_0, lt9_1, y9_1, -⟩ := hO.k1 1 rfl
        obtain ⟨c9_2_0, c9_2_1, lt9_2, y9_2, -⟩ := hO.k2 2 rfl
        obtain ⟨c9_3_0, c9_3_1, lt9_3, y9_3, -⟩ := hO.k2 3 rfl
        obtain ⟨c9_8_0, c9_8_1, lt9_8, y9_8, -⟩ := hO.k2 8 rfl
        obtain ⟨c9_9_0, c9_9_1, lt9_9, y9_9, -⟩ := hO.k2 9 rfl
        have HO := Lib.hid hO
        clear hO
        go_wp2_with (first | (with_reducible refine Own.stay (fn := Try.f4) ?_) | (at_builtin; refine Own.appStop ?_) | fail)
        try with_reducible refine Own.Stay.mk ?_
        have hO := HO.out
        clear HO c9_0_0 c9_0_1 lt9_0 y9_0 c9_1_0 lt9_1 y9_1 c9_2_0 c9_2_1 lt9_2 y9_2 c9_3_0 c9_3_1 lt9_3 y9_3 c9_8_0 c9_8_1 lt9_8 y9_8 c9_9_0 c9_9_1 lt9_9 y9_9
        have hL := hO.apart
        have hX := hO.apartX
        have HL := Lib.hid hL
        have HX := Lib.hid hX
        clear hL hX
        have hP9 := hO.pick [] (by decide)
        have h9_heq : (n : Int) = (lo : Int) := (by have := HLE.out; omega)
        have h9_hlo9 : (lo : Int) ≤ 5000 := (by omega)
        have T9 := isRng0b (lo : Int) (n : Int) _ _ _ hP9 h9_heq (by omega) h9_hlo9
        refine Calls.mono T9 ?_
        clear hP9 T9 h9_heq h9_hlo9
        rintro e uw170 ⟨rfl, hQ⟩
        have hN : Own w0 uw170 [row (B167_2) 35 #[.nilIface, .int .i32 0], row (B167_1) 33 #[.int .i32 0], row (B167) 35 #[.nilIface, .int .i32 0], row (B159) 35 #[.nilIface, .int .i32 0], row (sb) 3 (full i64Z (ixV SL) sc), row (B1_2) 35 (lvR D n 0), row (B1_3) 36 (clR D n 0), row (ub) 5 (itR U n), row (B1) 27 #[.int .u32 D.src, .int .u32 D.inn], row (B1_1) 27 #[.int .u32 D.src, .int .u32 D.inx]] Y := hQ.back HL.out HX.out [0, 1, 2, 3, 4, 5, 6, 7, 8, 9] (by decide) (by decide)
        clear hQ HL HX hO
        have hO := hN
        clear hN
        try simp only []
        obtain ⟨c9_0_0, c9_0_1, lt9_0, y9_0, -⟩ := hO.k2 0 rfl
        obtain ⟨c9_1_0, lt9_1, y9_1, -⟩ := hO.k1 1 rfl
        obtain ⟨c9_2_0, c9_2_1, lt9_2, y9_2, -⟩ := hO.k2 2 rfl
        obtain ⟨c9_3_0, c9_3_1, lt9_3, y9_3, -⟩ := hO.k2 3 rfl
        obtain ⟨c9_8_0, c9_8_1, lt9_8, y9_8, -⟩ := hO.k2 8 rfl
        obtain ⟨c9_9_0, c9_9_1, lt9_9, y9_9, -⟩ := hO.k2 9 rfl
        have HO := Lib.hid hO
        clear hO
        go_wp2_with (first | (with_reducible refine Own.stay (fn := Try.f4) ?_) | (at_builtin; refine Own.appStop ?_) | fail)
        try with_reducible refine Own.Stay.mk ?_
        have hO := HO.out
        clear HO c9_0_0 c9_0_1 lt9_0 y9_0 c9_1_0 lt9_1 y9_1 c9_2_0 c9_2_1 lt9_2 y9_2 c9_3_0 c9_3_1 lt9_3 y9_3 c9_8_0 c9_8_1 lt9_8 y9_8 c9_9_0 c9_9_1 lt9_9 y9_9
        have hO : Below w0.heap.size w0 uw170 := hO.below
        refine bodyPost_ret (v := .bool true) ?_ rfl ⟨rfl, hO⟩
        simp [results, go_sem]
      · skip
        have hN : Own w0 wr [row (B159) 35 #[dV D t, .int .i32 (lV t)], row (sb) 3 (full i64Z (ixV SL) sc), row (B1_2) 35 (lvR D n 0), row (B1_3) 36 (clR D n 0), row (ub) 5 (itR U n), row (B1) 27 #[.int .u32 D.src, .int .u32 D.inn], row (B1_1) 27 #[.int .u32 D.src, .int .u32 D.inx]] Y := hO
        clear hO
        have hO := hN
        clear hN
        have hFL := Lib.hid hfl
        have hLN : t.flat.length = n - lo := hfl9
        have HLN := Lib.hid hLN
        clear hfl9 hLN hfl
        obtain ⟨c9_0_0, c9_0_1, lt9_0, y9_0, -⟩ := hO.k2 0 rfl
        obtain ⟨c9_5_0, c9_5_1, lt9_5, y9_5, -⟩ := hO.k2 5 rfl
        obtain ⟨c9_6_0, c9_6_1, lt9_6, y9_6, -⟩ := hO.k2 6 rfl
        have HO := Lib.hid hO
        clear hO
        go_wp2_with (first | (with_reducible refine Own.stay (fn := Try.f4) ?_) | (at_builtin; refine Own.appStop ?_) | fail)
        try with_reducible refine Own.Stay.mk ?_
        have hO := HO.out
        clear HO c9_0_0 c9_0_1 lt9_0 y9_0 c9_5_0 c9_5_1 lt9_5 y9_5 c9_6_0 c9_6_1 lt9_6 y9_6
        have hL := hO.apart
        have hX := hO.apartX
        have HL := Lib.hid hL
        have HX := Lib.hid hX
        clear hL hX
        have hP9 := hO.pick [] (by decide)
        have h9_h1 : ∀ i, i ∈ t.flat → D.kd i ≠ 1 := (fun q hq => hno q (by rw [show t.flat = _ from hFL.out] at hq; have := List.mem_range'.1 hq; omega) (by rw [show t.flat = _ from hFL.out] at hq; have := List.mem_range'.1 hq; omega))
        have h9_hne : ¬ D.inx = D.inn := hnx
        have T9 := doorN D t _ _ _ hP9 ((show NodesIn Y D t from hNo).mono fun _ _ h => Or.inl h) (fun q hq => (hLf q (by rw [show t.flat = _ from hFL.out] at hq; have := List.mem_range'.1 hq; omega) (by rw [show t.flat = _ from hFL.out] at hq; have := List.mem_range'.1 hq; omega)).mono fun _ _ h => Or.inl h) h9_h1 h9_hne
        refine Calls.mono T9 ?_
        clear hP9 T9 h9_h1 h9_hne
        rintro e uw171 ⟨rfl, hQ⟩
        have hN : Own w0 uw171 [row (B159) 35 #[dV D t, .int .i32 (lV t)], row (sb) 3 (full i64Z (ixV SL) sc), row (B1_2) 35 (lvR D n 0), row (B1_3) 36 (clR D n 0), row (ub) 5 (itR U n), row (B1) 27 #[.int .u32 D.src, .int .u32 D.inn], row (B1_1) 27 #[.int .u32 D.src, .int .u32 D.inx]] Y := hQ.back HL.out HX.out [0, 1, 2, 3, 4, 5, 6] (by decide) (by decide)
        clear hQ HL HX hO
        have hO := hN
        clear hN
        try simp only []
        obtain ⟨c9_0_0, c9_0_1, lt9_0, y9_0, -⟩ := hO.k2 0 rfl
        obtain ⟨c9_5_0, c9_5_1, lt9_5, y9_5, -⟩ := hO.k2 5 rfl
        obtain ⟨c9_6_0, c9_6_1, lt9_6, y9_6, -⟩ := hO.k2 6 rfl
        have HO := Lib.hid hO
        clear hO
        go_wp2_with (first | (with_reducible refine Own.stay (fn := Try.f4) ?_) | (at_builtin; refine Own.appStop ?_) | fail)
        try with_reducible refine Own.Stay.mk ?_
        have hO := HO.out
        clear HO c9_0_0 c9_0_1 lt9_0 y9_0 c9_5_0 c9_5_1 lt9_5 y9_5 c9_6_0 c9_6_1 lt9_6 y9_6
        generalize hW : World.alloc _ _ = W173
        have hN : Own w0 W173 [row (uw171.heap.size + 1 + 1) 35 #[.nilIface, .int .i32 0], row (uw171.heap.size + 1) 33 #[.int .i32 0], row (uw171.heap.size) 35 #[.nilIface, .int .i32 0], row (B159) 35 #[dV D t, .int .i32 (lV t)], row (sb) 3 (full i64Z (ixV SL) sc), row (B1_2) 35 (lvR D n 0), row (B1_3) 36 (clR D n 0), row (ub) 5 (itR U n), row (B1) 27 #[.int .u32 D.src, .int .u32 D.inn], row (B1_1) 27 #[.int .u32 D.src, .int .u32 D.inx]] Y := by
          rw [← hW]
          exact (((hO).alloc' _ (uw171.heap.size) (by simp)).alloc' _ (uw171.heap.size + 1) (by simp)).alloc' _ (uw171.heap.size + 1 + 1) (by simp)
        clear hW hO
        generalize uw171.heap.size + 1 + 1 = B172_2 at hN ⊢
        generalize uw171.heap.size + 1 = B172_1 at hN ⊢
        generalize uw171.heap.size = B172 at hN ⊢
        have hO := hN
        clear hN
        have hL := hO.apart
        have hX := hO.apartX
        have HL := Lib.hid hL
        have HX := Lib.hid hX
        clear hL hX
        have hP9 := hO.pick [] (by decide)
        have h9_hbd : t.flat.length ≤ 100000 := (by have := HLN.out; omega)
        have T9 := flat0 D t _ _ _ hP9 ((show NodesIn Y D t from hNo).mono fun _ _ h => Or.inl h) h9_hbd
        refine Calls.mono T9 ?_
        clear hP9 T9 h9_hbd
        rintro e uw174 ⟨nd175, nd176, rfl, hQ⟩
        have hN : Own w0 uw174 [row (nd175) 21 (full i32Z (rgV (t.flat)) nd176), row (B172_2) 35 #[.nilIface, .int .i32 0], row (B172_1) 33 #[.int .i32 0], row (B172) 35 #[.nilIface, .int .i32 0], row (B159) 35 #[dV D t, .int .i32 (lV t)], row (sb) 3 (full i64Z (ixV SL) sc), row (B1_2) 35 (lvR D n 0), row (B1_3) 36 (clR D n 0), row (ub) 5 (itR U n), row (B1) 27 #[.int .u32 D.src, .int .u32 D.inn], row (B1_1) 27 #[.int .u32 D.src, .int .u32 D.inx]] Y := hQ.back HL.out HX.out [0, 1, 2, 3, 4, 5, 6, 7, 8, 9] (by decide) (by decide)
        clear hQ HL HX hO
        have hO := hN
        clear hN
        try simp only []
        obtain ⟨c9_1_0, c9_1_1, lt9_1, y9_1, -⟩ := hO.k2 1 rfl
        obtain ⟨c9_2_0, lt9_2, y9_2, -⟩ := hO.k1 2 rfl
        obtain ⟨c9_3_0, c9_3_1, lt9_3, y9_3, -⟩ := hO.k2 3 rfl
        obtain ⟨c9_4_0, c9_4_1, lt9_4, y9_4, -⟩ := hO.k2 4 rfl
        obtain ⟨c9_9_0, c9_9_1, lt9_9, y9_9, -⟩ := hO.k2 9 rfl
        obtain ⟨c9_10_0, c9_10_1, lt9_10, y9_10, -⟩ := hO.k2 10 rfl
        have HO := Lib.hid hO
        clear hO
        go_wp2_with (first | (with_reducible refine Own.stay (fn := Try.f4) ?_) | (at_builtin; refine Own.appStop ?_) | fail)
        try with_reducible refine Own.Stay.mk ?_
        have hO := HO.out
        clear HO c9_1_0 c9_1_1 lt9_1 y9_1 c9_2_0 lt9_2 y9_2 c9_3_0 c9_3_1 lt9_3 y9_3 c9_4_0 c9_4_1 lt9_4 y9_4 c9_9_0 c9_9_1 lt9_9 y9_9 c9_10_0 c9_10_1 lt9_10 y9_10
        have hL := hO.apart
        have hX := hO.apartX
        have HL := Lib.hid hL
        have HX := Lib.hid hX
        clear hL hX
        have hP9 := hO.pick [0] (by decide)
        have h9_hm : t.flat.length = t.flat.length := rfl
        have h9_hhi : (n : Int) = (lo : Int) + (t.flat.length : Int) := (by have := HLN.out; omega)
        have h9_hlo9 : (n : Int) ≤ 5000 := (by omega)
        have T9 := isRng1 nd175 nd176 t.flat t.flat.length (lo : Int) (n : Int) _ _ _ hP9 h9_hm (fun q hq => by rw [show t.flat = _ from hFL.out]; rw [HLN.out] at hq; obtain ⟨v9, h8, h7⟩ := rng_at (lo := lo) hq; exact ⟨v9, h8, by omega⟩) h9_hhi (by omega) h9_hlo9
        refine Calls.mono T9 ?_
        clear hP9 T9 h9_hm h9_hhi h9_hlo9
        rintro e uw177 ⟨rfl, hQ⟩
        have hN : Own w0 uw177 [row (nd175) 21 (full i32Z (rgV t.flat) nd176), row (B172_2) 35 #[.nilIface, .int .i32 0], row (B172_1) 33 #[.int .i32 0], row (B172) 35 #[.nilIface, .int .i32 0], row (B159) 35 #[dV D t, .int .i32 (lV t)], row (sb) 3 (full i64Z (ixV SL) sc), row (B1_2) 35 (lvR D n 0), row (B1_3) 36 (clR D n 0), row (ub) 5 (itR U n), row (B1) 27 #[.int .u32 D.src, .int .u32 D.inn], row (B1_1) 27 #[.int .u32 D.src, .int .u32 D.inx]] Y := hQ.back HL.out HX.out [1, 2, 3, 4, 5, 6, 7, 8, 9, 10] (by decide) (by decide)
        clear hQ HL HX hO
        have hO := hN
        clear hN
        try simp only []
        obtain ⟨c9_1_0, c9_1_1, lt9_1, y9_1, -⟩ := hO.k2 1 rfl
        obtain ⟨c9_2_0, lt9_2, y9_2, -⟩ := hO.k1 2 rfl
        obtain ⟨c9_3_0, c9_3_1, lt9_3, y9_3, -⟩ := hO.k2 3 rfl
        obtain ⟨c9_4_0, c9_4_1, lt9_4, y9_4, -⟩ := hO.k2 4 rfl
        obtain ⟨c9_9_0, c9_9_1, lt9_9, y9_9, -⟩ := hO.k2 9 rfl
        obtain ⟨c9_10_0, c9_10_1, lt9_10, y9_10, -⟩ := hO.k2 10 rfl
        have HO := Lib.hid hO
        clear hO
        go_wp2_with (first | (with_reducible refine Own.stay (fn := Try.f4) ?_) | (at_builtin; refine Own.appStop ?_) | fail)
        try with_reducible refine Own.Stay.mk ?_
        have hO := HO.out
        clear HO c9_1_0 c9_1_1 lt9_1 y9_1 c9_2_0 lt9_2 y9_2 c9_3_0 c9_3_1 lt9_3 y9_3 c9_4_0 c9_4_1 lt9_4 y9_4 c9_9_0 c9_9_1 lt9_9 y9_9 c9_10_0 c9_10_1 lt9_10 y9_10
        have hO : Below w0.heap.size w0 uw177 := hO.below
        refine bodyPost_ret (v := .bool true) ?_ rfl ⟨rfl, hO⟩
        simp [results, go_sem]
    · skip
      obtain ⟨t, rfl⟩ : ∃ t, o = some t := by
          rcases o with _ | t
          · have h9 : (0 : Nat) = n - lo := hfl9; omega
          · exact ⟨t, rfl⟩
      have hN : Own w0 wr [row (B159) 35 #[dV D t, .int .i32 (lV t)], row (sb) 3 (full i64Z (ixV SL) sc), row (B1_2) 35 (lvR D n 0), row (B1_3) 36 (clR D n 0), row (ub) 5 (itR U n), row (B1) 27 #[.int .u32 D.src, .int .u32 D.inn], row (B1_1) 27 #[.int .u32 D.src, .int .u32 D.inx]] Y := hO
      clear hO
      have hO := hN
      clear hN
      have h0 : ¬ D.kd k = 0 := by omega
      have hsp : t.flat = _ := (show t.flat = _ from hfl).trans (rng_split hk8 hk9)
      have hLk := (hLf k hk8 hk9).yes h0
      have hXk := hLk.1
      have hkn : (k : Int) < (n : Int) := by omega
      have hk80 : (0 : Int) ≤ (k : Int) := by omega
      have hkl : (lo : Int) ≤ (k : Int) := by omega
      have hfk9 : (fo : Int) < (s : Int) := by omega
      have hN : NodesIn Y D t := hNo
      have hLf2 : ∀ (A B : List Nat) (es c : Nat) q, k + 1 ≤ q → q < n → LeafIn (XF Y D k A B es c) D q := fun A B es c q h1 h2 => (hLf q (by omega) h2).xf (fun h9 => hap.ne h2 hk9 (by omega) h9 h0) (fun h9 => ident_ne hO ((hLf q (by omega) h2).yes h9).2 hXk)
      have hfl2 := hfl
      clear hfl hfl9 hdr hNo hLk
      obtain ⟨c9_0_0, c9_0_1, lt9_0, y9_0, -⟩ := hO.k2 0 rfl
      obtain ⟨c9_5_0, c9_5_1, lt9_5, y9_5, -⟩ := hO.k2 5 rfl
      obtain ⟨c9_6_0, c9_6_1, lt9_6, y9_6, -⟩ := hO.k2 6 rfl
      have HO := Lib.hid hO
      clear hO
      go_wp2_with (first | (with_reducible refine Own.stay (fn := Try.f4) ?_) | (at_builtin; refine Own.appStop ?_) | fail)
      try with_reducible refine Own.Stay.mk ?_
      have hO := HO.out
      clear HO c9_0_0 c9_0_1 lt9_0 y9_0 c9_5_0 c9_5_1 lt9_5 y9_5 c9_6_0 c9_6_1 lt9_6 y9_6
      have hL := hO.apart
      have hX := hO.apartX
      have HL := Lib.hid hL
      have HX := Lib.hid hX
      clear hL hX
      have hP9 := hO.pick [] (by decide)
      have h9_hT : t.flat = (List.range' lo (k - lo)) ++ k :: (List.range' (k + 1) (n - (k + 1))) := hsp
      have h9_hA : ∀ i, i ∈ (List.range' lo (k - lo)) → D.kd i ≠ 1 := (fun q hq => hno q (by have := List.mem_range'.1 hq; omega) (by have := List.mem_range'.1 hq; omega))
      have h9_hk1 : D.kd k = 1 := hk1
      have h9_hne : ¬ D.inx = D.inn := hnx
      have T9 := doorF D k (List.range' lo (k - lo)) (List.range' (k + 1) (n - (k + 1))) t _ _ _ hP9 (hN.mono fun _ _ h => Or.inl h) (fun q hq => (hLf q (by rw [show t.flat = _ from hfl2] at hq; have := List.mem_range'.1 hq; omega) (by rw [show t.flat = _ from hfl2] at hq; have := List.mem_range'.1 hq; omega)).mono fun _ _ h => Or.inl h) h9_hT h9_hA h9_hk1 h9_hne (Or.inl hXk)
      refine Calls.mono T9 ?_
      clear hP9 T9 h9_hT h9_hA h9_hk1 h9_hne
      rintro e uw178 ⟨nd179, nd180, rfl, hQ⟩
      have hN : Own w0 uw178 [row (B159) 35 #[dV D t, .int .i32 (lV t)], row (sb) 3 (full i64Z (ixV SL) sc), row (B1_2) 35 (lvR D n 0), row (B1_3) 36 (clR D n 0), row (ub) 5 (itR U n), row (B1) 27 #[.int .u32 D.src, .int .u32 D.inn], row (B1_1) 27 #[.int .u32 D.src, .int .u32 D.inx]] (XF Y D k (List.range' lo (k - lo)) (List.range' (k + 1) (n - (k + 1))) nd179 nd180) := hQ.backXF HL.out HX.out hXk (by
        intro r9 hr9
        simp only [List.mem_cons, List.not_mem_nil, or_false] at hr9
        rcases hr9 with rfl | rfl | rfl | rfl | rfl | rfl | rfl
        all_goals exact ⟨_, _, rfl, by decide⟩)
      clear hQ HL HX hO
      have hO := hN
      clear hN
      try simp only []
      have hx3 : (XF Y D k (List.range' lo (k - lo)) (List.range' (k + 1) (n - (k + 1))) nd179 nd180) (D.ad k) (.cells (callC (.iface 67 (.pointer (some ⟨nd179, 0, none⟩))) (k : Int)) 46 (0, 0)) := Or.inr (Or.inl ⟨rfl, rfl⟩)
      have hfa := flat_bfA (List.range' lo (k - lo)) nd180
      have hfb := flat_afB (List.range' (k + 1) (n - (k + 1))) nd180
      have hna : NodesO (XF Y D k (List.range' lo (k - lo)) (List.range' (k + 1) (n - (k + 1))) nd179 nd180) D (bfA (List.range' lo (k - lo)) nd180) := NodesO.bf
      have hnb : NodesO (XF Y D k (List.range' lo (k - lo)) (List.range' (k + 1) (n - (k + 1))) nd179 nd180) D (afB (List.range' (k + 1) (n - (k + 1))) nd180) := NodesO.af
      have hlf := hLf2 (List.range' lo (k - lo)) (List.range' (k + 1) (n - (k + 1))) nd179 nd180
      have HLF := Lib.hid hlf
      have HNO := Lib.hid hno
      have HLF2 := Lib.hid hLf
      clear hlf hLf2 hLf hno
      cases hca : bfA (List.range' lo (k - lo)) nd180
      · skip
        rw [hca] at hfa hna
        have hlk : (k : Int) = (lo : Int) := by have := congrArg List.length (show [] = _ from hfa); rw [List.length_range'] at this; have h9 : ([] : List Nat).length = 0 := rfl; omega
        have HLK := Lib.hid hlk
        clear hlk
        have HFA := Lib.hid hfa
        have HFB := Lib.hid hfb
        clear hfa hfb
        obtain ⟨ix9, hix9, hax9, hjx9⟩ := hO.ix
        have ix9_0 : ix9 B159 = 0 := hjx9 0 _ _ rfl
        have ix9_1 : ix9 sb = 1 := hjx9 1 _ _ rfl
        have ix9_2 : ix9 B1_2 = 2 := hjx9 2 _ _ rfl
        have ix9_3 : ix9 B1_3 = 3 := hjx9 3 _ _ rfl
        have ix9_4 : ix9 ub = 4 := hjx9 4 _ _ rfl
        have ix9_5 : ix9 B1 = 5 := hjx9 5 _ _ rfl
        have ix9_6 : ix9 B1_1 = 6 := hjx9 6 _ _ rfl
        clear hjx9
        obtain ⟨c9_0_0, c9_0_1, lt9_0, y9_0, pl9_0⟩ := hO.k2 0 rfl
        have c9_1_fo : uw178.cell? ⟨sb, fo, none⟩ = some (.int .i64 (k : Int)) := hO.cell 1 rfl (fo) ((full_at (ixV_at hSk)))
        have lt9_1 : sb < uw178.heap.size := hO.lt 1 rfl
        have y9_1 : ∀ o, uw178.frozen? ⟨sb, o, none⟩ = false := hO.free 1 rfl
        have pl9_2 : Base.plainAt uw178 (B1_2) = true := hO.plain 2 rfl
        have c9_3_k : uw178.cell? ⟨B1_3, k, none⟩ = some (.pointer (some ⟨D.ad k, 0, none⟩)) := hO.cell 3 rfl (k) (((clR_get 0 hk9).trans (congrArg some (clD_call h0))))
        have lt9_3 : B1_3 < uw178.heap.size := hO.lt 3 rfl
        have y9_3 : ∀ o, uw178.frozen? ⟨B1_3, o, none⟩ = false := hO.free 3 rfl
        obtain ⟨c9_5_0, c9_5_1, lt9_5, y9_5, pl9_5⟩ := hO.k2 5 rfl
        obtain ⟨c9_6_0, c9_6_1, lt9_6, y9_6, pl9_6⟩ := hO.k2 6 rfl
        have HO := Lib.hid hO
        clear hO
        have fx0_0 : uw178.cell? ⟨D.ad k, 0, none⟩ = some (.iface 67 (.pointer (some ⟨nd179, 0, none⟩))) := HO.out.fcell hx3 0 rfl
        have fx0_1 : uw178.cell? ⟨D.ad k, 1, none⟩ = some (.int .i32 (k : Int)) := HO.out.fcell hx3 1 rfl
        have fx0_2 : uw178.cell? ⟨D.ad k, 2, none⟩ = some (.slice none 0 0) := HO.out.fcell hx3 2 rfl
        have fx0_3 : uw178.cell? ⟨D.ad k, 3, none⟩ = some (.int .i32 0) := HO.out.fcell hx3 3 rfl
        have fx0_4 : uw178.cell? ⟨D.ad k, 4, none⟩ = some (.int .u8 0) := HO.out.fcell hx3 4 rfl
        have fx0_5 : uw178.cell? ⟨D.ad k, 5, none⟩ = some (.int .u8 0) := HO.out.fcell hx3 5 rfl
        have fx0_6 : uw178.cell? ⟨D.ad k, 6, none⟩ = some (.bool false) := HO.out.fcell hx3 6 rfl
        have fx0_7 : uw178.cell? ⟨D.ad k, 7, none⟩ = some (.bool false) := HO.out.fcell hx3 7 rfl
        go_wp2_with (first | (with_reducible refine Own.stay (fn := Try.f4) ?_) | (at_builtin; refine Own.appStop ?_) | fail)
        try with_reducible refine Own.Stay.mk ?_
        have hO := HO.out
        clear HO hix9 hax9 ix9_0 ix9_1 ix9_2 ix9_3 ix9_4 ix9_5 ix9_6 ix9 fx0_0 fx0_1 fx0_2 fx0_3 fx0_4 fx0_5 fx0_6 fx0_7 c9_0_0 c9_0_1 lt9_0 y9_0 pl9_0 c9_1_fo lt9_1 y9_1 pl9_2 c9_3_k lt9_3 y9_3 c9_5_0 c9_5_1 lt9_5 y9_5 pl9_5 c9_6_0 c9_6_1 lt9_6 y9_6 pl9_6
        generalize hW : World.alloc _ _ = W182
        have hN : Own w0 W182 [row (uw178.heap.size + 1 + 1) 35 #[dO D (afB (List.range' (k + 1) (n - (k + 1))) nd180), .int .i32 (lO (afB (List.range' (k + 1) (n - (k + 1))) nd180))], row (uw178.heap.size + 1) 33 #[.int .i32 (k : Int)], row (uw178.heap.size) 35 #[dO D none, .int .i32 (lO none)], row (B159) 35 #[dV D t, .int .i32 (lV t)], row (sb) 3 (full i64Z (ixV SL) sc), row (B1_2) 35 (lvR D n 0), row (B1_3) 36 (clR D n 0), row (ub) 5 (itR U n), row (B1) 27 #[.int .u32 D.src, .int .u32 D.inn], row (B1_1) 27 #[.int .u32 D.src, .int .u32 D.inx]] (XF Y D k (List.range' lo (k - lo)) (List.range' (k + 1) (n - (k + 1))) nd179 nd180) := by
          rw [← hW]
          exact (((hO).alloc' _ (uw178.heap.size) (by simp)).alloc' _ (uw178.heap.size + 1) (by simp)).alloc' _ (uw178.heap.size + 1 + 1) (by simp)
        clear hW hO
        generalize uw178.heap.size + 1 + 1 = B181_2 at hN ⊢
        generalize uw178.heap.size + 1 = B181_1 at hN ⊢
        generalize uw178.heap.size = B181 at hN ⊢
        have hO := hN
        clear hN
        have hL := hO.apart
        have hX := hO.apartX
        have HL := Lib.hid hL
        have HX := Lib.hid hX
        clear hL hX
        have hP9 := hO.pick [] (by decide)
        have T9 := flatZO D _ _ _ hP9 
        refine Calls.mono T9 ?_
        clear hP9 T9
        rintro e uw183 ⟨rfl, hQ⟩
        have hN : Own w0 uw183 [row (B181_2) 35 #[dO D (afB (List.range' (k + 1) (n - (k + 1))) nd180), .int .i32 (lO (afB (List.range' (k + 1) (n - (k + 1))) nd180))], row (B181_1) 33 #[.int .i32 (k : Int)], row (B181) 35 #[dO D none, .int .i32 (lO none)], row (B159) 35 #[dV D t, .int .i32 (lV t)], row (sb) 3 (full i64Z (ixV SL) sc), row (B1_2) 35 (lvR D n 0), row (B1_3) 36 (clR D n 0), row (ub) 5 (itR U n), row (B1) 27 #[.int .u32 D.src, .int .u32 D.inn], row (B1_1) 27 #[.int .u32 D.src, .int .u32 D.inx]] (XF Y D k (List.range' lo (k - lo)) (List.range' (k + 1) (n - (k + 1))) nd179 nd180) := hQ.back HL.out HX.out [0, 1, 2, 3, 4, 5, 6, 7, 8, 9] (by decide) (by decide)
        clear hQ HL HX hO
        have hO := hN
        clear hN
        try simp only []
        obtain ⟨c9_0_0, c9_0_1, lt9_0, y9_0, -⟩ := hO.k2 0 rfl
        obtain ⟨c9_1_0, lt9_1, y9_1, -⟩ := hO.k1 1 rfl
        obtain ⟨c9_2_0, c9_2_1, lt9_2, y9_2, -⟩ := hO.k2 2 rfl
        obtain ⟨c9_3_0, c9_3_1, lt9_3, y9_3, -⟩ := hO.k2 3 rfl
        obtain ⟨c9_8_0, c9_8_1, lt9_8, y9_8, -⟩ := hO.k2 8 rfl
        obtain ⟨c9_9_0, c9_9_1, lt9_9, y9_9, -⟩ := hO.k2 9 rfl
        have HO := Lib.hid hO
        clear hO
        have fx0_0 : uw183.cell? ⟨D.ad k, 0, none⟩ = some (.iface 67 (.pointer (some ⟨nd179, 0, none⟩))) := HO.out.fcell hx3 0 rfl
        have fx0_1 : uw183.cell? ⟨D.ad k, 1, none⟩ = some (.int .i32 (k : Int)) := HO.out.fcell hx3 1 rfl
        have fx0_2 : uw183.cell? ⟨D.ad k, 2, none⟩ = some (.slice none 0 0) := HO.out.fcell hx3 2 rfl
        have fx0_3 : uw183.cell? ⟨D.ad k, 3, none⟩ = some (.int .i32 0) := HO.out.fcell hx3 3 rfl
        have fx0_4 : uw183.cell? ⟨D.ad k, 4, none⟩ = some (.int .u8 0) := HO.out.fcell hx3 4 rfl
        have fx0_5 : uw183.cell? ⟨D.ad k, 5, none⟩ = some (.int .u8 0) := HO.out.fcell hx3 5 rfl
        have fx0_6 : uw183.cell? ⟨D.ad k, 6, none⟩ = some (.bool false) := HO.out.fcell hx3 6 rfl
        have fx0_7 : uw183.cell? ⟨D.ad k, 7, none⟩ = some (.bool false) := HO.out.fcell hx3 7 rfl
        go_wp2_with (first | (with_reducible refine Own.stay (fn := Try.f4) ?_) | (at_builtin; refine Own.appStop ?_) | fail)
        try with_reducible refine Own.Stay.mk ?_
        have hO := HO.out
        clear HO fx0_0 fx0_1 fx0_2 fx0_3 fx0_4 fx0_5 fx0_6 fx0_7 c9_0_0 c9_0_1 lt9_0 y9_0 c9_1_0 lt9_1 y9_1 c9_2_0 c9_2_1 lt9_2 y9_2 c9_3_0 c9_3_1 lt9_3 y9_3 c9_8_0 c9_8_1 lt9_8 y9_8 c9_9_0 c9_9_1 lt9_9 y9_9
        have hL := hO.apart
        have hX := hO.apartX
        have HL := Lib.hid hL
        have HX := Lib.hid hX
        clear hL hX
        have hP9 := hO.pick [] (by decide)
        have h9_heq : (k : Int) = (lo : Int) := (by have := HLK.out; omega)
        have h9_hlo9 : (lo : Int) ≤ 5000 := (by omega)
        have T9 := isRng0b (lo : Int) (k : Int) _ _ _ hP9 h9_heq (by omega) h9_hlo9
        refine Calls.mono T9 ?_
        clear hP9 T9 h9_heq h9_hlo9
        rintro e uw184 ⟨rfl, hQ⟩
        have hN : Own w0 uw184 [row (B181_2) 35 #[dO D (afB (List.range' (k + 1) (n - (k + 1))) nd180), .int .i32 (lO (afB (List.range' (k + 1) (n - (k + 1))) nd180))], row (B181_1) 33 #[.int .i32 (k : Int)], row (B181) 35 #[dO D none, .int .i32 (lO none)], row (B159) 35 #[dV D t, .int .i32 (lV t)], row (sb) 3 (full i64Z (ixV SL) sc), row (B1_2) 35 (lvR D n 0), row (B1_3) 36 (clR D n 0), row (ub) 5 (itR U n), row (B1) 27 #[.int .u32 D.src, .int .u32 D.inn], row (B1_1) 27 #[.int .u32 D.src, .int .u32 D.inx]] (XF Y D k (List.range' lo (k - lo)) (List.range' (k + 1) (n - (k + 1))) nd179 nd180) := hQ.back HL.out HX.out [0, 1, 2, 3, 4, 5, 6, 7, 8, 9] (by decide) (by decide)
        clear hQ HL HX hO
        have hO := hN
        clear hN
        try simp only []
        obtain ⟨c9_0_0, c9_0_1, lt9_0, y9_0, -⟩ := hO.k2 0 rfl
        obtain ⟨c9_1_0, lt9_1, y9_1, -⟩ := hO.k1 1 rfl
        obtain ⟨c9_2_0, c9_2_1, lt9_2, y9_2, -⟩ := hO.k2 2 rfl
        obtain ⟨c9_3_0, c9_3_1, lt9_3, y9_3, -⟩ := hO.k2 3 rfl
        obtain ⟨c9_8_0, c9_8_1, lt9_8, y9_8, -⟩ := hO.k2 8 rfl
        obtain ⟨c9_9_0, c9_9_1, lt9_9, y9_9, -⟩ := hO.k2 9 rfl
        have HO := Lib.hid hO
        clear hO
        have fx0_0 : uw184.cell? ⟨D.ad k, 0, none⟩ = some (.iface 67 (.pointer (some ⟨nd179, 0, none⟩))) := HO.out.fcell hx3 0 rfl
        have fx0_1 : uw184.cell? ⟨D.ad k, 1, none⟩ = some (.int .i32 (k : Int)) := HO.out.fcell hx3 1 rfl
        have fx0_2 : uw184.cell? ⟨D.ad k, 2, none⟩ = some (.slice none 0 0) := HO.out.fcell hx3 2 rfl
        have fx0_3 : uw184.cell? ⟨D.ad k, 3, none⟩ = some (.int .i32 0) := HO.out.fcell hx3 3 rfl
        have fx0_4 : uw184.cell? ⟨D.ad k, 4, none⟩ = some (.int .u8 0) := HO.out.fcell hx3 4 rfl
        have fx0_5 : uw184.cell? ⟨D.ad k, 5, none⟩ = some (.int .u8 0) := HO.out.fcell hx3 5 rfl
        have fx0_6 : uw184.cell? ⟨D.ad k, 6, none⟩ = some (.bool false) := HO.out.fcell hx3 6 rfl
        have fx0_7 : uw184.cell? ⟨D.ad k, 7, none⟩ = some (.bool false) := HO.out.fcell hx3 7 rfl
        go_wp2_with (first | (with_reducible refine Own.stay (fn := Try.f4) ?_) | (at_builtin; refine Own.appStop ?_) | fail)
        try with_reducible refine Own.Stay.mk ?_
        have hO := HO.out
        clear HO fx0_0 fx0_1 fx0_2 fx0_3 fx0_4 fx0_5 fx0_6 fx0_7 c9_0_0 c9_0_1 lt9_0 y9_0 c9_1_0 lt9_1 y9_1 c9_2_0 c9_2_1 lt9_2 y9_2 c9_3_0 c9_3_1 lt9_3 y9_3 c9_8_0 c9_8_1 lt9_8 y9_8 c9_9_0 c9_9_1 lt9_9 y9_9
        have hL := hO.apart
        have hX := hO.apartX
        have HL := Lib.hid hL
        have HX := Lib.hid hX
        clear hL hX
        have hP9 := hO.pick [] (by decide)
        have T9 := isSup1 nd179 (k : Int) _ _ _ hP9 
        refine Calls.mono T9 ?_
        clear hP9 T9
        rintro e uw185 ⟨rfl, hQ⟩
        have hN : Own w0 uw185 [row (B181_2) 35 #[dO D (afB (List.range' (k + 1) (n - (k + 1))) nd180), .int .i32 (lO (afB (List.range' (k + 1) (n - (k + 1))) nd180))], row (B181_1) 33 #[.int .i32 (k : Int)], row (B181) 35 #[dO D none, .int .i32 (lO none)], row (B159) 35 #[dV D t, .int .i32 (lV t)], row (sb) 3 (full i64Z (ixV SL) sc), row (B1_2) 35 (lvR D n 0), row (B1_3) 36 (clR D n 0), row (ub) 5 (itR U n), row (B1) 27 #[.int .u32 D.src, .int .u32 D.inn], row (B1_1) 27 #[.int .u32 D.src, .int .u32 D.inx]] (XF Y D k (List.range' lo (k - lo)) (List.range' (k + 1) (n - (k + 1))) nd179 nd180) := hQ.back HL.out HX.out [0, 1, 2, 3, 4, 5, 6, 7, 8, 9] (by decide) (by decide)
        clear hQ HL HX hO
        have hO := hN
        clear hN
        try simp only []
        obtain ⟨c9_0_0, c9_0_1, lt9_0, y9_0, -⟩ := hO.k2 0 rfl
        obtain ⟨c9_1_0, lt9_1, y9_1, -⟩ := hO.k1 1 rfl
        obtain ⟨c9_2_0, c9_2_1, lt9_2, y9_2, -⟩ := hO.k2 2 rfl
        obtain ⟨c9_3_0, c9_3_1, lt9_3, y9_3, -⟩ := hO.k2 3 rfl
        obtain ⟨c9_8_0, c9_8_1, lt9_8, y9_8, -⟩ := hO.k2 8 rfl
        obtain ⟨c9_9_0, c9_9_1, lt9_9, y9_9, -⟩ := hO.k2 9 rfl
        have HO := Lib.hid hO
        clear hO
        have fx0_0 : uw185.cell? ⟨D.ad k, 0, none⟩ = some (.iface 67 (.pointer (some ⟨nd179, 0, none⟩))) := HO.out.fcell hx3 0 rfl
        have fx0_1 : uw185.cell? ⟨D.ad k, 1, none⟩ = some (.int .i32 (k : Int)) := HO.out.fcell hx3 1 rfl
        have fx0_2 : uw185.cell? ⟨D.ad k, 2, none⟩ = some (.slice none 0 0) := HO.out.fcell hx3 2 rfl
        have fx0_3 : uw185.cell? ⟨D.ad k, 3, none⟩ = some (.int .i32 0) := HO.out.fcell hx3 3 rfl
        have fx0_4 : uw185.cell? ⟨D.ad k, 4, none⟩ = some (.int .u8 0) := HO.out.fcell hx3 4 rfl
        have fx0_5 : uw185.cell? ⟨D.ad k, 5, none⟩ = some (.int .u8 0) := HO.out.fcell hx3 5 rfl
        have fx0_6 : uw185.cell? ⟨D.ad k, 6, none⟩ = some (.bool false) := HO.out.fcell hx3 6 rfl
        have fx0_7 : uw185.cell? ⟨D.ad k, 7, none⟩ = some (.bool false) := HO.out.fcell hx3 7 rfl
        go_wp2_with (first | (with_reducible refine Own.stay (fn := Try.f4) ?_) | (at_builtin; refine Own.appStop ?_) | fail)
        try with_reducible refine Own.Stay.mk ?_
        have hO := HO.out
        clear HO fx0_0 fx0_1 fx0_2 fx0_3 fx0_4 fx0_5 fx0_6 fx0_7 c9_0_0 c9_0_1 lt9_0 y9_0 c9_1_0 lt9_1 y9_1 c9_2_0 c9_2_1 lt9_2 y9_2 c9_3_0 c9_3_1 lt9_3 y9_3 c9_8_0 c9_8_1 lt9_8 y9_8 c9_9_0 c9_9_1 lt9_9 y9_9
        generalize hW : World.setCell _ _ _ = W187
        have hN : Own w0 W187 [row (B181_2) 35 #[dO D (afB (List.range' (k + 1) (n - (k + 1))) nd180), .int .i32 (lO (afB (List.range' (k + 1) (n - (k + 1))) nd180))], row (B181_1) 33 #[.int .i32 (k : Int)], row (B181) 35 #[dO D none, .int .i32 (lO none)], row (B159) 35 #[dO D (afB (List.range' (k + 1) (n - (k + 1))) nd180), .int .i32 (lO (afB (List.range' (k + 1) (n - (k + 1))) nd180))], row (sb) 3 (full i64Z (ixV SL) sc), row (B1_2) 35 (lvR D n 0), row (B1_3) 36 (clR D n 0), row (ub) 5 (itR U n), row (B1) 27 #[.int .u32 D.src, .int .u32 D.inn], row (B1_1) 27 #[.int .u32 D.src, .int .u32 D.inx]] (XF Y D k (List.range' lo (k - lo)) (List.range' (k + 1) (n - (k + 1))) nd179 nd180) := by
          rw [← hW]
          exact ((hO).set 3 rfl 0 _).set 3 rfl 1 _
        clear hW hO
        have hO := hN
        clear hN
        have hN : Own w0 W187 [row (B159) 35 #[dO D (afB (List.range' (k + 1) (n - (k + 1))) nd180), .int .i32 (lO (afB (List.range' (k + 1) (n - (k + 1))) nd180))], row (sb) 3 (full i64Z (ixV SL) sc), row (B1_2) 35 (lvR D n 0), row (B1_3) 36 (clR D n 0), row (ub) 5 (itR U n), row (B1) 27 #[.int .u32 D.src, .int .u32 D.inn], row (B1_1) 27 #[.int .u32 D.src, .int .u32 D.inx]] (XF Y D k (List.range' lo (k - lo)) (List.range' (k + 1) (n - (k + 1))) nd179 nd180) := hO.sub [3, 4, 5, 6, 7, 8, 9] (by decide)
        clear hO
        have hO := hN
        clear hN
        go_roundg gq
        case measure => omega
        case rel => exact ⟨k + 1, fo + 1, afB (List.range' (k + 1) (n - (k + 1))) nd180, (XF Y D k (List.range' lo (k - lo)) (List.range' (k + 1) (n - (k + 1))) nd179 nd180), (k : Int), by omega, by omega, by omega, by first | rfl | simp, by first | rfl | simp, by first | rfl | simp, HFB.out, hdr2, HLF.out, hnb, by omega, hO⟩
      · skip
        rename_i ta
        rw [hca] at hfa hna
        have hla : ta.flat.length = k - lo := (congrArg List.length (show ta.flat = _ from hfa)).trans List.length_range'
        have hfa2 : ta.flat = _ := hfa
        have HFA2 := Lib.hid hfa2
        have HLA := Lib.hid hla
        clear hfa2 hla
        have HFA := Lib.hid hfa
        have HFB := Lib.hid hfb
        clear hfa hfb
        obtain ⟨ix9, hix9, hax9, hjx9⟩ := hO.ix
        have ix9_0 : ix9 B159 = 0 := hjx9 0 _ _ rfl
        have ix9_1 : ix9 sb = 1 := hjx9 1 _ _ rfl
        have ix9_2 : ix9 B1_2 = 2 := hjx9 2 _ _ rfl
        have ix9_3 : ix9 B1_3 = 3 := hjx9 3 _ _ rfl
        have ix9_4 : ix9 ub = 4 := hjx9 4 _ _ rfl
        have ix9_5 : ix9 B1 = 5 := hjx9 5 _ _ rfl
        have ix9_6 : ix9 B1_1 = 6 := hjx9 6 _ _ rfl
        clear hjx9
        obtain ⟨c9_0_0, c9_0_1, lt9_0, y9_0, pl9_0⟩ := hO.k2 0 rfl
        have c9_1_fo : uw178.cell? ⟨sb, fo, none⟩ = some (.int .i64 (k : Int)) := hO.cell 1 rfl (fo) ((full_at (ixV_at hSk)))
        have lt9_1 : sb < uw178.heap.size := hO.lt 1 rfl
        have y9_1 : ∀ o, uw178.frozen? ⟨sb, o, none⟩ = false := hO.free 1 rfl
        have pl9_2 : Base.plainAt uw178 (B1_2) = true := hO.plain 2 rfl
        have c9_3_k : uw178.cell? ⟨B1_3, k, none⟩ = some (.pointer (some ⟨D.ad k, 0, none⟩)) := hO.cell 3 rfl (k) (((clR_get 0 hk9).trans (congrArg some (clD_call h0))))
        have lt9_3 : B1_3 < uw178.heap.size := hO.lt 3 rfl
        have y9_3 : ∀ o, uw178.frozen? ⟨B1_3, o, none⟩ = false := hO.free 3 rfl
        obtain ⟨c9_5_0, c9_5_1, lt9_5, y9_5, pl9_5⟩ := hO.k2 5 rfl
        obtain ⟨c9_6_0, c9_6_1, lt9_6, y9_6, pl9_6⟩ := hO.k2 6 rfl
        have HO := Lib.hid hO
        clear hO
        have fx0_0 : uw178.cell? ⟨D.ad k, 0, none⟩ = some (.iface 67 (.pointer (some ⟨nd179, 0, none⟩))) := HO.out.fcell hx3 0 rfl
        have fx0_1 : uw178.cell? ⟨D.ad k, 1, none⟩ = some (.int .i32 (k : Int)) := HO.out.fcell hx3 1 rfl
        have fx0_2 : uw178.cell? ⟨D.ad k, 2, none⟩ = some (.slice none 0 0) := HO.out.fcell hx3 2 rfl
        have fx0_3 : uw178.cell? ⟨D.ad k, 3, none⟩ = some (.int .i32 0) := HO.out.fcell hx3 3 rfl
        have fx0_4 : uw178.cell? ⟨D.ad k, 4, none⟩ = some (.int .u8 0) := HO.out.fcell hx3 4 rfl
        have fx0_5 : uw178.cell? ⟨D.ad k, 5, none⟩ = some (.int .u8 0) := HO.out.fcell hx3 5 rfl
        have fx0_6 : uw178.cell? ⟨D.ad k, 6, none⟩ = some (.bool false) := HO.out.fcell hx3 6 rfl
        have fx0_7 : uw178.cell? ⟨D.ad k, 7, none⟩ = some (.bool false) := HO.out.fcell hx3 7 rfl
        go_wp2_with (first | (with_reducible refine Own.stay (fn := Try.f4) ?_) | (at_builtin; refine Own.appStop ?_) | fail)
        try with_reducible refine Own.Stay.mk ?_
        have hO := HO.out
        clear HO hix9 hax9 ix9_0 ix9_1 ix9_2 ix9_3 ix9_4 ix9_5 ix9_6 ix9 fx0_0 fx0_1 fx0_2 fx0_3 fx0_4 fx0_5 fx0_6 fx0_7 c9_0_0 c9_0_1 lt9_0 y9_0 pl9_0 c9_1_fo lt9_1 y9_1 pl9_2 c9_3_k lt9_3 y9_3 c9_5_0 c9_5_1 lt9_5 y9_5 pl9_5 c9_6_0 c9_6_1 lt9_6 y9_6 pl9_6
        generalize hW : World.alloc _ _ = W189
        have hN : Own w0 W189 [row (uw178.heap.size + 1 + 1) 35 #[dO D (afB (List.range' (k + 1) (n - (k + 1))) nd180), .int .i32 (lO (afB (List.range' (k + 1) (n - (k + 1))) nd180))], row (uw178.heap.size + 1) 33 #[.int .i32 (k : Int)], row (uw178.heap.size) 35 #[dO D (some ta), .int .i32 (lO (some ta))], row (B159) 35 #[dV D t, .int .i32 (lV t)], row (sb) 3 (full i64Z (ixV SL) sc), row (B1_2) 35 (lvR D n 0), row (B1_3) 36 (clR D n 0), row (ub) 5 (itR U n), row (B1) 27 #[.int .u32 D.src, .int .u32 D.inn], row (B1_1) 27 #[.int .u32 D.src, .int .u32 D.inx]] (XF Y D k (List.range' lo (k - lo)) (List.range' (k + 1) (n - (k + 1))) nd179 nd180) := by
          rw [← hW]
          exact (((hO).alloc' _ (uw178.heap.size) (by simp)).alloc' _ (uw178.heap.size + 1) (by simp)).alloc' _ (uw178.heap.size + 1 + 1) (by simp)
        clear hW hO
        generalize uw178.heap.size + 1 + 1 = B188_2 at hN ⊢
        generalize uw178.heap.size + 1 = B188_1 at hN ⊢
        generalize uw178.heap.size = B188 at hN ⊢
        have hO := hN
        clear hN
        have hL := hO.apart
        have hX := hO.apartX
        have HL := Lib.hid hL
        have HX := Lib.hid hX
        clear hL hX
        have hP9 := hO.pick [] (by decide)
        have h9_hbd : ta.flat.length ≤ 100000 := (by have h7 := HLA.out; omega)
        have T9 := flat0O D ta _ _ _ hP9 ((show NodesIn _ D ta from hna).mono fun _ _ h => Or.inl h) h9_hbd
        refine Calls.mono T9 ?_
        clear hP9 T9 h9_hbd
        rintro e uw190 ⟨nd191, nd192, rfl, hQ⟩
        have hN : Own w0 uw190 [row (nd191) 21 (full i32Z (rgV (ta.flat)) nd192), row (B188_2) 35 #[dO D (afB (List.range' (k + 1) (n - (k + 1))) nd180), .int .i32 (lO (afB (List.range' (k + 1) (n - (k + 1))) nd180))], row (B188_1) 33 #[.int .i32 (k : Int)], row (B188) 35 #[dO D (some ta), .int .i32 (lO (some ta))], row (B159) 35 #[dV D t, .int .i32 (lV t)], row (sb) 3 (full i64Z (ixV SL) sc), row (B1_2) 35 (lvR D n 0), row (B1_3) 36 (clR D n 0), row (ub) 5 (itR U n), row (B1) 27 #[.int .u32 D.src, .int .u32 D.inn], row (B1_1) 27 #[.int .u32 D.src, .int .u32 D.inx]] (XF Y D k (List.range' lo (k - lo)) (List.range' (k + 1) (n - (k + 1))) nd179 nd180) := hQ.back HL.out HX.out [0, 1, 2, 3, 4, 5, 6, 7, 8, 9] (by decide) (by decide)
        clear hQ HL HX hO
        have hO := hN
        clear hN
        try simp only []
        obtain ⟨c9_1_0, c9_1_1, lt9_1, y9_1, -⟩ := hO.k2 1 rfl
        obtain ⟨c9_2_0, lt9_2, y9_2, -⟩ := hO.k1 2 rfl
        obtain ⟨c9_3_0, c9_3_1, lt9_3, y9_3, -⟩ := hO.k2 3 rfl
        obtain ⟨c9_4_0, c9_4_1, lt9_4, y9_4, -⟩ := hO.k2 4 rfl
        obtain ⟨c9_9_0, c9_9_1, lt9_9, y9_9, -⟩ := hO.k2 9 rfl
        obtain ⟨c9_10_0, c9_10_1, lt9_10, y9_10, -⟩ := hO.k2 10 rfl
        have HO := Lib.hid hO
        clear hO
        have fx0_0 : uw190.cell? ⟨D.ad k, 0, none⟩ = some (.iface 67 (.pointer (some ⟨nd179, 0, none⟩))) := HO.out.fcell hx3 0 rfl
        have fx0_1 : uw190.cell? ⟨D.ad k, 1, none⟩ = some (.int .i32 (k : Int)) := HO.out.fcell hx3 1 rfl
        have fx0_2 : uw190.cell? ⟨D.ad k, 2, none⟩ = some (.slice none 0 0) := HO.out.fcell hx3 2 rfl
        have fx0_3 : uw190.cell? ⟨D.ad k, 3, none⟩ = some (.int .i32 0) := HO.out.fcell hx3 3 rfl
        have fx0_4 : uw190.cell? ⟨D.ad k, 4, none⟩ = some (.int .u8 0) := HO.out.fcell hx3 4 rfl
        have fx0_5 : uw190.cell? ⟨D.ad k, 5, none⟩ = some (.int .u8 0) := HO.out.fcell hx3 5 rfl
        have fx0_6 : uw190.cell? ⟨D.ad k, 6, none⟩ = some (.bool false) := HO.out.fcell hx3 6 rfl
        have fx0_7 : uw190.cell? ⟨D.ad k, 7, none⟩ = some (.bool false) := HO.out.fcell hx3 7 rfl
        go_wp2_with (first | (with_reducible refine Own.stay (fn := Try.f4) ?_) | (at_builtin; refine Own.appStop ?_) | fail)
        try with_reducible refine Own.Stay.mk ?_
        have hO := HO.out
        clear HO fx0_0 fx0_1 fx0_2 fx0_3 fx0_4 fx0_5 fx0_6 fx0_7 c9_1_0 c9_1_1 lt9_1 y9_1 c9_2_0 lt9_2 y9_2 c9_3_0 c9_3_1 lt9_3 y9_3 c9_4_0 c9_4_1 lt9_4 y9_4 c9_9_0 c9_9_1 lt9_9 y9_9 c9_10_0 c9_10_1 lt9_10 y9_10
        have hL := hO.apart
        have hX := hO.apartX
        have HL := Lib.hid hL
        have HX := Lib.hid hX
        clear hL hX
        have hP9 := hO.pick [0] (by decide)
        have h9_hm : ta.flat.length = ta.flat.length := rfl
        have h9_hhi : (k : Int) = (lo : Int) + (ta.flat.length : Int) := (by have h7 := HLA.out; omega)
        have h9_hlo9 : (k : Int) ≤ 5000 := (by omega)
        have T9 := isRng1 nd191 nd192 ta.flat ta.flat.length (lo : Int) (k : Int) _ _ _ hP9 h9_hm (fun q hq => by rw [HFA2.out]; rw [HLA.out] at hq; obtain ⟨v9, h8, h7⟩ := rng_at (lo := lo) hq; exact ⟨v9, h8, by omega⟩) h9_hhi (by omega) h9_hlo9
        refine Calls.mono T9 ?_
        clear hP9 T9 h9_hm h9_hhi h9_hlo9
        rintro e uw193 ⟨rfl, hQ⟩
        have hN : Own w0 uw193 [row (nd191) 21 (full i32Z (rgV ta.flat) nd192), row (B188_2) 35 #[dO D (afB (List.range' (k + 1) (n - (k + 1))) nd180), .int .i32 (lO (afB (List.range' (k + 1) (n - (k + 1))) nd180))], row (B188_1) 33 #[.int .i32 (k : Int)], row (B188) 35 #[dO D (some ta), .int .i32 (lO (some ta))], row (B159) 35 #[dV D t, .int .i32 (lV t)], row (sb) 3 (full i64Z (ixV SL) sc), row (B1_2) 35 (lvR D n 0), row (B1_3) 36 (clR D n 0), row (ub) 5 (itR U n), row (B1) 27 #[.int .u32 D.src, .int .u32 D.inn], row (B1_1) 27 #[.int .u32 D.src, .int .u32 D.inx]] (XF Y D k (List.range' lo (k - lo)) (List.range' (k + 1) (n - (k + 1))) nd179 nd180) := hQ.back HL.out HX.out [1, 2, 3, 4, 5, 6, 7, 8, 9, 10] (by decide) (by decide)
        clear hQ HL HX hO
        have hO := hN
        clear hN
        try simp only []
        obtain ⟨c9_1_0, c9_1_1, lt9_1, y9_1, -⟩ := hO.k2 1 rfl
        obtain ⟨c9_2_0, lt9_2, y9_2, -⟩ := hO.k1 2 rfl
        obtain ⟨c9_3_0, c9_3_1, lt9_3, y9_3, -⟩ := hO.k2 3 rfl
        obtain ⟨c9_4_0, c9_4_1, lt9_4, y9_4, -⟩ := hO.k2 4 rfl
        obtain ⟨c9_9_0, c9_9_1, lt9_9, y9_9, -⟩ := hO.k2 9 rfl
        obtain ⟨c9_10_0, c9_10_1, lt9_10, y9_10, -⟩ := hO.k2 10 rfl
        have HO := Lib.hid hO
        clear hO
        have fx0_0 : uw193.cell? ⟨D.ad k, 0, none⟩ = some (.iface 67 (.pointer (some ⟨nd179, 0, none⟩))) := HO.out.fcell hx3 0 rfl
        have fx0_1 : uw193.cell? ⟨D.ad k, 1, none⟩ = some (.int .i32 (k : Int)) := HO.out.fcell hx3 1 rfl
        have fx0_2 : uw193.cell? ⟨D.ad k, 2, none⟩ = some (.slice none 0 0) := HO.out.fcell hx3 2 rfl
        have fx0_3 : uw193.cell? ⟨D.ad k, 3, none⟩ = some (.int .i32 0) := HO.out.fcell hx3 3 rfl
        have fx0_4 : uw193.cell? ⟨D.ad k, 4, none⟩ = some (.int .u8 0) := HO.out.fcell hx3 4 rfl
        have fx0_5 : uw193.cell? ⟨D.ad k, 5, none⟩ = some (.int .u8 0) := HO.out.fcell hx3 5 rfl
        have fx0_6 : uw193.cell? ⟨D.ad k, 6, none⟩ = some (.bool false) := HO.out.fcell hx3 6 rfl
        have fx0_7 : uw193.cell? ⟨D.ad k, 7, none⟩ = some (.bool false) := HO.out.fcell hx3 7 rfl
        go_wp2_with (first | (with_reducible refine Own.stay (fn := Try.f4) ?_) | (at_builtin; refine Own.appStop ?_) | fail)
        try with_reducible refine Own.Stay.mk ?_
        have hO := HO.out
        clear HO fx0_0 fx0_1 fx0_2 fx0_3 fx0_4 fx0_5 fx0_6 fx0_7 c9_1_0 c9_1_1 lt9_1 y9_1 c9_2_0 lt9_2 y9_2 c9_3_0 c9_3_1 lt9_3 y9_3 c9_4_0 c9_4_1 lt9_4 y9_4 c9_9_0 c9_9_1 lt9_9 y9_9 c9_10_0 c9_10_1 lt9_10 y9_10
        have hL := hO.apart
        have hX := hO.apartX
        have HL := Lib.hid hL
        have HX := Lib.hid hX
        clear hL hX
        have hP9 := hO.pick [] (by decide)
        have T9 := isSup1 nd179 (k : Int) _ _ _ hP9 
        refine Calls.mono T9 ?_
        clear hP9 T9
        rintro e uw194 ⟨rfl, hQ⟩
        have hN : Own w0 uw194 [row (nd191) 21 (full i32Z (rgV ta.flat) nd192), row (B188_2) 35 #[dO D (afB (List.range' (k + 1) (n - (k + 1))) nd180), .int .i32 (lO (afB (List.range' (k + 1) (n - (k + 1))) nd180))], row (B188_1) 33 #[.int .i32 (k : Int)], row (B188) 35 #[dO D (some ta), .int .i32 (lO (some ta))], row (B159) 35 #[dV D t, .int .i32 (lV t)], row (sb) 3 (full i64Z (ixV SL) sc), row (B1_2) 35 (lvR D n 0), row (B1_3) 36 (clR D n 0), row (ub) 5 (itR U n), row (B1) 27 #[.int .u32 D.src, .int .u32 D.inn], row (B1_1) 27 #[.int .u32 D.src, .int .u32 D.inx]] (XF Y D k (List.range' lo (k - lo)) (List.range' (k + 1) (n - (k + 1))) nd179 nd180) := hQ.back HL.out HX.out [0, 1, 2, 3, 4, 5, 6, 7, 8, 9, 10] (by decide) (by decide)
        clear hQ HL HX hO
        have hO := hN
        clear hN
        try simp only []
        obtain ⟨c9_1_0, c9_1_1, lt9_1, y9_1, -⟩ := hO.k2 1 rfl
        obtain ⟨c9_2_0, lt9_2, y9_2, -⟩ := hO.k1 2 rfl
        obtain ⟨c9_3_0, c9_3_1, lt9_3, y9_3, -⟩ := hO.k2 3 rfl
        obtain ⟨c9_4_0, c9_4_1, lt9_4, y9_4, -⟩ := hO.k2 4 rfl
        obtain ⟨c9_9_0, c9_9_1, lt9_9, y9_9, -⟩ := hO.k2 9 rfl
        obtain ⟨c9_10_0, c9_10_1, lt9_10, y9_10, -⟩ := hO.k2 10 rfl
        have HO := Lib.hid hO
        clear hO
        have fx0_0 : uw194.cell? ⟨D.ad k, 0, none⟩ = some (.iface 67 (.pointer (some ⟨nd179, 0, none⟩))) := HO.out.fcell hx3 0 rfl
        have fx0_1 : uw194.cell? ⟨D.ad k, 1, none⟩ = some (.int .i32 (k : Int)) := HO.out.fcell hx3 1 rfl
        have fx0_2 : uw194.cell? ⟨D.ad k, 2, none⟩ = some (.slice none 0 0) := HO.out.fcell hx3 2 rfl
        have fx0_3 : uw194.cell? ⟨D.ad k, 3, none⟩ = some (.int .i32 0) := HO.out.fcell hx3 3 rfl
        have fx0_4 : uw194.cell? ⟨D.ad k, 4, none⟩ = some (.int .u8 0) := HO.out.fcell hx3 4 rfl
        have fx0_5 : uw194.cell? ⟨D.ad k, 5, none⟩ = some (.int .u8 0) := HO.out.fcell hx3 5 rfl
        have fx0_6 : uw194.cell? ⟨D.ad k, 6, none⟩ = some (.bool false) := HO.out.fcell hx3 6 rfl
        have fx0_7 : uw194.cell? ⟨D.ad k, 7, none⟩ = some (.bool false) := HO.out.fcell hx3 7 rfl
        go_wp2_with (first | (with_reducible refine Own.stay (fn := Try.f4) ?_) | (at_builtin; refine Own.appStop ?_) | fail)
        try with_reducible refine Own.Stay.mk ?_
        have hO := HO.out
        clear HO fx0_0 fx0_1 fx0_2 fx0_3 fx0_4 fx0_5 fx0_6 fx0_7 c9_1_0 c9_1_1 lt9_1 y9_1 c9_2_0 lt9_2 y9_2 c9_3_0 c9_3_1 lt9_3 y9_3 c9_4_0 c9_4_1 lt9_4 y9_4 c9_9_0 c9_9_1 lt9_9 y9_9 c9_10_0 c9_10_1 lt9_10 y9_10
        generalize hW : World.setCell _ _ _ = W196
        have hN : Own w0 W196 [row (nd191) 21 (full i32Z (rgV ta.flat) nd192), row (B188_2) 35 #[dO D (afB (List.range' (k + 1) (n - (k + 1))) nd180), .int .i32 (lO (afB (List.range' (k + 1) (n - (k + 1))) nd180))], row (B188_1) 33 #[.int .i32 (k : Int)], row (B188) 35 #[dO D (some ta), .int .i32 (lO (some ta))], row (B159) 35 #[dO D (afB (List.range' (k + 1) (n - (k + 1))) nd180), .int .i32 (lO (afB (List.range' (k + 1) (n - (k + 1))) nd180))], row (sb) 3 (full i64Z (ixV SL) sc), row (B1_2) 35 (lvR D n 0), row (B1_3) 36 (clR D n 0), row (ub) 5 (itR U n), row (B1) 27 #[.int .u32 D.src, .int .u32 D.inn], row (B1_1) 27 #[.int .u32 D.src, .int .u32 D.inx]] (XF Y D k (List.range' lo (k - lo)) (List.range' (k + 1) (n - (k + 1))) nd179 nd180) := by
          rw [← hW]
          exact ((hO).set 4 rfl 0 _).set 4 rfl 1 _
        clear hW hO
        have hO := hN
        clear hN
        have hN : Own w0 W196 [row (B159) 35 #[dO D (afB (List.range' (k + 1) (n - (k + 1))) nd180), .int .i32 (lO (afB (List.range' (k + 1) (n - (k + 1))) nd180))], row (sb) 3 (full i64Z (ixV SL) sc), row (B1_2) 35 (lvR D n 0), row (B1_3) 36 (clR D n 0), row (ub) 5 (itR U n), row (B1) 27 #[.int .u32 D.src, .int .u32 D.inn], row (B1_1) 27 #[.int .u32 D.src, .int .u32 D.inx]] (XF Y D k (List.range' lo (k - lo)) (List.range' (k + 1) (n - (k + 1))) nd179 nd180) := hO.sub [4, 5, 6, 7, 8, 9, 10] (by decide)
        clear hO
        have hO := hN
        clear hN
        go_roundg gq
        case measure => omega
        case rel => exact ⟨k + 1, fo + 1, afB (List.range' (k + 1) (n - (k + 1))) nd180, (XF Y D k (List.range' lo (k - lo)) (List.range' (k + 1) (n - (k + 1))) nd179 nd180), (k : Int), by omega, by omega, by omega, by first | rfl | simp, by first | rfl | simp, by first | rfl | simp, HFB.out, hdr2, HLF.out, hnb, by omega, hO⟩
end Go.Proofs.Ytdbnnpoffpipjaa.Use
