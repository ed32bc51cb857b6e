/- The law, walked to its look for the first match. No condition. -/
import Derived.Test.YtdbnnpoffpipjaaTl32
import Derived.Test.YtdbnnpoffpipjaaLp
import Derived.Test.YtdbnnpoffpipjaaCu
import Derived.Test.YtdbnnpoffpipjaaLf
import Derived.Test.YtdbnnpoffpipjaaIr
import Derived.Test.YtdbnnpoffpipjaaDr
import Derived.Test.YtdbnnpoffpipjaaLv
import Derived.Test.YtdbnnpoffpipjaaFlb
import Derived.Test.YtdbnnpoffpipjaaFin
import Derived.Test.YtdbnnpoffpipjaaFll
import Derived.Test.YtdbnnpoffpipjaaRdr
import Derived.Test.YtdbnnpoffpipjaaFfl
import Derived.Test.YtdbnnpoffpipjaaFfr
import Derived.Test.YtdbnnpoffpipjaaFnb
import Derived.Test.YtdbnnpoffpipjaaFp
import Derived.Test.YtdbnnpoffpipjaaFd
import Derived.Test.YtdbnnpoffpipjaaFn1
import Derived.Test.YtdbnnpoffpipjaaFf1
import Derived.Test.YtdbnnpoffpipjaaJn
import Derived.Test.YtdbnnpoffpipjaaTre
import Derived.Test.YtdbnnpoffpipjaaLoop
import Derived.Test.YtdbnnpoffpipjaaAppL
import Derived.Test.YtdbnnpoffpipjaaApp
import Derived.Test.YtdbnnpoffpipjaaOwnK
import Derived.Test.YtdbnnpoffpipjaaOwn
import Derived.Test.YtdbnnpoffpipjaaDeepCells
import Derived.Test.YtdbnnpoffpipjaaRows
namespace Go.Proofs.Ytdbnnpoffpipjaa.Use
open Go.ChangeShapes Go.WideShapes Go.ChangeAt Go.RowKit Go.Sort Own
set_option linter.unusedVariables false
def rlaw32Rf0E (n : Nat) (U : Nat → Nat) (src : Int) (inn : Int) (nd2 : Nat) (B3_3 : Nat) (B3_2 : Nat) (B3_1 : Nat) (B3 : Nat) (inx : Int) (i : Nat) (D : Dat) (gq : Nat) : Nat → Rega.Atoms → Value
  | 0, α => .int .i64 (i : Int)
  | 1, α => .slice (some ⟨nd2, 0, none⟩) n n
  | 2, α => .int .i64 (i : Int)
  | 3, α => .pointer (some ⟨nd2, i, none⟩)
  | 4, α => .int .u8 (U i : Int)
  | 5, α => .agg #[.int .u32 src, .int .u32 inn]
  | 6, α => .agg #[.int .u32 src, .int .u32 inx]
  | 7, α => .tuple #[.agg #[.iface 59 (.pointer (some ⟨α 7, 0, none⟩)), .int .i32 (i : Int)], .pointer none]
  | 8, α => .tuple #[.agg #[.iface 59 (.pointer (some ⟨α 7, 0, none⟩)), .int .i32 (i : Int)], .pointer none]
  | 9, α => .agg #[.iface 59 (.pointer (some ⟨α 7, 0, none⟩)), .int .i32 (i : Int)]
  | 10, α => .pointer none
  | 11, α => .pointer (some ⟨α 11, 0, none⟩)
  | 12, α => undef
  | 13, α => .pointer none
  | _, _ => undef
def rlaw32Rf0Anc : Nat → List Nat
  | 3 => [1, 2]
  | 4 => [1, 2, 3]
  | 7 => [0, 1, 2, 3, 4, 5, 6]
  | 8 => [0, 1, 2, 3, 4, 5, 6, 7]
  | 9 => [0, 1, 2, 3, 4, 5, 6, 7, 8]
  | 10 => [0, 1, 2, 3, 4, 5, 6, 7, 8]
  | 12 => [0, 1, 2, 3, 4, 5, 6, 7, 8, 9, 11]
  | 13 => [0, 1, 2, 3, 4, 5, 6, 7, 8, 9, 10, 11, 12]
  | _ => []
def rlaw32Rf0Trn : Nat → List Nat
  | 12 => [11]
  | _ => []
def rlaw32Rf0Cnt : List (Nat × Nat) := [(11, 1)]
def rlaw32Rf0T11 (n : Nat) (U : Nat → Nat) (src : Int) (inn : Int) (nd2 : Nat) (B3_3 : Nat) (B3_2 : Nat) (B3_1 : Nat) (B3 : Nat) (inx : Int) (i : Nat) (D : Dat) (gq : Nat) (L9 : Nat → Bool) (α : Rega.Atoms) : Rw := if L9 12 = true then row (α 11) 35 #[.iface 59 (.pointer (some ⟨α 7, 0, none⟩)), .int .i32 (i : Int)] else row (α 11) 35 #[.nilIface, .int .i32 0]
def rlaw32Rf0R (n : Nat) (U : Nat → Nat) (src : Int) (inn : Int) (nd2 : Nat) (B3_3 : Nat) (B3_2 : Nat) (B3_1 : Nat) (B3 : Nat) (inx : Int) (i : Nat) (D : Dat) (gq : Nat) (L9 : Nat → Bool) (α : Rega.Atoms) (ix9 : Nat) : Rw := if ix9 = 999 then row (B3_2) 35 (lvR D i (gq + 1)) else if ix9 = 1999 then row (B3_3) 36 (clR D i (gq + 1)) else if ix9 = 2999 then row (nd2) 5 (itR U n) else if ix9 = 3999 then row (B3) 27 #[.int .u32 src, .int .u32 inn] else if ix9 = 4999 then row (B3_1) 27 #[.int .u32 src, .int .u32 inx] else if ix9 = 11 then rlaw32Rf0T11 n U src inn nd2 B3_3 B3_2 B3_1 B3 inx i D gq L9 α else (0, .map #[] 0)
theorem rlaw32Rf0_he (n : Nat) (U : Nat → Nat) (src : Int) (inn : Int) (nd2 : Nat) (B3_3 : Nat) (B3_2 : Nat) (B3_1 : Nat) (B3 : Nat) (inx : Int) (i : Nat) (D : Dat) (gq : Nat) : ∀ kk α α', (∀ j, (j % 1000 = kk ∨ j % 1000 ∈ rlaw32Rf0Anc kk) → α j = α' j) → rlaw32Rf0E n U src inn nd2 B3_3 B3_2 B3_1 B3 inx i D gq kk α = rlaw32Rf0E n U src inn nd2 B3_3 B3_2 B3_1 B3 inx i D gq kk α' := by
  intro kk α α' h
  match kk with
  | 0 => rfl
  | 1 => rfl
  | 2 => rfl
  | 3 => rfl
  | 4 => rfl
  | 5 => rfl
  | 6 => rfl
  | 7 => simp only [rlaw32Rf0E, h 7 (Or.inl rfl)]
  | 8 => simp only [rlaw32Rf0E, h 7 (Or.inr (by decide))]
  | 9 => simp only [rlaw32Rf0E, h 7 (Or.inr (by decide))]
  | 10 => rfl
  | 11 => simp only [rlaw32Rf0E, h 11 (Or.inl rfl)]
  | 12 => rfl
  | 13 => rfl
  | n + 14 => rfl
theorem rlaw32Rf0_st (n : Nat) (U : Nat → Nat) (src : Int) (inn : Int) (nd2 : Nat) (B3_3 : Nat) (B3_2 : Nat) (B3_1 : Nat) (B3 : Nat) (inx : Int) (i : Nat) (D : Dat) (gq : Nat) : Stable rlaw32Rf0Cnt 5 rlaw32Rf0Anc rlaw32Rf0Trn (rlaw32Rf0R n U src inn nd2 B3_3 B3_2 B3_1 B3 inx i D gq) := by
  intro k9 L9 α α' ix9 hk hcl hα hact ht
  have hp := act_places hact
  replace hp : ix9 ∈ [999, 1999, 2999, 3999, 4999, 11] := hp
  simp only [List.mem_cons, List.not_mem_nil, or_false] at hp
  rcases hp with rfl | rfl | rfl | rfl | rfl | rfl
  · rfl
  · rfl
  · rfl
  · rfl
  · rfl
  · have e0 : L9 11 = true := act_lt hact (by decide)
    show rlaw32Rf0T11 n U src inn nd2 B3_3 B3_2 B3_1 B3 inx i D gq (Rega.ran L9 k9) α' = rlaw32Rf0T11 n U src inn nd2 B3_3 B3_2 B3_1 B3 inx i D gq L9 α
    unfold rlaw32Rf0T11
    have n12 : 12 ≠ k9 := fun e => ht (by rw [← e]; decide)
    rw [ran_ne n12]
    by_cases e12 : L9 12 = true
    · first | rw [if_pos e12, if_pos e12] | rw [if_pos e12]
      try simp only [hα 7 (ne_ran hk (hcl 12 e12 7 (by decide))), hα 11 (ne_ran hk (hcl 12 e12 11 (by decide)))]
    first | rw [if_neg e12, if_neg e12] | rw [if_neg e12]
    try simp only [hα 11 (ne_ran hk e0)]
def rlaw32Rf1E (n : Nat) (U : Nat → Nat) (src : Int) (inn : Int) (nd2 : Nat) (B3_3 : Nat) (B3_2 : Nat) (B3_1 : Nat) (B3 : Nat) (inx : Int) (i : Nat) (D : Dat) (gq : Nat) : Nat → Rega.Atoms → Value
  | 0, α => .int .i64 (i : Int)
  | 1, α => .slice (some ⟨nd2, 0, none⟩) n n
  | 2, α => .int .i64 (i : Int)
  | 3, α => .pointer (some ⟨nd2, i, none⟩)
  | 4, α => .int .u8 (U i : Int)
  | 5, α => .agg #[.int .u32 src, .int .u32 inn]
  | 6, α => .agg #[.int .u32 src, .int .u32 inx]
  | 7, α => .tuple #[.agg #[.iface 36 (.pointer (some ⟨α 1007, 0, none⟩)), .int .i32 (i : Int)], .pointer (some ⟨α 1007, 0, none⟩)]
  | 8, α => .tuple #[.agg #[.iface 36 (.pointer (some ⟨α 1007, 0, none⟩)), .int .i32 (i : Int)], .pointer (some ⟨α 1007, 0, none⟩)]
  | 9, α => .agg #[.iface 36 (.pointer (some ⟨α 1007, 0, none⟩)), .int .i32 (i : Int)]
  | 10, α => .pointer (some ⟨α 1007, 0, none⟩)
  | 11, α => .pointer (some ⟨α 11, 0, none⟩)
  | 12, α => undef
  | 13, α => .pointer (some ⟨α 1007, 0, none⟩)
  | _, _ => undef
def rlaw32Rf1Anc : Nat → List Nat
  | 3 => [1, 2]
  | 4 => [1, 2, 3]
  | 7 => [0, 1, 2, 3, 4, 5, 6]
  | 8 => [0, 1, 2, 3, 4, 5, 6, 7]
  | 9 => [0, 1, 2, 3, 4, 5, 6, 7, 8]
  | 10 => [0, 1, 2, 3, 4, 5, 6, 7, 8]
  | 12 => [0, 1, 2, 3, 4, 5, 6, 7, 8, 9, 11]
  | 13 => [0, 1, 2, 3, 4, 5, 6, 7, 8, 9, 10, 11, 12]
  | _ => []
def rlaw32Rf1Trn : Nat → List Nat
  | 12 => [11]
  | _ => []
def rlaw32Rf1Cnt : List (Nat × Nat) := [(7, 2), (11, 1)]
def rlaw32Rf1T11 (n : Nat) (U : Nat → Nat) (src : Int) (inn : Int) (nd2 : Nat) (B3_3 : Nat) (B3_2 : Nat) (B3_1 : Nat) (B3 : Nat) (inx : Int) (i : Nat) (D : Dat) (gq : Nat) (L9 : Nat → Bool) (α : Rega.Atoms) : Rw := if L9 12 = true then row (α 11) 35 #[.iface 36 (.pointer (some ⟨α 1007, 0, none⟩)), .int .i32 (i : Int)] else row (α 11) 35 #[.nilIface, .int .i32 0]
def rlaw32Rf1R (n : Nat) (U : Nat → Nat) (src : Int) (inn : Int) (nd2 : Nat) (B3_3 : Nat) (B3_2 : Nat) (B3_1 : Nat) (B3 : Nat) (inx : Int) (i : Nat) (D : Dat) (gq : Nat) (L9 : Nat → Bool) (α : Rega.Atoms) (ix9 : Nat) : Rw := if ix9 = 999 then row (B3_2) 35 (lvR D i (gq + 1)) else if ix9 = 1999 then row (B3_3) 36 (clR D i (gq + 1)) else if ix9 = 2999 then row (nd2) 5 (itR U n) else if ix9 = 3999 then row (B3) 27 #[.int .u32 src, .int .u32 inn] else if ix9 = 4999 then row (B3_1) 27 #[.int .u32 src, .int .u32 inx] else if ix9 = 7 then row (α 7) 58 #[.int .u32 src, .int .u32 inn, .bool false, .bool false, .bool false] else if ix9 = 1007 then row (α 1007) 46 #[.iface 56 (.pointer (some ⟨α 7, 0, none⟩)), .int .i32 (i : Int), .slice none 0 0, .int .i32 0, .int .u8 0, .int .u8 0, .bool false, .bool false] else if ix9 = 11 then rlaw32Rf1T11 n U src inn nd2 B3_3 B3_2 B3_1 B3 inx i D gq L9 α else (0, .map #[] 0)
theorem rlaw32Rf1_he (n : Nat) (U : Nat → Nat) (src : Int) (inn : Int) (nd2 : Nat) (B3_3 : Nat) (B3_2 : Nat) (B3_1 : Nat) (B3 : Nat) (inx : Int) (i : Nat) (D : Dat) (gq : Nat) : ∀ kk α α', (∀ j, (j % 1000 = kk ∨ j % 1000 ∈ rlaw32Rf1Anc kk) → α j = α' j) → rlaw32Rf1E n U src inn nd2 B3_3 B3_2 B3_1 B3 inx i D gq kk α = rlaw32Rf1E n U src inn nd2 B3_3 B3_2 B3_1 B3 inx i D gq kk α' := by
  intro kk α α' h
  match kk with
  | 0 => rfl
  | 1 => rfl
  | 2 => rfl
  | 3 => rfl
  | 4 => rfl
  | 5 => rfl
  | 6 => rfl
  | 7 => simp only [rlaw32Rf1E, h 1007 (Or.inl rfl)]
  | 8 => simp only [rlaw32Rf1E, h 1007 (Or.inr (by decide))]
  | 9 => simp only [rlaw32Rf1E, h 1007 (Or.inr (by decide))]
  | 10 => simp only [rlaw32Rf1E, h 1007 (Or.inr (by decide))]
  | 11 => simp only [rlaw32Rf1E, h 11 (Or.inl rfl)]
  | 12 => rfl
  | 13 => simp only [rlaw32Rf1E, h 1007 (Or.inr (by decide))]
  | n + 14 => rfl
theorem rlaw32Rf1_st (n : Nat) (U : Nat → Nat) (src : Int) (inn : Int) (nd2 : Nat) (B3_3 : Nat) (B3_2 : Nat) (B3_1 : Nat) (B3 : Nat) (inx : Int) (i : Nat) (D : Dat) (gq : Nat) : Stable rlaw32Rf1Cnt 5 rlaw32Rf1Anc rlaw32Rf1Trn (rlaw32Rf1R n U src inn nd2 B3_3 B3_2 B3_1 B3 inx i D gq) := by
  intro k9 L9 α α' ix9 hk hcl hα hact ht
  have hp := act_places hact
  replace hp : ix9 ∈ [999, 1999, 2999, 3999, 4999, 7, 1007, 11] := hp
  simp only [List.mem_cons, List.not_mem_nil, or_false] at hp
  rcases hp with rfl | rfl | rfl | rfl | rfl | rfl | rfl | rfl
  · rfl
  · rfl
  · rfl
  · rfl
  · rfl
  · have e0 : L9 7 = true := act_lt hact (by decide)
    show row (α' 7) 58 #[.int .u32 src, .int .u32 inn, .bool false, .bool false, .bool false] = row (α 7) 58 #[.int .u32 src, .int .u32 inn, .bool false, .bool false, .bool false]
    simp only [hα 7 (ne_ran hk e0)]
  · have e0 : L9 7 = true := act_lt hact (by decide)
    show row (α' 1007) 46 #[.iface 56 (.pointer (some ⟨α' 7, 0, none⟩)), .int .i32 (i : Int), .slice none 0 0, .int .i32 0, .int .u8 0, .int .u8 0, .bool false, .bool false] = row (α 1007) 46 #[.iface 56 (.pointer (some ⟨α 7, 0, none⟩)), .int .i32 (i : Int), .slice none 0 0, .int .i32 0, .int .u8 0, .int .u8 0, .bool false, .bool false]
    simp only [hα 7 (ne_ran hk e0), hα 1007 (ne_ran hk e0)]
  · have e0 : L9 11 = true := act_lt hact (by decide)
    show rlaw32Rf1T11 n U src inn nd2 B3_3 B3_2 B3_1 B3 inx i D gq (Rega.ran L9 k9) α' = rlaw32Rf1T11 n U src inn nd2 B3_3 B3_2 B3_1 B3 inx i D gq L9 α
    unfold rlaw32Rf1T11
    have n12 : 12 ≠ k9 := fun e => ht (by rw [← e]; decide)
    rw [ran_ne n12]
    by_cases e12 : L9 12 = true
    · first | rw [if_pos e12, if_pos e12] | rw [if_pos e12]
      try simp only [hα 11 (ne_ran hk (hcl 12 e12 11 (by decide))), hα 1007 (ne_ran hk (hcl 12 e12 7 (by decide)))]
    first | rw [if_neg e12, if_neg e12] | rw [if_neg e12]
    try simp only [hα 11 (ne_ran hk e0)]
def rlaw32Rf2E (n : Nat) (U : Nat → Nat) (src : Int) (inn : Int) (nd2 : Nat) (B3_3 : Nat) (B3_2 : Nat) (B3_1 : Nat) (B3 : Nat) (inx : Int) (i : Nat) (D : Dat) (gq : Nat) : Nat → Rega.Atoms → Value
  | 0, α => .int .i64 (i : Int)
  | 1, α => .slice (some ⟨nd2, 0, none⟩) n n
  | 2, α => .int .i64 (i : Int)
  | 3, α => .pointer (some ⟨nd2, i, none⟩)
  | 4, α => .int .u8 (U i : Int)
  | 5, α => .agg #[.int .u32 src, .int .u32 inn]
  | 6, α => .agg #[.int .u32 src, .int .u32 inx]
  | 7, α => .tuple #[.agg #[.iface 36 (.pointer (some ⟨α 1007, 0, none⟩)), .int .i32 (i : Int)], .pointer (some ⟨α 1007, 0, none⟩)]
  | 8, α => .tuple #[.agg #[.iface 36 (.pointer (some ⟨α 1007, 0, none⟩)), .int .i32 (i : Int)], .pointer (some ⟨α 1007, 0, none⟩)]
  | 9, α => .agg #[.iface 36 (.pointer (some ⟨α 1007, 0, none⟩)), .int .i32 (i : Int)]
  | 10, α => .pointer (some ⟨α 1007, 0, none⟩)
  | 11, α => .pointer (some ⟨α 11, 0, none⟩)
  | 12, α => undef
  | 13, α => .pointer (some ⟨α 1007, 0, none⟩)
  | _, _ => undef
def rlaw32Rf2Anc : Nat → List Nat
  | 3 => [1, 2]
  | 4 => [1, 2, 3]
  | 7 => [0, 1, 2, 3, 4, 5, 6]
  | 8 => [0, 1, 2, 3, 4, 5, 6, 7]
  | 9 => [0, 1, 2, 3, 4, 5, 6, 7, 8]
  | 10 => [0, 1, 2, 3, 4, 5, 6, 7, 8]
  | 12 => [0, 1, 2, 3, 4, 5, 6, 7, 8, 9, 11]
  | 13 => [0, 1, 2, 3, 4, 5, 6, 7, 8, 9, 10, 11, 12]
  | _ => []
def rlaw32Rf2Trn : Nat → List Nat
  | 12 => [11]
  | _ => []
def rlaw32Rf2Cnt : List (Nat × Nat) := [(7, 2), (11, 1)]
def rlaw32Rf2T11 (n : Nat) (U : Nat → Nat) (src : Int) (inn : Int) (nd2 : Nat) (B3_3 : Nat) (B3_2 : Nat) (B3_1 : Nat) (B3 : Nat) (inx : Int) (i : Nat) (D : Dat) (gq : Nat) (L9 : Nat → Bool) (α : Rega.Atoms) : Rw := if L9 12 = true then row (α 11) 35 #[.iface 36 (.pointer (some ⟨α 1007, 0, none⟩)), .int .i32 (i : Int)] else row (α 11) 35 #[.nilIface, .int .i32 0]
def rlaw32Rf2R (n : Nat) (U : Nat → Nat) (src : Int) (inn : Int) (nd2 : Nat) (B3_3 : Nat) (B3_2 : Nat) (B3_1 : Nat) (B3 : Nat) (inx : Int) (i : Nat) (D : Dat) (gq : Nat) (L9 : Nat → Bool) (α : Rega.Atoms) (ix9 : Nat) : Rw := if ix9 = 999 then row (B3_2) 35 (lvR D i (gq + 1)) else if ix9 = 1999 then row (B3_3) 36 (clR D i (gq + 1)) else if ix9 = 2999 then row (nd2) 5 (itR U n) else if ix9 = 3999 then row (B3) 27 #[.int .u32 src, .int .u32 inn] else if ix9 = 4999 then row (B3_1) 27 #[.int .u32 src, .int .u32 inx] else if ix9 = 7 then row (α 7) 58 #[.int .u32 src, .int .u32 inx, .bool false, .bool false, .bool false] else if ix9 = 1007 then row (α 1007) 46 #[.iface 56 (.pointer (some ⟨α 7, 0, none⟩)), .int .i32 (i : Int), .slice none 0 0, .int .i32 0, .int .u8 0, .int .u8 0, .bool false, .bool false] else if ix9 = 11 then rlaw32Rf2T11 n U src inn nd2 B3_3 B3_2 B3_1 B3 inx i D gq L9 α else (0, .map #[] 0)
theorem rlaw32Rf2_he (n : Nat) (U : Nat → Nat) (src : Int) (inn : Int) (nd2 : Nat) (B3_3 : Nat) (B3_2 : Nat) (B3_1 : Nat) (B3 : Nat) (inx : Int) (i : Nat) (D : Dat) (gq : Nat) : ∀ kk α α', (∀ j, (j % 1000 = kk ∨ j % 1000 ∈ rlaw32Rf2Anc kk) → α j = α' j) → rlaw32Rf2E n U src inn nd2 B3_3 B3_2 B3_1 B3 inx i D gq kk α = rlaw32Rf2E n U src inn nd2 B3_3 B3_2 B3_1 B3 inx i D gq kk α' := by
  intro kk α α' h
  match kk with
  | 0 => rfl
  | 1 => rfl
  | 2 => rfl
  | 3 => rfl
  | 4 => rfl
  | 5 => rfl
  | 6 => rfl
  | 7 => simp only [rlaw32Rf2E, h 1007 (Or.inl rfl)]
  | 8 => simp only [rlaw32Rf2E, h 1007 (Or.inr (by decide))]
  | 9 => simp only [rlaw32Rf2E, h 1007 (Or.inr (by decide))]
  | 10 => simp only [rlaw32Rf2E, h 1007 (Or.inr (by decide))]
  | 11 => simp only [rlaw32Rf2E, h 11 (Or.inl rfl)]
  | 12 => rfl
  | 13 => simp only [rlaw32Rf2E, h 1007 (Or.inr (by decide))]
  | n + 14 => rfl
theorem rlaw32Rf2_st (n : Nat) (U : Nat → Nat) (src : Int) (inn : Int) (nd2 : Nat) (B3_3 : Nat) (B3_2 : Nat) (B3_1 : Nat) (B3 : Nat) (inx : Int) (i : Nat) (D : Dat) (gq : Nat) : Stable rlaw32Rf2Cnt 5 rlaw32Rf2Anc rlaw32Rf2Trn (rlaw32Rf2R n U src inn nd2 B3_3 B3_2 B3_1 B3 inx i D gq) := by
  intro k9 L9 α α' ix9 hk hcl hα hact ht
  have hp := act_places hact
  replace hp : ix9 ∈ [999, 1999, 2999, 3999, 4999, 7, 1007, 11] := hp
  simp only [List.mem_cons, List.not_mem_nil, or_false] at hp
  rcases hp with rfl | rfl | rfl | rfl | rfl | rfl | rfl | rfl
  · rfl
  · rfl
  · rfl
  · rfl
  · rfl
  · have e0 : L9 7 = true := act_lt hact (by decide)
    show row (α' 7) 58 #[.int .u32 src, .int .u32 inx, .bool false, .bool false, .bool false] = row (α 7) 58 #[.int .u32 src, .int .u32 inx, .bool false, .bool false, .bool false]
    simp only [hα 7 (ne_ran hk e0)]
  · have e0 : L9 7 = true := act_lt hact (by decide)
    show row (α' 1007) 46 #[.iface 56 (.pointer (some ⟨α' 7, 0, none⟩)), .int .i32 (i : Int), .slice none 0 0, .int .i32 0, .int .u8 0, .int .u8 0, .bool false, .bool false] = row (α 1007) 46 #[.iface 56 (.pointer (some ⟨α 7, 0, none⟩)), .int .i32 (i : Int), .slice none 0 0, .int .i32 0, .int .u8 0, .int .u8 0, .bool false, .bool false]
    simp only [hα 7 (ne_ran hk e0), hα 1007 (ne_ran hk e0)]
  · have e0 : L9 11 = true := act_lt hact (by decide)
    show rlaw32Rf2T11 n U src inn nd2 B3_3 B3_2 B3_1 B3 inx i D gq (Rega.ran L9 k9) α' = rlaw32Rf2T11 n U src inn nd2 B3_3 B3_2 B3_1 B3 inx i D gq L9 α
    unfold rlaw32Rf2T11
    have n12 : 12 ≠ k9 := fun e => ht (by rw [← e]; decide)
    rw [ran_ne n12]
    by_cases e12 : L9 12 = true
    · first | rw [if_pos e12, if_pos e12] | rw [if_pos e12]
      try simp only [hα 11 (ne_ran hk (hcl 12 e12 11 (by decide))), hα 1007 (ne_ran hk (hcl 12 e12 7 (by decide)))]
    first | rw [if_neg e12, if_neg e12] | rw [if_neg e12]
    try simp only [hα 11 (ne_ran hk e0)]
def rlaw32RtE (n : Nat) (U : Nat → Nat) (nd2 : Nat) (B3_3 : Nat) (B3_2 : Nat) (B3_1 : Nat) (B3 : Nat) (D : Dat) (B122 : Nat) (T : Tr) (j2 : Nat) : Nat → Rega.Atoms → Value
  | 0, α => .slice (some ⟨B3_2, 0, none⟩) n n
  | 1, α => .int .i64 (j2 : Int)
  | 2, α => .pointer (some ⟨B3_2, j2 * 2, none⟩)
  | 3, α => .agg #[dV D (.leaf j2), .int .i32 (lV (.leaf j2))]
  | 4, α => .agg #[dV D T, .int .i32 (lV T)]
  | 5, α => .agg #[.iface 63 (.pointer (some ⟨α 5, 0, none⟩)), .int .i32 (lV (.leaf j2))]
  | 6, α => undef
  | _, _ => undef
def rlaw32RtAnc : Nat → List Nat
  | 2 => [0, 1]
  | 3 => [0, 1, 2]
  | 5 => [0, 1, 2, 3, 4]
  | 6 => [0, 1, 2, 3, 4, 5]
  | _ => []
def rlaw32RtTrn : Nat → List Nat
  | 6 => [999]
  | _ => []
def rlaw32RtCnt : List (Nat × Nat) := [(5, 1)]
def rlaw32RtT999 (n : Nat) (U : Nat → Nat) (nd2 : Nat) (B3_3 : Nat) (B3_2 : Nat) (B3_1 : Nat) (B3 : Nat) (D : Dat) (B122 : Nat) (T : Tr) (j2 : Nat) (L9 : Nat → Bool) (α : Rega.Atoms) : Rw := if L9 6 = true then row (B122) 35 #[.iface 63 (.pointer (some ⟨α 5, 0, none⟩)), .int .i32 (lV (.leaf j2))] else row (B122) 35 #[dV D T, .int .i32 (lV T)]
def rlaw32RtR (n : Nat) (U : Nat → Nat) (nd2 : Nat) (B3_3 : Nat) (B3_2 : Nat) (B3_1 : Nat) (B3 : Nat) (D : Dat) (B122 : Nat) (T : Tr) (j2 : Nat) (L9 : Nat → Bool) (α : Rega.Atoms) (ix9 : Nat) : Rw := if ix9 = 999 then rlaw32RtT999 n U nd2 B3_3 B3_2 B3_1 B3 D B122 T j2 L9 α else if ix9 = 1999 then row (B3_2) 35 (lvR D n 0) else if ix9 = 2999 then row (B3_3) 36 (clR D n 0) else if ix9 = 3999 then row (nd2) 5 (itR U n) else if ix9 = 4999 then row (B3) 27 #[.int .u32 D.src, .int .u32 D.inn] else if ix9 = 5999 then row (B3_1) 27 #[.int .u32 D.src, .int .u32 D.inx] else if ix9 = 5 then row (α 5) 66 (binC D (.leaf j2) T) else (0, .map #[] 0)
theorem rlaw32Rt_he (n : Nat) (U : Nat → Nat) (nd2 : Nat) (B3_3 : Nat) (B3_2 : Nat) (B3_1 : Nat) (B3 : Nat) (D : Dat) (B122 : Nat) (T : Tr) (j2 : Nat) : ∀ kk α α', (∀ j, (j % 1000 = kk ∨ j % 1000 ∈ rlaw32RtAnc kk) → α j = α' j) → rlaw32RtE n U nd2 B3_3 B3_2 B3_1 B3 D B122 T j2 kk α = rlaw32RtE n U nd2 B3_3 B3_2 B3_1 B3 D B122 T j2 kk α' := by
  intro kk α α' h
  match kk with
  | 0 => rfl
  | 1 => rfl
  | 2 => rfl
  | 3 => rfl
  | 4 => rfl
  | 5 => simp only [rlaw32RtE, h 5 (Or.inl rfl)]
  | 6 => rfl
  | n + 7 => rfl
theorem rlaw32Rt_st (n : Nat) (U : Nat → Nat) (nd2 : Nat) (B3_3 : Nat) (B3_2 : Nat) (B3_1 : Nat) (B3 : Nat) (D : Dat) (B122 : Nat) (T : Tr) (j2 : Nat) : Stable rlaw32RtCnt 6 rlaw32RtAnc rlaw32RtTrn (rlaw32RtR n U nd2 B3_3 B3_2 B3_1 B3 D B122 T j2) := by
  intro k9 L9 α α' ix9 hk hcl hα hact ht
  have hp := act_places hact
  replace hp : ix9 ∈ [999, 1999, 2999, 3999, 4999, 5999, 5] := hp
  simp only [List.mem_cons, List.not_mem_nil, or_false] at hp
  rcases hp with rfl | rfl | rfl | rfl | rfl | rfl | rfl
  · show rlaw32RtT999 n U nd2 B3_3 B3_2 B3_1 B3 D B122 T j2 (Rega.ran L9 k9) α' = rlaw32RtT999 n U nd2 B3_3 B3_2 B3_1 B3 D B122 T j2 L9 α
    unfold rlaw32RtT999
    have n6 : 6 ≠ k9 := fun e => ht (by rw [← e]; decide)
    rw [ran_ne n6]
    by_cases e6 : L9 6 = true
    · first | rw [if_pos e6, if_pos e6] | rw [if_pos e6]
      try simp only [hα 5 (ne_ran hk (hcl 6 e6 5 (by decide)))]
    first | rw [if_neg e6, if_neg e6] | rw [if_neg e6]
  · rfl
  · rfl
  · rfl
  · rfl
  · rfl
  · have e0 : L9 5 = true := act_lt hact (by decide)
    show row (α' 5) 66 (binC D (.leaf j2) T) = row (α 5) 66 (binC D (.leaf j2) T)
    simp only [hα 5 (ne_ran hk e0)]

set_option maxRecDepth 100000 in
set_option maxHeartbeats 4000000 in
theorem law32R (sa : Addr) (n cp : Nat) (U : Nat → Nat) (src inn : Int) (w0 w : World) (X : Nat → Obj → Prop) (hO : Own w0 w [] X) (hn0 : 0 < n) (hn4 : n ≤ 4096) (hB : ∀ i, i < n → w0.cell? (sa.add i) = some (.int .u8 (U i : Int))) (hu9 : ∀ i : Nat, i < n → U i < 256) (hnx : ¬ bits BinOp.xor .u32 inn 1 = inn) :
    Calls Try.prog 3 #[.slice (some sa) n cp, .bool true, .int .u32 src, .int .u32 inn] w (l32Post w0 X) := by
  go_enter Try.func3, Try.ntmps3
  obtain ⟨c9, hc9⟩ : ∃ c, c = rest32 := ⟨_, rfl⟩
  have HC9 := Lib.hid hc9
  simp only [rest32, Try.f3, Option.getD_some, cutC] at hc9
  rw [← hc9]
  clear hc9
  have hn9 : (n : Int) ≤ 4096 := by omega
  have hn8 : (0 : Int) ≤ (n : Int) := by omega
  have hn7 : (0 : Int) < (n : Int) := by omega
  have hme := makeExprs n (by omega)
  have hmp := makePtrs n (by omega)
  go_wp2_with (first | (with_reducible refine Own.stay (fn := Try.f3) ?_) | (first | (go_at_call 5; go_in)))
  try with_reducible refine Own.Stay.mk ?_
  have hL := hO.apart
  have hX := hO.apartX
  have HL := Lib.hid hL
  have HX := Lib.hid hX
  clear hL hX
  have hP9 := hO.pick [] (by decide)
  have T9 := copyU8 sa n cp U _ _ _ hP9 hn4 hB
  refine Calls.mono T9 ?_
  clear hP9 T9
  rintro e uw1 ⟨nd2, rfl, hQ⟩
  have hN : Own w0 uw1 [row (nd2) 5 (itR U n)] X := hQ.back HL.out HX.out [] (by decide) (by decide)
  clear hQ HL HX hO
  have hO := hN
  clear hN
  try simp only []
  go_wp2_with (first | (with_reducible refine Own.stay (fn := Try.f3) ?_) | (first | (go_at_call 5; go_in)))
  try with_reducible refine Own.Stay.mk ?_
  generalize hW : World.alloc _ _ = W4
  have hN : Own w0 W4 [row (uw1.heap.size + 1 + 1 + 1) 36 (full ptrZ [] n), row (uw1.heap.size + 1 + 1) 35 (full exprZ [] n), row (uw1.heap.size + 1) 27 #[.int .u32 src, .int .u32 (bits BinOp.xor .u32 inn 1)], row (uw1.heap.size) 27 #[.int .u32 src, .int .u32 inn], row (nd2) 5 (itR U n)] X := by
    rw [← hW]
    exact ((((hO).alloc' _ (uw1.heap.size) (by simp)).alloc' _ (uw1.heap.size + 1) (by simp)).alloc' _ (uw1.heap.size + 1 + 1) (by simp)).alloc' _ (uw1.heap.size + 1 + 1 + 1) (by simp)
  clear hW hO
  generalize uw1.heap.size + 1 + 1 + 1 = B3_3 at hN ⊢
  generalize uw1.heap.size + 1 + 1 = B3_2 at hN ⊢
  generalize uw1.heap.size + 1 = B3_1 at hN ⊢
  generalize uw1.heap.size = B3 at hN ⊢
  have hO := hN
  clear hN
  generalize hix : bits BinOp.xor .u32 inn 1 = inx at hO hnx ⊢
  have hN : Own w0 W4 [row (B3_2) 35 (full exprZ [] n), row (B3_3) 36 (full ptrZ [] n), row (nd2) 5 (itR U n), row (B3) 27 #[.int .u32 src, .int .u32 inn], row (B3_1) 27 #[.int .u32 src, .int .u32 inx]] X := hO.sub [1, 0, 4, 3, 2] (by decide)
  clear hO
  have hO := hN
  clear hN
  go_loopg [14] n (fun gf s14 wx => ∃ (i : Nat) (D : Dat), i + gf = n ∧ s14 = .int .i64 (i : Int) ∧ D.kd = (fun j => if (U j) % 3 = 0 then 0 else if (U j) % 3 = 1 then 1 else 2) ∧ D.src = src ∧ D.inn = inn ∧ D.inx = inx ∧ AptD D i ∧ Own w0 wx [row (B3_2) 35 (lvR D i gf), row (B3_3) 36 (clR D i gf), row (nd2) 5 (itR U n), row (B3) 27 #[.int .u32 src, .int .u32 inn], row (B3_1) 27 #[.int .u32 src, .int .u32 inx]] (LvX X D i))
  case atStart => exact ⟨0, ⟨fun j => if (U j) % 3 = 0 then 0 else if (U j) % 3 = 1 then 1 else 2, fun _ => 0, fun _ => 0, src, inn, inx⟩, by omega, rfl, rfl, rfl, rfl, rfl, fun i j h1 h2 => absurd h2 (Nat.not_lt_zero j), (hO.reframe (Y := LvX X _ 0) (fun b o h => h.zero)).conv rfl⟩
  obtain ⟨i, D, hin, rfl, hDk, hDs, hDi, hDx, hap, hO⟩ := hrel
  by_cases hlt : i < n
  · skip
    obtain ⟨gq, rfl⟩ : ∃ gq, gk = gq + 1 := ⟨gk - 1, by omega⟩
    have hlt9 : (i : Int) < (n : Int) := by omega
    have hi8 : (0 : Int) ≤ (i : Int) := by omega
    have hku := hu9 i hlt
    have hl2 := tab_length (lfF_len D) i
    by_cases h0 : U i % 3 = 0
    · skip
      have hrm : (U i : Int).tmod 3 = 0 := by have h9 : (U i : Int).tmod 3 = ((U i % 3 : Nat) : Int) := rfl; rw [h9]; omega
      have hkd : D.kd i = 0 := by rw [hDk]; simp only []; rw [if_pos h0]
      have HD := Lib.hid (And.intro hDk (And.intro hDs (And.intro hDi hDx)))
      have HAP := Lib.hid hap
      clear hDk hDs hDi hDx hap
      obtain ⟨X9_5, hX9_5⟩ : ∃ Y, Y = LvX X D i := ⟨_, rfl⟩
      rw [← hX9_5] at hO
      have HX9_5 := Lib.hid hX9_5
      clear hX9_5
      obtain ⟨c9_3_0, c9_3_1, lt9_3, y9_3, -⟩ := hO.k2 3 rfl
      obtain ⟨c9_4_0, c9_4_1, lt9_4, y9_4, -⟩ := hO.k2 4 rfl
      have HO := Lib.hid hO
      clear hO
      go_wp2_with (first | (with_reducible refine Own.stay (fn := Try.f3) ?_) | (first | (go_at_call 5; go_in)))
      try with_reducible refine Own.Stay.mk ?_
      have hO := HO.out
      clear HO c9_3_0 c9_3_1 lt9_3 y9_3 c9_4_0 c9_4_1 lt9_4 y9_4
      have st9 := rlaw32Rf0_st n U src inn nd2 B3_3 B3_2 B3_1 B3 inx i D gq
      let R9 := rlaw32Rf0R n U src inn nd2 B3_3 B3_2 B3_1 B3 inx i D gq
      refine wp_region_own (e := rlaw32Rf0E n U src inn nd2 B3_3 B3_2 B3_1 B3 inx i D gq) (anc := rlaw32Rf0Anc) (G := (fun L9 α u9 => OwnF w0 u9 (act rlaw32Rf0Cnt 5 L9) (rlaw32Rf0R n U src inn nd2 B3_3 B3_2 B3_1 B3 inx i D gq L9 α) X9_5)) (by kernel_rfl) (by kernel_rfl) (by kernel_rfl) (by kernel_rfl) (rlaw32Rf0_he n U src inn nd2 B3_3 B3_2 B3_1 B3 inx i D gq) ?_ (RunsAll.all ?_) ?_
      · have hp : ∀ i, act rlaw32Rf0Cnt 5 (fun _ => false) i → i ∈ [999, 1999, 2999, 3999, 4999] := by
          intro i hi
          have h9 : i % 1000 = 999 := by
            by_cases h : i % 1000 = 999
            · exact h
            · exact absurd (act_lt hi h) (by simp)
          unfold act at hi
          rw [if_pos h9] at hi
          simp only [List.mem_cons, List.not_mem_nil, or_false]
          omega
        refine hO.drew.family (fun i hi => ?_) (fun i j hi hj hij => ?_)
        · have := hp i hi
          simp only [List.mem_cons, List.not_mem_nil, or_false] at this
          rcases this with rfl | rfl | rfl | rfl | rfl <;> rfl
        · have h1 := hp i hi
          have h2 := hp j hj
          simp only [List.mem_cons, List.not_mem_nil, or_false] at h1 h2
          omega
      · refine ⟨?_, ?_, ?_, ?_, ?_, ?_, ?_, ?_, ?_, ?_, ?_, ?_, ?_, ?_, trivial⟩
        · intro L9 α a9 u9 K9 hL hcl hA hG hS h0 hK
          replace hL : L9 0 = false := hL
          have q14 : a9.tmps[14]? = some (.int .i64 (i : Int)) := (h0 14 (by kernel_rfl)).trans rfl
          have s14 := Rega.eval_of q14
          go_simp
          exact hK _ α _ (fun _ _ => rfl) rfl (step_same (st9) hL hcl rfl rfl hG)
        · intro L9 α a9 u9 K9 hL hcl hA hG hS h0 hK
          replace hL : L9 1 = false := hL
          have q0 : a9.tmps[0]? = some (.slice (some ⟨nd2, 0, none⟩) n n) := (h0 0 (by kernel_rfl)).trans rfl
          have s0 := Rega.eval_of q0
          go_simp
          exact hK _ α _ (fun _ _ => rfl) rfl (step_same (st9) hL hcl rfl rfl hG)
        · intro L9 α a9 u9 K9 hL hcl hA hG hS h0 hK
          replace hL : L9 2 = false := hL
          have q14 : a9.tmps[14]? = some (.int .i64 (i : Int)) := (h0 14 (by kernel_rfl)).trans rfl
          have s14 := Rega.eval_of q14
          go_simp
          exact hK _ α _ (fun _ _ => rfl) rfl (step_same (st9) hL hcl rfl rfl hG)
        · intro L9 α a9 u9 K9 hL hcl hA hG hS h0 hK
          replace hL : L9 3 = false := hL
          have q57 : a9.tmps[57]? = some (.slice (some ⟨nd2, 0, none⟩) n n) := hS 1 57 (by decide) rfl (by show 57 < 186; decide)
          have s57 := Rega.eval_of q57
          have q58 : a9.tmps[58]? = some (.int .i64 (i : Int)) := hS 2 58 (by decide) rfl (by show 58 < 186; decide)
          have s58 := Rega.eval_of q58
          go_simp
          exact hK _ α _ (fun _ _ => rfl) rfl (step_same (st9) hL hcl rfl rfl hG)
        · intro L9 α a9 u9 K9 hL hcl hA hG hS h0 hK
          replace hL : L9 4 = false := hL
          have q59 : a9.tmps[59]? = some (.pointer (some ⟨nd2, i, none⟩)) := hS 3 59 (by decide) rfl (by show 59 < 186; decide)
          have s59 := Rega.eval_of q59
          have e0 : R9 L9 α 2999 = row (nd2) 5 (itR U n) := rfl
          have hr := hG.rowAt 2999 (act_base 2999 rfl) e0
          have c0 : u9.cell? ⟨nd2, i, none⟩ = some (.int .u8 (U i : Int)) := hr.cell ((itR_get hlt))
          clear hr e0
          go_simp
          exact hK _ α _ (fun _ _ => rfl) rfl (step_same (st9) hL hcl rfl rfl hG)
        · intro L9 α a9 u9 K9 hL hcl hA hG hS h0 hK
          replace hL : L9 5 = false := hL
          have q10 : a9.tmps[10]? = some (.pointer (some ⟨B3, 0, none⟩)) := (h0 10 (by kernel_rfl)).trans rfl
          have s10 := Rega.eval_of q10
          have e0 : R9 L9 α 3999 = row (B3) 27 #[.int .u32 src, .int .u32 inn] := rfl
          have hr := hG.rowAt 3999 (act_base 3999 rfl) e0
          have c0 : u9.cell? ⟨B3, 0, none⟩ = some (.int .u32 src) := hr.cell rfl
          have c1 : u9.cell? ⟨B3, 1, none⟩ = some (.int .u32 inn) := hr.cell rfl
          clear hr e0
          go_simp
          exact hK _ α _ (fun _ _ => rfl) rfl (step_same (st9) hL hcl rfl rfl hG)
        · intro L9 α a9 u9 K9 hL hcl hA hG hS h0 hK
          replace hL : L9 6 = false := hL
          have q11 : a9.tmps[11]? = some (.pointer (some ⟨B3_1, 0, none⟩)) := (h0 11 (by kernel_rfl)).trans rfl
          have s11 := Rega.eval_of q11
          have e0 : R9 L9 α 4999 = row (B3_1) 27 #[.int .u32 src, .int .u32 inx] := rfl
          have hr := hG.rowAt 4999 (act_base 4999 rfl) e0
          have c0 : u9.cell? ⟨B3_1, 0, none⟩ = some (.int .u32 src) := hr.cell rfl
          have c1 : u9.cell? ⟨B3_1, 1, none⟩ = some (.int .u32 inx) := hr.cell rfl
          clear hr e0
          go_simp
          exact hK _ α _ (fun _ _ => rfl) rfl (step_same (st9) hL hcl rfl rfl hG)
        · intro L9 α a9 u9 K9 hL hcl hA hG hS h0 hK
          replace hL : L9 7 = false := hL
          have q56 : a9.tmps[56]? = some (.int .i64 (i : Int)) := hS 0 56 (by decide) rfl (by show 56 < 186; decide)
          have s56 := Rega.eval_of q56
          have q60 : a9.tmps[60]? = some (.int .u8 (U i : Int)) := hS 4 60 (by decide) rfl (by show 60 < 186; decide)
          have s60 := Rega.eval_of q60
          have q61 : a9.tmps[61]? = some (.agg #[.int .u32 src, .int .u32 inn]) := hS 5 61 (by decide) rfl (by show 61 < 186; decide)
          have s61 := Rega.eval_of q61
          have q62 : a9.tmps[62]? = some (.agg #[.int .u32 src, .int .u32 inx]) := hS 6 62 (by decide) rfl (by show 62 < 186; decide)
          have s62 := Rega.eval_of q62
          go_simp
          have hM : ∀ i, i ∈ [] → act rlaw32Rf0Cnt 5 L9 i := by intro i hi; simp at hi
          have hP : Own w0 u9 [] _ := hG.pick [] (by decide) (by simp)
          clear hM
          refine Calls.mono (leaf0 i (U i : Int) src inn inx _ _ _ hP (by omega) hrm) ?_
          rintro e9 u1 ⟨b0, rfl, hQ⟩
          obtain ⟨α', hα'⟩ : ∃ α' : Rega.Atoms, α' = (fun j => if j = 7 then b0 else α j) := ⟨_, rfl⟩
          have hα : ∀ j, j % 1000 ≠ 7 → α' j = α j := fun j hj => by rw [hα']; simp only []; rw [if_neg (by omega)]
          have hb0 : α' 7 = b0 := by rw [hα']; rfl
          skip
          refine hK _ α' _ hα ?_ (step_call (st9) hL hcl hα [] [] (by decide) (by decide) (by decide) (M := _) ?_ hG hQ)
          · show _ = (.tuple #[.agg #[.iface 59 (.pointer (some ⟨α' 7, 0, none⟩)), .int .i32 (i : Int)], .pointer none] : Value)
            simp only [hb0]
          · rfl
        · intro L9 α a9 u9 K9 hL hcl hA hG hS h0 hK
          replace hL : L9 8 = false := hL
          have q63 : a9.tmps[63]? = some (.tuple #[.agg #[.iface 59 (.pointer (some ⟨α 7, 0, none⟩)), .int .i32 (i : Int)], .pointer none]) := hS 7 63 (by decide) rfl (by show 63 < 186; decide)
          have s63 := Rega.eval_of q63
          go_simp
          exact hK _ α _ (fun _ _ => rfl) rfl (step_same (st9) hL hcl rfl rfl hG)
        · intro L9 α a9 u9 K9 hL hcl hA hG hS h0 hK
          replace hL : L9 9 = false := hL
          have q55 : a9.tmps[55]? = some (.tuple #[.agg #[.iface 59 (.pointer (some ⟨α 7, 0, none⟩)), .int .i32 (i : Int)], .pointer none]) := hS 8 55 (by decide) rfl (by show 55 < 186; decide)
          have s55 := Rega.eval_of q55
          go_simp
          exact hK _ α _ (fun _ _ => rfl) rfl (step_same (st9) hL hcl rfl rfl hG)
        · intro L9 α a9 u9 K9 hL hcl hA hG hS h0 hK
          replace hL : L9 10 = false := hL
          have q55 : a9.tmps[55]? = some (.tuple #[.agg #[.iface 59 (.pointer (some ⟨α 7, 0, none⟩)), .int .i32 (i : Int)], .pointer none]) := hS 8 55 (by decide) rfl (by show 55 < 186; decide)
          have s55 := Rega.eval_of q55
          go_simp
          exact hK _ α _ (fun _ _ => rfl) rfl (step_same (st9) hL hcl rfl rfl hG)
        · intro L9 α a9 u9 K9 hL hcl hA hG hS h0 hK
          replace hL : L9 11 = false := hL
          go_simp
          have e1 : R9 (Rega.ran L9 11) (fun j => if j = 11 then u9.heap.size else α j) 11 = row (u9.heap.size) 35 #[.nilIface, .int .i32 0] := by
            show rlaw32Rf0T11 n U src inn nd2 B3_3 B3_2 B3_1 B3 inx i D gq (Rega.ran L9 11) (fun j => if j = 11 then u9.heap.size else α j) = _
            unfold rlaw32Rf0T11
            exact ((if_neg (fun e => (fun e => by have := hcl 12 e 11 (by decide); rw [hL] at this; cases this) ((ran_ne (by decide)).symm.trans e))).trans rfl)
          exact hK _ (fun j => if j = 11 then u9.heap.size else α j) _ (fun j hj => if_neg (fun e => hj (by rw [e]))) rfl (step_alloc (st9) hL hcl rfl rfl (by decide) _ e1 hG)
        · intro L9 α a9 u9 K9 hL hcl hA hG hS h0 hK
          replace hL : L9 12 = false := hL
          have q15 : a9.tmps[15]? = some (.pointer (some ⟨α 11, 0, none⟩)) := hS 11 15 (by decide) rfl (by show 15 < 186; decide)
          have s15 := Rega.eval_of q15
          have q64 : a9.tmps[64]? = some (.agg #[.iface 59 (.pointer (some ⟨α 7, 0, none⟩)), .int .i32 (i : Int)]) := hS 9 64 (by decide) rfl (by show 64 < 186; decide)
          have s64 := Rega.eval_of q64
          have e0 : R9 L9 α 11 = row (α 11) 35 #[.nilIface, .int .i32 0] := by
            show rlaw32Rf0T11 n U src inn nd2 B3_3 B3_2 B3_1 B3 inx i D gq L9 α = _
            unfold rlaw32Rf0T11
            rw [if_neg (by rw [hL]; decide)]
          have hr := hG.rowAt 11 (act_new 11 rfl (hA 11 (by decide))) e0
          have c0 : u9.cell? ⟨α 11, 0, none⟩ = some (.nilIface) := hr.cell rfl
          have y0 : u9.frozen? ⟨α 11, 0, none⟩ = false := hr.free (0)
          have c1 : u9.cell? ⟨α 11, 1, none⟩ = some (.int .i32 0) := hr.cell rfl
          have y1 : u9.frozen? ⟨α 11, 1, none⟩ = false := hr.free (1)
          clear hr
          have E0 := Lib.hid e0
          clear e0
          go_simp
          have e1 : R9 (Rega.ran L9 12) α 11 = row (α 11) 35 #[.iface 59 (.pointer (some ⟨α 7, 0, none⟩)), .int .i32 (i : Int)] := by
            show rlaw32Rf0T11 n U src inn nd2 B3_3 B3_2 B3_1 B3 inx i D gq (Rega.ran L9 12) α = _
            unfold rlaw32Rf0T11
            rw [if_pos (show Rega.ran L9 12 12 = true from rfl)]
          exact hK _ α _ (fun _ _ => rfl) rfl (step_sets (st9) hL hcl rfl 11 rfl (act_new 11 rfl (hA 11 (by decide))) E0.out (0) [.iface 59 (.pointer (some ⟨α 7, 0, none⟩)), .int .i32 (i : Int)] (e1.trans rfl) hG)
        · intro L9 α a9 u9 K9 hL hcl hA hG hS h0 hK
          replace hL : L9 13 = false := hL
          have q65 : a9.tmps[65]? = some (.pointer none) := hS 10 65 (by decide) rfl (by show 65 < 186; decide)
          have s65 := Rega.eval_of q65
          go_simp
          exact hK _ α _ (fun _ _ => rfl) rfl (step_same (st9) hL hcl rfl rfl hG)
      clear st9
      intro α u hG
      have e0 : R9 (fun k => decide (k < 14)) α 999 = row (B3_2) 35 (lvR D i (gq + 1)) := rfl
      have e1 : R9 (fun k => decide (k < 14)) α 1999 = row (B3_3) 36 (clR D i (gq + 1)) := rfl
      have e2 : R9 (fun k => decide (k < 14)) α 2999 = row (nd2) 5 (itR U n) := rfl
      have e3 : R9 (fun k => decide (k < 14)) α 3999 = row (B3) 27 #[.int .u32 src, .int .u32 inn] := rfl
      have e4 : R9 (fun k => decide (k < 14)) α 4999 = row (B3_1) 27 #[.int .u32 src, .int .u32 inx] := rfl
      have e5 : R9 (fun k => decide (k < 14)) α 11 = row (α 11) 35 #[.iface 59 (.pointer (some ⟨α 7, 0, none⟩)), .int .i32 (i : Int)] := by
        show rlaw32Rf0T11 n U src inn nd2 B3_3 B3_2 B3_1 B3 inx i D gq (fun k => decide (k < 14)) α = _
        unfold rlaw32Rf0T11
        rw [if_pos (by decide)]
      have hO : Own w0 u [row (B3_2) 35 (lvR D i (gq + 1)), row (B3_3) 36 (clR D i (gq + 1)), row (nd2) 5 (itR U n), row (B3) 27 #[.int .u32 src, .int .u32 inn], row (B3_1) 27 #[.int .u32 src, .int .u32 inx], row (α 11) 35 #[.iface 59 (.pointer (some ⟨α 7, 0, none⟩)), .int .i32 (i : Int)]] X9_5 := (hG.list [999, 1999, 2999, 3999, 4999, 11] (by decide) (act_all (by decide))).conv (by
        show [R9 (fun k => decide (k < 14)) α 999, R9 (fun k => decide (k < 14)) α 1999, R9 (fun k => decide (k < 14)) α 2999, R9 (fun k => decide (k < 14)) α 3999, R9 (fun k => decide (k < 14)) α 4999, R9 (fun k => decide (k < 14)) α 11] = _
        rw [e0, e1, e2, e3, e4, e5])
      clear hG e0 e1 e2 e3 e4 e5 R9
      generalize hfr : Rega.frameAt _ _ _ _ _ = fr
      have hdf : fr = ⟨#[.slice (some ⟨nd2, 0, none⟩) n n, .bool true, .int .u32 src, .int .u32 inn, undef, undef, undef, undef, .bool false, .int .i64 (n : Int), .pointer (some ⟨B3, 0, none⟩), .pointer (some ⟨B3_1, 0, none⟩), .slice (some ⟨B3_2, 0, none⟩) n n, .slice (some ⟨B3_3, 0, none⟩) n n, .int .i64 (i : Int), .pointer (some ⟨α 11, 0, none⟩), .pointer none, undef, undef, undef, undef, undef, undef, undef, undef, undef, .slice (some sa) n cp, .bool true, .int .u32 src, .int .u32 inn, .bool true, .bool false, .slice (some sa) n cp, .int .i64 (n : Int), .bool (decide (4096 < (n : Int))), .slice (some sa) n cp, .slice (some ⟨nd2, 0, none⟩) n n, .slice (some ⟨nd2, 0, none⟩) n n, .int .i64 (n : Int), .int .u32 src, .int .u32 inn, .agg #[.int .u32 src, .int .u32 inn], .int .u32 src, .int .u32 inn, .int .u32 inx, .agg #[.int .u32 src, .int .u32 inx], .int .i64 (n : Int), .slice (some ⟨B3_2, 0, none⟩) n n, .int .i64 (n : Int), .slice (some ⟨B3_3, 0, none⟩) n n, .int .i64 (i : Int), .int .i64 (n : Int), .bool true, u53, u54, .tuple #[.agg #[.iface 59 (.pointer (some ⟨α 7, 0, none⟩)), .int .i32 (i : Int)], .pointer none], .int .i64 (i : Int), .slice (some ⟨nd2, 0, none⟩) n n, .int .i64 (i : Int), .pointer (some ⟨nd2, i, none⟩), .int .u8 (U i : Int), .agg #[.int .u32 src, .int .u32 inn], .agg #[.int .u32 src, .int .u32 inx], .tuple #[.agg #[.iface 59 (.pointer (some ⟨α 7, 0, none⟩)), .int .i32 (i : Int)], .pointer none], .agg #[.iface 59 (.pointer (some ⟨α 7, 0, none⟩)), .int .i32 (i : Int)], .pointer none, u66, u67, u68, u69, u70, u71, u72, u73, undef, undef, undef, undef, undef, undef, undef, undef, undef, undef, undef, undef, undef, undef, undef, undef, undef, undef, undef, undef, undef, undef, undef, undef, undef, undef, undef, undef, undef, undef, undef, undef, undef, undef, undef, undef, undef, undef, undef, undef, undef, undef, undef, undef, undef, undef, undef, undef, undef, undef, undef, undef, undef, undef, undef, undef, undef, undef, undef, undef, undef, undef, undef, undef, undef, undef, undef, undef, undef, undef, undef, undef, undef, undef, undef, undef, undef, undef, undef, undef, undef, undef, undef, undef, undef, undef, undef, undef, undef, undef, undef, undef, undef, undef, undef, undef, undef, undef, undef, undef, undef, undef, undef, undef, undef, undef, undef, undef, undef, undef, undef, undef], []⟩ := by rw [← hfr]; kernel_rfl
      clear hfr
      subst hdf
      generalize α 7 = nd6 at hO ⊢
      generalize α 11 = nd7 at hO ⊢
      clear α
      obtain ⟨ix9, hix9, hax9, hjx9⟩ := hO.ix
      have ix9_0 : ix9 B3_2 = 0 := hjx9 0 _ _ rfl
      have ix9_1 : ix9 B3_3 = 1 := hjx9 1 _ _ rfl
      have ix9_2 : ix9 nd2 = 2 := hjx9 2 _ _ rfl
      have ix9_3 : ix9 B3 = 3 := hjx9 3 _ _ rfl
      have ix9_4 : ix9 B3_1 = 4 := hjx9 4 _ _ rfl
      have ix9_5 : ix9 nd7 = 5 := hjx9 5 _ _ rfl
      clear hjx9
      have pl9_0 : Base.plainAt u (B3_2) = true := hO.plain 0 rfl
      have c9_0_i_2 : u.cell? ⟨B3_2, i * 2, none⟩ = some (.nilIface) := hO.cell 0 rfl (i * 2) ((lvR_at0 D i gq))
      have c9_0_i_2_1 : u.cell? ⟨B3_2, i * 2 + 1, none⟩ = some (.int .i32 0) := hO.cell 0 rfl (i * 2 + 1) ((lvR_at1 D i gq))
      have lt9_0 : B3_2 < u.heap.size := hO.lt 0 rfl
      have y9_0 : ∀ o, u.frozen? ⟨B3_2, o, none⟩ = false := hO.free 0 rfl
      have c9_1_i : u.cell? ⟨B3_3, i, none⟩ = some (.pointer none) := hO.cell 1 rfl (i) ((clR_at D i gq))
      have lt9_1 : B3_3 < u.heap.size := hO.lt 1 rfl
      have y9_1 : ∀ o, u.frozen? ⟨B3_3, o, none⟩ = false := hO.free 1 rfl
      have c9_2_i : u.cell? ⟨nd2, i, none⟩ = some (.int .u8 (U i : Int)) := hO.cell 2 rfl (i) ((itR_get hlt))
      have lt9_2 : nd2 < u.heap.size := hO.lt 2 rfl
      have y9_2 : ∀ o, u.frozen? ⟨nd2, o, none⟩ = false := hO.free 2 rfl
      obtain ⟨c9_3_0, c9_3_1, lt9_3, y9_3, pl9_3⟩ := hO.k2 3 rfl
      obtain ⟨c9_4_0, c9_4_1, lt9_4, y9_4, pl9_4⟩ := hO.k2 4 rfl
      obtain ⟨c9_5_0, c9_5_1, lt9_5, y9_5, pl9_5⟩ := hO.k2 5 rfl
      have HO := Lib.hid hO
      clear hO
      go_wp2_with (first | (with_reducible refine Own.stay (fn := Try.f3) ?_) | (first | (go_at_call 5; go_in)))
      try with_reducible refine Own.Stay.mk ?_
      have hO := HO.out
      clear HO hix9 hax9 ix9_0 ix9_1 ix9_2 ix9_3 ix9_4 ix9_5 ix9 pl9_0 c9_0_i_2 c9_0_i_2_1 lt9_0 y9_0 c9_1_i lt9_1 y9_1 c9_2_i lt9_2 y9_2 c9_3_0 c9_3_1 lt9_3 y9_3 pl9_3 c9_4_0 c9_4_1 lt9_4 y9_4 pl9_4 c9_5_0 c9_5_1 lt9_5 y9_5 pl9_5
      generalize hW : World.setCell _ _ _ = W9
      have hN : Own w0 W9 [row (B3_2) 35 (((lvR D i (gq + 1)).setIfInBounds (i * 2) (.iface 59 (.pointer (some ⟨nd6, 0, none⟩)))).setIfInBounds (i * 2 + 1) (.int .i32 (i : Int))), row (B3_3) 36 ((clR D i (gq + 1)).setIfInBounds i (.pointer none)), row (nd2) 5 (itR U n), row (B3) 27 #[.int .u32 src, .int .u32 inn], row (B3_1) 27 #[.int .u32 src, .int .u32 inx], row (nd7) 35 #[.iface 59 (.pointer (some ⟨nd6, 0, none⟩)), .int .i32 (i : Int)]] X9_5 := by
        rw [← hW]
        exact (((hO).set 0 rfl (i * 2) _).set 0 rfl (i * 2 + 1) _).set 1 rfl i _
      clear hW hO
      have hO := hN
      clear hN
      rw [HX9_5.out] at hO
      obtain ⟨hDk, hDs, hDi, hDx⟩ := HD.out
      have hN : Own w0 W9 [row (B3_2) 35 (((lvR D i (gq + 1)).setIfInBounds (i * 2) (.iface 59 (.pointer (some ⟨nd6, 0, none⟩)))).setIfInBounds (i * 2 + 1) (.int .i32 (i : Int))), row (B3_3) 36 ((clR D i (gq + 1)).setIfInBounds i (.pointer none)), row (nd2) 5 (itR U n), row (B3) 27 #[.int .u32 src, .int .u32 inn], row (B3_1) 27 #[.int .u32 src, .int .u32 inx]] (LvX X D i) := hO.sub [0, 1, 2, 3, 4] (by decide)
      clear hO
      have hO := hN
      clear hN
      have hN := hO.reframe (LvX.skip nd6 0 hkd)
      have hA := HAP.out.skip nd6 0 hkd
      go_roundg gq
      case measure => omega
      case rel => exact ⟨i + 1, updD D i nd6 0, by omega, by first | rfl | simp, hDk, hDs, hDi, hDx, hA, hN.conv (by rw [lvR_next D i gq nd6 0 _ (by show _ = lfD _ _; unfold lfD; rw [if_pos (show (updD D i nd6 0).kd i = 0 from hkd), updD_ad]), clR_next D i gq nd6 0 _ (by unfold clD; rw [if_pos (show (updD D i nd6 0).kd i = 0 from hkd)])])⟩
    by_cases h1 : U i % 3 = 1
    · skip
      have hrm : (U i : Int).tmod 3 = 1 := by have h9 : (U i : Int).tmod 3 = ((U i % 3 : Nat) : Int) := rfl; rw [h9]; omega
      have hkd : D.kd i = 1 := by rw [hDk]; simp only []; rw [if_neg h0, if_pos h1]
      have HD := Lib.hid (And.intro hDk (And.intro hDs (And.intro hDi hDx)))
      have HAP := Lib.hid hap
      clear hDk hDs hDi hDx hap
      obtain ⟨X9_10, hX9_10⟩ : ∃ Y, Y = LvX X D i := ⟨_, rfl⟩
      rw [← hX9_10] at hO
      have HX9_10 := Lib.hid hX9_10
      clear hX9_10
      obtain ⟨c9_3_0, c9_3_1, lt9_3, y9_3, -⟩ := hO.k2 3 rfl
      obtain ⟨c9_4_0, c9_4_1, lt9_4, y9_4, -⟩ := hO.k2 4 rfl
      have HO := Lib.hid hO
      clear hO
      go_wp2_with (first | (with_reducible refine Own.stay (fn := Try.f3) ?_) | (first | (go_at_call 5; go_in)))
      try with_reducible refine Own.Stay.mk ?_
      have hO := HO.out
      clear HO c9_3_0 c9_3_1 lt9_3 y9_3 c9_4_0 c9_4_1 lt9_4 y9_4
      have st9 := rlaw32Rf1_st n U src inn nd2 B3_3 B3_2 B3_1 B3 inx i D gq
      let R9 := rlaw32Rf1R n U src inn nd2 B3_3 B3_2 B3_1 B3 inx i D gq
      refine wp_region_own (e := rlaw32Rf1E n U src inn nd2 B3_3 B3_2 B3_1 B3 inx i D gq) (anc := rlaw32Rf1Anc) (G := (fun L9 α u9 => OwnF w0 u9 (act rlaw32Rf1Cnt 5 L9) (rlaw32Rf1R n U src inn nd2 B3_3 B3_2 B3_1 B3 inx i D gq L9 α) X9_10)) (by kernel_rfl) (by kernel_rfl) (by kernel_rfl) (by kernel_rfl) (rlaw32Rf1_he n U src inn nd2 B3_3 B3_2 B3_1 B3 inx i D gq) ?_ (RunsAll.all ?_) ?_
      · have hp : ∀ i, act rlaw32Rf1Cnt 5 (fun _ => false) i → i ∈ [999, 1999, 2999, 3999, 4999] := by
          intro i hi
          have h9 : i % 1000 = 999 := by
            by_cases h : i % 1000 = 999
            · exact h
            · exact absurd (act_lt hi h) (by simp)
          unfold act at hi
          rw [if_pos h9] at hi
          simp only [List.mem_cons, List.not_mem_nil, or_false]
          omega
        refine hO.drew.family (fun i hi => ?_) (fun i j hi hj hij => ?_)
        · have := hp i hi
          simp only [List.mem_cons, List.not_mem_nil, or_false] at this
          rcases this with rfl | rfl | rfl | rfl | rfl <;> rfl
        · have h1 := hp i hi
          have h2 := hp j hj
          simp only [List.mem_cons, List.not_mem_nil, or_false] at h1 h2
          omega
      · refine ⟨?_, ?_, ?_, ?_, ?_, ?_, ?_, ?_, ?_, ?_, ?_, ?_, ?_, ?_, trivial⟩
        · intro L9 α a9 u9 K9 hL hcl hA hG hS h0 hK
          replace hL : L9 0 = false := hL
          have q14 : a9.tmps[14]? = some (.int .i64 (i : Int)) := (h0 14 (by kernel_rfl)).trans rfl
          have s14 := Rega.eval_of q14
          go_simp
          exact hK _ α _ (fun _ _ => rfl) rfl (step_same (st9) hL hcl rfl rfl hG)
        · intro L9 α a9 u9 K9 hL hcl hA hG hS h0 hK
          replace hL : L9 1 = false := hL
          have q0 : a9.tmps[0]? = some (.slice (some ⟨nd2, 0, none⟩) n n) := (h0 0 (by kernel_rfl)).trans rfl
          have s0 := Rega.eval_of q0
          go_simp
          exact hK _ α _ (fun _ _ => rfl) rfl (step_same (st9) hL hcl rfl rfl hG)
        · intro L9 α a9 u9 K9 hL hcl hA hG hS h0 hK
          replace hL : L9 2 = false := hL
          have q14 : a9.tmps[14]? = some (.int .i64 (i : Int)) := (h0 14 (by kernel_rfl)).trans rfl
          have s14 := Rega.eval_of q14
          go_simp
          exact hK _ α _ (fun _ _ => rfl) rfl (step_same (st9) hL hcl rfl rfl hG)
        · intro L9 α a9 u9 K9 hL hcl hA hG hS h0 hK
          replace hL : L9 3 = false := hL
          have q57 : a9.tmps[57]? = some (.slice (some ⟨nd2, 0, none⟩) n n) := hS 1 57 (by decide) rfl (by show 57 < 186; decide)
          have s57 := Rega.eval_of q57
          have q58 : a9.tmps[58]? = some (.int .i64 (i : Int)) := hS 2 58 (by decide) rfl (by show 58 < 186; decide)
          have s58 := Rega.eval_of q58
          go_simp
          exact hK _ α _ (fun _ _ => rfl) rfl (step_same (st9) hL hcl rfl rfl hG)
        · intro L9 α a9 u9 K9 hL hcl hA hG hS h0 hK
          replace hL : L9 4 = false := hL
          have q59 : a9.tmps[59]? = some (.pointer (some ⟨nd2, i, none⟩)) := hS 3 59 (by decide) rfl (by show 59 < 186; decide)
          have s59 := Rega.eval_of q59
          have e0 : R9 L9 α 2999 = row (nd2) 5 (itR U n) := rfl
          have hr := hG.rowAt 2999 (act_base 2999 rfl) e0
          have c0 : u9.cell? ⟨nd2, i, none⟩ = some (.int .u8 (U i : Int)) := hr.cell ((itR_get hlt))
          clear hr e0
          go_simp
          exact hK _ α _ (fun _ _ => rfl) rfl (step_same (st9) hL hcl rfl rfl hG)
        · intro L9 α a9 u9 K9 hL hcl hA hG hS h0 hK
          replace hL : L9 5 = false := hL
          have q10 : a9.tmps[10]? = some (.pointer (some ⟨B3, 0, none⟩)) := (h0 10 (by kernel_rfl)).trans rfl
          have s10 := Rega.eval_of q10
          have e0 : R9 L9 α 3999 = row (B3) 27 #[.int .u32 src, .int .u32 inn] := rfl
          have hr := hG.rowAt 3999 (act_base 3999 rfl) e0
          have c0 : u9.cell? ⟨B3, 0, none⟩ = some (.int .u32 src) := hr.cell rfl
          have c1 : u9.cell? ⟨B3, 1, none⟩ = some (.int .u32 inn) := hr.cell rfl
          clear hr e0
          go_simp
          exact hK _ α _ (fun _ _ => rfl) rfl (step_same (st9) hL hcl rfl rfl hG)
        · intro L9 α a9 u9 K9 hL hcl hA hG hS h0 hK
          replace hL : L9 6 = false := hL
          have q11 : a9.tmps[11]? = some (.pointer (some ⟨B3_1, 0, none⟩)) := (h0 11 (by kernel_rfl)).trans rfl
          have s11 := Rega.eval_of q11
          have e0 : R9 L9 α 4999 = row (B3_1) 27 #[.int .u32 src, .int .u32 inx] := rfl
          have hr := hG.rowAt 4999 (act_base 4999 rfl) e0
          have c0 : u9.cell? ⟨B3_1, 0, none⟩ = some (.int .u32 src) := hr.cell rfl
          have c1 : u9.cell? ⟨B3_1, 1, none⟩ = some (.int .u32 inx) := hr.cell rfl
          clear hr e0
          go_simp
          exact hK _ α _ (fun _ _ => rfl) rfl (step_same (st9) hL hcl rfl rfl hG)
        · intro L9 α a9 u9 K9 hL hcl hA hG hS h0 hK
          replace hL : L9 7 = false := hL
          have q56 : a9.tmps[56]? = some (.int .i64 (i : Int)) := hS 0 56 (by decide) rfl (by show 56 < 186; decide)
          have s56 := Rega.eval_of q56
          have q60 : a9.tmps[60]? = some (.int .u8 (U i : Int)) := hS 4 60 (by decide) rfl (by show 60 < 186; decide)
          have s60 := Rega.eval_of q60
          have q61 : a9.tmps[61]? = some (.agg #[.int .u32 src, .int .u32 inn]) := hS 5 61 (by decide) rfl (by show 61 < 186; decide)
          have s61 := Rega.eval_of q61
          have q62 : a9.tmps[62]? = some (.agg #[.int .u32 src, .int .u32 inx]) := hS 6 62 (by decide) rfl (by show 62 < 186; decide)
          have s62 := Rega.eval_of q62
          go_simp
          have hM : ∀ i, i ∈ [] → act rlaw32Rf1Cnt 5 L9 i := by intro i hi; simp at hi
          have hP : Own w0 u9 [] _ := hG.pick [] (by decide) (by simp)
          clear hM
          refine Calls.mono (leaf1 i (U i : Int) src inn inx _ _ _ hP (by omega) hrm) ?_
          rintro e9 u1 ⟨b0, b1, rfl, hQ⟩
          obtain ⟨α', hα'⟩ : ∃ α' : Rega.Atoms, α' = (fun j => if j = 7 then b0 else if j = 1007 then b1 else α j) := ⟨_, rfl⟩
          have f0 : R9 (Rega.ran L9 7) α' 1007 = row (α' 1007) 46 #[.iface 56 (.pointer (some ⟨α' 7, 0, none⟩)), .int .i32 (i : Int), .slice none 0 0, .int .i32 0, .int .u8 0, .int .u8 0, .bool false, .bool false] := rfl
          have f1 : R9 (Rega.ran L9 7) α' 7 = row (α' 7) 58 #[.int .u32 src, .int .u32 inn, .bool false, .bool false, .bool false] := rfl
          have hα : ∀ j, j % 1000 ≠ 7 → α' j = α j := fun j hj => by rw [hα']; simp only []; rw [if_neg (by omega), if_neg (by omega)]
          have hb0 : α' 7 = b0 := by rw [hα']; rfl
          have hb1 : α' 1007 = b1 := by rw [hα']; rfl
          skip
          refine hK _ α' _ hα ?_ (step_call (st9) hL hcl hα [] [1007, 7] (by decide) (by decide) (by decide) (M := _) ?_ hG hQ)
          · show _ = (.tuple #[.agg #[.iface 36 (.pointer (some ⟨α' 1007, 0, none⟩)), .int .i32 (i : Int)], .pointer (some ⟨α' 1007, 0, none⟩)] : Value)
            simp only [hb1]
          · show [R9 (Rega.ran L9 7) α' 1007, R9 (Rega.ran L9 7) α' 7] = _
            rw [f0, f1]
            simp only [hb0, hb1]
        · intro L9 α a9 u9 K9 hL hcl hA hG hS h0 hK
          replace hL : L9 8 = false := hL
          have q63 : a9.tmps[63]? = some (.tuple #[.agg #[.iface 36 (.pointer (some ⟨α 1007, 0, none⟩)), .int .i32 (i : Int)], .pointer (some ⟨α 1007, 0, none⟩)]) := hS 7 63 (by decide) rfl (by show 63 < 186; decide)
          have s63 := Rega.eval_of q63
          go_simp
          exact hK _ α _ (fun _ _ => rfl) rfl (step_same (st9) hL hcl rfl rfl hG)
        · intro L9 α a9 u9 K9 hL hcl hA hG hS h0 hK
          replace hL : L9 9 = false := hL
          have q55 : a9.tmps[55]? = some (.tuple #[.agg #[.iface 36 (.pointer (some ⟨α 1007, 0, none⟩)), .int .i32 (i : Int)], .pointer (some ⟨α 1007, 0, none⟩)]) := hS 8 55 (by decide) rfl (by show 55 < 186; decide)
          have s55 := Rega.eval_of q55
          go_simp
          exact hK _ α _ (fun _ _ => rfl) rfl (step_same (st9) hL hcl rfl rfl hG)
        · intro L9 α a9 u9 K9 hL hcl hA hG hS h0 hK
          replace hL : L9 10 = false := hL
          have q55 : a9.tmps[55]? = some (.tuple #[.agg #[.iface 36 (.pointer (some ⟨α 1007, 0, none⟩)), .int .i32 (i : Int)], .pointer (some ⟨α 1007, 0, none⟩)]) := hS 8 55 (by decide) rfl (by show 55 < 186; decide)
          have s55 := Rega.eval_of q55
          go_simp
          exact hK _ α _ (fun _ _ => rfl) rfl (step_same (st9) hL hcl rfl rfl hG)
        · intro L9 α a9 u9 K9 hL hcl hA hG hS h0 hK
          replace hL : L9 11 = false := hL
          go_simp
          have e1 : R9 (Rega.ran L9 11) (fun j => if j = 11 then u9.heap.size else α j) 11 = row (u9.heap.size) 35 #[.nilIface, .int .i32 0] := by
            show rlaw32Rf1T11 n U src inn nd2 B3_3 B3_2 B3_1 B3 inx i D gq (Rega.ran L9 11) (fun j => if j = 11 then u9.heap.size else α j) = _
            unfold rlaw32Rf1T11
            exact ((if_neg (fun e => (fun e => by have := hcl 12 e 11 (by decide); rw [hL] at this; cases this) ((ran_ne (by decide)).symm.trans e))).trans rfl)
          exact hK _ (fun j => if j = 11 then u9.heap.size else α j) _ (fun j hj => if_neg (fun e => hj (by rw [e]))) rfl (step_alloc (st9) hL hcl rfl rfl (by decide) _ e1 hG)
        · intro L9 α a9 u9 K9 hL hcl hA hG hS h0 hK
          replace hL : L9 12 = false := hL
          have q15 : a9.tmps[15]? = some (.pointer (some ⟨α 11, 0, none⟩)) := hS 11 15 (by decide) rfl (by show 15 < 186; decide)
          have s15 := Rega.eval_of q15
          have q64 : a9.tmps[64]? = some (.agg #[.iface 36 (.pointer (some ⟨α 1007, 0, none⟩)), .int .i32 (i : Int)]) := hS 9 64 (by decide) rfl (by show 64 < 186; decide)
          have s64 := Rega.eval_of q64
          have e0 : R9 L9 α 11 = row (α 11) 35 #[.nilIface, .int .i32 0] := by
            show rlaw32Rf1T11 n U src inn nd2 B3_3 B3_2 B3_1 B3 inx i D gq L9 α = _
            unfold rlaw32Rf1T11
            rw [if_neg (by rw [hL]; decide)]
          have hr := hG.rowAt 11 (act_new 11 rfl (hA 11 (by decide))) e0
          have c0 : u9.cell? ⟨α 11, 0, none⟩ = some (.nilIface) := hr.cell rfl
          have y0 : u9.frozen? ⟨α 11, 0, none⟩ = false := hr.free (0)
          have c1 : u9.cell? ⟨α 11, 1, none⟩ = some (.int .i32 0) := hr.cell rfl
          have y1 : u9.frozen? ⟨α 11, 1, none⟩ = false := hr.free (1)
          clear hr
          have E0 := Lib.hid e0
          clear e0
          go_simp
          have e1 : R9 (Rega.ran L9 12) α 11 = row (α 11) 35 #[.iface 36 (.pointer (some ⟨α 1007, 0, none⟩)), .int .i32 (i : Int)] := by
            show rlaw32Rf1T11 n U src inn nd2 B3_3 B3_2 B3_1 B3 inx i D gq (Rega.ran L9 12) α = _
            unfold rlaw32Rf1T11
            rw [if_pos (show Rega.ran L9 12 12 = true from rfl)]
          exact hK _ α _ (fun _ _ => rfl) rfl (step_sets (st9) hL hcl rfl 11 rfl (act_new 11 rfl (hA 11 (by decide))) E0.out (0) [.iface 36 (.pointer (some ⟨α 1007, 0, none⟩)), .int .i32 (i : Int)] (e1.trans rfl) hG)
        · intro L9 α a9 u9 K9 hL hcl hA hG hS h0 hK
          replace hL : L9 13 = false := hL
          have q65 : a9.tmps[65]? = some (.pointer (some ⟨α 1007, 0, none⟩)) := hS 10 65 (by decide) rfl (by show 65 < 186; decide)
          have s65 := Rega.eval_of q65
          go_simp
          exact hK _ α _ (fun _ _ => rfl) rfl (step_same (st9) hL hcl rfl rfl hG)
      clear st9
      intro α u hG
      have e0 : R9 (fun k => decide (k < 14)) α 999 = row (B3_2) 35 (lvR D i (gq + 1)) := rfl
      have e1 : R9 (fun k => decide (k < 14)) α 1999 = row (B3_3) 36 (clR D i (gq + 1)) := rfl
      have e2 : R9 (fun k => decide (k < 14)) α 2999 = row (nd2) 5 (itR U n) := rfl
      have e3 : R9 (fun k => decide (k < 14)) α 3999 = row (B3) 27 #[.int .u32 src, .int .u32 inn] := rfl
      have e4 : R9 (fun k => decide (k < 14)) α 4999 = row (B3_1) 27 #[.int .u32 src, .int .u32 inx] := rfl
      have e5 : R9 (fun k => decide (k < 14)) α 7 = row (α 7) 58 #[.int .u32 src, .int .u32 inn, .bool false, .bool false, .bool false] := rfl
      have e6 : R9 (fun k => decide (k < 14)) α 1007 = row (α 1007) 46 #[.iface 56 (.pointer (some ⟨α 7, 0, none⟩)), .int .i32 (i : Int), .slice none 0 0, .int .i32 0, .int .u8 0, .int .u8 0, .bool false, .bool false] := rfl
      have e7 : R9 (fun k => decide (k < 14)) α 11 = row (α 11) 35 #[.iface 36 (.pointer (some ⟨α 1007, 0, none⟩)), .int .i32 (i : Int)] := by
        show rlaw32Rf1T11 n U src inn nd2 B3_3 B3_2 B3_1 B3 inx i D gq (fun k => decide (k < 14)) α = _
        unfold rlaw32Rf1T11
        rw [if_pos (by decide)]
      have hO : Own w0 u [row (B3_2) 35 (lvR D i (gq + 1)), row (B3_3) 36 (clR D i (gq + 1)), row (nd2) 5 (itR U n), row (B3) 27 #[.int .u32 src, .int .u32 inn], row (B3_1) 27 #[.int .u32 src, .int .u32 inx], row (α 7) 58 #[.int .u32 src, .int .u32 inn, .bool false, .bool false, .bool false], row (α 1007) 46 #[.iface 56 (.pointer (some ⟨α 7, 0, none⟩)), .int .i32 (i : Int), .slice none 0 0, .int .i32 0, .int .u8 0, .int .u8 0, .bool false, .bool false], row (α 11) 35 #[.iface 36 (.pointer (some ⟨α 1007, 0, none⟩)), .int .i32 (i : Int)]] X9_10 := (hG.list [999, 1999, 2999, 3999, 4999, 7, 1007, 11] (by decide) (act_all (by decide))).conv (by
        show [R9 (fun k => decide (k < 14)) α 999, R9 (fun k => decide (k < 14)) α 1999, R9 (fun k => decide (k < 14)) α 2999, R9 (fun k => decide (k < 14)) α 3999, R9 (fun k => decide (k < 14)) α 4999, R9 (fun k => decide (k < 14)) α 7, R9 (fun k => decide (k < 14)) α 1007, R9 (fun k => decide (k < 14)) α 11] = _
        rw [e0, e1, e2, e3, e4, e5, e6, e7])
      clear hG e0 e1 e2 e3 e4 e5 e6 e7 R9
      generalize hfr : Rega.frameAt _ _ _ _ _ = fr
      have hdf : fr = ⟨#[.slice (some ⟨nd2, 0, none⟩) n n, .bool true, .int .u32 src, .int .u32 inn, undef, undef, undef, undef, .bool false, .int .i64 (n : Int), .pointer (some ⟨B3, 0, none⟩), .pointer (some ⟨B3_1, 0, none⟩), .slice (some ⟨B3_2, 0, none⟩) n n, .slice (some ⟨B3_3, 0, none⟩) n n, .int .i64 (i : Int), .pointer (some ⟨α 11, 0, none⟩), .pointer (some ⟨α 1007, 0, none⟩), undef, undef, undef, undef, undef, undef, undef, undef, undef, .slice (some sa) n cp, .bool true, .int .u32 src, .int .u32 inn, .bool true, .bool false, .slice (some sa) n cp, .int .i64 (n : Int), .bool (decide (4096 < (n : Int))), .slice (some sa) n cp, .slice (some ⟨nd2, 0, none⟩) n n, .slice (some ⟨nd2, 0, none⟩) n n, .int .i64 (n : Int), .int .u32 src, .int .u32 inn, .agg #[.int .u32 src, .int .u32 inn], .int .u32 src, .int .u32 inn, .int .u32 inx, .agg #[.int .u32 src, .int .u32 inx], .int .i64 (n : Int), .slice (some ⟨B3_2, 0, none⟩) n n, .int .i64 (n : Int), .slice (some ⟨B3_3, 0, none⟩) n n, .int .i64 (i : Int), .int .i64 (n : Int), .bool true, u53, u54, .tuple #[.agg #[.iface 36 (.pointer (some ⟨α 1007, 0, none⟩)), .int .i32 (i : Int)], .pointer (some ⟨α 1007, 0, none⟩)], .int .i64 (i : Int), .slice (some ⟨nd2, 0, none⟩) n n, .int .i64 (i : Int), .pointer (some ⟨nd2, i, none⟩), .int .u8 (U i : Int), .agg #[.int .u32 src, .int .u32 inn], .agg #[.int .u32 src, .int .u32 inx], .tuple #[.agg #[.iface 36 (.pointer (some ⟨α 1007, 0, none⟩)), .int .i32 (i : Int)], .pointer (some ⟨α 1007, 0, none⟩)], .agg #[.iface 36 (.pointer (some ⟨α 1007, 0, none⟩)), .int .i32 (i : Int)], .pointer (some ⟨α 1007, 0, none⟩), u66, u67, u68, u69, u70, u71, u72, u73, undef, undef, undef, undef, undef, undef, undef, undef, undef, undef, undef, undef, undef, undef, undef, undef, undef, undef, undef, undef, undef, undef, undef, undef, undef, undef, undef, undef, undef, undef, undef, undef, undef, undef, undef, undef, undef, undef, undef, undef, undef, undef, undef, undef, undef, undef, undef, undef, undef, undef, undef, undef, undef, undef, undef, undef, undef, undef, undef, undef, undef, undef, undef, undef, undef, undef, undef, undef, undef, undef, undef, undef, undef, undef, undef, undef, undef, undef, undef, undef, undef, undef, undef, undef, undef, undef, undef, undef, undef, undef, undef, undef, undef, undef, undef, undef, undef, undef, undef, undef, undef, undef, undef, undef, undef, undef, undef, undef, undef, undef, undef, undef], []⟩ := by rw [← hfr]; kernel_rfl
      clear hfr
      subst hdf
      generalize α 7 = nd11 at hO ⊢
      generalize α 11 = nd12 at hO ⊢
      generalize α 1007 = nd13 at hO ⊢
      clear α
      obtain ⟨ix9, hix9, hax9, hjx9⟩ := hO.ix
      have ix9_0 : ix9 B3_2 = 0 := hjx9 0 _ _ rfl
      have ix9_1 : ix9 B3_3 = 1 := hjx9 1 _ _ rfl
      have ix9_2 : ix9 nd2 = 2 := hjx9 2 _ _ rfl
      have ix9_3 : ix9 B3 = 3 := hjx9 3 _ _ rfl
      have ix9_4 : ix9 B3_1 = 4 := hjx9 4 _ _ rfl
      have ix9_5 : ix9 nd11 = 5 := hjx9 5 _ _ rfl
      have ix9_6 : ix9 nd13 = 6 := hjx9 6 _ _ rfl
      have ix9_7 : ix9 nd12 = 7 := hjx9 7 _ _ rfl
      clear hjx9
      have pl9_0 : Base.plainAt u (B3_2) = true := hO.plain 0 rfl
      have c9_0_i_2 : u.cell? ⟨B3_2, i * 2, none⟩ = some (.nilIface) := hO.cell 0 rfl (i * 2) ((lvR_at0 D i gq))
      have c9_0_i_2_1 : u.cell? ⟨B3_2, i * 2 + 1, none⟩ = some (.int .i32 0) := hO.cell 0 rfl (i * 2 + 1) ((lvR_at1 D i gq))
      have lt9_0 : B3_2 < u.heap.size := hO.lt 0 rfl
      have y9_0 : ∀ o, u.frozen? ⟨B3_2, o, none⟩ = false := hO.free 0 rfl
      have c9_1_i : u.cell? ⟨B3_3, i, none⟩ = some (.pointer none) := hO.cell 1 rfl (i) ((clR_at D i gq))
      have lt9_1 : B3_3 < u.heap.size := hO.lt 1 rfl
      have y9_1 : ∀ o, u.frozen? ⟨B3_3, o, none⟩ = false := hO.free 1 rfl
      have c9_2_i : u.cell? ⟨nd2, i, none⟩ = some (.int .u8 (U i : Int)) := hO.cell 2 rfl (i) ((itR_get hlt))
      have lt9_2 : nd2 < u.heap.size := hO.lt 2 rfl
      have y9_2 : ∀ o, u.frozen? ⟨nd2, o, none⟩ = false := hO.free 2 rfl
      obtain ⟨c9_3_0, c9_3_1, lt9_3, y9_3, pl9_3⟩ := hO.k2 3 rfl
      obtain ⟨c9_4_0, c9_4_1, lt9_4, y9_4, pl9_4⟩ := hO.k2 4 rfl
      obtain ⟨c9_5_0, c9_5_1, c9_5_2, c9_5_3, c9_5_4, lt9_5, y9_5, -⟩ := hO.k5 5 rfl
      obtain ⟨c9_6_0, c9_6_1, c9_6_2, c9_6_3, c9_6_4, c9_6_5, c9_6_6, c9_6_7, lt9_6, y9_6, -⟩ := hO.k8 6 rfl
      obtain ⟨c9_7_0, c9_7_1, lt9_7, y9_7, pl9_7⟩ := hO.k2 7 rfl
      have HO := Lib.hid hO
      clear hO
      go_wp2_with (first | (with_reducible refine Own.stay (fn := Try.f3) ?_) | (first | (go_at_call 5; go_in)))
      try with_reducible refine Own.Stay.mk ?_
      have hO := HO.out
      clear HO hix9 hax9 ix9_0 ix9_1 ix9_2 ix9_3 ix9_4 ix9_5 ix9_6 ix9_7 ix9 pl9_0 c9_0_i_2 c9_0_i_2_1 lt9_0 y9_0 c9_1_i lt9_1 y9_1 c9_2_i lt9_2 y9_2 c9_3_0 c9_3_1 lt9_3 y9_3 pl9_3 c9_4_0 c9_4_1 lt9_4 y9_4 pl9_4 c9_5_0 c9_5_1 c9_5_2 c9_5_3 c9_5_4 lt9_5 y9_5 c9_6_0 c9_6_1 c9_6_2 c9_6_3 c9_6_4 c9_6_5 c9_6_6 c9_6_7 lt9_6 y9_6 c9_7_0 c9_7_1 lt9_7 y9_7 pl9_7
      generalize hW : World.setCell _ _ _ = W15
      have hN : Own w0 W15 [row (B3_2) 35 (((lvR D i (gq + 1)).setIfInBounds (i * 2) (.iface 36 (.pointer (some ⟨nd13, 0, none⟩)))).setIfInBounds (i * 2 + 1) (.int .i32 (i : Int))), row (B3_3) 36 ((clR D i (gq + 1)).setIfInBounds i (.pointer (some ⟨nd13, 0, none⟩))), row (nd2) 5 (itR U n), row (B3) 27 #[.int .u32 src, .int .u32 inn], row (B3_1) 27 #[.int .u32 src, .int .u32 inx], row (nd11) 58 #[.int .u32 src, .int .u32 inn, .bool false, .bool false, .bool false], row (nd13) 46 #[.iface 56 (.pointer (some ⟨nd11, 0, none⟩)), .int .i32 (i : Int), .slice none 0 0, .int .i32 0, .int .u8 0, .int .u8 0, .bool false, .bool false], row (nd12) 35 #[.iface 36 (.pointer (some ⟨nd13, 0, none⟩)), .int .i32 (i : Int)]] X9_10 := by
        rw [← hW]
        exact (((hO).set 0 rfl (i * 2) _).set 0 rfl (i * 2 + 1) _).set 1 rfl i _
      clear hW hO
      have hO := hN
      clear hN
      rw [HX9_10.out] at hO
      obtain ⟨hDk, hDs, hDi, hDx⟩ := HD.out
      have hN : Own w0 W15 [row (nd13) 46 #[.iface 56 (.pointer (some ⟨nd11, 0, none⟩)), .int .i32 (i : Int), .slice none 0 0, .int .i32 0, .int .u8 0, .int .u8 0, .bool false, .bool false], row (nd11) 58 #[.int .u32 src, .int .u32 inn, .bool false, .bool false, .bool false], row (B3_2) 35 (((lvR D i (gq + 1)).setIfInBounds (i * 2) (.iface 36 (.pointer (some ⟨nd13, 0, none⟩)))).setIfInBounds (i * 2 + 1) (.int .i32 (i : Int))), row (B3_3) 36 ((clR D i (gq + 1)).setIfInBounds i (.pointer (some ⟨nd13, 0, none⟩))), row (nd2) 5 (itR U n), row (B3) 27 #[.int .u32 src, .int .u32 inn], row (B3_1) 27 #[.int .u32 src, .int .u32 inx]] (LvX X D i) := hO.sub [6, 5, 0, 1, 2, 3, 4] (by decide)
      clear hO
      have hO := hN
      clear hN
      have hne : ∀ j, j < i → ¬ D.kd j = 0 → D.ad j ≠ nd13 := fun j hj h9 e => (hO.frame (D.ad j) _ (Or.inr ⟨j, hj, h9, Or.inl ⟨rfl, rfl⟩⟩)).2.2 _ List.mem_cons_self e.symm
      have hA := HAP.out.next nd11 hne
      have h1q := Own.give (b := nd13) (o := .cells (callC (.iface 56 (.pointer (some ⟨nd11, 0, none⟩))) (i : Int)) 46 (0, 0)) (Y := fun b o => LvX X D i b o ∨ (b = nd13 ∧ o = .cells (callC (.iface 56 (.pointer (some ⟨nd11, 0, none⟩))) (i : Int)) 46 (0, 0))) (hO.conv rfl) (fun b o h => h)
      have hN := Own.give (b := nd11) (o := .cells (idC D.src (D.inr i)) 58 (0, 0)) (Y := LvX X (updD D i nd13 nd11) (i + 1)) (h1q.conv (by rw [hDs, show D.inr i = inn from (if_pos hkd).trans hDi]; rfl)) (by
        intro b o h
        rcases LvX.next nd13 nd11 b o h with (h | h) | h
        · exact Or.inl (Or.inl h)
        · exact Or.inr h
        · exact Or.inl (Or.inr h))
      go_roundg gq
      case measure => omega
      case rel => exact ⟨i + 1, updD D i nd13 nd11, by omega, by first | rfl | simp, hDk, hDs, hDi, hDx, hA, hN.conv (by rw [lvR_next D i gq nd13 nd11 _ (by show _ = lfD _ _; unfold lfD; rw [if_neg (by rw [show (updD D i nd13 nd11).kd i = 1 from hkd]; decide), updD_ad]), clR_next D i gq nd13 nd11 _ (by unfold clD; rw [if_neg (by rw [show (updD D i nd13 nd11).kd i = 1 from hkd]; decide), updD_ad])])⟩
    · skip
      have hrm : (U i : Int).tmod 3 = 2 := by have h9 : (U i : Int).tmod 3 = ((U i % 3 : Nat) : Int) := rfl; rw [h9]; omega
      have hkd : D.kd i = 2 := by rw [hDk]; simp only []; rw [if_neg h0, if_neg h1]
      have HD := Lib.hid (And.intro hDk (And.intro hDs (And.intro hDi hDx)))
      have HAP := Lib.hid hap
      clear hDk hDs hDi hDx hap
      obtain ⟨X9_16, hX9_16⟩ : ∃ Y, Y = LvX X D i := ⟨_, rfl⟩
      rw [← hX9_16] at hO
      have HX9_16 := Lib.hid hX9_16
      clear hX9_16
      obtain ⟨c9_3_0, c9_3_1, lt9_3, y9_3, -⟩ := hO.k2 3 rfl
      obtain ⟨c9_4_0, c9_4_1, lt9_4, y9_4, -⟩ := hO.k2 4 rfl
      have HO := Lib.hid hO
      clear hO
      go_wp2_with (first | (with_reducible refine Own.stay (fn := Try.f3) ?_) | (first | (go_at_call 5; go_in)))
      try with_reducible refine Own.Stay.mk ?_
      have hO := HO.out
      clear HO c9_3_0 c9_3_1 lt9_3 y9_3 c9_4_0 c9_4_1 lt9_4 y9_4
      have st9 := rlaw32Rf2_st n U src inn nd2 B3_3 B3_2 B3_1 B3 inx i D gq
      let R9 := rlaw32Rf2R n U src inn nd2 B3_3 B3_2 B3_1 B3 inx i D gq
      refine wp_region_own (e := rlaw32Rf2E n U src inn nd2 B3_3 B3_2 B3_1 B3 inx i D gq) (anc := rlaw32Rf2Anc) (G := (fun L9 α u9 => OwnF w0 u9 (act rlaw32Rf2Cnt 5 L9) (rlaw32Rf2R n U src inn nd2 B3_3 B3_2 B3_1 B3 inx i D gq L9 α) X9_16)) (by kernel_rfl) (by kernel_rfl) (by kernel_rfl) (by kernel_rfl) (rlaw32Rf2_he n U src inn nd2 B3_3 B3_2 B3_1 B3 inx i D gq) ?_ (RunsAll.all ?_) ?_
      · have hp : ∀ i, act rlaw32Rf2Cnt 5 (fun _ => false) i → i ∈ [999, 1999, 2999, 3999, 4999] := by
          intro i hi
          have h9 : i % 1000 = 999 := by
            by_cases h : i % 1000 = 999
            · exact h
            · exact absurd (act_lt hi h) (by simp)
          unfold act at hi
          rw [if_pos h9] at hi
          simp only [List.mem_cons, List.not_mem_nil, or_false]
          omega
        refine hO.drew.family (fun i hi => ?_) (fun i j hi hj hij => ?_)
        · have := hp i hi
          simp only [List.mem_cons, List.not_mem_nil, or_false] at this
          rcases this with rfl | rfl | rfl | rfl | rfl <;> rfl
        · have h1 := hp i hi
          have h2 := hp j hj
          simp only [List.mem_cons, List.not_mem_nil, or_false] at h1 h2
          omega
      · refine ⟨?_, ?_, ?_, ?_, ?_, ?_, ?_, ?_, ?_, ?_, ?_, ?_, ?_, ?_, trivial⟩
        · intro L9 α a9 u9 K9 hL hcl hA hG hS h0 hK
          replace hL : L9 0 = false := hL
          have q14 : a9.tmps[14]? = some (.int .i64 (i : Int)) := (h0 14 (by kernel_rfl)).trans rfl
          have s14 := Rega.eval_of q14
          go_simp
          exact hK _ α _ (fun _ _ => rfl) rfl (step_same (st9) hL hcl rfl rfl hG)
        · intro L9 α a9 u9 K9 hL hcl hA hG hS h0 hK
          replace hL : L9 1 = false := hL
          have q0 : a9.tmps[0]? = some (.slice (some ⟨nd2, 0, none⟩) n n) := (h0 0 (by kernel_rfl)).trans rfl
          have s0 := Rega.eval_of q0
          go_simp
          exact hK _ α _ (fun _ _ => rfl) rfl (step_same (st9) hL hcl rfl rfl hG)
        · intro L9 α a9 u9 K9 hL hcl hA hG hS h0 hK
          replace hL : L9 2 = false := hL
          have q14 : a9.tmps[14]? = some (.int .i64 (i : Int)) := (h0 14 (by kernel_rfl)).trans rfl
          have s14 := Rega.eval_of q14
          go_simp
          exact hK _ α _ (fun _ _ => rfl) rfl (step_same (st9) hL hcl rfl rfl hG)
        · intro L9 α a9 u9 K9 hL hcl hA hG hS h0 hK
          replace hL : L9 3 = false := hL
          have q57 : a9.tmps[57]? = some (.slice (some ⟨nd2, 0, none⟩) n n) := hS 1 57 (by decide) rfl (by show 57 < 186; decide)
          have s57 := Rega.eval_of q57
          have q58 : a9.tmps[58]? = some (.int .i64 (i : Int)) := hS 2 58 (by decide) rfl (by show 58 < 186; decide)
          have s58 := Rega.eval_of q58
          go_simp
          exact hK _ α _ (fun _ _ => rfl) rfl (step_same (st9) hL hcl rfl rfl hG)
        · intro L9 α a9 u9 K9 hL hcl hA hG hS h0 hK
          replace hL : L9 4 = false := hL
          have q59 : a9.tmps[59]? = some (.pointer (some ⟨nd2, i, none⟩)) := hS 3 59 (by decide) rfl (by show 59 < 186; decide)
          have s59 := Rega.eval_of q59
          have e0 : R9 L9 α 2999 = row (nd2) 5 (itR U n) := rfl
          have hr := hG.rowAt 2999 (act_base 2999 rfl) e0
          have c0 : u9.cell? ⟨nd2, i, none⟩ = some (.int .u8 (U i : Int)) := hr.cell ((itR_get hlt))
          clear hr e0
          go_simp
          exact hK _ α _ (fun _ _ => rfl) rfl (step_same (st9) hL hcl rfl rfl hG)
        · intro L9 α a9 u9 K9 hL hcl hA hG hS h0 hK
          replace hL : L9 5 = false := hL
          have q10 : a9.tmps[10]? = some (.pointer (some ⟨B3, 0, none⟩)) := (h0 10 (by kernel_rfl)).trans rfl
          have s10 := Rega.eval_of q10
          have e0 : R9 L9 α 3999 = row (B3) 27 #[.int .u32 src, .int .u32 inn] := rfl
          have hr := hG.rowAt 3999 (act_base 3999 rfl) e0
          have c0 : u9.cell? ⟨B3, 0, none⟩ = some (.int .u32 src) := hr.cell rfl
          have c1 : u9.cell? ⟨B3, 1, none⟩ = some (.int .u32 inn) := hr.cell rfl
          clear hr e0
          go_simp
          exact hK _ α _ (fun _ _ => rfl) rfl (step_same (st9) hL hcl rfl rfl hG)
        · intro L9 α a9 u9 K9 hL hcl hA hG hS h0 hK
          replace hL : L9 6 = false := hL
          have q11 : a9.tmps[11]? = some (.pointer (some ⟨B3_1, 0, none⟩)) := (h0 11 (by kernel_rfl)).trans rfl
          have s11 := Rega.eval_of q11
          have e0 : R9 L9 α 4999 = row (B3_1) 27 #[.int .u32 src, .int .u32 inx] := rfl
          have hr := hG.rowAt 4999 (act_base 4999 rfl) e0
          have c0 : u9.cell? ⟨B3_1, 0, none⟩ = some (.int .u32 src) := hr.cell rfl
          have c1 : u9.cell? ⟨B3_1, 1, none⟩ = some (.int .u32 inx) := hr.cell rfl
          clear hr e0
          go_simp
          exact hK _ α _ (fun _ _ => rfl) rfl (step_same (st9) hL hcl rfl rfl hG)
        · intro L9 α a9 u9 K9 hL hcl hA hG hS h0 hK
          replace hL : L9 7 = false := hL
          have q56 : a9.tmps[56]? = some (.int .i64 (i : Int)) := hS 0 56 (by decide) rfl (by show 56 < 186; decide)
          have s56 := Rega.eval_of q56
          have q60 : a9.tmps[60]? = some (.int .u8 (U i : Int)) := hS 4 60 (by decide) rfl (by show 60 < 186; decide)
          have s60 := Rega.eval_of q60
          have q61 : a9.tmps[61]? = some (.agg #[.int .u32 src, .int .u32 inn]) := hS 5 61 (by decide) rfl (by show 61 < 186; decide)
          have s61 := Rega.eval_of q61
          have q62 : a9.tmps[62]? = some (.agg #[.int .u32 src, .int .u32 inx]) := hS 6 62 (by decide) rfl (by show 62 < 186; decide)
          have s62 := Rega.eval_of q62
          go_simp
          have hM : ∀ i, i ∈ [] → act rlaw32Rf2Cnt 5 L9 i := by intro i hi; simp at hi
          have hP : Own w0 u9 [] _ := hG.pick [] (by decide) (by simp)
          clear hM
          refine Calls.mono (leaf2 i (U i : Int) src inn inx _ _ _ hP (by omega) hrm) ?_
          rintro e9 u1 ⟨b0, b1, rfl, hQ⟩
          obtain ⟨α', hα'⟩ : ∃ α' : Rega.Atoms, α' = (fun j => if j = 7 then b0 else if j = 1007 then b1 else α j) := ⟨_, rfl⟩
          have f0 : R9 (Rega.ran L9 7) α' 1007 = row (α' 1007) 46 #[.iface 56 (.pointer (some ⟨α' 7, 0, none⟩)), .int .i32 (i : Int), .slice none 0 0, .int .i32 0, .int .u8 0, .int .u8 0, .bool false, .bool false] := rfl
          have f1 : R9 (Rega.ran L9 7) α' 7 = row (α' 7) 58 #[.int .u32 src, .int .u32 inx, .bool false, .bool false, .bool false] := rfl
          have hα : ∀ j, j % 1000 ≠ 7 → α' j = α j := fun j hj => by rw [hα']; simp only []; rw [if_neg (by omega), if_neg (by omega)]
          have hb0 : α' 7 = b0 := by rw [hα']; rfl
          have hb1 : α' 1007 = b1 := by rw [hα']; rfl
          skip
          refine hK _ α' _ hα ?_ (step_call (st9) hL hcl hα [] [1007, 7] (by decide) (by decide) (by decide) (M := _) ?_ hG hQ)
          · show _ = (.tuple #[.agg #[.iface 36 (.pointer (some ⟨α' 1007, 0, none⟩)), .int .i32 (i : Int)], .pointer (some ⟨α' 1007, 0, none⟩)] : Value)
            simp only [hb1]
          · show [R9 (Rega.ran L9 7) α' 1007, R9 (Rega.ran L9 7) α' 7] = _
            rw [f0, f1]
            simp only [hb0, hb1]
        · intro L9 α a9 u9 K9 hL hcl hA hG hS h0 hK
          replace hL : L9 8 = false := hL
          have q63 : a9.tmps[63]? = some (.tuple #[.agg #[.iface 36 (.pointer (some ⟨α 1007, 0, none⟩)), .int .i32 (i : Int)], .pointer (some ⟨α 1007, 0, none⟩)]) := hS 7 63 (by decide) rfl (by show 63 < 186; decide)
          have s63 := Rega.eval_of q63
          go_simp
          exact hK _ α _ (fun _ _ => rfl) rfl (step_same (st9) hL hcl rfl rfl hG)
        · intro L9 α a9 u9 K9 hL hcl hA hG hS h0 hK
          replace hL : L9 9 = false := hL
          have q55 : a9.tmps[55]? = some (.tuple #[.agg #[.iface 36 (.pointer (some ⟨α 1007, 0, none⟩)), .int .i32 (i : Int)], .pointer (some ⟨α 1007, 0, none⟩)]) := hS 8 55 (by decide) rfl (by show 55 < 186; decide)
          have s55 := Rega.eval_of q55
          go_simp
          exact hK _ α _ (fun _ _ => rfl) rfl (step_same (st9) hL hcl rfl rfl hG)
        · intro L9 α a9 u9 K9 hL hcl hA hG hS h0 hK
          replace hL : L9 10 = false := hL
          have q55 : a9.tmps[55]? = some (.tuple #[.agg #[.iface 36 (.pointer (some ⟨α 1007, 0, none⟩)), .int .i32 (i : Int)], .pointer (some ⟨α 1007, 0, none⟩)]) := hS 8 55 (by decide) rfl (by show 55 < 186; decide)
          have s55 := Rega.eval_of q55
          go_simp
          exact hK _ α _ (fun _ _ => rfl) rfl (step_same (st9) hL hcl rfl rfl hG)
        · intro L9 α a9 u9 K9 hL hcl hA hG hS h0 hK
          replace hL : L9 11 = false := hL
          go_simp
          have e1 : R9 (Rega.ran L9 11) (fun j => if j = 11 then u9.heap.size else α j) 11 = row (u9.heap.size) 35 #[.nilIface, .int .i32 0] := by
            show rlaw32Rf2T11 n U src inn nd2 B3_3 B3_2 B3_1 B3 inx i D gq (Rega.ran L9 11) (fun j => if j = 11 then u9.heap.size else α j) = _
            unfold rlaw32Rf2T11
            exact ((if_neg (fun e => (fun e => by have := hcl 12 e 11 (by decide); rw [hL] at this; cases this) ((ran_ne (by decide)).symm.trans e))).trans rfl)
          exact hK _ (fun j => if j = 11 then u9.heap.size else α j) _ (fun j hj => if_neg (fun e => hj (by rw [e]))) rfl (step_alloc (st9) hL hcl rfl rfl (by decide) _ e1 hG)
        · intro L9 α a9 u9 K9 hL hcl hA hG hS h0 hK
          replace hL : L9 12 = false := hL
          have q15 : a9.tmps[15]? = some (.pointer (some ⟨α 11, 0, none⟩)) := hS 11 15 (by decide) rfl (by show 15 < 186; decide)
          have s15 := Rega.eval_of q15
          have q64 : a9.tmps[64]? = some (.agg #[.iface 36 (.pointer (some ⟨α 1007, 0, none⟩)), .int .i32 (i : Int)]) := hS 9 64 (by decide) rfl (by show 64 < 186; decide)
          have s64 := Rega.eval_of q64
          have e0 : R9 L9 α 11 = row (α 11) 35 #[.nilIface, .int .i32 0] := by
            show rlaw32Rf2T11 n U src inn nd2 B3_3 B3_2 B3_1 B3 inx i D gq L9 α = _
            unfold rlaw32Rf2T11
            rw [if_neg (by rw [hL]; decide)]
          have hr := hG.rowAt 11 (act_new 11 rfl (hA 11 (by decide))) e0
          have c0 : u9.cell? ⟨α 11, 0, none⟩ = some (.nilIface) := hr.cell rfl
          have y0 : u9.frozen? ⟨α 11, 0, none⟩ = false := hr.free (0)
          have c1 : u9.cell? ⟨α 11, 1, none⟩ = some (.int .i32 0) := hr.cell rfl
          have y1 : u9.frozen? ⟨α 11, 1, none⟩ = false := hr.free (1)
          clear hr
          have E0 := Lib.hid e0
          clear e0
          go_simp
          have e1 : R9 (Rega.ran L9 12) α 11 = row (α 11) 35 #[.iface 36 (.pointer (some ⟨α 1007, 0, none⟩)), .int .i32 (i : Int)] := by
            show rlaw32Rf2T11 n U src inn nd2 B3_3 B3_2 B3_1 B3 inx i D gq (Rega.ran L9 12) α = _
            unfold rlaw32Rf2T11
            rw [if_pos (show Rega.ran L9 12 12 = true from rfl)]
          exact hK _ α _ (fun _ _ => rfl) rfl (step_sets (st9) hL hcl rfl 11 rfl (act_new 11 rfl (hA 11 (by decide))) E0.out (0) [.iface 36 (.pointer (some ⟨α 1007, 0, none⟩)), .int .i32 (i : Int)] (e1.trans rfl) hG)
        · intro L9 α a9 u9 K9 hL hcl hA hG hS h0 hK
          replace hL : L9 13 = false := hL
          have q65 : a9.tmps[65]? = some (.pointer (some ⟨α 1007, 0, none⟩)) := hS 10 65 (by decide) rfl (by show 65 < 186; decide)
          have s65 := Rega.eval_of q65
          go_simp
          exact hK _ α _ (fun _ _ => rfl) rfl (step_same (st9) hL hcl rfl rfl hG)
      clear st9
      intro α u hG
      have e0 : R9 (fun k => decide (k < 14)) α 999 = row (B3_2) 35 (lvR D i (gq + 1)) := rfl
      have e1 : R9 (fun k => decide (k < 14)) α 1999 = row (B3_3) 36 (clR D i (gq + 1)) := rfl
      have e2 : R9 (fun k => decide (k < 14)) α 2999 = row (nd2) 5 (itR U n) := rfl
      have e3 : R9 (fun k => decide (k < 14)) α 3999 = row (B3) 27 #[.int .u32 src, .int .u32 inn] := rfl
      have e4 : R9 (fun k => decide (k < 14)) α 4999 = row (B3_1) 27 #[.int .u32 src, .int .u32 inx] := rfl
      have e5 : R9 (fun k => decide (k < 14)) α 7 = row (α 7) 58 #[.int .u32 src, .int .u32 inx, .bool false, .bool false, .bool false] := rfl
      have e6 : R9 (fun k => decide (k < 14)) α 1007 = row (α 1007) 46 #[.iface 56 (.pointer (some ⟨α 7, 0, none⟩)), .int .i32 (i : Int), .slice none 0 0, .int .i32 0, .int .u8 0, .int .u8 0, .bool false, .bool false] := rfl
      have e7 : R9 (fun k => decide (k < 14)) α 11 = row (α 11) 35 #[.iface 36 (.pointer (some ⟨α 1007, 0, none⟩)), .int .i32 (i : Int)] := by
        show rlaw32Rf2T11 n U src inn nd2 B3_3 B3_2 B3_1 B3 inx i D gq (fun k => decide (k < 14)) α = _
        unfold rlaw32Rf2T11
        rw [if_pos (by decide)]
      have hO : Own w0 u [row (B3_2) 35 (lvR D i (gq + 1)), row (B3_3) 36 (clR D i (gq + 1)), row (nd2) 5 (itR U n), row (B3) 27 #[.int .u32 src, .int .u32 inn], row (B3_1) 27 #[.int .u32 src, .int .u32 inx], row (α 7) 58 #[.int .u32 src, .int .u32 inx, .bool false, .bool false, .bool false], row (α 1007) 46 #[.iface 56 (.pointer (some ⟨α 7, 0, none⟩)), .int .i32 (i : Int), .slice none 0 0, .int .i32 0, .int .u8 0, .int .u8 0, .bool false, .bool false], row (α 11) 35 #[.iface 36 (.pointer (some ⟨α 1007, 0, none⟩)), .int .i32 (i : Int)]] X9_16 := (hG.list [999, 1999, 2999, 3999, 4999, 7, 1007, 11] (by decide) (act_all (by decide))).conv (by
        show [R9 (fun k => decide (k < 14)) α 999, R9 (fun k => decide (k < 14)) α 1999, R9 (fun k => decide (k < 14)) α 2999, R9 (fun k => decide (k < 14)) α 3999, R9 (fun k => decide (k < 14)) α 4999, R9 (fun k => decide (k < 14)) α 7, R9 (fun k => decide (k < 14)) α 1007, R9 (fun k => decide (k < 14)) α 11] = _
        rw [e0, e1, e2, e3, e4, e5, e6, e7])
      clear hG e0 e1 e2 e3 e4 e5 e6 e7 R9
      generalize hfr : Rega.frameAt _ _ _ _ _ = fr
      have hdf : fr = ⟨#[.slice (some ⟨nd2, 0, none⟩) n n, .bool true, .int .u32 src, .int .u32 inn, undef, undef, undef, undef, .bool false, .int .i64 (n : Int), .pointer (some ⟨B3, 0, none⟩), .pointer (some ⟨B3_1, 0, none⟩), .slice (some ⟨B3_2, 0, none⟩) n n, .slice (some ⟨B3_3, 0, none⟩) n n, .int .i64 (i : Int), .pointer (some ⟨α 11, 0, none⟩), .pointer (some ⟨α 1007, 0, none⟩), undef, undef, undef, undef, undef, undef, undef, undef, undef, .slice (some sa) n cp, .bool true, .int .u32 src, .int .u32 inn, .bool true, .bool false, .slice (some sa) n cp, .int .i64 (n : Int), .bool (decide (4096 < (n : Int))), .slice (some sa) n cp, .slice (some ⟨nd2, 0, none⟩) n n, .slice (some ⟨nd2, 0, none⟩) n n, .int .i64 (n : Int), .int .u32 src, .int .u32 inn, .agg #[.int .u32 src, .int .u32 inn], .int .u32 src, .int .u32 inn, .int .u32 inx, .agg #[.int .u32 src, .int .u32 inx], .int .i64 (n : Int), .slice (some ⟨B3_2, 0, none⟩) n n, .int .i64 (n : Int), .slice (some ⟨B3_3, 0, none⟩) n n, .int .i64 (i : Int), .int .i64 (n : Int), .bool true, u53, u54, .tuple #[.agg #[.iface 36 (.pointer (some ⟨α 1007, 0, none⟩)), .int .i32 (i : Int)], .pointer (some ⟨α 1007, 0, none⟩)], .int .i64 (i : Int), .slice (some ⟨nd2, 0, none⟩) n n, .int .i64 (i : Int), .pointer (some ⟨nd2, i, none⟩), .int .u8 (U i : Int), .agg #[.int .u32 src, .int .u32 inn], .agg #[.int .u32 src, .int .u32 inx], .tuple #[.agg #[.iface 36 (.pointer (some ⟨α 1007, 0, none⟩)), .int .i32 (i : Int)], .pointer (some ⟨α 1007, 0, none⟩)], .agg #[.iface 36 (.pointer (some ⟨α 1007, 0, none⟩)), .int .i32 (i : Int)], .pointer (some ⟨α 1007, 0, none⟩), u66, u67, u68, u69, u70, u71, u72, u73, undef, undef, undef, undef, undef, undef, undef, undef, undef, undef, undef, undef, undef, undef, undef, undef, undef, undef, undef, undef, undef, undef, undef, undef, undef, undef, undef, undef, undef, undef, undef, undef, undef, undef, undef, undef, undef, undef, undef, undef, undef, undef, undef, undef, undef, undef, undef, undef, undef, undef, undef, undef, undef, undef, undef, undef, undef, undef, undef, undef, undef, undef, undef, undef, undef, undef, undef, undef, undef, undef, undef, undef, undef, undef, undef, undef, undef, undef, undef, undef, undef, undef, undef, undef, undef, undef, undef, undef, undef, undef, undef, undef, undef, undef, undef, undef, undef, undef, undef, undef, undef, undef, undef, undef, undef, undef, undef, undef, undef, undef, undef, undef], []⟩ := by rw [← hfr]; kernel_rfl
      clear hfr
      subst hdf
      generalize α 7 = nd17 at hO ⊢
      generalize α 11 = nd18 at hO ⊢
      generalize α 1007 = nd19 at hO ⊢
      clear α
      obtain ⟨ix9, hix9, hax9, hjx9⟩ := hO.ix
      have ix9_0 : ix9 B3_2 = 0 := hjx9 0 _ _ rfl
      have ix9_1 : ix9 B3_3 = 1 := hjx9 1 _ _ rfl
      have ix9_2 : ix9 nd2 = 2 := hjx9 2 _ _ rfl
      have ix9_3 : ix9 B3 = 3 := hjx9 3 _ _ rfl
      have ix9_4 : ix9 B3_1 = 4 := hjx9 4 _ _ rfl
      have ix9_5 : ix9 nd17 = 5 := hjx9 5 _ _ rfl
      have ix9_6 : ix9 nd19 = 6 := hjx9 6 _ _ rfl
      have ix9_7 : ix9 nd18 = 7 := hjx9 7 _ _ rfl
      clear hjx9
      have pl9_0 : Base.plainAt u (B3_2) = true := hO.plain 0 rfl
      have c9_0_i_2 : u.cell? ⟨B3_2, i * 2, none⟩ = some (.nilIface) := hO.cell 0 rfl (i * 2) ((lvR_at0 D i gq))
      have c9_0_i_2_1 : u.cell? ⟨B3_2, i * 2 + 1, none⟩ = some (.int .i32 0) := hO.cell 0 rfl (i * 2 + 1) ((lvR_at1 D i gq))
      have lt9_0 : B3_2 < u.heap.size := hO.lt 0 rfl
      have y9_0 : ∀ o, u.frozen? ⟨B3_2, o, none⟩ = false := hO.free 0 rfl
      have c9_1_i : u.cell? ⟨B3_3, i, none⟩ = some (.pointer none) := hO.cell 1 rfl (i) ((clR_at D i gq))
      have lt9_1 : B3_3 < u.heap.size := hO.lt 1 rfl
      have y9_1 : ∀ o, u.frozen? ⟨B3_3, o, none⟩ = false := hO.free 1 rfl
      have c9_2_i : u.cell? ⟨nd2, i, none⟩ = some (.int .u8 (U i : Int)) := hO.cell 2 rfl (i) ((itR_get hlt))
      have lt9_2 : nd2 < u.heap.size := hO.lt 2 rfl
      have y9_2 : ∀ o, u.frozen? ⟨nd2, o, none⟩ = false := hO.free 2 rfl
      obtain ⟨c9_3_0, c9_3_1, lt9_3, y9_3, pl9_3⟩ := hO.k2 3 rfl
      obtain ⟨c9_4_0, c9_4_1, lt9_4, y9_4, pl9_4⟩ := hO.k2 4 rfl
      obtain ⟨c9_5_0, c9_5_1, c9_5_2, c9_5_3, c9_5_4, lt9_5, y9_5, -⟩ := hO.k5 5 rfl
      obtain ⟨c9_6_0, c9_6_1, c9_6_2, c9_6_3, c9_6_4, c9_6_5, c9_6_6, c9_6_7, lt9_6, y9_6, -⟩ := hO.k8 6 rfl
      obtain ⟨c9_7_0, c9_7_1, lt9_7, y9_7, pl9_7⟩ := hO.k2 7 rfl
      have HO := Lib.hid hO
      clear hO
      go_wp2_with (first | (with_reducible refine Own.stay (fn := Try.f3) ?_) | (first | (go_at_call 5; go_in)))
      try with_reducible refine Own.Stay.mk ?_
      have hO := HO.out
      clear HO hix9 hax9 ix9_0 ix9_1 ix9_2 ix9_3 ix9_4 ix9_5 ix9_6 ix9_7 ix9 pl9_0 c9_0_i_2 c9_0_i_2_1 lt9_0 y9_0 c9_1_i lt9_1 y9_1 c9_2_i lt9_2 y9_2 c9_3_0 c9_3_1 lt9_3 y9_3 pl9_3 c9_4_0 c9_4_1 lt9_4 y9_4 pl9_4 c9_5_0 c9_5_1 c9_5_2 c9_5_3 c9_5_4 lt9_5 y9_5 c9_6_0 c9_6_1 c9_6_2 c9_6_3 c9_6_4 c9_6_5 c9_6_6 c9_6_7 lt9_6 y9_6 c9_7_0 c9_7_1 lt9_7 y9_7 pl9_7
      generalize hW : World.setCell _ _ _ = W21
      have hN : Own w0 W21 [row (B3_2) 35 (((lvR D i (gq + 1)).setIfInBounds (i * 2) (.iface 36 (.pointer (some ⟨nd19, 0, none⟩)))).setIfInBounds (i * 2 + 1) (.int .i32 (i : Int))), row (B3_3) 36 ((clR D i (gq + 1)).setIfInBounds i (.pointer (some ⟨nd19, 0, none⟩))), row (nd2) 5 (itR U n), row (B3) 27 #[.int .u32 src, .int .u32 inn], row (B3_1) 27 #[.int .u32 src, .int .u32 inx], row (nd17) 58 #[.int .u32 src, .int .u32 inx, .bool false, .bool false, .bool false], row (nd19) 46 #[.iface 56 (.pointer (some ⟨nd17, 0, none⟩)), .int .i32 (i : Int), .slice none 0 0, .int .i32 0, .int .u8 0, .int .u8 0, .bool false, .bool false], row (nd18) 35 #[.iface 36 (.pointer (some ⟨nd19, 0, none⟩)), .int .i32 (i : Int)]] X9_16 := by
        rw [← hW]
        exact (((hO).set 0 rfl (i * 2) _).set 0 rfl (i * 2 + 1) _).set 1 rfl i _
      clear hW hO
      have hO := hN
      clear hN
      rw [HX9_16.out] at hO
      obtain ⟨hDk, hDs, hDi, hDx⟩ := HD.out
      have hN : Own w0 W21 [row (nd19) 46 #[.iface 56 (.pointer (some ⟨nd17, 0, none⟩)), .int .i32 (i : Int), .slice none 0 0, .int .i32 0, .int .u8 0, .int .u8 0, .bool false, .bool false], row (nd17) 58 #[.int .u32 src, .int .u32 inx, .bool false, .bool false, .bool false], row (B3_2) 35 (((lvR D i (gq + 1)).setIfInBounds (i * 2) (.iface 36 (.pointer (some ⟨nd19, 0, none⟩)))).setIfInBounds (i * 2 + 1) (.int .i32 (i : Int))), row (B3_3) 36 ((clR D i (gq + 1)).setIfInBounds i (.pointer (some ⟨nd19, 0, none⟩))), row (nd2) 5 (itR U n), row (B3) 27 #[.int .u32 src, .int .u32 inn], row (B3_1) 27 #[.int .u32 src, .int .u32 inx]] (LvX X D i) := hO.sub [6, 5, 0, 1, 2, 3, 4] (by decide)
      clear hO
      have hO := hN
      clear hN
      have hne : ∀ j, j < i → ¬ D.kd j = 0 → D.ad j ≠ nd19 := fun j hj h9 e => (hO.frame (D.ad j) _ (Or.inr ⟨j, hj, h9, Or.inl ⟨rfl, rfl⟩⟩)).2.2 _ List.mem_cons_self e.symm
      have hA := HAP.out.next nd17 hne
      have h1q := Own.give (b := nd19) (o := .cells (callC (.iface 56 (.pointer (some ⟨nd17, 0, none⟩))) (i : Int)) 46 (0, 0)) (Y := fun b o => LvX X D i b o ∨ (b = nd19 ∧ o = .cells (callC (.iface 56 (.pointer (some ⟨nd17, 0, none⟩))) (i : Int)) 46 (0, 0))) (hO.conv rfl) (fun b o h => h)
      have hN := Own.give (b := nd17) (o := .cells (idC D.src (D.inr i)) 58 (0, 0)) (Y := LvX X (updD D i nd19 nd17) (i + 1)) (h1q.conv (by rw [hDs, show D.inr i = inx from (if_neg (by rw [hkd]; decide)).trans hDx]; rfl)) (by
        intro b o h
        rcases LvX.next nd19 nd17 b o h with (h | h) | h
        · exact Or.inl (Or.inl h)
        · exact Or.inr h
        · exact Or.inl (Or.inr h))
      go_roundg gq
      case measure => omega
      case rel => exact ⟨i + 1, updD D i nd19 nd17, by omega, by first | rfl | simp, hDk, hDs, hDi, hDx, hA, hN.conv (by rw [lvR_next D i gq nd19 nd17 _ (by show _ = lfD _ _; unfold lfD; rw [if_neg (by rw [show (updD D i nd19 nd17).kd i = 2 from hkd]; decide), updD_ad]), clR_next D i gq nd19 nd17 _ (by unfold clD; rw [if_neg (by rw [show (updD D i nd19 nd17).kd i = 2 from hkd]; decide), updD_ad])])⟩
  obtain rfl : gk = 0 := by omega
  obtain rfl : n = i := by omega
  subst hDs hDi hDx
  clear hlt
  obtain ⟨n1, hn1⟩ : ∃ k, n = k + 1 := ⟨n - 1, by omega⟩
  have hn1l : n1 < n := by omega
  have hni : (n : Int) - 1 = (n1 : Int) := by omega
  have hni2 : (n : Int) - 2 = (n1 : Int) - 1 := by omega
  have hn18 : (0 : Int) ≤ (n1 : Int) := by omega
  have hn19 : (n1 : Int) < (n : Int) := by omega
  have HN1 := Lib.hid hn1
  clear hn1
  have HDK := Lib.hid hDk
  clear hDk
  have hlt9 : ¬ (n : Int) < (n : Int) := by omega
  obtain ⟨X8, hX8⟩ : ∃ Y, Y = LvX X D n := ⟨_, rfl⟩
  rw [← hX8] at hO
  have HX8 := Lib.hid hX8
  clear hX8
  obtain ⟨ix9, hix9, hax9, hjx9⟩ := hO.ix
  have ix9_0 : ix9 B3_2 = 0 := hjx9 0 _ _ rfl
  have ix9_1 : ix9 B3_3 = 1 := hjx9 1 _ _ rfl
  have ix9_2 : ix9 nd2 = 2 := hjx9 2 _ _ rfl
  have ix9_3 : ix9 B3 = 3 := hjx9 3 _ _ rfl
  have ix9_4 : ix9 B3_1 = 4 := hjx9 4 _ _ rfl
  clear hjx9
  have c9_0_n1_2 : wr.cell? ⟨B3_2, n1 * 2, none⟩ = some (dV D (.leaf n1)) := hO.cell 0 rfl (n1 * 2) ((lvR_get0 0 hn1l))
  have c9_0_n1_2_1 : wr.cell? ⟨B3_2, n1 * 2 + 1, none⟩ = some (.int .i32 (lV (.leaf n1))) := hO.cell 0 rfl (n1 * 2 + 1) ((lvR_get1 0 hn1l))
  have lt9_0 : B3_2 < wr.heap.size := hO.lt 0 rfl
  have y9_0 : ∀ o, wr.frozen? ⟨B3_2, o, none⟩ = false := hO.free 0 rfl
  obtain ⟨c9_3_0, c9_3_1, lt9_3, y9_3, pl9_3⟩ := hO.k2 3 rfl
  obtain ⟨c9_4_0, c9_4_1, lt9_4, y9_4, pl9_4⟩ := hO.k2 4 rfl
  have HO := Lib.hid hO
  clear hO
  go_wp2_with (first | (with_reducible refine Own.stay (fn := Try.f3) ?_) | (first | (go_at_call 5; go_in)))
  try with_reducible refine Own.Stay.mk ?_
  have hO := HO.out
  clear HO hix9 hax9 ix9_0 ix9_1 ix9_2 ix9_3 ix9_4 ix9 c9_0_n1_2 c9_0_n1_2_1 lt9_0 y9_0 c9_3_0 c9_3_1 lt9_3 y9_3 pl9_3 c9_4_0 c9_4_1 lt9_4 y9_4 pl9_4
  generalize hW : World.alloc _ _ = W123
  have hN : Own w0 W123 [row (wr.heap.size) 35 #[dV D (Tr.leaf n1), .int .i32 (lV (Tr.leaf n1))], row (B3_2) 35 (lvR D n 0), row (B3_3) 36 (clR D n 0), row (nd2) 5 (itR U n), row (B3) 27 #[.int .u32 D.src, .int .u32 D.inn], row (B3_1) 27 #[.int .u32 D.src, .int .u32 D.inx]] X8 := by
    rw [← hW]
    exact (hO).alloc' _ (wr.heap.size) (by simp)
  clear hW hO
  generalize wr.heap.size = B122 at hN ⊢
  have hO := hN
  clear hN
  have hN : Own w0 W123 [row (B122) 35 #[dV D (Tr.leaf n1), .int .i32 (lV (Tr.leaf n1))], row (B3_2) 35 (lvR D n 0), row (B3_3) 36 (clR D n 0), row (nd2) 5 (itR U n), row (B3) 27 #[.int .u32 D.src, .int .u32 D.inn], row (B3_1) 27 #[.int .u32 D.src, .int .u32 D.inx]] X8 := hO.sub [0, 1, 2, 3, 4, 5] (by decide)
  clear hO
  have hO := hN
  clear hN
  go_loopg [18] n1 (fun gf s18 wx => ∃ (j : Nat) (T : Tr) (Y : Nat → Obj → Prop) (x : Int), j = gf ∧ j ≤ n1 ∧ x = (j : Int) - 1 ∧ s18 = .int .i64 x ∧ T.flat = List.range' j (n - j) ∧ (∀ b o, X8 b o → Y b o) ∧ NodesIn Y D T ∧ Own w0 wx [row (B122) 35 #[dV D T, .int .i32 (lV T)], row (B3_2) 35 (lvR D n 0), row (B3_3) 36 (clR D n 0), row (nd2) 5 (itR U n), row (B3) 27 #[.int .u32 D.src, .int .u32 D.inn], row (B3_1) 27 #[.int .u32 D.src, .int .u32 D.inx]] Y)
  case atStart => exact ⟨n1, .leaf n1, X8, _, rfl, Nat.le_refl _, rfl, rfl, (by have hn1 := HN1.out; rw [show n - n1 = 1 by omega]; rfl), fun b o h => h, (fun b l r h => by cases h), hO⟩
  obtain ⟨j, T, Y, x, hjg, hjn, hx, rfl, hT, hYL, hN, hO⟩ := hrel
  by_cases hlt : 0 < j
  · skip
    obtain ⟨j2, rfl⟩ : ∃ k, j = k + 1 := ⟨j - 1, by omega⟩
    obtain rfl : x = (j2 : Int) := by omega
    clear hx
    obtain rfl : gk = j2 + 1 := by omega
    have hn1 := HN1.out
    have hj8 : (0 : Int) ≤ (j2 : Int) := by omega
    have hj7 : j2 < n := by omega
    have hj9 : (j2 : Int) < (n : Int) := by omega
    clear hn1
    obtain ⟨c9_0_0, c9_0_1, lt9_0, y9_0, -⟩ := hO.k2 0 rfl
    obtain ⟨c9_4_0, c9_4_1, lt9_4, y9_4, -⟩ := hO.k2 4 rfl
    obtain ⟨c9_5_0, c9_5_1, lt9_5, y9_5, -⟩ := hO.k2 5 rfl
    have HO := Lib.hid hO
    clear hO
    go_wp2_with (first | (with_reducible refine Own.stay (fn := Try.f3) ?_) | (first | (go_at_call 5; go_in)))
    try with_reducible refine Own.Stay.mk ?_
    have hO := HO.out
    clear HO c9_0_0 c9_0_1 lt9_0 y9_0 c9_4_0 c9_4_1 lt9_4 y9_4 c9_5_0 c9_5_1 lt9_5 y9_5
    have st9 := rlaw32Rt_st n U nd2 B3_3 B3_2 B3_1 B3 D B122 T j2
    let R9 := rlaw32RtR n U nd2 B3_3 B3_2 B3_1 B3 D B122 T j2
    refine wp_region_own (e := rlaw32RtE n U nd2 B3_3 B3_2 B3_1 B3 D B122 T j2) (anc := rlaw32RtAnc) (G := (fun L9 α u9 => OwnF w0 u9 (act rlaw32RtCnt 6 L9) (rlaw32RtR n U nd2 B3_3 B3_2 B3_1 B3 D B122 T j2 L9 α) Y)) (by kernel_rfl) (by kernel_rfl) (by kernel_rfl) (by kernel_rfl) (rlaw32Rt_he n U nd2 B3_3 B3_2 B3_1 B3 D B122 T j2) ?_ (RunsAll.all ?_) ?_
    · have hp : ∀ i, act rlaw32RtCnt 6 (fun _ => false) i → i ∈ [999, 1999, 2999, 3999, 4999, 5999] := by
        intro i hi
        have h9 : i % 1000 = 999 := by
          by_cases h : i % 1000 = 999
          · exact h
          · exact absurd (act_lt hi h) (by simp)
        unfold act at hi
        rw [if_pos h9] at hi
        simp only [List.mem_cons, List.not_mem_nil, or_false]
        omega
      refine hO.drew.family (fun i hi => ?_) (fun i j hi hj hij => ?_)
      · have := hp i hi
        simp only [List.mem_cons, List.not_mem_nil, or_false] at this
        rcases this with rfl | rfl | rfl | rfl | rfl | rfl <;> rfl
      · have h1 := hp i hi
        have h2 := hp j hj
        simp only [List.mem_cons, List.not_mem_nil, or_false] at h1 h2
        omega
    · refine ⟨?_, ?_, ?_, ?_, ?_, ?_, ?_, trivial⟩
      · intro L9 α a9 u9 K9 hL hcl hA hG hS h0 hK
        replace hL : L9 0 = false := hL
        have q12 : a9.tmps[12]? = some (.slice (some ⟨B3_2, 0, none⟩) n n) := (h0 12 (by kernel_rfl)).trans rfl
        have s12 := Rega.eval_of q12
        go_simp
        exact hK _ α _ (fun _ _ => rfl) rfl (step_same (st9) hL hcl rfl rfl hG)
      · intro L9 α a9 u9 K9 hL hcl hA hG hS h0 hK
        replace hL : L9 1 = false := hL
        have q18 : a9.tmps[18]? = some (.int .i64 (j2 : Int)) := (h0 18 (by kernel_rfl)).trans rfl
        have s18 := Rega.eval_of q18
        go_simp
        exact hK _ α _ (fun _ _ => rfl) rfl (step_same (st9) hL hcl rfl rfl hG)
      · intro L9 α a9 u9 K9 hL hcl hA hG hS h0 hK
        replace hL : L9 2 = false := hL
        have q88 : a9.tmps[88]? = some (.slice (some ⟨B3_2, 0, none⟩) n n) := hS 0 88 (by decide) rfl (by show 88 < 186; decide)
        have s88 := Rega.eval_of q88
        have q89 : a9.tmps[89]? = some (.int .i64 (j2 : Int)) := hS 1 89 (by decide) rfl (by show 89 < 186; decide)
        have s89 := Rega.eval_of q89
        go_simp
        exact hK _ α _ (fun _ _ => rfl) rfl (step_same (st9) hL hcl rfl rfl hG)
      · intro L9 α a9 u9 K9 hL hcl hA hG hS h0 hK
        replace hL : L9 3 = false := hL
        have q90 : a9.tmps[90]? = some (.pointer (some ⟨B3_2, j2 * 2, none⟩)) := hS 2 90 (by decide) rfl (by show 90 < 186; decide)
        have s90 := Rega.eval_of q90
        have e0 : R9 L9 α 1999 = row (B3_2) 35 (lvR D n 0) := rfl
        have hr := hG.rowAt 1999 (act_base 1999 rfl) e0
        have c0 : u9.cell? ⟨B3_2, j2 * 2, none⟩ = some (dV D (.leaf j2)) := hr.cell ((lvR_get0 0 hj7))
        have c1 : u9.cell? ⟨B3_2, j2 * 2 + 1, none⟩ = some (.int .i32 (lV (.leaf j2))) := hr.cell ((lvR_get1 0 hj7))
        clear hr e0
        go_simp
        exact hK _ α _ (fun _ _ => rfl) rfl (step_same (st9) hL hcl rfl rfl hG)
      · intro L9 α a9 u9 K9 hL hcl hA hG hS h0 hK
        replace hL : L9 4 = false := hL
        have q17 : a9.tmps[17]? = some (.pointer (some ⟨B122, 0, none⟩)) := (h0 17 (by kernel_rfl)).trans rfl
        have s17 := Rega.eval_of q17
        have e0 : R9 L9 α 999 = row (B122) 35 #[dV D T, .int .i32 (lV T)] := by
          show rlaw32RtT999 n U nd2 B3_3 B3_2 B3_1 B3 D B122 T j2 L9 α = _
          unfold rlaw32RtT999
          rw [if_neg (fun e => by have := hcl 6 e 4 (by decide); rw [hL] at this; cases this)]
        have hr := hG.rowAt 999 (act_base 999 rfl) e0
        have c0 : u9.cell? ⟨B122, 0, none⟩ = some (dV D T) := hr.cell rfl
        have c1 : u9.cell? ⟨B122, 1, none⟩ = some (.int .i32 (lV T)) := hr.cell rfl
        clear hr e0
        go_simp
        exact hK _ α _ (fun _ _ => rfl) rfl (step_same (st9) hL hcl rfl rfl hG)
      · intro L9 α a9 u9 K9 hL hcl hA hG hS h0 hK
        replace hL : L9 5 = false := hL
        have q91 : a9.tmps[91]? = some (.agg #[dV D (.leaf j2), .int .i32 (lV (.leaf j2))]) := hS 3 91 (by decide) rfl (by show 91 < 186; decide)
        have s91 := Rega.eval_of q91
        have q92 : a9.tmps[92]? = some (.agg #[dV D T, .int .i32 (lV T)]) := hS 4 92 (by decide) rfl (by show 92 < 186; decide)
        have s92 := Rega.eval_of q92
        go_simp
        have hM : ∀ i, i ∈ [] → act rlaw32RtCnt 6 L9 i := by intro i hi; simp at hi
        have hP : Own w0 u9 [] _ := hG.pick [] (by decide) (by simp)
        clear hM
        refine Calls.mono (commaT2 D (.leaf j2) T _ _ _ hP ) ?_
        rintro e9 u1 ⟨b0, rfl, hQ⟩
        obtain ⟨α', hα'⟩ : ∃ α' : Rega.Atoms, α' = (fun j => if j = 5 then b0 else α j) := ⟨_, rfl⟩
        have f0 : R9 (Rega.ran L9 5) α' 5 = row (α' 5) 66 (binC D (.leaf j2) T) := rfl
        have hα : ∀ j, j % 1000 ≠ 5 → α' j = α j := fun j hj => by rw [hα']; simp only []; rw [if_neg (by omega)]
        have hb0 : α' 5 = b0 := by rw [hα']; rfl
        skip
        refine hK _ α' _ hα ?_ (step_call (st9) hL hcl hα [] [5] (by decide) (by decide) (by decide) (M := _) ?_ hG hQ)
        · show _ = (.agg #[.iface 63 (.pointer (some ⟨α' 5, 0, none⟩)), .int .i32 (lV (.leaf j2))] : Value)
          simp only [hb0]
        · show [R9 (Rega.ran L9 5) α' 5] = _
          rw [f0]
          simp only [hb0]
      · intro L9 α a9 u9 K9 hL hcl hA hG hS h0 hK
        replace hL : L9 6 = false := hL
        have q17 : a9.tmps[17]? = some (.pointer (some ⟨B122, 0, none⟩)) := (h0 17 (by kernel_rfl)).trans rfl
        have s17 := Rega.eval_of q17
        have q93 : a9.tmps[93]? = some (.agg #[.iface 63 (.pointer (some ⟨α 5, 0, none⟩)), .int .i32 (lV (.leaf j2))]) := hS 5 93 (by decide) rfl (by show 93 < 186; decide)
        have s93 := Rega.eval_of q93
        have e0 : R9 L9 α 999 = row (B122) 35 #[dV D T, .int .i32 (lV T)] := by
          show rlaw32RtT999 n U nd2 B3_3 B3_2 B3_1 B3 D B122 T j2 L9 α = _
          unfold rlaw32RtT999
          rw [if_neg (by rw [hL]; decide)]
        have hr := hG.rowAt 999 (act_base 999 rfl) e0
        have c0 : u9.cell? ⟨B122, 0, none⟩ = some (dV D T) := hr.cell rfl
        have y0 : u9.frozen? ⟨B122, 0, none⟩ = false := hr.free (0)
        have c1 : u9.cell? ⟨B122, 1, none⟩ = some (.int .i32 (lV T)) := hr.cell rfl
        have y1 : u9.frozen? ⟨B122, 1, none⟩ = false := hr.free (1)
        clear hr
        have E0 := Lib.hid e0
        clear e0
        go_simp
        have e1 : R9 (Rega.ran L9 6) α 999 = row (B122) 35 #[.iface 63 (.pointer (some ⟨α 5, 0, none⟩)), .int .i32 (lV (.leaf j2))] := by
          show rlaw32RtT999 n U nd2 B3_3 B3_2 B3_1 B3 D B122 T j2 (Rega.ran L9 6) α = _
          unfold rlaw32RtT999
          rw [if_pos (show Rega.ran L9 6 6 = true from rfl)]
        exact hK _ α _ (fun _ _ => rfl) rfl (step_sets (st9) hL hcl rfl 999 rfl (act_base 999 rfl) E0.out (0) [.iface 63 (.pointer (some ⟨α 5, 0, none⟩)), .int .i32 (lV (.leaf j2))] (e1.trans rfl) hG)
    clear st9
    intro α u hG
    have e0 : R9 (fun k => decide (k < 7)) α 999 = row (B122) 35 #[.iface 63 (.pointer (some ⟨α 5, 0, none⟩)), .int .i32 (lV (.leaf j2))] := by
      show rlaw32RtT999 n U nd2 B3_3 B3_2 B3_1 B3 D B122 T j2 (fun k => decide (k < 7)) α = _
      unfold rlaw32RtT999
      rw [if_pos (by decide)]
    have e1 : R9 (fun k => decide (k < 7)) α 1999 = row (B3_2) 35 (lvR D n 0) := rfl
    have e2 : R9 (fun k => decide (k < 7)) α 2999 = row (B3_3) 36 (clR D n 0) := rfl
    have e3 : R9 (fun k => decide (k < 7)) α 3999 = row (nd2) 5 (itR U n) := rfl
    have e4 : R9 (fun k => decide (k < 7)) α 4999 = row (B3) 27 #[.int .u32 D.src, .int .u32 D.inn] := rfl
    have e5 : R9 (fun k => decide (k < 7)) α 5999 = row (B3_1) 27 #[.int .u32 D.src, .int .u32 D.inx] := rfl
    have e6 : R9 (fun k => decide (k < 7)) α 5 = row (α 5) 66 (binC D (.leaf j2) T) := rfl
    have hO : Own w0 u [row (B122) 35 #[.iface 63 (.pointer (some ⟨α 5, 0, none⟩)), .int .i32 (lV (.leaf j2))], row (B3_2) 35 (lvR D n 0), row (B3_3) 36 (clR D n 0), row (nd2) 5 (itR U n), row (B3) 27 #[.int .u32 D.src, .int .u32 D.inn], row (B3_1) 27 #[.int .u32 D.src, .int .u32 D.inx], row (α 5) 66 (binC D (.leaf j2) T)] Y := (hG.list [999, 1999, 2999, 3999, 4999, 5999, 5] (by decide) (act_all (by decide))).conv (by
      show [R9 (fun k => decide (k < 7)) α 999, R9 (fun k => decide (k < 7)) α 1999, R9 (fun k => decide (k < 7)) α 2999, R9 (fun k => decide (k < 7)) α 3999, R9 (fun k => decide (k < 7)) α 4999, R9 (fun k => decide (k < 7)) α 5999, R9 (fun k => decide (k < 7)) α 5] = _
      rw [e0, e1, e2, e3, e4, e5, e6])
    clear hG e0 e1 e2 e3 e4 e5 e6 R9
    generalize hfr : Rega.frameAt _ _ _ _ _ = fr
    have hdf : fr = ⟨#[.slice (some ⟨nd2, 0, none⟩) n n, .bool true, .int .u32 D.src, .int .u32 D.inn, undef, undef, undef, undef, .bool false, .int .i64 (n : Int), .pointer (some ⟨B3, 0, none⟩), .pointer (some ⟨B3_1, 0, none⟩), .slice (some ⟨B3_2, 0, none⟩) n n, .slice (some ⟨B3_3, 0, none⟩) n n, .int .i64 (n : Int), u15, u16, .pointer (some ⟨B122, 0, none⟩), .int .i64 (j2 : Int), undef, undef, undef, undef, undef, undef, undef, .slice (some sa) n cp, .bool true, .int .u32 D.src, .int .u32 D.inn, .bool true, .bool false, .slice (some sa) n cp, .int .i64 (n : Int), .bool (decide (4096 < (n : Int))), .slice (some sa) n cp, .slice (some ⟨nd2, 0, none⟩) n n, .slice (some ⟨nd2, 0, none⟩) n n, .int .i64 (n : Int), .int .u32 D.src, .int .u32 D.inn, .agg #[.int .u32 D.src, .int .u32 D.inn], .int .u32 D.src, .int .u32 D.inn, .int .u32 D.inx, .agg #[.int .u32 D.src, .int .u32 D.inx], .int .i64 (n : Int), .slice (some ⟨B3_2, 0, none⟩) n n, .int .i64 (n : Int), .slice (some ⟨B3_3, 0, none⟩) n n, .int .i64 (n : Int), .int .i64 (n : Int), .bool false, u53, u54, u55, u56, u57, u58, u59, u60, u61, u62, u63, u64, u65, u66, u67, u68, u69, u70, u71, u72, u73, .int .i64 (n : Int), .bool true, .bool true, .slice (some ⟨B3_2, 0, none⟩) n n, .int .i64 (n : Int), .int .i64 (n1 : Int), .pointer (some ⟨B3_2, n1 * 2, none⟩), .agg #[dV D (Tr.leaf n1), .int .i32 (lV (Tr.leaf n1))], .int .i64 (n : Int), .int .i64 ((n1 : Int) - 1), .int .i64 (j2 : Int), .bool true, u86, u87, .slice (some ⟨B3_2, 0, none⟩) n n, .int .i64 (j2 : Int), .pointer (some ⟨B3_2, j2 * 2, none⟩), .agg #[dV D (.leaf j2), .int .i32 (lV (.leaf j2))], .agg #[dV D T, .int .i32 (lV T)], .agg #[.iface 63 (.pointer (some ⟨α 5, 0, none⟩)), .int .i32 (lV (.leaf j2))], undef, undef, undef, undef, undef, undef, undef, undef, undef, undef, undef, undef, undef, undef, undef, undef, undef, undef, undef, undef, undef, undef, undef, undef, undef, undef, undef, undef, undef, undef, undef, undef, undef, undef, undef, undef, undef, undef, undef, undef, undef, undef, undef, undef, undef, undef, undef, undef, undef, undef, undef, undef, undef, undef, undef, undef, undef, undef, undef, undef, undef, undef, undef, undef, undef, undef, undef, undef, undef, undef, undef, undef, undef, undef, undef, undef, undef, undef, undef, undef, undef, undef, undef, undef, undef, undef, undef, undef, undef, undef, undef, undef], []⟩ := by rw [← hfr]; kernel_rfl
    clear hfr
    subst hdf
    generalize α 5 = nd124 at hO ⊢
    clear α
    obtain ⟨c9_0_0, c9_0_1, lt9_0, y9_0, -⟩ := hO.k2 0 rfl
    obtain ⟨c9_4_0, c9_4_1, lt9_4, y9_4, -⟩ := hO.k2 4 rfl
    obtain ⟨c9_5_0, c9_5_1, lt9_5, y9_5, -⟩ := hO.k2 5 rfl
    have HO := Lib.hid hO
    clear hO
    go_wp2_with (first | (with_reducible refine Own.stay (fn := Try.f3) ?_) | (first | (go_at_call 5; go_in)))
    try with_reducible refine Own.Stay.mk ?_
    have hO := HO.out
    clear HO c9_0_0 c9_0_1 lt9_0 y9_0 c9_4_0 c9_4_1 lt9_4 y9_4 c9_5_0 c9_5_1 lt9_5 y9_5
    have hN : Own w0 u [row (nd124) 66 (binC D (.leaf j2) T), row (B122) 35 #[.iface 63 (.pointer (some ⟨nd124, 0, none⟩)), .int .i32 (lV (.leaf j2))], row (B3_2) 35 (lvR D n 0), row (B3_3) 36 (clR D n 0), row (nd2) 5 (itR U n), row (B3) 27 #[.int .u32 D.src, .int .u32 D.inn], row (B3_1) 27 #[.int .u32 D.src, .int .u32 D.inx]] Y := hO.sub [6, 0, 1, 2, 3, 4, 5] (by decide)
    clear hO
    have hO := hN
    clear hN
    go_roundg j2
    case measure => omega
    case rel => exact ⟨j2, .node nd124 (.leaf j2) T, (fun b o => Y b o ∨ (b = nd124 ∧ o = .cells (binC D (.leaf j2) T) 66 (0, 0))), (j2 : Int) - 1, rfl, by omega, rfl, by first | rfl | simp, by show [j2] ++ T.flat = _; rw [hT, show n - j2 = (n - (j2 + 1)) + 1 by omega, List.range'_succ]; rfl, fun b o h => Or.inl (hYL b o h), (fun b l r h => by
      cases h with
      | here => exact Or.inr ⟨rfl, rfl⟩
      | left h => cases h
      | right h => exact Or.inl (hN _ _ _ h)), (Own.give (b := nd124) (o := .cells (binC D (.leaf j2) T) 66 (0, 0)) hO (fun b o h => h))⟩
  obtain rfl : j = 0 := by omega
  obtain rfl : x = -1 := by omega
  clear hx
  obtain ⟨c9_0_0, c9_0_1, lt9_0, y9_0, -⟩ := hO.k2 0 rfl
  obtain ⟨c9_4_0, c9_4_1, lt9_4, y9_4, -⟩ := hO.k2 4 rfl
  obtain ⟨c9_5_0, c9_5_1, lt9_5, y9_5, -⟩ := hO.k2 5 rfl
  have HO := Lib.hid hO
  clear hO
  go_wp2_with (first | (with_reducible refine Own.stay (fn := Try.f3) ?_) | (first | (go_at_call 5; go_in)))
  try with_reducible refine Own.Stay.mk ?_
  have hO := HO.out
  clear HO c9_0_0 c9_0_1 lt9_0 y9_0 c9_4_0 c9_4_1 lt9_4 y9_4 c9_5_0 c9_5_1 lt9_5 y9_5
  have hN : Own w0 wr [row (B122) 35 #[dV D T, .int .i32 (lV T)], row (nd2) 5 (itR U n), row (B3_3) 36 (clR D n 0), row (B3) 27 #[.int .u32 D.src, .int .u32 D.inn], row (B3_1) 27 #[.int .u32 D.src, .int .u32 D.inx]] Y := hO.sub [0, 3, 2, 4, 5] (by decide)
  clear hO
  have hO := hN
  clear hN
  have hkd9 : ∀ i : Nat, i < n → (U i : Int).tmod 3 = (D.kd i : Int) := by
    intro i hi
    have h9 : (U i : Int).tmod 3 = ((U i % 3 : Nat) : Int) := rfl
    rw [h9, HDK.out]
    simp only []
    split
    · omega
    · split <;> omega
  have hk29 : ∀ i : Nat, D.kd i ≤ 2 := by
    intro i
    rw [HDK.out]
    simp only []
    split
    · omega
    · split <;> omega
  rw [HC9.out]
  exact tl32 D U n T nd2 B3_3 B3 B3_1 B122 _ _ _ _ _ _ _ _ _ _ _ _ _ _ _ _ _ _ _ _ _ _ _ _ _ _ _ _ _ _ _ _ _ _ _ _ _ _ _ _ _ _ _ _ _ _ _ _ _ _ _ _ _ _ _ _ _ _ _ _ _ _ _ _ _ _ _ _ _ _ _ _ _ _ _ _ _ _ _ _ _ _ _ _ _ _ _ _ _ _ _ _ _ _ _ _ _ _ _ _ _ _ _ _ _ _ _ _ _ _ _ _ _ _ _ _ _ _ _ _ _ _ _ _ _ _ _ _ _ _ _ _ _ _ _ _ _ _ _ _ _ _ _ _ _ _ _ _ _ _ _ _ _ _ _ _ _ _ _ _ _ _ _ _ _ _ _ _ _ _ _ _ _ _ _ _ _ _ _ _ w0 _ X Y hO hn4 hu9 hkd9 hk29 hnx (by rw [hT]; rfl) (fun b o h => hYL b o (by rw [HX8.out]; exact h)) hN hap
end Go.Proofs.Ytdbnnpoffpipjaa.Use
