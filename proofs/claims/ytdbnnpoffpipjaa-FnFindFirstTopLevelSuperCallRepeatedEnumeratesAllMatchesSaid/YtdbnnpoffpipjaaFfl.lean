/- The search at a node, found on one side. No condition. -/
import Derived.Test.YtdbnnpoffpipjaaFp
import Derived.Test.YtdbnnpoffpipjaaFd
import Derived.Test.YtdbnnpoffpipjaaFn1
import Derived.Test.YtdbnnpoffpipjaaFf1
import Derived.Test.YtdbnnpoffpipjaaJn
import Derived.Test.YtdbnnpoffpipjaaTre
import Derived.Test.YtdbnnpoffpipjaaLoop
import Derived.Test.YtdbnnpoffpipjaaAppL
import Derived.Test.YtdbnnpoffpipjaaApp
import Derived.Test.YtdbnnpoffpipjaaOwnK
import Derived.Test.YtdbnnpoffpipjaaOwn
import Derived.Test.YtdbnnpoffpipjaaDeepCells
import Derived.Test.YtdbnnpoffpipjaaRows
namespace Go.Proofs.Ytdbnnpoffpipjaa.Use
open Go.ChangeShapes Go.WideShapes Go.ChangeAt Go.RowKit Go.Sort Own
set_option linter.unusedVariables false
def rfindFl1E (D : Dat) (k : Nat) (A : List Nat) (B : List Nat) (b : Nat) (l : Tr) (x : Int) (B1_4 : Nat) (B1_3 : Nat) (B1_2 : Nat) (B1_1 : Nat) (B1 : Nat) : Nat → Rega.Atoms → Value
  | 0, α => .pointer (some ⟨b, 0, none⟩)
  | 1, α => .pointer (some ⟨b, 0, none⟩)
  | 2, α => .pointer (some ⟨b, 0, none⟩)
  | 3, α => .agg #[dV D l, .int .i32 (lV l)]
  | 4, α => .agg #[.int .u32 D.src, .int .u32 D.inn]
  | 5, α => .tuple #[.agg #[dO D (bfA A (α 1005)), .int .i32 (lO (bfA A (α 1005)))], .agg #[.int .i32 (k : Int)], .pointer (some ⟨D.ad k, 0, none⟩), .agg #[dO D (afB B (α 1005)), .int .i32 (lO (afB B (α 1005)))]]
  | 6, α => .tuple #[.agg #[dO D (bfA A (α 1005)), .int .i32 (lO (bfA A (α 1005)))], .agg #[.int .i32 (k : Int)], .pointer (some ⟨D.ad k, 0, none⟩), .agg #[dO D (afB B (α 1005)), .int .i32 (lO (afB B (α 1005)))]]
  | 7, α => .agg #[dO D (bfA A (α 1005)), .int .i32 (lO (bfA A (α 1005)))]
  | 8, α => .agg #[.int .i32 (k : Int)]
  | 9, α => .pointer (some ⟨D.ad k, 0, none⟩)
  | 10, α => .agg #[dO D (afB B (α 1005)), .int .i32 (lO (afB B (α 1005)))]
  | 11, α => .pointer (some ⟨α 11, 0, none⟩)
  | 12, α => .pointer (some ⟨α 12, 0, none⟩)
  | 13, α => .pointer (some ⟨α 13, 0, none⟩)
  | 14, α => undef
  | 15, α => undef
  | 16, α => .pointer (some ⟨D.ad k, 0, none⟩)
  | 17, α => undef
  | _, _ => undef
def rfindFl1Anc : Nat → List Nat
  | 1 => [0]
  | 2 => [0, 1]
  | 3 => [0, 1, 2]
  | 5 => [0, 1, 2, 3, 4]
  | 6 => [0, 1, 2, 3, 4, 5]
  | 7 => [0, 1, 2, 3, 4, 5, 6]
  | 8 => [0, 1, 2, 3, 4, 5, 6]
  | 9 => [0, 1, 2, 3, 4, 5, 6]
  | 10 => [0, 1, 2, 3, 4, 5, 6]
  | 14 => [0, 1, 2, 3, 4, 5, 6, 7, 11, 12, 13]
  | 15 => [0, 1, 2, 3, 4, 5, 6, 7, 8, 11, 12, 13, 14]
  | 16 => [0, 1, 2, 3, 4, 5, 6, 7, 8, 9, 11, 12, 13, 14, 15]
  | 17 => [0, 1, 2, 3, 4, 5, 6, 7, 8, 9, 10, 11, 12, 13, 14, 15, 16]
  | _ => []
def rfindFl1Trn : Nat → List Nat
  | 14 => [11]
  | 15 => [12]
  | 17 => [13]
  | _ => []
def rfindFl1Cnt : List (Nat × Nat) := [(11, 1), (12, 1), (13, 1)]
def rfindFl1T11 (D : Dat) (k : Nat) (A : List Nat) (B : List Nat) (b : Nat) (l : Tr) (x : Int) (B1_4 : Nat) (B1_3 : Nat) (B1_2 : Nat) (B1_1 : Nat) (B1 : Nat) (L9 : Nat → Bool) (α : Rega.Atoms) : Rw := if L9 14 = true then row (α 11) 35 #[dO D (bfA A (α 1005)), .int .i32 (lO (bfA A (α 1005)))] else row (α 11) 35 #[.nilIface, .int .i32 0]
def rfindFl1T12 (D : Dat) (k : Nat) (A : List Nat) (B : List Nat) (b : Nat) (l : Tr) (x : Int) (B1_4 : Nat) (B1_3 : Nat) (B1_2 : Nat) (B1_1 : Nat) (B1 : Nat) (L9 : Nat → Bool) (α : Rega.Atoms) : Rw := if L9 15 = true then row (α 12) 33 #[.int .i32 (k : Int)] else row (α 12) 33 #[.int .i32 0]
def rfindFl1T13 (D : Dat) (k : Nat) (A : List Nat) (B : List Nat) (b : Nat) (l : Tr) (x : Int) (B1_4 : Nat) (B1_3 : Nat) (B1_2 : Nat) (B1_1 : Nat) (B1 : Nat) (L9 : Nat → Bool) (α : Rega.Atoms) : Rw := if L9 17 = true then row (α 13) 35 #[dO D (afB B (α 1005)), .int .i32 (lO (afB B (α 1005)))] else row (α 13) 35 #[.nilIface, .int .i32 0]
def rfindFl1R (D : Dat) (k : Nat) (A : List Nat) (B : List Nat) (b : Nat) (l : Tr) (x : Int) (B1_4 : Nat) (B1_3 : Nat) (B1_2 : Nat) (B1_1 : Nat) (B1 : Nat) (L9 : Nat → Bool) (α : Rega.Atoms) (ix9 : Nat) : Rw := if ix9 = 999 then row (B1_4) 35 #[.nilIface, .int .i32 0] else if ix9 = 1999 then row (B1_3) 33 #[.int .i32 0] else if ix9 = 2999 then row (B1_2) 35 #[.nilIface, .int .i32 0] else if ix9 = 3999 then row (B1_1) 27 #[.int .u32 D.src, .int .u32 D.inn] else if ix9 = 4999 then row (B1) 35 #[.iface 63 (.pointer (some ⟨b, 0, none⟩)), .int .i32 x] else if ix9 = 11 then rfindFl1T11 D k A B b l x B1_4 B1_3 B1_2 B1_1 B1 L9 α else if ix9 = 12 then rfindFl1T12 D k A B b l x B1_4 B1_3 B1_2 B1_1 B1 L9 α else if ix9 = 13 then rfindFl1T13 D k A B b l x B1_4 B1_3 B1_2 B1_1 B1 L9 α else (0, .map #[] 0)
def rfindFl1X (D : Dat) (k : Nat) (A : List Nat) (B : List Nat) (b : Nat) (l : Tr) (x : Int) (B1_4 : Nat) (B1_3 : Nat) (B1_2 : Nat) (B1_1 : Nat) (B1 : Nat) (X : Nat → Obj → Prop) (L9 : Nat → Bool) (α : Rega.Atoms) : Nat → Obj → Prop := if L9 5 = true then (XF X D k A B (α 5) (α 1005)) else X
theorem rfindFl1_hX (D : Dat) (k : Nat) (A : List Nat) (B : List Nat) (b : Nat) (l : Tr) (x : Int) (B1_4 : Nat) (B1_3 : Nat) (B1_2 : Nat) (B1_1 : Nat) (B1 : Nat) (X : Nat → Obj → Prop) {kk9 : Nat} {L9 : Nat → Bool} {α α' : Rega.Atoms} (hk : 5 ≠ kk9) (hα : ∀ j, j % 1000 ≠ kk9 → α' j = α j) : rfindFl1X D k A B b l x B1_4 B1_3 B1_2 B1_1 B1 X (Rega.ran L9 kk9) α' = rfindFl1X D k A B b l x B1_4 B1_3 B1_2 B1_1 B1 X L9 α := by
  unfold rfindFl1X
  rw [ran_ne hk]
  by_cases e : L9 5 = true
  · rw [if_pos e, if_pos e, hα 5 (by show 5 ≠ kk9; exact hk), hα 1005 (by show 5 ≠ kk9; exact hk)]
  · rw [if_neg e, if_neg e]
theorem rfindFl1_he (D : Dat) (k : Nat) (A : List Nat) (B : List Nat) (b : Nat) (l : Tr) (x : Int) (B1_4 : Nat) (B1_3 : Nat) (B1_2 : Nat) (B1_1 : Nat) (B1 : Nat) : ∀ kk α α', (∀ j, (j % 1000 = kk ∨ j % 1000 ∈ rfindFl1Anc kk) → α j = α' j) → rfindFl1E D k A B b l x B1_4 B1_3 B1_2 B1_1 B1 kk α = rfindFl1E D k A B b l x B1_4 B1_3 B1_2 B1_1 B1 kk α' := by
  intro kk α α' h
  match kk with
  | 0 => rfl
  | 1 => rfl
  | 2 => rfl
  | 3 => rfl
  | 4 => rfl
  | 5 => simp only [rfindFl1E, h 1005 (Or.inl rfl)]
  | 6 => simp only [rfindFl1E, h 1005 (Or.inr (by decide))]
  | 7 => simp only [rfindFl1E, h 1005 (Or.inr (by decide))]
  | 8 => rfl
  | 9 => rfl
  | 10 => simp only [rfindFl1E, h 1005 (Or.inr (by decide))]
  | 11 => simp only [rfindFl1E, h 11 (Or.inl rfl)]
  | 12 => simp only [rfindFl1E, h 12 (Or.inl rfl)]
  | 13 => simp only [rfindFl1E, h 13 (Or.inl rfl)]
  | 14 => rfl
  | 15 => rfl
  | 16 => rfl
  | 17 => rfl
  | n + 18 => rfl
theorem rfindFl1_st (D : Dat) (k : Nat) (A : List Nat) (B : List Nat) (b : Nat) (l : Tr) (x : Int) (B1_4 : Nat) (B1_3 : Nat) (B1_2 : Nat) (B1_1 : Nat) (B1 : Nat) : Stable rfindFl1Cnt 5 rfindFl1Anc rfindFl1Trn (rfindFl1R D k A B b l x B1_4 B1_3 B1_2 B1_1 B1) := by
  intro k9 L9 α α' ix9 hk hcl hα hact ht
  have hp := act_places hact
  replace hp : ix9 ∈ [999, 1999, 2999, 3999, 4999, 11, 12, 13] := hp
  simp only [List.mem_cons, List.not_mem_nil, or_false] at hp
  rcases hp with rfl | rfl | rfl | rfl | rfl | rfl | rfl | rfl
  · rfl
  · rfl
  · rfl
  · rfl
  · rfl
  · have e0 : L9 11 = true := act_lt hact (by decide)
    show rfindFl1T11 D k A B b l x B1_4 B1_3 B1_2 B1_1 B1 (Rega.ran L9 k9) α' = rfindFl1T11 D k A B b l x B1_4 B1_3 B1_2 B1_1 B1 L9 α
    unfold rfindFl1T11
    have n14 : 14 ≠ k9 := fun e => ht (by rw [← e]; decide)
    rw [ran_ne n14]
    by_cases e14 : L9 14 = true
    · first | rw [if_pos e14, if_pos e14] | rw [if_pos e14]
      try simp only [hα 11 (ne_ran hk (hcl 14 e14 11 (by decide))), hα 1005 (ne_ran hk (hcl 14 e14 5 (by decide)))]
    first | rw [if_neg e14, if_neg e14] | rw [if_neg e14]
    try simp only [hα 11 (ne_ran hk e0)]
  · have e0 : L9 12 = true := act_lt hact (by decide)
    show rfindFl1T12 D k A B b l x B1_4 B1_3 B1_2 B1_1 B1 (Rega.ran L9 k9) α' = rfindFl1T12 D k A B b l x B1_4 B1_3 B1_2 B1_1 B1 L9 α
    unfold rfindFl1T12
    have n15 : 15 ≠ k9 := fun e => ht (by rw [← e]; decide)
    rw [ran_ne n15]
    by_cases e15 : L9 15 = true
    · first | rw [if_pos e15, if_pos e15] | rw [if_pos e15]
      try simp only [hα 12 (ne_ran hk (hcl 15 e15 12 (by decide)))]
    first | rw [if_neg e15, if_neg e15] | rw [if_neg e15]
    try simp only [hα 12 (ne_ran hk e0)]
  · have e0 : L9 13 = true := act_lt hact (by decide)
    show rfindFl1T13 D k A B b l x B1_4 B1_3 B1_2 B1_1 B1 (Rega.ran L9 k9) α' = rfindFl1T13 D k A B b l x B1_4 B1_3 B1_2 B1_1 B1 L9 α
    unfold rfindFl1T13
    have n17 : 17 ≠ k9 := fun e => ht (by rw [← e]; decide)
    rw [ran_ne n17]
    by_cases e17 : L9 17 = true
    · first | rw [if_pos e17, if_pos e17] | rw [if_pos e17]
      try simp only [hα 13 (ne_ran hk (hcl 17 e17 13 (by decide))), hα 1005 (ne_ran hk (hcl 17 e17 5 (by decide)))]
    first | rw [if_neg e17, if_neg e17] | rw [if_neg e17]
    try simp only [hα 13 (ne_ran hk e0)]
def rfindFln1E (D : Dat) (k : Nat) (A : List Nat) (b : Nat) (r : Tr) (x : Int) (B1_4 : Nat) (B1_3 : Nat) (B1_2 : Nat) (B1_1 : Nat) (B1 : Nat) (nd4 : Nat) (nd5 : Nat) (nd6 : Nat) (nd7 : Nat) : Nat → Rega.Atoms → Value
  | 0, α => .agg #[dO D (bfA A nd7), .int .i32 (lO (bfA A nd7))]
  | 1, α => .agg #[.int .i32 (k : Int)]
  | 2, α => .pointer (some ⟨D.ad k, 0, none⟩)
  | 3, α => .agg #[dO D none, .int .i32 (lO none)]
  | 4, α => .pointer (some ⟨b, 0, none⟩)
  | 5, α => .pointer (some ⟨b, 0, none⟩)
  | 6, α => .pointer (some ⟨b, 2, none⟩)
  | 7, α => .agg #[dV D r, .int .i32 (lV r)]
  | 8, α => .agg #[dV D r, .int .i32 (lV r)]
  | 9, α => undef
  | 10, α => undef
  | 11, α => .pointer (some ⟨D.ad k, 0, none⟩)
  | 12, α => undef
  | _, _ => undef
def rfindFln1Anc : Nat → List Nat
  | 5 => [4]
  | 6 => [4, 5]
  | 7 => [4, 5, 6]
  | 8 => [3, 4, 5, 6, 7]
  | 9 => [0, 3, 4, 5, 6, 7, 8]
  | 10 => [0, 1, 3, 4, 5, 6, 7, 8, 9]
  | 11 => [0, 1, 2, 3, 4, 5, 6, 7, 8, 9, 10]
  | 12 => [0, 1, 2, 3, 4, 5, 6, 7, 8, 9, 10, 11]
  | _ => []
def rfindFln1Trn : Nat → List Nat
  | 9 => [2999]
  | 10 => [1999]
  | 12 => [999]
  | _ => []
def rfindFln1Cnt : List (Nat × Nat) := []
def rfindFln1T999 (D : Dat) (k : Nat) (A : List Nat) (b : Nat) (r : Tr) (x : Int) (B1_4 : Nat) (B1_3 : Nat) (B1_2 : Nat) (B1_1 : Nat) (B1 : Nat) (nd4 : Nat) (nd5 : Nat) (nd6 : Nat) (nd7 : Nat) (L9 : Nat → Bool) (α : Rega.Atoms) : Rw := if L9 12 = true then row (B1_4) 35 #[dV D r, .int .i32 (lV r)] else row (B1_4) 35 #[.nilIface, .int .i32 0]
def rfindFln1T1999 (D : Dat) (k : Nat) (A : List Nat) (b : Nat) (r : Tr) (x : Int) (B1_4 : Nat) (B1_3 : Nat) (B1_2 : Nat) (B1_1 : Nat) (B1 : Nat) (nd4 : Nat) (nd5 : Nat) (nd6 : Nat) (nd7 : Nat) (L9 : Nat → Bool) (α : Rega.Atoms) : Rw := if L9 10 = true then row (B1_3) 33 #[.int .i32 (k : Int)] else row (B1_3) 33 #[.int .i32 0]
def rfindFln1T2999 (D : Dat) (k : Nat) (A : List Nat) (b : Nat) (r : Tr) (x : Int) (B1_4 : Nat) (B1_3 : Nat) (B1_2 : Nat) (B1_1 : Nat) (B1 : Nat) (nd4 : Nat) (nd5 : Nat) (nd6 : Nat) (nd7 : Nat) (L9 : Nat → Bool) (α : Rega.Atoms) : Rw := if L9 9 = true then row (B1_2) 35 #[dO D (bfA A nd7), .int .i32 (lO (bfA A nd7))] else row (B1_2) 35 #[.nilIface, .int .i32 0]
def rfindFln1R (D : Dat) (k : Nat) (A : List Nat) (b : Nat) (r : Tr) (x : Int) (B1_4 : Nat) (B1_3 : Nat) (B1_2 : Nat) (B1_1 : Nat) (B1 : Nat) (nd4 : Nat) (nd5 : Nat) (nd6 : Nat) (nd7 : Nat) (L9 : Nat → Bool) (α : Rega.Atoms) (ix9 : Nat) : Rw := if ix9 = 999 then rfindFln1T999 D k A b r x B1_4 B1_3 B1_2 B1_1 B1 nd4 nd5 nd6 nd7 L9 α else if ix9 = 1999 then rfindFln1T1999 D k A b r x B1_4 B1_3 B1_2 B1_1 B1 nd4 nd5 nd6 nd7 L9 α else if ix9 = 2999 then rfindFln1T2999 D k A b r x B1_4 B1_3 B1_2 B1_1 B1 nd4 nd5 nd6 nd7 L9 α else if ix9 = 3999 then row (B1_1) 27 #[.int .u32 D.src, .int .u32 D.inn] else if ix9 = 4999 then row (B1) 35 #[.iface 63 (.pointer (some ⟨b, 0, none⟩)), .int .i32 x] else if ix9 = 5999 then row (nd4) 35 #[dO D (bfA A nd7), .int .i32 (lO (bfA A nd7))] else if ix9 = 6999 then row (nd5) 33 #[.int .i32 (k : Int)] else if ix9 = 7999 then row (nd6) 35 #[dO D none, .int .i32 (lO none)] else (0, .map #[] 0)
theorem rfindFln1_he (D : Dat) (k : Nat) (A : List Nat) (b : Nat) (r : Tr) (x : Int) (B1_4 : Nat) (B1_3 : Nat) (B1_2 : Nat) (B1_1 : Nat) (B1 : Nat) (nd4 : Nat) (nd5 : Nat) (nd6 : Nat) (nd7 : Nat) : ∀ kk α α', (∀ j, (j % 1000 = kk ∨ j % 1000 ∈ rfindFln1Anc kk) → α j = α' j) → rfindFln1E D k A b r x B1_4 B1_3 B1_2 B1_1 B1 nd4 nd5 nd6 nd7 kk α = rfindFln1E D k A b r x B1_4 B1_3 B1_2 B1_1 B1 nd4 nd5 nd6 nd7 kk α' := by
  intro kk α α' h
  match kk with
  | 0 => rfl
  | 1 => rfl
  | 2 => rfl
  | 3 => rfl
  | 4 => rfl
  | 5 => rfl
  | 6 => rfl
  | 7 => rfl
  | 8 => rfl
  | 9 => rfl
  | 10 => rfl
  | 11 => rfl
  | 12 => rfl
  | n + 13 => rfl
theorem rfindFln1_st (D : Dat) (k : Nat) (A : List Nat) (b : Nat) (r : Tr) (x : Int) (B1_4 : Nat) (B1_3 : Nat) (B1_2 : Nat) (B1_1 : Nat) (B1 : Nat) (nd4 : Nat) (nd5 : Nat) (nd6 : Nat) (nd7 : Nat) : Stable rfindFln1Cnt 8 rfindFln1Anc rfindFln1Trn (rfindFln1R D k A b r x B1_4 B1_3 B1_2 B1_1 B1 nd4 nd5 nd6 nd7) := by
  intro k9 L9 α α' ix9 hk hcl hα hact ht
  have hp := act_places hact
  replace hp : ix9 ∈ [999, 1999, 2999, 3999, 4999, 5999, 6999, 7999] := hp
  simp only [List.mem_cons, List.not_mem_nil, or_false] at hp
  rcases hp with rfl | rfl | rfl | rfl | rfl | rfl | rfl | rfl
  · show rfindFln1T999 D k A b r x B1_4 B1_3 B1_2 B1_1 B1 nd4 nd5 nd6 nd7 (Rega.ran L9 k9) α' = rfindFln1T999 D k A b r x B1_4 B1_3 B1_2 B1_1 B1 nd4 nd5 nd6 nd7 L9 α
    unfold rfindFln1T999
    have n12 : 12 ≠ k9 := fun e => ht (by rw [← e]; decide)
    rw [ran_ne n12]
  · show rfindFln1T1999 D k A b r x B1_4 B1_3 B1_2 B1_1 B1 nd4 nd5 nd6 nd7 (Rega.ran L9 k9) α' = rfindFln1T1999 D k A b r x B1_4 B1_3 B1_2 B1_1 B1 nd4 nd5 nd6 nd7 L9 α
    unfold rfindFln1T1999
    have n10 : 10 ≠ k9 := fun e => ht (by rw [← e]; decide)
    rw [ran_ne n10]
  · show rfindFln1T2999 D k A b r x B1_4 B1_3 B1_2 B1_1 B1 nd4 nd5 nd6 nd7 (Rega.ran L9 k9) α' = rfindFln1T2999 D k A b r x B1_4 B1_3 B1_2 B1_1 B1 nd4 nd5 nd6 nd7 L9 α
    unfold rfindFln1T2999
    have n9 : 9 ≠ k9 := fun e => ht (by rw [← e]; decide)
    rw [ran_ne n9]
  · rfl
  · rfl
  · rfl
  · rfl
  · rfl
def rfindFls1E (D : Dat) (k : Nat) (A : List Nat) (b : Nat) (r : Tr) (x : Int) (B1_4 : Nat) (B1_3 : Nat) (B1_2 : Nat) (B1_1 : Nat) (B1 : Nat) (nd4 : Nat) (nd5 : Nat) (nd6 : Nat) (nd7 : Nat) (tq : Tr) : Nat → Rega.Atoms → Value
  | 0, α => .agg #[dO D (bfA A nd7), .int .i32 (lO (bfA A nd7))]
  | 1, α => .agg #[.int .i32 (k : Int)]
  | 2, α => .pointer (some ⟨D.ad k, 0, none⟩)
  | 3, α => .agg #[dO D (some tq), .int .i32 (lO (some tq))]
  | 4, α => .pointer (some ⟨b, 0, none⟩)
  | 5, α => .pointer (some ⟨b, 0, none⟩)
  | 6, α => .pointer (some ⟨b, 2, none⟩)
  | 7, α => .agg #[dV D r, .int .i32 (lV r)]
  | 8, α => .agg #[.iface 63 (.pointer (some ⟨α 8, 0, none⟩)), .int .i32 (lV tq)]
  | 9, α => undef
  | 10, α => undef
  | 11, α => .pointer (some ⟨D.ad k, 0, none⟩)
  | 12, α => undef
  | _, _ => undef
def rfindFls1Anc : Nat → List Nat
  | 5 => [4]
  | 6 => [4, 5]
  | 7 => [4, 5, 6]
  | 8 => [3, 4, 5, 6, 7]
  | 9 => [0, 3, 4, 5, 6, 7, 8]
  | 10 => [0, 1, 3, 4, 5, 6, 7, 8, 9]
  | 11 => [0, 1, 2, 3, 4, 5, 6, 7, 8, 9, 10]
  | 12 => [0, 1, 2, 3, 4, 5, 6, 7, 8, 9, 10, 11]
  | _ => []
def rfindFls1Trn : Nat → List Nat
  | 9 => [2999]
  | 10 => [1999]
  | 12 => [999]
  | _ => []
def rfindFls1Cnt : List (Nat × Nat) := [(8, 1)]
def rfindFls1T999 (D : Dat) (k : Nat) (A : List Nat) (b : Nat) (r : Tr) (x : Int) (B1_4 : Nat) (B1_3 : Nat) (B1_2 : Nat) (B1_1 : Nat) (B1 : Nat) (nd4 : Nat) (nd5 : Nat) (nd6 : Nat) (nd7 : Nat) (tq : Tr) (L9 : Nat → Bool) (α : Rega.Atoms) : Rw := if L9 12 = true then row (B1_4) 35 #[.iface 63 (.pointer (some ⟨α 8, 0, none⟩)), .int .i32 (lV tq)] else row (B1_4) 35 #[.nilIface, .int .i32 0]
def rfindFls1T1999 (D : Dat) (k : Nat) (A : List Nat) (b : Nat) (r : Tr) (x : Int) (B1_4 : Nat) (B1_3 : Nat) (B1_2 : Nat) (B1_1 : Nat) (B1 : Nat) (nd4 : Nat) (nd5 : Nat) (nd6 : Nat) (nd7 : Nat) (tq : Tr) (L9 : Nat → Bool) (α : Rega.Atoms) : Rw := if L9 10 = true then row (B1_3) 33 #[.int .i32 (k : Int)] else row (B1_3) 33 #[.int .i32 0]
def rfindFls1T2999 (D : Dat) (k : Nat) (A : List Nat) (b : Nat) (r : Tr) (x : Int) (B1_4 : Nat) (B1_3 : Nat) (B1_2 : Nat) (B1_1 : Nat) (B1 : Nat) (nd4 : Nat) (nd5 : Nat) (nd6 : Nat) (nd7 : Nat) (tq : Tr) (L9 : Nat → Bool) (α : Rega.Atoms) : Rw := if L9 9 = true then row (B1_2) 35 #[dO D (bfA A nd7), .int .i32 (lO (bfA A nd7))] else row (B1_2) 35 #[.nilIface, .int .i32 0]
def rfindFls1R (D : Dat) (k : Nat) (A : List Nat) (b : Nat) (r : Tr) (x : Int) (B1_4 : Nat) (B1_3 : Nat) (B1_2 : Nat) (B1_1 : Nat) (B1 : Nat) (nd4 : Nat) (nd5 : Nat) (nd6 : Nat) (nd7 : Nat) (tq : Tr) (L9 : Nat → Bool) (α : Rega.Atoms) (ix9 : Nat) : Rw := if ix9 = 999 then rfindFls1T999 D k A b r x B1_4 B1_3 B1_2 B1_1 B1 nd4 nd5 nd6 nd7 tq L9 α else if ix9 = 1999 then rfindFls1T1999 D k A b r x B1_4 B1_3 B1_2 B1_1 B1 nd4 nd5 nd6 nd7 tq L9 α else if ix9 = 2999 then rfindFls1T2999 D k A b r x B1_4 B1_3 B1_2 B1_1 B1 nd4 nd5 nd6 nd7 tq L9 α else if ix9 = 3999 then row (B1_1) 27 #[.int .u32 D.src, .int .u32 D.inn] else if ix9 = 4999 then row (B1) 35 #[.iface 63 (.pointer (some ⟨b, 0, none⟩)), .int .i32 x] else if ix9 = 5999 then row (nd4) 35 #[dO D (bfA A nd7), .int .i32 (lO (bfA A nd7))] else if ix9 = 6999 then row (nd5) 33 #[.int .i32 (k : Int)] else if ix9 = 7999 then row (nd6) 35 #[dO D (some tq), .int .i32 (lO (some tq))] else if ix9 = 8 then row (α 8) 66 (binC D tq r) else (0, .map #[] 0)
theorem rfindFls1_he (D : Dat) (k : Nat) (A : List Nat) (b : Nat) (r : Tr) (x : Int) (B1_4 : Nat) (B1_3 : Nat) (B1_2 : Nat) (B1_1 : Nat) (B1 : Nat) (nd4 : Nat) (nd5 : Nat) (nd6 : Nat) (nd7 : Nat) (tq : Tr) : ∀ kk α α', (∀ j, (j % 1000 = kk ∨ j % 1000 ∈ rfindFls1Anc kk) → α j = α' j) → rfindFls1E D k A b r x B1_4 B1_3 B1_2 B1_1 B1 nd4 nd5 nd6 nd7 tq kk α = rfindFls1E D k A b r x B1_4 B1_3 B1_2 B1_1 B1 nd4 nd5 nd6 nd7 tq kk α' := by
  intro kk α α' h
  match kk with
  | 0 => rfl
  | 1 => rfl
  | 2 => rfl
  | 3 => rfl
  | 4 => rfl
  | 5 => rfl
  | 6 => rfl
  | 7 => rfl
  | 8 => simp only [rfindFls1E, h 8 (Or.inl rfl)]
  | 9 => rfl
  | 10 => rfl
  | 11 => rfl
  | 12 => rfl
  | n + 13 => rfl
theorem rfindFls1_st (D : Dat) (k : Nat) (A : List Nat) (b : Nat) (r : Tr) (x : Int) (B1_4 : Nat) (B1_3 : Nat) (B1_2 : Nat) (B1_1 : Nat) (B1 : Nat) (nd4 : Nat) (nd5 : Nat) (nd6 : Nat) (nd7 : Nat) (tq : Tr) : Stable rfindFls1Cnt 8 rfindFls1Anc rfindFls1Trn (rfindFls1R D k A b r x B1_4 B1_3 B1_2 B1_1 B1 nd4 nd5 nd6 nd7 tq) := by
  intro k9 L9 α α' ix9 hk hcl hα hact ht
  have hp := act_places hact
  replace hp : ix9 ∈ [999, 1999, 2999, 3999, 4999, 5999, 6999, 7999, 8] := hp
  simp only [List.mem_cons, List.not_mem_nil, or_false] at hp
  rcases hp with rfl | rfl | rfl | rfl | rfl | rfl | rfl | rfl | rfl
  · show rfindFls1T999 D k A b r x B1_4 B1_3 B1_2 B1_1 B1 nd4 nd5 nd6 nd7 tq (Rega.ran L9 k9) α' = rfindFls1T999 D k A b r x B1_4 B1_3 B1_2 B1_1 B1 nd4 nd5 nd6 nd7 tq L9 α
    unfold rfindFls1T999
    have n12 : 12 ≠ k9 := fun e => ht (by rw [← e]; decide)
    rw [ran_ne n12]
    by_cases e12 : L9 12 = true
    · first | rw [if_pos e12, if_pos e12] | rw [if_pos e12]
      try simp only [hα 8 (ne_ran hk (hcl 12 e12 8 (by decide)))]
    first | rw [if_neg e12, if_neg e12] | rw [if_neg e12]
  · show rfindFls1T1999 D k A b r x B1_4 B1_3 B1_2 B1_1 B1 nd4 nd5 nd6 nd7 tq (Rega.ran L9 k9) α' = rfindFls1T1999 D k A b r x B1_4 B1_3 B1_2 B1_1 B1 nd4 nd5 nd6 nd7 tq L9 α
    unfold rfindFls1T1999
    have n10 : 10 ≠ k9 := fun e => ht (by rw [← e]; decide)
    rw [ran_ne n10]
  · show rfindFls1T2999 D k A b r x B1_4 B1_3 B1_2 B1_1 B1 nd4 nd5 nd6 nd7 tq (Rega.ran L9 k9) α' = rfindFls1T2999 D k A b r x B1_4 B1_3 B1_2 B1_1 B1 nd4 nd5 nd6 nd7 tq L9 α
    unfold rfindFls1T2999
    have n9 : 9 ≠ k9 := fun e => ht (by rw [← e]; decide)
    rw [ran_ne n9]
  · rfl
  · rfl
  · rfl
  · rfl
  · rfl
  · have e0 : L9 8 = true := act_lt hact (by decide)
    show row (α' 8) 66 (binC D tq r) = row (α 8) 66 (binC D tq r)
    simp only [hα 8 (ne_ran hk e0)]

set_option maxRecDepth 100000 in
set_option maxHeartbeats 1000000 in
theorem findFl (D : Dat) (k : Nat) (A B : List Nat) (b : Nat) (l r : Tr) (x : Int) (w0 w : World) (X : Nat → Obj → Prop) (hO : Own w0 w [] X) (hb : X b (.cells (binC D l r) 66 (0, 0))) (hNl : NodesIn X D l) (hVl : ∀ i, i ∈ l.flat → LeafIn X D i) (hNr : NodesIn X D r) (hVr : ∀ i, i ∈ r.flat → LeafIn X D i) (hXk : X (D.ad k) (.cells (callC (.iface 56 (.pointer (some ⟨(D.ib k), 0, none⟩))) (k : Int)) 46 (0, 0))) (ihl : ∀ (w0 w : World) (X : Nat → Obj → Prop), Own w0 w [] X → NodesIn X D l → (∀ i, i ∈ l.flat → LeafIn X D i) → Calls Try.prog 17 #[.agg #[dV D l, .int .i32 (lV l)], .agg #[.int .u32 D.src, .int .u32 D.inn]] w (findFPost D k A B w0 X)) :
    Calls Try.prog 17 #[.agg #[.iface 63 (.pointer (some ⟨b, 0, none⟩)), .int .i32 x], .agg #[.int .u32 D.src, .int .u32 D.inn]] w (findFPost D k A (B ++ r.flat) w0 X) := by
  have hbk : b ≠ D.ad k := node_ne hO hb hXk
  have hnk : ∀ b9 l9 r9, r.Has b9 l9 r9 → b9 ≠ D.ad k := fun b9 l9 r9 h9 => node_ne hO (hNr _ _ _ h9) hXk
  go_enter Try.func17, Try.ntmps17
  have fx0_0 : w.cell? ⟨b, 0, none⟩ = some (dV D l) := hO.fcell hb 0 rfl
  have fx0_1 : w.cell? ⟨b, 1, none⟩ = some (.int .i32 (lV l)) := hO.fcell hb 1 rfl
  have fx0_2 : w.cell? ⟨b, 2, none⟩ = some (dV D r) := hO.fcell hb 2 rfl
  have fx0_3 : w.cell? ⟨b, 3, none⟩ = some (.int .i32 (lV r)) := hO.fcell hb 3 rfl
  have fx0_4 : w.cell? ⟨b, 4, none⟩ = some (.int .u8 36) := hO.fcell hb 4 rfl
  have fx0_5 : w.cell? ⟨b, 5, none⟩ = some (.bool false) := hO.fcell hb 5 rfl
  go_wp2_with (first | (with_reducible refine Own.stay (fn := Try.f17) ?_) | fail)
  try with_reducible refine Own.Stay.mk ?_
  have HO := Lib.hid hO
  clear hO
  have hO := HO.out
  clear HO fx0_0 fx0_1 fx0_2 fx0_3 fx0_4 fx0_5
  generalize hW : World.alloc _ _ = W2
  have hN : Own w0 W2 [row (w.heap.size + 1 + 1 + 1 + 1) 35 #[.nilIface, .int .i32 0], row (w.heap.size + 1 + 1 + 1) 33 #[.int .i32 0], row (w.heap.size + 1 + 1) 35 #[.nilIface, .int .i32 0], row (w.heap.size + 1) 27 #[.int .u32 D.src, .int .u32 D.inn], row (w.heap.size) 35 #[.iface 63 (.pointer (some ⟨b, 0, none⟩)), .int .i32 x]] X := by
    rw [← hW]
    exact (((((hO).alloc' _ (w.heap.size) (by simp)).alloc' _ (w.heap.size + 1) (by simp)).alloc' _ (w.heap.size + 1 + 1) (by simp)).alloc' _ (w.heap.size + 1 + 1 + 1) (by simp)).alloc' _ (w.heap.size + 1 + 1 + 1 + 1) (by simp)
  clear hW hO
  generalize w.heap.size + 1 + 1 + 1 + 1 = B1_4 at hN ⊢
  generalize w.heap.size + 1 + 1 + 1 = B1_3 at hN ⊢
  generalize w.heap.size + 1 + 1 = B1_2 at hN ⊢
  generalize w.heap.size + 1 = B1_1 at hN ⊢
  generalize w.heap.size = B1 at hN ⊢
  have hO := hN
  clear hN
  have st9 := rfindFl1_st D k A B b l x B1_4 B1_3 B1_2 B1_1 B1
  let R9 := rfindFl1R D k A B b l x B1_4 B1_3 B1_2 B1_1 B1
  refine wp_region_own (e := rfindFl1E D k A B b l x B1_4 B1_3 B1_2 B1_1 B1) (anc := rfindFl1Anc) (G := (fun L9 α u9 => OwnF w0 u9 (act rfindFl1Cnt 5 L9) (rfindFl1R D k A B b l x B1_4 B1_3 B1_2 B1_1 B1 L9 α) (rfindFl1X D k A B b l x B1_4 B1_3 B1_2 B1_1 B1 X L9 α))) (by kernel_rfl) (by kernel_rfl) (by kernel_rfl) (by kernel_rfl) (rfindFl1_he D k A B b l x B1_4 B1_3 B1_2 B1_1 B1) ?_ (RunsAll.all ?_) ?_
  · have hp : ∀ i, act rfindFl1Cnt 5 (fun _ => false) i → i ∈ [999, 1999, 2999, 3999, 4999] := by
      intro i hi
      have h9 : i % 1000 = 999 := by
        by_cases h : i % 1000 = 999
        · exact h
        · exact absurd (act_lt hi h) (by simp)
      unfold act at hi
      rw [if_pos h9] at hi
      simp only [List.mem_cons, List.not_mem_nil, or_false]
      omega
    show OwnF w0 _ _ _ X
    refine hO.drew.family (fun i hi => ?_) (fun i j hi hj hij => ?_)
    · have := hp i hi
      simp only [List.mem_cons, List.not_mem_nil, or_false] at this
      rcases this with rfl | rfl | rfl | rfl | rfl <;> rfl
    · have h1 := hp i hi
      have h2 := hp j hj
      simp only [List.mem_cons, List.not_mem_nil, or_false] at h1 h2
      omega
  · refine ⟨?_, ?_, ?_, ?_, ?_, ?_, ?_, ?_, ?_, ?_, ?_, ?_, ?_, ?_, ?_, ?_, ?_, ?_, trivial⟩
    · intro L9 α a9 u9 K9 hL hcl hA hG hS h0 hK
      replace hL : L9 0 = false := hL
      have q12 : a9.tmps[12]? = some (.pointer (some ⟨b, 0, none⟩)) := (h0 12 (by kernel_rfl)).trans rfl
      have s12 := Rega.eval_of q12
      go_simp
      exact hK _ α _ (fun _ _ => rfl) rfl (OwnF.reX (rfindFl1_hX D k A B b l x B1_4 B1_3 B1_2 B1_1 B1 X (kk9 := 0) (α := α) (by decide) (fun _ _ => rfl)) (step_same (st9) hL hcl rfl rfl hG))
    · intro L9 α a9 u9 K9 hL hcl hA hG hS h0 hK
      replace hL : L9 1 = false := hL
      have q74 : a9.tmps[74]? = some (.pointer (some ⟨b, 0, none⟩)) := hS 0 74 (by decide) rfl (by show 74 < 120; decide)
      have s74 := Rega.eval_of q74
      go_simp
      exact hK _ α _ (fun _ _ => rfl) rfl (OwnF.reX (rfindFl1_hX D k A B b l x B1_4 B1_3 B1_2 B1_1 B1 X (kk9 := 1) (α := α) (by decide) (fun _ _ => rfl)) (step_same (st9) hL hcl rfl rfl hG))
    · intro L9 α a9 u9 K9 hL hcl hA hG hS h0 hK
      replace hL : L9 2 = false := hL
      have q75 : a9.tmps[75]? = some (.pointer (some ⟨b, 0, none⟩)) := hS 1 75 (by decide) rfl (by show 75 < 120; decide)
      have s75 := Rega.eval_of q75
      go_simp
      exact hK _ α _ (fun _ _ => rfl) rfl (OwnF.reX (rfindFl1_hX D k A B b l x B1_4 B1_3 B1_2 B1_1 B1 X (kk9 := 2) (α := α) (by decide) (fun _ _ => rfl)) (step_same (st9) hL hcl rfl rfl hG))
    · intro L9 α a9 u9 K9 hL hcl hA hG hS h0 hK
      replace hL : L9 3 = false := hL
      have q76 : a9.tmps[76]? = some (.pointer (some ⟨b, 0, none⟩)) := hS 2 76 (by decide) rfl (by show 76 < 120; decide)
      have s76 := Rega.eval_of q76
      have hX9 : rfindFl1X D k A B b l x B1_4 B1_3 B1_2 B1_1 B1 X L9 α = X := if_neg (fun e => by have := hcl 5 e 3 (by decide); rw [hL] at this; cases this)
      have hxb : rfindFl1X D k A B b l x B1_4 B1_3 B1_2 B1_1 B1 X L9 α b (.cells (binC D l r) 66 (0, 0)) := by rw [hX9]; exact hb
      have c0 : u9.cell? ⟨b, 0, none⟩ = some (dV D l) := Base.RowAt.cell (show Base.RowAt u9 b 66 (binC D l r) from (hG.frame _ _ hxb).2.1) rfl
      have c1 : u9.cell? ⟨b, 1, none⟩ = some (.int .i32 (lV l)) := Base.RowAt.cell (show Base.RowAt u9 b 66 (binC D l r) from (hG.frame _ _ hxb).2.1) rfl
      go_simp
      exact hK _ α _ (fun _ _ => rfl) rfl (OwnF.reX (rfindFl1_hX D k A B b l x B1_4 B1_3 B1_2 B1_1 B1 X (kk9 := 3) (α := α) (by decide) (fun _ _ => rfl)) (step_same (st9) hL hcl rfl rfl hG))
    · intro L9 α a9 u9 K9 hL hcl hA hG hS h0 hK
      replace hL : L9 4 = false := hL
      have q3 : a9.tmps[3]? = some (.pointer (some ⟨B1_1, 0, none⟩)) := (h0 3 (by kernel_rfl)).trans rfl
      have s3 := Rega.eval_of q3
      have e0 : R9 L9 α 3999 = row (B1_1) 27 #[.int .u32 D.src, .int .u32 D.inn] := rfl
      have hr := hG.rowAt 3999 (act_base 3999 rfl) e0
      have c0 : u9.cell? ⟨B1_1, 0, none⟩ = some (.int .u32 D.src) := hr.cell rfl
      have c1 : u9.cell? ⟨B1_1, 1, none⟩ = some (.int .u32 D.inn) := hr.cell rfl
      clear hr e0
      go_simp
      exact hK _ α _ (fun _ _ => rfl) rfl (OwnF.reX (rfindFl1_hX D k A B b l x B1_4 B1_3 B1_2 B1_1 B1 X (kk9 := 4) (α := α) (by decide) (fun _ _ => rfl)) (step_same (st9) hL hcl rfl rfl hG))
    · intro L9 α a9 u9 K9 hL hcl hA hG hS h0 hK
      replace hL : L9 5 = false := hL
      have q77 : a9.tmps[77]? = some (.agg #[dV D l, .int .i32 (lV l)]) := hS 3 77 (by decide) rfl (by show 77 < 120; decide)
      have s77 := Rega.eval_of q77
      have q78 : a9.tmps[78]? = some (.agg #[.int .u32 D.src, .int .u32 D.inn]) := hS 4 78 (by decide) rfl (by show 78 < 120; decide)
      have s78 := Rega.eval_of q78
      go_simp
      have hM : ∀ i, i ∈ [] → act rfindFl1Cnt 5 L9 i := by intro i hi; simp at hi
      replace hG : OwnF w0 u9 (act rfindFl1Cnt 5 L9) (R9 L9 α) X := OwnF.reX (Eq.symm (if_neg (by rw [hL]; decide))) hG
      have hP : Own w0 u9 [] _ := hG.pick [] (by decide) (by simp)
      clear hM
      refine Calls.mono (ihl  _ _ _ hP (hNl.mono fun _ _ h => Or.inl h) (fun i hi => (hVl i hi).mono fun _ _ h => Or.inl h)) ?_
      rintro e9 u1 ⟨b0, b1, rfl, hQ⟩
      obtain ⟨α', hα'⟩ : ∃ α' : Rega.Atoms, α' = (fun j => if j = 5 then b0 else if j = 1005 then b1 else α j) := ⟨_, rfl⟩
      have hα : ∀ j, j % 1000 ≠ 5 → α' j = α j := fun j hj => by rw [hα']; simp only []; rw [if_neg (by omega), if_neg (by omega)]
      have hb0 : α' 5 = b0 := by rw [hα']; rfl
      have hb1 : α' 1005 = b1 := by rw [hα']; rfl
      skip
      have hty : ∀ i, act rfindFl1Cnt 5 L9 i → ∃ c9 y9, (R9 L9 α i).2 = Obj.cells c9 y9 (0, 0) ∧ y9 ≠ 66 := by
        intro i hi
        have hp := act_places hi
        replace hp : i ∈ [999, 1999, 2999, 3999, 4999, 11, 12, 13] := hp
        simp only [List.mem_cons, List.not_mem_nil, or_false] at hp
        rcases hp with rfl | rfl | rfl | rfl | rfl | rfl | rfl | rfl
        · exact ⟨_, _, rfl, by decide⟩
        · exact ⟨_, _, rfl, by decide⟩
        · exact ⟨_, _, rfl, by decide⟩
        · exact ⟨_, _, rfl, by decide⟩
        · exact ⟨_, _, rfl, by decide⟩
        · show ∃ c9 y9, (rfindFl1T11 D k A B b l x B1_4 B1_3 B1_2 B1_1 B1 L9 α).2 = Obj.cells c9 y9 (0, 0) ∧ _
          unfold rfindFl1T11
          repeat' split
          all_goals exact ⟨_, _, rfl, by decide⟩
        · show ∃ c9 y9, (rfindFl1T12 D k A B b l x B1_4 B1_3 B1_2 B1_1 B1 L9 α).2 = Obj.cells c9 y9 (0, 0) ∧ _
          unfold rfindFl1T12
          repeat' split
          all_goals exact ⟨_, _, rfl, by decide⟩
        · show ∃ c9 y9, (rfindFl1T13 D k A B b l x B1_4 B1_3 B1_2 B1_1 B1 L9 α).2 = Obj.cells c9 y9 (0, 0) ∧ _
          unfold rfindFl1T13
          repeat' split
          all_goals exact ⟨_, _, rfl, by decide⟩
      refine hK _ α' _ hα ?_ (OwnF.reX ?_ (step_xf (st9) hL hcl hα [] [] (by decide) (by decide) (by decide) (M := _) ?_ hG hXk hty hQ))
      · show _ = (.tuple #[.agg #[dO D (bfA A (α' 1005)), .int .i32 (lO (bfA A (α' 1005)))], .agg #[.int .i32 (k : Int)], .pointer (some ⟨D.ad k, 0, none⟩), .agg #[dO D (afB B (α' 1005)), .int .i32 (lO (afB B (α' 1005)))]] : Value)
        simp only [hb1]
      · unfold rfindFl1X
        rw [if_pos (show Rega.ran L9 5 5 = true from rfl), hb0, hb1]
      · rfl
    · intro L9 α a9 u9 K9 hL hcl hA hG hS h0 hK
      replace hL : L9 6 = false := hL
      have q79 : a9.tmps[79]? = some (.tuple #[.agg #[dO D (bfA A (α 1005)), .int .i32 (lO (bfA A (α 1005)))], .agg #[.int .i32 (k : Int)], .pointer (some ⟨D.ad k, 0, none⟩), .agg #[dO D (afB B (α 1005)), .int .i32 (lO (afB B (α 1005)))]]) := hS 5 79 (by decide) rfl (by show 79 < 120; decide)
      have s79 := Rega.eval_of q79
      go_simp
      exact hK _ α _ (fun _ _ => rfl) rfl (OwnF.reX (rfindFl1_hX D k A B b l x B1_4 B1_3 B1_2 B1_1 B1 X (kk9 := 6) (α := α) (by decide) (fun _ _ => rfl)) (step_same (st9) hL hcl rfl rfl hG))
    · intro L9 α a9 u9 K9 hL hcl hA hG hS h0 hK
      replace hL : L9 7 = false := hL
      have q73 : a9.tmps[73]? = some (.tuple #[.agg #[dO D (bfA A (α 1005)), .int .i32 (lO (bfA A (α 1005)))], .agg #[.int .i32 (k : Int)], .pointer (some ⟨D.ad k, 0, none⟩), .agg #[dO D (afB B (α 1005)), .int .i32 (lO (afB B (α 1005)))]]) := hS 6 73 (by decide) rfl (by show 73 < 120; decide)
      have s73 := Rega.eval_of q73
      go_simp
      exact hK _ α _ (fun _ _ => rfl) rfl (OwnF.reX (rfindFl1_hX D k A B b l x B1_4 B1_3 B1_2 B1_1 B1 X (kk9 := 7) (α := α) (by decide) (fun _ _ => rfl)) (step_same (st9) hL hcl rfl rfl hG))
    · intro L9 α a9 u9 K9 hL hcl hA hG hS h0 hK
      replace hL : L9 8 = false := hL
      have q73 : a9.tmps[73]? = some (.tuple #[.agg #[dO D (bfA A (α 1005)), .int .i32 (lO (bfA A (α 1005)))], .agg #[.int .i32 (k : Int)], .pointer (some ⟨D.ad k, 0, none⟩), .agg #[dO D (afB B (α 1005)), .int .i32 (lO (afB B (α 1005)))]]) := hS 6 73 (by decide) rfl (by show 73 < 120; decide)
      have s73 := Rega.eval_of q73
      go_simp
      exact hK _ α _ (fun _ _ => rfl) rfl (OwnF.reX (rfindFl1_hX D k A B b l x B1_4 B1_3 B1_2 B1_1 B1 X (kk9 := 8) (α := α) (by decide) (fun _ _ => rfl)) (step_same (st9) hL hcl rfl rfl hG))
    · intro L9 α a9 u9 K9 hL hcl hA hG hS h0 hK
      replace hL : L9 9 = false := hL
      have q73 : a9.tmps[73]? = some (.tuple #[.agg #[dO D (bfA A (α 1005)), .int .i32 (lO (bfA A (α 1005)))], .agg #[.int .i32 (k : Int)], .pointer (some ⟨D.ad k, 0, none⟩), .agg #[dO D (afB B (α 1005)), .int .i32 (lO (afB B (α 1005)))]]) := hS 6 73 (by decide) rfl (by show 73 < 120; decide)
      have s73 := Rega.eval_of q73
      go_simp
      exact hK _ α _ (fun _ _ => rfl) rfl (OwnF.reX (rfindFl1_hX D k A B b l x B1_4 B1_3 B1_2 B1_1 B1 X (kk9 := 9) (α := α) (by decide) (fun _ _ => rfl)) (step_same (st9) hL hcl rfl rfl hG))
    · intro L9 α a9 u9 K9 hL hcl hA hG hS h0 hK
      replace hL : L9 10 = false := hL
      have q73 : a9.tmps[73]? = some (.tuple #[.agg #[dO D (bfA A (α 1005)), .int .i32 (lO (bfA A (α 1005)))], .agg #[.int .i32 (k : Int)], .pointer (some ⟨D.ad k, 0, none⟩), .agg #[dO D (afB B (α 1005)), .int .i32 (lO (afB B (α 1005)))]]) := hS 6 73 (by decide) rfl (by show 73 < 120; decide)
      have s73 := Rega.eval_of q73
      go_simp
      exact hK _ α _ (fun _ _ => rfl) rfl (OwnF.reX (rfindFl1_hX D k A B b l x B1_4 B1_3 B1_2 B1_1 B1 X (kk9 := 10) (α := α) (by decide) (fun _ _ => rfl)) (step_same (st9) hL hcl rfl rfl hG))
    · intro L9 α a9 u9 K9 hL hcl hA hG hS h0 hK
      replace hL : L9 11 = false := hL
      go_simp
      have e1 : R9 (Rega.ran L9 11) (fun j => if j = 11 then u9.heap.size else α j) 11 = row (u9.heap.size) 35 #[.nilIface, .int .i32 0] := by
        show rfindFl1T11 D k A B b l x B1_4 B1_3 B1_2 B1_1 B1 (Rega.ran L9 11) (fun j => if j = 11 then u9.heap.size else α j) = _
        unfold rfindFl1T11
        exact ((if_neg (fun e => (fun e => by have := hcl 14 e 11 (by decide); rw [hL] at this; cases this) ((ran_ne (by decide)).symm.trans e))).trans rfl)
      exact hK _ (fun j => if j = 11 then u9.heap.size else α j) _ (fun j hj => if_neg (fun e => hj (by rw [e]))) rfl (OwnF.reX (rfindFl1_hX D k A B b l x B1_4 B1_3 B1_2 B1_1 B1 X (kk9 := 11) (α := α) (by decide) (fun j hj => if_neg (fun e => hj (by rw [e])))) (step_alloc (st9) hL hcl rfl rfl (by decide) _ e1 hG))
    · intro L9 α a9 u9 K9 hL hcl hA hG hS h0 hK
      replace hL : L9 12 = false := hL
      go_simp
      have e1 : R9 (Rega.ran L9 12) (fun j => if j = 12 then u9.heap.size else α j) 12 = row (u9.heap.size) 33 #[.int .i32 0] := by
        show rfindFl1T12 D k A B b l x B1_4 B1_3 B1_2 B1_1 B1 (Rega.ran L9 12) (fun j => if j = 12 then u9.heap.size else α j) = _
        unfold rfindFl1T12
        exact ((if_neg (fun e => (fun e => by have := hcl 15 e 12 (by decide); rw [hL] at this; cases this) ((ran_ne (by decide)).symm.trans e))).trans rfl)
      exact hK _ (fun j => if j = 12 then u9.heap.size else α j) _ (fun j hj => if_neg (fun e => hj (by rw [e]))) rfl (OwnF.reX (rfindFl1_hX D k A B b l x B1_4 B1_3 B1_2 B1_1 B1 X (kk9 := 12) (α := α) (by decide) (fun j hj => if_neg (fun e => hj (by rw [e])))) (step_alloc (st9) hL hcl rfl rfl (by decide) _ e1 hG))
    · intro L9 α a9 u9 K9 hL hcl hA hG hS h0 hK
      replace hL : L9 13 = false := hL
      go_simp
      have e1 : R9 (Rega.ran L9 13) (fun j => if j = 13 then u9.heap.size else α j) 13 = row (u9.heap.size) 35 #[.nilIface, .int .i32 0] := by
        show rfindFl1T13 D k A B b l x B1_4 B1_3 B1_2 B1_1 B1 (Rega.ran L9 13) (fun j => if j = 13 then u9.heap.size else α j) = _
        unfold rfindFl1T13
        exact ((if_neg (fun e => (fun e => by have := hcl 17 e 13 (by decide); rw [hL] at this; cases this) ((ran_ne (by decide)).symm.trans e))).trans rfl)
      exact hK _ (fun j => if j = 13 then u9.heap.size else α j) _ (fun j hj => if_neg (fun e => hj (by rw [e]))) rfl (OwnF.reX (rfindFl1_hX D k A B b l x B1_4 B1_3 B1_2 B1_1 B1 X (kk9 := 13) (α := α) (by decide) (fun j hj => if_neg (fun e => hj (by rw [e])))) (step_alloc (st9) hL hcl rfl rfl (by decide) _ e1 hG))
    · intro L9 α a9 u9 K9 hL hcl hA hG hS h0 hK
      replace hL : L9 14 = false := hL
      have q14 : a9.tmps[14]? = some (.pointer (some ⟨α 11, 0, none⟩)) := hS 11 14 (by decide) rfl (by show 14 < 120; decide)
      have s14 := Rega.eval_of q14
      have q80 : a9.tmps[80]? = some (.agg #[dO D (bfA A (α 1005)), .int .i32 (lO (bfA A (α 1005)))]) := hS 7 80 (by decide) rfl (by show 80 < 120; decide)
      have s80 := Rega.eval_of q80
      have e0 : R9 L9 α 11 = row (α 11) 35 #[.nilIface, .int .i32 0] := by
        show rfindFl1T11 D k A B b l x B1_4 B1_3 B1_2 B1_1 B1 L9 α = _
        unfold rfindFl1T11
        rw [if_neg (by rw [hL]; decide)]
      have hr := hG.rowAt 11 (act_new 11 rfl (hA 11 (by decide))) e0
      have c0 : u9.cell? ⟨α 11, 0, none⟩ = some (.nilIface) := hr.cell rfl
      have y0 : u9.frozen? ⟨α 11, 0, none⟩ = false := hr.free (0)
      have c1 : u9.cell? ⟨α 11, 1, none⟩ = some (.int .i32 0) := hr.cell rfl
      have y1 : u9.frozen? ⟨α 11, 1, none⟩ = false := hr.free (1)
      clear hr
      have E0 := Lib.hid e0
      clear e0
      go_simp
      have e1 : R9 (Rega.ran L9 14) α 11 = row (α 11) 35 #[dO D (bfA A (α 1005)), .int .i32 (lO (bfA A (α 1005)))] := by
        show rfindFl1T11 D k A B b l x B1_4 B1_3 B1_2 B1_1 B1 (Rega.ran L9 14) α = _
        unfold rfindFl1T11
        rw [if_pos (show Rega.ran L9 14 14 = true from rfl)]
      exact hK _ α _ (fun _ _ => rfl) rfl (OwnF.reX (rfindFl1_hX D k A B b l x B1_4 B1_3 B1_2 B1_1 B1 X (kk9 := 14) (α := α) (by decide) (fun _ _ => rfl)) (step_sets (st9) hL hcl rfl 11 rfl (act_new 11 rfl (hA 11 (by decide))) E0.out (0) [dO D (bfA A (α 1005)), .int .i32 (lO (bfA A (α 1005)))] (e1.trans rfl) hG))
    · intro L9 α a9 u9 K9 hL hcl hA hG hS h0 hK
      replace hL : L9 15 = false := hL
      have q15 : a9.tmps[15]? = some (.pointer (some ⟨α 12, 0, none⟩)) := hS 12 15 (by decide) rfl (by show 15 < 120; decide)
      have s15 := Rega.eval_of q15
      have q81 : a9.tmps[81]? = some (.agg #[.int .i32 (k : Int)]) := hS 8 81 (by decide) rfl (by show 81 < 120; decide)
      have s81 := Rega.eval_of q81
      have e0 : R9 L9 α 12 = row (α 12) 33 #[.int .i32 0] := by
        show rfindFl1T12 D k A B b l x B1_4 B1_3 B1_2 B1_1 B1 L9 α = _
        unfold rfindFl1T12
        rw [if_neg (by rw [hL]; decide)]
      have hr := hG.rowAt 12 (act_new 12 rfl (hA 12 (by decide))) e0
      have c0 : u9.cell? ⟨α 12, 0, none⟩ = some (.int .i32 0) := hr.cell rfl
      have y0 : u9.frozen? ⟨α 12, 0, none⟩ = false := hr.free (0)
      clear hr
      have E0 := Lib.hid e0
      clear e0
      go_simp
      have e1 : R9 (Rega.ran L9 15) α 12 = row (α 12) 33 #[.int .i32 (k : Int)] := by
        show rfindFl1T12 D k A B b l x B1_4 B1_3 B1_2 B1_1 B1 (Rega.ran L9 15) α = _
        unfold rfindFl1T12
        rw [if_pos (show Rega.ran L9 15 15 = true from rfl)]
      exact hK _ α _ (fun _ _ => rfl) rfl (OwnF.reX (rfindFl1_hX D k A B b l x B1_4 B1_3 B1_2 B1_1 B1 X (kk9 := 15) (α := α) (by decide) (fun _ _ => rfl)) (step_sets (st9) hL hcl rfl 12 rfl (act_new 12 rfl (hA 12 (by decide))) E0.out (0) [.int .i32 (k : Int)] (e1.trans rfl) hG))
    · intro L9 α a9 u9 K9 hL hcl hA hG hS h0 hK
      replace hL : L9 16 = false := hL
      have q82 : a9.tmps[82]? = some (.pointer (some ⟨D.ad k, 0, none⟩)) := hS 9 82 (by decide) rfl (by show 82 < 120; decide)
      have s82 := Rega.eval_of q82
      go_simp
      exact hK _ α _ (fun _ _ => rfl) rfl (OwnF.reX (rfindFl1_hX D k A B b l x B1_4 B1_3 B1_2 B1_1 B1 X (kk9 := 16) (α := α) (by decide) (fun _ _ => rfl)) (step_same (st9) hL hcl rfl rfl hG))
    · intro L9 α a9 u9 K9 hL hcl hA hG hS h0 hK
      replace hL : L9 17 = false := hL
      have q17 : a9.tmps[17]? = some (.pointer (some ⟨α 13, 0, none⟩)) := hS 13 17 (by decide) rfl (by show 17 < 120; decide)
      have s17 := Rega.eval_of q17
      have q83 : a9.tmps[83]? = some (.agg #[dO D (afB B (α 1005)), .int .i32 (lO (afB B (α 1005)))]) := hS 10 83 (by decide) rfl (by show 83 < 120; decide)
      have s83 := Rega.eval_of q83
      have e0 : R9 L9 α 13 = row (α 13) 35 #[.nilIface, .int .i32 0] := by
        show rfindFl1T13 D k A B b l x B1_4 B1_3 B1_2 B1_1 B1 L9 α = _
        unfold rfindFl1T13
        rw [if_neg (by rw [hL]; decide)]
      have hr := hG.rowAt 13 (act_new 13 rfl (hA 13 (by decide))) e0
      have c0 : u9.cell? ⟨α 13, 0, none⟩ = some (.nilIface) := hr.cell rfl
      have y0 : u9.frozen? ⟨α 13, 0, none⟩ = false := hr.free (0)
      have c1 : u9.cell? ⟨α 13, 1, none⟩ = some (.int .i32 0) := hr.cell rfl
      have y1 : u9.frozen? ⟨α 13, 1, none⟩ = false := hr.free (1)
      clear hr
      have E0 := Lib.hid e0
      clear e0
      go_simp
      have e1 : R9 (Rega.ran L9 17) α 13 = row (α 13) 35 #[dO D (afB B (α 1005)), .int .i32 (lO (afB B (α 1005)))] := by
        show rfindFl1T13 D k A B b l x B1_4 B1_3 B1_2 B1_1 B1 (Rega.ran L9 17) α = _
        unfold rfindFl1T13
        rw [if_pos (show Rega.ran L9 17 17 = true from rfl)]
      exact hK _ α _ (fun _ _ => rfl) rfl (OwnF.reX (rfindFl1_hX D k A B b l x B1_4 B1_3 B1_2 B1_1 B1 X (kk9 := 17) (α := α) (by decide) (fun _ _ => rfl)) (step_sets (st9) hL hcl rfl 13 rfl (act_new 13 rfl (hA 13 (by decide))) E0.out (0) [dO D (afB B (α 1005)), .int .i32 (lO (afB B (α 1005)))] (e1.trans rfl) hG))
  clear st9
  intro α u hG
  have e0 : R9 (fun k => decide (k < 18)) α 999 = row (B1_4) 35 #[.nilIface, .int .i32 0] := rfl
  have e1 : R9 (fun k => decide (k < 18)) α 1999 = row (B1_3) 33 #[.int .i32 0] := rfl
  have e2 : R9 (fun k => decide (k < 18)) α 2999 = row (B1_2) 35 #[.nilIface, .int .i32 0] := rfl
  have e3 : R9 (fun k => decide (k < 18)) α 3999 = row (B1_1) 27 #[.int .u32 D.src, .int .u32 D.inn] := rfl
  have e4 : R9 (fun k => decide (k < 18)) α 4999 = row (B1) 35 #[.iface 63 (.pointer (some ⟨b, 0, none⟩)), .int .i32 x] := rfl
  have e5 : R9 (fun k => decide (k < 18)) α 11 = row (α 11) 35 #[dO D (bfA A (α 1005)), .int .i32 (lO (bfA A (α 1005)))] := by
    show rfindFl1T11 D k A B b l x B1_4 B1_3 B1_2 B1_1 B1 (fun k => decide (k < 18)) α = _
    unfold rfindFl1T11
    rw [if_pos (by decide)]
  have e6 : R9 (fun k => decide (k < 18)) α 12 = row (α 12) 33 #[.int .i32 (k : Int)] := by
    show rfindFl1T12 D k A B b l x B1_4 B1_3 B1_2 B1_1 B1 (fun k => decide (k < 18)) α = _
    unfold rfindFl1T12
    rw [if_pos (by decide)]
  have e7 : R9 (fun k => decide (k < 18)) α 13 = row (α 13) 35 #[dO D (afB B (α 1005)), .int .i32 (lO (afB B (α 1005)))] := by
    show rfindFl1T13 D k A B b l x B1_4 B1_3 B1_2 B1_1 B1 (fun k => decide (k < 18)) α = _
    unfold rfindFl1T13
    rw [if_pos (by decide)]
  replace hG : OwnF w0 u (act rfindFl1Cnt 5 (fun k => decide (k < 18))) (R9 (fun k => decide (k < 18)) α) ((XF X D k A B (α 5) (α 1005))) := OwnF.reX (if_pos (by decide)).symm hG
  have hO : Own w0 u [row (B1_4) 35 #[.nilIface, .int .i32 0], row (B1_3) 33 #[.int .i32 0], row (B1_2) 35 #[.nilIface, .int .i32 0], row (B1_1) 27 #[.int .u32 D.src, .int .u32 D.inn], row (B1) 35 #[.iface 63 (.pointer (some ⟨b, 0, none⟩)), .int .i32 x], row (α 11) 35 #[dO D (bfA A (α 1005)), .int .i32 (lO (bfA A (α 1005)))], row (α 12) 33 #[.int .i32 (k : Int)], row (α 13) 35 #[dO D (afB B (α 1005)), .int .i32 (lO (afB B (α 1005)))]] ((XF X D k A B (α 5) (α 1005))) := (hG.list [999, 1999, 2999, 3999, 4999, 11, 12, 13] (by decide) (act_all (by decide))).conv (by
    show [R9 (fun k => decide (k < 18)) α 999, R9 (fun k => decide (k < 18)) α 1999, R9 (fun k => decide (k < 18)) α 2999, R9 (fun k => decide (k < 18)) α 3999, R9 (fun k => decide (k < 18)) α 4999, R9 (fun k => decide (k < 18)) α 11, R9 (fun k => decide (k < 18)) α 12, R9 (fun k => decide (k < 18)) α 13] = _
    rw [e0, e1, e2, e3, e4, e5, e6, e7])
  clear hG e0 e1 e2 e3 e4 e5 e6 e7 R9
  generalize hfr : Rega.frameAt _ _ _ _ _ = fr
  have hdf : fr = ⟨#[.agg #[.iface 63 (.pointer (some ⟨b, 0, none⟩)), .int .i32 x], .agg #[.int .u32 D.src, .int .u32 D.inn], .pointer (some ⟨B1, 0, none⟩), .pointer (some ⟨B1_1, 0, none⟩), .pointer (some ⟨B1_2, 0, none⟩), .pointer (some ⟨B1_3, 0, none⟩), .pointer none, .pointer (some ⟨B1_4, 0, none⟩), .pointer none, .bool false, undef, undef, .pointer (some ⟨b, 0, none⟩), .bool true, .pointer (some ⟨α 11, 0, none⟩), .pointer (some ⟨α 12, 0, none⟩), .pointer (some ⟨D.ad k, 0, none⟩), .pointer (some ⟨α 13, 0, none⟩), undef, undef, undef, undef, .tuple #[.pointer none, .bool false], .pointer (some ⟨B1, 0, none⟩), .iface 63 (.pointer (some ⟨b, 0, none⟩)), .tuple #[.pointer none, .bool false], .pointer none, .bool false, .bool false, undef, undef, undef, undef, undef, undef, undef, undef, undef, undef, undef, undef, undef, undef, undef, undef, undef, undef, undef, undef, undef, undef, undef, undef, undef, undef, undef, undef, undef, undef, .tuple #[.pointer (some ⟨b, 0, none⟩), .bool true], .pointer (some ⟨B1, 0, none⟩), .iface 63 (.pointer (some ⟨b, 0, none⟩)), .tuple #[.pointer (some ⟨b, 0, none⟩), .bool true], .pointer (some ⟨b, 0, none⟩), .bool true, .bool true, .bool true, .pointer (some ⟨b, 0, none⟩), .pointer (some ⟨b, 0, none⟩), .pointer (some ⟨b, 4, none⟩), .int .u8 36, .bool true, .bool true, .tuple #[.agg #[dO D (bfA A (α 1005)), .int .i32 (lO (bfA A (α 1005)))], .agg #[.int .i32 (k : Int)], .pointer (some ⟨D.ad k, 0, none⟩), .agg #[dO D (afB B (α 1005)), .int .i32 (lO (afB B (α 1005)))]], .pointer (some ⟨b, 0, none⟩), .pointer (some ⟨b, 0, none⟩), .pointer (some ⟨b, 0, none⟩), .agg #[dV D l, .int .i32 (lV l)], .agg #[.int .u32 D.src, .int .u32 D.inn], .tuple #[.agg #[dO D (bfA A (α 1005)), .int .i32 (lO (bfA A (α 1005)))], .agg #[.int .i32 (k : Int)], .pointer (some ⟨D.ad k, 0, none⟩), .agg #[dO D (afB B (α 1005)), .int .i32 (lO (afB B (α 1005)))]], .agg #[dO D (bfA A (α 1005)), .int .i32 (lO (bfA A (α 1005)))], .agg #[.int .i32 (k : Int)], .pointer (some ⟨D.ad k, 0, none⟩), .agg #[dO D (afB B (α 1005)), .int .i32 (lO (afB B (α 1005)))], undef, undef, undef, undef, undef, undef, undef, undef, undef, undef, undef, undef, undef, undef, undef, undef, undef, undef, undef, undef, undef, undef, undef, undef, undef, undef, undef, undef, undef, undef, undef, undef, undef, undef, undef, undef], []⟩ := by rw [← hfr]; kernel_rfl
  clear hfr
  subst hdf
  generalize α 5 = nd3 at hO ⊢
  generalize α 11 = nd4 at hO ⊢
  generalize α 12 = nd5 at hO ⊢
  generalize α 13 = nd6 at hO ⊢
  generalize α 1005 = nd7 at hO ⊢
  clear α
  have hb2 : (XF X D k A B nd3 nd7) b (.cells (binC D l r) 66 (0, 0)) := Or.inl ⟨hb, hbk⟩
  cases hcs : afB B nd7
  · skip
    have hN : Own w0 u [row (B1_4) 35 #[.nilIface, .int .i32 0], row (B1_3) 33 #[.int .i32 0], row (B1_2) 35 #[.nilIface, .int .i32 0], row (B1_1) 27 #[.int .u32 D.src, .int .u32 D.inn], row (B1) 35 #[.iface 63 (.pointer (some ⟨b, 0, none⟩)), .int .i32 x], row (nd4) 35 #[dO D (bfA A nd7), .int .i32 (lO (bfA A nd7))], row (nd5) 33 #[.int .i32 (k : Int)], row (nd6) 35 #[dO D none, .int .i32 (lO none)]] (XF X D k A B nd3 nd7) := by rw [hcs] at hO; exact hO
    clear hO
    have hO := hN
    clear hN
    obtain ⟨c9_0_0, c9_0_1, lt9_0, y9_0, -⟩ := hO.k2 0 rfl
    obtain ⟨c9_1_0, lt9_1, y9_1, -⟩ := hO.k1 1 rfl
    obtain ⟨c9_2_0, c9_2_1, lt9_2, y9_2, -⟩ := hO.k2 2 rfl
    obtain ⟨c9_3_0, c9_3_1, lt9_3, y9_3, -⟩ := hO.k2 3 rfl
    obtain ⟨c9_4_0, c9_4_1, lt9_4, y9_4, -⟩ := hO.k2 4 rfl
    obtain ⟨c9_5_0, c9_5_1, lt9_5, y9_5, -⟩ := hO.k2 5 rfl
    obtain ⟨c9_6_0, lt9_6, y9_6, -⟩ := hO.k1 6 rfl
    obtain ⟨c9_7_0, c9_7_1, lt9_7, y9_7, -⟩ := hO.k2 7 rfl
    have HO := Lib.hid hO
    clear hO
    have fx0_0 : u.cell? ⟨b, 0, none⟩ = some (dV D l) := HO.out.fcell hb2 0 rfl
    have fx0_1 : u.cell? ⟨b, 1, none⟩ = some (.int .i32 (lV l)) := HO.out.fcell hb2 1 rfl
    have fx0_2 : u.cell? ⟨b, 2, none⟩ = some (dV D r) := HO.out.fcell hb2 2 rfl
    have fx0_3 : u.cell? ⟨b, 3, none⟩ = some (.int .i32 (lV r)) := HO.out.fcell hb2 3 rfl
    have fx0_4 : u.cell? ⟨b, 4, none⟩ = some (.int .u8 36) := HO.out.fcell hb2 4 rfl
    have fx0_5 : u.cell? ⟨b, 5, none⟩ = some (.bool false) := HO.out.fcell hb2 5 rfl
    go_wp2_with (first | (with_reducible refine Own.stay (fn := Try.f17) ?_) | fail)
    try with_reducible refine Own.Stay.mk ?_
    have hO := HO.out
    clear HO fx0_0 fx0_1 fx0_2 fx0_3 fx0_4 fx0_5 c9_0_0 c9_0_1 lt9_0 y9_0 c9_1_0 lt9_1 y9_1 c9_2_0 c9_2_1 lt9_2 y9_2 c9_3_0 c9_3_1 lt9_3 y9_3 c9_4_0 c9_4_1 lt9_4 y9_4 c9_5_0 c9_5_1 lt9_5 y9_5 c9_6_0 lt9_6 y9_6 c9_7_0 c9_7_1 lt9_7 y9_7
    have st9 := rfindFln1_st D k A b r x B1_4 B1_3 B1_2 B1_1 B1 nd4 nd5 nd6 nd7
    let R9 := rfindFln1R D k A b r x B1_4 B1_3 B1_2 B1_1 B1 nd4 nd5 nd6 nd7
    refine wp_region_own (e := rfindFln1E D k A b r x B1_4 B1_3 B1_2 B1_1 B1 nd4 nd5 nd6 nd7) (anc := rfindFln1Anc) (G := (fun L9 α u9 => OwnF w0 u9 (act rfindFln1Cnt 8 L9) (rfindFln1R D k A b r x B1_4 B1_3 B1_2 B1_1 B1 nd4 nd5 nd6 nd7 L9 α) (XF X D k A B nd3 nd7))) (by kernel_rfl) (by kernel_rfl) (by kernel_rfl) (by kernel_rfl) (rfindFln1_he D k A b r x B1_4 B1_3 B1_2 B1_1 B1 nd4 nd5 nd6 nd7) ?_ (RunsAll.all ?_) ?_
    · have hp : ∀ i, act rfindFln1Cnt 8 (fun _ => false) i → i ∈ [999, 1999, 2999, 3999, 4999, 5999, 6999, 7999] := by
        intro i hi
        have h9 : i % 1000 = 999 := by
          by_cases h : i % 1000 = 999
          · exact h
          · exact absurd (act_lt hi h) (by simp)
        unfold act at hi
        rw [if_pos h9] at hi
        simp only [List.mem_cons, List.not_mem_nil, or_false]
        omega
      refine hO.drew.family (fun i hi => ?_) (fun i j hi hj hij => ?_)
      · have := hp i hi
        simp only [List.mem_cons, List.not_mem_nil, or_false] at this
        rcases this with rfl | rfl | rfl | rfl | rfl | rfl | rfl | rfl <;> rfl
      · have h1 := hp i hi
        have h2 := hp j hj
        simp only [List.mem_cons, List.not_mem_nil, or_false] at h1 h2
        omega
    · refine ⟨?_, ?_, ?_, ?_, ?_, ?_, ?_, ?_, ?_, ?_, ?_, ?_, ?_, trivial⟩
      · intro L9 α a9 u9 K9 hL hcl hA hG hS h0 hK
        replace hL : L9 0 = false := hL
        have q14 : a9.tmps[14]? = some (.pointer (some ⟨nd4, 0, none⟩)) := (h0 14 (by kernel_rfl)).trans rfl
        have s14 := Rega.eval_of q14
        have e0 : R9 L9 α 5999 = row (nd4) 35 #[dO D (bfA A nd7), .int .i32 (lO (bfA A nd7))] := rfl
        have hr := hG.rowAt 5999 (act_base 5999 rfl) e0
        have c0 : u9.cell? ⟨nd4, 0, none⟩ = some (dO D (bfA A nd7)) := hr.cell rfl
        have c1 : u9.cell? ⟨nd4, 1, none⟩ = some (.int .i32 (lO (bfA A nd7))) := hr.cell rfl
        clear hr e0
        go_simp
        exact hK _ α _ (fun _ _ => rfl) rfl (step_same (st9) hL hcl rfl rfl hG)
      · intro L9 α a9 u9 K9 hL hcl hA hG hS h0 hK
        replace hL : L9 1 = false := hL
        have q15 : a9.tmps[15]? = some (.pointer (some ⟨nd5, 0, none⟩)) := (h0 15 (by kernel_rfl)).trans rfl
        have s15 := Rega.eval_of q15
        have e0 : R9 L9 α 6999 = row (nd5) 33 #[.int .i32 (k : Int)] := rfl
        have hr := hG.rowAt 6999 (act_base 6999 rfl) e0
        have c0 : u9.cell? ⟨nd5, 0, none⟩ = some (.int .i32 (k : Int)) := hr.cell rfl
        clear hr e0
        go_simp
        exact hK _ α _ (fun _ _ => rfl) rfl (step_same (st9) hL hcl rfl rfl hG)
      · intro L9 α a9 u9 K9 hL hcl hA hG hS h0 hK
        replace hL : L9 2 = false := hL
        have q16 : a9.tmps[16]? = some (.pointer (some ⟨D.ad k, 0, none⟩)) := (h0 16 (by kernel_rfl)).trans rfl
        have s16 := Rega.eval_of q16
        go_simp
        exact hK _ α _ (fun _ _ => rfl) rfl (step_same (st9) hL hcl rfl rfl hG)
      · intro L9 α a9 u9 K9 hL hcl hA hG hS h0 hK
        replace hL : L9 3 = false := hL
        have q17 : a9.tmps[17]? = some (.pointer (some ⟨nd6, 0, none⟩)) := (h0 17 (by kernel_rfl)).trans rfl
        have s17 := Rega.eval_of q17
        have e0 : R9 L9 α 7999 = row (nd6) 35 #[dO D none, .int .i32 (lO none)] := rfl
        have hr := hG.rowAt 7999 (act_base 7999 rfl) e0
        have c0 : u9.cell? ⟨nd6, 0, none⟩ = some (dO D none) := hr.cell rfl
        have c1 : u9.cell? ⟨nd6, 1, none⟩ = some (.int .i32 (lO none)) := hr.cell rfl
        clear hr e0
        go_simp
        exact hK _ α _ (fun _ _ => rfl) rfl (step_same (st9) hL hcl rfl rfl hG)
      · intro L9 α a9 u9 K9 hL hcl hA hG hS h0 hK
        replace hL : L9 4 = false := hL
        have q12 : a9.tmps[12]? = some (.pointer (some ⟨b, 0, none⟩)) := (h0 12 (by kernel_rfl)).trans rfl
        have s12 := Rega.eval_of q12
        go_simp
        exact hK _ α _ (fun _ _ => rfl) rfl (step_same (st9) hL hcl rfl rfl hG)
      · intro L9 α a9 u9 K9 hL hcl hA hG hS h0 hK
        replace hL : L9 5 = false := hL
        have q90 : a9.tmps[90]? = some (.pointer (some ⟨b, 0, none⟩)) := hS 4 90 (by decide) rfl (by show 90 < 120; decide)
        have s90 := Rega.eval_of q90
        go_simp
        exact hK _ α _ (fun _ _ => rfl) rfl (step_same (st9) hL hcl rfl rfl hG)
      · intro L9 α a9 u9 K9 hL hcl hA hG hS h0 hK
        replace hL : L9 6 = false := hL
        have q91 : a9.tmps[91]? = some (.pointer (some ⟨b, 0, none⟩)) := hS 5 91 (by decide) rfl (by show 91 < 120; decide)
        have s91 := Rega.eval_of q91
        go_simp
        exact hK _ α _ (fun _ _ => rfl) rfl (step_same (st9) hL hcl rfl rfl hG)
      · intro L9 α a9 u9 K9 hL hcl hA hG hS h0 hK
        replace hL : L9 7 = false := hL
        have q92 : a9.tmps[92]? = some (.pointer (some ⟨b, 2, none⟩)) := hS 6 92 (by decide) rfl (by show 92 < 120; decide)
        have s92 := Rega.eval_of q92
        have c0 : u9.cell? ⟨b, 2, none⟩ = some (dV D r) := Base.RowAt.cell (show Base.RowAt u9 b 66 (binC D l r) from (hG.frame _ _ hb2).2.1) rfl
        have c1 : u9.cell? ⟨b, 3, none⟩ = some (.int .i32 (lV r)) := Base.RowAt.cell (show Base.RowAt u9 b 66 (binC D l r) from (hG.frame _ _ hb2).2.1) rfl
        go_simp
        exact hK _ α _ (fun _ _ => rfl) rfl (step_same (st9) hL hcl rfl rfl hG)
      · intro L9 α a9 u9 K9 hL hcl hA hG hS h0 hK
        replace hL : L9 8 = false := hL
        have q89 : a9.tmps[89]? = some (.agg #[dO D none, .int .i32 (lO none)]) := hS 3 89 (by decide) rfl (by show 89 < 120; decide)
        have s89 := Rega.eval_of q89
        have q93 : a9.tmps[93]? = some (.agg #[dV D r, .int .i32 (lV r)]) := hS 7 93 (by decide) rfl (by show 93 < 120; decide)
        have s93 := Rega.eval_of q93
        go_simp
        have hM : ∀ i, i ∈ [] → act rfindFln1Cnt 8 L9 i := by intro i hi; simp at hi
        have hP : Own w0 u9 [] _ := hG.pick [] (by decide) (by simp)
        clear hM
        refine Calls.mono (joinO0 D r _ _ _ hP ) ?_
        rintro e9 u1 ⟨rfl, hQ⟩
        obtain ⟨α', hα'⟩ : ∃ α' : Rega.Atoms, α' = α := ⟨_, rfl⟩
        have hα : ∀ j, j % 1000 ≠ 8 → α' j = α j := fun j hj => by rw [hα']
        skip
        refine hK _ α' _ hα ?_ (step_call (st9) hL hcl hα [] [] (by decide) (by decide) (by decide) (M := _) ?_ hG hQ)
        · rfl
        · rfl
      · intro L9 α a9 u9 K9 hL hcl hA hG hS h0 hK
        replace hL : L9 9 = false := hL
        have q4 : a9.tmps[4]? = some (.pointer (some ⟨B1_2, 0, none⟩)) := (h0 4 (by kernel_rfl)).trans rfl
        have s4 := Rega.eval_of q4
        have q86 : a9.tmps[86]? = some (.agg #[dO D (bfA A nd7), .int .i32 (lO (bfA A nd7))]) := hS 0 86 (by decide) rfl (by show 86 < 120; decide)
        have s86 := Rega.eval_of q86
        have e0 : R9 L9 α 2999 = row (B1_2) 35 #[.nilIface, .int .i32 0] := by
          show rfindFln1T2999 D k A b r x B1_4 B1_3 B1_2 B1_1 B1 nd4 nd5 nd6 nd7 L9 α = _
          unfold rfindFln1T2999
          rw [if_neg (by rw [hL]; decide)]
        have hr := hG.rowAt 2999 (act_base 2999 rfl) e0
        have c0 : u9.cell? ⟨B1_2, 0, none⟩ = some (.nilIface) := hr.cell rfl
        have y0 : u9.frozen? ⟨B1_2, 0, none⟩ = false := hr.free (0)
        have c1 : u9.cell? ⟨B1_2, 1, none⟩ = some (.int .i32 0) := hr.cell rfl
        have y1 : u9.frozen? ⟨B1_2, 1, none⟩ = false := hr.free (1)
        clear hr
        have E0 := Lib.hid e0
        clear e0
        go_simp
        have e1 : R9 (Rega.ran L9 9) α 2999 = row (B1_2) 35 #[dO D (bfA A nd7), .int .i32 (lO (bfA A nd7))] := by
          show rfindFln1T2999 D k A b r x B1_4 B1_3 B1_2 B1_1 B1 nd4 nd5 nd6 nd7 (Rega.ran L9 9) α = _
          unfold rfindFln1T2999
          rw [if_pos (show Rega.ran L9 9 9 = true from rfl)]
        exact hK _ α _ (fun _ _ => rfl) rfl (step_sets (st9) hL hcl rfl 2999 rfl (act_base 2999 rfl) E0.out (0) [dO D (bfA A nd7), .int .i32 (lO (bfA A nd7))] (e1.trans rfl) hG)
      · intro L9 α a9 u9 K9 hL hcl hA hG hS h0 hK
        replace hL : L9 10 = false := hL
        have q5 : a9.tmps[5]? = some (.pointer (some ⟨B1_3, 0, none⟩)) := (h0 5 (by kernel_rfl)).trans rfl
        have s5 := Rega.eval_of q5
        have q87 : a9.tmps[87]? = some (.agg #[.int .i32 (k : Int)]) := hS 1 87 (by decide) rfl (by show 87 < 120; decide)
        have s87 := Rega.eval_of q87
        have e0 : R9 L9 α 1999 = row (B1_3) 33 #[.int .i32 0] := by
          show rfindFln1T1999 D k A b r x B1_4 B1_3 B1_2 B1_1 B1 nd4 nd5 nd6 nd7 L9 α = _
          unfold rfindFln1T1999
          rw [if_neg (by rw [hL]; decide)]
        have hr := hG.rowAt 1999 (act_base 1999 rfl) e0
        have c0 : u9.cell? ⟨B1_3, 0, none⟩ = some (.int .i32 0) := hr.cell rfl
        have y0 : u9.frozen? ⟨B1_3, 0, none⟩ = false := hr.free (0)
        clear hr
        have E0 := Lib.hid e0
        clear e0
        go_simp
        have e1 : R9 (Rega.ran L9 10) α 1999 = row (B1_3) 33 #[.int .i32 (k : Int)] := by
          show rfindFln1T1999 D k A b r x B1_4 B1_3 B1_2 B1_1 B1 nd4 nd5 nd6 nd7 (Rega.ran L9 10) α = _
          unfold rfindFln1T1999
          rw [if_pos (show Rega.ran L9 10 10 = true from rfl)]
        exact hK _ α _ (fun _ _ => rfl) rfl (step_sets (st9) hL hcl rfl 1999 rfl (act_base 1999 rfl) E0.out (0) [.int .i32 (k : Int)] (e1.trans rfl) hG)
      · intro L9 α a9 u9 K9 hL hcl hA hG hS h0 hK
        replace hL : L9 11 = false := hL
        have q88 : a9.tmps[88]? = some (.pointer (some ⟨D.ad k, 0, none⟩)) := hS 2 88 (by decide) rfl (by show 88 < 120; decide)
        have s88 := Rega.eval_of q88
        go_simp
        exact hK _ α _ (fun _ _ => rfl) rfl (step_same (st9) hL hcl rfl rfl hG)
      · intro L9 α a9 u9 K9 hL hcl hA hG hS h0 hK
        replace hL : L9 12 = false := hL
        have q7 : a9.tmps[7]? = some (.pointer (some ⟨B1_4, 0, none⟩)) := (h0 7 (by kernel_rfl)).trans rfl
        have s7 := Rega.eval_of q7
        have q94 : a9.tmps[94]? = some (.agg #[dV D r, .int .i32 (lV r)]) := hS 8 94 (by decide) rfl (by show 94 < 120; decide)
        have s94 := Rega.eval_of q94
        have e0 : R9 L9 α 999 = row (B1_4) 35 #[.nilIface, .int .i32 0] := by
          show rfindFln1T999 D k A b r x B1_4 B1_3 B1_2 B1_1 B1 nd4 nd5 nd6 nd7 L9 α = _
          unfold rfindFln1T999
          rw [if_neg (by rw [hL]; decide)]
        have hr := hG.rowAt 999 (act_base 999 rfl) e0
        have c0 : u9.cell? ⟨B1_4, 0, none⟩ = some (.nilIface) := hr.cell rfl
        have y0 : u9.frozen? ⟨B1_4, 0, none⟩ = false := hr.free (0)
        have c1 : u9.cell? ⟨B1_4, 1, none⟩ = some (.int .i32 0) := hr.cell rfl
        have y1 : u9.frozen? ⟨B1_4, 1, none⟩ = false := hr.free (1)
        clear hr
        have E0 := Lib.hid e0
        clear e0
        go_simp
        have e1 : R9 (Rega.ran L9 12) α 999 = row (B1_4) 35 #[dV D r, .int .i32 (lV r)] := by
          show rfindFln1T999 D k A b r x B1_4 B1_3 B1_2 B1_1 B1 nd4 nd5 nd6 nd7 (Rega.ran L9 12) α = _
          unfold rfindFln1T999
          rw [if_pos (show Rega.ran L9 12 12 = true from rfl)]
        exact hK _ α _ (fun _ _ => rfl) rfl (step_sets (st9) hL hcl rfl 999 rfl (act_base 999 rfl) E0.out (0) [dV D r, .int .i32 (lV r)] (e1.trans rfl) hG)
    clear st9
    intro α u hG
    have e0 : R9 (fun k => decide (k < 13)) α 999 = row (B1_4) 35 #[dV D r, .int .i32 (lV r)] := by
      show rfindFln1T999 D k A b r x B1_4 B1_3 B1_2 B1_1 B1 nd4 nd5 nd6 nd7 (fun k => decide (k < 13)) α = _
      unfold rfindFln1T999
      rw [if_pos (by decide)]
    have e1 : R9 (fun k => decide (k < 13)) α 1999 = row (B1_3) 33 #[.int .i32 (k : Int)] := by
      show rfindFln1T1999 D k A b r x B1_4 B1_3 B1_2 B1_1 B1 nd4 nd5 nd6 nd7 (fun k => decide (k < 13)) α = _
      unfold rfindFln1T1999
      rw [if_pos (by decide)]
    have e2 : R9 (fun k => decide (k < 13)) α 2999 = row (B1_2) 35 #[dO D (bfA A nd7), .int .i32 (lO (bfA A nd7))] := by
      show rfindFln1T2999 D k A b r x B1_4 B1_3 B1_2 B1_1 B1 nd4 nd5 nd6 nd7 (fun k => decide (k < 13)) α = _
      unfold rfindFln1T2999
      rw [if_pos (by decide)]
    have e3 : R9 (fun k => decide (k < 13)) α 3999 = row (B1_1) 27 #[.int .u32 D.src, .int .u32 D.inn] := rfl
    have e4 : R9 (fun k => decide (k < 13)) α 4999 = row (B1) 35 #[.iface 63 (.pointer (some ⟨b, 0, none⟩)), .int .i32 x] := rfl
    have e5 : R9 (fun k => decide (k < 13)) α 5999 = row (nd4) 35 #[dO D (bfA A nd7), .int .i32 (lO (bfA A nd7))] := rfl
    have e6 : R9 (fun k => decide (k < 13)) α 6999 = row (nd5) 33 #[.int .i32 (k : Int)] := rfl
    have e7 : R9 (fun k => decide (k < 13)) α 7999 = row (nd6) 35 #[dO D none, .int .i32 (lO none)] := rfl
    have hO : Own w0 u [row (B1_4) 35 #[dV D r, .int .i32 (lV r)], row (B1_3) 33 #[.int .i32 (k : Int)], row (B1_2) 35 #[dO D (bfA A nd7), .int .i32 (lO (bfA A nd7))], row (B1_1) 27 #[.int .u32 D.src, .int .u32 D.inn], row (B1) 35 #[.iface 63 (.pointer (some ⟨b, 0, none⟩)), .int .i32 x], row (nd4) 35 #[dO D (bfA A nd7), .int .i32 (lO (bfA A nd7))], row (nd5) 33 #[.int .i32 (k : Int)], row (nd6) 35 #[dO D none, .int .i32 (lO none)]] (XF X D k A B nd3 nd7) := (hG.list [999, 1999, 2999, 3999, 4999, 5999, 6999, 7999] (by decide) (act_all (by decide))).conv (by
      show [R9 (fun k => decide (k < 13)) α 999, R9 (fun k => decide (k < 13)) α 1999, R9 (fun k => decide (k < 13)) α 2999, R9 (fun k => decide (k < 13)) α 3999, R9 (fun k => decide (k < 13)) α 4999, R9 (fun k => decide (k < 13)) α 5999, R9 (fun k => decide (k < 13)) α 6999, R9 (fun k => decide (k < 13)) α 7999] = _
      rw [e0, e1, e2, e3, e4, e5, e6, e7])
    clear hG e0 e1 e2 e3 e4 e5 e6 e7 R9
    generalize hfr : Rega.frameAt _ _ _ _ _ = fr
    have hdf : fr = ⟨#[.agg #[.iface 63 (.pointer (some ⟨b, 0, none⟩)), .int .i32 x], .agg #[.int .u32 D.src, .int .u32 D.inn], .pointer (some ⟨B1, 0, none⟩), .pointer (some ⟨B1_1, 0, none⟩), .pointer (some ⟨B1_2, 0, none⟩), .pointer (some ⟨B1_3, 0, none⟩), .pointer (some ⟨D.ad k, 0, none⟩), .pointer (some ⟨B1_4, 0, none⟩), .pointer none, .bool false, undef, undef, .pointer (some ⟨b, 0, none⟩), .bool true, .pointer (some ⟨nd4, 0, none⟩), .pointer (some ⟨nd5, 0, none⟩), .pointer (some ⟨D.ad k, 0, none⟩), .pointer (some ⟨nd6, 0, none⟩), undef, undef, undef, undef, .tuple #[.pointer none, .bool false], .pointer (some ⟨B1, 0, none⟩), .iface 63 (.pointer (some ⟨b, 0, none⟩)), .tuple #[.pointer none, .bool false], .pointer none, .bool false, .bool false, undef, undef, undef, undef, undef, undef, undef, undef, undef, undef, undef, undef, undef, undef, undef, undef, undef, undef, undef, undef, undef, undef, undef, undef, undef, undef, undef, undef, undef, undef, .tuple #[.pointer (some ⟨b, 0, none⟩), .bool true], .pointer (some ⟨B1, 0, none⟩), .iface 63 (.pointer (some ⟨b, 0, none⟩)), .tuple #[.pointer (some ⟨b, 0, none⟩), .bool true], .pointer (some ⟨b, 0, none⟩), .bool true, .bool true, .bool true, .pointer (some ⟨b, 0, none⟩), .pointer (some ⟨b, 0, none⟩), .pointer (some ⟨b, 4, none⟩), .int .u8 36, .bool true, .bool true, .tuple #[.agg #[dO D (bfA A nd7), .int .i32 (lO (bfA A nd7))], .agg #[.int .i32 (k : Int)], .pointer (some ⟨D.ad k, 0, none⟩), .agg #[dO D none, .int .i32 (lO none)]], .pointer (some ⟨b, 0, none⟩), .pointer (some ⟨b, 0, none⟩), .pointer (some ⟨b, 0, none⟩), .agg #[dV D l, .int .i32 (lV l)], .agg #[.int .u32 D.src, .int .u32 D.inn], .tuple #[.agg #[dO D (bfA A nd7), .int .i32 (lO (bfA A nd7))], .agg #[.int .i32 (k : Int)], .pointer (some ⟨D.ad k, 0, none⟩), .agg #[dO D none, .int .i32 (lO none)]], .agg #[dO D (bfA A nd7), .int .i32 (lO (bfA A nd7))], .agg #[.int .i32 (k : Int)], .pointer (some ⟨D.ad k, 0, none⟩), .agg #[dO D none, .int .i32 (lO none)], .pointer (some ⟨D.ad k, 0, none⟩), .bool true, .agg #[dO D (bfA A nd7), .int .i32 (lO (bfA A nd7))], .agg #[.int .i32 (k : Int)], .pointer (some ⟨D.ad k, 0, none⟩), .agg #[dO D none, .int .i32 (lO none)], .pointer (some ⟨b, 0, none⟩), .pointer (some ⟨b, 0, none⟩), .pointer (some ⟨b, 2, none⟩), .agg #[dV D r, .int .i32 (lV r)], .agg #[dV D r, .int .i32 (lV r)], undef, undef, undef, undef, undef, undef, undef, undef, undef, undef, undef, undef, undef, undef, undef, undef, undef, undef, undef, undef, undef, undef, undef, undef, undef], []⟩ := by rw [← hfr]; kernel_rfl
    clear hfr
    subst hdf
    clear α
    obtain ⟨c9_0_0, c9_0_1, lt9_0, y9_0, -⟩ := hO.k2 0 rfl
    obtain ⟨c9_1_0, lt9_1, y9_1, -⟩ := hO.k1 1 rfl
    obtain ⟨c9_2_0, c9_2_1, lt9_2, y9_2, -⟩ := hO.k2 2 rfl
    obtain ⟨c9_3_0, c9_3_1, lt9_3, y9_3, -⟩ := hO.k2 3 rfl
    obtain ⟨c9_4_0, c9_4_1, lt9_4, y9_4, -⟩ := hO.k2 4 rfl
    obtain ⟨c9_5_0, c9_5_1, lt9_5, y9_5, -⟩ := hO.k2 5 rfl
    obtain ⟨c9_6_0, lt9_6, y9_6, -⟩ := hO.k1 6 rfl
    obtain ⟨c9_7_0, c9_7_1, lt9_7, y9_7, -⟩ := hO.k2 7 rfl
    have HO := Lib.hid hO
    clear hO
    have fx0_0 : u.cell? ⟨b, 0, none⟩ = some (dV D l) := HO.out.fcell hb2 0 rfl
    have fx0_1 : u.cell? ⟨b, 1, none⟩ = some (.int .i32 (lV l)) := HO.out.fcell hb2 1 rfl
    have fx0_2 : u.cell? ⟨b, 2, none⟩ = some (dV D r) := HO.out.fcell hb2 2 rfl
    have fx0_3 : u.cell? ⟨b, 3, none⟩ = some (.int .i32 (lV r)) := HO.out.fcell hb2 3 rfl
    have fx0_4 : u.cell? ⟨b, 4, none⟩ = some (.int .u8 36) := HO.out.fcell hb2 4 rfl
    have fx0_5 : u.cell? ⟨b, 5, none⟩ = some (.bool false) := HO.out.fcell hb2 5 rfl
    go_wp2_with (first | (with_reducible refine Own.stay (fn := Try.f17) ?_) | fail)
    try with_reducible refine Own.Stay.mk ?_
    have hO := HO.out
    clear HO fx0_0 fx0_1 fx0_2 fx0_3 fx0_4 fx0_5 c9_0_0 c9_0_1 lt9_0 y9_0 c9_1_0 lt9_1 y9_1 c9_2_0 c9_2_1 lt9_2 y9_2 c9_3_0 c9_3_1 lt9_3 y9_3 c9_4_0 c9_4_1 lt9_4 y9_4 c9_5_0 c9_5_1 lt9_5 y9_5 c9_6_0 lt9_6 y9_6 c9_7_0 c9_7_1 lt9_7 y9_7
    have z9_2_0 : u.cell? ⟨B1_2, 0, none⟩ = some (dO D (bfA A nd7)) := hO.cell 2 rfl 0 rfl
    have z9_2_1 : u.cell? ⟨B1_2, 1, none⟩ = some (.int .i32 (lO (bfA A nd7))) := hO.cell 2 rfl 1 rfl
    have z9_1_0 : u.cell? ⟨B1_3, 0, none⟩ = some (.int .i32 (k : Int)) := hO.cell 1 rfl 0 rfl
    have z9_0_0 : u.cell? ⟨B1_4, 0, none⟩ = some (dV D r) := hO.cell 0 rfl 0 rfl
    have z9_0_1 : u.cell? ⟨B1_4, 1, none⟩ = some (.int .i32 (lV r)) := hO.cell 0 rfl 1 rfl
    have ha9 : bfA A (cod (bfA A nd7) (some r)) = bfA A nd7 := bfA_cod (flat_bfA A _)
    have hb9 : afB (B ++ r.flat) (cod (bfA A nd7) (some r)) = some r := afB_cod (by rw [← flat_afB B nd7, hcs]; rfl)
    have hN : Own w0 u [] (XF X D k A B nd3 nd7) := hO.sub [] (by decide)
    clear hO
    have hM : Own w0 u [] (XF X D k A (B ++ r.flat) nd3 (cod (bfA A nd7) (some r))) := hN.reframe (by
      rintro b9 o9 (h9 | h9 | ⟨t9, l9, r9, h91, h92, h93⟩)
      · exact Or.inl h9
      · exact Or.inr (Or.inl h9)
      · rw [ha9, hb9] at h91
        rcases h91 with h91 | h91
        · exact Or.inr (Or.inr ⟨t9, l9, r9, Or.inl h91, h92, h93⟩)
        · injection h91 with h91
          subst h91
          exact Or.inl ⟨by rw [h93]; exact hNr _ _ _ h92, hnk _ _ _ h92⟩)
    refine bodyPost_ret (v := .tuple #[.agg #[dO D (bfA A nd7), .int .i32 (lO (bfA A nd7))], .agg #[.int .i32 (k : Int)], .pointer (some ⟨D.ad k, 0, none⟩), .agg #[dV D r, .int .i32 (lV r)]]) ?_ rfl ⟨nd3, (cod (bfA A nd7) (some r)), by rw [ha9, hb9] <;> rfl, hM⟩
    simp [results, Try.results17, go_sem, z9_2_0, z9_2_1, z9_1_0, z9_0_0, z9_0_1]
  · skip
    rename_i tq
    have hN : Own w0 u [row (B1_4) 35 #[.nilIface, .int .i32 0], row (B1_3) 33 #[.int .i32 0], row (B1_2) 35 #[.nilIface, .int .i32 0], row (B1_1) 27 #[.int .u32 D.src, .int .u32 D.inn], row (B1) 35 #[.iface 63 (.pointer (some ⟨b, 0, none⟩)), .int .i32 x], row (nd4) 35 #[dO D (bfA A nd7), .int .i32 (lO (bfA A nd7))], row (nd5) 33 #[.int .i32 (k : Int)], row (nd6) 35 #[dO D (some tq), .int .i32 (lO (some tq))]] (XF X D k A B nd3 nd7) := by rw [hcs] at hO; exact hO
    clear hO
    have hO := hN
    clear hN
    obtain ⟨c9_0_0, c9_0_1, lt9_0, y9_0, -⟩ := hO.k2 0 rfl
    obtain ⟨c9_1_0, lt9_1, y9_1, -⟩ := hO.k1 1 rfl
    obtain ⟨c9_2_0, c9_2_1, lt9_2, y9_2, -⟩ := hO.k2 2 rfl
    obtain ⟨c9_3_0, c9_3_1, lt9_3, y9_3, -⟩ := hO.k2 3 rfl
    obtain ⟨c9_4_0, c9_4_1, lt9_4, y9_4, -⟩ := hO.k2 4 rfl
    obtain ⟨c9_5_0, c9_5_1, lt9_5, y9_5, -⟩ := hO.k2 5 rfl
    obtain ⟨c9_6_0, lt9_6, y9_6, -⟩ := hO.k1 6 rfl
    obtain ⟨c9_7_0, c9_7_1, lt9_7, y9_7, -⟩ := hO.k2 7 rfl
    have HO := Lib.hid hO
    clear hO
    have fx0_0 : u.cell? ⟨b, 0, none⟩ = some (dV D l) := HO.out.fcell hb2 0 rfl
    have fx0_1 : u.cell? ⟨b, 1, none⟩ = some (.int .i32 (lV l)) := HO.out.fcell hb2 1 rfl
    have fx0_2 : u.cell? ⟨b, 2, none⟩ = some (dV D r) := HO.out.fcell hb2 2 rfl
    have fx0_3 : u.cell? ⟨b, 3, none⟩ = some (.int .i32 (lV r)) := HO.out.fcell hb2 3 rfl
    have fx0_4 : u.cell? ⟨b, 4, none⟩ = some (.int .u8 36) := HO.out.fcell hb2 4 rfl
    have fx0_5 : u.cell? ⟨b, 5, none⟩ = some (.bool false) := HO.out.fcell hb2 5 rfl
    go_wp2_with (first | (with_reducible refine Own.stay (fn := Try.f17) ?_) | fail)
    try with_reducible refine Own.Stay.mk ?_
    have hO := HO.out
    clear HO fx0_0 fx0_1 fx0_2 fx0_3 fx0_4 fx0_5 c9_0_0 c9_0_1 lt9_0 y9_0 c9_1_0 lt9_1 y9_1 c9_2_0 c9_2_1 lt9_2 y9_2 c9_3_0 c9_3_1 lt9_3 y9_3 c9_4_0 c9_4_1 lt9_4 y9_4 c9_5_0 c9_5_1 lt9_5 y9_5 c9_6_0 lt9_6 y9_6 c9_7_0 c9_7_1 lt9_7 y9_7
    have st9 := rfindFls1_st D k A b r x B1_4 B1_3 B1_2 B1_1 B1 nd4 nd5 nd6 nd7 tq
    let R9 := rfindFls1R D k A b r x B1_4 B1_3 B1_2 B1_1 B1 nd4 nd5 nd6 nd7 tq
    refine wp_region_own (e := rfindFls1E D k A b r x B1_4 B1_3 B1_2 B1_1 B1 nd4 nd5 nd6 nd7 tq) (anc := rfindFls1Anc) (G := (fun L9 α u9 => OwnF w0 u9 (act rfindFls1Cnt 8 L9) (rfindFls1R D k A b r x B1_4 B1_3 B1_2 B1_1 B1 nd4 nd5 nd6 nd7 tq L9 α) (XF X D k A B nd3 nd7))) (by kernel_rfl) (by kernel_rfl) (by kernel_rfl) (by kernel_rfl) (rfindFls1_he D k A b r x B1_4 B1_3 B1_2 B1_1 B1 nd4 nd5 nd6 nd7 tq) ?_ (RunsAll.all ?_) ?_
    · have hp : ∀ i, act rfindFls1Cnt 8 (fun _ => false) i → i ∈ [999, 1999, 2999, 3999, 4999, 5999, 6999, 7999] := by
        intro i hi
        have h9 : i % 1000 = 999 := by
          by_cases h : i % 1000 = 999
          · exact h
          · exact absurd (act_lt hi h) (by simp)
        unfold act at hi
        rw [if_pos h9] at hi
        simp only [List.mem_cons, List.not_mem_nil, or_false]
        omega
      refine hO.drew.family (fun i hi => ?_) (fun i j hi hj hij => ?_)
      · have := hp i hi
        simp only [List.mem_cons, List.not_mem_nil, or_false] at this
        rcases this with rfl | rfl | rfl | rfl | rfl | rfl | rfl | rfl <;> rfl
      · have h1 := hp i hi
        have h2 := hp j hj
        simp only [List.mem_cons, List.not_mem_nil, or_false] at h1 h2
        omega
    · refine ⟨?_, ?_, ?_, ?_, ?_, ?_, ?_, ?_, ?_, ?_, ?_, ?_, ?_, trivial⟩
      · intro L9 α a9 u9 K9 hL hcl hA hG hS h0 hK
        replace hL : L9 0 = false := hL
        have q14 : a9.tmps[14]? = some (.pointer (some ⟨nd4, 0, none⟩)) := (h0 14 (by kernel_rfl)).trans rfl
        have s14 := Rega.eval_of q14
        have e0 : R9 L9 α 5999 = row (nd4) 35 #[dO D (bfA A nd7), .int .i32 (lO (bfA A nd7))] := rfl
        have hr := hG.rowAt 5999 (act_base 5999 rfl) e0
        have c0 : u9.cell? ⟨nd4, 0, none⟩ = some (dO D (bfA A nd7)) := hr.cell rfl
        have c1 : u9.cell? ⟨nd4, 1, none⟩ = some (.int .i32 (lO (bfA A nd7))) := hr.cell rfl
        clear hr e0
        go_simp
        exact hK _ α _ (fun _ _ => rfl) rfl (step_same (st9) hL hcl rfl rfl hG)
      · intro L9 α a9 u9 K9 hL hcl hA hG hS h0 hK
        replace hL : L9 1 = false := hL
        have q15 : a9.tmps[15]? = some (.pointer (some ⟨nd5, 0, none⟩)) := (h0 15 (by kernel_rfl)).trans rfl
        have s15 := Rega.eval_of q15
        have e0 : R9 L9 α 6999 = row (nd5) 33 #[.int .i32 (k : Int)] := rfl
        have hr := hG.rowAt 6999 (act_base 6999 rfl) e0
        have c0 : u9.cell? ⟨nd5, 0, none⟩ = some (.int .i32 (k : Int)) := hr.cell rfl
        clear hr e0
        go_simp
        exact hK _ α _ (fun _ _ => rfl) rfl (step_same (st9) hL hcl rfl rfl hG)
      · intro L9 α a9 u9 K9 hL hcl hA hG hS h0 hK
        replace hL : L9 2 = false := hL
        have q16 : a9.tmps[16]? = some (.pointer (some ⟨D.ad k, 0, none⟩)) := (h0 16 (by kernel_rfl)).trans rfl
        have s16 := Rega.eval_of q16
        go_simp
        exact hK _ α _ (fun _ _ => rfl) rfl (step_same (st9) hL hcl rfl rfl hG)
      · intro L9 α a9 u9 K9 hL hcl hA hG hS h0 hK
        replace hL : L9 3 = false := hL
        have q17 : a9.tmps[17]? = some (.pointer (some ⟨nd6, 0, none⟩)) := (h0 17 (by kernel_rfl)).trans rfl
        have s17 := Rega.eval_of q17
        have e0 : R9 L9 α 7999 = row (nd6) 35 #[dO D (some tq), .int .i32 (lO (some tq))] := rfl
        have hr := hG.rowAt 7999 (act_base 7999 rfl) e0
        have c0 : u9.cell? ⟨nd6, 0, none⟩ = some (dO D (some tq)) := hr.cell rfl
        have c1 : u9.cell? ⟨nd6, 1, none⟩ = some (.int .i32 (lO (some tq))) := hr.cell rfl
        clear hr e0
        go_simp
        exact hK _ α _ (fun _ _ => rfl) rfl (step_same (st9) hL hcl rfl rfl hG)
      · intro L9 α a9 u9 K9 hL hcl hA hG hS h0 hK
        replace hL : L9 4 = false := hL
        have q12 : a9.tmps[12]? = some (.pointer (some ⟨b, 0, none⟩)) := (h0 12 (by kernel_rfl)).trans rfl
        have s12 := Rega.eval_of q12
        go_simp
        exact hK _ α _ (fun _ _ => rfl) rfl (step_same (st9) hL hcl rfl rfl hG)
      · intro L9 α a9 u9 K9 hL hcl hA hG hS h0 hK
        replace hL : L9 5 = false := hL
        have q90 : a9.tmps[90]? = some (.pointer (some ⟨b, 0, none⟩)) := hS 4 90 (by decide) rfl (by show 90 < 120; decide)
        have s90 := Rega.eval_of q90
        go_simp
        exact hK _ α _ (fun _ _ => rfl) rfl (step_same (st9) hL hcl rfl rfl hG)
      · intro L9 α a9 u9 K9 hL hcl hA hG hS h0 hK
        replace hL : L9 6 = false := hL
        have q91 : a9.tmps[91]? = some (.pointer (some ⟨b, 0, none⟩)) := hS 5 91 (by decide) rfl (by show 91 < 120; decide)
        have s91 := Rega.eval_of q91
        go_simp
        exact hK _ α _ (fun _ _ => rfl) rfl (step_same (st9) hL hcl rfl rfl hG)
      · intro L9 α a9 u9 K9 hL hcl hA hG hS h0 hK
        replace hL : L9 7 = false := hL
        have q92 : a9.tmps[92]? = some (.pointer (some ⟨b, 2, none⟩)) := hS 6 92 (by decide) rfl (by show 92 < 120; decide)
        have s92 := Rega.eval_of q92
        have c0 : u9.cell? ⟨b, 2, none⟩ = some (dV D r) := Base.RowAt.cell (show Base.RowAt u9 b 66 (binC D l r) from (hG.frame _ _ hb2).2.1) rfl
        have c1 : u9.cell? ⟨b, 3, none⟩ = some (.int .i32 (lV r)) := Base.RowAt.cell (show Base.RowAt u9 b 66 (binC D l r) from (hG.frame _ _ hb2).2.1) rfl
        go_simp
        exact hK _ α _ (fun _ _ => rfl) rfl (step_same (st9) hL hcl rfl rfl hG)
      · intro L9 α a9 u9 K9 hL hcl hA hG hS h0 hK
        replace hL : L9 8 = false := hL
        have q89 : a9.tmps[89]? = some (.agg #[dO D (some tq), .int .i32 (lO (some tq))]) := hS 3 89 (by decide) rfl (by show 89 < 120; decide)
        have s89 := Rega.eval_of q89
        have q93 : a9.tmps[93]? = some (.agg #[dV D r, .int .i32 (lV r)]) := hS 7 93 (by decide) rfl (by show 93 < 120; decide)
        have s93 := Rega.eval_of q93
        go_simp
        have hM : ∀ i, i ∈ [] → act rfindFls1Cnt 8 L9 i := by intro i hi; simp at hi
        have hP : Own w0 u9 [] _ := hG.pick [] (by decide) (by simp)
        clear hM
        refine Calls.mono (joinO2 D tq r _ _ _ hP ) ?_
        rintro e9 u1 ⟨b0, rfl, hQ⟩
        obtain ⟨α', hα'⟩ : ∃ α' : Rega.Atoms, α' = (fun j => if j = 8 then b0 else α j) := ⟨_, rfl⟩
        have f0 : R9 (Rega.ran L9 8) α' 8 = row (α' 8) 66 (binC D tq r) := rfl
        have hα : ∀ j, j % 1000 ≠ 8 → α' j = α j := fun j hj => by rw [hα']; simp only []; rw [if_neg (by omega)]
        have hb0 : α' 8 = b0 := by rw [hα']; rfl
        skip
        refine hK _ α' _ hα ?_ (step_call (st9) hL hcl hα [] [8] (by decide) (by decide) (by decide) (M := _) ?_ hG hQ)
        · show _ = (.agg #[.iface 63 (.pointer (some ⟨α' 8, 0, none⟩)), .int .i32 (lV tq)] : Value)
          simp only [hb0]
        · show [R9 (Rega.ran L9 8) α' 8] = _
          rw [f0]
          simp only [hb0]
      · intro L9 α a9 u9 K9 hL hcl hA hG hS h0 hK
        replace hL : L9 9 = false := hL
        have q4 : a9.tmps[4]? = some (.pointer (some ⟨B1_2, 0, none⟩)) := (h0 4 (by kernel_rfl)).trans rfl
        have s4 := Rega.eval_of q4
        have q86 : a9.tmps[86]? = some (.agg #[dO D (bfA A nd7), .int .i32 (lO (bfA A nd7))]) := hS 0 86 (by decide) rfl (by show 86 < 120; decide)
        have s86 := Rega.eval_of q86
        have e0 : R9 L9 α 2999 = row (B1_2) 35 #[.nilIface, .int .i32 0] := by
          show rfindFls1T2999 D k A b r x B1_4 B1_3 B1_2 B1_1 B1 nd4 nd5 nd6 nd7 tq L9 α = _
          unfold rfindFls1T2999
          rw [if_neg (by rw [hL]; decide)]
        have hr := hG.rowAt 2999 (act_base 2999 rfl) e0
        have c0 : u9.cell? ⟨B1_2, 0, none⟩ = some (.nilIface) := hr.cell rfl
        have y0 : u9.frozen? ⟨B1_2, 0, none⟩ = false := hr.free (0)
        have c1 : u9.cell? ⟨B1_2, 1, none⟩ = some (.int .i32 0) := hr.cell rfl
        have y1 : u9.frozen? ⟨B1_2, 1, none⟩ = false := hr.free (1)
        clear hr
        have E0 := Lib.hid e0
        clear e0
        go_simp
        have e1 : R9 (Rega.ran L9 9) α 2999 = row (B1_2) 35 #[dO D (bfA A nd7), .int .i32 (lO (bfA A nd7))] := by
          show rfindFls1T2999 D k A b r x B1_4 B1_3 B1_2 B1_1 B1 nd4 nd5 nd6 nd7 tq (Rega.ran L9 9) α = _
          unfold rfindFls1T2999
          rw [if_pos (show Rega.ran L9 9 9 = true from rfl)]
        exact hK _ α _ (fun _ _ => rfl) rfl (step_sets (st9) hL hcl rfl 2999 rfl (act_base 2999 rfl) E0.out (0) [dO D (bfA A nd7), .int .i32 (lO (bfA A nd7))] (e1.trans rfl) hG)
      · intro L9 α a9 u9 K9 hL hcl hA hG hS h0 hK
        replace hL : L9 10 = false := hL
        have q5 : a9.tmps[5]? = some (.pointer (some ⟨B1_3, 0, none⟩)) := (h0 5 (by kernel_rfl)).trans rfl
        have s5 := Rega.eval_of q5
        have q87 : a9.tmps[87]? = some (.agg #[.int .i32 (k : Int)]) := hS 1 87 (by decide) rfl (by show 87 < 120; decide)
        have s87 := Rega.eval_of q87
        have e0 : R9 L9 α 1999 = row (B1_3) 33 #[.int .i32 0] := by
          show rfindFls1T1999 D k A b r x B1_4 B1_3 B1_2 B1_1 B1 nd4 nd5 nd6 nd7 tq L9 α = _
          unfold rfindFls1T1999
          rw [if_neg (by rw [hL]; decide)]
        have hr := hG.rowAt 1999 (act_base 1999 rfl) e0
        have c0 : u9.cell? ⟨B1_3, 0, none⟩ = some (.int .i32 0) := hr.cell rfl
        have y0 : u9.frozen? ⟨B1_3, 0, none⟩ = false := hr.free (0)
        clear hr
        have E0 := Lib.hid e0
        clear e0
        go_simp
        have e1 : R9 (Rega.ran L9 10) α 1999 = row (B1_3) 33 #[.int .i32 (k : Int)] := by
          show rfindFls1T1999 D k A b r x B1_4 B1_3 B1_2 B1_1 B1 nd4 nd5 nd6 nd7 tq (Rega.ran L9 10) α = _
          unfold rfindFls1T1999
          rw [if_pos (show Rega.ran L9 10 10 = true from rfl)]
        exact hK _ α _ (fun _ _ => rfl) rfl (step_sets (st9) hL hcl rfl 1999 rfl (act_base 1999 rfl) E0.out (0) [.int .i32 (k : Int)] (e1.trans rfl) hG)
      · intro L9 α a9 u9 K9 hL hcl hA hG hS h0 hK
        replace hL : L9 11 = false := hL
        have q88 : a9.tmps[88]? = some (.pointer (some ⟨D.ad k, 0, none⟩)) := hS 2 88 (by decide) rfl (by show 88 < 120; decide)
        have s88 := Rega.eval_of q88
        go_simp
        exact hK _ α _ (fun _ _ => rfl) rfl (step_same (st9) hL hcl rfl rfl hG)
      · intro L9 α a9 u9 K9 hL hcl hA hG hS h0 hK
        replace hL : L9 12 = false := hL
        have q7 : a9.tmps[7]? = some (.pointer (some ⟨B1_4, 0, none⟩)) := (h0 7 (by kernel_rfl)).trans rfl
        have s7 := Rega.eval_of q7
        have q94 : a9.tmps[94]? = some (.agg #[.iface 63 (.pointer (some ⟨α 8, 0, none⟩)), .int .i32 (lV tq)]) := hS 8 94 (by decide) rfl (by show 94 < 120; decide)
        have s94 := Rega.eval_of q94
        have e0 : R9 L9 α 999 = row (B1_4) 35 #[.nilIface, .int .i32 0] := by
          show rfindFls1T999 D k A b r x B1_4 B1_3 B1_2 B1_1 B1 nd4 nd5 nd6 nd7 tq L9 α = _
          unfold rfindFls1T999
          rw [if_neg (by rw [hL]; decide)]
        have hr := hG.rowAt 999 (act_base 999 rfl) e0
        have c0 : u9.cell? ⟨B1_4, 0, none⟩ = some (.nilIface) := hr.cell rfl
        have y0 : u9.frozen? ⟨B1_4, 0, none⟩ = false := hr.free (0)
        have c1 : u9.cell? ⟨B1_4, 1, none⟩ = some (.int .i32 0) := hr.cell rfl
        have y1 : u9.frozen? ⟨B1_4, 1, none⟩ = false := hr.free (1)
        clear hr
        have E0 := Lib.hid e0
        clear e0
        go_simp
        have e1 : R9 (Rega.ran L9 12) α 999 = row (B1_4) 35 #[.iface 63 (.pointer (some ⟨α 8, 0, none⟩)), .int .i32 (lV tq)] := by
          show rfindFls1T999 D k A b r x B1_4 B1_3 B1_2 B1_1 B1 nd4 nd5 nd6 nd7 tq (Rega.ran L9 12) α = _
          unfold rfindFls1T999
          rw [if_pos (show Rega.ran L9 12 12 = true from rfl)]
        exact hK _ α _ (fun _ _ => rfl) rfl (step_sets (st9) hL hcl rfl 999 rfl (act_base 999 rfl) E0.out (0) [.iface 63 (.pointer (some ⟨α 8, 0, none⟩)), .int .i32 (lV tq)] (e1.trans rfl) hG)
    clear st9
    intro α u hG
    have e0 : R9 (fun k => decide (k < 13)) α 999 = row (B1_4) 35 #[.iface 63 (.pointer (some ⟨α 8, 0, none⟩)), .int .i32 (lV tq)] := by
      show rfindFls1T999 D k A b r x B1_4 B1_3 B1_2 B1_1 B1 nd4 nd5 nd6 nd7 tq (fun k => decide (k < 13)) α = _
      unfold rfindFls1T999
      rw [if_pos (by decide)]
    have e1 : R9 (fun k => decide (k < 13)) α 1999 = row (B1_3) 33 #[.int .i32 (k : Int)] := by
      show rfindFls1T1999 D k A b r x B1_4 B1_3 B1_2 B1_1 B1 nd4 nd5 nd6 nd7 tq (fun k => decide (k < 13)) α = _
      unfold rfindFls1T1999
      rw [if_pos (by decide)]
    have e2 : R9 (fun k => decide (k < 13)) α 2999 = row (B1_2) 35 #[dO D (bfA A nd7), .int .i32 (lO (bfA A nd7))] := by
      show rfindFls1T2999 D k A b r x B1_4 B1_3 B1_2 B1_1 B1 nd4 nd5 nd6 nd7 tq (fun k => decide (k < 13)) α = _
      unfold rfindFls1T2999
      rw [if_pos (by decide)]
    have e3 : R9 (fun k => decide (k < 13)) α 3999 = row (B1_1) 27 #[.int .u32 D.src, .int .u32 D.inn] := rfl
    have e4 : R9 (fun k => decide (k < 13)) α 4999 = row (B1) 35 #[.iface 63 (.pointer (some ⟨b, 0, none⟩)), .int .i32 x] := rfl
    have e5 : R9 (fun k => decide (k < 13)) α 5999 = row (nd4) 35 #[dO D (bfA A nd7), .int .i32 (lO (bfA A nd7))] := rfl
    have e6 : R9 (fun k => decide (k < 13)) α 6999 = row (nd5) 33 #[.int .i32 (k : Int)] := rfl
    have e7 : R9 (fun k => decide (k < 13)) α 7999 = row (nd6) 35 #[dO D (some tq), .int .i32 (lO (some tq))] := rfl
    have e8 : R9 (fun k => decide (k < 13)) α 8 = row (α 8) 66 (binC D tq r) := rfl
    have hO : Own w0 u [row (B1_4) 35 #[.iface 63 (.pointer (some ⟨α 8, 0, none⟩)), .int .i32 (lV tq)], row (B1_3) 33 #[.int .i32 (k : Int)], row (B1_2) 35 #[dO D (bfA A nd7), .int .i32 (lO (bfA A nd7))], row (B1_1) 27 #[.int .u32 D.src, .int .u32 D.inn], row (B1) 35 #[.iface 63 (.pointer (some ⟨b, 0, none⟩)), .int .i32 x], row (nd4) 35 #[dO D (bfA A nd7), .int .i32 (lO (bfA A nd7))], row (nd5) 33 #[.int .i32 (k : Int)], row (nd6) 35 #[dO D (some tq), .int .i32 (lO (some tq))], row (α 8) 66 (binC D tq r)] (XF X D k A B nd3 nd7) := (hG.list [999, 1999, 2999, 3999, 4999, 5999, 6999, 7999, 8] (by decide) (act_all (by decide))).conv (by
      show [R9 (fun k => decide (k < 13)) α 999, R9 (fun k => decide (k < 13)) α 1999, R9 (fun k => decide (k < 13)) α 2999, R9 (fun k => decide (k < 13)) α 3999, R9 (fun k => decide (k < 13)) α 4999, R9 (fun k => decide (k < 13)) α 5999, R9 (fun k => decide (k < 13)) α 6999, R9 (fun k => decide (k < 13)) α 7999, R9 (fun k => decide (k < 13)) α 8] = _
      rw [e0, e1, e2, e3, e4, e5, e6, e7, e8])
    clear hG e0 e1 e2 e3 e4 e5 e6 e7 e8 R9
    generalize hfr : Rega.frameAt _ _ _ _ _ = fr
    have hdf : fr = ⟨#[.agg #[.iface 63 (.pointer (some ⟨b, 0, none⟩)), .int .i32 x], .agg #[.int .u32 D.src, .int .u32 D.inn], .pointer (some ⟨B1, 0, none⟩), .pointer (some ⟨B1_1, 0, none⟩), .pointer (some ⟨B1_2, 0, none⟩), .pointer (some ⟨B1_3, 0, none⟩), .pointer (some ⟨D.ad k, 0, none⟩), .pointer (some ⟨B1_4, 0, none⟩), .pointer none, .bool false, undef, undef, .pointer (some ⟨b, 0, none⟩), .bool true, .pointer (some ⟨nd4, 0, none⟩), .pointer (some ⟨nd5, 0, none⟩), .pointer (some ⟨D.ad k, 0, none⟩), .pointer (some ⟨nd6, 0, none⟩), undef, undef, undef, undef, .tuple #[.pointer none, .bool false], .pointer (some ⟨B1, 0, none⟩), .iface 63 (.pointer (some ⟨b, 0, none⟩)), .tuple #[.pointer none, .bool false], .pointer none, .bool false, .bool false, undef, undef, undef, undef, undef, undef, undef, undef, undef, undef, undef, undef, undef, undef, undef, undef, undef, undef, undef, undef, undef, undef, undef, undef, undef, undef, undef, undef, undef, undef, .tuple #[.pointer (some ⟨b, 0, none⟩), .bool true], .pointer (some ⟨B1, 0, none⟩), .iface 63 (.pointer (some ⟨b, 0, none⟩)), .tuple #[.pointer (some ⟨b, 0, none⟩), .bool true], .pointer (some ⟨b, 0, none⟩), .bool true, .bool true, .bool true, .pointer (some ⟨b, 0, none⟩), .pointer (some ⟨b, 0, none⟩), .pointer (some ⟨b, 4, none⟩), .int .u8 36, .bool true, .bool true, .tuple #[.agg #[dO D (bfA A nd7), .int .i32 (lO (bfA A nd7))], .agg #[.int .i32 (k : Int)], .pointer (some ⟨D.ad k, 0, none⟩), .agg #[dO D (some tq), .int .i32 (lO (some tq))]], .pointer (some ⟨b, 0, none⟩), .pointer (some ⟨b, 0, none⟩), .pointer (some ⟨b, 0, none⟩), .agg #[dV D l, .int .i32 (lV l)], .agg #[.int .u32 D.src, .int .u32 D.inn], .tuple #[.agg #[dO D (bfA A nd7), .int .i32 (lO (bfA A nd7))], .agg #[.int .i32 (k : Int)], .pointer (some ⟨D.ad k, 0, none⟩), .agg #[dO D (some tq), .int .i32 (lO (some tq))]], .agg #[dO D (bfA A nd7), .int .i32 (lO (bfA A nd7))], .agg #[.int .i32 (k : Int)], .pointer (some ⟨D.ad k, 0, none⟩), .agg #[dO D (some tq), .int .i32 (lO (some tq))], .pointer (some ⟨D.ad k, 0, none⟩), .bool true, .agg #[dO D (bfA A nd7), .int .i32 (lO (bfA A nd7))], .agg #[.int .i32 (k : Int)], .pointer (some ⟨D.ad k, 0, none⟩), .agg #[dO D (some tq), .int .i32 (lO (some tq))], .pointer (some ⟨b, 0, none⟩), .pointer (some ⟨b, 0, none⟩), .pointer (some ⟨b, 2, none⟩), .agg #[dV D r, .int .i32 (lV r)], .agg #[.iface 63 (.pointer (some ⟨α 8, 0, none⟩)), .int .i32 (lV tq)], undef, undef, undef, undef, undef, undef, undef, undef, undef, undef, undef, undef, undef, undef, undef, undef, undef, undef, undef, undef, undef, undef, undef, undef, undef], []⟩ := by rw [← hfr]; kernel_rfl
    clear hfr
    subst hdf
    generalize α 8 = nd8 at hO ⊢
    clear α
    obtain ⟨c9_0_0, c9_0_1, lt9_0, y9_0, -⟩ := hO.k2 0 rfl
    obtain ⟨c9_1_0, lt9_1, y9_1, -⟩ := hO.k1 1 rfl
    obtain ⟨c9_2_0, c9_2_1, lt9_2, y9_2, -⟩ := hO.k2 2 rfl
    obtain ⟨c9_3_0, c9_3_1, lt9_3, y9_3, -⟩ := hO.k2 3 rfl
    obtain ⟨c9_4_0, c9_4_1, lt9_4, y9_4, -⟩ := hO.k2 4 rfl
    obtain ⟨c9_5_0, c9_5_1, lt9_5, y9_5, -⟩ := hO.k2 5 rfl
    obtain ⟨c9_6_0, lt9_6, y9_6, -⟩ := hO.k1 6 rfl
    obtain ⟨c9_7_0, c9_7_1, lt9_7, y9_7, -⟩ := hO.k2 7 rfl
    have HO := Lib.hid hO
    clear hO
    have fx0_0 : u.cell? ⟨b, 0, none⟩ = some (dV D l) := HO.out.fcell hb2 0 rfl
    have fx0_1 : u.cell? ⟨b, 1, none⟩ = some (.int .i32 (lV l)) := HO.out.fcell hb2 1 rfl
    have fx0_2 : u.cell? ⟨b, 2, none⟩ = some (dV D r) := HO.out.fcell hb2 2 rfl
    have fx0_3 : u.cell? ⟨b, 3, none⟩ = some (.int .i32 (lV r)) := HO.out.fcell hb2 3 rfl
    have fx0_4 : u.cell? ⟨b, 4, none⟩ = some (.int .u8 36) := HO.out.fcell hb2 4 rfl
    have fx0_5 : u.cell? ⟨b, 5, none⟩ = some (.bool false) := HO.out.fcell hb2 5 rfl
    go_wp2_with (first | (with_reducible refine Own.stay (fn := Try.f17) ?_) | fail)
    try with_reducible refine Own.Stay.mk ?_
    have hO := HO.out
    clear HO fx0_0 fx0_1 fx0_2 fx0_3 fx0_4 fx0_5 c9_0_0 c9_0_1 lt9_0 y9_0 c9_1_0 lt9_1 y9_1 c9_2_0 c9_2_1 lt9_2 y9_2 c9_3_0 c9_3_1 lt9_3 y9_3 c9_4_0 c9_4_1 lt9_4 y9_4 c9_5_0 c9_5_1 lt9_5 y9_5 c9_6_0 lt9_6 y9_6 c9_7_0 c9_7_1 lt9_7 y9_7
    have z9_2_0 : u.cell? ⟨B1_2, 0, none⟩ = some (dO D (bfA A nd7)) := hO.cell 2 rfl 0 rfl
    have z9_2_1 : u.cell? ⟨B1_2, 1, none⟩ = some (.int .i32 (lO (bfA A nd7))) := hO.cell 2 rfl 1 rfl
    have z9_1_0 : u.cell? ⟨B1_3, 0, none⟩ = some (.int .i32 (k : Int)) := hO.cell 1 rfl 0 rfl
    have z9_0_0 : u.cell? ⟨B1_4, 0, none⟩ = some (.iface 63 (.pointer (some ⟨nd8, 0, none⟩))) := hO.cell 0 rfl 0 rfl
    have z9_0_1 : u.cell? ⟨B1_4, 1, none⟩ = some (.int .i32 (lV tq)) := hO.cell 0 rfl 1 rfl
    have ha9 : bfA A (cod (bfA A nd7) (some (.node nd8 tq r))) = bfA A nd7 := bfA_cod (flat_bfA A _)
    have hb9 : afB (B ++ r.flat) (cod (bfA A nd7) (some (.node nd8 tq r))) = some (.node nd8 tq r) := afB_cod (by show tq.flat ++ r.flat = _; rw [← flat_afB B nd7, hcs]; rfl)
    have hN : Own w0 u [row (nd8) 66 (binC D tq r)] (XF X D k A B nd3 nd7) := hO.sub [8] (by decide)
    clear hO
    have hM : Own w0 u [] (XF X D k A (B ++ r.flat) nd3 (cod (bfA A nd7) (some (.node nd8 tq r)))) := Own.give (o := .cells (binC D tq r) 66 (0, 0)) hN (by
      rintro b9 o9 (h9 | h9 | ⟨t9, l9, r9, h91, h92, h93⟩)
      · exact Or.inl (Or.inl h9)
      · exact Or.inl (Or.inr (Or.inl h9))
      · rw [ha9, hb9] at h91
        rcases h91 with h91 | h91
        · exact Or.inl (Or.inr (Or.inr ⟨t9, l9, r9, Or.inl h91, h92, h93⟩))
        · injection h91 with h91
          subst h91
          cases h92 with
          | here => exact Or.inr ⟨rfl, h93⟩
          | left h92 => exact Or.inl (Or.inr (Or.inr ⟨tq, l9, r9, Or.inr hcs, h92, h93⟩))
          | right h92 => exact Or.inl (Or.inl ⟨by rw [h93]; exact hNr _ _ _ h92, hnk _ _ _ h92⟩))
    refine bodyPost_ret (v := .tuple #[.agg #[dO D (bfA A nd7), .int .i32 (lO (bfA A nd7))], .agg #[.int .i32 (k : Int)], .pointer (some ⟨D.ad k, 0, none⟩), .agg #[.iface 63 (.pointer (some ⟨nd8, 0, none⟩)), .int .i32 (lV tq)]]) ?_ rfl ⟨nd3, (cod (bfA A nd7) (some (.node nd8 tq r))), by rw [ha9, hb9] <;> rfl, hM⟩
    simp [results, Try.results17, go_sem, z9_2_0, z9_2_1, z9_1_0, z9_0_0, z9_0_1]
end Go.Proofs.Ytdbnnpoffpipjaa.Use
