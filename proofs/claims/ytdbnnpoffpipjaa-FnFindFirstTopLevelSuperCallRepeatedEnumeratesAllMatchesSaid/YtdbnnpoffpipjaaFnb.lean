/- The search at a node, not found. No condition. -/
import Derived.Test.YtdbnnpoffpipjaaFd
import Derived.Test.YtdbnnpoffpipjaaFn1
import Derived.Test.YtdbnnpoffpipjaaFf1
import Derived.Test.YtdbnnpoffpipjaaJn
import Derived.Test.YtdbnnpoffpipjaaTre
import Derived.Test.YtdbnnpoffpipjaaLoop
import Derived.Test.YtdbnnpoffpipjaaAppL
import Derived.Test.YtdbnnpoffpipjaaApp
import Derived.Test.YtdbnnpoffpipjaaOwnK
import Derived.Test.YtdbnnpoffpipjaaOwn
import Derived.Test.YtdbnnpoffpipjaaDeepCells
import Derived.Test.YtdbnnpoffpipjaaRows
namespace Go.Proofs.Ytdbnnpoffpipjaa.Use
open Go.ChangeShapes Go.WideShapes Go.ChangeAt Go.RowKit Go.Sort Own
set_option linter.unusedVariables false
def rFNB1E (D : Dat) (b : Nat) (l : Tr) (x : Int) (B1_4 : Nat) (B1_3 : Nat) (B1_2 : Nat) (B1_1 : Nat) (B1 : Nat) : Nat → Rega.Atoms → Value
  | 0, α => .pointer (some ⟨b, 0, none⟩)
  | 1, α => .pointer (some ⟨b, 0, none⟩)
  | 2, α => .pointer (some ⟨b, 0, none⟩)
  | 3, α => .agg #[dV D l, .int .i32 (lV l)]
  | 4, α => .agg #[.int .u32 D.src, .int .u32 D.inn]
  | 5, α => .tuple #[.agg #[.nilIface, .int .i32 0], .agg #[.int .i32 0], .pointer none, .agg #[.nilIface, .int .i32 0]]
  | 6, α => .tuple #[.agg #[.nilIface, .int .i32 0], .agg #[.int .i32 0], .pointer none, .agg #[.nilIface, .int .i32 0]]
  | 7, α => .agg #[.nilIface, .int .i32 0]
  | 8, α => .agg #[.int .i32 0]
  | 9, α => .pointer none
  | 10, α => .agg #[.nilIface, .int .i32 0]
  | 11, α => .pointer (some ⟨α 11, 0, none⟩)
  | 12, α => .pointer (some ⟨α 12, 0, none⟩)
  | 13, α => .pointer (some ⟨α 13, 0, none⟩)
  | 14, α => undef
  | 15, α => undef
  | 16, α => .pointer none
  | 17, α => undef
  | _, _ => undef
def rFNB1Anc : Nat → List Nat
  | 1 => [0]
  | 2 => [0, 1]
  | 3 => [0, 1, 2]
  | 5 => [0, 1, 2, 3, 4]
  | 6 => [0, 1, 2, 3, 4, 5]
  | 7 => [0, 1, 2, 3, 4, 5, 6]
  | 8 => [0, 1, 2, 3, 4, 5, 6]
  | 9 => [0, 1, 2, 3, 4, 5, 6]
  | 10 => [0, 1, 2, 3, 4, 5, 6]
  | 14 => [0, 1, 2, 3, 4, 5, 6, 7, 11, 12, 13]
  | 15 => [0, 1, 2, 3, 4, 5, 6, 7, 8, 11, 12, 13, 14]
  | 16 => [0, 1, 2, 3, 4, 5, 6, 7, 8, 9, 11, 12, 13, 14, 15]
  | 17 => [0, 1, 2, 3, 4, 5, 6, 7, 8, 9, 10, 11, 12, 13, 14, 15, 16]
  | _ => []
def rFNB1Trn : Nat → List Nat
  | 14 => [11]
  | 15 => [12]
  | 17 => [13]
  | _ => []
def rFNB1Cnt : List (Nat × Nat) := [(11, 1), (12, 1), (13, 1)]
def rFNB1T11 (D : Dat) (b : Nat) (l : Tr) (x : Int) (B1_4 : Nat) (B1_3 : Nat) (B1_2 : Nat) (B1_1 : Nat) (B1 : Nat) (L9 : Nat → Bool) (α : Rega.Atoms) : Rw := if L9 14 = true then row (α 11) 35 #[.nilIface, .int .i32 0] else row (α 11) 35 #[.nilIface, .int .i32 0]
def rFNB1T12 (D : Dat) (b : Nat) (l : Tr) (x : Int) (B1_4 : Nat) (B1_3 : Nat) (B1_2 : Nat) (B1_1 : Nat) (B1 : Nat) (L9 : Nat → Bool) (α : Rega.Atoms) : Rw := if L9 15 = true then row (α 12) 33 #[.int .i32 0] else row (α 12) 33 #[.int .i32 0]
def rFNB1T13 (D : Dat) (b : Nat) (l : Tr) (x : Int) (B1_4 : Nat) (B1_3 : Nat) (B1_2 : Nat) (B1_1 : Nat) (B1 : Nat) (L9 : Nat → Bool) (α : Rega.Atoms) : Rw := if L9 17 = true then row (α 13) 35 #[.nilIface, .int .i32 0] else row (α 13) 35 #[.nilIface, .int .i32 0]
def rFNB1R (D : Dat) (b : Nat) (l : Tr) (x : Int) (B1_4 : Nat) (B1_3 : Nat) (B1_2 : Nat) (B1_1 : Nat) (B1 : Nat) (L9 : Nat → Bool) (α : Rega.Atoms) (ix9 : Nat) : Rw := if ix9 = 999 then row (B1_4) 35 #[.nilIface, .int .i32 0] else if ix9 = 1999 then row (B1_3) 33 #[.int .i32 0] else if ix9 = 2999 then row (B1_2) 35 #[.nilIface, .int .i32 0] else if ix9 = 3999 then row (B1_1) 27 #[.int .u32 D.src, .int .u32 D.inn] else if ix9 = 4999 then row (B1) 35 #[.iface 63 (.pointer (some ⟨b, 0, none⟩)), .int .i32 x] else if ix9 = 11 then rFNB1T11 D b l x B1_4 B1_3 B1_2 B1_1 B1 L9 α else if ix9 = 12 then rFNB1T12 D b l x B1_4 B1_3 B1_2 B1_1 B1 L9 α else if ix9 = 13 then rFNB1T13 D b l x B1_4 B1_3 B1_2 B1_1 B1 L9 α else (0, .map #[] 0)
theorem rFNB1_he (D : Dat) (b : Nat) (l : Tr) (x : Int) (B1_4 : Nat) (B1_3 : Nat) (B1_2 : Nat) (B1_1 : Nat) (B1 : Nat) : ∀ kk α α', (∀ j, (j % 1000 = kk ∨ j % 1000 ∈ rFNB1Anc kk) → α j = α' j) → rFNB1E D b l x B1_4 B1_3 B1_2 B1_1 B1 kk α = rFNB1E D b l x B1_4 B1_3 B1_2 B1_1 B1 kk α' := by
  intro kk α α' h
  match kk with
  | 0 => rfl
  | 1 => rfl
  | 2 => rfl
  | 3 => rfl
  | 4 => rfl
  | 5 => rfl
  | 6 => rfl
  | 7 => rfl
  | 8 => rfl
  | 9 => rfl
  | 10 => rfl
  | 11 => simp only [rFNB1E, h 11 (Or.inl rfl)]
  | 12 => simp only [rFNB1E, h 12 (Or.inl rfl)]
  | 13 => simp only [rFNB1E, h 13 (Or.inl rfl)]
  | 14 => rfl
  | 15 => rfl
  | 16 => rfl
  | 17 => rfl
  | n + 18 => rfl
theorem rFNB1_st (D : Dat) (b : Nat) (l : Tr) (x : Int) (B1_4 : Nat) (B1_3 : Nat) (B1_2 : Nat) (B1_1 : Nat) (B1 : Nat) : Stable rFNB1Cnt 5 rFNB1Anc rFNB1Trn (rFNB1R D b l x B1_4 B1_3 B1_2 B1_1 B1) := by
  intro k9 L9 α α' ix9 hk hcl hα hact ht
  have hp := act_places hact
  replace hp : ix9 ∈ [999, 1999, 2999, 3999, 4999, 11, 12, 13] := hp
  simp only [List.mem_cons, List.not_mem_nil, or_false] at hp
  rcases hp with rfl | rfl | rfl | rfl | rfl | rfl | rfl | rfl
  · rfl
  · rfl
  · rfl
  · rfl
  · rfl
  · have e0 : L9 11 = true := act_lt hact (by decide)
    show rFNB1T11 D b l x B1_4 B1_3 B1_2 B1_1 B1 (Rega.ran L9 k9) α' = rFNB1T11 D b l x B1_4 B1_3 B1_2 B1_1 B1 L9 α
    unfold rFNB1T11
    have n14 : 14 ≠ k9 := fun e => ht (by rw [← e]; decide)
    rw [ran_ne n14]
    by_cases e14 : L9 14 = true
    · first | rw [if_pos e14, if_pos e14] | rw [if_pos e14]
      try simp only [hα 11 (ne_ran hk (hcl 14 e14 11 (by decide)))]
    first | rw [if_neg e14, if_neg e14] | rw [if_neg e14]
    try simp only [hα 11 (ne_ran hk e0)]
  · have e0 : L9 12 = true := act_lt hact (by decide)
    show rFNB1T12 D b l x B1_4 B1_3 B1_2 B1_1 B1 (Rega.ran L9 k9) α' = rFNB1T12 D b l x B1_4 B1_3 B1_2 B1_1 B1 L9 α
    unfold rFNB1T12
    have n15 : 15 ≠ k9 := fun e => ht (by rw [← e]; decide)
    rw [ran_ne n15]
    by_cases e15 : L9 15 = true
    · first | rw [if_pos e15, if_pos e15] | rw [if_pos e15]
      try simp only [hα 12 (ne_ran hk (hcl 15 e15 12 (by decide)))]
    first | rw [if_neg e15, if_neg e15] | rw [if_neg e15]
    try simp only [hα 12 (ne_ran hk e0)]
  · have e0 : L9 13 = true := act_lt hact (by decide)
    show rFNB1T13 D b l x B1_4 B1_3 B1_2 B1_1 B1 (Rega.ran L9 k9) α' = rFNB1T13 D b l x B1_4 B1_3 B1_2 B1_1 B1 L9 α
    unfold rFNB1T13
    have n17 : 17 ≠ k9 := fun e => ht (by rw [← e]; decide)
    rw [ran_ne n17]
    by_cases e17 : L9 17 = true
    · first | rw [if_pos e17, if_pos e17] | rw [if_pos e17]
      try simp only [hα 13 (ne_ran hk (hcl 17 e17 13 (by decide)))]
    first | rw [if_neg e17, if_neg e17] | rw [if_neg e17]
    try simp only [hα 13 (ne_ran hk e0)]
def rFNB2E (D : Dat) (b : Nat) (r : Tr) (x : Int) (B1_4 : Nat) (B1_3 : Nat) (B1_2 : Nat) (B1_1 : Nat) (B1 : Nat) (nd3 : Nat) (nd4 : Nat) (nd5 : Nat) : Nat → Rega.Atoms → Value
  | 0, α => .pointer (some ⟨b, 0, none⟩)
  | 1, α => .pointer (some ⟨b, 0, none⟩)
  | 2, α => .pointer (some ⟨b, 2, none⟩)
  | 3, α => .agg #[dV D r, .int .i32 (lV r)]
  | 4, α => .agg #[.int .u32 D.src, .int .u32 D.inn]
  | 5, α => .tuple #[.agg #[.nilIface, .int .i32 0], .agg #[.int .i32 0], .pointer none, .agg #[.nilIface, .int .i32 0]]
  | 6, α => .tuple #[.agg #[.nilIface, .int .i32 0], .agg #[.int .i32 0], .pointer none, .agg #[.nilIface, .int .i32 0]]
  | 7, α => .agg #[.nilIface, .int .i32 0]
  | 8, α => .agg #[.int .i32 0]
  | 9, α => .pointer none
  | 10, α => .agg #[.nilIface, .int .i32 0]
  | 11, α => .pointer (some ⟨α 11, 0, none⟩)
  | 12, α => .pointer (some ⟨α 12, 0, none⟩)
  | 13, α => .pointer (some ⟨α 13, 0, none⟩)
  | 14, α => undef
  | 15, α => undef
  | 16, α => .pointer none
  | 17, α => undef
  | _, _ => undef
def rFNB2Anc : Nat → List Nat
  | 1 => [0]
  | 2 => [0, 1]
  | 3 => [0, 1, 2]
  | 5 => [0, 1, 2, 3, 4]
  | 6 => [0, 1, 2, 3, 4, 5]
  | 7 => [0, 1, 2, 3, 4, 5, 6]
  | 8 => [0, 1, 2, 3, 4, 5, 6]
  | 9 => [0, 1, 2, 3, 4, 5, 6]
  | 10 => [0, 1, 2, 3, 4, 5, 6]
  | 14 => [0, 1, 2, 3, 4, 5, 6, 7, 11, 12, 13]
  | 15 => [0, 1, 2, 3, 4, 5, 6, 7, 8, 11, 12, 13, 14]
  | 16 => [0, 1, 2, 3, 4, 5, 6, 7, 8, 9, 11, 12, 13, 14, 15]
  | 17 => [0, 1, 2, 3, 4, 5, 6, 7, 8, 9, 10, 11, 12, 13, 14, 15, 16]
  | _ => []
def rFNB2Trn : Nat → List Nat
  | 14 => [11]
  | 15 => [12]
  | 17 => [13]
  | _ => []
def rFNB2Cnt : List (Nat × Nat) := [(11, 1), (12, 1), (13, 1)]
def rFNB2T11 (D : Dat) (b : Nat) (r : Tr) (x : Int) (B1_4 : Nat) (B1_3 : Nat) (B1_2 : Nat) (B1_1 : Nat) (B1 : Nat) (nd3 : Nat) (nd4 : Nat) (nd5 : Nat) (L9 : Nat → Bool) (α : Rega.Atoms) : Rw := if L9 14 = true then row (α 11) 35 #[.nilIface, .int .i32 0] else row (α 11) 35 #[.nilIface, .int .i32 0]
def rFNB2T12 (D : Dat) (b : Nat) (r : Tr) (x : Int) (B1_4 : Nat) (B1_3 : Nat) (B1_2 : Nat) (B1_1 : Nat) (B1 : Nat) (nd3 : Nat) (nd4 : Nat) (nd5 : Nat) (L9 : Nat → Bool) (α : Rega.Atoms) : Rw := if L9 15 = true then row (α 12) 33 #[.int .i32 0] else row (α 12) 33 #[.int .i32 0]
def rFNB2T13 (D : Dat) (b : Nat) (r : Tr) (x : Int) (B1_4 : Nat) (B1_3 : Nat) (B1_2 : Nat) (B1_1 : Nat) (B1 : Nat) (nd3 : Nat) (nd4 : Nat) (nd5 : Nat) (L9 : Nat → Bool) (α : Rega.Atoms) : Rw := if L9 17 = true then row (α 13) 35 #[.nilIface, .int .i32 0] else row (α 13) 35 #[.nilIface, .int .i32 0]
def rFNB2R (D : Dat) (b : Nat) (r : Tr) (x : Int) (B1_4 : Nat) (B1_3 : Nat) (B1_2 : Nat) (B1_1 : Nat) (B1 : Nat) (nd3 : Nat) (nd4 : Nat) (nd5 : Nat) (L9 : Nat → Bool) (α : Rega.Atoms) (ix9 : Nat) : Rw := if ix9 = 999 then row (B1_4) 35 #[.nilIface, .int .i32 0] else if ix9 = 1999 then row (B1_3) 33 #[.int .i32 0] else if ix9 = 2999 then row (B1_2) 35 #[.nilIface, .int .i32 0] else if ix9 = 3999 then row (B1_1) 27 #[.int .u32 D.src, .int .u32 D.inn] else if ix9 = 4999 then row (B1) 35 #[.iface 63 (.pointer (some ⟨b, 0, none⟩)), .int .i32 x] else if ix9 = 5999 then row (nd3) 35 #[.nilIface, .int .i32 0] else if ix9 = 6999 then row (nd4) 33 #[.int .i32 0] else if ix9 = 7999 then row (nd5) 35 #[.nilIface, .int .i32 0] else if ix9 = 11 then rFNB2T11 D b r x B1_4 B1_3 B1_2 B1_1 B1 nd3 nd4 nd5 L9 α else if ix9 = 12 then rFNB2T12 D b r x B1_4 B1_3 B1_2 B1_1 B1 nd3 nd4 nd5 L9 α else if ix9 = 13 then rFNB2T13 D b r x B1_4 B1_3 B1_2 B1_1 B1 nd3 nd4 nd5 L9 α else (0, .map #[] 0)
theorem rFNB2_he (D : Dat) (b : Nat) (r : Tr) (x : Int) (B1_4 : Nat) (B1_3 : Nat) (B1_2 : Nat) (B1_1 : Nat) (B1 : Nat) (nd3 : Nat) (nd4 : Nat) (nd5 : Nat) : ∀ kk α α', (∀ j, (j % 1000 = kk ∨ j % 1000 ∈ rFNB2Anc kk) → α j = α' j) → rFNB2E D b r x B1_4 B1_3 B1_2 B1_1 B1 nd3 nd4 nd5 kk α = rFNB2E D b r x B1_4 B1_3 B1_2 B1_1 B1 nd3 nd4 nd5 kk α' := by
  intro kk α α' h
  match kk with
  | 0 => rfl
  | 1 => rfl
  | 2 => rfl
  | 3 => rfl
  | 4 => rfl
  | 5 => rfl
  | 6 => rfl
  | 7 => rfl
  | 8 => rfl
  | 9 => rfl
  | 10 => rfl
  | 11 => simp only [rFNB2E, h 11 (Or.inl rfl)]
  | 12 => simp only [rFNB2E, h 12 (Or.inl rfl)]
  | 13 => simp only [rFNB2E, h 13 (Or.inl rfl)]
  | 14 => rfl
  | 15 => rfl
  | 16 => rfl
  | 17 => rfl
  | n + 18 => rfl
theorem rFNB2_st (D : Dat) (b : Nat) (r : Tr) (x : Int) (B1_4 : Nat) (B1_3 : Nat) (B1_2 : Nat) (B1_1 : Nat) (B1 : Nat) (nd3 : Nat) (nd4 : Nat) (nd5 : Nat) : Stable rFNB2Cnt 8 rFNB2Anc rFNB2Trn (rFNB2R D b r x B1_4 B1_3 B1_2 B1_1 B1 nd3 nd4 nd5) := by
  intro k9 L9 α α' ix9 hk hcl hα hact ht
  have hp := act_places hact
  replace hp : ix9 ∈ [999, 1999, 2999, 3999, 4999, 5999, 6999, 7999, 11, 12, 13] := hp
  simp only [List.mem_cons, List.not_mem_nil, or_false] at hp
  rcases hp with rfl | rfl | rfl | rfl | rfl | rfl | rfl | rfl | rfl | rfl | rfl
  · rfl
  · rfl
  · rfl
  · rfl
  · rfl
  · rfl
  · rfl
  · rfl
  · have e0 : L9 11 = true := act_lt hact (by decide)
    show rFNB2T11 D b r x B1_4 B1_3 B1_2 B1_1 B1 nd3 nd4 nd5 (Rega.ran L9 k9) α' = rFNB2T11 D b r x B1_4 B1_3 B1_2 B1_1 B1 nd3 nd4 nd5 L9 α
    unfold rFNB2T11
    have n14 : 14 ≠ k9 := fun e => ht (by rw [← e]; decide)
    rw [ran_ne n14]
    by_cases e14 : L9 14 = true
    · first | rw [if_pos e14, if_pos e14] | rw [if_pos e14]
      try simp only [hα 11 (ne_ran hk (hcl 14 e14 11 (by decide)))]
    first | rw [if_neg e14, if_neg e14] | rw [if_neg e14]
    try simp only [hα 11 (ne_ran hk e0)]
  · have e0 : L9 12 = true := act_lt hact (by decide)
    show rFNB2T12 D b r x B1_4 B1_3 B1_2 B1_1 B1 nd3 nd4 nd5 (Rega.ran L9 k9) α' = rFNB2T12 D b r x B1_4 B1_3 B1_2 B1_1 B1 nd3 nd4 nd5 L9 α
    unfold rFNB2T12
    have n15 : 15 ≠ k9 := fun e => ht (by rw [← e]; decide)
    rw [ran_ne n15]
    by_cases e15 : L9 15 = true
    · first | rw [if_pos e15, if_pos e15] | rw [if_pos e15]
      try simp only [hα 12 (ne_ran hk (hcl 15 e15 12 (by decide)))]
    first | rw [if_neg e15, if_neg e15] | rw [if_neg e15]
    try simp only [hα 12 (ne_ran hk e0)]
  · have e0 : L9 13 = true := act_lt hact (by decide)
    show rFNB2T13 D b r x B1_4 B1_3 B1_2 B1_1 B1 nd3 nd4 nd5 (Rega.ran L9 k9) α' = rFNB2T13 D b r x B1_4 B1_3 B1_2 B1_1 B1 nd3 nd4 nd5 L9 α
    unfold rFNB2T13
    have n17 : 17 ≠ k9 := fun e => ht (by rw [← e]; decide)
    rw [ran_ne n17]
    by_cases e17 : L9 17 = true
    · first | rw [if_pos e17, if_pos e17] | rw [if_pos e17]
      try simp only [hα 13 (ne_ran hk (hcl 17 e17 13 (by decide)))]
    first | rw [if_neg e17, if_neg e17] | rw [if_neg e17]
    try simp only [hα 13 (ne_ran hk e0)]
def findNbPost (D : Dat) (b : Nat) (l r : Tr) (x : Int) (w0 : World) (X : Nat → Obj → Prop) (e : Ending) (w' : World) : Prop :=
  e = .returned (.tuple #[.agg #[.nilIface, .int .i32 0], .agg #[.int .i32 0], .pointer none, .agg #[.nilIface, .int .i32 0]]) ∧ Own w0 w' [] X
set_option maxRecDepth 100000 in
set_option maxHeartbeats 1000000 in
theorem findNb (D : Dat) (b : Nat) (l r : Tr) (x : Int) (w0 w : World) (X : Nat → Obj → Prop) (hO : Own w0 w [] X) (hb : X b (.cells (binC D l r) 66 (0, 0))) (hNl : NodesIn X D l) (hVl : ∀ i, i ∈ l.flat → LeafIn X D i) (hNr : NodesIn X D r) (hVr : ∀ i, i ∈ r.flat → LeafIn X D i) (ihl : ∀ (w0 w : World) (X : Nat → Obj → Prop), Own w0 w [] X → NodesIn X D l → (∀ i, i ∈ l.flat → LeafIn X D i) → Calls Try.prog 17 #[.agg #[dV D l, .int .i32 (lV l)], .agg #[.int .u32 D.src, .int .u32 D.inn]] w (findNPost D l w0 X)) (ihr : ∀ (w0 w : World) (X : Nat → Obj → Prop), Own w0 w [] X → NodesIn X D r → (∀ i, i ∈ r.flat → LeafIn X D i) → Calls Try.prog 17 #[.agg #[dV D r, .int .i32 (lV r)], .agg #[.int .u32 D.src, .int .u32 D.inn]] w (findNPost D r w0 X)) :
    Calls Try.prog 17 #[.agg #[.iface 63 (.pointer (some ⟨b, 0, none⟩)), .int .i32 x], .agg #[.int .u32 D.src, .int .u32 D.inn]] w (findNbPost D b l r x w0 X) := by
  go_enter Try.func17, Try.ntmps17
  have fx0_0 : w.cell? ⟨b, 0, none⟩ = some (dV D l) := hO.fcell hb 0 rfl
  have fx0_1 : w.cell? ⟨b, 1, none⟩ = some (.int .i32 (lV l)) := hO.fcell hb 1 rfl
  have fx0_2 : w.cell? ⟨b, 2, none⟩ = some (dV D r) := hO.fcell hb 2 rfl
  have fx0_3 : w.cell? ⟨b, 3, none⟩ = some (.int .i32 (lV r)) := hO.fcell hb 3 rfl
  have fx0_4 : w.cell? ⟨b, 4, none⟩ = some (.int .u8 36) := hO.fcell hb 4 rfl
  have fx0_5 : w.cell? ⟨b, 5, none⟩ = some (.bool false) := hO.fcell hb 5 rfl
  go_wp2_with (first | (with_reducible refine Own.stay (fn := Try.f17) ?_) | fail)
  try with_reducible refine Own.Stay.mk ?_
  have HO := Lib.hid hO
  clear hO
  have hO := HO.out
  clear HO fx0_0 fx0_1 fx0_2 fx0_3 fx0_4 fx0_5
  generalize hW : World.alloc _ _ = W2
  have hN : Own w0 W2 [row (w.heap.size + 1 + 1 + 1 + 1) 35 #[.nilIface, .int .i32 0], row (w.heap.size + 1 + 1 + 1) 33 #[.int .i32 0], row (w.heap.size + 1 + 1) 35 #[.nilIface, .int .i32 0], row (w.heap.size + 1) 27 #[.int .u32 D.src, .int .u32 D.inn], row (w.heap.size) 35 #[.iface 63 (.pointer (some ⟨b, 0, none⟩)), .int .i32 x]] X := by
    rw [← hW]
    exact (((((hO).alloc' _ (w.heap.size) (by simp)).alloc' _ (w.heap.size + 1) (by simp)).alloc' _ (w.heap.size + 1 + 1) (by simp)).alloc' _ (w.heap.size + 1 + 1 + 1) (by simp)).alloc' _ (w.heap.size + 1 + 1 + 1 + 1) (by simp)
  clear hW hO
  generalize w.heap.size + 1 + 1 + 1 + 1 = B1_4 at hN ⊢
  generalize w.heap.size + 1 + 1 + 1 = B1_3 at hN ⊢
  generalize w.heap.size + 1 + 1 = B1_2 at hN ⊢
  generalize w.heap.size + 1 = B1_1 at hN ⊢
  generalize w.heap.size = B1 at hN ⊢
  have hO := hN
  clear hN
  have st9 := rFNB1_st D b l x B1_4 B1_3 B1_2 B1_1 B1
  let R9 := rFNB1R D b l x B1_4 B1_3 B1_2 B1_1 B1
  refine wp_region_own (e := rFNB1E D b l x B1_4 B1_3 B1_2 B1_1 B1) (anc := rFNB1Anc) (G := (fun L9 α u9 => OwnF w0 u9 (act rFNB1Cnt 5 L9) (rFNB1R D b l x B1_4 B1_3 B1_2 B1_1 B1 L9 α) X)) (by kernel_rfl) (by kernel_rfl) (by kernel_rfl) (by kernel_rfl) (rFNB1_he D b l x B1_4 B1_3 B1_2 B1_1 B1) ?_ (RunsAll.all ?_) ?_
  · have hp : ∀ i, act rFNB1Cnt 5 (fun _ => false) i → i ∈ [999, 1999, 2999, 3999, 4999] := by
      intro i hi
      have h9 : i % 1000 = 999 := by
        by_cases h : i % 1000 = 999
        · exact h
        · exact absurd (act_lt hi h) (by simp)
      unfold act at hi
      rw [if_pos h9] at hi
      simp only [List.mem_cons, List.not_mem_nil, or_false]
      omega
    refine hO.drew.family (fun i hi => ?_) (fun i j hi hj hij => ?_)
    · have := hp i hi
      simp only [List.mem_cons, List.not_mem_nil, or_false] at this
      rcases this with rfl | rfl | rfl | rfl | rfl <;> rfl
    · have h1 := hp i hi
      have h2 := hp j hj
      simp only [List.mem_cons, List.not_mem_nil, or_false] at h1 h2
      omega
  · refine ⟨?_, ?_, ?_, ?_, ?_, ?_, ?_, ?_, ?_, ?_, ?_, ?_, ?_, ?_, ?_, ?_, ?_, ?_, trivial⟩
    · intro L9 α a9 u9 K9 hL hcl hA hG hS h0 hK
      replace hL : L9 0 = false := hL
      have q12 : a9.tmps[12]? = some (.pointer (some ⟨b, 0, none⟩)) := (h0 12 (by kernel_rfl)).trans rfl
      have s12 := Rega.eval_of q12
      go_simp
      exact hK _ α _ (fun _ _ => rfl) rfl (step_same (st9) hL hcl rfl rfl hG)
    · intro L9 α a9 u9 K9 hL hcl hA hG hS h0 hK
      replace hL : L9 1 = false := hL
      have q74 : a9.tmps[74]? = some (.pointer (some ⟨b, 0, none⟩)) := hS 0 74 (by decide) rfl (by show 74 < 120; decide)
      have s74 := Rega.eval_of q74
      go_simp
      exact hK _ α _ (fun _ _ => rfl) rfl (step_same (st9) hL hcl rfl rfl hG)
    · intro L9 α a9 u9 K9 hL hcl hA hG hS h0 hK
      replace hL : L9 2 = false := hL
      have q75 : a9.tmps[75]? = some (.pointer (some ⟨b, 0, none⟩)) := hS 1 75 (by decide) rfl (by show 75 < 120; decide)
      have s75 := Rega.eval_of q75
      go_simp
      exact hK _ α _ (fun _ _ => rfl) rfl (step_same (st9) hL hcl rfl rfl hG)
    · intro L9 α a9 u9 K9 hL hcl hA hG hS h0 hK
      replace hL : L9 3 = false := hL
      have q76 : a9.tmps[76]? = some (.pointer (some ⟨b, 0, none⟩)) := hS 2 76 (by decide) rfl (by show 76 < 120; decide)
      have s76 := Rega.eval_of q76
      have c0 : u9.cell? ⟨b, 0, none⟩ = some (dV D l) := Base.RowAt.cell (show Base.RowAt u9 b 66 (binC D l r) from (hG.frame _ _ hb).2.1) rfl
      have c1 : u9.cell? ⟨b, 1, none⟩ = some (.int .i32 (lV l)) := Base.RowAt.cell (show Base.RowAt u9 b 66 (binC D l r) from (hG.frame _ _ hb).2.1) rfl
      go_simp
      exact hK _ α _ (fun _ _ => rfl) rfl (step_same (st9) hL hcl rfl rfl hG)
    · intro L9 α a9 u9 K9 hL hcl hA hG hS h0 hK
      replace hL : L9 4 = false := hL
      have q3 : a9.tmps[3]? = some (.pointer (some ⟨B1_1, 0, none⟩)) := (h0 3 (by kernel_rfl)).trans rfl
      have s3 := Rega.eval_of q3
      have e0 : R9 L9 α 3999 = row (B1_1) 27 #[.int .u32 D.src, .int .u32 D.inn] := rfl
      have hr := hG.rowAt 3999 (act_base 3999 rfl) e0
      have c0 : u9.cell? ⟨B1_1, 0, none⟩ = some (.int .u32 D.src) := hr.cell rfl
      have c1 : u9.cell? ⟨B1_1, 1, none⟩ = some (.int .u32 D.inn) := hr.cell rfl
      clear hr e0
      go_simp
      exact hK _ α _ (fun _ _ => rfl) rfl (step_same (st9) hL hcl rfl rfl hG)
    · intro L9 α a9 u9 K9 hL hcl hA hG hS h0 hK
      replace hL : L9 5 = false := hL
      have q77 : a9.tmps[77]? = some (.agg #[dV D l, .int .i32 (lV l)]) := hS 3 77 (by decide) rfl (by show 77 < 120; decide)
      have s77 := Rega.eval_of q77
      have q78 : a9.tmps[78]? = some (.agg #[.int .u32 D.src, .int .u32 D.inn]) := hS 4 78 (by decide) rfl (by show 78 < 120; decide)
      have s78 := Rega.eval_of q78
      go_simp
      have hM : ∀ i, i ∈ [] → act rFNB1Cnt 5 L9 i := by intro i hi; simp at hi
      have hP : Own w0 u9 [] _ := hG.pick [] (by decide) (by simp)
      clear hM
      refine Calls.mono (ihl  _ _ _ hP (hNl.mono fun _ _ h => Or.inl h) (fun i hi => (hVl i hi).mono fun _ _ h => Or.inl h)) ?_
      rintro e9 u1 ⟨rfl, hQ⟩
      obtain ⟨α', hα'⟩ : ∃ α' : Rega.Atoms, α' = α := ⟨_, rfl⟩
      have hα : ∀ j, j % 1000 ≠ 5 → α' j = α j := fun j hj => by rw [hα']
      skip
      refine hK _ α' _ hα ?_ (step_call (st9) hL hcl hα [] [] (by decide) (by decide) (by decide) (M := _) ?_ hG hQ)
      · rfl
      · rfl
    · intro L9 α a9 u9 K9 hL hcl hA hG hS h0 hK
      replace hL : L9 6 = false := hL
      have q79 : a9.tmps[79]? = some (.tuple #[.agg #[.nilIface, .int .i32 0], .agg #[.int .i32 0], .pointer none, .agg #[.nilIface, .int .i32 0]]) := hS 5 79 (by decide) rfl (by show 79 < 120; decide)
      have s79 := Rega.eval_of q79
      go_simp
      exact hK _ α _ (fun _ _ => rfl) rfl (step_same (st9) hL hcl rfl rfl hG)
    · intro L9 α a9 u9 K9 hL hcl hA hG hS h0 hK
      replace hL : L9 7 = false := hL
      have q73 : a9.tmps[73]? = some (.tuple #[.agg #[.nilIface, .int .i32 0], .agg #[.int .i32 0], .pointer none, .agg #[.nilIface, .int .i32 0]]) := hS 6 73 (by decide) rfl (by show 73 < 120; decide)
      have s73 := Rega.eval_of q73
      go_simp
      exact hK _ α _ (fun _ _ => rfl) rfl (step_same (st9) hL hcl rfl rfl hG)
    · intro L9 α a9 u9 K9 hL hcl hA hG hS h0 hK
      replace hL : L9 8 = false := hL
      have q73 : a9.tmps[73]? = some (.tuple #[.agg #[.nilIface, .int .i32 0], .agg #[.int .i32 0], .pointer none, .agg #[.nilIface, .int .i32 0]]) := hS 6 73 (by decide) rfl (by show 73 < 120; decide)
      have s73 := Rega.eval_of q73
      go_simp
      exact hK _ α _ (fun _ _ => rfl) rfl (step_same (st9) hL hcl rfl rfl hG)
    · intro L9 α a9 u9 K9 hL hcl hA hG hS h0 hK
      replace hL : L9 9 = false := hL
      have q73 : a9.tmps[73]? = some (.tuple #[.agg #[.nilIface, .int .i32 0], .agg #[.int .i32 0], .pointer none, .agg #[.nilIface, .int .i32 0]]) := hS 6 73 (by decide) rfl (by show 73 < 120; decide)
      have s73 := Rega.eval_of q73
      go_simp
      exact hK _ α _ (fun _ _ => rfl) rfl (step_same (st9) hL hcl rfl rfl hG)
    · intro L9 α a9 u9 K9 hL hcl hA hG hS h0 hK
      replace hL : L9 10 = false := hL
      have q73 : a9.tmps[73]? = some (.tuple #[.agg #[.nilIface, .int .i32 0], .agg #[.int .i32 0], .pointer none, .agg #[.nilIface, .int .i32 0]]) := hS 6 73 (by decide) rfl (by show 73 < 120; decide)
      have s73 := Rega.eval_of q73
      go_simp
      exact hK _ α _ (fun _ _ => rfl) rfl (step_same (st9) hL hcl rfl rfl hG)
    · intro L9 α a9 u9 K9 hL hcl hA hG hS h0 hK
      replace hL : L9 11 = false := hL
      go_simp
      have e1 : R9 (Rega.ran L9 11) (fun j => if j = 11 then u9.heap.size else α j) 11 = row (u9.heap.size) 35 #[.nilIface, .int .i32 0] := by
        show rFNB1T11 D b l x B1_4 B1_3 B1_2 B1_1 B1 (Rega.ran L9 11) (fun j => if j = 11 then u9.heap.size else α j) = _
        unfold rFNB1T11
        exact ((if_neg (fun e => (fun e => by have := hcl 14 e 11 (by decide); rw [hL] at this; cases this) ((ran_ne (by decide)).symm.trans e))).trans rfl)
      exact hK _ (fun j => if j = 11 then u9.heap.size else α j) _ (fun j hj => if_neg (fun e => hj (by rw [e]))) rfl (step_alloc (st9) hL hcl rfl rfl (by decide) _ e1 hG)
    · intro L9 α a9 u9 K9 hL hcl hA hG hS h0 hK
      replace hL : L9 12 = false := hL
      go_simp
      have e1 : R9 (Rega.ran L9 12) (fun j => if j = 12 then u9.heap.size else α j) 12 = row (u9.heap.size) 33 #[.int .i32 0] := by
        show rFNB1T12 D b l x B1_4 B1_3 B1_2 B1_1 B1 (Rega.ran L9 12) (fun j => if j = 12 then u9.heap.size else α j) = _
        unfold rFNB1T12
        exact ((if_neg (fun e => (fun e => by have := hcl 15 e 12 (by decide); rw [hL] at this; cases this) ((ran_ne (by decide)).symm.trans e))).trans rfl)
      exact hK _ (fun j => if j = 12 then u9.heap.size else α j) _ (fun j hj => if_neg (fun e => hj (by rw [e]))) rfl (step_alloc (st9) hL hcl rfl rfl (by decide) _ e1 hG)
    · intro L9 α a9 u9 K9 hL hcl hA hG hS h0 hK
      replace hL : L9 13 = false := hL
      go_simp
      have e1 : R9 (Rega.ran L9 13) (fun j => if j = 13 then u9.heap.size else α j) 13 = row (u9.heap.size) 35 #[.nilIface, .int .i32 0] := by
        show rFNB1T13 D b l x B1_4 B1_3 B1_2 B1_1 B1 (Rega.ran L9 13) (fun j => if j = 13 then u9.heap.size else α j) = _
        unfold rFNB1T13
        exact ((if_neg (fun e => (fun e => by have := hcl 17 e 13 (by decide); rw [hL] at this; cases this) ((ran_ne (by decide)).symm.trans e))).trans rfl)
      exact hK _ (fun j => if j = 13 then u9.heap.size else α j) _ (fun j hj => if_neg (fun e => hj (by rw [e]))) rfl (step_alloc (st9) hL hcl rfl rfl (by decide) _ e1 hG)
    · intro L9 α a9 u9 K9 hL hcl hA hG hS h0 hK
      replace hL : L9 14 = false := hL
      have q14 : a9.tmps[14]? = some (.pointer (some ⟨α 11, 0, none⟩)) := hS 11 14 (by decide) rfl (by show 14 < 120; decide)
      have s14 := Rega.eval_of q14
      have q80 : a9.tmps[80]? = some (.agg #[.nilIface, .int .i32 0]) := hS 7 80 (by decide) rfl (by show 80 < 120; decide)
      have s80 := Rega.eval_of q80
      have e0 : R9 L9 α 11 = row (α 11) 35 #[.nilIface, .int .i32 0] := by
        show rFNB1T11 D b l x B1_4 B1_3 B1_2 B1_1 B1 L9 α = _
        unfold rFNB1T11
        rw [if_neg (by rw [hL]; decide)]
      have hr := hG.rowAt 11 (act_new 11 rfl (hA 11 (by decide))) e0
      have c0 : u9.cell? ⟨α 11, 0, none⟩ = some (.nilIface) := hr.cell rfl
      have y0 : u9.frozen? ⟨α 11, 0, none⟩ = false := hr.free (0)
      have c1 : u9.cell? ⟨α 11, 1, none⟩ = some (.int .i32 0) := hr.cell rfl
      have y1 : u9.frozen? ⟨α 11, 1, none⟩ = false := hr.free (1)
      clear hr
      have E0 := Lib.hid e0
      clear e0
      go_simp
      have e1 : R9 (Rega.ran L9 14) α 11 = row (α 11) 35 #[.nilIface, .int .i32 0] := by
        show rFNB1T11 D b l x B1_4 B1_3 B1_2 B1_1 B1 (Rega.ran L9 14) α = _
        unfold rFNB1T11
        rw [if_pos (show Rega.ran L9 14 14 = true from rfl)]
      exact hK _ α _ (fun _ _ => rfl) rfl (step_sets (st9) hL hcl rfl 11 rfl (act_new 11 rfl (hA 11 (by decide))) E0.out (0) [.nilIface, .int .i32 0] (e1.trans rfl) hG)
    · intro L9 α a9 u9 K9 hL hcl hA hG hS h0 hK
      replace hL : L9 15 = false := hL
      have q15 : a9.tmps[15]? = some (.pointer (some ⟨α 12, 0, none⟩)) := hS 12 15 (by decide) rfl (by show 15 < 120; decide)
      have s15 := Rega.eval_of q15
      have q81 : a9.tmps[81]? = some (.agg #[.int .i32 0]) := hS 8 81 (by decide) rfl (by show 81 < 120; decide)
      have s81 := Rega.eval_of q81
      have e0 : R9 L9 α 12 = row (α 12) 33 #[.int .i32 0] := by
        show rFNB1T12 D b l x B1_4 B1_3 B1_2 B1_1 B1 L9 α = _
        unfold rFNB1T12
        rw [if_neg (by rw [hL]; decide)]
      have hr := hG.rowAt 12 (act_new 12 rfl (hA 12 (by decide))) e0
      have c0 : u9.cell? ⟨α 12, 0, none⟩ = some (.int .i32 0) := hr.cell rfl
      have y0 : u9.frozen? ⟨α 12, 0, none⟩ = false := hr.free (0)
      clear hr
      have E0 := Lib.hid e0
      clear e0
      go_simp
      have e1 : R9 (Rega.ran L9 15) α 12 = row (α 12) 33 #[.int .i32 0] := by
        show rFNB1T12 D b l x B1_4 B1_3 B1_2 B1_1 B1 (Rega.ran L9 15) α = _
        unfold rFNB1T12
        rw [if_pos (show Rega.ran L9 15 15 = true from rfl)]
      exact hK _ α _ (fun _ _ => rfl) rfl (step_sets (st9) hL hcl rfl 12 rfl (act_new 12 rfl (hA 12 (by decide))) E0.out (0) [.int .i32 0] (e1.trans rfl) hG)
    · intro L9 α a9 u9 K9 hL hcl hA hG hS h0 hK
      replace hL : L9 16 = false := hL
      have q82 : a9.tmps[82]? = some (.pointer none) := hS 9 82 (by decide) rfl (by show 82 < 120; decide)
      have s82 := Rega.eval_of q82
      go_simp
      exact hK _ α _ (fun _ _ => rfl) rfl (step_same (st9) hL hcl rfl rfl hG)
    · intro L9 α a9 u9 K9 hL hcl hA hG hS h0 hK
      replace hL : L9 17 = false := hL
      have q17 : a9.tmps[17]? = some (.pointer (some ⟨α 13, 0, none⟩)) := hS 13 17 (by decide) rfl (by show 17 < 120; decide)
      have s17 := Rega.eval_of q17
      have q83 : a9.tmps[83]? = some (.agg #[.nilIface, .int .i32 0]) := hS 10 83 (by decide) rfl (by show 83 < 120; decide)
      have s83 := Rega.eval_of q83
      have e0 : R9 L9 α 13 = row (α 13) 35 #[.nilIface, .int .i32 0] := by
        show rFNB1T13 D b l x B1_4 B1_3 B1_2 B1_1 B1 L9 α = _
        unfold rFNB1T13
        rw [if_neg (by rw [hL]; decide)]
      have hr := hG.rowAt 13 (act_new 13 rfl (hA 13 (by decide))) e0
      have c0 : u9.cell? ⟨α 13, 0, none⟩ = some (.nilIface) := hr.cell rfl
      have y0 : u9.frozen? ⟨α 13, 0, none⟩ = false := hr.free (0)
      have c1 : u9.cell? ⟨α 13, 1, none⟩ = some (.int .i32 0) := hr.cell rfl
      have y1 : u9.frozen? ⟨α 13, 1, none⟩ = false := hr.free (1)
      clear hr
      have E0 := Lib.hid e0
      clear e0
      go_simp
      have e1 : R9 (Rega.ran L9 17) α 13 = row (α 13) 35 #[.nilIface, .int .i32 0] := by
        show rFNB1T13 D b l x B1_4 B1_3 B1_2 B1_1 B1 (Rega.ran L9 17) α = _
        unfold rFNB1T13
        rw [if_pos (show Rega.ran L9 17 17 = true from rfl)]
      exact hK _ α _ (fun _ _ => rfl) rfl (step_sets (st9) hL hcl rfl 13 rfl (act_new 13 rfl (hA 13 (by decide))) E0.out (0) [.nilIface, .int .i32 0] (e1.trans rfl) hG)
  clear st9
  intro α u hG
  have e0 : R9 (fun k => decide (k < 18)) α 999 = row (B1_4) 35 #[.nilIface, .int .i32 0] := rfl
  have e1 : R9 (fun k => decide (k < 18)) α 1999 = row (B1_3) 33 #[.int .i32 0] := rfl
  have e2 : R9 (fun k => decide (k < 18)) α 2999 = row (B1_2) 35 #[.nilIface, .int .i32 0] := rfl
  have e3 : R9 (fun k => decide (k < 18)) α 3999 = row (B1_1) 27 #[.int .u32 D.src, .int .u32 D.inn] := rfl
  have e4 : R9 (fun k => decide (k < 18)) α 4999 = row (B1) 35 #[.iface 63 (.pointer (some ⟨b, 0, none⟩)), .int .i32 x] := rfl
  have e5 : R9 (fun k => decide (k < 18)) α 11 = row (α 11) 35 #[.nilIface, .int .i32 0] := by
    show rFNB1T11 D b l x B1_4 B1_3 B1_2 B1_1 B1 (fun k => decide (k < 18)) α = _
    unfold rFNB1T11
    rw [if_pos (by decide)]
  have e6 : R9 (fun k => decide (k < 18)) α 12 = row (α 12) 33 #[.int .i32 0] := by
    show rFNB1T12 D b l x B1_4 B1_3 B1_2 B1_1 B1 (fun k => decide (k < 18)) α = _
    unfold rFNB1T12
    rw [if_pos (by decide)]
  have e7 : R9 (fun k => decide (k < 18)) α 13 = row (α 13) 35 #[.nilIface, .int .i32 0] := by
    show rFNB1T13 D b l x B1_4 B1_3 B1_2 B1_1 B1 (fun k => decide (k < 18)) α = _
    unfold rFNB1T13
    rw [if_pos (by decide)]
  have hO : Own w0 u [row (B1_4) 35 #[.nilIface, .int .i32 0], row (B1_3) 33 #[.int .i32 0], row (B1_2) 35 #[.nilIface, .int .i32 0], row (B1_1) 27 #[.int .u32 D.src, .int .u32 D.inn], row (B1) 35 #[.iface 63 (.pointer (some ⟨b, 0, none⟩)), .int .i32 x], row (α 11) 35 #[.nilIface, .int .i32 0], row (α 12) 33 #[.int .i32 0], row (α 13) 35 #[.nilIface, .int .i32 0]] X := (hG.list [999, 1999, 2999, 3999, 4999, 11, 12, 13] (by decide) (act_all (by decide))).conv (by
    show [R9 (fun k => decide (k < 18)) α 999, R9 (fun k => decide (k < 18)) α 1999, R9 (fun k => decide (k < 18)) α 2999, R9 (fun k => decide (k < 18)) α 3999, R9 (fun k => decide (k < 18)) α 4999, R9 (fun k => decide (k < 18)) α 11, R9 (fun k => decide (k < 18)) α 12, R9 (fun k => decide (k < 18)) α 13] = _
    rw [e0, e1, e2, e3, e4, e5, e6, e7])
  clear hG e0 e1 e2 e3 e4 e5 e6 e7 R9
  generalize hfr : Rega.frameAt _ _ _ _ _ = fr
  have hdf : fr = ⟨#[.agg #[.iface 63 (.pointer (some ⟨b, 0, none⟩)), .int .i32 x], .agg #[.int .u32 D.src, .int .u32 D.inn], .pointer (some ⟨B1, 0, none⟩), .pointer (some ⟨B1_1, 0, none⟩), .pointer (some ⟨B1_2, 0, none⟩), .pointer (some ⟨B1_3, 0, none⟩), .pointer none, .pointer (some ⟨B1_4, 0, none⟩), .pointer none, .bool false, undef, undef, .pointer (some ⟨b, 0, none⟩), .bool true, .pointer (some ⟨α 11, 0, none⟩), .pointer (some ⟨α 12, 0, none⟩), .pointer none, .pointer (some ⟨α 13, 0, none⟩), undef, undef, undef, undef, .tuple #[.pointer none, .bool false], .pointer (some ⟨B1, 0, none⟩), .iface 63 (.pointer (some ⟨b, 0, none⟩)), .tuple #[.pointer none, .bool false], .pointer none, .bool false, .bool false, undef, undef, undef, undef, undef, undef, undef, undef, undef, undef, undef, undef, undef, undef, undef, undef, undef, undef, undef, undef, undef, undef, undef, undef, undef, undef, undef, undef, undef, undef, .tuple #[.pointer (some ⟨b, 0, none⟩), .bool true], .pointer (some ⟨B1, 0, none⟩), .iface 63 (.pointer (some ⟨b, 0, none⟩)), .tuple #[.pointer (some ⟨b, 0, none⟩), .bool true], .pointer (some ⟨b, 0, none⟩), .bool true, .bool true, .bool true, .pointer (some ⟨b, 0, none⟩), .pointer (some ⟨b, 0, none⟩), .pointer (some ⟨b, 4, none⟩), .int .u8 36, .bool true, .bool true, .tuple #[.agg #[.nilIface, .int .i32 0], .agg #[.int .i32 0], .pointer none, .agg #[.nilIface, .int .i32 0]], .pointer (some ⟨b, 0, none⟩), .pointer (some ⟨b, 0, none⟩), .pointer (some ⟨b, 0, none⟩), .agg #[dV D l, .int .i32 (lV l)], .agg #[.int .u32 D.src, .int .u32 D.inn], .tuple #[.agg #[.nilIface, .int .i32 0], .agg #[.int .i32 0], .pointer none, .agg #[.nilIface, .int .i32 0]], .agg #[.nilIface, .int .i32 0], .agg #[.int .i32 0], .pointer none, .agg #[.nilIface, .int .i32 0], undef, undef, undef, undef, undef, undef, undef, undef, undef, undef, undef, undef, undef, undef, undef, undef, undef, undef, undef, undef, undef, undef, undef, undef, undef, undef, undef, undef, undef, undef, undef, undef, undef, undef, undef, undef], []⟩ := by rw [← hfr]; kernel_rfl
  clear hfr
  subst hdf
  generalize α 11 = nd3 at hO ⊢
  generalize α 12 = nd4 at hO ⊢
  generalize α 13 = nd5 at hO ⊢
  clear α
  obtain ⟨c9_0_0, c9_0_1, lt9_0, y9_0, -⟩ := hO.k2 0 rfl
  obtain ⟨c9_1_0, lt9_1, y9_1, -⟩ := hO.k1 1 rfl
  obtain ⟨c9_2_0, c9_2_1, lt9_2, y9_2, -⟩ := hO.k2 2 rfl
  obtain ⟨c9_3_0, c9_3_1, lt9_3, y9_3, -⟩ := hO.k2 3 rfl
  obtain ⟨c9_4_0, c9_4_1, lt9_4, y9_4, -⟩ := hO.k2 4 rfl
  obtain ⟨c9_5_0, c9_5_1, lt9_5, y9_5, -⟩ := hO.k2 5 rfl
  obtain ⟨c9_6_0, lt9_6, y9_6, -⟩ := hO.k1 6 rfl
  obtain ⟨c9_7_0, c9_7_1, lt9_7, y9_7, -⟩ := hO.k2 7 rfl
  have HO := Lib.hid hO
  clear hO
  have fx0_0 : u.cell? ⟨b, 0, none⟩ = some (dV D l) := HO.out.fcell hb 0 rfl
  have fx0_1 : u.cell? ⟨b, 1, none⟩ = some (.int .i32 (lV l)) := HO.out.fcell hb 1 rfl
  have fx0_2 : u.cell? ⟨b, 2, none⟩ = some (dV D r) := HO.out.fcell hb 2 rfl
  have fx0_3 : u.cell? ⟨b, 3, none⟩ = some (.int .i32 (lV r)) := HO.out.fcell hb 3 rfl
  have fx0_4 : u.cell? ⟨b, 4, none⟩ = some (.int .u8 36) := HO.out.fcell hb 4 rfl
  have fx0_5 : u.cell? ⟨b, 5, none⟩ = some (.bool false) := HO.out.fcell hb 5 rfl
  go_wp2_with (first | (with_reducible refine Own.stay (fn := Try.f17) ?_) | fail)
  try with_reducible refine Own.Stay.mk ?_
  have hO := HO.out
  clear HO fx0_0 fx0_1 fx0_2 fx0_3 fx0_4 fx0_5 c9_0_0 c9_0_1 lt9_0 y9_0 c9_1_0 lt9_1 y9_1 c9_2_0 c9_2_1 lt9_2 y9_2 c9_3_0 c9_3_1 lt9_3 y9_3 c9_4_0 c9_4_1 lt9_4 y9_4 c9_5_0 c9_5_1 lt9_5 y9_5 c9_6_0 lt9_6 y9_6 c9_7_0 c9_7_1 lt9_7 y9_7
  have st9 := rFNB2_st D b r x B1_4 B1_3 B1_2 B1_1 B1 nd3 nd4 nd5
  let R9 := rFNB2R D b r x B1_4 B1_3 B1_2 B1_1 B1 nd3 nd4 nd5
  refine wp_region_own (e := rFNB2E D b r x B1_4 B1_3 B1_2 B1_1 B1 nd3 nd4 nd5) (anc := rFNB2Anc) (G := (fun L9 α u9 => OwnF w0 u9 (act rFNB2Cnt 8 L9) (rFNB2R D b r x B1_4 B1_3 B1_2 B1_1 B1 nd3 nd4 nd5 L9 α) X)) (by kernel_rfl) (by kernel_rfl) (by kernel_rfl) (by kernel_rfl) (rFNB2_he D b r x B1_4 B1_3 B1_2 B1_1 B1 nd3 nd4 nd5) ?_ (RunsAll.all ?_) ?_
  · have hp : ∀ i, act rFNB2Cnt 8 (fun _ => false) i → i ∈ [999, 1999, 2999, 3999, 4999, 5999, 6999, 7999] := by
      intro i hi
      have h9 : i % 1000 = 999 := by
        by_cases h : i % 1000 = 999
        · exact h
        · exact absurd (act_lt hi h) (by simp)
      unfold act at hi
      rw [if_pos h9] at hi
      simp only [List.mem_cons, List.not_mem_nil, or_false]
      omega
    refine hO.drew.family (fun i hi => ?_) (fun i j hi hj hij => ?_)
    · have := hp i hi
      simp only [List.mem_cons, List.not_mem_nil, or_false] at this
      rcases this with rfl | rfl | rfl | rfl | rfl | rfl | rfl | rfl <;> rfl
    · have h1 := hp i hi
      have h2 := hp j hj
      simp only [List.mem_cons, List.not_mem_nil, or_false] at h1 h2
      omega
  · refine ⟨?_, ?_, ?_, ?_, ?_, ?_, ?_, ?_, ?_, ?_, ?_, ?_, ?_, ?_, ?_, ?_, ?_, ?_, trivial⟩
    · intro L9 α a9 u9 K9 hL hcl hA hG hS h0 hK
      replace hL : L9 0 = false := hL
      have q12 : a9.tmps[12]? = some (.pointer (some ⟨b, 0, none⟩)) := (h0 12 (by kernel_rfl)).trans rfl
      have s12 := Rega.eval_of q12
      go_simp
      exact hK _ α _ (fun _ _ => rfl) rfl (step_same (st9) hL hcl rfl rfl hG)
    · intro L9 α a9 u9 K9 hL hcl hA hG hS h0 hK
      replace hL : L9 1 = false := hL
      have q96 : a9.tmps[96]? = some (.pointer (some ⟨b, 0, none⟩)) := hS 0 96 (by decide) rfl (by show 96 < 120; decide)
      have s96 := Rega.eval_of q96
      go_simp
      exact hK _ α _ (fun _ _ => rfl) rfl (step_same (st9) hL hcl rfl rfl hG)
    · intro L9 α a9 u9 K9 hL hcl hA hG hS h0 hK
      replace hL : L9 2 = false := hL
      have q97 : a9.tmps[97]? = some (.pointer (some ⟨b, 0, none⟩)) := hS 1 97 (by decide) rfl (by show 97 < 120; decide)
      have s97 := Rega.eval_of q97
      go_simp
      exact hK _ α _ (fun _ _ => rfl) rfl (step_same (st9) hL hcl rfl rfl hG)
    · intro L9 α a9 u9 K9 hL hcl hA hG hS h0 hK
      replace hL : L9 3 = false := hL
      have q98 : a9.tmps[98]? = some (.pointer (some ⟨b, 2, none⟩)) := hS 2 98 (by decide) rfl (by show 98 < 120; decide)
      have s98 := Rega.eval_of q98
      have c0 : u9.cell? ⟨b, 2, none⟩ = some (dV D r) := Base.RowAt.cell (show Base.RowAt u9 b 66 (binC D l r) from (hG.frame _ _ hb).2.1) rfl
      have c1 : u9.cell? ⟨b, 3, none⟩ = some (.int .i32 (lV r)) := Base.RowAt.cell (show Base.RowAt u9 b 66 (binC D l r) from (hG.frame _ _ hb).2.1) rfl
      go_simp
      exact hK _ α _ (fun _ _ => rfl) rfl (step_same (st9) hL hcl rfl rfl hG)
    · intro L9 α a9 u9 K9 hL hcl hA hG hS h0 hK
      replace hL : L9 4 = false := hL
      have q3 : a9.tmps[3]? = some (.pointer (some ⟨B1_1, 0, none⟩)) := (h0 3 (by kernel_rfl)).trans rfl
      have s3 := Rega.eval_of q3
      have e0 : R9 L9 α 3999 = row (B1_1) 27 #[.int .u32 D.src, .int .u32 D.inn] := rfl
      have hr := hG.rowAt 3999 (act_base 3999 rfl) e0
      have c0 : u9.cell? ⟨B1_1, 0, none⟩ = some (.int .u32 D.src) := hr.cell rfl
      have c1 : u9.cell? ⟨B1_1, 1, none⟩ = some (.int .u32 D.inn) := hr.cell rfl
      clear hr e0
      go_simp
      exact hK _ α _ (fun _ _ => rfl) rfl (step_same (st9) hL hcl rfl rfl hG)
    · intro L9 α a9 u9 K9 hL hcl hA hG hS h0 hK
      replace hL : L9 5 = false := hL
      have q99 : a9.tmps[99]? = some (.agg #[dV D r, .int .i32 (lV r)]) := hS 3 99 (by decide) rfl (by show 99 < 120; decide)
      have s99 := Rega.eval_of q99
      have q100 : a9.tmps[100]? = some (.agg #[.int .u32 D.src, .int .u32 D.inn]) := hS 4 100 (by decide) rfl (by show 100 < 120; decide)
      have s100 := Rega.eval_of q100
      go_simp
      have hM : ∀ i, i ∈ [] → act rFNB2Cnt 8 L9 i := by intro i hi; simp at hi
      have hP : Own w0 u9 [] _ := hG.pick [] (by decide) (by simp)
      clear hM
      refine Calls.mono (ihr  _ _ _ hP (hNr.mono fun _ _ h => Or.inl h) (fun i hi => (hVr i hi).mono fun _ _ h => Or.inl h)) ?_
      rintro e9 u1 ⟨rfl, hQ⟩
      obtain ⟨α', hα'⟩ : ∃ α' : Rega.Atoms, α' = α := ⟨_, rfl⟩
      have hα : ∀ j, j % 1000 ≠ 5 → α' j = α j := fun j hj => by rw [hα']
      skip
      refine hK _ α' _ hα ?_ (step_call (st9) hL hcl hα [] [] (by decide) (by decide) (by decide) (M := _) ?_ hG hQ)
      · rfl
      · rfl
    · intro L9 α a9 u9 K9 hL hcl hA hG hS h0 hK
      replace hL : L9 6 = false := hL
      have q101 : a9.tmps[101]? = some (.tuple #[.agg #[.nilIface, .int .i32 0], .agg #[.int .i32 0], .pointer none, .agg #[.nilIface, .int .i32 0]]) := hS 5 101 (by decide) rfl (by show 101 < 120; decide)
      have s101 := Rega.eval_of q101
      go_simp
      exact hK _ α _ (fun _ _ => rfl) rfl (step_same (st9) hL hcl rfl rfl hG)
    · intro L9 α a9 u9 K9 hL hcl hA hG hS h0 hK
      replace hL : L9 7 = false := hL
      have q95 : a9.tmps[95]? = some (.tuple #[.agg #[.nilIface, .int .i32 0], .agg #[.int .i32 0], .pointer none, .agg #[.nilIface, .int .i32 0]]) := hS 6 95 (by decide) rfl (by show 95 < 120; decide)
      have s95 := Rega.eval_of q95
      go_simp
      exact hK _ α _ (fun _ _ => rfl) rfl (step_same (st9) hL hcl rfl rfl hG)
    · intro L9 α a9 u9 K9 hL hcl hA hG hS h0 hK
      replace hL : L9 8 = false := hL
      have q95 : a9.tmps[95]? = some (.tuple #[.agg #[.nilIface, .int .i32 0], .agg #[.int .i32 0], .pointer none, .agg #[.nilIface, .int .i32 0]]) := hS 6 95 (by decide) rfl (by show 95 < 120; decide)
      have s95 := Rega.eval_of q95
      go_simp
      exact hK _ α _ (fun _ _ => rfl) rfl (step_same (st9) hL hcl rfl rfl hG)
    · intro L9 α a9 u9 K9 hL hcl hA hG hS h0 hK
      replace hL : L9 9 = false := hL
      have q95 : a9.tmps[95]? = some (.tuple #[.agg #[.nilIface, .int .i32 0], .agg #[.int .i32 0], .pointer none, .agg #[.nilIface, .int .i32 0]]) := hS 6 95 (by decide) rfl (by show 95 < 120; decide)
      have s95 := Rega.eval_of q95
      go_simp
      exact hK _ α _ (fun _ _ => rfl) rfl (step_same (st9) hL hcl rfl rfl hG)
    · intro L9 α a9 u9 K9 hL hcl hA hG hS h0 hK
      replace hL : L9 10 = false := hL
      have q95 : a9.tmps[95]? = some (.tuple #[.agg #[.nilIface, .int .i32 0], .agg #[.int .i32 0], .pointer none, .agg #[.nilIface, .int .i32 0]]) := hS 6 95 (by decide) rfl (by show 95 < 120; decide)
      have s95 := Rega.eval_of q95
      go_simp
      exact hK _ α _ (fun _ _ => rfl) rfl (step_same (st9) hL hcl rfl rfl hG)
    · intro L9 α a9 u9 K9 hL hcl hA hG hS h0 hK
      replace hL : L9 11 = false := hL
      go_simp
      have e1 : R9 (Rega.ran L9 11) (fun j => if j = 11 then u9.heap.size else α j) 11 = row (u9.heap.size) 35 #[.nilIface, .int .i32 0] := by
        show rFNB2T11 D b r x B1_4 B1_3 B1_2 B1_1 B1 nd3 nd4 nd5 (Rega.ran L9 11) (fun j => if j = 11 then u9.heap.size else α j) = _
        unfold rFNB2T11
        exact ((if_neg (fun e => (fun e => by have := hcl 14 e 11 (by decide); rw [hL] at this; cases this) ((ran_ne (by decide)).symm.trans e))).trans rfl)
      exact hK _ (fun j => if j = 11 then u9.heap.size else α j) _ (fun j hj => if_neg (fun e => hj (by rw [e]))) rfl (step_alloc (st9) hL hcl rfl rfl (by decide) _ e1 hG)
    · intro L9 α a9 u9 K9 hL hcl hA hG hS h0 hK
      replace hL : L9 12 = false := hL
      go_simp
      have e1 : R9 (Rega.ran L9 12) (fun j => if j = 12 then u9.heap.size else α j) 12 = row (u9.heap.size) 33 #[.int .i32 0] := by
        show rFNB2T12 D b r x B1_4 B1_3 B1_2 B1_1 B1 nd3 nd4 nd5 (Rega.ran L9 12) (fun j => if j = 12 then u9.heap.size else α j) = _
        unfold rFNB2T12
        exact ((if_neg (fun e => (fun e => by have := hcl 15 e 12 (by decide); rw [hL] at this; cases this) ((ran_ne (by decide)).symm.trans e))).trans rfl)
      exact hK _ (fun j => if j = 12 then u9.heap.size else α j) _ (fun j hj => if_neg (fun e => hj (by rw [e]))) rfl (step_alloc (st9) hL hcl rfl rfl (by decide) _ e1 hG)
    · intro L9 α a9 u9 K9 hL hcl hA hG hS h0 hK
      replace hL : L9 13 = false := hL
      go_simp
      have e1 : R9 (Rega.ran L9 13) (fun j => if j = 13 then u9.heap.size else α j) 13 = row (u9.heap.size) 35 #[.nilIface, .int .i32 0] := by
        show rFNB2T13 D b r x B1_4 B1_3 B1_2 B1_1 B1 nd3 nd4 nd5 (Rega.ran L9 13) (fun j => if j = 13 then u9.heap.size else α j) = _
        unfold rFNB2T13
        exact ((if_neg (fun e => (fun e => by have := hcl 17 e 13 (by decide); rw [hL] at this; cases this) ((ran_ne (by decide)).symm.trans e))).trans rfl)
      exact hK _ (fun j => if j = 13 then u9.heap.size else α j) _ (fun j hj => if_neg (fun e => hj (by rw [e]))) rfl (step_alloc (st9) hL hcl rfl rfl (by decide) _ e1 hG)
    · intro L9 α a9 u9 K9 hL hcl hA hG hS h0 hK
      replace hL : L9 14 = false := hL
      have q18 : a9.tmps[18]? = some (.pointer (some ⟨α 11, 0, none⟩)) := hS 11 18 (by decide) rfl (by show 18 < 120; decide)
      have s18 := Rega.eval_of q18
      have q102 : a9.tmps[102]? = some (.agg #[.nilIface, .int .i32 0]) := hS 7 102 (by decide) rfl (by show 102 < 120; decide)
      have s102 := Rega.eval_of q102
      have e0 : R9 L9 α 11 = row (α 11) 35 #[.nilIface, .int .i32 0] := by
        show rFNB2T11 D b r x B1_4 B1_3 B1_2 B1_1 B1 nd3 nd4 nd5 L9 α = _
        unfold rFNB2T11
        rw [if_neg (by rw [hL]; decide)]
      have hr := hG.rowAt 11 (act_new 11 rfl (hA 11 (by decide))) e0
      have c0 : u9.cell? ⟨α 11, 0, none⟩ = some (.nilIface) := hr.cell rfl
      have y0 : u9.frozen? ⟨α 11, 0, none⟩ = false := hr.free (0)
      have c1 : u9.cell? ⟨α 11, 1, none⟩ = some (.int .i32 0) := hr.cell rfl
      have y1 : u9.frozen? ⟨α 11, 1, none⟩ = false := hr.free (1)
      clear hr
      have E0 := Lib.hid e0
      clear e0
      go_simp
      have e1 : R9 (Rega.ran L9 14) α 11 = row (α 11) 35 #[.nilIface, .int .i32 0] := by
        show rFNB2T11 D b r x B1_4 B1_3 B1_2 B1_1 B1 nd3 nd4 nd5 (Rega.ran L9 14) α = _
        unfold rFNB2T11
        rw [if_pos (show Rega.ran L9 14 14 = true from rfl)]
      exact hK _ α _ (fun _ _ => rfl) rfl (step_sets (st9) hL hcl rfl 11 rfl (act_new 11 rfl (hA 11 (by decide))) E0.out (0) [.nilIface, .int .i32 0] (e1.trans rfl) hG)
    · intro L9 α a9 u9 K9 hL hcl hA hG hS h0 hK
      replace hL : L9 15 = false := hL
      have q19 : a9.tmps[19]? = some (.pointer (some ⟨α 12, 0, none⟩)) := hS 12 19 (by decide) rfl (by show 19 < 120; decide)
      have s19 := Rega.eval_of q19
      have q103 : a9.tmps[103]? = some (.agg #[.int .i32 0]) := hS 8 103 (by decide) rfl (by show 103 < 120; decide)
      have s103 := Rega.eval_of q103
      have e0 : R9 L9 α 12 = row (α 12) 33 #[.int .i32 0] := by
        show rFNB2T12 D b r x B1_4 B1_3 B1_2 B1_1 B1 nd3 nd4 nd5 L9 α = _
        unfold rFNB2T12
        rw [if_neg (by rw [hL]; decide)]
      have hr := hG.rowAt 12 (act_new 12 rfl (hA 12 (by decide))) e0
      have c0 : u9.cell? ⟨α 12, 0, none⟩ = some (.int .i32 0) := hr.cell rfl
      have y0 : u9.frozen? ⟨α 12, 0, none⟩ = false := hr.free (0)
      clear hr
      have E0 := Lib.hid e0
      clear e0
      go_simp
      have e1 : R9 (Rega.ran L9 15) α 12 = row (α 12) 33 #[.int .i32 0] := by
        show rFNB2T12 D b r x B1_4 B1_3 B1_2 B1_1 B1 nd3 nd4 nd5 (Rega.ran L9 15) α = _
        unfold rFNB2T12
        rw [if_pos (show Rega.ran L9 15 15 = true from rfl)]
      exact hK _ α _ (fun _ _ => rfl) rfl (step_sets (st9) hL hcl rfl 12 rfl (act_new 12 rfl (hA 12 (by decide))) E0.out (0) [.int .i32 0] (e1.trans rfl) hG)
    · intro L9 α a9 u9 K9 hL hcl hA hG hS h0 hK
      replace hL : L9 16 = false := hL
      have q104 : a9.tmps[104]? = some (.pointer none) := hS 9 104 (by decide) rfl (by show 104 < 120; decide)
      have s104 := Rega.eval_of q104
      go_simp
      exact hK _ α _ (fun _ _ => rfl) rfl (step_same (st9) hL hcl rfl rfl hG)
    · intro L9 α a9 u9 K9 hL hcl hA hG hS h0 hK
      replace hL : L9 17 = false := hL
      have q21 : a9.tmps[21]? = some (.pointer (some ⟨α 13, 0, none⟩)) := hS 13 21 (by decide) rfl (by show 21 < 120; decide)
      have s21 := Rega.eval_of q21
      have q105 : a9.tmps[105]? = some (.agg #[.nilIface, .int .i32 0]) := hS 10 105 (by decide) rfl (by show 105 < 120; decide)
      have s105 := Rega.eval_of q105
      have e0 : R9 L9 α 13 = row (α 13) 35 #[.nilIface, .int .i32 0] := by
        show rFNB2T13 D b r x B1_4 B1_3 B1_2 B1_1 B1 nd3 nd4 nd5 L9 α = _
        unfold rFNB2T13
        rw [if_neg (by rw [hL]; decide)]
      have hr := hG.rowAt 13 (act_new 13 rfl (hA 13 (by decide))) e0
      have c0 : u9.cell? ⟨α 13, 0, none⟩ = some (.nilIface) := hr.cell rfl
      have y0 : u9.frozen? ⟨α 13, 0, none⟩ = false := hr.free (0)
      have c1 : u9.cell? ⟨α 13, 1, none⟩ = some (.int .i32 0) := hr.cell rfl
      have y1 : u9.frozen? ⟨α 13, 1, none⟩ = false := hr.free (1)
      clear hr
      have E0 := Lib.hid e0
      clear e0
      go_simp
      have e1 : R9 (Rega.ran L9 17) α 13 = row (α 13) 35 #[.nilIface, .int .i32 0] := by
        show rFNB2T13 D b r x B1_4 B1_3 B1_2 B1_1 B1 nd3 nd4 nd5 (Rega.ran L9 17) α = _
        unfold rFNB2T13
        rw [if_pos (show Rega.ran L9 17 17 = true from rfl)]
      exact hK _ α _ (fun _ _ => rfl) rfl (step_sets (st9) hL hcl rfl 13 rfl (act_new 13 rfl (hA 13 (by decide))) E0.out (0) [.nilIface, .int .i32 0] (e1.trans rfl) hG)
  clear st9
  intro α u hG
  have e0 : R9 (fun k => decide (k < 18)) α 999 = row (B1_4) 35 #[.nilIface, .int .i32 0] := rfl
  have e1 : R9 (fun k => decide (k < 18)) α 1999 = row (B1_3) 33 #[.int .i32 0] := rfl
  have e2 : R9 (fun k => decide (k < 18)) α 2999 = row (B1_2) 35 #[.nilIface, .int .i32 0] := rfl
  have e3 : R9 (fun k => decide (k < 18)) α 3999 = row (B1_1) 27 #[.int .u32 D.src, .int .u32 D.inn] := rfl
  have e4 : R9 (fun k => decide (k < 18)) α 4999 = row (B1) 35 #[.iface 63 (.pointer (some ⟨b, 0, none⟩)), .int .i32 x] := rfl
  have e5 : R9 (fun k => decide (k < 18)) α 5999 = row (nd3) 35 #[.nilIface, .int .i32 0] := rfl
  have e6 : R9 (fun k => decide (k < 18)) α 6999 = row (nd4) 33 #[.int .i32 0] := rfl
  have e7 : R9 (fun k => decide (k < 18)) α 7999 = row (nd5) 35 #[.nilIface, .int .i32 0] := rfl
  have e8 : R9 (fun k => decide (k < 18)) α 11 = row (α 11) 35 #[.nilIface, .int .i32 0] := by
    show rFNB2T11 D b r x B1_4 B1_3 B1_2 B1_1 B1 nd3 nd4 nd5 (fun k => decide (k < 18)) α = _
    unfold rFNB2T11
    rw [if_pos (by decide)]
  have e9 : R9 (fun k => decide (k < 18)) α 12 = row (α 12) 33 #[.int .i32 0] := by
    show rFNB2T12 D b r x B1_4 B1_3 B1_2 B1_1 B1 nd3 nd4 nd5 (fun k => decide (k < 18)) α = _
    unfold rFNB2T12
    rw [if_pos (by decide)]
  have e10 : R9 (fun k => decide (k < 18)) α 13 = row (α 13) 35 #[.nilIface, .int .i32 0] := by
    show rFNB2T13 D b r x B1_4 B1_3 B1_2 B1_1 B1 nd3 nd4 nd5 (fun k => decide (k < 18)) α = _
    unfold rFNB2T13
    rw [if_pos (by decide)]
  have hO : Own w0 u [row (B1_4) 35 #[.nilIface, .int .i32 0], row (B1_3) 33 #[.int .i32 0], row (B1_2) 35 #[.nilIface, .int .i32 0], row (B1_1) 27 #[.int .u32 D.src, .int .u32 D.inn], row (B1) 35 #[.iface 63 (.pointer (some ⟨b, 0, none⟩)), .int .i32 x], row (nd3) 35 #[.nilIface, .int .i32 0], row (nd4) 33 #[.int .i32 0], row (nd5) 35 #[.nilIface, .int .i32 0], row (α 11) 35 #[.nilIface, .int .i32 0], row (α 12) 33 #[.int .i32 0], row (α 13) 35 #[.nilIface, .int .i32 0]] X := (hG.list [999, 1999, 2999, 3999, 4999, 5999, 6999, 7999, 11, 12, 13] (by decide) (act_all (by decide))).conv (by
    show [R9 (fun k => decide (k < 18)) α 999, R9 (fun k => decide (k < 18)) α 1999, R9 (fun k => decide (k < 18)) α 2999, R9 (fun k => decide (k < 18)) α 3999, R9 (fun k => decide (k < 18)) α 4999, R9 (fun k => decide (k < 18)) α 5999, R9 (fun k => decide (k < 18)) α 6999, R9 (fun k => decide (k < 18)) α 7999, R9 (fun k => decide (k < 18)) α 11, R9 (fun k => decide (k < 18)) α 12, R9 (fun k => decide (k < 18)) α 13] = _
    rw [e0, e1, e2, e3, e4, e5, e6, e7, e8, e9, e10])
  clear hG e0 e1 e2 e3 e4 e5 e6 e7 e8 e9 e10 R9
  generalize hfr : Rega.frameAt _ _ _ _ _ = fr
  have hdf : fr = ⟨#[.agg #[.iface 63 (.pointer (some ⟨b, 0, none⟩)), .int .i32 x], .agg #[.int .u32 D.src, .int .u32 D.inn], .pointer (some ⟨B1, 0, none⟩), .pointer (some ⟨B1_1, 0, none⟩), .pointer (some ⟨B1_2, 0, none⟩), .pointer (some ⟨B1_3, 0, none⟩), .pointer none, .pointer (some ⟨B1_4, 0, none⟩), .pointer none, .bool false, undef, undef, .pointer (some ⟨b, 0, none⟩), .bool true, .pointer (some ⟨nd3, 0, none⟩), .pointer (some ⟨nd4, 0, none⟩), .pointer none, .pointer (some ⟨nd5, 0, none⟩), .pointer (some ⟨α 11, 0, none⟩), .pointer (some ⟨α 12, 0, none⟩), .pointer none, .pointer (some ⟨α 13, 0, none⟩), .tuple #[.pointer none, .bool false], .pointer (some ⟨B1, 0, none⟩), .iface 63 (.pointer (some ⟨b, 0, none⟩)), .tuple #[.pointer none, .bool false], .pointer none, .bool false, .bool false, undef, undef, undef, undef, undef, undef, undef, undef, undef, undef, undef, undef, undef, undef, undef, undef, undef, undef, undef, undef, undef, undef, undef, undef, undef, undef, undef, undef, undef, undef, .tuple #[.pointer (some ⟨b, 0, none⟩), .bool true], .pointer (some ⟨B1, 0, none⟩), .iface 63 (.pointer (some ⟨b, 0, none⟩)), .tuple #[.pointer (some ⟨b, 0, none⟩), .bool true], .pointer (some ⟨b, 0, none⟩), .bool true, .bool true, .bool true, .pointer (some ⟨b, 0, none⟩), .pointer (some ⟨b, 0, none⟩), .pointer (some ⟨b, 4, none⟩), .int .u8 36, .bool true, .bool true, .tuple #[.agg #[.nilIface, .int .i32 0], .agg #[.int .i32 0], .pointer none, .agg #[.nilIface, .int .i32 0]], .pointer (some ⟨b, 0, none⟩), .pointer (some ⟨b, 0, none⟩), .pointer (some ⟨b, 0, none⟩), .agg #[dV D l, .int .i32 (lV l)], .agg #[.int .u32 D.src, .int .u32 D.inn], .tuple #[.agg #[.nilIface, .int .i32 0], .agg #[.int .i32 0], .pointer none, .agg #[.nilIface, .int .i32 0]], .agg #[.nilIface, .int .i32 0], .agg #[.int .i32 0], .pointer none, .agg #[.nilIface, .int .i32 0], .pointer none, .bool false, undef, undef, undef, undef, undef, undef, undef, undef, undef, .tuple #[.agg #[.nilIface, .int .i32 0], .agg #[.int .i32 0], .pointer none, .agg #[.nilIface, .int .i32 0]], .pointer (some ⟨b, 0, none⟩), .pointer (some ⟨b, 0, none⟩), .pointer (some ⟨b, 2, none⟩), .agg #[dV D r, .int .i32 (lV r)], .agg #[.int .u32 D.src, .int .u32 D.inn], .tuple #[.agg #[.nilIface, .int .i32 0], .agg #[.int .i32 0], .pointer none, .agg #[.nilIface, .int .i32 0]], .agg #[.nilIface, .int .i32 0], .agg #[.int .i32 0], .pointer none, .agg #[.nilIface, .int .i32 0], undef, undef, undef, undef, undef, undef, undef, undef, undef, undef, undef, undef, undef, undef], []⟩ := by rw [← hfr]; kernel_rfl
  clear hfr
  subst hdf
  generalize α 11 = nd6 at hO ⊢
  generalize α 12 = nd7 at hO ⊢
  generalize α 13 = nd8 at hO ⊢
  clear α
  obtain ⟨ix9, hix9, hax9, hjx9⟩ := hO.ix
  have ix9_0 : ix9 B1_4 = 0 := hjx9 0 _ _ rfl
  have ix9_1 : ix9 B1_3 = 1 := hjx9 1 _ _ rfl
  have ix9_2 : ix9 B1_2 = 2 := hjx9 2 _ _ rfl
  have ix9_3 : ix9 B1_1 = 3 := hjx9 3 _ _ rfl
  have ix9_4 : ix9 B1 = 4 := hjx9 4 _ _ rfl
  have ix9_5 : ix9 nd3 = 5 := hjx9 5 _ _ rfl
  have ix9_6 : ix9 nd4 = 6 := hjx9 6 _ _ rfl
  have ix9_7 : ix9 nd5 = 7 := hjx9 7 _ _ rfl
  have ix9_8 : ix9 nd6 = 8 := hjx9 8 _ _ rfl
  have ix9_9 : ix9 nd7 = 9 := hjx9 9 _ _ rfl
  have ix9_10 : ix9 nd8 = 10 := hjx9 10 _ _ rfl
  clear hjx9
  obtain ⟨c9_0_0, c9_0_1, lt9_0, y9_0, pl9_0⟩ := hO.k2 0 rfl
  obtain ⟨c9_1_0, lt9_1, y9_1, pl9_1⟩ := hO.k1 1 rfl
  obtain ⟨c9_2_0, c9_2_1, lt9_2, y9_2, pl9_2⟩ := hO.k2 2 rfl
  obtain ⟨c9_3_0, c9_3_1, lt9_3, y9_3, -⟩ := hO.k2 3 rfl
  obtain ⟨c9_4_0, c9_4_1, lt9_4, y9_4, pl9_4⟩ := hO.k2 4 rfl
  obtain ⟨c9_5_0, c9_5_1, lt9_5, y9_5, pl9_5⟩ := hO.k2 5 rfl
  obtain ⟨c9_6_0, lt9_6, y9_6, pl9_6⟩ := hO.k1 6 rfl
  obtain ⟨c9_7_0, c9_7_1, lt9_7, y9_7, pl9_7⟩ := hO.k2 7 rfl
  obtain ⟨c9_8_0, c9_8_1, lt9_8, y9_8, pl9_8⟩ := hO.k2 8 rfl
  obtain ⟨c9_9_0, lt9_9, y9_9, pl9_9⟩ := hO.k1 9 rfl
  obtain ⟨c9_10_0, c9_10_1, lt9_10, y9_10, pl9_10⟩ := hO.k2 10 rfl
  have HO := Lib.hid hO
  clear hO
  have fx0_0 : u.cell? ⟨b, 0, none⟩ = some (dV D l) := HO.out.fcell hb 0 rfl
  have fx0_1 : u.cell? ⟨b, 1, none⟩ = some (.int .i32 (lV l)) := HO.out.fcell hb 1 rfl
  have fx0_2 : u.cell? ⟨b, 2, none⟩ = some (dV D r) := HO.out.fcell hb 2 rfl
  have fx0_3 : u.cell? ⟨b, 3, none⟩ = some (.int .i32 (lV r)) := HO.out.fcell hb 3 rfl
  have fx0_4 : u.cell? ⟨b, 4, none⟩ = some (.int .u8 36) := HO.out.fcell hb 4 rfl
  have fx0_5 : u.cell? ⟨b, 5, none⟩ = some (.bool false) := HO.out.fcell hb 5 rfl
  go_wp2_with (first | (with_reducible refine Own.stay (fn := Try.f17) ?_) | fail)
  try with_reducible refine Own.Stay.mk ?_
  have hO := HO.out
  clear HO hix9 hax9 ix9_0 ix9_1 ix9_2 ix9_3 ix9_4 ix9_5 ix9_6 ix9_7 ix9_8 ix9_9 ix9_10 ix9 fx0_0 fx0_1 fx0_2 fx0_3 fx0_4 fx0_5 c9_0_0 c9_0_1 lt9_0 y9_0 pl9_0 c9_1_0 lt9_1 y9_1 pl9_1 c9_2_0 c9_2_1 lt9_2 y9_2 pl9_2 c9_3_0 c9_3_1 lt9_3 y9_3 c9_4_0 c9_4_1 lt9_4 y9_4 pl9_4 c9_5_0 c9_5_1 lt9_5 y9_5 pl9_5 c9_6_0 lt9_6 y9_6 pl9_6 c9_7_0 c9_7_1 lt9_7 y9_7 pl9_7 c9_8_0 c9_8_1 lt9_8 y9_8 pl9_8 c9_9_0 lt9_9 y9_9 pl9_9 c9_10_0 c9_10_1 lt9_10 y9_10 pl9_10
  generalize hW : World.setCell _ _ _ = W10
  have hN : Own w0 W10 [row (B1_4) 35 #[.nilIface, .int .i32 0], row (B1_3) 33 #[.int .i32 0], row (B1_2) 35 #[.nilIface, .int .i32 0], row (B1_1) 27 #[.int .u32 D.src, .int .u32 D.inn], row (B1) 35 #[.iface 63 (.pointer (some ⟨b, 0, none⟩)), .int .i32 x], row (nd3) 35 #[.nilIface, .int .i32 0], row (nd4) 33 #[.int .i32 0], row (nd5) 35 #[.nilIface, .int .i32 0], row (nd6) 35 #[.nilIface, .int .i32 0], row (nd7) 33 #[.int .i32 0], row (nd8) 35 #[.nilIface, .int .i32 0]] X := by
    rw [← hW]
    exact (((((hO).set 2 rfl 0 _).set 2 rfl 1 _).set 1 rfl 0 _).set 0 rfl 0 _).set 0 rfl 1 _
  clear hW hO
  have hO := hN
  clear hN
  have z9_2_0 : W10.cell? ⟨B1_2, 0, none⟩ = some (.nilIface) := hO.cell 2 rfl 0 rfl
  have z9_2_1 : W10.cell? ⟨B1_2, 1, none⟩ = some (.int .i32 0) := hO.cell 2 rfl 1 rfl
  have z9_1_0 : W10.cell? ⟨B1_3, 0, none⟩ = some (.int .i32 0) := hO.cell 1 rfl 0 rfl
  have z9_0_0 : W10.cell? ⟨B1_4, 0, none⟩ = some (.nilIface) := hO.cell 0 rfl 0 rfl
  have z9_0_1 : W10.cell? ⟨B1_4, 1, none⟩ = some (.int .i32 0) := hO.cell 0 rfl 1 rfl
  refine bodyPost_ret (v := .tuple #[.agg #[.nilIface, .int .i32 0], .agg #[.int .i32 0], .pointer none, .agg #[.nilIface, .int .i32 0]]) ?_ rfl ⟨rfl, hO.sub [] (by decide)⟩
  simp [results, Try.results17, go_sem, z9_2_0, z9_2_1, z9_1_0, z9_0_0, z9_0_1]
end Go.Proofs.Ytdbnnpoffpipjaa.Use
