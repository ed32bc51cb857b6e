/- A temporary, made: one of the cases. No condition. -/
import Derived.Test.YtkmojepgbbdeiaaDoorMno
import Derived.Test.YtkmojepgbbdeiaaDoorMini
import Derived.Test.YtkmojepgbbdeiaaDoorAppL
import Derived.Test.YtkmojepgbbdeiaaDoorApp
import Derived.Test.YtkmojepgbbdeiaaDoorOwnK
import Derived.Test.YtkmojepgbbdeiaaDoorOwn
import Derived.Test.YtkmojepgbbdeiaaDoorDeepCells
import Derived.Test.YtkmojepgbbdeiaaDoorRows
import Derived.Test.YtkmojepgbbdeiaaDoorLive
namespace Go.Proofs.YtkmojepgbbdeiaaDoor.Use
open Go.ChangeShapes Go.WideShapes Go.ChangeAt Go.RowKit Go.Sort Own
set_option linter.unusedVariables false
def r4L111E (pb : Nat) (PC : Array Value) (sb : Nat) (c : Nat) (st : List Sy) (n : Nat) (src : Int) (i : Nat) : Nat → Rega.Atoms → Value
  | 0, α => .pointer (some ⟨pb, 0, none⟩)
  | 1, α => .agg #[.string ⟨#[97, 98, 99, 100, 101, 102, 103, 104, 105, 106, 107, 108, 109, 110, 111, 112, 113, 114, 115, 116, 117, 118, 119, 120, 121, 122, 65, 66, 67, 68, 69, 70, 71, 72, 73, 74, 75, 76, 77, 78, 79, 80, 81, 82, 83, 84, 85, 86, 87, 88, 89, 90, 95, 36]⟩, .string ⟨#[97, 98, 99, 100, 101, 102, 103, 104, 105, 106, 107, 108, 109, 110, 111, 112, 113, 114, 115, 116, 117, 118, 119, 120, 121, 122, 65, 66, 67, 68, 69, 70, 71, 72, 73, 74, 75, 76, 77, 78, 79, 80, 81, 82, 83, 84, 85, 86, 87, 88, 89, 90, 48, 49, 50, 51, 52, 53, 54, 55, 56, 57, 95, 36]⟩]
  | 2, α => .pointer (some ⟨pb, 0, none⟩)
  | 3, α => .pointer (some ⟨pb, 0, none⟩)
  | 4, α => .pointer (some ⟨pb, 288, none⟩)
  | 5, α => .int .i64 (i : Int)
  | 6, α => .string (nmB i)
  | 7, α => .string (tn i)
  | 8, α => .agg #[.int .u32 src, .int .u32 (n : Int)]
  | 9, α => .pointer (some ⟨α 9, 0, none⟩)
  | 10, α => undef
  | _, _ => undef
def r4L111Anc : Nat → List Nat
  | 3 => [2]
  | 4 => [2, 3]
  | 5 => [2, 3, 4]
  | 6 => [1, 2, 3, 4, 5]
  | 7 => [1, 2, 3, 4, 5, 6]
  | 8 => [0, 1, 2, 3, 4, 5, 6, 7]
  | 10 => [0, 1, 2, 3, 4, 5, 6, 7, 8, 9]
  | _ => []
def r4L111Trn : Nat → List Nat
  | 8 => [999, 1999]
  | 10 => [9]
  | _ => []
def r4L111Cnt : List (Nat × Nat) := [(9, 1)]
def r4L111T999 (pb : Nat) (PC : Array Value) (sb : Nat) (c : Nat) (st : List Sy) (n : Nat) (src : Int) (i : Nat) (L9 : Nat → Bool) (α : Rega.Atoms) : Rw := if L9 8 = true then row (pb) 176 (PC.setIfInBounds 106 (.slice (some ⟨α 8, 0, none⟩) (n + 1) (n + 1 + (α 1008)))) else row (pb) 176 PC
def r4L111T1999 (pb : Nat) (PC : Array Value) (sb : Nat) (c : Nat) (st : List Sy) (n : Nat) (src : Int) (i : Nat) (L9 : Nat → Bool) (α : Rega.Atoms) : Rw := if L9 8 = true then row (α 8) 183 (full symZ (symL (st ++ [syk (tn i) 27])) (α 1008)) else row (sb) 183 (full symZ (symL st) c)
def r4L111T9 (pb : Nat) (PC : Array Value) (sb : Nat) (c : Nat) (st : List Sy) (n : Nat) (src : Int) (i : Nat) (L9 : Nat → Bool) (α : Rega.Atoms) : Rw := if L9 10 = true then row (α 9) 33 #[.int .u32 src, .int .u32 (n : Int)] else row (α 9) 33 #[.int .u32 0, .int .u32 0]
def r4L111R (pb : Nat) (PC : Array Value) (sb : Nat) (c : Nat) (st : List Sy) (n : Nat) (src : Int) (i : Nat) (L9 : Nat → Bool) (α : Rega.Atoms) (ix9 : Nat) : Rw := if ix9 = 999 then r4L111T999 pb PC sb c st n src i L9 α else if ix9 = 1999 then r4L111T1999 pb PC sb c st n src i L9 α else if ix9 = 9 then r4L111T9 pb PC sb c st n src i L9 α else (0, .map #[] 0)
theorem r4L111_he (pb : Nat) (PC : Array Value) (sb : Nat) (c : Nat) (st : List Sy) (n : Nat) (src : Int) (i : Nat) : ∀ kk α α', (∀ j, (j % 1000 = kk ∨ j % 1000 ∈ r4L111Anc kk) → α j = α' j) → r4L111E pb PC sb c st n src i kk α = r4L111E pb PC sb c st n src i kk α' := by
  intro kk α α' h
  match kk with
  | 0 => rfl
  | 1 => rfl
  | 2 => rfl
  | 3 => rfl
  | 4 => rfl
  | 5 => rfl
  | 6 => rfl
  | 7 => rfl
  | 8 => rfl
  | 9 => simp only [r4L111E, h 9 (Or.inl rfl)]
  | 10 => rfl
  | n + 11 => rfl
theorem r4L111_st (pb : Nat) (PC : Array Value) (sb : Nat) (c : Nat) (st : List Sy) (n : Nat) (src : Int) (i : Nat) : Stable r4L111Cnt 2 r4L111Anc r4L111Trn (r4L111R pb PC sb c st n src i) := by
  intro k9 L9 α α' ix9 hk hcl hα hact ht
  have hp := act_places hact
  replace hp : ix9 ∈ [999, 1999, 9] := hp
  simp only [List.mem_cons, List.not_mem_nil, or_false] at hp
  rcases hp with rfl | rfl | rfl
  · show r4L111T999 pb PC sb c st n src i (Rega.ran L9 k9) α' = r4L111T999 pb PC sb c st n src i L9 α
    unfold r4L111T999
    have n8 : 8 ≠ k9 := fun e => ht (by rw [← e]; decide)
    rw [ran_ne n8]
    by_cases e8 : L9 8 = true
    · first | rw [if_pos e8, if_pos e8] | rw [if_pos e8]
      try simp only [hα 8 (ne_ran hk e8), hα 1008 (ne_ran hk e8)]
    first | rw [if_neg e8, if_neg e8] | rw [if_neg e8]
  · show r4L111T1999 pb PC sb c st n src i (Rega.ran L9 k9) α' = r4L111T1999 pb PC sb c st n src i L9 α
    unfold r4L111T1999
    have n8 : 8 ≠ k9 := fun e => ht (by rw [← e]; decide)
    rw [ran_ne n8]
    by_cases e8 : L9 8 = true
    · first | rw [if_pos e8, if_pos e8] | rw [if_pos e8]
      try simp only [hα 8 (ne_ran hk e8), hα 1008 (ne_ran hk e8)]
    first | rw [if_neg e8, if_neg e8] | rw [if_neg e8]
  · have e0 : L9 9 = true := act_lt hact (by decide)
    show r4L111T9 pb PC sb c st n src i (Rega.ran L9 k9) α' = r4L111T9 pb PC sb c st n src i L9 α
    unfold r4L111T9
    have n10 : 10 ≠ k9 := fun e => ht (by rw [← e]; decide)
    rw [ran_ne n10]
    by_cases e10 : L9 10 = true
    · first | rw [if_pos e10, if_pos e10] | rw [if_pos e10]
      try simp only [hα 9 (ne_ran hk (hcl 10 e10 9 (by decide)))]
    first | rw [if_neg e10, if_neg e10] | rw [if_neg e10]
    try simp only [hα 9 (ne_ran hk e0)]
def r4L112E (pb : Nat) (PC : Array Value) (n : Nat) (src : Int) (qb : Nat) (TQ : List Value) (cq : Nat) (m : Nat) (nd4 : Nat) (nd5 : Nat) (nd6 : Nat) : Nat → Rega.Atoms → Value
  | 0, α => .pointer (some ⟨pb, 0, none⟩)
  | 1, α => .pointer (some ⟨pb, 0, none⟩)
  | 2, α => .pointer (some ⟨pb, 0, none⟩)
  | 3, α => .pointer (some ⟨pb, 200, none⟩)
  | 4, α => .slice (some ⟨qb, 0, none⟩) m (m + cq)
  | 5, α => .agg #[.int .u32 src, .int .u32 (n : Int)]
  | 6, α => .agg #[.nilIface, .int .i32 0, .int .u32 src, .int .u32 (n : Int)]
  | 7, α => .slice (some ⟨α 7, 0, none⟩) 1 1
  | 8, α => .slice (some ⟨α 8, 0, none⟩) (m + 1) (m + 1 + α 1008)
  | 9, α => .pointer (some ⟨pb, 0, none⟩)
  | 10, α => .pointer (some ⟨pb, 200, none⟩)
  | 11, α => undef
  | _, _ => undef
def r4L112Anc : Nat → List Nat
  | 2 => [1]
  | 3 => [1, 2]
  | 4 => [1, 2, 3]
  | 6 => [5]
  | 7 => [5, 6]
  | 8 => [1, 2, 3, 4, 5, 6, 7]
  | 9 => [0, 1, 2, 3, 4, 5, 6, 7, 8]
  | 10 => [0, 1, 2, 3, 4, 5, 6, 7, 8, 9]
  | 11 => [0, 1, 2, 3, 4, 5, 6, 7, 8, 9, 10]
  | _ => []
def r4L112Trn : Nat → List Nat
  | 8 => [2999]
  | 11 => [999]
  | _ => []
def r4L112Cnt : List (Nat × Nat) := [(7, 1)]
def r4L112T999 (pb : Nat) (PC : Array Value) (n : Nat) (src : Int) (qb : Nat) (TQ : List Value) (cq : Nat) (m : Nat) (nd4 : Nat) (nd5 : Nat) (nd6 : Nat) (L9 : Nat → Bool) (α : Rega.Atoms) : Rw := if L9 11 = true then row (pb) 176 ((PC.setIfInBounds 106 (.slice (some ⟨nd4, 0, none⟩) (n + 1) (n + 1 + (nd6)))).setIfInBounds 200 (.slice (some ⟨α 8, 0, none⟩) (m + 1) (m + 1 + α 1008))) else row (pb) 176 (PC.setIfInBounds 106 (.slice (some ⟨nd4, 0, none⟩) (n + 1) (n + 1 + (nd6))))
def r4L112T2999 (pb : Nat) (PC : Array Value) (n : Nat) (src : Int) (qb : Nat) (TQ : List Value) (cq : Nat) (m : Nat) (nd4 : Nat) (nd5 : Nat) (nd6 : Nat) (L9 : Nat → Bool) (α : Rega.Atoms) : Rw := if L9 8 = true then row (α 8) 185 (full trfZ (TQ ++ [.nilIface, .int .i32 0, .int .u32 src, .int .u32 (n : Int)]) (α 1008)) else row (qb) 185 (full trfZ TQ cq)
def r4L112R (pb : Nat) (PC : Array Value) (n : Nat) (src : Int) (qb : Nat) (TQ : List Value) (cq : Nat) (m : Nat) (nd4 : Nat) (nd5 : Nat) (nd6 : Nat) (L9 : Nat → Bool) (α : Rega.Atoms) (ix9 : Nat) : Rw := if ix9 = 999 then r4L112T999 pb PC n src qb TQ cq m nd4 nd5 nd6 L9 α else if ix9 = 1999 then row (nd5) 33 #[.int .u32 src, .int .u32 (n : Int)] else if ix9 = 2999 then r4L112T2999 pb PC n src qb TQ cq m nd4 nd5 nd6 L9 α else if ix9 = 7 then row (α 7) 185 #[.nilIface, .int .i32 0, .int .u32 src, .int .u32 (n : Int)] else (0, .map #[] 0)
theorem r4L112_he (pb : Nat) (PC : Array Value) (n : Nat) (src : Int) (qb : Nat) (TQ : List Value) (cq : Nat) (m : Nat) (nd4 : Nat) (nd5 : Nat) (nd6 : Nat) : ∀ kk α α', (∀ j, (j % 1000 = kk ∨ j % 1000 ∈ r4L112Anc kk) → α j = α' j) → r4L112E pb PC n src qb TQ cq m nd4 nd5 nd6 kk α = r4L112E pb PC n src qb TQ cq m nd4 nd5 nd6 kk α' := by
  intro kk α α' h
  match kk with
  | 0 => rfl
  | 1 => rfl
  | 2 => rfl
  | 3 => rfl
  | 4 => rfl
  | 5 => rfl
  | 6 => rfl
  | 7 => simp only [r4L112E, h 7 (Or.inl rfl)]
  | 8 => simp only [r4L112E, h 8 (Or.inl rfl), h 1008 (Or.inl rfl)]
  | 9 => rfl
  | 10 => rfl
  | 11 => rfl
  | n + 12 => rfl
theorem r4L112_st (pb : Nat) (PC : Array Value) (n : Nat) (src : Int) (qb : Nat) (TQ : List Value) (cq : Nat) (m : Nat) (nd4 : Nat) (nd5 : Nat) (nd6 : Nat) : Stable r4L112Cnt 3 r4L112Anc r4L112Trn (r4L112R pb PC n src qb TQ cq m nd4 nd5 nd6) := by
  intro k9 L9 α α' ix9 hk hcl hα hact ht
  have hp := act_places hact
  replace hp : ix9 ∈ [999, 1999, 2999, 7] := hp
  simp only [List.mem_cons, List.not_mem_nil, or_false] at hp
  rcases hp with rfl | rfl | rfl | rfl
  · show r4L112T999 pb PC n src qb TQ cq m nd4 nd5 nd6 (Rega.ran L9 k9) α' = r4L112T999 pb PC n src qb TQ cq m nd4 nd5 nd6 L9 α
    unfold r4L112T999
    have n11 : 11 ≠ k9 := fun e => ht (by rw [← e]; decide)
    rw [ran_ne n11]
    by_cases e11 : L9 11 = true
    · first | rw [if_pos e11, if_pos e11] | rw [if_pos e11]
      try simp only [hα 8 (ne_ran hk (hcl 11 e11 8 (by decide))), hα 1008 (ne_ran hk (hcl 11 e11 8 (by decide)))]
    first | rw [if_neg e11, if_neg e11] | rw [if_neg e11]
  · rfl
  · show r4L112T2999 pb PC n src qb TQ cq m nd4 nd5 nd6 (Rega.ran L9 k9) α' = r4L112T2999 pb PC n src qb TQ cq m nd4 nd5 nd6 L9 α
    unfold r4L112T2999
    have n8 : 8 ≠ k9 := fun e => ht (by rw [← e]; decide)
    rw [ran_ne n8]
    by_cases e8 : L9 8 = true
    · first | rw [if_pos e8, if_pos e8] | rw [if_pos e8]
      try simp only [hα 8 (ne_ran hk e8), hα 1008 (ne_ran hk e8)]
    first | rw [if_neg e8, if_neg e8] | rw [if_neg e8]
  · have e0 : L9 7 = true := act_lt hact (by decide)
    show row (α' 7) 185 #[.nilIface, .int .i32 0, .int .u32 src, .int .u32 (n : Int)] = row (α 7) 185 #[.nilIface, .int .i32 0, .int .u32 src, .int .u32 (n : Int)]
    simp only [hα 7 (ne_ran hk e0)]
def r4L113E (pb : Nat) (PC : Array Value) (n : Nat) (src : Int) (ms : Nat) (MC : Array Value) (m : Nat) (gb : Nat) (TG : List Value) (cg : Nat) (g : Nat) (nd4 : Nat) (nd5 : Nat) (nd6 : Nat) (nd9 : Nat) (nd10 : Nat) : Nat → Rega.Atoms → Value
  | 0, α => .pointer (some ⟨pb, 0, none⟩)
  | 1, α => .pointer (some ⟨pb, 0, none⟩)
  | 2, α => .pointer (some ⟨pb, 187, none⟩)
  | 3, α => .pointer (some ⟨ms, 0, none⟩)
  | 4, α => .pointer (some ⟨pb, 0, none⟩)
  | 5, α => .pointer (some ⟨pb, 0, none⟩)
  | 6, α => .pointer (some ⟨pb, 187, none⟩)
  | 7, α => .pointer (some ⟨ms, 0, none⟩)
  | 8, α => .pointer (some ⟨ms, 0, none⟩)
  | 9, α => .pointer (some ⟨ms, 5, none⟩)
  | 10, α => .slice (some ⟨gb, 0, none⟩) g (g + cg)
  | 11, α => .agg #[.int .u32 src, .int .u32 (n : Int)]
  | 12, α => .slice (some ⟨α 12, 0, none⟩) 1 1
  | 13, α => .slice (some ⟨α 13, 0, none⟩) (g + 1) (g + 1 + α 1013)
  | 14, α => .pointer (some ⟨ms, 0, none⟩)
  | 15, α => .pointer (some ⟨ms, 5, none⟩)
  | 16, α => undef
  | _, _ => undef
def r4L113Anc : Nat → List Nat
  | 1 => [0]
  | 2 => [0, 1]
  | 3 => [0, 1, 2]
  | 5 => [4]
  | 6 => [4, 5]
  | 7 => [4, 5, 6]
  | 8 => [4, 5, 6, 7]
  | 9 => [4, 5, 6, 7, 8]
  | 10 => [4, 5, 6, 7, 8, 9]
  | 12 => [11]
  | 13 => [4, 5, 6, 7, 8, 9, 10, 11, 12]
  | 14 => [0, 1, 2, 3, 4, 5, 6, 7, 8, 9, 10, 11, 12, 13]
  | 15 => [0, 1, 2, 3, 4, 5, 6, 7, 8, 9, 10, 11, 12, 13, 14]
  | 16 => [0, 1, 2, 3, 4, 5, 6, 7, 8, 9, 10, 11, 12, 13, 14, 15]
  | _ => []
def r4L113Trn : Nat → List Nat
  | 13 => [3999]
  | 16 => [2999]
  | _ => []
def r4L113Cnt : List (Nat × Nat) := [(12, 1)]
def r4L113T2999 (pb : Nat) (PC : Array Value) (n : Nat) (src : Int) (ms : Nat) (MC : Array Value) (m : Nat) (gb : Nat) (TG : List Value) (cg : Nat) (g : Nat) (nd4 : Nat) (nd5 : Nat) (nd6 : Nat) (nd9 : Nat) (nd10 : Nat) (L9 : Nat → Bool) (α : Rega.Atoms) : Rw := if L9 16 = true then row (ms) 38 (MC.setIfInBounds 5 (.slice (some ⟨α 13, 0, none⟩) (g + 1) (g + 1 + α 1013))) else row (ms) 38 MC
def r4L113T3999 (pb : Nat) (PC : Array Value) (n : Nat) (src : Int) (ms : Nat) (MC : Array Value) (m : Nat) (gb : Nat) (TG : List Value) (cg : Nat) (g : Nat) (nd4 : Nat) (nd5 : Nat) (nd6 : Nat) (nd9 : Nat) (nd10 : Nat) (L9 : Nat → Bool) (α : Rega.Atoms) : Rw := if L9 13 = true then row (α 13) 33 (full refZ (TG ++ [.int .u32 src, .int .u32 (n : Int)]) (α 1013)) else row (gb) 33 (full refZ TG cg)
def r4L113R (pb : Nat) (PC : Array Value) (n : Nat) (src : Int) (ms : Nat) (MC : Array Value) (m : Nat) (gb : Nat) (TG : List Value) (cg : Nat) (g : Nat) (nd4 : Nat) (nd5 : Nat) (nd6 : Nat) (nd9 : Nat) (nd10 : Nat) (L9 : Nat → Bool) (α : Rega.Atoms) (ix9 : Nat) : Rw := if ix9 = 999 then row (pb) 176 ((PC.setIfInBounds 106 (.slice (some ⟨nd4, 0, none⟩) (n + 1) (n + 1 + (nd6)))).setIfInBounds 200 (.slice (some ⟨nd9, 0, none⟩) (m + 1) (m + 1 + nd10))) else if ix9 = 1999 then row (nd5) 33 #[.int .u32 src, .int .u32 (n : Int)] else if ix9 = 2999 then r4L113T2999 pb PC n src ms MC m gb TG cg g nd4 nd5 nd6 nd9 nd10 L9 α else if ix9 = 3999 then r4L113T3999 pb PC n src ms MC m gb TG cg g nd4 nd5 nd6 nd9 nd10 L9 α else if ix9 = 12 then row (α 12) 33 #[.int .u32 src, .int .u32 (n : Int)] else (0, .map #[] 0)
theorem r4L113_he (pb : Nat) (PC : Array Value) (n : Nat) (src : Int) (ms : Nat) (MC : Array Value) (m : Nat) (gb : Nat) (TG : List Value) (cg : Nat) (g : Nat) (nd4 : Nat) (nd5 : Nat) (nd6 : Nat) (nd9 : Nat) (nd10 : Nat) : ∀ kk α α', (∀ j, (j % 1000 = kk ∨ j % 1000 ∈ r4L113Anc kk) → α j = α' j) → r4L113E pb PC n src ms MC m gb TG cg g nd4 nd5 nd6 nd9 nd10 kk α = r4L113E pb PC n src ms MC m gb TG cg g nd4 nd5 nd6 nd9 nd10 kk α' := by
  intro kk α α' h
  match kk with
  | 0 => rfl
  | 1 => rfl
  | 2 => rfl
  | 3 => rfl
  | 4 => rfl
  | 5 => rfl
  | 6 => rfl
  | 7 => rfl
  | 8 => rfl
  | 9 => rfl
  | 10 => rfl
  | 11 => rfl
  | 12 => simp only [r4L113E, h 12 (Or.inl rfl)]
  | 13 => simp only [r4L113E, h 13 (Or.inl rfl), h 1013 (Or.inl rfl)]
  | 14 => rfl
  | 15 => rfl
  | 16 => rfl
  | n + 17 => rfl
theorem r4L113_st (pb : Nat) (PC : Array Value) (n : Nat) (src : Int) (ms : Nat) (MC : Array Value) (m : Nat) (gb : Nat) (TG : List Value) (cg : Nat) (g : Nat) (nd4 : Nat) (nd5 : Nat) (nd6 : Nat) (nd9 : Nat) (nd10 : Nat) : Stable r4L113Cnt 4 r4L113Anc r4L113Trn (r4L113R pb PC n src ms MC m gb TG cg g nd4 nd5 nd6 nd9 nd10) := by
  intro k9 L9 α α' ix9 hk hcl hα hact ht
  have hp := act_places hact
  replace hp : ix9 ∈ [999, 1999, 2999, 3999, 12] := hp
  simp only [List.mem_cons, List.not_mem_nil, or_false] at hp
  rcases hp with rfl | rfl | rfl | rfl | rfl
  · rfl
  · rfl
  · show r4L113T2999 pb PC n src ms MC m gb TG cg g nd4 nd5 nd6 nd9 nd10 (Rega.ran L9 k9) α' = r4L113T2999 pb PC n src ms MC m gb TG cg g nd4 nd5 nd6 nd9 nd10 L9 α
    unfold r4L113T2999
    have n16 : 16 ≠ k9 := fun e => ht (by rw [← e]; decide)
    rw [ran_ne n16]
    by_cases e16 : L9 16 = true
    · first | rw [if_pos e16, if_pos e16] | rw [if_pos e16]
      try simp only [hα 13 (ne_ran hk (hcl 16 e16 13 (by decide))), hα 1013 (ne_ran hk (hcl 16 e16 13 (by decide)))]
    first | rw [if_neg e16, if_neg e16] | rw [if_neg e16]
  · show r4L113T3999 pb PC n src ms MC m gb TG cg g nd4 nd5 nd6 nd9 nd10 (Rega.ran L9 k9) α' = r4L113T3999 pb PC n src ms MC m gb TG cg g nd4 nd5 nd6 nd9 nd10 L9 α
    unfold r4L113T3999
    have n13 : 13 ≠ k9 := fun e => ht (by rw [← e]; decide)
    rw [ran_ne n13]
    by_cases e13 : L9 13 = true
    · first | rw [if_pos e13, if_pos e13] | rw [if_pos e13]
      try simp only [hα 13 (ne_ran hk e13), hα 1013 (ne_ran hk e13)]
    first | rw [if_neg e13, if_neg e13] | rw [if_neg e13]
  · have e0 : L9 12 = true := act_lt hact (by decide)
    show row (α' 12) 33 #[.int .u32 src, .int .u32 (n : Int)] = row (α 12) 33 #[.int .u32 src, .int .u32 (n : Int)]
    simp only [hα 12 (ne_ran hk e0)]
def gtL11Post (pb : Nat) (PC : Array Value) (sb c : Nat) (st : List Sy) (n : Nat) (src : Int) (i ms : Nat) (MC : Array Value) (qb : Nat) (TQ : List Value) (cq m gb : Nat) (TG : List Value) (cg g : Nat) (w0 : World) (X : Nat → Obj → Prop) (e : Ending) (w' : World) : Prop :=
  ∃ sb2 : Nat, ∃ c2 : Nat, ∃ qb2 : Nat, ∃ cq2 : Nat, ∃ gb2 : Nat, ∃ cg2 : Nat, e = .returned (.agg #[.int .u32 src, .int .u32 (n : Int)]) ∧ Own w0 w' [row (pb) 176 (((PC.setIfInBounds 106 (.slice (some ⟨sb2, 0, none⟩) (n + 1) (n + 1 + c2))).setIfInBounds 200 (.slice (some ⟨qb2, 0, none⟩) (m + 1) (m + 1 + cq2))).setIfInBounds 288 (.int .i64 ((i : Int) + 1))), row (sb2) 183 (full symZ (symL (st ++ [syk (tn i) 27])) c2), row (ms) 38 (MC.setIfInBounds 5 (.slice (some ⟨gb2, 0, none⟩) (g + 1) (g + 1 + cg2))), row (qb2) 185 (full trfZ (TQ ++ [.nilIface, .int .i32 0, .int .u32 src, .int .u32 (n : Int)]) cq2), row (gb2) 33 (full refZ (TG ++ [.int .u32 src, .int .u32 (n : Int)]) cg2)] X
set_option maxRecDepth 100000 in
set_option maxHeartbeats 1000000 in
theorem gtL11 (pb : Nat) (PC : Array Value) (sb c : Nat) (st : List Sy) (n : Nat) (src : Int) (i ms : Nat) (MC : Array Value) (qb : Nat) (TQ : List Value) (cq m gb : Nat) (TG : List Value) (cg g : Nat) (w0 w : World) (X : Nat → Obj → Prop) (hO : Own w0 w [row (pb) 176 PC, row (sb) 183 (full symZ (symL st) c), row (ms) 38 MC, row (qb) 185 (full trfZ TQ cq), row (gb) 33 (full refZ TG cg)] X) (hk66 : PC[66]? = some (.int .u32 src)) (hk32 : PC[32]? = some (.bool false)) (hk106 : PC[106]? = some (.slice (some ⟨sb, 0, none⟩) n (n + c))) (hn : st.length = n) (hnb : n ≤ 2000000) (hk187 : PC[187]? = some (.pointer (some ⟨ms, 0, none⟩))) (hk288 : PC[288]? = some (.int .i64 (i : Int))) (hk200 : PC[200]? = some (.slice (some ⟨qb, 0, none⟩) m (m + cq))) (hgen : MC[5]? = some (.slice (some ⟨gb, 0, none⟩) g (g + cg))) (hql : TQ.length = m * 4) (hmb : m ≤ 100000) (hgl : TG.length = g * 2) (hgb : g ≤ 100000) (hi : i ≤ 100000) (hg0 : w0.cell? ⟨0, 0, none⟩ = some (.int .u32 4294967295)) (hg1 : w0.cell? ⟨0, 1, none⟩ = some (.int .u32 4294967295)) :
    Calls Tryd.prog 23 #[.pointer (some ⟨pb, 0, none⟩)] w (gtL11Post pb PC sb c st n src i ms MC qb TQ cq m gb TG cg g w0 X) := by
  go_enter Tryd.func23, Tryd.ntmps23
  have hnz := nmB_size i (by omega)
  have htn : (⟨#[95]⟩ : ByteArray) ++ nmB i = tn i := rfl
  have hnz2 : ¬ 9223372036854775807 < 1 + (nmB i).size := by omega
  have hnz3 : ((nmB i).size : Int) ≤ 8388608 := by omega
  go_wp2_with (first | (with_reducible refine Own.stay (fn := Tryd.f23) ?_) | fail)
  try with_reducible refine Own.Stay.mk ?_
  generalize hW : World.alloc _ _ = W2
  have hN : Own w0 W2 [row (w.heap.size) 33 #[.int .u32 0, .int .u32 0], row (pb) 176 PC, row (sb) 183 (full symZ (symL st) c), row (ms) 38 MC, row (qb) 185 (full trfZ TQ cq), row (gb) 33 (full refZ TG cg)] X := by
    rw [← hW]
    exact (hO).alloc' _ (w.heap.size) (by simp)
  clear hW hO
  generalize w.heap.size = B1 at hN ⊢
  have hO := hN
  clear hN
  have hL := hO.apart
  have hX := hO.apartX
  have HL := Lib.hid hL
  have HX := Lib.hid hX
  clear hL hX
  have hP9 := hO.pick [1, 2] (by decide)
  generalize hX9_3 : Own.Rest _ _ X = X9_3 at hP9
  replace hP9 : Own w0 W2 [row (pb) 176 PC, row (sb) 183 (full symZ (symL st) c)] X9_3 := hP9
  clear hO
  have hO := hP9
  clear hP9
  have st9 := r4L111_st pb PC sb c st n src i
  let R9 := r4L111R pb PC sb c st n src i
  refine wp_region_own (e := r4L111E pb PC sb c st n src i) (anc := r4L111Anc) (G := (fun L9 α u9 => OwnF w0 u9 (act r4L111Cnt 2 L9) (r4L111R pb PC sb c st n src i L9 α) X9_3)) (by kernel_rfl) (by kernel_rfl) (by kernel_rfl) (by kernel_rfl) (r4L111_he pb PC sb c st n src i) ?_ (RunsAll.all ?_) ?_
  · have hp : ∀ i, act r4L111Cnt 2 (fun _ => false) i → i ∈ [999, 1999] := by
      intro i hi
      have h9 : i % 1000 = 999 := by
        by_cases h : i % 1000 = 999
        · exact h
        · exact absurd (act_lt hi h) (by simp)
      unfold act at hi
      rw [if_pos h9] at hi
      simp only [List.mem_cons, List.not_mem_nil, or_false]
      omega
    refine hO.drew.family (fun i hi => ?_) (fun i j hi hj hij => ?_)
    · have := hp i hi
      simp only [List.mem_cons, List.not_mem_nil, or_false] at this
      rcases this with rfl | rfl <;> rfl
    · have h1 := hp i hi
      have h2 := hp j hj
      simp only [List.mem_cons, List.not_mem_nil, or_false] at h1 h2
      omega
  · refine ⟨?_, ?_, ?_, ?_, ?_, ?_, ?_, ?_, ?_, ?_, ?_, trivial⟩
    · intro L9 α a9 u9 K9 hL hcl hA hG hS h0 hK
      replace hL : L9 0 = false := hL
      have q0 : a9.tmps[0]? = some (.pointer (some ⟨pb, 0, none⟩)) := (h0 0 (by kernel_rfl)).trans rfl
      have s0 := Rega.eval_of q0
      go_simp
      exact hK _ α _ (fun _ _ => rfl) rfl (step_same (st9) hL hcl rfl rfl hG)
    · intro L9 α a9 u9 K9 hL hcl hA hG hS h0 hK
      replace hL : L9 1 = false := hL
      go_simp
      have hM : ∀ i, i ∈ [] → act r4L111Cnt 2 L9 i := by intro i hi; simp at hi
      have hP : Own w0 u9 [] _ := hG.pick [] (by decide) (by simp)
      clear hM
      refine Calls.mono (minJS  _ _ _ hP ) ?_
      rintro e9 u1 ⟨rfl, hQ⟩
      obtain ⟨α', hα'⟩ : ∃ α' : Rega.Atoms, α' = α := ⟨_, rfl⟩
      have hα : ∀ j, j % 1000 ≠ 1 → α' j = α j := fun j hj => by rw [hα']
      skip
      refine hK _ α' _ hα ?_ (step_call (st9) hL hcl hα [] [] (by decide) (by decide) (by decide) (M := _) ?_ hG hQ)
      · rfl
      · show [] = _
        rw []
    · intro L9 α a9 u9 K9 hL hcl hA hG hS h0 hK
      replace hL : L9 2 = false := hL
      have q0 : a9.tmps[0]? = some (.pointer (some ⟨pb, 0, none⟩)) := (h0 0 (by kernel_rfl)).trans rfl
      have s0 := Rega.eval_of q0
      go_simp
      exact hK _ α _ (fun _ _ => rfl) rfl (step_same (st9) hL hcl rfl rfl hG)
    · intro L9 α a9 u9 K9 hL hcl hA hG hS h0 hK
      replace hL : L9 3 = false := hL
      have q6 : a9.tmps[6]? = some (.pointer (some ⟨pb, 0, none⟩)) := hS 2 6 (by decide) rfl (by show 6 < 48; decide)
      have s6 := Rega.eval_of q6
      go_simp
      exact hK _ α _ (fun _ _ => rfl) rfl (step_same (st9) hL hcl rfl rfl hG)
    · intro L9 α a9 u9 K9 hL hcl hA hG hS h0 hK
      replace hL : L9 4 = false := hL
      have q7 : a9.tmps[7]? = some (.pointer (some ⟨pb, 0, none⟩)) := hS 3 7 (by decide) rfl (by show 7 < 48; decide)
      have s7 := Rega.eval_of q7
      go_simp
      exact hK _ α _ (fun _ _ => rfl) rfl (step_same (st9) hL hcl rfl rfl hG)
    · intro L9 α a9 u9 K9 hL hcl hA hG hS h0 hK
      replace hL : L9 5 = false := hL
      have q8 : a9.tmps[8]? = some (.pointer (some ⟨pb, 288, none⟩)) := hS 4 8 (by decide) rfl (by show 8 < 48; decide)
      have s8 := Rega.eval_of q8
      have e0 : R9 L9 α 999 = row (pb) 176 PC := by
        show r4L111T999 pb PC sb c st n src i L9 α = _
        unfold r4L111T999
        rw [if_neg (fun e => by have := hcl 8 e 5 (by decide); rw [hL] at this; cases this)]
      have hr := hG.rowAt 999 (act_base 999 rfl) e0
      have c0 : u9.cell? ⟨pb, 288, none⟩ = some (.int .i64 (i : Int)) := hr.cell (hk288)
      clear hr e0
      go_simp
      exact hK _ α _ (fun _ _ => rfl) rfl (step_same (st9) hL hcl rfl rfl hG)
    · intro L9 α a9 u9 K9 hL hcl hA hG hS h0 hK
      replace hL : L9 6 = false := hL
      have q5 : a9.tmps[5]? = some (.agg #[.string ⟨#[97, 98, 99, 100, 101, 102, 103, 104, 105, 106, 107, 108, 109, 110, 111, 112, 113, 114, 115, 116, 117, 118, 119, 120, 121, 122, 65, 66, 67, 68, 69, 70, 71, 72, 73, 74, 75, 76, 77, 78, 79, 80, 81, 82, 83, 84, 85, 86, 87, 88, 89, 90, 95, 36]⟩, .string ⟨#[97, 98, 99, 100, 101, 102, 103, 104, 105, 106, 107, 108, 109, 110, 111, 112, 113, 114, 115, 116, 117, 118, 119, 120, 121, 122, 65, 66, 67, 68, 69, 70, 71, 72, 73, 74, 75, 76, 77, 78, 79, 80, 81, 82, 83, 84, 85, 86, 87, 88, 89, 90, 48, 49, 50, 51, 52, 53, 54, 55, 56, 57, 95, 36]⟩]) := hS 1 5 (by decide) rfl (by show 5 < 48; decide)
      have s5 := Rega.eval_of q5
      have q9 : a9.tmps[9]? = some (.int .i64 (i : Int)) := hS 5 9 (by decide) rfl (by show 9 < 48; decide)
      have s9 := Rega.eval_of q9
      go_simp
      have hM : ∀ i, i ∈ [] → act r4L111Cnt 2 L9 i := by intro i hi; simp at hi
      have hP : Own w0 u9 [] _ := hG.pick [] (by decide) (by simp)
      clear hM
      refine Calls.mono (minNm i _ _ _ hP (by omega)) ?_
      rintro e9 u1 ⟨rfl, hQ⟩
      obtain ⟨α', hα'⟩ : ∃ α' : Rega.Atoms, α' = α := ⟨_, rfl⟩
      have hα : ∀ j, j % 1000 ≠ 6 → α' j = α j := fun j hj => by rw [hα']
      skip
      refine hK _ α' _ hα ?_ (step_call (st9) hL hcl hα [] [] (by decide) (by decide) (by decide) (M := _) ?_ hG hQ)
      · rfl
      · show [] = _
        rw []
    · intro L9 α a9 u9 K9 hL hcl hA hG hS h0 hK
      replace hL : L9 7 = false := hL
      have q10 : a9.tmps[10]? = some (.string (nmB i)) := hS 6 10 (by decide) rfl (by show 10 < 48; decide)
      have s10 := Rega.eval_of q10
      go_simp
      exact hK _ α _ (fun _ _ => rfl) rfl (step_same (st9) hL hcl rfl rfl hG)
    · intro L9 α a9 u9 K9 hL hcl hA hG hS h0 hK
      replace hL : L9 8 = false := hL
      have q4 : a9.tmps[4]? = some (.pointer (some ⟨pb, 0, none⟩)) := hS 0 4 (by decide) rfl (by show 4 < 48; decide)
      have s4 := Rega.eval_of q4
      have q11 : a9.tmps[11]? = some (.string (tn i)) := hS 7 11 (by decide) rfl (by show 11 < 48; decide)
      have s11 := Rega.eval_of q11
      go_simp
      have e0 : R9 L9 α 999 = row (pb) 176 PC := by
        show r4L111T999 pb PC sb c st n src i L9 α = _
        unfold r4L111T999
        rw [if_neg (by rw [hL]; decide)]
      have e1 : R9 L9 α 1999 = row (sb) 183 (full symZ (symL st) c) := by
        show r4L111T1999 pb PC sb c st n src i L9 α = _
        unfold r4L111T1999
        rw [if_neg (by rw [hL]; decide)]
      have hM : ∀ i, i ∈ [999, 1999] → act r4L111Cnt 2 L9 i := by
        intro i hi
        simp only [List.mem_cons, List.not_mem_nil, or_false] at hi
        rcases hi with rfl | rfl
        · exact act_base 999 rfl
        · exact act_base 1999 rfl
      have hP : Own w0 u9 [row (pb) 176 PC, row (sb) 183 (full symZ (symL st) c)] _ := (hG.pick [999, 1999] (by decide) hM).conv (by
        show [R9 L9 α 999, R9 L9 α 1999] = _
        rw [e0, e1])
      clear e0 e1 hM
      refine Calls.mono (newSymG pb PC sb c st n src 27 (tn i) _ _ _ hP hk66 hk32 hk106 hn hnb hg0 hg1) ?_
      rintro e9 u1 ⟨b0, b1, rfl, hQ⟩
      obtain ⟨α', hα'⟩ : ∃ α' : Rega.Atoms, α' = (fun j => if j = 8 then b0 else if j = 1008 then b1 else α j) := ⟨_, rfl⟩
      have f0 : R9 (Rega.ran L9 8) α' 999 = row (pb) 176 (PC.setIfInBounds 106 (.slice (some ⟨α' 8, 0, none⟩) (n + 1) (n + 1 + (α' 1008)))) := by
        show r4L111T999 pb PC sb c st n src i (Rega.ran L9 8) α' = _
        unfold r4L111T999
        rw [if_pos (show Rega.ran L9 8 8 = true from rfl)]
      have f1 : R9 (Rega.ran L9 8) α' 1999 = row (α' 8) 183 (full symZ (symL (st ++ [syk (tn i) 27])) (α' 1008)) := by
        show r4L111T1999 pb PC sb c st n src i (Rega.ran L9 8) α' = _
        unfold r4L111T1999
        rw [if_pos (show Rega.ran L9 8 8 = true from rfl)]
      have hα : ∀ j, j % 1000 ≠ 8 → α' j = α j := fun j hj => by rw [hα']; simp only []; rw [if_neg (by omega), if_neg (by omega)]
      have hb0 : α' 8 = b0 := by rw [hα']; rfl
      have hb1 : α' 1008 = b1 := by rw [hα']; rfl
      skip
      refine hK _ α' _ hα ?_ (step_call (st9) hL hcl hα [999, 1999] [999, 1999] (by decide) (by decide) (by decide) (M := _) ?_ hG hQ)
      · rfl
      · show [R9 (Rega.ran L9 8) α' 999, R9 (Rega.ran L9 8) α' 1999] = _
        rw [f0, f1]
        simp only [hb0, hb1]
    · intro L9 α a9 u9 K9 hL hcl hA hG hS h0 hK
      replace hL : L9 9 = false := hL
      go_simp
      have e1 : R9 (Rega.ran L9 9) (fun j => if j = 9 then u9.heap.size else α j) 9 = row (u9.heap.size) 33 #[.int .u32 0, .int .u32 0] := by
        show r4L111T9 pb PC sb c st n src i (Rega.ran L9 9) (fun j => if j = 9 then u9.heap.size else α j) = _
        unfold r4L111T9
        exact ((if_neg (fun e => (fun e => by have := hcl 10 e 9 (by decide); rw [hL] at this; cases this) ((ran_ne (by decide)).symm.trans e))).trans rfl)
      exact hK _ (fun j => if j = 9 then u9.heap.size else α j) _ (fun j hj => if_neg (fun e => hj (by rw [e]))) rfl (step_alloc (st9) hL hcl rfl rfl (by decide) _ e1 hG)
    · intro L9 α a9 u9 K9 hL hcl hA hG hS h0 hK
      replace hL : L9 10 = false := hL
      have q3 : a9.tmps[3]? = some (.pointer (some ⟨α 9, 0, none⟩)) := hS 9 3 (by decide) rfl (by show 3 < 48; decide)
      have s3 := Rega.eval_of q3
      have q12 : a9.tmps[12]? = some (.agg #[.int .u32 src, .int .u32 (n : Int)]) := hS 8 12 (by decide) rfl (by show 12 < 48; decide)
      have s12 := Rega.eval_of q12
      have e0 : R9 L9 α 9 = row (α 9) 33 #[.int .u32 0, .int .u32 0] := by
        show r4L111T9 pb PC sb c st n src i L9 α = _
        unfold r4L111T9
        rw [if_neg (by rw [hL]; decide)]
      have hr := hG.rowAt 9 (act_new 9 rfl (hA 9 (by decide))) e0
      have c0 : u9.cell? ⟨α 9, 0, none⟩ = some (.int .u32 0) := hr.cell rfl
      have y0 : u9.frozen? ⟨α 9, 0, none⟩ = false := hr.free (0)
      have c1 : u9.cell? ⟨α 9, 1, none⟩ = some (.int .u32 0) := hr.cell rfl
      have y1 : u9.frozen? ⟨α 9, 1, none⟩ = false := hr.free (1)
      clear hr
      have E0 := Lib.hid e0
      clear e0
      go_simp
      have e1 : R9 (Rega.ran L9 10) α 9 = row (α 9) 33 #[.int .u32 src, .int .u32 (n : Int)] := by
        show r4L111T9 pb PC sb c st n src i (Rega.ran L9 10) α = _
        unfold r4L111T9
        rw [if_pos (show Rega.ran L9 10 10 = true from rfl)]
      exact hK _ α _ (fun _ _ => rfl) rfl (step_sets (st9) hL hcl rfl 9 rfl (act_new 9 rfl (hA 9 (by decide))) E0.out (0) [.int .u32 src, .int .u32 (n : Int)] (e1.trans rfl) hG)
  clear st9
  intro α u hG
  have e0 : R9 (fun k => decide (k < 11)) α 999 = row (pb) 176 (PC.setIfInBounds 106 (.slice (some ⟨α 8, 0, none⟩) (n + 1) (n + 1 + (α 1008)))) := by
    show r4L111T999 pb PC sb c st n src i (fun k => decide (k < 11)) α = _
    unfold r4L111T999
    rw [if_pos (by decide)]
  have e1 : R9 (fun k => decide (k < 11)) α 1999 = row (α 8) 183 (full symZ (symL (st ++ [syk (tn i) 27])) (α 1008)) := by
    show r4L111T1999 pb PC sb c st n src i (fun k => decide (k < 11)) α = _
    unfold r4L111T1999
    rw [if_pos (by decide)]
  have e2 : R9 (fun k => decide (k < 11)) α 9 = row (α 9) 33 #[.int .u32 src, .int .u32 (n : Int)] := by
    show r4L111T9 pb PC sb c st n src i (fun k => decide (k < 11)) α = _
    unfold r4L111T9
    rw [if_pos (by decide)]
  have hO : Own w0 u [row (pb) 176 (PC.setIfInBounds 106 (.slice (some ⟨α 8, 0, none⟩) (n + 1) (n + 1 + (α 1008)))), row (α 8) 183 (full symZ (symL (st ++ [syk (tn i) 27])) (α 1008)), row (α 9) 33 #[.int .u32 src, .int .u32 (n : Int)]] X9_3 := (hG.list [999, 1999, 9] (by decide) (act_all (by decide))).conv (by
    show [R9 (fun k => decide (k < 11)) α 999, R9 (fun k => decide (k < 11)) α 1999, R9 (fun k => decide (k < 11)) α 9] = _
    rw [e0, e1, e2])
  clear hG e0 e1 e2 R9
  generalize hfr : Rega.frameAt _ _ _ _ _ = fr
  have hdf : fr = ⟨#[.pointer (some ⟨pb, 0, none⟩), undef, .pointer (some ⟨B1, 0, none⟩), .pointer (some ⟨α 9, 0, none⟩), .pointer (some ⟨pb, 0, none⟩), .agg #[.string ⟨#[97, 98, 99, 100, 101, 102, 103, 104, 105, 106, 107, 108, 109, 110, 111, 112, 113, 114, 115, 116, 117, 118, 119, 120, 121, 122, 65, 66, 67, 68, 69, 70, 71, 72, 73, 74, 75, 76, 77, 78, 79, 80, 81, 82, 83, 84, 85, 86, 87, 88, 89, 90, 95, 36]⟩, .string ⟨#[97, 98, 99, 100, 101, 102, 103, 104, 105, 106, 107, 108, 109, 110, 111, 112, 113, 114, 115, 116, 117, 118, 119, 120, 121, 122, 65, 66, 67, 68, 69, 70, 71, 72, 73, 74, 75, 76, 77, 78, 79, 80, 81, 82, 83, 84, 85, 86, 87, 88, 89, 90, 48, 49, 50, 51, 52, 53, 54, 55, 56, 57, 95, 36]⟩], .pointer (some ⟨pb, 0, none⟩), .pointer (some ⟨pb, 0, none⟩), .pointer (some ⟨pb, 288, none⟩), .int .i64 (i : Int), .string (nmB i), .string (tn i), .agg #[.int .u32 src, .int .u32 (n : Int)], undef, undef, undef, undef, undef, undef, undef, undef, undef, undef, undef, undef, undef, undef, undef, undef, undef, undef, undef, undef, undef, undef, undef, undef, undef, undef, undef, undef, undef, undef, undef, undef, undef, undef, undef], []⟩ := by rw [← hfr]; kernel_rfl
  clear hfr
  subst hdf
  generalize α 8 = nd4 at hO ⊢
  generalize α 9 = nd5 at hO ⊢
  generalize α 1008 = nd6 at hO ⊢
  clear α
  subst hX9_3
  have hN : Own w0 u [row (pb) 176 (PC.setIfInBounds 106 (.slice (some ⟨nd4, 0, none⟩) (n + 1) (n + 1 + (nd6)))), row (nd4) 183 (full symZ (symL (st ++ [syk (tn i) 27])) (nd6)), row (nd5) 33 #[.int .u32 src, .int .u32 (n : Int)], row (B1) 33 #[.int .u32 0, .int .u32 0], row (ms) 38 MC, row (qb) 185 (full trfZ TQ cq), row (gb) 33 (full refZ TG cg)] X := hO.back HL.out HX.out [0, 3, 4, 5] (by decide) (by decide)
  clear hO HL HX
  have hO := hN
  clear hN
  obtain ⟨c9_2_0, c9_2_1, lt9_2, y9_2, -⟩ := hO.k2 2 rfl
  obtain ⟨c9_3_0, c9_3_1, lt9_3, y9_3, -⟩ := hO.k2 3 rfl
  have HO := Lib.hid hO
  clear hO
  go_wp2_with (first | (with_reducible refine Own.stay (fn := Tryd.f23) ?_) | fail)
  try with_reducible refine Own.Stay.mk ?_
  have hO := HO.out
  clear HO c9_2_0 c9_2_1 lt9_2 y9_2 c9_3_0 c9_3_1 lt9_3 y9_3
  have hL := hO.apart
  have hX := hO.apartX
  have HL := Lib.hid hL
  have HX := Lib.hid hX
  clear hL hX
  have hP9 := hO.pick [0, 2, 5] (by decide)
  generalize hX9_7 : Own.Rest _ _ X = X9_7 at hP9
  replace hP9 : Own w0 u [row (pb) 176 (PC.setIfInBounds 106 (.slice (some ⟨nd4, 0, none⟩) (n + 1) (n + 1 + (nd6)))), row (nd5) 33 #[.int .u32 src, .int .u32 (n : Int)], row (qb) 185 (full trfZ TQ cq)] X9_7 := hP9
  clear hO
  have hO := hP9
  clear hP9
  have st9 := r4L112_st pb PC n src qb TQ cq m nd4 nd5 nd6
  let R9 := r4L112R pb PC n src qb TQ cq m nd4 nd5 nd6
  refine wp_region_own (e := r4L112E pb PC n src qb TQ cq m nd4 nd5 nd6) (anc := r4L112Anc) (G := (fun L9 α u9 => OwnF w0 u9 (act r4L112Cnt 3 L9) (r4L112R pb PC n src qb TQ cq m nd4 nd5 nd6 L9 α) X9_7)) (by kernel_rfl) (by kernel_rfl) (by kernel_rfl) (by kernel_rfl) (r4L112_he pb PC n src qb TQ cq m nd4 nd5 nd6) ?_ (RunsAll.all ?_) ?_
  · have hp : ∀ i, act r4L112Cnt 3 (fun _ => false) i → i ∈ [999, 1999, 2999] := by
      intro i hi
      have h9 : i % 1000 = 999 := by
        by_cases h : i % 1000 = 999
        · exact h
        · exact absurd (act_lt hi h) (by simp)
      unfold act at hi
      rw [if_pos h9] at hi
      simp only [List.mem_cons, List.not_mem_nil, or_false]
      omega
    refine hO.drew.family (fun i hi => ?_) (fun i j hi hj hij => ?_)
    · have := hp i hi
      simp only [List.mem_cons, List.not_mem_nil, or_false] at this
      rcases this with rfl | rfl | rfl <;> rfl
    · have h1 := hp i hi
      have h2 := hp j hj
      simp only [List.mem_cons, List.not_mem_nil, or_false] at h1 h2
      omega
  · refine ⟨?_, ?_, ?_, ?_, ?_, ?_, ?_, ?_, ?_, ?_, ?_, ?_, trivial⟩
    · intro L9 α a9 u9 K9 hL hcl hA hG hS h0 hK
      replace hL : L9 0 = false := hL
      have q0 : a9.tmps[0]? = some (.pointer (some ⟨pb, 0, none⟩)) := (h0 0 (by kernel_rfl)).trans rfl
      have s0 := Rega.eval_of q0
      go_simp
      exact hK _ α _ (fun _ _ => rfl) rfl (step_same (st9) hL hcl rfl rfl hG)
    · intro L9 α a9 u9 K9 hL hcl hA hG hS h0 hK
      replace hL : L9 1 = false := hL
      have q0 : a9.tmps[0]? = some (.pointer (some ⟨pb, 0, none⟩)) := (h0 0 (by kernel_rfl)).trans rfl
      have s0 := Rega.eval_of q0
      go_simp
      exact hK _ α _ (fun _ _ => rfl) rfl (step_same (st9) hL hcl rfl rfl hG)
    · intro L9 α a9 u9 K9 hL hcl hA hG hS h0 hK
      replace hL : L9 2 = false := hL
      have q14 : a9.tmps[14]? = some (.pointer (some ⟨pb, 0, none⟩)) := hS 1 14 (by decide) rfl (by show 14 < 48; decide)
      have s14 := Rega.eval_of q14
      go_simp
      exact hK _ α _ (fun _ _ => rfl) rfl (step_same (st9) hL hcl rfl rfl hG)
    · intro L9 α a9 u9 K9 hL hcl hA hG hS h0 hK
      replace hL : L9 3 = false := hL
      have q15 : a9.tmps[15]? = some (.pointer (some ⟨pb, 0, none⟩)) := hS 2 15 (by decide) rfl (by show 15 < 48; decide)
      have s15 := Rega.eval_of q15
      go_simp
      exact hK _ α _ (fun _ _ => rfl) rfl (step_same (st9) hL hcl rfl rfl hG)
    · intro L9 α a9 u9 K9 hL hcl hA hG hS h0 hK
      replace hL : L9 4 = false := hL
      have q16 : a9.tmps[16]? = some (.pointer (some ⟨pb, 200, none⟩)) := hS 3 16 (by decide) rfl (by show 16 < 48; decide)
      have s16 := Rega.eval_of q16
      have e0 : R9 L9 α 999 = row (pb) 176 (PC.setIfInBounds 106 (.slice (some ⟨nd4, 0, none⟩) (n + 1) (n + 1 + (nd6)))) := by
        show r4L112T999 pb PC n src qb TQ cq m nd4 nd5 nd6 L9 α = _
        unfold r4L112T999
        rw [if_neg (fun e => by have := hcl 11 e 4 (by decide); rw [hL] at this; cases this)]
      have hr := hG.rowAt 999 (act_base 999 rfl) e0
      have c0 : u9.cell? ⟨pb, 200, none⟩ = some (.slice (some ⟨qb, 0, none⟩) m (m + cq)) := hr.cell ((get_other hk200 (by omega) _))
      clear hr e0
      go_simp
      exact hK _ α _ (fun _ _ => rfl) rfl (step_same (st9) hL hcl rfl rfl hG)
    · intro L9 α a9 u9 K9 hL hcl hA hG hS h0 hK
      replace hL : L9 5 = false := hL
      have q3 : a9.tmps[3]? = some (.pointer (some ⟨nd5, 0, none⟩)) := (h0 3 (by kernel_rfl)).trans rfl
      have s3 := Rega.eval_of q3
      have e0 : R9 L9 α 1999 = row (nd5) 33 #[.int .u32 src, .int .u32 (n : Int)] := rfl
      have hr := hG.rowAt 1999 (act_base 1999 rfl) e0
      have c0 : u9.cell? ⟨nd5, 0, none⟩ = some (.int .u32 src) := hr.cell rfl
      have c1 : u9.cell? ⟨nd5, 1, none⟩ = some (.int .u32 (n : Int)) := hr.cell rfl
      clear hr e0
      go_simp
      exact hK _ α _ (fun _ _ => rfl) rfl (step_same (st9) hL hcl rfl rfl hG)
    · intro L9 α a9 u9 K9 hL hcl hA hG hS h0 hK
      replace hL : L9 6 = false := hL
      have q18 : a9.tmps[18]? = some (.agg #[.int .u32 src, .int .u32 (n : Int)]) := hS 5 18 (by decide) rfl (by show 18 < 48; decide)
      have s18 := Rega.eval_of q18
      go_simp
      exact hK _ α _ (fun _ _ => rfl) rfl (step_same (st9) hL hcl rfl rfl hG)
    · intro L9 α a9 u9 K9 hL hcl hA hG hS h0 hK
      replace hL : L9 7 = false := hL
      have q19 : a9.tmps[19]? = some (.agg #[.nilIface, .int .i32 0, .int .u32 src, .int .u32 (n : Int)]) := hS 6 19 (by decide) rfl (by show 19 < 48; decide)
      have s19 := Rega.eval_of q19
      go_simp
      exact hK _ (fun j => if j = 7 then u9.heap.size else α j) _ (fun j hj => if_neg (fun e => hj (by rw [e]))) rfl (step_alloc (st9) hL hcl rfl rfl (by decide) _ rfl hG)
    · intro L9 α a9 u9 K9 hL hcl hA hG hS h0 hK
      replace hL : L9 8 = false := hL
      have q17 : a9.tmps[17]? = some (.slice (some ⟨qb, 0, none⟩) m (m + cq)) := hS 4 17 (by decide) rfl (by show 17 < 48; decide)
      have s17 := Rega.eval_of q17
      have q20 : a9.tmps[20]? = some (.slice (some ⟨α 7, 0, none⟩) 1 1) := hS 7 20 (by decide) rfl (by show 20 < 48; decide)
      have s20 := Rega.eval_of q20
      simp only [Region.wanted, if_true]
      have e0 : R9 L9 α 2999 = row (qb) 185 (full trfZ TQ cq) := by
        show r4L112T2999 pb PC n src qb TQ cq m nd4 nd5 nd6 L9 α = _
        unfold r4L112T2999
        rw [if_neg (by rw [hL]; decide)]
      have e1 : R9 L9 α 7 = row (α 7) 185 #[.nilIface, .int .i32 0, .int .u32 src, .int .u32 (n : Int)] := rfl
      have hM : ∀ i, i ∈ [2999, 7] → act r4L112Cnt 3 L9 i := by
        intro i hi
        simp only [List.mem_cons, List.not_mem_nil, or_false] at hi
        rcases hi with rfl | rfl
        · exact act_base 2999 rfl
        · exact act_new 7 rfl (hA 7 (by decide))
      have hP : Own w0 u9 [row (qb) 185 (full trfZ TQ cq), row (α 7) 185 #[.nilIface, .int .i32 0, .int .u32 src, .int .u32 (n : Int)]] _ := (hG.pick [2999, 7] (by decide) hM).conv (by
        show [R9 L9 α 2999, R9 L9 α 7] = _
        rw [e0, e1])
      clear e0 e1 hM
      obtain ⟨i9, hi9, z1, z2, z3⟩ := info_parts infoTrf
      refine wp_append_full (Operand.tmp 17) (Operand.tmp 20) 160 rfl 185 i9 (.agg trfZ) 4 32 Tryd.underlying160 hi9 z1 z2 z3 rfl (by decide) hP s17 s20 (by first | rfl | assumption | (simp; done) | (simp; omega)) (by first | rfl | assumption | omega) rfl (oneAll rfl) (by first | decide | omega | (unfold maxLen; omega)) (by first | decide | omega | (unfold maxLen; omega)) ?_
      intro b0 b1 u1 hQ
      obtain ⟨α', hα'⟩ : ∃ α' : Rega.Atoms, α' = (fun j => if j = 8 then b0 else if j = 1008 then b1 else α j) := ⟨_, rfl⟩
      have f0 : R9 (Rega.ran L9 8) α' 2999 = row (α' 8) 185 (full trfZ (TQ ++ [.nilIface, .int .i32 0, .int .u32 src, .int .u32 (n : Int)]) (α' 1008)) := by
        show r4L112T2999 pb PC n src qb TQ cq m nd4 nd5 nd6 (Rega.ran L9 8) α' = _
        unfold r4L112T2999
        rw [if_pos (show Rega.ran L9 8 8 = true from rfl)]
      have f1 : R9 (Rega.ran L9 8) α' 7 = row (α' 7) 185 #[.nilIface, .int .i32 0, .int .u32 src, .int .u32 (n : Int)] := rfl
      have hα : ∀ j, j % 1000 ≠ 8 → α' j = α j := fun j hj => by rw [hα']; simp only []; rw [if_neg (by omega), if_neg (by omega)]
      have hb0 : α' 8 = b0 := by rw [hα']; rfl
      have hb1 : α' 1008 = b1 := by rw [hα']; rfl
      have ha7 : α' 7 = α 7 := hα 7 (by decide)
      refine hK _ α' _ hα ?_ (step_call (st9) hL hcl hα [2999, 7] [2999, 7] (by decide) (by decide) (by decide) (M := _) ?_ hG hQ)
      · show _ = (.slice (some ⟨α' 8, 0, none⟩) (m + 1) (m + 1 + α' 1008) : Value)
        simp only [hb0, hb1]
      · show [R9 (Rega.ran L9 8) α' 2999, R9 (Rega.ran L9 8) α' 7] = _
        rw [f0, f1]
        simp only [hb0, hb1, ha7]
        try rfl
    · intro L9 α a9 u9 K9 hL hcl hA hG hS h0 hK
      replace hL : L9 9 = false := hL
      have q13 : a9.tmps[13]? = some (.pointer (some ⟨pb, 0, none⟩)) := hS 0 13 (by decide) rfl (by show 13 < 48; decide)
      have s13 := Rega.eval_of q13
      go_simp
      exact hK _ α _ (fun _ _ => rfl) rfl (step_same (st9) hL hcl rfl rfl hG)
    · intro L9 α a9 u9 K9 hL hcl hA hG hS h0 hK
      replace hL : L9 10 = false := hL
      have q22 : a9.tmps[22]? = some (.pointer (some ⟨pb, 0, none⟩)) := hS 9 22 (by decide) rfl (by show 22 < 48; decide)
      have s22 := Rega.eval_of q22
      go_simp
      exact hK _ α _ (fun _ _ => rfl) rfl (step_same (st9) hL hcl rfl rfl hG)
    · intro L9 α a9 u9 K9 hL hcl hA hG hS h0 hK
      replace hL : L9 11 = false := hL
      have q23 : a9.tmps[23]? = some (.pointer (some ⟨pb, 200, none⟩)) := hS 10 23 (by decide) rfl (by show 23 < 48; decide)
      have s23 := Rega.eval_of q23
      have q21 : a9.tmps[21]? = some (.slice (some ⟨α 8, 0, none⟩) (m + 1) (m + 1 + α 1008)) := hS 8 21 (by decide) rfl (by show 21 < 48; decide)
      have s21 := Rega.eval_of q21
      have e0 : R9 L9 α 999 = row (pb) 176 (PC.setIfInBounds 106 (.slice (some ⟨nd4, 0, none⟩) (n + 1) (n + 1 + (nd6)))) := by
        show r4L112T999 pb PC n src qb TQ cq m nd4 nd5 nd6 L9 α = _
        unfold r4L112T999
        rw [if_neg (by rw [hL]; decide)]
      have hr := hG.rowAt 999 (act_base 999 rfl) e0
      have c0 : u9.cell? ⟨pb, 200, none⟩ = some (.slice (some ⟨qb, 0, none⟩) m (m + cq)) := hr.cell ((get_other hk200 (by omega) _))
      have y0 : u9.frozen? ⟨pb, 200, none⟩ = false := hr.free (200)
      clear hr
      have E0 := Lib.hid e0
      clear e0
      go_simp
      have e1 : R9 (Rega.ran L9 11) α 999 = row (pb) 176 ((PC.setIfInBounds 106 (.slice (some ⟨nd4, 0, none⟩) (n + 1) (n + 1 + (nd6)))).setIfInBounds 200 (.slice (some ⟨α 8, 0, none⟩) (m + 1) (m + 1 + α 1008))) := by
        show r4L112T999 pb PC n src qb TQ cq m nd4 nd5 nd6 (Rega.ran L9 11) α = _
        unfold r4L112T999
        rw [if_pos (show Rega.ran L9 11 11 = true from rfl)]
      exact hK _ α _ (fun _ _ => rfl) rfl (step_sets (st9) hL hcl rfl 999 rfl (act_base 999 rfl) E0.out (200) [.slice (some ⟨α 8, 0, none⟩) (m + 1) (m + 1 + α 1008)] (e1.trans rfl) hG)
  clear st9
  intro α u hG
  have e0 : R9 (fun k => decide (k < 12)) α 999 = row (pb) 176 ((PC.setIfInBounds 106 (.slice (some ⟨nd4, 0, none⟩) (n + 1) (n + 1 + (nd6)))).setIfInBounds 200 (.slice (some ⟨α 8, 0, none⟩) (m + 1) (m + 1 + α 1008))) := by
    show r4L112T999 pb PC n src qb TQ cq m nd4 nd5 nd6 (fun k => decide (k < 12)) α = _
    unfold r4L112T999
    rw [if_pos (by decide)]
  have e1 : R9 (fun k => decide (k < 12)) α 1999 = row (nd5) 33 #[.int .u32 src, .int .u32 (n : Int)] := rfl
  have e2 : R9 (fun k => decide (k < 12)) α 2999 = row (α 8) 185 (full trfZ (TQ ++ [.nilIface, .int .i32 0, .int .u32 src, .int .u32 (n : Int)]) (α 1008)) := by
    show r4L112T2999 pb PC n src qb TQ cq m nd4 nd5 nd6 (fun k => decide (k < 12)) α = _
    unfold r4L112T2999
    rw [if_pos (by decide)]
  have e3 : R9 (fun k => decide (k < 12)) α 7 = row (α 7) 185 #[.nilIface, .int .i32 0, .int .u32 src, .int .u32 (n : Int)] := rfl
  have hO : Own w0 u [row (pb) 176 ((PC.setIfInBounds 106 (.slice (some ⟨nd4, 0, none⟩) (n + 1) (n + 1 + (nd6)))).setIfInBounds 200 (.slice (some ⟨α 8, 0, none⟩) (m + 1) (m + 1 + α 1008))), row (nd5) 33 #[.int .u32 src, .int .u32 (n : Int)], row (α 8) 185 (full trfZ (TQ ++ [.nilIface, .int .i32 0, .int .u32 src, .int .u32 (n : Int)]) (α 1008)), row (α 7) 185 #[.nilIface, .int .i32 0, .int .u32 src, .int .u32 (n : Int)]] X9_7 := (hG.list [999, 1999, 2999, 7] (by decide) (act_all (by decide))).conv (by
    show [R9 (fun k => decide (k < 12)) α 999, R9 (fun k => decide (k < 12)) α 1999, R9 (fun k => decide (k < 12)) α 2999, R9 (fun k => decide (k < 12)) α 7] = _
    rw [e0, e1, e2, e3])
  clear hG e0 e1 e2 e3 R9
  generalize hfr : Rega.frameAt _ _ _ _ _ = fr
  have hdf : fr = ⟨#[.pointer (some ⟨pb, 0, none⟩), undef, .pointer (some ⟨B1, 0, none⟩), .pointer (some ⟨nd5, 0, none⟩), .pointer (some ⟨pb, 0, none⟩), .agg #[.string ⟨#[97, 98, 99, 100, 101, 102, 103, 104, 105, 106, 107, 108, 109, 110, 111, 112, 113, 114, 115, 116, 117, 118, 119, 120, 121, 122, 65, 66, 67, 68, 69, 70, 71, 72, 73, 74, 75, 76, 77, 78, 79, 80, 81, 82, 83, 84, 85, 86, 87, 88, 89, 90, 95, 36]⟩, .string ⟨#[97, 98, 99, 100, 101, 102, 103, 104, 105, 106, 107, 108, 109, 110, 111, 112, 113, 114, 115, 116, 117, 118, 119, 120, 121, 122, 65, 66, 67, 68, 69, 70, 71, 72, 73, 74, 75, 76, 77, 78, 79, 80, 81, 82, 83, 84, 85, 86, 87, 88, 89, 90, 48, 49, 50, 51, 52, 53, 54, 55, 56, 57, 95, 36]⟩], .pointer (some ⟨pb, 0, none⟩), .pointer (some ⟨pb, 0, none⟩), .pointer (some ⟨pb, 288, none⟩), .int .i64 (i : Int), .string (nmB i), .string (tn i), .agg #[.int .u32 src, .int .u32 (n : Int)], .pointer (some ⟨pb, 0, none⟩), .pointer (some ⟨pb, 0, none⟩), .pointer (some ⟨pb, 0, none⟩), .pointer (some ⟨pb, 200, none⟩), .slice (some ⟨qb, 0, none⟩) m (m + cq), .agg #[.int .u32 src, .int .u32 (n : Int)], .agg #[.nilIface, .int .i32 0, .int .u32 src, .int .u32 (n : Int)], .slice (some ⟨α 7, 0, none⟩) 1 1, .slice (some ⟨α 8, 0, none⟩) (m + 1) (m + 1 + α 1008), .pointer (some ⟨pb, 0, none⟩), .pointer (some ⟨pb, 200, none⟩), undef, undef, undef, undef, undef, undef, undef, undef, undef, undef, undef, undef, undef, undef, undef, undef, undef, undef, undef, undef, undef, undef, undef, undef], []⟩ := by rw [← hfr]; kernel_rfl
  clear hfr
  subst hdf
  generalize α 7 = nd8 at hO ⊢
  generalize α 8 = nd9 at hO ⊢
  generalize α 1008 = nd10 at hO ⊢
  clear α
  subst hX9_7
  have hN : Own w0 u [row (pb) 176 ((PC.setIfInBounds 106 (.slice (some ⟨nd4, 0, none⟩) (n + 1) (n + 1 + (nd6)))).setIfInBounds 200 (.slice (some ⟨nd9, 0, none⟩) (m + 1) (m + 1 + nd10))), row (nd5) 33 #[.int .u32 src, .int .u32 (n : Int)], row (nd9) 185 (full trfZ (TQ ++ [.nilIface, .int .i32 0, .int .u32 src, .int .u32 (n : Int)]) (nd10)), row (nd8) 185 #[.nilIface, .int .i32 0, .int .u32 src, .int .u32 (n : Int)], row (nd4) 183 (full symZ (symL (st ++ [syk (tn i) 27])) (nd6)), row (B1) 33 #[.int .u32 0, .int .u32 0], row (ms) 38 MC, row (gb) 33 (full refZ TG cg)] X := hO.back HL.out HX.out [1, 3, 4, 6] (by decide) (by decide)
  clear hO HL HX
  have hO := hN
  clear hN
  obtain ⟨c9_1_0, c9_1_1, lt9_1, y9_1, -⟩ := hO.k2 1 rfl
  obtain ⟨c9_3_0, c9_3_1, c9_3_2, c9_3_3, lt9_3, y9_3, -⟩ := hO.k4 3 rfl
  obtain ⟨c9_5_0, c9_5_1, lt9_5, y9_5, -⟩ := hO.k2 5 rfl
  have HO := Lib.hid hO
  clear hO
  go_wp2_with (first | (with_reducible refine Own.stay (fn := Tryd.f23) ?_) | fail)
  try with_reducible refine Own.Stay.mk ?_
  have hO := HO.out
  clear HO c9_1_0 c9_1_1 lt9_1 y9_1 c9_3_0 c9_3_1 c9_3_2 c9_3_3 lt9_3 y9_3 c9_5_0 c9_5_1 lt9_5 y9_5
  have hL := hO.apart
  have hX := hO.apartX
  have HL := Lib.hid hL
  have HX := Lib.hid hX
  clear hL hX
  have hP9 := hO.pick [0, 1, 6, 7] (by decide)
  generalize hX9_11 : Own.Rest _ _ X = X9_11 at hP9
  replace hP9 : Own w0 u [row (pb) 176 ((PC.setIfInBounds 106 (.slice (some ⟨nd4, 0, none⟩) (n + 1) (n + 1 + (nd6)))).setIfInBounds 200 (.slice (some ⟨nd9, 0, none⟩) (m + 1) (m + 1 + nd10))), row (nd5) 33 #[.int .u32 src, .int .u32 (n : Int)], row (ms) 38 MC, row (gb) 33 (full refZ TG cg)] X9_11 := hP9
  clear hO
  have hO := hP9
  clear hP9
  have st9 := r4L113_st pb PC n src ms MC m gb TG cg g nd4 nd5 nd6 nd9 nd10
  let R9 := r4L113R pb PC n src ms MC m gb TG cg g nd4 nd5 nd6 nd9 nd10
  refine wp_region_own (e := r4L113E pb PC n src ms MC m gb TG cg g nd4 nd5 nd6 nd9 nd10) (anc := r4L113Anc) (G := (fun L9 α u9 => OwnF w0 u9 (act r4L113Cnt 4 L9) (r4L113R pb PC n src ms MC m gb TG cg g nd4 nd5 nd6 nd9 nd10 L9 α) X9_11)) (by kernel_rfl) (by kernel_rfl) (by kernel_rfl) (by kernel_rfl) (r4L113_he pb PC n src ms MC m gb TG cg g nd4 nd5 nd6 nd9 nd10) ?_ (RunsAll.all ?_) ?_
  · have hp : ∀ i, act r4L113Cnt 4 (fun _ => false) i → i ∈ [999, 1999, 2999, 3999] := by
      intro i hi
      have h9 : i % 1000 = 999 := by
        by_cases h : i % 1000 = 999
        · exact h
        · exact absurd (act_lt hi h) (by simp)
      unfold act at hi
      rw [if_pos h9] at hi
      simp only [List.mem_cons, List.not_mem_nil, or_false]
      omega
    refine hO.drew.family (fun i hi => ?_) (fun i j hi hj hij => ?_)
    · have := hp i hi
      simp only [List.mem_cons, List.not_mem_nil, or_false] at this
      rcases this with rfl | rfl | rfl | rfl <;> rfl
    · have h1 := hp i hi
      have h2 := hp j hj
      simp only [List.mem_cons, List.not_mem_nil, or_false] at h1 h2
      omega
  · refine ⟨?_, ?_, ?_, ?_, ?_, ?_, ?_, ?_, ?_, ?_, ?_, ?_, ?_, ?_, ?_, ?_, ?_, trivial⟩
    · intro L9 α a9 u9 K9 hL hcl hA hG hS h0 hK
      replace hL : L9 0 = false := hL
      have q0 : a9.tmps[0]? = some (.pointer (some ⟨pb, 0, none⟩)) := (h0 0 (by kernel_rfl)).trans rfl
      have s0 := Rega.eval_of q0
      go_simp
      exact hK _ α _ (fun _ _ => rfl) rfl (step_same (st9) hL hcl rfl rfl hG)
    · intro L9 α a9 u9 K9 hL hcl hA hG hS h0 hK
      replace hL : L9 1 = false := hL
      have q24 : a9.tmps[24]? = some (.pointer (some ⟨pb, 0, none⟩)) := hS 0 24 (by decide) rfl (by show 24 < 48; decide)
      have s24 := Rega.eval_of q24
      go_simp
      exact hK _ α _ (fun _ _ => rfl) rfl (step_same (st9) hL hcl rfl rfl hG)
    · intro L9 α a9 u9 K9 hL hcl hA hG hS h0 hK
      replace hL : L9 2 = false := hL
      have q25 : a9.tmps[25]? = some (.pointer (some ⟨pb, 0, none⟩)) := hS 1 25 (by decide) rfl (by show 25 < 48; decide)
      have s25 := Rega.eval_of q25
      go_simp
      exact hK _ α _ (fun _ _ => rfl) rfl (step_same (st9) hL hcl rfl rfl hG)
    · intro L9 α a9 u9 K9 hL hcl hA hG hS h0 hK
      replace hL : L9 3 = false := hL
      have q26 : a9.tmps[26]? = some (.pointer (some ⟨pb, 187, none⟩)) := hS 2 26 (by decide) rfl (by show 26 < 48; decide)
      have s26 := Rega.eval_of q26
      have e0 : R9 L9 α 999 = row (pb) 176 ((PC.setIfInBounds 106 (.slice (some ⟨nd4, 0, none⟩) (n + 1) (n + 1 + (nd6)))).setIfInBounds 200 (.slice (some ⟨nd9, 0, none⟩) (m + 1) (m + 1 + nd10))) := rfl
      have hr := hG.rowAt 999 (act_base 999 rfl) e0
      have c0 : u9.cell? ⟨pb, 187, none⟩ = some (.pointer (some ⟨ms, 0, none⟩)) := hr.cell ((get_other (get_other hk187 (by omega) _) (by omega) _))
      clear hr e0
      go_simp
      exact hK _ α _ (fun _ _ => rfl) rfl (step_same (st9) hL hcl rfl rfl hG)
    · intro L9 α a9 u9 K9 hL hcl hA hG hS h0 hK
      replace hL : L9 4 = false := hL
      have q0 : a9.tmps[0]? = some (.pointer (some ⟨pb, 0, none⟩)) := (h0 0 (by kernel_rfl)).trans rfl
      have s0 := Rega.eval_of q0
      go_simp
      exact hK _ α _ (fun _ _ => rfl) rfl (step_same (st9) hL hcl rfl rfl hG)
    · intro L9 α a9 u9 K9 hL hcl hA hG hS h0 hK
      replace hL : L9 5 = false := hL
      have q28 : a9.tmps[28]? = some (.pointer (some ⟨pb, 0, none⟩)) := hS 4 28 (by decide) rfl (by show 28 < 48; decide)
      have s28 := Rega.eval_of q28
      go_simp
      exact hK _ α _ (fun _ _ => rfl) rfl (step_same (st9) hL hcl rfl rfl hG)
    · intro L9 α a9 u9 K9 hL hcl hA hG hS h0 hK
      replace hL : L9 6 = false := hL
      have q29 : a9.tmps[29]? = some (.pointer (some ⟨pb, 0, none⟩)) := hS 5 29 (by decide) rfl (by show 29 < 48; decide)
      have s29 := Rega.eval_of q29
      go_simp
      exact hK _ α _ (fun _ _ => rfl) rfl (step_same (st9) hL hcl rfl rfl hG)
    · intro L9 α a9 u9 K9 hL hcl hA hG hS h0 hK
      replace hL : L9 7 = false := hL
      have q30 : a9.tmps[30]? = some (.pointer (some ⟨pb, 187, none⟩)) := hS 6 30 (by decide) rfl (by show 30 < 48; decide)
      have s30 := Rega.eval_of q30
      have e0 : R9 L9 α 999 = row (pb) 176 ((PC.setIfInBounds 106 (.slice (some ⟨nd4, 0, none⟩) (n + 1) (n + 1 + (nd6)))).setIfInBounds 200 (.slice (some ⟨nd9, 0, none⟩) (m + 1) (m + 1 + nd10))) := rfl
      have hr := hG.rowAt 999 (act_base 999 rfl) e0
      have c0 : u9.cell? ⟨pb, 187, none⟩ = some (.pointer (some ⟨ms, 0, none⟩)) := hr.cell ((get_other (get_other hk187 (by omega) _) (by omega) _))
      clear hr e0
      go_simp
      exact hK _ α _ (fun _ _ => rfl) rfl (step_same (st9) hL hcl rfl rfl hG)
    · intro L9 α a9 u9 K9 hL hcl hA hG hS h0 hK
      replace hL : L9 8 = false := hL
      have q31 : a9.tmps[31]? = some (.pointer (some ⟨ms, 0, none⟩)) := hS 7 31 (by decide) rfl (by show 31 < 48; decide)
      have s31 := Rega.eval_of q31
      go_simp
      exact hK _ α _ (fun _ _ => rfl) rfl (step_same (st9) hL hcl rfl rfl hG)
    · intro L9 α a9 u9 K9 hL hcl hA hG hS h0 hK
      replace hL : L9 9 = false := hL
      have q32 : a9.tmps[32]? = some (.pointer (some ⟨ms, 0, none⟩)) := hS 8 32 (by decide) rfl (by show 32 < 48; decide)
      have s32 := Rega.eval_of q32
      go_simp
      exact hK _ α _ (fun _ _ => rfl) rfl (step_same (st9) hL hcl rfl rfl hG)
    · intro L9 α a9 u9 K9 hL hcl hA hG hS h0 hK
      replace hL : L9 10 = false := hL
      have q33 : a9.tmps[33]? = some (.pointer (some ⟨ms, 5, none⟩)) := hS 9 33 (by decide) rfl (by show 33 < 48; decide)
      have s33 := Rega.eval_of q33
      have e0 : R9 L9 α 2999 = row (ms) 38 MC := by
        show r4L113T2999 pb PC n src ms MC m gb TG cg g nd4 nd5 nd6 nd9 nd10 L9 α = _
        unfold r4L113T2999
        rw [if_neg (fun e => by have := hcl 16 e 10 (by decide); rw [hL] at this; cases this)]
      have hr := hG.rowAt 2999 (act_base 2999 rfl) e0
      have c0 : u9.cell? ⟨ms, 5, none⟩ = some (.slice (some ⟨gb, 0, none⟩) g (g + cg)) := hr.cell (hgen)
      clear hr e0
      go_simp
      exact hK _ α _ (fun _ _ => rfl) rfl (step_same (st9) hL hcl rfl rfl hG)
    · intro L9 α a9 u9 K9 hL hcl hA hG hS h0 hK
      replace hL : L9 11 = false := hL
      have q3 : a9.tmps[3]? = some (.pointer (some ⟨nd5, 0, none⟩)) := (h0 3 (by kernel_rfl)).trans rfl
      have s3 := Rega.eval_of q3
      have e0 : R9 L9 α 1999 = row (nd5) 33 #[.int .u32 src, .int .u32 (n : Int)] := rfl
      have hr := hG.rowAt 1999 (act_base 1999 rfl) e0
      have c0 : u9.cell? ⟨nd5, 0, none⟩ = some (.int .u32 src) := hr.cell rfl
      have c1 : u9.cell? ⟨nd5, 1, none⟩ = some (.int .u32 (n : Int)) := hr.cell rfl
      clear hr e0
      go_simp
      exact hK _ α _ (fun _ _ => rfl) rfl (step_same (st9) hL hcl rfl rfl hG)
    · intro L9 α a9 u9 K9 hL hcl hA hG hS h0 hK
      replace hL : L9 12 = false := hL
      have q35 : a9.tmps[35]? = some (.agg #[.int .u32 src, .int .u32 (n : Int)]) := hS 11 35 (by decide) rfl (by show 35 < 48; decide)
      have s35 := Rega.eval_of q35
      go_simp
      exact hK _ (fun j => if j = 12 then u9.heap.size else α j) _ (fun j hj => if_neg (fun e => hj (by rw [e]))) rfl (step_alloc (st9) hL hcl rfl rfl (by decide) _ rfl hG)
    · intro L9 α a9 u9 K9 hL hcl hA hG hS h0 hK
      replace hL : L9 13 = false := hL
      have q34 : a9.tmps[34]? = some (.slice (some ⟨gb, 0, none⟩) g (g + cg)) := hS 10 34 (by decide) rfl (by show 34 < 48; decide)
      have s34 := Rega.eval_of q34
      have q36 : a9.tmps[36]? = some (.slice (some ⟨α 12, 0, none⟩) 1 1) := hS 12 36 (by decide) rfl (by show 36 < 48; decide)
      have s36 := Rega.eval_of q36
      simp only [Region.wanted, if_true]
      have e0 : R9 L9 α 3999 = row (gb) 33 (full refZ TG cg) := by
        show r4L113T3999 pb PC n src ms MC m gb TG cg g nd4 nd5 nd6 nd9 nd10 L9 α = _
        unfold r4L113T3999
        rw [if_neg (by rw [hL]; decide)]
      have e1 : R9 L9 α 12 = row (α 12) 33 #[.int .u32 src, .int .u32 (n : Int)] := rfl
      have hM : ∀ i, i ∈ [3999, 12] → act r4L113Cnt 4 L9 i := by
        intro i hi
        simp only [List.mem_cons, List.not_mem_nil, or_false] at hi
        rcases hi with rfl | rfl
        · exact act_base 3999 rfl
        · exact act_new 12 rfl (hA 12 (by decide))
      have hP : Own w0 u9 [row (gb) 33 (full refZ TG cg), row (α 12) 33 #[.int .u32 src, .int .u32 (n : Int)]] _ := (hG.pick [3999, 12] (by decide) hM).conv (by
        show [R9 L9 α 3999, R9 L9 α 12] = _
        rw [e0, e1])
      clear e0 e1 hM
      obtain ⟨i9, hi9, z1, z2, z3⟩ := info_parts infoRef
      refine wp_append_full (Operand.tmp 34) (Operand.tmp 36) 29 rfl 33 i9 (.agg refZ) 2 8 Tryd.underlying29 hi9 z1 z2 z3 rfl (by decide) hP s34 s36 (by first | rfl | assumption | (simp; done) | (simp; omega)) (by first | rfl | assumption | omega) rfl (oneAll rfl) (by first | decide | omega | (unfold maxLen; omega)) (by first | decide | omega | (unfold maxLen; omega)) ?_
      intro b0 b1 u1 hQ
      obtain ⟨α', hα'⟩ : ∃ α' : Rega.Atoms, α' = (fun j => if j = 13 then b0 else if j = 1013 then b1 else α j) := ⟨_, rfl⟩
      have f0 : R9 (Rega.ran L9 13) α' 3999 = row (α' 13) 33 (full refZ (TG ++ [.int .u32 src, .int .u32 (n : Int)]) (α' 1013)) := by
        show r4L113T3999 pb PC n src ms MC m gb TG cg g nd4 nd5 nd6 nd9 nd10 (Rega.ran L9 13) α' = _
        unfold r4L113T3999
        rw [if_pos (show Rega.ran L9 13 13 = true from rfl)]
      have f1 : R9 (Rega.ran L9 13) α' 12 = row (α' 12) 33 #[.int .u32 src, .int .u32 (n : Int)] := rfl
      have hα : ∀ j, j % 1000 ≠ 13 → α' j = α j := fun j hj => by rw [hα']; simp only []; rw [if_neg (by omega), if_neg (by omega)]
      have hb0 : α' 13 = b0 := by rw [hα']; rfl
      have hb1 : α' 1013 = b1 := by rw [hα']; rfl
      have ha12 : α' 12 = α 12 := hα 12 (by decide)
      refine hK _ α' _ hα ?_ (step_call (st9) hL hcl hα [3999, 12] [3999, 12] (by decide) (by decide) (by decide) (M := _) ?_ hG hQ)
      · show _ = (.slice (some ⟨α' 13, 0, none⟩) (g + 1) (g + 1 + α' 1013) : Value)
        simp only [hb0, hb1]
      · show [R9 (Rega.ran L9 13) α' 3999, R9 (Rega.ran L9 13) α' 12] = _
        rw [f0, f1]
        simp only [hb0, hb1, ha12]
        try rfl
    · intro L9 α a9 u9 K9 hL hcl hA hG hS h0 hK
      replace hL : L9 14 = false := hL
      have q27 : a9.tmps[27]? = some (.pointer (some ⟨ms, 0, none⟩)) := hS 3 27 (by decide) rfl (by show 27 < 48; decide)
      have s27 := Rega.eval_of q27
      go_simp
      exact hK _ α _ (fun _ _ => rfl) rfl (step_same (st9) hL hcl rfl rfl hG)
    · intro L9 α a9 u9 K9 hL hcl hA hG hS h0 hK
      replace hL : L9 15 = false := hL
      have q38 : a9.tmps[38]? = some (.pointer (some ⟨ms, 0, none⟩)) := hS 14 38 (by decide) rfl (by show 38 < 48; decide)
      have s38 := Rega.eval_of q38
      go_simp
      exact hK _ α _ (fun _ _ => rfl) rfl (step_same (st9) hL hcl rfl rfl hG)
    · intro L9 α a9 u9 K9 hL hcl hA hG hS h0 hK
      replace hL : L9 16 = false := hL
      have q39 : a9.tmps[39]? = some (.pointer (some ⟨ms, 5, none⟩)) := hS 15 39 (by decide) rfl (by show 39 < 48; decide)
      have s39 := Rega.eval_of q39
      have q37 : a9.tmps[37]? = some (.slice (some ⟨α 13, 0, none⟩) (g + 1) (g + 1 + α 1013)) := hS 13 37 (by decide) rfl (by show 37 < 48; decide)
      have s37 := Rega.eval_of q37
      have e0 : R9 L9 α 2999 = row (ms) 38 MC := by
        show r4L113T2999 pb PC n src ms MC m gb TG cg g nd4 nd5 nd6 nd9 nd10 L9 α = _
        unfold r4L113T2999
        rw [if_neg (by rw [hL]; decide)]
      have hr := hG.rowAt 2999 (act_base 2999 rfl) e0
      have c0 : u9.cell? ⟨ms, 5, none⟩ = some (.slice (some ⟨gb, 0, none⟩) g (g + cg)) := hr.cell (hgen)
      have y0 : u9.frozen? ⟨ms, 5, none⟩ = false := hr.free (5)
      clear hr
      have E0 := Lib.hid e0
      clear e0
      go_simp
      have e1 : R9 (Rega.ran L9 16) α 2999 = row (ms) 38 (MC.setIfInBounds 5 (.slice (some ⟨α 13, 0, none⟩) (g + 1) (g + 1 + α 1013))) := by
        show r4L113T2999 pb PC n src ms MC m gb TG cg g nd4 nd5 nd6 nd9 nd10 (Rega.ran L9 16) α = _
        unfold r4L113T2999
        rw [if_pos (show Rega.ran L9 16 16 = true from rfl)]
      exact hK _ α _ (fun _ _ => rfl) rfl (step_sets (st9) hL hcl rfl 2999 rfl (act_base 2999 rfl) E0.out (5) [.slice (some ⟨α 13, 0, none⟩) (g + 1) (g + 1 + α 1013)] (e1.trans rfl) hG)
  clear st9
  intro α u hG
  have e0 : R9 (fun k => decide (k < 17)) α 999 = row (pb) 176 ((PC.setIfInBounds 106 (.slice (some ⟨nd4, 0, none⟩) (n + 1) (n + 1 + (nd6)))).setIfInBounds 200 (.slice (some ⟨nd9, 0, none⟩) (m + 1) (m + 1 + nd10))) := rfl
  have e1 : R9 (fun k => decide (k < 17)) α 1999 = row (nd5) 33 #[.int .u32 src, .int .u32 (n : Int)] := rfl
  have e2 : R9 (fun k => decide (k < 17)) α 2999 = row (ms) 38 (MC.setIfInBounds 5 (.slice (some ⟨α 13, 0, none⟩) (g + 1) (g + 1 + α 1013))) := by
    show r4L113T2999 pb PC n src ms MC m gb TG cg g nd4 nd5 nd6 nd9 nd10 (fun k => decide (k < 17)) α = _
    unfold r4L113T2999
    rw [if_pos (by decide)]
  have e3 : R9 (fun k => decide (k < 17)) α 3999 = row (α 13) 33 (full refZ (TG ++ [.int .u32 src, .int .u32 (n : Int)]) (α 1013)) := by
    show r4L113T3999 pb PC n src ms MC m gb TG cg g nd4 nd5 nd6 nd9 nd10 (fun k => decide (k < 17)) α = _
    unfold r4L113T3999
    rw [if_pos (by decide)]
  have e4 : R9 (fun k => decide (k < 17)) α 12 = row (α 12) 33 #[.int .u32 src, .int .u32 (n : Int)] := rfl
  have hO : Own w0 u [row (pb) 176 ((PC.setIfInBounds 106 (.slice (some ⟨nd4, 0, none⟩) (n + 1) (n + 1 + (nd6)))).setIfInBounds 200 (.slice (some ⟨nd9, 0, none⟩) (m + 1) (m + 1 + nd10))), row (nd5) 33 #[.int .u32 src, .int .u32 (n : Int)], row (ms) 38 (MC.setIfInBounds 5 (.slice (some ⟨α 13, 0, none⟩) (g + 1) (g + 1 + α 1013))), row (α 13) 33 (full refZ (TG ++ [.int .u32 src, .int .u32 (n : Int)]) (α 1013)), row (α 12) 33 #[.int .u32 src, .int .u32 (n : Int)]] X9_11 := (hG.list [999, 1999, 2999, 3999, 12] (by decide) (act_all (by decide))).conv (by
    show [R9 (fun k => decide (k < 17)) α 999, R9 (fun k => decide (k < 17)) α 1999, R9 (fun k => decide (k < 17)) α 2999, R9 (fun k => decide (k < 17)) α 3999, R9 (fun k => decide (k < 17)) α 12] = _
    rw [e0, e1, e2, e3, e4])
  clear hG e0 e1 e2 e3 e4 R9
  generalize hfr : Rega.frameAt _ _ _ _ _ = fr
  have hdf : fr = ⟨#[.pointer (some ⟨pb, 0, none⟩), undef, .pointer (some ⟨B1, 0, none⟩), .pointer (some ⟨nd5, 0, none⟩), .pointer (some ⟨pb, 0, none⟩), .agg #[.string ⟨#[97, 98, 99, 100, 101, 102, 103, 104, 105, 106, 107, 108, 109, 110, 111, 112, 113, 114, 115, 116, 117, 118, 119, 120, 121, 122, 65, 66, 67, 68, 69, 70, 71, 72, 73, 74, 75, 76, 77, 78, 79, 80, 81, 82, 83, 84, 85, 86, 87, 88, 89, 90, 95, 36]⟩, .string ⟨#[97, 98, 99, 100, 101, 102, 103, 104, 105, 106, 107, 108, 109, 110, 111, 112, 113, 114, 115, 116, 117, 118, 119, 120, 121, 122, 65, 66, 67, 68, 69, 70, 71, 72, 73, 74, 75, 76, 77, 78, 79, 80, 81, 82, 83, 84, 85, 86, 87, 88, 89, 90, 48, 49, 50, 51, 52, 53, 54, 55, 56, 57, 95, 36]⟩], .pointer (some ⟨pb, 0, none⟩), .pointer (some ⟨pb, 0, none⟩), .pointer (some ⟨pb, 288, none⟩), .int .i64 (i : Int), .string (nmB i), .string (tn i), .agg #[.int .u32 src, .int .u32 (n : Int)], .pointer (some ⟨pb, 0, none⟩), .pointer (some ⟨pb, 0, none⟩), .pointer (some ⟨pb, 0, none⟩), .pointer (some ⟨pb, 200, none⟩), .slice (some ⟨qb, 0, none⟩) m (m + cq), .agg #[.int .u32 src, .int .u32 (n : Int)], .agg #[.nilIface, .int .i32 0, .int .u32 src, .int .u32 (n : Int)], .slice (some ⟨nd8, 0, none⟩) 1 1, .slice (some ⟨nd9, 0, none⟩) (m + 1) (m + 1 + nd10), .pointer (some ⟨pb, 0, none⟩), .pointer (some ⟨pb, 200, none⟩), .pointer (some ⟨pb, 0, none⟩), .pointer (some ⟨pb, 0, none⟩), .pointer (some ⟨pb, 187, none⟩), .pointer (some ⟨ms, 0, none⟩), .pointer (some ⟨pb, 0, none⟩), .pointer (some ⟨pb, 0, none⟩), .pointer (some ⟨pb, 187, none⟩), .pointer (some ⟨ms, 0, none⟩), .pointer (some ⟨ms, 0, none⟩), .pointer (some ⟨ms, 5, none⟩), .slice (some ⟨gb, 0, none⟩) g (g + cg), .agg #[.int .u32 src, .int .u32 (n : Int)], .slice (some ⟨α 12, 0, none⟩) 1 1, .slice (some ⟨α 13, 0, none⟩) (g + 1) (g + 1 + α 1013), .pointer (some ⟨ms, 0, none⟩), .pointer (some ⟨ms, 5, none⟩), undef, undef, undef, undef, undef, undef, undef, undef], []⟩ := by rw [← hfr]; kernel_rfl
  clear hfr
  subst hdf
  generalize α 12 = nd12 at hO ⊢
  generalize α 13 = nd13 at hO ⊢
  generalize α 1013 = nd14 at hO ⊢
  clear α
  subst hX9_11
  have hN : Own w0 u [row (pb) 176 ((PC.setIfInBounds 106 (.slice (some ⟨nd4, 0, none⟩) (n + 1) (n + 1 + (nd6)))).setIfInBounds 200 (.slice (some ⟨nd9, 0, none⟩) (m + 1) (m + 1 + nd10))), row (nd5) 33 #[.int .u32 src, .int .u32 (n : Int)], row (ms) 38 (MC.setIfInBounds 5 (.slice (some ⟨nd13, 0, none⟩) (g + 1) (g + 1 + nd14))), row (nd13) 33 (full refZ (TG ++ [.int .u32 src, .int .u32 (n : Int)]) (nd14)), row (nd12) 33 #[.int .u32 src, .int .u32 (n : Int)], row (nd9) 185 (full trfZ (TQ ++ [.nilIface, .int .i32 0, .int .u32 src, .int .u32 (n : Int)]) (nd10)), row (nd8) 185 #[.nilIface, .int .i32 0, .int .u32 src, .int .u32 (n : Int)], row (nd4) 183 (full symZ (symL (st ++ [syk (tn i) 27])) (nd6)), row (B1) 33 #[.int .u32 0, .int .u32 0]] X := hO.back HL.out HX.out [2, 3, 4, 5] (by decide) (by decide)
  clear hO HL HX
  have hO := hN
  clear hN
  obtain ⟨ix9, hix9, hax9, hjx9⟩ := hO.ix
  have ix9_0 : ix9 pb = 0 := hjx9 0 _ _ rfl
  have ix9_1 : ix9 nd5 = 1 := hjx9 1 _ _ rfl
  have ix9_2 : ix9 ms = 2 := hjx9 2 _ _ rfl
  have ix9_3 : ix9 nd13 = 3 := hjx9 3 _ _ rfl
  have ix9_4 : ix9 nd12 = 4 := hjx9 4 _ _ rfl
  have ix9_5 : ix9 nd9 = 5 := hjx9 5 _ _ rfl
  have ix9_6 : ix9 nd8 = 6 := hjx9 6 _ _ rfl
  have ix9_7 : ix9 nd4 = 7 := hjx9 7 _ _ rfl
  have ix9_8 : ix9 B1 = 8 := hjx9 8 _ _ rfl
  clear hjx9
  have c9_0_32 : u.cell? ⟨pb, 32, none⟩ = some (.bool false) := hO.cell 0 rfl (32) ((get_other (get_other hk32 (by omega) _) (by omega) _))
  have c9_0_66 : u.cell? ⟨pb, 66, none⟩ = some (.int .u32 src) := hO.cell 0 rfl (66) ((get_other (get_other hk66 (by omega) _) (by omega) _))
  have c9_0_106 : u.cell? ⟨pb, 106, none⟩ = some (.slice (some ⟨nd4, 0, none⟩) (n + 1) (n + 1 + (nd6))) := hO.cell 0 rfl (106) ((get_other (get_set hk106 _) (by omega) _))
  have c9_0_187 : u.cell? ⟨pb, 187, none⟩ = some (.pointer (some ⟨ms, 0, none⟩)) := hO.cell 0 rfl (187) ((get_other (get_other hk187 (by omega) _) (by omega) _))
  have c9_0_200 : u.cell? ⟨pb, 200, none⟩ = some (.slice (some ⟨nd9, 0, none⟩) (m + 1) (m + 1 + nd10)) := hO.cell 0 rfl (200) ((get_set (get_other hk200 (by omega) _) _))
  have c9_0_288 : u.cell? ⟨pb, 288, none⟩ = some (.int .i64 (i : Int)) := hO.cell 0 rfl (288) ((get_other (get_other hk288 (by omega) _) (by omega) _))
  have lt9_0 : pb < u.heap.size := hO.lt 0 rfl
  have y9_0 : ∀ o, u.frozen? ⟨pb, o, none⟩ = false := hO.free 0 rfl
  obtain ⟨c9_1_0, c9_1_1, lt9_1, y9_1, pl9_1⟩ := hO.k2 1 rfl
  have c9_2_5 : u.cell? ⟨ms, 5, none⟩ = some (.slice (some ⟨nd13, 0, none⟩) (g + 1) (g + 1 + nd14)) := hO.cell 2 rfl (5) ((get_set hgen _))
  have lt9_2 : ms < u.heap.size := hO.lt 2 rfl
  have y9_2 : ∀ o, u.frozen? ⟨ms, o, none⟩ = false := hO.free 2 rfl
  have pl9_3 : Base.plainAt u (nd13) = true := hO.plain 3 rfl
  obtain ⟨c9_4_0, c9_4_1, lt9_4, y9_4, pl9_4⟩ := hO.k2 4 rfl
  have pl9_5 : Base.plainAt u (nd9) = true := hO.plain 5 rfl
  obtain ⟨c9_6_0, c9_6_1, c9_6_2, c9_6_3, lt9_6, y9_6, pl9_6⟩ := hO.k4 6 rfl
  obtain ⟨c9_8_0, c9_8_1, lt9_8, y9_8, pl9_8⟩ := hO.k2 8 rfl
  have HO := Lib.hid hO
  clear hO
  go_wp2_with (first | (with_reducible refine Own.stay (fn := Tryd.f23) ?_) | fail)
  try with_reducible refine Own.Stay.mk ?_
  have hO := HO.out
  clear HO hix9 hax9 ix9_0 ix9_1 ix9_2 ix9_3 ix9_4 ix9_5 ix9_6 ix9_7 ix9_8 ix9 c9_0_32 c9_0_66 c9_0_106 c9_0_187 c9_0_200 c9_0_288 lt9_0 y9_0 c9_1_0 c9_1_1 lt9_1 y9_1 pl9_1 c9_2_5 lt9_2 y9_2 pl9_3 c9_4_0 c9_4_1 lt9_4 y9_4 pl9_4 pl9_5 c9_6_0 c9_6_1 c9_6_2 c9_6_3 lt9_6 y9_6 pl9_6 c9_8_0 c9_8_1 lt9_8 y9_8 pl9_8
  generalize hW : World.setCell _ _ _ = W16
  have hN : Own w0 W16 [row (pb) 176 (((PC.setIfInBounds 106 (.slice (some ⟨nd4, 0, none⟩) (n + 1) (n + 1 + (nd6)))).setIfInBounds 200 (.slice (some ⟨nd9, 0, none⟩) (m + 1) (m + 1 + nd10))).setIfInBounds 288 (.int .i64 ((i : Int) + 1))), row (nd5) 33 #[.int .u32 src, .int .u32 (n : Int)], row (ms) 38 (MC.setIfInBounds 5 (.slice (some ⟨nd13, 0, none⟩) (g + 1) (g + 1 + nd14))), row (nd13) 33 (full refZ (TG ++ [.int .u32 src, .int .u32 (n : Int)]) (nd14)), row (nd12) 33 #[.int .u32 src, .int .u32 (n : Int)], row (nd9) 185 (full trfZ (TQ ++ [.nilIface, .int .i32 0, .int .u32 src, .int .u32 (n : Int)]) (nd10)), row (nd8) 185 #[.nilIface, .int .i32 0, .int .u32 src, .int .u32 (n : Int)], row (nd4) 183 (full symZ (symL (st ++ [syk (tn i) 27])) (nd6)), row (B1) 33 #[.int .u32 src, .int .u32 (n : Int)]] X := by
    rw [← hW]
    exact (((hO).set 0 rfl 288 _).set 8 rfl 0 _).set 8 rfl 1 _
  clear hW hO
  have hO := hN
  clear hN
  have z9_8_0 : W16.cell? ⟨B1, 0, none⟩ = some (.int .u32 src) := hO.cell 8 rfl 0 rfl
  have z9_8_1 : W16.cell? ⟨B1, 1, none⟩ = some (.int .u32 (n : Int)) := hO.cell 8 rfl 1 rfl
  refine bodyPost_ret (v := .agg #[.int .u32 src, .int .u32 (n : Int)]) ?_ rfl ⟨nd4, nd6, nd9, nd10, nd13, nd14, rfl, hO.sub [0, 7, 2, 5, 3] (by decide)⟩
  simp [results, Tryd.results23, go_sem, z9_8_0, z9_8_1]
end Go.Proofs.YtkmojepgbbdeiaaDoor.Use
