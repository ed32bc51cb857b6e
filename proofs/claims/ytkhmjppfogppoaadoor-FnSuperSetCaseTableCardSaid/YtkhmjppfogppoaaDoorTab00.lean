/- The law on a super property set, walked: one of four cases. No condition. -/
import Derived.Test.YtkhmjppfogppoaaDoorKit
import Derived.Test.YtkhmjppfogppoaaDoorNew
import Derived.Test.YtkhmjppfogppoaaDoorDSetF0
import Derived.Test.YtkhmjppfogppoaaDoorSetF0
import Derived.Test.YtkhmjppfogppoaaDoorLoop
import Derived.Test.YtkhmjppfogppoaaDoorLive
import Derived.Test.YtkhmjppfogppoaaDoorApp
import Derived.Test.YtkhmjppfogppoaaDoorOwnK
import Derived.Test.YtkhmjppfogppoaaDoorOwn
import Derived.Test.YtkhmjppfogppoaaDoorDeepCells
import Derived.Test.YtkhmjppfogppoaaDoorRows
import Derived.Test.YtkhmjppfogppoaaDoorUse
namespace Go.Proofs.YtkhmjppfogppoaaDoor.Use
open Go.ChangeShapes Go.WideShapes Go.ChangeAt Go.RowKit Go.Sort Own
set_option linter.unusedVariables false
noncomputable def rlaw17ni1E (B1 : Nat) : Nat → Rega.Atoms → Value
  | 0, α => .slice (some ⟨α 0, 0, none⟩) 1 1
  | 1, α => .agg #[.int .u32 0, .int .u32 0]
  | 2, α => .bool false
  | 3, α => .bool false
  | 4, α => .pointer (some ⟨α 4, 0, none⟩)
  | 5, α => .pointer (some ⟨α 4, 0, none⟩)
  | _, _ => undef
noncomputable def rlaw17ni1Anc : Nat → List Nat
  | 4 => [0, 1, 2, 3]
  | 5 => [0, 1, 2, 3, 4]
  | _ => []
noncomputable def rlaw17ni1Trn : Nat → List Nat
  | _ => []
noncomputable def rlaw17ni1Cnt : List (Nat × Nat) := [(0, 1), (4, 4)]
noncomputable def rlaw17ni1R (B1 : Nat) (L9 : Nat → Bool) (α : Rega.Atoms) (ix9 : Nat) : Rw := if ix9 = 999 then row (B1) 25 #[.int .u32 0, .int .u32 0] else if ix9 = 0 then row (α 0) 56 (full symZ (symL ([sy ⟨#[70, 111, 111]⟩ 0])) 0) else if ix9 = 4 then row (α 4) 193 (newSfftP (α 0) (α 1004) (α 2004) (α 3004)) else if ix9 = 1004 then ((α 1004, .map #[] 0) : Rw) else if ix9 = 2004 then row (α 2004) 203 #[.pointer none, .pointer none, .slice none 0 0, .map none, .slice none 0 0, .slice none 0 0, .int .i32 0, .int .i32 0, .int .u32 0, .int .u32 0, .bool false, .bool false, .bool false, .bool false, .int .u8 0, .int .u8 6] else if ix9 = 3004 then row (α 3004) 25 #[.int .u32 0, .int .u32 0] else (0, .map #[] 0)
theorem rlaw17ni1_he (B1 : Nat) : ∀ kk α α', (∀ j, (j % 1000 = kk ∨ j % 1000 ∈ rlaw17ni1Anc kk) → α j = α' j) → rlaw17ni1E B1 kk α = rlaw17ni1E B1 kk α' := by
  intro kk α α' h
  match kk with
  | 0 => simp only [rlaw17ni1E, h 0 (Or.inl rfl)]
  | 1 => rfl
  | 2 => rfl
  | 3 => rfl
  | 4 => simp only [rlaw17ni1E, h 4 (Or.inl rfl)]
  | 5 => simp only [rlaw17ni1E, h 4 (Or.inr (by decide))]
  | n + 6 => rfl
theorem rlaw17ni1_st (B1 : Nat) : Stable rlaw17ni1Cnt 1 rlaw17ni1Anc rlaw17ni1Trn (rlaw17ni1R B1) := by
  intro k9 L9 α α' ix9 hk hcl hα hact ht
  have hp := act_places hact
  replace hp : ix9 ∈ [999, 0, 4, 1004, 2004, 3004] := hp
  simp only [List.mem_cons, List.not_mem_nil, or_false] at hp
  rcases hp with rfl | rfl | rfl | rfl | rfl | rfl
  · rfl
  · have e0 : L9 0 = true := act_lt hact (by decide)
    show row (α' 0) 56 (full symZ (symL ([sy ⟨#[70, 111, 111]⟩ 0])) 0) = row (α 0) 56 (full symZ (symL ([sy ⟨#[70, 111, 111]⟩ 0])) 0)
    simp only [hα 0 (ne_ran hk e0)]
  · have e0 : L9 4 = true := act_lt hact (by decide)
    show row (α' 4) 193 (newSfftP (α' 0) (α' 1004) (α' 2004) (α' 3004)) = row (α 4) 193 (newSfftP (α 0) (α 1004) (α 2004) (α 3004))
    simp only [hα 0 (ne_ran hk (hcl 4 e0 0 (by decide))), hα 4 (ne_ran hk e0), hα 1004 (ne_ran hk e0), hα 2004 (ne_ran hk e0), hα 3004 (ne_ran hk e0)]
  · have e0 : L9 4 = true := act_lt hact (by decide)
    show ((α' 1004, .map #[] 0) : Rw) = ((α 1004, .map #[] 0) : Rw)
    simp only [hα 1004 (ne_ran hk e0)]
  · have e0 : L9 4 = true := act_lt hact (by decide)
    show row (α' 2004) 203 #[.pointer none, .pointer none, .slice none 0 0, .map none, .slice none 0 0, .slice none 0 0, .int .i32 0, .int .i32 0, .int .u32 0, .int .u32 0, .bool false, .bool false, .bool false, .bool false, .int .u8 0, .int .u8 6] = row (α 2004) 203 #[.pointer none, .pointer none, .slice none 0 0, .map none, .slice none 0 0, .slice none 0 0, .int .i32 0, .int .i32 0, .int .u32 0, .int .u32 0, .bool false, .bool false, .bool false, .bool false, .int .u8 0, .int .u8 6]
    simp only [hα 2004 (ne_ran hk e0)]
  · have e0 : L9 4 = true := act_lt hact (by decide)
    show row (α' 3004) 25 #[.int .u32 0, .int .u32 0] = row (α 3004) 25 #[.int .u32 0, .int .u32 0]
    simp only [hα 3004 (ne_ran hk e0)]
noncomputable def rlaw17ni3E (loc : Int) (key : ByteArray) (vm : Int) (nd3 : Nat) (nd4 : Nat) (nd5 : Nat) (nd6 : Nat) (nd7 : Nat) (B8 : Nat) (B12 : Nat) : Nat → Rega.Atoms → Value
  | 0, α => .pointer (some ⟨nd4, 0, none⟩)
  | 1, α => .agg #[.int .i32 loc]
  | 2, α => .int .i32 loc
  | 3, α => .string key
  | 4, α => .slice (some ⟨α 4, 0, none⟩) key.size key.size
  | 5, α => .agg #[.iface 206 (.pointer (some ⟨α 5, 0, none⟩)), .int .i32 loc]
  | 6, α => .int .i32 loc
  | 7, α => .agg #[.int .u32 3, .int .u32 vm]
  | 8, α => .agg #[.iface 209 (.pointer (some ⟨α 8, 0, none⟩)), .int .i32 loc]
  | 9, α => .agg #[.iface 65 (.pointer (some ⟨α 9, 0, none⟩)), .int .i32 loc]
  | 10, α => .pointer (some ⟨α 10, 0, none⟩)
  | 11, α => undef
  | _, _ => undef
noncomputable def rlaw17ni3Anc : Nat → List Nat
  | 4 => [3]
  | 5 => [2, 3, 4]
  | 8 => [2, 3, 4, 5, 6, 7]
  | 9 => [0, 1, 2, 3, 4, 5, 6, 7, 8]
  | 11 => [0, 1, 2, 3, 4, 5, 6, 7, 8, 9, 10]
  | _ => []
noncomputable def rlaw17ni3Trn : Nat → List Nat
  | 9 => [3999, 2999, 4999, 5999]
  | 11 => [10]
  | _ => []
noncomputable def rlaw17ni3Cnt : List (Nat × Nat) := [(4, 1), (5, 1), (8, 1), (9, 7), (10, 1)]
noncomputable def rlaw17ni3T2999 (loc : Int) (key : ByteArray) (vm : Int) (nd3 : Nat) (nd4 : Nat) (nd5 : Nat) (nd6 : Nat) (nd7 : Nat) (B8 : Nat) (B12 : Nat) (L9 : Nat → Bool) (α : Rega.Atoms) : Rw := if L9 9 = true then row (α 7009) 56 (full symZ (symL ([sy ⟨#[70, 111, 111]⟩ 1, sy ⟨#[95, 95, 115, 117, 112, 101, 114, 83, 101, 116]⟩ 1])) (α 8009)) else row (nd3) 56 (full symZ (symL ([sy ⟨#[70, 111, 111]⟩ 0])) 0)
noncomputable def rlaw17ni3T3999 (loc : Int) (key : ByteArray) (vm : Int) (nd3 : Nat) (nd4 : Nat) (nd5 : Nat) (nd6 : Nat) (nd7 : Nat) (B8 : Nat) (B12 : Nat) (L9 : Nat → Bool) (α : Rega.Atoms) : Rw := if L9 9 = true then row (nd4) 193 ((newSfftP nd3 nd5 nd6 nd7).setIfInBounds 106 (.slice (some ⟨α 7009, 0, none⟩) 2 (2 + (α 8009)))) else row (nd4) 193 (newSfftP (nd3) (nd5) (nd6) (nd7))
noncomputable def rlaw17ni3T4999 (loc : Int) (key : ByteArray) (vm : Int) (nd3 : Nat) (nd4 : Nat) (nd5 : Nat) (nd6 : Nat) (nd7 : Nat) (B8 : Nat) (B12 : Nat) (L9 : Nat → Bool) (α : Rega.Atoms) : Rw := if L9 9 = true then ((nd5, .map #[⟨.string ⟨#[95, 95, 115, 117, 112, 101, 114, 83, 101, 116]⟩, .agg #[.int .i32 loc, .int .u32 0, .int .u32 1], 0⟩] 1) : Rw) else ((nd5, .map #[] 0) : Rw)
noncomputable def rlaw17ni3T5999 (loc : Int) (key : ByteArray) (vm : Int) (nd3 : Nat) (nd4 : Nat) (nd5 : Nat) (nd6 : Nat) (nd7 : Nat) (B8 : Nat) (B12 : Nat) (L9 : Nat → Bool) (α : Rega.Atoms) : Rw := if L9 9 = true then row (nd6) 203 (#[.pointer none, .pointer none, .slice none 0 0, .map none, .slice none 0 0, .slice none 0 0, .int .i32 0, .int .i32 0, .int .u32 0, .int .u32 0, .bool false, .bool false, .bool false, .bool false, .int .u8 0, .int .u8 6].setIfInBounds 5 (.slice (some ⟨α 6009, 0, none⟩) 1 (1 + (α 9009)))) else row (nd6) 203 #[.pointer none, .pointer none, .slice none 0 0, .map none, .slice none 0 0, .slice none 0 0, .int .i32 0, .int .i32 0, .int .u32 0, .int .u32 0, .bool false, .bool false, .bool false, .bool false, .int .u8 0, .int .u8 6]
noncomputable def rlaw17ni3T10 (loc : Int) (key : ByteArray) (vm : Int) (nd3 : Nat) (nd4 : Nat) (nd5 : Nat) (nd6 : Nat) (nd7 : Nat) (B8 : Nat) (B12 : Nat) (L9 : Nat → Bool) (α : Rega.Atoms) : Rw := if L9 11 = true then row (α 10) 35 #[.iface 65 (.pointer (some ⟨α 9, 0, none⟩)), .int .i32 loc] else row (α 10) 35 #[.nilIface, .int .i32 0]
noncomputable def rlaw17ni3R (loc : Int) (key : ByteArray) (vm : Int) (nd3 : Nat) (nd4 : Nat) (nd5 : Nat) (nd6 : Nat) (nd7 : Nat) (B8 : Nat) (B12 : Nat) (L9 : Nat → Bool) (α : Rega.Atoms) (ix9 : Nat) : Rw := if ix9 = 999 then row (B12) 25 #[.int .u32 3, .int .u32 vm] else if ix9 = 1999 then row (B8) 31 #[.int .i32 loc] else if ix9 = 2999 then rlaw17ni3T2999 loc key vm nd3 nd4 nd5 nd6 nd7 B8 B12 L9 α else if ix9 = 3999 then rlaw17ni3T3999 loc key vm nd3 nd4 nd5 nd6 nd7 B8 B12 L9 α else if ix9 = 4999 then rlaw17ni3T4999 loc key vm nd3 nd4 nd5 nd6 nd7 B8 B12 L9 α else if ix9 = 5999 then rlaw17ni3T5999 loc key vm nd3 nd4 nd5 nd6 nd7 B8 B12 L9 α else if ix9 = 6999 then row (nd7) 25 #[.int .u32 0, .int .u32 0] else if ix9 = 4 then row (α 4) 51 (units key) else if ix9 = 5 then row (α 5) 208 #[.slice (some ⟨α 4, 0, none⟩) key.size key.size, .int .i32 0, .bool false, .bool false, .bool false] else if ix9 = 8 then row (α 8) 211 #[.int .u32 3, .int .u32 vm, .bool false, .bool false, .bool false] else if ix9 = 9 then row (α 9) 71 #[.iface 209 (.pointer (some ⟨α 1009, 0, none⟩)), .int .i32 loc, .slice (some ⟨α 2009, 0, none⟩) 4 4, .int .i32 0, .int .u8 0, .int .u8 0, .bool false, .bool false] else if ix9 = 1009 then row (α 1009) 211 #[.int .u32 0, .int .u32 1, .bool false, .bool false, .bool false] else if ix9 = 2009 then row (α 2009) 35 #[.iface 225 (.pointer (some ⟨α 5009, 0, none⟩)), .int .i32 loc, .iface 237 (.pointer (some ⟨α 4009, 0, none⟩)), .int .i32 loc, .iface 206 (.pointer (some ⟨α 5, 0, none⟩)), .int .i32 loc, .iface 209 (.pointer (some ⟨α 8, 0, none⟩)), .int .i32 loc] else if ix9 = 3009 then row (α 3009) 211 #[.int .u32 0, .int .u32 0, .bool false, .bool false, .bool false] else if ix9 = 4009 then row (α 4009) 241 #[] else if ix9 = 5009 then row (α 5009) 228 #[.iface 209 (.pointer (some ⟨α 3009, 0, none⟩)), .int .i32 loc, .string ⟨#[112, 114, 111, 116, 111, 116, 121, 112, 101]⟩, .int .i32 loc, .int .u8 0, .bool false, .bool false, .bool false] else if ix9 = 6009 then row (α 6009) 25 (full refZ ([.int .u32 0, .int .u32 1]) (α 9009)) else if ix9 = 10 then rlaw17ni3T10 loc key vm nd3 nd4 nd5 nd6 nd7 B8 B12 L9 α else (0, .map #[] 0)
theorem rlaw17ni3_he (loc : Int) (key : ByteArray) (vm : Int) (nd3 : Nat) (nd4 : Nat) (nd5 : Nat) (nd6 : Nat) (nd7 : Nat) (B8 : Nat) (B12 : Nat) : ∀ kk α α', (∀ j, (j % 1000 = kk ∨ j % 1000 ∈ rlaw17ni3Anc kk) → α j = α' j) → rlaw17ni3E loc key vm nd3 nd4 nd5 nd6 nd7 B8 B12 kk α = rlaw17ni3E loc key vm nd3 nd4 nd5 nd6 nd7 B8 B12 kk α' := by
  intro kk α α' h
  match kk with
  | 0 => rfl
  | 1 => rfl
  | 2 => rfl
  | 3 => rfl
  | 4 => simp only [rlaw17ni3E, h 4 (Or.inl rfl)]
  | 5 => simp only [rlaw17ni3E, h 5 (Or.inl rfl)]
  | 6 => rfl
  | 7 => rfl
  | 8 => simp only [rlaw17ni3E, h 8 (Or.inl rfl)]
  | 9 => simp only [rlaw17ni3E, h 9 (Or.inl rfl)]
  | 10 => simp only [rlaw17ni3E, h 10 (Or.inl rfl)]
  | 11 => rfl
  | n + 12 => rfl
theorem rlaw17ni3_st (loc : Int) (key : ByteArray) (vm : Int) (nd3 : Nat) (nd4 : Nat) (nd5 : Nat) (nd6 : Nat) (nd7 : Nat) (B8 : Nat) (B12 : Nat) : Stable rlaw17ni3Cnt 7 rlaw17ni3Anc rlaw17ni3Trn (rlaw17ni3R loc key vm nd3 nd4 nd5 nd6 nd7 B8 B12) := by
  intro k9 L9 α α' ix9 hk hcl hα hact ht
  have hp := act_places hact
  replace hp : ix9 ∈ [999, 1999, 2999, 3999, 4999, 5999, 6999, 4, 5, 8, 9, 1009, 2009, 3009, 4009, 5009, 6009, 10] := hp
  simp only [List.mem_cons, List.not_mem_nil, or_false] at hp
  rcases hp with rfl | rfl | rfl | rfl | rfl | rfl | rfl | rfl | rfl | rfl | rfl | rfl | rfl | rfl | rfl | rfl | rfl | rfl
  · rfl
  · rfl
  · show rlaw17ni3T2999 loc key vm nd3 nd4 nd5 nd6 nd7 B8 B12 (Rega.ran L9 k9) α' = rlaw17ni3T2999 loc key vm nd3 nd4 nd5 nd6 nd7 B8 B12 L9 α
    unfold rlaw17ni3T2999
    have n9 : 9 ≠ k9 := fun e => ht (by rw [← e]; decide)
    rw [ran_ne n9]
    by_cases e9 : L9 9 = true
    · first | rw [if_pos e9, if_pos e9] | rw [if_pos e9]
      try simp only [hα 7009 (ne_ran hk e9), hα 8009 (ne_ran hk e9)]
    first | rw [if_neg e9, if_neg e9] | rw [if_neg e9]
  · show rlaw17ni3T3999 loc key vm nd3 nd4 nd5 nd6 nd7 B8 B12 (Rega.ran L9 k9) α' = rlaw17ni3T3999 loc key vm nd3 nd4 nd5 nd6 nd7 B8 B12 L9 α
    unfold rlaw17ni3T3999
    have n9 : 9 ≠ k9 := fun e => ht (by rw [← e]; decide)
    rw [ran_ne n9]
    by_cases e9 : L9 9 = true
    · first | rw [if_pos e9, if_pos e9] | rw [if_pos e9]
      try simp only [hα 7009 (ne_ran hk e9), hα 8009 (ne_ran hk e9)]
    first | rw [if_neg e9, if_neg e9] | rw [if_neg e9]
  · show rlaw17ni3T4999 loc key vm nd3 nd4 nd5 nd6 nd7 B8 B12 (Rega.ran L9 k9) α' = rlaw17ni3T4999 loc key vm nd3 nd4 nd5 nd6 nd7 B8 B12 L9 α
    unfold rlaw17ni3T4999
    have n9 : 9 ≠ k9 := fun e => ht (by rw [← e]; decide)
    rw [ran_ne n9]
  · show rlaw17ni3T5999 loc key vm nd3 nd4 nd5 nd6 nd7 B8 B12 (Rega.ran L9 k9) α' = rlaw17ni3T5999 loc key vm nd3 nd4 nd5 nd6 nd7 B8 B12 L9 α
    unfold rlaw17ni3T5999
    have n9 : 9 ≠ k9 := fun e => ht (by rw [← e]; decide)
    rw [ran_ne n9]
    by_cases e9 : L9 9 = true
    · first | rw [if_pos e9, if_pos e9] | rw [if_pos e9]
      try simp only [hα 6009 (ne_ran hk e9), hα 9009 (ne_ran hk e9)]
    first | rw [if_neg e9, if_neg e9] | rw [if_neg e9]
  · rfl
  · have e0 : L9 4 = true := act_lt hact (by decide)
    show row (α' 4) 51 (units key) = row (α 4) 51 (units key)
    simp only [hα 4 (ne_ran hk e0)]
  · have e0 : L9 5 = true := act_lt hact (by decide)
    show row (α' 5) 208 #[.slice (some ⟨α' 4, 0, none⟩) key.size key.size, .int .i32 0, .bool false, .bool false, .bool false] = row (α 5) 208 #[.slice (some ⟨α 4, 0, none⟩) key.size key.size, .int .i32 0, .bool false, .bool false, .bool false]
    simp only [hα 4 (ne_ran hk (hcl 5 e0 4 (by decide))), hα 5 (ne_ran hk e0)]
  · have e0 : L9 8 = true := act_lt hact (by decide)
    show row (α' 8) 211 #[.int .u32 3, .int .u32 vm, .bool false, .bool false, .bool false] = row (α 8) 211 #[.int .u32 3, .int .u32 vm, .bool false, .bool false, .bool false]
    simp only [hα 8 (ne_ran hk e0)]
  · have e0 : L9 9 = true := act_lt hact (by decide)
    show row (α' 9) 71 #[.iface 209 (.pointer (some ⟨α' 1009, 0, none⟩)), .int .i32 loc, .slice (some ⟨α' 2009, 0, none⟩) 4 4, .int .i32 0, .int .u8 0, .int .u8 0, .bool false, .bool false] = row (α 9) 71 #[.iface 209 (.pointer (some ⟨α 1009, 0, none⟩)), .int .i32 loc, .slice (some ⟨α 2009, 0, none⟩) 4 4, .int .i32 0, .int .u8 0, .int .u8 0, .bool false, .bool false]
    simp only [hα 9 (ne_ran hk e0), hα 1009 (ne_ran hk e0), hα 2009 (ne_ran hk e0)]
  · have e0 : L9 9 = true := act_lt hact (by decide)
    show row (α' 1009) 211 #[.int .u32 0, .int .u32 1, .bool false, .bool false, .bool false] = row (α 1009) 211 #[.int .u32 0, .int .u32 1, .bool false, .bool false, .bool false]
    simp only [hα 1009 (ne_ran hk e0)]
  · have e0 : L9 9 = true := act_lt hact (by decide)
    show row (α' 2009) 35 #[.iface 225 (.pointer (some ⟨α' 5009, 0, none⟩)), .int .i32 loc, .iface 237 (.pointer (some ⟨α' 4009, 0, none⟩)), .int .i32 loc, .iface 206 (.pointer (some ⟨α' 5, 0, none⟩)), .int .i32 loc, .iface 209 (.pointer (some ⟨α' 8, 0, none⟩)), .int .i32 loc] = row (α 2009) 35 #[.iface 225 (.pointer (some ⟨α 5009, 0, none⟩)), .int .i32 loc, .iface 237 (.pointer (some ⟨α 4009, 0, none⟩)), .int .i32 loc, .iface 206 (.pointer (some ⟨α 5, 0, none⟩)), .int .i32 loc, .iface 209 (.pointer (some ⟨α 8, 0, none⟩)), .int .i32 loc]
    simp only [hα 5 (ne_ran hk (hcl 9 e0 5 (by decide))), hα 8 (ne_ran hk (hcl 9 e0 8 (by decide))), hα 2009 (ne_ran hk e0), hα 4009 (ne_ran hk e0), hα 5009 (ne_ran hk e0)]
  · have e0 : L9 9 = true := act_lt hact (by decide)
    show row (α' 3009) 211 #[.int .u32 0, .int .u32 0, .bool false, .bool false, .bool false] = row (α 3009) 211 #[.int .u32 0, .int .u32 0, .bool false, .bool false, .bool false]
    simp only [hα 3009 (ne_ran hk e0)]
  · have e0 : L9 9 = true := act_lt hact (by decide)
    show row (α' 4009) 241 #[] = row (α 4009) 241 #[]
    simp only [hα 4009 (ne_ran hk e0)]
  · have e0 : L9 9 = true := act_lt hact (by decide)
    show row (α' 5009) 228 #[.iface 209 (.pointer (some ⟨α' 3009, 0, none⟩)), .int .i32 loc, .string ⟨#[112, 114, 111, 116, 111, 116, 121, 112, 101]⟩, .int .i32 loc, .int .u8 0, .bool false, .bool false, .bool false] = row (α 5009) 228 #[.iface 209 (.pointer (some ⟨α 3009, 0, none⟩)), .int .i32 loc, .string ⟨#[112, 114, 111, 116, 111, 116, 121, 112, 101]⟩, .int .i32 loc, .int .u8 0, .bool false, .bool false, .bool false]
    simp only [hα 3009 (ne_ran hk e0), hα 5009 (ne_ran hk e0)]
  · have e0 : L9 9 = true := act_lt hact (by decide)
    show row (α' 6009) 25 (full refZ ([.int .u32 0, .int .u32 1]) (α' 9009)) = row (α 6009) 25 (full refZ ([.int .u32 0, .int .u32 1]) (α 9009))
    simp only [hα 6009 (ne_ran hk e0), hα 9009 (ne_ran hk e0)]
  · have e0 : L9 10 = true := act_lt hact (by decide)
    show rlaw17ni3T10 loc key vm nd3 nd4 nd5 nd6 nd7 B8 B12 (Rega.ran L9 k9) α' = rlaw17ni3T10 loc key vm nd3 nd4 nd5 nd6 nd7 B8 B12 L9 α
    unfold rlaw17ni3T10
    have n11 : 11 ≠ k9 := fun e => ht (by rw [← e]; decide)
    rw [ran_ne n11]
    by_cases e11 : L9 11 = true
    · first | rw [if_pos e11, if_pos e11] | rw [if_pos e11]
      try simp only [hα 9 (ne_ran hk (hcl 11 e11 9 (by decide))), hα 10 (ne_ran hk (hcl 11 e11 10 (by decide)))]
    first | rw [if_neg e11, if_neg e11] | rw [if_neg e11]
    try simp only [hα 10 (ne_ran hk e0)]
noncomputable def rlaw17ni7E (loc : Int) (key : ByteArray) (B1 : Nat) (nd11 : Nat) (nd15 : Nat) (nd16 : Nat) (nd17 : Nat) (nd21 : Nat) (nd22 : Nat) (nd23 : Nat) (nd24 : Nat) : Nat → Rega.Atoms → Value
  | 0, α => .bool true
  | 1, α => .bool false
  | 2, α => .bool false
  | 3, α => .slice (some ⟨nd21, 0, none⟩) 4 4
  | 4, α => .pointer (some ⟨nd21, 0, none⟩)
  | 5, α => .agg #[.iface 225 (.pointer (some ⟨nd24, 0, none⟩)), .int .i32 loc]
  | 6, α => .agg #[.int .u32 0, .int .u32 0]
  | 7, α => .bool false
  | 8, α => .bool true
  | 9, α => .bool false
  | 10, α => .bool false
  | 11, α => .bool false
  | 12, α => .slice (some ⟨nd21, 0, none⟩) 4 4
  | 13, α => .pointer (some ⟨nd21, 2, none⟩)
  | 14, α => .agg #[.iface 237 (.pointer (some ⟨nd23, 0, none⟩)), .int .i32 loc]
  | 15, α => .agg #[.int .u32 0, .int .u32 0]
  | 16, α => .bool false
  | 17, α => .bool true
  | 18, α => .bool false
  | 19, α => .bool false
  | 20, α => .bool false
  | 21, α => .slice (some ⟨nd21, 0, none⟩) 4 4
  | 22, α => .pointer (some ⟨nd21, 4, none⟩)
  | 23, α => .agg #[.iface 206 (.pointer (some ⟨nd16, 0, none⟩)), .int .i32 loc]
  | 24, α => .slice (some ⟨nd11, 0, none⟩) key.size key.size
  | 25, α => .bool true
  | 26, α => .bool false
  | 27, α => .bool false
  | _, _ => undef
noncomputable def rlaw17ni7Anc : Nat → List Nat
  | 1 => [0]
  | 2 => [0, 1]
  | 3 => [0, 1, 2]
  | 4 => [0, 1, 2, 3]
  | 5 => [0, 1, 2, 3, 4]
  | 6 => [0, 1, 2]
  | 7 => [0, 1, 2]
  | 8 => [0, 1, 2, 3, 4, 5, 6, 7]
  | 9 => [0, 1, 2, 3, 4, 5, 6, 7, 8]
  | 10 => [0, 1, 2, 3, 4, 5, 6, 7, 8, 9]
  | 11 => [0, 1, 2, 3, 4, 5, 6, 7, 8, 9, 10]
  | 12 => [0, 1, 2, 3, 4, 5, 6, 7, 8, 9, 10, 11]
  | 13 => [0, 1, 2, 3, 4, 5, 6, 7, 8, 9, 10, 11, 12]
  | 14 => [0, 1, 2, 3, 4, 5, 6, 7, 8, 9, 10, 11, 12, 13]
  | 15 => [0, 1, 2, 3, 4, 5, 6, 7, 8, 9, 10, 11]
  | 16 => [0, 1, 2, 3, 4, 5, 6, 7, 8, 9, 10, 11]
  | 17 => [0, 1, 2, 3, 4, 5, 6, 7, 8, 9, 10, 11, 12, 13, 14, 15, 16]
  | 18 => [0, 1, 2, 3, 4, 5, 6, 7, 8, 9, 10, 11, 12, 13, 14, 15, 16, 17]
  | 19 => [0, 1, 2, 3, 4, 5, 6, 7, 8, 9, 10, 11, 12, 13, 14, 15, 16, 17, 18]
  | 20 => [0, 1, 2, 3, 4, 5, 6, 7, 8, 9, 10, 11, 12, 13, 14, 15, 16, 17, 18, 19]
  | 21 => [0, 1, 2, 3, 4, 5, 6, 7, 8, 9, 10, 11, 12, 13, 14, 15, 16, 17, 18, 19, 20]
  | 22 => [0, 1, 2, 3, 4, 5, 6, 7, 8, 9, 10, 11, 12, 13, 14, 15, 16, 17, 18, 19, 20, 21]
  | 23 => [0, 1, 2, 3, 4, 5, 6, 7, 8, 9, 10, 11, 12, 13, 14, 15, 16, 17, 18, 19, 20, 21, 22]
  | 24 => [0, 1, 2, 3, 4, 5, 6, 7, 8, 9, 10, 11, 12, 13, 14, 15, 16, 17, 18, 19, 20]
  | 25 => [0, 1, 2, 3, 4, 5, 6, 7, 8, 9, 10, 11, 12, 13, 14, 15, 16, 17, 18, 19, 20, 21, 22, 23, 24]
  | 26 => [0, 1, 2, 3, 4, 5, 6, 7, 8, 9, 10, 11, 12, 13, 14, 15, 16, 17, 18, 19, 20, 21, 22, 23, 24, 25]
  | 27 => [0, 1, 2, 3, 4, 5, 6, 7, 8, 9, 10, 11, 12, 13, 14, 15, 16, 17, 18, 19, 20, 21, 22, 23, 24, 25, 26]
  | _ => []
noncomputable def rlaw17ni7Trn : Nat → List Nat
  | _ => []
noncomputable def rlaw17ni7Cnt : List (Nat × Nat) := []
noncomputable def rlaw17ni7R (loc : Int) (key : ByteArray) (B1 : Nat) (nd11 : Nat) (nd15 : Nat) (nd16 : Nat) (nd17 : Nat) (nd21 : Nat) (nd22 : Nat) (nd23 : Nat) (nd24 : Nat) (L9 : Nat → Bool) (α : Rega.Atoms) (ix9 : Nat) : Rw := if ix9 = 999 then row (nd15) 51 (units key) else if ix9 = 1999 then row (nd16) 208 #[.slice (some ⟨nd15, 0, none⟩) key.size key.size, .int .i32 0, .bool false, .bool false, .bool false] else if ix9 = 2999 then row (nd21) 35 #[.iface 225 (.pointer (some ⟨nd24, 0, none⟩)), .int .i32 loc, .iface 237 (.pointer (some ⟨nd23, 0, none⟩)), .int .i32 loc, .iface 206 (.pointer (some ⟨nd16, 0, none⟩)), .int .i32 loc, .iface 209 (.pointer (some ⟨nd17, 0, none⟩)), .int .i32 loc] else if ix9 = 3999 then row (nd22) 211 #[.int .u32 0, .int .u32 0, .bool false, .bool false, .bool false] else if ix9 = 4999 then row (nd24) 228 #[.iface 209 (.pointer (some ⟨nd22, 0, none⟩)), .int .i32 loc, .string ⟨#[112, 114, 111, 116, 111, 116, 121, 112, 101]⟩, .int .i32 loc, .int .u8 0, .bool false, .bool false, .bool false] else if ix9 = 5999 then row (nd11) 51 (units key) else if ix9 = 6999 then row (B1) 25 #[.int .u32 0, .int .u32 0] else (0, .map #[] 0)
theorem rlaw17ni7_he (loc : Int) (key : ByteArray) (B1 : Nat) (nd11 : Nat) (nd15 : Nat) (nd16 : Nat) (nd17 : Nat) (nd21 : Nat) (nd22 : Nat) (nd23 : Nat) (nd24 : Nat) : ∀ kk α α', (∀ j, (j % 1000 = kk ∨ j % 1000 ∈ rlaw17ni7Anc kk) → α j = α' j) → rlaw17ni7E loc key B1 nd11 nd15 nd16 nd17 nd21 nd22 nd23 nd24 kk α = rlaw17ni7E loc key B1 nd11 nd15 nd16 nd17 nd21 nd22 nd23 nd24 kk α' := by
  intro kk α α' h
  match kk with
  | 0 => rfl
  | 1 => rfl
  | 2 => rfl
  | 3 => rfl
  | 4 => rfl
  | 5 => rfl
  | 6 => rfl
  | 7 => rfl
  | 8 => rfl
  | 9 => rfl
  | 10 => rfl
  | 11 => rfl
  | 12 => rfl
  | 13 => rfl
  | 14 => rfl
  | 15 => rfl
  | 16 => rfl
  | 17 => rfl
  | 18 => rfl
  | 19 => rfl
  | 20 => rfl
  | 21 => rfl
  | 22 => rfl
  | 23 => rfl
  | 24 => rfl
  | 25 => rfl
  | 26 => rfl
  | 27 => rfl
  | n + 28 => rfl
theorem rlaw17ni7_st (loc : Int) (key : ByteArray) (B1 : Nat) (nd11 : Nat) (nd15 : Nat) (nd16 : Nat) (nd17 : Nat) (nd21 : Nat) (nd22 : Nat) (nd23 : Nat) (nd24 : Nat) : Stable rlaw17ni7Cnt 7 rlaw17ni7Anc rlaw17ni7Trn (rlaw17ni7R loc key B1 nd11 nd15 nd16 nd17 nd21 nd22 nd23 nd24) := by
  intro k9 L9 α α' ix9 hk hcl hα hact ht
  have hp := act_places hact
  replace hp : ix9 ∈ [999, 1999, 2999, 3999, 4999, 5999, 6999] := hp
  simp only [List.mem_cons, List.not_mem_nil, or_false] at hp
  rcases hp with rfl | rfl | rfl | rfl | rfl | rfl | rfl
  · rfl
  · rfl
  · rfl
  · rfl
  · rfl
  · rfl
  · rfl
noncomputable def rlaw17ni10E (nd26 : Nat) (nd27 : Nat) : Nat → Rega.Atoms → Value
  | 0, α => .slice (some ⟨nd26, 0, none⟩) 2 (2 + nd27)
  | 1, α => .pointer (some ⟨nd26, 0, none⟩)
  | 2, α => .pointer (some ⟨nd26, 4, none⟩)
  | 3, α => .int .u32 1
  | 4, α => .bool false
  | 5, α => .int .u32 1
  | 6, α => .bool true
  | 7, α => .bool true
  | 8, α => .slice (some ⟨nd26, 0, none⟩) 2 (2 + nd27)
  | 9, α => .pointer (some ⟨nd26, 10, none⟩)
  | 10, α => .pointer (some ⟨nd26, 14, none⟩)
  | 11, α => .int .u32 1
  | 12, α => .bool true
  | 13, α => .bool true
  | 14, α => .bool true
  | _, _ => undef
noncomputable def rlaw17ni10Anc : Nat → List Nat
  | 1 => [0]
  | 2 => [0, 1]
  | 3 => [0, 1, 2]
  | 5 => [4]
  | 6 => [0, 1, 2, 3, 4, 5]
  | 7 => [0, 1, 2, 3, 4, 5, 6]
  | 8 => [0, 1, 2, 3, 4, 5, 6, 7]
  | 9 => [0, 1, 2, 3, 4, 5, 6, 7, 8]
  | 10 => [0, 1, 2, 3, 4, 5, 6, 7, 8, 9]
  | 11 => [0, 1, 2, 3, 4, 5, 6, 7, 8, 9, 10]
  | 12 => [0, 1, 2, 3, 4, 5, 6, 7, 8, 9, 10, 11]
  | 13 => [0, 1, 2, 3, 4, 5, 6, 7, 8, 9, 10, 11, 12]
  | 14 => [0, 1, 2, 3, 4, 5, 6, 7, 8, 9, 10, 11, 12, 13]
  | _ => []
noncomputable def rlaw17ni10Trn : Nat → List Nat
  | _ => []
noncomputable def rlaw17ni10Cnt : List (Nat × Nat) := []
noncomputable def rlaw17ni10R (nd26 : Nat) (nd27 : Nat) (L9 : Nat → Bool) (α : Rega.Atoms) (ix9 : Nat) : Rw := if ix9 = 999 then row (nd26) 56 (full symZ (symL ([sy ⟨#[70, 111, 111]⟩ 1, sy ⟨#[95, 95, 115, 117, 112, 101, 114, 83, 101, 116]⟩ 1])) (nd27)) else (0, .map #[] 0)
theorem rlaw17ni10_he (nd26 : Nat) (nd27 : Nat) : ∀ kk α α', (∀ j, (j % 1000 = kk ∨ j % 1000 ∈ rlaw17ni10Anc kk) → α j = α' j) → rlaw17ni10E nd26 nd27 kk α = rlaw17ni10E nd26 nd27 kk α' := by
  intro kk α α' h
  match kk with
  | 0 => rfl
  | 1 => rfl
  | 2 => rfl
  | 3 => rfl
  | 4 => rfl
  | 5 => rfl
  | 6 => rfl
  | 7 => rfl
  | 8 => rfl
  | 9 => rfl
  | 10 => rfl
  | 11 => rfl
  | 12 => rfl
  | 13 => rfl
  | 14 => rfl
  | n + 15 => rfl
theorem rlaw17ni10_st (nd26 : Nat) (nd27 : Nat) : Stable rlaw17ni10Cnt 1 rlaw17ni10Anc rlaw17ni10Trn (rlaw17ni10R nd26 nd27) := by
  intro k9 L9 α α' ix9 hk hcl hα hact ht
  have hp := act_places hact
  replace hp : ix9 ∈ [999] := hp
  simp only [List.mem_cons, List.not_mem_nil, or_false] at hp
  subst hp
  rfl
def law17niPost (loc : Int) (key : ByteArray) (vm : Int) (w0 : World) (X : Nat → Obj → Prop) (e : Ending) (w' : World) : Prop :=
  e = .returned (.bool true) ∧ Own w0 w' [] X
set_option maxRecDepth 100000 in
set_option maxHeartbeats 1000000 in
theorem law17ni (loc : Int) (key : ByteArray) (vm : Int) (w0 w : World) (X : Nat → Obj → Prop) (hO : Own w0 w [] X) (hlen : key.size ≤ 65536) (hg0 : w0.cell? ⟨0, 0, none⟩ = some (.int .u32 4294967295)) (hg1 : w0.cell? ⟨0, 1, none⟩ = some (.int .u32 4294967295)) :
    Calls Tryd.prog 5 #[.int .i32 loc, .string key, .bool false, .bool false, .int .u32 vm] w (law17niPost loc key vm w0 X) := by
  go_enter Tryd.func5, Tryd.ntmps5
  have hl9 : (key.size : Int) ≤ 65536 := by omega
  go_wp2_with (first | (with_reducible refine Own.stay (fn := Tryd.f5) ?_) | (first | (go_at_call 22; go_in)))
  try with_reducible refine Own.Stay.mk ?_
  generalize hW : World.alloc _ _ = W2
  have hN : Own w0 W2 [row (w.heap.size) 25 #[.int .u32 0, .int .u32 0]] X := by
    rw [← hW]
    exact (hO).alloc' _ (w.heap.size) (by simp)
  clear hW hO
  generalize w.heap.size = B1 at hN ⊢
  have hO := hN
  clear hN
  have st9 := rlaw17ni1_st B1
  refine wp_region_own (e := rlaw17ni1E B1) (anc := rlaw17ni1Anc) (G := (fun L9 α u9 => OwnF w0 u9 (act rlaw17ni1Cnt 1 L9) (rlaw17ni1R B1 L9 α) X)) (by kernel_rfl) (by kernel_rfl) (by kernel_rfl) (by kernel_rfl) (rlaw17ni1_he B1) ?_ (RunsAll.all ?_) ?_
  · have hp : ∀ i, act rlaw17ni1Cnt 1 (fun _ => false) i → i ∈ [999] := by
      intro i hi
      have h9 : i % 1000 = 999 := by
        by_cases h : i % 1000 = 999
        · exact h
        · exact absurd (act_lt hi h) (by simp)
      unfold act at hi
      rw [if_pos h9] at hi
      simp only [List.mem_cons, List.not_mem_nil, or_false]
      omega
    refine hO.drew.family (fun i hi => ?_) (fun i j hi hj hij => ?_)
    · have := hp i hi
      simp only [List.mem_cons, List.not_mem_nil, or_false] at this
      subst this
      rfl
    · have h1 := hp i hi
      have h2 := hp j hj
      simp only [List.mem_cons, List.not_mem_nil, or_false] at h1 h2
      omega
  · refine ⟨?_, ?_, ?_, ?_, ?_, ?_, trivial⟩
    · intro L9 α a9 u9 K9 hL hcl hA hG hS h0 hK
      replace hL : L9 0 = false := hL
      go_simp
      have hM : ∀ i, i ∈ [] → act rlaw17ni1Cnt 1 L9 i := by intro i hi; simp at hi
      have hP : Own w0 u9 [] _ := hG.pick [] (by decide) (by simp)
      clear hM
      refine Calls.mono (classSyms  _ _ _ hP hg0 hg1) ?_
      rintro e9 u1 ⟨b0, rfl, hQ⟩
      obtain ⟨α', hα'⟩ : ∃ α' : Rega.Atoms, α' = (fun j => if j = 0 then b0 else α j) := ⟨_, rfl⟩
      have f0 : rlaw17ni1R B1 (Rega.ran L9 0) α' 0 = row (α' 0) 56 (full symZ (symL ([sy ⟨#[70, 111, 111]⟩ 0])) 0) := rfl
      have hα : ∀ j, j % 1000 ≠ 0 → α' j = α j := fun j hj => by rw [hα']; simp only []; rw [if_neg (by omega)]
      have hb0 : α' 0 = b0 := by rw [hα']; rfl
      skip
      refine hK _ α' _ hα ?_ (step_call (st9) hL hcl hα [] [0] (by decide) (by decide) (by decide) (M := _) ?_ hG hQ)
      · show _ = (.slice (some ⟨α' 0, 0, none⟩) 1 1 : Value)
        simp only [hb0]
      · show [rlaw17ni1R B1 (Rega.ran L9 0) α' 0] = _
        rw [f0]
        simp only [hb0]
    · intro L9 α a9 u9 K9 hL hcl hA hG hS h0 hK
      replace hL : L9 1 = false := hL
      have q11 : a9.tmps[11]? = some (.pointer (some ⟨B1, 0, none⟩)) := (h0 11 (by kernel_rfl)).trans rfl
      have s11 := Rega.eval_of q11
      have e0 : rlaw17ni1R B1 L9 α 999 = row (B1) 25 #[.int .u32 0, .int .u32 0] := rfl
      have hr := hG.rowAt 999 (act_base 999 rfl) e0
      have c0 : u9.cell? ⟨B1, 0, none⟩ = some (.int .u32 0) := hr.cell rfl
      have c1 : u9.cell? ⟨B1, 1, none⟩ = some (.int .u32 0) := hr.cell rfl
      clear hr e0
      go_simp
      exact hK _ α _ (fun _ _ => rfl) rfl (step_same (st9) hL hcl rfl rfl hG)
    · intro L9 α a9 u9 K9 hL hcl hA hG hS h0 hK
      replace hL : L9 2 = false := hL
      have q2 : a9.tmps[2]? = some (.bool false) := (h0 2 (by kernel_rfl)).trans rfl
      have s2 := Rega.eval_of q2
      go_simp
      exact hK _ α _ (fun _ _ => rfl) rfl (step_same (st9) hL hcl rfl rfl hG)
    · intro L9 α a9 u9 K9 hL hcl hA hG hS h0 hK
      replace hL : L9 3 = false := hL
      have q3 : a9.tmps[3]? = some (.bool false) := (h0 3 (by kernel_rfl)).trans rfl
      have s3 := Rega.eval_of q3
      go_simp
      exact hK _ α _ (fun _ _ => rfl) rfl (step_same (st9) hL hcl rfl rfl hG)
    · intro L9 α a9 u9 K9 hL hcl hA hG hS h0 hK
      replace hL : L9 4 = false := hL
      have q35 : a9.tmps[35]? = some (.slice (some ⟨α 0, 0, none⟩) 1 1) := hS 0 35 (by decide) rfl (by show 35 < 147; decide)
      have s35 := Rega.eval_of q35
      have q36 : a9.tmps[36]? = some (.agg #[.int .u32 0, .int .u32 0]) := hS 1 36 (by decide) rfl (by show 36 < 147; decide)
      have s36 := Rega.eval_of q36
      have q37 : a9.tmps[37]? = some (.bool false) := hS 2 37 (by decide) rfl (by show 37 < 147; decide)
      have s37 := Rega.eval_of q37
      have q38 : a9.tmps[38]? = some (.bool false) := hS 3 38 (by decide) rfl (by show 38 < 147; decide)
      have s38 := Rega.eval_of q38
      go_simp
      have hM : ∀ i, i ∈ [] → act rlaw17ni1Cnt 1 L9 i := by intro i hi; simp at hi
      have hP : Own w0 u9 [] _ := hG.pick [] (by decide) (by simp)
      clear hM
      refine Calls.mono (newSfft (α 0) _ _ _ hP ) ?_
      rintro e9 u1 ⟨b0, b1, b2, b3, rfl, hQ⟩
      obtain ⟨α', hα'⟩ : ∃ α' : Rega.Atoms, α' = (fun j => if j = 4 then b0 else if j = 1004 then b1 else if j = 2004 then b2 else if j = 3004 then b3 else α j) := ⟨_, rfl⟩
      have f0 : rlaw17ni1R B1 (Rega.ran L9 4) α' 4 = row (α' 4) 193 (newSfftP (α' 0) (α' 1004) (α' 2004) (α' 3004)) := rfl
      have f1 : rlaw17ni1R B1 (Rega.ran L9 4) α' 1004 = ((α' 1004, .map #[] 0) : Rw) := rfl
      have f2 : rlaw17ni1R B1 (Rega.ran L9 4) α' 2004 = row (α' 2004) 203 #[.pointer none, .pointer none, .slice none 0 0, .map none, .slice none 0 0, .slice none 0 0, .int .i32 0, .int .i32 0, .int .u32 0, .int .u32 0, .bool false, .bool false, .bool false, .bool false, .int .u8 0, .int .u8 6] := rfl
      have f3 : rlaw17ni1R B1 (Rega.ran L9 4) α' 3004 = row (α' 3004) 25 #[.int .u32 0, .int .u32 0] := rfl
      have hα : ∀ j, j % 1000 ≠ 4 → α' j = α j := fun j hj => by rw [hα']; simp only []; rw [if_neg (by omega), if_neg (by omega), if_neg (by omega), if_neg (by omega)]
      have hb0 : α' 4 = b0 := by rw [hα']; rfl
      have hb1 : α' 1004 = b1 := by rw [hα']; rfl
      have hb2 : α' 2004 = b2 := by rw [hα']; rfl
      have hb3 : α' 3004 = b3 := by rw [hα']; rfl
      have ha0 : α' 0 = α 0 := hα 0 (by decide)
      skip
      refine hK _ α' _ hα ?_ (step_call (st9) hL hcl hα [] [4, 1004, 2004, 3004] (by decide) (by decide) (by decide) (M := _) ?_ hG hQ)
      · show _ = (.pointer (some ⟨α' 4, 0, none⟩) : Value)
        simp only [hb0]
      · show [rlaw17ni1R B1 (Rega.ran L9 4) α' 4, rlaw17ni1R B1 (Rega.ran L9 4) α' 1004, rlaw17ni1R B1 (Rega.ran L9 4) α' 2004, rlaw17ni1R B1 (Rega.ran L9 4) α' 3004] = _
        rw [f0, f1, f2, f3]
        simp only [hb0, hb1, hb2, hb3, ha0]
    · intro L9 α a9 u9 K9 hL hcl hA hG hS h0 hK
      replace hL : L9 5 = false := hL
      have q39 : a9.tmps[39]? = some (.pointer (some ⟨α 4, 0, none⟩)) := hS 4 39 (by decide) rfl (by show 39 < 147; decide)
      have s39 := Rega.eval_of q39
      go_simp
      exact hK _ α _ (fun _ _ => rfl) rfl (step_same (st9) hL hcl rfl rfl hG)
  · clear st9
    intro α u hG
    have e0 : rlaw17ni1R B1 (fun k => decide (k < 6)) α 999 = row (B1) 25 #[.int .u32 0, .int .u32 0] := rfl
    have e1 : rlaw17ni1R B1 (fun k => decide (k < 6)) α 0 = row (α 0) 56 (full symZ (symL ([sy ⟨#[70, 111, 111]⟩ 0])) 0) := rfl
    have e2 : rlaw17ni1R B1 (fun k => decide (k < 6)) α 4 = row (α 4) 193 (newSfftP (α 0) (α 1004) (α 2004) (α 3004)) := rfl
    have e3 : rlaw17ni1R B1 (fun k => decide (k < 6)) α 1004 = ((α 1004, .map #[] 0) : Rw) := rfl
    have e4 : rlaw17ni1R B1 (fun k => decide (k < 6)) α 2004 = row (α 2004) 203 #[.pointer none, .pointer none, .slice none 0 0, .map none, .slice none 0 0, .slice none 0 0, .int .i32 0, .int .i32 0, .int .u32 0, .int .u32 0, .bool false, .bool false, .bool false, .bool false, .int .u8 0, .int .u8 6] := rfl
    have e5 : rlaw17ni1R B1 (fun k => decide (k < 6)) α 3004 = row (α 3004) 25 #[.int .u32 0, .int .u32 0] := rfl
    have hO : Own w0 u [row (B1) 25 #[.int .u32 0, .int .u32 0], row (α 0) 56 (full symZ (symL ([sy ⟨#[70, 111, 111]⟩ 0])) 0), row (α 4) 193 (newSfftP (α 0) (α 1004) (α 2004) (α 3004)), ((α 1004, .map #[] 0) : Rw), row (α 2004) 203 #[.pointer none, .pointer none, .slice none 0 0, .map none, .slice none 0 0, .slice none 0 0, .int .i32 0, .int .i32 0, .int .u32 0, .int .u32 0, .bool false, .bool false, .bool false, .bool false, .int .u8 0, .int .u8 6], row (α 3004) 25 #[.int .u32 0, .int .u32 0]] X := (hG.list [999, 0, 4, 1004, 2004, 3004] (by decide) (act_all (by decide))).conv (by
      show [rlaw17ni1R B1 (fun k => decide (k < 6)) α 999, rlaw17ni1R B1 (fun k => decide (k < 6)) α 0, rlaw17ni1R B1 (fun k => decide (k < 6)) α 4, rlaw17ni1R B1 (fun k => decide (k < 6)) α 1004, rlaw17ni1R B1 (fun k => decide (k < 6)) α 2004, rlaw17ni1R B1 (fun k => decide (k < 6)) α 3004] = _
      rw [e0, e1, e2, e3, e4, e5])
    clear hG e0 e1 e2 e3 e4 e5
    generalize hfr : Rega.frameAt _ _ _ _ _ = fr
    have hdf : fr = ⟨#[.int .i32 loc, .string key, .bool false, .bool false, .int .u32 vm, undef, undef, undef, undef, undef, .bool false, .pointer (some ⟨B1, 0, none⟩), .pointer (some ⟨α 4, 0, none⟩), undef, undef, undef, undef, undef, undef, undef, undef, undef, undef, undef, .int .i32 loc, .string key, .bool false, .bool false, .int .u32 vm, .bool true, .bool false, .string key, .int .i64 (key.size : Int), .bool (decide (65536 < (key.size : Int))), .agg #[.int .u32 0, .int .u32 0], .slice (some ⟨α 0, 0, none⟩) 1 1, .agg #[.int .u32 0, .int .u32 0], .bool false, .bool false, .pointer (some ⟨α 4, 0, none⟩), undef, undef, undef, undef, undef, undef, undef, undef, undef, undef, undef, undef, undef, undef, undef, undef, undef, undef, undef, undef, undef, undef, undef, undef, undef, undef, undef, undef, undef, undef, undef, undef, undef, undef, undef, undef, undef, undef, undef, undef, undef, undef, undef, undef, undef, undef, undef, undef, undef, undef, undef, undef, undef, undef, undef, undef, undef, undef, undef, undef, undef, undef, undef, undef, undef, undef, undef, undef, undef, undef, undef, undef, undef, undef, undef, undef, undef, undef, undef, undef, undef, undef, undef, undef, undef, undef, undef, undef, undef, undef, undef, undef, undef, undef, undef, undef, undef, undef, undef, undef, undef, undef, undef, undef, undef, undef, undef], []⟩ := by rw [← hfr]; kernel_rfl
    clear hfr
    subst hdf
    generalize α 0 = nd3 at hO ⊢
    generalize α 4 = nd4 at hO ⊢
    generalize α 1004 = nd5 at hO ⊢
    generalize α 2004 = nd6 at hO ⊢
    generalize α 3004 = nd7 at hO ⊢
    clear α
    obtain ⟨ix9, hix9, hax9, hjx9⟩ := hO.ix
    have ix9_0 : ix9 B1 = 0 := hjx9 0 _ _ rfl
    have ix9_1 : ix9 nd3 = 1 := hjx9 1 _ _ rfl
    have ix9_2 : ix9 nd4 = 2 := hjx9 2 _ _ rfl
    have ix9_3 : ix9 nd5 = 3 := hjx9 3 _ _ rfl
    have ix9_4 : ix9 nd6 = 4 := hjx9 4 _ _ rfl
    have ix9_5 : ix9 nd7 = 5 := hjx9 5 _ _ rfl
    clear hjx9
    obtain ⟨c9_0_0, c9_0_1, lt9_0, y9_0, pl9_0⟩ := hO.k2 0 rfl
    have c9_1_1 : u.cell? ⟨nd3, 1, none⟩ = some (.string ⟨#[70, 111, 111]⟩) := hO.cell 1 rfl 1 ((full_at rfl))
    have c9_1_4 : u.cell? ⟨nd3, 4, none⟩ = some (.int .u32 0) := hO.cell 1 rfl 4 ((full_at rfl))
    have lt9_1 : nd3 < u.heap.size := hO.lt 1 rfl
    have y9_1 : ∀ o, u.frozen? ⟨nd3, o, none⟩ = false := hO.free 1 rfl
    have c9_2_32 : u.cell? ⟨nd4, 32, none⟩ = some (.bool false) := hO.cell 2 rfl 32 ((newSfft_32 (nd3) (nd5) (nd6) (nd7)))
    have c9_2_66 : u.cell? ⟨nd4, 66, none⟩ = some (.int .u32 0) := hO.cell 2 rfl 66 ((newSfft_66 (nd3) (nd5) (nd6) (nd7)))
    have c9_2_95 : u.cell? ⟨nd4, 95, none⟩ = some (.bool false) := hO.cell 2 rfl 95 ((newSfft_95 (nd3) (nd5) (nd6) (nd7)))
    have c9_2_96 : u.cell? ⟨nd4, 96, none⟩ = some (.bool false) := hO.cell 2 rfl 96 ((newSfft_96 (nd3) (nd5) (nd6) (nd7)))
    have c9_2_97 : u.cell? ⟨nd4, 97, none⟩ = some (.pointer (some ⟨nd7, 0, none⟩)) := hO.cell 2 rfl 97 ((newSfft_97 (nd3) (nd5) (nd6) (nd7)))
    have c9_2_105 : u.cell? ⟨nd4, 105, none⟩ = some (.pointer none) := hO.cell 2 rfl 105 ((newSfft_105 (nd3) (nd5) (nd6) (nd7)))
    have c9_2_106 : u.cell? ⟨nd4, 106, none⟩ = some (.slice (some ⟨nd3, 0, none⟩) 1 1) := hO.cell 2 rfl 106 ((newSfft_106 (nd3) (nd5) (nd6) (nd7)))
    have c9_2_117 : u.cell? ⟨nd4, 117, none⟩ = some (.map (some (nd5))) := hO.cell 2 rfl 117 ((newSfft_117 (nd3) (nd5) (nd6) (nd7)))
    have c9_2_187 : u.cell? ⟨nd4, 187, none⟩ = some (.pointer (some ⟨nd6, 0, none⟩)) := hO.cell 2 rfl 187 ((newSfft_187 (nd3) (nd5) (nd6) (nd7)))
    have c9_2_338 : u.cell? ⟨nd4, 338, none⟩ = some (.bool true) := hO.cell 2 rfl 338 ((newSfft_338 (nd3) (nd5) (nd6) (nd7)))
    have c9_2_350 : u.cell? ⟨nd4, 350, none⟩ = some (.bool false) := hO.cell 2 rfl 350 ((newSfft_350 (nd3) (nd5) (nd6) (nd7)))
    have lt9_2 : nd4 < u.heap.size := hO.lt 2 rfl
    have y9_2 : ∀ o, u.frozen? ⟨nd4, o, none⟩ = false := hO.free 2 rfl
    obtain ⟨c9_5_0, c9_5_1, lt9_5, y9_5, pl9_5⟩ := hO.k2 5 rfl
    have HO := Lib.hid hO
    clear hO
    go_wp2_with (first | (with_reducible refine Own.stay (fn := Tryd.f5) ?_) | (first | (go_at_call 22; go_in)))
    try with_reducible refine Own.Stay.mk ?_
    have hO := HO.out
    clear HO hix9 hax9 ix9_0 ix9_1 ix9_2 ix9_3 ix9_4 ix9_5 ix9 c9_0_0 c9_0_1 lt9_0 y9_0 pl9_0 c9_1_1 c9_1_4 lt9_1 y9_1 c9_2_32 c9_2_66 c9_2_95 c9_2_96 c9_2_97 c9_2_105 c9_2_106 c9_2_117 c9_2_187 c9_2_338 c9_2_350 lt9_2 y9_2 c9_5_0 c9_5_1 lt9_5 y9_5 pl9_5
    generalize hW : World.alloc _ _ = W9
    have hN : Own w0 W9 [row (u.heap.size) 31 #[.int .i32 loc], row (B1) 25 #[.int .u32 0, .int .u32 0], row (nd3) 56 (full symZ (symL ([sy ⟨#[70, 111, 111]⟩ 0])) 0), row (nd4) 193 (newSfftP (nd3) (nd5) (nd6) (nd7)), ((nd5, .map #[] 0) : Rw), row (nd6) 203 #[.pointer none, .pointer none, .slice none 0 0, .map none, .slice none 0 0, .slice none 0 0, .int .i32 0, .int .i32 0, .int .u32 0, .int .u32 0, .bool false, .bool false, .bool false, .bool false, .int .u8 0, .int .u8 6], row (nd7) 25 #[.int .u32 0, .int .u32 0]] X := by
      rw [← hW]
      exact (hO).alloc' _ (u.heap.size) (by simp)
    clear hW hO
    generalize u.heap.size = B8 at hN ⊢
    have hO := hN
    clear hN
    have hL := hO.apart
    have hX := hO.apartX
    have HL := Lib.hid hL
    have HX := Lib.hid hX
    clear hL hX
    have hP9 := hO.pick [] (by decide)
    have T9 := unitsO key _ _ _ hP9 (by omega)
    refine Calls.mono T9 ?_
    clear hP9 T9
    rintro e u10 ⟨nd11, rfl, hQ⟩
    have hN : Own w0 u10 [row (nd11) 51 (units key), row (B8) 31 #[.int .i32 loc], row (B1) 25 #[.int .u32 0, .int .u32 0], row (nd3) 56 (full symZ (symL ([sy ⟨#[70, 111, 111]⟩ 0])) 0), row (nd4) 193 (newSfftP (nd3) (nd5) (nd6) (nd7)), ((nd5, .map #[] 0) : Rw), row (nd6) 203 #[.pointer none, .pointer none, .slice none 0 0, .map none, .slice none 0 0, .slice none 0 0, .int .i32 0, .int .i32 0, .int .u32 0, .int .u32 0, .bool false, .bool false, .bool false, .bool false, .int .u8 0, .int .u8 6], row (nd7) 25 #[.int .u32 0, .int .u32 0]] X := hQ.back HL.out HX.out [0, 1, 2, 3, 4, 5, 6] (by decide) (by decide)
    clear hQ HL HX hO
    have hO := hN
    clear hN
    obtain ⟨ix9, hix9, hax9, hjx9⟩ := hO.ix
    have ix9_0 : ix9 nd11 = 0 := hjx9 0 _ _ rfl
    have ix9_1 : ix9 B8 = 1 := hjx9 1 _ _ rfl
    have ix9_2 : ix9 B1 = 2 := hjx9 2 _ _ rfl
    have ix9_3 : ix9 nd3 = 3 := hjx9 3 _ _ rfl
    have ix9_4 : ix9 nd4 = 4 := hjx9 4 _ _ rfl
    have ix9_5 : ix9 nd5 = 5 := hjx9 5 _ _ rfl
    have ix9_6 : ix9 nd6 = 6 := hjx9 6 _ _ rfl
    have ix9_7 : ix9 nd7 = 7 := hjx9 7 _ _ rfl
    clear hjx9
    obtain ⟨c9_1_0, lt9_1, y9_1, -⟩ := hO.k1 1 rfl
    obtain ⟨c9_2_0, c9_2_1, lt9_2, y9_2, pl9_2⟩ := hO.k2 2 rfl
    have c9_3_1 : u10.cell? ⟨nd3, 1, none⟩ = some (.string ⟨#[70, 111, 111]⟩) := hO.cell 3 rfl 1 ((full_at rfl))
    have c9_3_4 : u10.cell? ⟨nd3, 4, none⟩ = some (.int .u32 0) := hO.cell 3 rfl 4 ((full_at rfl))
    have lt9_3 : nd3 < u10.heap.size := hO.lt 3 rfl
    have y9_3 : ∀ o, u10.frozen? ⟨nd3, o, none⟩ = false := hO.free 3 rfl
    have c9_4_32 : u10.cell? ⟨nd4, 32, none⟩ = some (.bool false) := hO.cell 4 rfl 32 ((newSfft_32 (nd3) (nd5) (nd6) (nd7)))
    have c9_4_66 : u10.cell? ⟨nd4, 66, none⟩ = some (.int .u32 0) := hO.cell 4 rfl 66 ((newSfft_66 (nd3) (nd5) (nd6) (nd7)))
    have c9_4_95 : u10.cell? ⟨nd4, 95, none⟩ = some (.bool false) := hO.cell 4 rfl 95 ((newSfft_95 (nd3) (nd5) (nd6) (nd7)))
    have c9_4_96 : u10.cell? ⟨nd4, 96, none⟩ = some (.bool false) := hO.cell 4 rfl 96 ((newSfft_96 (nd3) (nd5) (nd6) (nd7)))
    have c9_4_97 : u10.cell? ⟨nd4, 97, none⟩ = some (.pointer (some ⟨nd7, 0, none⟩)) := hO.cell 4 rfl 97 ((newSfft_97 (nd3) (nd5) (nd6) (nd7)))
    have c9_4_105 : u10.cell? ⟨nd4, 105, none⟩ = some (.pointer none) := hO.cell 4 rfl 105 ((newSfft_105 (nd3) (nd5) (nd6) (nd7)))
    have c9_4_106 : u10.cell? ⟨nd4, 106, none⟩ = some (.slice (some ⟨nd3, 0, none⟩) 1 1) := hO.cell 4 rfl 106 ((newSfft_106 (nd3) (nd5) (nd6) (nd7)))
    have c9_4_117 : u10.cell? ⟨nd4, 117, none⟩ = some (.map (some (nd5))) := hO.cell 4 rfl 117 ((newSfft_117 (nd3) (nd5) (nd6) (nd7)))
    have c9_4_187 : u10.cell? ⟨nd4, 187, none⟩ = some (.pointer (some ⟨nd6, 0, none⟩)) := hO.cell 4 rfl 187 ((newSfft_187 (nd3) (nd5) (nd6) (nd7)))
    have c9_4_338 : u10.cell? ⟨nd4, 338, none⟩ = some (.bool true) := hO.cell 4 rfl 338 ((newSfft_338 (nd3) (nd5) (nd6) (nd7)))
    have c9_4_350 : u10.cell? ⟨nd4, 350, none⟩ = some (.bool false) := hO.cell 4 rfl 350 ((newSfft_350 (nd3) (nd5) (nd6) (nd7)))
    have lt9_4 : nd4 < u10.heap.size := hO.lt 4 rfl
    have y9_4 : ∀ o, u10.frozen? ⟨nd4, o, none⟩ = false := hO.free 4 rfl
    obtain ⟨c9_7_0, c9_7_1, lt9_7, y9_7, pl9_7⟩ := hO.k2 7 rfl
    have HO := Lib.hid hO
    clear hO
    go_wp2_with (first | (with_reducible refine Own.stay (fn := Tryd.f5) ?_) | (first | (go_at_call 22; go_in)))
    try with_reducible refine Own.Stay.mk ?_
    have hO := HO.out
    clear HO hix9 hax9 ix9_0 ix9_1 ix9_2 ix9_3 ix9_4 ix9_5 ix9_6 ix9_7 ix9 c9_1_0 lt9_1 y9_1 c9_2_0 c9_2_1 lt9_2 y9_2 pl9_2 c9_3_1 c9_3_4 lt9_3 y9_3 c9_4_32 c9_4_66 c9_4_95 c9_4_96 c9_4_97 c9_4_105 c9_4_106 c9_4_117 c9_4_187 c9_4_338 c9_4_350 lt9_4 y9_4 c9_7_0 c9_7_1 lt9_7 y9_7 pl9_7
    generalize hW : World.alloc _ _ = W13
    have hN : Own w0 W13 [row (u10.heap.size) 25 #[.int .u32 3, .int .u32 vm], row (nd11) 51 (units key), row (B8) 31 #[.int .i32 loc], row (B1) 25 #[.int .u32 0, .int .u32 0], row (nd3) 56 (full symZ (symL ([sy ⟨#[70, 111, 111]⟩ 0])) 0), row (nd4) 193 (newSfftP (nd3) (nd5) (nd6) (nd7)), ((nd5, .map #[] 0) : Rw), row (nd6) 203 #[.pointer none, .pointer none, .slice none 0 0, .map none, .slice none 0 0, .slice none 0 0, .int .i32 0, .int .i32 0, .int .u32 0, .int .u32 0, .bool false, .bool false, .bool false, .bool false, .int .u8 0, .int .u8 6], row (nd7) 25 #[.int .u32 0, .int .u32 0]] X := by
      rw [← hW]
      exact (hO).alloc' _ (u10.heap.size) (by simp)
    clear hW hO
    generalize u10.heap.size = B12 at hN ⊢
    have hO := hN
    clear hN
    have hL := hO.apart
    have hX := hO.apartX
    have HL := Lib.hid hL
    have HX := Lib.hid hX
    clear hL hX
    have hP9 := hO.pick [0, 2, 4, 5, 6, 7, 8] (by decide)
    generalize hX9_14 : Own.Rest _ _ X = X9_14 at hP9
    replace hP9 : Own w0 W13 [row (B12) 25 #[.int .u32 3, .int .u32 vm], row (B8) 31 #[.int .i32 loc], row (nd3) 56 (full symZ (symL ([sy ⟨#[70, 111, 111]⟩ 0])) 0), row (nd4) 193 (newSfftP (nd3) (nd5) (nd6) (nd7)), ((nd5, .map #[] 0) : Rw), row (nd6) 203 #[.pointer none, .pointer none, .slice none 0 0, .map none, .slice none 0 0, .slice none 0 0, .int .i32 0, .int .i32 0, .int .u32 0, .int .u32 0, .bool false, .bool false, .bool false, .bool false, .int .u8 0, .int .u8 6], row (nd7) 25 #[.int .u32 0, .int .u32 0]] X9_14 := hP9
    clear hO
    have hO := hP9
    clear hP9
    have st9 := rlaw17ni3_st loc key vm nd3 nd4 nd5 nd6 nd7 B8 B12
    refine wp_region_own (e := rlaw17ni3E loc key vm nd3 nd4 nd5 nd6 nd7 B8 B12) (anc := rlaw17ni3Anc) (G := (fun L9 α u9 => OwnF w0 u9 (act rlaw17ni3Cnt 7 L9) (rlaw17ni3R loc key vm nd3 nd4 nd5 nd6 nd7 B8 B12 L9 α) X9_14)) (by kernel_rfl) (by kernel_rfl) (by kernel_rfl) (by kernel_rfl) (rlaw17ni3_he loc key vm nd3 nd4 nd5 nd6 nd7 B8 B12) ?_ (RunsAll.all ?_) ?_
    · have hp : ∀ i, act rlaw17ni3Cnt 7 (fun _ => false) i → i ∈ [999, 1999, 2999, 3999, 4999, 5999, 6999] := by
        intro i hi
        have h9 : i % 1000 = 999 := by
          by_cases h : i % 1000 = 999
          · exact h
          · exact absurd (act_lt hi h) (by simp)
        unfold act at hi
        rw [if_pos h9] at hi
        simp only [List.mem_cons, List.not_mem_nil, or_false]
        omega
      refine hO.drew.family (fun i hi => ?_) (fun i j hi hj hij => ?_)
      · have := hp i hi
        simp only [List.mem_cons, List.not_mem_nil, or_false] at this
        rcases this with rfl | rfl | rfl | rfl | rfl | rfl | rfl <;> rfl
      · have h1 := hp i hi
        have h2 := hp j hj
        simp only [List.mem_cons, List.not_mem_nil, or_false] at h1 h2
        omega
    · refine ⟨?_, ?_, ?_, ?_, ?_, ?_, ?_, ?_, ?_, ?_, ?_, ?_, trivial⟩
      · intro L9 α a9 u9 K9 hL hcl hA hG hS h0 hK
        replace hL : L9 0 = false := hL
        have q12 : a9.tmps[12]? = some (.pointer (some ⟨nd4, 0, none⟩)) := (h0 12 (by kernel_rfl)).trans rfl
        have s12 := Rega.eval_of q12
        go_simp
        exact hK _ α _ (fun _ _ => rfl) rfl (step_same (st9) hL hcl rfl rfl hG)
      · intro L9 α a9 u9 K9 hL hcl hA hG hS h0 hK
        replace hL : L9 1 = false := hL
        have q13 : a9.tmps[13]? = some (.pointer (some ⟨B8, 0, none⟩)) := (h0 13 (by kernel_rfl)).trans rfl
        have s13 := Rega.eval_of q13
        have e0 : rlaw17ni3R loc key vm nd3 nd4 nd5 nd6 nd7 B8 B12 L9 α 1999 = row (B8) 31 #[.int .i32 loc] := rfl
        have hr := hG.rowAt 1999 (act_base 1999 rfl) e0
        have c0 : u9.cell? ⟨B8, 0, none⟩ = some (.int .i32 loc) := hr.cell rfl
        clear hr e0
        go_simp
        exact hK _ α _ (fun _ _ => rfl) rfl (step_same (st9) hL hcl rfl rfl hG)
      · intro L9 α a9 u9 K9 hL hcl hA hG hS h0 hK
        replace hL : L9 2 = false := hL
        have q0 : a9.tmps[0]? = some (.int .i32 loc) := (h0 0 (by kernel_rfl)).trans rfl
        have s0 := Rega.eval_of q0
        go_simp
        exact hK _ α _ (fun _ _ => rfl) rfl (step_same (st9) hL hcl rfl rfl hG)
      · intro L9 α a9 u9 K9 hL hcl hA hG hS h0 hK
        replace hL : L9 3 = false := hL
        have q1 : a9.tmps[1]? = some (.string key) := (h0 1 (by kernel_rfl)).trans rfl
        have s1 := Rega.eval_of q1
        go_simp
        exact hK _ α _ (fun _ _ => rfl) rfl (step_same (st9) hL hcl rfl rfl hG)
      · intro L9 α a9 u9 K9 hL hcl hA hG hS h0 hK
        replace hL : L9 4 = false := hL
        have q49 : a9.tmps[49]? = some (.string key) := hS 3 49 (by decide) rfl (by show 49 < 147; decide)
        have s49 := Rega.eval_of q49
        go_simp
        have hM : ∀ i, i ∈ [] → act rlaw17ni3Cnt 7 L9 i := by intro i hi; simp at hi
        have hP : Own w0 u9 [] _ := hG.pick [] (by decide) (by simp)
        clear hM
        refine Calls.mono (unitsO key _ _ _ hP (by omega)) ?_
        rintro e9 u1 ⟨b0, rfl, hQ⟩
        obtain ⟨α', hα'⟩ : ∃ α' : Rega.Atoms, α' = (fun j => if j = 4 then b0 else α j) := ⟨_, rfl⟩
        have f0 : rlaw17ni3R loc key vm nd3 nd4 nd5 nd6 nd7 B8 B12 (Rega.ran L9 4) α' 4 = row (α' 4) 51 (units key) := rfl
        have hα : ∀ j, j % 1000 ≠ 4 → α' j = α j := fun j hj => by rw [hα']; simp only []; rw [if_neg (by omega)]
        have hb0 : α' 4 = b0 := by rw [hα']; rfl
        skip
        refine hK _ α' _ hα ?_ (step_call (st9) hL hcl hα [] [4] (by decide) (by decide) (by decide) (M := _) ?_ hG hQ)
        · show _ = (.slice (some ⟨α' 4, 0, none⟩) key.size key.size : Value)
          simp only [hb0]
        · show [rlaw17ni3R loc key vm nd3 nd4 nd5 nd6 nd7 B8 B12 (Rega.ran L9 4) α' 4] = _
          rw [f0]
          simp only [hb0]
      · intro L9 α a9 u9 K9 hL hcl hA hG hS h0 hK
        replace hL : L9 5 = false := hL
        have q48 : a9.tmps[48]? = some (.int .i32 loc) := hS 2 48 (by decide) rfl (by show 48 < 147; decide)
        have s48 := Rega.eval_of q48
        have q50 : a9.tmps[50]? = some (.slice (some ⟨α 4, 0, none⟩) key.size key.size) := hS 4 50 (by decide) rfl (by show 50 < 147; decide)
        have s50 := Rega.eval_of q50
        go_simp
        have hM : ∀ i, i ∈ [] → act rlaw17ni3Cnt 7 L9 i := by intro i hi; simp at hi
        have hP : Own w0 u9 [] _ := hG.pick [] (by decide) (by simp)
        clear hM
        refine Calls.mono (strE loc (α 4) key.size key.size _ _ _ hP ) ?_
        rintro e9 u1 ⟨b0, rfl, hQ⟩
        obtain ⟨α', hα'⟩ : ∃ α' : Rega.Atoms, α' = (fun j => if j = 5 then b0 else α j) := ⟨_, rfl⟩
        have f0 : rlaw17ni3R loc key vm nd3 nd4 nd5 nd6 nd7 B8 B12 (Rega.ran L9 5) α' 5 = row (α' 5) 208 #[.slice (some ⟨α' 4, 0, none⟩) key.size key.size, .int .i32 0, .bool false, .bool false, .bool false] := rfl
        have hα : ∀ j, j % 1000 ≠ 5 → α' j = α j := fun j hj => by rw [hα']; simp only []; rw [if_neg (by omega)]
        have hb0 : α' 5 = b0 := by rw [hα']; rfl
        have ha4 : α' 4 = α 4 := hα 4 (by decide)
        skip
        refine hK _ α' _ hα ?_ (step_call (st9) hL hcl hα [] [5] (by decide) (by decide) (by decide) (M := _) ?_ hG hQ)
        · show _ = (.agg #[.iface 206 (.pointer (some ⟨α' 5, 0, none⟩)), .int .i32 loc] : Value)
          simp only [hb0]
        · show [rlaw17ni3R loc key vm nd3 nd4 nd5 nd6 nd7 B8 B12 (Rega.ran L9 5) α' 5] = _
          rw [f0]
          simp only [hb0, ha4]
      · intro L9 α a9 u9 K9 hL hcl hA hG hS h0 hK
        replace hL : L9 6 = false := hL
        have q0 : a9.tmps[0]? = some (.int .i32 loc) := (h0 0 (by kernel_rfl)).trans rfl
        have s0 := Rega.eval_of q0
        go_simp
        exact hK _ α _ (fun _ _ => rfl) rfl (step_same (st9) hL hcl rfl rfl hG)
      · intro L9 α a9 u9 K9 hL hcl hA hG hS h0 hK
        replace hL : L9 7 = false := hL
        have q15 : a9.tmps[15]? = some (.pointer (some ⟨B12, 0, none⟩)) := (h0 15 (by kernel_rfl)).trans rfl
        have s15 := Rega.eval_of q15
        have e0 : rlaw17ni3R loc key vm nd3 nd4 nd5 nd6 nd7 B8 B12 L9 α 999 = row (B12) 25 #[.int .u32 3, .int .u32 vm] := rfl
        have hr := hG.rowAt 999 (act_base 999 rfl) e0
        have c0 : u9.cell? ⟨B12, 0, none⟩ = some (.int .u32 3) := hr.cell rfl
        have c1 : u9.cell? ⟨B12, 1, none⟩ = some (.int .u32 vm) := hr.cell rfl
        clear hr e0
        go_simp
        exact hK _ α _ (fun _ _ => rfl) rfl (step_same (st9) hL hcl rfl rfl hG)
      · intro L9 α a9 u9 K9 hL hcl hA hG hS h0 hK
        replace hL : L9 8 = false := hL
        have q52 : a9.tmps[52]? = some (.int .i32 loc) := hS 6 52 (by decide) rfl (by show 52 < 147; decide)
        have s52 := Rega.eval_of q52
        have q53 : a9.tmps[53]? = some (.agg #[.int .u32 3, .int .u32 vm]) := hS 7 53 (by decide) rfl (by show 53 < 147; decide)
        have s53 := Rega.eval_of q53
        go_simp
        have hM : ∀ i, i ∈ [] → act rlaw17ni3Cnt 7 L9 i := by intro i hi; simp at hi
        have hP : Own w0 u9 [] _ := hG.pick [] (by decide) (by simp)
        clear hM
        refine Calls.mono (idE loc 3 vm _ _ _ hP ) ?_
        rintro e9 u1 ⟨b0, rfl, hQ⟩
        obtain ⟨α', hα'⟩ : ∃ α' : Rega.Atoms, α' = (fun j => if j = 8 then b0 else α j) := ⟨_, rfl⟩
        have f0 : rlaw17ni3R loc key vm nd3 nd4 nd5 nd6 nd7 B8 B12 (Rega.ran L9 8) α' 8 = row (α' 8) 211 #[.int .u32 3, .int .u32 vm, .bool false, .bool false, .bool false] := rfl
        have hα : ∀ j, j % 1000 ≠ 8 → α' j = α j := fun j hj => by rw [hα']; simp only []; rw [if_neg (by omega)]
        have hb0 : α' 8 = b0 := by rw [hα']; rfl
        skip
        refine hK _ α' _ hα ?_ (step_call (st9) hL hcl hα [] [8] (by decide) (by decide) (by decide) (M := _) ?_ hG hQ)
        · show _ = (.agg #[.iface 209 (.pointer (some ⟨α' 8, 0, none⟩)), .int .i32 loc] : Value)
          simp only [hb0]
        · show [rlaw17ni3R loc key vm nd3 nd4 nd5 nd6 nd7 B8 B12 (Rega.ran L9 8) α' 8] = _
          rw [f0]
          simp only [hb0]
      · intro L9 α a9 u9 K9 hL hcl hA hG hS h0 hK
        replace hL : L9 9 = false := hL
        have q46 : a9.tmps[46]? = some (.pointer (some ⟨nd4, 0, none⟩)) := hS 0 46 (by decide) rfl (by show 46 < 147; decide)
        have s46 := Rega.eval_of q46
        have q47 : a9.tmps[47]? = some (.agg #[.int .i32 loc]) := hS 1 47 (by decide) rfl (by show 47 < 147; decide)
        have s47 := Rega.eval_of q47
        have q51 : a9.tmps[51]? = some (.agg #[.iface 206 (.pointer (some ⟨α 5, 0, none⟩)), .int .i32 loc]) := hS 5 51 (by decide) rfl (by show 51 < 147; decide)
        have s51 := Rega.eval_of q51
        have q54 : a9.tmps[54]? = some (.agg #[.iface 209 (.pointer (some ⟨α 8, 0, none⟩)), .int .i32 loc]) := hS 8 54 (by decide) rfl (by show 54 < 147; decide)
        have s54 := Rega.eval_of q54
        go_simp
        have e0 : rlaw17ni3R loc key vm nd3 nd4 nd5 nd6 nd7 B8 B12 L9 α 3999 = row (nd4) 193 (newSfftP (nd3) (nd5) (nd6) (nd7)) := by
          show rlaw17ni3T3999 loc key vm nd3 nd4 nd5 nd6 nd7 B8 B12 L9 α = _
          unfold rlaw17ni3T3999
          rw [if_neg (by rw [hL]; decide)]
        have e1 : rlaw17ni3R loc key vm nd3 nd4 nd5 nd6 nd7 B8 B12 L9 α 2999 = row (nd3) 56 (full symZ (symL ([sy ⟨#[70, 111, 111]⟩ 0])) 0) := by
          show rlaw17ni3T2999 loc key vm nd3 nd4 nd5 nd6 nd7 B8 B12 L9 α = _
          unfold rlaw17ni3T2999
          rw [if_neg (by rw [hL]; decide)]
        have e2 : rlaw17ni3R loc key vm nd3 nd4 nd5 nd6 nd7 B8 B12 L9 α 4999 = ((nd5, .map #[] 0) : Rw) := by
          show rlaw17ni3T4999 loc key vm nd3 nd4 nd5 nd6 nd7 B8 B12 L9 α = _
          unfold rlaw17ni3T4999
          rw [if_neg (by rw [hL]; decide)]
        have e3 : rlaw17ni3R loc key vm nd3 nd4 nd5 nd6 nd7 B8 B12 L9 α 5999 = row (nd6) 203 #[.pointer none, .pointer none, .slice none 0 0, .map none, .slice none 0 0, .slice none 0 0, .int .i32 0, .int .i32 0, .int .u32 0, .int .u32 0, .bool false, .bool false, .bool false, .bool false, .int .u8 0, .int .u8 6] := by
          show rlaw17ni3T5999 loc key vm nd3 nd4 nd5 nd6 nd7 B8 B12 L9 α = _
          unfold rlaw17ni3T5999
          rw [if_neg (by rw [hL]; decide)]
        have e4 : rlaw17ni3R loc key vm nd3 nd4 nd5 nd6 nd7 B8 B12 L9 α 6999 = row (nd7) 25 #[.int .u32 0, .int .u32 0] := rfl
        have hM : ∀ i, i ∈ [3999, 2999, 4999, 5999, 6999] → act rlaw17ni3Cnt 7 L9 i := by
          intro i hi
          simp only [List.mem_cons, List.not_mem_nil, or_false] at hi
          rcases hi with rfl | rfl | rfl | rfl | rfl
          · exact act_base 3999 rfl
          · exact act_base 2999 rfl
          · exact act_base 4999 rfl
          · exact act_base 5999 rfl
          · exact act_base 6999 rfl
        have hP : Own w0 u9 [row (nd4) 193 (newSfftP (nd3) (nd5) (nd6) (nd7)), row (nd3) 56 (full symZ (symL ([sy ⟨#[70, 111, 111]⟩ 0])) 0), ((nd5, .map #[] 0) : Rw), row (nd6) 203 #[.pointer none, .pointer none, .slice none 0 0, .map none, .slice none 0 0, .slice none 0 0, .int .i32 0, .int .i32 0, .int .u32 0, .int .u32 0, .bool false, .bool false, .bool false, .bool false, .int .u8 0, .int .u8 6], row (nd7) 25 #[.int .u32 0, .int .u32 0]] _ := (hG.pick [3999, 2999, 4999, 5999, 6999] (by decide) hM).conv (by
          show [rlaw17ni3R loc key vm nd3 nd4 nd5 nd6 nd7 B8 B12 L9 α 3999, rlaw17ni3R loc key vm nd3 nd4 nd5 nd6 nd7 B8 B12 L9 α 2999, rlaw17ni3R loc key vm nd3 nd4 nd5 nd6 nd7 B8 B12 L9 α 4999, rlaw17ni3R loc key vm nd3 nd4 nd5 nd6 nd7 B8 B12 L9 α 5999, rlaw17ni3R loc key vm nd3 nd4 nd5 nd6 nd7 B8 B12 L9 α 6999] = _
          rw [e0, e1, e2, e3, e4])
        clear e0 e1 e2 e3 e4 hM
        refine Calls.mono (dsupSetniF0i0 nd4 (newSfftP nd3 nd5 nd6 nd7) nd3 0 nd5 nd6 #[.pointer none, .pointer none, .slice none 0 0, .map none, .slice none 0 0, .slice none 0 0, .int .i32 0, .int .i32 0, .int .u32 0, .int .u32 0, .bool false, .bool false, .bool false, .bool false, .int .u8 0, .int .u8 6] nd7 loc 206 (α 5) loc 209 (α 8) loc _ _ _ hP (newSfft_350 (nd3) (nd5) (nd6) (nd7)) (newSfft_32 (nd3) (nd5) (nd6) (nd7)) (newSfft_105 (nd3) (nd5) (nd6) (nd7)) (newSfft_66 (nd3) (nd5) (nd6) (nd7)) (newSfft_117 (nd3) (nd5) (nd6) (nd7)) (newSfft_187 (nd3) (nd5) (nd6) (nd7)) (newSfft_97 (nd3) (nd5) (nd6) (nd7)) (newSfft_95 (nd3) (nd5) (nd6) (nd7)) (newSfft_96 (nd3) (nd5) (nd6) (nd7)) (newSfft_106 (nd3) (nd5) (nd6) (nd7)) rfl hg0 hg1) ?_
        rintro e9 u1 ⟨b0, b1, b2, b3, b4, b5, b7, b8, b6, b9, rfl, hQ⟩
        obtain ⟨α', hα'⟩ : ∃ α' : Rega.Atoms, α' = (fun j => if j = 9 then b0 else if j = 1009 then b1 else if j = 2009 then b2 else if j = 3009 then b3 else if j = 4009 then b4 else if j = 5009 then b5 else if j = 6009 then b6 else if j = 7009 then b7 else if j = 8009 then b8 else if j = 9009 then b9 else α j) := ⟨_, rfl⟩
        have f0 : rlaw17ni3R loc key vm nd3 nd4 nd5 nd6 nd7 B8 B12 (Rega.ran L9 9) α' 3999 = row (nd4) 193 ((newSfftP nd3 nd5 nd6 nd7).setIfInBounds 106 (.slice (some ⟨α' 7009, 0, none⟩) 2 (2 + (α' 8009)))) := by
          show rlaw17ni3T3999 loc key vm nd3 nd4 nd5 nd6 nd7 B8 B12 (Rega.ran L9 9) α' = _
          unfold rlaw17ni3T3999
          rw [if_pos (show Rega.ran L9 9 9 = true from rfl)]
        have f1 : rlaw17ni3R loc key vm nd3 nd4 nd5 nd6 nd7 B8 B12 (Rega.ran L9 9) α' 2999 = row (α' 7009) 56 (full symZ (symL ([sy ⟨#[70, 111, 111]⟩ 1, sy ⟨#[95, 95, 115, 117, 112, 101, 114, 83, 101, 116]⟩ 1])) (α' 8009)) := by
          show rlaw17ni3T2999 loc key vm nd3 nd4 nd5 nd6 nd7 B8 B12 (Rega.ran L9 9) α' = _
          unfold rlaw17ni3T2999
          rw [if_pos (show Rega.ran L9 9 9 = true from rfl)]
        have f2 : rlaw17ni3R loc key vm nd3 nd4 nd5 nd6 nd7 B8 B12 (Rega.ran L9 9) α' 4999 = ((nd5, .map #[⟨.string ⟨#[95, 95, 115, 117, 112, 101, 114, 83, 101, 116]⟩, .agg #[.int .i32 loc, .int .u32 0, .int .u32 1], 0⟩] 1) : Rw) := by
          show rlaw17ni3T4999 loc key vm nd3 nd4 nd5 nd6 nd7 B8 B12 (Rega.ran L9 9) α' = _
          unfold rlaw17ni3T4999
          rw [if_pos (show Rega.ran L9 9 9 = true from rfl)]
        have f3 : rlaw17ni3R loc key vm nd3 nd4 nd5 nd6 nd7 B8 B12 (Rega.ran L9 9) α' 5999 = row (nd6) 203 (#[.pointer none, .pointer none, .slice none 0 0, .map none, .slice none 0 0, .slice none 0 0, .int .i32 0, .int .i32 0, .int .u32 0, .int .u32 0, .bool false, .bool false, .bool false, .bool false, .int .u8 0, .int .u8 6].setIfInBounds 5 (.slice (some ⟨α' 6009, 0, none⟩) 1 (1 + (α' 9009)))) := by
          show rlaw17ni3T5999 loc key vm nd3 nd4 nd5 nd6 nd7 B8 B12 (Rega.ran L9 9) α' = _
          unfold rlaw17ni3T5999
          rw [if_pos (show Rega.ran L9 9 9 = true from rfl)]
        have f4 : rlaw17ni3R loc key vm nd3 nd4 nd5 nd6 nd7 B8 B12 (Rega.ran L9 9) α' 6009 = row (α' 6009) 25 (full refZ ([.int .u32 0, .int .u32 1]) (α' 9009)) := rfl
        have f5 : rlaw17ni3R loc key vm nd3 nd4 nd5 nd6 nd7 B8 B12 (Rega.ran L9 9) α' 6999 = row (nd7) 25 #[.int .u32 0, .int .u32 0] := rfl
        have f6 : rlaw17ni3R loc key vm nd3 nd4 nd5 nd6 nd7 B8 B12 (Rega.ran L9 9) α' 1009 = row (α' 1009) 211 #[.int .u32 0, .int .u32 1, .bool false, .bool false, .bool false] := rfl
        have f7 : rlaw17ni3R loc key vm nd3 nd4 nd5 nd6 nd7 B8 B12 (Rega.ran L9 9) α' 9 = row (α' 9) 71 #[.iface 209 (.pointer (some ⟨α' 1009, 0, none⟩)), .int .i32 loc, .slice (some ⟨α' 2009, 0, none⟩) 4 4, .int .i32 0, .int .u8 0, .int .u8 0, .bool false, .bool false] := rfl
        have f8 : rlaw17ni3R loc key vm nd3 nd4 nd5 nd6 nd7 B8 B12 (Rega.ran L9 9) α' 2009 = row (α' 2009) 35 #[.iface 225 (.pointer (some ⟨α' 5009, 0, none⟩)), .int .i32 loc, .iface 237 (.pointer (some ⟨α' 4009, 0, none⟩)), .int .i32 loc, .iface 206 (.pointer (some ⟨α' 5, 0, none⟩)), .int .i32 loc, .iface 209 (.pointer (some ⟨α' 8, 0, none⟩)), .int .i32 loc] := rfl
        have f9 : rlaw17ni3R loc key vm nd3 nd4 nd5 nd6 nd7 B8 B12 (Rega.ran L9 9) α' 3009 = row (α' 3009) 211 #[.int .u32 0, .int .u32 0, .bool false, .bool false, .bool false] := rfl
        have f10 : rlaw17ni3R loc key vm nd3 nd4 nd5 nd6 nd7 B8 B12 (Rega.ran L9 9) α' 4009 = row (α' 4009) 241 #[] := rfl
        have f11 : rlaw17ni3R loc key vm nd3 nd4 nd5 nd6 nd7 B8 B12 (Rega.ran L9 9) α' 5009 = row (α' 5009) 228 #[.iface 209 (.pointer (some ⟨α' 3009, 0, none⟩)), .int .i32 loc, .string ⟨#[112, 114, 111, 116, 111, 116, 121, 112, 101]⟩, .int .i32 loc, .int .u8 0, .bool false, .bool false, .bool false] := rfl
        have hα : ∀ j, j % 1000 ≠ 9 → α' j = α j := fun j hj => by rw [hα']; simp only []; rw [if_neg (by omega), if_neg (by omega), if_neg (by omega), if_neg (by omega), if_neg (by omega), if_neg (by omega), if_neg (by omega), if_neg (by omega), if_neg (by omega), if_neg (by omega)]
        have hb0 : α' 9 = b0 := by rw [hα']; rfl
        have hb1 : α' 1009 = b1 := by rw [hα']; rfl
        have hb2 : α' 2009 = b2 := by rw [hα']; rfl
        have hb3 : α' 3009 = b3 := by rw [hα']; rfl
        have hb4 : α' 4009 = b4 := by rw [hα']; rfl
        have hb5 : α' 5009 = b5 := by rw [hα']; rfl
        have hb6 : α' 6009 = b6 := by rw [hα']; rfl
        have hb7 : α' 7009 = b7 := by rw [hα']; rfl
        have hb8 : α' 8009 = b8 := by rw [hα']; rfl
        have hb9 : α' 9009 = b9 := by rw [hα']; rfl
        have ha5 : α' 5 = α 5 := hα 5 (by decide)
        have ha8 : α' 8 = α 8 := hα 8 (by decide)
        skip
        refine hK _ α' _ hα ?_ (step_call (st9) hL hcl hα [3999, 2999, 4999, 5999, 6999] [3999, 2999, 4999, 5999, 6009, 6999, 1009, 9, 2009, 3009, 4009, 5009] (by decide) (by decide) (by decide) (M := _) ?_ hG hQ)
        · show _ = (.agg #[.iface 65 (.pointer (some ⟨α' 9, 0, none⟩)), .int .i32 loc] : Value)
          simp only [hb0]
        · show [rlaw17ni3R loc key vm nd3 nd4 nd5 nd6 nd7 B8 B12 (Rega.ran L9 9) α' 3999, rlaw17ni3R loc key vm nd3 nd4 nd5 nd6 nd7 B8 B12 (Rega.ran L9 9) α' 2999, rlaw17ni3R loc key vm nd3 nd4 nd5 nd6 nd7 B8 B12 (Rega.ran L9 9) α' 4999, rlaw17ni3R loc key vm nd3 nd4 nd5 nd6 nd7 B8 B12 (Rega.ran L9 9) α' 5999, rlaw17ni3R loc key vm nd3 nd4 nd5 nd6 nd7 B8 B12 (Rega.ran L9 9) α' 6009, rlaw17ni3R loc key vm nd3 nd4 nd5 nd6 nd7 B8 B12 (Rega.ran L9 9) α' 6999, rlaw17ni3R loc key vm nd3 nd4 nd5 nd6 nd7 B8 B12 (Rega.ran L9 9) α' 1009, rlaw17ni3R loc key vm nd3 nd4 nd5 nd6 nd7 B8 B12 (Rega.ran L9 9) α' 9, rlaw17ni3R loc key vm nd3 nd4 nd5 nd6 nd7 B8 B12 (Rega.ran L9 9) α' 2009, rlaw17ni3R loc key vm nd3 nd4 nd5 nd6 nd7 B8 B12 (Rega.ran L9 9) α' 3009, rlaw17ni3R loc key vm nd3 nd4 nd5 nd6 nd7 B8 B12 (Rega.ran L9 9) α' 4009, rlaw17ni3R loc key vm nd3 nd4 nd5 nd6 nd7 B8 B12 (Rega.ran L9 9) α' 5009] = _
          rw [f0, f1, f2, f3, f4, f5, f6, f7, f8, f9, f10, f11]
          simp only [hb0, hb1, hb2, hb3, hb4, hb5, hb6, hb7, hb8, hb9, ha5, ha8]
      · intro L9 α a9 u9 K9 hL hcl hA hG hS h0 hK
        replace hL : L9 10 = false := hL
        go_simp
        have e1 : rlaw17ni3R loc key vm nd3 nd4 nd5 nd6 nd7 B8 B12 (Rega.ran L9 10) (fun j => if j = 10 then u9.heap.size else α j) 10 = row (u9.heap.size) 35 #[.nilIface, .int .i32 0] := by
          show rlaw17ni3T10 loc key vm nd3 nd4 nd5 nd6 nd7 B8 B12 (Rega.ran L9 10) (fun j => if j = 10 then u9.heap.size else α j) = _
          unfold rlaw17ni3T10
          exact ((if_neg (fun e => (fun e => by have := hcl 11 e 10 (by decide); rw [hL] at this; cases this) ((ran_ne (by decide)).symm.trans e))).trans rfl)
        exact hK _ (fun j => if j = 10 then u9.heap.size else α j) _ (fun j hj => if_neg (fun e => hj (by rw [e]))) rfl (step_alloc (st9) hL hcl rfl rfl (by decide) _ e1 hG)
      · intro L9 α a9 u9 K9 hL hcl hA hG hS h0 hK
        replace hL : L9 11 = false := hL
        have q16 : a9.tmps[16]? = some (.pointer (some ⟨α 10, 0, none⟩)) := hS 10 16 (by decide) rfl (by show 16 < 147; decide)
        have s16 := Rega.eval_of q16
        have q55 : a9.tmps[55]? = some (.agg #[.iface 65 (.pointer (some ⟨α 9, 0, none⟩)), .int .i32 loc]) := hS 9 55 (by decide) rfl (by show 55 < 147; decide)
        have s55 := Rega.eval_of q55
        have e0 : rlaw17ni3R loc key vm nd3 nd4 nd5 nd6 nd7 B8 B12 L9 α 10 = row (α 10) 35 #[.nilIface, .int .i32 0] := by
          show rlaw17ni3T10 loc key vm nd3 nd4 nd5 nd6 nd7 B8 B12 L9 α = _
          unfold rlaw17ni3T10
          rw [if_neg (by rw [hL]; decide)]
        have hr := hG.rowAt 10 (act_new 10 rfl (hA 10 (by decide))) e0
        have c0 : u9.cell? ⟨α 10, 0, none⟩ = some (.nilIface) := hr.cell rfl
        have y0 : u9.frozen? ⟨α 10, 0, none⟩ = false := hr.free 0
        have c1 : u9.cell? ⟨α 10, 1, none⟩ = some (.int .i32 0) := hr.cell rfl
        have y1 : u9.frozen? ⟨α 10, 1, none⟩ = false := hr.free 1
        clear hr
        have E0 := Lib.hid e0
        clear e0
        go_simp
        have e1 : rlaw17ni3R loc key vm nd3 nd4 nd5 nd6 nd7 B8 B12 (Rega.ran L9 11) α 10 = row (α 10) 35 #[.iface 65 (.pointer (some ⟨α 9, 0, none⟩)), .int .i32 loc] := by
          show rlaw17ni3T10 loc key vm nd3 nd4 nd5 nd6 nd7 B8 B12 (Rega.ran L9 11) α = _
          unfold rlaw17ni3T10
          rw [if_pos (show Rega.ran L9 11 11 = true from rfl)]
        exact hK _ α _ (fun _ _ => rfl) rfl (step_sets (st9) hL hcl rfl 10 rfl (act_new 10 rfl (hA 10 (by decide))) E0.out 0 [.iface 65 (.pointer (some ⟨α 9, 0, none⟩)), .int .i32 loc] (e1.trans rfl) hG)
    · clear st9
      intro α u hG
      have e0 : rlaw17ni3R loc key vm nd3 nd4 nd5 nd6 nd7 B8 B12 (fun k => decide (k < 12)) α 999 = row (B12) 25 #[.int .u32 3, .int .u32 vm] := rfl
      have e1 : rlaw17ni3R loc key vm nd3 nd4 nd5 nd6 nd7 B8 B12 (fun k => decide (k < 12)) α 1999 = row (B8) 31 #[.int .i32 loc] := rfl
      have e2 : rlaw17ni3R loc key vm nd3 nd4 nd5 nd6 nd7 B8 B12 (fun k => decide (k < 12)) α 2999 = row (α 7009) 56 (full symZ (symL ([sy ⟨#[70, 111, 111]⟩ 1, sy ⟨#[95, 95, 115, 117, 112, 101, 114, 83, 101, 116]⟩ 1])) (α 8009)) := by
        show rlaw17ni3T2999 loc key vm nd3 nd4 nd5 nd6 nd7 B8 B12 (fun k => decide (k < 12)) α = _
        unfold rlaw17ni3T2999
        rw [if_pos (by decide)]
      have e3 : rlaw17ni3R loc key vm nd3 nd4 nd5 nd6 nd7 B8 B12 (fun k => decide (k < 12)) α 3999 = row (nd4) 193 ((newSfftP nd3 nd5 nd6 nd7).setIfInBounds 106 (.slice (some ⟨α 7009, 0, none⟩) 2 (2 + (α 8009)))) := by
        show rlaw17ni3T3999 loc key vm nd3 nd4 nd5 nd6 nd7 B8 B12 (fun k => decide (k < 12)) α = _
        unfold rlaw17ni3T3999
        rw [if_pos (by decide)]
      have e4 : rlaw17ni3R loc key vm nd3 nd4 nd5 nd6 nd7 B8 B12 (fun k => decide (k < 12)) α 4999 = ((nd5, .map #[⟨.string ⟨#[95, 95, 115, 117, 112, 101, 114, 83, 101, 116]⟩, .agg #[.int .i32 loc, .int .u32 0, .int .u32 1], 0⟩] 1) : Rw) := by
        show rlaw17ni3T4999 loc key vm nd3 nd4 nd5 nd6 nd7 B8 B12 (fun k => decide (k < 12)) α = _
        unfold rlaw17ni3T4999
        rw [if_pos (by decide)]
      have e5 : rlaw17ni3R loc key vm nd3 nd4 nd5 nd6 nd7 B8 B12 (fun k => decide (k < 12)) α 5999 = row (nd6) 203 (#[.pointer none, .pointer none, .slice none 0 0, .map none, .slice none 0 0, .slice none 0 0, .int .i32 0, .int .i32 0, .int .u32 0, .int .u32 0, .bool false, .bool false, .bool false, .bool false, .int .u8 0, .int .u8 6].setIfInBounds 5 (.slice (some ⟨α 6009, 0, none⟩) 1 (1 + (α 9009)))) := by
        show rlaw17ni3T5999 loc key vm nd3 nd4 nd5 nd6 nd7 B8 B12 (fun k => decide (k < 12)) α = _
        unfold rlaw17ni3T5999
        rw [if_pos (by decide)]
      have e6 : rlaw17ni3R loc key vm nd3 nd4 nd5 nd6 nd7 B8 B12 (fun k => decide (k < 12)) α 6999 = row (nd7) 25 #[.int .u32 0, .int .u32 0] := rfl
      have e7 : rlaw17ni3R loc key vm nd3 nd4 nd5 nd6 nd7 B8 B12 (fun k => decide (k < 12)) α 4 = row (α 4) 51 (units key) := rfl
      have e8 : rlaw17ni3R loc key vm nd3 nd4 nd5 nd6 nd7 B8 B12 (fun k => decide (k < 12)) α 5 = row (α 5) 208 #[.slice (some ⟨α 4, 0, none⟩) key.size key.size, .int .i32 0, .bool false, .bool false, .bool false] := rfl
      have e9 : rlaw17ni3R loc key vm nd3 nd4 nd5 nd6 nd7 B8 B12 (fun k => decide (k < 12)) α 8 = row (α 8) 211 #[.int .u32 3, .int .u32 vm, .bool false, .bool false, .bool false] := rfl
      have e10 : rlaw17ni3R loc key vm nd3 nd4 nd5 nd6 nd7 B8 B12 (fun k => decide (k < 12)) α 9 = row (α 9) 71 #[.iface 209 (.pointer (some ⟨α 1009, 0, none⟩)), .int .i32 loc, .slice (some ⟨α 2009, 0, none⟩) 4 4, .int .i32 0, .int .u8 0, .int .u8 0, .bool false, .bool false] := rfl
      have e11 : rlaw17ni3R loc key vm nd3 nd4 nd5 nd6 nd7 B8 B12 (fun k => decide (k < 12)) α 1009 = row (α 1009) 211 #[.int .u32 0, .int .u32 1, .bool false, .bool false, .bool false] := rfl
      have e12 : rlaw17ni3R loc key vm nd3 nd4 nd5 nd6 nd7 B8 B12 (fun k => decide (k < 12)) α 2009 = row (α 2009) 35 #[.iface 225 (.pointer (some ⟨α 5009, 0, none⟩)), .int .i32 loc, .iface 237 (.pointer (some ⟨α 4009, 0, none⟩)), .int .i32 loc, .iface 206 (.pointer (some ⟨α 5, 0, none⟩)), .int .i32 loc, .iface 209 (.pointer (some ⟨α 8, 0, none⟩)), .int .i32 loc] := rfl
      have e13 : rlaw17ni3R loc key vm nd3 nd4 nd5 nd6 nd7 B8 B12 (fun k => decide (k < 12)) α 3009 = row (α 3009) 211 #[.int .u32 0, .int .u32 0, .bool false, .bool false, .bool false] := rfl
      have e14 : rlaw17ni3R loc key vm nd3 nd4 nd5 nd6 nd7 B8 B12 (fun k => decide (k < 12)) α 4009 = row (α 4009) 241 #[] := rfl
      have e15 : rlaw17ni3R loc key vm nd3 nd4 nd5 nd6 nd7 B8 B12 (fun k => decide (k < 12)) α 5009 = row (α 5009) 228 #[.iface 209 (.pointer (some ⟨α 3009, 0, none⟩)), .int .i32 loc, .string ⟨#[112, 114, 111, 116, 111, 116, 121, 112, 101]⟩, .int .i32 loc, .int .u8 0, .bool false, .bool false, .bool false] := rfl
      have e16 : rlaw17ni3R loc key vm nd3 nd4 nd5 nd6 nd7 B8 B12 (fun k => decide (k < 12)) α 6009 = row (α 6009) 25 (full refZ ([.int .u32 0, .int .u32 1]) (α 9009)) := rfl
      have e17 : rlaw17ni3R loc key vm nd3 nd4 nd5 nd6 nd7 B8 B12 (fun k => decide (k < 12)) α 10 = row (α 10) 35 #[.iface 65 (.pointer (some ⟨α 9, 0, none⟩)), .int .i32 loc] := by
        show rlaw17ni3T10 loc key vm nd3 nd4 nd5 nd6 nd7 B8 B12 (fun k => decide (k < 12)) α = _
        unfold rlaw17ni3T10
        rw [if_pos (by decide)]
      have hO : Own w0 u [row (B12) 25 #[.int .u32 3, .int .u32 vm], row (B8) 31 #[.int .i32 loc], row (α 7009) 56 (full symZ (symL ([sy ⟨#[70, 111, 111]⟩ 1, sy ⟨#[95, 95, 115, 117, 112, 101, 114, 83, 101, 116]⟩ 1])) (α 8009)), row (nd4) 193 ((newSfftP nd3 nd5 nd6 nd7).setIfInBounds 106 (.slice (some ⟨α 7009, 0, none⟩) 2 (2 + (α 8009)))), ((nd5, .map #[⟨.string ⟨#[95, 95, 115, 117, 112, 101, 114, 83, 101, 116]⟩, .agg #[.int .i32 loc, .int .u32 0, .int .u32 1], 0⟩] 1) : Rw), row (nd6) 203 (#[.pointer none, .pointer none, .slice none 0 0, .map none, .slice none 0 0, .slice none 0 0, .int .i32 0, .int .i32 0, .int .u32 0, .int .u32 0, .bool false, .bool false, .bool false, .bool false, .int .u8 0, .int .u8 6].setIfInBounds 5 (.slice (some ⟨α 6009, 0, none⟩) 1 (1 + (α 9009)))), row (nd7) 25 #[.int .u32 0, .int .u32 0], row (α 4) 51 (units key), row (α 5) 208 #[.slice (some ⟨α 4, 0, none⟩) key.size key.size, .int .i32 0, .bool false, .bool false, .bool false], row (α 8) 211 #[.int .u32 3, .int .u32 vm, .bool false, .bool false, .bool false], row (α 9) 71 #[.iface 209 (.pointer (some ⟨α 1009, 0, none⟩)), .int .i32 loc, .slice (some ⟨α 2009, 0, none⟩) 4 4, .int .i32 0, .int .u8 0, .int .u8 0, .bool false, .bool false], row (α 1009) 211 #[.int .u32 0, .int .u32 1, .bool false, .bool false, .bool false], row (α 2009) 35 #[.iface 225 (.pointer (some ⟨α 5009, 0, none⟩)), .int .i32 loc, .iface 237 (.pointer (some ⟨α 4009, 0, none⟩)), .int .i32 loc, .iface 206 (.pointer (some ⟨α 5, 0, none⟩)), .int .i32 loc, .iface 209 (.pointer (some ⟨α 8, 0, none⟩)), .int .i32 loc], row (α 3009) 211 #[.int .u32 0, .int .u32 0, .bool false, .bool false, .bool false], row (α 4009) 241 #[], row (α 5009) 228 #[.iface 209 (.pointer (some ⟨α 3009, 0, none⟩)), .int .i32 loc, .string ⟨#[112, 114, 111, 116, 111, 116, 121, 112, 101]⟩, .int .i32 loc, .int .u8 0, .bool false, .bool false, .bool false], row (α 6009) 25 (full refZ ([.int .u32 0, .int .u32 1]) (α 9009)), row (α 10) 35 #[.iface 65 (.pointer (some ⟨α 9, 0, none⟩)), .int .i32 loc]] X9_14 := (hG.list [999, 1999, 2999, 3999, 4999, 5999, 6999, 4, 5, 8, 9, 1009, 2009, 3009, 4009, 5009, 6009, 10] (by decide) (act_all (by decide))).conv (by
        show [rlaw17ni3R loc key vm nd3 nd4 nd5 nd6 nd7 B8 B12 (fun k => decide (k < 12)) α 999, rlaw17ni3R loc key vm nd3 nd4 nd5 nd6 nd7 B8 B12 (fun k => decide (k < 12)) α 1999, rlaw17ni3R loc key vm nd3 nd4 nd5 nd6 nd7 B8 B12 (fun k => decide (k < 12)) α 2999, rlaw17ni3R loc key vm nd3 nd4 nd5 nd6 nd7 B8 B12 (fun k => decide (k < 12)) α 3999, rlaw17ni3R loc key vm nd3 nd4 nd5 nd6 nd7 B8 B12 (fun k => decide (k < 12)) α 4999, rlaw17ni3R loc key vm nd3 nd4 nd5 nd6 nd7 B8 B12 (fun k => decide (k < 12)) α 5999, rlaw17ni3R loc key vm nd3 nd4 nd5 nd6 nd7 B8 B12 (fun k => decide (k < 12)) α 6999, rlaw17ni3R loc key vm nd3 nd4 nd5 nd6 nd7 B8 B12 (fun k => decide (k < 12)) α 4, rlaw17ni3R loc key vm nd3 nd4 nd5 nd6 nd7 B8 B12 (fun k => decide (k < 12)) α 5, rlaw17ni3R loc key vm nd3 nd4 nd5 nd6 nd7 B8 B12 (fun k => decide (k < 12)) α 8, rlaw17ni3R loc key vm nd3 nd4 nd5 nd6 nd7 B8 B12 (fun k => decide (k < 12)) α 9, rlaw17ni3R loc key vm nd3 nd4 nd5 nd6 nd7 B8 B12 (fun k => decide (k < 12)) α 1009, rlaw17ni3R loc key vm nd3 nd4 nd5 nd6 nd7 B8 B12 (fun k => decide (k < 12)) α 2009, rlaw17ni3R loc key vm nd3 nd4 nd5 nd6 nd7 B8 B12 (fun k => decide (k < 12)) α 3009, rlaw17ni3R loc key vm nd3 nd4 nd5 nd6 nd7 B8 B12 (fun k => decide (k < 12)) α 4009, rlaw17ni3R loc key vm nd3 nd4 nd5 nd6 nd7 B8 B12 (fun k => decide (k < 12)) α 5009, rlaw17ni3R loc key vm nd3 nd4 nd5 nd6 nd7 B8 B12 (fun k => decide (k < 12)) α 6009, rlaw17ni3R loc key vm nd3 nd4 nd5 nd6 nd7 B8 B12 (fun k => decide (k < 12)) α 10] = _
        rw [e0, e1, e2, e3, e4, e5, e6, e7, e8, e9, e10, e11, e12, e13, e14, e15, e16, e17])
      clear hG e0 e1 e2 e3 e4 e5 e6 e7 e8 e9 e10 e11 e12 e13 e14 e15 e16 e17
      generalize hfr : Rega.frameAt _ _ _ _ _ = fr
      have hdf : fr = ⟨#[.int .i32 loc, .string key, .bool false, .bool false, .int .u32 vm, undef, undef, undef, undef, undef, .bool false, .pointer (some ⟨B1, 0, none⟩), .pointer (some ⟨nd4, 0, none⟩), .pointer (some ⟨B8, 0, none⟩), .slice (some ⟨nd11, 0, none⟩) key.size key.size, .pointer (some ⟨B12, 0, none⟩), .pointer (some ⟨α 10, 0, none⟩), undef, undef, undef, undef, undef, undef, undef, .int .i32 loc, .string key, .bool false, .bool false, .int .u32 vm, .bool true, .bool false, .string key, .int .i64 (key.size : Int), .bool (decide (65536 < (key.size : Int))), .agg #[.int .u32 0, .int .u32 0], .slice (some ⟨nd3, 0, none⟩) 1 1, .agg #[.int .u32 0, .int .u32 0], .bool false, .bool false, .pointer (some ⟨nd4, 0, none⟩), .int .i32 loc, .agg #[.int .i32 loc], .string key, .slice (some ⟨nd11, 0, none⟩) key.size key.size, .int .u32 vm, .agg #[.int .u32 3, .int .u32 vm], .pointer (some ⟨nd4, 0, none⟩), .agg #[.int .i32 loc], .int .i32 loc, .string key, .slice (some ⟨α 4, 0, none⟩) key.size key.size, .agg #[.iface 206 (.pointer (some ⟨α 5, 0, none⟩)), .int .i32 loc], .int .i32 loc, .agg #[.int .u32 3, .int .u32 vm], .agg #[.iface 209 (.pointer (some ⟨α 8, 0, none⟩)), .int .i32 loc], .agg #[.iface 65 (.pointer (some ⟨α 9, 0, none⟩)), .int .i32 loc], undef, undef, undef, undef, undef, undef, undef, undef, undef, undef, undef, undef, undef, undef, undef, undef, undef, undef, undef, undef, undef, undef, undef, undef, undef, undef, undef, undef, undef, undef, undef, undef, undef, undef, undef, undef, undef, undef, undef, undef, undef, undef, undef, undef, undef, undef, undef, undef, undef, undef, undef, undef, undef, undef, undef, undef, undef, undef, undef, undef, undef, undef, undef, undef, undef, undef, undef, undef, undef, undef, undef, undef, undef, undef, undef, undef, undef, undef, undef, undef, undef, undef, undef, undef, undef, undef, undef, undef, undef, undef, undef], []⟩ := by rw [← hfr]; kernel_rfl
      clear hfr
      subst hdf
      generalize α 4 = nd15 at hO ⊢
      generalize α 5 = nd16 at hO ⊢
      generalize α 8 = nd17 at hO ⊢
      generalize α 9 = nd18 at hO ⊢
      generalize α 10 = nd19 at hO ⊢
      generalize α 1009 = nd20 at hO ⊢
      generalize α 2009 = nd21 at hO ⊢
      generalize α 3009 = nd22 at hO ⊢
      generalize α 4009 = nd23 at hO ⊢
      generalize α 5009 = nd24 at hO ⊢
      generalize α 6009 = nd25 at hO ⊢
      generalize α 7009 = nd26 at hO ⊢
      generalize α 8009 = nd27 at hO ⊢
      generalize α 9009 = nd28 at hO ⊢
      clear α
      subst hX9_14
      have hN : Own w0 u [row (B12) 25 #[.int .u32 3, .int .u32 vm], row (B8) 31 #[.int .i32 loc], row (nd26) 56 (full symZ (symL ([sy ⟨#[70, 111, 111]⟩ 1, sy ⟨#[95, 95, 115, 117, 112, 101, 114, 83, 101, 116]⟩ 1])) (nd27)), row (nd4) 193 ((newSfftP nd3 nd5 nd6 nd7).setIfInBounds 106 (.slice (some ⟨nd26, 0, none⟩) 2 (2 + (nd27)))), ((nd5, .map #[⟨.string ⟨#[95, 95, 115, 117, 112, 101, 114, 83, 101, 116]⟩, .agg #[.int .i32 loc, .int .u32 0, .int .u32 1], 0⟩] 1) : Rw), row (nd6) 203 (#[.pointer none, .pointer none, .slice none 0 0, .map none, .slice none 0 0, .slice none 0 0, .int .i32 0, .int .i32 0, .int .u32 0, .int .u32 0, .bool false, .bool false, .bool false, .bool false, .int .u8 0, .int .u8 6].setIfInBounds 5 (.slice (some ⟨nd25, 0, none⟩) 1 (1 + (nd28)))), row (nd7) 25 #[.int .u32 0, .int .u32 0], row (nd15) 51 (units key), row (nd16) 208 #[.slice (some ⟨nd15, 0, none⟩) key.size key.size, .int .i32 0, .bool false, .bool false, .bool false], row (nd17) 211 #[.int .u32 3, .int .u32 vm, .bool false, .bool false, .bool false], row (nd18) 71 #[.iface 209 (.pointer (some ⟨nd20, 0, none⟩)), .int .i32 loc, .slice (some ⟨nd21, 0, none⟩) 4 4, .int .i32 0, .int .u8 0, .int .u8 0, .bool false, .bool false], row (nd20) 211 #[.int .u32 0, .int .u32 1, .bool false, .bool false, .bool false], row (nd21) 35 #[.iface 225 (.pointer (some ⟨nd24, 0, none⟩)), .int .i32 loc, .iface 237 (.pointer (some ⟨nd23, 0, none⟩)), .int .i32 loc, .iface 206 (.pointer (some ⟨nd16, 0, none⟩)), .int .i32 loc, .iface 209 (.pointer (some ⟨nd17, 0, none⟩)), .int .i32 loc], row (nd22) 211 #[.int .u32 0, .int .u32 0, .bool false, .bool false, .bool false], row (nd23) 241 #[], row (nd24) 228 #[.iface 209 (.pointer (some ⟨nd22, 0, none⟩)), .int .i32 loc, .string ⟨#[112, 114, 111, 116, 111, 116, 121, 112, 101]⟩, .int .i32 loc, .int .u8 0, .bool false, .bool false, .bool false], row (nd25) 25 (full refZ ([.int .u32 0, .int .u32 1]) (nd28)), row (nd19) 35 #[.iface 65 (.pointer (some ⟨nd18, 0, none⟩)), .int .i32 loc], row (nd11) 51 (units key), row (B1) 25 #[.int .u32 0, .int .u32 0]] X := hO.back HL.out HX.out [1, 3] (by decide) (by decide)
      clear hO HL HX
      have hO := hN
      clear hN
      have hN : Own w0 u [row (B12) 25 #[.int .u32 3, .int .u32 vm], row (B8) 31 #[.int .i32 loc], row (nd26) 56 (full symZ (symL ([sy ⟨#[70, 111, 111]⟩ 1, sy ⟨#[95, 95, 115, 117, 112, 101, 114, 83, 101, 116]⟩ 1])) (nd27)), row (nd4) 193 ((newSfftP nd3 nd5 nd6 nd7).setIfInBounds 106 (.slice (some ⟨nd26, 0, none⟩) 2 (2 + (nd27)))), ((nd5, .map #[⟨.string ⟨#[95, 95, 115, 117, 112, 101, 114, 83, 101, 116]⟩, .agg #[.int .i32 loc, .int .u32 0, .int .u32 1], 0⟩] 1) : Rw), row (nd6) 203 (#[.pointer none, .pointer none, .slice none 0 0, .map none, .slice none 0 0, .slice none 0 0, .int .i32 0, .int .i32 0, .int .u32 0, .int .u32 0, .bool false, .bool false, .bool false, .bool false, .int .u8 0, .int .u8 6].setIfInBounds 5 (.slice (some ⟨nd25, 0, none⟩) 1 (1 + (nd28)))), row (nd7) 25 #[.int .u32 0, .int .u32 0], row (nd15) 51 (units key), row (nd16) 208 #[.slice (some ⟨nd15, 0, none⟩) key.size key.size, .int .i32 0, .bool false, .bool false, .bool false], row (nd17) 211 #[.int .u32 3, .int .u32 vm, .bool false, .bool false, .bool false], row (nd18) 71 #[.iface 209 (.pointer (some ⟨nd20, 0, none⟩)), .int .i32 loc, .slice (some ⟨nd21, 0, none⟩) 4 4, .int .i32 0, .int .u8 0, .int .u8 0, .bool false, .bool false], row (nd20) 211 #[.int .u32 0, .int .u32 1, .bool false, .bool false, .bool false], row (nd21) 35 #[.iface 225 (.pointer (some ⟨nd24, 0, none⟩)), .int .i32 loc, .iface 237 (.pointer (some ⟨nd23, 0, none⟩)), .int .i32 loc, .iface 206 (.pointer (some ⟨nd16, 0, none⟩)), .int .i32 loc, .iface 209 (.pointer (some ⟨nd17, 0, none⟩)), .int .i32 loc], row (nd22) 211 #[.int .u32 0, .int .u32 0, .bool false, .bool false, .bool false], row (nd23) 241 #[], row (nd24) 228 #[.iface 209 (.pointer (some ⟨nd22, 0, none⟩)), .int .i32 loc, .string ⟨#[112, 114, 111, 116, 111, 116, 121, 112, 101]⟩, .int .i32 loc, .int .u8 0, .bool false, .bool false, .bool false], row (nd25) 25 (full refZ [.int .u32 0, .int .u32 1] (nd28)), row (nd19) 35 #[.iface 65 (.pointer (some ⟨nd18, 0, none⟩)), .int .i32 loc], row (nd11) 51 (units key), row (B1) 25 #[.int .u32 0, .int .u32 0]] X := hO
      clear hO
      have hO := hN
      clear hN
      obtain ⟨ix9, hix9, hax9, hjx9⟩ := hO.ix
      have ix9_0 : ix9 B12 = 0 := hjx9 0 _ _ rfl
      have ix9_1 : ix9 B8 = 1 := hjx9 1 _ _ rfl
      have ix9_2 : ix9 nd26 = 2 := hjx9 2 _ _ rfl
      have ix9_3 : ix9 nd4 = 3 := hjx9 3 _ _ rfl
      have ix9_4 : ix9 nd5 = 4 := hjx9 4 _ _ rfl
      have ix9_5 : ix9 nd6 = 5 := hjx9 5 _ _ rfl
      have ix9_6 : ix9 nd7 = 6 := hjx9 6 _ _ rfl
      have ix9_7 : ix9 nd15 = 7 := hjx9 7 _ _ rfl
      have ix9_8 : ix9 nd16 = 8 := hjx9 8 _ _ rfl
      have ix9_9 : ix9 nd17 = 9 := hjx9 9 _ _ rfl
      have ix9_10 : ix9 nd18 = 10 := hjx9 10 _ _ rfl
      have ix9_11 : ix9 nd20 = 11 := hjx9 11 _ _ rfl
      have ix9_12 : ix9 nd21 = 12 := hjx9 12 _ _ rfl
      have ix9_13 : ix9 nd22 = 13 := hjx9 13 _ _ rfl
      have ix9_14 : ix9 nd23 = 14 := hjx9 14 _ _ rfl
      have ix9_15 : ix9 nd24 = 15 := hjx9 15 _ _ rfl
      have ix9_16 : ix9 nd25 = 16 := hjx9 16 _ _ rfl
      have ix9_17 : ix9 nd19 = 17 := hjx9 17 _ _ rfl
      have ix9_18 : ix9 nd11 = 18 := hjx9 18 _ _ rfl
      have ix9_19 : ix9 B1 = 19 := hjx9 19 _ _ rfl
      clear hjx9
      obtain ⟨c9_0_0, c9_0_1, lt9_0, y9_0, pl9_0⟩ := hO.k2 0 rfl
      obtain ⟨c9_1_0, lt9_1, y9_1, -⟩ := hO.k1 1 rfl
      have c9_2_1 : u.cell? ⟨nd26, 1, none⟩ = some (.string ⟨#[70, 111, 111]⟩) := hO.cell 2 rfl 1 ((full_at rfl))
      have c9_2_4 : u.cell? ⟨nd26, 4, none⟩ = some (.int .u32 1) := hO.cell 2 rfl 4 ((full_at rfl))
      have c9_2_11 : u.cell? ⟨nd26, 11, none⟩ = some (.string ⟨#[95, 95, 115, 117, 112, 101, 114, 83, 101, 116]⟩) := hO.cell 2 rfl 11 ((full_at rfl))
      have c9_2_14 : u.cell? ⟨nd26, 14, none⟩ = some (.int .u32 1) := hO.cell 2 rfl 14 ((full_at rfl))
      have lt9_2 : nd26 < u.heap.size := hO.lt 2 rfl
      have y9_2 : ∀ o, u.frozen? ⟨nd26, o, none⟩ = false := hO.free 2 rfl
      have c9_3_32 : u.cell? ⟨nd4, 32, none⟩ = some (.bool false) := hO.cell 3 rfl 32 ((get_other (newSfft_32 (nd3) (nd5) (nd6) (nd7)) (by omega) _))
      have c9_3_66 : u.cell? ⟨nd4, 66, none⟩ = some (.int .u32 0) := hO.cell 3 rfl 66 ((get_other (newSfft_66 (nd3) (nd5) (nd6) (nd7)) (by omega) _))
      have c9_3_95 : u.cell? ⟨nd4, 95, none⟩ = some (.bool false) := hO.cell 3 rfl 95 ((get_other (newSfft_95 (nd3) (nd5) (nd6) (nd7)) (by omega) _))
      have c9_3_96 : u.cell? ⟨nd4, 96, none⟩ = some (.bool false) := hO.cell 3 rfl 96 ((get_other (newSfft_96 (nd3) (nd5) (nd6) (nd7)) (by omega) _))
      have c9_3_97 : u.cell? ⟨nd4, 97, none⟩ = some (.pointer (some ⟨nd7, 0, none⟩)) := hO.cell 3 rfl 97 ((get_other (newSfft_97 (nd3) (nd5) (nd6) (nd7)) (by omega) _))
      have c9_3_105 : u.cell? ⟨nd4, 105, none⟩ = some (.pointer none) := hO.cell 3 rfl 105 ((get_other (newSfft_105 (nd3) (nd5) (nd6) (nd7)) (by omega) _))
      have c9_3_106 : u.cell? ⟨nd4, 106, none⟩ = some (.slice (some ⟨nd26, 0, none⟩) 2 (2 + (nd27))) := hO.cell 3 rfl 106 ((get_set (newSfft_106 (nd3) (nd5) (nd6) (nd7)) _))
      have c9_3_117 : u.cell? ⟨nd4, 117, none⟩ = some (.map (some (nd5))) := hO.cell 3 rfl 117 ((get_other (newSfft_117 (nd3) (nd5) (nd6) (nd7)) (by omega) _))
      have c9_3_187 : u.cell? ⟨nd4, 187, none⟩ = some (.pointer (some ⟨nd6, 0, none⟩)) := hO.cell 3 rfl 187 ((get_other (newSfft_187 (nd3) (nd5) (nd6) (nd7)) (by omega) _))
      have c9_3_338 : u.cell? ⟨nd4, 338, none⟩ = some (.bool true) := hO.cell 3 rfl 338 ((get_other (newSfft_338 (nd3) (nd5) (nd6) (nd7)) (by omega) _))
      have c9_3_350 : u.cell? ⟨nd4, 350, none⟩ = some (.bool false) := hO.cell 3 rfl 350 ((get_other (newSfft_350 (nd3) (nd5) (nd6) (nd7)) (by omega) _))
      have lt9_3 : nd4 < u.heap.size := hO.lt 3 rfl
      have y9_3 : ∀ o, u.frozen? ⟨nd4, o, none⟩ = false := hO.free 3 rfl
      obtain ⟨c9_6_0, c9_6_1, lt9_6, y9_6, pl9_6⟩ := hO.k2 6 rfl
      have pl9_7 : Base.plainAt u (nd15) = true := hO.plain 7 rfl
      obtain ⟨c9_8_0, c9_8_1, c9_8_2, c9_8_3, c9_8_4, lt9_8, y9_8, -⟩ := hO.k5 8 rfl
      obtain ⟨c9_9_0, c9_9_1, c9_9_2, c9_9_3, c9_9_4, lt9_9, y9_9, pl9_9⟩ := hO.k5 9 rfl
      obtain ⟨c9_10_0, c9_10_1, c9_10_2, c9_10_3, c9_10_4, c9_10_5, c9_10_6, c9_10_7, lt9_10, y9_10, -⟩ := hO.k8 10 rfl
      obtain ⟨c9_11_0, c9_11_1, c9_11_2, c9_11_3, c9_11_4, lt9_11, y9_11, pl9_11⟩ := hO.k5 11 rfl
      obtain ⟨c9_12_0, c9_12_1, c9_12_2, c9_12_3, c9_12_4, c9_12_5, c9_12_6, c9_12_7, lt9_12, y9_12, pl9_12⟩ := hO.k8 12 rfl
      obtain ⟨c9_13_0, c9_13_1, c9_13_2, c9_13_3, c9_13_4, lt9_13, y9_13, pl9_13⟩ := hO.k5 13 rfl
      obtain ⟨lt9_14, y9_14, -⟩ := hO.k0 14 rfl
      obtain ⟨c9_15_0, c9_15_1, c9_15_2, c9_15_3, c9_15_4, c9_15_5, c9_15_6, c9_15_7, lt9_15, y9_15, -⟩ := hO.k8 15 rfl
      have pl9_16 : Base.plainAt u (nd25) = true := hO.plain 16 rfl
      have c9_16_0 : u.cell? ⟨nd25, 0, none⟩ = some (.int .u32 0) := hO.cell 16 rfl 0 ((full_at rfl))
      have c9_16_1 : u.cell? ⟨nd25, 1, none⟩ = some (.int .u32 1) := hO.cell 16 rfl 1 ((full_at rfl))
      have lt9_16 : nd25 < u.heap.size := hO.lt 16 rfl
      have y9_16 : ∀ o, u.frozen? ⟨nd25, o, none⟩ = false := hO.free 16 rfl
      obtain ⟨c9_17_0, c9_17_1, lt9_17, y9_17, pl9_17⟩ := hO.k2 17 rfl
      have pl9_18 : Base.plainAt u (nd11) = true := hO.plain 18 rfl
      obtain ⟨c9_19_0, c9_19_1, lt9_19, y9_19, pl9_19⟩ := hO.k2 19 rfl
      have HO := Lib.hid hO
      clear hO
      go_wp2_with (first | (with_reducible refine Own.stay (fn := Tryd.f5) ?_) | (first | (go_at_call 22; go_in)))
      try with_reducible refine Own.Stay.mk ?_
      have hO := HO.out
      clear HO hix9 hax9 ix9_0 ix9_1 ix9_2 ix9_3 ix9_4 ix9_5 ix9_6 ix9_7 ix9_8 ix9_9 ix9_10 ix9_11 ix9_12 ix9_13 ix9_14 ix9_15 ix9_16 ix9_17 ix9_18 ix9_19 ix9 c9_0_0 c9_0_1 lt9_0 y9_0 pl9_0 c9_1_0 lt9_1 y9_1 c9_2_1 c9_2_4 c9_2_11 c9_2_14 lt9_2 y9_2 c9_3_32 c9_3_66 c9_3_95 c9_3_96 c9_3_97 c9_3_105 c9_3_106 c9_3_117 c9_3_187 c9_3_338 c9_3_350 lt9_3 y9_3 c9_6_0 c9_6_1 lt9_6 y9_6 pl9_6 pl9_7 c9_8_0 c9_8_1 c9_8_2 c9_8_3 c9_8_4 lt9_8 y9_8 c9_9_0 c9_9_1 c9_9_2 c9_9_3 c9_9_4 lt9_9 y9_9 pl9_9 c9_10_0 c9_10_1 c9_10_2 c9_10_3 c9_10_4 c9_10_5 c9_10_6 c9_10_7 lt9_10 y9_10 c9_11_0 c9_11_1 c9_11_2 c9_11_3 c9_11_4 lt9_11 y9_11 pl9_11 c9_12_0 c9_12_1 c9_12_2 c9_12_3 c9_12_4 c9_12_5 c9_12_6 c9_12_7 lt9_12 y9_12 pl9_12 c9_13_0 c9_13_1 c9_13_2 c9_13_3 c9_13_4 lt9_13 y9_13 pl9_13 lt9_14 y9_14 c9_15_0 c9_15_1 c9_15_2 c9_15_3 c9_15_4 c9_15_5 c9_15_6 c9_15_7 lt9_15 y9_15 pl9_16 c9_16_0 c9_16_1 lt9_16 y9_16 c9_17_0 c9_17_1 lt9_17 y9_17 pl9_17 pl9_18 c9_19_0 c9_19_1 lt9_19 y9_19 pl9_19
      have hL := hO.apart
      have hX := hO.apartX
      have HL := Lib.hid hL
      have HX := Lib.hid hX
      clear hL hX
      have hP9 := hO.pick [3, 4] (by decide)
      have h9_hyes : Instr.findNow .string (.string (⟨#[95, 95, 115, 117, 112, 101, 114, 83, 101, 116]⟩ : ByteArray)) (#[⟨.string ⟨#[95, 95, 115, 117, 112, 101, 114, 83, 101, 116]⟩, .agg #[.int .i32 loc, .int .u32 0, .int .u32 1], 0⟩] : Array MapEntry).toList 0 = some (some (0, .agg #[.int .i32 loc, .int .u32 0, .int .u32 1])) := (by kernel_rfl)
      have T9 := impRefY nd4 ((newSfftP nd3 nd5 nd6 nd7).setIfInBounds 106 (.slice (some ⟨nd26, 0, none⟩) 2 (2 + nd27))) nd5 #[⟨.string ⟨#[95, 95, 115, 117, 112, 101, 114, 83, 101, 116]⟩, .agg #[.int .i32 loc, .int .u32 0, .int .u32 1], 0⟩] 1 ⟨#[95, 95, 115, 117, 112, 101, 114, 83, 101, 116]⟩ 0 loc 0 1 _ _ _ hP9 (get_other (newSfft_117 (nd3) (nd5) (nd6) (nd7)) (by omega) _) h9_hyes
      refine Calls.mono T9 ?_
      clear hP9 T9 h9_hyes
      rintro e u29 ⟨rfl, hQ⟩
      have hN : Own w0 u29 [row (nd4) 193 ((newSfftP nd3 nd5 nd6 nd7).setIfInBounds 106 (.slice (some ⟨nd26, 0, none⟩) 2 (2 + nd27))), ((nd5, .map #[⟨.string ⟨#[95, 95, 115, 117, 112, 101, 114, 83, 101, 116]⟩, .agg #[.int .i32 loc, .int .u32 0, .int .u32 1], 0⟩] 1) : Rw), row (B12) 25 #[.int .u32 3, .int .u32 vm], row (B8) 31 #[.int .i32 loc], row (nd26) 56 (full symZ (symL ([sy ⟨#[70, 111, 111]⟩ 1, sy ⟨#[95, 95, 115, 117, 112, 101, 114, 83, 101, 116]⟩ 1])) (nd27)), row (nd6) 203 (#[.pointer none, .pointer none, .slice none 0 0, .map none, .slice none 0 0, .slice none 0 0, .int .i32 0, .int .i32 0, .int .u32 0, .int .u32 0, .bool false, .bool false, .bool false, .bool false, .int .u8 0, .int .u8 6].setIfInBounds 5 (.slice (some ⟨nd25, 0, none⟩) 1 (1 + (nd28)))), row (nd7) 25 #[.int .u32 0, .int .u32 0], row (nd15) 51 (units key), row (nd16) 208 #[.slice (some ⟨nd15, 0, none⟩) key.size key.size, .int .i32 0, .bool false, .bool false, .bool false], row (nd17) 211 #[.int .u32 3, .int .u32 vm, .bool false, .bool false, .bool false], row (nd18) 71 #[.iface 209 (.pointer (some ⟨nd20, 0, none⟩)), .int .i32 loc, .slice (some ⟨nd21, 0, none⟩) 4 4, .int .i32 0, .int .u8 0, .int .u8 0, .bool false, .bool false], row (nd20) 211 #[.int .u32 0, .int .u32 1, .bool false, .bool false, .bool false], row (nd21) 35 #[.iface 225 (.pointer (some ⟨nd24, 0, none⟩)), .int .i32 loc, .iface 237 (.pointer (some ⟨nd23, 0, none⟩)), .int .i32 loc, .iface 206 (.pointer (some ⟨nd16, 0, none⟩)), .int .i32 loc, .iface 209 (.pointer (some ⟨nd17, 0, none⟩)), .int .i32 loc], row (nd22) 211 #[.int .u32 0, .int .u32 0, .bool false, .bool false, .bool false], row (nd23) 241 #[], row (nd24) 228 #[.iface 209 (.pointer (some ⟨nd22, 0, none⟩)), .int .i32 loc, .string ⟨#[112, 114, 111, 116, 111, 116, 121, 112, 101]⟩, .int .i32 loc, .int .u8 0, .bool false, .bool false, .bool false], row (nd25) 25 (full refZ [.int .u32 0, .int .u32 1] (nd28)), row (nd19) 35 #[.iface 65 (.pointer (some ⟨nd18, 0, none⟩)), .int .i32 loc], row (nd11) 51 (units key), row (B1) 25 #[.int .u32 0, .int .u32 0]] X := hQ.back HL.out HX.out [0, 1, 2, 5, 6, 7, 8, 9, 10, 11, 12, 13, 14, 15, 16, 17, 18, 19] (by decide) (by decide)
      clear hQ HL HX hO
      have hO := hN
      clear hN
      obtain ⟨ix9, hix9, hax9, hjx9⟩ := hO.ix
      have ix9_0 : ix9 nd4 = 0 := hjx9 0 _ _ rfl
      have ix9_1 : ix9 nd5 = 1 := hjx9 1 _ _ rfl
      have ix9_2 : ix9 B12 = 2 := hjx9 2 _ _ rfl
      have ix9_3 : ix9 B8 = 3 := hjx9 3 _ _ rfl
      have ix9_4 : ix9 nd26 = 4 := hjx9 4 _ _ rfl
      have ix9_5 : ix9 nd6 = 5 := hjx9 5 _ _ rfl
      have ix9_6 : ix9 nd7 = 6 := hjx9 6 _ _ rfl
      have ix9_7 : ix9 nd15 = 7 := hjx9 7 _ _ rfl
      have ix9_8 : ix9 nd16 = 8 := hjx9 8 _ _ rfl
      have ix9_9 : ix9 nd17 = 9 := hjx9 9 _ _ rfl
      have ix9_10 : ix9 nd18 = 10 := hjx9 10 _ _ rfl
      have ix9_11 : ix9 nd20 = 11 := hjx9 11 _ _ rfl
      have ix9_12 : ix9 nd21 = 12 := hjx9 12 _ _ rfl
      have ix9_13 : ix9 nd22 = 13 := hjx9 13 _ _ rfl
      have ix9_14 : ix9 nd23 = 14 := hjx9 14 _ _ rfl
      have ix9_15 : ix9 nd24 = 15 := hjx9 15 _ _ rfl
      have ix9_16 : ix9 nd25 = 16 := hjx9 16 _ _ rfl
      have ix9_17 : ix9 nd19 = 17 := hjx9 17 _ _ rfl
      have ix9_18 : ix9 nd11 = 18 := hjx9 18 _ _ rfl
      have ix9_19 : ix9 B1 = 19 := hjx9 19 _ _ rfl
      clear hjx9
      have c9_0_32 : u29.cell? ⟨nd4, 32, none⟩ = some (.bool false) := hO.cell 0 rfl 32 ((get_other (newSfft_32 (nd3) (nd5) (nd6) (nd7)) (by omega) _))
      have c9_0_66 : u29.cell? ⟨nd4, 66, none⟩ = some (.int .u32 0) := hO.cell 0 rfl 66 ((get_other (newSfft_66 (nd3) (nd5) (nd6) (nd7)) (by omega) _))
      have c9_0_95 : u29.cell? ⟨nd4, 95, none⟩ = some (.bool false) := hO.cell 0 rfl 95 ((get_other (newSfft_95 (nd3) (nd5) (nd6) (nd7)) (by omega) _))
      have c9_0_96 : u29.cell? ⟨nd4, 96, none⟩ = some (.bool false) := hO.cell 0 rfl 96 ((get_other (newSfft_96 (nd3) (nd5) (nd6) (nd7)) (by omega) _))
      have c9_0_97 : u29.cell? ⟨nd4, 97, none⟩ = some (.pointer (some ⟨nd7, 0, none⟩)) := hO.cell 0 rfl 97 ((get_other (newSfft_97 (nd3) (nd5) (nd6) (nd7)) (by omega) _))
      have c9_0_105 : u29.cell? ⟨nd4, 105, none⟩ = some (.pointer none) := hO.cell 0 rfl 105 ((get_other (newSfft_105 (nd3) (nd5) (nd6) (nd7)) (by omega) _))
      have c9_0_106 : u29.cell? ⟨nd4, 106, none⟩ = some (.slice (some ⟨nd26, 0, none⟩) 2 (2 + (nd27))) := hO.cell 0 rfl 106 ((get_set (newSfft_106 (nd3) (nd5) (nd6) (nd7)) _))
      have c9_0_117 : u29.cell? ⟨nd4, 117, none⟩ = some (.map (some (nd5))) := hO.cell 0 rfl 117 ((get_other (newSfft_117 (nd3) (nd5) (nd6) (nd7)) (by omega) _))
      have c9_0_187 : u29.cell? ⟨nd4, 187, none⟩ = some (.pointer (some ⟨nd6, 0, none⟩)) := hO.cell 0 rfl 187 ((get_other (newSfft_187 (nd3) (nd5) (nd6) (nd7)) (by omega) _))
      have c9_0_338 : u29.cell? ⟨nd4, 338, none⟩ = some (.bool true) := hO.cell 0 rfl 338 ((get_other (newSfft_338 (nd3) (nd5) (nd6) (nd7)) (by omega) _))
      have c9_0_350 : u29.cell? ⟨nd4, 350, none⟩ = some (.bool false) := hO.cell 0 rfl 350 ((get_other (newSfft_350 (nd3) (nd5) (nd6) (nd7)) (by omega) _))
      have lt9_0 : nd4 < u29.heap.size := hO.lt 0 rfl
      have y9_0 : ∀ o, u29.frozen? ⟨nd4, o, none⟩ = false := hO.free 0 rfl
      obtain ⟨c9_2_0, c9_2_1, lt9_2, y9_2, pl9_2⟩ := hO.k2 2 rfl
      obtain ⟨c9_3_0, lt9_3, y9_3, -⟩ := hO.k1 3 rfl
      have c9_4_1 : u29.cell? ⟨nd26, 1, none⟩ = some (.string ⟨#[70, 111, 111]⟩) := hO.cell 4 rfl 1 ((full_at rfl))
      have c9_4_4 : u29.cell? ⟨nd26, 4, none⟩ = some (.int .u32 1) := hO.cell 4 rfl 4 ((full_at rfl))
      have c9_4_11 : u29.cell? ⟨nd26, 11, none⟩ = some (.string ⟨#[95, 95, 115, 117, 112, 101, 114, 83, 101, 116]⟩) := hO.cell 4 rfl 11 ((full_at rfl))
      have c9_4_14 : u29.cell? ⟨nd26, 14, none⟩ = some (.int .u32 1) := hO.cell 4 rfl 14 ((full_at rfl))
      have lt9_4 : nd26 < u29.heap.size := hO.lt 4 rfl
      have y9_4 : ∀ o, u29.frozen? ⟨nd26, o, none⟩ = false := hO.free 4 rfl
      obtain ⟨c9_6_0, c9_6_1, lt9_6, y9_6, pl9_6⟩ := hO.k2 6 rfl
      have pl9_7 : Base.plainAt u29 (nd15) = true := hO.plain 7 rfl
      obtain ⟨c9_8_0, c9_8_1, c9_8_2, c9_8_3, c9_8_4, lt9_8, y9_8, -⟩ := hO.k5 8 rfl
      obtain ⟨c9_9_0, c9_9_1, c9_9_2, c9_9_3, c9_9_4, lt9_9, y9_9, pl9_9⟩ := hO.k5 9 rfl
      obtain ⟨c9_10_0, c9_10_1, c9_10_2, c9_10_3, c9_10_4, c9_10_5, c9_10_6, c9_10_7, lt9_10, y9_10, -⟩ := hO.k8 10 rfl
      obtain ⟨c9_11_0, c9_11_1, c9_11_2, c9_11_3, c9_11_4, lt9_11, y9_11, pl9_11⟩ := hO.k5 11 rfl
      obtain ⟨c9_12_0, c9_12_1, c9_12_2, c9_12_3, c9_12_4, c9_12_5, c9_12_6, c9_12_7, lt9_12, y9_12, pl9_12⟩ := hO.k8 12 rfl
      obtain ⟨c9_13_0, c9_13_1, c9_13_2, c9_13_3, c9_13_4, lt9_13, y9_13, pl9_13⟩ := hO.k5 13 rfl
      obtain ⟨lt9_14, y9_14, -⟩ := hO.k0 14 rfl
      obtain ⟨c9_15_0, c9_15_1, c9_15_2, c9_15_3, c9_15_4, c9_15_5, c9_15_6, c9_15_7, lt9_15, y9_15, -⟩ := hO.k8 15 rfl
      have pl9_16 : Base.plainAt u29 (nd25) = true := hO.plain 16 rfl
      have c9_16_0 : u29.cell? ⟨nd25, 0, none⟩ = some (.int .u32 0) := hO.cell 16 rfl 0 ((full_at rfl))
      have c9_16_1 : u29.cell? ⟨nd25, 1, none⟩ = some (.int .u32 1) := hO.cell 16 rfl 1 ((full_at rfl))
      have lt9_16 : nd25 < u29.heap.size := hO.lt 16 rfl
      have y9_16 : ∀ o, u29.frozen? ⟨nd25, o, none⟩ = false := hO.free 16 rfl
      obtain ⟨c9_17_0, c9_17_1, lt9_17, y9_17, pl9_17⟩ := hO.k2 17 rfl
      have pl9_18 : Base.plainAt u29 (nd11) = true := hO.plain 18 rfl
      obtain ⟨c9_19_0, c9_19_1, lt9_19, y9_19, pl9_19⟩ := hO.k2 19 rfl
      have HO := Lib.hid hO
      clear hO
      go_wp2_with (first | (with_reducible refine Own.stay (fn := Tryd.f5) ?_) | (first | (go_at_call 22; go_in)))
      try with_reducible refine Own.Stay.mk ?_
      have hO := HO.out
      clear HO hix9 hax9 ix9_0 ix9_1 ix9_2 ix9_3 ix9_4 ix9_5 ix9_6 ix9_7 ix9_8 ix9_9 ix9_10 ix9_11 ix9_12 ix9_13 ix9_14 ix9_15 ix9_16 ix9_17 ix9_18 ix9_19 ix9 c9_0_32 c9_0_66 c9_0_95 c9_0_96 c9_0_97 c9_0_105 c9_0_106 c9_0_117 c9_0_187 c9_0_338 c9_0_350 lt9_0 y9_0 c9_2_0 c9_2_1 lt9_2 y9_2 pl9_2 c9_3_0 lt9_3 y9_3 c9_4_1 c9_4_4 c9_4_11 c9_4_14 lt9_4 y9_4 c9_6_0 c9_6_1 lt9_6 y9_6 pl9_6 pl9_7 c9_8_0 c9_8_1 c9_8_2 c9_8_3 c9_8_4 lt9_8 y9_8 c9_9_0 c9_9_1 c9_9_2 c9_9_3 c9_9_4 lt9_9 y9_9 pl9_9 c9_10_0 c9_10_1 c9_10_2 c9_10_3 c9_10_4 c9_10_5 c9_10_6 c9_10_7 lt9_10 y9_10 c9_11_0 c9_11_1 c9_11_2 c9_11_3 c9_11_4 lt9_11 y9_11 pl9_11 c9_12_0 c9_12_1 c9_12_2 c9_12_3 c9_12_4 c9_12_5 c9_12_6 c9_12_7 lt9_12 y9_12 pl9_12 c9_13_0 c9_13_1 c9_13_2 c9_13_3 c9_13_4 lt9_13 y9_13 pl9_13 lt9_14 y9_14 c9_15_0 c9_15_1 c9_15_2 c9_15_3 c9_15_4 c9_15_5 c9_15_6 c9_15_7 lt9_15 y9_15 pl9_16 c9_16_0 c9_16_1 lt9_16 y9_16 c9_17_0 c9_17_1 lt9_17 y9_17 pl9_17 pl9_18 c9_19_0 c9_19_1 lt9_19 y9_19 pl9_19
      generalize hW : World.alloc _ _ = W31
      have hN : Own w0 W31 [row (u29.heap.size) 25 #[.int .u32 0, .int .u32 1], row (nd4) 193 ((newSfftP nd3 nd5 nd6 nd7).setIfInBounds 106 (.slice (some ⟨nd26, 0, none⟩) 2 (2 + nd27))), ((nd5, .map #[⟨.string ⟨#[95, 95, 115, 117, 112, 101, 114, 83, 101, 116]⟩, .agg #[.int .i32 loc, .int .u32 0, .int .u32 1], 0⟩] 1) : Rw), row (B12) 25 #[.int .u32 3, .int .u32 vm], row (B8) 31 #[.int .i32 loc], row (nd26) 56 (full symZ (symL ([sy ⟨#[70, 111, 111]⟩ 1, sy ⟨#[95, 95, 115, 117, 112, 101, 114, 83, 101, 116]⟩ 1])) (nd27)), row (nd6) 203 (#[.pointer none, .pointer none, .slice none 0 0, .map none, .slice none 0 0, .slice none 0 0, .int .i32 0, .int .i32 0, .int .u32 0, .int .u32 0, .bool false, .bool false, .bool false, .bool false, .int .u8 0, .int .u8 6].setIfInBounds 5 (.slice (some ⟨nd25, 0, none⟩) 1 (1 + (nd28)))), row (nd7) 25 #[.int .u32 0, .int .u32 0], row (nd15) 51 (units key), row (nd16) 208 #[.slice (some ⟨nd15, 0, none⟩) key.size key.size, .int .i32 0, .bool false, .bool false, .bool false], row (nd17) 211 #[.int .u32 3, .int .u32 vm, .bool false, .bool false, .bool false], row (nd18) 71 #[.iface 209 (.pointer (some ⟨nd20, 0, none⟩)), .int .i32 loc, .slice (some ⟨nd21, 0, none⟩) 4 4, .int .i32 0, .int .u8 0, .int .u8 0, .bool false, .bool false], row (nd20) 211 #[.int .u32 0, .int .u32 1, .bool false, .bool false, .bool false], row (nd21) 35 #[.iface 225 (.pointer (some ⟨nd24, 0, none⟩)), .int .i32 loc, .iface 237 (.pointer (some ⟨nd23, 0, none⟩)), .int .i32 loc, .iface 206 (.pointer (some ⟨nd16, 0, none⟩)), .int .i32 loc, .iface 209 (.pointer (some ⟨nd17, 0, none⟩)), .int .i32 loc], row (nd22) 211 #[.int .u32 0, .int .u32 0, .bool false, .bool false, .bool false], row (nd23) 241 #[], row (nd24) 228 #[.iface 209 (.pointer (some ⟨nd22, 0, none⟩)), .int .i32 loc, .string ⟨#[112, 114, 111, 116, 111, 116, 121, 112, 101]⟩, .int .i32 loc, .int .u8 0, .bool false, .bool false, .bool false], row (nd25) 25 (full refZ [.int .u32 0, .int .u32 1] (nd28)), row (nd19) 35 #[.iface 65 (.pointer (some ⟨nd18, 0, none⟩)), .int .i32 loc], row (nd11) 51 (units key), row (B1) 25 #[.int .u32 0, .int .u32 0]] X := by
        rw [← hW]
        exact (hO).alloc' _ (u29.heap.size) (by simp)
      clear hW hO
      generalize u29.heap.size = B30 at hN ⊢
      have hO := hN
      clear hN
      have hL := hO.apart
      have hX := hO.apartX
      have HL := Lib.hid hL
      have HX := Lib.hid hX
      clear hL hX
      have hP9 := hO.pick [1, 2] (by decide)
      have h9_hsz : (#[⟨.string ⟨#[95, 95, 115, 117, 112, 101, 114, 83, 101, 116]⟩, .agg #[.int .i32 loc, .int .u32 0, .int .u32 1], 0⟩] : Array MapEntry).size = 1 := rfl
      have T9 := impCnt nd4 ((newSfftP nd3 nd5 nd6 nd7).setIfInBounds 106 (.slice (some ⟨nd26, 0, none⟩) 2 (2 + nd27))) nd5 #[⟨.string ⟨#[95, 95, 115, 117, 112, 101, 114, 83, 101, 116]⟩, .agg #[.int .i32 loc, .int .u32 0, .int .u32 1], 0⟩] 1 1 _ _ _ hP9 (get_other (newSfft_117 (nd3) (nd5) (nd6) (nd7)) (by omega) _) h9_hsz
      refine Calls.mono T9 ?_
      clear hP9 T9 h9_hsz
      rintro e u32 ⟨rfl, hQ⟩
      have hN : Own w0 u32 [row (nd4) 193 ((newSfftP nd3 nd5 nd6 nd7).setIfInBounds 106 (.slice (some ⟨nd26, 0, none⟩) 2 (2 + nd27))), ((nd5, .map #[⟨.string ⟨#[95, 95, 115, 117, 112, 101, 114, 83, 101, 116]⟩, .agg #[.int .i32 loc, .int .u32 0, .int .u32 1], 0⟩] 1) : Rw), row (B30) 25 #[.int .u32 0, .int .u32 1], row (B12) 25 #[.int .u32 3, .int .u32 vm], row (B8) 31 #[.int .i32 loc], row (nd26) 56 (full symZ (symL ([sy ⟨#[70, 111, 111]⟩ 1, sy ⟨#[95, 95, 115, 117, 112, 101, 114, 83, 101, 116]⟩ 1])) (nd27)), row (nd6) 203 (#[.pointer none, .pointer none, .slice none 0 0, .map none, .slice none 0 0, .slice none 0 0, .int .i32 0, .int .i32 0, .int .u32 0, .int .u32 0, .bool false, .bool false, .bool false, .bool false, .int .u8 0, .int .u8 6].setIfInBounds 5 (.slice (some ⟨nd25, 0, none⟩) 1 (1 + (nd28)))), row (nd7) 25 #[.int .u32 0, .int .u32 0], row (nd15) 51 (units key), row (nd16) 208 #[.slice (some ⟨nd15, 0, none⟩) key.size key.size, .int .i32 0, .bool false, .bool false, .bool false], row (nd17) 211 #[.int .u32 3, .int .u32 vm, .bool false, .bool false, .bool false], row (nd18) 71 #[.iface 209 (.pointer (some ⟨nd20, 0, none⟩)), .int .i32 loc, .slice (some ⟨nd21, 0, none⟩) 4 4, .int .i32 0, .int .u8 0, .int .u8 0, .bool false, .bool false], row (nd20) 211 #[.int .u32 0, .int .u32 1, .bool false, .bool false, .bool false], row (nd21) 35 #[.iface 225 (.pointer (some ⟨nd24, 0, none⟩)), .int .i32 loc, .iface 237 (.pointer (some ⟨nd23, 0, none⟩)), .int .i32 loc, .iface 206 (.pointer (some ⟨nd16, 0, none⟩)), .int .i32 loc, .iface 209 (.pointer (some ⟨nd17, 0, none⟩)), .int .i32 loc], row (nd22) 211 #[.int .u32 0, .int .u32 0, .bool false, .bool false, .bool false], row (nd23) 241 #[], row (nd24) 228 #[.iface 209 (.pointer (some ⟨nd22, 0, none⟩)), .int .i32 loc, .string ⟨#[112, 114, 111, 116, 111, 116, 121, 112, 101]⟩, .int .i32 loc, .int .u8 0, .bool false, .bool false, .bool false], row (nd25) 25 (full refZ [.int .u32 0, .int .u32 1] (nd28)), row (nd19) 35 #[.iface 65 (.pointer (some ⟨nd18, 0, none⟩)), .int .i32 loc], row (nd11) 51 (units key), row (B1) 25 #[.int .u32 0, .int .u32 0]] X := hQ.back HL.out HX.out [0, 3, 4, 5, 6, 7, 8, 9, 10, 11, 12, 13, 14, 15, 16, 17, 18, 19, 20] (by decide) (by decide)
      clear hQ HL HX hO
      have hO := hN
      clear hN
      obtain ⟨ix9, hix9, hax9, hjx9⟩ := hO.ix
      have ix9_0 : ix9 nd4 = 0 := hjx9 0 _ _ rfl
      have ix9_1 : ix9 nd5 = 1 := hjx9 1 _ _ rfl
      have ix9_2 : ix9 B30 = 2 := hjx9 2 _ _ rfl
      have ix9_3 : ix9 B12 = 3 := hjx9 3 _ _ rfl
      have ix9_4 : ix9 B8 = 4 := hjx9 4 _ _ rfl
      have ix9_5 : ix9 nd26 = 5 := hjx9 5 _ _ rfl
      have ix9_6 : ix9 nd6 = 6 := hjx9 6 _ _ rfl
      have ix9_7 : ix9 nd7 = 7 := hjx9 7 _ _ rfl
      have ix9_8 : ix9 nd15 = 8 := hjx9 8 _ _ rfl
      have ix9_9 : ix9 nd16 = 9 := hjx9 9 _ _ rfl
      have ix9_10 : ix9 nd17 = 10 := hjx9 10 _ _ rfl
      have ix9_11 : ix9 nd18 = 11 := hjx9 11 _ _ rfl
      have ix9_12 : ix9 nd20 = 12 := hjx9 12 _ _ rfl
      have ix9_13 : ix9 nd21 = 13 := hjx9 13 _ _ rfl
      have ix9_14 : ix9 nd22 = 14 := hjx9 14 _ _ rfl
      have ix9_15 : ix9 nd23 = 15 := hjx9 15 _ _ rfl
      have ix9_16 : ix9 nd24 = 16 := hjx9 16 _ _ rfl
      have ix9_17 : ix9 nd25 = 17 := hjx9 17 _ _ rfl
      have ix9_18 : ix9 nd19 = 18 := hjx9 18 _ _ rfl
      have ix9_19 : ix9 nd11 = 19 := hjx9 19 _ _ rfl
      have ix9_20 : ix9 B1 = 20 := hjx9 20 _ _ rfl
      clear hjx9
      have c9_0_32 : u32.cell? ⟨nd4, 32, none⟩ = some (.bool false) := hO.cell 0 rfl 32 ((get_other (newSfft_32 (nd3) (nd5) (nd6) (nd7)) (by omega) _))
      have c9_0_66 : u32.cell? ⟨nd4, 66, none⟩ = some (.int .u32 0) := hO.cell 0 rfl 66 ((get_other (newSfft_66 (nd3) (nd5) (nd6) (nd7)) (by omega) _))
      have c9_0_95 : u32.cell? ⟨nd4, 95, none⟩ = some (.bool false) := hO.cell 0 rfl 95 ((get_other (newSfft_95 (nd3) (nd5) (nd6) (nd7)) (by omega) _))
      have c9_0_96 : u32.cell? ⟨nd4, 96, none⟩ = some (.bool false) := hO.cell 0 rfl 96 ((get_other (newSfft_96 (nd3) (nd5) (nd6) (nd7)) (by omega) _))
      have c9_0_97 : u32.cell? ⟨nd4, 97, none⟩ = some (.pointer (some ⟨nd7, 0, none⟩)) := hO.cell 0 rfl 97 ((get_other (newSfft_97 (nd3) (nd5) (nd6) (nd7)) (by omega) _))
      have c9_0_105 : u32.cell? ⟨nd4, 105, none⟩ = some (.pointer none) := hO.cell 0 rfl 105 ((get_other (newSfft_105 (nd3) (nd5) (nd6) (nd7)) (by omega) _))
      have c9_0_106 : u32.cell? ⟨nd4, 106, none⟩ = some (.slice (some ⟨nd26, 0, none⟩) 2 (2 + (nd27))) := hO.cell 0 rfl 106 ((get_set (newSfft_106 (nd3) (nd5) (nd6) (nd7)) _))
      have c9_0_117 : u32.cell? ⟨nd4, 117, none⟩ = some (.map (some (nd5))) := hO.cell 0 rfl 117 ((get_other (newSfft_117 (nd3) (nd5) (nd6) (nd7)) (by omega) _))
      have c9_0_187 : u32.cell? ⟨nd4, 187, none⟩ = some (.pointer (some ⟨nd6, 0, none⟩)) := hO.cell 0 rfl 187 ((get_other (newSfft_187 (nd3) (nd5) (nd6) (nd7)) (by omega) _))
      have c9_0_338 : u32.cell? ⟨nd4, 338, none⟩ = some (.bool true) := hO.cell 0 rfl 338 ((get_other (newSfft_338 (nd3) (nd5) (nd6) (nd7)) (by omega) _))
      have c9_0_350 : u32.cell? ⟨nd4, 350, none⟩ = some (.bool false) := hO.cell 0 rfl 350 ((get_other (newSfft_350 (nd3) (nd5) (nd6) (nd7)) (by omega) _))
      have lt9_0 : nd4 < u32.heap.size := hO.lt 0 rfl
      have y9_0 : ∀ o, u32.frozen? ⟨nd4, o, none⟩ = false := hO.free 0 rfl
      obtain ⟨c9_2_0, c9_2_1, lt9_2, y9_2, pl9_2⟩ := hO.k2 2 rfl
      obtain ⟨c9_3_0, c9_3_1, lt9_3, y9_3, pl9_3⟩ := hO.k2 3 rfl
      obtain ⟨c9_4_0, lt9_4, y9_4, -⟩ := hO.k1 4 rfl
      have c9_5_1 : u32.cell? ⟨nd26, 1, none⟩ = some (.string ⟨#[70, 111, 111]⟩) := hO.cell 5 rfl 1 ((full_at rfl))
      have c9_5_4 : u32.cell? ⟨nd26, 4, none⟩ = some (.int .u32 1) := hO.cell 5 rfl 4 ((full_at rfl))
      have c9_5_11 : u32.cell? ⟨nd26, 11, none⟩ = some (.string ⟨#[95, 95, 115, 117, 112, 101, 114, 83, 101, 116]⟩) := hO.cell 5 rfl 11 ((full_at rfl))
      have c9_5_14 : u32.cell? ⟨nd26, 14, none⟩ = some (.int .u32 1) := hO.cell 5 rfl 14 ((full_at rfl))
      have lt9_5 : nd26 < u32.heap.size := hO.lt 5 rfl
      have y9_5 : ∀ o, u32.frozen? ⟨nd26, o, none⟩ = false := hO.free 5 rfl
      obtain ⟨c9_7_0, c9_7_1, lt9_7, y9_7, pl9_7⟩ := hO.k2 7 rfl
      have pl9_8 : Base.plainAt u32 (nd15) = true := hO.plain 8 rfl
      obtain ⟨c9_9_0, c9_9_1, c9_9_2, c9_9_3, c9_9_4, lt9_9, y9_9, -⟩ := hO.k5 9 rfl
      obtain ⟨c9_10_0, c9_10_1, c9_10_2, c9_10_3, c9_10_4, lt9_10, y9_10, pl9_10⟩ := hO.k5 10 rfl
      obtain ⟨c9_11_0, c9_11_1, c9_11_2, c9_11_3, c9_11_4, c9_11_5, c9_11_6, c9_11_7, lt9_11, y9_11, -⟩ := hO.k8 11 rfl
      obtain ⟨c9_12_0, c9_12_1, c9_12_2, c9_12_3, c9_12_4, lt9_12, y9_12, pl9_12⟩ := hO.k5 12 rfl
      obtain ⟨c9_13_0, c9_13_1, c9_13_2, c9_13_3, c9_13_4, c9_13_5, c9_13_6, c9_13_7, lt9_13, y9_13, pl9_13⟩ := hO.k8 13 rfl
      obtain ⟨c9_14_0, c9_14_1, c9_14_2, c9_14_3, c9_14_4, lt9_14, y9_14, pl9_14⟩ := hO.k5 14 rfl
      obtain ⟨lt9_15, y9_15, -⟩ := hO.k0 15 rfl
      obtain ⟨c9_16_0, c9_16_1, c9_16_2, c9_16_3, c9_16_4, c9_16_5, c9_16_6, c9_16_7, lt9_16, y9_16, -⟩ := hO.k8 16 rfl
      have pl9_17 : Base.plainAt u32 (nd25) = true := hO.plain 17 rfl
      have c9_17_0 : u32.cell? ⟨nd25, 0, none⟩ = some (.int .u32 0) := hO.cell 17 rfl 0 ((full_at rfl))
      have c9_17_1 : u32.cell? ⟨nd25, 1, none⟩ = some (.int .u32 1) := hO.cell 17 rfl 1 ((full_at rfl))
      have lt9_17 : nd25 < u32.heap.size := hO.lt 17 rfl
      have y9_17 : ∀ o, u32.frozen? ⟨nd25, o, none⟩ = false := hO.free 17 rfl
      obtain ⟨c9_18_0, c9_18_1, lt9_18, y9_18, pl9_18⟩ := hO.k2 18 rfl
      have pl9_19 : Base.plainAt u32 (nd11) = true := hO.plain 19 rfl
      obtain ⟨c9_20_0, c9_20_1, lt9_20, y9_20, pl9_20⟩ := hO.k2 20 rfl
      have HO := Lib.hid hO
      clear hO
      go_wp2_with (first | (with_reducible refine Own.stay (fn := Tryd.f5) ?_) | (first | (go_at_call 22; go_in)))
      try with_reducible refine Own.Stay.mk ?_
      have hO := HO.out
      clear HO hix9 hax9 ix9_0 ix9_1 ix9_2 ix9_3 ix9_4 ix9_5 ix9_6 ix9_7 ix9_8 ix9_9 ix9_10 ix9_11 ix9_12 ix9_13 ix9_14 ix9_15 ix9_16 ix9_17 ix9_18 ix9_19 ix9_20 ix9 c9_0_32 c9_0_66 c9_0_95 c9_0_96 c9_0_97 c9_0_105 c9_0_106 c9_0_117 c9_0_187 c9_0_338 c9_0_350 lt9_0 y9_0 c9_2_0 c9_2_1 lt9_2 y9_2 pl9_2 c9_3_0 c9_3_1 lt9_3 y9_3 pl9_3 c9_4_0 lt9_4 y9_4 c9_5_1 c9_5_4 c9_5_11 c9_5_14 lt9_5 y9_5 c9_7_0 c9_7_1 lt9_7 y9_7 pl9_7 pl9_8 c9_9_0 c9_9_1 c9_9_2 c9_9_3 c9_9_4 lt9_9 y9_9 c9_10_0 c9_10_1 c9_10_2 c9_10_3 c9_10_4 lt9_10 y9_10 pl9_10 c9_11_0 c9_11_1 c9_11_2 c9_11_3 c9_11_4 c9_11_5 c9_11_6 c9_11_7 lt9_11 y9_11 c9_12_0 c9_12_1 c9_12_2 c9_12_3 c9_12_4 lt9_12 y9_12 pl9_12 c9_13_0 c9_13_1 c9_13_2 c9_13_3 c9_13_4 c9_13_5 c9_13_6 c9_13_7 lt9_13 y9_13 pl9_13 c9_14_0 c9_14_1 c9_14_2 c9_14_3 c9_14_4 lt9_14 y9_14 pl9_14 lt9_15 y9_15 c9_16_0 c9_16_1 c9_16_2 c9_16_3 c9_16_4 c9_16_5 c9_16_6 c9_16_7 lt9_16 y9_16 pl9_17 c9_17_0 c9_17_1 lt9_17 y9_17 c9_18_0 c9_18_1 lt9_18 y9_18 pl9_18 pl9_19 c9_20_0 c9_20_1 lt9_20 y9_20 pl9_20
      have hL := hO.apart
      have hX := hO.apartX
      have HL := Lib.hid hL
      have HX := Lib.hid hX
      clear hL hX
      have hP9 := hO.pick [11, 12] (by decide)
      have T9 := helperCall4 nd18 nd20 nd21 loc loc 0 1 _ _ _ hP9 
      refine Calls.mono T9 ?_
      clear hP9 T9
      rintro e u33 ⟨rfl, hQ⟩
      have hN : Own w0 u33 [row (nd18) 71 #[.iface 209 (.pointer (some ⟨nd20, 0, none⟩)), .int .i32 loc, .slice (some ⟨nd21, 0, none⟩) 4 4, .int .i32 0, .int .u8 0, .int .u8 0, .bool false, .bool false], row (nd20) 211 #[.int .u32 0, .int .u32 1, .bool false, .bool false, .bool false], row (nd4) 193 ((newSfftP nd3 nd5 nd6 nd7).setIfInBounds 106 (.slice (some ⟨nd26, 0, none⟩) 2 (2 + nd27))), ((nd5, .map #[⟨.string ⟨#[95, 95, 115, 117, 112, 101, 114, 83, 101, 116]⟩, .agg #[.int .i32 loc, .int .u32 0, .int .u32 1], 0⟩] 1) : Rw), row (B30) 25 #[.int .u32 0, .int .u32 1], row (B12) 25 #[.int .u32 3, .int .u32 vm], row (B8) 31 #[.int .i32 loc], row (nd26) 56 (full symZ (symL ([sy ⟨#[70, 111, 111]⟩ 1, sy ⟨#[95, 95, 115, 117, 112, 101, 114, 83, 101, 116]⟩ 1])) (nd27)), row (nd6) 203 (#[.pointer none, .pointer none, .slice none 0 0, .map none, .slice none 0 0, .slice none 0 0, .int .i32 0, .int .i32 0, .int .u32 0, .int .u32 0, .bool false, .bool false, .bool false, .bool false, .int .u8 0, .int .u8 6].setIfInBounds 5 (.slice (some ⟨nd25, 0, none⟩) 1 (1 + (nd28)))), row (nd7) 25 #[.int .u32 0, .int .u32 0], row (nd15) 51 (units key), row (nd16) 208 #[.slice (some ⟨nd15, 0, none⟩) key.size key.size, .int .i32 0, .bool false, .bool false, .bool false], row (nd17) 211 #[.int .u32 3, .int .u32 vm, .bool false, .bool false, .bool false], row (nd21) 35 #[.iface 225 (.pointer (some ⟨nd24, 0, none⟩)), .int .i32 loc, .iface 237 (.pointer (some ⟨nd23, 0, none⟩)), .int .i32 loc, .iface 206 (.pointer (some ⟨nd16, 0, none⟩)), .int .i32 loc, .iface 209 (.pointer (some ⟨nd17, 0, none⟩)), .int .i32 loc], row (nd22) 211 #[.int .u32 0, .int .u32 0, .bool false, .bool false, .bool false], row (nd23) 241 #[], row (nd24) 228 #[.iface 209 (.pointer (some ⟨nd22, 0, none⟩)), .int .i32 loc, .string ⟨#[112, 114, 111, 116, 111, 116, 121, 112, 101]⟩, .int .i32 loc, .int .u8 0, .bool false, .bool false, .bool false], row (nd25) 25 (full refZ [.int .u32 0, .int .u32 1] (nd28)), row (nd19) 35 #[.iface 65 (.pointer (some ⟨nd18, 0, none⟩)), .int .i32 loc], row (nd11) 51 (units key), row (B1) 25 #[.int .u32 0, .int .u32 0]] X := hQ.back HL.out HX.out [0, 1, 2, 3, 4, 5, 6, 7, 8, 9, 10, 13, 14, 15, 16, 17, 18, 19, 20] (by decide) (by decide)
      clear hQ HL HX hO
      have hO := hN
      clear hN
      obtain ⟨ix9, hix9, hax9, hjx9⟩ := hO.ix
      have ix9_0 : ix9 nd18 = 0 := hjx9 0 _ _ rfl
      have ix9_1 : ix9 nd20 = 1 := hjx9 1 _ _ rfl
      have ix9_2 : ix9 nd4 = 2 := hjx9 2 _ _ rfl
      have ix9_3 : ix9 nd5 = 3 := hjx9 3 _ _ rfl
      have ix9_4 : ix9 B30 = 4 := hjx9 4 _ _ rfl
      have ix9_5 : ix9 B12 = 5 := hjx9 5 _ _ rfl
      have ix9_6 : ix9 B8 = 6 := hjx9 6 _ _ rfl
      have ix9_7 : ix9 nd26 = 7 := hjx9 7 _ _ rfl
      have ix9_8 : ix9 nd6 = 8 := hjx9 8 _ _ rfl
      have ix9_9 : ix9 nd7 = 9 := hjx9 9 _ _ rfl
      have ix9_10 : ix9 nd15 = 10 := hjx9 10 _ _ rfl
      have ix9_11 : ix9 nd16 = 11 := hjx9 11 _ _ rfl
      have ix9_12 : ix9 nd17 = 12 := hjx9 12 _ _ rfl
      have ix9_13 : ix9 nd21 = 13 := hjx9 13 _ _ rfl
      have ix9_14 : ix9 nd22 = 14 := hjx9 14 _ _ rfl
      have ix9_15 : ix9 nd23 = 15 := hjx9 15 _ _ rfl
      have ix9_16 : ix9 nd24 = 16 := hjx9 16 _ _ rfl
      have ix9_17 : ix9 nd25 = 17 := hjx9 17 _ _ rfl
      have ix9_18 : ix9 nd19 = 18 := hjx9 18 _ _ rfl
      have ix9_19 : ix9 nd11 = 19 := hjx9 19 _ _ rfl
      have ix9_20 : ix9 B1 = 20 := hjx9 20 _ _ rfl
      clear hjx9
      obtain ⟨c9_0_0, c9_0_1, c9_0_2, c9_0_3, c9_0_4, c9_0_5, c9_0_6, c9_0_7, lt9_0, y9_0, -⟩ := hO.k8 0 rfl
      obtain ⟨c9_1_0, c9_1_1, c9_1_2, c9_1_3, c9_1_4, lt9_1, y9_1, pl9_1⟩ := hO.k5 1 rfl
      have c9_2_32 : u33.cell? ⟨nd4, 32, none⟩ = some (.bool false) := hO.cell 2 rfl 32 ((get_other (newSfft_32 (nd3) (nd5) (nd6) (nd7)) (by omega) _))
      have c9_2_66 : u33.cell? ⟨nd4, 66, none⟩ = some (.int .u32 0) := hO.cell 2 rfl 66 ((get_other (newSfft_66 (nd3) (nd5) (nd6) (nd7)) (by omega) _))
      have c9_2_95 : u33.cell? ⟨nd4, 95, none⟩ = some (.bool false) := hO.cell 2 rfl 95 ((get_other (newSfft_95 (nd3) (nd5) (nd6) (nd7)) (by omega) _))
      have c9_2_96 : u33.cell? ⟨nd4, 96, none⟩ = some (.bool false) := hO.cell 2 rfl 96 ((get_other (newSfft_96 (nd3) (nd5) (nd6) (nd7)) (by omega) _))
      have c9_2_97 : u33.cell? ⟨nd4, 97, none⟩ = some (.pointer (some ⟨nd7, 0, none⟩)) := hO.cell 2 rfl 97 ((get_other (newSfft_97 (nd3) (nd5) (nd6) (nd7)) (by omega) _))
      have c9_2_105 : u33.cell? ⟨nd4, 105, none⟩ = some (.pointer none) := hO.cell 2 rfl 105 ((get_other (newSfft_105 (nd3) (nd5) (nd6) (nd7)) (by omega) _))
      have c9_2_106 : u33.cell? ⟨nd4, 106, none⟩ = some (.slice (some ⟨nd26, 0, none⟩) 2 (2 + (nd27))) := hO.cell 2 rfl 106 ((get_set (newSfft_106 (nd3) (nd5) (nd6) (nd7)) _))
      have c9_2_117 : u33.cell? ⟨nd4, 117, none⟩ = some (.map (some (nd5))) := hO.cell 2 rfl 117 ((get_other (newSfft_117 (nd3) (nd5) (nd6) (nd7)) (by omega) _))
      have c9_2_187 : u33.cell? ⟨nd4, 187, none⟩ = some (.pointer (some ⟨nd6, 0, none⟩)) := hO.cell 2 rfl 187 ((get_other (newSfft_187 (nd3) (nd5) (nd6) (nd7)) (by omega) _))
      have c9_2_338 : u33.cell? ⟨nd4, 338, none⟩ = some (.bool true) := hO.cell 2 rfl 338 ((get_other (newSfft_338 (nd3) (nd5) (nd6) (nd7)) (by omega) _))
      have c9_2_350 : u33.cell? ⟨nd4, 350, none⟩ = some (.bool false) := hO.cell 2 rfl 350 ((get_other (newSfft_350 (nd3) (nd5) (nd6) (nd7)) (by omega) _))
      have lt9_2 : nd4 < u33.heap.size := hO.lt 2 rfl
      have y9_2 : ∀ o, u33.frozen? ⟨nd4, o, none⟩ = false := hO.free 2 rfl
      obtain ⟨c9_4_0, c9_4_1, lt9_4, y9_4, pl9_4⟩ := hO.k2 4 rfl
      obtain ⟨c9_5_0, c9_5_1, lt9_5, y9_5, pl9_5⟩ := hO.k2 5 rfl
      obtain ⟨c9_6_0, lt9_6, y9_6, -⟩ := hO.k1 6 rfl
      have c9_7_1 : u33.cell? ⟨nd26, 1, none⟩ = some (.string ⟨#[70, 111, 111]⟩) := hO.cell 7 rfl 1 ((full_at rfl))
      have c9_7_4 : u33.cell? ⟨nd26, 4, none⟩ = some (.int .u32 1) := hO.cell 7 rfl 4 ((full_at rfl))
      have c9_7_11 : u33.cell? ⟨nd26, 11, none⟩ = some (.string ⟨#[95, 95, 115, 117, 112, 101, 114, 83, 101, 116]⟩) := hO.cell 7 rfl 11 ((full_at rfl))
      have c9_7_14 : u33.cell? ⟨nd26, 14, none⟩ = some (.int .u32 1) := hO.cell 7 rfl 14 ((full_at rfl))
      have lt9_7 : nd26 < u33.heap.size := hO.lt 7 rfl
      have y9_7 : ∀ o, u33.frozen? ⟨nd26, o, none⟩ = false := hO.free 7 rfl
      obtain ⟨c9_9_0, c9_9_1, lt9_9, y9_9, pl9_9⟩ := hO.k2 9 rfl
      have pl9_10 : Base.plainAt u33 (nd15) = true := hO.plain 10 rfl
      obtain ⟨c9_11_0, c9_11_1, c9_11_2, c9_11_3, c9_11_4, lt9_11, y9_11, -⟩ := hO.k5 11 rfl
      obtain ⟨c9_12_0, c9_12_1, c9_12_2, c9_12_3, c9_12_4, lt9_12, y9_12, pl9_12⟩ := hO.k5 12 rfl
      obtain ⟨c9_13_0, c9_13_1, c9_13_2, c9_13_3, c9_13_4, c9_13_5, c9_13_6, c9_13_7, lt9_13, y9_13, pl9_13⟩ := hO.k8 13 rfl
      obtain ⟨c9_14_0, c9_14_1, c9_14_2, c9_14_3, c9_14_4, lt9_14, y9_14, pl9_14⟩ := hO.k5 14 rfl
      obtain ⟨lt9_15, y9_15, -⟩ := hO.k0 15 rfl
      obtain ⟨c9_16_0, c9_16_1, c9_16_2, c9_16_3, c9_16_4, c9_16_5, c9_16_6, c9_16_7, lt9_16, y9_16, -⟩ := hO.k8 16 rfl
      have pl9_17 : Base.plainAt u33 (nd25) = true := hO.plain 17 rfl
      have c9_17_0 : u33.cell? ⟨nd25, 0, none⟩ = some (.int .u32 0) := hO.cell 17 rfl 0 ((full_at rfl))
      have c9_17_1 : u33.cell? ⟨nd25, 1, none⟩ = some (.int .u32 1) := hO.cell 17 rfl 1 ((full_at rfl))
      have lt9_17 : nd25 < u33.heap.size := hO.lt 17 rfl
      have y9_17 : ∀ o, u33.frozen? ⟨nd25, o, none⟩ = false := hO.free 17 rfl
      obtain ⟨c9_18_0, c9_18_1, lt9_18, y9_18, pl9_18⟩ := hO.k2 18 rfl
      have pl9_19 : Base.plainAt u33 (nd11) = true := hO.plain 19 rfl
      obtain ⟨c9_20_0, c9_20_1, lt9_20, y9_20, pl9_20⟩ := hO.k2 20 rfl
      have HO := Lib.hid hO
      clear hO
      go_wp2_with (first | (with_reducible refine Own.stay (fn := Tryd.f5) ?_) | (first | (go_at_call 22; go_in)))
      try with_reducible refine Own.Stay.mk ?_
      have hO := HO.out
      clear HO hix9 hax9 ix9_0 ix9_1 ix9_2 ix9_3 ix9_4 ix9_5 ix9_6 ix9_7 ix9_8 ix9_9 ix9_10 ix9_11 ix9_12 ix9_13 ix9_14 ix9_15 ix9_16 ix9_17 ix9_18 ix9_19 ix9_20 ix9 c9_0_0 c9_0_1 c9_0_2 c9_0_3 c9_0_4 c9_0_5 c9_0_6 c9_0_7 lt9_0 y9_0 c9_1_0 c9_1_1 c9_1_2 c9_1_3 c9_1_4 lt9_1 y9_1 pl9_1 c9_2_32 c9_2_66 c9_2_95 c9_2_96 c9_2_97 c9_2_105 c9_2_106 c9_2_117 c9_2_187 c9_2_338 c9_2_350 lt9_2 y9_2 c9_4_0 c9_4_1 lt9_4 y9_4 pl9_4 c9_5_0 c9_5_1 lt9_5 y9_5 pl9_5 c9_6_0 lt9_6 y9_6 c9_7_1 c9_7_4 c9_7_11 c9_7_14 lt9_7 y9_7 c9_9_0 c9_9_1 lt9_9 y9_9 pl9_9 pl9_10 c9_11_0 c9_11_1 c9_11_2 c9_11_3 c9_11_4 lt9_11 y9_11 c9_12_0 c9_12_1 c9_12_2 c9_12_3 c9_12_4 lt9_12 y9_12 pl9_12 c9_13_0 c9_13_1 c9_13_2 c9_13_3 c9_13_4 c9_13_5 c9_13_6 c9_13_7 lt9_13 y9_13 pl9_13 c9_14_0 c9_14_1 c9_14_2 c9_14_3 c9_14_4 lt9_14 y9_14 pl9_14 lt9_15 y9_15 c9_16_0 c9_16_1 c9_16_2 c9_16_3 c9_16_4 c9_16_5 c9_16_6 c9_16_7 lt9_16 y9_16 pl9_17 c9_17_0 c9_17_1 lt9_17 y9_17 c9_18_0 c9_18_1 lt9_18 y9_18 pl9_18 pl9_19 c9_20_0 c9_20_1 lt9_20 y9_20 pl9_20
      have hL := hO.apart
      have hX := hO.apartX
      have HL := Lib.hid hL
      have HX := Lib.hid hX
      clear hL hX
      have hP9 := hO.pick [10, 11, 13, 14, 16, 19, 20] (by decide)
      generalize hX9_34 : Own.Rest _ _ X = X9_34 at hP9
      replace hP9 : Own w0 u33 [row (nd15) 51 (units key), row (nd16) 208 #[.slice (some ⟨nd15, 0, none⟩) key.size key.size, .int .i32 0, .bool false, .bool false, .bool false], row (nd21) 35 #[.iface 225 (.pointer (some ⟨nd24, 0, none⟩)), .int .i32 loc, .iface 237 (.pointer (some ⟨nd23, 0, none⟩)), .int .i32 loc, .iface 206 (.pointer (some ⟨nd16, 0, none⟩)), .int .i32 loc, .iface 209 (.pointer (some ⟨nd17, 0, none⟩)), .int .i32 loc], row (nd22) 211 #[.int .u32 0, .int .u32 0, .bool false, .bool false, .bool false], row (nd24) 228 #[.iface 209 (.pointer (some ⟨nd22, 0, none⟩)), .int .i32 loc, .string ⟨#[112, 114, 111, 116, 111, 116, 121, 112, 101]⟩, .int .i32 loc, .int .u8 0, .bool false, .bool false, .bool false], row (nd11) 51 (units key), row (B1) 25 #[.int .u32 0, .int .u32 0]] X9_34 := hP9
      clear hO
      have hO := hP9
      clear hP9
      have st9 := rlaw17ni7_st loc key B1 nd11 nd15 nd16 nd17 nd21 nd22 nd23 nd24
      refine wp_region_own (e := rlaw17ni7E loc key B1 nd11 nd15 nd16 nd17 nd21 nd22 nd23 nd24) (anc := rlaw17ni7Anc) (G := (fun L9 α u9 => OwnF w0 u9 (act rlaw17ni7Cnt 7 L9) (rlaw17ni7R loc key B1 nd11 nd15 nd16 nd17 nd21 nd22 nd23 nd24 L9 α) X9_34)) (by kernel_rfl) (by kernel_rfl) (by kernel_rfl) (by kernel_rfl) (rlaw17ni7_he loc key B1 nd11 nd15 nd16 nd17 nd21 nd22 nd23 nd24) ?_ (RunsAll.all ?_) ?_
      · have hp : ∀ i, act rlaw17ni7Cnt 7 (fun _ => false) i → i ∈ [999, 1999, 2999, 3999, 4999, 5999, 6999] := by
          intro i hi
          have h9 : i % 1000 = 999 := by
            by_cases h : i % 1000 = 999
            · exact h
            · exact absurd (act_lt hi h) (by simp)
          unfold act at hi
          rw [if_pos h9] at hi
          simp only [List.mem_cons, List.not_mem_nil, or_false]
          omega
        refine hO.drew.family (fun i hi => ?_) (fun i j hi hj hij => ?_)
        · have := hp i hi
          simp only [List.mem_cons, List.not_mem_nil, or_false] at this
          rcases this with rfl | rfl | rfl | rfl | rfl | rfl | rfl <;> rfl
        · have h1 := hp i hi
          have h2 := hp j hj
          simp only [List.mem_cons, List.not_mem_nil, or_false] at h1 h2
          omega
      · refine ⟨?_, ?_, ?_, ?_, ?_, ?_, ?_, ?_, ?_, ?_, ?_, ?_, ?_, ?_, ?_, ?_, ?_, ?_, ?_, ?_, ?_, ?_, ?_, ?_, ?_, ?_, ?_, ?_, trivial⟩
        · intro L9 α a9 u9 K9 hL hcl hA hG hS h0 hK
          replace hL : L9 0 = false := hL
          have q20 : a9.tmps[20]? = some (.bool true) := (h0 20 (by kernel_rfl)).trans rfl
          have s20 := Rega.eval_of q20
          go_simp
          exact hK _ α _ (fun _ _ => rfl) rfl (step_same (st9) hL hcl rfl rfl hG)
        · intro L9 α a9 u9 K9 hL hcl hA hG hS h0 hK
          replace hL : L9 1 = false := hL
          have q74 : a9.tmps[74]? = some (.bool true) := hS 0 74 (by decide) rfl (by show 74 < 147; decide)
          have s74 := Rega.eval_of q74
          go_simp
          exact hK _ α _ (fun _ _ => rfl) rfl (step_same (st9) hL hcl rfl rfl hG)
        · intro L9 α a9 u9 K9 hL hcl hA hG hS h0 hK
          replace hL : L9 2 = false := hL
          have q75 : a9.tmps[75]? = some (.bool false) := hS 1 75 (by decide) rfl (by show 75 < 147; decide)
          have s75 := Rega.eval_of q75
          go_simp
          exact hK _ α _ (fun _ _ => rfl) rfl (step_same (st9) hL hcl rfl rfl hG)
        · intro L9 α a9 u9 K9 hL hcl hA hG hS h0 hK
          replace hL : L9 3 = false := hL
          have q19 : a9.tmps[19]? = some (.slice (some ⟨nd21, 0, none⟩) 4 4) := (h0 19 (by kernel_rfl)).trans rfl
          have s19 := Rega.eval_of q19
          have q76 : a9.tmps[76]? = some (.bool false) := hS 2 76 (by decide) rfl (by show 76 < 147; decide)
          have s76 := Rega.eval_of q76
          go_simp
          exact hK _ α _ (fun _ _ => rfl) rfl (step_same (st9) hL hcl rfl rfl hG)
        · intro L9 α a9 u9 K9 hL hcl hA hG hS h0 hK
          replace hL : L9 4 = false := hL
          have q77 : a9.tmps[77]? = some (.slice (some ⟨nd21, 0, none⟩) 4 4) := hS 3 77 (by decide) rfl (by show 77 < 147; decide)
          have s77 := Rega.eval_of q77
          have q76 : a9.tmps[76]? = some (.bool false) := hS 2 76 (by decide) rfl (by show 76 < 147; decide)
          have s76 := Rega.eval_of q76
          go_simp
          exact hK _ α _ (fun _ _ => rfl) rfl (step_same (st9) hL hcl rfl rfl hG)
        · intro L9 α a9 u9 K9 hL hcl hA hG hS h0 hK
          replace hL : L9 5 = false := hL
          have q78 : a9.tmps[78]? = some (.pointer (some ⟨nd21, 0, none⟩)) := hS 4 78 (by decide) rfl (by show 78 < 147; decide)
          have s78 := Rega.eval_of q78
          have q76 : a9.tmps[76]? = some (.bool false) := hS 2 76 (by decide) rfl (by show 76 < 147; decide)
          have s76 := Rega.eval_of q76
          have e0 : rlaw17ni7R loc key B1 nd11 nd15 nd16 nd17 nd21 nd22 nd23 nd24 L9 α 2999 = row (nd21) 35 #[.iface 225 (.pointer (some ⟨nd24, 0, none⟩)), .int .i32 loc, .iface 237 (.pointer (some ⟨nd23, 0, none⟩)), .int .i32 loc, .iface 206 (.pointer (some ⟨nd16, 0, none⟩)), .int .i32 loc, .iface 209 (.pointer (some ⟨nd17, 0, none⟩)), .int .i32 loc] := rfl
          have hr := hG.rowAt 2999 (act_base 2999 rfl) e0
          have c0 : u9.cell? ⟨nd21, 0, none⟩ = some (.iface 225 (.pointer (some ⟨nd24, 0, none⟩))) := hr.cell rfl
          have c1 : u9.cell? ⟨nd21, 1, none⟩ = some (.int .i32 loc) := hr.cell rfl
          clear hr e0
          go_simp
          exact hK _ α _ (fun _ _ => rfl) rfl (step_same (st9) hL hcl rfl rfl hG)
        · intro L9 α a9 u9 K9 hL hcl hA hG hS h0 hK
          replace hL : L9 6 = false := hL
          have q11 : a9.tmps[11]? = some (.pointer (some ⟨B1, 0, none⟩)) := (h0 11 (by kernel_rfl)).trans rfl
          have s11 := Rega.eval_of q11
          have q76 : a9.tmps[76]? = some (.bool false) := hS 2 76 (by decide) rfl (by show 76 < 147; decide)
          have s76 := Rega.eval_of q76
          have e0 : rlaw17ni7R loc key B1 nd11 nd15 nd16 nd17 nd21 nd22 nd23 nd24 L9 α 6999 = row (B1) 25 #[.int .u32 0, .int .u32 0] := rfl
          have hr := hG.rowAt 6999 (act_base 6999 rfl) e0
          have c0 : u9.cell? ⟨B1, 0, none⟩ = some (.int .u32 0) := hr.cell rfl
          have c1 : u9.cell? ⟨B1, 1, none⟩ = some (.int .u32 0) := hr.cell rfl
          clear hr e0
          go_simp
          exact hK _ α _ (fun _ _ => rfl) rfl (step_same (st9) hL hcl rfl rfl hG)
        · intro L9 α a9 u9 K9 hL hcl hA hG hS h0 hK
          replace hL : L9 7 = false := hL
          have q2 : a9.tmps[2]? = some (.bool false) := (h0 2 (by kernel_rfl)).trans rfl
          have s2 := Rega.eval_of q2
          have q76 : a9.tmps[76]? = some (.bool false) := hS 2 76 (by decide) rfl (by show 76 < 147; decide)
          have s76 := Rega.eval_of q76
          go_simp
          exact hK _ α _ (fun _ _ => rfl) rfl (step_same (st9) hL hcl rfl rfl hG)
        · intro L9 α a9 u9 K9 hL hcl hA hG hS h0 hK
          replace hL : L9 8 = false := hL
          have q79 : a9.tmps[79]? = some (.agg #[.iface 225 (.pointer (some ⟨nd24, 0, none⟩)), .int .i32 loc]) := hS 5 79 (by decide) rfl (by show 79 < 147; decide)
          have s79 := Rega.eval_of q79
          have q80 : a9.tmps[80]? = some (.agg #[.int .u32 0, .int .u32 0]) := hS 6 80 (by decide) rfl (by show 80 < 147; decide)
          have s80 := Rega.eval_of q80
          have q81 : a9.tmps[81]? = some (.bool false) := hS 7 81 (by decide) rfl (by show 81 < 147; decide)
          have s81 := Rega.eval_of q81
          have q76 : a9.tmps[76]? = some (.bool false) := hS 2 76 (by decide) rfl (by show 76 < 147; decide)
          have s76 := Rega.eval_of q76
          go_simp
          have e0 : rlaw17ni7R loc key B1 nd11 nd15 nd16 nd17 nd21 nd22 nd23 nd24 L9 α 3999 = row (nd22) 211 #[.int .u32 0, .int .u32 0, .bool false, .bool false, .bool false] := rfl
          have e1 : rlaw17ni7R loc key B1 nd11 nd15 nd16 nd17 nd21 nd22 nd23 nd24 L9 α 4999 = row (nd24) 228 #[.iface 209 (.pointer (some ⟨nd22, 0, none⟩)), .int .i32 loc, .string ⟨#[112, 114, 111, 116, 111, 116, 121, 112, 101]⟩, .int .i32 loc, .int .u8 0, .bool false, .bool false, .bool false] := rfl
          have hM : ∀ i, i ∈ [3999, 4999] → act rlaw17ni7Cnt 7 L9 i := by
            intro i hi
            simp only [List.mem_cons, List.not_mem_nil, or_false] at hi
            rcases hi with rfl | rfl
            · exact act_base 3999 rfl
            · exact act_base 4999 rfl
          have hP : Own w0 u9 [row (nd22) 211 #[.int .u32 0, .int .u32 0, .bool false, .bool false, .bool false], row (nd24) 228 #[.iface 209 (.pointer (some ⟨nd22, 0, none⟩)), .int .i32 loc, .string ⟨#[112, 114, 111, 116, 111, 116, 121, 112, 101]⟩, .int .i32 loc, .int .u8 0, .bool false, .bool false, .bool false]] _ := (hG.pick [3999, 4999] (by decide) hM).conv (by
            show [rlaw17ni7R loc key B1 nd11 nd15 nd16 nd17 nd21 nd22 nd23 nd24 L9 α 3999, rlaw17ni7R loc key B1 nd11 nd15 nd16 nd17 nd21 nd22 nd23 nd24 L9 α 4999] = _
            rw [e0, e1])
          clear e0 e1 hM
          refine Calls.mono (classArg0 nd22 loc nd24 loc _ _ _ hP ) ?_
          rintro e9 u1 ⟨rfl, hQ⟩
          obtain ⟨α', hα'⟩ : ∃ α' : Rega.Atoms, α' = α := ⟨_, rfl⟩
          have f0 : rlaw17ni7R loc key B1 nd11 nd15 nd16 nd17 nd21 nd22 nd23 nd24 (Rega.ran L9 8) α' 3999 = row (nd22) 211 #[.int .u32 0, .int .u32 0, .bool false, .bool false, .bool false] := rfl
          have f1 : rlaw17ni7R loc key B1 nd11 nd15 nd16 nd17 nd21 nd22 nd23 nd24 (Rega.ran L9 8) α' 4999 = row (nd24) 228 #[.iface 209 (.pointer (some ⟨nd22, 0, none⟩)), .int .i32 loc, .string ⟨#[112, 114, 111, 116, 111, 116, 121, 112, 101]⟩, .int .i32 loc, .int .u8 0, .bool false, .bool false, .bool false] := rfl
          have hα : ∀ j, j % 1000 ≠ 8 → α' j = α j := fun j hj => by rw [hα']
          skip
          refine hK _ α' _ hα ?_ (step_call (st9) hL hcl hα [3999, 4999] [3999, 4999] (by decide) (by decide) (by decide) (M := _) ?_ hG hQ)
          · rfl
          · show [rlaw17ni7R loc key B1 nd11 nd15 nd16 nd17 nd21 nd22 nd23 nd24 (Rega.ran L9 8) α' 3999, rlaw17ni7R loc key B1 nd11 nd15 nd16 nd17 nd21 nd22 nd23 nd24 (Rega.ran L9 8) α' 4999] = _
            rw [f0, f1]
        · intro L9 α a9 u9 K9 hL hcl hA hG hS h0 hK
          replace hL : L9 9 = false := hL
          have q82 : a9.tmps[82]? = some (.bool true) := hS 8 82 (by decide) rfl (by show 82 < 147; decide)
          have s82 := Rega.eval_of q82
          have q76 : a9.tmps[76]? = some (.bool false) := hS 2 76 (by decide) rfl (by show 76 < 147; decide)
          have s76 := Rega.eval_of q76
          go_simp
          exact hK _ α _ (fun _ _ => rfl) rfl (step_same (st9) hL hcl rfl rfl hG)
        · intro L9 α a9 u9 K9 hL hcl hA hG hS h0 hK
          replace hL : L9 10 = false := hL
          have q76 : a9.tmps[76]? = some (.bool false) := hS 2 76 (by decide) rfl (by show 76 < 147; decide)
          have s76 := Rega.eval_of q76
          have q83 : a9.tmps[83]? = some (.bool false) := hS 9 83 (by decide) rfl (by show 83 < 147; decide)
          have s83 := Rega.eval_of q83
          go_simp
          exact hK _ α _ (fun _ _ => rfl) rfl (step_same (st9) hL hcl rfl rfl hG)
        · intro L9 α a9 u9 K9 hL hcl hA hG hS h0 hK
          replace hL : L9 11 = false := hL
          have q84 : a9.tmps[84]? = some (.bool false) := hS 10 84 (by decide) rfl (by show 84 < 147; decide)
          have s84 := Rega.eval_of q84
          go_simp
          exact hK _ α _ (fun _ _ => rfl) rfl (step_same (st9) hL hcl rfl rfl hG)
        · intro L9 α a9 u9 K9 hL hcl hA hG hS h0 hK
          replace hL : L9 12 = false := hL
          have q19 : a9.tmps[19]? = some (.slice (some ⟨nd21, 0, none⟩) 4 4) := (h0 19 (by kernel_rfl)).trans rfl
          have s19 := Rega.eval_of q19
          have q85 : a9.tmps[85]? = some (.bool false) := hS 11 85 (by decide) rfl (by show 85 < 147; decide)
          have s85 := Rega.eval_of q85
          go_simp
          exact hK _ α _ (fun _ _ => rfl) rfl (step_same (st9) hL hcl rfl rfl hG)
        · intro L9 α a9 u9 K9 hL hcl hA hG hS h0 hK
          replace hL : L9 13 = false := hL
          have q86 : a9.tmps[86]? = some (.slice (some ⟨nd21, 0, none⟩) 4 4) := hS 12 86 (by decide) rfl (by show 86 < 147; decide)
          have s86 := Rega.eval_of q86
          have q85 : a9.tmps[85]? = some (.bool false) := hS 11 85 (by decide) rfl (by show 85 < 147; decide)
          have s85 := Rega.eval_of q85
          go_simp
          exact hK _ α _ (fun _ _ => rfl) rfl (step_same (st9) hL hcl rfl rfl hG)
        · intro L9 α a9 u9 K9 hL hcl hA hG hS h0 hK
          replace hL : L9 14 = false := hL
          have q87 : a9.tmps[87]? = some (.pointer (some ⟨nd21, 2, none⟩)) := hS 13 87 (by decide) rfl (by show 87 < 147; decide)
          have s87 := Rega.eval_of q87
          have q85 : a9.tmps[85]? = some (.bool false) := hS 11 85 (by decide) rfl (by show 85 < 147; decide)
          have s85 := Rega.eval_of q85
          have e0 : rlaw17ni7R loc key B1 nd11 nd15 nd16 nd17 nd21 nd22 nd23 nd24 L9 α 2999 = row (nd21) 35 #[.iface 225 (.pointer (some ⟨nd24, 0, none⟩)), .int .i32 loc, .iface 237 (.pointer (some ⟨nd23, 0, none⟩)), .int .i32 loc, .iface 206 (.pointer (some ⟨nd16, 0, none⟩)), .int .i32 loc, .iface 209 (.pointer (some ⟨nd17, 0, none⟩)), .int .i32 loc] := rfl
          have hr := hG.rowAt 2999 (act_base 2999 rfl) e0
          have c0 : u9.cell? ⟨nd21, 2, none⟩ = some (.iface 237 (.pointer (some ⟨nd23, 0, none⟩))) := hr.cell rfl
          have c1 : u9.cell? ⟨nd21, 3, none⟩ = some (.int .i32 loc) := hr.cell rfl
          clear hr e0
          go_simp
          exact hK _ α _ (fun _ _ => rfl) rfl (step_same (st9) hL hcl rfl rfl hG)
        · intro L9 α a9 u9 K9 hL hcl hA hG hS h0 hK
          replace hL : L9 15 = false := hL
          have q11 : a9.tmps[11]? = some (.pointer (some ⟨B1, 0, none⟩)) := (h0 11 (by kernel_rfl)).trans rfl
          have s11 := Rega.eval_of q11
          have q85 : a9.tmps[85]? = some (.bool false) := hS 11 85 (by decide) rfl (by show 85 < 147; decide)
          have s85 := Rega.eval_of q85
          have e0 : rlaw17ni7R loc key B1 nd11 nd15 nd16 nd17 nd21 nd22 nd23 nd24 L9 α 6999 = row (B1) 25 #[.int .u32 0, .int .u32 0] := rfl
          have hr := hG.rowAt 6999 (act_base 6999 rfl) e0
          have c0 : u9.cell? ⟨B1, 0, none⟩ = some (.int .u32 0) := hr.cell rfl
          have c1 : u9.cell? ⟨B1, 1, none⟩ = some (.int .u32 0) := hr.cell rfl
          clear hr e0
          go_simp
          exact hK _ α _ (fun _ _ => rfl) rfl (step_same (st9) hL hcl rfl rfl hG)
        · intro L9 α a9 u9 K9 hL hcl hA hG hS h0 hK
          replace hL : L9 16 = false := hL
          have q3 : a9.tmps[3]? = some (.bool false) := (h0 3 (by kernel_rfl)).trans rfl
          have s3 := Rega.eval_of q3
          have q85 : a9.tmps[85]? = some (.bool false) := hS 11 85 (by decide) rfl (by show 85 < 147; decide)
          have s85 := Rega.eval_of q85
          go_simp
          exact hK _ α _ (fun _ _ => rfl) rfl (step_same (st9) hL hcl rfl rfl hG)
        · intro L9 α a9 u9 K9 hL hcl hA hG hS h0 hK
          replace hL : L9 17 = false := hL
          have q88 : a9.tmps[88]? = some (.agg #[.iface 237 (.pointer (some ⟨nd23, 0, none⟩)), .int .i32 loc]) := hS 14 88 (by decide) rfl (by show 88 < 147; decide)
          have s88 := Rega.eval_of q88
          have q89 : a9.tmps[89]? = some (.agg #[.int .u32 0, .int .u32 0]) := hS 15 89 (by decide) rfl (by show 89 < 147; decide)
          have s89 := Rega.eval_of q89
          have q90 : a9.tmps[90]? = some (.bool false) := hS 16 90 (by decide) rfl (by show 90 < 147; decide)
          have s90 := Rega.eval_of q90
          have q85 : a9.tmps[85]? = some (.bool false) := hS 11 85 (by decide) rfl (by show 85 < 147; decide)
          have s85 := Rega.eval_of q85
          go_simp
          have hM : ∀ i, i ∈ [] → act rlaw17ni7Cnt 7 L9 i := by intro i hi; simp at hi
          have hP : Own w0 u9 [] _ := hG.pick [] (by decide) (by simp)
          clear hM
          refine Calls.mono (thisArg0 nd23 loc _ _ _ hP ) ?_
          rintro e9 u1 ⟨rfl, hQ⟩
          obtain ⟨α', hα'⟩ : ∃ α' : Rega.Atoms, α' = α := ⟨_, rfl⟩
          have hα : ∀ j, j % 1000 ≠ 17 → α' j = α j := fun j hj => by rw [hα']
          skip
          refine hK _ α' _ hα ?_ (step_call (st9) hL hcl hα [] [] (by decide) (by decide) (by decide) (M := _) ?_ hG hQ)
          · rfl
          · show [] = _
            rw []
        · intro L9 α a9 u9 K9 hL hcl hA hG hS h0 hK
          replace hL : L9 18 = false := hL
          have q91 : a9.tmps[91]? = some (.bool true) := hS 17 91 (by decide) rfl (by show 91 < 147; decide)
          have s91 := Rega.eval_of q91
          have q85 : a9.tmps[85]? = some (.bool false) := hS 11 85 (by decide) rfl (by show 85 < 147; decide)
          have s85 := Rega.eval_of q85
          go_simp
          exact hK _ α _ (fun _ _ => rfl) rfl (step_same (st9) hL hcl rfl rfl hG)
        · intro L9 α a9 u9 K9 hL hcl hA hG hS h0 hK
          replace hL : L9 19 = false := hL
          have q85 : a9.tmps[85]? = some (.bool false) := hS 11 85 (by decide) rfl (by show 85 < 147; decide)
          have s85 := Rega.eval_of q85
          have q92 : a9.tmps[92]? = some (.bool false) := hS 18 92 (by decide) rfl (by show 92 < 147; decide)
          have s92 := Rega.eval_of q92
          go_simp
          exact hK _ α _ (fun _ _ => rfl) rfl (step_same (st9) hL hcl rfl rfl hG)
        · intro L9 α a9 u9 K9 hL hcl hA hG hS h0 hK
          replace hL : L9 20 = false := hL
          have q93 : a9.tmps[93]? = some (.bool false) := hS 19 93 (by decide) rfl (by show 93 < 147; decide)
          have s93 := Rega.eval_of q93
          go_simp
          exact hK _ α _ (fun _ _ => rfl) rfl (step_same (st9) hL hcl rfl rfl hG)
        · intro L9 α a9 u9 K9 hL hcl hA hG hS h0 hK
          replace hL : L9 21 = false := hL
          have q19 : a9.tmps[19]? = some (.slice (some ⟨nd21, 0, none⟩) 4 4) := (h0 19 (by kernel_rfl)).trans rfl
          have s19 := Rega.eval_of q19
          have q94 : a9.tmps[94]? = some (.bool false) := hS 20 94 (by decide) rfl (by show 94 < 147; decide)
          have s94 := Rega.eval_of q94
          go_simp
          exact hK _ α _ (fun _ _ => rfl) rfl (step_same (st9) hL hcl rfl rfl hG)
        · intro L9 α a9 u9 K9 hL hcl hA hG hS h0 hK
          replace hL : L9 22 = false := hL
          have q95 : a9.tmps[95]? = some (.slice (some ⟨nd21, 0, none⟩) 4 4) := hS 21 95 (by decide) rfl (by show 95 < 147; decide)
          have s95 := Rega.eval_of q95
          have q94 : a9.tmps[94]? = some (.bool false) := hS 20 94 (by decide) rfl (by show 94 < 147; decide)
          have s94 := Rega.eval_of q94
          go_simp
          exact hK _ α _ (fun _ _ => rfl) rfl (step_same (st9) hL hcl rfl rfl hG)
        · intro L9 α a9 u9 K9 hL hcl hA hG hS h0 hK
          replace hL : L9 23 = false := hL
          have q96 : a9.tmps[96]? = some (.pointer (some ⟨nd21, 4, none⟩)) := hS 22 96 (by decide) rfl (by show 96 < 147; decide)
          have s96 := Rega.eval_of q96
          have q94 : a9.tmps[94]? = some (.bool false) := hS 20 94 (by decide) rfl (by show 94 < 147; decide)
          have s94 := Rega.eval_of q94
          have e0 : rlaw17ni7R loc key B1 nd11 nd15 nd16 nd17 nd21 nd22 nd23 nd24 L9 α 2999 = row (nd21) 35 #[.iface 225 (.pointer (some ⟨nd24, 0, none⟩)), .int .i32 loc, .iface 237 (.pointer (some ⟨nd23, 0, none⟩)), .int .i32 loc, .iface 206 (.pointer (some ⟨nd16, 0, none⟩)), .int .i32 loc, .iface 209 (.pointer (some ⟨nd17, 0, none⟩)), .int .i32 loc] := rfl
          have hr := hG.rowAt 2999 (act_base 2999 rfl) e0
          have c0 : u9.cell? ⟨nd21, 4, none⟩ = some (.iface 206 (.pointer (some ⟨nd16, 0, none⟩))) := hr.cell rfl
          have c1 : u9.cell? ⟨nd21, 5, none⟩ = some (.int .i32 loc) := hr.cell rfl
          clear hr e0
          go_simp
          exact hK _ α _ (fun _ _ => rfl) rfl (step_same (st9) hL hcl rfl rfl hG)
        · intro L9 α a9 u9 K9 hL hcl hA hG hS h0 hK
          replace hL : L9 24 = false := hL
          have q14 : a9.tmps[14]? = some (.slice (some ⟨nd11, 0, none⟩) key.size key.size) := (h0 14 (by kernel_rfl)).trans rfl
          have s14 := Rega.eval_of q14
          have q94 : a9.tmps[94]? = some (.bool false) := hS 20 94 (by decide) rfl (by show 94 < 147; decide)
          have s94 := Rega.eval_of q94
          go_simp
          exact hK _ α _ (fun _ _ => rfl) rfl (step_same (st9) hL hcl rfl rfl hG)
        · intro L9 α a9 u9 K9 hL hcl hA hG hS h0 hK
          replace hL : L9 25 = false := hL
          have q97 : a9.tmps[97]? = some (.agg #[.iface 206 (.pointer (some ⟨nd16, 0, none⟩)), .int .i32 loc]) := hS 23 97 (by decide) rfl (by show 97 < 147; decide)
          have s97 := Rega.eval_of q97
          have q98 : a9.tmps[98]? = some (.slice (some ⟨nd11, 0, none⟩) key.size key.size) := hS 24 98 (by decide) rfl (by show 98 < 147; decide)
          have s98 := Rega.eval_of q98
          have q94 : a9.tmps[94]? = some (.bool false) := hS 20 94 (by decide) rfl (by show 94 < 147; decide)
          have s94 := Rega.eval_of q94
          go_simp
          have e0 : rlaw17ni7R loc key B1 nd11 nd15 nd16 nd17 nd21 nd22 nd23 nd24 L9 α 1999 = row (nd16) 208 #[.slice (some ⟨nd15, 0, none⟩) key.size key.size, .int .i32 0, .bool false, .bool false, .bool false] := rfl
          have e1 : rlaw17ni7R loc key B1 nd11 nd15 nd16 nd17 nd21 nd22 nd23 nd24 L9 α 999 = row (nd15) 51 (units key) := rfl
          have e2 : rlaw17ni7R loc key B1 nd11 nd15 nd16 nd17 nd21 nd22 nd23 nd24 L9 α 5999 = row (nd11) 51 (units key) := rfl
          have hM : ∀ i, i ∈ [1999, 999, 5999] → act rlaw17ni7Cnt 7 L9 i := by
            intro i hi
            simp only [List.mem_cons, List.not_mem_nil, or_false] at hi
            rcases hi with rfl | rfl | rfl
            · exact act_base 1999 rfl
            · exact act_base 999 rfl
            · exact act_base 5999 rfl
          have hP : Own w0 u9 [row (nd16) 208 #[.slice (some ⟨nd15, 0, none⟩) key.size key.size, .int .i32 0, .bool false, .bool false, .bool false], row (nd15) 51 (units key), row (nd11) 51 (units key)] _ := (hG.pick [1999, 999, 5999] (by decide) hM).conv (by
            show [rlaw17ni7R loc key B1 nd11 nd15 nd16 nd17 nd21 nd22 nd23 nd24 L9 α 1999, rlaw17ni7R loc key B1 nd11 nd15 nd16 nd17 nd21 nd22 nd23 nd24 L9 α 999, rlaw17ni7R loc key B1 nd11 nd15 nd16 nd17 nd21 nd22 nd23 nd24 L9 α 5999] = _
            rw [e0, e1, e2])
          clear e0 e1 e2 hM
          refine Calls.mono (isKeyO key nd16 nd15 nd11 loc _ _ _ hP (by omega)) ?_
          rintro e9 u1 ⟨rfl, hQ⟩
          obtain ⟨α', hα'⟩ : ∃ α' : Rega.Atoms, α' = α := ⟨_, rfl⟩
          have f0 : rlaw17ni7R loc key B1 nd11 nd15 nd16 nd17 nd21 nd22 nd23 nd24 (Rega.ran L9 25) α' 1999 = row (nd16) 208 #[.slice (some ⟨nd15, 0, none⟩) key.size key.size, .int .i32 0, .bool false, .bool false, .bool false] := rfl
          have f1 : rlaw17ni7R loc key B1 nd11 nd15 nd16 nd17 nd21 nd22 nd23 nd24 (Rega.ran L9 25) α' 999 = row (nd15) 51 (units key) := rfl
          have f2 : rlaw17ni7R loc key B1 nd11 nd15 nd16 nd17 nd21 nd22 nd23 nd24 (Rega.ran L9 25) α' 5999 = row (nd11) 51 (units key) := rfl
          have hα : ∀ j, j % 1000 ≠ 25 → α' j = α j := fun j hj => by rw [hα']
          skip
          refine hK _ α' _ hα ?_ (step_call (st9) hL hcl hα [1999, 999, 5999] [1999, 999, 5999] (by decide) (by decide) (by decide) (M := _) ?_ hG hQ)
          · rfl
          · show [rlaw17ni7R loc key B1 nd11 nd15 nd16 nd17 nd21 nd22 nd23 nd24 (Rega.ran L9 25) α' 1999, rlaw17ni7R loc key B1 nd11 nd15 nd16 nd17 nd21 nd22 nd23 nd24 (Rega.ran L9 25) α' 999, rlaw17ni7R loc key B1 nd11 nd15 nd16 nd17 nd21 nd22 nd23 nd24 (Rega.ran L9 25) α' 5999] = _
            rw [f0, f1, f2]
        · intro L9 α a9 u9 K9 hL hcl hA hG hS h0 hK
          replace hL : L9 26 = false := hL
          have q99 : a9.tmps[99]? = some (.bool true) := hS 25 99 (by decide) rfl (by show 99 < 147; decide)
          have s99 := Rega.eval_of q99
          have q94 : a9.tmps[94]? = some (.bool false) := hS 20 94 (by decide) rfl (by show 94 < 147; decide)
          have s94 := Rega.eval_of q94
          go_simp
          exact hK _ α _ (fun _ _ => rfl) rfl (step_same (st9) hL hcl rfl rfl hG)
        · intro L9 α a9 u9 K9 hL hcl hA hG hS h0 hK
          replace hL : L9 27 = false := hL
          have q94 : a9.tmps[94]? = some (.bool false) := hS 20 94 (by decide) rfl (by show 94 < 147; decide)
          have s94 := Rega.eval_of q94
          have q100 : a9.tmps[100]? = some (.bool false) := hS 26 100 (by decide) rfl (by show 100 < 147; decide)
          have s100 := Rega.eval_of q100
          go_simp
          exact hK _ α _ (fun _ _ => rfl) rfl (step_same (st9) hL hcl rfl rfl hG)
      · clear st9
        intro α u hG
        have e0 : rlaw17ni7R loc key B1 nd11 nd15 nd16 nd17 nd21 nd22 nd23 nd24 (fun k => decide (k < 28)) α 999 = row (nd15) 51 (units key) := rfl
        have e1 : rlaw17ni7R loc key B1 nd11 nd15 nd16 nd17 nd21 nd22 nd23 nd24 (fun k => decide (k < 28)) α 1999 = row (nd16) 208 #[.slice (some ⟨nd15, 0, none⟩) key.size key.size, .int .i32 0, .bool false, .bool false, .bool false] := rfl
        have e2 : rlaw17ni7R loc key B1 nd11 nd15 nd16 nd17 nd21 nd22 nd23 nd24 (fun k => decide (k < 28)) α 2999 = row (nd21) 35 #[.iface 225 (.pointer (some ⟨nd24, 0, none⟩)), .int .i32 loc, .iface 237 (.pointer (some ⟨nd23, 0, none⟩)), .int .i32 loc, .iface 206 (.pointer (some ⟨nd16, 0, none⟩)), .int .i32 loc, .iface 209 (.pointer (some ⟨nd17, 0, none⟩)), .int .i32 loc] := rfl
        have e3 : rlaw17ni7R loc key B1 nd11 nd15 nd16 nd17 nd21 nd22 nd23 nd24 (fun k => decide (k < 28)) α 3999 = row (nd22) 211 #[.int .u32 0, .int .u32 0, .bool false, .bool false, .bool false] := rfl
        have e4 : rlaw17ni7R loc key B1 nd11 nd15 nd16 nd17 nd21 nd22 nd23 nd24 (fun k => decide (k < 28)) α 4999 = row (nd24) 228 #[.iface 209 (.pointer (some ⟨nd22, 0, none⟩)), .int .i32 loc, .string ⟨#[112, 114, 111, 116, 111, 116, 121, 112, 101]⟩, .int .i32 loc, .int .u8 0, .bool false, .bool false, .bool false] := rfl
        have e5 : rlaw17ni7R loc key B1 nd11 nd15 nd16 nd17 nd21 nd22 nd23 nd24 (fun k => decide (k < 28)) α 5999 = row (nd11) 51 (units key) := rfl
        have e6 : rlaw17ni7R loc key B1 nd11 nd15 nd16 nd17 nd21 nd22 nd23 nd24 (fun k => decide (k < 28)) α 6999 = row (B1) 25 #[.int .u32 0, .int .u32 0] := rfl
        have hO : Own w0 u [row (nd15) 51 (units key), row (nd16) 208 #[.slice (some ⟨nd15, 0, none⟩) key.size key.size, .int .i32 0, .bool false, .bool false, .bool false], row (nd21) 35 #[.iface 225 (.pointer (some ⟨nd24, 0, none⟩)), .int .i32 loc, .iface 237 (.pointer (some ⟨nd23, 0, none⟩)), .int .i32 loc, .iface 206 (.pointer (some ⟨nd16, 0, none⟩)), .int .i32 loc, .iface 209 (.pointer (some ⟨nd17, 0, none⟩)), .int .i32 loc], row (nd22) 211 #[.int .u32 0, .int .u32 0, .bool false, .bool false, .bool false], row (nd24) 228 #[.iface 209 (.pointer (some ⟨nd22, 0, none⟩)), .int .i32 loc, .string ⟨#[112, 114, 111, 116, 111, 116, 121, 112, 101]⟩, .int .i32 loc, .int .u8 0, .bool false, .bool false, .bool false], row (nd11) 51 (units key), row (B1) 25 #[.int .u32 0, .int .u32 0]] X9_34 := (hG.list [999, 1999, 2999, 3999, 4999, 5999, 6999] (by decide) (act_all (by decide))).conv (by
          show [rlaw17ni7R loc key B1 nd11 nd15 nd16 nd17 nd21 nd22 nd23 nd24 (fun k => decide (k < 28)) α 999, rlaw17ni7R loc key B1 nd11 nd15 nd16 nd17 nd21 nd22 nd23 nd24 (fun k => decide (k < 28)) α 1999, rlaw17ni7R loc key B1 nd11 nd15 nd16 nd17 nd21 nd22 nd23 nd24 (fun k => decide (k < 28)) α 2999, rlaw17ni7R loc key B1 nd11 nd15 nd16 nd17 nd21 nd22 nd23 nd24 (fun k => decide (k < 28)) α 3999, rlaw17ni7R loc key B1 nd11 nd15 nd16 nd17 nd21 nd22 nd23 nd24 (fun k => decide (k < 28)) α 4999, rlaw17ni7R loc key B1 nd11 nd15 nd16 nd17 nd21 nd22 nd23 nd24 (fun k => decide (k < 28)) α 5999, rlaw17ni7R loc key B1 nd11 nd15 nd16 nd17 nd21 nd22 nd23 nd24 (fun k => decide (k < 28)) α 6999] = _
          rw [e0, e1, e2, e3, e4, e5, e6])
        clear hG e0 e1 e2 e3 e4 e5 e6
        generalize hfr : Rega.frameAt _ _ _ _ _ = fr
        have hdf : fr = ⟨#[.int .i32 loc, .string key, .bool false, .bool false, .int .u32 vm, undef, undef, undef, undef, undef, .bool false, .pointer (some ⟨B1, 0, none⟩), .pointer (some ⟨nd4, 0, none⟩), .pointer (some ⟨B8, 0, none⟩), .slice (some ⟨nd11, 0, none⟩) key.size key.size, .pointer (some ⟨B12, 0, none⟩), .pointer (some ⟨nd19, 0, none⟩), .pointer (some ⟨B30, 0, none⟩), .bool true, .slice (some ⟨nd21, 0, none⟩) 4 4, .bool true, undef, undef, undef, .int .i32 loc, .string key, .bool false, .bool false, .int .u32 vm, .bool true, .bool false, .string key, .int .i64 (key.size : Int), .bool (decide (65536 < (key.size : Int))), .agg #[.int .u32 0, .int .u32 0], .slice (some ⟨nd3, 0, none⟩) 1 1, .agg #[.int .u32 0, .int .u32 0], .bool false, .bool false, .pointer (some ⟨nd4, 0, none⟩), .int .i32 loc, .agg #[.int .i32 loc], .string key, .slice (some ⟨nd11, 0, none⟩) key.size key.size, .int .u32 vm, .agg #[.int .u32 3, .int .u32 vm], .pointer (some ⟨nd4, 0, none⟩), .agg #[.int .i32 loc], .int .i32 loc, .string key, .slice (some ⟨nd15, 0, none⟩) key.size key.size, .agg #[.iface 206 (.pointer (some ⟨nd16, 0, none⟩)), .int .i32 loc], .int .i32 loc, .agg #[.int .u32 3, .int .u32 vm], .agg #[.iface 209 (.pointer (some ⟨nd17, 0, none⟩)), .int .i32 loc], .agg #[.iface 65 (.pointer (some ⟨nd18, 0, none⟩)), .int .i32 loc], .tuple #[.agg #[.int .u32 0, .int .u32 1], .bool true], .pointer (some ⟨nd4, 0, none⟩), .tuple #[.agg #[.int .u32 0, .int .u32 1], .bool true], .agg #[.int .u32 0, .int .u32 1], .bool true, .bool true, .bool false, .bool false, .pointer (some ⟨nd4, 0, none⟩), .int .i64 1, .bool false, .bool false, .tuple #[.slice (some ⟨nd21, 0, none⟩) 4 4, .bool true], .agg #[.iface 65 (.pointer (some ⟨nd18, 0, none⟩)), .int .i32 loc], .agg #[.int .u32 0, .int .u32 1], .tuple #[.slice (some ⟨nd21, 0, none⟩) 4 4, .bool true], .slice (some ⟨nd21, 0, none⟩) 4 4, .bool true, .bool true, .bool false, .bool false, .slice (some ⟨nd21, 0, none⟩) 4 4, .pointer (some ⟨nd21, 0, none⟩), .agg #[.iface 225 (.pointer (some ⟨nd24, 0, none⟩)), .int .i32 loc], .agg #[.int .u32 0, .int .u32 0], .bool false, .bool true, .bool false, .bool false, .bool false, .slice (some ⟨nd21, 0, none⟩) 4 4, .pointer (some ⟨nd21, 2, none⟩), .agg #[.iface 237 (.pointer (some ⟨nd23, 0, none⟩)), .int .i32 loc], .agg #[.int .u32 0, .int .u32 0], .bool false, .bool true, .bool false, .bool false, .bool false, .slice (some ⟨nd21, 0, none⟩) 4 4, .pointer (some ⟨nd21, 4, none⟩), .agg #[.iface 206 (.pointer (some ⟨nd16, 0, none⟩)), .int .i32 loc], .slice (some ⟨nd11, 0, none⟩) key.size key.size, .bool true, .bool false, .bool false, undef, undef, undef, undef, undef, undef, undef, undef, undef, undef, undef, undef, undef, undef, undef, undef, undef, undef, undef, undef, undef, undef, undef, undef, undef, undef, undef, undef, undef, undef, undef, undef, undef, undef, undef, undef, undef, undef, undef, undef, undef, undef, undef, undef, undef], []⟩ := by rw [← hfr]; kernel_rfl
        clear hfr
        subst hdf
        clear α
        subst hX9_34
        have hN : Own w0 u [row (nd15) 51 (units key), row (nd16) 208 #[.slice (some ⟨nd15, 0, none⟩) key.size key.size, .int .i32 0, .bool false, .bool false, .bool false], row (nd21) 35 #[.iface 225 (.pointer (some ⟨nd24, 0, none⟩)), .int .i32 loc, .iface 237 (.pointer (some ⟨nd23, 0, none⟩)), .int .i32 loc, .iface 206 (.pointer (some ⟨nd16, 0, none⟩)), .int .i32 loc, .iface 209 (.pointer (some ⟨nd17, 0, none⟩)), .int .i32 loc], row (nd22) 211 #[.int .u32 0, .int .u32 0, .bool false, .bool false, .bool false], row (nd24) 228 #[.iface 209 (.pointer (some ⟨nd22, 0, none⟩)), .int .i32 loc, .string ⟨#[112, 114, 111, 116, 111, 116, 121, 112, 101]⟩, .int .i32 loc, .int .u8 0, .bool false, .bool false, .bool false], row (nd11) 51 (units key), row (B1) 25 #[.int .u32 0, .int .u32 0], row (nd18) 71 #[.iface 209 (.pointer (some ⟨nd20, 0, none⟩)), .int .i32 loc, .slice (some ⟨nd21, 0, none⟩) 4 4, .int .i32 0, .int .u8 0, .int .u8 0, .bool false, .bool false], row (nd20) 211 #[.int .u32 0, .int .u32 1, .bool false, .bool false, .bool false], row (nd4) 193 ((newSfftP nd3 nd5 nd6 nd7).setIfInBounds 106 (.slice (some ⟨nd26, 0, none⟩) 2 (2 + nd27))), ((nd5, .map #[⟨.string ⟨#[95, 95, 115, 117, 112, 101, 114, 83, 101, 116]⟩, .agg #[.int .i32 loc, .int .u32 0, .int .u32 1], 0⟩] 1) : Rw), row (B30) 25 #[.int .u32 0, .int .u32 1], row (B12) 25 #[.int .u32 3, .int .u32 vm], row (B8) 31 #[.int .i32 loc], row (nd26) 56 (full symZ (symL ([sy ⟨#[70, 111, 111]⟩ 1, sy ⟨#[95, 95, 115, 117, 112, 101, 114, 83, 101, 116]⟩ 1])) (nd27)), row (nd6) 203 (#[.pointer none, .pointer none, .slice none 0 0, .map none, .slice none 0 0, .slice none 0 0, .int .i32 0, .int .i32 0, .int .u32 0, .int .u32 0, .bool false, .bool false, .bool false, .bool false, .int .u8 0, .int .u8 6].setIfInBounds 5 (.slice (some ⟨nd25, 0, none⟩) 1 (1 + (nd28)))), row (nd7) 25 #[.int .u32 0, .int .u32 0], row (nd17) 211 #[.int .u32 3, .int .u32 vm, .bool false, .bool false, .bool false], row (nd23) 241 #[], row (nd25) 25 (full refZ [.int .u32 0, .int .u32 1] (nd28)), row (nd19) 35 #[.iface 65 (.pointer (some ⟨nd18, 0, none⟩)), .int .i32 loc]] X := hO.back HL.out HX.out [0, 1, 2, 3, 4, 5, 6, 7, 8, 9, 12, 15, 17, 18] (by decide) (by decide)
        clear hO HL HX
        have hO := hN
        clear hN
        obtain ⟨ix9, hix9, hax9, hjx9⟩ := hO.ix
        have ix9_0 : ix9 nd15 = 0 := hjx9 0 _ _ rfl
        have ix9_1 : ix9 nd16 = 1 := hjx9 1 _ _ rfl
        have ix9_2 : ix9 nd21 = 2 := hjx9 2 _ _ rfl
        have ix9_3 : ix9 nd22 = 3 := hjx9 3 _ _ rfl
        have ix9_4 : ix9 nd24 = 4 := hjx9 4 _ _ rfl
        have ix9_5 : ix9 nd11 = 5 := hjx9 5 _ _ rfl
        have ix9_6 : ix9 B1 = 6 := hjx9 6 _ _ rfl
        have ix9_7 : ix9 nd18 = 7 := hjx9 7 _ _ rfl
        have ix9_8 : ix9 nd20 = 8 := hjx9 8 _ _ rfl
        have ix9_9 : ix9 nd4 = 9 := hjx9 9 _ _ rfl
        have ix9_10 : ix9 nd5 = 10 := hjx9 10 _ _ rfl
        have ix9_11 : ix9 B30 = 11 := hjx9 11 _ _ rfl
        have ix9_12 : ix9 B12 = 12 := hjx9 12 _ _ rfl
        have ix9_13 : ix9 B8 = 13 := hjx9 13 _ _ rfl
        have ix9_14 : ix9 nd26 = 14 := hjx9 14 _ _ rfl
        have ix9_15 : ix9 nd6 = 15 := hjx9 15 _ _ rfl
        have ix9_16 : ix9 nd7 = 16 := hjx9 16 _ _ rfl
        have ix9_17 : ix9 nd17 = 17 := hjx9 17 _ _ rfl
        have ix9_18 : ix9 nd23 = 18 := hjx9 18 _ _ rfl
        have ix9_19 : ix9 nd25 = 19 := hjx9 19 _ _ rfl
        have ix9_20 : ix9 nd19 = 20 := hjx9 20 _ _ rfl
        clear hjx9
        have pl9_0 : Base.plainAt u (nd15) = true := hO.plain 0 rfl
        obtain ⟨c9_1_0, c9_1_1, c9_1_2, c9_1_3, c9_1_4, lt9_1, y9_1, -⟩ := hO.k5 1 rfl
        obtain ⟨c9_2_0, c9_2_1, c9_2_2, c9_2_3, c9_2_4, c9_2_5, c9_2_6, c9_2_7, lt9_2, y9_2, pl9_2⟩ := hO.k8 2 rfl
        obtain ⟨c9_3_0, c9_3_1, c9_3_2, c9_3_3, c9_3_4, lt9_3, y9_3, pl9_3⟩ := hO.k5 3 rfl
        obtain ⟨c9_4_0, c9_4_1, c9_4_2, c9_4_3, c9_4_4, c9_4_5, c9_4_6, c9_4_7, lt9_4, y9_4, -⟩ := hO.k8 4 rfl
        have pl9_5 : Base.plainAt u (nd11) = true := hO.plain 5 rfl
        obtain ⟨c9_6_0, c9_6_1, lt9_6, y9_6, pl9_6⟩ := hO.k2 6 rfl
        obtain ⟨c9_7_0, c9_7_1, c9_7_2, c9_7_3, c9_7_4, c9_7_5, c9_7_6, c9_7_7, lt9_7, y9_7, -⟩ := hO.k8 7 rfl
        obtain ⟨c9_8_0, c9_8_1, c9_8_2, c9_8_3, c9_8_4, lt9_8, y9_8, pl9_8⟩ := hO.k5 8 rfl
        have c9_9_32 : u.cell? ⟨nd4, 32, none⟩ = some (.bool false) := hO.cell 9 rfl 32 ((get_other (newSfft_32 (nd3) (nd5) (nd6) (nd7)) (by omega) _))
        have c9_9_66 : u.cell? ⟨nd4, 66, none⟩ = some (.int .u32 0) := hO.cell 9 rfl 66 ((get_other (newSfft_66 (nd3) (nd5) (nd6) (nd7)) (by omega) _))
        have c9_9_95 : u.cell? ⟨nd4, 95, none⟩ = some (.bool false) := hO.cell 9 rfl 95 ((get_other (newSfft_95 (nd3) (nd5) (nd6) (nd7)) (by omega) _))
        have c9_9_96 : u.cell? ⟨nd4, 96, none⟩ = some (.bool false) := hO.cell 9 rfl 96 ((get_other (newSfft_96 (nd3) (nd5) (nd6) (nd7)) (by omega) _))
        have c9_9_97 : u.cell? ⟨nd4, 97, none⟩ = some (.pointer (some ⟨nd7, 0, none⟩)) := hO.cell 9 rfl 97 ((get_other (newSfft_97 (nd3) (nd5) (nd6) (nd7)) (by omega) _))
        have c9_9_105 : u.cell? ⟨nd4, 105, none⟩ = some (.pointer none) := hO.cell 9 rfl 105 ((get_other (newSfft_105 (nd3) (nd5) (nd6) (nd7)) (by omega) _))
        have c9_9_106 : u.cell? ⟨nd4, 106, none⟩ = some (.slice (some ⟨nd26, 0, none⟩) 2 (2 + (nd27))) := hO.cell 9 rfl 106 ((get_set (newSfft_106 (nd3) (nd5) (nd6) (nd7)) _))
        have c9_9_117 : u.cell? ⟨nd4, 117, none⟩ = some (.map (some (nd5))) := hO.cell 9 rfl 117 ((get_other (newSfft_117 (nd3) (nd5) (nd6) (nd7)) (by omega) _))
        have c9_9_187 : u.cell? ⟨nd4, 187, none⟩ = some (.pointer (some ⟨nd6, 0, none⟩)) := hO.cell 9 rfl 187 ((get_other (newSfft_187 (nd3) (nd5) (nd6) (nd7)) (by omega) _))
        have c9_9_338 : u.cell? ⟨nd4, 338, none⟩ = some (.bool true) := hO.cell 9 rfl 338 ((get_other (newSfft_338 (nd3) (nd5) (nd6) (nd7)) (by omega) _))
        have c9_9_350 : u.cell? ⟨nd4, 350, none⟩ = some (.bool false) := hO.cell 9 rfl 350 ((get_other (newSfft_350 (nd3) (nd5) (nd6) (nd7)) (by omega) _))
        have lt9_9 : nd4 < u.heap.size := hO.lt 9 rfl
        have y9_9 : ∀ o, u.frozen? ⟨nd4, o, none⟩ = false := hO.free 9 rfl
        obtain ⟨c9_11_0, c9_11_1, lt9_11, y9_11, pl9_11⟩ := hO.k2 11 rfl
        obtain ⟨c9_12_0, c9_12_1, lt9_12, y9_12, pl9_12⟩ := hO.k2 12 rfl
        obtain ⟨c9_13_0, lt9_13, y9_13, -⟩ := hO.k1 13 rfl
        have c9_14_1 : u.cell? ⟨nd26, 1, none⟩ = some (.string ⟨#[70, 111, 111]⟩) := hO.cell 14 rfl 1 ((full_at rfl))
        have c9_14_4 : u.cell? ⟨nd26, 4, none⟩ = some (.int .u32 1) := hO.cell 14 rfl 4 ((full_at rfl))
        have c9_14_11 : u.cell? ⟨nd26, 11, none⟩ = some (.string ⟨#[95, 95, 115, 117, 112, 101, 114, 83, 101, 116]⟩) := hO.cell 14 rfl 11 ((full_at rfl))
        have c9_14_14 : u.cell? ⟨nd26, 14, none⟩ = some (.int .u32 1) := hO.cell 14 rfl 14 ((full_at rfl))
        have lt9_14 : nd26 < u.heap.size := hO.lt 14 rfl
        have y9_14 : ∀ o, u.frozen? ⟨nd26, o, none⟩ = false := hO.free 14 rfl
        obtain ⟨c9_16_0, c9_16_1, lt9_16, y9_16, pl9_16⟩ := hO.k2 16 rfl
        obtain ⟨c9_17_0, c9_17_1, c9_17_2, c9_17_3, c9_17_4, lt9_17, y9_17, pl9_17⟩ := hO.k5 17 rfl
        obtain ⟨lt9_18, y9_18, -⟩ := hO.k0 18 rfl
        have pl9_19 : Base.plainAt u (nd25) = true := hO.plain 19 rfl
        have c9_19_0 : u.cell? ⟨nd25, 0, none⟩ = some (.int .u32 0) := hO.cell 19 rfl 0 ((full_at rfl))
        have c9_19_1 : u.cell? ⟨nd25, 1, none⟩ = some (.int .u32 1) := hO.cell 19 rfl 1 ((full_at rfl))
        have lt9_19 : nd25 < u.heap.size := hO.lt 19 rfl
        have y9_19 : ∀ o, u.frozen? ⟨nd25, o, none⟩ = false := hO.free 19 rfl
        obtain ⟨c9_20_0, c9_20_1, lt9_20, y9_20, pl9_20⟩ := hO.k2 20 rfl
        have HO := Lib.hid hO
        clear hO
        go_wp2_with (first | (with_reducible refine Own.stay (fn := Tryd.f5) ?_) | (first | (go_at_call 22; go_in)))
        try with_reducible refine Own.Stay.mk ?_
        have hO := HO.out
        clear HO hix9 hax9 ix9_0 ix9_1 ix9_2 ix9_3 ix9_4 ix9_5 ix9_6 ix9_7 ix9_8 ix9_9 ix9_10 ix9_11 ix9_12 ix9_13 ix9_14 ix9_15 ix9_16 ix9_17 ix9_18 ix9_19 ix9_20 ix9 pl9_0 c9_1_0 c9_1_1 c9_1_2 c9_1_3 c9_1_4 lt9_1 y9_1 c9_2_0 c9_2_1 c9_2_2 c9_2_3 c9_2_4 c9_2_5 c9_2_6 c9_2_7 lt9_2 y9_2 pl9_2 c9_3_0 c9_3_1 c9_3_2 c9_3_3 c9_3_4 lt9_3 y9_3 pl9_3 c9_4_0 c9_4_1 c9_4_2 c9_4_3 c9_4_4 c9_4_5 c9_4_6 c9_4_7 lt9_4 y9_4 pl9_5 c9_6_0 c9_6_1 lt9_6 y9_6 pl9_6 c9_7_0 c9_7_1 c9_7_2 c9_7_3 c9_7_4 c9_7_5 c9_7_6 c9_7_7 lt9_7 y9_7 c9_8_0 c9_8_1 c9_8_2 c9_8_3 c9_8_4 lt9_8 y9_8 pl9_8 c9_9_32 c9_9_66 c9_9_95 c9_9_96 c9_9_97 c9_9_105 c9_9_106 c9_9_117 c9_9_187 c9_9_338 c9_9_350 lt9_9 y9_9 c9_11_0 c9_11_1 lt9_11 y9_11 pl9_11 c9_12_0 c9_12_1 lt9_12 y9_12 pl9_12 c9_13_0 lt9_13 y9_13 c9_14_1 c9_14_4 c9_14_11 c9_14_14 lt9_14 y9_14 c9_16_0 c9_16_1 lt9_16 y9_16 pl9_16 c9_17_0 c9_17_1 c9_17_2 c9_17_3 c9_17_4 lt9_17 y9_17 pl9_17 lt9_18 y9_18 pl9_19 c9_19_0 c9_19_1 lt9_19 y9_19 c9_20_0 c9_20_1 lt9_20 y9_20 pl9_20
        have hL := hO.apart
        have hX := hO.apartX
        have HL := Lib.hid hL
        have HX := Lib.hid hX
        clear hL hX
        have hP9 := hO.pick [17] (by decide)
        have T9 := identOf nd17 loc 3 vm _ _ _ hP9 
        refine Calls.mono T9 ?_
        clear hP9 T9
        rintro e u35 ⟨rfl, hQ⟩
        have hN : Own w0 u35 [row (nd17) 211 #[.int .u32 3, .int .u32 vm, .bool false, .bool false, .bool false], row (nd15) 51 (units key), row (nd16) 208 #[.slice (some ⟨nd15, 0, none⟩) key.size key.size, .int .i32 0, .bool false, .bool false, .bool false], row (nd21) 35 #[.iface 225 (.pointer (some ⟨nd24, 0, none⟩)), .int .i32 loc, .iface 237 (.pointer (some ⟨nd23, 0, none⟩)), .int .i32 loc, .iface 206 (.pointer (some ⟨nd16, 0, none⟩)), .int .i32 loc, .iface 209 (.pointer (some ⟨nd17, 0, none⟩)), .int .i32 loc], row (nd22) 211 #[.int .u32 0, .int .u32 0, .bool false, .bool false, .bool false], row (nd24) 228 #[.iface 209 (.pointer (some ⟨nd22, 0, none⟩)), .int .i32 loc, .string ⟨#[112, 114, 111, 116, 111, 116, 121, 112, 101]⟩, .int .i32 loc, .int .u8 0, .bool false, .bool false, .bool false], row (nd11) 51 (units key), row (B1) 25 #[.int .u32 0, .int .u32 0], row (nd18) 71 #[.iface 209 (.pointer (some ⟨nd20, 0, none⟩)), .int .i32 loc, .slice (some ⟨nd21, 0, none⟩) 4 4, .int .i32 0, .int .u8 0, .int .u8 0, .bool false, .bool false], row (nd20) 211 #[.int .u32 0, .int .u32 1, .bool false, .bool false, .bool false], row (nd4) 193 ((newSfftP nd3 nd5 nd6 nd7).setIfInBounds 106 (.slice (some ⟨nd26, 0, none⟩) 2 (2 + nd27))), ((nd5, .map #[⟨.string ⟨#[95, 95, 115, 117, 112, 101, 114, 83, 101, 116]⟩, .agg #[.int .i32 loc, .int .u32 0, .int .u32 1], 0⟩] 1) : Rw), row (B30) 25 #[.int .u32 0, .int .u32 1], row (B12) 25 #[.int .u32 3, .int .u32 vm], row (B8) 31 #[.int .i32 loc], row (nd26) 56 (full symZ (symL ([sy ⟨#[70, 111, 111]⟩ 1, sy ⟨#[95, 95, 115, 117, 112, 101, 114, 83, 101, 116]⟩ 1])) (nd27)), row (nd6) 203 (#[.pointer none, .pointer none, .slice none 0 0, .map none, .slice none 0 0, .slice none 0 0, .int .i32 0, .int .i32 0, .int .u32 0, .int .u32 0, .bool false, .bool false, .bool false, .bool false, .int .u8 0, .int .u8 6].setIfInBounds 5 (.slice (some ⟨nd25, 0, none⟩) 1 (1 + (nd28)))), row (nd7) 25 #[.int .u32 0, .int .u32 0], row (nd23) 241 #[], row (nd25) 25 (full refZ [.int .u32 0, .int .u32 1] (nd28)), row (nd19) 35 #[.iface 65 (.pointer (some ⟨nd18, 0, none⟩)), .int .i32 loc]] X := hQ.back HL.out HX.out [0, 1, 2, 3, 4, 5, 6, 7, 8, 9, 10, 11, 12, 13, 14, 15, 16, 18, 19, 20] (by decide) (by decide)
        clear hQ HL HX hO
        have hO := hN
        clear hN
        obtain ⟨ix9, hix9, hax9, hjx9⟩ := hO.ix
        have ix9_0 : ix9 nd17 = 0 := hjx9 0 _ _ rfl
        have ix9_1 : ix9 nd15 = 1 := hjx9 1 _ _ rfl
        have ix9_2 : ix9 nd16 = 2 := hjx9 2 _ _ rfl
        have ix9_3 : ix9 nd21 = 3 := hjx9 3 _ _ rfl
        have ix9_4 : ix9 nd22 = 4 := hjx9 4 _ _ rfl
        have ix9_5 : ix9 nd24 = 5 := hjx9 5 _ _ rfl
        have ix9_6 : ix9 nd11 = 6 := hjx9 6 _ _ rfl
        have ix9_7 : ix9 B1 = 7 := hjx9 7 _ _ rfl
        have ix9_8 : ix9 nd18 = 8 := hjx9 8 _ _ rfl
        have ix9_9 : ix9 nd20 = 9 := hjx9 9 _ _ rfl
        have ix9_10 : ix9 nd4 = 10 := hjx9 10 _ _ rfl
        have ix9_11 : ix9 nd5 = 11 := hjx9 11 _ _ rfl
        have ix9_12 : ix9 B30 = 12 := hjx9 12 _ _ rfl
        have ix9_13 : ix9 B12 = 13 := hjx9 13 _ _ rfl
        have ix9_14 : ix9 B8 = 14 := hjx9 14 _ _ rfl
        have ix9_15 : ix9 nd26 = 15 := hjx9 15 _ _ rfl
        have ix9_16 : ix9 nd6 = 16 := hjx9 16 _ _ rfl
        have ix9_17 : ix9 nd7 = 17 := hjx9 17 _ _ rfl
        have ix9_18 : ix9 nd23 = 18 := hjx9 18 _ _ rfl
        have ix9_19 : ix9 nd25 = 19 := hjx9 19 _ _ rfl
        have ix9_20 : ix9 nd19 = 20 := hjx9 20 _ _ rfl
        clear hjx9
        obtain ⟨c9_0_0, c9_0_1, c9_0_2, c9_0_3, c9_0_4, lt9_0, y9_0, pl9_0⟩ := hO.k5 0 rfl
        have pl9_1 : Base.plainAt u35 (nd15) = true := hO.plain 1 rfl
        obtain ⟨c9_2_0, c9_2_1, c9_2_2, c9_2_3, c9_2_4, lt9_2, y9_2, -⟩ := hO.k5 2 rfl
        obtain ⟨c9_3_0, c9_3_1, c9_3_2, c9_3_3, c9_3_4, c9_3_5, c9_3_6, c9_3_7, lt9_3, y9_3, pl9_3⟩ := hO.k8 3 rfl
        obtain ⟨c9_4_0, c9_4_1, c9_4_2, c9_4_3, c9_4_4, lt9_4, y9_4, pl9_4⟩ := hO.k5 4 rfl
        obtain ⟨c9_5_0, c9_5_1, c9_5_2, c9_5_3, c9_5_4, c9_5_5, c9_5_6, c9_5_7, lt9_5, y9_5, -⟩ := hO.k8 5 rfl
        have pl9_6 : Base.plainAt u35 (nd11) = true := hO.plain 6 rfl
        obtain ⟨c9_7_0, c9_7_1, lt9_7, y9_7, pl9_7⟩ := hO.k2 7 rfl
        obtain ⟨c9_8_0, c9_8_1, c9_8_2, c9_8_3, c9_8_4, c9_8_5, c9_8_6, c9_8_7, lt9_8, y9_8, -⟩ := hO.k8 8 rfl
        obtain ⟨c9_9_0, c9_9_1, c9_9_2, c9_9_3, c9_9_4, lt9_9, y9_9, pl9_9⟩ := hO.k5 9 rfl
        have c9_10_32 : u35.cell? ⟨nd4, 32, none⟩ = some (.bool false) := hO.cell 10 rfl 32 ((get_other (newSfft_32 (nd3) (nd5) (nd6) (nd7)) (by omega) _))
        have c9_10_66 : u35.cell? ⟨nd4, 66, none⟩ = some (.int .u32 0) := hO.cell 10 rfl 66 ((get_other (newSfft_66 (nd3) (nd5) (nd6) (nd7)) (by omega) _))
        have c9_10_95 : u35.cell? ⟨nd4, 95, none⟩ = some (.bool false) := hO.cell 10 rfl 95 ((get_other (newSfft_95 (nd3) (nd5) (nd6) (nd7)) (by omega) _))
        have c9_10_96 : u35.cell? ⟨nd4, 96, none⟩ = some (.bool false) := hO.cell 10 rfl 96 ((get_other (newSfft_96 (nd3) (nd5) (nd6) (nd7)) (by omega) _))
        have c9_10_97 : u35.cell? ⟨nd4, 97, none⟩ = some (.pointer (some ⟨nd7, 0, none⟩)) := hO.cell 10 rfl 97 ((get_other (newSfft_97 (nd3) (nd5) (nd6) (nd7)) (by omega) _))
        have c9_10_105 : u35.cell? ⟨nd4, 105, none⟩ = some (.pointer none) := hO.cell 10 rfl 105 ((get_other (newSfft_105 (nd3) (nd5) (nd6) (nd7)) (by omega) _))
        have c9_10_106 : u35.cell? ⟨nd4, 106, none⟩ = some (.slice (some ⟨nd26, 0, none⟩) 2 (2 + (nd27))) := hO.cell 10 rfl 106 ((get_set (newSfft_106 (nd3) (nd5) (nd6) (nd7)) _))
        have c9_10_117 : u35.cell? ⟨nd4, 117, none⟩ = some (.map (some (nd5))) := hO.cell 10 rfl 117 ((get_other (newSfft_117 (nd3) (nd5) (nd6) (nd7)) (by omega) _))
        have c9_10_187 : u35.cell? ⟨nd4, 187, none⟩ = some (.pointer (some ⟨nd6, 0, none⟩)) := hO.cell 10 rfl 187 ((get_other (newSfft_187 (nd3) (nd5) (nd6) (nd7)) (by omega) _))
        have c9_10_338 : u35.cell? ⟨nd4, 338, none⟩ = some (.bool true) := hO.cell 10 rfl 338 ((get_other (newSfft_338 (nd3) (nd5) (nd6) (nd7)) (by omega) _))
        have c9_10_350 : u35.cell? ⟨nd4, 350, none⟩ = some (.bool false) := hO.cell 10 rfl 350 ((get_other (newSfft_350 (nd3) (nd5) (nd6) (nd7)) (by omega) _))
        have lt9_10 : nd4 < u35.heap.size := hO.lt 10 rfl
        have y9_10 : ∀ o, u35.frozen? ⟨nd4, o, none⟩ = false := hO.free 10 rfl
        obtain ⟨c9_12_0, c9_12_1, lt9_12, y9_12, pl9_12⟩ := hO.k2 12 rfl
        obtain ⟨c9_13_0, c9_13_1, lt9_13, y9_13, pl9_13⟩ := hO.k2 13 rfl
        obtain ⟨c9_14_0, lt9_14, y9_14, -⟩ := hO.k1 14 rfl
        have c9_15_1 : u35.cell? ⟨nd26, 1, none⟩ = some (.string ⟨#[70, 111, 111]⟩) := hO.cell 15 rfl 1 ((full_at rfl))
        have c9_15_4 : u35.cell? ⟨nd26, 4, none⟩ = some (.int .u32 1) := hO.cell 15 rfl 4 ((full_at rfl))
        have c9_15_11 : u35.cell? ⟨nd26, 11, none⟩ = some (.string ⟨#[95, 95, 115, 117, 112, 101, 114, 83, 101, 116]⟩) := hO.cell 15 rfl 11 ((full_at rfl))
        have c9_15_14 : u35.cell? ⟨nd26, 14, none⟩ = some (.int .u32 1) := hO.cell 15 rfl 14 ((full_at rfl))
        have lt9_15 : nd26 < u35.heap.size := hO.lt 15 rfl
        have y9_15 : ∀ o, u35.frozen? ⟨nd26, o, none⟩ = false := hO.free 15 rfl
        obtain ⟨c9_17_0, c9_17_1, lt9_17, y9_17, pl9_17⟩ := hO.k2 17 rfl
        obtain ⟨lt9_18, y9_18, -⟩ := hO.k0 18 rfl
        have pl9_19 : Base.plainAt u35 (nd25) = true := hO.plain 19 rfl
        have c9_19_0 : u35.cell? ⟨nd25, 0, none⟩ = some (.int .u32 0) := hO.cell 19 rfl 0 ((full_at rfl))
        have c9_19_1 : u35.cell? ⟨nd25, 1, none⟩ = some (.int .u32 1) := hO.cell 19 rfl 1 ((full_at rfl))
        have lt9_19 : nd25 < u35.heap.size := hO.lt 19 rfl
        have y9_19 : ∀ o, u35.frozen? ⟨nd25, o, none⟩ = false := hO.free 19 rfl
        obtain ⟨c9_20_0, c9_20_1, lt9_20, y9_20, pl9_20⟩ := hO.k2 20 rfl
        have HO := Lib.hid hO
        clear hO
        go_wp2_with (first | (with_reducible refine Own.stay (fn := Tryd.f5) ?_) | (first | (go_at_call 22; go_in)))
        try with_reducible refine Own.Stay.mk ?_
        have hO := HO.out
        clear HO hix9 hax9 ix9_0 ix9_1 ix9_2 ix9_3 ix9_4 ix9_5 ix9_6 ix9_7 ix9_8 ix9_9 ix9_10 ix9_11 ix9_12 ix9_13 ix9_14 ix9_15 ix9_16 ix9_17 ix9_18 ix9_19 ix9_20 ix9 c9_0_0 c9_0_1 c9_0_2 c9_0_3 c9_0_4 lt9_0 y9_0 pl9_0 pl9_1 c9_2_0 c9_2_1 c9_2_2 c9_2_3 c9_2_4 lt9_2 y9_2 c9_3_0 c9_3_1 c9_3_2 c9_3_3 c9_3_4 c9_3_5 c9_3_6 c9_3_7 lt9_3 y9_3 pl9_3 c9_4_0 c9_4_1 c9_4_2 c9_4_3 c9_4_4 lt9_4 y9_4 pl9_4 c9_5_0 c9_5_1 c9_5_2 c9_5_3 c9_5_4 c9_5_5 c9_5_6 c9_5_7 lt9_5 y9_5 pl9_6 c9_7_0 c9_7_1 lt9_7 y9_7 pl9_7 c9_8_0 c9_8_1 c9_8_2 c9_8_3 c9_8_4 c9_8_5 c9_8_6 c9_8_7 lt9_8 y9_8 c9_9_0 c9_9_1 c9_9_2 c9_9_3 c9_9_4 lt9_9 y9_9 pl9_9 c9_10_32 c9_10_66 c9_10_95 c9_10_96 c9_10_97 c9_10_105 c9_10_106 c9_10_117 c9_10_187 c9_10_338 c9_10_350 lt9_10 y9_10 c9_12_0 c9_12_1 lt9_12 y9_12 pl9_12 c9_13_0 c9_13_1 lt9_13 y9_13 pl9_13 c9_14_0 lt9_14 y9_14 c9_15_1 c9_15_4 c9_15_11 c9_15_14 lt9_15 y9_15 c9_17_0 c9_17_1 lt9_17 y9_17 pl9_17 lt9_18 y9_18 pl9_19 c9_19_0 c9_19_1 lt9_19 y9_19 c9_20_0 c9_20_1 lt9_20 y9_20 pl9_20
        generalize hW : World.alloc _ _ = W37
        have hN : Own w0 W37 [row (u35.heap.size) 25 #[.int .u32 3, .int .u32 vm], row (nd17) 211 #[.int .u32 3, .int .u32 vm, .bool false, .bool false, .bool false], row (nd15) 51 (units key), row (nd16) 208 #[.slice (some ⟨nd15, 0, none⟩) key.size key.size, .int .i32 0, .bool false, .bool false, .bool false], row (nd21) 35 #[.iface 225 (.pointer (some ⟨nd24, 0, none⟩)), .int .i32 loc, .iface 237 (.pointer (some ⟨nd23, 0, none⟩)), .int .i32 loc, .iface 206 (.pointer (some ⟨nd16, 0, none⟩)), .int .i32 loc, .iface 209 (.pointer (some ⟨nd17, 0, none⟩)), .int .i32 loc], row (nd22) 211 #[.int .u32 0, .int .u32 0, .bool false, .bool false, .bool false], row (nd24) 228 #[.iface 209 (.pointer (some ⟨nd22, 0, none⟩)), .int .i32 loc, .string ⟨#[112, 114, 111, 116, 111, 116, 121, 112, 101]⟩, .int .i32 loc, .int .u8 0, .bool false, .bool false, .bool false], row (nd11) 51 (units key), row (B1) 25 #[.int .u32 0, .int .u32 0], row (nd18) 71 #[.iface 209 (.pointer (some ⟨nd20, 0, none⟩)), .int .i32 loc, .slice (some ⟨nd21, 0, none⟩) 4 4, .int .i32 0, .int .u8 0, .int .u8 0, .bool false, .bool false], row (nd20) 211 #[.int .u32 0, .int .u32 1, .bool false, .bool false, .bool false], row (nd4) 193 ((newSfftP nd3 nd5 nd6 nd7).setIfInBounds 106 (.slice (some ⟨nd26, 0, none⟩) 2 (2 + nd27))), ((nd5, .map #[⟨.string ⟨#[95, 95, 115, 117, 112, 101, 114, 83, 101, 116]⟩, .agg #[.int .i32 loc, .int .u32 0, .int .u32 1], 0⟩] 1) : Rw), row (B30) 25 #[.int .u32 0, .int .u32 1], row (B12) 25 #[.int .u32 3, .int .u32 vm], row (B8) 31 #[.int .i32 loc], row (nd26) 56 (full symZ (symL ([sy ⟨#[70, 111, 111]⟩ 1, sy ⟨#[95, 95, 115, 117, 112, 101, 114, 83, 101, 116]⟩ 1])) (nd27)), row (nd6) 203 (#[.pointer none, .pointer none, .slice none 0 0, .map none, .slice none 0 0, .slice none 0 0, .int .i32 0, .int .i32 0, .int .u32 0, .int .u32 0, .bool false, .bool false, .bool false, .bool false, .int .u8 0, .int .u8 6].setIfInBounds 5 (.slice (some ⟨nd25, 0, none⟩) 1 (1 + (nd28)))), row (nd7) 25 #[.int .u32 0, .int .u32 0], row (nd23) 241 #[], row (nd25) 25 (full refZ [.int .u32 0, .int .u32 1] (nd28)), row (nd19) 35 #[.iface 65 (.pointer (some ⟨nd18, 0, none⟩)), .int .i32 loc]] X := by
          rw [← hW]
          exact (hO).alloc' _ (u35.heap.size) (by simp)
        clear hW hO
        generalize u35.heap.size = B36 at hN ⊢
        have hO := hN
        clear hN
        have hL := hO.apart
        have hX := hO.apartX
        have HL := Lib.hid hL
        have HX := Lib.hid hX
        clear hL hX
        have hP9 := hO.pick [11] (by decide)
        have T9 := symsO nd4 ((newSfftP nd3 nd5 nd6 nd7).setIfInBounds 106 (.slice (some ⟨nd26, 0, none⟩) 2 (2 + nd27))) nd26 2 (2 + nd27) _ _ _ hP9 (get_set (newSfft_106 (nd3) (nd5) (nd6) (nd7)) _)
        refine Calls.mono T9 ?_
        clear hP9 T9
        rintro e u38 ⟨rfl, hQ⟩
        have hN : Own w0 u38 [row (nd4) 193 ((newSfftP nd3 nd5 nd6 nd7).setIfInBounds 106 (.slice (some ⟨nd26, 0, none⟩) 2 (2 + nd27))), row (B36) 25 #[.int .u32 3, .int .u32 vm], row (nd17) 211 #[.int .u32 3, .int .u32 vm, .bool false, .bool false, .bool false], row (nd15) 51 (units key), row (nd16) 208 #[.slice (some ⟨nd15, 0, none⟩) key.size key.size, .int .i32 0, .bool false, .bool false, .bool false], row (nd21) 35 #[.iface 225 (.pointer (some ⟨nd24, 0, none⟩)), .int .i32 loc, .iface 237 (.pointer (some ⟨nd23, 0, none⟩)), .int .i32 loc, .iface 206 (.pointer (some ⟨nd16, 0, none⟩)), .int .i32 loc, .iface 209 (.pointer (some ⟨nd17, 0, none⟩)), .int .i32 loc], row (nd22) 211 #[.int .u32 0, .int .u32 0, .bool false, .bool false, .bool false], row (nd24) 228 #[.iface 209 (.pointer (some ⟨nd22, 0, none⟩)), .int .i32 loc, .string ⟨#[112, 114, 111, 116, 111, 116, 121, 112, 101]⟩, .int .i32 loc, .int .u8 0, .bool false, .bool false, .bool false], row (nd11) 51 (units key), row (B1) 25 #[.int .u32 0, .int .u32 0], row (nd18) 71 #[.iface 209 (.pointer (some ⟨nd20, 0, none⟩)), .int .i32 loc, .slice (some ⟨nd21, 0, none⟩) 4 4, .int .i32 0, .int .u8 0, .int .u8 0, .bool false, .bool false], row (nd20) 211 #[.int .u32 0, .int .u32 1, .bool false, .bool false, .bool false], ((nd5, .map #[⟨.string ⟨#[95, 95, 115, 117, 112, 101, 114, 83, 101, 116]⟩, .agg #[.int .i32 loc, .int .u32 0, .int .u32 1], 0⟩] 1) : Rw), row (B30) 25 #[.int .u32 0, .int .u32 1], row (B12) 25 #[.int .u32 3, .int .u32 vm], row (B8) 31 #[.int .i32 loc], row (nd26) 56 (full symZ (symL ([sy ⟨#[70, 111, 111]⟩ 1, sy ⟨#[95, 95, 115, 117, 112, 101, 114, 83, 101, 116]⟩ 1])) (nd27)), row (nd6) 203 (#[.pointer none, .pointer none, .slice none 0 0, .map none, .slice none 0 0, .slice none 0 0, .int .i32 0, .int .i32 0, .int .u32 0, .int .u32 0, .bool false, .bool false, .bool false, .bool false, .int .u8 0, .int .u8 6].setIfInBounds 5 (.slice (some ⟨nd25, 0, none⟩) 1 (1 + (nd28)))), row (nd7) 25 #[.int .u32 0, .int .u32 0], row (nd23) 241 #[], row (nd25) 25 (full refZ [.int .u32 0, .int .u32 1] (nd28)), row (nd19) 35 #[.iface 65 (.pointer (some ⟨nd18, 0, none⟩)), .int .i32 loc]] X := hQ.back HL.out HX.out [0, 1, 2, 3, 4, 5, 6, 7, 8, 9, 10, 12, 13, 14, 15, 16, 17, 18, 19, 20, 21] (by decide) (by decide)
        clear hQ HL HX hO
        have hO := hN
        clear hN
        obtain ⟨ix9, hix9, hax9, hjx9⟩ := hO.ix
        have ix9_0 : ix9 nd4 = 0 := hjx9 0 _ _ rfl
        have ix9_1 : ix9 B36 = 1 := hjx9 1 _ _ rfl
        have ix9_2 : ix9 nd17 = 2 := hjx9 2 _ _ rfl
        have ix9_3 : ix9 nd15 = 3 := hjx9 3 _ _ rfl
        have ix9_4 : ix9 nd16 = 4 := hjx9 4 _ _ rfl
        have ix9_5 : ix9 nd21 = 5 := hjx9 5 _ _ rfl
        have ix9_6 : ix9 nd22 = 6 := hjx9 6 _ _ rfl
        have ix9_7 : ix9 nd24 = 7 := hjx9 7 _ _ rfl
        have ix9_8 : ix9 nd11 = 8 := hjx9 8 _ _ rfl
        have ix9_9 : ix9 B1 = 9 := hjx9 9 _ _ rfl
        have ix9_10 : ix9 nd18 = 10 := hjx9 10 _ _ rfl
        have ix9_11 : ix9 nd20 = 11 := hjx9 11 _ _ rfl
        have ix9_12 : ix9 nd5 = 12 := hjx9 12 _ _ rfl
        have ix9_13 : ix9 B30 = 13 := hjx9 13 _ _ rfl
        have ix9_14 : ix9 B12 = 14 := hjx9 14 _ _ rfl
        have ix9_15 : ix9 B8 = 15 := hjx9 15 _ _ rfl
        have ix9_16 : ix9 nd26 = 16 := hjx9 16 _ _ rfl
        have ix9_17 : ix9 nd6 = 17 := hjx9 17 _ _ rfl
        have ix9_18 : ix9 nd7 = 18 := hjx9 18 _ _ rfl
        have ix9_19 : ix9 nd23 = 19 := hjx9 19 _ _ rfl
        have ix9_20 : ix9 nd25 = 20 := hjx9 20 _ _ rfl
        have ix9_21 : ix9 nd19 = 21 := hjx9 21 _ _ rfl
        clear hjx9
        have c9_0_32 : u38.cell? ⟨nd4, 32, none⟩ = some (.bool false) := hO.cell 0 rfl 32 ((get_other (newSfft_32 (nd3) (nd5) (nd6) (nd7)) (by omega) _))
        have c9_0_66 : u38.cell? ⟨nd4, 66, none⟩ = some (.int .u32 0) := hO.cell 0 rfl 66 ((get_other (newSfft_66 (nd3) (nd5) (nd6) (nd7)) (by omega) _))
        have c9_0_95 : u38.cell? ⟨nd4, 95, none⟩ = some (.bool false) := hO.cell 0 rfl 95 ((get_other (newSfft_95 (nd3) (nd5) (nd6) (nd7)) (by omega) _))
        have c9_0_96 : u38.cell? ⟨nd4, 96, none⟩ = some (.bool false) := hO.cell 0 rfl 96 ((get_other (newSfft_96 (nd3) (nd5) (nd6) (nd7)) (by omega) _))
        have c9_0_97 : u38.cell? ⟨nd4, 97, none⟩ = some (.pointer (some ⟨nd7, 0, none⟩)) := hO.cell 0 rfl 97 ((get_other (newSfft_97 (nd3) (nd5) (nd6) (nd7)) (by omega) _))
        have c9_0_105 : u38.cell? ⟨nd4, 105, none⟩ = some (.pointer none) := hO.cell 0 rfl 105 ((get_other (newSfft_105 (nd3) (nd5) (nd6) (nd7)) (by omega) _))
        have c9_0_106 : u38.cell? ⟨nd4, 106, none⟩ = some (.slice (some ⟨nd26, 0, none⟩) 2 (2 + (nd27))) := hO.cell 0 rfl 106 ((get_set (newSfft_106 (nd3) (nd5) (nd6) (nd7)) _))
        have c9_0_117 : u38.cell? ⟨nd4, 117, none⟩ = some (.map (some (nd5))) := hO.cell 0 rfl 117 ((get_other (newSfft_117 (nd3) (nd5) (nd6) (nd7)) (by omega) _))
        have c9_0_187 : u38.cell? ⟨nd4, 187, none⟩ = some (.pointer (some ⟨nd6, 0, none⟩)) := hO.cell 0 rfl 187 ((get_other (newSfft_187 (nd3) (nd5) (nd6) (nd7)) (by omega) _))
        have c9_0_338 : u38.cell? ⟨nd4, 338, none⟩ = some (.bool true) := hO.cell 0 rfl 338 ((get_other (newSfft_338 (nd3) (nd5) (nd6) (nd7)) (by omega) _))
        have c9_0_350 : u38.cell? ⟨nd4, 350, none⟩ = some (.bool false) := hO.cell 0 rfl 350 ((get_other (newSfft_350 (nd3) (nd5) (nd6) (nd7)) (by omega) _))
        have lt9_0 : nd4 < u38.heap.size := hO.lt 0 rfl
        have y9_0 : ∀ o, u38.frozen? ⟨nd4, o, none⟩ = false := hO.free 0 rfl
        obtain ⟨c9_1_0, c9_1_1, lt9_1, y9_1, pl9_1⟩ := hO.k2 1 rfl
        obtain ⟨c9_2_0, c9_2_1, c9_2_2, c9_2_3, c9_2_4, lt9_2, y9_2, pl9_2⟩ := hO.k5 2 rfl
        have pl9_3 : Base.plainAt u38 (nd15) = true := hO.plain 3 rfl
        obtain ⟨c9_4_0, c9_4_1, c9_4_2, c9_4_3, c9_4_4, lt9_4, y9_4, -⟩ := hO.k5 4 rfl
        obtain ⟨c9_5_0, c9_5_1, c9_5_2, c9_5_3, c9_5_4, c9_5_5, c9_5_6, c9_5_7, lt9_5, y9_5, pl9_5⟩ := hO.k8 5 rfl
        obtain ⟨c9_6_0, c9_6_1, c9_6_2, c9_6_3, c9_6_4, lt9_6, y9_6, pl9_6⟩ := hO.k5 6 rfl
        obtain ⟨c9_7_0, c9_7_1, c9_7_2, c9_7_3, c9_7_4, c9_7_5, c9_7_6, c9_7_7, lt9_7, y9_7, -⟩ := hO.k8 7 rfl
        have pl9_8 : Base.plainAt u38 (nd11) = true := hO.plain 8 rfl
        obtain ⟨c9_9_0, c9_9_1, lt9_9, y9_9, pl9_9⟩ := hO.k2 9 rfl
        obtain ⟨c9_10_0, c9_10_1, c9_10_2, c9_10_3, c9_10_4, c9_10_5, c9_10_6, c9_10_7, lt9_10, y9_10, -⟩ := hO.k8 10 rfl
        obtain ⟨c9_11_0, c9_11_1, c9_11_2, c9_11_3, c9_11_4, lt9_11, y9_11, pl9_11⟩ := hO.k5 11 rfl
        obtain ⟨c9_13_0, c9_13_1, lt9_13, y9_13, pl9_13⟩ := hO.k2 13 rfl
        obtain ⟨c9_14_0, c9_14_1, lt9_14, y9_14, pl9_14⟩ := hO.k2 14 rfl
        obtain ⟨c9_15_0, lt9_15, y9_15, -⟩ := hO.k1 15 rfl
        have c9_16_1 : u38.cell? ⟨nd26, 1, none⟩ = some (.string ⟨#[70, 111, 111]⟩) := hO.cell 16 rfl 1 ((full_at rfl))
        have c9_16_4 : u38.cell? ⟨nd26, 4, none⟩ = some (.int .u32 1) := hO.cell 16 rfl 4 ((full_at rfl))
        have c9_16_11 : u38.cell? ⟨nd26, 11, none⟩ = some (.string ⟨#[95, 95, 115, 117, 112, 101, 114, 83, 101, 116]⟩) := hO.cell 16 rfl 11 ((full_at rfl))
        have c9_16_14 : u38.cell? ⟨nd26, 14, none⟩ = some (.int .u32 1) := hO.cell 16 rfl 14 ((full_at rfl))
        have lt9_16 : nd26 < u38.heap.size := hO.lt 16 rfl
        have y9_16 : ∀ o, u38.frozen? ⟨nd26, o, none⟩ = false := hO.free 16 rfl
        obtain ⟨c9_18_0, c9_18_1, lt9_18, y9_18, pl9_18⟩ := hO.k2 18 rfl
        obtain ⟨lt9_19, y9_19, -⟩ := hO.k0 19 rfl
        have pl9_20 : Base.plainAt u38 (nd25) = true := hO.plain 20 rfl
        have c9_20_0 : u38.cell? ⟨nd25, 0, none⟩ = some (.int .u32 0) := hO.cell 20 rfl 0 ((full_at rfl))
        have c9_20_1 : u38.cell? ⟨nd25, 1, none⟩ = some (.int .u32 1) := hO.cell 20 rfl 1 ((full_at rfl))
        have lt9_20 : nd25 < u38.heap.size := hO.lt 20 rfl
        have y9_20 : ∀ o, u38.frozen? ⟨nd25, o, none⟩ = false := hO.free 20 rfl
        obtain ⟨c9_21_0, c9_21_1, lt9_21, y9_21, pl9_21⟩ := hO.k2 21 rfl
        have HO := Lib.hid hO
        clear hO
        go_wp2_with (first | (with_reducible refine Own.stay (fn := Tryd.f5) ?_) | (first | (go_at_call 22; go_in)))
        try with_reducible refine Own.Stay.mk ?_
        have hO := HO.out
        clear HO hix9 hax9 ix9_0 ix9_1 ix9_2 ix9_3 ix9_4 ix9_5 ix9_6 ix9_7 ix9_8 ix9_9 ix9_10 ix9_11 ix9_12 ix9_13 ix9_14 ix9_15 ix9_16 ix9_17 ix9_18 ix9_19 ix9_20 ix9_21 ix9 c9_0_32 c9_0_66 c9_0_95 c9_0_96 c9_0_97 c9_0_105 c9_0_106 c9_0_117 c9_0_187 c9_0_338 c9_0_350 lt9_0 y9_0 c9_1_0 c9_1_1 lt9_1 y9_1 pl9_1 c9_2_0 c9_2_1 c9_2_2 c9_2_3 c9_2_4 lt9_2 y9_2 pl9_2 pl9_3 c9_4_0 c9_4_1 c9_4_2 c9_4_3 c9_4_4 lt9_4 y9_4 c9_5_0 c9_5_1 c9_5_2 c9_5_3 c9_5_4 c9_5_5 c9_5_6 c9_5_7 lt9_5 y9_5 pl9_5 c9_6_0 c9_6_1 c9_6_2 c9_6_3 c9_6_4 lt9_6 y9_6 pl9_6 c9_7_0 c9_7_1 c9_7_2 c9_7_3 c9_7_4 c9_7_5 c9_7_6 c9_7_7 lt9_7 y9_7 pl9_8 c9_9_0 c9_9_1 lt9_9 y9_9 pl9_9 c9_10_0 c9_10_1 c9_10_2 c9_10_3 c9_10_4 c9_10_5 c9_10_6 c9_10_7 lt9_10 y9_10 c9_11_0 c9_11_1 c9_11_2 c9_11_3 c9_11_4 lt9_11 y9_11 pl9_11 c9_13_0 c9_13_1 lt9_13 y9_13 pl9_13 c9_14_0 c9_14_1 lt9_14 y9_14 pl9_14 c9_15_0 lt9_15 y9_15 c9_16_1 c9_16_4 c9_16_11 c9_16_14 lt9_16 y9_16 c9_18_0 c9_18_1 lt9_18 y9_18 pl9_18 lt9_19 y9_19 pl9_20 c9_20_0 c9_20_1 lt9_20 y9_20 c9_21_0 c9_21_1 lt9_21 y9_21 pl9_21
        have hL := hO.apart
        have hX := hO.apartX
        have HL := Lib.hid hL
        have HX := Lib.hid hX
        clear hL hX
        have hP9 := hO.pick [16] (by decide)
        generalize hX9_39 : Own.Rest _ _ X = X9_39 at hP9
        replace hP9 : Own w0 u38 [row (nd26) 56 (full symZ (symL ([sy ⟨#[70, 111, 111]⟩ 1, sy ⟨#[95, 95, 115, 117, 112, 101, 114, 83, 101, 116]⟩ 1])) (nd27))] X9_39 := hP9
        clear hO
        have hO := hP9
        clear hP9
        have st9 := rlaw17ni10_st nd26 nd27
        refine wp_region_own (e := rlaw17ni10E nd26 nd27) (anc := rlaw17ni10Anc) (G := (fun L9 α u9 => OwnF w0 u9 (act rlaw17ni10Cnt 1 L9) (rlaw17ni10R nd26 nd27 L9 α) X9_39)) (by kernel_rfl) (by kernel_rfl) (by kernel_rfl) (by kernel_rfl) (rlaw17ni10_he nd26 nd27) ?_ (RunsAll.all ?_) ?_
        · have hp : ∀ i, act rlaw17ni10Cnt 1 (fun _ => false) i → i ∈ [999] := by
            intro i hi
            have h9 : i % 1000 = 999 := by
              by_cases h : i % 1000 = 999
              · exact h
              · exact absurd (act_lt hi h) (by simp)
            unfold act at hi
            rw [if_pos h9] at hi
            simp only [List.mem_cons, List.not_mem_nil, or_false]
            omega
          refine hO.drew.family (fun i hi => ?_) (fun i j hi hj hij => ?_)
          · have := hp i hi
            simp only [List.mem_cons, List.not_mem_nil, or_false] at this
            subst this
            rfl
          · have h1 := hp i hi
            have h2 := hp j hj
            simp only [List.mem_cons, List.not_mem_nil, or_false] at h1 h2
            omega
        · refine ⟨?_, ?_, ?_, ?_, ?_, ?_, ?_, ?_, ?_, ?_, ?_, ?_, ?_, ?_, ?_, trivial⟩
          · intro L9 α a9 u9 K9 hL hcl hA hG hS h0 hK
            replace hL : L9 0 = false := hL
            have q23 : a9.tmps[23]? = some (.slice (some ⟨nd26, 0, none⟩) 2 (2 + nd27)) := (h0 23 (by kernel_rfl)).trans rfl
            have s23 := Rega.eval_of q23
            go_simp
            exact hK _ α _ (fun _ _ => rfl) rfl (step_same (st9) hL hcl rfl rfl hG)
          · intro L9 α a9 u9 K9 hL hcl hA hG hS h0 hK
            replace hL : L9 1 = false := hL
            have q133 : a9.tmps[133]? = some (.slice (some ⟨nd26, 0, none⟩) 2 (2 + nd27)) := hS 0 133 (by decide) rfl (by show 133 < 147; decide)
            have s133 := Rega.eval_of q133
            go_simp
            exact hK _ α _ (fun _ _ => rfl) rfl (step_same (st9) hL hcl rfl rfl hG)
          · intro L9 α a9 u9 K9 hL hcl hA hG hS h0 hK
            replace hL : L9 2 = false := hL
            have q134 : a9.tmps[134]? = some (.pointer (some ⟨nd26, 0, none⟩)) := hS 1 134 (by decide) rfl (by show 134 < 147; decide)
            have s134 := Rega.eval_of q134
            go_simp
            exact hK _ α _ (fun _ _ => rfl) rfl (step_same (st9) hL hcl rfl rfl hG)
          · intro L9 α a9 u9 K9 hL hcl hA hG hS h0 hK
            replace hL : L9 3 = false := hL
            have q135 : a9.tmps[135]? = some (.pointer (some ⟨nd26, 4, none⟩)) := hS 2 135 (by decide) rfl (by show 135 < 147; decide)
            have s135 := Rega.eval_of q135
            have e0 : rlaw17ni10R nd26 nd27 L9 α 999 = row (nd26) 56 (full symZ (symL ([sy ⟨#[70, 111, 111]⟩ 1, sy ⟨#[95, 95, 115, 117, 112, 101, 114, 83, 101, 116]⟩ 1])) (nd27)) := rfl
            have hr := hG.rowAt 999 (act_base 999 rfl) e0
            have c0 : u9.cell? ⟨nd26, 4, none⟩ = some (.int .u32 1) := hr.cell ((full_at rfl))
            clear hr e0
            go_simp
            exact hK _ α _ (fun _ _ => rfl) rfl (step_same (st9) hL hcl rfl rfl hG)
          · intro L9 α a9 u9 K9 hL hcl hA hG hS h0 hK
            replace hL : L9 4 = false := hL
            have q3 : a9.tmps[3]? = some (.bool false) := (h0 3 (by kernel_rfl)).trans rfl
            have s3 := Rega.eval_of q3
            go_simp
            exact hK _ α _ (fun _ _ => rfl) rfl (step_same (st9) hL hcl rfl rfl hG)
          · intro L9 α a9 u9 K9 hL hcl hA hG hS h0 hK
            replace hL : L9 5 = false := hL
            have q137 : a9.tmps[137]? = some (.bool false) := hS 4 137 (by decide) rfl (by show 137 < 147; decide)
            have s137 := Rega.eval_of q137
            go_simp
            have hM : ∀ i, i ∈ [] → act rlaw17ni10Cnt 1 L9 i := by intro i hi; simp at hi
            have hP : Own w0 u9 [] _ := hG.pick [] (by decide) (by simp)
            clear hM
            refine Calls.mono (wantUses01  _ _ _ hP ) ?_
            rintro e9 u1 ⟨rfl, hQ⟩
            obtain ⟨α', hα'⟩ : ∃ α' : Rega.Atoms, α' = α := ⟨_, rfl⟩
            have hα : ∀ j, j % 1000 ≠ 5 → α' j = α j := fun j hj => by rw [hα']
            skip
            refine hK _ α' _ hα ?_ (step_call (st9) hL hcl hα [] [] (by decide) (by decide) (by decide) (M := _) ?_ hG hQ)
            · rfl
            · show [] = _
              rw []
          · intro L9 α a9 u9 K9 hL hcl hA hG hS h0 hK
            replace hL : L9 6 = false := hL
            have q136 : a9.tmps[136]? = some (.int .u32 1) := hS 3 136 (by decide) rfl (by show 136 < 147; decide)
            have s136 := Rega.eval_of q136
            have q138 : a9.tmps[138]? = some (.int .u32 1) := hS 5 138 (by decide) rfl (by show 138 < 147; decide)
            have s138 := Rega.eval_of q138
            go_simp
            exact hK _ α _ (fun _ _ => rfl) rfl (step_same (st9) hL hcl rfl rfl hG)
          · intro L9 α a9 u9 K9 hL hcl hA hG hS h0 hK
            replace hL : L9 7 = false := hL
            have q139 : a9.tmps[139]? = some (.bool true) := hS 6 139 (by decide) rfl (by show 139 < 147; decide)
            have s139 := Rega.eval_of q139
            go_simp
            exact hK _ α _ (fun _ _ => rfl) rfl (step_same (st9) hL hcl rfl rfl hG)
          · intro L9 α a9 u9 K9 hL hcl hA hG hS h0 hK
            replace hL : L9 8 = false := hL
            have q23 : a9.tmps[23]? = some (.slice (some ⟨nd26, 0, none⟩) 2 (2 + nd27)) := (h0 23 (by kernel_rfl)).trans rfl
            have s23 := Rega.eval_of q23
            have q140 : a9.tmps[140]? = some (.bool true) := hS 7 140 (by decide) rfl (by show 140 < 147; decide)
            have s140 := Rega.eval_of q140
            go_simp
            exact hK _ α _ (fun _ _ => rfl) rfl (step_same (st9) hL hcl rfl rfl hG)
          · intro L9 α a9 u9 K9 hL hcl hA hG hS h0 hK
            replace hL : L9 9 = false := hL
            have q141 : a9.tmps[141]? = some (.slice (some ⟨nd26, 0, none⟩) 2 (2 + nd27)) := hS 8 141 (by decide) rfl (by show 141 < 147; decide)
            have s141 := Rega.eval_of q141
            have q140 : a9.tmps[140]? = some (.bool true) := hS 7 140 (by decide) rfl (by show 140 < 147; decide)
            have s140 := Rega.eval_of q140
            go_simp
            exact hK _ α _ (fun _ _ => rfl) rfl (step_same (st9) hL hcl rfl rfl hG)
          · intro L9 α a9 u9 K9 hL hcl hA hG hS h0 hK
            replace hL : L9 10 = false := hL
            have q142 : a9.tmps[142]? = some (.pointer (some ⟨nd26, 10, none⟩)) := hS 9 142 (by decide) rfl (by show 142 < 147; decide)
            have s142 := Rega.eval_of q142
            have q140 : a9.tmps[140]? = some (.bool true) := hS 7 140 (by decide) rfl (by show 140 < 147; decide)
            have s140 := Rega.eval_of q140
            go_simp
            exact hK _ α _ (fun _ _ => rfl) rfl (step_same (st9) hL hcl rfl rfl hG)
          · intro L9 α a9 u9 K9 hL hcl hA hG hS h0 hK
            replace hL : L9 11 = false := hL
            have q143 : a9.tmps[143]? = some (.pointer (some ⟨nd26, 14, none⟩)) := hS 10 143 (by decide) rfl (by show 143 < 147; decide)
            have s143 := Rega.eval_of q143
            have q140 : a9.tmps[140]? = some (.bool true) := hS 7 140 (by decide) rfl (by show 140 < 147; decide)
            have s140 := Rega.eval_of q140
            have e0 : rlaw17ni10R nd26 nd27 L9 α 999 = row (nd26) 56 (full symZ (symL ([sy ⟨#[70, 111, 111]⟩ 1, sy ⟨#[95, 95, 115, 117, 112, 101, 114, 83, 101, 116]⟩ 1])) (nd27)) := rfl
            have hr := hG.rowAt 999 (act_base 999 rfl) e0
            have c0 : u9.cell? ⟨nd26, 14, none⟩ = some (.int .u32 1) := hr.cell ((full_at rfl))
            clear hr e0
            go_simp
            exact hK _ α _ (fun _ _ => rfl) rfl (step_same (st9) hL hcl rfl rfl hG)
          · intro L9 α a9 u9 K9 hL hcl hA hG hS h0 hK
            replace hL : L9 12 = false := hL
            have q144 : a9.tmps[144]? = some (.int .u32 1) := hS 11 144 (by decide) rfl (by show 144 < 147; decide)
            have s144 := Rega.eval_of q144
            have q140 : a9.tmps[140]? = some (.bool true) := hS 7 140 (by decide) rfl (by show 140 < 147; decide)
            have s140 := Rega.eval_of q140
            go_simp
            exact hK _ α _ (fun _ _ => rfl) rfl (step_same (st9) hL hcl rfl rfl hG)
          · intro L9 α a9 u9 K9 hL hcl hA hG hS h0 hK
            replace hL : L9 13 = false := hL
            have q140 : a9.tmps[140]? = some (.bool true) := hS 7 140 (by decide) rfl (by show 140 < 147; decide)
            have s140 := Rega.eval_of q140
            have q145 : a9.tmps[145]? = some (.bool true) := hS 12 145 (by decide) rfl (by show 145 < 147; decide)
            have s145 := Rega.eval_of q145
            go_simp
            exact hK _ α _ (fun _ _ => rfl) rfl (step_same (st9) hL hcl rfl rfl hG)
          · intro L9 α a9 u9 K9 hL hcl hA hG hS h0 hK
            replace hL : L9 14 = false := hL
            have q146 : a9.tmps[146]? = some (.bool true) := hS 13 146 (by decide) rfl (by show 146 < 147; decide)
            have s146 := Rega.eval_of q146
            go_simp
            exact hK _ α _ (fun _ _ => rfl) rfl (step_same (st9) hL hcl rfl rfl hG)
        · clear st9
          intro α u hG
          have e0 : rlaw17ni10R nd26 nd27 (fun k => decide (k < 15)) α 999 = row (nd26) 56 (full symZ (symL ([sy ⟨#[70, 111, 111]⟩ 1, sy ⟨#[95, 95, 115, 117, 112, 101, 114, 83, 101, 116]⟩ 1])) (nd27)) := rfl
          have hO : Own w0 u [row (nd26) 56 (full symZ (symL ([sy ⟨#[70, 111, 111]⟩ 1, sy ⟨#[95, 95, 115, 117, 112, 101, 114, 83, 101, 116]⟩ 1])) (nd27))] X9_39 := (hG.list [999] (by decide) (act_all (by decide))).conv (by
            show [rlaw17ni10R nd26 nd27 (fun k => decide (k < 15)) α 999] = _
            rw [e0])
          clear hG e0
          generalize hfr : Rega.frameAt _ _ _ _ _ = fr
          have hdf : fr = ⟨#[.int .i32 loc, .string key, .bool false, .bool false, .int .u32 vm, undef, undef, undef, undef, undef, .bool true, .pointer (some ⟨B1, 0, none⟩), .pointer (some ⟨nd4, 0, none⟩), .pointer (some ⟨B8, 0, none⟩), .slice (some ⟨nd11, 0, none⟩) key.size key.size, .pointer (some ⟨B12, 0, none⟩), .pointer (some ⟨nd19, 0, none⟩), .pointer (some ⟨B30, 0, none⟩), .bool true, .slice (some ⟨nd21, 0, none⟩) 4 4, .bool true, .pointer (some ⟨B36, 0, none⟩), .bool true, .slice (some ⟨nd26, 0, none⟩) 2 (2 + nd27), .int .i32 loc, .string key, .bool false, .bool false, .int .u32 vm, .bool true, .bool false, .string key, .int .i64 (key.size : Int), .bool (decide (65536 < (key.size : Int))), .agg #[.int .u32 0, .int .u32 0], .slice (some ⟨nd3, 0, none⟩) 1 1, .agg #[.int .u32 0, .int .u32 0], .bool false, .bool false, .pointer (some ⟨nd4, 0, none⟩), .int .i32 loc, .agg #[.int .i32 loc], .string key, .slice (some ⟨nd11, 0, none⟩) key.size key.size, .int .u32 vm, .agg #[.int .u32 3, .int .u32 vm], .pointer (some ⟨nd4, 0, none⟩), .agg #[.int .i32 loc], .int .i32 loc, .string key, .slice (some ⟨nd15, 0, none⟩) key.size key.size, .agg #[.iface 206 (.pointer (some ⟨nd16, 0, none⟩)), .int .i32 loc], .int .i32 loc, .agg #[.int .u32 3, .int .u32 vm], .agg #[.iface 209 (.pointer (some ⟨nd17, 0, none⟩)), .int .i32 loc], .agg #[.iface 65 (.pointer (some ⟨nd18, 0, none⟩)), .int .i32 loc], .tuple #[.agg #[.int .u32 0, .int .u32 1], .bool true], .pointer (some ⟨nd4, 0, none⟩), .tuple #[.agg #[.int .u32 0, .int .u32 1], .bool true], .agg #[.int .u32 0, .int .u32 1], .bool true, .bool true, .bool false, .bool false, .pointer (some ⟨nd4, 0, none⟩), .int .i64 1, .bool false, .bool false, .tuple #[.slice (some ⟨nd21, 0, none⟩) 4 4, .bool true], .agg #[.iface 65 (.pointer (some ⟨nd18, 0, none⟩)), .int .i32 loc], .agg #[.int .u32 0, .int .u32 1], .tuple #[.slice (some ⟨nd21, 0, none⟩) 4 4, .bool true], .slice (some ⟨nd21, 0, none⟩) 4 4, .bool true, .bool true, .bool false, .bool false, .slice (some ⟨nd21, 0, none⟩) 4 4, .pointer (some ⟨nd21, 0, none⟩), .agg #[.iface 225 (.pointer (some ⟨nd24, 0, none⟩)), .int .i32 loc], .agg #[.int .u32 0, .int .u32 0], .bool false, .bool true, .bool false, .bool false, .bool false, .slice (some ⟨nd21, 0, none⟩) 4 4, .pointer (some ⟨nd21, 2, none⟩), .agg #[.iface 237 (.pointer (some ⟨nd23, 0, none⟩)), .int .i32 loc], .agg #[.int .u32 0, .int .u32 0], .bool false, .bool true, .bool false, .bool false, .bool false, .slice (some ⟨nd21, 0, none⟩) 4 4, .pointer (some ⟨nd21, 4, none⟩), .agg #[.iface 206 (.pointer (some ⟨nd16, 0, none⟩)), .int .i32 loc], .slice (some ⟨nd11, 0, none⟩) key.size key.size, .bool true, .bool false, .bool false, .tuple #[.agg #[.int .u32 3, .int .u32 vm], .bool true], .slice (some ⟨nd21, 0, none⟩) 4 4, .pointer (some ⟨nd21, 6, none⟩), .agg #[.iface 209 (.pointer (some ⟨nd17, 0, none⟩)), .int .i32 loc], .tuple #[.agg #[.int .u32 3, .int .u32 vm], .bool true], .agg #[.int .u32 3, .int .u32 vm], .bool true, .bool true, .bool false, .bool false, .agg #[.int .u32 3, .int .u32 vm], .agg #[.int .u32 3, .int .u32 vm], .bool false, .bool false, .pointer (some ⟨nd4, 0, none⟩), .slice (some ⟨nd26, 0, none⟩) 2 (2 + nd27), .slice (some ⟨nd26, 0, none⟩) 2 (2 + nd27), .int .i64 2, .bool false, .bool false, .pointer (some ⟨B30, 1, none⟩), .int .u32 1, .bool false, .bool false, .bool false, .slice (some ⟨nd26, 0, none⟩) 2 (2 + nd27), .pointer (some ⟨nd26, 10, none⟩), .pointer (some ⟨nd26, 11, none⟩), .string ⟨#[95, 95, 115, 117, 112, 101, 114, 83, 101, 116]⟩, .bool false, .bool false, .slice (some ⟨nd26, 0, none⟩) 2 (2 + nd27), .pointer (some ⟨nd26, 0, none⟩), .pointer (some ⟨nd26, 4, none⟩), .int .u32 1, .bool false, .int .u32 1, .bool true, .bool true, .slice (some ⟨nd26, 0, none⟩) 2 (2 + nd27), .pointer (some ⟨nd26, 10, none⟩), .pointer (some ⟨nd26, 14, none⟩), .int .u32 1, .bool true, .bool true], []⟩ := by rw [← hfr]; kernel_rfl
          clear hfr
          subst hdf
          clear α
          subst hX9_39
          have hN : Own w0 u [row (nd26) 56 (full symZ (symL ([sy ⟨#[70, 111, 111]⟩ 1, sy ⟨#[95, 95, 115, 117, 112, 101, 114, 83, 101, 116]⟩ 1])) (nd27)), row (nd4) 193 ((newSfftP nd3 nd5 nd6 nd7).setIfInBounds 106 (.slice (some ⟨nd26, 0, none⟩) 2 (2 + nd27))), row (B36) 25 #[.int .u32 3, .int .u32 vm], row (nd17) 211 #[.int .u32 3, .int .u32 vm, .bool false, .bool false, .bool false], row (nd15) 51 (units key), row (nd16) 208 #[.slice (some ⟨nd15, 0, none⟩) key.size key.size, .int .i32 0, .bool false, .bool false, .bool false], row (nd21) 35 #[.iface 225 (.pointer (some ⟨nd24, 0, none⟩)), .int .i32 loc, .iface 237 (.pointer (some ⟨nd23, 0, none⟩)), .int .i32 loc, .iface 206 (.pointer (some ⟨nd16, 0, none⟩)), .int .i32 loc, .iface 209 (.pointer (some ⟨nd17, 0, none⟩)), .int .i32 loc], row (nd22) 211 #[.int .u32 0, .int .u32 0, .bool false, .bool false, .bool false], row (nd24) 228 #[.iface 209 (.pointer (some ⟨nd22, 0, none⟩)), .int .i32 loc, .string ⟨#[112, 114, 111, 116, 111, 116, 121, 112, 101]⟩, .int .i32 loc, .int .u8 0, .bool false, .bool false, .bool false], row (nd11) 51 (units key), row (B1) 25 #[.int .u32 0, .int .u32 0], row (nd18) 71 #[.iface 209 (.pointer (some ⟨nd20, 0, none⟩)), .int .i32 loc, .slice (some ⟨nd21, 0, none⟩) 4 4, .int .i32 0, .int .u8 0, .int .u8 0, .bool false, .bool false], row (nd20) 211 #[.int .u32 0, .int .u32 1, .bool false, .bool false, .bool false], ((nd5, .map #[⟨.string ⟨#[95, 95, 115, 117, 112, 101, 114, 83, 101, 116]⟩, .agg #[.int .i32 loc, .int .u32 0, .int .u32 1], 0⟩] 1) : Rw), row (B30) 25 #[.int .u32 0, .int .u32 1], row (B12) 25 #[.int .u32 3, .int .u32 vm], row (B8) 31 #[.int .i32 loc], row (nd6) 203 (#[.pointer none, .pointer none, .slice none 0 0, .map none, .slice none 0 0, .slice none 0 0, .int .i32 0, .int .i32 0, .int .u32 0, .int .u32 0, .bool false, .bool false, .bool false, .bool false, .int .u8 0, .int .u8 6].setIfInBounds 5 (.slice (some ⟨nd25, 0, none⟩) 1 (1 + (nd28)))), row (nd7) 25 #[.int .u32 0, .int .u32 0], row (nd23) 241 #[], row (nd25) 25 (full refZ [.int .u32 0, .int .u32 1] (nd28)), row (nd19) 35 #[.iface 65 (.pointer (some ⟨nd18, 0, none⟩)), .int .i32 loc]] X := hO.back HL.out HX.out [0, 1, 2, 3, 4, 5, 6, 7, 8, 9, 10, 11, 12, 13, 14, 15, 17, 18, 19, 20, 21] (by decide) (by decide)
          clear hO HL HX
          have hO := hN
          clear hN
          obtain ⟨ix9, hix9, hax9, hjx9⟩ := hO.ix
          have ix9_0 : ix9 nd26 = 0 := hjx9 0 _ _ rfl
          have ix9_1 : ix9 nd4 = 1 := hjx9 1 _ _ rfl
          have ix9_2 : ix9 B36 = 2 := hjx9 2 _ _ rfl
          have ix9_3 : ix9 nd17 = 3 := hjx9 3 _ _ rfl
          have ix9_4 : ix9 nd15 = 4 := hjx9 4 _ _ rfl
          have ix9_5 : ix9 nd16 = 5 := hjx9 5 _ _ rfl
          have ix9_6 : ix9 nd21 = 6 := hjx9 6 _ _ rfl
          have ix9_7 : ix9 nd22 = 7 := hjx9 7 _ _ rfl
          have ix9_8 : ix9 nd24 = 8 := hjx9 8 _ _ rfl
          have ix9_9 : ix9 nd11 = 9 := hjx9 9 _ _ rfl
          have ix9_10 : ix9 B1 = 10 := hjx9 10 _ _ rfl
          have ix9_11 : ix9 nd18 = 11 := hjx9 11 _ _ rfl
          have ix9_12 : ix9 nd20 = 12 := hjx9 12 _ _ rfl
          have ix9_13 : ix9 nd5 = 13 := hjx9 13 _ _ rfl
          have ix9_14 : ix9 B30 = 14 := hjx9 14 _ _ rfl
          have ix9_15 : ix9 B12 = 15 := hjx9 15 _ _ rfl
          have ix9_16 : ix9 B8 = 16 := hjx9 16 _ _ rfl
          have ix9_17 : ix9 nd6 = 17 := hjx9 17 _ _ rfl
          have ix9_18 : ix9 nd7 = 18 := hjx9 18 _ _ rfl
          have ix9_19 : ix9 nd23 = 19 := hjx9 19 _ _ rfl
          have ix9_20 : ix9 nd25 = 20 := hjx9 20 _ _ rfl
          have ix9_21 : ix9 nd19 = 21 := hjx9 21 _ _ rfl
          clear hjx9
          have c9_0_1 : u.cell? ⟨nd26, 1, none⟩ = some (.string ⟨#[70, 111, 111]⟩) := hO.cell 0 rfl 1 ((full_at rfl))
          have c9_0_4 : u.cell? ⟨nd26, 4, none⟩ = some (.int .u32 1) := hO.cell 0 rfl 4 ((full_at rfl))
          have c9_0_11 : u.cell? ⟨nd26, 11, none⟩ = some (.string ⟨#[95, 95, 115, 117, 112, 101, 114, 83, 101, 116]⟩) := hO.cell 0 rfl 11 ((full_at rfl))
          have c9_0_14 : u.cell? ⟨nd26, 14, none⟩ = some (.int .u32 1) := hO.cell 0 rfl 14 ((full_at rfl))
          have lt9_0 : nd26 < u.heap.size := hO.lt 0 rfl
          have y9_0 : ∀ o, u.frozen? ⟨nd26, o, none⟩ = false := hO.free 0 rfl
          have c9_1_32 : u.cell? ⟨nd4, 32, none⟩ = some (.bool false) := hO.cell 1 rfl 32 ((get_other (newSfft_32 (nd3) (nd5) (nd6) (nd7)) (by omega) _))
          have c9_1_66 : u.cell? ⟨nd4, 66, none⟩ = some (.int .u32 0) := hO.cell 1 rfl 66 ((get_other (newSfft_66 (nd3) (nd5) (nd6) (nd7)) (by omega) _))
          have c9_1_95 : u.cell? ⟨nd4, 95, none⟩ = some (.bool false) := hO.cell 1 rfl 95 ((get_other (newSfft_95 (nd3) (nd5) (nd6) (nd7)) (by omega) _))
          have c9_1_96 : u.cell? ⟨nd4, 96, none⟩ = some (.bool false) := hO.cell 1 rfl 96 ((get_other (newSfft_96 (nd3) (nd5) (nd6) (nd7)) (by omega) _))
          have c9_1_97 : u.cell? ⟨nd4, 97, none⟩ = some (.pointer (some ⟨nd7, 0, none⟩)) := hO.cell 1 rfl 97 ((get_other (newSfft_97 (nd3) (nd5) (nd6) (nd7)) (by omega) _))
          have c9_1_105 : u.cell? ⟨nd4, 105, none⟩ = some (.pointer none) := hO.cell 1 rfl 105 ((get_other (newSfft_105 (nd3) (nd5) (nd6) (nd7)) (by omega) _))
          have c9_1_106 : u.cell? ⟨nd4, 106, none⟩ = some (.slice (some ⟨nd26, 0, none⟩) 2 (2 + (nd27))) := hO.cell 1 rfl 106 ((get_set (newSfft_106 (nd3) (nd5) (nd6) (nd7)) _))
          have c9_1_117 : u.cell? ⟨nd4, 117, none⟩ = some (.map (some (nd5))) := hO.cell 1 rfl 117 ((get_other (newSfft_117 (nd3) (nd5) (nd6) (nd7)) (by omega) _))
          have c9_1_187 : u.cell? ⟨nd4, 187, none⟩ = some (.pointer (some ⟨nd6, 0, none⟩)) := hO.cell 1 rfl 187 ((get_other (newSfft_187 (nd3) (nd5) (nd6) (nd7)) (by omega) _))
          have c9_1_338 : u.cell? ⟨nd4, 338, none⟩ = some (.bool true) := hO.cell 1 rfl 338 ((get_other (newSfft_338 (nd3) (nd5) (nd6) (nd7)) (by omega) _))
          have c9_1_350 : u.cell? ⟨nd4, 350, none⟩ = some (.bool false) := hO.cell 1 rfl 350 ((get_other (newSfft_350 (nd3) (nd5) (nd6) (nd7)) (by omega) _))
          have lt9_1 : nd4 < u.heap.size := hO.lt 1 rfl
          have y9_1 : ∀ o, u.frozen? ⟨nd4, o, none⟩ = false := hO.free 1 rfl
          obtain ⟨c9_2_0, c9_2_1, lt9_2, y9_2, pl9_2⟩ := hO.k2 2 rfl
          obtain ⟨c9_3_0, c9_3_1, c9_3_2, c9_3_3, c9_3_4, lt9_3, y9_3, pl9_3⟩ := hO.k5 3 rfl
          have pl9_4 : Base.plainAt u (nd15) = true := hO.plain 4 rfl
          obtain ⟨c9_5_0, c9_5_1, c9_5_2, c9_5_3, c9_5_4, lt9_5, y9_5, -⟩ := hO.k5 5 rfl
          obtain ⟨c9_6_0, c9_6_1, c9_6_2, c9_6_3, c9_6_4, c9_6_5, c9_6_6, c9_6_7, lt9_6, y9_6, pl9_6⟩ := hO.k8 6 rfl
          obtain ⟨c9_7_0, c9_7_1, c9_7_2, c9_7_3, c9_7_4, lt9_7, y9_7, pl9_7⟩ := hO.k5 7 rfl
          obtain ⟨c9_8_0, c9_8_1, c9_8_2, c9_8_3, c9_8_4, c9_8_5, c9_8_6, c9_8_7, lt9_8, y9_8, -⟩ := hO.k8 8 rfl
          have pl9_9 : Base.plainAt u (nd11) = true := hO.plain 9 rfl
          obtain ⟨c9_10_0, c9_10_1, lt9_10, y9_10, pl9_10⟩ := hO.k2 10 rfl
          obtain ⟨c9_11_0, c9_11_1, c9_11_2, c9_11_3, c9_11_4, c9_11_5, c9_11_6, c9_11_7, lt9_11, y9_11, -⟩ := hO.k8 11 rfl
          obtain ⟨c9_12_0, c9_12_1, c9_12_2, c9_12_3, c9_12_4, lt9_12, y9_12, pl9_12⟩ := hO.k5 12 rfl
          obtain ⟨c9_14_0, c9_14_1, lt9_14, y9_14, pl9_14⟩ := hO.k2 14 rfl
          obtain ⟨c9_15_0, c9_15_1, lt9_15, y9_15, pl9_15⟩ := hO.k2 15 rfl
          obtain ⟨c9_16_0, lt9_16, y9_16, -⟩ := hO.k1 16 rfl
          obtain ⟨c9_18_0, c9_18_1, lt9_18, y9_18, pl9_18⟩ := hO.k2 18 rfl
          obtain ⟨lt9_19, y9_19, -⟩ := hO.k0 19 rfl
          have pl9_20 : Base.plainAt u (nd25) = true := hO.plain 20 rfl
          have c9_20_0 : u.cell? ⟨nd25, 0, none⟩ = some (.int .u32 0) := hO.cell 20 rfl 0 ((full_at rfl))
          have c9_20_1 : u.cell? ⟨nd25, 1, none⟩ = some (.int .u32 1) := hO.cell 20 rfl 1 ((full_at rfl))
          have lt9_20 : nd25 < u.heap.size := hO.lt 20 rfl
          have y9_20 : ∀ o, u.frozen? ⟨nd25, o, none⟩ = false := hO.free 20 rfl
          obtain ⟨c9_21_0, c9_21_1, lt9_21, y9_21, pl9_21⟩ := hO.k2 21 rfl
          have HO := Lib.hid hO
          clear hO
          go_wp2_with (first | (with_reducible refine Own.stay (fn := Tryd.f5) ?_) | (first | (go_at_call 22; go_in)))
          try with_reducible refine Own.Stay.mk ?_
          have hO := HO.out
          clear HO hix9 hax9 ix9_0 ix9_1 ix9_2 ix9_3 ix9_4 ix9_5 ix9_6 ix9_7 ix9_8 ix9_9 ix9_10 ix9_11 ix9_12 ix9_13 ix9_14 ix9_15 ix9_16 ix9_17 ix9_18 ix9_19 ix9_20 ix9_21 ix9 c9_0_1 c9_0_4 c9_0_11 c9_0_14 lt9_0 y9_0 c9_1_32 c9_1_66 c9_1_95 c9_1_96 c9_1_97 c9_1_105 c9_1_106 c9_1_117 c9_1_187 c9_1_338 c9_1_350 lt9_1 y9_1 c9_2_0 c9_2_1 lt9_2 y9_2 pl9_2 c9_3_0 c9_3_1 c9_3_2 c9_3_3 c9_3_4 lt9_3 y9_3 pl9_3 pl9_4 c9_5_0 c9_5_1 c9_5_2 c9_5_3 c9_5_4 lt9_5 y9_5 c9_6_0 c9_6_1 c9_6_2 c9_6_3 c9_6_4 c9_6_5 c9_6_6 c9_6_7 lt9_6 y9_6 pl9_6 c9_7_0 c9_7_1 c9_7_2 c9_7_3 c9_7_4 lt9_7 y9_7 pl9_7 c9_8_0 c9_8_1 c9_8_2 c9_8_3 c9_8_4 c9_8_5 c9_8_6 c9_8_7 lt9_8 y9_8 pl9_9 c9_10_0 c9_10_1 lt9_10 y9_10 pl9_10 c9_11_0 c9_11_1 c9_11_2 c9_11_3 c9_11_4 c9_11_5 c9_11_6 c9_11_7 lt9_11 y9_11 c9_12_0 c9_12_1 c9_12_2 c9_12_3 c9_12_4 lt9_12 y9_12 pl9_12 c9_14_0 c9_14_1 lt9_14 y9_14 pl9_14 c9_15_0 c9_15_1 lt9_15 y9_15 pl9_15 c9_16_0 lt9_16 y9_16 c9_18_0 c9_18_1 lt9_18 y9_18 pl9_18 lt9_19 y9_19 pl9_20 c9_20_0 c9_20_1 lt9_20 y9_20 c9_21_0 c9_21_1 lt9_21 y9_21 pl9_21
          refine bodyPost_ret (v := .bool true) ?_ rfl ⟨rfl, hO.sub [] (by decide)⟩
          simp [results, Tryd.results5, go_sem]
end Go.Proofs.YtkhmjppfogppoaaDoor.Use
