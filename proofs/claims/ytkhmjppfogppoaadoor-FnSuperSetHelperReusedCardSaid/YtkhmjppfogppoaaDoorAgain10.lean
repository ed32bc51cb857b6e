/- The law on two super property sets, walked: one of four cases. No condition. -/
import Derived.Test.YtkhmjppfogppoaaDoorKit
import Derived.Test.YtkhmjppfogppoaaDoorNew
import Derived.Test.YtkhmjppfogppoaaDoorDSetF1
import Derived.Test.YtkhmjppfogppoaaDoorSetF1
import Derived.Test.YtkhmjppfogppoaaDoorDSetH1
import Derived.Test.YtkhmjppfogppoaaDoorSetH1
import Derived.Test.YtkhmjppfogppoaaDoorLoop
import Derived.Test.YtkhmjppfogppoaaDoorLive
import Derived.Test.YtkhmjppfogppoaaDoorApp
import Derived.Test.YtkhmjppfogppoaaDoorOwnK
import Derived.Test.YtkhmjppfogppoaaDoorOwn
import Derived.Test.YtkhmjppfogppoaaDoorDeepCells
import Derived.Test.YtkhmjppfogppoaaDoorRows
import Derived.Test.YtkhmjppfogppoaaDoorUse
namespace Go.Proofs.YtkhmjppfogppoaaDoor.Use
open Go.ChangeShapes Go.WideShapes Go.ChangeAt Go.RowKit Go.Sort Own
set_option linter.unusedVariables false
noncomputable def rlaw13ri1E (B1 : Nat) : Nat → Rega.Atoms → Value
  | 0, α => .slice (some ⟨α 0, 0, none⟩) 1 1
  | 1, α => .agg #[.int .u32 0, .int .u32 0]
  | 2, α => .bool false
  | 3, α => .bool true
  | 4, α => .pointer (some ⟨α 4, 0, none⟩)
  | 5, α => .pointer (some ⟨α 4, 0, none⟩)
  | _, _ => undef
noncomputable def rlaw13ri1Anc : Nat → List Nat
  | 4 => [0, 1, 2, 3]
  | 5 => [0, 1, 2, 3, 4]
  | _ => []
noncomputable def rlaw13ri1Trn : Nat → List Nat
  | _ => []
noncomputable def rlaw13ri1Cnt : List (Nat × Nat) := [(0, 1), (4, 4)]
noncomputable def rlaw13ri1R (B1 : Nat) (L9 : Nat → Bool) (α : Rega.Atoms) (ix9 : Nat) : Rw := if ix9 = 999 then row (B1) 25 #[.int .u32 0, .int .u32 0] else if ix9 = 0 then row (α 0) 56 (full symZ (symL ([sy ⟨#[70, 111, 111]⟩ 0])) 0) else if ix9 = 4 then row (α 4) 193 (newStftP (α 0) (α 1004) (α 2004) (α 3004)) else if ix9 = 1004 then ((α 1004, .map #[] 0) : Rw) else if ix9 = 2004 then row (α 2004) 203 #[.pointer none, .pointer none, .slice none 0 0, .map none, .slice none 0 0, .slice none 0 0, .int .i32 0, .int .i32 0, .int .u32 0, .int .u32 0, .bool false, .bool false, .bool false, .bool false, .int .u8 0, .int .u8 6] else if ix9 = 3004 then row (α 3004) 25 #[.int .u32 0, .int .u32 0] else (0, .map #[] 0)
theorem rlaw13ri1_he (B1 : Nat) : ∀ kk α α', (∀ j, (j % 1000 = kk ∨ j % 1000 ∈ rlaw13ri1Anc kk) → α j = α' j) → rlaw13ri1E B1 kk α = rlaw13ri1E B1 kk α' := by
  intro kk α α' h
  match kk with
  | 0 => simp only [rlaw13ri1E, h 0 (Or.inl rfl)]
  | 1 => rfl
  | 2 => rfl
  | 3 => rfl
  | 4 => simp only [rlaw13ri1E, h 4 (Or.inl rfl)]
  | 5 => simp only [rlaw13ri1E, h 4 (Or.inr (by decide))]
  | n + 6 => rfl
theorem rlaw13ri1_st (B1 : Nat) : Stable rlaw13ri1Cnt 1 rlaw13ri1Anc rlaw13ri1Trn (rlaw13ri1R B1) := by
  intro k9 L9 α α' ix9 hk hcl hα hact ht
  have hp := act_places hact
  replace hp : ix9 ∈ [999, 0, 4, 1004, 2004, 3004] := hp
  simp only [List.mem_cons, List.not_mem_nil, or_false] at hp
  rcases hp with rfl | rfl | rfl | rfl | rfl | rfl
  · rfl
  · have e0 : L9 0 = true := act_lt hact (by decide)
    show row (α' 0) 56 (full symZ (symL ([sy ⟨#[70, 111, 111]⟩ 0])) 0) = row (α 0) 56 (full symZ (symL ([sy ⟨#[70, 111, 111]⟩ 0])) 0)
    simp only [hα 0 (ne_ran hk e0)]
  · have e0 : L9 4 = true := act_lt hact (by decide)
    show row (α' 4) 193 (newStftP (α' 0) (α' 1004) (α' 2004) (α' 3004)) = row (α 4) 193 (newStftP (α 0) (α 1004) (α 2004) (α 3004))
    simp only [hα 0 (ne_ran hk (hcl 4 e0 0 (by decide))), hα 4 (ne_ran hk e0), hα 1004 (ne_ran hk e0), hα 2004 (ne_ran hk e0), hα 3004 (ne_ran hk e0)]
  · have e0 : L9 4 = true := act_lt hact (by decide)
    show ((α' 1004, .map #[] 0) : Rw) = ((α 1004, .map #[] 0) : Rw)
    simp only [hα 1004 (ne_ran hk e0)]
  · have e0 : L9 4 = true := act_lt hact (by decide)
    show row (α' 2004) 203 #[.pointer none, .pointer none, .slice none 0 0, .map none, .slice none 0 0, .slice none 0 0, .int .i32 0, .int .i32 0, .int .u32 0, .int .u32 0, .bool false, .bool false, .bool false, .bool false, .int .u8 0, .int .u8 6] = row (α 2004) 203 #[.pointer none, .pointer none, .slice none 0 0, .map none, .slice none 0 0, .slice none 0 0, .int .i32 0, .int .i32 0, .int .u32 0, .int .u32 0, .bool false, .bool false, .bool false, .bool false, .int .u8 0, .int .u8 6]
    simp only [hα 2004 (ne_ran hk e0)]
  · have e0 : L9 4 = true := act_lt hact (by decide)
    show row (α' 3004) 25 #[.int .u32 0, .int .u32 0] = row (α 3004) 25 #[.int .u32 0, .int .u32 0]
    simp only [hα 3004 (ne_ran hk e0)]
noncomputable def rlaw13ri2E (loc : Int) (key : ByteArray) (vm : Int) (B1 : Nat) (nd3 : Nat) (nd4 : Nat) (nd5 : Nat) (nd6 : Nat) (nd7 : Nat) (B8_1 : Nat) (B8 : Nat) : Nat → Rega.Atoms → Value
  | 0, α => .pointer (some ⟨nd4, 0, none⟩)
  | 1, α => .agg #[.int .i32 loc]
  | 2, α => .int .i32 loc
  | 3, α => .string key
  | 4, α => .slice (some ⟨α 4, 0, none⟩) key.size key.size
  | 5, α => .agg #[.iface 206 (.pointer (some ⟨α 5, 0, none⟩)), .int .i32 loc]
  | 6, α => .int .i32 loc
  | 7, α => .agg #[.int .u32 3, .int .u32 vm]
  | 8, α => .agg #[.iface 209 (.pointer (some ⟨α 8, 0, none⟩)), .int .i32 loc]
  | 9, α => .agg #[.iface 65 (.pointer (some ⟨α 9, 0, none⟩)), .int .i32 loc]
  | 10, α => .pointer (some ⟨α 10, 0, none⟩)
  | 11, α => undef
  | _, _ => undef
noncomputable def rlaw13ri2Anc : Nat → List Nat
  | 4 => [3]
  | 5 => [2, 3, 4]
  | 8 => [2, 3, 4, 5, 6, 7]
  | 9 => [0, 1, 2, 3, 4, 5, 6, 7, 8]
  | 11 => [0, 1, 2, 3, 4, 5, 6, 7, 8, 9, 10]
  | _ => []
noncomputable def rlaw13ri2Trn : Nat → List Nat
  | 9 => [4999, 3999, 5999, 6999]
  | 11 => [10]
  | _ => []
noncomputable def rlaw13ri2Cnt : List (Nat × Nat) := [(4, 1), (5, 1), (8, 1), (9, 7), (10, 1)]
noncomputable def rlaw13ri2T3999 (loc : Int) (key : ByteArray) (vm : Int) (B1 : Nat) (nd3 : Nat) (nd4 : Nat) (nd5 : Nat) (nd6 : Nat) (nd7 : Nat) (B8_1 : Nat) (B8 : Nat) (L9 : Nat → Bool) (α : Rega.Atoms) : Rw := if L9 9 = true then row (α 7009) 56 (full symZ (symL ([sy ⟨#[70, 111, 111]⟩ 2, sy ⟨#[95, 95, 115, 117, 112, 101, 114, 83, 101, 116]⟩ 1])) (α 8009)) else row (nd3) 56 (full symZ (symL ([sy ⟨#[70, 111, 111]⟩ 0])) 0)
noncomputable def rlaw13ri2T4999 (loc : Int) (key : ByteArray) (vm : Int) (B1 : Nat) (nd3 : Nat) (nd4 : Nat) (nd5 : Nat) (nd6 : Nat) (nd7 : Nat) (B8_1 : Nat) (B8 : Nat) (L9 : Nat → Bool) (α : Rega.Atoms) : Rw := if L9 9 = true then row (nd4) 193 ((newStftP nd3 nd5 nd6 nd7).setIfInBounds 106 (.slice (some ⟨α 7009, 0, none⟩) 2 (2 + (α 8009)))) else row (nd4) 193 (newStftP (nd3) (nd5) (nd6) (nd7))
noncomputable def rlaw13ri2T5999 (loc : Int) (key : ByteArray) (vm : Int) (B1 : Nat) (nd3 : Nat) (nd4 : Nat) (nd5 : Nat) (nd6 : Nat) (nd7 : Nat) (B8_1 : Nat) (B8 : Nat) (L9 : Nat → Bool) (α : Rega.Atoms) : Rw := if L9 9 = true then ((nd5, .map #[⟨.string ⟨#[95, 95, 115, 117, 112, 101, 114, 83, 101, 116]⟩, .agg #[.int .i32 loc, .int .u32 0, .int .u32 1], 0⟩] 1) : Rw) else ((nd5, .map #[] 0) : Rw)
noncomputable def rlaw13ri2T6999 (loc : Int) (key : ByteArray) (vm : Int) (B1 : Nat) (nd3 : Nat) (nd4 : Nat) (nd5 : Nat) (nd6 : Nat) (nd7 : Nat) (B8_1 : Nat) (B8 : Nat) (L9 : Nat → Bool) (α : Rega.Atoms) : Rw := if L9 9 = true then row (nd6) 203 (#[.pointer none, .pointer none, .slice none 0 0, .map none, .slice none 0 0, .slice none 0 0, .int .i32 0, .int .i32 0, .int .u32 0, .int .u32 0, .bool false, .bool false, .bool false, .bool false, .int .u8 0, .int .u8 6].setIfInBounds 5 (.slice (some ⟨α 6009, 0, none⟩) 1 (1 + (α 9009)))) else row (nd6) 203 #[.pointer none, .pointer none, .slice none 0 0, .map none, .slice none 0 0, .slice none 0 0, .int .i32 0, .int .i32 0, .int .u32 0, .int .u32 0, .bool false, .bool false, .bool false, .bool false, .int .u8 0, .int .u8 6]
noncomputable def rlaw13ri2T10 (loc : Int) (key : ByteArray) (vm : Int) (B1 : Nat) (nd3 : Nat) (nd4 : Nat) (nd5 : Nat) (nd6 : Nat) (nd7 : Nat) (B8_1 : Nat) (B8 : Nat) (L9 : Nat → Bool) (α : Rega.Atoms) : Rw := if L9 11 = true then row (α 10) 35 #[.iface 65 (.pointer (some ⟨α 9, 0, none⟩)), .int .i32 loc] else row (α 10) 35 #[.nilIface, .int .i32 0]
noncomputable def rlaw13ri2R (loc : Int) (key : ByteArray) (vm : Int) (B1 : Nat) (nd3 : Nat) (nd4 : Nat) (nd5 : Nat) (nd6 : Nat) (nd7 : Nat) (B8_1 : Nat) (B8 : Nat) (L9 : Nat → Bool) (α : Rega.Atoms) (ix9 : Nat) : Rw := if ix9 = 999 then row (B8_1) 25 #[.int .u32 3, .int .u32 vm] else if ix9 = 1999 then row (B8) 31 #[.int .i32 loc] else if ix9 = 2999 then row (B1) 25 #[.int .u32 0, .int .u32 0] else if ix9 = 3999 then rlaw13ri2T3999 loc key vm B1 nd3 nd4 nd5 nd6 nd7 B8_1 B8 L9 α else if ix9 = 4999 then rlaw13ri2T4999 loc key vm B1 nd3 nd4 nd5 nd6 nd7 B8_1 B8 L9 α else if ix9 = 5999 then rlaw13ri2T5999 loc key vm B1 nd3 nd4 nd5 nd6 nd7 B8_1 B8 L9 α else if ix9 = 6999 then rlaw13ri2T6999 loc key vm B1 nd3 nd4 nd5 nd6 nd7 B8_1 B8 L9 α else if ix9 = 7999 then row (nd7) 25 #[.int .u32 0, .int .u32 0] else if ix9 = 4 then row (α 4) 51 (units key) else if ix9 = 5 then row (α 5) 208 #[.slice (some ⟨α 4, 0, none⟩) key.size key.size, .int .i32 0, .bool false, .bool false, .bool false] else if ix9 = 8 then row (α 8) 211 #[.int .u32 3, .int .u32 vm, .bool false, .bool false, .bool false] else if ix9 = 9 then row (α 9) 71 #[.iface 209 (.pointer (some ⟨α 1009, 0, none⟩)), .int .i32 loc, .slice (some ⟨α 2009, 0, none⟩) 4 4, .int .i32 0, .int .u8 0, .int .u8 0, .bool false, .bool false] else if ix9 = 1009 then row (α 1009) 211 #[.int .u32 0, .int .u32 1, .bool false, .bool false, .bool false] else if ix9 = 2009 then row (α 2009) 35 #[.iface 225 (.pointer (some ⟨α 5009, 0, none⟩)), .int .i32 loc, .iface 209 (.pointer (some ⟨α 4009, 0, none⟩)), .int .i32 loc, .iface 206 (.pointer (some ⟨α 5, 0, none⟩)), .int .i32 loc, .iface 209 (.pointer (some ⟨α 8, 0, none⟩)), .int .i32 loc] else if ix9 = 3009 then row (α 3009) 211 #[.int .u32 0, .int .u32 0, .bool false, .bool false, .bool false] else if ix9 = 4009 then row (α 4009) 211 #[.int .u32 0, .int .u32 0, .bool false, .bool false, .bool false] else if ix9 = 5009 then row (α 5009) 228 #[.iface 209 (.pointer (some ⟨α 3009, 0, none⟩)), .int .i32 loc, .string ⟨#[112, 114, 111, 116, 111, 116, 121, 112, 101]⟩, .int .i32 loc, .int .u8 0, .bool false, .bool false, .bool false] else if ix9 = 6009 then row (α 6009) 25 (full refZ ([.int .u32 0, .int .u32 1]) (α 9009)) else if ix9 = 10 then rlaw13ri2T10 loc key vm B1 nd3 nd4 nd5 nd6 nd7 B8_1 B8 L9 α else (0, .map #[] 0)
theorem rlaw13ri2_he (loc : Int) (key : ByteArray) (vm : Int) (B1 : Nat) (nd3 : Nat) (nd4 : Nat) (nd5 : Nat) (nd6 : Nat) (nd7 : Nat) (B8_1 : Nat) (B8 : Nat) : ∀ kk α α', (∀ j, (j % 1000 = kk ∨ j % 1000 ∈ rlaw13ri2Anc kk) → α j = α' j) → rlaw13ri2E loc key vm B1 nd3 nd4 nd5 nd6 nd7 B8_1 B8 kk α = rlaw13ri2E loc key vm B1 nd3 nd4 nd5 nd6 nd7 B8_1 B8 kk α' := by
  intro kk α α' h
  match kk with
  | 0 => rfl
  | 1 => rfl
  | 2 => rfl
  | 3 => rfl
  | 4 => simp only [rlaw13ri2E, h 4 (Or.inl rfl)]
  | 5 => simp only [rlaw13ri2E, h 5 (Or.inl rfl)]
  | 6 => rfl
  | 7 => rfl
  | 8 => simp only [rlaw13ri2E, h 8 (Or.inl rfl)]
  | 9 => simp only [rlaw13ri2E, h 9 (Or.inl rfl)]
  | 10 => simp only [rlaw13ri2E, h 10 (Or.inl rfl)]
  | 11 => rfl
  | n + 12 => rfl
theorem rlaw13ri2_st (loc : Int) (key : ByteArray) (vm : Int) (B1 : Nat) (nd3 : Nat) (nd4 : Nat) (nd5 : Nat) (nd6 : Nat) (nd7 : Nat) (B8_1 : Nat) (B8 : Nat) : Stable rlaw13ri2Cnt 8 rlaw13ri2Anc rlaw13ri2Trn (rlaw13ri2R loc key vm B1 nd3 nd4 nd5 nd6 nd7 B8_1 B8) := by
  intro k9 L9 α α' ix9 hk hcl hα hact ht
  have hp := act_places hact
  replace hp : ix9 ∈ [999, 1999, 2999, 3999, 4999, 5999, 6999, 7999, 4, 5, 8, 9, 1009, 2009, 3009, 4009, 5009, 6009, 10] := hp
  simp only [List.mem_cons, List.not_mem_nil, or_false] at hp
  rcases hp with rfl | rfl | rfl | rfl | rfl | rfl | rfl | rfl | rfl | rfl | rfl | rfl | rfl | rfl | rfl | rfl | rfl | rfl | rfl
  · rfl
  · rfl
  · rfl
  · show rlaw13ri2T3999 loc key vm B1 nd3 nd4 nd5 nd6 nd7 B8_1 B8 (Rega.ran L9 k9) α' = rlaw13ri2T3999 loc key vm B1 nd3 nd4 nd5 nd6 nd7 B8_1 B8 L9 α
    unfold rlaw13ri2T3999
    have n9 : 9 ≠ k9 := fun e => ht (by rw [← e]; decide)
    rw [ran_ne n9]
    by_cases e9 : L9 9 = true
    · first | rw [if_pos e9, if_pos e9] | rw [if_pos e9]
      try simp only [hα 7009 (ne_ran hk e9), hα 8009 (ne_ran hk e9)]
    first | rw [if_neg e9, if_neg e9] | rw [if_neg e9]
  · show rlaw13ri2T4999 loc key vm B1 nd3 nd4 nd5 nd6 nd7 B8_1 B8 (Rega.ran L9 k9) α' = rlaw13ri2T4999 loc key vm B1 nd3 nd4 nd5 nd6 nd7 B8_1 B8 L9 α
    unfold rlaw13ri2T4999
    have n9 : 9 ≠ k9 := fun e => ht (by rw [← e]; decide)
    rw [ran_ne n9]
    by_cases e9 : L9 9 = true
    · first | rw [if_pos e9, if_pos e9] | rw [if_pos e9]
      try simp only [hα 7009 (ne_ran hk e9), hα 8009 (ne_ran hk e9)]
    first | rw [if_neg e9, if_neg e9] | rw [if_neg e9]
  · show rlaw13ri2T5999 loc key vm B1 nd3 nd4 nd5 nd6 nd7 B8_1 B8 (Rega.ran L9 k9) α' = rlaw13ri2T5999 loc key vm B1 nd3 nd4 nd5 nd6 nd7 B8_1 B8 L9 α
    unfold rlaw13ri2T5999
    have n9 : 9 ≠ k9 := fun e => ht (by rw [← e]; decide)
    rw [ran_ne n9]
  · show rlaw13ri2T6999 loc key vm B1 nd3 nd4 nd5 nd6 nd7 B8_1 B8 (Rega.ran L9 k9) α' = rlaw13ri2T6999 loc key vm B1 nd3 nd4 nd5 nd6 nd7 B8_1 B8 L9 α
    unfold rlaw13ri2T6999
    have n9 : 9 ≠ k9 := fun e => ht (by rw [← e]; decide)
    rw [ran_ne n9]
    by_cases e9 : L9 9 = true
    · first | rw [if_pos e9, if_pos e9] | rw [if_pos e9]
      try simp only [hα 6009 (ne_ran hk e9), hα 9009 (ne_ran hk e9)]
    first | rw [if_neg e9, if_neg e9] | rw [if_neg e9]
  · rfl
  · have e0 : L9 4 = true := act_lt hact (by decide)
    show row (α' 4) 51 (units key) = row (α 4) 51 (units key)
    simp only [hα 4 (ne_ran hk e0)]
  · have e0 : L9 5 = true := act_lt hact (by decide)
    show row (α' 5) 208 #[.slice (some ⟨α' 4, 0, none⟩) key.size key.size, .int .i32 0, .bool false, .bool false, .bool false] = row (α 5) 208 #[.slice (some ⟨α 4, 0, none⟩) key.size key.size, .int .i32 0, .bool false, .bool false, .bool false]
    simp only [hα 4 (ne_ran hk (hcl 5 e0 4 (by decide))), hα 5 (ne_ran hk e0)]
  · have e0 : L9 8 = true := act_lt hact (by decide)
    show row (α' 8) 211 #[.int .u32 3, .int .u32 vm, .bool false, .bool false, .bool false] = row (α 8) 211 #[.int .u32 3, .int .u32 vm, .bool false, .bool false, .bool false]
    simp only [hα 8 (ne_ran hk e0)]
  · have e0 : L9 9 = true := act_lt hact (by decide)
    show row (α' 9) 71 #[.iface 209 (.pointer (some ⟨α' 1009, 0, none⟩)), .int .i32 loc, .slice (some ⟨α' 2009, 0, none⟩) 4 4, .int .i32 0, .int .u8 0, .int .u8 0, .bool false, .bool false] = row (α 9) 71 #[.iface 209 (.pointer (some ⟨α 1009, 0, none⟩)), .int .i32 loc, .slice (some ⟨α 2009, 0, none⟩) 4 4, .int .i32 0, .int .u8 0, .int .u8 0, .bool false, .bool false]
    simp only [hα 9 (ne_ran hk e0), hα 1009 (ne_ran hk e0), hα 2009 (ne_ran hk e0)]
  · have e0 : L9 9 = true := act_lt hact (by decide)
    show row (α' 1009) 211 #[.int .u32 0, .int .u32 1, .bool false, .bool false, .bool false] = row (α 1009) 211 #[.int .u32 0, .int .u32 1, .bool false, .bool false, .bool false]
    simp only [hα 1009 (ne_ran hk e0)]
  · have e0 : L9 9 = true := act_lt hact (by decide)
    show row (α' 2009) 35 #[.iface 225 (.pointer (some ⟨α' 5009, 0, none⟩)), .int .i32 loc, .iface 209 (.pointer (some ⟨α' 4009, 0, none⟩)), .int .i32 loc, .iface 206 (.pointer (some ⟨α' 5, 0, none⟩)), .int .i32 loc, .iface 209 (.pointer (some ⟨α' 8, 0, none⟩)), .int .i32 loc] = row (α 2009) 35 #[.iface 225 (.pointer (some ⟨α 5009, 0, none⟩)), .int .i32 loc, .iface 209 (.pointer (some ⟨α 4009, 0, none⟩)), .int .i32 loc, .iface 206 (.pointer (some ⟨α 5, 0, none⟩)), .int .i32 loc, .iface 209 (.pointer (some ⟨α 8, 0, none⟩)), .int .i32 loc]
    simp only [hα 5 (ne_ran hk (hcl 9 e0 5 (by decide))), hα 8 (ne_ran hk (hcl 9 e0 8 (by decide))), hα 2009 (ne_ran hk e0), hα 4009 (ne_ran hk e0), hα 5009 (ne_ran hk e0)]
  · have e0 : L9 9 = true := act_lt hact (by decide)
    show row (α' 3009) 211 #[.int .u32 0, .int .u32 0, .bool false, .bool false, .bool false] = row (α 3009) 211 #[.int .u32 0, .int .u32 0, .bool false, .bool false, .bool false]
    simp only [hα 3009 (ne_ran hk e0)]
  · have e0 : L9 9 = true := act_lt hact (by decide)
    show row (α' 4009) 211 #[.int .u32 0, .int .u32 0, .bool false, .bool false, .bool false] = row (α 4009) 211 #[.int .u32 0, .int .u32 0, .bool false, .bool false, .bool false]
    simp only [hα 4009 (ne_ran hk e0)]
  · have e0 : L9 9 = true := act_lt hact (by decide)
    show row (α' 5009) 228 #[.iface 209 (.pointer (some ⟨α' 3009, 0, none⟩)), .int .i32 loc, .string ⟨#[112, 114, 111, 116, 111, 116, 121, 112, 101]⟩, .int .i32 loc, .int .u8 0, .bool false, .bool false, .bool false] = row (α 5009) 228 #[.iface 209 (.pointer (some ⟨α 3009, 0, none⟩)), .int .i32 loc, .string ⟨#[112, 114, 111, 116, 111, 116, 121, 112, 101]⟩, .int .i32 loc, .int .u8 0, .bool false, .bool false, .bool false]
    simp only [hα 3009 (ne_ran hk e0), hα 5009 (ne_ran hk e0)]
  · have e0 : L9 9 = true := act_lt hact (by decide)
    show row (α' 6009) 25 (full refZ ([.int .u32 0, .int .u32 1]) (α' 9009)) = row (α 6009) 25 (full refZ ([.int .u32 0, .int .u32 1]) (α 9009))
    simp only [hα 6009 (ne_ran hk e0), hα 9009 (ne_ran hk e0)]
  · have e0 : L9 10 = true := act_lt hact (by decide)
    show rlaw13ri2T10 loc key vm B1 nd3 nd4 nd5 nd6 nd7 B8_1 B8 (Rega.ran L9 k9) α' = rlaw13ri2T10 loc key vm B1 nd3 nd4 nd5 nd6 nd7 B8_1 B8 L9 α
    unfold rlaw13ri2T10
    have n11 : 11 ≠ k9 := fun e => ht (by rw [← e]; decide)
    rw [ran_ne n11]
    by_cases e11 : L9 11 = true
    · first | rw [if_pos e11, if_pos e11] | rw [if_pos e11]
      try simp only [hα 9 (ne_ran hk (hcl 11 e11 9 (by decide))), hα 10 (ne_ran hk (hcl 11 e11 10 (by decide)))]
    first | rw [if_neg e11, if_neg e11] | rw [if_neg e11]
    try simp only [hα 10 (ne_ran hk e0)]
noncomputable def rlaw13ri3E (loc : Int) (key : ByteArray) (vm : Int) (nd3 : Nat) (nd4 : Nat) (nd5 : Nat) (nd6 : Nat) (nd7 : Nat) (B8_1 : Nat) (B8 : Nat) (nd20 : Nat) (nd21 : Nat) (nd22 : Nat) (nd23 : Nat) : Nat → Rega.Atoms → Value
  | 0, α => .pointer (some ⟨nd4, 0, none⟩)
  | 1, α => .agg #[.int .i32 loc]
  | 2, α => .int .i32 loc
  | 3, α => .string key
  | 4, α => .slice (some ⟨α 4, 0, none⟩) key.size key.size
  | 5, α => .agg #[.iface 206 (.pointer (some ⟨α 5, 0, none⟩)), .int .i32 loc]
  | 6, α => .int .i32 loc
  | 7, α => .agg #[.int .u32 3, .int .u32 vm]
  | 8, α => .agg #[.iface 209 (.pointer (some ⟨α 8, 0, none⟩)), .int .i32 loc]
  | 9, α => .agg #[.iface 65 (.pointer (some ⟨α 9, 0, none⟩)), .int .i32 loc]
  | 10, α => .pointer (some ⟨α 10, 0, none⟩)
  | 11, α => undef
  | _, _ => undef
noncomputable def rlaw13ri3Anc : Nat → List Nat
  | 4 => [3]
  | 5 => [2, 3, 4]
  | 8 => [2, 3, 4, 5, 6, 7]
  | 9 => [0, 1, 2, 3, 4, 5, 6, 7, 8]
  | 11 => [0, 1, 2, 3, 4, 5, 6, 7, 8, 9, 10]
  | _ => []
noncomputable def rlaw13ri3Trn : Nat → List Nat
  | 9 => [2999]
  | 11 => [10]
  | _ => []
noncomputable def rlaw13ri3Cnt : List (Nat × Nat) := [(4, 1), (5, 1), (8, 1), (9, 6), (10, 1)]
noncomputable def rlaw13ri3T2999 (loc : Int) (key : ByteArray) (vm : Int) (nd3 : Nat) (nd4 : Nat) (nd5 : Nat) (nd6 : Nat) (nd7 : Nat) (B8_1 : Nat) (B8 : Nat) (nd20 : Nat) (nd21 : Nat) (nd22 : Nat) (nd23 : Nat) (L9 : Nat → Bool) (α : Rega.Atoms) : Rw := if L9 9 = true then row (nd21) 56 (full symZ (symL ([sy ⟨#[70, 111, 111]⟩ 4, sy ⟨#[95, 95, 115, 117, 112, 101, 114, 83, 101, 116]⟩ 2])) nd22) else row (nd21) 56 (full symZ (symL ([sy ⟨#[70, 111, 111]⟩ 2, sy ⟨#[95, 95, 115, 117, 112, 101, 114, 83, 101, 116]⟩ 1])) (nd22))
noncomputable def rlaw13ri3T10 (loc : Int) (key : ByteArray) (vm : Int) (nd3 : Nat) (nd4 : Nat) (nd5 : Nat) (nd6 : Nat) (nd7 : Nat) (B8_1 : Nat) (B8 : Nat) (nd20 : Nat) (nd21 : Nat) (nd22 : Nat) (nd23 : Nat) (L9 : Nat → Bool) (α : Rega.Atoms) : Rw := if L9 11 = true then row (α 10) 35 #[.iface 65 (.pointer (some ⟨α 9, 0, none⟩)), .int .i32 loc] else row (α 10) 35 #[.nilIface, .int .i32 0]
noncomputable def rlaw13ri3R (loc : Int) (key : ByteArray) (vm : Int) (nd3 : Nat) (nd4 : Nat) (nd5 : Nat) (nd6 : Nat) (nd7 : Nat) (B8_1 : Nat) (B8 : Nat) (nd20 : Nat) (nd21 : Nat) (nd22 : Nat) (nd23 : Nat) (L9 : Nat → Bool) (α : Rega.Atoms) (ix9 : Nat) : Rw := if ix9 = 999 then row (B8_1) 25 #[.int .u32 3, .int .u32 vm] else if ix9 = 1999 then row (B8) 31 #[.int .i32 loc] else if ix9 = 2999 then rlaw13ri3T2999 loc key vm nd3 nd4 nd5 nd6 nd7 B8_1 B8 nd20 nd21 nd22 nd23 L9 α else if ix9 = 3999 then row (nd4) 193 ((newStftP nd3 nd5 nd6 nd7).setIfInBounds 106 (.slice (some ⟨nd21, 0, none⟩) 2 (2 + (nd22)))) else if ix9 = 4999 then ((nd5, .map #[⟨.string ⟨#[95, 95, 115, 117, 112, 101, 114, 83, 101, 116]⟩, .agg #[.int .i32 loc, .int .u32 0, .int .u32 1], 0⟩] 1) : Rw) else if ix9 = 5999 then row (nd6) 203 #[.pointer none, .pointer none, .slice none 0 0, .map none, .slice none 0 0, .slice (some ⟨nd20, 0, none⟩) 1 (1 + (nd23)), .int .i32 0, .int .i32 0, .int .u32 0, .int .u32 0, .bool false, .bool false, .bool false, .bool false, .int .u8 0, .int .u8 6] else if ix9 = 6999 then row (nd7) 25 #[.int .u32 0, .int .u32 0] else if ix9 = 7999 then row (nd20) 25 (full refZ [.int .u32 0, .int .u32 1] (nd23)) else if ix9 = 4 then row (α 4) 51 (units key) else if ix9 = 5 then row (α 5) 208 #[.slice (some ⟨α 4, 0, none⟩) key.size key.size, .int .i32 0, .bool false, .bool false, .bool false] else if ix9 = 8 then row (α 8) 211 #[.int .u32 3, .int .u32 vm, .bool false, .bool false, .bool false] else if ix9 = 9 then row (α 9) 71 #[.iface 209 (.pointer (some ⟨α 1009, 0, none⟩)), .int .i32 loc, .slice (some ⟨α 2009, 0, none⟩) 4 4, .int .i32 0, .int .u8 0, .int .u8 0, .bool false, .bool false] else if ix9 = 1009 then row (α 1009) 211 #[.int .u32 0, .int .u32 1, .bool false, .bool false, .bool false] else if ix9 = 2009 then row (α 2009) 35 #[.iface 225 (.pointer (some ⟨α 5009, 0, none⟩)), .int .i32 loc, .iface 209 (.pointer (some ⟨α 4009, 0, none⟩)), .int .i32 loc, .iface 206 (.pointer (some ⟨α 5, 0, none⟩)), .int .i32 loc, .iface 209 (.pointer (some ⟨α 8, 0, none⟩)), .int .i32 loc] else if ix9 = 3009 then row (α 3009) 211 #[.int .u32 0, .int .u32 0, .bool false, .bool false, .bool false] else if ix9 = 4009 then row (α 4009) 211 #[.int .u32 0, .int .u32 0, .bool false, .bool false, .bool false] else if ix9 = 5009 then row (α 5009) 228 #[.iface 209 (.pointer (some ⟨α 3009, 0, none⟩)), .int .i32 loc, .string ⟨#[112, 114, 111, 116, 111, 116, 121, 112, 101]⟩, .int .i32 loc, .int .u8 0, .bool false, .bool false, .bool false] else if ix9 = 10 then rlaw13ri3T10 loc key vm nd3 nd4 nd5 nd6 nd7 B8_1 B8 nd20 nd21 nd22 nd23 L9 α else (0, .map #[] 0)
theorem rlaw13ri3_he (loc : Int) (key : ByteArray) (vm : Int) (nd3 : Nat) (nd4 : Nat) (nd5 : Nat) (nd6 : Nat) (nd7 : Nat) (B8_1 : Nat) (B8 : Nat) (nd20 : Nat) (nd21 : Nat) (nd22 : Nat) (nd23 : Nat) : ∀ kk α α', (∀ j, (j % 1000 = kk ∨ j % 1000 ∈ rlaw13ri3Anc kk) → α j = α' j) → rlaw13ri3E loc key vm nd3 nd4 nd5 nd6 nd7 B8_1 B8 nd20 nd21 nd22 nd23 kk α = rlaw13ri3E loc key vm nd3 nd4 nd5 nd6 nd7 B8_1 B8 nd20 nd21 nd22 nd23 kk α' := by
  intro kk α α' h
  match kk with
  | 0 => rfl
  | 1 => rfl
  | 2 => rfl
  | 3 => rfl
  | 4 => simp only [rlaw13ri3E, h 4 (Or.inl rfl)]
  | 5 => simp only [rlaw13ri3E, h 5 (Or.inl rfl)]
  | 6 => rfl
  | 7 => rfl
  | 8 => simp only [rlaw13ri3E, h 8 (Or.inl rfl)]
  | 9 => simp only [rlaw13ri3E, h 9 (Or.inl rfl)]
  | 10 => simp only [rlaw13ri3E, h 10 (Or.inl rfl)]
  | 11 => rfl
  | n + 12 => rfl
theorem rlaw13ri3_st (loc : Int) (key : ByteArray) (vm : Int) (nd3 : Nat) (nd4 : Nat) (nd5 : Nat) (nd6 : Nat) (nd7 : Nat) (B8_1 : Nat) (B8 : Nat) (nd20 : Nat) (nd21 : Nat) (nd22 : Nat) (nd23 : Nat) : Stable rlaw13ri3Cnt 8 rlaw13ri3Anc rlaw13ri3Trn (rlaw13ri3R loc key vm nd3 nd4 nd5 nd6 nd7 B8_1 B8 nd20 nd21 nd22 nd23) := by
  intro k9 L9 α α' ix9 hk hcl hα hact ht
  have hp := act_places hact
  replace hp : ix9 ∈ [999, 1999, 2999, 3999, 4999, 5999, 6999, 7999, 4, 5, 8, 9, 1009, 2009, 3009, 4009, 5009, 10] := hp
  simp only [List.mem_cons, List.not_mem_nil, or_false] at hp
  rcases hp with rfl | rfl | rfl | rfl | rfl | rfl | rfl | rfl | rfl | rfl | rfl | rfl | rfl | rfl | rfl | rfl | rfl | rfl
  · rfl
  · rfl
  · show rlaw13ri3T2999 loc key vm nd3 nd4 nd5 nd6 nd7 B8_1 B8 nd20 nd21 nd22 nd23 (Rega.ran L9 k9) α' = rlaw13ri3T2999 loc key vm nd3 nd4 nd5 nd6 nd7 B8_1 B8 nd20 nd21 nd22 nd23 L9 α
    unfold rlaw13ri3T2999
    have n9 : 9 ≠ k9 := fun e => ht (by rw [← e]; decide)
    rw [ran_ne n9]
  · rfl
  · rfl
  · rfl
  · rfl
  · rfl
  · have e0 : L9 4 = true := act_lt hact (by decide)
    show row (α' 4) 51 (units key) = row (α 4) 51 (units key)
    simp only [hα 4 (ne_ran hk e0)]
  · have e0 : L9 5 = true := act_lt hact (by decide)
    show row (α' 5) 208 #[.slice (some ⟨α' 4, 0, none⟩) key.size key.size, .int .i32 0, .bool false, .bool false, .bool false] = row (α 5) 208 #[.slice (some ⟨α 4, 0, none⟩) key.size key.size, .int .i32 0, .bool false, .bool false, .bool false]
    simp only [hα 4 (ne_ran hk (hcl 5 e0 4 (by decide))), hα 5 (ne_ran hk e0)]
  · have e0 : L9 8 = true := act_lt hact (by decide)
    show row (α' 8) 211 #[.int .u32 3, .int .u32 vm, .bool false, .bool false, .bool false] = row (α 8) 211 #[.int .u32 3, .int .u32 vm, .bool false, .bool false, .bool false]
    simp only [hα 8 (ne_ran hk e0)]
  · have e0 : L9 9 = true := act_lt hact (by decide)
    show row (α' 9) 71 #[.iface 209 (.pointer (some ⟨α' 1009, 0, none⟩)), .int .i32 loc, .slice (some ⟨α' 2009, 0, none⟩) 4 4, .int .i32 0, .int .u8 0, .int .u8 0, .bool false, .bool false] = row (α 9) 71 #[.iface 209 (.pointer (some ⟨α 1009, 0, none⟩)), .int .i32 loc, .slice (some ⟨α 2009, 0, none⟩) 4 4, .int .i32 0, .int .u8 0, .int .u8 0, .bool false, .bool false]
    simp only [hα 9 (ne_ran hk e0), hα 1009 (ne_ran hk e0), hα 2009 (ne_ran hk e0)]
  · have e0 : L9 9 = true := act_lt hact (by decide)
    show row (α' 1009) 211 #[.int .u32 0, .int .u32 1, .bool false, .bool false, .bool false] = row (α 1009) 211 #[.int .u32 0, .int .u32 1, .bool false, .bool false, .bool false]
    simp only [hα 1009 (ne_ran hk e0)]
  · have e0 : L9 9 = true := act_lt hact (by decide)
    show row (α' 2009) 35 #[.iface 225 (.pointer (some ⟨α' 5009, 0, none⟩)), .int .i32 loc, .iface 209 (.pointer (some ⟨α' 4009, 0, none⟩)), .int .i32 loc, .iface 206 (.pointer (some ⟨α' 5, 0, none⟩)), .int .i32 loc, .iface 209 (.pointer (some ⟨α' 8, 0, none⟩)), .int .i32 loc] = row (α 2009) 35 #[.iface 225 (.pointer (some ⟨α 5009, 0, none⟩)), .int .i32 loc, .iface 209 (.pointer (some ⟨α 4009, 0, none⟩)), .int .i32 loc, .iface 206 (.pointer (some ⟨α 5, 0, none⟩)), .int .i32 loc, .iface 209 (.pointer (some ⟨α 8, 0, none⟩)), .int .i32 loc]
    simp only [hα 5 (ne_ran hk (hcl 9 e0 5 (by decide))), hα 8 (ne_ran hk (hcl 9 e0 8 (by decide))), hα 2009 (ne_ran hk e0), hα 4009 (ne_ran hk e0), hα 5009 (ne_ran hk e0)]
  · have e0 : L9 9 = true := act_lt hact (by decide)
    show row (α' 3009) 211 #[.int .u32 0, .int .u32 0, .bool false, .bool false, .bool false] = row (α 3009) 211 #[.int .u32 0, .int .u32 0, .bool false, .bool false, .bool false]
    simp only [hα 3009 (ne_ran hk e0)]
  · have e0 : L9 9 = true := act_lt hact (by decide)
    show row (α' 4009) 211 #[.int .u32 0, .int .u32 0, .bool false, .bool false, .bool false] = row (α 4009) 211 #[.int .u32 0, .int .u32 0, .bool false, .bool false, .bool false]
    simp only [hα 4009 (ne_ran hk e0)]
  · have e0 : L9 9 = true := act_lt hact (by decide)
    show row (α' 5009) 228 #[.iface 209 (.pointer (some ⟨α' 3009, 0, none⟩)), .int .i32 loc, .string ⟨#[112, 114, 111, 116, 111, 116, 121, 112, 101]⟩, .int .i32 loc, .int .u8 0, .bool false, .bool false, .bool false] = row (α 5009) 228 #[.iface 209 (.pointer (some ⟨α 3009, 0, none⟩)), .int .i32 loc, .string ⟨#[112, 114, 111, 116, 111, 116, 121, 112, 101]⟩, .int .i32 loc, .int .u8 0, .bool false, .bool false, .bool false]
    simp only [hα 3009 (ne_ran hk e0), hα 5009 (ne_ran hk e0)]
  · have e0 : L9 10 = true := act_lt hact (by decide)
    show rlaw13ri3T10 loc key vm nd3 nd4 nd5 nd6 nd7 B8_1 B8 nd20 nd21 nd22 nd23 (Rega.ran L9 k9) α' = rlaw13ri3T10 loc key vm nd3 nd4 nd5 nd6 nd7 B8_1 B8 nd20 nd21 nd22 nd23 L9 α
    unfold rlaw13ri3T10
    have n11 : 11 ≠ k9 := fun e => ht (by rw [← e]; decide)
    rw [ran_ne n11]
    by_cases e11 : L9 11 = true
    · first | rw [if_pos e11, if_pos e11] | rw [if_pos e11]
      try simp only [hα 9 (ne_ran hk (hcl 11 e11 9 (by decide))), hα 10 (ne_ran hk (hcl 11 e11 10 (by decide)))]
    first | rw [if_neg e11, if_neg e11] | rw [if_neg e11]
    try simp only [hα 10 (ne_ran hk e0)]
noncomputable def rlaw13ri9E (nd21 : Nat) (nd22 : Nat) : Nat → Rega.Atoms → Value
  | 0, α => .slice (some ⟨nd21, 0, none⟩) 2 (2 + nd22)
  | 1, α => .pointer (some ⟨nd21, 0, none⟩)
  | 2, α => .pointer (some ⟨nd21, 4, none⟩)
  | 3, α => .int .u32 4
  | 4, α => .bool true
  | 5, α => .int .u32 4
  | 6, α => .bool true
  | 7, α => .bool true
  | 8, α => .slice (some ⟨nd21, 0, none⟩) 2 (2 + nd22)
  | 9, α => .pointer (some ⟨nd21, 10, none⟩)
  | 10, α => .pointer (some ⟨nd21, 14, none⟩)
  | 11, α => .int .u32 2
  | 12, α => .bool true
  | 13, α => .bool true
  | 14, α => .bool true
  | _, _ => undef
noncomputable def rlaw13ri9Anc : Nat → List Nat
  | 1 => [0]
  | 2 => [0, 1]
  | 3 => [0, 1, 2]
  | 5 => [4]
  | 6 => [0, 1, 2, 3, 4, 5]
  | 7 => [0, 1, 2, 3, 4, 5, 6]
  | 8 => [0, 1, 2, 3, 4, 5, 6, 7]
  | 9 => [0, 1, 2, 3, 4, 5, 6, 7, 8]
  | 10 => [0, 1, 2, 3, 4, 5, 6, 7, 8, 9]
  | 11 => [0, 1, 2, 3, 4, 5, 6, 7, 8, 9, 10]
  | 12 => [0, 1, 2, 3, 4, 5, 6, 7, 8, 9, 10, 11]
  | 13 => [0, 1, 2, 3, 4, 5, 6, 7, 8, 9, 10, 11, 12]
  | 14 => [0, 1, 2, 3, 4, 5, 6, 7, 8, 9, 10, 11, 12, 13]
  | _ => []
noncomputable def rlaw13ri9Trn : Nat → List Nat
  | _ => []
noncomputable def rlaw13ri9Cnt : List (Nat × Nat) := []
noncomputable def rlaw13ri9R (nd21 : Nat) (nd22 : Nat) (L9 : Nat → Bool) (α : Rega.Atoms) (ix9 : Nat) : Rw := if ix9 = 999 then row (nd21) 56 (full symZ (symL ([sy ⟨#[70, 111, 111]⟩ 4, sy ⟨#[95, 95, 115, 117, 112, 101, 114, 83, 101, 116]⟩ 2])) nd22) else (0, .map #[] 0)
theorem rlaw13ri9_he (nd21 : Nat) (nd22 : Nat) : ∀ kk α α', (∀ j, (j % 1000 = kk ∨ j % 1000 ∈ rlaw13ri9Anc kk) → α j = α' j) → rlaw13ri9E nd21 nd22 kk α = rlaw13ri9E nd21 nd22 kk α' := by
  intro kk α α' h
  match kk with
  | 0 => rfl
  | 1 => rfl
  | 2 => rfl
  | 3 => rfl
  | 4 => rfl
  | 5 => rfl
  | 6 => rfl
  | 7 => rfl
  | 8 => rfl
  | 9 => rfl
  | 10 => rfl
  | 11 => rfl
  | 12 => rfl
  | 13 => rfl
  | 14 => rfl
  | n + 15 => rfl
theorem rlaw13ri9_st (nd21 : Nat) (nd22 : Nat) : Stable rlaw13ri9Cnt 1 rlaw13ri9Anc rlaw13ri9Trn (rlaw13ri9R nd21 nd22) := by
  intro k9 L9 α α' ix9 hk hcl hα hact ht
  have hp := act_places hact
  replace hp : ix9 ∈ [999] := hp
  simp only [List.mem_cons, List.not_mem_nil, or_false] at hp
  subst hp
  rfl
def law13riPost (loc : Int) (key : ByteArray) (vm : Int) (w0 : World) (X : Nat → Obj → Prop) (e : Ending) (w' : World) : Prop :=
  e = .returned (.bool true) ∧ Own w0 w' [] X
set_option maxRecDepth 100000 in
set_option maxHeartbeats 1000000 in
theorem law13ri (loc : Int) (key : ByteArray) (vm : Int) (w0 w : World) (X : Nat → Obj → Prop) (hO : Own w0 w [] X) (hlen : key.size ≤ 65536) (hg0 : w0.cell? ⟨0, 0, none⟩ = some (.int .u32 4294967295)) (hg1 : w0.cell? ⟨0, 1, none⟩ = some (.int .u32 4294967295)) :
    Calls Tryd.prog 3 #[.int .i32 loc, .string key, .bool false, .bool true, .int .u32 vm] w (law13riPost loc key vm w0 X) := by
  go_enter Tryd.func3, Tryd.ntmps3
  have hl9 : (key.size : Int) ≤ 65536 := by omega
  go_wp2_with (first | (with_reducible refine Own.stay (fn := Tryd.f3) ?_) | (first | (go_at_call 8; go_in)))
  try with_reducible refine Own.Stay.mk ?_
  generalize hW : World.alloc _ _ = W2
  have hN : Own w0 W2 [row (w.heap.size) 25 #[.int .u32 0, .int .u32 0]] X := by
    rw [← hW]
    exact (hO).alloc' _ (w.heap.size) (by simp)
  clear hW hO
  generalize w.heap.size = B1 at hN ⊢
  have hO := hN
  clear hN
  have st9 := rlaw13ri1_st B1
  refine wp_region_own (e := rlaw13ri1E B1) (anc := rlaw13ri1Anc) (G := (fun L9 α u9 => OwnF w0 u9 (act rlaw13ri1Cnt 1 L9) (rlaw13ri1R B1 L9 α) X)) (by kernel_rfl) (by kernel_rfl) (by kernel_rfl) (by kernel_rfl) (rlaw13ri1_he B1) ?_ (RunsAll.all ?_) ?_
  · have hp : ∀ i, act rlaw13ri1Cnt 1 (fun _ => false) i → i ∈ [999] := by
      intro i hi
      have h9 : i % 1000 = 999 := by
        by_cases h : i % 1000 = 999
        · exact h
        · exact absurd (act_lt hi h) (by simp)
      unfold act at hi
      rw [if_pos h9] at hi
      simp only [List.mem_cons, List.not_mem_nil, or_false]
      omega
    refine hO.drew.family (fun i hi => ?_) (fun i j hi hj hij => ?_)
    · have := hp i hi
      simp only [List.mem_cons, List.not_mem_nil, or_false] at this
      subst this
      rfl
    · have h1 := hp i hi
      have h2 := hp j hj
      simp only [List.mem_cons, List.not_mem_nil, or_false] at h1 h2
      omega
  · refine ⟨?_, ?_, ?_, ?_, ?_, ?_, trivial⟩
    · intro L9 α a9 u9 K9 hL hcl hA hG hS h0 hK
      replace hL : L9 0 = false := hL
      go_simp
      have hM : ∀ i, i ∈ [] → act rlaw13ri1Cnt 1 L9 i := by intro i hi; simp at hi
      have hP : Own w0 u9 [] _ := hG.pick [] (by decide) (by simp)
      clear hM
      refine Calls.mono (classSyms  _ _ _ hP hg0 hg1) ?_
      rintro e9 u1 ⟨b0, rfl, hQ⟩
      obtain ⟨α', hα'⟩ : ∃ α' : Rega.Atoms, α' = (fun j => if j = 0 then b0 else α j) := ⟨_, rfl⟩
      have f0 : rlaw13ri1R B1 (Rega.ran L9 0) α' 0 = row (α' 0) 56 (full symZ (symL ([sy ⟨#[70, 111, 111]⟩ 0])) 0) := rfl
      have hα : ∀ j, j % 1000 ≠ 0 → α' j = α j := fun j hj => by rw [hα']; simp only []; rw [if_neg (by omega)]
      have hb0 : α' 0 = b0 := by rw [hα']; rfl
      skip
      refine hK _ α' _ hα ?_ (step_call (st9) hL hcl hα [] [0] (by decide) (by decide) (by decide) (M := _) ?_ hG hQ)
      · show _ = (.slice (some ⟨α' 0, 0, none⟩) 1 1 : Value)
        simp only [hb0]
      · show [rlaw13ri1R B1 (Rega.ran L9 0) α' 0] = _
        rw [f0]
        simp only [hb0]
    · intro L9 α a9 u9 K9 hL hcl hA hG hS h0 hK
      replace hL : L9 1 = false := hL
      have q11 : a9.tmps[11]? = some (.pointer (some ⟨B1, 0, none⟩)) := (h0 11 (by kernel_rfl)).trans rfl
      have s11 := Rega.eval_of q11
      have e0 : rlaw13ri1R B1 L9 α 999 = row (B1) 25 #[.int .u32 0, .int .u32 0] := rfl
      have hr := hG.rowAt 999 (act_base 999 rfl) e0
      have c0 : u9.cell? ⟨B1, 0, none⟩ = some (.int .u32 0) := hr.cell rfl
      have c1 : u9.cell? ⟨B1, 1, none⟩ = some (.int .u32 0) := hr.cell rfl
      clear hr e0
      go_simp
      exact hK _ α _ (fun _ _ => rfl) rfl (step_same (st9) hL hcl rfl rfl hG)
    · intro L9 α a9 u9 K9 hL hcl hA hG hS h0 hK
      replace hL : L9 2 = false := hL
      have q2 : a9.tmps[2]? = some (.bool false) := (h0 2 (by kernel_rfl)).trans rfl
      have s2 := Rega.eval_of q2
      go_simp
      exact hK _ α _ (fun _ _ => rfl) rfl (step_same (st9) hL hcl rfl rfl hG)
    · intro L9 α a9 u9 K9 hL hcl hA hG hS h0 hK
      replace hL : L9 3 = false := hL
      have q3 : a9.tmps[3]? = some (.bool true) := (h0 3 (by kernel_rfl)).trans rfl
      have s3 := Rega.eval_of q3
      go_simp
      exact hK _ α _ (fun _ _ => rfl) rfl (step_same (st9) hL hcl rfl rfl hG)
    · intro L9 α a9 u9 K9 hL hcl hA hG hS h0 hK
      replace hL : L9 4 = false := hL
      have q35 : a9.tmps[35]? = some (.slice (some ⟨α 0, 0, none⟩) 1 1) := hS 0 35 (by decide) rfl (by show 35 < 118; decide)
      have s35 := Rega.eval_of q35
      have q36 : a9.tmps[36]? = some (.agg #[.int .u32 0, .int .u32 0]) := hS 1 36 (by decide) rfl (by show 36 < 118; decide)
      have s36 := Rega.eval_of q36
      have q37 : a9.tmps[37]? = some (.bool false) := hS 2 37 (by decide) rfl (by show 37 < 118; decide)
      have s37 := Rega.eval_of q37
      have q38 : a9.tmps[38]? = some (.bool true) := hS 3 38 (by decide) rfl (by show 38 < 118; decide)
      have s38 := Rega.eval_of q38
      go_simp
      have hM : ∀ i, i ∈ [] → act rlaw13ri1Cnt 1 L9 i := by intro i hi; simp at hi
      have hP : Own w0 u9 [] _ := hG.pick [] (by decide) (by simp)
      clear hM
      refine Calls.mono (newStft (α 0) _ _ _ hP ) ?_
      rintro e9 u1 ⟨b0, b1, b2, b3, rfl, hQ⟩
      obtain ⟨α', hα'⟩ : ∃ α' : Rega.Atoms, α' = (fun j => if j = 4 then b0 else if j = 1004 then b1 else if j = 2004 then b2 else if j = 3004 then b3 else α j) := ⟨_, rfl⟩
      have f0 : rlaw13ri1R B1 (Rega.ran L9 4) α' 4 = row (α' 4) 193 (newStftP (α' 0) (α' 1004) (α' 2004) (α' 3004)) := rfl
      have f1 : rlaw13ri1R B1 (Rega.ran L9 4) α' 1004 = ((α' 1004, .map #[] 0) : Rw) := rfl
      have f2 : rlaw13ri1R B1 (Rega.ran L9 4) α' 2004 = row (α' 2004) 203 #[.pointer none, .pointer none, .slice none 0 0, .map none, .slice none 0 0, .slice none 0 0, .int .i32 0, .int .i32 0, .int .u32 0, .int .u32 0, .bool false, .bool false, .bool false, .bool false, .int .u8 0, .int .u8 6] := rfl
      have f3 : rlaw13ri1R B1 (Rega.ran L9 4) α' 3004 = row (α' 3004) 25 #[.int .u32 0, .int .u32 0] := rfl
      have hα : ∀ j, j % 1000 ≠ 4 → α' j = α j := fun j hj => by rw [hα']; simp only []; rw [if_neg (by omega), if_neg (by omega), if_neg (by omega), if_neg (by omega)]
      have hb0 : α' 4 = b0 := by rw [hα']; rfl
      have hb1 : α' 1004 = b1 := by rw [hα']; rfl
      have hb2 : α' 2004 = b2 := by rw [hα']; rfl
      have hb3 : α' 3004 = b3 := by rw [hα']; rfl
      have ha0 : α' 0 = α 0 := hα 0 (by decide)
      skip
      refine hK _ α' _ hα ?_ (step_call (st9) hL hcl hα [] [4, 1004, 2004, 3004] (by decide) (by decide) (by decide) (M := _) ?_ hG hQ)
      · show _ = (.pointer (some ⟨α' 4, 0, none⟩) : Value)
        simp only [hb0]
      · show [rlaw13ri1R B1 (Rega.ran L9 4) α' 4, rlaw13ri1R B1 (Rega.ran L9 4) α' 1004, rlaw13ri1R B1 (Rega.ran L9 4) α' 2004, rlaw13ri1R B1 (Rega.ran L9 4) α' 3004] = _
        rw [f0, f1, f2, f3]
        simp only [hb0, hb1, hb2, hb3, ha0]
    · intro L9 α a9 u9 K9 hL hcl hA hG hS h0 hK
      replace hL : L9 5 = false := hL
      have q39 : a9.tmps[39]? = some (.pointer (some ⟨α 4, 0, none⟩)) := hS 4 39 (by decide) rfl (by show 39 < 118; decide)
      have s39 := Rega.eval_of q39
      go_simp
      exact hK _ α _ (fun _ _ => rfl) rfl (step_same (st9) hL hcl rfl rfl hG)
  clear st9
  intro α u hG
  have e0 : rlaw13ri1R B1 (fun k => decide (k < 6)) α 999 = row (B1) 25 #[.int .u32 0, .int .u32 0] := rfl
  have e1 : rlaw13ri1R B1 (fun k => decide (k < 6)) α 0 = row (α 0) 56 (full symZ (symL ([sy ⟨#[70, 111, 111]⟩ 0])) 0) := rfl
  have e2 : rlaw13ri1R B1 (fun k => decide (k < 6)) α 4 = row (α 4) 193 (newStftP (α 0) (α 1004) (α 2004) (α 3004)) := rfl
  have e3 : rlaw13ri1R B1 (fun k => decide (k < 6)) α 1004 = ((α 1004, .map #[] 0) : Rw) := rfl
  have e4 : rlaw13ri1R B1 (fun k => decide (k < 6)) α 2004 = row (α 2004) 203 #[.pointer none, .pointer none, .slice none 0 0, .map none, .slice none 0 0, .slice none 0 0, .int .i32 0, .int .i32 0, .int .u32 0, .int .u32 0, .bool false, .bool false, .bool false, .bool false, .int .u8 0, .int .u8 6] := rfl
  have e5 : rlaw13ri1R B1 (fun k => decide (k < 6)) α 3004 = row (α 3004) 25 #[.int .u32 0, .int .u32 0] := rfl
  have hO : Own w0 u [row (B1) 25 #[.int .u32 0, .int .u32 0], row (α 0) 56 (full symZ (symL ([sy ⟨#[70, 111, 111]⟩ 0])) 0), row (α 4) 193 (newStftP (α 0) (α 1004) (α 2004) (α 3004)), ((α 1004, .map #[] 0) : Rw), row (α 2004) 203 #[.pointer none, .pointer none, .slice none 0 0, .map none, .slice none 0 0, .slice none 0 0, .int .i32 0, .int .i32 0, .int .u32 0, .int .u32 0, .bool false, .bool false, .bool false, .bool false, .int .u8 0, .int .u8 6], row (α 3004) 25 #[.int .u32 0, .int .u32 0]] X := (hG.list [999, 0, 4, 1004, 2004, 3004] (by decide) (act_all (by decide))).conv (by
    show [rlaw13ri1R B1 (fun k => decide (k < 6)) α 999, rlaw13ri1R B1 (fun k => decide (k < 6)) α 0, rlaw13ri1R B1 (fun k => decide (k < 6)) α 4, rlaw13ri1R B1 (fun k => decide (k < 6)) α 1004, rlaw13ri1R B1 (fun k => decide (k < 6)) α 2004, rlaw13ri1R B1 (fun k => decide (k < 6)) α 3004] = _
    rw [e0, e1, e2, e3, e4, e5])
  clear hG e0 e1 e2 e3 e4 e5
  generalize hfr : Rega.frameAt _ _ _ _ _ = fr
  have hdf : fr = ⟨#[.int .i32 loc, .string key, .bool false, .bool true, .int .u32 vm, undef, undef, undef, undef, undef, .bool false, .pointer (some ⟨B1, 0, none⟩), .pointer (some ⟨α 4, 0, none⟩), undef, undef, undef, undef, undef, undef, undef, undef, undef, undef, undef, .int .i32 loc, .string key, .bool false, .bool true, .int .u32 vm, .bool true, .bool false, .string key, .int .i64 (key.size : Int), .bool (decide (65536 < (key.size : Int))), .agg #[.int .u32 0, .int .u32 0], .slice (some ⟨α 0, 0, none⟩) 1 1, .agg #[.int .u32 0, .int .u32 0], .bool false, .bool true, .pointer (some ⟨α 4, 0, none⟩), undef, undef, undef, undef, undef, undef, undef, undef, undef, undef, undef, undef, undef, undef, undef, undef, undef, undef, undef, undef, undef, undef, undef, undef, undef, undef, undef, undef, undef, undef, undef, undef, undef, undef, undef, undef, undef, undef, undef, undef, undef, undef, undef, undef, undef, undef, undef, undef, undef, undef, undef, undef, undef, undef, undef, undef, undef, undef, undef, undef, undef, undef, undef, undef, undef, undef, undef, undef, undef, undef, undef, undef, undef, undef, undef, undef, undef, undef], []⟩ := by rw [← hfr]; kernel_rfl
  clear hfr
  subst hdf
  generalize α 0 = nd3 at hO ⊢
  generalize α 4 = nd4 at hO ⊢
  generalize α 1004 = nd5 at hO ⊢
  generalize α 2004 = nd6 at hO ⊢
  generalize α 3004 = nd7 at hO ⊢
  clear α
  obtain ⟨c9_0_0, c9_0_1, lt9_0, y9_0, -⟩ := hO.k2 0 rfl
  obtain ⟨c9_5_0, c9_5_1, lt9_5, y9_5, -⟩ := hO.k2 5 rfl
  have HO := Lib.hid hO
  clear hO
  go_wp2_with (first | (with_reducible refine Own.stay (fn := Tryd.f3) ?_) | (first | (go_at_call 8; go_in)))
  try with_reducible refine Own.Stay.mk ?_
  have hO := HO.out
  clear HO c9_0_0 c9_0_1 lt9_0 y9_0 c9_5_0 c9_5_1 lt9_5 y9_5
  generalize hW : World.alloc _ _ = W9
  have hN : Own w0 W9 [row (u.heap.size + 1) 25 #[.int .u32 3, .int .u32 vm], row (u.heap.size) 31 #[.int .i32 loc], row (B1) 25 #[.int .u32 0, .int .u32 0], row (nd3) 56 (full symZ (symL ([sy ⟨#[70, 111, 111]⟩ 0])) 0), row (nd4) 193 (newStftP (nd3) (nd5) (nd6) (nd7)), ((nd5, .map #[] 0) : Rw), row (nd6) 203 #[.pointer none, .pointer none, .slice none 0 0, .map none, .slice none 0 0, .slice none 0 0, .int .i32 0, .int .i32 0, .int .u32 0, .int .u32 0, .bool false, .bool false, .bool false, .bool false, .int .u8 0, .int .u8 6], row (nd7) 25 #[.int .u32 0, .int .u32 0]] X := by
    rw [← hW]
    exact ((hO).alloc' _ (u.heap.size) (by simp)).alloc' _ (u.heap.size + 1) (by simp)
  clear hW hO
  generalize u.heap.size + 1 = B8_1 at hN ⊢
  generalize u.heap.size = B8 at hN ⊢
  have hO := hN
  clear hN
  have st9 := rlaw13ri2_st loc key vm B1 nd3 nd4 nd5 nd6 nd7 B8_1 B8
  refine wp_region_own (e := rlaw13ri2E loc key vm B1 nd3 nd4 nd5 nd6 nd7 B8_1 B8) (anc := rlaw13ri2Anc) (G := (fun L9 α u9 => OwnF w0 u9 (act rlaw13ri2Cnt 8 L9) (rlaw13ri2R loc key vm B1 nd3 nd4 nd5 nd6 nd7 B8_1 B8 L9 α) X)) (by kernel_rfl) (by kernel_rfl) (by kernel_rfl) (by kernel_rfl) (rlaw13ri2_he loc key vm B1 nd3 nd4 nd5 nd6 nd7 B8_1 B8) ?_ (RunsAll.all ?_) ?_
  · have hp : ∀ i, act rlaw13ri2Cnt 8 (fun _ => false) i → i ∈ [999, 1999, 2999, 3999, 4999, 5999, 6999, 7999] := by
      intro i hi
      have h9 : i % 1000 = 999 := by
        by_cases h : i % 1000 = 999
        · exact h
        · exact absurd (act_lt hi h) (by simp)
      unfold act at hi
      rw [if_pos h9] at hi
      simp only [List.mem_cons, List.not_mem_nil, or_false]
      omega
    refine hO.drew.family (fun i hi => ?_) (fun i j hi hj hij => ?_)
    · have := hp i hi
      simp only [List.mem_cons, List.not_mem_nil, or_false] at this
      rcases this with rfl | rfl | rfl | rfl | rfl | rfl | rfl | rfl <;> rfl
    · have h1 := hp i hi
      have h2 := hp j hj
      simp only [List.mem_cons, List.not_mem_nil, or_false] at h1 h2
      omega
  · refine ⟨?_, ?_, ?_, ?_, ?_, ?_, ?_, ?_, ?_, ?_, ?_, ?_, trivial⟩
    · intro L9 α a9 u9 K9 hL hcl hA hG hS h0 hK
      replace hL : L9 0 = false := hL
      have q12 : a9.tmps[12]? = some (.pointer (some ⟨nd4, 0, none⟩)) := (h0 12 (by kernel_rfl)).trans rfl
      have s12 := Rega.eval_of q12
      go_simp
      exact hK _ α _ (fun _ _ => rfl) rfl (step_same (st9) hL hcl rfl rfl hG)
    · intro L9 α a9 u9 K9 hL hcl hA hG hS h0 hK
      replace hL : L9 1 = false := hL
      have q13 : a9.tmps[13]? = some (.pointer (some ⟨B8, 0, none⟩)) := (h0 13 (by kernel_rfl)).trans rfl
      have s13 := Rega.eval_of q13
      have e0 : rlaw13ri2R loc key vm B1 nd3 nd4 nd5 nd6 nd7 B8_1 B8 L9 α 1999 = row (B8) 31 #[.int .i32 loc] := rfl
      have hr := hG.rowAt 1999 (act_base 1999 rfl) e0
      have c0 : u9.cell? ⟨B8, 0, none⟩ = some (.int .i32 loc) := hr.cell rfl
      clear hr e0
      go_simp
      exact hK _ α _ (fun _ _ => rfl) rfl (step_same (st9) hL hcl rfl rfl hG)
    · intro L9 α a9 u9 K9 hL hcl hA hG hS h0 hK
      replace hL : L9 2 = false := hL
      have q0 : a9.tmps[0]? = some (.int .i32 loc) := (h0 0 (by kernel_rfl)).trans rfl
      have s0 := Rega.eval_of q0
      go_simp
      exact hK _ α _ (fun _ _ => rfl) rfl (step_same (st9) hL hcl rfl rfl hG)
    · intro L9 α a9 u9 K9 hL hcl hA hG hS h0 hK
      replace hL : L9 3 = false := hL
      have q1 : a9.tmps[1]? = some (.string key) := (h0 1 (by kernel_rfl)).trans rfl
      have s1 := Rega.eval_of q1
      go_simp
      exact hK _ α _ (fun _ _ => rfl) rfl (step_same (st9) hL hcl rfl rfl hG)
    · intro L9 α a9 u9 K9 hL hcl hA hG hS h0 hK
      replace hL : L9 4 = false := hL
      have q47 : a9.tmps[47]? = some (.string key) := hS 3 47 (by decide) rfl (by show 47 < 118; decide)
      have s47 := Rega.eval_of q47
      go_simp
      have hM : ∀ i, i ∈ [] → act rlaw13ri2Cnt 8 L9 i := by intro i hi; simp at hi
      have hP : Own w0 u9 [] _ := hG.pick [] (by decide) (by simp)
      clear hM
      refine Calls.mono (unitsO key _ _ _ hP (by omega)) ?_
      rintro e9 u1 ⟨b0, rfl, hQ⟩
      obtain ⟨α', hα'⟩ : ∃ α' : Rega.Atoms, α' = (fun j => if j = 4 then b0 else α j) := ⟨_, rfl⟩
      have f0 : rlaw13ri2R loc key vm B1 nd3 nd4 nd5 nd6 nd7 B8_1 B8 (Rega.ran L9 4) α' 4 = row (α' 4) 51 (units key) := rfl
      have hα : ∀ j, j % 1000 ≠ 4 → α' j = α j := fun j hj => by rw [hα']; simp only []; rw [if_neg (by omega)]
      have hb0 : α' 4 = b0 := by rw [hα']; rfl
      skip
      refine hK _ α' _ hα ?_ (step_call (st9) hL hcl hα [] [4] (by decide) (by decide) (by decide) (M := _) ?_ hG hQ)
      · show _ = (.slice (some ⟨α' 4, 0, none⟩) key.size key.size : Value)
        simp only [hb0]
      · show [rlaw13ri2R loc key vm B1 nd3 nd4 nd5 nd6 nd7 B8_1 B8 (Rega.ran L9 4) α' 4] = _
        rw [f0]
        simp only [hb0]
    · intro L9 α a9 u9 K9 hL hcl hA hG hS h0 hK
      replace hL : L9 5 = false := hL
      have q46 : a9.tmps[46]? = some (.int .i32 loc) := hS 2 46 (by decide) rfl (by show 46 < 118; decide)
      have s46 := Rega.eval_of q46
      have q48 : a9.tmps[48]? = some (.slice (some ⟨α 4, 0, none⟩) key.size key.size) := hS 4 48 (by decide) rfl (by show 48 < 118; decide)
      have s48 := Rega.eval_of q48
      go_simp
      have hM : ∀ i, i ∈ [] → act rlaw13ri2Cnt 8 L9 i := by intro i hi; simp at hi
      have hP : Own w0 u9 [] _ := hG.pick [] (by decide) (by simp)
      clear hM
      refine Calls.mono (strE loc (α 4) key.size key.size _ _ _ hP ) ?_
      rintro e9 u1 ⟨b0, rfl, hQ⟩
      obtain ⟨α', hα'⟩ : ∃ α' : Rega.Atoms, α' = (fun j => if j = 5 then b0 else α j) := ⟨_, rfl⟩
      have f0 : rlaw13ri2R loc key vm B1 nd3 nd4 nd5 nd6 nd7 B8_1 B8 (Rega.ran L9 5) α' 5 = row (α' 5) 208 #[.slice (some ⟨α' 4, 0, none⟩) key.size key.size, .int .i32 0, .bool false, .bool false, .bool false] := rfl
      have hα : ∀ j, j % 1000 ≠ 5 → α' j = α j := fun j hj => by rw [hα']; simp only []; rw [if_neg (by omega)]
      have hb0 : α' 5 = b0 := by rw [hα']; rfl
      have ha4 : α' 4 = α 4 := hα 4 (by decide)
      skip
      refine hK _ α' _ hα ?_ (step_call (st9) hL hcl hα [] [5] (by decide) (by decide) (by decide) (M := _) ?_ hG hQ)
      · show _ = (.agg #[.iface 206 (.pointer (some ⟨α' 5, 0, none⟩)), .int .i32 loc] : Value)
        simp only [hb0]
      · show [rlaw13ri2R loc key vm B1 nd3 nd4 nd5 nd6 nd7 B8_1 B8 (Rega.ran L9 5) α' 5] = _
        rw [f0]
        simp only [hb0, ha4]
    · intro L9 α a9 u9 K9 hL hcl hA hG hS h0 hK
      replace hL : L9 6 = false := hL
      have q0 : a9.tmps[0]? = some (.int .i32 loc) := (h0 0 (by kernel_rfl)).trans rfl
      have s0 := Rega.eval_of q0
      go_simp
      exact hK _ α _ (fun _ _ => rfl) rfl (step_same (st9) hL hcl rfl rfl hG)
    · intro L9 α a9 u9 K9 hL hcl hA hG hS h0 hK
      replace hL : L9 7 = false := hL
      have q14 : a9.tmps[14]? = some (.pointer (some ⟨B8_1, 0, none⟩)) := (h0 14 (by kernel_rfl)).trans rfl
      have s14 := Rega.eval_of q14
      have e0 : rlaw13ri2R loc key vm B1 nd3 nd4 nd5 nd6 nd7 B8_1 B8 L9 α 999 = row (B8_1) 25 #[.int .u32 3, .int .u32 vm] := rfl
      have hr := hG.rowAt 999 (act_base 999 rfl) e0
      have c0 : u9.cell? ⟨B8_1, 0, none⟩ = some (.int .u32 3) := hr.cell rfl
      have c1 : u9.cell? ⟨B8_1, 1, none⟩ = some (.int .u32 vm) := hr.cell rfl
      clear hr e0
      go_simp
      exact hK _ α _ (fun _ _ => rfl) rfl (step_same (st9) hL hcl rfl rfl hG)
    · intro L9 α a9 u9 K9 hL hcl hA hG hS h0 hK
      replace hL : L9 8 = false := hL
      have q50 : a9.tmps[50]? = some (.int .i32 loc) := hS 6 50 (by decide) rfl (by show 50 < 118; decide)
      have s50 := Rega.eval_of q50
      have q51 : a9.tmps[51]? = some (.agg #[.int .u32 3, .int .u32 vm]) := hS 7 51 (by decide) rfl (by show 51 < 118; decide)
      have s51 := Rega.eval_of q51
      go_simp
      have hM : ∀ i, i ∈ [] → act rlaw13ri2Cnt 8 L9 i := by intro i hi; simp at hi
      have hP : Own w0 u9 [] _ := hG.pick [] (by decide) (by simp)
      clear hM
      refine Calls.mono (idE loc 3 vm _ _ _ hP ) ?_
      rintro e9 u1 ⟨b0, rfl, hQ⟩
      obtain ⟨α', hα'⟩ : ∃ α' : Rega.Atoms, α' = (fun j => if j = 8 then b0 else α j) := ⟨_, rfl⟩
      have f0 : rlaw13ri2R loc key vm B1 nd3 nd4 nd5 nd6 nd7 B8_1 B8 (Rega.ran L9 8) α' 8 = row (α' 8) 211 #[.int .u32 3, .int .u32 vm, .bool false, .bool false, .bool false] := rfl
      have hα : ∀ j, j % 1000 ≠ 8 → α' j = α j := fun j hj => by rw [hα']; simp only []; rw [if_neg (by omega)]
      have hb0 : α' 8 = b0 := by rw [hα']; rfl
      skip
      refine hK _ α' _ hα ?_ (step_call (st9) hL hcl hα [] [8] (by decide) (by decide) (by decide) (M := _) ?_ hG hQ)
      · show _ = (.agg #[.iface 209 (.pointer (some ⟨α' 8, 0, none⟩)), .int .i32 loc] : Value)
        simp only [hb0]
      · show [rlaw13ri2R loc key vm B1 nd3 nd4 nd5 nd6 nd7 B8_1 B8 (Rega.ran L9 8) α' 8] = _
        rw [f0]
        simp only [hb0]
    · intro L9 α a9 u9 K9 hL hcl hA hG hS h0 hK
      replace hL : L9 9 = false := hL
      have q44 : a9.tmps[44]? = some (.pointer (some ⟨nd4, 0, none⟩)) := hS 0 44 (by decide) rfl (by show 44 < 118; decide)
      have s44 := Rega.eval_of q44
      have q45 : a9.tmps[45]? = some (.agg #[.int .i32 loc]) := hS 1 45 (by decide) rfl (by show 45 < 118; decide)
      have s45 := Rega.eval_of q45
      have q49 : a9.tmps[49]? = some (.agg #[.iface 206 (.pointer (some ⟨α 5, 0, none⟩)), .int .i32 loc]) := hS 5 49 (by decide) rfl (by show 49 < 118; decide)
      have s49 := Rega.eval_of q49
      have q52 : a9.tmps[52]? = some (.agg #[.iface 209 (.pointer (some ⟨α 8, 0, none⟩)), .int .i32 loc]) := hS 8 52 (by decide) rfl (by show 52 < 118; decide)
      have s52 := Rega.eval_of q52
      go_simp
      have e0 : rlaw13ri2R loc key vm B1 nd3 nd4 nd5 nd6 nd7 B8_1 B8 L9 α 4999 = row (nd4) 193 (newStftP (nd3) (nd5) (nd6) (nd7)) := by
        show rlaw13ri2T4999 loc key vm B1 nd3 nd4 nd5 nd6 nd7 B8_1 B8 L9 α = _
        unfold rlaw13ri2T4999
        rw [if_neg (by rw [hL]; decide)]
      have e1 : rlaw13ri2R loc key vm B1 nd3 nd4 nd5 nd6 nd7 B8_1 B8 L9 α 3999 = row (nd3) 56 (full symZ (symL ([sy ⟨#[70, 111, 111]⟩ 0])) 0) := by
        show rlaw13ri2T3999 loc key vm B1 nd3 nd4 nd5 nd6 nd7 B8_1 B8 L9 α = _
        unfold rlaw13ri2T3999
        rw [if_neg (by rw [hL]; decide)]
      have e2 : rlaw13ri2R loc key vm B1 nd3 nd4 nd5 nd6 nd7 B8_1 B8 L9 α 5999 = ((nd5, .map #[] 0) : Rw) := by
        show rlaw13ri2T5999 loc key vm B1 nd3 nd4 nd5 nd6 nd7 B8_1 B8 L9 α = _
        unfold rlaw13ri2T5999
        rw [if_neg (by rw [hL]; decide)]
      have e3 : rlaw13ri2R loc key vm B1 nd3 nd4 nd5 nd6 nd7 B8_1 B8 L9 α 6999 = row (nd6) 203 #[.pointer none, .pointer none, .slice none 0 0, .map none, .slice none 0 0, .slice none 0 0, .int .i32 0, .int .i32 0, .int .u32 0, .int .u32 0, .bool false, .bool false, .bool false, .bool false, .int .u8 0, .int .u8 6] := by
        show rlaw13ri2T6999 loc key vm B1 nd3 nd4 nd5 nd6 nd7 B8_1 B8 L9 α = _
        unfold rlaw13ri2T6999
        rw [if_neg (by rw [hL]; decide)]
      have e4 : rlaw13ri2R loc key vm B1 nd3 nd4 nd5 nd6 nd7 B8_1 B8 L9 α 7999 = row (nd7) 25 #[.int .u32 0, .int .u32 0] := rfl
      have hM : ∀ i, i ∈ [4999, 3999, 5999, 6999, 7999] → act rlaw13ri2Cnt 8 L9 i := by
        intro i hi
        simp only [List.mem_cons, List.not_mem_nil, or_false] at hi
        rcases hi with rfl | rfl | rfl | rfl | rfl
        · exact act_base 4999 rfl
        · exact act_base 3999 rfl
        · exact act_base 5999 rfl
        · exact act_base 6999 rfl
        · exact act_base 7999 rfl
      have hP : Own w0 u9 [row (nd4) 193 (newStftP (nd3) (nd5) (nd6) (nd7)), row (nd3) 56 (full symZ (symL ([sy ⟨#[70, 111, 111]⟩ 0])) 0), ((nd5, .map #[] 0) : Rw), row (nd6) 203 #[.pointer none, .pointer none, .slice none 0 0, .map none, .slice none 0 0, .slice none 0 0, .int .i32 0, .int .i32 0, .int .u32 0, .int .u32 0, .bool false, .bool false, .bool false, .bool false, .int .u8 0, .int .u8 6], row (nd7) 25 #[.int .u32 0, .int .u32 0]] _ := (hG.pick [4999, 3999, 5999, 6999, 7999] (by decide) hM).conv (by
        show [rlaw13ri2R loc key vm B1 nd3 nd4 nd5 nd6 nd7 B8_1 B8 L9 α 4999, rlaw13ri2R loc key vm B1 nd3 nd4 nd5 nd6 nd7 B8_1 B8 L9 α 3999, rlaw13ri2R loc key vm B1 nd3 nd4 nd5 nd6 nd7 B8_1 B8 L9 α 5999, rlaw13ri2R loc key vm B1 nd3 nd4 nd5 nd6 nd7 B8_1 B8 L9 α 6999, rlaw13ri2R loc key vm B1 nd3 nd4 nd5 nd6 nd7 B8_1 B8 L9 α 7999] = _
        rw [e0, e1, e2, e3, e4])
      clear e0 e1 e2 e3 e4 hM
      refine Calls.mono (dsupSetriF0i0 nd4 (newStftP nd3 nd5 nd6 nd7) nd3 0 nd5 nd6 #[.pointer none, .pointer none, .slice none 0 0, .map none, .slice none 0 0, .slice none 0 0, .int .i32 0, .int .i32 0, .int .u32 0, .int .u32 0, .bool false, .bool false, .bool false, .bool false, .int .u8 0, .int .u8 6] nd7 loc 206 (α 5) loc 209 (α 8) loc _ _ _ hP (newStft_350 (nd3) (nd5) (nd6) (nd7)) (newStft_32 (nd3) (nd5) (nd6) (nd7)) (newStft_105 (nd3) (nd5) (nd6) (nd7)) (newStft_66 (nd3) (nd5) (nd6) (nd7)) (newStft_117 (nd3) (nd5) (nd6) (nd7)) (newStft_187 (nd3) (nd5) (nd6) (nd7)) (newStft_97 (nd3) (nd5) (nd6) (nd7)) (newStft_95 (nd3) (nd5) (nd6) (nd7)) (newStft_96 (nd3) (nd5) (nd6) (nd7)) (newStft_106 (nd3) (nd5) (nd6) (nd7)) rfl hg0 hg1) ?_
      rintro e9 u1 ⟨b0, b1, b2, b3, b4, b5, b7, b8, b6, b9, rfl, hQ⟩
      obtain ⟨α', hα'⟩ : ∃ α' : Rega.Atoms, α' = (fun j => if j = 9 then b0 else if j = 1009 then b1 else if j = 2009 then b2 else if j = 3009 then b3 else if j = 4009 then b4 else if j = 5009 then b5 else if j = 6009 then b6 else if j = 7009 then b7 else if j = 8009 then b8 else if j = 9009 then b9 else α j) := ⟨_, rfl⟩
      have f0 : rlaw13ri2R loc key vm B1 nd3 nd4 nd5 nd6 nd7 B8_1 B8 (Rega.ran L9 9) α' 4999 = row (nd4) 193 ((newStftP nd3 nd5 nd6 nd7).setIfInBounds 106 (.slice (some ⟨α' 7009, 0, none⟩) 2 (2 + (α' 8009)))) := by
        show rlaw13ri2T4999 loc key vm B1 nd3 nd4 nd5 nd6 nd7 B8_1 B8 (Rega.ran L9 9) α' = _
        unfold rlaw13ri2T4999
        rw [if_pos (show Rega.ran L9 9 9 = true from rfl)]
      have f1 : rlaw13ri2R loc key vm B1 nd3 nd4 nd5 nd6 nd7 B8_1 B8 (Rega.ran L9 9) α' 3999 = row (α' 7009) 56 (full symZ (symL ([sy ⟨#[70, 111, 111]⟩ 2, sy ⟨#[95, 95, 115, 117, 112, 101, 114, 83, 101, 116]⟩ 1])) (α' 8009)) := by
        show rlaw13ri2T3999 loc key vm B1 nd3 nd4 nd5 nd6 nd7 B8_1 B8 (Rega.ran L9 9) α' = _
        unfold rlaw13ri2T3999
        rw [if_pos (show Rega.ran L9 9 9 = true from rfl)]
      have f2 : rlaw13ri2R loc key vm B1 nd3 nd4 nd5 nd6 nd7 B8_1 B8 (Rega.ran L9 9) α' 5999 = ((nd5, .map #[⟨.string ⟨#[95, 95, 115, 117, 112, 101, 114, 83, 101, 116]⟩, .agg #[.int .i32 loc, .int .u32 0, .int .u32 1], 0⟩] 1) : Rw) := by
        show rlaw13ri2T5999 loc key vm B1 nd3 nd4 nd5 nd6 nd7 B8_1 B8 (Rega.ran L9 9) α' = _
        unfold rlaw13ri2T5999
        rw [if_pos (show Rega.ran L9 9 9 = true from rfl)]
      have f3 : rlaw13ri2R loc key vm B1 nd3 nd4 nd5 nd6 nd7 B8_1 B8 (Rega.ran L9 9) α' 6999 = row (nd6) 203 (#[.pointer none, .pointer none, .slice none 0 0, .map none, .slice none 0 0, .slice none 0 0, .int .i32 0, .int .i32 0, .int .u32 0, .int .u32 0, .bool false, .bool false, .bool false, .bool false, .int .u8 0, .int .u8 6].setIfInBounds 5 (.slice (some ⟨α' 6009, 0, none⟩) 1 (1 + (α' 9009)))) := by
        show rlaw13ri2T6999 loc key vm B1 nd3 nd4 nd5 nd6 nd7 B8_1 B8 (Rega.ran L9 9) α' = _
        unfold rlaw13ri2T6999
        rw [if_pos (show Rega.ran L9 9 9 = true from rfl)]
      have f4 : rlaw13ri2R loc key vm B1 nd3 nd4 nd5 nd6 nd7 B8_1 B8 (Rega.ran L9 9) α' 6009 = row (α' 6009) 25 (full refZ ([.int .u32 0, .int .u32 1]) (α' 9009)) := rfl
      have f5 : rlaw13ri2R loc key vm B1 nd3 nd4 nd5 nd6 nd7 B8_1 B8 (Rega.ran L9 9) α' 7999 = row (nd7) 25 #[.int .u32 0, .int .u32 0] := rfl
      have f6 : rlaw13ri2R loc key vm B1 nd3 nd4 nd5 nd6 nd7 B8_1 B8 (Rega.ran L9 9) α' 1009 = row (α' 1009) 211 #[.int .u32 0, .int .u32 1, .bool false, .bool false, .bool false] := rfl
      have f7 : rlaw13ri2R loc key vm B1 nd3 nd4 nd5 nd6 nd7 B8_1 B8 (Rega.ran L9 9) α' 9 = row (α' 9) 71 #[.iface 209 (.pointer (some ⟨α' 1009, 0, none⟩)), .int .i32 loc, .slice (some ⟨α' 2009, 0, none⟩) 4 4, .int .i32 0, .int .u8 0, .int .u8 0, .bool false, .bool false] := rfl
      have f8 : rlaw13ri2R loc key vm B1 nd3 nd4 nd5 nd6 nd7 B8_1 B8 (Rega.ran L9 9) α' 2009 = row (α' 2009) 35 #[.iface 225 (.pointer (some ⟨α' 5009, 0, none⟩)), .int .i32 loc, .iface 209 (.pointer (some ⟨α' 4009, 0, none⟩)), .int .i32 loc, .iface 206 (.pointer (some ⟨α' 5, 0, none⟩)), .int .i32 loc, .iface 209 (.pointer (some ⟨α' 8, 0, none⟩)), .int .i32 loc] := rfl
      have f9 : rlaw13ri2R loc key vm B1 nd3 nd4 nd5 nd6 nd7 B8_1 B8 (Rega.ran L9 9) α' 3009 = row (α' 3009) 211 #[.int .u32 0, .int .u32 0, .bool false, .bool false, .bool false] := rfl
      have f10 : rlaw13ri2R loc key vm B1 nd3 nd4 nd5 nd6 nd7 B8_1 B8 (Rega.ran L9 9) α' 4009 = row (α' 4009) 211 #[.int .u32 0, .int .u32 0, .bool false, .bool false, .bool false] := rfl
      have f11 : rlaw13ri2R loc key vm B1 nd3 nd4 nd5 nd6 nd7 B8_1 B8 (Rega.ran L9 9) α' 5009 = row (α' 5009) 228 #[.iface 209 (.pointer (some ⟨α' 3009, 0, none⟩)), .int .i32 loc, .string ⟨#[112, 114, 111, 116, 111, 116, 121, 112, 101]⟩, .int .i32 loc, .int .u8 0, .bool false, .bool false, .bool false] := rfl
      have hα : ∀ j, j % 1000 ≠ 9 → α' j = α j := fun j hj => by rw [hα']; simp only []; rw [if_neg (by omega), if_neg (by omega), if_neg (by omega), if_neg (by omega), if_neg (by omega), if_neg (by omega), if_neg (by omega), if_neg (by omega), if_neg (by omega), if_neg (by omega)]
      have hb0 : α' 9 = b0 := by rw [hα']; rfl
      have hb1 : α' 1009 = b1 := by rw [hα']; rfl
      have hb2 : α' 2009 = b2 := by rw [hα']; rfl
      have hb3 : α' 3009 = b3 := by rw [hα']; rfl
      have hb4 : α' 4009 = b4 := by rw [hα']; rfl
      have hb5 : α' 5009 = b5 := by rw [hα']; rfl
      have hb6 : α' 6009 = b6 := by rw [hα']; rfl
      have hb7 : α' 7009 = b7 := by rw [hα']; rfl
      have hb8 : α' 8009 = b8 := by rw [hα']; rfl
      have hb9 : α' 9009 = b9 := by rw [hα']; rfl
      have ha5 : α' 5 = α 5 := hα 5 (by decide)
      have ha8 : α' 8 = α 8 := hα 8 (by decide)
      skip
      refine hK _ α' _ hα ?_ (step_call (st9) hL hcl hα [4999, 3999, 5999, 6999, 7999] [4999, 3999, 5999, 6999, 6009, 7999, 1009, 9, 2009, 3009, 4009, 5009] (by decide) (by decide) (by decide) (M := _) ?_ hG hQ)
      · show _ = (.agg #[.iface 65 (.pointer (some ⟨α' 9, 0, none⟩)), .int .i32 loc] : Value)
        simp only [hb0]
      · show [rlaw13ri2R loc key vm B1 nd3 nd4 nd5 nd6 nd7 B8_1 B8 (Rega.ran L9 9) α' 4999, rlaw13ri2R loc key vm B1 nd3 nd4 nd5 nd6 nd7 B8_1 B8 (Rega.ran L9 9) α' 3999, rlaw13ri2R loc key vm B1 nd3 nd4 nd5 nd6 nd7 B8_1 B8 (Rega.ran L9 9) α' 5999, rlaw13ri2R loc key vm B1 nd3 nd4 nd5 nd6 nd7 B8_1 B8 (Rega.ran L9 9) α' 6999, rlaw13ri2R loc key vm B1 nd3 nd4 nd5 nd6 nd7 B8_1 B8 (Rega.ran L9 9) α' 6009, rlaw13ri2R loc key vm B1 nd3 nd4 nd5 nd6 nd7 B8_1 B8 (Rega.ran L9 9) α' 7999, rlaw13ri2R loc key vm B1 nd3 nd4 nd5 nd6 nd7 B8_1 B8 (Rega.ran L9 9) α' 1009, rlaw13ri2R loc key vm B1 nd3 nd4 nd5 nd6 nd7 B8_1 B8 (Rega.ran L9 9) α' 9, rlaw13ri2R loc key vm B1 nd3 nd4 nd5 nd6 nd7 B8_1 B8 (Rega.ran L9 9) α' 2009, rlaw13ri2R loc key vm B1 nd3 nd4 nd5 nd6 nd7 B8_1 B8 (Rega.ran L9 9) α' 3009, rlaw13ri2R loc key vm B1 nd3 nd4 nd5 nd6 nd7 B8_1 B8 (Rega.ran L9 9) α' 4009, rlaw13ri2R loc key vm B1 nd3 nd4 nd5 nd6 nd7 B8_1 B8 (Rega.ran L9 9) α' 5009] = _
        rw [f0, f1, f2, f3, f4, f5, f6, f7, f8, f9, f10, f11]
        simp only [hb0, hb1, hb2, hb3, hb4, hb5, hb6, hb7, hb8, hb9, ha5, ha8]
    · intro L9 α a9 u9 K9 hL hcl hA hG hS h0 hK
      replace hL : L9 10 = false := hL
      go_simp
      have e1 : rlaw13ri2R loc key vm B1 nd3 nd4 nd5 nd6 nd7 B8_1 B8 (Rega.ran L9 10) (fun j => if j = 10 then u9.heap.size else α j) 10 = row (u9.heap.size) 35 #[.nilIface, .int .i32 0] := by
        show rlaw13ri2T10 loc key vm B1 nd3 nd4 nd5 nd6 nd7 B8_1 B8 (Rega.ran L9 10) (fun j => if j = 10 then u9.heap.size else α j) = _
        unfold rlaw13ri2T10
        exact ((if_neg (fun e => (fun e => by have := hcl 11 e 10 (by decide); rw [hL] at this; cases this) ((ran_ne (by decide)).symm.trans e))).trans rfl)
      exact hK _ (fun j => if j = 10 then u9.heap.size else α j) _ (fun j hj => if_neg (fun e => hj (by rw [e]))) rfl (step_alloc (st9) hL hcl rfl rfl (by decide) _ e1 hG)
    · intro L9 α a9 u9 K9 hL hcl hA hG hS h0 hK
      replace hL : L9 11 = false := hL
      have q15 : a9.tmps[15]? = some (.pointer (some ⟨α 10, 0, none⟩)) := hS 10 15 (by decide) rfl (by show 15 < 118; decide)
      have s15 := Rega.eval_of q15
      have q53 : a9.tmps[53]? = some (.agg #[.iface 65 (.pointer (some ⟨α 9, 0, none⟩)), .int .i32 loc]) := hS 9 53 (by decide) rfl (by show 53 < 118; decide)
      have s53 := Rega.eval_of q53
      have e0 : rlaw13ri2R loc key vm B1 nd3 nd4 nd5 nd6 nd7 B8_1 B8 L9 α 10 = row (α 10) 35 #[.nilIface, .int .i32 0] := by
        show rlaw13ri2T10 loc key vm B1 nd3 nd4 nd5 nd6 nd7 B8_1 B8 L9 α = _
        unfold rlaw13ri2T10
        rw [if_neg (by rw [hL]; decide)]
      have hr := hG.rowAt 10 (act_new 10 rfl (hA 10 (by decide))) e0
      have c0 : u9.cell? ⟨α 10, 0, none⟩ = some (.nilIface) := hr.cell rfl
      have y0 : u9.frozen? ⟨α 10, 0, none⟩ = false := hr.free 0
      have c1 : u9.cell? ⟨α 10, 1, none⟩ = some (.int .i32 0) := hr.cell rfl
      have y1 : u9.frozen? ⟨α 10, 1, none⟩ = false := hr.free 1
      clear hr
      have E0 := Lib.hid e0
      clear e0
      go_simp
      have e1 : rlaw13ri2R loc key vm B1 nd3 nd4 nd5 nd6 nd7 B8_1 B8 (Rega.ran L9 11) α 10 = row (α 10) 35 #[.iface 65 (.pointer (some ⟨α 9, 0, none⟩)), .int .i32 loc] := by
        show rlaw13ri2T10 loc key vm B1 nd3 nd4 nd5 nd6 nd7 B8_1 B8 (Rega.ran L9 11) α = _
        unfold rlaw13ri2T10
        rw [if_pos (show Rega.ran L9 11 11 = true from rfl)]
      exact hK _ α _ (fun _ _ => rfl) rfl (step_sets (st9) hL hcl rfl 10 rfl (act_new 10 rfl (hA 10 (by decide))) E0.out 0 [.iface 65 (.pointer (some ⟨α 9, 0, none⟩)), .int .i32 loc] (e1.trans rfl) hG)
  clear st9
  intro α u hG
  have e0 : rlaw13ri2R loc key vm B1 nd3 nd4 nd5 nd6 nd7 B8_1 B8 (fun k => decide (k < 12)) α 999 = row (B8_1) 25 #[.int .u32 3, .int .u32 vm] := rfl
  have e1 : rlaw13ri2R loc key vm B1 nd3 nd4 nd5 nd6 nd7 B8_1 B8 (fun k => decide (k < 12)) α 1999 = row (B8) 31 #[.int .i32 loc] := rfl
  have e2 : rlaw13ri2R loc key vm B1 nd3 nd4 nd5 nd6 nd7 B8_1 B8 (fun k => decide (k < 12)) α 2999 = row (B1) 25 #[.int .u32 0, .int .u32 0] := rfl
  have e3 : rlaw13ri2R loc key vm B1 nd3 nd4 nd5 nd6 nd7 B8_1 B8 (fun k => decide (k < 12)) α 3999 = row (α 7009) 56 (full symZ (symL ([sy ⟨#[70, 111, 111]⟩ 2, sy ⟨#[95, 95, 115, 117, 112, 101, 114, 83, 101, 116]⟩ 1])) (α 8009)) := by
    show rlaw13ri2T3999 loc key vm B1 nd3 nd4 nd5 nd6 nd7 B8_1 B8 (fun k => decide (k < 12)) α = _
    unfold rlaw13ri2T3999
    rw [if_pos (by decide)]
  have e4 : rlaw13ri2R loc key vm B1 nd3 nd4 nd5 nd6 nd7 B8_1 B8 (fun k => decide (k < 12)) α 4999 = row (nd4) 193 ((newStftP nd3 nd5 nd6 nd7).setIfInBounds 106 (.slice (some ⟨α 7009, 0, none⟩) 2 (2 + (α 8009)))) := by
    show rlaw13ri2T4999 loc key vm B1 nd3 nd4 nd5 nd6 nd7 B8_1 B8 (fun k => decide (k < 12)) α = _
    unfold rlaw13ri2T4999
    rw [if_pos (by decide)]
  have e5 : rlaw13ri2R loc key vm B1 nd3 nd4 nd5 nd6 nd7 B8_1 B8 (fun k => decide (k < 12)) α 5999 = ((nd5, .map #[⟨.string ⟨#[95, 95, 115, 117, 112, 101, 114, 83, 101, 116]⟩, .agg #[.int .i32 loc, .int .u32 0, .int .u32 1], 0⟩] 1) : Rw) := by
    show rlaw13ri2T5999 loc key vm B1 nd3 nd4 nd5 nd6 nd7 B8_1 B8 (fun k => decide (k < 12)) α = _
    unfold rlaw13ri2T5999
    rw [if_pos (by decide)]
  have e6 : rlaw13ri2R loc key vm B1 nd3 nd4 nd5 nd6 nd7 B8_1 B8 (fun k => decide (k < 12)) α 6999 = row (nd6) 203 (#[.pointer none, .pointer none, .slice none 0 0, .map none, .slice none 0 0, .slice none 0 0, .int .i32 0, .int .i32 0, .int .u32 0, .int .u32 0, .bool false, .bool false, .bool false, .bool false, .int .u8 0, .int .u8 6].setIfInBounds 5 (.slice (some ⟨α 6009, 0, none⟩) 1 (1 + (α 9009)))) := by
    show rlaw13ri2T6999 loc key vm B1 nd3 nd4 nd5 nd6 nd7 B8_1 B8 (fun k => decide (k < 12)) α = _
    unfold rlaw13ri2T6999
    rw [if_pos (by decide)]
  have e7 : rlaw13ri2R loc key vm B1 nd3 nd4 nd5 nd6 nd7 B8_1 B8 (fun k => decide (k < 12)) α 7999 = row (nd7) 25 #[.int .u32 0, .int .u32 0] := rfl
  have e8 : rlaw13ri2R loc key vm B1 nd3 nd4 nd5 nd6 nd7 B8_1 B8 (fun k => decide (k < 12)) α 4 = row (α 4) 51 (units key) := rfl
  have e9 : rlaw13ri2R loc key vm B1 nd3 nd4 nd5 nd6 nd7 B8_1 B8 (fun k => decide (k < 12)) α 5 = row (α 5) 208 #[.slice (some ⟨α 4, 0, none⟩) key.size key.size, .int .i32 0, .bool false, .bool false, .bool false] := rfl
  have e10 : rlaw13ri2R loc key vm B1 nd3 nd4 nd5 nd6 nd7 B8_1 B8 (fun k => decide (k < 12)) α 8 = row (α 8) 211 #[.int .u32 3, .int .u32 vm, .bool false, .bool false, .bool false] := rfl
  have e11 : rlaw13ri2R loc key vm B1 nd3 nd4 nd5 nd6 nd7 B8_1 B8 (fun k => decide (k < 12)) α 9 = row (α 9) 71 #[.iface 209 (.pointer (some ⟨α 1009, 0, none⟩)), .int .i32 loc, .slice (some ⟨α 2009, 0, none⟩) 4 4, .int .i32 0, .int .u8 0, .int .u8 0, .bool false, .bool false] := rfl
  have e12 : rlaw13ri2R loc key vm B1 nd3 nd4 nd5 nd6 nd7 B8_1 B8 (fun k => decide (k < 12)) α 1009 = row (α 1009) 211 #[.int .u32 0, .int .u32 1, .bool false, .bool false, .bool false] := rfl
  have e13 : rlaw13ri2R loc key vm B1 nd3 nd4 nd5 nd6 nd7 B8_1 B8 (fun k => decide (k < 12)) α 2009 = row (α 2009) 35 #[.iface 225 (.pointer (some ⟨α 5009, 0, none⟩)), .int .i32 loc, .iface 209 (.pointer (some ⟨α 4009, 0, none⟩)), .int .i32 loc, .iface 206 (.pointer (some ⟨α 5, 0, none⟩)), .int .i32 loc, .iface 209 (.pointer (some ⟨α 8, 0, none⟩)), .int .i32 loc] := rfl
  have e14 : rlaw13ri2R loc key vm B1 nd3 nd4 nd5 nd6 nd7 B8_1 B8 (fun k => decide (k < 12)) α 3009 = row (α 3009) 211 #[.int .u32 0, .int .u32 0, .bool false, .bool false, .bool false] := rfl
  have e15 : rlaw13ri2R loc key vm B1 nd3 nd4 nd5 nd6 nd7 B8_1 B8 (fun k => decide (k < 12)) α 4009 = row (α 4009) 211 #[.int .u32 0, .int .u32 0, .bool false, .bool false, .bool false] := rfl
  have e16 : rlaw13ri2R loc key vm B1 nd3 nd4 nd5 nd6 nd7 B8_1 B8 (fun k => decide (k < 12)) α 5009 = row (α 5009) 228 #[.iface 209 (.pointer (some ⟨α 3009, 0, none⟩)), .int .i32 loc, .string ⟨#[112, 114, 111, 116, 111, 116, 121, 112, 101]⟩, .int .i32 loc, .int .u8 0, .bool false, .bool false, .bool false] := rfl
  have e17 : rlaw13ri2R loc key vm B1 nd3 nd4 nd5 nd6 nd7 B8_1 B8 (fun k => decide (k < 12)) α 6009 = row (α 6009) 25 (full refZ ([.int .u32 0, .int .u32 1]) (α 9009)) := rfl
  have e18 : rlaw13ri2R loc key vm B1 nd3 nd4 nd5 nd6 nd7 B8_1 B8 (fun k => decide (k < 12)) α 10 = row (α 10) 35 #[.iface 65 (.pointer (some ⟨α 9, 0, none⟩)), .int .i32 loc] := by
    show rlaw13ri2T10 loc key vm B1 nd3 nd4 nd5 nd6 nd7 B8_1 B8 (fun k => decide (k < 12)) α = _
    unfold rlaw13ri2T10
    rw [if_pos (by decide)]
  have hO : Own w0 u [row (B8_1) 25 #[.int .u32 3, .int .u32 vm], row (B8) 31 #[.int .i32 loc], row (B1) 25 #[.int .u32 0, .int .u32 0], row (α 7009) 56 (full symZ (symL ([sy ⟨#[70, 111, 111]⟩ 2, sy ⟨#[95, 95, 115, 117, 112, 101, 114, 83, 101, 116]⟩ 1])) (α 8009)), row (nd4) 193 ((newStftP nd3 nd5 nd6 nd7).setIfInBounds 106 (.slice (some ⟨α 7009, 0, none⟩) 2 (2 + (α 8009)))), ((nd5, .map #[⟨.string ⟨#[95, 95, 115, 117, 112, 101, 114, 83, 101, 116]⟩, .agg #[.int .i32 loc, .int .u32 0, .int .u32 1], 0⟩] 1) : Rw), row (nd6) 203 (#[.pointer none, .pointer none, .slice none 0 0, .map none, .slice none 0 0, .slice none 0 0, .int .i32 0, .int .i32 0, .int .u32 0, .int .u32 0, .bool false, .bool false, .bool false, .bool false, .int .u8 0, .int .u8 6].setIfInBounds 5 (.slice (some ⟨α 6009, 0, none⟩) 1 (1 + (α 9009)))), row (nd7) 25 #[.int .u32 0, .int .u32 0], row (α 4) 51 (units key), row (α 5) 208 #[.slice (some ⟨α 4, 0, none⟩) key.size key.size, .int .i32 0, .bool false, .bool false, .bool false], row (α 8) 211 #[.int .u32 3, .int .u32 vm, .bool false, .bool false, .bool false], row (α 9) 71 #[.iface 209 (.pointer (some ⟨α 1009, 0, none⟩)), .int .i32 loc, .slice (some ⟨α 2009, 0, none⟩) 4 4, .int .i32 0, .int .u8 0, .int .u8 0, .bool false, .bool false], row (α 1009) 211 #[.int .u32 0, .int .u32 1, .bool false, .bool false, .bool false], row (α 2009) 35 #[.iface 225 (.pointer (some ⟨α 5009, 0, none⟩)), .int .i32 loc, .iface 209 (.pointer (some ⟨α 4009, 0, none⟩)), .int .i32 loc, .iface 206 (.pointer (some ⟨α 5, 0, none⟩)), .int .i32 loc, .iface 209 (.pointer (some ⟨α 8, 0, none⟩)), .int .i32 loc], row (α 3009) 211 #[.int .u32 0, .int .u32 0, .bool false, .bool false, .bool false], row (α 4009) 211 #[.int .u32 0, .int .u32 0, .bool false, .bool false, .bool false], row (α 5009) 228 #[.iface 209 (.pointer (some ⟨α 3009, 0, none⟩)), .int .i32 loc, .string ⟨#[112, 114, 111, 116, 111, 116, 121, 112, 101]⟩, .int .i32 loc, .int .u8 0, .bool false, .bool false, .bool false], row (α 6009) 25 (full refZ ([.int .u32 0, .int .u32 1]) (α 9009)), row (α 10) 35 #[.iface 65 (.pointer (some ⟨α 9, 0, none⟩)), .int .i32 loc]] X := (hG.list [999, 1999, 2999, 3999, 4999, 5999, 6999, 7999, 4, 5, 8, 9, 1009, 2009, 3009, 4009, 5009, 6009, 10] (by decide) (act_all (by decide))).conv (by
    show [rlaw13ri2R loc key vm B1 nd3 nd4 nd5 nd6 nd7 B8_1 B8 (fun k => decide (k < 12)) α 999, rlaw13ri2R loc key vm B1 nd3 nd4 nd5 nd6 nd7 B8_1 B8 (fun k => decide (k < 12)) α 1999, rlaw13ri2R loc key vm B1 nd3 nd4 nd5 nd6 nd7 B8_1 B8 (fun k => decide (k < 12)) α 2999, rlaw13ri2R loc key vm B1 nd3 nd4 nd5 nd6 nd7 B8_1 B8 (fun k => decide (k < 12)) α 3999, rlaw13ri2R loc key vm B1 nd3 nd4 nd5 nd6 nd7 B8_1 B8 (fun k => decide (k < 12)) α 4999, rlaw13ri2R loc key vm B1 nd3 nd4 nd5 nd6 nd7 B8_1 B8 (fun k => decide (k < 12)) α 5999, rlaw13ri2R loc key vm B1 nd3 nd4 nd5 nd6 nd7 B8_1 B8 (fun k => decide (k < 12)) α 6999, rlaw13ri2R loc key vm B1 nd3 nd4 nd5 nd6 nd7 B8_1 B8 (fun k => decide (k < 12)) α 7999, rlaw13ri2R loc key vm B1 nd3 nd4 nd5 nd6 nd7 B8_1 B8 (fun k => decide (k < 12)) α 4, rlaw13ri2R loc key vm B1 nd3 nd4 nd5 nd6 nd7 B8_1 B8 (fun k => decide (k < 12)) α 5, rlaw13ri2R loc key vm B1 nd3 nd4 nd5 nd6 nd7 B8_1 B8 (fun k => decide (k < 12)) α 8, rlaw13ri2R loc key vm B1 nd3 nd4 nd5 nd6 nd7 B8_1 B8 (fun k => decide (k < 12)) α 9, rlaw13ri2R loc key vm B1 nd3 nd4 nd5 nd6 nd7 B8_1 B8 (fun k => decide (k < 12)) α 1009, rlaw13ri2R loc key vm B1 nd3 nd4 nd5 nd6 nd7 B8_1 B8 (fun k => decide (k < 12)) α 2009, rlaw13ri2R loc key vm B1 nd3 nd4 nd5 nd6 nd7 B8_1 B8 (fun k => decide (k < 12)) α 3009, rlaw13ri2R loc key vm B1 nd3 nd4 nd5 nd6 nd7 B8_1 B8 (fun k => decide (k < 12)) α 4009, rlaw13ri2R loc key vm B1 nd3 nd4 nd5 nd6 nd7 B8_1 B8 (fun k => decide (k < 12)) α 5009, rlaw13ri2R loc key vm B1 nd3 nd4 nd5 nd6 nd7 B8_1 B8 (fun k => decide (k < 12)) α 6009, rlaw13ri2R loc key vm B1 nd3 nd4 nd5 nd6 nd7 B8_1 B8 (fun k => decide (k < 12)) α 10] = _
    rw [e0, e1, e2, e3, e4, e5, e6, e7, e8, e9, e10, e11, e12, e13, e14, e15, e16, e17, e18])
  clear hG e0 e1 e2 e3 e4 e5 e6 e7 e8 e9 e10 e11 e12 e13 e14 e15 e16 e17 e18
  generalize hfr : Rega.frameAt _ _ _ _ _ = fr
  have hdf : fr = ⟨#[.int .i32 loc, .string key, .bool false, .bool true, .int .u32 vm, undef, undef, undef, undef, undef, .bool false, .pointer (some ⟨B1, 0, none⟩), .pointer (some ⟨nd4, 0, none⟩), .pointer (some ⟨B8, 0, none⟩), .pointer (some ⟨B8_1, 0, none⟩), .pointer (some ⟨α 10, 0, none⟩), undef, undef, undef, undef, undef, undef, undef, undef, .int .i32 loc, .string key, .bool false, .bool true, .int .u32 vm, .bool true, .bool false, .string key, .int .i64 (key.size : Int), .bool (decide (65536 < (key.size : Int))), .agg #[.int .u32 0, .int .u32 0], .slice (some ⟨nd3, 0, none⟩) 1 1, .agg #[.int .u32 0, .int .u32 0], .bool false, .bool true, .pointer (some ⟨nd4, 0, none⟩), .int .i32 loc, .agg #[.int .i32 loc], .int .u32 vm, .agg #[.int .u32 3, .int .u32 vm], .pointer (some ⟨nd4, 0, none⟩), .agg #[.int .i32 loc], .int .i32 loc, .string key, .slice (some ⟨α 4, 0, none⟩) key.size key.size, .agg #[.iface 206 (.pointer (some ⟨α 5, 0, none⟩)), .int .i32 loc], .int .i32 loc, .agg #[.int .u32 3, .int .u32 vm], .agg #[.iface 209 (.pointer (some ⟨α 8, 0, none⟩)), .int .i32 loc], .agg #[.iface 65 (.pointer (some ⟨α 9, 0, none⟩)), .int .i32 loc], undef, undef, undef, undef, undef, undef, undef, undef, undef, undef, undef, undef, undef, undef, undef, undef, undef, undef, undef, undef, undef, undef, undef, undef, undef, undef, undef, undef, undef, undef, undef, undef, undef, undef, undef, undef, undef, undef, undef, undef, undef, undef, undef, undef, undef, undef, undef, undef, undef, undef, undef, undef, undef, undef, undef, undef, undef, undef, undef, undef, undef, undef, undef, undef], []⟩ := by rw [← hfr]; kernel_rfl
  clear hfr
  subst hdf
  generalize α 4 = nd10 at hO ⊢
  generalize α 5 = nd11 at hO ⊢
  generalize α 8 = nd12 at hO ⊢
  generalize α 9 = nd13 at hO ⊢
  generalize α 10 = nd14 at hO ⊢
  generalize α 1009 = nd15 at hO ⊢
  generalize α 2009 = nd16 at hO ⊢
  generalize α 3009 = nd17 at hO ⊢
  generalize α 4009 = nd18 at hO ⊢
  generalize α 5009 = nd19 at hO ⊢
  generalize α 6009 = nd20 at hO ⊢
  generalize α 7009 = nd21 at hO ⊢
  generalize α 8009 = nd22 at hO ⊢
  generalize α 9009 = nd23 at hO ⊢
  clear α
  have hN : Own w0 u [row (B8_1) 25 #[.int .u32 3, .int .u32 vm], row (B8) 31 #[.int .i32 loc], row (B1) 25 #[.int .u32 0, .int .u32 0], row (nd21) 56 (full symZ (symL ([sy ⟨#[70, 111, 111]⟩ 2, sy ⟨#[95, 95, 115, 117, 112, 101, 114, 83, 101, 116]⟩ 1])) (nd22)), row (nd4) 193 ((newStftP nd3 nd5 nd6 nd7).setIfInBounds 106 (.slice (some ⟨nd21, 0, none⟩) 2 (2 + (nd22)))), ((nd5, .map #[⟨.string ⟨#[95, 95, 115, 117, 112, 101, 114, 83, 101, 116]⟩, .agg #[.int .i32 loc, .int .u32 0, .int .u32 1], 0⟩] 1) : Rw), row (nd6) 203 #[.pointer none, .pointer none, .slice none 0 0, .map none, .slice none 0 0, .slice (some ⟨nd20, 0, none⟩) 1 (1 + (nd23)), .int .i32 0, .int .i32 0, .int .u32 0, .int .u32 0, .bool false, .bool false, .bool false, .bool false, .int .u8 0, .int .u8 6], row (nd7) 25 #[.int .u32 0, .int .u32 0], row (nd10) 51 (units key), row (nd11) 208 #[.slice (some ⟨nd10, 0, none⟩) key.size key.size, .int .i32 0, .bool false, .bool false, .bool false], row (nd12) 211 #[.int .u32 3, .int .u32 vm, .bool false, .bool false, .bool false], row (nd13) 71 #[.iface 209 (.pointer (some ⟨nd15, 0, none⟩)), .int .i32 loc, .slice (some ⟨nd16, 0, none⟩) 4 4, .int .i32 0, .int .u8 0, .int .u8 0, .bool false, .bool false], row (nd15) 211 #[.int .u32 0, .int .u32 1, .bool false, .bool false, .bool false], row (nd16) 35 #[.iface 225 (.pointer (some ⟨nd19, 0, none⟩)), .int .i32 loc, .iface 209 (.pointer (some ⟨nd18, 0, none⟩)), .int .i32 loc, .iface 206 (.pointer (some ⟨nd11, 0, none⟩)), .int .i32 loc, .iface 209 (.pointer (some ⟨nd12, 0, none⟩)), .int .i32 loc], row (nd17) 211 #[.int .u32 0, .int .u32 0, .bool false, .bool false, .bool false], row (nd18) 211 #[.int .u32 0, .int .u32 0, .bool false, .bool false, .bool false], row (nd19) 228 #[.iface 209 (.pointer (some ⟨nd17, 0, none⟩)), .int .i32 loc, .string ⟨#[112, 114, 111, 116, 111, 116, 121, 112, 101]⟩, .int .i32 loc, .int .u8 0, .bool false, .bool false, .bool false], row (nd20) 25 (full refZ [.int .u32 0, .int .u32 1] (nd23)), row (nd14) 35 #[.iface 65 (.pointer (some ⟨nd13, 0, none⟩)), .int .i32 loc]] X := hO
  clear hO
  have hO := hN
  clear hN
  obtain ⟨c9_0_0, c9_0_1, lt9_0, y9_0, -⟩ := hO.k2 0 rfl
  obtain ⟨c9_1_0, lt9_1, y9_1, -⟩ := hO.k1 1 rfl
  obtain ⟨c9_2_0, c9_2_1, lt9_2, y9_2, -⟩ := hO.k2 2 rfl
  obtain ⟨c9_7_0, c9_7_1, lt9_7, y9_7, -⟩ := hO.k2 7 rfl
  obtain ⟨c9_9_0, c9_9_1, c9_9_2, c9_9_3, c9_9_4, lt9_9, y9_9, -⟩ := hO.k5 9 rfl
  obtain ⟨c9_10_0, c9_10_1, c9_10_2, c9_10_3, c9_10_4, lt9_10, y9_10, -⟩ := hO.k5 10 rfl
  obtain ⟨c9_11_0, c9_11_1, c9_11_2, c9_11_3, c9_11_4, c9_11_5, c9_11_6, c9_11_7, lt9_11, y9_11, -⟩ := hO.k8 11 rfl
  obtain ⟨c9_12_0, c9_12_1, c9_12_2, c9_12_3, c9_12_4, lt9_12, y9_12, -⟩ := hO.k5 12 rfl
  obtain ⟨c9_13_0, c9_13_1, c9_13_2, c9_13_3, c9_13_4, c9_13_5, c9_13_6, c9_13_7, lt9_13, y9_13, -⟩ := hO.k8 13 rfl
  obtain ⟨c9_14_0, c9_14_1, c9_14_2, c9_14_3, c9_14_4, lt9_14, y9_14, -⟩ := hO.k5 14 rfl
  obtain ⟨c9_15_0, c9_15_1, c9_15_2, c9_15_3, c9_15_4, lt9_15, y9_15, -⟩ := hO.k5 15 rfl
  obtain ⟨c9_16_0, c9_16_1, c9_16_2, c9_16_3, c9_16_4, c9_16_5, c9_16_6, c9_16_7, lt9_16, y9_16, -⟩ := hO.k8 16 rfl
  obtain ⟨c9_18_0, c9_18_1, lt9_18, y9_18, -⟩ := hO.k2 18 rfl
  have HO := Lib.hid hO
  clear hO
  go_wp2_with (first | (with_reducible refine Own.stay (fn := Tryd.f3) ?_) | (first | (go_at_call 8; go_in)))
  try with_reducible refine Own.Stay.mk ?_
  have hO := HO.out
  clear HO c9_0_0 c9_0_1 lt9_0 y9_0 c9_1_0 lt9_1 y9_1 c9_2_0 c9_2_1 lt9_2 y9_2 c9_7_0 c9_7_1 lt9_7 y9_7 c9_9_0 c9_9_1 c9_9_2 c9_9_3 c9_9_4 lt9_9 y9_9 c9_10_0 c9_10_1 c9_10_2 c9_10_3 c9_10_4 lt9_10 y9_10 c9_11_0 c9_11_1 c9_11_2 c9_11_3 c9_11_4 c9_11_5 c9_11_6 c9_11_7 lt9_11 y9_11 c9_12_0 c9_12_1 c9_12_2 c9_12_3 c9_12_4 lt9_12 y9_12 c9_13_0 c9_13_1 c9_13_2 c9_13_3 c9_13_4 c9_13_5 c9_13_6 c9_13_7 lt9_13 y9_13 c9_14_0 c9_14_1 c9_14_2 c9_14_3 c9_14_4 lt9_14 y9_14 c9_15_0 c9_15_1 c9_15_2 c9_15_3 c9_15_4 lt9_15 y9_15 c9_16_0 c9_16_1 c9_16_2 c9_16_3 c9_16_4 c9_16_5 c9_16_6 c9_16_7 lt9_16 y9_16 c9_18_0 c9_18_1 lt9_18 y9_18
  have hL := hO.apart
  have hX := hO.apartX
  have HL := Lib.hid hL
  have HX := Lib.hid hX
  clear hL hX
  have hP9 := hO.pick [0, 1, 3, 4, 5, 6, 7, 17] (by decide)
  generalize hX9_24 : Own.Rest _ _ X = X9_24 at hP9
  replace hP9 : Own w0 u [row (B8_1) 25 #[.int .u32 3, .int .u32 vm], row (B8) 31 #[.int .i32 loc], row (nd21) 56 (full symZ (symL ([sy ⟨#[70, 111, 111]⟩ 2, sy ⟨#[95, 95, 115, 117, 112, 101, 114, 83, 101, 116]⟩ 1])) (nd22)), row (nd4) 193 ((newStftP nd3 nd5 nd6 nd7).setIfInBounds 106 (.slice (some ⟨nd21, 0, none⟩) 2 (2 + (nd22)))), ((nd5, .map #[⟨.string ⟨#[95, 95, 115, 117, 112, 101, 114, 83, 101, 116]⟩, .agg #[.int .i32 loc, .int .u32 0, .int .u32 1], 0⟩] 1) : Rw), row (nd6) 203 #[.pointer none, .pointer none, .slice none 0 0, .map none, .slice none 0 0, .slice (some ⟨nd20, 0, none⟩) 1 (1 + (nd23)), .int .i32 0, .int .i32 0, .int .u32 0, .int .u32 0, .bool false, .bool false, .bool false, .bool false, .int .u8 0, .int .u8 6], row (nd7) 25 #[.int .u32 0, .int .u32 0], row (nd20) 25 (full refZ [.int .u32 0, .int .u32 1] (nd23))] X9_24 := hP9
  clear hO
  have hO := hP9
  clear hP9
  have st9 := rlaw13ri3_st loc key vm nd3 nd4 nd5 nd6 nd7 B8_1 B8 nd20 nd21 nd22 nd23
  refine wp_region_own (e := rlaw13ri3E loc key vm nd3 nd4 nd5 nd6 nd7 B8_1 B8 nd20 nd21 nd22 nd23) (anc := rlaw13ri3Anc) (G := (fun L9 α u9 => OwnF w0 u9 (act rlaw13ri3Cnt 8 L9) (rlaw13ri3R loc key vm nd3 nd4 nd5 nd6 nd7 B8_1 B8 nd20 nd21 nd22 nd23 L9 α) X9_24)) (by kernel_rfl) (by kernel_rfl) (by kernel_rfl) (by kernel_rfl) (rlaw13ri3_he loc key vm nd3 nd4 nd5 nd6 nd7 B8_1 B8 nd20 nd21 nd22 nd23) ?_ (RunsAll.all ?_) ?_
  · have hp : ∀ i, act rlaw13ri3Cnt 8 (fun _ => false) i → i ∈ [999, 1999, 2999, 3999, 4999, 5999, 6999, 7999] := by
      intro i hi
      have h9 : i % 1000 = 999 := by
        by_cases h : i % 1000 = 999
        · exact h
        · exact absurd (act_lt hi h) (by simp)
      unfold act at hi
      rw [if_pos h9] at hi
      simp only [List.mem_cons, List.not_mem_nil, or_false]
      omega
    refine hO.drew.family (fun i hi => ?_) (fun i j hi hj hij => ?_)
    · have := hp i hi
      simp only [List.mem_cons, List.not_mem_nil, or_false] at this
      rcases this with rfl | rfl | rfl | rfl | rfl | rfl | rfl | rfl <;> rfl
    · have h1 := hp i hi
      have h2 := hp j hj
      simp only [List.mem_cons, List.not_mem_nil, or_false] at h1 h2
      omega
  · refine ⟨?_, ?_, ?_, ?_, ?_, ?_, ?_, ?_, ?_, ?_, ?_, ?_, trivial⟩
    · intro L9 α a9 u9 K9 hL hcl hA hG hS h0 hK
      replace hL : L9 0 = false := hL
      have q12 : a9.tmps[12]? = some (.pointer (some ⟨nd4, 0, none⟩)) := (h0 12 (by kernel_rfl)).trans rfl
      have s12 := Rega.eval_of q12
      go_simp
      exact hK _ α _ (fun _ _ => rfl) rfl (step_same (st9) hL hcl rfl rfl hG)
    · intro L9 α a9 u9 K9 hL hcl hA hG hS h0 hK
      replace hL : L9 1 = false := hL
      have q13 : a9.tmps[13]? = some (.pointer (some ⟨B8, 0, none⟩)) := (h0 13 (by kernel_rfl)).trans rfl
      have s13 := Rega.eval_of q13
      have e0 : rlaw13ri3R loc key vm nd3 nd4 nd5 nd6 nd7 B8_1 B8 nd20 nd21 nd22 nd23 L9 α 1999 = row (B8) 31 #[.int .i32 loc] := rfl
      have hr := hG.rowAt 1999 (act_base 1999 rfl) e0
      have c0 : u9.cell? ⟨B8, 0, none⟩ = some (.int .i32 loc) := hr.cell rfl
      clear hr e0
      go_simp
      exact hK _ α _ (fun _ _ => rfl) rfl (step_same (st9) hL hcl rfl rfl hG)
    · intro L9 α a9 u9 K9 hL hcl hA hG hS h0 hK
      replace hL : L9 2 = false := hL
      have q0 : a9.tmps[0]? = some (.int .i32 loc) := (h0 0 (by kernel_rfl)).trans rfl
      have s0 := Rega.eval_of q0
      go_simp
      exact hK _ α _ (fun _ _ => rfl) rfl (step_same (st9) hL hcl rfl rfl hG)
    · intro L9 α a9 u9 K9 hL hcl hA hG hS h0 hK
      replace hL : L9 3 = false := hL
      have q1 : a9.tmps[1]? = some (.string key) := (h0 1 (by kernel_rfl)).trans rfl
      have s1 := Rega.eval_of q1
      go_simp
      exact hK _ α _ (fun _ _ => rfl) rfl (step_same (st9) hL hcl rfl rfl hG)
    · intro L9 α a9 u9 K9 hL hcl hA hG hS h0 hK
      replace hL : L9 4 = false := hL
      have q57 : a9.tmps[57]? = some (.string key) := hS 3 57 (by decide) rfl (by show 57 < 118; decide)
      have s57 := Rega.eval_of q57
      go_simp
      have hM : ∀ i, i ∈ [] → act rlaw13ri3Cnt 8 L9 i := by intro i hi; simp at hi
      have hP : Own w0 u9 [] _ := hG.pick [] (by decide) (by simp)
      clear hM
      refine Calls.mono (unitsO key _ _ _ hP (by omega)) ?_
      rintro e9 u1 ⟨b0, rfl, hQ⟩
      obtain ⟨α', hα'⟩ : ∃ α' : Rega.Atoms, α' = (fun j => if j = 4 then b0 else α j) := ⟨_, rfl⟩
      have f0 : rlaw13ri3R loc key vm nd3 nd4 nd5 nd6 nd7 B8_1 B8 nd20 nd21 nd22 nd23 (Rega.ran L9 4) α' 4 = row (α' 4) 51 (units key) := rfl
      have hα : ∀ j, j % 1000 ≠ 4 → α' j = α j := fun j hj => by rw [hα']; simp only []; rw [if_neg (by omega)]
      have hb0 : α' 4 = b0 := by rw [hα']; rfl
      skip
      refine hK _ α' _ hα ?_ (step_call (st9) hL hcl hα [] [4] (by decide) (by decide) (by decide) (M := _) ?_ hG hQ)
      · show _ = (.slice (some ⟨α' 4, 0, none⟩) key.size key.size : Value)
        simp only [hb0]
      · show [rlaw13ri3R loc key vm nd3 nd4 nd5 nd6 nd7 B8_1 B8 nd20 nd21 nd22 nd23 (Rega.ran L9 4) α' 4] = _
        rw [f0]
        simp only [hb0]
    · intro L9 α a9 u9 K9 hL hcl hA hG hS h0 hK
      replace hL : L9 5 = false := hL
      have q56 : a9.tmps[56]? = some (.int .i32 loc) := hS 2 56 (by decide) rfl (by show 56 < 118; decide)
      have s56 := Rega.eval_of q56
      have q58 : a9.tmps[58]? = some (.slice (some ⟨α 4, 0, none⟩) key.size key.size) := hS 4 58 (by decide) rfl (by show 58 < 118; decide)
      have s58 := Rega.eval_of q58
      go_simp
      have hM : ∀ i, i ∈ [] → act rlaw13ri3Cnt 8 L9 i := by intro i hi; simp at hi
      have hP : Own w0 u9 [] _ := hG.pick [] (by decide) (by simp)
      clear hM
      refine Calls.mono (strE loc (α 4) key.size key.size _ _ _ hP ) ?_
      rintro e9 u1 ⟨b0, rfl, hQ⟩
      obtain ⟨α', hα'⟩ : ∃ α' : Rega.Atoms, α' = (fun j => if j = 5 then b0 else α j) := ⟨_, rfl⟩
      have f0 : rlaw13ri3R loc key vm nd3 nd4 nd5 nd6 nd7 B8_1 B8 nd20 nd21 nd22 nd23 (Rega.ran L9 5) α' 5 = row (α' 5) 208 #[.slice (some ⟨α' 4, 0, none⟩) key.size key.size, .int .i32 0, .bool false, .bool false, .bool false] := rfl
      have hα : ∀ j, j % 1000 ≠ 5 → α' j = α j := fun j hj => by rw [hα']; simp only []; rw [if_neg (by omega)]
      have hb0 : α' 5 = b0 := by rw [hα']; rfl
      have ha4 : α' 4 = α 4 := hα 4 (by decide)
      skip
      refine hK _ α' _ hα ?_ (step_call (st9) hL hcl hα [] [5] (by decide) (by decide) (by decide) (M := _) ?_ hG hQ)
      · show _ = (.agg #[.iface 206 (.pointer (some ⟨α' 5, 0, none⟩)), .int .i32 loc] : Value)
        simp only [hb0]
      · show [rlaw13ri3R loc key vm nd3 nd4 nd5 nd6 nd7 B8_1 B8 nd20 nd21 nd22 nd23 (Rega.ran L9 5) α' 5] = _
        rw [f0]
        simp only [hb0, ha4]
    · intro L9 α a9 u9 K9 hL hcl hA hG hS h0 hK
      replace hL : L9 6 = false := hL
      have q0 : a9.tmps[0]? = some (.int .i32 loc) := (h0 0 (by kernel_rfl)).trans rfl
      have s0 := Rega.eval_of q0
      go_simp
      exact hK _ α _ (fun _ _ => rfl) rfl (step_same (st9) hL hcl rfl rfl hG)
    · intro L9 α a9 u9 K9 hL hcl hA hG hS h0 hK
      replace hL : L9 7 = false := hL
      have q14 : a9.tmps[14]? = some (.pointer (some ⟨B8_1, 0, none⟩)) := (h0 14 (by kernel_rfl)).trans rfl
      have s14 := Rega.eval_of q14
      have e0 : rlaw13ri3R loc key vm nd3 nd4 nd5 nd6 nd7 B8_1 B8 nd20 nd21 nd22 nd23 L9 α 999 = row (B8_1) 25 #[.int .u32 3, .int .u32 vm] := rfl
      have hr := hG.rowAt 999 (act_base 999 rfl) e0
      have c0 : u9.cell? ⟨B8_1, 0, none⟩ = some (.int .u32 3) := hr.cell rfl
      have c1 : u9.cell? ⟨B8_1, 1, none⟩ = some (.int .u32 vm) := hr.cell rfl
      clear hr e0
      go_simp
      exact hK _ α _ (fun _ _ => rfl) rfl (step_same (st9) hL hcl rfl rfl hG)
    · intro L9 α a9 u9 K9 hL hcl hA hG hS h0 hK
      replace hL : L9 8 = false := hL
      have q60 : a9.tmps[60]? = some (.int .i32 loc) := hS 6 60 (by decide) rfl (by show 60 < 118; decide)
      have s60 := Rega.eval_of q60
      have q61 : a9.tmps[61]? = some (.agg #[.int .u32 3, .int .u32 vm]) := hS 7 61 (by decide) rfl (by show 61 < 118; decide)
      have s61 := Rega.eval_of q61
      go_simp
      have hM : ∀ i, i ∈ [] → act rlaw13ri3Cnt 8 L9 i := by intro i hi; simp at hi
      have hP : Own w0 u9 [] _ := hG.pick [] (by decide) (by simp)
      clear hM
      refine Calls.mono (idE loc 3 vm _ _ _ hP ) ?_
      rintro e9 u1 ⟨b0, rfl, hQ⟩
      obtain ⟨α', hα'⟩ : ∃ α' : Rega.Atoms, α' = (fun j => if j = 8 then b0 else α j) := ⟨_, rfl⟩
      have f0 : rlaw13ri3R loc key vm nd3 nd4 nd5 nd6 nd7 B8_1 B8 nd20 nd21 nd22 nd23 (Rega.ran L9 8) α' 8 = row (α' 8) 211 #[.int .u32 3, .int .u32 vm, .bool false, .bool false, .bool false] := rfl
      have hα : ∀ j, j % 1000 ≠ 8 → α' j = α j := fun j hj => by rw [hα']; simp only []; rw [if_neg (by omega)]
      have hb0 : α' 8 = b0 := by rw [hα']; rfl
      skip
      refine hK _ α' _ hα ?_ (step_call (st9) hL hcl hα [] [8] (by decide) (by decide) (by decide) (M := _) ?_ hG hQ)
      · show _ = (.agg #[.iface 209 (.pointer (some ⟨α' 8, 0, none⟩)), .int .i32 loc] : Value)
        simp only [hb0]
      · show [rlaw13ri3R loc key vm nd3 nd4 nd5 nd6 nd7 B8_1 B8 nd20 nd21 nd22 nd23 (Rega.ran L9 8) α' 8] = _
        rw [f0]
        simp only [hb0]
    · intro L9 α a9 u9 K9 hL hcl hA hG hS h0 hK
      replace hL : L9 9 = false := hL
      have q54 : a9.tmps[54]? = some (.pointer (some ⟨nd4, 0, none⟩)) := hS 0 54 (by decide) rfl (by show 54 < 118; decide)
      have s54 := Rega.eval_of q54
      have q55 : a9.tmps[55]? = some (.agg #[.int .i32 loc]) := hS 1 55 (by decide) rfl (by show 55 < 118; decide)
      have s55 := Rega.eval_of q55
      have q59 : a9.tmps[59]? = some (.agg #[.iface 206 (.pointer (some ⟨α 5, 0, none⟩)), .int .i32 loc]) := hS 5 59 (by decide) rfl (by show 59 < 118; decide)
      have s59 := Rega.eval_of q59
      have q62 : a9.tmps[62]? = some (.agg #[.iface 209 (.pointer (some ⟨α 8, 0, none⟩)), .int .i32 loc]) := hS 8 62 (by decide) rfl (by show 62 < 118; decide)
      have s62 := Rega.eval_of q62
      go_simp
      have e0 : rlaw13ri3R loc key vm nd3 nd4 nd5 nd6 nd7 B8_1 B8 nd20 nd21 nd22 nd23 L9 α 3999 = row (nd4) 193 ((newStftP nd3 nd5 nd6 nd7).setIfInBounds 106 (.slice (some ⟨nd21, 0, none⟩) 2 (2 + (nd22)))) := rfl
      have e1 : rlaw13ri3R loc key vm nd3 nd4 nd5 nd6 nd7 B8_1 B8 nd20 nd21 nd22 nd23 L9 α 2999 = row (nd21) 56 (full symZ (symL ([sy ⟨#[70, 111, 111]⟩ 2, sy ⟨#[95, 95, 115, 117, 112, 101, 114, 83, 101, 116]⟩ 1])) (nd22)) := by
        show rlaw13ri3T2999 loc key vm nd3 nd4 nd5 nd6 nd7 B8_1 B8 nd20 nd21 nd22 nd23 L9 α = _
        unfold rlaw13ri3T2999
        rw [if_neg (by rw [hL]; decide)]
      have e2 : rlaw13ri3R loc key vm nd3 nd4 nd5 nd6 nd7 B8_1 B8 nd20 nd21 nd22 nd23 L9 α 4999 = ((nd5, .map #[⟨.string ⟨#[95, 95, 115, 117, 112, 101, 114, 83, 101, 116]⟩, .agg #[.int .i32 loc, .int .u32 0, .int .u32 1], 0⟩] 1) : Rw) := rfl
      have e3 : rlaw13ri3R loc key vm nd3 nd4 nd5 nd6 nd7 B8_1 B8 nd20 nd21 nd22 nd23 L9 α 5999 = row (nd6) 203 #[.pointer none, .pointer none, .slice none 0 0, .map none, .slice none 0 0, .slice (some ⟨nd20, 0, none⟩) 1 (1 + (nd23)), .int .i32 0, .int .i32 0, .int .u32 0, .int .u32 0, .bool false, .bool false, .bool false, .bool false, .int .u8 0, .int .u8 6] := rfl
      have e4 : rlaw13ri3R loc key vm nd3 nd4 nd5 nd6 nd7 B8_1 B8 nd20 nd21 nd22 nd23 L9 α 7999 = row (nd20) 25 (full refZ [.int .u32 0, .int .u32 1] (nd23)) := rfl
      have e5 : rlaw13ri3R loc key vm nd3 nd4 nd5 nd6 nd7 B8_1 B8 nd20 nd21 nd22 nd23 L9 α 6999 = row (nd7) 25 #[.int .u32 0, .int .u32 0] := rfl
      have hM : ∀ i, i ∈ [3999, 2999, 4999, 5999, 7999, 6999] → act rlaw13ri3Cnt 8 L9 i := by
        intro i hi
        simp only [List.mem_cons, List.not_mem_nil, or_false] at hi
        rcases hi with rfl | rfl | rfl | rfl | rfl | rfl
        · exact act_base 3999 rfl
        · exact act_base 2999 rfl
        · exact act_base 4999 rfl
        · exact act_base 5999 rfl
        · exact act_base 7999 rfl
        · exact act_base 6999 rfl
      have hP : Own w0 u9 [row (nd4) 193 ((newStftP nd3 nd5 nd6 nd7).setIfInBounds 106 (.slice (some ⟨nd21, 0, none⟩) 2 (2 + (nd22)))), row (nd21) 56 (full symZ (symL ([sy ⟨#[70, 111, 111]⟩ 2, sy ⟨#[95, 95, 115, 117, 112, 101, 114, 83, 101, 116]⟩ 1])) (nd22)), ((nd5, .map #[⟨.string ⟨#[95, 95, 115, 117, 112, 101, 114, 83, 101, 116]⟩, .agg #[.int .i32 loc, .int .u32 0, .int .u32 1], 0⟩] 1) : Rw), row (nd6) 203 #[.pointer none, .pointer none, .slice none 0 0, .map none, .slice none 0 0, .slice (some ⟨nd20, 0, none⟩) 1 (1 + (nd23)), .int .i32 0, .int .i32 0, .int .u32 0, .int .u32 0, .bool false, .bool false, .bool false, .bool false, .int .u8 0, .int .u8 6], row (nd20) 25 (full refZ [.int .u32 0, .int .u32 1] (nd23)), row (nd7) 25 #[.int .u32 0, .int .u32 0]] _ := (hG.pick [3999, 2999, 4999, 5999, 7999, 6999] (by decide) hM).conv (by
        show [rlaw13ri3R loc key vm nd3 nd4 nd5 nd6 nd7 B8_1 B8 nd20 nd21 nd22 nd23 L9 α 3999, rlaw13ri3R loc key vm nd3 nd4 nd5 nd6 nd7 B8_1 B8 nd20 nd21 nd22 nd23 L9 α 2999, rlaw13ri3R loc key vm nd3 nd4 nd5 nd6 nd7 B8_1 B8 nd20 nd21 nd22 nd23 L9 α 4999, rlaw13ri3R loc key vm nd3 nd4 nd5 nd6 nd7 B8_1 B8 nd20 nd21 nd22 nd23 L9 α 5999, rlaw13ri3R loc key vm nd3 nd4 nd5 nd6 nd7 B8_1 B8 nd20 nd21 nd22 nd23 L9 α 7999, rlaw13ri3R loc key vm nd3 nd4 nd5 nd6 nd7 B8_1 B8 nd20 nd21 nd22 nd23 L9 α 6999] = _
        rw [e0, e1, e2, e3, e4, e5])
      clear e0 e1 e2 e3 e4 e5 hM
      refine Calls.mono (dsupSetriF2S1i1 nd4 ((newStftP nd3 nd5 nd6 nd7).setIfInBounds 106 (.slice (some ⟨nd21, 0, none⟩) 2 (2 + nd22))) nd21 nd22 nd5 nd6 #[.pointer none, .pointer none, .slice none 0 0, .map none, .slice none 0 0, .slice (some ⟨nd20, 0, none⟩) 1 (1 + nd23), .int .i32 0, .int .i32 0, .int .u32 0, .int .u32 0, .bool false, .bool false, .bool false, .bool false, .int .u8 0, .int .u8 6] nd7 loc nd20 nd23 206 (α 5) loc 209 (α 8) loc _ _ _ hP (get_other (newStft_350 (nd3) (nd5) (nd6) (nd7)) (by omega) _) (get_other (newStft_32 (nd3) (nd5) (nd6) (nd7)) (by omega) _) (get_other (newStft_105 (nd3) (nd5) (nd6) (nd7)) (by omega) _) (get_other (newStft_66 (nd3) (nd5) (nd6) (nd7)) (by omega) _) (get_other (newStft_117 (nd3) (nd5) (nd6) (nd7)) (by omega) _) (get_other (newStft_187 (nd3) (nd5) (nd6) (nd7)) (by omega) _) (get_other (newStft_97 (nd3) (nd5) (nd6) (nd7)) (by omega) _) (get_other (newStft_95 (nd3) (nd5) (nd6) (nd7)) (by omega) _) (get_other (newStft_96 (nd3) (nd5) (nd6) (nd7)) (by omega) _) (get_set (newStft_106 (nd3) (nd5) (nd6) (nd7)) _) rfl hg0 hg1) ?_
      rintro e9 u1 ⟨b0, b1, b2, b3, b4, b5, rfl, hQ⟩
      obtain ⟨α', hα'⟩ : ∃ α' : Rega.Atoms, α' = (fun j => if j = 9 then b0 else if j = 1009 then b1 else if j = 2009 then b2 else if j = 3009 then b3 else if j = 4009 then b4 else if j = 5009 then b5 else α j) := ⟨_, rfl⟩
      have f0 : rlaw13ri3R loc key vm nd3 nd4 nd5 nd6 nd7 B8_1 B8 nd20 nd21 nd22 nd23 (Rega.ran L9 9) α' 3999 = row (nd4) 193 ((newStftP nd3 nd5 nd6 nd7).setIfInBounds 106 (.slice (some ⟨nd21, 0, none⟩) 2 (2 + (nd22)))) := rfl
      have f1 : rlaw13ri3R loc key vm nd3 nd4 nd5 nd6 nd7 B8_1 B8 nd20 nd21 nd22 nd23 (Rega.ran L9 9) α' 2999 = row (nd21) 56 (full symZ (symL ([sy ⟨#[70, 111, 111]⟩ 4, sy ⟨#[95, 95, 115, 117, 112, 101, 114, 83, 101, 116]⟩ 2])) nd22) := by
        show rlaw13ri3T2999 loc key vm nd3 nd4 nd5 nd6 nd7 B8_1 B8 nd20 nd21 nd22 nd23 (Rega.ran L9 9) α' = _
        unfold rlaw13ri3T2999
        rw [if_pos (show Rega.ran L9 9 9 = true from rfl)]
      have f2 : rlaw13ri3R loc key vm nd3 nd4 nd5 nd6 nd7 B8_1 B8 nd20 nd21 nd22 nd23 (Rega.ran L9 9) α' 4999 = ((nd5, .map #[⟨.string ⟨#[95, 95, 115, 117, 112, 101, 114, 83, 101, 116]⟩, .agg #[.int .i32 loc, .int .u32 0, .int .u32 1], 0⟩] 1) : Rw) := rfl
      have f3 : rlaw13ri3R loc key vm nd3 nd4 nd5 nd6 nd7 B8_1 B8 nd20 nd21 nd22 nd23 (Rega.ran L9 9) α' 5999 = row (nd6) 203 #[.pointer none, .pointer none, .slice none 0 0, .map none, .slice none 0 0, .slice (some ⟨nd20, 0, none⟩) 1 (1 + (nd23)), .int .i32 0, .int .i32 0, .int .u32 0, .int .u32 0, .bool false, .bool false, .bool false, .bool false, .int .u8 0, .int .u8 6] := rfl
      have f4 : rlaw13ri3R loc key vm nd3 nd4 nd5 nd6 nd7 B8_1 B8 nd20 nd21 nd22 nd23 (Rega.ran L9 9) α' 7999 = row (nd20) 25 (full refZ [.int .u32 0, .int .u32 1] (nd23)) := rfl
      have f5 : rlaw13ri3R loc key vm nd3 nd4 nd5 nd6 nd7 B8_1 B8 nd20 nd21 nd22 nd23 (Rega.ran L9 9) α' 6999 = row (nd7) 25 #[.int .u32 0, .int .u32 0] := rfl
      have f6 : rlaw13ri3R loc key vm nd3 nd4 nd5 nd6 nd7 B8_1 B8 nd20 nd21 nd22 nd23 (Rega.ran L9 9) α' 1009 = row (α' 1009) 211 #[.int .u32 0, .int .u32 1, .bool false, .bool false, .bool false] := rfl
      have f7 : rlaw13ri3R loc key vm nd3 nd4 nd5 nd6 nd7 B8_1 B8 nd20 nd21 nd22 nd23 (Rega.ran L9 9) α' 9 = row (α' 9) 71 #[.iface 209 (.pointer (some ⟨α' 1009, 0, none⟩)), .int .i32 loc, .slice (some ⟨α' 2009, 0, none⟩) 4 4, .int .i32 0, .int .u8 0, .int .u8 0, .bool false, .bool false] := rfl
      have f8 : rlaw13ri3R loc key vm nd3 nd4 nd5 nd6 nd7 B8_1 B8 nd20 nd21 nd22 nd23 (Rega.ran L9 9) α' 2009 = row (α' 2009) 35 #[.iface 225 (.pointer (some ⟨α' 5009, 0, none⟩)), .int .i32 loc, .iface 209 (.pointer (some ⟨α' 4009, 0, none⟩)), .int .i32 loc, .iface 206 (.pointer (some ⟨α' 5, 0, none⟩)), .int .i32 loc, .iface 209 (.pointer (some ⟨α' 8, 0, none⟩)), .int .i32 loc] := rfl
      have f9 : rlaw13ri3R loc key vm nd3 nd4 nd5 nd6 nd7 B8_1 B8 nd20 nd21 nd22 nd23 (Rega.ran L9 9) α' 3009 = row (α' 3009) 211 #[.int .u32 0, .int .u32 0, .bool false, .bool false, .bool false] := rfl
      have f10 : rlaw13ri3R loc key vm nd3 nd4 nd5 nd6 nd7 B8_1 B8 nd20 nd21 nd22 nd23 (Rega.ran L9 9) α' 4009 = row (α' 4009) 211 #[.int .u32 0, .int .u32 0, .bool false, .bool false, .bool false] := rfl
      have f11 : rlaw13ri3R loc key vm nd3 nd4 nd5 nd6 nd7 B8_1 B8 nd20 nd21 nd22 nd23 (Rega.ran L9 9) α' 5009 = row (α' 5009) 228 #[.iface 209 (.pointer (some ⟨α' 3009, 0, none⟩)), .int .i32 loc, .string ⟨#[112, 114, 111, 116, 111, 116, 121, 112, 101]⟩, .int .i32 loc, .int .u8 0, .bool false, .bool false, .bool false] := rfl
      have hα : ∀ j, j % 1000 ≠ 9 → α' j = α j := fun j hj => by rw [hα']; simp only []; rw [if_neg (by omega), if_neg (by omega), if_neg (by omega), if_neg (by omega), if_neg (by omega), if_neg (by omega)]
      have hb0 : α' 9 = b0 := by rw [hα']; rfl
      have hb1 : α' 1009 = b1 := by rw [hα']; rfl
      have hb2 : α' 2009 = b2 := by rw [hα']; rfl
      have hb3 : α' 3009 = b3 := by rw [hα']; rfl
      have hb4 : α' 4009 = b4 := by rw [hα']; rfl
      have hb5 : α' 5009 = b5 := by rw [hα']; rfl
      have ha5 : α' 5 = α 5 := hα 5 (by decide)
      have ha8 : α' 8 = α 8 := hα 8 (by decide)
      skip
      refine hK _ α' _ hα ?_ (step_call (st9) hL hcl hα [3999, 2999, 4999, 5999, 7999, 6999] [3999, 2999, 4999, 5999, 7999, 6999, 1009, 9, 2009, 3009, 4009, 5009] (by decide) (by decide) (by decide) (M := _) ?_ hG hQ)
      · show _ = (.agg #[.iface 65 (.pointer (some ⟨α' 9, 0, none⟩)), .int .i32 loc] : Value)
        simp only [hb0]
      · show [rlaw13ri3R loc key vm nd3 nd4 nd5 nd6 nd7 B8_1 B8 nd20 nd21 nd22 nd23 (Rega.ran L9 9) α' 3999, rlaw13ri3R loc key vm nd3 nd4 nd5 nd6 nd7 B8_1 B8 nd20 nd21 nd22 nd23 (Rega.ran L9 9) α' 2999, rlaw13ri3R loc key vm nd3 nd4 nd5 nd6 nd7 B8_1 B8 nd20 nd21 nd22 nd23 (Rega.ran L9 9) α' 4999, rlaw13ri3R loc key vm nd3 nd4 nd5 nd6 nd7 B8_1 B8 nd20 nd21 nd22 nd23 (Rega.ran L9 9) α' 5999, rlaw13ri3R loc key vm nd3 nd4 nd5 nd6 nd7 B8_1 B8 nd20 nd21 nd22 nd23 (Rega.ran L9 9) α' 7999, rlaw13ri3R loc key vm nd3 nd4 nd5 nd6 nd7 B8_1 B8 nd20 nd21 nd22 nd23 (Rega.ran L9 9) α' 6999, rlaw13ri3R loc key vm nd3 nd4 nd5 nd6 nd7 B8_1 B8 nd20 nd21 nd22 nd23 (Rega.ran L9 9) α' 1009, rlaw13ri3R loc key vm nd3 nd4 nd5 nd6 nd7 B8_1 B8 nd20 nd21 nd22 nd23 (Rega.ran L9 9) α' 9, rlaw13ri3R loc key vm nd3 nd4 nd5 nd6 nd7 B8_1 B8 nd20 nd21 nd22 nd23 (Rega.ran L9 9) α' 2009, rlaw13ri3R loc key vm nd3 nd4 nd5 nd6 nd7 B8_1 B8 nd20 nd21 nd22 nd23 (Rega.ran L9 9) α' 3009, rlaw13ri3R loc key vm nd3 nd4 nd5 nd6 nd7 B8_1 B8 nd20 nd21 nd22 nd23 (Rega.ran L9 9) α' 4009, rlaw13ri3R loc key vm nd3 nd4 nd5 nd6 nd7 B8_1 B8 nd20 nd21 nd22 nd23 (Rega.ran L9 9) α' 5009] = _
        rw [f0, f1, f2, f3, f4, f5, f6, f7, f8, f9, f10, f11]
        simp only [hb0, hb1, hb2, hb3, hb4, hb5, ha5, ha8]
    · intro L9 α a9 u9 K9 hL hcl hA hG hS h0 hK
      replace hL : L9 10 = false := hL
      go_simp
      have e1 : rlaw13ri3R loc key vm nd3 nd4 nd5 nd6 nd7 B8_1 B8 nd20 nd21 nd22 nd23 (Rega.ran L9 10) (fun j => if j = 10 then u9.heap.size else α j) 10 = row (u9.heap.size) 35 #[.nilIface, .int .i32 0] := by
        show rlaw13ri3T10 loc key vm nd3 nd4 nd5 nd6 nd7 B8_1 B8 nd20 nd21 nd22 nd23 (Rega.ran L9 10) (fun j => if j = 10 then u9.heap.size else α j) = _
        unfold rlaw13ri3T10
        exact ((if_neg (fun e => (fun e => by have := hcl 11 e 10 (by decide); rw [hL] at this; cases this) ((ran_ne (by decide)).symm.trans e))).trans rfl)
      exact hK _ (fun j => if j = 10 then u9.heap.size else α j) _ (fun j hj => if_neg (fun e => hj (by rw [e]))) rfl (step_alloc (st9) hL hcl rfl rfl (by decide) _ e1 hG)
    · intro L9 α a9 u9 K9 hL hcl hA hG hS h0 hK
      replace hL : L9 11 = false := hL
      have q16 : a9.tmps[16]? = some (.pointer (some ⟨α 10, 0, none⟩)) := hS 10 16 (by decide) rfl (by show 16 < 118; decide)
      have s16 := Rega.eval_of q16
      have q63 : a9.tmps[63]? = some (.agg #[.iface 65 (.pointer (some ⟨α 9, 0, none⟩)), .int .i32 loc]) := hS 9 63 (by decide) rfl (by show 63 < 118; decide)
      have s63 := Rega.eval_of q63
      have e0 : rlaw13ri3R loc key vm nd3 nd4 nd5 nd6 nd7 B8_1 B8 nd20 nd21 nd22 nd23 L9 α 10 = row (α 10) 35 #[.nilIface, .int .i32 0] := by
        show rlaw13ri3T10 loc key vm nd3 nd4 nd5 nd6 nd7 B8_1 B8 nd20 nd21 nd22 nd23 L9 α = _
        unfold rlaw13ri3T10
        rw [if_neg (by rw [hL]; decide)]
      have hr := hG.rowAt 10 (act_new 10 rfl (hA 10 (by decide))) e0
      have c0 : u9.cell? ⟨α 10, 0, none⟩ = some (.nilIface) := hr.cell rfl
      have y0 : u9.frozen? ⟨α 10, 0, none⟩ = false := hr.free 0
      have c1 : u9.cell? ⟨α 10, 1, none⟩ = some (.int .i32 0) := hr.cell rfl
      have y1 : u9.frozen? ⟨α 10, 1, none⟩ = false := hr.free 1
      clear hr
      have E0 := Lib.hid e0
      clear e0
      go_simp
      have e1 : rlaw13ri3R loc key vm nd3 nd4 nd5 nd6 nd7 B8_1 B8 nd20 nd21 nd22 nd23 (Rega.ran L9 11) α 10 = row (α 10) 35 #[.iface 65 (.pointer (some ⟨α 9, 0, none⟩)), .int .i32 loc] := by
        show rlaw13ri3T10 loc key vm nd3 nd4 nd5 nd6 nd7 B8_1 B8 nd20 nd21 nd22 nd23 (Rega.ran L9 11) α = _
        unfold rlaw13ri3T10
        rw [if_pos (show Rega.ran L9 11 11 = true from rfl)]
      exact hK _ α _ (fun _ _ => rfl) rfl (step_sets (st9) hL hcl rfl 10 rfl (act_new 10 rfl (hA 10 (by decide))) E0.out 0 [.iface 65 (.pointer (some ⟨α 9, 0, none⟩)), .int .i32 loc] (e1.trans rfl) hG)
  clear st9
  intro α u hG
  have e0 : rlaw13ri3R loc key vm nd3 nd4 nd5 nd6 nd7 B8_1 B8 nd20 nd21 nd22 nd23 (fun k => decide (k < 12)) α 999 = row (B8_1) 25 #[.int .u32 3, .int .u32 vm] := rfl
  have e1 : rlaw13ri3R loc key vm nd3 nd4 nd5 nd6 nd7 B8_1 B8 nd20 nd21 nd22 nd23 (fun k => decide (k < 12)) α 1999 = row (B8) 31 #[.int .i32 loc] := rfl
  have e2 : rlaw13ri3R loc key vm nd3 nd4 nd5 nd6 nd7 B8_1 B8 nd20 nd21 nd22 nd23 (fun k => decide (k < 12)) α 2999 = row (nd21) 56 (full symZ (symL ([sy ⟨#[70, 111, 111]⟩ 4, sy ⟨#[95, 95, 115, 117, 112, 101, 114, 83, 101, 116]⟩ 2])) nd22) := by
    show rlaw13ri3T2999 loc key vm nd3 nd4 nd5 nd6 nd7 B8_1 B8 nd20 nd21 nd22 nd23 (fun k => decide (k < 12)) α = _
    unfold rlaw13ri3T2999
    rw [if_pos (by decide)]
  have e3 : rlaw13ri3R loc key vm nd3 nd4 nd5 nd6 nd7 B8_1 B8 nd20 nd21 nd22 nd23 (fun k => decide (k < 12)) α 3999 = row (nd4) 193 ((newStftP nd3 nd5 nd6 nd7).setIfInBounds 106 (.slice (some ⟨nd21, 0, none⟩) 2 (2 + (nd22)))) := rfl
  have e4 : rlaw13ri3R loc key vm nd3 nd4 nd5 nd6 nd7 B8_1 B8 nd20 nd21 nd22 nd23 (fun k => decide (k < 12)) α 4999 = ((nd5, .map #[⟨.string ⟨#[95, 95, 115, 117, 112, 101, 114, 83, 101, 116]⟩, .agg #[.int .i32 loc, .int .u32 0, .int .u32 1], 0⟩] 1) : Rw) := rfl
  have e5 : rlaw13ri3R loc key vm nd3 nd4 nd5 nd6 nd7 B8_1 B8 nd20 nd21 nd22 nd23 (fun k => decide (k < 12)) α 5999 = row (nd6) 203 #[.pointer none, .pointer none, .slice none 0 0, .map none, .slice none 0 0, .slice (some ⟨nd20, 0, none⟩) 1 (1 + (nd23)), .int .i32 0, .int .i32 0, .int .u32 0, .int .u32 0, .bool false, .bool false, .bool false, .bool false, .int .u8 0, .int .u8 6] := rfl
  have e6 : rlaw13ri3R loc key vm nd3 nd4 nd5 nd6 nd7 B8_1 B8 nd20 nd21 nd22 nd23 (fun k => decide (k < 12)) α 6999 = row (nd7) 25 #[.int .u32 0, .int .u32 0] := rfl
  have e7 : rlaw13ri3R loc key vm nd3 nd4 nd5 nd6 nd7 B8_1 B8 nd20 nd21 nd22 nd23 (fun k => decide (k < 12)) α 7999 = row (nd20) 25 (full refZ [.int .u32 0, .int .u32 1] (nd23)) := rfl
  have e8 : rlaw13ri3R loc key vm nd3 nd4 nd5 nd6 nd7 B8_1 B8 nd20 nd21 nd22 nd23 (fun k => decide (k < 12)) α 4 = row (α 4) 51 (units key) := rfl
  have e9 : rlaw13ri3R loc key vm nd3 nd4 nd5 nd6 nd7 B8_1 B8 nd20 nd21 nd22 nd23 (fun k => decide (k < 12)) α 5 = row (α 5) 208 #[.slice (some ⟨α 4, 0, none⟩) key.size key.size, .int .i32 0, .bool false, .bool false, .bool false] := rfl
  have e10 : rlaw13ri3R loc key vm nd3 nd4 nd5 nd6 nd7 B8_1 B8 nd20 nd21 nd22 nd23 (fun k => decide (k < 12)) α 8 = row (α 8) 211 #[.int .u32 3, .int .u32 vm, .bool false, .bool false, .bool false] := rfl
  have e11 : rlaw13ri3R loc key vm nd3 nd4 nd5 nd6 nd7 B8_1 B8 nd20 nd21 nd22 nd23 (fun k => decide (k < 12)) α 9 = row (α 9) 71 #[.iface 209 (.pointer (some ⟨α 1009, 0, none⟩)), .int .i32 loc, .slice (some ⟨α 2009, 0, none⟩) 4 4, .int .i32 0, .int .u8 0, .int .u8 0, .bool false, .bool false] := rfl
  have e12 : rlaw13ri3R loc key vm nd3 nd4 nd5 nd6 nd7 B8_1 B8 nd20 nd21 nd22 nd23 (fun k => decide (k < 12)) α 1009 = row (α 1009) 211 #[.int .u32 0, .int .u32 1, .bool false, .bool false, .bool false] := rfl
  have e13 : rlaw13ri3R loc key vm nd3 nd4 nd5 nd6 nd7 B8_1 B8 nd20 nd21 nd22 nd23 (fun k => decide (k < 12)) α 2009 = row (α 2009) 35 #[.iface 225 (.pointer (some ⟨α 5009, 0, none⟩)), .int .i32 loc, .iface 209 (.pointer (some ⟨α 4009, 0, none⟩)), .int .i32 loc, .iface 206 (.pointer (some ⟨α 5, 0, none⟩)), .int .i32 loc, .iface 209 (.pointer (some ⟨α 8, 0, none⟩)), .int .i32 loc] := rfl
  have e14 : rlaw13ri3R loc key vm nd3 nd4 nd5 nd6 nd7 B8_1 B8 nd20 nd21 nd22 nd23 (fun k => decide (k < 12)) α 3009 = row (α 3009) 211 #[.int .u32 0, .int .u32 0, .bool false, .bool false, .bool false] := rfl
  have e15 : rlaw13ri3R loc key vm nd3 nd4 nd5 nd6 nd7 B8_1 B8 nd20 nd21 nd22 nd23 (fun k => decide (k < 12)) α 4009 = row (α 4009) 211 #[.int .u32 0, .int .u32 0, .bool false, .bool false, .bool false] := rfl
  have e16 : rlaw13ri3R loc key vm nd3 nd4 nd5 nd6 nd7 B8_1 B8 nd20 nd21 nd22 nd23 (fun k => decide (k < 12)) α 5009 = row (α 5009) 228 #[.iface 209 (.pointer (some ⟨α 3009, 0, none⟩)), .int .i32 loc, .string ⟨#[112, 114, 111, 116, 111, 116, 121, 112, 101]⟩, .int .i32 loc, .int .u8 0, .bool false, .bool false, .bool false] := rfl
  have e17 : rlaw13ri3R loc key vm nd3 nd4 nd5 nd6 nd7 B8_1 B8 nd20 nd21 nd22 nd23 (fun k => decide (k < 12)) α 10 = row (α 10) 35 #[.iface 65 (.pointer (some ⟨α 9, 0, none⟩)), .int .i32 loc] := by
    show rlaw13ri3T10 loc key vm nd3 nd4 nd5 nd6 nd7 B8_1 B8 nd20 nd21 nd22 nd23 (fun k => decide (k < 12)) α = _
    unfold rlaw13ri3T10
    rw [if_pos (by decide)]
  have hO : Own w0 u [row (B8_1) 25 #[.int .u32 3, .int .u32 vm], row (B8) 31 #[.int .i32 loc], row (nd21) 56 (full symZ (symL ([sy ⟨#[70, 111, 111]⟩ 4, sy ⟨#[95, 95, 115, 117, 112, 101, 114, 83, 101, 116]⟩ 2])) nd22), row (nd4) 193 ((newStftP nd3 nd5 nd6 nd7).setIfInBounds 106 (.slice (some ⟨nd21, 0, none⟩) 2 (2 + (nd22)))), ((nd5, .map #[⟨.string ⟨#[95, 95, 115, 117, 112, 101, 114, 83, 101, 116]⟩, .agg #[.int .i32 loc, .int .u32 0, .int .u32 1], 0⟩] 1) : Rw), row (nd6) 203 #[.pointer none, .pointer none, .slice none 0 0, .map none, .slice none 0 0, .slice (some ⟨nd20, 0, none⟩) 1 (1 + (nd23)), .int .i32 0, .int .i32 0, .int .u32 0, .int .u32 0, .bool false, .bool false, .bool false, .bool false, .int .u8 0, .int .u8 6], row (nd7) 25 #[.int .u32 0, .int .u32 0], row (nd20) 25 (full refZ [.int .u32 0, .int .u32 1] (nd23)), row (α 4) 51 (units key), row (α 5) 208 #[.slice (some ⟨α 4, 0, none⟩) key.size key.size, .int .i32 0, .bool false, .bool false, .bool false], row (α 8) 211 #[.int .u32 3, .int .u32 vm, .bool false, .bool false, .bool false], row (α 9) 71 #[.iface 209 (.pointer (some ⟨α 1009, 0, none⟩)), .int .i32 loc, .slice (some ⟨α 2009, 0, none⟩) 4 4, .int .i32 0, .int .u8 0, .int .u8 0, .bool false, .bool false], row (α 1009) 211 #[.int .u32 0, .int .u32 1, .bool false, .bool false, .bool false], row (α 2009) 35 #[.iface 225 (.pointer (some ⟨α 5009, 0, none⟩)), .int .i32 loc, .iface 209 (.pointer (some ⟨α 4009, 0, none⟩)), .int .i32 loc, .iface 206 (.pointer (some ⟨α 5, 0, none⟩)), .int .i32 loc, .iface 209 (.pointer (some ⟨α 8, 0, none⟩)), .int .i32 loc], row (α 3009) 211 #[.int .u32 0, .int .u32 0, .bool false, .bool false, .bool false], row (α 4009) 211 #[.int .u32 0, .int .u32 0, .bool false, .bool false, .bool false], row (α 5009) 228 #[.iface 209 (.pointer (some ⟨α 3009, 0, none⟩)), .int .i32 loc, .string ⟨#[112, 114, 111, 116, 111, 116, 121, 112, 101]⟩, .int .i32 loc, .int .u8 0, .bool false, .bool false, .bool false], row (α 10) 35 #[.iface 65 (.pointer (some ⟨α 9, 0, none⟩)), .int .i32 loc]] X9_24 := (hG.list [999, 1999, 2999, 3999, 4999, 5999, 6999, 7999, 4, 5, 8, 9, 1009, 2009, 3009, 4009, 5009, 10] (by decide) (act_all (by decide))).conv (by
    show [rlaw13ri3R loc key vm nd3 nd4 nd5 nd6 nd7 B8_1 B8 nd20 nd21 nd22 nd23 (fun k => decide (k < 12)) α 999, rlaw13ri3R loc key vm nd3 nd4 nd5 nd6 nd7 B8_1 B8 nd20 nd21 nd22 nd23 (fun k => decide (k < 12)) α 1999, rlaw13ri3R loc key vm nd3 nd4 nd5 nd6 nd7 B8_1 B8 nd20 nd21 nd22 nd23 (fun k => decide (k < 12)) α 2999, rlaw13ri3R loc key vm nd3 nd4 nd5 nd6 nd7 B8_1 B8 nd20 nd21 nd22 nd23 (fun k => decide (k < 12)) α 3999, rlaw13ri3R loc key vm nd3 nd4 nd5 nd6 nd7 B8_1 B8 nd20 nd21 nd22 nd23 (fun k => decide (k < 12)) α 4999, rlaw13ri3R loc key vm nd3 nd4 nd5 nd6 nd7 B8_1 B8 nd20 nd21 nd22 nd23 (fun k => decide (k < 12)) α 5999, rlaw13ri3R loc key vm nd3 nd4 nd5 nd6 nd7 B8_1 B8 nd20 nd21 nd22 nd23 (fun k => decide (k < 12)) α 6999, rlaw13ri3R loc key vm nd3 nd4 nd5 nd6 nd7 B8_1 B8 nd20 nd21 nd22 nd23 (fun k => decide (k < 12)) α 7999, rlaw13ri3R loc key vm nd3 nd4 nd5 nd6 nd7 B8_1 B8 nd20 nd21 nd22 nd23 (fun k => decide (k < 12)) α 4, rlaw13ri3R loc key vm nd3 nd4 nd5 nd6 nd7 B8_1 B8 nd20 nd21 nd22 nd23 (fun k => decide (k < 12)) α 5, rlaw13ri3R loc key vm nd3 nd4 nd5 nd6 nd7 B8_1 B8 nd20 nd21 nd22 nd23 (fun k => decide (k < 12)) α 8, rlaw13ri3R loc key vm nd3 nd4 nd5 nd6 nd7 B8_1 B8 nd20 nd21 nd22 nd23 (fun k => decide (k < 12)) α 9, rlaw13ri3R loc key vm nd3 nd4 nd5 nd6 nd7 B8_1 B8 nd20 nd21 nd22 nd23 (fun k => decide (k < 12)) α 1009, rlaw13ri3R loc key vm nd3 nd4 nd5 nd6 nd7 B8_1 B8 nd20 nd21 nd22 nd23 (fun k => decide (k < 12)) α 2009, rlaw13ri3R loc key vm nd3 nd4 nd5 nd6 nd7 B8_1 B8 nd20 nd21 nd22 nd23 (fun k => decide (k < 12)) α 3009, rlaw13ri3R loc key vm nd3 nd4 nd5 nd6 nd7 B8_1 B8 nd20 nd21 nd22 nd23 (fun k => decide (k < 12)) α 4009, rlaw13ri3R loc key vm nd3 nd4 nd5 nd6 nd7 B8_1 B8 nd20 nd21 nd22 nd23 (fun k => decide (k < 12)) α 5009, rlaw13ri3R loc key vm nd3 nd4 nd5 nd6 nd7 B8_1 B8 nd20 nd21 nd22 nd23 (fun k => decide (k < 12)) α 10] = _
    rw [e0, e1, e2, e3, e4, e5, e6, e7, e8, e9, e10, e11, e12, e13, e14, e15, e16, e17])
  clear hG e0 e1 e2 e3 e4 e5 e6 e7 e8 e9 e10 e11 e12 e13 e14 e15 e16 e17
  generalize hfr : Rega.frameAt _ _ _ _ _ = fr
  have hdf : fr = ⟨#[.int .i32 loc, .string key, .bool false, .bool true, .int .u32 vm, undef, undef, undef, undef, undef, .bool false, .pointer (some ⟨B1, 0, none⟩), .pointer (some ⟨nd4, 0, none⟩), .pointer (some ⟨B8, 0, none⟩), .pointer (some ⟨B8_1, 0, none⟩), .pointer (some ⟨nd14, 0, none⟩), .pointer (some ⟨α 10, 0, none⟩), undef, undef, undef, undef, undef, undef, undef, .int .i32 loc, .string key, .bool false, .bool true, .int .u32 vm, .bool true, .bool false, .string key, .int .i64 (key.size : Int), .bool (decide (65536 < (key.size : Int))), .agg #[.int .u32 0, .int .u32 0], .slice (some ⟨nd3, 0, none⟩) 1 1, .agg #[.int .u32 0, .int .u32 0], .bool false, .bool true, .pointer (some ⟨nd4, 0, none⟩), .int .i32 loc, .agg #[.int .i32 loc], .int .u32 vm, .agg #[.int .u32 3, .int .u32 vm], .pointer (some ⟨nd4, 0, none⟩), .agg #[.int .i32 loc], .int .i32 loc, .string key, .slice (some ⟨nd10, 0, none⟩) key.size key.size, .agg #[.iface 206 (.pointer (some ⟨nd11, 0, none⟩)), .int .i32 loc], .int .i32 loc, .agg #[.int .u32 3, .int .u32 vm], .agg #[.iface 209 (.pointer (some ⟨nd12, 0, none⟩)), .int .i32 loc], .agg #[.iface 65 (.pointer (some ⟨nd13, 0, none⟩)), .int .i32 loc], .pointer (some ⟨nd4, 0, none⟩), .agg #[.int .i32 loc], .int .i32 loc, .string key, .slice (some ⟨α 4, 0, none⟩) key.size key.size, .agg #[.iface 206 (.pointer (some ⟨α 5, 0, none⟩)), .int .i32 loc], .int .i32 loc, .agg #[.int .u32 3, .int .u32 vm], .agg #[.iface 209 (.pointer (some ⟨α 8, 0, none⟩)), .int .i32 loc], .agg #[.iface 65 (.pointer (some ⟨α 9, 0, none⟩)), .int .i32 loc], undef, undef, undef, undef, undef, undef, undef, undef, undef, undef, undef, undef, undef, undef, undef, undef, undef, undef, undef, undef, undef, undef, undef, undef, undef, undef, undef, undef, undef, undef, undef, undef, undef, undef, undef, undef, undef, undef, undef, undef, undef, undef, undef, undef, undef, undef, undef, undef, undef, undef, undef, undef, undef, undef], []⟩ := by rw [← hfr]; kernel_rfl
  clear hfr
  subst hdf
  generalize α 4 = nd25 at hO ⊢
  generalize α 5 = nd26 at hO ⊢
  generalize α 8 = nd27 at hO ⊢
  generalize α 9 = nd28 at hO ⊢
  generalize α 10 = nd29 at hO ⊢
  generalize α 1009 = nd30 at hO ⊢
  generalize α 2009 = nd31 at hO ⊢
  generalize α 3009 = nd32 at hO ⊢
  generalize α 4009 = nd33 at hO ⊢
  generalize α 5009 = nd34 at hO ⊢
  clear α
  subst hX9_24
  have hN : Own w0 u [row (B8_1) 25 #[.int .u32 3, .int .u32 vm], row (B8) 31 #[.int .i32 loc], row (nd21) 56 (full symZ (symL ([sy ⟨#[70, 111, 111]⟩ 4, sy ⟨#[95, 95, 115, 117, 112, 101, 114, 83, 101, 116]⟩ 2])) nd22), row (nd4) 193 ((newStftP nd3 nd5 nd6 nd7).setIfInBounds 106 (.slice (some ⟨nd21, 0, none⟩) 2 (2 + (nd22)))), ((nd5, .map #[⟨.string ⟨#[95, 95, 115, 117, 112, 101, 114, 83, 101, 116]⟩, .agg #[.int .i32 loc, .int .u32 0, .int .u32 1], 0⟩] 1) : Rw), row (nd6) 203 #[.pointer none, .pointer none, .slice none 0 0, .map none, .slice none 0 0, .slice (some ⟨nd20, 0, none⟩) 1 (1 + (nd23)), .int .i32 0, .int .i32 0, .int .u32 0, .int .u32 0, .bool false, .bool false, .bool false, .bool false, .int .u8 0, .int .u8 6], row (nd7) 25 #[.int .u32 0, .int .u32 0], row (nd20) 25 (full refZ [.int .u32 0, .int .u32 1] (nd23)), row (nd25) 51 (units key), row (nd26) 208 #[.slice (some ⟨nd25, 0, none⟩) key.size key.size, .int .i32 0, .bool false, .bool false, .bool false], row (nd27) 211 #[.int .u32 3, .int .u32 vm, .bool false, .bool false, .bool false], row (nd28) 71 #[.iface 209 (.pointer (some ⟨nd30, 0, none⟩)), .int .i32 loc, .slice (some ⟨nd31, 0, none⟩) 4 4, .int .i32 0, .int .u8 0, .int .u8 0, .bool false, .bool false], row (nd30) 211 #[.int .u32 0, .int .u32 1, .bool false, .bool false, .bool false], row (nd31) 35 #[.iface 225 (.pointer (some ⟨nd34, 0, none⟩)), .int .i32 loc, .iface 209 (.pointer (some ⟨nd33, 0, none⟩)), .int .i32 loc, .iface 206 (.pointer (some ⟨nd26, 0, none⟩)), .int .i32 loc, .iface 209 (.pointer (some ⟨nd27, 0, none⟩)), .int .i32 loc], row (nd32) 211 #[.int .u32 0, .int .u32 0, .bool false, .bool false, .bool false], row (nd33) 211 #[.int .u32 0, .int .u32 0, .bool false, .bool false, .bool false], row (nd34) 228 #[.iface 209 (.pointer (some ⟨nd32, 0, none⟩)), .int .i32 loc, .string ⟨#[112, 114, 111, 116, 111, 116, 121, 112, 101]⟩, .int .i32 loc, .int .u8 0, .bool false, .bool false, .bool false], row (nd29) 35 #[.iface 65 (.pointer (some ⟨nd28, 0, none⟩)), .int .i32 loc], row (B1) 25 #[.int .u32 0, .int .u32 0], row (nd10) 51 (units key), row (nd11) 208 #[.slice (some ⟨nd10, 0, none⟩) key.size key.size, .int .i32 0, .bool false, .bool false, .bool false], row (nd12) 211 #[.int .u32 3, .int .u32 vm, .bool false, .bool false, .bool false], row (nd13) 71 #[.iface 209 (.pointer (some ⟨nd15, 0, none⟩)), .int .i32 loc, .slice (some ⟨nd16, 0, none⟩) 4 4, .int .i32 0, .int .u8 0, .int .u8 0, .bool false, .bool false], row (nd15) 211 #[.int .u32 0, .int .u32 1, .bool false, .bool false, .bool false], row (nd16) 35 #[.iface 225 (.pointer (some ⟨nd19, 0, none⟩)), .int .i32 loc, .iface 209 (.pointer (some ⟨nd18, 0, none⟩)), .int .i32 loc, .iface 206 (.pointer (some ⟨nd11, 0, none⟩)), .int .i32 loc, .iface 209 (.pointer (some ⟨nd12, 0, none⟩)), .int .i32 loc], row (nd17) 211 #[.int .u32 0, .int .u32 0, .bool false, .bool false, .bool false], row (nd18) 211 #[.int .u32 0, .int .u32 0, .bool false, .bool false, .bool false], row (nd19) 228 #[.iface 209 (.pointer (some ⟨nd17, 0, none⟩)), .int .i32 loc, .string ⟨#[112, 114, 111, 116, 111, 116, 121, 112, 101]⟩, .int .i32 loc, .int .u8 0, .bool false, .bool false, .bool false], row (nd14) 35 #[.iface 65 (.pointer (some ⟨nd13, 0, none⟩)), .int .i32 loc]] X := hO.back HL.out HX.out [2, 8, 9, 10, 11, 12, 13, 14, 15, 16, 18] (by decide) (by decide)
  clear hO HL HX
  have hO := hN
  clear hN
  obtain ⟨c9_0_0, c9_0_1, lt9_0, y9_0, -⟩ := hO.k2 0 rfl
  obtain ⟨c9_1_0, lt9_1, y9_1, -⟩ := hO.k1 1 rfl
  obtain ⟨c9_6_0, c9_6_1, lt9_6, y9_6, -⟩ := hO.k2 6 rfl
  obtain ⟨c9_9_0, c9_9_1, c9_9_2, c9_9_3, c9_9_4, lt9_9, y9_9, -⟩ := hO.k5 9 rfl
  obtain ⟨c9_10_0, c9_10_1, c9_10_2, c9_10_3, c9_10_4, lt9_10, y9_10, -⟩ := hO.k5 10 rfl
  obtain ⟨c9_11_0, c9_11_1, c9_11_2, c9_11_3, c9_11_4, c9_11_5, c9_11_6, c9_11_7, lt9_11, y9_11, -⟩ := hO.k8 11 rfl
  obtain ⟨c9_12_0, c9_12_1, c9_12_2, c9_12_3, c9_12_4, lt9_12, y9_12, -⟩ := hO.k5 12 rfl
  obtain ⟨c9_13_0, c9_13_1, c9_13_2, c9_13_3, c9_13_4, c9_13_5, c9_13_6, c9_13_7, lt9_13, y9_13, -⟩ := hO.k8 13 rfl
  obtain ⟨c9_14_0, c9_14_1, c9_14_2, c9_14_3, c9_14_4, lt9_14, y9_14, -⟩ := hO.k5 14 rfl
  obtain ⟨c9_15_0, c9_15_1, c9_15_2, c9_15_3, c9_15_4, lt9_15, y9_15, -⟩ := hO.k5 15 rfl
  obtain ⟨c9_16_0, c9_16_1, c9_16_2, c9_16_3, c9_16_4, c9_16_5, c9_16_6, c9_16_7, lt9_16, y9_16, -⟩ := hO.k8 16 rfl
  obtain ⟨c9_17_0, c9_17_1, lt9_17, y9_17, -⟩ := hO.k2 17 rfl
  obtain ⟨c9_18_0, c9_18_1, lt9_18, y9_18, -⟩ := hO.k2 18 rfl
  obtain ⟨c9_20_0, c9_20_1, c9_20_2, c9_20_3, c9_20_4, lt9_20, y9_20, -⟩ := hO.k5 20 rfl
  obtain ⟨c9_21_0, c9_21_1, c9_21_2, c9_21_3, c9_21_4, lt9_21, y9_21, -⟩ := hO.k5 21 rfl
  obtain ⟨c9_22_0, c9_22_1, c9_22_2, c9_22_3, c9_22_4, c9_22_5, c9_22_6, c9_22_7, lt9_22, y9_22, -⟩ := hO.k8 22 rfl
  obtain ⟨c9_23_0, c9_23_1, c9_23_2, c9_23_3, c9_23_4, lt9_23, y9_23, -⟩ := hO.k5 23 rfl
  obtain ⟨c9_24_0, c9_24_1, c9_24_2, c9_24_3, c9_24_4, c9_24_5, c9_24_6, c9_24_7, lt9_24, y9_24, -⟩ := hO.k8 24 rfl
  obtain ⟨c9_25_0, c9_25_1, c9_25_2, c9_25_3, c9_25_4, lt9_25, y9_25, -⟩ := hO.k5 25 rfl
  obtain ⟨c9_26_0, c9_26_1, c9_26_2, c9_26_3, c9_26_4, lt9_26, y9_26, -⟩ := hO.k5 26 rfl
  obtain ⟨c9_27_0, c9_27_1, c9_27_2, c9_27_3, c9_27_4, c9_27_5, c9_27_6, c9_27_7, lt9_27, y9_27, -⟩ := hO.k8 27 rfl
  obtain ⟨c9_28_0, c9_28_1, lt9_28, y9_28, -⟩ := hO.k2 28 rfl
  have HO := Lib.hid hO
  clear hO
  go_wp2_with (first | (with_reducible refine Own.stay (fn := Tryd.f3) ?_) | (first | (go_at_call 8; go_in)))
  try with_reducible refine Own.Stay.mk ?_
  have hO := HO.out
  clear HO c9_0_0 c9_0_1 lt9_0 y9_0 c9_1_0 lt9_1 y9_1 c9_6_0 c9_6_1 lt9_6 y9_6 c9_9_0 c9_9_1 c9_9_2 c9_9_3 c9_9_4 lt9_9 y9_9 c9_10_0 c9_10_1 c9_10_2 c9_10_3 c9_10_4 lt9_10 y9_10 c9_11_0 c9_11_1 c9_11_2 c9_11_3 c9_11_4 c9_11_5 c9_11_6 c9_11_7 lt9_11 y9_11 c9_12_0 c9_12_1 c9_12_2 c9_12_3 c9_12_4 lt9_12 y9_12 c9_13_0 c9_13_1 c9_13_2 c9_13_3 c9_13_4 c9_13_5 c9_13_6 c9_13_7 lt9_13 y9_13 c9_14_0 c9_14_1 c9_14_2 c9_14_3 c9_14_4 lt9_14 y9_14 c9_15_0 c9_15_1 c9_15_2 c9_15_3 c9_15_4 lt9_15 y9_15 c9_16_0 c9_16_1 c9_16_2 c9_16_3 c9_16_4 c9_16_5 c9_16_6 c9_16_7 lt9_16 y9_16 c9_17_0 c9_17_1 lt9_17 y9_17 c9_18_0 c9_18_1 lt9_18 y9_18 c9_20_0 c9_20_1 c9_20_2 c9_20_3 c9_20_4 lt9_20 y9_20 c9_21_0 c9_21_1 c9_21_2 c9_21_3 c9_21_4 lt9_21 y9_21 c9_22_0 c9_22_1 c9_22_2 c9_22_3 c9_22_4 c9_22_5 c9_22_6 c9_22_7 lt9_22 y9_22 c9_23_0 c9_23_1 c9_23_2 c9_23_3 c9_23_4 lt9_23 y9_23 c9_24_0 c9_24_1 c9_24_2 c9_24_3 c9_24_4 c9_24_5 c9_24_6 c9_24_7 lt9_24 y9_24 c9_25_0 c9_25_1 c9_25_2 c9_25_3 c9_25_4 lt9_25 y9_25 c9_26_0 c9_26_1 c9_26_2 c9_26_3 c9_26_4 lt9_26 y9_26 c9_27_0 c9_27_1 c9_27_2 c9_27_3 c9_27_4 c9_27_5 c9_27_6 c9_27_7 lt9_27 y9_27 c9_28_0 c9_28_1 lt9_28 y9_28
  have hL := hO.apart
  have hX := hO.apartX
  have HL := Lib.hid hL
  have HX := Lib.hid hX
  clear hL hX
  have hP9 := hO.pick [3, 4] (by decide)
  have h9_hyes : Instr.findNow .string (.string (⟨#[95, 95, 115, 117, 112, 101, 114, 83, 101, 116]⟩ : ByteArray)) (#[⟨.string ⟨#[95, 95, 115, 117, 112, 101, 114, 83, 101, 116]⟩, .agg #[.int .i32 loc, .int .u32 0, .int .u32 1], 0⟩] : Array MapEntry).toList 0 = some (some (0, .agg #[.int .i32 loc, .int .u32 0, .int .u32 1])) := (by kernel_rfl)
  have T9 := impRefY nd4 ((newStftP nd3 nd5 nd6 nd7).setIfInBounds 106 (.slice (some ⟨nd21, 0, none⟩) 2 (2 + nd22))) nd5 #[⟨.string ⟨#[95, 95, 115, 117, 112, 101, 114, 83, 101, 116]⟩, .agg #[.int .i32 loc, .int .u32 0, .int .u32 1], 0⟩] 1 ⟨#[95, 95, 115, 117, 112, 101, 114, 83, 101, 116]⟩ 0 loc 0 1 _ _ _ hP9 (get_other (newStft_117 (nd3) (nd5) (nd6) (nd7)) (by omega) _) h9_hyes
  refine Calls.mono T9 ?_
  clear hP9 T9 h9_hyes
  rintro e u35 ⟨rfl, hQ⟩
  have hN : Own w0 u35 [row (nd4) 193 ((newStftP nd3 nd5 nd6 nd7).setIfInBounds 106 (.slice (some ⟨nd21, 0, none⟩) 2 (2 + nd22))), ((nd5, .map #[⟨.string ⟨#[95, 95, 115, 117, 112, 101, 114, 83, 101, 116]⟩, .agg #[.int .i32 loc, .int .u32 0, .int .u32 1], 0⟩] 1) : Rw), row (B8_1) 25 #[.int .u32 3, .int .u32 vm], row (B8) 31 #[.int .i32 loc], row (nd21) 56 (full symZ (symL ([sy ⟨#[70, 111, 111]⟩ 4, sy ⟨#[95, 95, 115, 117, 112, 101, 114, 83, 101, 116]⟩ 2])) nd22), row (nd6) 203 #[.pointer none, .pointer none, .slice none 0 0, .map none, .slice none 0 0, .slice (some ⟨nd20, 0, none⟩) 1 (1 + (nd23)), .int .i32 0, .int .i32 0, .int .u32 0, .int .u32 0, .bool false, .bool false, .bool false, .bool false, .int .u8 0, .int .u8 6], row (nd7) 25 #[.int .u32 0, .int .u32 0], row (nd20) 25 (full refZ [.int .u32 0, .int .u32 1] (nd23)), row (nd25) 51 (units key), row (nd26) 208 #[.slice (some ⟨nd25, 0, none⟩) key.size key.size, .int .i32 0, .bool false, .bool false, .bool false], row (nd27) 211 #[.int .u32 3, .int .u32 vm, .bool false, .bool false, .bool false], row (nd28) 71 #[.iface 209 (.pointer (some ⟨nd30, 0, none⟩)), .int .i32 loc, .slice (some ⟨nd31, 0, none⟩) 4 4, .int .i32 0, .int .u8 0, .int .u8 0, .bool false, .bool false], row (nd30) 211 #[.int .u32 0, .int .u32 1, .bool false, .bool false, .bool false], row (nd31) 35 #[.iface 225 (.pointer (some ⟨nd34, 0, none⟩)), .int .i32 loc, .iface 209 (.pointer (some ⟨nd33, 0, none⟩)), .int .i32 loc, .iface 206 (.pointer (some ⟨nd26, 0, none⟩)), .int .i32 loc, .iface 209 (.pointer (some ⟨nd27, 0, none⟩)), .int .i32 loc], row (nd32) 211 #[.int .u32 0, .int .u32 0, .bool false, .bool false, .bool false], row (nd33) 211 #[.int .u32 0, .int .u32 0, .bool false, .bool false, .bool false], row (nd34) 228 #[.iface 209 (.pointer (some ⟨nd32, 0, none⟩)), .int .i32 loc, .string ⟨#[112, 114, 111, 116, 111, 116, 121, 112, 101]⟩, .int .i32 loc, .int .u8 0, .bool false, .bool false, .bool false], row (nd29) 35 #[.iface 65 (.pointer (some ⟨nd28, 0, none⟩)), .int .i32 loc], row (B1) 25 #[.int .u32 0, .int .u32 0], row (nd10) 51 (units key), row (nd11) 208 #[.slice (some ⟨nd10, 0, none⟩) key.size key.size, .int .i32 0, .bool false, .bool false, .bool false], row (nd12) 211 #[.int .u32 3, .int .u32 vm, .bool false, .bool false, .bool false], row (nd13) 71 #[.iface 209 (.pointer (some ⟨nd15, 0, none⟩)), .int .i32 loc, .slice (some ⟨nd16, 0, none⟩) 4 4, .int .i32 0, .int .u8 0, .int .u8 0, .bool false, .bool false], row (nd15) 211 #[.int .u32 0, .int .u32 1, .bool false, .bool false, .bool false], row (nd16) 35 #[.iface 225 (.pointer (some ⟨nd19, 0, none⟩)), .int .i32 loc, .iface 209 (.pointer (some ⟨nd18, 0, none⟩)), .int .i32 loc, .iface 206 (.pointer (some ⟨nd11, 0, none⟩)), .int .i32 loc, .iface 209 (.pointer (some ⟨nd12, 0, none⟩)), .int .i32 loc], row (nd17) 211 #[.int .u32 0, .int .u32 0, .bool false, .bool false, .bool false], row (nd18) 211 #[.int .u32 0, .int .u32 0, .bool false, .bool false, .bool false], row (nd19) 228 #[.iface 209 (.pointer (some ⟨nd17, 0, none⟩)), .int .i32 loc, .string ⟨#[112, 114, 111, 116, 111, 116, 121, 112, 101]⟩, .int .i32 loc, .int .u8 0, .bool false, .bool false, .bool false], row (nd14) 35 #[.iface 65 (.pointer (some ⟨nd13, 0, none⟩)), .int .i32 loc]] X := hQ.back HL.out HX.out [0, 1, 2, 5, 6, 7, 8, 9, 10, 11, 12, 13, 14, 15, 16, 17, 18, 19, 20, 21, 22, 23, 24, 25, 26, 27, 28] (by decide) (by decide)
  clear hQ HL HX hO
  have hO := hN
  clear hN
  have hN : Own w0 u35 [row (nd4) 193 ((newStftP nd3 nd5 nd6 nd7).setIfInBounds 106 (.slice (some ⟨nd21, 0, none⟩) 2 (2 + nd22))), ((nd5, .map #[⟨.string ⟨#[95, 95, 115, 117, 112, 101, 114, 83, 101, 116]⟩, .agg #[.int .i32 loc, .int .u32 0, .int .u32 1], 0⟩] 1) : Rw), row (B8) 31 #[.int .i32 loc], row (nd21) 56 (full symZ (symL ([sy ⟨#[70, 111, 111]⟩ 4, sy ⟨#[95, 95, 115, 117, 112, 101, 114, 83, 101, 116]⟩ 2])) nd22), row (nd25) 51 (units key), row (nd26) 208 #[.slice (some ⟨nd25, 0, none⟩) key.size key.size, .int .i32 0, .bool false, .bool false, .bool false], row (nd27) 211 #[.int .u32 3, .int .u32 vm, .bool false, .bool false, .bool false], row (nd28) 71 #[.iface 209 (.pointer (some ⟨nd30, 0, none⟩)), .int .i32 loc, .slice (some ⟨nd31, 0, none⟩) 4 4, .int .i32 0, .int .u8 0, .int .u8 0, .bool false, .bool false], row (nd30) 211 #[.int .u32 0, .int .u32 1, .bool false, .bool false, .bool false], row (nd31) 35 #[.iface 225 (.pointer (some ⟨nd34, 0, none⟩)), .int .i32 loc, .iface 209 (.pointer (some ⟨nd33, 0, none⟩)), .int .i32 loc, .iface 206 (.pointer (some ⟨nd26, 0, none⟩)), .int .i32 loc, .iface 209 (.pointer (some ⟨nd27, 0, none⟩)), .int .i32 loc], row (nd32) 211 #[.int .u32 0, .int .u32 0, .bool false, .bool false, .bool false], row (nd33) 211 #[.int .u32 0, .int .u32 0, .bool false, .bool false, .bool false], row (nd34) 228 #[.iface 209 (.pointer (some ⟨nd32, 0, none⟩)), .int .i32 loc, .string ⟨#[112, 114, 111, 116, 111, 116, 121, 112, 101]⟩, .int .i32 loc, .int .u8 0, .bool false, .bool false, .bool false], row (nd29) 35 #[.iface 65 (.pointer (some ⟨nd28, 0, none⟩)), .int .i32 loc], row (nd10) 51 (units key), row (nd11) 208 #[.slice (some ⟨nd10, 0, none⟩) key.size key.size, .int .i32 0, .bool false, .bool false, .bool false], row (nd12) 211 #[.int .u32 3, .int .u32 vm, .bool false, .bool false, .bool false], row (nd13) 71 #[.iface 209 (.pointer (some ⟨nd15, 0, none⟩)), .int .i32 loc, .slice (some ⟨nd16, 0, none⟩) 4 4, .int .i32 0, .int .u8 0, .int .u8 0, .bool false, .bool false], row (nd15) 211 #[.int .u32 0, .int .u32 1, .bool false, .bool false, .bool false], row (nd16) 35 #[.iface 225 (.pointer (some ⟨nd19, 0, none⟩)), .int .i32 loc, .iface 209 (.pointer (some ⟨nd18, 0, none⟩)), .int .i32 loc, .iface 206 (.pointer (some ⟨nd11, 0, none⟩)), .int .i32 loc, .iface 209 (.pointer (some ⟨nd12, 0, none⟩)), .int .i32 loc], row (nd17) 211 #[.int .u32 0, .int .u32 0, .bool false, .bool false, .bool false], row (nd18) 211 #[.int .u32 0, .int .u32 0, .bool false, .bool false, .bool false], row (nd19) 228 #[.iface 209 (.pointer (some ⟨nd17, 0, none⟩)), .int .i32 loc, .string ⟨#[112, 114, 111, 116, 111, 116, 121, 112, 101]⟩, .int .i32 loc, .int .u8 0, .bool false, .bool false, .bool false], row (nd14) 35 #[.iface 65 (.pointer (some ⟨nd13, 0, none⟩)), .int .i32 loc]] X := hO.sub [0, 1, 3, 4, 8, 9, 10, 11, 12, 13, 14, 15, 16, 17, 19, 20, 21, 22, 23, 24, 25, 26, 27, 28] (by decide)
  clear hO
  have hO := hN
  clear hN
  obtain ⟨c9_2_0, lt9_2, y9_2, -⟩ := hO.k1 2 rfl
  obtain ⟨c9_5_0, c9_5_1, c9_5_2, c9_5_3, c9_5_4, lt9_5, y9_5, -⟩ := hO.k5 5 rfl
  obtain ⟨c9_6_0, c9_6_1, c9_6_2, c9_6_3, c9_6_4, lt9_6, y9_6, -⟩ := hO.k5 6 rfl
  obtain ⟨c9_7_0, c9_7_1, c9_7_2, c9_7_3, c9_7_4, c9_7_5, c9_7_6, c9_7_7, lt9_7, y9_7, -⟩ := hO.k8 7 rfl
  obtain ⟨c9_8_0, c9_8_1, c9_8_2, c9_8_3, c9_8_4, lt9_8, y9_8, -⟩ := hO.k5 8 rfl
  obtain ⟨c9_9_0, c9_9_1, c9_9_2, c9_9_3, c9_9_4, c9_9_5, c9_9_6, c9_9_7, lt9_9, y9_9, -⟩ := hO.k8 9 rfl
  obtain ⟨c9_10_0, c9_10_1, c9_10_2, c9_10_3, c9_10_4, lt9_10, y9_10, -⟩ := hO.k5 10 rfl
  obtain ⟨c9_11_0, c9_11_1, c9_11_2, c9_11_3, c9_11_4, lt9_11, y9_11, -⟩ := hO.k5 11 rfl
  obtain ⟨c9_12_0, c9_12_1, c9_12_2, c9_12_3, c9_12_4, c9_12_5, c9_12_6, c9_12_7, lt9_12, y9_12, -⟩ := hO.k8 12 rfl
  obtain ⟨c9_13_0, c9_13_1, lt9_13, y9_13, -⟩ := hO.k2 13 rfl
  obtain ⟨c9_15_0, c9_15_1, c9_15_2, c9_15_3, c9_15_4, lt9_15, y9_15, -⟩ := hO.k5 15 rfl
  obtain ⟨c9_16_0, c9_16_1, c9_16_2, c9_16_3, c9_16_4, lt9_16, y9_16, -⟩ := hO.k5 16 rfl
  obtain ⟨c9_17_0, c9_17_1, c9_17_2, c9_17_3, c9_17_4, c9_17_5, c9_17_6, c9_17_7, lt9_17, y9_17, -⟩ := hO.k8 17 rfl
  obtain ⟨c9_18_0, c9_18_1, c9_18_2, c9_18_3, c9_18_4, lt9_18, y9_18, -⟩ := hO.k5 18 rfl
  obtain ⟨c9_19_0, c9_19_1, c9_19_2, c9_19_3, c9_19_4, c9_19_5, c9_19_6, c9_19_7, lt9_19, y9_19, -⟩ := hO.k8 19 rfl
  obtain ⟨c9_20_0, c9_20_1, c9_20_2, c9_20_3, c9_20_4, lt9_20, y9_20, -⟩ := hO.k5 20 rfl
  obtain ⟨c9_21_0, c9_21_1, c9_21_2, c9_21_3, c9_21_4, lt9_21, y9_21, -⟩ := hO.k5 21 rfl
  obtain ⟨c9_22_0, c9_22_1, c9_22_2, c9_22_3, c9_22_4, c9_22_5, c9_22_6, c9_22_7, lt9_22, y9_22, -⟩ := hO.k8 22 rfl
  obtain ⟨c9_23_0, c9_23_1, lt9_23, y9_23, -⟩ := hO.k2 23 rfl
  have HO := Lib.hid hO
  clear hO
  go_wp2_with (first | (with_reducible refine Own.stay (fn := Tryd.f3) ?_) | (first | (go_at_call 8; go_in)))
  try with_reducible refine Own.Stay.mk ?_
  have hO := HO.out
  clear HO c9_2_0 lt9_2 y9_2 c9_5_0 c9_5_1 c9_5_2 c9_5_3 c9_5_4 lt9_5 y9_5 c9_6_0 c9_6_1 c9_6_2 c9_6_3 c9_6_4 lt9_6 y9_6 c9_7_0 c9_7_1 c9_7_2 c9_7_3 c9_7_4 c9_7_5 c9_7_6 c9_7_7 lt9_7 y9_7 c9_8_0 c9_8_1 c9_8_2 c9_8_3 c9_8_4 lt9_8 y9_8 c9_9_0 c9_9_1 c9_9_2 c9_9_3 c9_9_4 c9_9_5 c9_9_6 c9_9_7 lt9_9 y9_9 c9_10_0 c9_10_1 c9_10_2 c9_10_3 c9_10_4 lt9_10 y9_10 c9_11_0 c9_11_1 c9_11_2 c9_11_3 c9_11_4 lt9_11 y9_11 c9_12_0 c9_12_1 c9_12_2 c9_12_3 c9_12_4 c9_12_5 c9_12_6 c9_12_7 lt9_12 y9_12 c9_13_0 c9_13_1 lt9_13 y9_13 c9_15_0 c9_15_1 c9_15_2 c9_15_3 c9_15_4 lt9_15 y9_15 c9_16_0 c9_16_1 c9_16_2 c9_16_3 c9_16_4 lt9_16 y9_16 c9_17_0 c9_17_1 c9_17_2 c9_17_3 c9_17_4 c9_17_5 c9_17_6 c9_17_7 lt9_17 y9_17 c9_18_0 c9_18_1 c9_18_2 c9_18_3 c9_18_4 lt9_18 y9_18 c9_19_0 c9_19_1 c9_19_2 c9_19_3 c9_19_4 c9_19_5 c9_19_6 c9_19_7 lt9_19 y9_19 c9_20_0 c9_20_1 c9_20_2 c9_20_3 c9_20_4 lt9_20 y9_20 c9_21_0 c9_21_1 c9_21_2 c9_21_3 c9_21_4 lt9_21 y9_21 c9_22_0 c9_22_1 c9_22_2 c9_22_3 c9_22_4 c9_22_5 c9_22_6 c9_22_7 lt9_22 y9_22 c9_23_0 c9_23_1 lt9_23 y9_23
  generalize hW : World.alloc _ _ = W37
  have hN : Own w0 W37 [row (u35.heap.size) 25 #[.int .u32 0, .int .u32 1], row (nd4) 193 ((newStftP nd3 nd5 nd6 nd7).setIfInBounds 106 (.slice (some ⟨nd21, 0, none⟩) 2 (2 + nd22))), ((nd5, .map #[⟨.string ⟨#[95, 95, 115, 117, 112, 101, 114, 83, 101, 116]⟩, .agg #[.int .i32 loc, .int .u32 0, .int .u32 1], 0⟩] 1) : Rw), row (B8) 31 #[.int .i32 loc], row (nd21) 56 (full symZ (symL ([sy ⟨#[70, 111, 111]⟩ 4, sy ⟨#[95, 95, 115, 117, 112, 101, 114, 83, 101, 116]⟩ 2])) nd22), row (nd25) 51 (units key), row (nd26) 208 #[.slice (some ⟨nd25, 0, none⟩) key.size key.size, .int .i32 0, .bool false, .bool false, .bool false], row (nd27) 211 #[.int .u32 3, .int .u32 vm, .bool false, .bool false, .bool false], row (nd28) 71 #[.iface 209 (.pointer (some ⟨nd30, 0, none⟩)), .int .i32 loc, .slice (some ⟨nd31, 0, none⟩) 4 4, .int .i32 0, .int .u8 0, .int .u8 0, .bool false, .bool false], row (nd30) 211 #[.int .u32 0, .int .u32 1, .bool false, .bool false, .bool false], row (nd31) 35 #[.iface 225 (.pointer (some ⟨nd34, 0, none⟩)), .int .i32 loc, .iface 209 (.pointer (some ⟨nd33, 0, none⟩)), .int .i32 loc, .iface 206 (.pointer (some ⟨nd26, 0, none⟩)), .int .i32 loc, .iface 209 (.pointer (some ⟨nd27, 0, none⟩)), .int .i32 loc], row (nd32) 211 #[.int .u32 0, .int .u32 0, .bool false, .bool false, .bool false], row (nd33) 211 #[.int .u32 0, .int .u32 0, .bool false, .bool false, .bool false], row (nd34) 228 #[.iface 209 (.pointer (some ⟨nd32, 0, none⟩)), .int .i32 loc, .string ⟨#[112, 114, 111, 116, 111, 116, 121, 112, 101]⟩, .int .i32 loc, .int .u8 0, .bool false, .bool false, .bool false], row (nd29) 35 #[.iface 65 (.pointer (some ⟨nd28, 0, none⟩)), .int .i32 loc], row (nd10) 51 (units key), row (nd11) 208 #[.slice (some ⟨nd10, 0, none⟩) key.size key.size, .int .i32 0, .bool false, .bool false, .bool false], row (nd12) 211 #[.int .u32 3, .int .u32 vm, .bool false, .bool false, .bool false], row (nd13) 71 #[.iface 209 (.pointer (some ⟨nd15, 0, none⟩)), .int .i32 loc, .slice (some ⟨nd16, 0, none⟩) 4 4, .int .i32 0, .int .u8 0, .int .u8 0, .bool false, .bool false], row (nd15) 211 #[.int .u32 0, .int .u32 1, .bool false, .bool false, .bool false], row (nd16) 35 #[.iface 225 (.pointer (some ⟨nd19, 0, none⟩)), .int .i32 loc, .iface 209 (.pointer (some ⟨nd18, 0, none⟩)), .int .i32 loc, .iface 206 (.pointer (some ⟨nd11, 0, none⟩)), .int .i32 loc, .iface 209 (.pointer (some ⟨nd12, 0, none⟩)), .int .i32 loc], row (nd17) 211 #[.int .u32 0, .int .u32 0, .bool false, .bool false, .bool false], row (nd18) 211 #[.int .u32 0, .int .u32 0, .bool false, .bool false, .bool false], row (nd19) 228 #[.iface 209 (.pointer (some ⟨nd17, 0, none⟩)), .int .i32 loc, .string ⟨#[112, 114, 111, 116, 111, 116, 121, 112, 101]⟩, .int .i32 loc, .int .u8 0, .bool false, .bool false, .bool false], row (nd14) 35 #[.iface 65 (.pointer (some ⟨nd13, 0, none⟩)), .int .i32 loc]] X := by
    rw [← hW]
    exact (hO).alloc' _ (u35.heap.size) (by simp)
  clear hW hO
  generalize u35.heap.size = B36 at hN ⊢
  have hO := hN
  clear hN
  have hL := hO.apart
  have hX := hO.apartX
  have HL := Lib.hid hL
  have HX := Lib.hid hX
  clear hL hX
  have hP9 := hO.pick [1, 2] (by decide)
  have h9_hsz : (#[⟨.string ⟨#[95, 95, 115, 117, 112, 101, 114, 83, 101, 116]⟩, .agg #[.int .i32 loc, .int .u32 0, .int .u32 1], 0⟩] : Array MapEntry).size = 1 := rfl
  have T9 := impCnt nd4 ((newStftP nd3 nd5 nd6 nd7).setIfInBounds 106 (.slice (some ⟨nd21, 0, none⟩) 2 (2 + nd22))) nd5 #[⟨.string ⟨#[95, 95, 115, 117, 112, 101, 114, 83, 101, 116]⟩, .agg #[.int .i32 loc, .int .u32 0, .int .u32 1], 0⟩] 1 1 _ _ _ hP9 (get_other (newStft_117 (nd3) (nd5) (nd6) (nd7)) (by omega) _) h9_hsz
  refine Calls.mono T9 ?_
  clear hP9 T9 h9_hsz
  rintro e u38 ⟨rfl, hQ⟩
  have hN : Own w0 u38 [row (nd4) 193 ((newStftP nd3 nd5 nd6 nd7).setIfInBounds 106 (.slice (some ⟨nd21, 0, none⟩) 2 (2 + nd22))), ((nd5, .map #[⟨.string ⟨#[95, 95, 115, 117, 112, 101, 114, 83, 101, 116]⟩, .agg #[.int .i32 loc, .int .u32 0, .int .u32 1], 0⟩] 1) : Rw), row (B36) 25 #[.int .u32 0, .int .u32 1], row (B8) 31 #[.int .i32 loc], row (nd21) 56 (full symZ (symL ([sy ⟨#[70, 111, 111]⟩ 4, sy ⟨#[95, 95, 115, 117, 112, 101, 114, 83, 101, 116]⟩ 2])) nd22), row (nd25) 51 (units key), row (nd26) 208 #[.slice (some ⟨nd25, 0, none⟩) key.size key.size, .int .i32 0, .bool false, .bool false, .bool false], row (nd27) 211 #[.int .u32 3, .int .u32 vm, .bool false, .bool false, .bool false], row (nd28) 71 #[.iface 209 (.pointer (some ⟨nd30, 0, none⟩)), .int .i32 loc, .slice (some ⟨nd31, 0, none⟩) 4 4, .int .i32 0, .int .u8 0, .int .u8 0, .bool false, .bool false], row (nd30) 211 #[.int .u32 0, .int .u32 1, .bool false, .bool false, .bool false], row (nd31) 35 #[.iface 225 (.pointer (some ⟨nd34, 0, none⟩)), .int .i32 loc, .iface 209 (.pointer (some ⟨nd33, 0, none⟩)), .int .i32 loc, .iface 206 (.pointer (some ⟨nd26, 0, none⟩)), .int .i32 loc, .iface 209 (.pointer (some ⟨nd27, 0, none⟩)), .int .i32 loc], row (nd32) 211 #[.int .u32 0, .int .u32 0, .bool false, .bool false, .bool false], row (nd33) 211 #[.int .u32 0, .int .u32 0, .bool false, .bool false, .bool false], row (nd34) 228 #[.iface 209 (.pointer (some ⟨nd32, 0, none⟩)), .int .i32 loc, .string ⟨#[112, 114, 111, 116, 111, 116, 121, 112, 101]⟩, .int .i32 loc, .int .u8 0, .bool false, .bool false, .bool false], row (nd29) 35 #[.iface 65 (.pointer (some ⟨nd28, 0, none⟩)), .int .i32 loc], row (nd10) 51 (units key), row (nd11) 208 #[.slice (some ⟨nd10, 0, none⟩) key.size key.size, .int .i32 0, .bool false, .bool false, .bool false], row (nd12) 211 #[.int .u32 3, .int .u32 vm, .bool false, .bool false, .bool false], row (nd13) 71 #[.iface 209 (.pointer (some ⟨nd15, 0, none⟩)), .int .i32 loc, .slice (some ⟨nd16, 0, none⟩) 4 4, .int .i32 0, .int .u8 0, .int .u8 0, .bool false, .bool false], row (nd15) 211 #[.int .u32 0, .int .u32 1, .bool false, .bool false, .bool false], row (nd16) 35 #[.iface 225 (.pointer (some ⟨nd19, 0, none⟩)), .int .i32 loc, .iface 209 (.pointer (some ⟨nd18, 0, none⟩)), .int .i32 loc, .iface 206 (.pointer (some ⟨nd11, 0, none⟩)), .int .i32 loc, .iface 209 (.pointer (some ⟨nd12, 0, none⟩)), .int .i32 loc], row (nd17) 211 #[.int .u32 0, .int .u32 0, .bool false, .bool false, .bool false], row (nd18) 211 #[.int .u32 0, .int .u32 0, .bool false, .bool false, .bool false], row (nd19) 228 #[.iface 209 (.pointer (some ⟨nd17, 0, none⟩)), .int .i32 loc, .string ⟨#[112, 114, 111, 116, 111, 116, 121, 112, 101]⟩, .int .i32 loc, .int .u8 0, .bool false, .bool false, .bool false], row (nd14) 35 #[.iface 65 (.pointer (some ⟨nd13, 0, none⟩)), .int .i32 loc]] X := hQ.back HL.out HX.out [0, 3, 4, 5, 6, 7, 8, 9, 10, 11, 12, 13, 14, 15, 16, 17, 18, 19, 20, 21, 22, 23, 24] (by decide) (by decide)
  clear hQ HL HX hO
  have hO := hN
  clear hN
  have hN : Own w0 u38 [row (nd4) 193 ((newStftP nd3 nd5 nd6 nd7).setIfInBounds 106 (.slice (some ⟨nd21, 0, none⟩) 2 (2 + nd22))), row (B36) 25 #[.int .u32 0, .int .u32 1], row (B8) 31 #[.int .i32 loc], row (nd21) 56 (full symZ (symL ([sy ⟨#[70, 111, 111]⟩ 4, sy ⟨#[95, 95, 115, 117, 112, 101, 114, 83, 101, 116]⟩ 2])) nd22), row (nd25) 51 (units key), row (nd26) 208 #[.slice (some ⟨nd25, 0, none⟩) key.size key.size, .int .i32 0, .bool false, .bool false, .bool false], row (nd27) 211 #[.int .u32 3, .int .u32 vm, .bool false, .bool false, .bool false], row (nd28) 71 #[.iface 209 (.pointer (some ⟨nd30, 0, none⟩)), .int .i32 loc, .slice (some ⟨nd31, 0, none⟩) 4 4, .int .i32 0, .int .u8 0, .int .u8 0, .bool false, .bool false], row (nd30) 211 #[.int .u32 0, .int .u32 1, .bool false, .bool false, .bool false], row (nd31) 35 #[.iface 225 (.pointer (some ⟨nd34, 0, none⟩)), .int .i32 loc, .iface 209 (.pointer (some ⟨nd33, 0, none⟩)), .int .i32 loc, .iface 206 (.pointer (some ⟨nd26, 0, none⟩)), .int .i32 loc, .iface 209 (.pointer (some ⟨nd27, 0, none⟩)), .int .i32 loc], row (nd32) 211 #[.int .u32 0, .int .u32 0, .bool false, .bool false, .bool false], row (nd33) 211 #[.int .u32 0, .int .u32 0, .bool false, .bool false, .bool false], row (nd34) 228 #[.iface 209 (.pointer (some ⟨nd32, 0, none⟩)), .int .i32 loc, .string ⟨#[112, 114, 111, 116, 111, 116, 121, 112, 101]⟩, .int .i32 loc, .int .u8 0, .bool false, .bool false, .bool false], row (nd29) 35 #[.iface 65 (.pointer (some ⟨nd28, 0, none⟩)), .int .i32 loc], row (nd10) 51 (units key), row (nd11) 208 #[.slice (some ⟨nd10, 0, none⟩) key.size key.size, .int .i32 0, .bool false, .bool false, .bool false], row (nd12) 211 #[.int .u32 3, .int .u32 vm, .bool false, .bool false, .bool false], row (nd13) 71 #[.iface 209 (.pointer (some ⟨nd15, 0, none⟩)), .int .i32 loc, .slice (some ⟨nd16, 0, none⟩) 4 4, .int .i32 0, .int .u8 0, .int .u8 0, .bool false, .bool false], row (nd15) 211 #[.int .u32 0, .int .u32 1, .bool false, .bool false, .bool false], row (nd16) 35 #[.iface 225 (.pointer (some ⟨nd19, 0, none⟩)), .int .i32 loc, .iface 209 (.pointer (some ⟨nd18, 0, none⟩)), .int .i32 loc, .iface 206 (.pointer (some ⟨nd11, 0, none⟩)), .int .i32 loc, .iface 209 (.pointer (some ⟨nd12, 0, none⟩)), .int .i32 loc], row (nd17) 211 #[.int .u32 0, .int .u32 0, .bool false, .bool false, .bool false], row (nd18) 211 #[.int .u32 0, .int .u32 0, .bool false, .bool false, .bool false], row (nd19) 228 #[.iface 209 (.pointer (some ⟨nd17, 0, none⟩)), .int .i32 loc, .string ⟨#[112, 114, 111, 116, 111, 116, 121, 112, 101]⟩, .int .i32 loc, .int .u8 0, .bool false, .bool false, .bool false], row (nd14) 35 #[.iface 65 (.pointer (some ⟨nd13, 0, none⟩)), .int .i32 loc]] X := hO.sub [0, 2, 3, 4, 5, 6, 7, 8, 9, 10, 11, 12, 13, 14, 15, 16, 17, 18, 19, 20, 21, 22, 23, 24] (by decide)
  clear hO
  have hO := hN
  clear hN
  obtain ⟨c9_1_0, c9_1_1, lt9_1, y9_1, -⟩ := hO.k2 1 rfl
  obtain ⟨c9_2_0, lt9_2, y9_2, -⟩ := hO.k1 2 rfl
  obtain ⟨c9_5_0, c9_5_1, c9_5_2, c9_5_3, c9_5_4, lt9_5, y9_5, -⟩ := hO.k5 5 rfl
  obtain ⟨c9_6_0, c9_6_1, c9_6_2, c9_6_3, c9_6_4, lt9_6, y9_6, -⟩ := hO.k5 6 rfl
  obtain ⟨c9_7_0, c9_7_1, c9_7_2, c9_7_3, c9_7_4, c9_7_5, c9_7_6, c9_7_7, lt9_7, y9_7, -⟩ := hO.k8 7 rfl
  obtain ⟨c9_8_0, c9_8_1, c9_8_2, c9_8_3, c9_8_4, lt9_8, y9_8, -⟩ := hO.k5 8 rfl
  obtain ⟨c9_9_0, c9_9_1, c9_9_2, c9_9_3, c9_9_4, c9_9_5, c9_9_6, c9_9_7, lt9_9, y9_9, -⟩ := hO.k8 9 rfl
  obtain ⟨c9_10_0, c9_10_1, c9_10_2, c9_10_3, c9_10_4, lt9_10, y9_10, -⟩ := hO.k5 10 rfl
  obtain ⟨c9_11_0, c9_11_1, c9_11_2, c9_11_3, c9_11_4, lt9_11, y9_11, -⟩ := hO.k5 11 rfl
  obtain ⟨c9_12_0, c9_12_1, c9_12_2, c9_12_3, c9_12_4, c9_12_5, c9_12_6, c9_12_7, lt9_12, y9_12, -⟩ := hO.k8 12 rfl
  obtain ⟨c9_13_0, c9_13_1, lt9_13, y9_13, -⟩ := hO.k2 13 rfl
  obtain ⟨c9_15_0, c9_15_1, c9_15_2, c9_15_3, c9_15_4, lt9_15, y9_15, -⟩ := hO.k5 15 rfl
  obtain ⟨c9_16_0, c9_16_1, c9_16_2, c9_16_3, c9_16_4, lt9_16, y9_16, -⟩ := hO.k5 16 rfl
  obtain ⟨c9_17_0, c9_17_1, c9_17_2, c9_17_3, c9_17_4, c9_17_5, c9_17_6, c9_17_7, lt9_17, y9_17, -⟩ := hO.k8 17 rfl
  obtain ⟨c9_18_0, c9_18_1, c9_18_2, c9_18_3, c9_18_4, lt9_18, y9_18, -⟩ := hO.k5 18 rfl
  obtain ⟨c9_19_0, c9_19_1, c9_19_2, c9_19_3, c9_19_4, c9_19_5, c9_19_6, c9_19_7, lt9_19, y9_19, -⟩ := hO.k8 19 rfl
  obtain ⟨c9_20_0, c9_20_1, c9_20_2, c9_20_3, c9_20_4, lt9_20, y9_20, -⟩ := hO.k5 20 rfl
  obtain ⟨c9_21_0, c9_21_1, c9_21_2, c9_21_3, c9_21_4, lt9_21, y9_21, -⟩ := hO.k5 21 rfl
  obtain ⟨c9_22_0, c9_22_1, c9_22_2, c9_22_3, c9_22_4, c9_22_5, c9_22_6, c9_22_7, lt9_22, y9_22, -⟩ := hO.k8 22 rfl
  obtain ⟨c9_23_0, c9_23_1, lt9_23, y9_23, -⟩ := hO.k2 23 rfl
  have HO := Lib.hid hO
  clear hO
  go_wp2_with (first | (with_reducible refine Own.stay (fn := Tryd.f3) ?_) | (first | (go_at_call 8; go_in)))
  try with_reducible refine Own.Stay.mk ?_
  have hO := HO.out
  clear HO c9_1_0 c9_1_1 lt9_1 y9_1 c9_2_0 lt9_2 y9_2 c9_5_0 c9_5_1 c9_5_2 c9_5_3 c9_5_4 lt9_5 y9_5 c9_6_0 c9_6_1 c9_6_2 c9_6_3 c9_6_4 lt9_6 y9_6 c9_7_0 c9_7_1 c9_7_2 c9_7_3 c9_7_4 c9_7_5 c9_7_6 c9_7_7 lt9_7 y9_7 c9_8_0 c9_8_1 c9_8_2 c9_8_3 c9_8_4 lt9_8 y9_8 c9_9_0 c9_9_1 c9_9_2 c9_9_3 c9_9_4 c9_9_5 c9_9_6 c9_9_7 lt9_9 y9_9 c9_10_0 c9_10_1 c9_10_2 c9_10_3 c9_10_4 lt9_10 y9_10 c9_11_0 c9_11_1 c9_11_2 c9_11_3 c9_11_4 lt9_11 y9_11 c9_12_0 c9_12_1 c9_12_2 c9_12_3 c9_12_4 c9_12_5 c9_12_6 c9_12_7 lt9_12 y9_12 c9_13_0 c9_13_1 lt9_13 y9_13 c9_15_0 c9_15_1 c9_15_2 c9_15_3 c9_15_4 lt9_15 y9_15 c9_16_0 c9_16_1 c9_16_2 c9_16_3 c9_16_4 lt9_16 y9_16 c9_17_0 c9_17_1 c9_17_2 c9_17_3 c9_17_4 c9_17_5 c9_17_6 c9_17_7 lt9_17 y9_17 c9_18_0 c9_18_1 c9_18_2 c9_18_3 c9_18_4 lt9_18 y9_18 c9_19_0 c9_19_1 c9_19_2 c9_19_3 c9_19_4 c9_19_5 c9_19_6 c9_19_7 lt9_19 y9_19 c9_20_0 c9_20_1 c9_20_2 c9_20_3 c9_20_4 lt9_20 y9_20 c9_21_0 c9_21_1 c9_21_2 c9_21_3 c9_21_4 lt9_21 y9_21 c9_22_0 c9_22_1 c9_22_2 c9_22_3 c9_22_4 c9_22_5 c9_22_6 c9_22_7 lt9_22 y9_22 c9_23_0 c9_23_1 lt9_23 y9_23
  have hL := hO.apart
  have hX := hO.apartX
  have HL := Lib.hid hL
  have HX := Lib.hid hX
  clear hL hX
  have hP9 := hO.pick [17, 18] (by decide)
  have T9 := helperCall4 nd13 nd15 nd16 loc loc 0 1 _ _ _ hP9 
  refine Calls.mono T9 ?_
  clear hP9 T9
  rintro e u39 ⟨rfl, hQ⟩
  have hN : Own w0 u39 [row (nd13) 71 #[.iface 209 (.pointer (some ⟨nd15, 0, none⟩)), .int .i32 loc, .slice (some ⟨nd16, 0, none⟩) 4 4, .int .i32 0, .int .u8 0, .int .u8 0, .bool false, .bool false], row (nd15) 211 #[.int .u32 0, .int .u32 1, .bool false, .bool false, .bool false], row (nd4) 193 ((newStftP nd3 nd5 nd6 nd7).setIfInBounds 106 (.slice (some ⟨nd21, 0, none⟩) 2 (2 + nd22))), row (B36) 25 #[.int .u32 0, .int .u32 1], row (B8) 31 #[.int .i32 loc], row (nd21) 56 (full symZ (symL ([sy ⟨#[70, 111, 111]⟩ 4, sy ⟨#[95, 95, 115, 117, 112, 101, 114, 83, 101, 116]⟩ 2])) nd22), row (nd25) 51 (units key), row (nd26) 208 #[.slice (some ⟨nd25, 0, none⟩) key.size key.size, .int .i32 0, .bool false, .bool false, .bool false], row (nd27) 211 #[.int .u32 3, .int .u32 vm, .bool false, .bool false, .bool false], row (nd28) 71 #[.iface 209 (.pointer (some ⟨nd30, 0, none⟩)), .int .i32 loc, .slice (some ⟨nd31, 0, none⟩) 4 4, .int .i32 0, .int .u8 0, .int .u8 0, .bool false, .bool false], row (nd30) 211 #[.int .u32 0, .int .u32 1, .bool false, .bool false, .bool false], row (nd31) 35 #[.iface 225 (.pointer (some ⟨nd34, 0, none⟩)), .int .i32 loc, .iface 209 (.pointer (some ⟨nd33, 0, none⟩)), .int .i32 loc, .iface 206 (.pointer (some ⟨nd26, 0, none⟩)), .int .i32 loc, .iface 209 (.pointer (some ⟨nd27, 0, none⟩)), .int .i32 loc], row (nd32) 211 #[.int .u32 0, .int .u32 0, .bool false, .bool false, .bool false], row (nd33) 211 #[.int .u32 0, .int .u32 0, .bool false, .bool false, .bool false], row (nd34) 228 #[.iface 209 (.pointer (some ⟨nd32, 0, none⟩)), .int .i32 loc, .string ⟨#[112, 114, 111, 116, 111, 116, 121, 112, 101]⟩, .int .i32 loc, .int .u8 0, .bool false, .bool false, .bool false], row (nd29) 35 #[.iface 65 (.pointer (some ⟨nd28, 0, none⟩)), .int .i32 loc], row (nd10) 51 (units key), row (nd11) 208 #[.slice (some ⟨nd10, 0, none⟩) key.size key.size, .int .i32 0, .bool false, .bool false, .bool false], row (nd12) 211 #[.int .u32 3, .int .u32 vm, .bool false, .bool false, .bool false], row (nd16) 35 #[.iface 225 (.pointer (some ⟨nd19, 0, none⟩)), .int .i32 loc, .iface 209 (.pointer (some ⟨nd18, 0, none⟩)), .int .i32 loc, .iface 206 (.pointer (some ⟨nd11, 0, none⟩)), .int .i32 loc, .iface 209 (.pointer (some ⟨nd12, 0, none⟩)), .int .i32 loc], row (nd17) 211 #[.int .u32 0, .int .u32 0, .bool false, .bool false, .bool false], row (nd18) 211 #[.int .u32 0, .int .u32 0, .bool false, .bool false, .bool false], row (nd19) 228 #[.iface 209 (.pointer (some ⟨nd17, 0, none⟩)), .int .i32 loc, .string ⟨#[112, 114, 111, 116, 111, 116, 121, 112, 101]⟩, .int .i32 loc, .int .u8 0, .bool false, .bool false, .bool false], row (nd14) 35 #[.iface 65 (.pointer (some ⟨nd13, 0, none⟩)), .int .i32 loc]] X := hQ.back HL.out HX.out [0, 1, 2, 3, 4, 5, 6, 7, 8, 9, 10, 11, 12, 13, 14, 15, 16, 19, 20, 21, 22, 23] (by decide) (by decide)
  clear hQ HL HX hO
  have hO := hN
  clear hN
  obtain ⟨c9_0_0, c9_0_1, c9_0_2, c9_0_3, c9_0_4, c9_0_5, c9_0_6, c9_0_7, lt9_0, y9_0, -⟩ := hO.k8 0 rfl
  obtain ⟨c9_1_0, c9_1_1, c9_1_2, c9_1_3, c9_1_4, lt9_1, y9_1, -⟩ := hO.k5 1 rfl
  obtain ⟨c9_3_0, c9_3_1, lt9_3, y9_3, -⟩ := hO.k2 3 rfl
  obtain ⟨c9_4_0, lt9_4, y9_4, -⟩ := hO.k1 4 rfl
  obtain ⟨c9_7_0, c9_7_1, c9_7_2, c9_7_3, c9_7_4, lt9_7, y9_7, -⟩ := hO.k5 7 rfl
  obtain ⟨c9_8_0, c9_8_1, c9_8_2, c9_8_3, c9_8_4, lt9_8, y9_8, -⟩ := hO.k5 8 rfl
  obtain ⟨c9_9_0, c9_9_1, c9_9_2, c9_9_3, c9_9_4, c9_9_5, c9_9_6, c9_9_7, lt9_9, y9_9, -⟩ := hO.k8 9 rfl
  obtain ⟨c9_10_0, c9_10_1, c9_10_2, c9_10_3, c9_10_4, lt9_10, y9_10, -⟩ := hO.k5 10 rfl
  obtain ⟨c9_11_0, c9_11_1, c9_11_2, c9_11_3, c9_11_4, c9_11_5, c9_11_6, c9_11_7, lt9_11, y9_11, -⟩ := hO.k8 11 rfl
  obtain ⟨c9_12_0, c9_12_1, c9_12_2, c9_12_3, c9_12_4, lt9_12, y9_12, -⟩ := hO.k5 12 rfl
  obtain ⟨c9_13_0, c9_13_1, c9_13_2, c9_13_3, c9_13_4, lt9_13, y9_13, -⟩ := hO.k5 13 rfl
  obtain ⟨c9_14_0, c9_14_1, c9_14_2, c9_14_3, c9_14_4, c9_14_5, c9_14_6, c9_14_7, lt9_14, y9_14, -⟩ := hO.k8 14 rfl
  obtain ⟨c9_15_0, c9_15_1, lt9_15, y9_15, -⟩ := hO.k2 15 rfl
  obtain ⟨c9_17_0, c9_17_1, c9_17_2, c9_17_3, c9_17_4, lt9_17, y9_17, -⟩ := hO.k5 17 rfl
  obtain ⟨c9_18_0, c9_18_1, c9_18_2, c9_18_3, c9_18_4, lt9_18, y9_18, -⟩ := hO.k5 18 rfl
  obtain ⟨c9_19_0, c9_19_1, c9_19_2, c9_19_3, c9_19_4, c9_19_5, c9_19_6, c9_19_7, lt9_19, y9_19, -⟩ := hO.k8 19 rfl
  obtain ⟨c9_20_0, c9_20_1, c9_20_2, c9_20_3, c9_20_4, lt9_20, y9_20, -⟩ := hO.k5 20 rfl
  obtain ⟨c9_21_0, c9_21_1, c9_21_2, c9_21_3, c9_21_4, lt9_21, y9_21, -⟩ := hO.k5 21 rfl
  obtain ⟨c9_22_0, c9_22_1, c9_22_2, c9_22_3, c9_22_4, c9_22_5, c9_22_6, c9_22_7, lt9_22, y9_22, -⟩ := hO.k8 22 rfl
  obtain ⟨c9_23_0, c9_23_1, lt9_23, y9_23, -⟩ := hO.k2 23 rfl
  have HO := Lib.hid hO
  clear hO
  go_wp2_with (first | (with_reducible refine Own.stay (fn := Tryd.f3) ?_) | (first | (go_at_call 8; go_in)))
  try with_reducible refine Own.Stay.mk ?_
  have hO := HO.out
  clear HO c9_0_0 c9_0_1 c9_0_2 c9_0_3 c9_0_4 c9_0_5 c9_0_6 c9_0_7 lt9_0 y9_0 c9_1_0 c9_1_1 c9_1_2 c9_1_3 c9_1_4 lt9_1 y9_1 c9_3_0 c9_3_1 lt9_3 y9_3 c9_4_0 lt9_4 y9_4 c9_7_0 c9_7_1 c9_7_2 c9_7_3 c9_7_4 lt9_7 y9_7 c9_8_0 c9_8_1 c9_8_2 c9_8_3 c9_8_4 lt9_8 y9_8 c9_9_0 c9_9_1 c9_9_2 c9_9_3 c9_9_4 c9_9_5 c9_9_6 c9_9_7 lt9_9 y9_9 c9_10_0 c9_10_1 c9_10_2 c9_10_3 c9_10_4 lt9_10 y9_10 c9_11_0 c9_11_1 c9_11_2 c9_11_3 c9_11_4 c9_11_5 c9_11_6 c9_11_7 lt9_11 y9_11 c9_12_0 c9_12_1 c9_12_2 c9_12_3 c9_12_4 lt9_12 y9_12 c9_13_0 c9_13_1 c9_13_2 c9_13_3 c9_13_4 lt9_13 y9_13 c9_14_0 c9_14_1 c9_14_2 c9_14_3 c9_14_4 c9_14_5 c9_14_6 c9_14_7 lt9_14 y9_14 c9_15_0 c9_15_1 lt9_15 y9_15 c9_17_0 c9_17_1 c9_17_2 c9_17_3 c9_17_4 lt9_17 y9_17 c9_18_0 c9_18_1 c9_18_2 c9_18_3 c9_18_4 lt9_18 y9_18 c9_19_0 c9_19_1 c9_19_2 c9_19_3 c9_19_4 c9_19_5 c9_19_6 c9_19_7 lt9_19 y9_19 c9_20_0 c9_20_1 c9_20_2 c9_20_3 c9_20_4 lt9_20 y9_20 c9_21_0 c9_21_1 c9_21_2 c9_21_3 c9_21_4 lt9_21 y9_21 c9_22_0 c9_22_1 c9_22_2 c9_22_3 c9_22_4 c9_22_5 c9_22_6 c9_22_7 lt9_22 y9_22 c9_23_0 c9_23_1 lt9_23 y9_23
  have hL := hO.apart
  have hX := hO.apartX
  have HL := Lib.hid hL
  have HX := Lib.hid hX
  clear hL hX
  have hP9 := hO.pick [9, 10] (by decide)
  have T9 := helperCall4 nd28 nd30 nd31 loc loc 0 1 _ _ _ hP9 
  refine Calls.mono T9 ?_
  clear hP9 T9
  rintro e u40 ⟨rfl, hQ⟩
  have hN : Own w0 u40 [row (nd28) 71 #[.iface 209 (.pointer (some ⟨nd30, 0, none⟩)), .int .i32 loc, .slice (some ⟨nd31, 0, none⟩) 4 4, .int .i32 0, .int .u8 0, .int .u8 0, .bool false, .bool false], row (nd30) 211 #[.int .u32 0, .int .u32 1, .bool false, .bool false, .bool false], row (nd13) 71 #[.iface 209 (.pointer (some ⟨nd15, 0, none⟩)), .int .i32 loc, .slice (some ⟨nd16, 0, none⟩) 4 4, .int .i32 0, .int .u8 0, .int .u8 0, .bool false, .bool false], row (nd15) 211 #[.int .u32 0, .int .u32 1, .bool false, .bool false, .bool false], row (nd4) 193 ((newStftP nd3 nd5 nd6 nd7).setIfInBounds 106 (.slice (some ⟨nd21, 0, none⟩) 2 (2 + nd22))), row (B36) 25 #[.int .u32 0, .int .u32 1], row (B8) 31 #[.int .i32 loc], row (nd21) 56 (full symZ (symL ([sy ⟨#[70, 111, 111]⟩ 4, sy ⟨#[95, 95, 115, 117, 112, 101, 114, 83, 101, 116]⟩ 2])) nd22), row (nd25) 51 (units key), row (nd26) 208 #[.slice (some ⟨nd25, 0, none⟩) key.size key.size, .int .i32 0, .bool false, .bool false, .bool false], row (nd27) 211 #[.int .u32 3, .int .u32 vm, .bool false, .bool false, .bool false], row (nd31) 35 #[.iface 225 (.pointer (some ⟨nd34, 0, none⟩)), .int .i32 loc, .iface 209 (.pointer (some ⟨nd33, 0, none⟩)), .int .i32 loc, .iface 206 (.pointer (some ⟨nd26, 0, none⟩)), .int .i32 loc, .iface 209 (.pointer (some ⟨nd27, 0, none⟩)), .int .i32 loc], row (nd32) 211 #[.int .u32 0, .int .u32 0, .bool false, .bool false, .bool false], row (nd33) 211 #[.int .u32 0, .int .u32 0, .bool false, .bool false, .bool false], row (nd34) 228 #[.iface 209 (.pointer (some ⟨nd32, 0, none⟩)), .int .i32 loc, .string ⟨#[112, 114, 111, 116, 111, 116, 121, 112, 101]⟩, .int .i32 loc, .int .u8 0, .bool false, .bool false, .bool false], row (nd29) 35 #[.iface 65 (.pointer (some ⟨nd28, 0, none⟩)), .int .i32 loc], row (nd10) 51 (units key), row (nd11) 208 #[.slice (some ⟨nd10, 0, none⟩) key.size key.size, .int .i32 0, .bool false, .bool false, .bool false], row (nd12) 211 #[.int .u32 3, .int .u32 vm, .bool false, .bool false, .bool false], row (nd16) 35 #[.iface 225 (.pointer (some ⟨nd19, 0, none⟩)), .int .i32 loc, .iface 209 (.pointer (some ⟨nd18, 0, none⟩)), .int .i32 loc, .iface 206 (.pointer (some ⟨nd11, 0, none⟩)), .int .i32 loc, .iface 209 (.pointer (some ⟨nd12, 0, none⟩)), .int .i32 loc], row (nd17) 211 #[.int .u32 0, .int .u32 0, .bool false, .bool false, .bool false], row (nd18) 211 #[.int .u32 0, .int .u32 0, .bool false, .bool false, .bool false], row (nd19) 228 #[.iface 209 (.pointer (some ⟨nd17, 0, none⟩)), .int .i32 loc, .string ⟨#[112, 114, 111, 116, 111, 116, 121, 112, 101]⟩, .int .i32 loc, .int .u8 0, .bool false, .bool false, .bool false], row (nd14) 35 #[.iface 65 (.pointer (some ⟨nd13, 0, none⟩)), .int .i32 loc]] X := hQ.back HL.out HX.out [0, 1, 2, 3, 4, 5, 6, 7, 8, 11, 12, 13, 14, 15, 16, 17, 18, 19, 20, 21, 22, 23] (by decide) (by decide)
  clear hQ HL HX hO
  have hO := hN
  clear hN
  obtain ⟨c9_0_0, c9_0_1, c9_0_2, c9_0_3, c9_0_4, c9_0_5, c9_0_6, c9_0_7, lt9_0, y9_0, -⟩ := hO.k8 0 rfl
  obtain ⟨c9_1_0, c9_1_1, c9_1_2, c9_1_3, c9_1_4, lt9_1, y9_1, -⟩ := hO.k5 1 rfl
  obtain ⟨c9_2_0, c9_2_1, c9_2_2, c9_2_3, c9_2_4, c9_2_5, c9_2_6, c9_2_7, lt9_2, y9_2, -⟩ := hO.k8 2 rfl
  obtain ⟨c9_3_0, c9_3_1, c9_3_2, c9_3_3, c9_3_4, lt9_3, y9_3, -⟩ := hO.k5 3 rfl
  obtain ⟨c9_5_0, c9_5_1, lt9_5, y9_5, -⟩ := hO.k2 5 rfl
  obtain ⟨c9_6_0, lt9_6, y9_6, -⟩ := hO.k1 6 rfl
  obtain ⟨c9_9_0, c9_9_1, c9_9_2, c9_9_3, c9_9_4, lt9_9, y9_9, -⟩ := hO.k5 9 rfl
  obtain ⟨c9_10_0, c9_10_1, c9_10_2, c9_10_3, c9_10_4, lt9_10, y9_10, -⟩ := hO.k5 10 rfl
  obtain ⟨c9_11_0, c9_11_1, c9_11_2, c9_11_3, c9_11_4, c9_11_5, c9_11_6, c9_11_7, lt9_11, y9_11, -⟩ := hO.k8 11 rfl
  obtain ⟨c9_12_0, c9_12_1, c9_12_2, c9_12_3, c9_12_4, lt9_12, y9_12, -⟩ := hO.k5 12 rfl
  obtain ⟨c9_13_0, c9_13_1, c9_13_2, c9_13_3, c9_13_4, lt9_13, y9_13, -⟩ := hO.k5 13 rfl
  obtain ⟨c9_14_0, c9_14_1, c9_14_2, c9_14_3, c9_14_4, c9_14_5, c9_14_6, c9_14_7, lt9_14, y9_14, -⟩ := hO.k8 14 rfl
  obtain ⟨c9_15_0, c9_15_1, lt9_15, y9_15, -⟩ := hO.k2 15 rfl
  obtain ⟨c9_17_0, c9_17_1, c9_17_2, c9_17_3, c9_17_4, lt9_17, y9_17, -⟩ := hO.k5 17 rfl
  obtain ⟨c9_18_0, c9_18_1, c9_18_2, c9_18_3, c9_18_4, lt9_18, y9_18, -⟩ := hO.k5 18 rfl
  obtain ⟨c9_19_0, c9_19_1, c9_19_2, c9_19_3, c9_19_4, c9_19_5, c9_19_6, c9_19_7, lt9_19, y9_19, -⟩ := hO.k8 19 rfl
  obtain ⟨c9_20_0, c9_20_1, c9_20_2, c9_20_3, c9_20_4, lt9_20, y9_20, -⟩ := hO.k5 20 rfl
  obtain ⟨c9_21_0, c9_21_1, c9_21_2, c9_21_3, c9_21_4, lt9_21, y9_21, -⟩ := hO.k5 21 rfl
  obtain ⟨c9_22_0, c9_22_1, c9_22_2, c9_22_3, c9_22_4, c9_22_5, c9_22_6, c9_22_7, lt9_22, y9_22, -⟩ := hO.k8 22 rfl
  obtain ⟨c9_23_0, c9_23_1, lt9_23, y9_23, -⟩ := hO.k2 23 rfl
  have HO := Lib.hid hO
  clear hO
  go_wp2_with (first | (with_reducible refine Own.stay (fn := Tryd.f3) ?_) | (first | (go_at_call 8; go_in)))
  try with_reducible refine Own.Stay.mk ?_
  have hO := HO.out
  clear HO c9_0_0 c9_0_1 c9_0_2 c9_0_3 c9_0_4 c9_0_5 c9_0_6 c9_0_7 lt9_0 y9_0 c9_1_0 c9_1_1 c9_1_2 c9_1_3 c9_1_4 lt9_1 y9_1 c9_2_0 c9_2_1 c9_2_2 c9_2_3 c9_2_4 c9_2_5 c9_2_6 c9_2_7 lt9_2 y9_2 c9_3_0 c9_3_1 c9_3_2 c9_3_3 c9_3_4 lt9_3 y9_3 c9_5_0 c9_5_1 lt9_5 y9_5 c9_6_0 lt9_6 y9_6 c9_9_0 c9_9_1 c9_9_2 c9_9_3 c9_9_4 lt9_9 y9_9 c9_10_0 c9_10_1 c9_10_2 c9_10_3 c9_10_4 lt9_10 y9_10 c9_11_0 c9_11_1 c9_11_2 c9_11_3 c9_11_4 c9_11_5 c9_11_6 c9_11_7 lt9_11 y9_11 c9_12_0 c9_12_1 c9_12_2 c9_12_3 c9_12_4 lt9_12 y9_12 c9_13_0 c9_13_1 c9_13_2 c9_13_3 c9_13_4 lt9_13 y9_13 c9_14_0 c9_14_1 c9_14_2 c9_14_3 c9_14_4 c9_14_5 c9_14_6 c9_14_7 lt9_14 y9_14 c9_15_0 c9_15_1 lt9_15 y9_15 c9_17_0 c9_17_1 c9_17_2 c9_17_3 c9_17_4 lt9_17 y9_17 c9_18_0 c9_18_1 c9_18_2 c9_18_3 c9_18_4 lt9_18 y9_18 c9_19_0 c9_19_1 c9_19_2 c9_19_3 c9_19_4 c9_19_5 c9_19_6 c9_19_7 lt9_19 y9_19 c9_20_0 c9_20_1 c9_20_2 c9_20_3 c9_20_4 lt9_20 y9_20 c9_21_0 c9_21_1 c9_21_2 c9_21_3 c9_21_4 lt9_21 y9_21 c9_22_0 c9_22_1 c9_22_2 c9_22_3 c9_22_4 c9_22_5 c9_22_6 c9_22_7 lt9_22 y9_22 c9_23_0 c9_23_1 lt9_23 y9_23
  have hL := hO.apart
  have hX := hO.apartX
  have HL := Lib.hid hL
  have HX := Lib.hid hX
  clear hL hX
  have hP9 := hO.pick [4] (by decide)
  have T9 := symsO nd4 ((newStftP nd3 nd5 nd6 nd7).setIfInBounds 106 (.slice (some ⟨nd21, 0, none⟩) 2 (2 + nd22))) nd21 2 (2 + nd22) _ _ _ hP9 (get_set (newStft_106 (nd3) (nd5) (nd6) (nd7)) _)
  refine Calls.mono T9 ?_
  clear hP9 T9
  rintro e u41 ⟨rfl, hQ⟩
  have hN : Own w0 u41 [row (nd4) 193 ((newStftP nd3 nd5 nd6 nd7).setIfInBounds 106 (.slice (some ⟨nd21, 0, none⟩) 2 (2 + nd22))), row (nd28) 71 #[.iface 209 (.pointer (some ⟨nd30, 0, none⟩)), .int .i32 loc, .slice (some ⟨nd31, 0, none⟩) 4 4, .int .i32 0, .int .u8 0, .int .u8 0, .bool false, .bool false], row (nd30) 211 #[.int .u32 0, .int .u32 1, .bool false, .bool false, .bool false], row (nd13) 71 #[.iface 209 (.pointer (some ⟨nd15, 0, none⟩)), .int .i32 loc, .slice (some ⟨nd16, 0, none⟩) 4 4, .int .i32 0, .int .u8 0, .int .u8 0, .bool false, .bool false], row (nd15) 211 #[.int .u32 0, .int .u32 1, .bool false, .bool false, .bool false], row (B36) 25 #[.int .u32 0, .int .u32 1], row (B8) 31 #[.int .i32 loc], row (nd21) 56 (full symZ (symL ([sy ⟨#[70, 111, 111]⟩ 4, sy ⟨#[95, 95, 115, 117, 112, 101, 114, 83, 101, 116]⟩ 2])) nd22), row (nd25) 51 (units key), row (nd26) 208 #[.slice (some ⟨nd25, 0, none⟩) key.size key.size, .int .i32 0, .bool false, .bool false, .bool false], row (nd27) 211 #[.int .u32 3, .int .u32 vm, .bool false, .bool false, .bool false], row (nd31) 35 #[.iface 225 (.pointer (some ⟨nd34, 0, none⟩)), .int .i32 loc, .iface 209 (.pointer (some ⟨nd33, 0, none⟩)), .int .i32 loc, .iface 206 (.pointer (some ⟨nd26, 0, none⟩)), .int .i32 loc, .iface 209 (.pointer (some ⟨nd27, 0, none⟩)), .int .i32 loc], row (nd32) 211 #[.int .u32 0, .int .u32 0, .bool false, .bool false, .bool false], row (nd33) 211 #[.int .u32 0, .int .u32 0, .bool false, .bool false, .bool false], row (nd34) 228 #[.iface 209 (.pointer (some ⟨nd32, 0, none⟩)), .int .i32 loc, .string ⟨#[112, 114, 111, 116, 111, 116, 121, 112, 101]⟩, .int .i32 loc, .int .u8 0, .bool false, .bool false, .bool false], row (nd29) 35 #[.iface 65 (.pointer (some ⟨nd28, 0, none⟩)), .int .i32 loc], row (nd10) 51 (units key), row (nd11) 208 #[.slice (some ⟨nd10, 0, none⟩) key.size key.size, .int .i32 0, .bool false, .bool false, .bool false], row (nd12) 211 #[.int .u32 3, .int .u32 vm, .bool false, .bool false, .bool false], row (nd16) 35 #[.iface 225 (.pointer (some ⟨nd19, 0, none⟩)), .int .i32 loc, .iface 209 (.pointer (some ⟨nd18, 0, none⟩)), .int .i32 loc, .iface 206 (.pointer (some ⟨nd11, 0, none⟩)), .int .i32 loc, .iface 209 (.pointer (some ⟨nd12, 0, none⟩)), .int .i32 loc], row (nd17) 211 #[.int .u32 0, .int .u32 0, .bool false, .bool false, .bool false], row (nd18) 211 #[.int .u32 0, .int .u32 0, .bool false, .bool false, .bool false], row (nd19) 228 #[.iface 209 (.pointer (some ⟨nd17, 0, none⟩)), .int .i32 loc, .string ⟨#[112, 114, 111, 116, 111, 116, 121, 112, 101]⟩, .int .i32 loc, .int .u8 0, .bool false, .bool false, .bool false], row (nd14) 35 #[.iface 65 (.pointer (some ⟨nd13, 0, none⟩)), .int .i32 loc]] X := hQ.back HL.out HX.out [0, 1, 2, 3, 5, 6, 7, 8, 9, 10, 11, 12, 13, 14, 15, 16, 17, 18, 19, 20, 21, 22, 23] (by decide) (by decide)
  clear hQ HL HX hO
  have hO := hN
  clear hN
  obtain ⟨c9_1_0, c9_1_1, c9_1_2, c9_1_3, c9_1_4, c9_1_5, c9_1_6, c9_1_7, lt9_1, y9_1, -⟩ := hO.k8 1 rfl
  obtain ⟨c9_2_0, c9_2_1, c9_2_2, c9_2_3, c9_2_4, lt9_2, y9_2, -⟩ := hO.k5 2 rfl
  obtain ⟨c9_3_0, c9_3_1, c9_3_2, c9_3_3, c9_3_4, c9_3_5, c9_3_6, c9_3_7, lt9_3, y9_3, -⟩ := hO.k8 3 rfl
  obtain ⟨c9_4_0, c9_4_1, c9_4_2, c9_4_3, c9_4_4, lt9_4, y9_4, -⟩ := hO.k5 4 rfl
  obtain ⟨c9_5_0, c9_5_1, lt9_5, y9_5, -⟩ := hO.k2 5 rfl
  obtain ⟨c9_6_0, lt9_6, y9_6, -⟩ := hO.k1 6 rfl
  obtain ⟨c9_9_0, c9_9_1, c9_9_2, c9_9_3, c9_9_4, lt9_9, y9_9, -⟩ := hO.k5 9 rfl
  obtain ⟨c9_10_0, c9_10_1, c9_10_2, c9_10_3, c9_10_4, lt9_10, y9_10, -⟩ := hO.k5 10 rfl
  obtain ⟨c9_11_0, c9_11_1, c9_11_2, c9_11_3, c9_11_4, c9_11_5, c9_11_6, c9_11_7, lt9_11, y9_11, -⟩ := hO.k8 11 rfl
  obtain ⟨c9_12_0, c9_12_1, c9_12_2, c9_12_3, c9_12_4, lt9_12, y9_12, -⟩ := hO.k5 12 rfl
  obtain ⟨c9_13_0, c9_13_1, c9_13_2, c9_13_3, c9_13_4, lt9_13, y9_13, -⟩ := hO.k5 13 rfl
  obtain ⟨c9_14_0, c9_14_1, c9_14_2, c9_14_3, c9_14_4, c9_14_5, c9_14_6, c9_14_7, lt9_14, y9_14, -⟩ := hO.k8 14 rfl
  obtain ⟨c9_15_0, c9_15_1, lt9_15, y9_15, -⟩ := hO.k2 15 rfl
  obtain ⟨c9_17_0, c9_17_1, c9_17_2, c9_17_3, c9_17_4, lt9_17, y9_17, -⟩ := hO.k5 17 rfl
  obtain ⟨c9_18_0, c9_18_1, c9_18_2, c9_18_3, c9_18_4, lt9_18, y9_18, -⟩ := hO.k5 18 rfl
  obtain ⟨c9_19_0, c9_19_1, c9_19_2, c9_19_3, c9_19_4, c9_19_5, c9_19_6, c9_19_7, lt9_19, y9_19, -⟩ := hO.k8 19 rfl
  obtain ⟨c9_20_0, c9_20_1, c9_20_2, c9_20_3, c9_20_4, lt9_20, y9_20, -⟩ := hO.k5 20 rfl
  obtain ⟨c9_21_0, c9_21_1, c9_21_2, c9_21_3, c9_21_4, lt9_21, y9_21, -⟩ := hO.k5 21 rfl
  obtain ⟨c9_22_0, c9_22_1, c9_22_2, c9_22_3, c9_22_4, c9_22_5, c9_22_6, c9_22_7, lt9_22, y9_22, -⟩ := hO.k8 22 rfl
  obtain ⟨c9_23_0, c9_23_1, lt9_23, y9_23, -⟩ := hO.k2 23 rfl
  have HO := Lib.hid hO
  clear hO
  go_wp2_with (first | (with_reducible refine Own.stay (fn := Tryd.f3) ?_) | (first | (go_at_call 8; go_in)))
  try with_reducible refine Own.Stay.mk ?_
  have hO := HO.out
  clear HO c9_1_0 c9_1_1 c9_1_2 c9_1_3 c9_1_4 c9_1_5 c9_1_6 c9_1_7 lt9_1 y9_1 c9_2_0 c9_2_1 c9_2_2 c9_2_3 c9_2_4 lt9_2 y9_2 c9_3_0 c9_3_1 c9_3_2 c9_3_3 c9_3_4 c9_3_5 c9_3_6 c9_3_7 lt9_3 y9_3 c9_4_0 c9_4_1 c9_4_2 c9_4_3 c9_4_4 lt9_4 y9_4 c9_5_0 c9_5_1 lt9_5 y9_5 c9_6_0 lt9_6 y9_6 c9_9_0 c9_9_1 c9_9_2 c9_9_3 c9_9_4 lt9_9 y9_9 c9_10_0 c9_10_1 c9_10_2 c9_10_3 c9_10_4 lt9_10 y9_10 c9_11_0 c9_11_1 c9_11_2 c9_11_3 c9_11_4 c9_11_5 c9_11_6 c9_11_7 lt9_11 y9_11 c9_12_0 c9_12_1 c9_12_2 c9_12_3 c9_12_4 lt9_12 y9_12 c9_13_0 c9_13_1 c9_13_2 c9_13_3 c9_13_4 lt9_13 y9_13 c9_14_0 c9_14_1 c9_14_2 c9_14_3 c9_14_4 c9_14_5 c9_14_6 c9_14_7 lt9_14 y9_14 c9_15_0 c9_15_1 lt9_15 y9_15 c9_17_0 c9_17_1 c9_17_2 c9_17_3 c9_17_4 lt9_17 y9_17 c9_18_0 c9_18_1 c9_18_2 c9_18_3 c9_18_4 lt9_18 y9_18 c9_19_0 c9_19_1 c9_19_2 c9_19_3 c9_19_4 c9_19_5 c9_19_6 c9_19_7 lt9_19 y9_19 c9_20_0 c9_20_1 c9_20_2 c9_20_3 c9_20_4 lt9_20 y9_20 c9_21_0 c9_21_1 c9_21_2 c9_21_3 c9_21_4 lt9_21 y9_21 c9_22_0 c9_22_1 c9_22_2 c9_22_3 c9_22_4 c9_22_5 c9_22_6 c9_22_7 lt9_22 y9_22 c9_23_0 c9_23_1 lt9_23 y9_23
  have hL := hO.apart
  have hX := hO.apartX
  have HL := Lib.hid hL
  have HX := Lib.hid hX
  clear hL hX
  have hP9 := hO.pick [7] (by decide)
  generalize hX9_42 : Own.Rest _ _ X = X9_42 at hP9
  replace hP9 : Own w0 u41 [row (nd21) 56 (full symZ (symL ([sy ⟨#[70, 111, 111]⟩ 4, sy ⟨#[95, 95, 115, 117, 112, 101, 114, 83, 101, 116]⟩ 2])) nd22)] X9_42 := hP9
  clear hO
  have hO := hP9
  clear hP9
  have st9 := rlaw13ri9_st nd21 nd22
  refine wp_region_own (e := rlaw13ri9E nd21 nd22) (anc := rlaw13ri9Anc) (G := (fun L9 α u9 => OwnF w0 u9 (act rlaw13ri9Cnt 1 L9) (rlaw13ri9R nd21 nd22 L9 α) X9_42)) (by kernel_rfl) (by kernel_rfl) (by kernel_rfl) (by kernel_rfl) (rlaw13ri9_he nd21 nd22) ?_ (RunsAll.all ?_) ?_
  · have hp : ∀ i, act rlaw13ri9Cnt 1 (fun _ => false) i → i ∈ [999] := by
      intro i hi
      have h9 : i % 1000 = 999 := by
        by_cases h : i % 1000 = 999
        · exact h
        · exact absurd (act_lt hi h) (by simp)
      unfold act at hi
      rw [if_pos h9] at hi
      simp only [List.mem_cons, List.not_mem_nil, or_false]
      omega
    refine hO.drew.family (fun i hi => ?_) (fun i j hi hj hij => ?_)
    · have := hp i hi
      simp only [List.mem_cons, List.not_mem_nil, or_false] at this
      subst this
      rfl
    · have h1 := hp i hi
      have h2 := hp j hj
      simp only [List.mem_cons, List.not_mem_nil, or_false] at h1 h2
      omega
  · refine ⟨?_, ?_, ?_, ?_, ?_, ?_, ?_, ?_, ?_, ?_, ?_, ?_, ?_, ?_, ?_, trivial⟩
    · intro L9 α a9 u9 K9 hL hcl hA hG hS h0 hK
      replace hL : L9 0 = false := hL
      have q23 : a9.tmps[23]? = some (.slice (some ⟨nd21, 0, none⟩) 2 (2 + nd22)) := (h0 23 (by kernel_rfl)).trans rfl
      have s23 := Rega.eval_of q23
      go_simp
      exact hK _ α _ (fun _ _ => rfl) rfl (step_same (st9) hL hcl rfl rfl hG)
    · intro L9 α a9 u9 K9 hL hcl hA hG hS h0 hK
      replace hL : L9 1 = false := hL
      have q104 : a9.tmps[104]? = some (.slice (some ⟨nd21, 0, none⟩) 2 (2 + nd22)) := hS 0 104 (by decide) rfl (by show 104 < 118; decide)
      have s104 := Rega.eval_of q104
      go_simp
      exact hK _ α _ (fun _ _ => rfl) rfl (step_same (st9) hL hcl rfl rfl hG)
    · intro L9 α a9 u9 K9 hL hcl hA hG hS h0 hK
      replace hL : L9 2 = false := hL
      have q105 : a9.tmps[105]? = some (.pointer (some ⟨nd21, 0, none⟩)) := hS 1 105 (by decide) rfl (by show 105 < 118; decide)
      have s105 := Rega.eval_of q105
      go_simp
      exact hK _ α _ (fun _ _ => rfl) rfl (step_same (st9) hL hcl rfl rfl hG)
    · intro L9 α a9 u9 K9 hL hcl hA hG hS h0 hK
      replace hL : L9 3 = false := hL
      have q106 : a9.tmps[106]? = some (.pointer (some ⟨nd21, 4, none⟩)) := hS 2 106 (by decide) rfl (by show 106 < 118; decide)
      have s106 := Rega.eval_of q106
      have e0 : rlaw13ri9R nd21 nd22 L9 α 999 = row (nd21) 56 (full symZ (symL ([sy ⟨#[70, 111, 111]⟩ 4, sy ⟨#[95, 95, 115, 117, 112, 101, 114, 83, 101, 116]⟩ 2])) nd22) := rfl
      have hr := hG.rowAt 999 (act_base 999 rfl) e0
      have c0 : u9.cell? ⟨nd21, 4, none⟩ = some (.int .u32 4) := hr.cell ((full_at rfl))
      clear hr e0
      go_simp
      exact hK _ α _ (fun _ _ => rfl) rfl (step_same (st9) hL hcl rfl rfl hG)
    · intro L9 α a9 u9 K9 hL hcl hA hG hS h0 hK
      replace hL : L9 4 = false := hL
      have q3 : a9.tmps[3]? = some (.bool true) := (h0 3 (by kernel_rfl)).trans rfl
      have s3 := Rega.eval_of q3
      go_simp
      exact hK _ α _ (fun _ _ => rfl) rfl (step_same (st9) hL hcl rfl rfl hG)
    · intro L9 α a9 u9 K9 hL hcl hA hG hS h0 hK
      replace hL : L9 5 = false := hL
      have q108 : a9.tmps[108]? = some (.bool true) := hS 4 108 (by decide) rfl (by show 108 < 118; decide)
      have s108 := Rega.eval_of q108
      go_simp
      have hM : ∀ i, i ∈ [] → act rlaw13ri9Cnt 1 L9 i := by intro i hi; simp at hi
      have hP : Own w0 u9 [] _ := hG.pick [] (by decide) (by simp)
      clear hM
      refine Calls.mono (wantUses12  _ _ _ hP ) ?_
      rintro e9 u1 ⟨rfl, hQ⟩
      obtain ⟨α', hα'⟩ : ∃ α' : Rega.Atoms, α' = α := ⟨_, rfl⟩
      have hα : ∀ j, j % 1000 ≠ 5 → α' j = α j := fun j hj => by rw [hα']
      skip
      refine hK _ α' _ hα ?_ (step_call (st9) hL hcl hα [] [] (by decide) (by decide) (by decide) (M := _) ?_ hG hQ)
      · rfl
      · show [] = _
        rw []
    · intro L9 α a9 u9 K9 hL hcl hA hG hS h0 hK
      replace hL : L9 6 = false := hL
      have q107 : a9.tmps[107]? = some (.int .u32 4) := hS 3 107 (by decide) rfl (by show 107 < 118; decide)
      have s107 := Rega.eval_of q107
      have q109 : a9.tmps[109]? = some (.int .u32 4) := hS 5 109 (by decide) rfl (by show 109 < 118; decide)
      have s109 := Rega.eval_of q109
      go_simp
      exact hK _ α _ (fun _ _ => rfl) rfl (step_same (st9) hL hcl rfl rfl hG)
    · intro L9 α a9 u9 K9 hL hcl hA hG hS h0 hK
      replace hL : L9 7 = false := hL
      have q110 : a9.tmps[110]? = some (.bool true) := hS 6 110 (by decide) rfl (by show 110 < 118; decide)
      have s110 := Rega.eval_of q110
      go_simp
      exact hK _ α _ (fun _ _ => rfl) rfl (step_same (st9) hL hcl rfl rfl hG)
    · intro L9 α a9 u9 K9 hL hcl hA hG hS h0 hK
      replace hL : L9 8 = false := hL
      have q23 : a9.tmps[23]? = some (.slice (some ⟨nd21, 0, none⟩) 2 (2 + nd22)) := (h0 23 (by kernel_rfl)).trans rfl
      have s23 := Rega.eval_of q23
      have q111 : a9.tmps[111]? = some (.bool true) := hS 7 111 (by decide) rfl (by show 111 < 118; decide)
      have s111 := Rega.eval_of q111
      go_simp
      exact hK _ α _ (fun _ _ => rfl) rfl (step_same (st9) hL hcl rfl rfl hG)
    · intro L9 α a9 u9 K9 hL hcl hA hG hS h0 hK
      replace hL : L9 9 = false := hL
      have q112 : a9.tmps[112]? = some (.slice (some ⟨nd21, 0, none⟩) 2 (2 + nd22)) := hS 8 112 (by decide) rfl (by show 112 < 118; decide)
      have s112 := Rega.eval_of q112
      have q111 : a9.tmps[111]? = some (.bool true) := hS 7 111 (by decide) rfl (by show 111 < 118; decide)
      have s111 := Rega.eval_of q111
      go_simp
      exact hK _ α _ (fun _ _ => rfl) rfl (step_same (st9) hL hcl rfl rfl hG)
    · intro L9 α a9 u9 K9 hL hcl hA hG hS h0 hK
      replace hL : L9 10 = false := hL
      have q113 : a9.tmps[113]? = some (.pointer (some ⟨nd21, 10, none⟩)) := hS 9 113 (by decide) rfl (by show 113 < 118; decide)
      have s113 := Rega.eval_of q113
      have q111 : a9.tmps[111]? = some (.bool true) := hS 7 111 (by decide) rfl (by show 111 < 118; decide)
      have s111 := Rega.eval_of q111
      go_simp
      exact hK _ α _ (fun _ _ => rfl) rfl (step_same (st9) hL hcl rfl rfl hG)
    · intro L9 α a9 u9 K9 hL hcl hA hG hS h0 hK
      replace hL : L9 11 = false := hL
      have q114 : a9.tmps[114]? = some (.pointer (some ⟨nd21, 14, none⟩)) := hS 10 114 (by decide) rfl (by show 114 < 118; decide)
      have s114 := Rega.eval_of q114
      have q111 : a9.tmps[111]? = some (.bool true) := hS 7 111 (by decide) rfl (by show 111 < 118; decide)
      have s111 := Rega.eval_of q111
      have e0 : rlaw13ri9R nd21 nd22 L9 α 999 = row (nd21) 56 (full symZ (symL ([sy ⟨#[70, 111, 111]⟩ 4, sy ⟨#[95, 95, 115, 117, 112, 101, 114, 83, 101, 116]⟩ 2])) nd22) := rfl
      have hr := hG.rowAt 999 (act_base 999 rfl) e0
      have c0 : u9.cell? ⟨nd21, 14, none⟩ = some (.int .u32 2) := hr.cell ((full_at rfl))
      clear hr e0
      go_simp
      exact hK _ α _ (fun _ _ => rfl) rfl (step_same (st9) hL hcl rfl rfl hG)
    · intro L9 α a9 u9 K9 hL hcl hA hG hS h0 hK
      replace hL : L9 12 = false := hL
      have q115 : a9.tmps[115]? = some (.int .u32 2) := hS 11 115 (by decide) rfl (by show 115 < 118; decide)
      have s115 := Rega.eval_of q115
      have q111 : a9.tmps[111]? = some (.bool true) := hS 7 111 (by decide) rfl (by show 111 < 118; decide)
      have s111 := Rega.eval_of q111
      go_simp
      exact hK _ α _ (fun _ _ => rfl) rfl (step_same (st9) hL hcl rfl rfl hG)
    · intro L9 α a9 u9 K9 hL hcl hA hG hS h0 hK
      replace hL : L9 13 = false := hL
      have q111 : a9.tmps[111]? = some (.bool true) := hS 7 111 (by decide) rfl (by show 111 < 118; decide)
      have s111 := Rega.eval_of q111
      have q116 : a9.tmps[116]? = some (.bool true) := hS 12 116 (by decide) rfl (by show 116 < 118; decide)
      have s116 := Rega.eval_of q116
      go_simp
      exact hK _ α _ (fun _ _ => rfl) rfl (step_same (st9) hL hcl rfl rfl hG)
    · intro L9 α a9 u9 K9 hL hcl hA hG hS h0 hK
      replace hL : L9 14 = false := hL
      have q117 : a9.tmps[117]? = some (.bool true) := hS 13 117 (by decide) rfl (by show 117 < 118; decide)
      have s117 := Rega.eval_of q117
      go_simp
      exact hK _ α _ (fun _ _ => rfl) rfl (step_same (st9) hL hcl rfl rfl hG)
  clear st9
  intro α u hG
  have e0 : rlaw13ri9R nd21 nd22 (fun k => decide (k < 15)) α 999 = row (nd21) 56 (full symZ (symL ([sy ⟨#[70, 111, 111]⟩ 4, sy ⟨#[95, 95, 115, 117, 112, 101, 114, 83, 101, 116]⟩ 2])) nd22) := rfl
  have hO : Own w0 u [row (nd21) 56 (full symZ (symL ([sy ⟨#[70, 111, 111]⟩ 4, sy ⟨#[95, 95, 115, 117, 112, 101, 114, 83, 101, 116]⟩ 2])) nd22)] X9_42 := (hG.list [999] (by decide) (act_all (by decide))).conv (by
    show [rlaw13ri9R nd21 nd22 (fun k => decide (k < 15)) α 999] = _
    rw [e0])
  clear hG e0
  generalize hfr : Rega.frameAt _ _ _ _ _ = fr
  have hdf : fr = ⟨#[.int .i32 loc, .string key, .bool false, .bool true, .int .u32 vm, undef, undef, undef, undef, undef, .bool true, .pointer (some ⟨B1, 0, none⟩), .pointer (some ⟨nd4, 0, none⟩), .pointer (some ⟨B8, 0, none⟩), .pointer (some ⟨B8_1, 0, none⟩), .pointer (some ⟨nd14, 0, none⟩), .pointer (some ⟨nd29, 0, none⟩), .pointer (some ⟨B36, 0, none⟩), .bool true, .slice (some ⟨nd16, 0, none⟩) 4 4, .bool true, .slice (some ⟨nd31, 0, none⟩) 4 4, .bool true, .slice (some ⟨nd21, 0, none⟩) 2 (2 + nd22), .int .i32 loc, .string key, .bool false, .bool true, .int .u32 vm, .bool true, .bool false, .string key, .int .i64 (key.size : Int), .bool (decide (65536 < (key.size : Int))), .agg #[.int .u32 0, .int .u32 0], .slice (some ⟨nd3, 0, none⟩) 1 1, .agg #[.int .u32 0, .int .u32 0], .bool false, .bool true, .pointer (some ⟨nd4, 0, none⟩), .int .i32 loc, .agg #[.int .i32 loc], .int .u32 vm, .agg #[.int .u32 3, .int .u32 vm], .pointer (some ⟨nd4, 0, none⟩), .agg #[.int .i32 loc], .int .i32 loc, .string key, .slice (some ⟨nd10, 0, none⟩) key.size key.size, .agg #[.iface 206 (.pointer (some ⟨nd11, 0, none⟩)), .int .i32 loc], .int .i32 loc, .agg #[.int .u32 3, .int .u32 vm], .agg #[.iface 209 (.pointer (some ⟨nd12, 0, none⟩)), .int .i32 loc], .agg #[.iface 65 (.pointer (some ⟨nd13, 0, none⟩)), .int .i32 loc], .pointer (some ⟨nd4, 0, none⟩), .agg #[.int .i32 loc], .int .i32 loc, .string key, .slice (some ⟨nd25, 0, none⟩) key.size key.size, .agg #[.iface 206 (.pointer (some ⟨nd26, 0, none⟩)), .int .i32 loc], .int .i32 loc, .agg #[.int .u32 3, .int .u32 vm], .agg #[.iface 209 (.pointer (some ⟨nd27, 0, none⟩)), .int .i32 loc], .agg #[.iface 65 (.pointer (some ⟨nd28, 0, none⟩)), .int .i32 loc], .tuple #[.agg #[.int .u32 0, .int .u32 1], .bool true], .pointer (some ⟨nd4, 0, none⟩), .tuple #[.agg #[.int .u32 0, .int .u32 1], .bool true], .agg #[.int .u32 0, .int .u32 1], .bool true, .bool true, .bool false, .bool false, .pointer (some ⟨nd4, 0, none⟩), .int .i64 1, .bool false, .bool false, .tuple #[.slice (some ⟨nd16, 0, none⟩) 4 4, .bool true], .agg #[.iface 65 (.pointer (some ⟨nd13, 0, none⟩)), .int .i32 loc], .agg #[.int .u32 0, .int .u32 1], .tuple #[.slice (some ⟨nd16, 0, none⟩) 4 4, .bool true], .slice (some ⟨nd16, 0, none⟩) 4 4, .bool true, .tuple #[.slice (some ⟨nd31, 0, none⟩) 4 4, .bool true], .agg #[.iface 65 (.pointer (some ⟨nd28, 0, none⟩)), .int .i32 loc], .agg #[.int .u32 0, .int .u32 1], .tuple #[.slice (some ⟨nd31, 0, none⟩) 4 4, .bool true], .slice (some ⟨nd31, 0, none⟩) 4 4, .bool true, .bool true, .bool false, .bool false, .bool true, .bool false, .bool false, .pointer (some ⟨nd4, 0, none⟩), .slice (some ⟨nd21, 0, none⟩) 2 (2 + nd22), .slice (some ⟨nd21, 0, none⟩) 2 (2 + nd22), .int .i64 2, .bool false, .bool false, .pointer (some ⟨B36, 1, none⟩), .int .u32 1, .bool false, .bool false, .slice (some ⟨nd21, 0, none⟩) 2 (2 + nd22), .pointer (some ⟨nd21, 0, none⟩), .pointer (some ⟨nd21, 4, none⟩), .int .u32 4, .bool true, .int .u32 4, .bool true, .bool true, .slice (some ⟨nd21, 0, none⟩) 2 (2 + nd22), .pointer (some ⟨nd21, 10, none⟩), .pointer (some ⟨nd21, 14, none⟩), .int .u32 2, .bool true, .bool true], []⟩ := by rw [← hfr]; kernel_rfl
  clear hfr
  subst hdf
  clear α
  subst hX9_42
  have hN : Own w0 u [row (nd21) 56 (full symZ (symL ([sy ⟨#[70, 111, 111]⟩ 4, sy ⟨#[95, 95, 115, 117, 112, 101, 114, 83, 101, 116]⟩ 2])) nd22), row (nd4) 193 ((newStftP nd3 nd5 nd6 nd7).setIfInBounds 106 (.slice (some ⟨nd21, 0, none⟩) 2 (2 + nd22))), row (nd28) 71 #[.iface 209 (.pointer (some ⟨nd30, 0, none⟩)), .int .i32 loc, .slice (some ⟨nd31, 0, none⟩) 4 4, .int .i32 0, .int .u8 0, .int .u8 0, .bool false, .bool false], row (nd30) 211 #[.int .u32 0, .int .u32 1, .bool false, .bool false, .bool false], row (nd13) 71 #[.iface 209 (.pointer (some ⟨nd15, 0, none⟩)), .int .i32 loc, .slice (some ⟨nd16, 0, none⟩) 4 4, .int .i32 0, .int .u8 0, .int .u8 0, .bool false, .bool false], row (nd15) 211 #[.int .u32 0, .int .u32 1, .bool false, .bool false, .bool false], row (B36) 25 #[.int .u32 0, .int .u32 1], row (B8) 31 #[.int .i32 loc], row (nd25) 51 (units key), row (nd26) 208 #[.slice (some ⟨nd25, 0, none⟩) key.size key.size, .int .i32 0, .bool false, .bool false, .bool false], row (nd27) 211 #[.int .u32 3, .int .u32 vm, .bool false, .bool false, .bool false], row (nd31) 35 #[.iface 225 (.pointer (some ⟨nd34, 0, none⟩)), .int .i32 loc, .iface 209 (.pointer (some ⟨nd33, 0, none⟩)), .int .i32 loc, .iface 206 (.pointer (some ⟨nd26, 0, none⟩)), .int .i32 loc, .iface 209 (.pointer (some ⟨nd27, 0, none⟩)), .int .i32 loc], row (nd32) 211 #[.int .u32 0, .int .u32 0, .bool false, .bool false, .bool false], row (nd33) 211 #[.int .u32 0, .int .u32 0, .bool false, .bool false, .bool false], row (nd34) 228 #[.iface 209 (.pointer (some ⟨nd32, 0, none⟩)), .int .i32 loc, .string ⟨#[112, 114, 111, 116, 111, 116, 121, 112, 101]⟩, .int .i32 loc, .int .u8 0, .bool false, .bool false, .bool false], row (nd29) 35 #[.iface 65 (.pointer (some ⟨nd28, 0, none⟩)), .int .i32 loc], row (nd10) 51 (units key), row (nd11) 208 #[.slice (some ⟨nd10, 0, none⟩) key.size key.size, .int .i32 0, .bool false, .bool false, .bool false], row (nd12) 211 #[.int .u32 3, .int .u32 vm, .bool false, .bool false, .bool false], row (nd16) 35 #[.iface 225 (.pointer (some ⟨nd19, 0, none⟩)), .int .i32 loc, .iface 209 (.pointer (some ⟨nd18, 0, none⟩)), .int .i32 loc, .iface 206 (.pointer (some ⟨nd11, 0, none⟩)), .int .i32 loc, .iface 209 (.pointer (some ⟨nd12, 0, none⟩)), .int .i32 loc], row (nd17) 211 #[.int .u32 0, .int .u32 0, .bool false, .bool false, .bool false], row (nd18) 211 #[.int .u32 0, .int .u32 0, .bool false, .bool false, .bool false], row (nd19) 228 #[.iface 209 (.pointer (some ⟨nd17, 0, none⟩)), .int .i32 loc, .string ⟨#[112, 114, 111, 116, 111, 116, 121, 112, 101]⟩, .int .i32 loc, .int .u8 0, .bool false, .bool false, .bool false], row (nd14) 35 #[.iface 65 (.pointer (some ⟨nd13, 0, none⟩)), .int .i32 loc]] X := hO.back HL.out HX.out [0, 1, 2, 3, 4, 5, 6, 8, 9, 10, 11, 12, 13, 14, 15, 16, 17, 18, 19, 20, 21, 22, 23] (by decide) (by decide)
  clear hO HL HX
  have hO := hN
  clear hN
  obtain ⟨c9_2_0, c9_2_1, c9_2_2, c9_2_3, c9_2_4, c9_2_5, c9_2_6, c9_2_7, lt9_2, y9_2, -⟩ := hO.k8 2 rfl
  obtain ⟨c9_3_0, c9_3_1, c9_3_2, c9_3_3, c9_3_4, lt9_3, y9_3, -⟩ := hO.k5 3 rfl
  obtain ⟨c9_4_0, c9_4_1, c9_4_2, c9_4_3, c9_4_4, c9_4_5, c9_4_6, c9_4_7, lt9_4, y9_4, -⟩ := hO.k8 4 rfl
  obtain ⟨c9_5_0, c9_5_1, c9_5_2, c9_5_3, c9_5_4, lt9_5, y9_5, -⟩ := hO.k5 5 rfl
  obtain ⟨c9_6_0, c9_6_1, lt9_6, y9_6, -⟩ := hO.k2 6 rfl
  obtain ⟨c9_7_0, lt9_7, y9_7, -⟩ := hO.k1 7 rfl
  obtain ⟨c9_9_0, c9_9_1, c9_9_2, c9_9_3, c9_9_4, lt9_9, y9_9, -⟩ := hO.k5 9 rfl
  obtain ⟨c9_10_0, c9_10_1, c9_10_2, c9_10_3, c9_10_4, lt9_10, y9_10, -⟩ := hO.k5 10 rfl
  obtain ⟨c9_11_0, c9_11_1, c9_11_2, c9_11_3, c9_11_4, c9_11_5, c9_11_6, c9_11_7, lt9_11, y9_11, -⟩ := hO.k8 11 rfl
  obtain ⟨c9_12_0, c9_12_1, c9_12_2, c9_12_3, c9_12_4, lt9_12, y9_12, -⟩ := hO.k5 12 rfl
  obtain ⟨c9_13_0, c9_13_1, c9_13_2, c9_13_3, c9_13_4, lt9_13, y9_13, -⟩ := hO.k5 13 rfl
  obtain ⟨c9_14_0, c9_14_1, c9_14_2, c9_14_3, c9_14_4, c9_14_5, c9_14_6, c9_14_7, lt9_14, y9_14, -⟩ := hO.k8 14 rfl
  obtain ⟨c9_15_0, c9_15_1, lt9_15, y9_15, -⟩ := hO.k2 15 rfl
  obtain ⟨c9_17_0, c9_17_1, c9_17_2, c9_17_3, c9_17_4, lt9_17, y9_17, -⟩ := hO.k5 17 rfl
  obtain ⟨c9_18_0, c9_18_1, c9_18_2, c9_18_3, c9_18_4, lt9_18, y9_18, -⟩ := hO.k5 18 rfl
  obtain ⟨c9_19_0, c9_19_1, c9_19_2, c9_19_3, c9_19_4, c9_19_5, c9_19_6, c9_19_7, lt9_19, y9_19, -⟩ := hO.k8 19 rfl
  obtain ⟨c9_20_0, c9_20_1, c9_20_2, c9_20_3, c9_20_4, lt9_20, y9_20, -⟩ := hO.k5 20 rfl
  obtain ⟨c9_21_0, c9_21_1, c9_21_2, c9_21_3, c9_21_4, lt9_21, y9_21, -⟩ := hO.k5 21 rfl
  obtain ⟨c9_22_0, c9_22_1, c9_22_2, c9_22_3, c9_22_4, c9_22_5, c9_22_6, c9_22_7, lt9_22, y9_22, -⟩ := hO.k8 22 rfl
  obtain ⟨c9_23_0, c9_23_1, lt9_23, y9_23, -⟩ := hO.k2 23 rfl
  have HO := Lib.hid hO
  clear hO
  go_wp2_with (first | (with_reducible refine Own.stay (fn := Tryd.f3) ?_) | (first | (go_at_call 8; go_in)))
  try with_reducible refine Own.Stay.mk ?_
  have hO := HO.out
  clear HO c9_2_0 c9_2_1 c9_2_2 c9_2_3 c9_2_4 c9_2_5 c9_2_6 c9_2_7 lt9_2 y9_2 c9_3_0 c9_3_1 c9_3_2 c9_3_3 c9_3_4 lt9_3 y9_3 c9_4_0 c9_4_1 c9_4_2 c9_4_3 c9_4_4 c9_4_5 c9_4_6 c9_4_7 lt9_4 y9_4 c9_5_0 c9_5_1 c9_5_2 c9_5_3 c9_5_4 lt9_5 y9_5 c9_6_0 c9_6_1 lt9_6 y9_6 c9_7_0 lt9_7 y9_7 c9_9_0 c9_9_1 c9_9_2 c9_9_3 c9_9_4 lt9_9 y9_9 c9_10_0 c9_10_1 c9_10_2 c9_10_3 c9_10_4 lt9_10 y9_10 c9_11_0 c9_11_1 c9_11_2 c9_11_3 c9_11_4 c9_11_5 c9_11_6 c9_11_7 lt9_11 y9_11 c9_12_0 c9_12_1 c9_12_2 c9_12_3 c9_12_4 lt9_12 y9_12 c9_13_0 c9_13_1 c9_13_2 c9_13_3 c9_13_4 lt9_13 y9_13 c9_14_0 c9_14_1 c9_14_2 c9_14_3 c9_14_4 c9_14_5 c9_14_6 c9_14_7 lt9_14 y9_14 c9_15_0 c9_15_1 lt9_15 y9_15 c9_17_0 c9_17_1 c9_17_2 c9_17_3 c9_17_4 lt9_17 y9_17 c9_18_0 c9_18_1 c9_18_2 c9_18_3 c9_18_4 lt9_18 y9_18 c9_19_0 c9_19_1 c9_19_2 c9_19_3 c9_19_4 c9_19_5 c9_19_6 c9_19_7 lt9_19 y9_19 c9_20_0 c9_20_1 c9_20_2 c9_20_3 c9_20_4 lt9_20 y9_20 c9_21_0 c9_21_1 c9_21_2 c9_21_3 c9_21_4 lt9_21 y9_21 c9_22_0 c9_22_1 c9_22_2 c9_22_3 c9_22_4 c9_22_5 c9_22_6 c9_22_7 lt9_22 y9_22 c9_23_0 c9_23_1 lt9_23 y9_23
  refine bodyPost_ret (v := .bool true) ?_ rfl ⟨rfl, hO.sub [] (by decide)⟩
  simp [results, Tryd.results3, go_sem]
end Go.Proofs.YtkhmjppfogppoaaDoor.Use
