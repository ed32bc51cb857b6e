/- The law on a compound assignment and a plain one, walked. No condition. -/
import Derived.Test.YtkhmjppfogppoaaDoorKitU
import Derived.Test.YtkhmjppfogppoaaDoorKit
import Derived.Test.YtkhmjppfogppoaaDoorNewU
import Derived.Test.YtkhmjppfogppoaaDoorDoorS
import Derived.Test.YtkhmjppfogppoaaDoorLoop
import Derived.Test.YtkhmjppfogppoaaDoorLive
import Derived.Test.YtkhmjppfogppoaaDoorApp
import Derived.Test.YtkhmjppfogppoaaDoorOwnK
import Derived.Test.YtkhmjppfogppoaaDoorOwn
import Derived.Test.YtkhmjppfogppoaaDoorDeepCells
import Derived.Test.YtkhmjppfogppoaaDoorRows
import Derived.Test.YtkhmjppfogppoaaDoorUse
namespace Go.Proofs.YtkhmjppfogppoaaDoor.Use
open Go.ChangeShapes Go.WideShapes Go.ChangeAt Go.RowKit Go.Sort Own
set_option linter.unusedVariables false
noncomputable def rlaw141E (s : Bool) (r : Bool) (B1 : Nat) : Nat → Rega.Atoms → Value
  | 0, α => .slice (some ⟨α 0, 0, none⟩) 1 1
  | 1, α => .agg #[.int .u32 0, .int .u32 0]
  | 2, α => .bool s
  | 3, α => .bool r
  | 4, α => .pointer (some ⟨α 4, 0, none⟩)
  | 5, α => .pointer (some ⟨α 4, 0, none⟩)
  | _, _ => undef
noncomputable def rlaw141Anc : Nat → List Nat
  | 4 => [0, 1, 2, 3]
  | 5 => [0, 1, 2, 3, 4]
  | _ => []
noncomputable def rlaw141Trn : Nat → List Nat
  | _ => []
noncomputable def rlaw141Cnt : List (Nat × Nat) := [(0, 1), (4, 4)]
noncomputable def rlaw141R (s : Bool) (r : Bool) (B1 : Nat) (L9 : Nat → Bool) (α : Rega.Atoms) (ix9 : Nat) : Rw := if ix9 = 999 then row (B1) 25 #[.int .u32 0, .int .u32 0] else if ix9 = 0 then row (α 0) 56 (full symZ (symL ([sy ⟨#[70, 111, 111]⟩ 0])) 0) else if ix9 = 4 then row (α 4) 193 (newSrstP r s (α 0) (α 1004) (α 2004) (α 3004)) else if ix9 = 1004 then ((α 1004, .map #[] 0) : Rw) else if ix9 = 2004 then row (α 2004) 203 #[.pointer none, .pointer none, .slice none 0 0, .map none, .slice none 0 0, .slice none 0 0, .int .i32 0, .int .i32 0, .int .u32 0, .int .u32 0, .bool false, .bool false, .bool false, .bool false, .int .u8 0, .int .u8 6] else if ix9 = 3004 then row (α 3004) 25 #[.int .u32 0, .int .u32 0] else (0, .map #[] 0)
theorem rlaw141_he (s : Bool) (r : Bool) (B1 : Nat) : ∀ kk α α', (∀ j, (j % 1000 = kk ∨ j % 1000 ∈ rlaw141Anc kk) → α j = α' j) → rlaw141E s r B1 kk α = rlaw141E s r B1 kk α' := by
  intro kk α α' h
  match kk with
  | 0 => simp only [rlaw141E, h 0 (Or.inl rfl)]
  | 1 => rfl
  | 2 => rfl
  | 3 => rfl
  | 4 => simp only [rlaw141E, h 4 (Or.inl rfl)]
  | 5 => simp only [rlaw141E, h 4 (Or.inr (by decide))]
  | n + 6 => rfl
theorem rlaw141_st (s : Bool) (r : Bool) (B1 : Nat) : Stable rlaw141Cnt 1 rlaw141Anc rlaw141Trn (rlaw141R s r B1) := by
  intro k9 L9 α α' ix9 hk hcl hα hact ht
  have hp := act_places hact
  replace hp : ix9 ∈ [999, 0, 4, 1004, 2004, 3004] := hp
  simp only [List.mem_cons, List.not_mem_nil, or_false] at hp
  rcases hp with rfl | rfl | rfl | rfl | rfl | rfl
  · rfl
  · have e0 : L9 0 = true := act_lt hact (by decide)
    show row (α' 0) 56 (full symZ (symL ([sy ⟨#[70, 111, 111]⟩ 0])) 0) = row (α 0) 56 (full symZ (symL ([sy ⟨#[70, 111, 111]⟩ 0])) 0)
    simp only [hα 0 (ne_ran hk e0)]
  · have e0 : L9 4 = true := act_lt hact (by decide)
    show row (α' 4) 193 (newSrstP r s (α' 0) (α' 1004) (α' 2004) (α' 3004)) = row (α 4) 193 (newSrstP r s (α 0) (α 1004) (α 2004) (α 3004))
    simp only [hα 0 (ne_ran hk (hcl 4 e0 0 (by decide))), hα 4 (ne_ran hk e0), hα 1004 (ne_ran hk e0), hα 2004 (ne_ran hk e0), hα 3004 (ne_ran hk e0)]
  · have e0 : L9 4 = true := act_lt hact (by decide)
    show ((α' 1004, .map #[] 0) : Rw) = ((α 1004, .map #[] 0) : Rw)
    simp only [hα 1004 (ne_ran hk e0)]
  · have e0 : L9 4 = true := act_lt hact (by decide)
    show row (α' 2004) 203 #[.pointer none, .pointer none, .slice none 0 0, .map none, .slice none 0 0, .slice none 0 0, .int .i32 0, .int .i32 0, .int .u32 0, .int .u32 0, .bool false, .bool false, .bool false, .bool false, .int .u8 0, .int .u8 6] = row (α 2004) 203 #[.pointer none, .pointer none, .slice none 0 0, .map none, .slice none 0 0, .slice none 0 0, .int .i32 0, .int .i32 0, .int .u32 0, .int .u32 0, .bool false, .bool false, .bool false, .bool false, .int .u8 0, .int .u8 6]
    simp only [hα 2004 (ne_ran hk e0)]
  · have e0 : L9 4 = true := act_lt hact (by decide)
    show row (α' 3004) 25 #[.int .u32 0, .int .u32 0] = row (α 3004) 25 #[.int .u32 0, .int .u32 0]
    simp only [hα 3004 (ne_ran hk e0)]
noncomputable def rlaw142E (loc : Int) (key : ByteArray) (op : Int) (s : Bool) (r : Bool) (vm : Int) (B1 : Nat) (nd3 : Nat) (nd4 : Nat) (nd5 : Nat) (nd6 : Nat) (nd7 : Nat) (B8_1 : Nat) (B8 : Nat) : Nat → Rega.Atoms → Value
  | 0, α => .pointer (some ⟨nd4, 0, none⟩)
  | 1, α => .agg #[.int .i32 loc]
  | 2, α => .int .i32 loc
  | 3, α => .string key
  | 4, α => .slice (some ⟨α 4, 0, none⟩) key.size key.size
  | 5, α => .agg #[.iface 206 (.pointer (some ⟨α 5, 0, none⟩)), .int .i32 loc]
  | 6, α => .int .u8 op
  | 7, α => .int .i32 loc
  | 8, α => .agg #[.int .u32 3, .int .u32 vm]
  | 9, α => .agg #[.iface 209 (.pointer (some ⟨α 9, 0, none⟩)), .int .i32 loc]
  | 10, α => .agg #[.iface 65 (.pointer (some ⟨α 1010, 0, none⟩)), .int .i32 loc]
  | 11, α => .pointer (some ⟨α 11, 0, none⟩)
  | 12, α => undef
  | _, _ => undef
noncomputable def rlaw142Anc : Nat → List Nat
  | 4 => [3]
  | 5 => [2, 3, 4]
  | 9 => [2, 3, 4, 5, 7, 8]
  | 10 => [0, 1, 2, 3, 4, 5, 6, 7, 8, 9]
  | 12 => [0, 1, 2, 3, 4, 5, 6, 7, 8, 9, 10, 11]
  | _ => []
noncomputable def rlaw142Trn : Nat → List Nat
  | 10 => [4999, 3999, 5999, 6999]
  | 12 => [11]
  | _ => []
noncomputable def rlaw142Cnt : List (Nat × Nat) := [(4, 1), (5, 1), (9, 1), (10, 3), (11, 1)]
noncomputable def rlaw142T3999 (loc : Int) (key : ByteArray) (op : Int) (s : Bool) (r : Bool) (vm : Int) (B1 : Nat) (nd3 : Nat) (nd4 : Nat) (nd5 : Nat) (nd6 : Nat) (nd7 : Nat) (B8_1 : Nat) (B8 : Nat) (L9 : Nat → Bool) (α : Rega.Atoms) : Rw := if L9 10 = true then row (α 4010) 56 (full symZ (symL ([sy ⟨#[70, 111, 111]⟩ (uz r (uz r 0)), sy ⟨#[95, 95, 115, 117, 112, 101, 114, 71, 101, 116]⟩ 1, sy ⟨#[95, 95, 115, 117, 112, 101, 114, 83, 101, 116]⟩ 1])) (α 5010)) else row (nd3) 56 (full symZ (symL ([sy ⟨#[70, 111, 111]⟩ 0])) 0)
noncomputable def rlaw142T4999 (loc : Int) (key : ByteArray) (op : Int) (s : Bool) (r : Bool) (vm : Int) (B1 : Nat) (nd3 : Nat) (nd4 : Nat) (nd5 : Nat) (nd6 : Nat) (nd7 : Nat) (B8_1 : Nat) (B8 : Nat) (L9 : Nat → Bool) (α : Rega.Atoms) : Rw := if L9 10 = true then row (nd4) 193 ((newSrstP r s nd3 nd5 nd6 nd7).setIfInBounds 106 (.slice (some ⟨α 4010, 0, none⟩) 3 (3 + (α 5010)))) else row (nd4) 193 (newSrstP r s (nd3) (nd5) (nd6) (nd7))
noncomputable def rlaw142T5999 (loc : Int) (key : ByteArray) (op : Int) (s : Bool) (r : Bool) (vm : Int) (B1 : Nat) (nd3 : Nat) (nd4 : Nat) (nd5 : Nat) (nd6 : Nat) (nd7 : Nat) (B8_1 : Nat) (B8 : Nat) (L9 : Nat → Bool) (α : Rega.Atoms) : Rw := if L9 10 = true then ((nd5, .map #[⟨.string ⟨#[95, 95, 115, 117, 112, 101, 114, 71, 101, 116]⟩, .agg #[.int .i32 loc, .int .u32 0, .int .u32 1], 0⟩, ⟨.string ⟨#[95, 95, 115, 117, 112, 101, 114, 83, 101, 116]⟩, .agg #[.int .i32 loc, .int .u32 0, .int .u32 2], 1⟩] 2) : Rw) else ((nd5, .map #[] 0) : Rw)
noncomputable def rlaw142T6999 (loc : Int) (key : ByteArray) (op : Int) (s : Bool) (r : Bool) (vm : Int) (B1 : Nat) (nd3 : Nat) (nd4 : Nat) (nd5 : Nat) (nd6 : Nat) (nd7 : Nat) (B8_1 : Nat) (B8 : Nat) (L9 : Nat → Bool) (α : Rega.Atoms) : Rw := if L9 10 = true then row (nd6) 203 (#[.pointer none, .pointer none, .slice none 0 0, .map none, .slice none 0 0, .slice none 0 0, .int .i32 0, .int .i32 0, .int .u32 0, .int .u32 0, .bool false, .bool false, .bool false, .bool false, .int .u8 0, .int .u8 6].setIfInBounds 5 (.slice (some ⟨α 2010, 0, none⟩) 2 (2 + (α 6010)))) else row (nd6) 203 #[.pointer none, .pointer none, .slice none 0 0, .map none, .slice none 0 0, .slice none 0 0, .int .i32 0, .int .i32 0, .int .u32 0, .int .u32 0, .bool false, .bool false, .bool false, .bool false, .int .u8 0, .int .u8 6]
noncomputable def rlaw142T11 (loc : Int) (key : ByteArray) (op : Int) (s : Bool) (r : Bool) (vm : Int) (B1 : Nat) (nd3 : Nat) (nd4 : Nat) (nd5 : Nat) (nd6 : Nat) (nd7 : Nat) (B8_1 : Nat) (B8 : Nat) (L9 : Nat → Bool) (α : Rega.Atoms) : Rw := if L9 12 = true then row (α 11) 35 #[.iface 65 (.pointer (some ⟨α 1010, 0, none⟩)), .int .i32 loc] else row (α 11) 35 #[.nilIface, .int .i32 0]
noncomputable def rlaw142R (loc : Int) (key : ByteArray) (op : Int) (s : Bool) (r : Bool) (vm : Int) (B1 : Nat) (nd3 : Nat) (nd4 : Nat) (nd5 : Nat) (nd6 : Nat) (nd7 : Nat) (B8_1 : Nat) (B8 : Nat) (L9 : Nat → Bool) (α : Rega.Atoms) (ix9 : Nat) : Rw := if ix9 = 999 then row (B8_1) 25 #[.int .u32 3, .int .u32 vm] else if ix9 = 1999 then row (B8) 31 #[.int .i32 loc] else if ix9 = 2999 then row (B1) 25 #[.int .u32 0, .int .u32 0] else if ix9 = 3999 then rlaw142T3999 loc key op s r vm B1 nd3 nd4 nd5 nd6 nd7 B8_1 B8 L9 α else if ix9 = 4999 then rlaw142T4999 loc key op s r vm B1 nd3 nd4 nd5 nd6 nd7 B8_1 B8 L9 α else if ix9 = 5999 then rlaw142T5999 loc key op s r vm B1 nd3 nd4 nd5 nd6 nd7 B8_1 B8 L9 α else if ix9 = 6999 then rlaw142T6999 loc key op s r vm B1 nd3 nd4 nd5 nd6 nd7 B8_1 B8 L9 α else if ix9 = 7999 then row (nd7) 25 #[.int .u32 0, .int .u32 0] else if ix9 = 4 then row (α 4) 51 (units key) else if ix9 = 5 then row (α 5) 208 #[.slice (some ⟨α 4, 0, none⟩) key.size key.size, .int .i32 0, .bool false, .bool false, .bool false] else if ix9 = 9 then row (α 9) 211 #[.int .u32 3, .int .u32 vm, .bool false, .bool false, .bool false] else if ix9 = 10 then row (α 10) 211 #[.int .u32 0, .int .u32 2, .bool false, .bool false, .bool false] else if ix9 = 1010 then row (α 1010) 71 #[.iface 209 (.pointer (some ⟨α 10, 0, none⟩)), .int .i32 loc, .slice (some ⟨α 3010, 0, none⟩) 4 4, .int .i32 0, .int .u8 0, .int .u8 0, .bool false, .bool false] else if ix9 = 2010 then row (α 2010) 25 (full refZ ([.int .u32 0, .int .u32 1, .int .u32 0, .int .u32 2]) (α 6010)) else if ix9 = 11 then rlaw142T11 loc key op s r vm B1 nd3 nd4 nd5 nd6 nd7 B8_1 B8 L9 α else (0, .map #[] 0)
theorem rlaw142_he (loc : Int) (key : ByteArray) (op : Int) (s : Bool) (r : Bool) (vm : Int) (B1 : Nat) (nd3 : Nat) (nd4 : Nat) (nd5 : Nat) (nd6 : Nat) (nd7 : Nat) (B8_1 : Nat) (B8 : Nat) : ∀ kk α α', (∀ j, (j % 1000 = kk ∨ j % 1000 ∈ rlaw142Anc kk) → α j = α' j) → rlaw142E loc key op s r vm B1 nd3 nd4 nd5 nd6 nd7 B8_1 B8 kk α = rlaw142E loc key op s r vm B1 nd3 nd4 nd5 nd6 nd7 B8_1 B8 kk α' := by
  intro kk α α' h
  match kk with
  | 0 => rfl
  | 1 => rfl
  | 2 => rfl
  | 3 => rfl
  | 4 => simp only [rlaw142E, h 4 (Or.inl rfl)]
  | 5 => simp only [rlaw142E, h 5 (Or.inl rfl)]
  | 6 => rfl
  | 7 => rfl
  | 8 => rfl
  | 9 => simp only [rlaw142E, h 9 (Or.inl rfl)]
  | 10 => simp only [rlaw142E, h 1010 (Or.inl rfl)]
  | 11 => simp only [rlaw142E, h 11 (Or.inl rfl)]
  | 12 => rfl
  | n + 13 => rfl
theorem rlaw142_st (loc : Int) (key : ByteArray) (op : Int) (s : Bool) (r : Bool) (vm : Int) (B1 : Nat) (nd3 : Nat) (nd4 : Nat) (nd5 : Nat) (nd6 : Nat) (nd7 : Nat) (B8_1 : Nat) (B8 : Nat) : Stable rlaw142Cnt 8 rlaw142Anc rlaw142Trn (rlaw142R loc key op s r vm B1 nd3 nd4 nd5 nd6 nd7 B8_1 B8) := by
  intro k9 L9 α α' ix9 hk hcl hα hact ht
  have hp := act_places hact
  replace hp : ix9 ∈ [999, 1999, 2999, 3999, 4999, 5999, 6999, 7999, 4, 5, 9, 10, 1010, 2010, 11] := hp
  simp only [List.mem_cons, List.not_mem_nil, or_false] at hp
  rcases hp with rfl | rfl | rfl | rfl | rfl | rfl | rfl | rfl | rfl | rfl | rfl | rfl | rfl | rfl | rfl
  · rfl
  · rfl
  · rfl
  · show rlaw142T3999 loc key op s r vm B1 nd3 nd4 nd5 nd6 nd7 B8_1 B8 (Rega.ran L9 k9) α' = rlaw142T3999 loc key op s r vm B1 nd3 nd4 nd5 nd6 nd7 B8_1 B8 L9 α
    unfold rlaw142T3999
    have n10 : 10 ≠ k9 := fun e => ht (by rw [← e]; decide)
    rw [ran_ne n10]
    by_cases e10 : L9 10 = true
    · first | rw [if_pos e10, if_pos e10] | rw [if_pos e10]
      try simp only [hα 4010 (ne_ran hk e10), hα 5010 (ne_ran hk e10)]
    first | rw [if_neg e10, if_neg e10] | rw [if_neg e10]
  · show rlaw142T4999 loc key op s r vm B1 nd3 nd4 nd5 nd6 nd7 B8_1 B8 (Rega.ran L9 k9) α' = rlaw142T4999 loc key op s r vm B1 nd3 nd4 nd5 nd6 nd7 B8_1 B8 L9 α
    unfold rlaw142T4999
    have n10 : 10 ≠ k9 := fun e => ht (by rw [← e]; decide)
    rw [ran_ne n10]
    by_cases e10 : L9 10 = true
    · first | rw [if_pos e10, if_pos e10] | rw [if_pos e10]
      try simp only [hα 4010 (ne_ran hk e10), hα 5010 (ne_ran hk e10)]
    first | rw [if_neg e10, if_neg e10] | rw [if_neg e10]
  · show rlaw142T5999 loc key op s r vm B1 nd3 nd4 nd5 nd6 nd7 B8_1 B8 (Rega.ran L9 k9) α' = rlaw142T5999 loc key op s r vm B1 nd3 nd4 nd5 nd6 nd7 B8_1 B8 L9 α
    unfold rlaw142T5999
    have n10 : 10 ≠ k9 := fun e => ht (by rw [← e]; decide)
    rw [ran_ne n10]
  · show rlaw142T6999 loc key op s r vm B1 nd3 nd4 nd5 nd6 nd7 B8_1 B8 (Rega.ran L9 k9) α' = rlaw142T6999 loc key op s r vm B1 nd3 nd4 nd5 nd6 nd7 B8_1 B8 L9 α
    unfold rlaw142T6999
    have n10 : 10 ≠ k9 := fun e => ht (by rw [← e]; decide)
    rw [ran_ne n10]
    by_cases e10 : L9 10 = true
    · first | rw [if_pos e10, if_pos e10] | rw [if_pos e10]
      try simp only [hα 2010 (ne_ran hk e10), hα 6010 (ne_ran hk e10)]
    first | rw [if_neg e10, if_neg e10] | rw [if_neg e10]
  · rfl
  · have e0 : L9 4 = true := act_lt hact (by decide)
    show row (α' 4) 51 (units key) = row (α 4) 51 (units key)
    simp only [hα 4 (ne_ran hk e0)]
  · have e0 : L9 5 = true := act_lt hact (by decide)
    show row (α' 5) 208 #[.slice (some ⟨α' 4, 0, none⟩) key.size key.size, .int .i32 0, .bool false, .bool false, .bool false] = row (α 5) 208 #[.slice (some ⟨α 4, 0, none⟩) key.size key.size, .int .i32 0, .bool false, .bool false, .bool false]
    simp only [hα 4 (ne_ran hk (hcl 5 e0 4 (by decide))), hα 5 (ne_ran hk e0)]
  · have e0 : L9 9 = true := act_lt hact (by decide)
    show row (α' 9) 211 #[.int .u32 3, .int .u32 vm, .bool false, .bool false, .bool false] = row (α 9) 211 #[.int .u32 3, .int .u32 vm, .bool false, .bool false, .bool false]
    simp only [hα 9 (ne_ran hk e0)]
  · have e0 : L9 10 = true := act_lt hact (by decide)
    show row (α' 10) 211 #[.int .u32 0, .int .u32 2, .bool false, .bool false, .bool false] = row (α 10) 211 #[.int .u32 0, .int .u32 2, .bool false, .bool false, .bool false]
    simp only [hα 10 (ne_ran hk e0)]
  · have e0 : L9 10 = true := act_lt hact (by decide)
    show row (α' 1010) 71 #[.iface 209 (.pointer (some ⟨α' 10, 0, none⟩)), .int .i32 loc, .slice (some ⟨α' 3010, 0, none⟩) 4 4, .int .i32 0, .int .u8 0, .int .u8 0, .bool false, .bool false] = row (α 1010) 71 #[.iface 209 (.pointer (some ⟨α 10, 0, none⟩)), .int .i32 loc, .slice (some ⟨α 3010, 0, none⟩) 4 4, .int .i32 0, .int .u8 0, .int .u8 0, .bool false, .bool false]
    simp only [hα 10 (ne_ran hk e0), hα 1010 (ne_ran hk e0), hα 3010 (ne_ran hk e0)]
  · have e0 : L9 10 = true := act_lt hact (by decide)
    show row (α' 2010) 25 (full refZ ([.int .u32 0, .int .u32 1, .int .u32 0, .int .u32 2]) (α' 6010)) = row (α 2010) 25 (full refZ ([.int .u32 0, .int .u32 1, .int .u32 0, .int .u32 2]) (α 6010))
    simp only [hα 2010 (ne_ran hk e0), hα 6010 (ne_ran hk e0)]
  · have e0 : L9 11 = true := act_lt hact (by decide)
    show rlaw142T11 loc key op s r vm B1 nd3 nd4 nd5 nd6 nd7 B8_1 B8 (Rega.ran L9 k9) α' = rlaw142T11 loc key op s r vm B1 nd3 nd4 nd5 nd6 nd7 B8_1 B8 L9 α
    unfold rlaw142T11
    have n12 : 12 ≠ k9 := fun e => ht (by rw [← e]; decide)
    rw [ran_ne n12]
    by_cases e12 : L9 12 = true
    · first | rw [if_pos e12, if_pos e12] | rw [if_pos e12]
      try simp only [hα 11 (ne_ran hk (hcl 12 e12 11 (by decide))), hα 1010 (ne_ran hk (hcl 12 e12 10 (by decide)))]
    first | rw [if_neg e12, if_neg e12] | rw [if_neg e12]
    try simp only [hα 11 (ne_ran hk e0)]
noncomputable def rlaw143E (loc : Int) (key : ByteArray) (s : Bool) (r : Bool) (vm : Int) (nd3 : Nat) (nd4 : Nat) (nd5 : Nat) (nd6 : Nat) (nd7 : Nat) (B8_1 : Nat) (B8 : Nat) (nd16 : Nat) (nd18 : Nat) (nd19 : Nat) (nd20 : Nat) : Nat → Rega.Atoms → Value
  | 0, α => .pointer (some ⟨nd4, 0, none⟩)
  | 1, α => .agg #[.int .i32 loc]
  | 2, α => .int .i32 loc
  | 3, α => .string key
  | 4, α => .slice (some ⟨α 4, 0, none⟩) key.size key.size
  | 5, α => .agg #[.iface 206 (.pointer (some ⟨α 5, 0, none⟩)), .int .i32 loc]
  | 6, α => .int .i32 loc
  | 7, α => .agg #[.int .u32 3, .int .u32 vm]
  | 8, α => .agg #[.iface 209 (.pointer (some ⟨α 8, 0, none⟩)), .int .i32 loc]
  | 9, α => .agg #[.iface 65 (.pointer (some ⟨α 9, 0, none⟩)), .int .i32 loc]
  | 10, α => .pointer (some ⟨α 10, 0, none⟩)
  | 11, α => undef
  | _, _ => undef
noncomputable def rlaw143Anc : Nat → List Nat
  | 4 => [3]
  | 5 => [2, 3, 4]
  | 8 => [2, 3, 4, 5, 6, 7]
  | 9 => [0, 1, 2, 3, 4, 5, 6, 7, 8]
  | 11 => [0, 1, 2, 3, 4, 5, 6, 7, 8, 9, 10]
  | _ => []
noncomputable def rlaw143Trn : Nat → List Nat
  | 9 => [2999]
  | 11 => [10]
  | _ => []
noncomputable def rlaw143Cnt : List (Nat × Nat) := [(4, 1), (5, 1), (8, 1), (9, 2), (10, 1)]
noncomputable def rlaw143T2999 (loc : Int) (key : ByteArray) (s : Bool) (r : Bool) (vm : Int) (nd3 : Nat) (nd4 : Nat) (nd5 : Nat) (nd6 : Nat) (nd7 : Nat) (B8_1 : Nat) (B8 : Nat) (nd16 : Nat) (nd18 : Nat) (nd19 : Nat) (nd20 : Nat) (L9 : Nat → Bool) (α : Rega.Atoms) : Rw := if L9 9 = true then row (nd18) 56 (full symZ (symL ([sy ⟨#[70, 111, 111]⟩ (uz r (uz r (uz r 0))), sy ⟨#[95, 95, 115, 117, 112, 101, 114, 71, 101, 116]⟩ 1, sy ⟨#[95, 95, 115, 117, 112, 101, 114, 83, 101, 116]⟩ 2])) nd19) else row (nd18) 56 (full symZ (symL ([sy ⟨#[70, 111, 111]⟩ (uz r (uz r 0)), sy ⟨#[95, 95, 115, 117, 112, 101, 114, 71, 101, 116]⟩ 1, sy ⟨#[95, 95, 115, 117, 112, 101, 114, 83, 101, 116]⟩ 1])) (nd19))
noncomputable def rlaw143T10 (loc : Int) (key : ByteArray) (s : Bool) (r : Bool) (vm : Int) (nd3 : Nat) (nd4 : Nat) (nd5 : Nat) (nd6 : Nat) (nd7 : Nat) (B8_1 : Nat) (B8 : Nat) (nd16 : Nat) (nd18 : Nat) (nd19 : Nat) (nd20 : Nat) (L9 : Nat → Bool) (α : Rega.Atoms) : Rw := if L9 11 = true then row (α 10) 35 #[.iface 65 (.pointer (some ⟨α 9, 0, none⟩)), .int .i32 loc] else row (α 10) 35 #[.nilIface, .int .i32 0]
noncomputable def rlaw143R (loc : Int) (key : ByteArray) (s : Bool) (r : Bool) (vm : Int) (nd3 : Nat) (nd4 : Nat) (nd5 : Nat) (nd6 : Nat) (nd7 : Nat) (B8_1 : Nat) (B8 : Nat) (nd16 : Nat) (nd18 : Nat) (nd19 : Nat) (nd20 : Nat) (L9 : Nat → Bool) (α : Rega.Atoms) (ix9 : Nat) : Rw := if ix9 = 999 then row (B8_1) 25 #[.int .u32 3, .int .u32 vm] else if ix9 = 1999 then row (B8) 31 #[.int .i32 loc] else if ix9 = 2999 then rlaw143T2999 loc key s r vm nd3 nd4 nd5 nd6 nd7 B8_1 B8 nd16 nd18 nd19 nd20 L9 α else if ix9 = 3999 then row (nd4) 193 ((newSrstP r s nd3 nd5 nd6 nd7).setIfInBounds 106 (.slice (some ⟨nd18, 0, none⟩) 3 (3 + (nd19)))) else if ix9 = 4999 then ((nd5, .map #[⟨.string ⟨#[95, 95, 115, 117, 112, 101, 114, 71, 101, 116]⟩, .agg #[.int .i32 loc, .int .u32 0, .int .u32 1], 0⟩, ⟨.string ⟨#[95, 95, 115, 117, 112, 101, 114, 83, 101, 116]⟩, .agg #[.int .i32 loc, .int .u32 0, .int .u32 2], 1⟩] 2) : Rw) else if ix9 = 5999 then row (nd6) 203 #[.pointer none, .pointer none, .slice none 0 0, .map none, .slice none 0 0, .slice (some ⟨nd16, 0, none⟩) 2 (2 + (nd20)), .int .i32 0, .int .i32 0, .int .u32 0, .int .u32 0, .bool false, .bool false, .bool false, .bool false, .int .u8 0, .int .u8 6] else if ix9 = 6999 then row (nd7) 25 #[.int .u32 0, .int .u32 0] else if ix9 = 7999 then row (nd16) 25 (full refZ [.int .u32 0, .int .u32 1, .int .u32 0, .int .u32 2] (nd20)) else if ix9 = 4 then row (α 4) 51 (units key) else if ix9 = 5 then row (α 5) 208 #[.slice (some ⟨α 4, 0, none⟩) key.size key.size, .int .i32 0, .bool false, .bool false, .bool false] else if ix9 = 8 then row (α 8) 211 #[.int .u32 3, .int .u32 vm, .bool false, .bool false, .bool false] else if ix9 = 9 then row (α 9) 71 #[.iface 209 (.pointer (some ⟨α 1009, 0, none⟩)), .int .i32 loc, .slice (some ⟨α 2009, 0, none⟩) 4 4, .int .i32 0, .int .u8 0, .int .u8 0, .bool false, .bool false] else if ix9 = 1009 then row (α 1009) 211 #[.int .u32 0, .int .u32 2, .bool false, .bool false, .bool false] else if ix9 = 10 then rlaw143T10 loc key s r vm nd3 nd4 nd5 nd6 nd7 B8_1 B8 nd16 nd18 nd19 nd20 L9 α else (0, .map #[] 0)
theorem rlaw143_he (loc : Int) (key : ByteArray) (s : Bool) (r : Bool) (vm : Int) (nd3 : Nat) (nd4 : Nat) (nd5 : Nat) (nd6 : Nat) (nd7 : Nat) (B8_1 : Nat) (B8 : Nat) (nd16 : Nat) (nd18 : Nat) (nd19 : Nat) (nd20 : Nat) : ∀ kk α α', (∀ j, (j % 1000 = kk ∨ j % 1000 ∈ rlaw143Anc kk) → α j = α' j) → rlaw143E loc key s r vm nd3 nd4 nd5 nd6 nd7 B8_1 B8 nd16 nd18 nd19 nd20 kk α = rlaw143E loc key s r vm nd3 nd4 nd5 nd6 nd7 B8_1 B8 nd16 nd18 nd19 nd20 kk α' := by
  intro kk α α' h
  match kk with
  | 0 => rfl
  | 1 => rfl
  | 2 => rfl
  | 3 => rfl
  | 4 => simp only [rlaw143E, h 4 (Or.inl rfl)]
  | 5 => simp only [rlaw143E, h 5 (Or.inl rfl)]
  | 6 => rfl
  | 7 => rfl
  | 8 => simp only [rlaw143E, h 8 (Or.inl rfl)]
  | 9 => simp only [rlaw143E, h 9 (Or.inl rfl)]
  | 10 => simp only [rlaw143E, h 10 (Or.inl rfl)]
  | 11 => rfl
  | n + 12 => rfl
theorem rlaw143_st (loc : Int) (key : ByteArray) (s : Bool) (r : Bool) (vm : Int) (nd3 : Nat) (nd4 : Nat) (nd5 : Nat) (nd6 : Nat) (nd7 : Nat) (B8_1 : Nat) (B8 : Nat) (nd16 : Nat) (nd18 : Nat) (nd19 : Nat) (nd20 : Nat) : Stable rlaw143Cnt 8 rlaw143Anc rlaw143Trn (rlaw143R loc key s r vm nd3 nd4 nd5 nd6 nd7 B8_1 B8 nd16 nd18 nd19 nd20) := by
  intro k9 L9 α α' ix9 hk hcl hα hact ht
  have hp := act_places hact
  replace hp : ix9 ∈ [999, 1999, 2999, 3999, 4999, 5999, 6999, 7999, 4, 5, 8, 9, 1009, 10] := hp
  simp only [List.mem_cons, List.not_mem_nil, or_false] at hp
  rcases hp with rfl | rfl | rfl | rfl | rfl | rfl | rfl | rfl | rfl | rfl | rfl | rfl | rfl | rfl
  · rfl
  · rfl
  · show rlaw143T2999 loc key s r vm nd3 nd4 nd5 nd6 nd7 B8_1 B8 nd16 nd18 nd19 nd20 (Rega.ran L9 k9) α' = rlaw143T2999 loc key s r vm nd3 nd4 nd5 nd6 nd7 B8_1 B8 nd16 nd18 nd19 nd20 L9 α
    unfold rlaw143T2999
    have n9 : 9 ≠ k9 := fun e => ht (by rw [← e]; decide)
    rw [ran_ne n9]
  · rfl
  · rfl
  · rfl
  · rfl
  · rfl
  · have e0 : L9 4 = true := act_lt hact (by decide)
    show row (α' 4) 51 (units key) = row (α 4) 51 (units key)
    simp only [hα 4 (ne_ran hk e0)]
  · have e0 : L9 5 = true := act_lt hact (by decide)
    show row (α' 5) 208 #[.slice (some ⟨α' 4, 0, none⟩) key.size key.size, .int .i32 0, .bool false, .bool false, .bool false] = row (α 5) 208 #[.slice (some ⟨α 4, 0, none⟩) key.size key.size, .int .i32 0, .bool false, .bool false, .bool false]
    simp only [hα 4 (ne_ran hk (hcl 5 e0 4 (by decide))), hα 5 (ne_ran hk e0)]
  · have e0 : L9 8 = true := act_lt hact (by decide)
    show row (α' 8) 211 #[.int .u32 3, .int .u32 vm, .bool false, .bool false, .bool false] = row (α 8) 211 #[.int .u32 3, .int .u32 vm, .bool false, .bool false, .bool false]
    simp only [hα 8 (ne_ran hk e0)]
  · have e0 : L9 9 = true := act_lt hact (by decide)
    show row (α' 9) 71 #[.iface 209 (.pointer (some ⟨α' 1009, 0, none⟩)), .int .i32 loc, .slice (some ⟨α' 2009, 0, none⟩) 4 4, .int .i32 0, .int .u8 0, .int .u8 0, .bool false, .bool false] = row (α 9) 71 #[.iface 209 (.pointer (some ⟨α 1009, 0, none⟩)), .int .i32 loc, .slice (some ⟨α 2009, 0, none⟩) 4 4, .int .i32 0, .int .u8 0, .int .u8 0, .bool false, .bool false]
    simp only [hα 9 (ne_ran hk e0), hα 1009 (ne_ran hk e0), hα 2009 (ne_ran hk e0)]
  · have e0 : L9 9 = true := act_lt hact (by decide)
    show row (α' 1009) 211 #[.int .u32 0, .int .u32 2, .bool false, .bool false, .bool false] = row (α 1009) 211 #[.int .u32 0, .int .u32 2, .bool false, .bool false, .bool false]
    simp only [hα 1009 (ne_ran hk e0)]
  · have e0 : L9 10 = true := act_lt hact (by decide)
    show rlaw143T10 loc key s r vm nd3 nd4 nd5 nd6 nd7 B8_1 B8 nd16 nd18 nd19 nd20 (Rega.ran L9 k9) α' = rlaw143T10 loc key s r vm nd3 nd4 nd5 nd6 nd7 B8_1 B8 nd16 nd18 nd19 nd20 L9 α
    unfold rlaw143T10
    have n11 : 11 ≠ k9 := fun e => ht (by rw [← e]; decide)
    rw [ran_ne n11]
    by_cases e11 : L9 11 = true
    · first | rw [if_pos e11, if_pos e11] | rw [if_pos e11]
      try simp only [hα 9 (ne_ran hk (hcl 11 e11 9 (by decide))), hα 10 (ne_ran hk (hcl 11 e11 10 (by decide)))]
    first | rw [if_neg e11, if_neg e11] | rw [if_neg e11]
    try simp only [hα 10 (ne_ran hk e0)]
noncomputable def rlaw1410E (r : Bool) (nd18 : Nat) (nd19 : Nat) (B30 : Nat) (B33 : Nat) : Nat → Rega.Atoms → Value
  | 0, α => .slice (some ⟨nd18, 0, none⟩) 3 (3 + nd19)
  | 1, α => .pointer (some ⟨nd18, 0, none⟩)
  | 2, α => .pointer (some ⟨nd18, 4, none⟩)
  | 3, α => .int .u32 (uz r (uz r (uz r 0)) : Int)
  | 4, α => .bool r
  | 5, α => .int .u32 (uz r (uz r (uz r 0)) : Int)
  | 6, α => .bool true
  | 7, α => .bool true
  | 8, α => .slice (some ⟨nd18, 0, none⟩) 3 (3 + nd19)
  | 9, α => .pointer (some ⟨B30, 1, none⟩)
  | 10, α => .int .u32 2
  | 11, α => .pointer (some ⟨nd18, 20, none⟩)
  | 12, α => .pointer (some ⟨nd18, 24, none⟩)
  | 13, α => .int .u32 2
  | 14, α => .bool true
  | 15, α => .bool true
  | 16, α => .bool true
  | 17, α => .slice (some ⟨nd18, 0, none⟩) 3 (3 + nd19)
  | 18, α => .pointer (some ⟨B33, 1, none⟩)
  | 19, α => .int .u32 1
  | 20, α => .pointer (some ⟨nd18, 10, none⟩)
  | 21, α => .pointer (some ⟨nd18, 14, none⟩)
  | 22, α => .int .u32 1
  | 23, α => .bool true
  | 24, α => .bool true
  | 25, α => .bool true
  | _, _ => undef
noncomputable def rlaw1410Anc : Nat → List Nat
  | 1 => [0]
  | 2 => [0, 1]
  | 3 => [0, 1, 2]
  | 5 => [4]
  | 6 => [0, 1, 2, 3, 4, 5]
  | 7 => [0, 1, 2, 3, 4, 5, 6]
  | 8 => [0, 1, 2, 3, 4, 5, 6, 7]
  | 9 => [0, 1, 2, 3, 4, 5, 6, 7]
  | 10 => [0, 1, 2, 3, 4, 5, 6, 7, 9]
  | 11 => [0, 1, 2, 3, 4, 5, 6, 7, 8, 9, 10]
  | 12 => [0, 1, 2, 3, 4, 5, 6, 7, 8, 9, 10, 11]
  | 13 => [0, 1, 2, 3, 4, 5, 6, 7, 8, 9, 10, 11, 12]
  | 14 => [0, 1, 2, 3, 4, 5, 6, 7, 8, 9, 10, 11, 12, 13]
  | 15 => [0, 1, 2, 3, 4, 5, 6, 7, 8, 9, 10, 11, 12, 13, 14]
  | 16 => [0, 1, 2, 3, 4, 5, 6, 7, 8, 9, 10, 11, 12, 13, 14, 15]
  | 17 => [0, 1, 2, 3, 4, 5, 6, 7, 8, 9, 10, 11, 12, 13, 14, 15, 16]
  | 18 => [0, 1, 2, 3, 4, 5, 6, 7, 8, 9, 10, 11, 12, 13, 14, 15, 16]
  | 19 => [0, 1, 2, 3, 4, 5, 6, 7, 8, 9, 10, 11, 12, 13, 14, 15, 16, 18]
  | 20 => [0, 1, 2, 3, 4, 5, 6, 7, 8, 9, 10, 11, 12, 13, 14, 15, 16, 17, 18, 19]
  | 21 => [0, 1, 2, 3, 4, 5, 6, 7, 8, 9, 10, 11, 12, 13, 14, 15, 16, 17, 18, 19, 20]
  | 22 => [0, 1, 2, 3, 4, 5, 6, 7, 8, 9, 10, 11, 12, 13, 14, 15, 16, 17, 18, 19, 20, 21]
  | 23 => [0, 1, 2, 3, 4, 5, 6, 7, 8, 9, 10, 11, 12, 13, 14, 15, 16, 17, 18, 19, 20, 21, 22]
  | 24 => [0, 1, 2, 3, 4, 5, 6, 7, 8, 9, 10, 11, 12, 13, 14, 15, 16, 17, 18, 19, 20, 21, 22, 23]
  | 25 => [0, 1, 2, 3, 4, 5, 6, 7, 8, 9, 10, 11, 12, 13, 14, 15, 16, 17, 18, 19, 20, 21, 22, 23, 24]
  | _ => []
noncomputable def rlaw1410Trn : Nat → List Nat
  | _ => []
noncomputable def rlaw1410Cnt : List (Nat × Nat) := []
noncomputable def rlaw1410R (r : Bool) (nd18 : Nat) (nd19 : Nat) (B30 : Nat) (B33 : Nat) (L9 : Nat → Bool) (α : Rega.Atoms) (ix9 : Nat) : Rw := if ix9 = 999 then row (B33) 25 #[.int .u32 0, .int .u32 1] else if ix9 = 1999 then row (B30) 25 #[.int .u32 0, .int .u32 2] else if ix9 = 2999 then row (nd18) 56 (full symZ (symL ([sy ⟨#[70, 111, 111]⟩ (uz r (uz r (uz r 0))), sy ⟨#[95, 95, 115, 117, 112, 101, 114, 71, 101, 116]⟩ 1, sy ⟨#[95, 95, 115, 117, 112, 101, 114, 83, 101, 116]⟩ 2])) nd19) else (0, .map #[] 0)
theorem rlaw1410_he (r : Bool) (nd18 : Nat) (nd19 : Nat) (B30 : Nat) (B33 : Nat) : ∀ kk α α', (∀ j, (j % 1000 = kk ∨ j % 1000 ∈ rlaw1410Anc kk) → α j = α' j) → rlaw1410E r nd18 nd19 B30 B33 kk α = rlaw1410E r nd18 nd19 B30 B33 kk α' := by
  intro kk α α' h
  match kk with
  | 0 => rfl
  | 1 => rfl
  | 2 => rfl
  | 3 => rfl
  | 4 => rfl
  | 5 => rfl
  | 6 => rfl
  | 7 => rfl
  | 8 => rfl
  | 9 => rfl
  | 10 => rfl
  | 11 => rfl
  | 12 => rfl
  | 13 => rfl
  | 14 => rfl
  | 15 => rfl
  | 16 => rfl
  | 17 => rfl
  | 18 => rfl
  | 19 => rfl
  | 20 => rfl
  | 21 => rfl
  | 22 => rfl
  | 23 => rfl
  | 24 => rfl
  | 25 => rfl
  | n + 26 => rfl
theorem rlaw1410_st (r : Bool) (nd18 : Nat) (nd19 : Nat) (B30 : Nat) (B33 : Nat) : Stable rlaw1410Cnt 3 rlaw1410Anc rlaw1410Trn (rlaw1410R r nd18 nd19 B30 B33) := by
  intro k9 L9 α α' ix9 hk hcl hα hact ht
  have hp := act_places hact
  replace hp : ix9 ∈ [999, 1999, 2999] := hp
  simp only [List.mem_cons, List.not_mem_nil, or_false] at hp
  rcases hp with rfl | rfl | rfl
  · rfl
  · rfl
  · rfl
def law14Post (loc : Int) (key : ByteArray) (op : Int) (s r : Bool) (vm : Int) (w0 : World) (X : Nat → Obj → Prop) (e : Ending) (w' : World) : Prop :=
  e = .returned (.bool true) ∧ Own w0 w' [] X
set_option maxRecDepth 100000 in
set_option maxHeartbeats 1000000 in
theorem law14 (loc : Int) (key : ByteArray) (op : Int) (s r : Bool) (vm : Int) (w0 w : World) (X : Nat → Obj → Prop) (hO : Own w0 w [] X) (hlen : key.size ≤ 65536) (hop : IntKind.u8.wrap op = op) (hg0 : w0.cell? ⟨0, 0, none⟩ = some (.int .u32 4294967295)) (hg1 : w0.cell? ⟨0, 1, none⟩ = some (.int .u32 4294967295)) :
    Calls Tryd.prog 4 #[.int .i32 loc, .string key, .int .u8 op, .bool s, .bool r, .int .u32 vm] w (law14Post loc key op s r vm w0 X) := by
  go_enter Tryd.func4, Tryd.ntmps4
  have hl9 : (key.size : Int) ≤ 65536 := by omega
  go_wp2_with (first | (with_reducible refine Own.stay (fn := Tryd.f4) ?_) | (first | (go_at_call 20; go_in)))
  try with_reducible refine Own.Stay.mk ?_
  generalize hW : World.alloc _ _ = W2
  have hN : Own w0 W2 [row (w.heap.size) 25 #[.int .u32 0, .int .u32 0]] X := by
    rw [← hW]
    exact (hO).alloc' _ (w.heap.size) (by simp)
  clear hW hO
  generalize w.heap.size = B1 at hN ⊢
  have hO := hN
  clear hN
  have st9 := rlaw141_st s r B1
  refine wp_region_own (e := rlaw141E s r B1) (anc := rlaw141Anc) (G := (fun L9 α u9 => OwnF w0 u9 (act rlaw141Cnt 1 L9) (rlaw141R s r B1 L9 α) X)) (by kernel_rfl) (by kernel_rfl) (by kernel_rfl) (by kernel_rfl) (rlaw141_he s r B1) ?_ (RunsAll.all ?_) ?_
  · have hp : ∀ i, act rlaw141Cnt 1 (fun _ => false) i → i ∈ [999] := by
      intro i hi
      have h9 : i % 1000 = 999 := by
        by_cases h : i % 1000 = 999
        · exact h
        · exact absurd (act_lt hi h) (by simp)
      unfold act at hi
      rw [if_pos h9] at hi
      simp only [List.mem_cons, List.not_mem_nil, or_false]
      omega
    refine hO.drew.family (fun i hi => ?_) (fun i j hi hj hij => ?_)
    · have := hp i hi
      simp only [List.mem_cons, List.not_mem_nil, or_false] at this
      subst this
      rfl
    · have h1 := hp i hi
      have h2 := hp j hj
      simp only [List.mem_cons, List.not_mem_nil, or_false] at h1 h2
      omega
  · refine ⟨?_, ?_, ?_, ?_, ?_, ?_, trivial⟩
    · intro L9 α a9 u9 K9 hL hcl hA hG hS h0 hK
      replace hL : L9 0 = false := hL
      go_simp
      have hM : ∀ i, i ∈ [] → act rlaw141Cnt 1 L9 i := by intro i hi; simp at hi
      have hP : Own w0 u9 [] _ := hG.pick [] (by decide) (by simp)
      clear hM
      refine Calls.mono (classSyms  _ _ _ hP hg0 hg1) ?_
      rintro e9 u1 ⟨b0, rfl, hQ⟩
      obtain ⟨α', hα'⟩ : ∃ α' : Rega.Atoms, α' = (fun j => if j = 0 then b0 else α j) := ⟨_, rfl⟩
      have f0 : rlaw141R s r B1 (Rega.ran L9 0) α' 0 = row (α' 0) 56 (full symZ (symL ([sy ⟨#[70, 111, 111]⟩ 0])) 0) := rfl
      have hα : ∀ j, j % 1000 ≠ 0 → α' j = α j := fun j hj => by rw [hα']; simp only []; rw [if_neg (by omega)]
      have hb0 : α' 0 = b0 := by rw [hα']; rfl
      skip
      refine hK _ α' _ hα ?_ (step_call (st9) hL hcl hα [] [0] (by decide) (by decide) (by decide) (M := _) ?_ hG hQ)
      · show _ = (.slice (some ⟨α' 0, 0, none⟩) 1 1 : Value)
        simp only [hb0]
      · show [rlaw141R s r B1 (Rega.ran L9 0) α' 0] = _
        rw [f0]
        simp only [hb0]
    · intro L9 α a9 u9 K9 hL hcl hA hG hS h0 hK
      replace hL : L9 1 = false := hL
      have q13 : a9.tmps[13]? = some (.pointer (some ⟨B1, 0, none⟩)) := (h0 13 (by kernel_rfl)).trans rfl
      have s13 := Rega.eval_of q13
      have e0 : rlaw141R s r B1 L9 α 999 = row (B1) 25 #[.int .u32 0, .int .u32 0] := rfl
      have hr := hG.rowAt 999 (act_base 999 rfl) e0
      have c0 : u9.cell? ⟨B1, 0, none⟩ = some (.int .u32 0) := hr.cell rfl
      have c1 : u9.cell? ⟨B1, 1, none⟩ = some (.int .u32 0) := hr.cell rfl
      clear hr e0
      go_simp
      exact hK _ α _ (fun _ _ => rfl) rfl (step_same (st9) hL hcl rfl rfl hG)
    · intro L9 α a9 u9 K9 hL hcl hA hG hS h0 hK
      replace hL : L9 2 = false := hL
      have q3 : a9.tmps[3]? = some (.bool s) := (h0 3 (by kernel_rfl)).trans rfl
      have s3 := Rega.eval_of q3
      go_simp
      exact hK _ α _ (fun _ _ => rfl) rfl (step_same (st9) hL hcl rfl rfl hG)
    · intro L9 α a9 u9 K9 hL hcl hA hG hS h0 hK
      replace hL : L9 3 = false := hL
      have q4 : a9.tmps[4]? = some (.bool r) := (h0 4 (by kernel_rfl)).trans rfl
      have s4 := Rega.eval_of q4
      go_simp
      exact hK _ α _ (fun _ _ => rfl) rfl (step_same (st9) hL hcl rfl rfl hG)
    · intro L9 α a9 u9 K9 hL hcl hA hG hS h0 hK
      replace hL : L9 4 = false := hL
      have q40 : a9.tmps[40]? = some (.slice (some ⟨α 0, 0, none⟩) 1 1) := hS 0 40 (by decide) rfl (by show 40 < 159; decide)
      have s40 := Rega.eval_of q40
      have q41 : a9.tmps[41]? = some (.agg #[.int .u32 0, .int .u32 0]) := hS 1 41 (by decide) rfl (by show 41 < 159; decide)
      have s41 := Rega.eval_of q41
      have q42 : a9.tmps[42]? = some (.bool s) := hS 2 42 (by decide) rfl (by show 42 < 159; decide)
      have s42 := Rega.eval_of q42
      have q43 : a9.tmps[43]? = some (.bool r) := hS 3 43 (by decide) rfl (by show 43 < 159; decide)
      have s43 := Rega.eval_of q43
      go_simp
      have hM : ∀ i, i ∈ [] → act rlaw141Cnt 1 L9 i := by intro i hi; simp at hi
      have hP : Own w0 u9 [] _ := hG.pick [] (by decide) (by simp)
      clear hM
      refine Calls.mono (newSrst r s (α 0) _ _ _ hP ) ?_
      rintro e9 u1 ⟨b0, b1, b2, b3, rfl, hQ⟩
      obtain ⟨α', hα'⟩ : ∃ α' : Rega.Atoms, α' = (fun j => if j = 4 then b0 else if j = 1004 then b1 else if j = 2004 then b2 else if j = 3004 then b3 else α j) := ⟨_, rfl⟩
      have f0 : rlaw141R s r B1 (Rega.ran L9 4) α' 4 = row (α' 4) 193 (newSrstP r s (α' 0) (α' 1004) (α' 2004) (α' 3004)) := rfl
      have f1 : rlaw141R s r B1 (Rega.ran L9 4) α' 1004 = ((α' 1004, .map #[] 0) : Rw) := rfl
      have f2 : rlaw141R s r B1 (Rega.ran L9 4) α' 2004 = row (α' 2004) 203 #[.pointer none, .pointer none, .slice none 0 0, .map none, .slice none 0 0, .slice none 0 0, .int .i32 0, .int .i32 0, .int .u32 0, .int .u32 0, .bool false, .bool false, .bool false, .bool false, .int .u8 0, .int .u8 6] := rfl
      have f3 : rlaw141R s r B1 (Rega.ran L9 4) α' 3004 = row (α' 3004) 25 #[.int .u32 0, .int .u32 0] := rfl
      have hα : ∀ j, j % 1000 ≠ 4 → α' j = α j := fun j hj => by rw [hα']; simp only []; rw [if_neg (by omega), if_neg (by omega), if_neg (by omega), if_neg (by omega)]
      have hb0 : α' 4 = b0 := by rw [hα']; rfl
      have hb1 : α' 1004 = b1 := by rw [hα']; rfl
      have hb2 : α' 2004 = b2 := by rw [hα']; rfl
      have hb3 : α' 3004 = b3 := by rw [hα']; rfl
      have ha0 : α' 0 = α 0 := hα 0 (by decide)
      skip
      refine hK _ α' _ hα ?_ (step_call (st9) hL hcl hα [] [4, 1004, 2004, 3004] (by decide) (by decide) (by decide) (M := _) ?_ hG hQ)
      · show _ = (.pointer (some ⟨α' 4, 0, none⟩) : Value)
        simp only [hb0]
      · show [rlaw141R s r B1 (Rega.ran L9 4) α' 4, rlaw141R s r B1 (Rega.ran L9 4) α' 1004, rlaw141R s r B1 (Rega.ran L9 4) α' 2004, rlaw141R s r B1 (Rega.ran L9 4) α' 3004] = _
        rw [f0, f1, f2, f3]
        simp only [hb0, hb1, hb2, hb3, ha0]
    · intro L9 α a9 u9 K9 hL hcl hA hG hS h0 hK
      replace hL : L9 5 = false := hL
      have q44 : a9.tmps[44]? = some (.pointer (some ⟨α 4, 0, none⟩)) := hS 4 44 (by decide) rfl (by show 44 < 159; decide)
      have s44 := Rega.eval_of q44
      go_simp
      exact hK _ α _ (fun _ _ => rfl) rfl (step_same (st9) hL hcl rfl rfl hG)
  clear st9
  intro α u hG
  have e0 : rlaw141R s r B1 (fun k => decide (k < 6)) α 999 = row (B1) 25 #[.int .u32 0, .int .u32 0] := rfl
  have e1 : rlaw141R s r B1 (fun k => decide (k < 6)) α 0 = row (α 0) 56 (full symZ (symL ([sy ⟨#[70, 111, 111]⟩ 0])) 0) := rfl
  have e2 : rlaw141R s r B1 (fun k => decide (k < 6)) α 4 = row (α 4) 193 (newSrstP r s (α 0) (α 1004) (α 2004) (α 3004)) := rfl
  have e3 : rlaw141R s r B1 (fun k => decide (k < 6)) α 1004 = ((α 1004, .map #[] 0) : Rw) := rfl
  have e4 : rlaw141R s r B1 (fun k => decide (k < 6)) α 2004 = row (α 2004) 203 #[.pointer none, .pointer none, .slice none 0 0, .map none, .slice none 0 0, .slice none 0 0, .int .i32 0, .int .i32 0, .int .u32 0, .int .u32 0, .bool false, .bool false, .bool false, .bool false, .int .u8 0, .int .u8 6] := rfl
  have e5 : rlaw141R s r B1 (fun k => decide (k < 6)) α 3004 = row (α 3004) 25 #[.int .u32 0, .int .u32 0] := rfl
  have hO : Own w0 u [row (B1) 25 #[.int .u32 0, .int .u32 0], row (α 0) 56 (full symZ (symL ([sy ⟨#[70, 111, 111]⟩ 0])) 0), row (α 4) 193 (newSrstP r s (α 0) (α 1004) (α 2004) (α 3004)), ((α 1004, .map #[] 0) : Rw), row (α 2004) 203 #[.pointer none, .pointer none, .slice none 0 0, .map none, .slice none 0 0, .slice none 0 0, .int .i32 0, .int .i32 0, .int .u32 0, .int .u32 0, .bool false, .bool false, .bool false, .bool false, .int .u8 0, .int .u8 6], row (α 3004) 25 #[.int .u32 0, .int .u32 0]] X := (hG.list [999, 0, 4, 1004, 2004, 3004] (by decide) (act_all (by decide))).conv (by
    show [rlaw141R s r B1 (fun k => decide (k < 6)) α 999, rlaw141R s r B1 (fun k => decide (k < 6)) α 0, rlaw141R s r B1 (fun k => decide (k < 6)) α 4, rlaw141R s r B1 (fun k => decide (k < 6)) α 1004, rlaw141R s r B1 (fun k => decide (k < 6)) α 2004, rlaw141R s r B1 (fun k => decide (k < 6)) α 3004] = _
    rw [e0, e1, e2, e3, e4, e5])
  clear hG e0 e1 e2 e3 e4 e5
  generalize hfr : Rega.frameAt _ _ _ _ _ = fr
  have hdf : fr = ⟨#[.int .i32 loc, .string key, .int .u8 op, .bool s, .bool r, .int .u32 vm, undef, undef, undef, undef, undef, undef, .bool false, .pointer (some ⟨B1, 0, none⟩), .pointer (some ⟨α 4, 0, none⟩), undef, undef, undef, undef, undef, undef, undef, undef, undef, undef, undef, undef, undef, .int .i32 loc, .string key, .int .u8 op, .bool s, .bool r, .int .u32 vm, .bool true, .bool false, .string key, .int .i64 (key.size : Int), .bool (decide (65536 < (key.size : Int))), .agg #[.int .u32 0, .int .u32 0], .slice (some ⟨α 0, 0, none⟩) 1 1, .agg #[.int .u32 0, .int .u32 0], .bool s, .bool r, .pointer (some ⟨α 4, 0, none⟩), undef, undef, undef, undef, undef, undef, undef, undef, undef, undef, undef, undef, undef, undef, undef, undef, undef, undef, undef, undef, undef, undef, undef, undef, undef, undef, undef, undef, undef, undef, undef, undef, undef, undef, undef, undef, undef, undef, undef, undef, undef, undef, undef, undef, undef, undef, undef, undef, undef, undef, undef, undef, undef, undef, undef, undef, undef, undef, undef, undef, undef, undef, undef, undef, undef, undef, undef, undef, undef, undef, undef, undef, undef, undef, undef, undef, undef, undef, undef, undef, undef, undef, undef, undef, undef, undef, undef, undef, undef, undef, undef, undef, undef, undef, undef, undef, undef, undef, undef, undef, undef, undef, undef, undef, undef, undef, undef, undef, undef, undef, undef, undef, undef, undef], []⟩ := by rw [← hfr]; kernel_rfl
  clear hfr
  subst hdf
  generalize α 0 = nd3 at hO ⊢
  generalize α 4 = nd4 at hO ⊢
  generalize α 1004 = nd5 at hO ⊢
  generalize α 2004 = nd6 at hO ⊢
  generalize α 3004 = nd7 at hO ⊢
  clear α
  obtain ⟨c9_0_0, c9_0_1, lt9_0, y9_0, -⟩ := hO.k2 0 rfl
  obtain ⟨c9_5_0, c9_5_1, lt9_5, y9_5, -⟩ := hO.k2 5 rfl
  have HO := Lib.hid hO
  clear hO
  go_wp2_with (first | (with_reducible refine Own.stay (fn := Tryd.f4) ?_) | (first | (go_at_call 20; go_in)))
  try with_reducible refine Own.Stay.mk ?_
  have hO := HO.out
  clear HO c9_0_0 c9_0_1 lt9_0 y9_0 c9_5_0 c9_5_1 lt9_5 y9_5
  generalize hW : World.alloc _ _ = W9
  have hN : Own w0 W9 [row (u.heap.size + 1) 25 #[.int .u32 3, .int .u32 vm], row (u.heap.size) 31 #[.int .i32 loc], row (B1) 25 #[.int .u32 0, .int .u32 0], row (nd3) 56 (full symZ (symL ([sy ⟨#[70, 111, 111]⟩ 0])) 0), row (nd4) 193 (newSrstP r s (nd3) (nd5) (nd6) (nd7)), ((nd5, .map #[] 0) : Rw), row (nd6) 203 #[.pointer none, .pointer none, .slice none 0 0, .map none, .slice none 0 0, .slice none 0 0, .int .i32 0, .int .i32 0, .int .u32 0, .int .u32 0, .bool false, .bool false, .bool false, .bool false, .int .u8 0, .int .u8 6], row (nd7) 25 #[.int .u32 0, .int .u32 0]] X := by
    rw [← hW]
    exact ((hO).alloc' _ (u.heap.size) (by simp)).alloc' _ (u.heap.size + 1) (by simp)
  clear hW hO
  generalize u.heap.size + 1 = B8_1 at hN ⊢
  generalize u.heap.size = B8 at hN ⊢
  have hO := hN
  clear hN
  have st9 := rlaw142_st loc key op s r vm B1 nd3 nd4 nd5 nd6 nd7 B8_1 B8
  let R9 := rlaw142R loc key op s r vm B1 nd3 nd4 nd5 nd6 nd7 B8_1 B8
  refine wp_region_own (e := rlaw142E loc key op s r vm B1 nd3 nd4 nd5 nd6 nd7 B8_1 B8) (anc := rlaw142Anc) (G := (fun L9 α u9 => OwnF w0 u9 (act rlaw142Cnt 8 L9) (rlaw142R loc key op s r vm B1 nd3 nd4 nd5 nd6 nd7 B8_1 B8 L9 α) X)) (by kernel_rfl) (by kernel_rfl) (by kernel_rfl) (by kernel_rfl) (rlaw142_he loc key op s r vm B1 nd3 nd4 nd5 nd6 nd7 B8_1 B8) ?_ (RunsAll.all ?_) ?_
  · have hp : ∀ i, act rlaw142Cnt 8 (fun _ => false) i → i ∈ [999, 1999, 2999, 3999, 4999, 5999, 6999, 7999] := by
      intro i hi
      have h9 : i % 1000 = 999 := by
        by_cases h : i % 1000 = 999
        · exact h
        · exact absurd (act_lt hi h) (by simp)
      unfold act at hi
      rw [if_pos h9] at hi
      simp only [List.mem_cons, List.not_mem_nil, or_false]
      omega
    refine hO.drew.family (fun i hi => ?_) (fun i j hi hj hij => ?_)
    · have := hp i hi
      simp only [List.mem_cons, List.not_mem_nil, or_false] at this
      rcases this with rfl | rfl | rfl | rfl | rfl | rfl | rfl | rfl <;> rfl
    · have h1 := hp i hi
      have h2 := hp j hj
      simp only [List.mem_cons, List.not_mem_nil, or_false] at h1 h2
      omega
  · refine ⟨?_, ?_, ?_, ?_, ?_, ?_, ?_, ?_, ?_, ?_, ?_, ?_, ?_, trivial⟩
    · intro L9 α a9 u9 K9 hL hcl hA hG hS h0 hK
      replace hL : L9 0 = false := hL
      have q14 : a9.tmps[14]? = some (.pointer (some ⟨nd4, 0, none⟩)) := (h0 14 (by kernel_rfl)).trans rfl
      have s14 := Rega.eval_of q14
      go_simp
      exact hK _ α _ (fun _ _ => rfl) rfl (step_same (st9) hL hcl rfl rfl hG)
    · intro L9 α a9 u9 K9 hL hcl hA hG hS h0 hK
      replace hL : L9 1 = false := hL
      have q15 : a9.tmps[15]? = some (.pointer (some ⟨B8, 0, none⟩)) := (h0 15 (by kernel_rfl)).trans rfl
      have s15 := Rega.eval_of q15
      have e0 : R9 L9 α 1999 = row (B8) 31 #[.int .i32 loc] := rfl
      have hr := hG.rowAt 1999 (act_base 1999 rfl) e0
      have c0 : u9.cell? ⟨B8, 0, none⟩ = some (.int .i32 loc) := hr.cell rfl
      clear hr e0
      go_simp
      exact hK _ α _ (fun _ _ => rfl) rfl (step_same (st9) hL hcl rfl rfl hG)
    · intro L9 α a9 u9 K9 hL hcl hA hG hS h0 hK
      replace hL : L9 2 = false := hL
      have q0 : a9.tmps[0]? = some (.int .i32 loc) := (h0 0 (by kernel_rfl)).trans rfl
      have s0 := Rega.eval_of q0
      go_simp
      exact hK _ α _ (fun _ _ => rfl) rfl (step_same (st9) hL hcl rfl rfl hG)
    · intro L9 α a9 u9 K9 hL hcl hA hG hS h0 hK
      replace hL : L9 3 = false := hL
      have q1 : a9.tmps[1]? = some (.string key) := (h0 1 (by kernel_rfl)).trans rfl
      have s1 := Rega.eval_of q1
      go_simp
      exact hK _ α _ (fun _ _ => rfl) rfl (step_same (st9) hL hcl rfl rfl hG)
    · intro L9 α a9 u9 K9 hL hcl hA hG hS h0 hK
      replace hL : L9 4 = false := hL
      have q52 : a9.tmps[52]? = some (.string key) := hS 3 52 (by decide) rfl (by show 52 < 159; decide)
      have s52 := Rega.eval_of q52
      go_simp
      have hM : ∀ i, i ∈ [] → act rlaw142Cnt 8 L9 i := by intro i hi; simp at hi
      have hP : Own w0 u9 [] _ := hG.pick [] (by decide) (by simp)
      clear hM
      refine Calls.mono (unitsO key _ _ _ hP (by omega)) ?_
      rintro e9 u1 ⟨b0, rfl, hQ⟩
      obtain ⟨α', hα'⟩ : ∃ α' : Rega.Atoms, α' = (fun j => if j = 4 then b0 else α j) := ⟨_, rfl⟩
      have f0 : R9 (Rega.ran L9 4) α' 4 = row (α' 4) 51 (units key) := rfl
      have hα : ∀ j, j % 1000 ≠ 4 → α' j = α j := fun j hj => by rw [hα']; simp only []; rw [if_neg (by omega)]
      have hb0 : α' 4 = b0 := by rw [hα']; rfl
      skip
      refine hK _ α' _ hα ?_ (step_call (st9) hL hcl hα [] [4] (by decide) (by decide) (by decide) (M := _) ?_ hG hQ)
      · show _ = (.slice (some ⟨α' 4, 0, none⟩) key.size key.size : Value)
        simp only [hb0]
      · show [R9 (Rega.ran L9 4) α' 4] = _
        rw [f0]
        simp only [hb0]
    · intro L9 α a9 u9 K9 hL hcl hA hG hS h0 hK
      replace hL : L9 5 = false := hL
      have q51 : a9.tmps[51]? = some (.int .i32 loc) := hS 2 51 (by decide) rfl (by show 51 < 159; decide)
      have s51 := Rega.eval_of q51
      have q53 : a9.tmps[53]? = some (.slice (some ⟨α 4, 0, none⟩) key.size key.size) := hS 4 53 (by decide) rfl (by show 53 < 159; decide)
      have s53 := Rega.eval_of q53
      go_simp
      have hM : ∀ i, i ∈ [] → act rlaw142Cnt 8 L9 i := by intro i hi; simp at hi
      have hP : Own w0 u9 [] _ := hG.pick [] (by decide) (by simp)
      clear hM
      refine Calls.mono (strE loc (α 4) key.size key.size _ _ _ hP ) ?_
      rintro e9 u1 ⟨b0, rfl, hQ⟩
      obtain ⟨α', hα'⟩ : ∃ α' : Rega.Atoms, α' = (fun j => if j = 5 then b0 else α j) := ⟨_, rfl⟩
      have f0 : R9 (Rega.ran L9 5) α' 5 = row (α' 5) 208 #[.slice (some ⟨α' 4, 0, none⟩) key.size key.size, .int .i32 0, .bool false, .bool false, .bool false] := rfl
      have hα : ∀ j, j % 1000 ≠ 5 → α' j = α j := fun j hj => by rw [hα']; simp only []; rw [if_neg (by omega)]
      have hb0 : α' 5 = b0 := by rw [hα']; rfl
      have ha4 : α' 4 = α 4 := hα 4 (by decide)
      skip
      refine hK _ α' _ hα ?_ (step_call (st9) hL hcl hα [] [5] (by decide) (by decide) (by decide) (M := _) ?_ hG hQ)
      · show _ = (.agg #[.iface 206 (.pointer (some ⟨α' 5, 0, none⟩)), .int .i32 loc] : Value)
        simp only [hb0]
      · show [R9 (Rega.ran L9 5) α' 5] = _
        rw [f0]
        simp only [hb0, ha4]
    · intro L9 α a9 u9 K9 hL hcl hA hG hS h0 hK
      replace hL : L9 6 = false := hL
      have q2 : a9.tmps[2]? = some (.int .u8 op) := (h0 2 (by kernel_rfl)).trans rfl
      have s2 := Rega.eval_of q2
      go_simp
      exact hK _ α _ (fun _ _ => rfl) rfl (step_same (st9) hL hcl rfl rfl hG)
    · intro L9 α a9 u9 K9 hL hcl hA hG hS h0 hK
      replace hL : L9 7 = false := hL
      have q0 : a9.tmps[0]? = some (.int .i32 loc) := (h0 0 (by kernel_rfl)).trans rfl
      have s0 := Rega.eval_of q0
      go_simp
      exact hK _ α _ (fun _ _ => rfl) rfl (step_same (st9) hL hcl rfl rfl hG)
    · intro L9 α a9 u9 K9 hL hcl hA hG hS h0 hK
      replace hL : L9 8 = false := hL
      have q16 : a9.tmps[16]? = some (.pointer (some ⟨B8_1, 0, none⟩)) := (h0 16 (by kernel_rfl)).trans rfl
      have s16 := Rega.eval_of q16
      have e0 : R9 L9 α 999 = row (B8_1) 25 #[.int .u32 3, .int .u32 vm] := rfl
      have hr := hG.rowAt 999 (act_base 999 rfl) e0
      have c0 : u9.cell? ⟨B8_1, 0, none⟩ = some (.int .u32 3) := hr.cell rfl
      have c1 : u9.cell? ⟨B8_1, 1, none⟩ = some (.int .u32 vm) := hr.cell rfl
      clear hr e0
      go_simp
      exact hK _ α _ (fun _ _ => rfl) rfl (step_same (st9) hL hcl rfl rfl hG)
    · intro L9 α a9 u9 K9 hL hcl hA hG hS h0 hK
      replace hL : L9 9 = false := hL
      have q56 : a9.tmps[56]? = some (.int .i32 loc) := hS 7 56 (by decide) rfl (by show 56 < 159; decide)
      have s56 := Rega.eval_of q56
      have q57 : a9.tmps[57]? = some (.agg #[.int .u32 3, .int .u32 vm]) := hS 8 57 (by decide) rfl (by show 57 < 159; decide)
      have s57 := Rega.eval_of q57
      go_simp
      have hM : ∀ i, i ∈ [] → act rlaw142Cnt 8 L9 i := by intro i hi; simp at hi
      have hP : Own w0 u9 [] _ := hG.pick [] (by decide) (by simp)
      clear hM
      refine Calls.mono (idE loc 3 vm _ _ _ hP ) ?_
      rintro e9 u1 ⟨b0, rfl, hQ⟩
      obtain ⟨α', hα'⟩ : ∃ α' : Rega.Atoms, α' = (fun j => if j = 9 then b0 else α j) := ⟨_, rfl⟩
      have f0 : R9 (Rega.ran L9 9) α' 9 = row (α' 9) 211 #[.int .u32 3, .int .u32 vm, .bool false, .bool false, .bool false] := rfl
      have hα : ∀ j, j % 1000 ≠ 9 → α' j = α j := fun j hj => by rw [hα']; simp only []; rw [if_neg (by omega)]
      have hb0 : α' 9 = b0 := by rw [hα']; rfl
      skip
      refine hK _ α' _ hα ?_ (step_call (st9) hL hcl hα [] [9] (by decide) (by decide) (by decide) (M := _) ?_ hG hQ)
      · show _ = (.agg #[.iface 209 (.pointer (some ⟨α' 9, 0, none⟩)), .int .i32 loc] : Value)
        simp only [hb0]
      · show [R9 (Rega.ran L9 9) α' 9] = _
        rw [f0]
        simp only [hb0]
    · intro L9 α a9 u9 K9 hL hcl hA hG hS h0 hK
      replace hL : L9 10 = false := hL
      have q49 : a9.tmps[49]? = some (.pointer (some ⟨nd4, 0, none⟩)) := hS 0 49 (by decide) rfl (by show 49 < 159; decide)
      have s49 := Rega.eval_of q49
      have q50 : a9.tmps[50]? = some (.agg #[.int .i32 loc]) := hS 1 50 (by decide) rfl (by show 50 < 159; decide)
      have s50 := Rega.eval_of q50
      have q54 : a9.tmps[54]? = some (.agg #[.iface 206 (.pointer (some ⟨α 5, 0, none⟩)), .int .i32 loc]) := hS 5 54 (by decide) rfl (by show 54 < 159; decide)
      have s54 := Rega.eval_of q54
      have q55 : a9.tmps[55]? = some (.int .u8 op) := hS 6 55 (by decide) rfl (by show 55 < 159; decide)
      have s55 := Rega.eval_of q55
      have q58 : a9.tmps[58]? = some (.agg #[.iface 209 (.pointer (some ⟨α 9, 0, none⟩)), .int .i32 loc]) := hS 9 58 (by decide) rfl (by show 58 < 159; decide)
      have s58 := Rega.eval_of q58
      go_simp
      have e0 : R9 L9 α 4999 = row (nd4) 193 (newSrstP r s (nd3) (nd5) (nd6) (nd7)) := by
        show rlaw142T4999 loc key op s r vm B1 nd3 nd4 nd5 nd6 nd7 B8_1 B8 L9 α = _
        unfold rlaw142T4999
        rw [if_neg (by rw [hL]; decide)]
      have e1 : R9 L9 α 3999 = row (nd3) 56 (full symZ (symL ([sy ⟨#[70, 111, 111]⟩ 0])) 0) := by
        show rlaw142T3999 loc key op s r vm B1 nd3 nd4 nd5 nd6 nd7 B8_1 B8 L9 α = _
        unfold rlaw142T3999
        rw [if_neg (by rw [hL]; decide)]
      have e2 : R9 L9 α 5999 = ((nd5, .map #[] 0) : Rw) := by
        show rlaw142T5999 loc key op s r vm B1 nd3 nd4 nd5 nd6 nd7 B8_1 B8 L9 α = _
        unfold rlaw142T5999
        rw [if_neg (by rw [hL]; decide)]
      have e3 : R9 L9 α 6999 = row (nd6) 203 #[.pointer none, .pointer none, .slice none 0 0, .map none, .slice none 0 0, .slice none 0 0, .int .i32 0, .int .i32 0, .int .u32 0, .int .u32 0, .bool false, .bool false, .bool false, .bool false, .int .u8 0, .int .u8 6] := by
        show rlaw142T6999 loc key op s r vm B1 nd3 nd4 nd5 nd6 nd7 B8_1 B8 L9 α = _
        unfold rlaw142T6999
        rw [if_neg (by rw [hL]; decide)]
      have e4 : R9 L9 α 7999 = row (nd7) 25 #[.int .u32 0, .int .u32 0] := rfl
      have e5 : R9 L9 α 5 = row (α 5) 208 #[.slice (some ⟨α 4, 0, none⟩) key.size key.size, .int .i32 0, .bool false, .bool false, .bool false] := rfl
      have hM : ∀ i, i ∈ [4999, 3999, 5999, 6999, 7999, 5] → act rlaw142Cnt 8 L9 i := by
        intro i hi
        simp only [List.mem_cons, List.not_mem_nil, or_false] at hi
        rcases hi with rfl | rfl | rfl | rfl | rfl | rfl
        · exact act_base 4999 rfl
        · exact act_base 3999 rfl
        · exact act_base 5999 rfl
        · exact act_base 6999 rfl
        · exact act_base 7999 rfl
        · exact act_new 5 rfl (hA 5 (by decide))
      have hP : Own w0 u9 [row (nd4) 193 (newSrstP r s (nd3) (nd5) (nd6) (nd7)), row (nd3) 56 (full symZ (symL ([sy ⟨#[70, 111, 111]⟩ 0])) 0), ((nd5, .map #[] 0) : Rw), row (nd6) 203 #[.pointer none, .pointer none, .slice none 0 0, .map none, .slice none 0 0, .slice none 0 0, .int .i32 0, .int .i32 0, .int .u32 0, .int .u32 0, .bool false, .bool false, .bool false, .bool false, .int .u8 0, .int .u8 6], row (nd7) 25 #[.int .u32 0, .int .u32 0], row (α 5) 208 #[.slice (some ⟨α 4, 0, none⟩) key.size key.size, .int .i32 0, .bool false, .bool false, .bool false]] _ := (hG.pick [4999, 3999, 5999, 6999, 7999, 5] (by decide) hM).conv (by
        show [R9 L9 α 4999, R9 L9 α 3999, R9 L9 α 5999, R9 L9 α 6999, R9 L9 α 7999, R9 L9 α 5] = _
        rw [e0, e1, e2, e3, e4, e5])
      clear e0 e1 e2 e3 e4 e5 hM
      refine Calls.mono (dbinopU nd4 (newSrstP r s nd3 nd5 nd6 nd7) nd3 0 nd5 nd6 #[.pointer none, .pointer none, .slice none 0 0, .map none, .slice none 0 0, .slice none 0 0, .int .i32 0, .int .i32 0, .int .u32 0, .int .u32 0, .bool false, .bool false, .bool false, .bool false, .int .u8 0, .int .u8 6] nd7 loc r s (α 5) (α 4) key.size key.size loc op 209 (α 9) loc _ _ _ hP (newSrst_350 r s (nd3) (nd5) (nd6) (nd7)) (newSrst_32 r s (nd3) (nd5) (nd6) (nd7)) (newSrst_105 r s (nd3) (nd5) (nd6) (nd7)) (newSrst_66 r s (nd3) (nd5) (nd6) (nd7)) (newSrst_117 r s (nd3) (nd5) (nd6) (nd7)) (newSrst_187 r s (nd3) (nd5) (nd6) (nd7)) (newSrst_97 r s (nd3) (nd5) (nd6) (nd7)) (newSrst_95 r s (nd3) (nd5) (nd6) (nd7)) (newSrst_96 r s (nd3) (nd5) (nd6) (nd7)) (newSrst_106 r s (nd3) (nd5) (nd6) (nd7)) rfl hg0 hg1) ?_
      rintro e9 u1 ⟨b0, b1, b3, b4, b5, b2, b6, rfl, hQ⟩
      obtain ⟨α', hα'⟩ : ∃ α' : Rega.Atoms, α' = (fun j => if j = 10 then b0 else if j = 1010 then b1 else if j = 2010 then b2 else if j = 3010 then b3 else if j = 4010 then b4 else if j = 5010 then b5 else if j = 6010 then b6 else α j) := ⟨_, rfl⟩
      have f0 : R9 (Rega.ran L9 10) α' 4999 = row (nd4) 193 ((newSrstP r s nd3 nd5 nd6 nd7).setIfInBounds 106 (.slice (some ⟨α' 4010, 0, none⟩) 3 (3 + (α' 5010)))) := by
        show rlaw142T4999 loc key op s r vm B1 nd3 nd4 nd5 nd6 nd7 B8_1 B8 (Rega.ran L9 10) α' = _
        unfold rlaw142T4999
        rw [if_pos (show Rega.ran L9 10 10 = true from rfl)]
      have f1 : R9 (Rega.ran L9 10) α' 3999 = row (α' 4010) 56 (full symZ (symL ([sy ⟨#[70, 111, 111]⟩ (uz r (uz r 0)), sy ⟨#[95, 95, 115, 117, 112, 101, 114, 71, 101, 116]⟩ 1, sy ⟨#[95, 95, 115, 117, 112, 101, 114, 83, 101, 116]⟩ 1])) (α' 5010)) := by
        show rlaw142T3999 loc key op s r vm B1 nd3 nd4 nd5 nd6 nd7 B8_1 B8 (Rega.ran L9 10) α' = _
        unfold rlaw142T3999
        rw [if_pos (show Rega.ran L9 10 10 = true from rfl)]
      have f2 : R9 (Rega.ran L9 10) α' 5999 = ((nd5, .map #[⟨.string ⟨#[95, 95, 115, 117, 112, 101, 114, 71, 101, 116]⟩, .agg #[.int .i32 loc, .int .u32 0, .int .u32 1], 0⟩, ⟨.string ⟨#[95, 95, 115, 117, 112, 101, 114, 83, 101, 116]⟩, .agg #[.int .i32 loc, .int .u32 0, .int .u32 2], 1⟩] 2) : Rw) := by
        show rlaw142T5999 loc key op s r vm B1 nd3 nd4 nd5 nd6 nd7 B8_1 B8 (Rega.ran L9 10) α' = _
        unfold rlaw142T5999
        rw [if_pos (show Rega.ran L9 10 10 = true from rfl)]
      have f3 : R9 (Rega.ran L9 10) α' 6999 = row (nd6) 203 (#[.pointer none, .pointer none, .slice none 0 0, .map none, .slice none 0 0, .slice none 0 0, .int .i32 0, .int .i32 0, .int .u32 0, .int .u32 0, .bool false, .bool false, .bool false, .bool false, .int .u8 0, .int .u8 6].setIfInBounds 5 (.slice (some ⟨α' 2010, 0, none⟩) 2 (2 + (α' 6010)))) := by
        show rlaw142T6999 loc key op s r vm B1 nd3 nd4 nd5 nd6 nd7 B8_1 B8 (Rega.ran L9 10) α' = _
        unfold rlaw142T6999
        rw [if_pos (show Rega.ran L9 10 10 = true from rfl)]
      have f4 : R9 (Rega.ran L9 10) α' 2010 = row (α' 2010) 25 (full refZ ([.int .u32 0, .int .u32 1, .int .u32 0, .int .u32 2]) (α' 6010)) := rfl
      have f5 : R9 (Rega.ran L9 10) α' 7999 = row (nd7) 25 #[.int .u32 0, .int .u32 0] := rfl
      have f6 : R9 (Rega.ran L9 10) α' 5 = row (α' 5) 208 #[.slice (some ⟨α' 4, 0, none⟩) key.size key.size, .int .i32 0, .bool false, .bool false, .bool false] := rfl
      have f7 : R9 (Rega.ran L9 10) α' 10 = row (α' 10) 211 #[.int .u32 0, .int .u32 2, .bool false, .bool false, .bool false] := rfl
      have f8 : R9 (Rega.ran L9 10) α' 1010 = row (α' 1010) 71 #[.iface 209 (.pointer (some ⟨α' 10, 0, none⟩)), .int .i32 loc, .slice (some ⟨α' 3010, 0, none⟩) 4 4, .int .i32 0, .int .u8 0, .int .u8 0, .bool false, .bool false] := rfl
      have hα : ∀ j, j % 1000 ≠ 10 → α' j = α j := fun j hj => by rw [hα']; simp only []; rw [if_neg (by omega), if_neg (by omega), if_neg (by omega), if_neg (by omega), if_neg (by omega), if_neg (by omega), if_neg (by omega)]
      have hb0 : α' 10 = b0 := by rw [hα']; rfl
      have hb1 : α' 1010 = b1 := by rw [hα']; rfl
      have hb2 : α' 2010 = b2 := by rw [hα']; rfl
      have hb3 : α' 3010 = b3 := by rw [hα']; rfl
      have hb4 : α' 4010 = b4 := by rw [hα']; rfl
      have hb5 : α' 5010 = b5 := by rw [hα']; rfl
      have hb6 : α' 6010 = b6 := by rw [hα']; rfl
      have ha4 : α' 4 = α 4 := hα 4 (by decide)
      have ha5 : α' 5 = α 5 := hα 5 (by decide)
      skip
      refine hK _ α' _ hα ?_ (step_call (st9) hL hcl hα [4999, 3999, 5999, 6999, 7999, 5] [4999, 3999, 5999, 6999, 2010, 7999, 5, 10, 1010] (by decide) (by decide) (by decide) (M := _) ?_ hG hQ)
      · show _ = (.agg #[.iface 65 (.pointer (some ⟨α' 1010, 0, none⟩)), .int .i32 loc] : Value)
        simp only [hb1]
      · show [R9 (Rega.ran L9 10) α' 4999, R9 (Rega.ran L9 10) α' 3999, R9 (Rega.ran L9 10) α' 5999, R9 (Rega.ran L9 10) α' 6999, R9 (Rega.ran L9 10) α' 2010, R9 (Rega.ran L9 10) α' 7999, R9 (Rega.ran L9 10) α' 5, R9 (Rega.ran L9 10) α' 10, R9 (Rega.ran L9 10) α' 1010] = _
        rw [f0, f1, f2, f3, f4, f5, f6, f7, f8]
        simp only [hb0, hb1, hb2, hb3, hb4, hb5, hb6, ha4, ha5]
    · intro L9 α a9 u9 K9 hL hcl hA hG hS h0 hK
      replace hL : L9 11 = false := hL
      go_simp
      have e1 : R9 (Rega.ran L9 11) (fun j => if j = 11 then u9.heap.size else α j) 11 = row (u9.heap.size) 35 #[.nilIface, .int .i32 0] := by
        show rlaw142T11 loc key op s r vm B1 nd3 nd4 nd5 nd6 nd7 B8_1 B8 (Rega.ran L9 11) (fun j => if j = 11 then u9.heap.size else α j) = _
        unfold rlaw142T11
        exact ((if_neg (fun e => (fun e => by have := hcl 12 e 11 (by decide); rw [hL] at this; cases this) ((ran_ne (by decide)).symm.trans e))).trans rfl)
      exact hK _ (fun j => if j = 11 then u9.heap.size else α j) _ (fun j hj => if_neg (fun e => hj (by rw [e]))) rfl (step_alloc (st9) hL hcl rfl rfl (by decide) _ e1 hG)
    · intro L9 α a9 u9 K9 hL hcl hA hG hS h0 hK
      replace hL : L9 12 = false := hL
      have q17 : a9.tmps[17]? = some (.pointer (some ⟨α 11, 0, none⟩)) := hS 11 17 (by decide) rfl (by show 17 < 159; decide)
      have s17 := Rega.eval_of q17
      have q59 : a9.tmps[59]? = some (.agg #[.iface 65 (.pointer (some ⟨α 1010, 0, none⟩)), .int .i32 loc]) := hS 10 59 (by decide) rfl (by show 59 < 159; decide)
      have s59 := Rega.eval_of q59
      have e0 : R9 L9 α 11 = row (α 11) 35 #[.nilIface, .int .i32 0] := by
        show rlaw142T11 loc key op s r vm B1 nd3 nd4 nd5 nd6 nd7 B8_1 B8 L9 α = _
        unfold rlaw142T11
        rw [if_neg (by rw [hL]; decide)]
      have hr := hG.rowAt 11 (act_new 11 rfl (hA 11 (by decide))) e0
      have c0 : u9.cell? ⟨α 11, 0, none⟩ = some (.nilIface) := hr.cell rfl
      have y0 : u9.frozen? ⟨α 11, 0, none⟩ = false := hr.free 0
      have c1 : u9.cell? ⟨α 11, 1, none⟩ = some (.int .i32 0) := hr.cell rfl
      have y1 : u9.frozen? ⟨α 11, 1, none⟩ = false := hr.free 1
      clear hr
      have E0 := Lib.hid e0
      clear e0
      go_simp
      have e1 : R9 (Rega.ran L9 12) α 11 = row (α 11) 35 #[.iface 65 (.pointer (some ⟨α 1010, 0, none⟩)), .int .i32 loc] := by
        show rlaw142T11 loc key op s r vm B1 nd3 nd4 nd5 nd6 nd7 B8_1 B8 (Rega.ran L9 12) α = _
        unfold rlaw142T11
        rw [if_pos (show Rega.ran L9 12 12 = true from rfl)]
      exact hK _ α _ (fun _ _ => rfl) rfl (step_sets (st9) hL hcl rfl 11 rfl (act_new 11 rfl (hA 11 (by decide))) E0.out 0 [.iface 65 (.pointer (some ⟨α 1010, 0, none⟩)), .int .i32 loc] (e1.trans rfl) hG)
  clear st9
  intro α u hG
  have e0 : R9 (fun k => decide (k < 13)) α 999 = row (B8_1) 25 #[.int .u32 3, .int .u32 vm] := rfl
  have e1 : R9 (fun k => decide (k < 13)) α 1999 = row (B8) 31 #[.int .i32 loc] := rfl
  have e2 : R9 (fun k => decide (k < 13)) α 2999 = row (B1) 25 #[.int .u32 0, .int .u32 0] := rfl
  have e3 : R9 (fun k => decide (k < 13)) α 3999 = row (α 4010) 56 (full symZ (symL ([sy ⟨#[70, 111, 111]⟩ (uz r (uz r 0)), sy ⟨#[95, 95, 115, 117, 112, 101, 114, 71, 101, 116]⟩ 1, sy ⟨#[95, 95, 115, 117, 112, 101, 114, 83, 101, 116]⟩ 1])) (α 5010)) := by
    show rlaw142T3999 loc key op s r vm B1 nd3 nd4 nd5 nd6 nd7 B8_1 B8 (fun k => decide (k < 13)) α = _
    unfold rlaw142T3999
    rw [if_pos (by decide)]
  have e4 : R9 (fun k => decide (k < 13)) α 4999 = row (nd4) 193 ((newSrstP r s nd3 nd5 nd6 nd7).setIfInBounds 106 (.slice (some ⟨α 4010, 0, none⟩) 3 (3 + (α 5010)))) := by
    show rlaw142T4999 loc key op s r vm B1 nd3 nd4 nd5 nd6 nd7 B8_1 B8 (fun k => decide (k < 13)) α = _
    unfold rlaw142T4999
    rw [if_pos (by decide)]
  have e5 : R9 (fun k => decide (k < 13)) α 5999 = ((nd5, .map #[⟨.string ⟨#[95, 95, 115, 117, 112, 101, 114, 71, 101, 116]⟩, .agg #[.int .i32 loc, .int .u32 0, .int .u32 1], 0⟩, ⟨.string ⟨#[95, 95, 115, 117, 112, 101, 114, 83, 101, 116]⟩, .agg #[.int .i32 loc, .int .u32 0, .int .u32 2], 1⟩] 2) : Rw) := by
    show rlaw142T5999 loc key op s r vm B1 nd3 nd4 nd5 nd6 nd7 B8_1 B8 (fun k => decide (k < 13)) α = _
    unfold rlaw142T5999
    rw [if_pos (by decide)]
  have e6 : R9 (fun k => decide (k < 13)) α 6999 = row (nd6) 203 (#[.pointer none, .pointer none, .slice none 0 0, .map none, .slice none 0 0, .slice none 0 0, .int .i32 0, .int .i32 0, .int .u32 0, .int .u32 0, .bool false, .bool false, .bool false, .bool false, .int .u8 0, .int .u8 6].setIfInBounds 5 (.slice (some ⟨α 2010, 0, none⟩) 2 (2 + (α 6010)))) := by
    show rlaw142T6999 loc key op s r vm B1 nd3 nd4 nd5 nd6 nd7 B8_1 B8 (fun k => decide (k < 13)) α = _
    unfold rlaw142T6999
    rw [if_pos (by decide)]
  have e7 : R9 (fun k => decide (k < 13)) α 7999 = row (nd7) 25 #[.int .u32 0, .int .u32 0] := rfl
  have e8 : R9 (fun k => decide (k < 13)) α 4 = row (α 4) 51 (units key) := rfl
  have e9 : R9 (fun k => decide (k < 13)) α 5 = row (α 5) 208 #[.slice (some ⟨α 4, 0, none⟩) key.size key.size, .int .i32 0, .bool false, .bool false, .bool false] := rfl
  have e10 : R9 (fun k => decide (k < 13)) α 9 = row (α 9) 211 #[.int .u32 3, .int .u32 vm, .bool false, .bool false, .bool false] := rfl
  have e11 : R9 (fun k => decide (k < 13)) α 10 = row (α 10) 211 #[.int .u32 0, .int .u32 2, .bool false, .bool false, .bool false] := rfl
  have e12 : R9 (fun k => decide (k < 13)) α 1010 = row (α 1010) 71 #[.iface 209 (.pointer (some ⟨α 10, 0, none⟩)), .int .i32 loc, .slice (some ⟨α 3010, 0, none⟩) 4 4, .int .i32 0, .int .u8 0, .int .u8 0, .bool false, .bool false] := rfl
  have e13 : R9 (fun k => decide (k < 13)) α 2010 = row (α 2010) 25 (full refZ ([.int .u32 0, .int .u32 1, .int .u32 0, .int .u32 2]) (α 6010)) := rfl
  have e14 : R9 (fun k => decide (k < 13)) α 11 = row (α 11) 35 #[.iface 65 (.pointer (some ⟨α 1010, 0, none⟩)), .int .i32 loc] := by
    show rlaw142T11 loc key op s r vm B1 nd3 nd4 nd5 nd6 nd7 B8_1 B8 (fun k => decide (k < 13)) α = _
    unfold rlaw142T11
    rw [if_pos (by decide)]
  have hO : Own w0 u [row (B8_1) 25 #[.int .u32 3, .int .u32 vm], row (B8) 31 #[.int .i32 loc], row (B1) 25 #[.int .u32 0, .int .u32 0], row (α 4010) 56 (full symZ (symL ([sy ⟨#[70, 111, 111]⟩ (uz r (uz r 0)), sy ⟨#[95, 95, 115, 117, 112, 101, 114, 71, 101, 116]⟩ 1, sy ⟨#[95, 95, 115, 117, 112, 101, 114, 83, 101, 116]⟩ 1])) (α 5010)), row (nd4) 193 ((newSrstP r s nd3 nd5 nd6 nd7).setIfInBounds 106 (.slice (some ⟨α 4010, 0, none⟩) 3 (3 + (α 5010)))), ((nd5, .map #[⟨.string ⟨#[95, 95, 115, 117, 112, 101, 114, 71, 101, 116]⟩, .agg #[.int .i32 loc, .int .u32 0, .int .u32 1], 0⟩, ⟨.string ⟨#[95, 95, 115, 117, 112, 101, 114, 83, 101, 116]⟩, .agg #[.int .i32 loc, .int .u32 0, .int .u32 2], 1⟩] 2) : Rw), row (nd6) 203 (#[.pointer none, .pointer none, .slice none 0 0, .map none, .slice none 0 0, .slice none 0 0, .int .i32 0, .int .i32 0, .int .u32 0, .int .u32 0, .bool false, .bool false, .bool false, .bool false, .int .u8 0, .int .u8 6].setIfInBounds 5 (.slice (some ⟨α 2010, 0, none⟩) 2 (2 + (α 6010)))), row (nd7) 25 #[.int .u32 0, .int .u32 0], row (α 4) 51 (units key), row (α 5) 208 #[.slice (some ⟨α 4, 0, none⟩) key.size key.size, .int .i32 0, .bool false, .bool false, .bool false], row (α 9) 211 #[.int .u32 3, .int .u32 vm, .bool false, .bool false, .bool false], row (α 10) 211 #[.int .u32 0, .int .u32 2, .bool false, .bool false, .bool false], row (α 1010) 71 #[.iface 209 (.pointer (some ⟨α 10, 0, none⟩)), .int .i32 loc, .slice (some ⟨α 3010, 0, none⟩) 4 4, .int .i32 0, .int .u8 0, .int .u8 0, .bool false, .bool false], row (α 2010) 25 (full refZ ([.int .u32 0, .int .u32 1, .int .u32 0, .int .u32 2]) (α 6010)), row (α 11) 35 #[.iface 65 (.pointer (some ⟨α 1010, 0, none⟩)), .int .i32 loc]] X := (hG.list [999, 1999, 2999, 3999, 4999, 5999, 6999, 7999, 4, 5, 9, 10, 1010, 2010, 11] (by decide) (act_all (by decide))).conv (by
    show [R9 (fun k => decide (k < 13)) α 999, R9 (fun k => decide (k < 13)) α 1999, R9 (fun k => decide (k < 13)) α 2999, R9 (fun k => decide (k < 13)) α 3999, R9 (fun k => decide (k < 13)) α 4999, R9 (fun k => decide (k < 13)) α 5999, R9 (fun k => decide (k < 13)) α 6999, R9 (fun k => decide (k < 13)) α 7999, R9 (fun k => decide (k < 13)) α 4, R9 (fun k => decide (k < 13)) α 5, R9 (fun k => decide (k < 13)) α 9, R9 (fun k => decide (k < 13)) α 10, R9 (fun k => decide (k < 13)) α 1010, R9 (fun k => decide (k < 13)) α 2010, R9 (fun k => decide (k < 13)) α 11] = _
    rw [e0, e1, e2, e3, e4, e5, e6, e7, e8, e9, e10, e11, e12, e13, e14])
  clear hG e0 e1 e2 e3 e4 e5 e6 e7 e8 e9 e10 e11 e12 e13 e14 R9
  generalize hfr : Rega.frameAt _ _ _ _ _ = fr
  have hdf : fr = ⟨#[.int .i32 loc, .string key, .int .u8 op, .bool s, .bool r, .int .u32 vm, undef, undef, undef, undef, undef, undef, .bool false, .pointer (some ⟨B1, 0, none⟩), .pointer (some ⟨nd4, 0, none⟩), .pointer (some ⟨B8, 0, none⟩), .pointer (some ⟨B8_1, 0, none⟩), .pointer (some ⟨α 11, 0, none⟩), undef, undef, undef, undef, undef, undef, undef, undef, undef, undef, .int .i32 loc, .string key, .int .u8 op, .bool s, .bool r, .int .u32 vm, .bool true, .bool false, .string key, .int .i64 (key.size : Int), .bool (decide (65536 < (key.size : Int))), .agg #[.int .u32 0, .int .u32 0], .slice (some ⟨nd3, 0, none⟩) 1 1, .agg #[.int .u32 0, .int .u32 0], .bool s, .bool r, .pointer (some ⟨nd4, 0, none⟩), .int .i32 loc, .agg #[.int .i32 loc], .int .u32 vm, .agg #[.int .u32 3, .int .u32 vm], .pointer (some ⟨nd4, 0, none⟩), .agg #[.int .i32 loc], .int .i32 loc, .string key, .slice (some ⟨α 4, 0, none⟩) key.size key.size, .agg #[.iface 206 (.pointer (some ⟨α 5, 0, none⟩)), .int .i32 loc], .int .u8 op, .int .i32 loc, .agg #[.int .u32 3, .int .u32 vm], .agg #[.iface 209 (.pointer (some ⟨α 9, 0, none⟩)), .int .i32 loc], .agg #[.iface 65 (.pointer (some ⟨α 1010, 0, none⟩)), .int .i32 loc], undef, undef, undef, undef, undef, undef, undef, undef, undef, undef, undef, undef, undef, undef, undef, undef, undef, undef, undef, undef, undef, undef, undef, undef, undef, undef, undef, undef, undef, undef, undef, undef, undef, undef, undef, undef, undef, undef, undef, undef, undef, undef, undef, undef, undef, undef, undef, undef, undef, undef, undef, undef, undef, undef, undef, undef, undef, undef, undef, undef, undef, undef, undef, undef, undef, undef, undef, undef, undef, undef, undef, undef, undef, undef, undef, undef, undef, undef, undef, undef, undef, undef, undef, undef, undef, undef, undef, undef, undef, undef, undef, undef, undef, undef, undef, undef, undef, undef, undef], []⟩ := by rw [← hfr]; kernel_rfl
  clear hfr
  subst hdf
  generalize α 4 = nd10 at hO ⊢
  generalize α 5 = nd11 at hO ⊢
  generalize α 9 = nd12 at hO ⊢
  generalize α 10 = nd13 at hO ⊢
  generalize α 11 = nd14 at hO ⊢
  generalize α 1010 = nd15 at hO ⊢
  generalize α 2010 = nd16 at hO ⊢
  generalize α 3010 = nd17 at hO ⊢
  generalize α 4010 = nd18 at hO ⊢
  generalize α 5010 = nd19 at hO ⊢
  generalize α 6010 = nd20 at hO ⊢
  clear α
  have hN : Own w0 u [row (B8_1) 25 #[.int .u32 3, .int .u32 vm], row (B8) 31 #[.int .i32 loc], row (B1) 25 #[.int .u32 0, .int .u32 0], row (nd18) 56 (full symZ (symL ([sy ⟨#[70, 111, 111]⟩ (uz r (uz r 0)), sy ⟨#[95, 95, 115, 117, 112, 101, 114, 71, 101, 116]⟩ 1, sy ⟨#[95, 95, 115, 117, 112, 101, 114, 83, 101, 116]⟩ 1])) (nd19)), row (nd4) 193 ((newSrstP r s nd3 nd5 nd6 nd7).setIfInBounds 106 (.slice (some ⟨nd18, 0, none⟩) 3 (3 + (nd19)))), ((nd5, .map #[⟨.string ⟨#[95, 95, 115, 117, 112, 101, 114, 71, 101, 116]⟩, .agg #[.int .i32 loc, .int .u32 0, .int .u32 1], 0⟩, ⟨.string ⟨#[95, 95, 115, 117, 112, 101, 114, 83, 101, 116]⟩, .agg #[.int .i32 loc, .int .u32 0, .int .u32 2], 1⟩] 2) : Rw), row (nd6) 203 #[.pointer none, .pointer none, .slice none 0 0, .map none, .slice none 0 0, .slice (some ⟨nd16, 0, none⟩) 2 (2 + (nd20)), .int .i32 0, .int .i32 0, .int .u32 0, .int .u32 0, .bool false, .bool false, .bool false, .bool false, .int .u8 0, .int .u8 6], row (nd7) 25 #[.int .u32 0, .int .u32 0], row (nd10) 51 (units key), row (nd11) 208 #[.slice (some ⟨nd10, 0, none⟩) key.size key.size, .int .i32 0, .bool false, .bool false, .bool false], row (nd12) 211 #[.int .u32 3, .int .u32 vm, .bool false, .bool false, .bool false], row (nd13) 211 #[.int .u32 0, .int .u32 2, .bool false, .bool false, .bool false], row (nd15) 71 #[.iface 209 (.pointer (some ⟨nd13, 0, none⟩)), .int .i32 loc, .slice (some ⟨nd17, 0, none⟩) 4 4, .int .i32 0, .int .u8 0, .int .u8 0, .bool false, .bool false], row (nd16) 25 (full refZ [.int .u32 0, .int .u32 1, .int .u32 0, .int .u32 2] (nd20)), row (nd14) 35 #[.iface 65 (.pointer (some ⟨nd15, 0, none⟩)), .int .i32 loc]] X := hO
  clear hO
  have hO := hN
  clear hN
  obtain ⟨c9_0_0, c9_0_1, lt9_0, y9_0, -⟩ := hO.k2 0 rfl
  obtain ⟨c9_1_0, lt9_1, y9_1, -⟩ := hO.k1 1 rfl
  obtain ⟨c9_2_0, c9_2_1, lt9_2, y9_2, -⟩ := hO.k2 2 rfl
  obtain ⟨c9_7_0, c9_7_1, lt9_7, y9_7, -⟩ := hO.k2 7 rfl
  obtain ⟨c9_9_0, c9_9_1, c9_9_2, c9_9_3, c9_9_4, lt9_9, y9_9, -⟩ := hO.k5 9 rfl
  obtain ⟨c9_10_0, c9_10_1, c9_10_2, c9_10_3, c9_10_4, lt9_10, y9_10, -⟩ := hO.k5 10 rfl
  obtain ⟨c9_11_0, c9_11_1, c9_11_2, c9_11_3, c9_11_4, lt9_11, y9_11, -⟩ := hO.k5 11 rfl
  obtain ⟨c9_12_0, c9_12_1, c9_12_2, c9_12_3, c9_12_4, c9_12_5, c9_12_6, c9_12_7, lt9_12, y9_12, -⟩ := hO.k8 12 rfl
  obtain ⟨c9_14_0, c9_14_1, lt9_14, y9_14, -⟩ := hO.k2 14 rfl
  have HO := Lib.hid hO
  clear hO
  go_wp2_with (first | (with_reducible refine Own.stay (fn := Tryd.f4) ?_) | (first | (go_at_call 20; go_in)))
  try with_reducible refine Own.Stay.mk ?_
  have hO := HO.out
  clear HO c9_0_0 c9_0_1 lt9_0 y9_0 c9_1_0 lt9_1 y9_1 c9_2_0 c9_2_1 lt9_2 y9_2 c9_7_0 c9_7_1 lt9_7 y9_7 c9_9_0 c9_9_1 c9_9_2 c9_9_3 c9_9_4 lt9_9 y9_9 c9_10_0 c9_10_1 c9_10_2 c9_10_3 c9_10_4 lt9_10 y9_10 c9_11_0 c9_11_1 c9_11_2 c9_11_3 c9_11_4 lt9_11 y9_11 c9_12_0 c9_12_1 c9_12_2 c9_12_3 c9_12_4 c9_12_5 c9_12_6 c9_12_7 lt9_12 y9_12 c9_14_0 c9_14_1 lt9_14 y9_14
  have hL := hO.apart
  have hX := hO.apartX
  have HL := Lib.hid hL
  have HX := Lib.hid hX
  clear hL hX
  have hP9 := hO.pick [0, 1, 3, 4, 5, 6, 7, 13] (by decide)
  generalize hX9_21 : Own.Rest _ _ X = X9_21 at hP9
  replace hP9 : Own w0 u [row (B8_1) 25 #[.int .u32 3, .int .u32 vm], row (B8) 31 #[.int .i32 loc], row (nd18) 56 (full symZ (symL ([sy ⟨#[70, 111, 111]⟩ (uz r (uz r 0)), sy ⟨#[95, 95, 115, 117, 112, 101, 114, 71, 101, 116]⟩ 1, sy ⟨#[95, 95, 115, 117, 112, 101, 114, 83, 101, 116]⟩ 1])) (nd19)), row (nd4) 193 ((newSrstP r s nd3 nd5 nd6 nd7).setIfInBounds 106 (.slice (some ⟨nd18, 0, none⟩) 3 (3 + (nd19)))), ((nd5, .map #[⟨.string ⟨#[95, 95, 115, 117, 112, 101, 114, 71, 101, 116]⟩, .agg #[.int .i32 loc, .int .u32 0, .int .u32 1], 0⟩, ⟨.string ⟨#[95, 95, 115, 117, 112, 101, 114, 83, 101, 116]⟩, .agg #[.int .i32 loc, .int .u32 0, .int .u32 2], 1⟩] 2) : Rw), row (nd6) 203 #[.pointer none, .pointer none, .slice none 0 0, .map none, .slice none 0 0, .slice (some ⟨nd16, 0, none⟩) 2 (2 + (nd20)), .int .i32 0, .int .i32 0, .int .u32 0, .int .u32 0, .bool false, .bool false, .bool false, .bool false, .int .u8 0, .int .u8 6], row (nd7) 25 #[.int .u32 0, .int .u32 0], row (nd16) 25 (full refZ [.int .u32 0, .int .u32 1, .int .u32 0, .int .u32 2] (nd20))] X9_21 := hP9
  clear hO
  have hO := hP9
  clear hP9
  have st9 := rlaw143_st loc key s r vm nd3 nd4 nd5 nd6 nd7 B8_1 B8 nd16 nd18 nd19 nd20
  let R9 := rlaw143R loc key s r vm nd3 nd4 nd5 nd6 nd7 B8_1 B8 nd16 nd18 nd19 nd20
  refine wp_region_own (e := rlaw143E loc key s r vm nd3 nd4 nd5 nd6 nd7 B8_1 B8 nd16 nd18 nd19 nd20) (anc := rlaw143Anc) (G := (fun L9 α u9 => OwnF w0 u9 (act rlaw143Cnt 8 L9) (rlaw143R loc key s r vm nd3 nd4 nd5 nd6 nd7 B8_1 B8 nd16 nd18 nd19 nd20 L9 α) X9_21)) (by kernel_rfl) (by kernel_rfl) (by kernel_rfl) (by kernel_rfl) (rlaw143_he loc key s r vm nd3 nd4 nd5 nd6 nd7 B8_1 B8 nd16 nd18 nd19 nd20) ?_ (RunsAll.all ?_) ?_
  · have hp : ∀ i, act rlaw143Cnt 8 (fun _ => false) i → i ∈ [999, 1999, 2999, 3999, 4999, 5999, 6999, 7999] := by
      intro i hi
      have h9 : i % 1000 = 999 := by
        by_cases h : i % 1000 = 999
        · exact h
        · exact absurd (act_lt hi h) (by simp)
      unfold act at hi
      rw [if_pos h9] at hi
      simp only [List.mem_cons, List.not_mem_nil, or_false]
      omega
    refine hO.drew.family (fun i hi => ?_) (fun i j hi hj hij => ?_)
    · have := hp i hi
      simp only [List.mem_cons, List.not_mem_nil, or_false] at this
      rcases this with rfl | rfl | rfl | rfl | rfl | rfl | rfl | rfl <;> rfl
    · have h1 := hp i hi
      have h2 := hp j hj
      simp only [List.mem_cons, List.not_mem_nil, or_false] at h1 h2
      omega
  · refine ⟨?_, ?_, ?_, ?_, ?_, ?_, ?_, ?_, ?_, ?_, ?_, ?_, trivial⟩
    · intro L9 α a9 u9 K9 hL hcl hA hG hS h0 hK
      replace hL : L9 0 = false := hL
      have q14 : a9.tmps[14]? = some (.pointer (some ⟨nd4, 0, none⟩)) := (h0 14 (by kernel_rfl)).trans rfl
      have s14 := Rega.eval_of q14
      go_simp
      exact hK _ α _ (fun _ _ => rfl) rfl (step_same (st9) hL hcl rfl rfl hG)
    · intro L9 α a9 u9 K9 hL hcl hA hG hS h0 hK
      replace hL : L9 1 = false := hL
      have q15 : a9.tmps[15]? = some (.pointer (some ⟨B8, 0, none⟩)) := (h0 15 (by kernel_rfl)).trans rfl
      have s15 := Rega.eval_of q15
      have e0 : R9 L9 α 1999 = row (B8) 31 #[.int .i32 loc] := rfl
      have hr := hG.rowAt 1999 (act_base 1999 rfl) e0
      have c0 : u9.cell? ⟨B8, 0, none⟩ = some (.int .i32 loc) := hr.cell rfl
      clear hr e0
      go_simp
      exact hK _ α _ (fun _ _ => rfl) rfl (step_same (st9) hL hcl rfl rfl hG)
    · intro L9 α a9 u9 K9 hL hcl hA hG hS h0 hK
      replace hL : L9 2 = false := hL
      have q0 : a9.tmps[0]? = some (.int .i32 loc) := (h0 0 (by kernel_rfl)).trans rfl
      have s0 := Rega.eval_of q0
      go_simp
      exact hK _ α _ (fun _ _ => rfl) rfl (step_same (st9) hL hcl rfl rfl hG)
    · intro L9 α a9 u9 K9 hL hcl hA hG hS h0 hK
      replace hL : L9 3 = false := hL
      have q1 : a9.tmps[1]? = some (.string key) := (h0 1 (by kernel_rfl)).trans rfl
      have s1 := Rega.eval_of q1
      go_simp
      exact hK _ α _ (fun _ _ => rfl) rfl (step_same (st9) hL hcl rfl rfl hG)
    · intro L9 α a9 u9 K9 hL hcl hA hG hS h0 hK
      replace hL : L9 4 = false := hL
      have q63 : a9.tmps[63]? = some (.string key) := hS 3 63 (by decide) rfl (by show 63 < 159; decide)
      have s63 := Rega.eval_of q63
      go_simp
      have hM : ∀ i, i ∈ [] → act rlaw143Cnt 8 L9 i := by intro i hi; simp at hi
      have hP : Own w0 u9 [] _ := hG.pick [] (by decide) (by simp)
      clear hM
      refine Calls.mono (unitsO key _ _ _ hP (by omega)) ?_
      rintro e9 u1 ⟨b0, rfl, hQ⟩
      obtain ⟨α', hα'⟩ : ∃ α' : Rega.Atoms, α' = (fun j => if j = 4 then b0 else α j) := ⟨_, rfl⟩
      have f0 : R9 (Rega.ran L9 4) α' 4 = row (α' 4) 51 (units key) := rfl
      have hα : ∀ j, j % 1000 ≠ 4 → α' j = α j := fun j hj => by rw [hα']; simp only []; rw [if_neg (by omega)]
      have hb0 : α' 4 = b0 := by rw [hα']; rfl
      skip
      refine hK _ α' _ hα ?_ (step_call (st9) hL hcl hα [] [4] (by decide) (by decide) (by decide) (M := _) ?_ hG hQ)
      · show _ = (.slice (some ⟨α' 4, 0, none⟩) key.size key.size : Value)
        simp only [hb0]
      · show [R9 (Rega.ran L9 4) α' 4] = _
        rw [f0]
        simp only [hb0]
    · intro L9 α a9 u9 K9 hL hcl hA hG hS h0 hK
      replace hL : L9 5 = false := hL
      have q62 : a9.tmps[62]? = some (.int .i32 loc) := hS 2 62 (by decide) rfl (by show 62 < 159; decide)
      have s62 := Rega.eval_of q62
      have q64 : a9.tmps[64]? = some (.slice (some ⟨α 4, 0, none⟩) key.size key.size) := hS 4 64 (by decide) rfl (by show 64 < 159; decide)
      have s64 := Rega.eval_of q64
      go_simp
      have hM : ∀ i, i ∈ [] → act rlaw143Cnt 8 L9 i := by intro i hi; simp at hi
      have hP : Own w0 u9 [] _ := hG.pick [] (by decide) (by simp)
      clear hM
      refine Calls.mono (strE loc (α 4) key.size key.size _ _ _ hP ) ?_
      rintro e9 u1 ⟨b0, rfl, hQ⟩
      obtain ⟨α', hα'⟩ : ∃ α' : Rega.Atoms, α' = (fun j => if j = 5 then b0 else α j) := ⟨_, rfl⟩
      have f0 : R9 (Rega.ran L9 5) α' 5 = row (α' 5) 208 #[.slice (some ⟨α' 4, 0, none⟩) key.size key.size, .int .i32 0, .bool false, .bool false, .bool false] := rfl
      have hα : ∀ j, j % 1000 ≠ 5 → α' j = α j := fun j hj => by rw [hα']; simp only []; rw [if_neg (by omega)]
      have hb0 : α' 5 = b0 := by rw [hα']; rfl
      have ha4 : α' 4 = α 4 := hα 4 (by decide)
      skip
      refine hK _ α' _ hα ?_ (step_call (st9) hL hcl hα [] [5] (by decide) (by decide) (by decide) (M := _) ?_ hG hQ)
      · show _ = (.agg #[.iface 206 (.pointer (some ⟨α' 5, 0, none⟩)), .int .i32 loc] : Value)
        simp only [hb0]
      · show [R9 (Rega.ran L9 5) α' 5] = _
        rw [f0]
        simp only [hb0, ha4]
    · intro L9 α a9 u9 K9 hL hcl hA hG hS h0 hK
      replace hL : L9 6 = false := hL
      have q0 : a9.tmps[0]? = some (.int .i32 loc) := (h0 0 (by kernel_rfl)).trans rfl
      have s0 := Rega.eval_of q0
      go_simp
      exact hK _ α _ (fun _ _ => rfl) rfl (step_same (st9) hL hcl rfl rfl hG)
    · intro L9 α a9 u9 K9 hL hcl hA hG hS h0 hK
      replace hL : L9 7 = false := hL
      have q16 : a9.tmps[16]? = some (.pointer (some ⟨B8_1, 0, none⟩)) := (h0 16 (by kernel_rfl)).trans rfl
      have s16 := Rega.eval_of q16
      have e0 : R9 L9 α 999 = row (B8_1) 25 #[.int .u32 3, .int .u32 vm] := rfl
      have hr := hG.rowAt 999 (act_base 999 rfl) e0
      have c0 : u9.cell? ⟨B8_1, 0, none⟩ = some (.int .u32 3) := hr.cell rfl
      have c1 : u9.cell? ⟨B8_1, 1, none⟩ = some (.int .u32 vm) := hr.cell rfl
      clear hr e0
      go_simp
      exact hK _ α _ (fun _ _ => rfl) rfl (step_same (st9) hL hcl rfl rfl hG)
    · intro L9 α a9 u9 K9 hL hcl hA hG hS h0 hK
      replace hL : L9 8 = false := hL
      have q66 : a9.tmps[66]? = some (.int .i32 loc) := hS 6 66 (by decide) rfl (by show 66 < 159; decide)
      have s66 := Rega.eval_of q66
      have q67 : a9.tmps[67]? = some (.agg #[.int .u32 3, .int .u32 vm]) := hS 7 67 (by decide) rfl (by show 67 < 159; decide)
      have s67 := Rega.eval_of q67
      go_simp
      have hM : ∀ i, i ∈ [] → act rlaw143Cnt 8 L9 i := by intro i hi; simp at hi
      have hP : Own w0 u9 [] _ := hG.pick [] (by decide) (by simp)
      clear hM
      refine Calls.mono (idE loc 3 vm _ _ _ hP ) ?_
      rintro e9 u1 ⟨b0, rfl, hQ⟩
      obtain ⟨α', hα'⟩ : ∃ α' : Rega.Atoms, α' = (fun j => if j = 8 then b0 else α j) := ⟨_, rfl⟩
      have f0 : R9 (Rega.ran L9 8) α' 8 = row (α' 8) 211 #[.int .u32 3, .int .u32 vm, .bool false, .bool false, .bool false] := rfl
      have hα : ∀ j, j % 1000 ≠ 8 → α' j = α j := fun j hj => by rw [hα']; simp only []; rw [if_neg (by omega)]
      have hb0 : α' 8 = b0 := by rw [hα']; rfl
      skip
      refine hK _ α' _ hα ?_ (step_call (st9) hL hcl hα [] [8] (by decide) (by decide) (by decide) (M := _) ?_ hG hQ)
      · show _ = (.agg #[.iface 209 (.pointer (some ⟨α' 8, 0, none⟩)), .int .i32 loc] : Value)
        simp only [hb0]
      · show [R9 (Rega.ran L9 8) α' 8] = _
        rw [f0]
        simp only [hb0]
    · intro L9 α a9 u9 K9 hL hcl hA hG hS h0 hK
      replace hL : L9 9 = false := hL
      have q60 : a9.tmps[60]? = some (.pointer (some ⟨nd4, 0, none⟩)) := hS 0 60 (by decide) rfl (by show 60 < 159; decide)
      have s60 := Rega.eval_of q60
      have q61 : a9.tmps[61]? = some (.agg #[.int .i32 loc]) := hS 1 61 (by decide) rfl (by show 61 < 159; decide)
      have s61 := Rega.eval_of q61
      have q65 : a9.tmps[65]? = some (.agg #[.iface 206 (.pointer (some ⟨α 5, 0, none⟩)), .int .i32 loc]) := hS 5 65 (by decide) rfl (by show 65 < 159; decide)
      have s65 := Rega.eval_of q65
      have q68 : a9.tmps[68]? = some (.agg #[.iface 209 (.pointer (some ⟨α 8, 0, none⟩)), .int .i32 loc]) := hS 8 68 (by decide) rfl (by show 68 < 159; decide)
      have s68 := Rega.eval_of q68
      go_simp
      have e0 : R9 L9 α 3999 = row (nd4) 193 ((newSrstP r s nd3 nd5 nd6 nd7).setIfInBounds 106 (.slice (some ⟨nd18, 0, none⟩) 3 (3 + (nd19)))) := rfl
      have e1 : R9 L9 α 2999 = row (nd18) 56 (full symZ (symL ([sy ⟨#[70, 111, 111]⟩ (uz r (uz r 0)), sy ⟨#[95, 95, 115, 117, 112, 101, 114, 71, 101, 116]⟩ 1, sy ⟨#[95, 95, 115, 117, 112, 101, 114, 83, 101, 116]⟩ 1])) (nd19)) := by
        show rlaw143T2999 loc key s r vm nd3 nd4 nd5 nd6 nd7 B8_1 B8 nd16 nd18 nd19 nd20 L9 α = _
        unfold rlaw143T2999
        rw [if_neg (by rw [hL]; decide)]
      have e2 : R9 L9 α 4999 = ((nd5, .map #[⟨.string ⟨#[95, 95, 115, 117, 112, 101, 114, 71, 101, 116]⟩, .agg #[.int .i32 loc, .int .u32 0, .int .u32 1], 0⟩, ⟨.string ⟨#[95, 95, 115, 117, 112, 101, 114, 83, 101, 116]⟩, .agg #[.int .i32 loc, .int .u32 0, .int .u32 2], 1⟩] 2) : Rw) := rfl
      have e3 : R9 L9 α 5999 = row (nd6) 203 #[.pointer none, .pointer none, .slice none 0 0, .map none, .slice none 0 0, .slice (some ⟨nd16, 0, none⟩) 2 (2 + (nd20)), .int .i32 0, .int .i32 0, .int .u32 0, .int .u32 0, .bool false, .bool false, .bool false, .bool false, .int .u8 0, .int .u8 6] := rfl
      have e4 : R9 L9 α 7999 = row (nd16) 25 (full refZ [.int .u32 0, .int .u32 1, .int .u32 0, .int .u32 2] (nd20)) := rfl
      have e5 : R9 L9 α 6999 = row (nd7) 25 #[.int .u32 0, .int .u32 0] := rfl
      have hM : ∀ i, i ∈ [3999, 2999, 4999, 5999, 7999, 6999] → act rlaw143Cnt 8 L9 i := by
        intro i hi
        simp only [List.mem_cons, List.not_mem_nil, or_false] at hi
        rcases hi with rfl | rfl | rfl | rfl | rfl | rfl
        · exact act_base 3999 rfl
        · exact act_base 2999 rfl
        · exact act_base 4999 rfl
        · exact act_base 5999 rfl
        · exact act_base 7999 rfl
        · exact act_base 6999 rfl
      have hP : Own w0 u9 [row (nd4) 193 ((newSrstP r s nd3 nd5 nd6 nd7).setIfInBounds 106 (.slice (some ⟨nd18, 0, none⟩) 3 (3 + (nd19)))), row (nd18) 56 (full symZ (symL ([sy ⟨#[70, 111, 111]⟩ (uz r (uz r 0)), sy ⟨#[95, 95, 115, 117, 112, 101, 114, 71, 101, 116]⟩ 1, sy ⟨#[95, 95, 115, 117, 112, 101, 114, 83, 101, 116]⟩ 1])) (nd19)), ((nd5, .map #[⟨.string ⟨#[95, 95, 115, 117, 112, 101, 114, 71, 101, 116]⟩, .agg #[.int .i32 loc, .int .u32 0, .int .u32 1], 0⟩, ⟨.string ⟨#[95, 95, 115, 117, 112, 101, 114, 83, 101, 116]⟩, .agg #[.int .i32 loc, .int .u32 0, .int .u32 2], 1⟩] 2) : Rw), row (nd6) 203 #[.pointer none, .pointer none, .slice none 0 0, .map none, .slice none 0 0, .slice (some ⟨nd16, 0, none⟩) 2 (2 + (nd20)), .int .i32 0, .int .i32 0, .int .u32 0, .int .u32 0, .bool false, .bool false, .bool false, .bool false, .int .u8 0, .int .u8 6], row (nd16) 25 (full refZ [.int .u32 0, .int .u32 1, .int .u32 0, .int .u32 2] (nd20)), row (nd7) 25 #[.int .u32 0, .int .u32 0]] _ := (hG.pick [3999, 2999, 4999, 5999, 7999, 6999] (by decide) hM).conv (by
        show [R9 L9 α 3999, R9 L9 α 2999, R9 L9 α 4999, R9 L9 α 5999, R9 L9 α 7999, R9 L9 α 6999] = _
        rw [e0, e1, e2, e3, e4, e5])
      clear e0 e1 e2 e3 e4 e5 hM
      refine Calls.mono (duSetI nd4 ((newSrstP r s nd3 nd5 nd6 nd7).setIfInBounds 106 (.slice (some ⟨nd18, 0, none⟩) 3 (3 + nd19))) nd18 nd19 nd5 nd6 #[.pointer none, .pointer none, .slice none 0 0, .map none, .slice none 0 0, .slice (some ⟨nd16, 0, none⟩) 2 (2 + nd20), .int .i32 0, .int .i32 0, .int .u32 0, .int .u32 0, .bool false, .bool false, .bool false, .bool false, .int .u8 0, .int .u8 6] nd7 loc nd16 nd20 r s 206 (α 5) loc 209 (α 8) loc _ _ _ hP (get_other (newSrst_350 r s (nd3) (nd5) (nd6) (nd7)) (by omega) _) (get_other (newSrst_32 r s (nd3) (nd5) (nd6) (nd7)) (by omega) _) (get_other (newSrst_105 r s (nd3) (nd5) (nd6) (nd7)) (by omega) _) (get_other (newSrst_66 r s (nd3) (nd5) (nd6) (nd7)) (by omega) _) (get_other (newSrst_117 r s (nd3) (nd5) (nd6) (nd7)) (by omega) _) (get_other (newSrst_187 r s (nd3) (nd5) (nd6) (nd7)) (by omega) _) (get_other (newSrst_97 r s (nd3) (nd5) (nd6) (nd7)) (by omega) _) (get_other (newSrst_95 r s (nd3) (nd5) (nd6) (nd7)) (by omega) _) (get_other (newSrst_96 r s (nd3) (nd5) (nd6) (nd7)) (by omega) _) (get_set (newSrst_106 r s (nd3) (nd5) (nd6) (nd7)) _) rfl hg0 hg1) ?_
      rintro e9 u1 ⟨b0, b1, b2, rfl, hQ⟩
      obtain ⟨α', hα'⟩ : ∃ α' : Rega.Atoms, α' = (fun j => if j = 9 then b0 else if j = 1009 then b1 else if j = 2009 then b2 else α j) := ⟨_, rfl⟩
      have f0 : R9 (Rega.ran L9 9) α' 3999 = row (nd4) 193 ((newSrstP r s nd3 nd5 nd6 nd7).setIfInBounds 106 (.slice (some ⟨nd18, 0, none⟩) 3 (3 + (nd19)))) := rfl
      have f1 : R9 (Rega.ran L9 9) α' 2999 = row (nd18) 56 (full symZ (symL ([sy ⟨#[70, 111, 111]⟩ (uz r (uz r (uz r 0))), sy ⟨#[95, 95, 115, 117, 112, 101, 114, 71, 101, 116]⟩ 1, sy ⟨#[95, 95, 115, 117, 112, 101, 114, 83, 101, 116]⟩ 2])) nd19) := by
        show rlaw143T2999 loc key s r vm nd3 nd4 nd5 nd6 nd7 B8_1 B8 nd16 nd18 nd19 nd20 (Rega.ran L9 9) α' = _
        unfold rlaw143T2999
        rw [if_pos (show Rega.ran L9 9 9 = true from rfl)]
      have f2 : R9 (Rega.ran L9 9) α' 4999 = ((nd5, .map #[⟨.string ⟨#[95, 95, 115, 117, 112, 101, 114, 71, 101, 116]⟩, .agg #[.int .i32 loc, .int .u32 0, .int .u32 1], 0⟩, ⟨.string ⟨#[95, 95, 115, 117, 112, 101, 114, 83, 101, 116]⟩, .agg #[.int .i32 loc, .int .u32 0, .int .u32 2], 1⟩] 2) : Rw) := rfl
      have f3 : R9 (Rega.ran L9 9) α' 5999 = row (nd6) 203 #[.pointer none, .pointer none, .slice none 0 0, .map none, .slice none 0 0, .slice (some ⟨nd16, 0, none⟩) 2 (2 + (nd20)), .int .i32 0, .int .i32 0, .int .u32 0, .int .u32 0, .bool false, .bool false, .bool false, .bool false, .int .u8 0, .int .u8 6] := rfl
      have f4 : R9 (Rega.ran L9 9) α' 7999 = row (nd16) 25 (full refZ [.int .u32 0, .int .u32 1, .int .u32 0, .int .u32 2] (nd20)) := rfl
      have f5 : R9 (Rega.ran L9 9) α' 6999 = row (nd7) 25 #[.int .u32 0, .int .u32 0] := rfl
      have f6 : R9 (Rega.ran L9 9) α' 1009 = row (α' 1009) 211 #[.int .u32 0, .int .u32 2, .bool false, .bool false, .bool false] := rfl
      have f7 : R9 (Rega.ran L9 9) α' 9 = row (α' 9) 71 #[.iface 209 (.pointer (some ⟨α' 1009, 0, none⟩)), .int .i32 loc, .slice (some ⟨α' 2009, 0, none⟩) 4 4, .int .i32 0, .int .u8 0, .int .u8 0, .bool false, .bool false] := rfl
      have hα : ∀ j, j % 1000 ≠ 9 → α' j = α j := fun j hj => by rw [hα']; simp only []; rw [if_neg (by omega), if_neg (by omega), if_neg (by omega)]
      have hb0 : α' 9 = b0 := by rw [hα']; rfl
      have hb1 : α' 1009 = b1 := by rw [hα']; rfl
      have hb2 : α' 2009 = b2 := by rw [hα']; rfl
      skip
      refine hK _ α' _ hα ?_ (step_call (st9) hL hcl hα [3999, 2999, 4999, 5999, 7999, 6999] [3999, 2999, 4999, 5999, 7999, 6999, 1009, 9] (by decide) (by decide) (by decide) (M := _) ?_ hG hQ)
      · show _ = (.agg #[.iface 65 (.pointer (some ⟨α' 9, 0, none⟩)), .int .i32 loc] : Value)
        simp only [hb0]
      · show [R9 (Rega.ran L9 9) α' 3999, R9 (Rega.ran L9 9) α' 2999, R9 (Rega.ran L9 9) α' 4999, R9 (Rega.ran L9 9) α' 5999, R9 (Rega.ran L9 9) α' 7999, R9 (Rega.ran L9 9) α' 6999, R9 (Rega.ran L9 9) α' 1009, R9 (Rega.ran L9 9) α' 9] = _
        rw [f0, f1, f2, f3, f4, f5, f6, f7]
        simp only [hb0, hb1, hb2]
    · intro L9 α a9 u9 K9 hL hcl hA hG hS h0 hK
      replace hL : L9 10 = false := hL
      go_simp
      have e1 : R9 (Rega.ran L9 10) (fun j => if j = 10 then u9.heap.size else α j) 10 = row (u9.heap.size) 35 #[.nilIface, .int .i32 0] := by
        show rlaw143T10 loc key s r vm nd3 nd4 nd5 nd6 nd7 B8_1 B8 nd16 nd18 nd19 nd20 (Rega.ran L9 10) (fun j => if j = 10 then u9.heap.size else α j) = _
        unfold rlaw143T10
        exact ((if_neg (fun e => (fun e => by have := hcl 11 e 10 (by decide); rw [hL] at this; cases this) ((ran_ne (by decide)).symm.trans e))).trans rfl)
      exact hK _ (fun j => if j = 10 then u9.heap.size else α j) _ (fun j hj => if_neg (fun e => hj (by rw [e]))) rfl (step_alloc (st9) hL hcl rfl rfl (by decide) _ e1 hG)
    · intro L9 α a9 u9 K9 hL hcl hA hG hS h0 hK
      replace hL : L9 11 = false := hL
      have q18 : a9.tmps[18]? = some (.pointer (some ⟨α 10, 0, none⟩)) := hS 10 18 (by decide) rfl (by show 18 < 159; decide)
      have s18 := Rega.eval_of q18
      have q69 : a9.tmps[69]? = some (.agg #[.iface 65 (.pointer (some ⟨α 9, 0, none⟩)), .int .i32 loc]) := hS 9 69 (by decide) rfl (by show 69 < 159; decide)
      have s69 := Rega.eval_of q69
      have e0 : R9 L9 α 10 = row (α 10) 35 #[.nilIface, .int .i32 0] := by
        show rlaw143T10 loc key s r vm nd3 nd4 nd5 nd6 nd7 B8_1 B8 nd16 nd18 nd19 nd20 L9 α = _
        unfold rlaw143T10
        rw [if_neg (by rw [hL]; decide)]
      have hr := hG.rowAt 10 (act_new 10 rfl (hA 10 (by decide))) e0
      have c0 : u9.cell? ⟨α 10, 0, none⟩ = some (.nilIface) := hr.cell rfl
      have y0 : u9.frozen? ⟨α 10, 0, none⟩ = false := hr.free 0
      have c1 : u9.cell? ⟨α 10, 1, none⟩ = some (.int .i32 0) := hr.cell rfl
      have y1 : u9.frozen? ⟨α 10, 1, none⟩ = false := hr.free 1
      clear hr
      have E0 := Lib.hid e0
      clear e0
      go_simp
      have e1 : R9 (Rega.ran L9 11) α 10 = row (α 10) 35 #[.iface 65 (.pointer (some ⟨α 9, 0, none⟩)), .int .i32 loc] := by
        show rlaw143T10 loc key s r vm nd3 nd4 nd5 nd6 nd7 B8_1 B8 nd16 nd18 nd19 nd20 (Rega.ran L9 11) α = _
        unfold rlaw143T10
        rw [if_pos (show Rega.ran L9 11 11 = true from rfl)]
      exact hK _ α _ (fun _ _ => rfl) rfl (step_sets (st9) hL hcl rfl 10 rfl (act_new 10 rfl (hA 10 (by decide))) E0.out 0 [.iface 65 (.pointer (some ⟨α 9, 0, none⟩)), .int .i32 loc] (e1.trans rfl) hG)
  clear st9
  intro α u hG
  have e0 : R9 (fun k => decide (k < 12)) α 999 = row (B8_1) 25 #[.int .u32 3, .int .u32 vm] := rfl
  have e1 : R9 (fun k => decide (k < 12)) α 1999 = row (B8) 31 #[.int .i32 loc] := rfl
  have e2 : R9 (fun k => decide (k < 12)) α 2999 = row (nd18) 56 (full symZ (symL ([sy ⟨#[70, 111, 111]⟩ (uz r (uz r (uz r 0))), sy ⟨#[95, 95, 115, 117, 112, 101, 114, 71, 101, 116]⟩ 1, sy ⟨#[95, 95, 115, 117, 112, 101, 114, 83, 101, 116]⟩ 2])) nd19) := by
    show rlaw143T2999 loc key s r vm nd3 nd4 nd5 nd6 nd7 B8_1 B8 nd16 nd18 nd19 nd20 (fun k => decide (k < 12)) α = _
    unfold rlaw143T2999
    rw [if_pos (by decide)]
  have e3 : R9 (fun k => decide (k < 12)) α 3999 = row (nd4) 193 ((newSrstP r s nd3 nd5 nd6 nd7).setIfInBounds 106 (.slice (some ⟨nd18, 0, none⟩) 3 (3 + (nd19)))) := rfl
  have e4 : R9 (fun k => decide (k < 12)) α 4999 = ((nd5, .map #[⟨.string ⟨#[95, 95, 115, 117, 112, 101, 114, 71, 101, 116]⟩, .agg #[.int .i32 loc, .int .u32 0, .int .u32 1], 0⟩, ⟨.string ⟨#[95, 95, 115, 117, 112, 101, 114, 83, 101, 116]⟩, .agg #[.int .i32 loc, .int .u32 0, .int .u32 2], 1⟩] 2) : Rw) := rfl
  have e5 : R9 (fun k => decide (k < 12)) α 5999 = row (nd6) 203 #[.pointer none, .pointer none, .slice none 0 0, .map none, .slice none 0 0, .slice (some ⟨nd16, 0, none⟩) 2 (2 + (nd20)), .int .i32 0, .int .i32 0, .int .u32 0, .int .u32 0, .bool false, .bool false, .bool false, .bool false, .int .u8 0, .int .u8 6] := rfl
  have e6 : R9 (fun k => decide (k < 12)) α 6999 = row (nd7) 25 #[.int .u32 0, .int .u32 0] := rfl
  have e7 : R9 (fun k => decide (k < 12)) α 7999 = row (nd16) 25 (full refZ [.int .u32 0, .int .u32 1, .int .u32 0, .int .u32 2] (nd20)) := rfl
  have e8 : R9 (fun k => decide (k < 12)) α 4 = row (α 4) 51 (units key) := rfl
  have e9 : R9 (fun k => decide (k < 12)) α 5 = row (α 5) 208 #[.slice (some ⟨α 4, 0, none⟩) key.size key.size, .int .i32 0, .bool false, .bool false, .bool false] := rfl
  have e10 : R9 (fun k => decide (k < 12)) α 8 = row (α 8) 211 #[.int .u32 3, .int .u32 vm, .bool false, .bool false, .bool false] := rfl
  have e11 : R9 (fun k => decide (k < 12)) α 9 = row (α 9) 71 #[.iface 209 (.pointer (some ⟨α 1009, 0, none⟩)), .int .i32 loc, .slice (some ⟨α 2009, 0, none⟩) 4 4, .int .i32 0, .int .u8 0, .int .u8 0, .bool false, .bool false] := rfl
  have e12 : R9 (fun k => decide (k < 12)) α 1009 = row (α 1009) 211 #[.int .u32 0, .int .u32 2, .bool false, .bool false, .bool false] := rfl
  have e13 : R9 (fun k => decide (k < 12)) α 10 = row (α 10) 35 #[.iface 65 (.pointer (some ⟨α 9, 0, none⟩)), .int .i32 loc] := by
    show rlaw143T10 loc key s r vm nd3 nd4 nd5 nd6 nd7 B8_1 B8 nd16 nd18 nd19 nd20 (fun k => decide (k < 12)) α = _
    unfold rlaw143T10
    rw [if_pos (by decide)]
  have hO : Own w0 u [row (B8_1) 25 #[.int .u32 3, .int .u32 vm], row (B8) 31 #[.int .i32 loc], row (nd18) 56 (full symZ (symL ([sy ⟨#[70, 111, 111]⟩ (uz r (uz r (uz r 0))), sy ⟨#[95, 95, 115, 117, 112, 101, 114, 71, 101, 116]⟩ 1, sy ⟨#[95, 95, 115, 117, 112, 101, 114, 83, 101, 116]⟩ 2])) nd19), row (nd4) 193 ((newSrstP r s nd3 nd5 nd6 nd7).setIfInBounds 106 (.slice (some ⟨nd18, 0, none⟩) 3 (3 + (nd19)))), ((nd5, .map #[⟨.string ⟨#[95, 95, 115, 117, 112, 101, 114, 71, 101, 116]⟩, .agg #[.int .i32 loc, .int .u32 0, .int .u32 1], 0⟩, ⟨.string ⟨#[95, 95, 115, 117, 112, 101, 114, 83, 101, 116]⟩, .agg #[.int .i32 loc, .int .u32 0, .int .u32 2], 1⟩] 2) : Rw), row (nd6) 203 #[.pointer none, .pointer none, .slice none 0 0, .map none, .slice none 0 0, .slice (some ⟨nd16, 0, none⟩) 2 (2 + (nd20)), .int .i32 0, .int .i32 0, .int .u32 0, .int .u32 0, .bool false, .bool false, .bool false, .bool false, .int .u8 0, .int .u8 6], row (nd7) 25 #[.int .u32 0, .int .u32 0], row (nd16) 25 (full refZ [.int .u32 0, .int .u32 1, .int .u32 0, .int .u32 2] (nd20)), row (α 4) 51 (units key), row (α 5) 208 #[.slice (some ⟨α 4, 0, none⟩) key.size key.size, .int .i32 0, .bool false, .bool false, .bool false], row (α 8) 211 #[.int .u32 3, .int .u32 vm, .bool false, .bool false, .bool false], row (α 9) 71 #[.iface 209 (.pointer (some ⟨α 1009, 0, none⟩)), .int .i32 loc, .slice (some ⟨α 2009, 0, none⟩) 4 4, .int .i32 0, .int .u8 0, .int .u8 0, .bool false, .bool false], row (α 1009) 211 #[.int .u32 0, .int .u32 2, .bool false, .bool false, .bool false], row (α 10) 35 #[.iface 65 (.pointer (some ⟨α 9, 0, none⟩)), .int .i32 loc]] X9_21 := (hG.list [999, 1999, 2999, 3999, 4999, 5999, 6999, 7999, 4, 5, 8, 9, 1009, 10] (by decide) (act_all (by decide))).conv (by
    show [R9 (fun k => decide (k < 12)) α 999, R9 (fun k => decide (k < 12)) α 1999, R9 (fun k => decide (k < 12)) α 2999, R9 (fun k => decide (k < 12)) α 3999, R9 (fun k => decide (k < 12)) α 4999, R9 (fun k => decide (k < 12)) α 5999, R9 (fun k => decide (k < 12)) α 6999, R9 (fun k => decide (k < 12)) α 7999, R9 (fun k => decide (k < 12)) α 4, R9 (fun k => decide (k < 12)) α 5, R9 (fun k => decide (k < 12)) α 8, R9 (fun k => decide (k < 12)) α 9, R9 (fun k => decide (k < 12)) α 1009, R9 (fun k => decide (k < 12)) α 10] = _
    rw [e0, e1, e2, e3, e4, e5, e6, e7, e8, e9, e10, e11, e12, e13])
  clear hG e0 e1 e2 e3 e4 e5 e6 e7 e8 e9 e10 e11 e12 e13 R9
  generalize hfr : Rega.frameAt _ _ _ _ _ = fr
  have hdf : fr = ⟨#[.int .i32 loc, .string key, .int .u8 op, .bool s, .bool r, .int .u32 vm, undef, undef, undef, undef, undef, undef, .bool false, .pointer (some ⟨B1, 0, none⟩), .pointer (some ⟨nd4, 0, none⟩), .pointer (some ⟨B8, 0, none⟩), .pointer (some ⟨B8_1, 0, none⟩), .pointer (some ⟨nd14, 0, none⟩), .pointer (some ⟨α 10, 0, none⟩), undef, undef, undef, undef, undef, undef, undef, undef, undef, .int .i32 loc, .string key, .int .u8 op, .bool s, .bool r, .int .u32 vm, .bool true, .bool false, .string key, .int .i64 (key.size : Int), .bool (decide (65536 < (key.size : Int))), .agg #[.int .u32 0, .int .u32 0], .slice (some ⟨nd3, 0, none⟩) 1 1, .agg #[.int .u32 0, .int .u32 0], .bool s, .bool r, .pointer (some ⟨nd4, 0, none⟩), .int .i32 loc, .agg #[.int .i32 loc], .int .u32 vm, .agg #[.int .u32 3, .int .u32 vm], .pointer (some ⟨nd4, 0, none⟩), .agg #[.int .i32 loc], .int .i32 loc, .string key, .slice (some ⟨nd10, 0, none⟩) key.size key.size, .agg #[.iface 206 (.pointer (some ⟨nd11, 0, none⟩)), .int .i32 loc], .int .u8 op, .int .i32 loc, .agg #[.int .u32 3, .int .u32 vm], .agg #[.iface 209 (.pointer (some ⟨nd12, 0, none⟩)), .int .i32 loc], .agg #[.iface 65 (.pointer (some ⟨nd15, 0, none⟩)), .int .i32 loc], .pointer (some ⟨nd4, 0, none⟩), .agg #[.int .i32 loc], .int .i32 loc, .string key, .slice (some ⟨α 4, 0, none⟩) key.size key.size, .agg #[.iface 206 (.pointer (some ⟨α 5, 0, none⟩)), .int .i32 loc], .int .i32 loc, .agg #[.int .u32 3, .int .u32 vm], .agg #[.iface 209 (.pointer (some ⟨α 8, 0, none⟩)), .int .i32 loc], .agg #[.iface 65 (.pointer (some ⟨α 9, 0, none⟩)), .int .i32 loc], undef, undef, undef, undef, undef, undef, undef, undef, undef, undef, undef, undef, undef, undef, undef, undef, undef, undef, undef, undef, undef, undef, undef, undef, undef, undef, undef, undef, undef, undef, undef, undef, undef, undef, undef, undef, undef, undef, undef, undef, undef, undef, undef, undef, undef, undef, undef, undef, undef, undef, undef, undef, undef, undef, undef, undef, undef, undef, undef, undef, undef, undef, undef, undef, undef, undef, undef, undef, undef, undef, undef, undef, undef, undef, undef, undef, undef, undef, undef, undef, undef, undef, undef, undef, undef, undef, undef, undef, undef], []⟩ := by rw [← hfr]; kernel_rfl
  clear hfr
  subst hdf
  generalize α 4 = nd22 at hO ⊢
  generalize α 5 = nd23 at hO ⊢
  generalize α 8 = nd24 at hO ⊢
  generalize α 9 = nd25 at hO ⊢
  generalize α 10 = nd26 at hO ⊢
  generalize α 1009 = nd27 at hO ⊢
  generalize α 2009 = nd28 at hO ⊢
  clear α
  subst hX9_21
  have hN : Own w0 u [row (B8_1) 25 #[.int .u32 3, .int .u32 vm], row (B8) 31 #[.int .i32 loc], row (nd18) 56 (full symZ (symL ([sy ⟨#[70, 111, 111]⟩ (uz r (uz r (uz r 0))), sy ⟨#[95, 95, 115, 117, 112, 101, 114, 71, 101, 116]⟩ 1, sy ⟨#[95, 95, 115, 117, 112, 101, 114, 83, 101, 116]⟩ 2])) nd19), row (nd4) 193 ((newSrstP r s nd3 nd5 nd6 nd7).setIfInBounds 106 (.slice (some ⟨nd18, 0, none⟩) 3 (3 + (nd19)))), ((nd5, .map #[⟨.string ⟨#[95, 95, 115, 117, 112, 101, 114, 71, 101, 116]⟩, .agg #[.int .i32 loc, .int .u32 0, .int .u32 1], 0⟩, ⟨.string ⟨#[95, 95, 115, 117, 112, 101, 114, 83, 101, 116]⟩, .agg #[.int .i32 loc, .int .u32 0, .int .u32 2], 1⟩] 2) : Rw), row (nd6) 203 #[.pointer none, .pointer none, .slice none 0 0, .map none, .slice none 0 0, .slice (some ⟨nd16, 0, none⟩) 2 (2 + (nd20)), .int .i32 0, .int .i32 0, .int .u32 0, .int .u32 0, .bool false, .bool false, .bool false, .bool false, .int .u8 0, .int .u8 6], row (nd7) 25 #[.int .u32 0, .int .u32 0], row (nd16) 25 (full refZ [.int .u32 0, .int .u32 1, .int .u32 0, .int .u32 2] (nd20)), row (nd22) 51 (units key), row (nd23) 208 #[.slice (some ⟨nd22, 0, none⟩) key.size key.size, .int .i32 0, .bool false, .bool false, .bool false], row (nd24) 211 #[.int .u32 3, .int .u32 vm, .bool false, .bool false, .bool false], row (nd25) 71 #[.iface 209 (.pointer (some ⟨nd27, 0, none⟩)), .int .i32 loc, .slice (some ⟨nd28, 0, none⟩) 4 4, .int .i32 0, .int .u8 0, .int .u8 0, .bool false, .bool false], row (nd27) 211 #[.int .u32 0, .int .u32 2, .bool false, .bool false, .bool false], row (nd26) 35 #[.iface 65 (.pointer (some ⟨nd25, 0, none⟩)), .int .i32 loc], row (B1) 25 #[.int .u32 0, .int .u32 0], row (nd10) 51 (units key), row (nd11) 208 #[.slice (some ⟨nd10, 0, none⟩) key.size key.size, .int .i32 0, .bool false, .bool false, .bool false], row (nd12) 211 #[.int .u32 3, .int .u32 vm, .bool false, .bool false, .bool false], row (nd13) 211 #[.int .u32 0, .int .u32 2, .bool false, .bool false, .bool false], row (nd15) 71 #[.iface 209 (.pointer (some ⟨nd13, 0, none⟩)), .int .i32 loc, .slice (some ⟨nd17, 0, none⟩) 4 4, .int .i32 0, .int .u8 0, .int .u8 0, .bool false, .bool false], row (nd14) 35 #[.iface 65 (.pointer (some ⟨nd15, 0, none⟩)), .int .i32 loc]] X := hO.back HL.out HX.out [2, 8, 9, 10, 11, 12, 14] (by decide) (by decide)
  clear hO HL HX
  have hO := hN
  clear hN
  obtain ⟨c9_0_0, c9_0_1, lt9_0, y9_0, -⟩ := hO.k2 0 rfl
  obtain ⟨c9_1_0, lt9_1, y9_1, -⟩ := hO.k1 1 rfl
  obtain ⟨c9_6_0, c9_6_1, lt9_6, y9_6, -⟩ := hO.k2 6 rfl
  obtain ⟨c9_9_0, c9_9_1, c9_9_2, c9_9_3, c9_9_4, lt9_9, y9_9, -⟩ := hO.k5 9 rfl
  obtain ⟨c9_10_0, c9_10_1, c9_10_2, c9_10_3, c9_10_4, lt9_10, y9_10, -⟩ := hO.k5 10 rfl
  obtain ⟨c9_11_0, c9_11_1, c9_11_2, c9_11_3, c9_11_4, c9_11_5, c9_11_6, c9_11_7, lt9_11, y9_11, -⟩ := hO.k8 11 rfl
  obtain ⟨c9_12_0, c9_12_1, c9_12_2, c9_12_3, c9_12_4, lt9_12, y9_12, -⟩ := hO.k5 12 rfl
  obtain ⟨c9_13_0, c9_13_1, lt9_13, y9_13, -⟩ := hO.k2 13 rfl
  obtain ⟨c9_14_0, c9_14_1, lt9_14, y9_14, -⟩ := hO.k2 14 rfl
  obtain ⟨c9_16_0, c9_16_1, c9_16_2, c9_16_3, c9_16_4, lt9_16, y9_16, -⟩ := hO.k5 16 rfl
  obtain ⟨c9_17_0, c9_17_1, c9_17_2, c9_17_3, c9_17_4, lt9_17, y9_17, -⟩ := hO.k5 17 rfl
  obtain ⟨c9_18_0, c9_18_1, c9_18_2, c9_18_3, c9_18_4, lt9_18, y9_18, -⟩ := hO.k5 18 rfl
  obtain ⟨c9_19_0, c9_19_1, c9_19_2, c9_19_3, c9_19_4, c9_19_5, c9_19_6, c9_19_7, lt9_19, y9_19, -⟩ := hO.k8 19 rfl
  obtain ⟨c9_20_0, c9_20_1, lt9_20, y9_20, -⟩ := hO.k2 20 rfl
  have HO := Lib.hid hO
  clear hO
  go_wp2_with (first | (with_reducible refine Own.stay (fn := Tryd.f4) ?_) | (first | (go_at_call 20; go_in)))
  try with_reducible refine Own.Stay.mk ?_
  have hO := HO.out
  clear HO c9_0_0 c9_0_1 lt9_0 y9_0 c9_1_0 lt9_1 y9_1 c9_6_0 c9_6_1 lt9_6 y9_6 c9_9_0 c9_9_1 c9_9_2 c9_9_3 c9_9_4 lt9_9 y9_9 c9_10_0 c9_10_1 c9_10_2 c9_10_3 c9_10_4 lt9_10 y9_10 c9_11_0 c9_11_1 c9_11_2 c9_11_3 c9_11_4 c9_11_5 c9_11_6 c9_11_7 lt9_11 y9_11 c9_12_0 c9_12_1 c9_12_2 c9_12_3 c9_12_4 lt9_12 y9_12 c9_13_0 c9_13_1 lt9_13 y9_13 c9_14_0 c9_14_1 lt9_14 y9_14 c9_16_0 c9_16_1 c9_16_2 c9_16_3 c9_16_4 lt9_16 y9_16 c9_17_0 c9_17_1 c9_17_2 c9_17_3 c9_17_4 lt9_17 y9_17 c9_18_0 c9_18_1 c9_18_2 c9_18_3 c9_18_4 lt9_18 y9_18 c9_19_0 c9_19_1 c9_19_2 c9_19_3 c9_19_4 c9_19_5 c9_19_6 c9_19_7 lt9_19 y9_19 c9_20_0 c9_20_1 lt9_20 y9_20
  have hL := hO.apart
  have hX := hO.apartX
  have HL := Lib.hid hL
  have HX := Lib.hid hX
  clear hL hX
  have hP9 := hO.pick [3, 4] (by decide)
  have h9_hyes : Instr.findNow .string (.string (⟨#[95, 95, 115, 117, 112, 101, 114, 83, 101, 116]⟩ : ByteArray)) (#[⟨.string ⟨#[95, 95, 115, 117, 112, 101, 114, 71, 101, 116]⟩, .agg #[.int .i32 loc, .int .u32 0, .int .u32 1], 0⟩, ⟨.string ⟨#[95, 95, 115, 117, 112, 101, 114, 83, 101, 116]⟩, .agg #[.int .i32 loc, .int .u32 0, .int .u32 2], 1⟩] : Array MapEntry).toList 0 = some (some (1, .agg #[.int .i32 loc, .int .u32 0, .int .u32 2])) := (by kernel_rfl)
  have T9 := impRefY nd4 ((newSrstP r s nd3 nd5 nd6 nd7).setIfInBounds 106 (.slice (some ⟨nd18, 0, none⟩) 3 (3 + nd19))) nd5 #[⟨.string ⟨#[95, 95, 115, 117, 112, 101, 114, 71, 101, 116]⟩, .agg #[.int .i32 loc, .int .u32 0, .int .u32 1], 0⟩, ⟨.string ⟨#[95, 95, 115, 117, 112, 101, 114, 83, 101, 116]⟩, .agg #[.int .i32 loc, .int .u32 0, .int .u32 2], 1⟩] 2 ⟨#[95, 95, 115, 117, 112, 101, 114, 83, 101, 116]⟩ 1 loc 0 2 _ _ _ hP9 (get_other (newSrst_117 r s (nd3) (nd5) (nd6) (nd7)) (by omega) _) h9_hyes
  refine Calls.mono T9 ?_
  clear hP9 T9 h9_hyes
  rintro e u29 ⟨rfl, hQ⟩
  have hN : Own w0 u29 [row (nd4) 193 ((newSrstP r s nd3 nd5 nd6 nd7).setIfInBounds 106 (.slice (some ⟨nd18, 0, none⟩) 3 (3 + nd19))), ((nd5, .map #[⟨.string ⟨#[95, 95, 115, 117, 112, 101, 114, 71, 101, 116]⟩, .agg #[.int .i32 loc, .int .u32 0, .int .u32 1], 0⟩, ⟨.string ⟨#[95, 95, 115, 117, 112, 101, 114, 83, 101, 116]⟩, .agg #[.int .i32 loc, .int .u32 0, .int .u32 2], 1⟩] 2) : Rw), row (B8_1) 25 #[.int .u32 3, .int .u32 vm], row (B8) 31 #[.int .i32 loc], row (nd18) 56 (full symZ (symL ([sy ⟨#[70, 111, 111]⟩ (uz r (uz r (uz r 0))), sy ⟨#[95, 95, 115, 117, 112, 101, 114, 71, 101, 116]⟩ 1, sy ⟨#[95, 95, 115, 117, 112, 101, 114, 83, 101, 116]⟩ 2])) nd19), row (nd6) 203 #[.pointer none, .pointer none, .slice none 0 0, .map none, .slice none 0 0, .slice (some ⟨nd16, 0, none⟩) 2 (2 + (nd20)), .int .i32 0, .int .i32 0, .int .u32 0, .int .u32 0, .bool false, .bool false, .bool false, .bool false, .int .u8 0, .int .u8 6], row (nd7) 25 #[.int .u32 0, .int .u32 0], row (nd16) 25 (full refZ [.int .u32 0, .int .u32 1, .int .u32 0, .int .u32 2] (nd20)), row (nd22) 51 (units key), row (nd23) 208 #[.slice (some ⟨nd22, 0, none⟩) key.size key.size, .int .i32 0, .bool false, .bool false, .bool false], row (nd24) 211 #[.int .u32 3, .int .u32 vm, .bool false, .bool false, .bool false], row (nd25) 71 #[.iface 209 (.pointer (some ⟨nd27, 0, none⟩)), .int .i32 loc, .slice (some ⟨nd28, 0, none⟩) 4 4, .int .i32 0, .int .u8 0, .int .u8 0, .bool false, .bool false], row (nd27) 211 #[.int .u32 0, .int .u32 2, .bool false, .bool false, .bool false], row (nd26) 35 #[.iface 65 (.pointer (some ⟨nd25, 0, none⟩)), .int .i32 loc], row (B1) 25 #[.int .u32 0, .int .u32 0], row (nd10) 51 (units key), row (nd11) 208 #[.slice (some ⟨nd10, 0, none⟩) key.size key.size, .int .i32 0, .bool false, .bool false, .bool false], row (nd12) 211 #[.int .u32 3, .int .u32 vm, .bool false, .bool false, .bool false], row (nd13) 211 #[.int .u32 0, .int .u32 2, .bool false, .bool false, .bool false], row (nd15) 71 #[.iface 209 (.pointer (some ⟨nd13, 0, none⟩)), .int .i32 loc, .slice (some ⟨nd17, 0, none⟩) 4 4, .int .i32 0, .int .u8 0, .int .u8 0, .bool false, .bool false], row (nd14) 35 #[.iface 65 (.pointer (some ⟨nd15, 0, none⟩)), .int .i32 loc]] X := hQ.back HL.out HX.out [0, 1, 2, 5, 6, 7, 8, 9, 10, 11, 12, 13, 14, 15, 16, 17, 18, 19, 20] (by decide) (by decide)
  clear hQ HL HX hO
  have hO := hN
  clear hN
  have hN : Own w0 u29 [row (nd4) 193 ((newSrstP r s nd3 nd5 nd6 nd7).setIfInBounds 106 (.slice (some ⟨nd18, 0, none⟩) 3 (3 + nd19))), ((nd5, .map #[⟨.string ⟨#[95, 95, 115, 117, 112, 101, 114, 71, 101, 116]⟩, .agg #[.int .i32 loc, .int .u32 0, .int .u32 1], 0⟩, ⟨.string ⟨#[95, 95, 115, 117, 112, 101, 114, 83, 101, 116]⟩, .agg #[.int .i32 loc, .int .u32 0, .int .u32 2], 1⟩] 2) : Rw), row (B8) 31 #[.int .i32 loc], row (nd18) 56 (full symZ (symL ([sy ⟨#[70, 111, 111]⟩ (uz r (uz r (uz r 0))), sy ⟨#[95, 95, 115, 117, 112, 101, 114, 71, 101, 116]⟩ 1, sy ⟨#[95, 95, 115, 117, 112, 101, 114, 83, 101, 116]⟩ 2])) nd19), row (nd22) 51 (units key), row (nd23) 208 #[.slice (some ⟨nd22, 0, none⟩) key.size key.size, .int .i32 0, .bool false, .bool false, .bool false], row (nd24) 211 #[.int .u32 3, .int .u32 vm, .bool false, .bool false, .bool false], row (nd25) 71 #[.iface 209 (.pointer (some ⟨nd27, 0, none⟩)), .int .i32 loc, .slice (some ⟨nd28, 0, none⟩) 4 4, .int .i32 0, .int .u8 0, .int .u8 0, .bool false, .bool false], row (nd27) 211 #[.int .u32 0, .int .u32 2, .bool false, .bool false, .bool false], row (nd26) 35 #[.iface 65 (.pointer (some ⟨nd25, 0, none⟩)), .int .i32 loc], row (nd10) 51 (units key), row (nd11) 208 #[.slice (some ⟨nd10, 0, none⟩) key.size key.size, .int .i32 0, .bool false, .bool false, .bool false], row (nd12) 211 #[.int .u32 3, .int .u32 vm, .bool false, .bool false, .bool false], row (nd13) 211 #[.int .u32 0, .int .u32 2, .bool false, .bool false, .bool false], row (nd15) 71 #[.iface 209 (.pointer (some ⟨nd13, 0, none⟩)), .int .i32 loc, .slice (some ⟨nd17, 0, none⟩) 4 4, .int .i32 0, .int .u8 0, .int .u8 0, .bool false, .bool false], row (nd14) 35 #[.iface 65 (.pointer (some ⟨nd15, 0, none⟩)), .int .i32 loc]] X := hO.sub [0, 1, 3, 4, 8, 9, 10, 11, 12, 13, 15, 16, 17, 18, 19, 20] (by decide)
  clear hO
  have hO := hN
  clear hN
  obtain ⟨c9_2_0, lt9_2, y9_2, -⟩ := hO.k1 2 rfl
  obtain ⟨c9_5_0, c9_5_1, c9_5_2, c9_5_3, c9_5_4, lt9_5, y9_5, -⟩ := hO.k5 5 rfl
  obtain ⟨c9_6_0, c9_6_1, c9_6_2, c9_6_3, c9_6_4, lt9_6, y9_6, -⟩ := hO.k5 6 rfl
  obtain ⟨c9_7_0, c9_7_1, c9_7_2, c9_7_3, c9_7_4, c9_7_5, c9_7_6, c9_7_7, lt9_7, y9_7, -⟩ := hO.k8 7 rfl
  obtain ⟨c9_8_0, c9_8_1, c9_8_2, c9_8_3, c9_8_4, lt9_8, y9_8, -⟩ := hO.k5 8 rfl
  obtain ⟨c9_9_0, c9_9_1, lt9_9, y9_9, -⟩ := hO.k2 9 rfl
  obtain ⟨c9_11_0, c9_11_1, c9_11_2, c9_11_3, c9_11_4, lt9_11, y9_11, -⟩ := hO.k5 11 rfl
  obtain ⟨c9_12_0, c9_12_1, c9_12_2, c9_12_3, c9_12_4, lt9_12, y9_12, -⟩ := hO.k5 12 rfl
  obtain ⟨c9_13_0, c9_13_1, c9_13_2, c9_13_3, c9_13_4, lt9_13, y9_13, -⟩ := hO.k5 13 rfl
  obtain ⟨c9_14_0, c9_14_1, c9_14_2, c9_14_3, c9_14_4, c9_14_5, c9_14_6, c9_14_7, lt9_14, y9_14, -⟩ := hO.k8 14 rfl
  obtain ⟨c9_15_0, c9_15_1, lt9_15, y9_15, -⟩ := hO.k2 15 rfl
  have HO := Lib.hid hO
  clear hO
  go_wp2_with (first | (with_reducible refine Own.stay (fn := Tryd.f4) ?_) | (first | (go_at_call 20; go_in)))
  try with_reducible refine Own.Stay.mk ?_
  have hO := HO.out
  clear HO c9_2_0 lt9_2 y9_2 c9_5_0 c9_5_1 c9_5_2 c9_5_3 c9_5_4 lt9_5 y9_5 c9_6_0 c9_6_1 c9_6_2 c9_6_3 c9_6_4 lt9_6 y9_6 c9_7_0 c9_7_1 c9_7_2 c9_7_3 c9_7_4 c9_7_5 c9_7_6 c9_7_7 lt9_7 y9_7 c9_8_0 c9_8_1 c9_8_2 c9_8_3 c9_8_4 lt9_8 y9_8 c9_9_0 c9_9_1 lt9_9 y9_9 c9_11_0 c9_11_1 c9_11_2 c9_11_3 c9_11_4 lt9_11 y9_11 c9_12_0 c9_12_1 c9_12_2 c9_12_3 c9_12_4 lt9_12 y9_12 c9_13_0 c9_13_1 c9_13_2 c9_13_3 c9_13_4 lt9_13 y9_13 c9_14_0 c9_14_1 c9_14_2 c9_14_3 c9_14_4 c9_14_5 c9_14_6 c9_14_7 lt9_14 y9_14 c9_15_0 c9_15_1 lt9_15 y9_15
  generalize hW : World.alloc _ _ = W31
  have hN : Own w0 W31 [row (u29.heap.size) 25 #[.int .u32 0, .int .u32 2], row (nd4) 193 ((newSrstP r s nd3 nd5 nd6 nd7).setIfInBounds 106 (.slice (some ⟨nd18, 0, none⟩) 3 (3 + nd19))), ((nd5, .map #[⟨.string ⟨#[95, 95, 115, 117, 112, 101, 114, 71, 101, 116]⟩, .agg #[.int .i32 loc, .int .u32 0, .int .u32 1], 0⟩, ⟨.string ⟨#[95, 95, 115, 117, 112, 101, 114, 83, 101, 116]⟩, .agg #[.int .i32 loc, .int .u32 0, .int .u32 2], 1⟩] 2) : Rw), row (B8) 31 #[.int .i32 loc], row (nd18) 56 (full symZ (symL ([sy ⟨#[70, 111, 111]⟩ (uz r (uz r (uz r 0))), sy ⟨#[95, 95, 115, 117, 112, 101, 114, 71, 101, 116]⟩ 1, sy ⟨#[95, 95, 115, 117, 112, 101, 114, 83, 101, 116]⟩ 2])) nd19), row (nd22) 51 (units key), row (nd23) 208 #[.slice (some ⟨nd22, 0, none⟩) key.size key.size, .int .i32 0, .bool false, .bool false, .bool false], row (nd24) 211 #[.int .u32 3, .int .u32 vm, .bool false, .bool false, .bool false], row (nd25) 71 #[.iface 209 (.pointer (some ⟨nd27, 0, none⟩)), .int .i32 loc, .slice (some ⟨nd28, 0, none⟩) 4 4, .int .i32 0, .int .u8 0, .int .u8 0, .bool false, .bool false], row (nd27) 211 #[.int .u32 0, .int .u32 2, .bool false, .bool false, .bool false], row (nd26) 35 #[.iface 65 (.pointer (some ⟨nd25, 0, none⟩)), .int .i32 loc], row (nd10) 51 (units key), row (nd11) 208 #[.slice (some ⟨nd10, 0, none⟩) key.size key.size, .int .i32 0, .bool false, .bool false, .bool false], row (nd12) 211 #[.int .u32 3, .int .u32 vm, .bool false, .bool false, .bool false], row (nd13) 211 #[.int .u32 0, .int .u32 2, .bool false, .bool false, .bool false], row (nd15) 71 #[.iface 209 (.pointer (some ⟨nd13, 0, none⟩)), .int .i32 loc, .slice (some ⟨nd17, 0, none⟩) 4 4, .int .i32 0, .int .u8 0, .int .u8 0, .bool false, .bool false], row (nd14) 35 #[.iface 65 (.pointer (some ⟨nd15, 0, none⟩)), .int .i32 loc]] X := by
    rw [← hW]
    exact (hO).alloc' _ (u29.heap.size) (by simp)
  clear hW hO
  generalize u29.heap.size = B30 at hN ⊢
  have hO := hN
  clear hN
  have hL := hO.apart
  have hX := hO.apartX
  have HL := Lib.hid hL
  have HX := Lib.hid hX
  clear hL hX
  have hP9 := hO.pick [1, 2] (by decide)
  have h9_hyes : Instr.findNow .string (.string (⟨#[95, 95, 115, 117, 112, 101, 114, 71, 101, 116]⟩ : ByteArray)) (#[⟨.string ⟨#[95, 95, 115, 117, 112, 101, 114, 71, 101, 116]⟩, .agg #[.int .i32 loc, .int .u32 0, .int .u32 1], 0⟩, ⟨.string ⟨#[95, 95, 115, 117, 112, 101, 114, 83, 101, 116]⟩, .agg #[.int .i32 loc, .int .u32 0, .int .u32 2], 1⟩] : Array MapEntry).toList 0 = some (some (0, .agg #[.int .i32 loc, .int .u32 0, .int .u32 1])) := (by kernel_rfl)
  have T9 := impRefY nd4 ((newSrstP r s nd3 nd5 nd6 nd7).setIfInBounds 106 (.slice (some ⟨nd18, 0, none⟩) 3 (3 + nd19))) nd5 #[⟨.string ⟨#[95, 95, 115, 117, 112, 101, 114, 71, 101, 116]⟩, .agg #[.int .i32 loc, .int .u32 0, .int .u32 1], 0⟩, ⟨.string ⟨#[95, 95, 115, 117, 112, 101, 114, 83, 101, 116]⟩, .agg #[.int .i32 loc, .int .u32 0, .int .u32 2], 1⟩] 2 ⟨#[95, 95, 115, 117, 112, 101, 114, 71, 101, 116]⟩ 0 loc 0 1 _ _ _ hP9 (get_other (newSrst_117 r s (nd3) (nd5) (nd6) (nd7)) (by omega) _) h9_hyes
  refine Calls.mono T9 ?_
  clear hP9 T9 h9_hyes
  rintro e u32 ⟨rfl, hQ⟩
  have hN : Own w0 u32 [row (nd4) 193 ((newSrstP r s nd3 nd5 nd6 nd7).setIfInBounds 106 (.slice (some ⟨nd18, 0, none⟩) 3 (3 + nd19))), ((nd5, .map #[⟨.string ⟨#[95, 95, 115, 117, 112, 101, 114, 71, 101, 116]⟩, .agg #[.int .i32 loc, .int .u32 0, .int .u32 1], 0⟩, ⟨.string ⟨#[95, 95, 115, 117, 112, 101, 114, 83, 101, 116]⟩, .agg #[.int .i32 loc, .int .u32 0, .int .u32 2], 1⟩] 2) : Rw), row (B30) 25 #[.int .u32 0, .int .u32 2], row (B8) 31 #[.int .i32 loc], row (nd18) 56 (full symZ (symL ([sy ⟨#[70, 111, 111]⟩ (uz r (uz r (uz r 0))), sy ⟨#[95, 95, 115, 117, 112, 101, 114, 71, 101, 116]⟩ 1, sy ⟨#[95, 95, 115, 117, 112, 101, 114, 83, 101, 116]⟩ 2])) nd19), row (nd22) 51 (units key), row (nd23) 208 #[.slice (some ⟨nd22, 0, none⟩) key.size key.size, .int .i32 0, .bool false, .bool false, .bool false], row (nd24) 211 #[.int .u32 3, .int .u32 vm, .bool false, .bool false, .bool false], row (nd25) 71 #[.iface 209 (.pointer (some ⟨nd27, 0, none⟩)), .int .i32 loc, .slice (some ⟨nd28, 0, none⟩) 4 4, .int .i32 0, .int .u8 0, .int .u8 0, .bool false, .bool false], row (nd27) 211 #[.int .u32 0, .int .u32 2, .bool false, .bool false, .bool false], row (nd26) 35 #[.iface 65 (.pointer (some ⟨nd25, 0, none⟩)), .int .i32 loc], row (nd10) 51 (units key), row (nd11) 208 #[.slice (some ⟨nd10, 0, none⟩) key.size key.size, .int .i32 0, .bool false, .bool false, .bool false], row (nd12) 211 #[.int .u32 3, .int .u32 vm, .bool false, .bool false, .bool false], row (nd13) 211 #[.int .u32 0, .int .u32 2, .bool false, .bool false, .bool false], row (nd15) 71 #[.iface 209 (.pointer (some ⟨nd13, 0, none⟩)), .int .i32 loc, .slice (some ⟨nd17, 0, none⟩) 4 4, .int .i32 0, .int .u8 0, .int .u8 0, .bool false, .bool false], row (nd14) 35 #[.iface 65 (.pointer (some ⟨nd15, 0, none⟩)), .int .i32 loc]] X := hQ.back HL.out HX.out [0, 3, 4, 5, 6, 7, 8, 9, 10, 11, 12, 13, 14, 15, 16] (by decide) (by decide)
  clear hQ HL HX hO
  have hO := hN
  clear hN
  have hN : Own w0 u32 [row (nd4) 193 ((newSrstP r s nd3 nd5 nd6 nd7).setIfInBounds 106 (.slice (some ⟨nd18, 0, none⟩) 3 (3 + nd19))), ((nd5, .map #[⟨.string ⟨#[95, 95, 115, 117, 112, 101, 114, 71, 101, 116]⟩, .agg #[.int .i32 loc, .int .u32 0, .int .u32 1], 0⟩, ⟨.string ⟨#[95, 95, 115, 117, 112, 101, 114, 83, 101, 116]⟩, .agg #[.int .i32 loc, .int .u32 0, .int .u32 2], 1⟩] 2) : Rw), row (B30) 25 #[.int .u32 0, .int .u32 2], row (B8) 31 #[.int .i32 loc], row (nd18) 56 (full symZ (symL ([sy ⟨#[70, 111, 111]⟩ (uz r (uz r (uz r 0))), sy ⟨#[95, 95, 115, 117, 112, 101, 114, 71, 101, 116]⟩ 1, sy ⟨#[95, 95, 115, 117, 112, 101, 114, 83, 101, 116]⟩ 2])) nd19), row (nd22) 51 (units key), row (nd23) 208 #[.slice (some ⟨nd22, 0, none⟩) key.size key.size, .int .i32 0, .bool false, .bool false, .bool false], row (nd24) 211 #[.int .u32 3, .int .u32 vm, .bool false, .bool false, .bool false], row (nd25) 71 #[.iface 209 (.pointer (some ⟨nd27, 0, none⟩)), .int .i32 loc, .slice (some ⟨nd28, 0, none⟩) 4 4, .int .i32 0, .int .u8 0, .int .u8 0, .bool false, .bool false], row (nd27) 211 #[.int .u32 0, .int .u32 2, .bool false, .bool false, .bool false], row (nd26) 35 #[.iface 65 (.pointer (some ⟨nd25, 0, none⟩)), .int .i32 loc], row (nd10) 51 (units key), row (nd11) 208 #[.slice (some ⟨nd10, 0, none⟩) key.size key.size, .int .i32 0, .bool false, .bool false, .bool false], row (nd12) 211 #[.int .u32 3, .int .u32 vm, .bool false, .bool false, .bool false], row (nd13) 211 #[.int .u32 0, .int .u32 2, .bool false, .bool false, .bool false], row (nd15) 71 #[.iface 209 (.pointer (some ⟨nd13, 0, none⟩)), .int .i32 loc, .slice (some ⟨nd17, 0, none⟩) 4 4, .int .i32 0, .int .u8 0, .int .u8 0, .bool false, .bool false], row (nd14) 35 #[.iface 65 (.pointer (some ⟨nd15, 0, none⟩)), .int .i32 loc]] X := hO.sub [0, 1, 2, 3, 4, 5, 6, 7, 8, 9, 10, 11, 12, 13, 14, 15, 16] (by decide)
  clear hO
  have hO := hN
  clear hN
  obtain ⟨c9_2_0, c9_2_1, lt9_2, y9_2, -⟩ := hO.k2 2 rfl
  obtain ⟨c9_3_0, lt9_3, y9_3, -⟩ := hO.k1 3 rfl
  obtain ⟨c9_6_0, c9_6_1, c9_6_2, c9_6_3, c9_6_4, lt9_6, y9_6, -⟩ := hO.k5 6 rfl
  obtain ⟨c9_7_0, c9_7_1, c9_7_2, c9_7_3, c9_7_4, lt9_7, y9_7, -⟩ := hO.k5 7 rfl
  obtain ⟨c9_8_0, c9_8_1, c9_8_2, c9_8_3, c9_8_4, c9_8_5, c9_8_6, c9_8_7, lt9_8, y9_8, -⟩ := hO.k8 8 rfl
  obtain ⟨c9_9_0, c9_9_1, c9_9_2, c9_9_3, c9_9_4, lt9_9, y9_9, -⟩ := hO.k5 9 rfl
  obtain ⟨c9_10_0, c9_10_1, lt9_10, y9_10, -⟩ := hO.k2 10 rfl
  obtain ⟨c9_12_0, c9_12_1, c9_12_2, c9_12_3, c9_12_4, lt9_12, y9_12, -⟩ := hO.k5 12 rfl
  obtain ⟨c9_13_0, c9_13_1, c9_13_2, c9_13_3, c9_13_4, lt9_13, y9_13, -⟩ := hO.k5 13 rfl
  obtain ⟨c9_14_0, c9_14_1, c9_14_2, c9_14_3, c9_14_4, lt9_14, y9_14, -⟩ := hO.k5 14 rfl
  obtain ⟨c9_15_0, c9_15_1, c9_15_2, c9_15_3, c9_15_4, c9_15_5, c9_15_6, c9_15_7, lt9_15, y9_15, -⟩ := hO.k8 15 rfl
  obtain ⟨c9_16_0, c9_16_1, lt9_16, y9_16, -⟩ := hO.k2 16 rfl
  have HO := Lib.hid hO
  clear hO
  go_wp2_with (first | (with_reducible refine Own.stay (fn := Tryd.f4) ?_) | (first | (go_at_call 20; go_in)))
  try with_reducible refine Own.Stay.mk ?_
  have hO := HO.out
  clear HO c9_2_0 c9_2_1 lt9_2 y9_2 c9_3_0 lt9_3 y9_3 c9_6_0 c9_6_1 c9_6_2 c9_6_3 c9_6_4 lt9_6 y9_6 c9_7_0 c9_7_1 c9_7_2 c9_7_3 c9_7_4 lt9_7 y9_7 c9_8_0 c9_8_1 c9_8_2 c9_8_3 c9_8_4 c9_8_5 c9_8_6 c9_8_7 lt9_8 y9_8 c9_9_0 c9_9_1 c9_9_2 c9_9_3 c9_9_4 lt9_9 y9_9 c9_10_0 c9_10_1 lt9_10 y9_10 c9_12_0 c9_12_1 c9_12_2 c9_12_3 c9_12_4 lt9_12 y9_12 c9_13_0 c9_13_1 c9_13_2 c9_13_3 c9_13_4 lt9_13 y9_13 c9_14_0 c9_14_1 c9_14_2 c9_14_3 c9_14_4 lt9_14 y9_14 c9_15_0 c9_15_1 c9_15_2 c9_15_3 c9_15_4 c9_15_5 c9_15_6 c9_15_7 lt9_15 y9_15 c9_16_0 c9_16_1 lt9_16 y9_16
  generalize hW : World.alloc _ _ = W34
  have hN : Own w0 W34 [row (u32.heap.size) 25 #[.int .u32 0, .int .u32 1], row (nd4) 193 ((newSrstP r s nd3 nd5 nd6 nd7).setIfInBounds 106 (.slice (some ⟨nd18, 0, none⟩) 3 (3 + nd19))), ((nd5, .map #[⟨.string ⟨#[95, 95, 115, 117, 112, 101, 114, 71, 101, 116]⟩, .agg #[.int .i32 loc, .int .u32 0, .int .u32 1], 0⟩, ⟨.string ⟨#[95, 95, 115, 117, 112, 101, 114, 83, 101, 116]⟩, .agg #[.int .i32 loc, .int .u32 0, .int .u32 2], 1⟩] 2) : Rw), row (B30) 25 #[.int .u32 0, .int .u32 2], row (B8) 31 #[.int .i32 loc], row (nd18) 56 (full symZ (symL ([sy ⟨#[70, 111, 111]⟩ (uz r (uz r (uz r 0))), sy ⟨#[95, 95, 115, 117, 112, 101, 114, 71, 101, 116]⟩ 1, sy ⟨#[95, 95, 115, 117, 112, 101, 114, 83, 101, 116]⟩ 2])) nd19), row (nd22) 51 (units key), row (nd23) 208 #[.slice (some ⟨nd22, 0, none⟩) key.size key.size, .int .i32 0, .bool false, .bool false, .bool false], row (nd24) 211 #[.int .u32 3, .int .u32 vm, .bool false, .bool false, .bool false], row (nd25) 71 #[.iface 209 (.pointer (some ⟨nd27, 0, none⟩)), .int .i32 loc, .slice (some ⟨nd28, 0, none⟩) 4 4, .int .i32 0, .int .u8 0, .int .u8 0, .bool false, .bool false], row (nd27) 211 #[.int .u32 0, .int .u32 2, .bool false, .bool false, .bool false], row (nd26) 35 #[.iface 65 (.pointer (some ⟨nd25, 0, none⟩)), .int .i32 loc], row (nd10) 51 (units key), row (nd11) 208 #[.slice (some ⟨nd10, 0, none⟩) key.size key.size, .int .i32 0, .bool false, .bool false, .bool false], row (nd12) 211 #[.int .u32 3, .int .u32 vm, .bool false, .bool false, .bool false], row (nd13) 211 #[.int .u32 0, .int .u32 2, .bool false, .bool false, .bool false], row (nd15) 71 #[.iface 209 (.pointer (some ⟨nd13, 0, none⟩)), .int .i32 loc, .slice (some ⟨nd17, 0, none⟩) 4 4, .int .i32 0, .int .u8 0, .int .u8 0, .bool false, .bool false], row (nd14) 35 #[.iface 65 (.pointer (some ⟨nd15, 0, none⟩)), .int .i32 loc]] X := by
    rw [← hW]
    exact (hO).alloc' _ (u32.heap.size) (by simp)
  clear hW hO
  generalize u32.heap.size = B33 at hN ⊢
  have hO := hN
  clear hN
  have hL := hO.apart
  have hX := hO.apartX
  have HL := Lib.hid hL
  have HX := Lib.hid hX
  clear hL hX
  have hP9 := hO.pick [1, 2] (by decide)
  have h9_hsz : (#[⟨.string ⟨#[95, 95, 115, 117, 112, 101, 114, 71, 101, 116]⟩, .agg #[.int .i32 loc, .int .u32 0, .int .u32 1], 0⟩, ⟨.string ⟨#[95, 95, 115, 117, 112, 101, 114, 83, 101, 116]⟩, .agg #[.int .i32 loc, .int .u32 0, .int .u32 2], 1⟩] : Array MapEntry).size = 2 := rfl
  have T9 := impCnt nd4 ((newSrstP r s nd3 nd5 nd6 nd7).setIfInBounds 106 (.slice (some ⟨nd18, 0, none⟩) 3 (3 + nd19))) nd5 #[⟨.string ⟨#[95, 95, 115, 117, 112, 101, 114, 71, 101, 116]⟩, .agg #[.int .i32 loc, .int .u32 0, .int .u32 1], 0⟩, ⟨.string ⟨#[95, 95, 115, 117, 112, 101, 114, 83, 101, 116]⟩, .agg #[.int .i32 loc, .int .u32 0, .int .u32 2], 1⟩] 2 2 _ _ _ hP9 (get_other (newSrst_117 r s (nd3) (nd5) (nd6) (nd7)) (by omega) _) h9_hsz
  refine Calls.mono T9 ?_
  clear hP9 T9 h9_hsz
  rintro e u35 ⟨rfl, hQ⟩
  have hN : Own w0 u35 [row (nd4) 193 ((newSrstP r s nd3 nd5 nd6 nd7).setIfInBounds 106 (.slice (some ⟨nd18, 0, none⟩) 3 (3 + nd19))), ((nd5, .map #[⟨.string ⟨#[95, 95, 115, 117, 112, 101, 114, 71, 101, 116]⟩, .agg #[.int .i32 loc, .int .u32 0, .int .u32 1], 0⟩, ⟨.string ⟨#[95, 95, 115, 117, 112, 101, 114, 83, 101, 116]⟩, .agg #[.int .i32 loc, .int .u32 0, .int .u32 2], 1⟩] 2) : Rw), row (B33) 25 #[.int .u32 0, .int .u32 1], row (B30) 25 #[.int .u32 0, .int .u32 2], row (B8) 31 #[.int .i32 loc], row (nd18) 56 (full symZ (symL ([sy ⟨#[70, 111, 111]⟩ (uz r (uz r (uz r 0))), sy ⟨#[95, 95, 115, 117, 112, 101, 114, 71, 101, 116]⟩ 1, sy ⟨#[95, 95, 115, 117, 112, 101, 114, 83, 101, 116]⟩ 2])) nd19), row (nd22) 51 (units key), row (nd23) 208 #[.slice (some ⟨nd22, 0, none⟩) key.size key.size, .int .i32 0, .bool false, .bool false, .bool false], row (nd24) 211 #[.int .u32 3, .int .u32 vm, .bool false, .bool false, .bool false], row (nd25) 71 #[.iface 209 (.pointer (some ⟨nd27, 0, none⟩)), .int .i32 loc, .slice (some ⟨nd28, 0, none⟩) 4 4, .int .i32 0, .int .u8 0, .int .u8 0, .bool false, .bool false], row (nd27) 211 #[.int .u32 0, .int .u32 2, .bool false, .bool false, .bool false], row (nd26) 35 #[.iface 65 (.pointer (some ⟨nd25, 0, none⟩)), .int .i32 loc], row (nd10) 51 (units key), row (nd11) 208 #[.slice (some ⟨nd10, 0, none⟩) key.size key.size, .int .i32 0, .bool false, .bool false, .bool false], row (nd12) 211 #[.int .u32 3, .int .u32 vm, .bool false, .bool false, .bool false], row (nd13) 211 #[.int .u32 0, .int .u32 2, .bool false, .bool false, .bool false], row (nd15) 71 #[.iface 209 (.pointer (some ⟨nd13, 0, none⟩)), .int .i32 loc, .slice (some ⟨nd17, 0, none⟩) 4 4, .int .i32 0, .int .u8 0, .int .u8 0, .bool false, .bool false], row (nd14) 35 #[.iface 65 (.pointer (some ⟨nd15, 0, none⟩)), .int .i32 loc]] X := hQ.back HL.out HX.out [0, 3, 4, 5, 6, 7, 8, 9, 10, 11, 12, 13, 14, 15, 16, 17] (by decide) (by decide)
  clear hQ HL HX hO
  have hO := hN
  clear hN
  have hN : Own w0 u35 [row (nd4) 193 ((newSrstP r s nd3 nd5 nd6 nd7).setIfInBounds 106 (.slice (some ⟨nd18, 0, none⟩) 3 (3 + nd19))), row (B33) 25 #[.int .u32 0, .int .u32 1], row (B30) 25 #[.int .u32 0, .int .u32 2], row (B8) 31 #[.int .i32 loc], row (nd18) 56 (full symZ (symL ([sy ⟨#[70, 111, 111]⟩ (uz r (uz r (uz r 0))), sy ⟨#[95, 95, 115, 117, 112, 101, 114, 71, 101, 116]⟩ 1, sy ⟨#[95, 95, 115, 117, 112, 101, 114, 83, 101, 116]⟩ 2])) nd19), row (nd22) 51 (units key), row (nd23) 208 #[.slice (some ⟨nd22, 0, none⟩) key.size key.size, .int .i32 0, .bool false, .bool false, .bool false], row (nd24) 211 #[.int .u32 3, .int .u32 vm, .bool false, .bool false, .bool false], row (nd25) 71 #[.iface 209 (.pointer (some ⟨nd27, 0, none⟩)), .int .i32 loc, .slice (some ⟨nd28, 0, none⟩) 4 4, .int .i32 0, .int .u8 0, .int .u8 0, .bool false, .bool false], row (nd27) 211 #[.int .u32 0, .int .u32 2, .bool false, .bool false, .bool false], row (nd26) 35 #[.iface 65 (.pointer (some ⟨nd25, 0, none⟩)), .int .i32 loc], row (nd10) 51 (units key), row (nd11) 208 #[.slice (some ⟨nd10, 0, none⟩) key.size key.size, .int .i32 0, .bool false, .bool false, .bool false], row (nd12) 211 #[.int .u32 3, .int .u32 vm, .bool false, .bool false, .bool false], row (nd13) 211 #[.int .u32 0, .int .u32 2, .bool false, .bool false, .bool false], row (nd15) 71 #[.iface 209 (.pointer (some ⟨nd13, 0, none⟩)), .int .i32 loc, .slice (some ⟨nd17, 0, none⟩) 4 4, .int .i32 0, .int .u8 0, .int .u8 0, .bool false, .bool false], row (nd14) 35 #[.iface 65 (.pointer (some ⟨nd15, 0, none⟩)), .int .i32 loc]] X := hO.sub [0, 2, 3, 4, 5, 6, 7, 8, 9, 10, 11, 12, 13, 14, 15, 16, 17] (by decide)
  clear hO
  have hO := hN
  clear hN
  obtain ⟨c9_1_0, c9_1_1, lt9_1, y9_1, -⟩ := hO.k2 1 rfl
  obtain ⟨c9_2_0, c9_2_1, lt9_2, y9_2, -⟩ := hO.k2 2 rfl
  obtain ⟨c9_3_0, lt9_3, y9_3, -⟩ := hO.k1 3 rfl
  obtain ⟨c9_6_0, c9_6_1, c9_6_2, c9_6_3, c9_6_4, lt9_6, y9_6, -⟩ := hO.k5 6 rfl
  obtain ⟨c9_7_0, c9_7_1, c9_7_2, c9_7_3, c9_7_4, lt9_7, y9_7, -⟩ := hO.k5 7 rfl
  obtain ⟨c9_8_0, c9_8_1, c9_8_2, c9_8_3, c9_8_4, c9_8_5, c9_8_6, c9_8_7, lt9_8, y9_8, -⟩ := hO.k8 8 rfl
  obtain ⟨c9_9_0, c9_9_1, c9_9_2, c9_9_3, c9_9_4, lt9_9, y9_9, -⟩ := hO.k5 9 rfl
  obtain ⟨c9_10_0, c9_10_1, lt9_10, y9_10, -⟩ := hO.k2 10 rfl
  obtain ⟨c9_12_0, c9_12_1, c9_12_2, c9_12_3, c9_12_4, lt9_12, y9_12, -⟩ := hO.k5 12 rfl
  obtain ⟨c9_13_0, c9_13_1, c9_13_2, c9_13_3, c9_13_4, lt9_13, y9_13, -⟩ := hO.k5 13 rfl
  obtain ⟨c9_14_0, c9_14_1, c9_14_2, c9_14_3, c9_14_4, lt9_14, y9_14, -⟩ := hO.k5 14 rfl
  obtain ⟨c9_15_0, c9_15_1, c9_15_2, c9_15_3, c9_15_4, c9_15_5, c9_15_6, c9_15_7, lt9_15, y9_15, -⟩ := hO.k8 15 rfl
  obtain ⟨c9_16_0, c9_16_1, lt9_16, y9_16, -⟩ := hO.k2 16 rfl
  have HO := Lib.hid hO
  clear hO
  go_wp2_with (first | (with_reducible refine Own.stay (fn := Tryd.f4) ?_) | (first | (go_at_call 20; go_in)))
  try with_reducible refine Own.Stay.mk ?_
  have hO := HO.out
  clear HO c9_1_0 c9_1_1 lt9_1 y9_1 c9_2_0 c9_2_1 lt9_2 y9_2 c9_3_0 lt9_3 y9_3 c9_6_0 c9_6_1 c9_6_2 c9_6_3 c9_6_4 lt9_6 y9_6 c9_7_0 c9_7_1 c9_7_2 c9_7_3 c9_7_4 lt9_7 y9_7 c9_8_0 c9_8_1 c9_8_2 c9_8_3 c9_8_4 c9_8_5 c9_8_6 c9_8_7 lt9_8 y9_8 c9_9_0 c9_9_1 c9_9_2 c9_9_3 c9_9_4 lt9_9 y9_9 c9_10_0 c9_10_1 lt9_10 y9_10 c9_12_0 c9_12_1 c9_12_2 c9_12_3 c9_12_4 lt9_12 y9_12 c9_13_0 c9_13_1 c9_13_2 c9_13_3 c9_13_4 lt9_13 y9_13 c9_14_0 c9_14_1 c9_14_2 c9_14_3 c9_14_4 lt9_14 y9_14 c9_15_0 c9_15_1 c9_15_2 c9_15_3 c9_15_4 c9_15_5 c9_15_6 c9_15_7 lt9_15 y9_15 c9_16_0 c9_16_1 lt9_16 y9_16
  have hL := hO.apart
  have hX := hO.apartX
  have HL := Lib.hid hL
  have HX := Lib.hid hX
  clear hL hX
  have hP9 := hO.pick [15, 14] (by decide)
  have T9 := helperCall4 nd15 nd13 nd17 loc loc 0 2 _ _ _ hP9 
  refine Calls.mono T9 ?_
  clear hP9 T9
  rintro e u36 ⟨rfl, hQ⟩
  have hN : Own w0 u36 [row (nd15) 71 #[.iface 209 (.pointer (some ⟨nd13, 0, none⟩)), .int .i32 loc, .slice (some ⟨nd17, 0, none⟩) 4 4, .int .i32 0, .int .u8 0, .int .u8 0, .bool false, .bool false], row (nd13) 211 #[.int .u32 0, .int .u32 2, .bool false, .bool false, .bool false], row (nd4) 193 ((newSrstP r s nd3 nd5 nd6 nd7).setIfInBounds 106 (.slice (some ⟨nd18, 0, none⟩) 3 (3 + nd19))), row (B33) 25 #[.int .u32 0, .int .u32 1], row (B30) 25 #[.int .u32 0, .int .u32 2], row (B8) 31 #[.int .i32 loc], row (nd18) 56 (full symZ (symL ([sy ⟨#[70, 111, 111]⟩ (uz r (uz r (uz r 0))), sy ⟨#[95, 95, 115, 117, 112, 101, 114, 71, 101, 116]⟩ 1, sy ⟨#[95, 95, 115, 117, 112, 101, 114, 83, 101, 116]⟩ 2])) nd19), row (nd22) 51 (units key), row (nd23) 208 #[.slice (some ⟨nd22, 0, none⟩) key.size key.size, .int .i32 0, .bool false, .bool false, .bool false], row (nd24) 211 #[.int .u32 3, .int .u32 vm, .bool false, .bool false, .bool false], row (nd25) 71 #[.iface 209 (.pointer (some ⟨nd27, 0, none⟩)), .int .i32 loc, .slice (some ⟨nd28, 0, none⟩) 4 4, .int .i32 0, .int .u8 0, .int .u8 0, .bool false, .bool false], row (nd27) 211 #[.int .u32 0, .int .u32 2, .bool false, .bool false, .bool false], row (nd26) 35 #[.iface 65 (.pointer (some ⟨nd25, 0, none⟩)), .int .i32 loc], row (nd10) 51 (units key), row (nd11) 208 #[.slice (some ⟨nd10, 0, none⟩) key.size key.size, .int .i32 0, .bool false, .bool false, .bool false], row (nd12) 211 #[.int .u32 3, .int .u32 vm, .bool false, .bool false, .bool false], row (nd14) 35 #[.iface 65 (.pointer (some ⟨nd15, 0, none⟩)), .int .i32 loc]] X := hQ.back HL.out HX.out [0, 1, 2, 3, 4, 5, 6, 7, 8, 9, 10, 11, 12, 13, 16] (by decide) (by decide)
  clear hQ HL HX hO
  have hO := hN
  clear hN
  obtain ⟨c9_0_0, c9_0_1, c9_0_2, c9_0_3, c9_0_4, c9_0_5, c9_0_6, c9_0_7, lt9_0, y9_0, -⟩ := hO.k8 0 rfl
  obtain ⟨c9_1_0, c9_1_1, c9_1_2, c9_1_3, c9_1_4, lt9_1, y9_1, -⟩ := hO.k5 1 rfl
  obtain ⟨c9_3_0, c9_3_1, lt9_3, y9_3, -⟩ := hO.k2 3 rfl
  obtain ⟨c9_4_0, c9_4_1, lt9_4, y9_4, -⟩ := hO.k2 4 rfl
  obtain ⟨c9_5_0, lt9_5, y9_5, -⟩ := hO.k1 5 rfl
  obtain ⟨c9_8_0, c9_8_1, c9_8_2, c9_8_3, c9_8_4, lt9_8, y9_8, -⟩ := hO.k5 8 rfl
  obtain ⟨c9_9_0, c9_9_1, c9_9_2, c9_9_3, c9_9_4, lt9_9, y9_9, -⟩ := hO.k5 9 rfl
  obtain ⟨c9_10_0, c9_10_1, c9_10_2, c9_10_3, c9_10_4, c9_10_5, c9_10_6, c9_10_7, lt9_10, y9_10, -⟩ := hO.k8 10 rfl
  obtain ⟨c9_11_0, c9_11_1, c9_11_2, c9_11_3, c9_11_4, lt9_11, y9_11, -⟩ := hO.k5 11 rfl
  obtain ⟨c9_12_0, c9_12_1, lt9_12, y9_12, -⟩ := hO.k2 12 rfl
  obtain ⟨c9_14_0, c9_14_1, c9_14_2, c9_14_3, c9_14_4, lt9_14, y9_14, -⟩ := hO.k5 14 rfl
  obtain ⟨c9_15_0, c9_15_1, c9_15_2, c9_15_3, c9_15_4, lt9_15, y9_15, -⟩ := hO.k5 15 rfl
  obtain ⟨c9_16_0, c9_16_1, lt9_16, y9_16, -⟩ := hO.k2 16 rfl
  have HO := Lib.hid hO
  clear hO
  go_wp2_with (first | (with_reducible refine Own.stay (fn := Tryd.f4) ?_) | (first | (go_at_call 20; go_in)))
  try with_reducible refine Own.Stay.mk ?_
  have hO := HO.out
  clear HO c9_0_0 c9_0_1 c9_0_2 c9_0_3 c9_0_4 c9_0_5 c9_0_6 c9_0_7 lt9_0 y9_0 c9_1_0 c9_1_1 c9_1_2 c9_1_3 c9_1_4 lt9_1 y9_1 c9_3_0 c9_3_1 lt9_3 y9_3 c9_4_0 c9_4_1 lt9_4 y9_4 c9_5_0 lt9_5 y9_5 c9_8_0 c9_8_1 c9_8_2 c9_8_3 c9_8_4 lt9_8 y9_8 c9_9_0 c9_9_1 c9_9_2 c9_9_3 c9_9_4 lt9_9 y9_9 c9_10_0 c9_10_1 c9_10_2 c9_10_3 c9_10_4 c9_10_5 c9_10_6 c9_10_7 lt9_10 y9_10 c9_11_0 c9_11_1 c9_11_2 c9_11_3 c9_11_4 lt9_11 y9_11 c9_12_0 c9_12_1 lt9_12 y9_12 c9_14_0 c9_14_1 c9_14_2 c9_14_3 c9_14_4 lt9_14 y9_14 c9_15_0 c9_15_1 c9_15_2 c9_15_3 c9_15_4 lt9_15 y9_15 c9_16_0 c9_16_1 lt9_16 y9_16
  have hL := hO.apart
  have hX := hO.apartX
  have HL := Lib.hid hL
  have HX := Lib.hid hX
  clear hL hX
  have hP9 := hO.pick [10, 11] (by decide)
  have T9 := helperCall4 nd25 nd27 nd28 loc loc 0 2 _ _ _ hP9 
  refine Calls.mono T9 ?_
  clear hP9 T9
  rintro e u37 ⟨rfl, hQ⟩
  have hN : Own w0 u37 [row (nd25) 71 #[.iface 209 (.pointer (some ⟨nd27, 0, none⟩)), .int .i32 loc, .slice (some ⟨nd28, 0, none⟩) 4 4, .int .i32 0, .int .u8 0, .int .u8 0, .bool false, .bool false], row (nd27) 211 #[.int .u32 0, .int .u32 2, .bool false, .bool false, .bool false], row (nd15) 71 #[.iface 209 (.pointer (some ⟨nd13, 0, none⟩)), .int .i32 loc, .slice (some ⟨nd17, 0, none⟩) 4 4, .int .i32 0, .int .u8 0, .int .u8 0, .bool false, .bool false], row (nd13) 211 #[.int .u32 0, .int .u32 2, .bool false, .bool false, .bool false], row (nd4) 193 ((newSrstP r s nd3 nd5 nd6 nd7).setIfInBounds 106 (.slice (some ⟨nd18, 0, none⟩) 3 (3 + nd19))), row (B33) 25 #[.int .u32 0, .int .u32 1], row (B30) 25 #[.int .u32 0, .int .u32 2], row (B8) 31 #[.int .i32 loc], row (nd18) 56 (full symZ (symL ([sy ⟨#[70, 111, 111]⟩ (uz r (uz r (uz r 0))), sy ⟨#[95, 95, 115, 117, 112, 101, 114, 71, 101, 116]⟩ 1, sy ⟨#[95, 95, 115, 117, 112, 101, 114, 83, 101, 116]⟩ 2])) nd19), row (nd22) 51 (units key), row (nd23) 208 #[.slice (some ⟨nd22, 0, none⟩) key.size key.size, .int .i32 0, .bool false, .bool false, .bool false], row (nd24) 211 #[.int .u32 3, .int .u32 vm, .bool false, .bool false, .bool false], row (nd26) 35 #[.iface 65 (.pointer (some ⟨nd25, 0, none⟩)), .int .i32 loc], row (nd10) 51 (units key), row (nd11) 208 #[.slice (some ⟨nd10, 0, none⟩) key.size key.size, .int .i32 0, .bool false, .bool false, .bool false], row (nd12) 211 #[.int .u32 3, .int .u32 vm, .bool false, .bool false, .bool false], row (nd14) 35 #[.iface 65 (.pointer (some ⟨nd15, 0, none⟩)), .int .i32 loc]] X := hQ.back HL.out HX.out [0, 1, 2, 3, 4, 5, 6, 7, 8, 9, 12, 13, 14, 15, 16] (by decide) (by decide)
  clear hQ HL HX hO
  have hO := hN
  clear hN
  obtain ⟨c9_0_0, c9_0_1, c9_0_2, c9_0_3, c9_0_4, c9_0_5, c9_0_6, c9_0_7, lt9_0, y9_0, -⟩ := hO.k8 0 rfl
  obtain ⟨c9_1_0, c9_1_1, c9_1_2, c9_1_3, c9_1_4, lt9_1, y9_1, -⟩ := hO.k5 1 rfl
  obtain ⟨c9_2_0, c9_2_1, c9_2_2, c9_2_3, c9_2_4, c9_2_5, c9_2_6, c9_2_7, lt9_2, y9_2, -⟩ := hO.k8 2 rfl
  obtain ⟨c9_3_0, c9_3_1, c9_3_2, c9_3_3, c9_3_4, lt9_3, y9_3, -⟩ := hO.k5 3 rfl
  obtain ⟨c9_5_0, c9_5_1, lt9_5, y9_5, -⟩ := hO.k2 5 rfl
  obtain ⟨c9_6_0, c9_6_1, lt9_6, y9_6, -⟩ := hO.k2 6 rfl
  obtain ⟨c9_7_0, lt9_7, y9_7, -⟩ := hO.k1 7 rfl
  obtain ⟨c9_10_0, c9_10_1, c9_10_2, c9_10_3, c9_10_4, lt9_10, y9_10, -⟩ := hO.k5 10 rfl
  obtain ⟨c9_11_0, c9_11_1, c9_11_2, c9_11_3, c9_11_4, lt9_11, y9_11, -⟩ := hO.k5 11 rfl
  obtain ⟨c9_12_0, c9_12_1, lt9_12, y9_12, -⟩ := hO.k2 12 rfl
  obtain ⟨c9_14_0, c9_14_1, c9_14_2, c9_14_3, c9_14_4, lt9_14, y9_14, -⟩ := hO.k5 14 rfl
  obtain ⟨c9_15_0, c9_15_1, c9_15_2, c9_15_3, c9_15_4, lt9_15, y9_15, -⟩ := hO.k5 15 rfl
  obtain ⟨c9_16_0, c9_16_1, lt9_16, y9_16, -⟩ := hO.k2 16 rfl
  have HO := Lib.hid hO
  clear hO
  go_wp2_with (first | (with_reducible refine Own.stay (fn := Tryd.f4) ?_) | (first | (go_at_call 20; go_in)))
  try with_reducible refine Own.Stay.mk ?_
  have hO := HO.out
  clear HO c9_0_0 c9_0_1 c9_0_2 c9_0_3 c9_0_4 c9_0_5 c9_0_6 c9_0_7 lt9_0 y9_0 c9_1_0 c9_1_1 c9_1_2 c9_1_3 c9_1_4 lt9_1 y9_1 c9_2_0 c9_2_1 c9_2_2 c9_2_3 c9_2_4 c9_2_5 c9_2_6 c9_2_7 lt9_2 y9_2 c9_3_0 c9_3_1 c9_3_2 c9_3_3 c9_3_4 lt9_3 y9_3 c9_5_0 c9_5_1 lt9_5 y9_5 c9_6_0 c9_6_1 lt9_6 y9_6 c9_7_0 lt9_7 y9_7 c9_10_0 c9_10_1 c9_10_2 c9_10_3 c9_10_4 lt9_10 y9_10 c9_11_0 c9_11_1 c9_11_2 c9_11_3 c9_11_4 lt9_11 y9_11 c9_12_0 c9_12_1 lt9_12 y9_12 c9_14_0 c9_14_1 c9_14_2 c9_14_3 c9_14_4 lt9_14 y9_14 c9_15_0 c9_15_1 c9_15_2 c9_15_3 c9_15_4 lt9_15 y9_15 c9_16_0 c9_16_1 lt9_16 y9_16
  have hL := hO.apart
  have hX := hO.apartX
  have HL := Lib.hid hL
  have HX := Lib.hid hX
  clear hL hX
  have hP9 := hO.pick [4] (by decide)
  have T9 := symsO nd4 ((newSrstP r s nd3 nd5 nd6 nd7).setIfInBounds 106 (.slice (some ⟨nd18, 0, none⟩) 3 (3 + nd19))) nd18 3 (3 + nd19) _ _ _ hP9 (get_set (newSrst_106 r s (nd3) (nd5) (nd6) (nd7)) _)
  refine Calls.mono T9 ?_
  clear hP9 T9
  rintro e u38 ⟨rfl, hQ⟩
  have hN : Own w0 u38 [row (nd4) 193 ((newSrstP r s nd3 nd5 nd6 nd7).setIfInBounds 106 (.slice (some ⟨nd18, 0, none⟩) 3 (3 + nd19))), row (nd25) 71 #[.iface 209 (.pointer (some ⟨nd27, 0, none⟩)), .int .i32 loc, .slice (some ⟨nd28, 0, none⟩) 4 4, .int .i32 0, .int .u8 0, .int .u8 0, .bool false, .bool false], row (nd27) 211 #[.int .u32 0, .int .u32 2, .bool false, .bool false, .bool false], row (nd15) 71 #[.iface 209 (.pointer (some ⟨nd13, 0, none⟩)), .int .i32 loc, .slice (some ⟨nd17, 0, none⟩) 4 4, .int .i32 0, .int .u8 0, .int .u8 0, .bool false, .bool false], row (nd13) 211 #[.int .u32 0, .int .u32 2, .bool false, .bool false, .bool false], row (B33) 25 #[.int .u32 0, .int .u32 1], row (B30) 25 #[.int .u32 0, .int .u32 2], row (B8) 31 #[.int .i32 loc], row (nd18) 56 (full symZ (symL ([sy ⟨#[70, 111, 111]⟩ (uz r (uz r (uz r 0))), sy ⟨#[95, 95, 115, 117, 112, 101, 114, 71, 101, 116]⟩ 1, sy ⟨#[95, 95, 115, 117, 112, 101, 114, 83, 101, 116]⟩ 2])) nd19), row (nd22) 51 (units key), row (nd23) 208 #[.slice (some ⟨nd22, 0, none⟩) key.size key.size, .int .i32 0, .bool false, .bool false, .bool false], row (nd24) 211 #[.int .u32 3, .int .u32 vm, .bool false, .bool false, .bool false], row (nd26) 35 #[.iface 65 (.pointer (some ⟨nd25, 0, none⟩)), .int .i32 loc], row (nd10) 51 (units key), row (nd11) 208 #[.slice (some ⟨nd10, 0, none⟩) key.size key.size, .int .i32 0, .bool false, .bool false, .bool false], row (nd12) 211 #[.int .u32 3, .int .u32 vm, .bool false, .bool false, .bool false], row (nd14) 35 #[.iface 65 (.pointer (some ⟨nd15, 0, none⟩)), .int .i32 loc]] X := hQ.back HL.out HX.out [0, 1, 2, 3, 5, 6, 7, 8, 9, 10, 11, 12, 13, 14, 15, 16] (by decide) (by decide)
  clear hQ HL HX hO
  have hO := hN
  clear hN
  obtain ⟨c9_1_0, c9_1_1, c9_1_2, c9_1_3, c9_1_4, c9_1_5, c9_1_6, c9_1_7, lt9_1, y9_1, -⟩ := hO.k8 1 rfl
  obtain ⟨c9_2_0, c9_2_1, c9_2_2, c9_2_3, c9_2_4, lt9_2, y9_2, -⟩ := hO.k5 2 rfl
  obtain ⟨c9_3_0, c9_3_1, c9_3_2, c9_3_3, c9_3_4, c9_3_5, c9_3_6, c9_3_7, lt9_3, y9_3, -⟩ := hO.k8 3 rfl
  obtain ⟨c9_4_0, c9_4_1, c9_4_2, c9_4_3, c9_4_4, lt9_4, y9_4, -⟩ := hO.k5 4 rfl
  obtain ⟨c9_5_0, c9_5_1, lt9_5, y9_5, -⟩ := hO.k2 5 rfl
  obtain ⟨c9_6_0, c9_6_1, lt9_6, y9_6, -⟩ := hO.k2 6 rfl
  obtain ⟨c9_7_0, lt9_7, y9_7, -⟩ := hO.k1 7 rfl
  obtain ⟨c9_10_0, c9_10_1, c9_10_2, c9_10_3, c9_10_4, lt9_10, y9_10, -⟩ := hO.k5 10 rfl
  obtain ⟨c9_11_0, c9_11_1, c9_11_2, c9_11_3, c9_11_4, lt9_11, y9_11, -⟩ := hO.k5 11 rfl
  obtain ⟨c9_12_0, c9_12_1, lt9_12, y9_12, -⟩ := hO.k2 12 rfl
  obtain ⟨c9_14_0, c9_14_1, c9_14_2, c9_14_3, c9_14_4, lt9_14, y9_14, -⟩ := hO.k5 14 rfl
  obtain ⟨c9_15_0, c9_15_1, c9_15_2, c9_15_3, c9_15_4, lt9_15, y9_15, -⟩ := hO.k5 15 rfl
  obtain ⟨c9_16_0, c9_16_1, lt9_16, y9_16, -⟩ := hO.k2 16 rfl
  have HO := Lib.hid hO
  clear hO
  go_wp2_with (first | (with_reducible refine Own.stay (fn := Tryd.f4) ?_) | (first | (go_at_call 20; go_in)))
  try with_reducible refine Own.Stay.mk ?_
  have hO := HO.out
  clear HO c9_1_0 c9_1_1 c9_1_2 c9_1_3 c9_1_4 c9_1_5 c9_1_6 c9_1_7 lt9_1 y9_1 c9_2_0 c9_2_1 c9_2_2 c9_2_3 c9_2_4 lt9_2 y9_2 c9_3_0 c9_3_1 c9_3_2 c9_3_3 c9_3_4 c9_3_5 c9_3_6 c9_3_7 lt9_3 y9_3 c9_4_0 c9_4_1 c9_4_2 c9_4_3 c9_4_4 lt9_4 y9_4 c9_5_0 c9_5_1 lt9_5 y9_5 c9_6_0 c9_6_1 lt9_6 y9_6 c9_7_0 lt9_7 y9_7 c9_10_0 c9_10_1 c9_10_2 c9_10_3 c9_10_4 lt9_10 y9_10 c9_11_0 c9_11_1 c9_11_2 c9_11_3 c9_11_4 lt9_11 y9_11 c9_12_0 c9_12_1 lt9_12 y9_12 c9_14_0 c9_14_1 c9_14_2 c9_14_3 c9_14_4 lt9_14 y9_14 c9_15_0 c9_15_1 c9_15_2 c9_15_3 c9_15_4 lt9_15 y9_15 c9_16_0 c9_16_1 lt9_16 y9_16
  have hL := hO.apart
  have hX := hO.apartX
  have HL := Lib.hid hL
  have HX := Lib.hid hX
  clear hL hX
  have hP9 := hO.pick [5, 6, 8] (by decide)
  generalize hX9_39 : Own.Rest _ _ X = X9_39 at hP9
  replace hP9 : Own w0 u38 [row (B33) 25 #[.int .u32 0, .int .u32 1], row (B30) 25 #[.int .u32 0, .int .u32 2], row (nd18) 56 (full symZ (symL ([sy ⟨#[70, 111, 111]⟩ (uz r (uz r (uz r 0))), sy ⟨#[95, 95, 115, 117, 112, 101, 114, 71, 101, 116]⟩ 1, sy ⟨#[95, 95, 115, 117, 112, 101, 114, 83, 101, 116]⟩ 2])) nd19)] X9_39 := hP9
  clear hO
  have hO := hP9
  clear hP9
  have st9 := rlaw1410_st r nd18 nd19 B30 B33
  let R9 := rlaw1410R r nd18 nd19 B30 B33
  refine wp_region_own (e := rlaw1410E r nd18 nd19 B30 B33) (anc := rlaw1410Anc) (G := (fun L9 α u9 => OwnF w0 u9 (act rlaw1410Cnt 3 L9) (rlaw1410R r nd18 nd19 B30 B33 L9 α) X9_39)) (by kernel_rfl) (by kernel_rfl) (by kernel_rfl) (by kernel_rfl) (rlaw1410_he r nd18 nd19 B30 B33) ?_ (RunsAll.all ?_) ?_
  · have hp : ∀ i, act rlaw1410Cnt 3 (fun _ => false) i → i ∈ [999, 1999, 2999] := by
      intro i hi
      have h9 : i % 1000 = 999 := by
        by_cases h : i % 1000 = 999
        · exact h
        · exact absurd (act_lt hi h) (by simp)
      unfold act at hi
      rw [if_pos h9] at hi
      simp only [List.mem_cons, List.not_mem_nil, or_false]
      omega
    refine hO.drew.family (fun i hi => ?_) (fun i j hi hj hij => ?_)
    · have := hp i hi
      simp only [List.mem_cons, List.not_mem_nil, or_false] at this
      rcases this with rfl | rfl | rfl <;> rfl
    · have h1 := hp i hi
      have h2 := hp j hj
      simp only [List.mem_cons, List.not_mem_nil, or_false] at h1 h2
      omega
  · refine ⟨?_, ?_, ?_, ?_, ?_, ?_, ?_, ?_, ?_, ?_, ?_, ?_, ?_, ?_, ?_, ?_, ?_, ?_, ?_, ?_, ?_, ?_, ?_, ?_, ?_, ?_, trivial⟩
    · intro L9 α a9 u9 K9 hL hcl hA hG hS h0 hK
      replace hL : L9 0 = false := hL
      have q27 : a9.tmps[27]? = some (.slice (some ⟨nd18, 0, none⟩) 3 (3 + nd19)) := (h0 27 (by kernel_rfl)).trans rfl
      have s27 := Rega.eval_of q27
      go_simp
      exact hK _ α _ (fun _ _ => rfl) rfl (step_same (st9) hL hcl rfl rfl hG)
    · intro L9 α a9 u9 K9 hL hcl hA hG hS h0 hK
      replace hL : L9 1 = false := hL
      have q134 : a9.tmps[134]? = some (.slice (some ⟨nd18, 0, none⟩) 3 (3 + nd19)) := hS 0 134 (by decide) rfl (by show 134 < 159; decide)
      have s134 := Rega.eval_of q134
      go_simp
      exact hK _ α _ (fun _ _ => rfl) rfl (step_same (st9) hL hcl rfl rfl hG)
    · intro L9 α a9 u9 K9 hL hcl hA hG hS h0 hK
      replace hL : L9 2 = false := hL
      have q135 : a9.tmps[135]? = some (.pointer (some ⟨nd18, 0, none⟩)) := hS 1 135 (by decide) rfl (by show 135 < 159; decide)
      have s135 := Rega.eval_of q135
      go_simp
      exact hK _ α _ (fun _ _ => rfl) rfl (step_same (st9) hL hcl rfl rfl hG)
    · intro L9 α a9 u9 K9 hL hcl hA hG hS h0 hK
      replace hL : L9 3 = false := hL
      have q136 : a9.tmps[136]? = some (.pointer (some ⟨nd18, 4, none⟩)) := hS 2 136 (by decide) rfl (by show 136 < 159; decide)
      have s136 := Rega.eval_of q136
      have e0 : R9 L9 α 2999 = row (nd18) 56 (full symZ (symL ([sy ⟨#[70, 111, 111]⟩ (uz r (uz r (uz r 0))), sy ⟨#[95, 95, 115, 117, 112, 101, 114, 71, 101, 116]⟩ 1, sy ⟨#[95, 95, 115, 117, 112, 101, 114, 83, 101, 116]⟩ 2])) nd19) := rfl
      have hr := hG.rowAt 2999 (act_base 2999 rfl) e0
      have c0 : u9.cell? ⟨nd18, 4, none⟩ = some (.int .u32 (uz r (uz r (uz r 0)) : Int)) := hr.cell ((full_at rfl))
      clear hr e0
      go_simp
      exact hK _ α _ (fun _ _ => rfl) rfl (step_same (st9) hL hcl rfl rfl hG)
    · intro L9 α a9 u9 K9 hL hcl hA hG hS h0 hK
      replace hL : L9 4 = false := hL
      have q4 : a9.tmps[4]? = some (.bool r) := (h0 4 (by kernel_rfl)).trans rfl
      have s4 := Rega.eval_of q4
      go_simp
      exact hK _ α _ (fun _ _ => rfl) rfl (step_same (st9) hL hcl rfl rfl hG)
    · intro L9 α a9 u9 K9 hL hcl hA hG hS h0 hK
      replace hL : L9 5 = false := hL
      have q138 : a9.tmps[138]? = some (.bool r) := hS 4 138 (by decide) rfl (by show 138 < 159; decide)
      have s138 := Rega.eval_of q138
      go_simp
      have hM : ∀ i, i ∈ [] → act rlaw1410Cnt 3 L9 i := by intro i hi; simp at hi
      have hP : Own w0 u9 [] _ := hG.pick [] (by decide) (by simp)
      clear hM
      refine Calls.mono (wantUsesU3 r _ _ _ hP ) ?_
      rintro e9 u1 ⟨rfl, hQ⟩
      obtain ⟨α', hα'⟩ : ∃ α' : Rega.Atoms, α' = α := ⟨_, rfl⟩
      have hα : ∀ j, j % 1000 ≠ 5 → α' j = α j := fun j hj => by rw [hα']
      skip
      refine hK _ α' _ hα ?_ (step_call (st9) hL hcl hα [] [] (by decide) (by decide) (by decide) (M := _) ?_ hG hQ)
      · rfl
      · show [] = _
        rw []
    · intro L9 α a9 u9 K9 hL hcl hA hG hS h0 hK
      replace hL : L9 6 = false := hL
      have q137 : a9.tmps[137]? = some (.int .u32 (uz r (uz r (uz r 0)) : Int)) := hS 3 137 (by decide) rfl (by show 137 < 159; decide)
      have s137 := Rega.eval_of q137
      have q139 : a9.tmps[139]? = some (.int .u32 (uz r (uz r (uz r 0)) : Int)) := hS 5 139 (by decide) rfl (by show 139 < 159; decide)
      have s139 := Rega.eval_of q139
      go_simp
      exact hK _ α _ (fun _ _ => rfl) rfl (step_same (st9) hL hcl rfl rfl hG)
    · intro L9 α a9 u9 K9 hL hcl hA hG hS h0 hK
      replace hL : L9 7 = false := hL
      have q140 : a9.tmps[140]? = some (.bool true) := hS 6 140 (by decide) rfl (by show 140 < 159; decide)
      have s140 := Rega.eval_of q140
      go_simp
      exact hK _ α _ (fun _ _ => rfl) rfl (step_same (st9) hL hcl rfl rfl hG)
    · intro L9 α a9 u9 K9 hL hcl hA hG hS h0 hK
      replace hL : L9 8 = false := hL
      have q27 : a9.tmps[27]? = some (.slice (some ⟨nd18, 0, none⟩) 3 (3 + nd19)) := (h0 27 (by kernel_rfl)).trans rfl
      have s27 := Rega.eval_of q27
      have q141 : a9.tmps[141]? = some (.bool true) := hS 7 141 (by decide) rfl (by show 141 < 159; decide)
      have s141 := Rega.eval_of q141
      go_simp
      exact hK _ α _ (fun _ _ => rfl) rfl (step_same (st9) hL hcl rfl rfl hG)
    · intro L9 α a9 u9 K9 hL hcl hA hG hS h0 hK
      replace hL : L9 9 = false := hL
      have q19 : a9.tmps[19]? = some (.pointer (some ⟨B30, 0, none⟩)) := (h0 19 (by kernel_rfl)).trans rfl
      have s19 := Rega.eval_of q19
      have q141 : a9.tmps[141]? = some (.bool true) := hS 7 141 (by decide) rfl (by show 141 < 159; decide)
      have s141 := Rega.eval_of q141
      go_simp
      exact hK _ α _ (fun _ _ => rfl) rfl (step_same (st9) hL hcl rfl rfl hG)
    · intro L9 α a9 u9 K9 hL hcl hA hG hS h0 hK
      replace hL : L9 10 = false := hL
      have q143 : a9.tmps[143]? = some (.pointer (some ⟨B30, 1, none⟩)) := hS 9 143 (by decide) rfl (by show 143 < 159; decide)
      have s143 := Rega.eval_of q143
      have q141 : a9.tmps[141]? = some (.bool true) := hS 7 141 (by decide) rfl (by show 141 < 159; decide)
      have s141 := Rega.eval_of q141
      have e0 : R9 L9 α 1999 = row (B30) 25 #[.int .u32 0, .int .u32 2] := rfl
      have hr := hG.rowAt 1999 (act_base 1999 rfl) e0
      have c0 : u9.cell? ⟨B30, 1, none⟩ = some (.int .u32 2) := hr.cell rfl
      clear hr e0
      go_simp
      exact hK _ α _ (fun _ _ => rfl) rfl (step_same (st9) hL hcl rfl rfl hG)
    · intro L9 α a9 u9 K9 hL hcl hA hG hS h0 hK
      replace hL : L9 11 = false := hL
      have q142 : a9.tmps[142]? = some (.slice (some ⟨nd18, 0, none⟩) 3 (3 + nd19)) := hS 8 142 (by decide) rfl (by show 142 < 159; decide)
      have s142 := Rega.eval_of q142
      have q144 : a9.tmps[144]? = some (.int .u32 2) := hS 10 144 (by decide) rfl (by show 144 < 159; decide)
      have s144 := Rega.eval_of q144
      have q141 : a9.tmps[141]? = some (.bool true) := hS 7 141 (by decide) rfl (by show 141 < 159; decide)
      have s141 := Rega.eval_of q141
      go_simp
      exact hK _ α _ (fun _ _ => rfl) rfl (step_same (st9) hL hcl rfl rfl hG)
    · intro L9 α a9 u9 K9 hL hcl hA hG hS h0 hK
      replace hL : L9 12 = false := hL
      have q145 : a9.tmps[145]? = some (.pointer (some ⟨nd18, 20, none⟩)) := hS 11 145 (by decide) rfl (by show 145 < 159; decide)
      have s145 := Rega.eval_of q145
      have q141 : a9.tmps[141]? = some (.bool true) := hS 7 141 (by decide) rfl (by show 141 < 159; decide)
      have s141 := Rega.eval_of q141
      go_simp
      exact hK _ α _ (fun _ _ => rfl) rfl (step_same (st9) hL hcl rfl rfl hG)
    · intro L9 α a9 u9 K9 hL hcl hA hG hS h0 hK
      replace hL : L9 13 = false := hL
      have q146 : a9.tmps[146]? = some (.pointer (some ⟨nd18, 24, none⟩)) := hS 12 146 (by decide) rfl (by show 146 < 159; decide)
      have s146 := Rega.eval_of q146
      have q141 : a9.tmps[141]? = some (.bool true) := hS 7 141 (by decide) rfl (by show 141 < 159; decide)
      have s141 := Rega.eval_of q141
      have e0 : R9 L9 α 2999 = row (nd18) 56 (full symZ (symL ([sy ⟨#[70, 111, 111]⟩ (uz r (uz r (uz r 0))), sy ⟨#[95, 95, 115, 117, 112, 101, 114, 71, 101, 116]⟩ 1, sy ⟨#[95, 95, 115, 117, 112, 101, 114, 83, 101, 116]⟩ 2])) nd19) := rfl
      have hr := hG.rowAt 2999 (act_base 2999 rfl) e0
      have c0 : u9.cell? ⟨nd18, 24, none⟩ = some (.int .u32 2) := hr.cell ((full_at rfl))
      clear hr e0
      go_simp
      exact hK _ α _ (fun _ _ => rfl) rfl (step_same (st9) hL hcl rfl rfl hG)
    · intro L9 α a9 u9 K9 hL hcl hA hG hS h0 hK
      replace hL : L9 14 = false := hL
      have q147 : a9.tmps[147]? = some (.int .u32 2) := hS 13 147 (by decide) rfl (by show 147 < 159; decide)
      have s147 := Rega.eval_of q147
      have q141 : a9.tmps[141]? = some (.bool true) := hS 7 141 (by decide) rfl (by show 141 < 159; decide)
      have s141 := Rega.eval_of q141
      go_simp
      exact hK _ α _ (fun _ _ => rfl) rfl (step_same (st9) hL hcl rfl rfl hG)
    · intro L9 α a9 u9 K9 hL hcl hA hG hS h0 hK
      replace hL : L9 15 = false := hL
      have q141 : a9.tmps[141]? = some (.bool true) := hS 7 141 (by decide) rfl (by show 141 < 159; decide)
      have s141 := Rega.eval_of q141
      have q148 : a9.tmps[148]? = some (.bool true) := hS 14 148 (by decide) rfl (by show 148 < 159; decide)
      have s148 := Rega.eval_of q148
      go_simp
      exact hK _ α _ (fun _ _ => rfl) rfl (step_same (st9) hL hcl rfl rfl hG)
    · intro L9 α a9 u9 K9 hL hcl hA hG hS h0 hK
      replace hL : L9 16 = false := hL
      have q149 : a9.tmps[149]? = some (.bool true) := hS 15 149 (by decide) rfl (by show 149 < 159; decide)
      have s149 := Rega.eval_of q149
      go_simp
      exact hK _ α _ (fun _ _ => rfl) rfl (step_same (st9) hL hcl rfl rfl hG)
    · intro L9 α a9 u9 K9 hL hcl hA hG hS h0 hK
      replace hL : L9 17 = false := hL
      have q27 : a9.tmps[27]? = some (.slice (some ⟨nd18, 0, none⟩) 3 (3 + nd19)) := (h0 27 (by kernel_rfl)).trans rfl
      have s27 := Rega.eval_of q27
      have q150 : a9.tmps[150]? = some (.bool true) := hS 16 150 (by decide) rfl (by show 150 < 159; decide)
      have s150 := Rega.eval_of q150
      go_simp
      exact hK _ α _ (fun _ _ => rfl) rfl (step_same (st9) hL hcl rfl rfl hG)
    · intro L9 α a9 u9 K9 hL hcl hA hG hS h0 hK
      replace hL : L9 18 = false := hL
      have q21 : a9.tmps[21]? = some (.pointer (some ⟨B33, 0, none⟩)) := (h0 21 (by kernel_rfl)).trans rfl
      have s21 := Rega.eval_of q21
      have q150 : a9.tmps[150]? = some (.bool true) := hS 16 150 (by decide) rfl (by show 150 < 159; decide)
      have s150 := Rega.eval_of q150
      go_simp
      exact hK _ α _ (fun _ _ => rfl) rfl (step_same (st9) hL hcl rfl rfl hG)
    · intro L9 α a9 u9 K9 hL hcl hA hG hS h0 hK
      replace hL : L9 19 = false := hL
      have q152 : a9.tmps[152]? = some (.pointer (some ⟨B33, 1, none⟩)) := hS 18 152 (by decide) rfl (by show 152 < 159; decide)
      have s152 := Rega.eval_of q152
      have q150 : a9.tmps[150]? = some (.bool true) := hS 16 150 (by decide) rfl (by show 150 < 159; decide)
      have s150 := Rega.eval_of q150
      have e0 : R9 L9 α 999 = row (B33) 25 #[.int .u32 0, .int .u32 1] := rfl
      have hr := hG.rowAt 999 (act_base 999 rfl) e0
      have c0 : u9.cell? ⟨B33, 1, none⟩ = some (.int .u32 1) := hr.cell rfl
      clear hr e0
      go_simp
      exact hK _ α _ (fun _ _ => rfl) rfl (step_same (st9) hL hcl rfl rfl hG)
    · intro L9 α a9 u9 K9 hL hcl hA hG hS h0 hK
      replace hL : L9 20 = false := hL
      have q151 : a9.tmps[151]? = some (.slice (some ⟨nd18, 0, none⟩) 3 (3 + nd19)) := hS 17 151 (by decide) rfl (by show 151 < 159; decide)
      have s151 := Rega.eval_of q151
      have q153 : a9.tmps[153]? = some (.int .u32 1) := hS 19 153 (by decide) rfl (by show 153 < 159; decide)
      have s153 := Rega.eval_of q153
      have q150 : a9.tmps[150]? = some (.bool true) := hS 16 150 (by decide) rfl (by show 150 < 159; decide)
      have s150 := Rega.eval_of q150
      go_simp
      exact hK _ α _ (fun _ _ => rfl) rfl (step_same (st9) hL hcl rfl rfl hG)
    · intro L9 α a9 u9 K9 hL hcl hA hG hS h0 hK
      replace hL : L9 21 = false := hL
      have q154 : a9.tmps[154]? = some (.pointer (some ⟨nd18, 10, none⟩)) := hS 20 154 (by decide) rfl (by show 154 < 159; decide)
      have s154 := Rega.eval_of q154
      have q150 : a9.tmps[150]? = some (.bool true) := hS 16 150 (by decide) rfl (by show 150 < 159; decide)
      have s150 := Rega.eval_of q150
      go_simp
      exact hK _ α _ (fun _ _ => rfl) rfl (step_same (st9) hL hcl rfl rfl hG)
    · intro L9 α a9 u9 K9 hL hcl hA hG hS h0 hK
      replace hL : L9 22 = false := hL
      have q155 : a9.tmps[155]? = some (.pointer (some ⟨nd18, 14, none⟩)) := hS 21 155 (by decide) rfl (by show 155 < 159; decide)
      have s155 := Rega.eval_of q155
      have q150 : a9.tmps[150]? = some (.bool true) := hS 16 150 (by decide) rfl (by show 150 < 159; decide)
      have s150 := Rega.eval_of q150
      have e0 : R9 L9 α 2999 = row (nd18) 56 (full symZ (symL ([sy ⟨#[70, 111, 111]⟩ (uz r (uz r (uz r 0))), sy ⟨#[95, 95, 115, 117, 112, 101, 114, 71, 101, 116]⟩ 1, sy ⟨#[95, 95, 115, 117, 112, 101, 114, 83, 101, 116]⟩ 2])) nd19) := rfl
      have hr := hG.rowAt 2999 (act_base 2999 rfl) e0
      have c0 : u9.cell? ⟨nd18, 14, none⟩ = some (.int .u32 1) := hr.cell ((full_at rfl))
      clear hr e0
      go_simp
      exact hK _ α _ (fun _ _ => rfl) rfl (step_same (st9) hL hcl rfl rfl hG)
    · intro L9 α a9 u9 K9 hL hcl hA hG hS h0 hK
      replace hL : L9 23 = false := hL
      have q156 : a9.tmps[156]? = some (.int .u32 1) := hS 22 156 (by decide) rfl (by show 156 < 159; decide)
      have s156 := Rega.eval_of q156
      have q150 : a9.tmps[150]? = some (.bool true) := hS 16 150 (by decide) rfl (by show 150 < 159; decide)
      have s150 := Rega.eval_of q150
      go_simp
      exact hK _ α _ (fun _ _ => rfl) rfl (step_same (st9) hL hcl rfl rfl hG)
    · intro L9 α a9 u9 K9 hL hcl hA hG hS h0 hK
      replace hL : L9 24 = false := hL
      have q150 : a9.tmps[150]? = some (.bool true) := hS 16 150 (by decide) rfl (by show 150 < 159; decide)
      have s150 := Rega.eval_of q150
      have q157 : a9.tmps[157]? = some (.bool true) := hS 23 157 (by decide) rfl (by show 157 < 159; decide)
      have s157 := Rega.eval_of q157
      go_simp
      exact hK _ α _ (fun _ _ => rfl) rfl (step_same (st9) hL hcl rfl rfl hG)
    · intro L9 α a9 u9 K9 hL hcl hA hG hS h0 hK
      replace hL : L9 25 = false := hL
      have q158 : a9.tmps[158]? = some (.bool true) := hS 24 158 (by decide) rfl (by show 158 < 159; decide)
      have s158 := Rega.eval_of q158
      go_simp
      exact hK _ α _ (fun _ _ => rfl) rfl (step_same (st9) hL hcl rfl rfl hG)
  clear st9
  intro α u hG
  have e0 : R9 (fun k => decide (k < 26)) α 999 = row (B33) 25 #[.int .u32 0, .int .u32 1] := rfl
  have e1 : R9 (fun k => decide (k < 26)) α 1999 = row (B30) 25 #[.int .u32 0, .int .u32 2] := rfl
  have e2 : R9 (fun k => decide (k < 26)) α 2999 = row (nd18) 56 (full symZ (symL ([sy ⟨#[70, 111, 111]⟩ (uz r (uz r (uz r 0))), sy ⟨#[95, 95, 115, 117, 112, 101, 114, 71, 101, 116]⟩ 1, sy ⟨#[95, 95, 115, 117, 112, 101, 114, 83, 101, 116]⟩ 2])) nd19) := rfl
  have hO : Own w0 u [row (B33) 25 #[.int .u32 0, .int .u32 1], row (B30) 25 #[.int .u32 0, .int .u32 2], row (nd18) 56 (full symZ (symL ([sy ⟨#[70, 111, 111]⟩ (uz r (uz r (uz r 0))), sy ⟨#[95, 95, 115, 117, 112, 101, 114, 71, 101, 116]⟩ 1, sy ⟨#[95, 95, 115, 117, 112, 101, 114, 83, 101, 116]⟩ 2])) nd19)] X9_39 := (hG.list [999, 1999, 2999] (by decide) (act_all (by decide))).conv (by
    show [R9 (fun k => decide (k < 26)) α 999, R9 (fun k => decide (k < 26)) α 1999, R9 (fun k => decide (k < 26)) α 2999] = _
    rw [e0, e1, e2])
  clear hG e0 e1 e2 R9
  generalize hfr : Rega.frameAt _ _ _ _ _ = fr
  have hdf : fr = ⟨#[.int .i32 loc, .string key, .int .u8 op, .bool s, .bool r, .int .u32 vm, undef, undef, undef, undef, undef, undef, .bool true, .pointer (some ⟨B1, 0, none⟩), .pointer (some ⟨nd4, 0, none⟩), .pointer (some ⟨B8, 0, none⟩), .pointer (some ⟨B8_1, 0, none⟩), .pointer (some ⟨nd14, 0, none⟩), .pointer (some ⟨nd26, 0, none⟩), .pointer (some ⟨B30, 0, none⟩), .bool true, .pointer (some ⟨B33, 0, none⟩), .bool true, .slice (some ⟨nd17, 0, none⟩) 4 4, .bool true, .slice (some ⟨nd28, 0, none⟩) 4 4, .bool true, .slice (some ⟨nd18, 0, none⟩) 3 (3 + nd19), .int .i32 loc, .string key, .int .u8 op, .bool s, .bool r, .int .u32 vm, .bool true, .bool false, .string key, .int .i64 (key.size : Int), .bool (decide (65536 < (key.size : Int))), .agg #[.int .u32 0, .int .u32 0], .slice (some ⟨nd3, 0, none⟩) 1 1, .agg #[.int .u32 0, .int .u32 0], .bool s, .bool r, .pointer (some ⟨nd4, 0, none⟩), .int .i32 loc, .agg #[.int .i32 loc], .int .u32 vm, .agg #[.int .u32 3, .int .u32 vm], .pointer (some ⟨nd4, 0, none⟩), .agg #[.int .i32 loc], .int .i32 loc, .string key, .slice (some ⟨nd10, 0, none⟩) key.size key.size, .agg #[.iface 206 (.pointer (some ⟨nd11, 0, none⟩)), .int .i32 loc], .int .u8 op, .int .i32 loc, .agg #[.int .u32 3, .int .u32 vm], .agg #[.iface 209 (.pointer (some ⟨nd12, 0, none⟩)), .int .i32 loc], .agg #[.iface 65 (.pointer (some ⟨nd15, 0, none⟩)), .int .i32 loc], .pointer (some ⟨nd4, 0, none⟩), .agg #[.int .i32 loc], .int .i32 loc, .string key, .slice (some ⟨nd22, 0, none⟩) key.size key.size, .agg #[.iface 206 (.pointer (some ⟨nd23, 0, none⟩)), .int .i32 loc], .int .i32 loc, .agg #[.int .u32 3, .int .u32 vm], .agg #[.iface 209 (.pointer (some ⟨nd24, 0, none⟩)), .int .i32 loc], .agg #[.iface 65 (.pointer (some ⟨nd25, 0, none⟩)), .int .i32 loc], .tuple #[.agg #[.int .u32 0, .int .u32 2], .bool true], .pointer (some ⟨nd4, 0, none⟩), .tuple #[.agg #[.int .u32 0, .int .u32 2], .bool true], .agg #[.int .u32 0, .int .u32 2], .bool true, .tuple #[.agg #[.int .u32 0, .int .u32 1], .bool true], .pointer (some ⟨nd4, 0, none⟩), .tuple #[.agg #[.int .u32 0, .int .u32 1], .bool true], .agg #[.int .u32 0, .int .u32 1], .bool true, .bool true, .bool false, .bool false, .bool true, .bool false, .bool false, .bool false, .pointer (some ⟨nd4, 0, none⟩), .int .i64 2, .bool false, .bool false, .tuple #[.slice (some ⟨nd17, 0, none⟩) 4 4, .bool true], .agg #[.iface 65 (.pointer (some ⟨nd15, 0, none⟩)), .int .i32 loc], .agg #[.int .u32 0, .int .u32 2], .tuple #[.slice (some ⟨nd17, 0, none⟩) 4 4, .bool true], .slice (some ⟨nd17, 0, none⟩) 4 4, .bool true, .tuple #[.slice (some ⟨nd28, 0, none⟩) 4 4, .bool true], .agg #[.iface 65 (.pointer (some ⟨nd25, 0, none⟩)), .int .i32 loc], .agg #[.int .u32 0, .int .u32 2], .tuple #[.slice (some ⟨nd28, 0, none⟩) 4 4, .bool true], .slice (some ⟨nd28, 0, none⟩) 4 4, .bool true, .bool true, .bool false, .bool false, .bool true, .bool false, .bool false, .pointer (some ⟨nd4, 0, none⟩), .slice (some ⟨nd18, 0, none⟩) 3 (3 + nd19), .slice (some ⟨nd18, 0, none⟩) 3 (3 + nd19), .int .i64 3, .bool false, .bool false, .pointer (some ⟨B30, 1, none⟩), .int .u32 2, .bool false, .bool false, .bool false, .pointer (some ⟨B33, 1, none⟩), .int .u32 1, .bool false, .bool false, .bool false, .pointer (some ⟨B30, 1, none⟩), .int .u32 2, .bool false, .bool false, .bool false, .pointer (some ⟨B33, 1, none⟩), .int .u32 1, .bool false, .bool false, .slice (some ⟨nd18, 0, none⟩) 3 (3 + nd19), .pointer (some ⟨nd18, 0, none⟩), .pointer (some ⟨nd18, 4, none⟩), .int .u32 (uz r (uz r (uz r 0)) : Int), .bool r, .int .u32 (uz r (uz r (uz r 0)) : Int), .bool true, .bool true, .slice (some ⟨nd18, 0, none⟩) 3 (3 + nd19), .pointer (some ⟨B30, 1, none⟩), .int .u32 2, .pointer (some ⟨nd18, 20, none⟩), .pointer (some ⟨nd18, 24, none⟩), .int .u32 2, .bool true, .bool true, .bool true, .slice (some ⟨nd18, 0, none⟩) 3 (3 + nd19), .pointer (some ⟨B33, 1, none⟩), .int .u32 1, .pointer (some ⟨nd18, 10, none⟩), .pointer (some ⟨nd18, 14, none⟩), .int .u32 1, .bool true, .bool true], []⟩ := by rw [← hfr]; kernel_rfl
  clear hfr
  subst hdf
  clear α
  subst hX9_39
  have hN : Own w0 u [row (B33) 25 #[.int .u32 0, .int .u32 1], row (B30) 25 #[.int .u32 0, .int .u32 2], row (nd18) 56 (full symZ (symL ([sy ⟨#[70, 111, 111]⟩ (uz r (uz r (uz r 0))), sy ⟨#[95, 95, 115, 117, 112, 101, 114, 71, 101, 116]⟩ 1, sy ⟨#[95, 95, 115, 117, 112, 101, 114, 83, 101, 116]⟩ 2])) nd19), row (nd4) 193 ((newSrstP r s nd3 nd5 nd6 nd7).setIfInBounds 106 (.slice (some ⟨nd18, 0, none⟩) 3 (3 + nd19))), row (nd25) 71 #[.iface 209 (.pointer (some ⟨nd27, 0, none⟩)), .int .i32 loc, .slice (some ⟨nd28, 0, none⟩) 4 4, .int .i32 0, .int .u8 0, .int .u8 0, .bool false, .bool false], row (nd27) 211 #[.int .u32 0, .int .u32 2, .bool false, .bool false, .bool false], row (nd15) 71 #[.iface 209 (.pointer (some ⟨nd13, 0, none⟩)), .int .i32 loc, .slice (some ⟨nd17, 0, none⟩) 4 4, .int .i32 0, .int .u8 0, .int .u8 0, .bool false, .bool false], row (nd13) 211 #[.int .u32 0, .int .u32 2, .bool false, .bool false, .bool false], row (B8) 31 #[.int .i32 loc], row (nd22) 51 (units key), row (nd23) 208 #[.slice (some ⟨nd22, 0, none⟩) key.size key.size, .int .i32 0, .bool false, .bool false, .bool false], row (nd24) 211 #[.int .u32 3, .int .u32 vm, .bool false, .bool false, .bool false], row (nd26) 35 #[.iface 65 (.pointer (some ⟨nd25, 0, none⟩)), .int .i32 loc], row (nd10) 51 (units key), row (nd11) 208 #[.slice (some ⟨nd10, 0, none⟩) key.size key.size, .int .i32 0, .bool false, .bool false, .bool false], row (nd12) 211 #[.int .u32 3, .int .u32 vm, .bool false, .bool false, .bool false], row (nd14) 35 #[.iface 65 (.pointer (some ⟨nd15, 0, none⟩)), .int .i32 loc]] X := hO.back HL.out HX.out [0, 1, 2, 3, 4, 7, 9, 10, 11, 12, 13, 14, 15, 16] (by decide) (by decide)
  clear hO HL HX
  have hO := hN
  clear hN
  obtain ⟨c9_0_0, c9_0_1, lt9_0, y9_0, -⟩ := hO.k2 0 rfl
  obtain ⟨c9_1_0, c9_1_1, lt9_1, y9_1, -⟩ := hO.k2 1 rfl
  obtain ⟨c9_4_0, c9_4_1, c9_4_2, c9_4_3, c9_4_4, c9_4_5, c9_4_6, c9_4_7, lt9_4, y9_4, -⟩ := hO.k8 4 rfl
  obtain ⟨c9_5_0, c9_5_1, c9_5_2, c9_5_3, c9_5_4, lt9_5, y9_5, -⟩ := hO.k5 5 rfl
  obtain ⟨c9_6_0, c9_6_1, c9_6_2, c9_6_3, c9_6_4, c9_6_5, c9_6_6, c9_6_7, lt9_6, y9_6, -⟩ := hO.k8 6 rfl
  obtain ⟨c9_7_0, c9_7_1, c9_7_2, c9_7_3, c9_7_4, lt9_7, y9_7, -⟩ := hO.k5 7 rfl
  obtain ⟨c9_8_0, lt9_8, y9_8, -⟩ := hO.k1 8 rfl
  obtain ⟨c9_10_0, c9_10_1, c9_10_2, c9_10_3, c9_10_4, lt9_10, y9_10, -⟩ := hO.k5 10 rfl
  obtain ⟨c9_11_0, c9_11_1, c9_11_2, c9_11_3, c9_11_4, lt9_11, y9_11, -⟩ := hO.k5 11 rfl
  obtain ⟨c9_12_0, c9_12_1, lt9_12, y9_12, -⟩ := hO.k2 12 rfl
  obtain ⟨c9_14_0, c9_14_1, c9_14_2, c9_14_3, c9_14_4, lt9_14, y9_14, -⟩ := hO.k5 14 rfl
  obtain ⟨c9_15_0, c9_15_1, c9_15_2, c9_15_3, c9_15_4, lt9_15, y9_15, -⟩ := hO.k5 15 rfl
  obtain ⟨c9_16_0, c9_16_1, lt9_16, y9_16, -⟩ := hO.k2 16 rfl
  have HO := Lib.hid hO
  clear hO
  go_wp2_with (first | (with_reducible refine Own.stay (fn := Tryd.f4) ?_) | (first | (go_at_call 20; go_in)))
  try with_reducible refine Own.Stay.mk ?_
  have hO := HO.out
  clear HO c9_0_0 c9_0_1 lt9_0 y9_0 c9_1_0 c9_1_1 lt9_1 y9_1 c9_4_0 c9_4_1 c9_4_2 c9_4_3 c9_4_4 c9_4_5 c9_4_6 c9_4_7 lt9_4 y9_4 c9_5_0 c9_5_1 c9_5_2 c9_5_3 c9_5_4 lt9_5 y9_5 c9_6_0 c9_6_1 c9_6_2 c9_6_3 c9_6_4 c9_6_5 c9_6_6 c9_6_7 lt9_6 y9_6 c9_7_0 c9_7_1 c9_7_2 c9_7_3 c9_7_4 lt9_7 y9_7 c9_8_0 lt9_8 y9_8 c9_10_0 c9_10_1 c9_10_2 c9_10_3 c9_10_4 lt9_10 y9_10 c9_11_0 c9_11_1 c9_11_2 c9_11_3 c9_11_4 lt9_11 y9_11 c9_12_0 c9_12_1 lt9_12 y9_12 c9_14_0 c9_14_1 c9_14_2 c9_14_3 c9_14_4 lt9_14 y9_14 c9_15_0 c9_15_1 c9_15_2 c9_15_3 c9_15_4 lt9_15 y9_15 c9_16_0 c9_16_1 lt9_16 y9_16
  refine bodyPost_ret (v := .bool true) ?_ rfl ⟨rfl, hO.sub [] (by decide)⟩
  simp [results, Tryd.results4, go_sem]
end Go.Proofs.YtkhmjppfogppoaaDoor.Use
