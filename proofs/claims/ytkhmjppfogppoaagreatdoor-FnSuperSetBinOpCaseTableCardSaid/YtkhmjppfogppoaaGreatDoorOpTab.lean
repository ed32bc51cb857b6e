/- The law on a compound assignment, walked. No condition. -/
import Derived.Test.YtkhmjppfogppoaaGreatDoorKitU
import Derived.Test.YtkhmjppfogppoaaGreatDoorKit2
import Derived.Test.YtkhmjppfogppoaaGreatDoorKit
import Derived.Test.YtkhmjppfogppoaaGreatDoorNewU
import Derived.Test.YtkhmjppfogppoaaGreatDoorDoorB
import Derived.Test.YtkhmjppfogppoaaGreatDoorLoop
import Derived.Test.YtkhmjppfogppoaaGreatDoorLive
import Derived.Test.YtkhmjppfogppoaaGreatDoorApp
import Derived.Test.YtkhmjppfogppoaaGreatDoorOwnK
import Derived.Test.YtkhmjppfogppoaaGreatDoorOwn
import Derived.Test.YtkhmjppfogppoaaGreatDoorDeepCells
import Derived.Test.YtkhmjppfogppoaaGreatDoorRows
import Derived.Test.YtkhmjppfogppoaaGreatDoorUse
namespace Go.Proofs.YtkhmjppfogppoaaGreatDoor.Use
open Go.ChangeShapes Go.WideShapes Go.ChangeAt Go.RowKit Go.Sort Own
set_option linter.unusedVariables false
noncomputable def rlaw271E (s : Bool) (r : Bool) (B1 : Nat) : Nat → Rega.Atoms → Value
  | 0, α => .slice (some ⟨α 0, 0, none⟩) 1 1
  | 1, α => .agg #[.int .u32 0, .int .u32 0]
  | 2, α => .bool s
  | 3, α => .bool r
  | 4, α => .pointer (some ⟨α 4, 0, none⟩)
  | 5, α => .pointer (some ⟨α 4, 0, none⟩)
  | _, _ => undef
noncomputable def rlaw271Anc : Nat → List Nat
  | 4 => [0, 1, 2, 3]
  | 5 => [0, 1, 2, 3, 4]
  | _ => []
noncomputable def rlaw271Trn : Nat → List Nat
  | _ => []
noncomputable def rlaw271Cnt : List (Nat × Nat) := [(0, 1), (4, 4)]
noncomputable def rlaw271R (s : Bool) (r : Bool) (B1 : Nat) (L9 : Nat → Bool) (α : Rega.Atoms) (ix9 : Nat) : Rw := if ix9 = 999 then row (B1) 48 #[.int .u32 0, .int .u32 0] else if ix9 = 0 then row (α 0) 74 (full symZ (symL ([sy ⟨#[70, 111, 111]⟩ 0])) 0) else if ix9 = 4 then row (α 4) 188 (newSrstP r s (α 0) (α 1004) (α 2004) (α 3004)) else if ix9 = 1004 then ((α 1004, .map #[] 0) : Rw) else if ix9 = 2004 then row (α 2004) 223 #[.pointer none, .pointer none, .slice none 0 0, .map none, .slice none 0 0, .slice none 0 0, .int .i32 0, .int .i32 0, .int .u32 0, .int .u32 0, .bool false, .bool false, .bool false, .bool false, .int .u8 0, .int .u8 6] else if ix9 = 3004 then row (α 3004) 48 #[.int .u32 0, .int .u32 0] else (0, .map #[] 0)
theorem rlaw271_he (s : Bool) (r : Bool) (B1 : Nat) : ∀ kk α α', (∀ j, (j % 1000 = kk ∨ j % 1000 ∈ rlaw271Anc kk) → α j = α' j) → rlaw271E s r B1 kk α = rlaw271E s r B1 kk α' := by
  intro kk α α' h
  match kk with
  | 0 => simp only [rlaw271E, h 0 (Or.inl rfl)]
  | 1 => rfl
  | 2 => rfl
  | 3 => rfl
  | 4 => simp only [rlaw271E, h 4 (Or.inl rfl)]
  | 5 => simp only [rlaw271E, h 4 (Or.inr (by decide))]
  | n + 6 => rfl
theorem rlaw271_st (s : Bool) (r : Bool) (B1 : Nat) : Stable rlaw271Cnt 1 rlaw271Anc rlaw271Trn (rlaw271R s r B1) := by
  intro k9 L9 α α' ix9 hk hcl hα hact ht
  have hp := act_places hact
  replace hp : ix9 ∈ [999, 0, 4, 1004, 2004, 3004] := hp
  simp only [List.mem_cons, List.not_mem_nil, or_false] at hp
  rcases hp with rfl | rfl | rfl | rfl | rfl | rfl
  · rfl
  · have e0 : L9 0 = true := act_lt hact (by decide)
    show row (α' 0) 74 (full symZ (symL ([sy ⟨#[70, 111, 111]⟩ 0])) 0) = row (α 0) 74 (full symZ (symL ([sy ⟨#[70, 111, 111]⟩ 0])) 0)
    simp only [hα 0 (ne_ran hk e0)]
  · have e0 : L9 4 = true := act_lt hact (by decide)
    show row (α' 4) 188 (newSrstP r s (α' 0) (α' 1004) (α' 2004) (α' 3004)) = row (α 4) 188 (newSrstP r s (α 0) (α 1004) (α 2004) (α 3004))
    simp only [hα 0 (ne_ran hk (hcl 4 e0 0 (by decide))), hα 4 (ne_ran hk e0), hα 1004 (ne_ran hk e0), hα 2004 (ne_ran hk e0), hα 3004 (ne_ran hk e0)]
  · have e0 : L9 4 = true := act_lt hact (by decide)
    show ((α' 1004, .map #[] 0) : Rw) = ((α 1004, .map #[] 0) : Rw)
    simp only [hα 1004 (ne_ran hk e0)]
  · have e0 : L9 4 = true := act_lt hact (by decide)
    show row (α' 2004) 223 #[.pointer none, .pointer none, .slice none 0 0, .map none, .slice none 0 0, .slice none 0 0, .int .i32 0, .int .i32 0, .int .u32 0, .int .u32 0, .bool false, .bool false, .bool false, .bool false, .int .u8 0, .int .u8 6] = row (α 2004) 223 #[.pointer none, .pointer none, .slice none 0 0, .map none, .slice none 0 0, .slice none 0 0, .int .i32 0, .int .i32 0, .int .u32 0, .int .u32 0, .bool false, .bool false, .bool false, .bool false, .int .u8 0, .int .u8 6]
    simp only [hα 2004 (ne_ran hk e0)]
  · have e0 : L9 4 = true := act_lt hact (by decide)
    show row (α' 3004) 48 #[.int .u32 0, .int .u32 0] = row (α 3004) 48 #[.int .u32 0, .int .u32 0]
    simp only [hα 3004 (ne_ran hk e0)]
noncomputable def rlaw273E (loc : Int) (key : ByteArray) (op : Int) (s : Bool) (r : Bool) (vm : Int) (nd3 : Nat) (nd4 : Nat) (nd5 : Nat) (nd6 : Nat) (nd7 : Nat) (B8 : Nat) (B12 : Nat) : Nat → Rega.Atoms → Value
  | 0, α => .pointer (some ⟨nd4, 0, none⟩)
  | 1, α => .agg #[.int .i32 loc]
  | 2, α => .int .i32 loc
  | 3, α => .string key
  | 4, α => .slice (some ⟨α 4, 0, none⟩) key.size key.size
  | 5, α => .agg #[.iface 195 (.pointer (some ⟨α 5, 0, none⟩)), .int .i32 loc]
  | 6, α => .int .u8 op
  | 7, α => .int .i32 loc
  | 8, α => .agg #[.int .u32 3, .int .u32 vm]
  | 9, α => .agg #[.iface 189 (.pointer (some ⟨α 9, 0, none⟩)), .int .i32 loc]
  | 10, α => .agg #[.iface 251 (.pointer (some ⟨α 8010, 0, none⟩)), .int .i32 loc]
  | 11, α => .pointer (some ⟨α 11, 0, none⟩)
  | 12, α => undef
  | _, _ => undef
noncomputable def rlaw273Anc : Nat → List Nat
  | 4 => [3]
  | 5 => [2, 3, 4]
  | 9 => [2, 3, 4, 5, 7, 8]
  | 10 => [0, 1, 2, 3, 4, 5, 6, 7, 8, 9]
  | 12 => [0, 1, 2, 3, 4, 5, 6, 7, 8, 9, 10, 11]
  | _ => []
noncomputable def rlaw273Trn : Nat → List Nat
  | 10 => [3999, 2999, 4999, 5999]
  | 12 => [11]
  | _ => []
noncomputable def rlaw273Cnt : List (Nat × Nat) := [(4, 1), (5, 1), (9, 1), (10, 16), (11, 1)]
noncomputable def rlaw273T2999 (loc : Int) (key : ByteArray) (op : Int) (s : Bool) (r : Bool) (vm : Int) (nd3 : Nat) (nd4 : Nat) (nd5 : Nat) (nd6 : Nat) (nd7 : Nat) (B8 : Nat) (B12 : Nat) (L9 : Nat → Bool) (α : Rega.Atoms) : Rw := if L9 10 = true then row (α 16010) 74 (full symZ (symL ([sy ⟨#[70, 111, 111]⟩ (uz r (uz r 0)), sy ⟨#[95, 95, 115, 117, 112, 101, 114, 71, 101, 116]⟩ 1, sy ⟨#[95, 95, 115, 117, 112, 101, 114, 83, 101, 116]⟩ 1])) (α 17010)) else row (nd3) 74 (full symZ (symL ([sy ⟨#[70, 111, 111]⟩ 0])) 0)
noncomputable def rlaw273T3999 (loc : Int) (key : ByteArray) (op : Int) (s : Bool) (r : Bool) (vm : Int) (nd3 : Nat) (nd4 : Nat) (nd5 : Nat) (nd6 : Nat) (nd7 : Nat) (B8 : Nat) (B12 : Nat) (L9 : Nat → Bool) (α : Rega.Atoms) : Rw := if L9 10 = true then row (nd4) 188 ((newSrstP r s nd3 nd5 nd6 nd7).setIfInBounds 106 (.slice (some ⟨α 16010, 0, none⟩) 3 (3 + (α 17010)))) else row (nd4) 188 (newSrstP r s (nd3) (nd5) (nd6) (nd7))
noncomputable def rlaw273T4999 (loc : Int) (key : ByteArray) (op : Int) (s : Bool) (r : Bool) (vm : Int) (nd3 : Nat) (nd4 : Nat) (nd5 : Nat) (nd6 : Nat) (nd7 : Nat) (B8 : Nat) (B12 : Nat) (L9 : Nat → Bool) (α : Rega.Atoms) : Rw := if L9 10 = true then ((nd5, .map #[⟨.string ⟨#[95, 95, 115, 117, 112, 101, 114, 71, 101, 116]⟩, .agg #[.int .i32 loc, .int .u32 0, .int .u32 1], 0⟩, ⟨.string ⟨#[95, 95, 115, 117, 112, 101, 114, 83, 101, 116]⟩, .agg #[.int .i32 loc, .int .u32 0, .int .u32 2], 1⟩] 2) : Rw) else ((nd5, .map #[] 0) : Rw)
noncomputable def rlaw273T5999 (loc : Int) (key : ByteArray) (op : Int) (s : Bool) (r : Bool) (vm : Int) (nd3 : Nat) (nd4 : Nat) (nd5 : Nat) (nd6 : Nat) (nd7 : Nat) (B8 : Nat) (B12 : Nat) (L9 : Nat → Bool) (α : Rega.Atoms) : Rw := if L9 10 = true then row (nd6) 223 (#[.pointer none, .pointer none, .slice none 0 0, .map none, .slice none 0 0, .slice none 0 0, .int .i32 0, .int .i32 0, .int .u32 0, .int .u32 0, .bool false, .bool false, .bool false, .bool false, .int .u8 0, .int .u8 6].setIfInBounds 5 (.slice (some ⟨α 15010, 0, none⟩) 2 (2 + (α 18010)))) else row (nd6) 223 #[.pointer none, .pointer none, .slice none 0 0, .map none, .slice none 0 0, .slice none 0 0, .int .i32 0, .int .i32 0, .int .u32 0, .int .u32 0, .bool false, .bool false, .bool false, .bool false, .int .u8 0, .int .u8 6]
noncomputable def rlaw273T11 (loc : Int) (key : ByteArray) (op : Int) (s : Bool) (r : Bool) (vm : Int) (nd3 : Nat) (nd4 : Nat) (nd5 : Nat) (nd6 : Nat) (nd7 : Nat) (B8 : Nat) (B12 : Nat) (L9 : Nat → Bool) (α : Rega.Atoms) : Rw := if L9 12 = true then row (α 11) 32 #[.iface 251 (.pointer (some ⟨α 8010, 0, none⟩)), .int .i32 loc] else row (α 11) 32 #[.nilIface, .int .i32 0]
noncomputable def rlaw273R (loc : Int) (key : ByteArray) (op : Int) (s : Bool) (r : Bool) (vm : Int) (nd3 : Nat) (nd4 : Nat) (nd5 : Nat) (nd6 : Nat) (nd7 : Nat) (B8 : Nat) (B12 : Nat) (L9 : Nat → Bool) (α : Rega.Atoms) (ix9 : Nat) : Rw := if ix9 = 999 then row (B12) 48 #[.int .u32 3, .int .u32 vm] else if ix9 = 1999 then row (B8) 30 #[.int .i32 loc] else if ix9 = 2999 then rlaw273T2999 loc key op s r vm nd3 nd4 nd5 nd6 nd7 B8 B12 L9 α else if ix9 = 3999 then rlaw273T3999 loc key op s r vm nd3 nd4 nd5 nd6 nd7 B8 B12 L9 α else if ix9 = 4999 then rlaw273T4999 loc key op s r vm nd3 nd4 nd5 nd6 nd7 B8 B12 L9 α else if ix9 = 5999 then rlaw273T5999 loc key op s r vm nd3 nd4 nd5 nd6 nd7 B8 B12 L9 α else if ix9 = 6999 then row (nd7) 48 #[.int .u32 0, .int .u32 0] else if ix9 = 4 then row (α 4) 69 (units key) else if ix9 = 5 then row (α 5) 197 #[.slice (some ⟨α 4, 0, none⟩) key.size key.size, .int .i32 0, .bool false, .bool false, .bool false] else if ix9 = 9 then row (α 9) 191 #[.int .u32 3, .int .u32 vm, .bool false, .bool false, .bool false] else if ix9 = 10 then row (α 10) 191 #[.int .u32 0, .int .u32 1, .bool false, .bool false, .bool false] else if ix9 = 1010 then row (α 1010) 255 #[.iface 189 (.pointer (some ⟨α 10, 0, none⟩)), .int .i32 loc, .slice (some ⟨α 2010, 0, none⟩) 3 3, .int .i32 0, .int .u8 0, .int .u8 0, .bool false, .bool false] else if ix9 = 2010 then row (α 2010) 32 #[.iface (clsTy s) (.pointer (some ⟨α 4010, 0, none⟩)), .int .i32 loc, .iface (thsTy r) (.pointer (some ⟨α 6010, 0, none⟩)), .int .i32 loc, .iface 195 (.pointer (some ⟨α 3010, 0, none⟩)), .int .i32 loc] else if ix9 = 3010 then row (α 3010) 197 #[.slice (some ⟨α 4, 0, none⟩) key.size key.size, .int .i32 0, .bool false, .bool false, .bool false] else if ix9 = 4010 then row (α 4010) (clsT s) (clsC s loc (α 5010)) else if ix9 = 5010 then row (α 5010) (xtrT s) (xtrC s loc (α 4010)) else if ix9 = 6010 then row (α 6010) (thsT r) (thsC r) else if ix9 = 7010 then row (α 7010) 191 #[.int .u32 0, .int .u32 2, .bool false, .bool false, .bool false] else if ix9 = 8010 then row (α 8010) 255 #[.iface 189 (.pointer (some ⟨α 7010, 0, none⟩)), .int .i32 loc, .slice (some ⟨α 9010, 0, none⟩) 4 4, .int .i32 0, .int .u8 0, .int .u8 0, .bool false, .bool false] else if ix9 = 9010 then row (α 9010) 32 #[.iface (clsTy s) (.pointer (some ⟨α 11010, 0, none⟩)), .int .i32 loc, .iface (thsTy r) (.pointer (some ⟨α 13010, 0, none⟩)), .int .i32 loc, .iface 195 (.pointer (some ⟨α 10010, 0, none⟩)), .int .i32 loc, .iface 235 (.pointer (some ⟨α 14010, 0, none⟩)), .int .i32 loc] else if ix9 = 10010 then row (α 10010) 197 #[.slice (some ⟨α 4, 0, none⟩) key.size key.size, .int .i32 0, .bool false, .bool false, .bool false] else if ix9 = 11010 then row (α 11010) (clsT s) (clsC s loc (α 12010)) else if ix9 = 12010 then row (α 12010) (xtrT s) (xtrC s loc (α 11010)) else if ix9 = 13010 then row (α 13010) (thsT r) (thsC r) else if ix9 = 14010 then row (α 14010) 238 #[.iface 251 (.pointer (some ⟨α 1010, 0, none⟩)), .int .i32 loc, .iface 189 (.pointer (some ⟨α 9, 0, none⟩)), .int .i32 loc, .int .u8 op, .bool false] else if ix9 = 15010 then row (α 15010) 48 (full refZ ([.int .u32 0, .int .u32 1, .int .u32 0, .int .u32 2]) (α 18010)) else if ix9 = 11 then rlaw273T11 loc key op s r vm nd3 nd4 nd5 nd6 nd7 B8 B12 L9 α else (0, .map #[] 0)
theorem rlaw273_he (loc : Int) (key : ByteArray) (op : Int) (s : Bool) (r : Bool) (vm : Int) (nd3 : Nat) (nd4 : Nat) (nd5 : Nat) (nd6 : Nat) (nd7 : Nat) (B8 : Nat) (B12 : Nat) : ∀ kk α α', (∀ j, (j % 1000 = kk ∨ j % 1000 ∈ rlaw273Anc kk) → α j = α' j) → rlaw273E loc key op s r vm nd3 nd4 nd5 nd6 nd7 B8 B12 kk α = rlaw273E loc key op s r vm nd3 nd4 nd5 nd6 nd7 B8 B12 kk α' := by
  intro kk α α' h
  match kk with
  | 0 => rfl
  | 1 => rfl
  | 2 => rfl
  | 3 => rfl
  | 4 => simp only [rlaw273E, h 4 (Or.inl rfl)]
  | 5 => simp only [rlaw273E, h 5 (Or.inl rfl)]
  | 6 => rfl
  | 7 => rfl
  | 8 => rfl
  | 9 => simp only [rlaw273E, h 9 (Or.inl rfl)]
  | 10 => simp only [rlaw273E, h 8010 (Or.inl rfl)]
  | 11 => simp only [rlaw273E, h 11 (Or.inl rfl)]
  | 12 => rfl
  | n + 13 => rfl
theorem rlaw273_st (loc : Int) (key : ByteArray) (op : Int) (s : Bool) (r : Bool) (vm : Int) (nd3 : Nat) (nd4 : Nat) (nd5 : Nat) (nd6 : Nat) (nd7 : Nat) (B8 : Nat) (B12 : Nat) : Stable rlaw273Cnt 7 rlaw273Anc rlaw273Trn (rlaw273R loc key op s r vm nd3 nd4 nd5 nd6 nd7 B8 B12) := by
  intro k9 L9 α α' ix9 hk hcl hα hact ht
  have hp := act_places hact
  replace hp : ix9 ∈ [999, 1999, 2999, 3999, 4999, 5999, 6999, 4, 5, 9, 10, 1010, 2010, 3010, 4010, 5010, 6010, 7010, 8010, 9010, 10010, 11010, 12010, 13010, 14010, 15010, 11] := hp
  simp only [List.mem_cons, List.not_mem_nil, or_false] at hp
  rcases hp with rfl | rfl | rfl | rfl | rfl | rfl | rfl | rfl | rfl | rfl | rfl | rfl | rfl | rfl | rfl | rfl | rfl | rfl | rfl | rfl | rfl | rfl | rfl | rfl | rfl | rfl | rfl
  · rfl
  · rfl
  · show rlaw273T2999 loc key op s r vm nd3 nd4 nd5 nd6 nd7 B8 B12 (Rega.ran L9 k9) α' = rlaw273T2999 loc key op s r vm nd3 nd4 nd5 nd6 nd7 B8 B12 L9 α
    unfold rlaw273T2999
    have n10 : 10 ≠ k9 := fun e => ht (by rw [← e]; decide)
    rw [ran_ne n10]
    by_cases e10 : L9 10 = true
    · first | rw [if_pos e10, if_pos e10] | rw [if_pos e10]
      try simp only [hα 16010 (ne_ran hk e10), hα 17010 (ne_ran hk e10)]
    first | rw [if_neg e10, if_neg e10] | rw [if_neg e10]
  · show rlaw273T3999 loc key op s r vm nd3 nd4 nd5 nd6 nd7 B8 B12 (Rega.ran L9 k9) α' = rlaw273T3999 loc key op s r vm nd3 nd4 nd5 nd6 nd7 B8 B12 L9 α
    unfold rlaw273T3999
    have n10 : 10 ≠ k9 := fun e => ht (by rw [← e]; decide)
    rw [ran_ne n10]
    by_cases e10 : L9 10 = true
    · first | rw [if_pos e10, if_pos e10] | rw [if_pos e10]
      try simp only [hα 16010 (ne_ran hk e10), hα 17010 (ne_ran hk e10)]
    first | rw [if_neg e10, if_neg e10] | rw [if_neg e10]
  · show rlaw273T4999 loc key op s r vm nd3 nd4 nd5 nd6 nd7 B8 B12 (Rega.ran L9 k9) α' = rlaw273T4999 loc key op s r vm nd3 nd4 nd5 nd6 nd7 B8 B12 L9 α
    unfold rlaw273T4999
    have n10 : 10 ≠ k9 := fun e => ht (by rw [← e]; decide)
    rw [ran_ne n10]
  · show rlaw273T5999 loc key op s r vm nd3 nd4 nd5 nd6 nd7 B8 B12 (Rega.ran L9 k9) α' = rlaw273T5999 loc key op s r vm nd3 nd4 nd5 nd6 nd7 B8 B12 L9 α
    unfold rlaw273T5999
    have n10 : 10 ≠ k9 := fun e => ht (by rw [← e]; decide)
    rw [ran_ne n10]
    by_cases e10 : L9 10 = true
    · first | rw [if_pos e10, if_pos e10] | rw [if_pos e10]
      try simp only [hα 15010 (ne_ran hk e10), hα 18010 (ne_ran hk e10)]
    first | rw [if_neg e10, if_neg e10] | rw [if_neg e10]
  · rfl
  · have e0 : L9 4 = true := act_lt hact (by decide)
    show row (α' 4) 69 (units key) = row (α 4) 69 (units key)
    simp only [hα 4 (ne_ran hk e0)]
  · have e0 : L9 5 = true := act_lt hact (by decide)
    show row (α' 5) 197 #[.slice (some ⟨α' 4, 0, none⟩) key.size key.size, .int .i32 0, .bool false, .bool false, .bool false] = row (α 5) 197 #[.slice (some ⟨α 4, 0, none⟩) key.size key.size, .int .i32 0, .bool false, .bool false, .bool false]
    simp only [hα 4 (ne_ran hk (hcl 5 e0 4 (by decide))), hα 5 (ne_ran hk e0)]
  · have e0 : L9 9 = true := act_lt hact (by decide)
    show row (α' 9) 191 #[.int .u32 3, .int .u32 vm, .bool false, .bool false, .bool false] = row (α 9) 191 #[.int .u32 3, .int .u32 vm, .bool false, .bool false, .bool false]
    simp only [hα 9 (ne_ran hk e0)]
  · have e0 : L9 10 = true := act_lt hact (by decide)
    show row (α' 10) 191 #[.int .u32 0, .int .u32 1, .bool false, .bool false, .bool false] = row (α 10) 191 #[.int .u32 0, .int .u32 1, .bool false, .bool false, .bool false]
    simp only [hα 10 (ne_ran hk e0)]
  · have e0 : L9 10 = true := act_lt hact (by decide)
    show row (α' 1010) 255 #[.iface 189 (.pointer (some ⟨α' 10, 0, none⟩)), .int .i32 loc, .slice (some ⟨α' 2010, 0, none⟩) 3 3, .int .i32 0, .int .u8 0, .int .u8 0, .bool false, .bool false] = row (α 1010) 255 #[.iface 189 (.pointer (some ⟨α 10, 0, none⟩)), .int .i32 loc, .slice (some ⟨α 2010, 0, none⟩) 3 3, .int .i32 0, .int .u8 0, .int .u8 0, .bool false, .bool false]
    simp only [hα 10 (ne_ran hk e0), hα 1010 (ne_ran hk e0), hα 2010 (ne_ran hk e0)]
  · have e0 : L9 10 = true := act_lt hact (by decide)
    show row (α' 2010) 32 #[.iface (clsTy s) (.pointer (some ⟨α' 4010, 0, none⟩)), .int .i32 loc, .iface (thsTy r) (.pointer (some ⟨α' 6010, 0, none⟩)), .int .i32 loc, .iface 195 (.pointer (some ⟨α' 3010, 0, none⟩)), .int .i32 loc] = row (α 2010) 32 #[.iface (clsTy s) (.pointer (some ⟨α 4010, 0, none⟩)), .int .i32 loc, .iface (thsTy r) (.pointer (some ⟨α 6010, 0, none⟩)), .int .i32 loc, .iface 195 (.pointer (some ⟨α 3010, 0, none⟩)), .int .i32 loc]
    simp only [hα 2010 (ne_ran hk e0), hα 3010 (ne_ran hk e0), hα 4010 (ne_ran hk e0), hα 6010 (ne_ran hk e0)]
  · have e0 : L9 10 = true := act_lt hact (by decide)
    show row (α' 3010) 197 #[.slice (some ⟨α' 4, 0, none⟩) key.size key.size, .int .i32 0, .bool false, .bool false, .bool false] = row (α 3010) 197 #[.slice (some ⟨α 4, 0, none⟩) key.size key.size, .int .i32 0, .bool false, .bool false, .bool false]
    simp only [hα 4 (ne_ran hk (hcl 10 e0 4 (by decide))), hα 3010 (ne_ran hk e0)]
  · have e0 : L9 10 = true := act_lt hact (by decide)
    show row (α' 4010) (clsT s) (clsC s loc (α' 5010)) = row (α 4010) (clsT s) (clsC s loc (α 5010))
    simp only [hα 4010 (ne_ran hk e0), hα 5010 (ne_ran hk e0)]
  · have e0 : L9 10 = true := act_lt hact (by decide)
    show row (α' 5010) (xtrT s) (xtrC s loc (α' 4010)) = row (α 5010) (xtrT s) (xtrC s loc (α 4010))
    simp only [hα 4010 (ne_ran hk e0), hα 5010 (ne_ran hk e0)]
  · have e0 : L9 10 = true := act_lt hact (by decide)
    show row (α' 6010) (thsT r) (thsC r) = row (α 6010) (thsT r) (thsC r)
    simp only [hα 6010 (ne_ran hk e0)]
  · have e0 : L9 10 = true := act_lt hact (by decide)
    show row (α' 7010) 191 #[.int .u32 0, .int .u32 2, .bool false, .bool false, .bool false] = row (α 7010) 191 #[.int .u32 0, .int .u32 2, .bool false, .bool false, .bool false]
    simp only [hα 7010 (ne_ran hk e0)]
  · have e0 : L9 10 = true := act_lt hact (by decide)
    show row (α' 8010) 255 #[.iface 189 (.pointer (some ⟨α' 7010, 0, none⟩)), .int .i32 loc, .slice (some ⟨α' 9010, 0, none⟩) 4 4, .int .i32 0, .int .u8 0, .int .u8 0, .bool false, .bool false] = row (α 8010) 255 #[.iface 189 (.pointer (some ⟨α 7010, 0, none⟩)), .int .i32 loc, .slice (some ⟨α 9010, 0, none⟩) 4 4, .int .i32 0, .int .u8 0, .int .u8 0, .bool false, .bool false]
    simp only [hα 7010 (ne_ran hk e0), hα 8010 (ne_ran hk e0), hα 9010 (ne_ran hk e0)]
  · have e0 : L9 10 = true := act_lt hact (by decide)
    show row (α' 9010) 32 #[.iface (clsTy s) (.pointer (some ⟨α' 11010, 0, none⟩)), .int .i32 loc, .iface (thsTy r) (.pointer (some ⟨α' 13010, 0, none⟩)), .int .i32 loc, .iface 195 (.pointer (some ⟨α' 10010, 0, none⟩)), .int .i32 loc, .iface 235 (.pointer (some ⟨α' 14010, 0, none⟩)), .int .i32 loc] = row (α 9010) 32 #[.iface (clsTy s) (.pointer (some ⟨α 11010, 0, none⟩)), .int .i32 loc, .iface (thsTy r) (.pointer (some ⟨α 13010, 0, none⟩)), .int .i32 loc, .iface 195 (.pointer (some ⟨α 10010, 0, none⟩)), .int .i32 loc, .iface 235 (.pointer (some ⟨α 14010, 0, none⟩)), .int .i32 loc]
    simp only [hα 9010 (ne_ran hk e0), hα 10010 (ne_ran hk e0), hα 11010 (ne_ran hk e0), hα 13010 (ne_ran hk e0), hα 14010 (ne_ran hk e0)]
  · have e0 : L9 10 = true := act_lt hact (by decide)
    show row (α' 10010) 197 #[.slice (some ⟨α' 4, 0, none⟩) key.size key.size, .int .i32 0, .bool false, .bool false, .bool false] = row (α 10010) 197 #[.slice (some ⟨α 4, 0, none⟩) key.size key.size, .int .i32 0, .bool false, .bool false, .bool false]
    simp only [hα 4 (ne_ran hk (hcl 10 e0 4 (by decide))), hα 10010 (ne_ran hk e0)]
  · have e0 : L9 10 = true := act_lt hact (by decide)
    show row (α' 11010) (clsT s) (clsC s loc (α' 12010)) = row (α 11010) (clsT s) (clsC s loc (α 12010))
    simp only [hα 11010 (ne_ran hk e0), hα 12010 (ne_ran hk e0)]
  · have e0 : L9 10 = true := act_lt hact (by decide)
    show row (α' 12010) (xtrT s) (xtrC s loc (α' 11010)) = row (α 12010) (xtrT s) (xtrC s loc (α 11010))
    simp only [hα 11010 (ne_ran hk e0), hα 12010 (ne_ran hk e0)]
  · have e0 : L9 10 = true := act_lt hact (by decide)
    show row (α' 13010) (thsT r) (thsC r) = row (α 13010) (thsT r) (thsC r)
    simp only [hα 13010 (ne_ran hk e0)]
  · have e0 : L9 10 = true := act_lt hact (by decide)
    show row (α' 14010) 238 #[.iface 251 (.pointer (some ⟨α' 1010, 0, none⟩)), .int .i32 loc, .iface 189 (.pointer (some ⟨α' 9, 0, none⟩)), .int .i32 loc, .int .u8 op, .bool false] = row (α 14010) 238 #[.iface 251 (.pointer (some ⟨α 1010, 0, none⟩)), .int .i32 loc, .iface 189 (.pointer (some ⟨α 9, 0, none⟩)), .int .i32 loc, .int .u8 op, .bool false]
    simp only [hα 9 (ne_ran hk (hcl 10 e0 9 (by decide))), hα 1010 (ne_ran hk e0), hα 14010 (ne_ran hk e0)]
  · have e0 : L9 10 = true := act_lt hact (by decide)
    show row (α' 15010) 48 (full refZ ([.int .u32 0, .int .u32 1, .int .u32 0, .int .u32 2]) (α' 18010)) = row (α 15010) 48 (full refZ ([.int .u32 0, .int .u32 1, .int .u32 0, .int .u32 2]) (α 18010))
    simp only [hα 15010 (ne_ran hk e0), hα 18010 (ne_ran hk e0)]
  · have e0 : L9 11 = true := act_lt hact (by decide)
    show rlaw273T11 loc key op s r vm nd3 nd4 nd5 nd6 nd7 B8 B12 (Rega.ran L9 k9) α' = rlaw273T11 loc key op s r vm nd3 nd4 nd5 nd6 nd7 B8 B12 L9 α
    unfold rlaw273T11
    have n12 : 12 ≠ k9 := fun e => ht (by rw [← e]; decide)
    rw [ran_ne n12]
    by_cases e12 : L9 12 = true
    · first | rw [if_pos e12, if_pos e12] | rw [if_pos e12]
      try simp only [hα 11 (ne_ran hk (hcl 12 e12 11 (by decide))), hα 8010 (ne_ran hk (hcl 12 e12 10 (by decide)))]
    first | rw [if_neg e12, if_neg e12] | rw [if_neg e12]
    try simp only [hα 11 (ne_ran hk e0)]
noncomputable def rlaw278E (loc : Int) (key : ByteArray) (s : Bool) (r : Bool) (B1 : Nat) (nd11 : Nat) (nd15 : Nat) (nd28 : Nat) (nd29 : Nat) (nd30 : Nat) (nd31 : Nat) (nd32 : Nat) (nd33 : Nat) : Nat → Rega.Atoms → Value
  | 0, α => .bool true
  | 1, α => .bool false
  | 2, α => .bool false
  | 3, α => .slice (some ⟨nd28, 0, none⟩) 4 4
  | 4, α => .pointer (some ⟨nd28, 0, none⟩)
  | 5, α => .agg #[.iface (clsTy s) (.pointer (some ⟨nd30, 0, none⟩)), .int .i32 loc]
  | 6, α => .agg #[.int .u32 0, .int .u32 0]
  | 7, α => .bool s
  | 8, α => .bool true
  | 9, α => .bool false
  | 10, α => .bool false
  | 11, α => .bool false
  | 12, α => .slice (some ⟨nd28, 0, none⟩) 4 4
  | 13, α => .pointer (some ⟨nd28, 2, none⟩)
  | 14, α => .agg #[.iface (thsTy r) (.pointer (some ⟨nd32, 0, none⟩)), .int .i32 loc]
  | 15, α => .agg #[.int .u32 0, .int .u32 0]
  | 16, α => .bool r
  | 17, α => .bool true
  | 18, α => .bool false
  | 19, α => .bool false
  | 20, α => .bool false
  | 21, α => .slice (some ⟨nd28, 0, none⟩) 4 4
  | 22, α => .pointer (some ⟨nd28, 4, none⟩)
  | 23, α => .agg #[.iface 195 (.pointer (some ⟨nd29, 0, none⟩)), .int .i32 loc]
  | 24, α => .slice (some ⟨nd11, 0, none⟩) key.size key.size
  | 25, α => .bool true
  | 26, α => .bool false
  | 27, α => .bool false
  | _, _ => undef
noncomputable def rlaw278Anc : Nat → List Nat
  | 1 => [0]
  | 2 => [0, 1]
  | 3 => [0, 1, 2]
  | 4 => [0, 1, 2, 3]
  | 5 => [0, 1, 2, 3, 4]
  | 6 => [0, 1, 2]
  | 7 => [0, 1, 2]
  | 8 => [0, 1, 2, 3, 4, 5, 6, 7]
  | 9 => [0, 1, 2, 3, 4, 5, 6, 7, 8]
  | 10 => [0, 1, 2, 3, 4, 5, 6, 7, 8, 9]
  | 11 => [0, 1, 2, 3, 4, 5, 6, 7, 8, 9, 10]
  | 12 => [0, 1, 2, 3, 4, 5, 6, 7, 8, 9, 10, 11]
  | 13 => [0, 1, 2, 3, 4, 5, 6, 7, 8, 9, 10, 11, 12]
  | 14 => [0, 1, 2, 3, 4, 5, 6, 7, 8, 9, 10, 11, 12, 13]
  | 15 => [0, 1, 2, 3, 4, 5, 6, 7, 8, 9, 10, 11]
  | 16 => [0, 1, 2, 3, 4, 5, 6, 7, 8, 9, 10, 11]
  | 17 => [0, 1, 2, 3, 4, 5, 6, 7, 8, 9, 10, 11, 12, 13, 14, 15, 16]
  | 18 => [0, 1, 2, 3, 4, 5, 6, 7, 8, 9, 10, 11, 12, 13, 14, 15, 16, 17]
  | 19 => [0, 1, 2, 3, 4, 5, 6, 7, 8, 9, 10, 11, 12, 13, 14, 15, 16, 17, 18]
  | 20 => [0, 1, 2, 3, 4, 5, 6, 7, 8, 9, 10, 11, 12, 13, 14, 15, 16, 17, 18, 19]
  | 21 => [0, 1, 2, 3, 4, 5, 6, 7, 8, 9, 10, 11, 12, 13, 14, 15, 16, 17, 18, 19, 20]
  | 22 => [0, 1, 2, 3, 4, 5, 6, 7, 8, 9, 10, 11, 12, 13, 14, 15, 16, 17, 18, 19, 20, 21]
  | 23 => [0, 1, 2, 3, 4, 5, 6, 7, 8, 9, 10, 11, 12, 13, 14, 15, 16, 17, 18, 19, 20, 21, 22]
  | 24 => [0, 1, 2, 3, 4, 5, 6, 7, 8, 9, 10, 11, 12, 13, 14, 15, 16, 17, 18, 19, 20]
  | 25 => [0, 1, 2, 3, 4, 5, 6, 7, 8, 9, 10, 11, 12, 13, 14, 15, 16, 17, 18, 19, 20, 21, 22, 23, 24]
  | 26 => [0, 1, 2, 3, 4, 5, 6, 7, 8, 9, 10, 11, 12, 13, 14, 15, 16, 17, 18, 19, 20, 21, 22, 23, 24, 25]
  | 27 => [0, 1, 2, 3, 4, 5, 6, 7, 8, 9, 10, 11, 12, 13, 14, 15, 16, 17, 18, 19, 20, 21, 22, 23, 24, 25, 26]
  | _ => []
noncomputable def rlaw278Trn : Nat → List Nat
  | _ => []
noncomputable def rlaw278Cnt : List (Nat × Nat) := []
noncomputable def rlaw278R (loc : Int) (key : ByteArray) (s : Bool) (r : Bool) (B1 : Nat) (nd11 : Nat) (nd15 : Nat) (nd28 : Nat) (nd29 : Nat) (nd30 : Nat) (nd31 : Nat) (nd32 : Nat) (nd33 : Nat) (L9 : Nat → Bool) (α : Rega.Atoms) (ix9 : Nat) : Rw := if ix9 = 999 then row (nd15) 69 (units key) else if ix9 = 1999 then row (nd28) 32 #[.iface (clsTy s) (.pointer (some ⟨nd30, 0, none⟩)), .int .i32 loc, .iface (thsTy r) (.pointer (some ⟨nd32, 0, none⟩)), .int .i32 loc, .iface 195 (.pointer (some ⟨nd29, 0, none⟩)), .int .i32 loc, .iface 235 (.pointer (some ⟨nd33, 0, none⟩)), .int .i32 loc] else if ix9 = 2999 then row (nd29) 197 #[.slice (some ⟨nd15, 0, none⟩) key.size key.size, .int .i32 0, .bool false, .bool false, .bool false] else if ix9 = 3999 then row (nd30) (clsT s) (clsC s loc (nd31)) else if ix9 = 4999 then row (nd31) (xtrT s) (xtrC s loc (nd30)) else if ix9 = 5999 then row (nd32) (thsT r) (thsC r) else if ix9 = 6999 then row (nd11) 69 (units key) else if ix9 = 7999 then row (B1) 48 #[.int .u32 0, .int .u32 0] else (0, .map #[] 0)
theorem rlaw278_he (loc : Int) (key : ByteArray) (s : Bool) (r : Bool) (B1 : Nat) (nd11 : Nat) (nd15 : Nat) (nd28 : Nat) (nd29 : Nat) (nd30 : Nat) (nd31 : Nat) (nd32 : Nat) (nd33 : Nat) : ∀ kk α α', (∀ j, (j % 1000 = kk ∨ j % 1000 ∈ rlaw278Anc kk) → α j = α' j) → rlaw278E loc key s r B1 nd11 nd15 nd28 nd29 nd30 nd31 nd32 nd33 kk α = rlaw278E loc key s r B1 nd11 nd15 nd28 nd29 nd30 nd31 nd32 nd33 kk α' := by
  intro kk α α' h
  match kk with
  | 0 => rfl
  | 1 => rfl
  | 2 => rfl
  | 3 => rfl
  | 4 => rfl
  | 5 => rfl
  | 6 => rfl
  | 7 => rfl
  | 8 => rfl
  | 9 => rfl
  | 10 => rfl
  | 11 => rfl
  | 12 => rfl
  | 13 => rfl
  | 14 => rfl
  | 15 => rfl
  | 16 => rfl
  | 17 => rfl
  | 18 => rfl
  | 19 => rfl
  | 20 => rfl
  | 21 => rfl
  | 22 => rfl
  | 23 => rfl
  | 24 => rfl
  | 25 => rfl
  | 26 => rfl
  | 27 => rfl
  | n + 28 => rfl
theorem rlaw278_st (loc : Int) (key : ByteArray) (s : Bool) (r : Bool) (B1 : Nat) (nd11 : Nat) (nd15 : Nat) (nd28 : Nat) (nd29 : Nat) (nd30 : Nat) (nd31 : Nat) (nd32 : Nat) (nd33 : Nat) : Stable rlaw278Cnt 8 rlaw278Anc rlaw278Trn (rlaw278R loc key s r B1 nd11 nd15 nd28 nd29 nd30 nd31 nd32 nd33) := by
  intro k9 L9 α α' ix9 hk hcl hα hact ht
  have hp := act_places hact
  replace hp : ix9 ∈ [999, 1999, 2999, 3999, 4999, 5999, 6999, 7999] := hp
  simp only [List.mem_cons, List.not_mem_nil, or_false] at hp
  rcases hp with rfl | rfl | rfl | rfl | rfl | rfl | rfl | rfl
  · rfl
  · rfl
  · rfl
  · rfl
  · rfl
  · rfl
  · rfl
  · rfl
noncomputable def rlaw2712E (loc : Int) (key : ByteArray) (s : Bool) (r : Bool) (B1 : Nat) (nd11 : Nat) (nd15 : Nat) (nd21 : Nat) (nd22 : Nat) (nd23 : Nat) (nd24 : Nat) (nd25 : Nat) : Nat → Rega.Atoms → Value
  | 0, α => .bool true
  | 1, α => .bool false
  | 2, α => .bool false
  | 3, α => .slice (some ⟨nd21, 0, none⟩) 3 3
  | 4, α => .pointer (some ⟨nd21, 0, none⟩)
  | 5, α => .agg #[.iface (clsTy s) (.pointer (some ⟨nd23, 0, none⟩)), .int .i32 loc]
  | 6, α => .agg #[.int .u32 0, .int .u32 0]
  | 7, α => .bool s
  | 8, α => .bool true
  | 9, α => .bool false
  | 10, α => .bool false
  | 11, α => .bool false
  | 12, α => .slice (some ⟨nd21, 0, none⟩) 3 3
  | 13, α => .pointer (some ⟨nd21, 2, none⟩)
  | 14, α => .agg #[.iface (thsTy r) (.pointer (some ⟨nd25, 0, none⟩)), .int .i32 loc]
  | 15, α => .agg #[.int .u32 0, .int .u32 0]
  | 16, α => .bool r
  | 17, α => .bool true
  | 18, α => .bool false
  | 19, α => .bool false
  | 20, α => .bool false
  | 21, α => .slice (some ⟨nd21, 0, none⟩) 3 3
  | 22, α => .pointer (some ⟨nd21, 4, none⟩)
  | 23, α => .agg #[.iface 195 (.pointer (some ⟨nd22, 0, none⟩)), .int .i32 loc]
  | 24, α => .slice (some ⟨nd11, 0, none⟩) key.size key.size
  | 25, α => .bool true
  | 26, α => .bool false
  | 27, α => .bool false
  | _, _ => undef
noncomputable def rlaw2712Anc : Nat → List Nat
  | 1 => [0]
  | 2 => [0, 1]
  | 3 => [0, 1, 2]
  | 4 => [0, 1, 2, 3]
  | 5 => [0, 1, 2, 3, 4]
  | 6 => [0, 1, 2]
  | 7 => [0, 1, 2]
  | 8 => [0, 1, 2, 3, 4, 5, 6, 7]
  | 9 => [0, 1, 2, 3, 4, 5, 6, 7, 8]
  | 10 => [0, 1, 2, 3, 4, 5, 6, 7, 8, 9]
  | 11 => [0, 1, 2, 3, 4, 5, 6, 7, 8, 9, 10]
  | 12 => [0, 1, 2, 3, 4, 5, 6, 7, 8, 9, 10, 11]
  | 13 => [0, 1, 2, 3, 4, 5, 6, 7, 8, 9, 10, 11, 12]
  | 14 => [0, 1, 2, 3, 4, 5, 6, 7, 8, 9, 10, 11, 12, 13]
  | 15 => [0, 1, 2, 3, 4, 5, 6, 7, 8, 9, 10, 11]
  | 16 => [0, 1, 2, 3, 4, 5, 6, 7, 8, 9, 10, 11]
  | 17 => [0, 1, 2, 3, 4, 5, 6, 7, 8, 9, 10, 11, 12, 13, 14, 15, 16]
  | 18 => [0, 1, 2, 3, 4, 5, 6, 7, 8, 9, 10, 11, 12, 13, 14, 15, 16, 17]
  | 19 => [0, 1, 2, 3, 4, 5, 6, 7, 8, 9, 10, 11, 12, 13, 14, 15, 16, 17, 18]
  | 20 => [0, 1, 2, 3, 4, 5, 6, 7, 8, 9, 10, 11, 12, 13, 14, 15, 16, 17, 18, 19]
  | 21 => [0, 1, 2, 3, 4, 5, 6, 7, 8, 9, 10, 11, 12, 13, 14, 15, 16, 17, 18, 19, 20]
  | 22 => [0, 1, 2, 3, 4, 5, 6, 7, 8, 9, 10, 11, 12, 13, 14, 15, 16, 17, 18, 19, 20, 21]
  | 23 => [0, 1, 2, 3, 4, 5, 6, 7, 8, 9, 10, 11, 12, 13, 14, 15, 16, 17, 18, 19, 20, 21, 22]
  | 24 => [0, 1, 2, 3, 4, 5, 6, 7, 8, 9, 10, 11, 12, 13, 14, 15, 16, 17, 18, 19, 20]
  | 25 => [0, 1, 2, 3, 4, 5, 6, 7, 8, 9, 10, 11, 12, 13, 14, 15, 16, 17, 18, 19, 20, 21, 22, 23, 24]
  | 26 => [0, 1, 2, 3, 4, 5, 6, 7, 8, 9, 10, 11, 12, 13, 14, 15, 16, 17, 18, 19, 20, 21, 22, 23, 24, 25]
  | 27 => [0, 1, 2, 3, 4, 5, 6, 7, 8, 9, 10, 11, 12, 13, 14, 15, 16, 17, 18, 19, 20, 21, 22, 23, 24, 25, 26]
  | _ => []
noncomputable def rlaw2712Trn : Nat → List Nat
  | _ => []
noncomputable def rlaw2712Cnt : List (Nat × Nat) := []
noncomputable def rlaw2712R (loc : Int) (key : ByteArray) (s : Bool) (r : Bool) (B1 : Nat) (nd11 : Nat) (nd15 : Nat) (nd21 : Nat) (nd22 : Nat) (nd23 : Nat) (nd24 : Nat) (nd25 : Nat) (L9 : Nat → Bool) (α : Rega.Atoms) (ix9 : Nat) : Rw := if ix9 = 999 then row (nd15) 69 (units key) else if ix9 = 1999 then row (nd11) 69 (units key) else if ix9 = 2999 then row (B1) 48 #[.int .u32 0, .int .u32 0] else if ix9 = 3999 then row (nd21) 32 #[.iface (clsTy s) (.pointer (some ⟨nd23, 0, none⟩)), .int .i32 loc, .iface (thsTy r) (.pointer (some ⟨nd25, 0, none⟩)), .int .i32 loc, .iface 195 (.pointer (some ⟨nd22, 0, none⟩)), .int .i32 loc] else if ix9 = 4999 then row (nd22) 197 #[.slice (some ⟨nd15, 0, none⟩) key.size key.size, .int .i32 0, .bool false, .bool false, .bool false] else if ix9 = 5999 then row (nd23) (clsT s) (clsC s loc (nd24)) else if ix9 = 6999 then row (nd24) (xtrT s) (xtrC s loc (nd23)) else if ix9 = 7999 then row (nd25) (thsT r) (thsC r) else (0, .map #[] 0)
theorem rlaw2712_he (loc : Int) (key : ByteArray) (s : Bool) (r : Bool) (B1 : Nat) (nd11 : Nat) (nd15 : Nat) (nd21 : Nat) (nd22 : Nat) (nd23 : Nat) (nd24 : Nat) (nd25 : Nat) : ∀ kk α α', (∀ j, (j % 1000 = kk ∨ j % 1000 ∈ rlaw2712Anc kk) → α j = α' j) → rlaw2712E loc key s r B1 nd11 nd15 nd21 nd22 nd23 nd24 nd25 kk α = rlaw2712E loc key s r B1 nd11 nd15 nd21 nd22 nd23 nd24 nd25 kk α' := by
  intro kk α α' h
  match kk with
  | 0 => rfl
  | 1 => rfl
  | 2 => rfl
  | 3 => rfl
  | 4 => rfl
  | 5 => rfl
  | 6 => rfl
  | 7 => rfl
  | 8 => rfl
  | 9 => rfl
  | 10 => rfl
  | 11 => rfl
  | 12 => rfl
  | 13 => rfl
  | 14 => rfl
  | 15 => rfl
  | 16 => rfl
  | 17 => rfl
  | 18 => rfl
  | 19 => rfl
  | 20 => rfl
  | 21 => rfl
  | 22 => rfl
  | 23 => rfl
  | 24 => rfl
  | 25 => rfl
  | 26 => rfl
  | 27 => rfl
  | n + 28 => rfl
theorem rlaw2712_st (loc : Int) (key : ByteArray) (s : Bool) (r : Bool) (B1 : Nat) (nd11 : Nat) (nd15 : Nat) (nd21 : Nat) (nd22 : Nat) (nd23 : Nat) (nd24 : Nat) (nd25 : Nat) : Stable rlaw2712Cnt 8 rlaw2712Anc rlaw2712Trn (rlaw2712R loc key s r B1 nd11 nd15 nd21 nd22 nd23 nd24 nd25) := by
  intro k9 L9 α α' ix9 hk hcl hα hact ht
  have hp := act_places hact
  replace hp : ix9 ∈ [999, 1999, 2999, 3999, 4999, 5999, 6999, 7999] := hp
  simp only [List.mem_cons, List.not_mem_nil, or_false] at hp
  rcases hp with rfl | rfl | rfl | rfl | rfl | rfl | rfl | rfl
  · rfl
  · rfl
  · rfl
  · rfl
  · rfl
  · rfl
  · rfl
  · rfl
noncomputable def rlaw2714E (r : Bool) (nd35 : Nat) (nd36 : Nat) (B39 : Nat) (B42 : Nat) : Nat → Rega.Atoms → Value
  | 0, α => .slice (some ⟨nd35, 0, none⟩) 3 (3 + nd36)
  | 1, α => .pointer (some ⟨nd35, 0, none⟩)
  | 2, α => .pointer (some ⟨nd35, 4, none⟩)
  | 3, α => .int .u32 (uz r (uz r 0) : Int)
  | 4, α => .bool r
  | 5, α => .int .u32 (uz r (uz r 0) : Int)
  | 6, α => .bool true
  | 7, α => .bool true
  | 8, α => .slice (some ⟨nd35, 0, none⟩) 3 (3 + nd36)
  | 9, α => .pointer (some ⟨B39, 1, none⟩)
  | 10, α => .int .u32 2
  | 11, α => .pointer (some ⟨nd35, 20, none⟩)
  | 12, α => .pointer (some ⟨nd35, 24, none⟩)
  | 13, α => .int .u32 1
  | 14, α => .bool true
  | 15, α => .bool true
  | 16, α => .bool true
  | 17, α => .slice (some ⟨nd35, 0, none⟩) 3 (3 + nd36)
  | 18, α => .pointer (some ⟨B42, 1, none⟩)
  | 19, α => .int .u32 1
  | 20, α => .pointer (some ⟨nd35, 10, none⟩)
  | 21, α => .pointer (some ⟨nd35, 14, none⟩)
  | 22, α => .int .u32 1
  | 23, α => .bool true
  | 24, α => .bool true
  | 25, α => .bool true
  | _, _ => undef
noncomputable def rlaw2714Anc : Nat → List Nat
  | 1 => [0]
  | 2 => [0, 1]
  | 3 => [0, 1, 2]
  | 5 => [4]
  | 6 => [0, 1, 2, 3, 4, 5]
  | 7 => [0, 1, 2, 3, 4, 5, 6]
  | 8 => [0, 1, 2, 3, 4, 5, 6, 7]
  | 9 => [0, 1, 2, 3, 4, 5, 6, 7]
  | 10 => [0, 1, 2, 3, 4, 5, 6, 7, 9]
  | 11 => [0, 1, 2, 3, 4, 5, 6, 7, 8, 9, 10]
  | 12 => [0, 1, 2, 3, 4, 5, 6, 7, 8, 9, 10, 11]
  | 13 => [0, 1, 2, 3, 4, 5, 6, 7, 8, 9, 10, 11, 12]
  | 14 => [0, 1, 2, 3, 4, 5, 6, 7, 8, 9, 10, 11, 12, 13]
  | 15 => [0, 1, 2, 3, 4, 5, 6, 7, 8, 9, 10, 11, 12, 13, 14]
  | 16 => [0, 1, 2, 3, 4, 5, 6, 7, 8, 9, 10, 11, 12, 13, 14, 15]
  | 17 => [0, 1, 2, 3, 4, 5, 6, 7, 8, 9, 10, 11, 12, 13, 14, 15, 16]
  | 18 => [0, 1, 2, 3, 4, 5, 6, 7, 8, 9, 10, 11, 12, 13, 14, 15, 16]
  | 19 => [0, 1, 2, 3, 4, 5, 6, 7, 8, 9, 10, 11, 12, 13, 14, 15, 16, 18]
  | 20 => [0, 1, 2, 3, 4, 5, 6, 7, 8, 9, 10, 11, 12, 13, 14, 15, 16, 17, 18, 19]
  | 21 => [0, 1, 2, 3, 4, 5, 6, 7, 8, 9, 10, 11, 12, 13, 14, 15, 16, 17, 18, 19, 20]
  | 22 => [0, 1, 2, 3, 4, 5, 6, 7, 8, 9, 10, 11, 12, 13, 14, 15, 16, 17, 18, 19, 20, 21]
  | 23 => [0, 1, 2, 3, 4, 5, 6, 7, 8, 9, 10, 11, 12, 13, 14, 15, 16, 17, 18, 19, 20, 21, 22]
  | 24 => [0, 1, 2, 3, 4, 5, 6, 7, 8, 9, 10, 11, 12, 13, 14, 15, 16, 17, 18, 19, 20, 21, 22, 23]
  | 25 => [0, 1, 2, 3, 4, 5, 6, 7, 8, 9, 10, 11, 12, 13, 14, 15, 16, 17, 18, 19, 20, 21, 22, 23, 24]
  | _ => []
noncomputable def rlaw2714Trn : Nat → List Nat
  | _ => []
noncomputable def rlaw2714Cnt : List (Nat × Nat) := []
noncomputable def rlaw2714R (r : Bool) (nd35 : Nat) (nd36 : Nat) (B39 : Nat) (B42 : Nat) (L9 : Nat → Bool) (α : Rega.Atoms) (ix9 : Nat) : Rw := if ix9 = 999 then row (B42) 48 #[.int .u32 0, .int .u32 1] else if ix9 = 1999 then row (B39) 48 #[.int .u32 0, .int .u32 2] else if ix9 = 2999 then row (nd35) 74 (full symZ (symL ([sy ⟨#[70, 111, 111]⟩ (uz r (uz r 0)), sy ⟨#[95, 95, 115, 117, 112, 101, 114, 71, 101, 116]⟩ 1, sy ⟨#[95, 95, 115, 117, 112, 101, 114, 83, 101, 116]⟩ 1])) (nd36)) else (0, .map #[] 0)
theorem rlaw2714_he (r : Bool) (nd35 : Nat) (nd36 : Nat) (B39 : Nat) (B42 : Nat) : ∀ kk α α', (∀ j, (j % 1000 = kk ∨ j % 1000 ∈ rlaw2714Anc kk) → α j = α' j) → rlaw2714E r nd35 nd36 B39 B42 kk α = rlaw2714E r nd35 nd36 B39 B42 kk α' := by
  intro kk α α' h
  match kk with
  | 0 => rfl
  | 1 => rfl
  | 2 => rfl
  | 3 => rfl
  | 4 => rfl
  | 5 => rfl
  | 6 => rfl
  | 7 => rfl
  | 8 => rfl
  | 9 => rfl
  | 10 => rfl
  | 11 => rfl
  | 12 => rfl
  | 13 => rfl
  | 14 => rfl
  | 15 => rfl
  | 16 => rfl
  | 17 => rfl
  | 18 => rfl
  | 19 => rfl
  | 20 => rfl
  | 21 => rfl
  | 22 => rfl
  | 23 => rfl
  | 24 => rfl
  | 25 => rfl
  | n + 26 => rfl
theorem rlaw2714_st (r : Bool) (nd35 : Nat) (nd36 : Nat) (B39 : Nat) (B42 : Nat) : Stable rlaw2714Cnt 3 rlaw2714Anc rlaw2714Trn (rlaw2714R r nd35 nd36 B39 B42) := by
  intro k9 L9 α α' ix9 hk hcl hα hact ht
  have hp := act_places hact
  replace hp : ix9 ∈ [999, 1999, 2999] := hp
  simp only [List.mem_cons, List.not_mem_nil, or_false] at hp
  rcases hp with rfl | rfl | rfl
  · rfl
  · rfl
  · rfl
def law27Post (loc : Int) (key : ByteArray) (op : Int) (s r : Bool) (vm : Int) (w0 : World) (X : Nat → Obj → Prop) (e : Ending) (w' : World) : Prop :=
  e = .returned (.bool true) ∧ Own w0 w' [] X
set_option maxRecDepth 100000 in
set_option maxHeartbeats 1000000 in
theorem law27 (loc : Int) (key : ByteArray) (op : Int) (s r : Bool) (vm : Int) (w0 w : World) (X : Nat → Obj → Prop) (hO : Own w0 w [] X) (hlen : key.size ≤ 65536) (hop : IntKind.u8.wrap op = op) (hg0 : w0.cell? ⟨0, 0, none⟩ = some (.int .u32 4294967295)) (hg1 : w0.cell? ⟨0, 1, none⟩ = some (.int .u32 4294967295)) :
    Calls Tryz.prog 5 #[.int .i32 loc, .string key, .int .u8 op, .bool s, .bool r, .int .u32 vm] w (law27Post loc key op s r vm w0 X) := by
  go_enter Tryz.func5, Tryz.ntmps5
  have hl9 : (key.size : Int) ≤ 65536 := by omega
  go_wp2_with (first | (with_reducible refine Own.stay (fn := Tryz.f5) ?_) | (first | (go_at_call 18; go_in)))
  try with_reducible refine Own.Stay.mk ?_
  generalize hW : World.alloc _ _ = W2
  have hN : Own w0 W2 [row (w.heap.size) 48 #[.int .u32 0, .int .u32 0]] X := by
    rw [← hW]
    exact (hO).alloc' _ (w.heap.size) (by simp)
  clear hW hO
  generalize w.heap.size = B1 at hN ⊢
  have hO := hN
  clear hN
  have st9 := rlaw271_st s r B1
  refine wp_region_own (e := rlaw271E s r B1) (anc := rlaw271Anc) (G := (fun L9 α u9 => OwnF w0 u9 (act rlaw271Cnt 1 L9) (rlaw271R s r B1 L9 α) X)) (by kernel_rfl) (by kernel_rfl) (by kernel_rfl) (by kernel_rfl) (rlaw271_he s r B1) ?_ (RunsAll.all ?_) ?_
  · have hp : ∀ i, act rlaw271Cnt 1 (fun _ => false) i → i ∈ [999] := by
      intro i hi
      have h9 : i % 1000 = 999 := by
        by_cases h : i % 1000 = 999
        · exact h
        · exact absurd (act_lt hi h) (by simp)
      unfold act at hi
      rw [if_pos h9] at hi
      simp only [List.mem_cons, List.not_mem_nil, or_false]
      omega
    refine hO.drew.family (fun i hi => ?_) (fun i j hi hj hij => ?_)
    · have := hp i hi
      simp only [List.mem_cons, List.not_mem_nil, or_false] at this
      subst this
      rfl
    · have h1 := hp i hi
      have h2 := hp j hj
      simp only [List.mem_cons, List.not_mem_nil, or_false] at h1 h2
      omega
  · refine ⟨?_, ?_, ?_, ?_, ?_, ?_, trivial⟩
    · intro L9 α a9 u9 K9 hL hcl hA hG hS h0 hK
      replace hL : L9 0 = false := hL
      go_simp
      have hM : ∀ i, i ∈ [] → act rlaw271Cnt 1 L9 i := by intro i hi; simp at hi
      have hP : Own w0 u9 [] _ := hG.pick [] (by decide) (by simp)
      clear hM
      refine Calls.mono (classSyms  _ _ _ hP hg0 hg1) ?_
      rintro e9 u1 ⟨b0, rfl, hQ⟩
      obtain ⟨α', hα'⟩ : ∃ α' : Rega.Atoms, α' = (fun j => if j = 0 then b0 else α j) := ⟨_, rfl⟩
      have f0 : rlaw271R s r B1 (Rega.ran L9 0) α' 0 = row (α' 0) 74 (full symZ (symL ([sy ⟨#[70, 111, 111]⟩ 0])) 0) := rfl
      have hα : ∀ j, j % 1000 ≠ 0 → α' j = α j := fun j hj => by rw [hα']; simp only []; rw [if_neg (by omega)]
      have hb0 : α' 0 = b0 := by rw [hα']; rfl
      skip
      refine hK _ α' _ hα ?_ (step_call (st9) hL hcl hα [] [0] (by decide) (by decide) (by decide) (M := _) ?_ hG hQ)
      · show _ = (.slice (some ⟨α' 0, 0, none⟩) 1 1 : Value)
        simp only [hb0]
      · show [rlaw271R s r B1 (Rega.ran L9 0) α' 0] = _
        rw [f0]
        simp only [hb0]
    · intro L9 α a9 u9 K9 hL hcl hA hG hS h0 hK
      replace hL : L9 1 = false := hL
      have q13 : a9.tmps[13]? = some (.pointer (some ⟨B1, 0, none⟩)) := (h0 13 (by kernel_rfl)).trans rfl
      have s13 := Rega.eval_of q13
      have e0 : rlaw271R s r B1 L9 α 999 = row (B1) 48 #[.int .u32 0, .int .u32 0] := rfl
      have hr := hG.rowAt 999 (act_base 999 rfl) e0
      have c0 : u9.cell? ⟨B1, 0, none⟩ = some (.int .u32 0) := hr.cell rfl
      have c1 : u9.cell? ⟨B1, 1, none⟩ = some (.int .u32 0) := hr.cell rfl
      clear hr e0
      go_simp
      exact hK _ α _ (fun _ _ => rfl) rfl (step_same (st9) hL hcl rfl rfl hG)
    · intro L9 α a9 u9 K9 hL hcl hA hG hS h0 hK
      replace hL : L9 2 = false := hL
      have q3 : a9.tmps[3]? = some (.bool s) := (h0 3 (by kernel_rfl)).trans rfl
      have s3 := Rega.eval_of q3
      go_simp
      exact hK _ α _ (fun _ _ => rfl) rfl (step_same (st9) hL hcl rfl rfl hG)
    · intro L9 α a9 u9 K9 hL hcl hA hG hS h0 hK
      replace hL : L9 3 = false := hL
      have q4 : a9.tmps[4]? = some (.bool r) := (h0 4 (by kernel_rfl)).trans rfl
      have s4 := Rega.eval_of q4
      go_simp
      exact hK _ α _ (fun _ _ => rfl) rfl (step_same (st9) hL hcl rfl rfl hG)
    · intro L9 α a9 u9 K9 hL hcl hA hG hS h0 hK
      replace hL : L9 4 = false := hL
      have q46 : a9.tmps[46]? = some (.slice (some ⟨α 0, 0, none⟩) 1 1) := hS 0 46 (by decide) rfl (by show 46 < 235; decide)
      have s46 := Rega.eval_of q46
      have q47 : a9.tmps[47]? = some (.agg #[.int .u32 0, .int .u32 0]) := hS 1 47 (by decide) rfl (by show 47 < 235; decide)
      have s47 := Rega.eval_of q47
      have q48 : a9.tmps[48]? = some (.bool s) := hS 2 48 (by decide) rfl (by show 48 < 235; decide)
      have s48 := Rega.eval_of q48
      have q49 : a9.tmps[49]? = some (.bool r) := hS 3 49 (by decide) rfl (by show 49 < 235; decide)
      have s49 := Rega.eval_of q49
      go_simp
      have hM : ∀ i, i ∈ [] → act rlaw271Cnt 1 L9 i := by intro i hi; simp at hi
      have hP : Own w0 u9 [] _ := hG.pick [] (by decide) (by simp)
      clear hM
      refine Calls.mono (newSrst r s (α 0) _ _ _ hP ) ?_
      rintro e9 u1 ⟨b0, b1, b2, b3, rfl, hQ⟩
      obtain ⟨α', hα'⟩ : ∃ α' : Rega.Atoms, α' = (fun j => if j = 4 then b0 else if j = 1004 then b1 else if j = 2004 then b2 else if j = 3004 then b3 else α j) := ⟨_, rfl⟩
      have f0 : rlaw271R s r B1 (Rega.ran L9 4) α' 4 = row (α' 4) 188 (newSrstP r s (α' 0) (α' 1004) (α' 2004) (α' 3004)) := rfl
      have f1 : rlaw271R s r B1 (Rega.ran L9 4) α' 1004 = ((α' 1004, .map #[] 0) : Rw) := rfl
      have f2 : rlaw271R s r B1 (Rega.ran L9 4) α' 2004 = row (α' 2004) 223 #[.pointer none, .pointer none, .slice none 0 0, .map none, .slice none 0 0, .slice none 0 0, .int .i32 0, .int .i32 0, .int .u32 0, .int .u32 0, .bool false, .bool false, .bool false, .bool false, .int .u8 0, .int .u8 6] := rfl
      have f3 : rlaw271R s r B1 (Rega.ran L9 4) α' 3004 = row (α' 3004) 48 #[.int .u32 0, .int .u32 0] := rfl
      have hα : ∀ j, j % 1000 ≠ 4 → α' j = α j := fun j hj => by rw [hα']; simp only []; rw [if_neg (by omega), if_neg (by omega), if_neg (by omega), if_neg (by omega)]
      have hb0 : α' 4 = b0 := by rw [hα']; rfl
      have hb1 : α' 1004 = b1 := by rw [hα']; rfl
      have hb2 : α' 2004 = b2 := by rw [hα']; rfl
      have hb3 : α' 3004 = b3 := by rw [hα']; rfl
      have ha0 : α' 0 = α 0 := hα 0 (by decide)
      skip
      refine hK _ α' _ hα ?_ (step_call (st9) hL hcl hα [] [4, 1004, 2004, 3004] (by decide) (by decide) (by decide) (M := _) ?_ hG hQ)
      · show _ = (.pointer (some ⟨α' 4, 0, none⟩) : Value)
        simp only [hb0]
      · show [rlaw271R s r B1 (Rega.ran L9 4) α' 4, rlaw271R s r B1 (Rega.ran L9 4) α' 1004, rlaw271R s r B1 (Rega.ran L9 4) α' 2004, rlaw271R s r B1 (Rega.ran L9 4) α' 3004] = _
        rw [f0, f1, f2, f3]
        simp only [hb0, hb1, hb2, hb3, ha0]
    · intro L9 α a9 u9 K9 hL hcl hA hG hS h0 hK
      replace hL : L9 5 = false := hL
      have q50 : a9.tmps[50]? = some (.pointer (some ⟨α 4, 0, none⟩)) := hS 4 50 (by decide) rfl (by show 50 < 235; decide)
      have s50 := Rega.eval_of q50
      go_simp
      exact hK _ α _ (fun _ _ => rfl) rfl (step_same (st9) hL hcl rfl rfl hG)
  clear st9
  intro α u hG
  have e0 : rlaw271R s r B1 (fun k => decide (k < 6)) α 999 = row (B1) 48 #[.int .u32 0, .int .u32 0] := rfl
  have e1 : rlaw271R s r B1 (fun k => decide (k < 6)) α 0 = row (α 0) 74 (full symZ (symL ([sy ⟨#[70, 111, 111]⟩ 0])) 0) := rfl
  have e2 : rlaw271R s r B1 (fun k => decide (k < 6)) α 4 = row (α 4) 188 (newSrstP r s (α 0) (α 1004) (α 2004) (α 3004)) := rfl
  have e3 : rlaw271R s r B1 (fun k => decide (k < 6)) α 1004 = ((α 1004, .map #[] 0) : Rw) := rfl
  have e4 : rlaw271R s r B1 (fun k => decide (k < 6)) α 2004 = row (α 2004) 223 #[.pointer none, .pointer none, .slice none 0 0, .map none, .slice none 0 0, .slice none 0 0, .int .i32 0, .int .i32 0, .int .u32 0, .int .u32 0, .bool false, .bool false, .bool false, .bool false, .int .u8 0, .int .u8 6] := rfl
  have e5 : rlaw271R s r B1 (fun k => decide (k < 6)) α 3004 = row (α 3004) 48 #[.int .u32 0, .int .u32 0] := rfl
  have hO : Own w0 u [row (B1) 48 #[.int .u32 0, .int .u32 0], row (α 0) 74 (full symZ (symL ([sy ⟨#[70, 111, 111]⟩ 0])) 0), row (α 4) 188 (newSrstP r s (α 0) (α 1004) (α 2004) (α 3004)), ((α 1004, .map #[] 0) : Rw), row (α 2004) 223 #[.pointer none, .pointer none, .slice none 0 0, .map none, .slice none 0 0, .slice none 0 0, .int .i32 0, .int .i32 0, .int .u32 0, .int .u32 0, .bool false, .bool false, .bool false, .bool false, .int .u8 0, .int .u8 6], row (α 3004) 48 #[.int .u32 0, .int .u32 0]] X := (hG.list [999, 0, 4, 1004, 2004, 3004] (by decide) (act_all (by decide))).conv (by
    show [rlaw271R s r B1 (fun k => decide (k < 6)) α 999, rlaw271R s r B1 (fun k => decide (k < 6)) α 0, rlaw271R s r B1 (fun k => decide (k < 6)) α 4, rlaw271R s r B1 (fun k => decide (k < 6)) α 1004, rlaw271R s r B1 (fun k => decide (k < 6)) α 2004, rlaw271R s r B1 (fun k => decide (k < 6)) α 3004] = _
    rw [e0, e1, e2, e3, e4, e5])
  clear hG e0 e1 e2 e3 e4 e5
  generalize hfr : Rega.frameAt _ _ _ _ _ = fr
  have hdf : fr = ⟨#[.int .i32 loc, .string key, .int .u8 op, .bool s, .bool r, .int .u32 vm, undef, undef, undef, undef, undef, undef, .bool false, .pointer (some ⟨B1, 0, none⟩), .pointer (some ⟨α 4, 0, none⟩), undef, undef, undef, undef, undef, undef, undef, undef, undef, undef, undef, undef, undef, undef, undef, undef, undef, undef, undef, .int .i32 loc, .string key, .int .u8 op, .bool s, .bool r, .int .u32 vm, .bool true, .bool false, .string key, .int .i64 (key.size : Int), .bool (decide (65536 < (key.size : Int))), .agg #[.int .u32 0, .int .u32 0], .slice (some ⟨α 0, 0, none⟩) 1 1, .agg #[.int .u32 0, .int .u32 0], .bool s, .bool r, .pointer (some ⟨α 4, 0, none⟩), undef, undef, undef, undef, undef, undef, undef, undef, undef, undef, undef, undef, undef, undef, undef, undef, undef, undef, undef, undef, undef, undef, undef, undef, undef, undef, undef, undef, undef, undef, undef, undef, undef, undef, undef, undef, undef, undef, undef, undef, undef, undef, undef, undef, undef, undef, undef, undef, undef, undef, undef, undef, undef, undef, undef, undef, undef, undef, undef, undef, undef, undef, undef, undef, undef, undef, undef, undef, undef, undef, undef, undef, undef, undef, undef, undef, undef, undef, undef, undef, undef, undef, undef, undef, undef, undef, undef, undef, undef, undef, undef, undef, undef, undef, undef, undef, undef, undef, undef, undef, undef, undef, undef, undef, undef, undef, undef, undef, undef, undef, undef, undef, undef, undef, undef, undef, undef, undef, undef, undef, undef, undef, undef, undef, undef, undef, undef, undef, undef, undef, undef, undef, undef, undef, undef, undef, undef, undef, undef, undef, undef, undef, undef, undef, undef, undef, undef, undef, undef, undef, undef, undef, undef, undef, undef, undef, undef, undef, undef, undef, undef, undef, undef, undef, undef, undef, undef, undef, undef, undef, undef, undef, undef, undef, undef, undef, undef, undef, undef, undef, undef, undef, undef, undef], []⟩ := by rw [← hfr]; kernel_rfl
  clear hfr
  subst hdf
  generalize α 0 = nd3 at hO ⊢
  generalize α 4 = nd4 at hO ⊢
  generalize α 1004 = nd5 at hO ⊢
  generalize α 2004 = nd6 at hO ⊢
  generalize α 3004 = nd7 at hO ⊢
  clear α
  obtain ⟨c9_0_0, c9_0_1, lt9_0, y9_0, -⟩ := hO.k2 0 rfl
  obtain ⟨c9_5_0, c9_5_1, lt9_5, y9_5, -⟩ := hO.k2 5 rfl
  have HO := Lib.hid hO
  clear hO
  go_wp2_with (first | (with_reducible refine Own.stay (fn := Tryz.f5) ?_) | (first | (go_at_call 18; go_in)))
  try with_reducible refine Own.Stay.mk ?_
  have hO := HO.out
  clear HO c9_0_0 c9_0_1 lt9_0 y9_0 c9_5_0 c9_5_1 lt9_5 y9_5
  generalize hW : World.alloc _ _ = W9
  have hN : Own w0 W9 [row (u.heap.size) 30 #[.int .i32 loc], row (B1) 48 #[.int .u32 0, .int .u32 0], row (nd3) 74 (full symZ (symL ([sy ⟨#[70, 111, 111]⟩ 0])) 0), row (nd4) 188 (newSrstP r s (nd3) (nd5) (nd6) (nd7)), ((nd5, .map #[] 0) : Rw), row (nd6) 223 #[.pointer none, .pointer none, .slice none 0 0, .map none, .slice none 0 0, .slice none 0 0, .int .i32 0, .int .i32 0, .int .u32 0, .int .u32 0, .bool false, .bool false, .bool false, .bool false, .int .u8 0, .int .u8 6], row (nd7) 48 #[.int .u32 0, .int .u32 0]] X := by
    rw [← hW]
    exact (hO).alloc' _ (u.heap.size) (by simp)
  clear hW hO
  generalize u.heap.size = B8 at hN ⊢
  have hO := hN
  clear hN
  have hL := hO.apart
  have hX := hO.apartX
  have HL := Lib.hid hL
  have HX := Lib.hid hX
  clear hL hX
  have hP9 := hO.pick [] (by decide)
  have T9 := unitsO key _ _ _ hP9 (by omega)
  refine Calls.mono T9 ?_
  clear hP9 T9
  rintro e u10 ⟨nd11, rfl, hQ⟩
  have hN : Own w0 u10 [row (nd11) 69 (units key), row (B8) 30 #[.int .i32 loc], row (B1) 48 #[.int .u32 0, .int .u32 0], row (nd3) 74 (full symZ (symL ([sy ⟨#[70, 111, 111]⟩ 0])) 0), row (nd4) 188 (newSrstP r s (nd3) (nd5) (nd6) (nd7)), ((nd5, .map #[] 0) : Rw), row (nd6) 223 #[.pointer none, .pointer none, .slice none 0 0, .map none, .slice none 0 0, .slice none 0 0, .int .i32 0, .int .i32 0, .int .u32 0, .int .u32 0, .bool false, .bool false, .bool false, .bool false, .int .u8 0, .int .u8 6], row (nd7) 48 #[.int .u32 0, .int .u32 0]] X := hQ.back HL.out HX.out [0, 1, 2, 3, 4, 5, 6] (by decide) (by decide)
  clear hQ HL HX hO
  have hO := hN
  clear hN
  obtain ⟨c9_1_0, lt9_1, y9_1, -⟩ := hO.k1 1 rfl
  obtain ⟨c9_2_0, c9_2_1, lt9_2, y9_2, -⟩ := hO.k2 2 rfl
  obtain ⟨c9_7_0, c9_7_1, lt9_7, y9_7, -⟩ := hO.k2 7 rfl
  have HO := Lib.hid hO
  clear hO
  go_wp2_with (first | (with_reducible refine Own.stay (fn := Tryz.f5) ?_) | (first | (go_at_call 18; go_in)))
  try with_reducible refine Own.Stay.mk ?_
  have hO := HO.out
  clear HO c9_1_0 lt9_1 y9_1 c9_2_0 c9_2_1 lt9_2 y9_2 c9_7_0 c9_7_1 lt9_7 y9_7
  generalize hW : World.alloc _ _ = W13
  have hN : Own w0 W13 [row (u10.heap.size) 48 #[.int .u32 3, .int .u32 vm], row (nd11) 69 (units key), row (B8) 30 #[.int .i32 loc], row (B1) 48 #[.int .u32 0, .int .u32 0], row (nd3) 74 (full symZ (symL ([sy ⟨#[70, 111, 111]⟩ 0])) 0), row (nd4) 188 (newSrstP r s (nd3) (nd5) (nd6) (nd7)), ((nd5, .map #[] 0) : Rw), row (nd6) 223 #[.pointer none, .pointer none, .slice none 0 0, .map none, .slice none 0 0, .slice none 0 0, .int .i32 0, .int .i32 0, .int .u32 0, .int .u32 0, .bool false, .bool false, .bool false, .bool false, .int .u8 0, .int .u8 6], row (nd7) 48 #[.int .u32 0, .int .u32 0]] X := by
    rw [← hW]
    exact (hO).alloc' _ (u10.heap.size) (by simp)
  clear hW hO
  generalize u10.heap.size = B12 at hN ⊢
  have hO := hN
  clear hN
  have hL := hO.apart
  have hX := hO.apartX
  have HL := Lib.hid hL
  have HX := Lib.hid hX
  clear hL hX
  have hP9 := hO.pick [0, 2, 4, 5, 6, 7, 8] (by decide)
  generalize hX9_14 : Own.Rest _ _ X = X9_14 at hP9
  replace hP9 : Own w0 W13 [row (B12) 48 #[.int .u32 3, .int .u32 vm], row (B8) 30 #[.int .i32 loc], row (nd3) 74 (full symZ (symL ([sy ⟨#[70, 111, 111]⟩ 0])) 0), row (nd4) 188 (newSrstP r s (nd3) (nd5) (nd6) (nd7)), ((nd5, .map #[] 0) : Rw), row (nd6) 223 #[.pointer none, .pointer none, .slice none 0 0, .map none, .slice none 0 0, .slice none 0 0, .int .i32 0, .int .i32 0, .int .u32 0, .int .u32 0, .bool false, .bool false, .bool false, .bool false, .int .u8 0, .int .u8 6], row (nd7) 48 #[.int .u32 0, .int .u32 0]] X9_14 := hP9
  clear hO
  have hO := hP9
  clear hP9
  have st9 := rlaw273_st loc key op s r vm nd3 nd4 nd5 nd6 nd7 B8 B12
  let R9 := rlaw273R loc key op s r vm nd3 nd4 nd5 nd6 nd7 B8 B12
  refine wp_region_own (e := rlaw273E loc key op s r vm nd3 nd4 nd5 nd6 nd7 B8 B12) (anc := rlaw273Anc) (G := (fun L9 α u9 => OwnF w0 u9 (act rlaw273Cnt 7 L9) (rlaw273R loc key op s r vm nd3 nd4 nd5 nd6 nd7 B8 B12 L9 α) X9_14)) (by kernel_rfl) (by kernel_rfl) (by kernel_rfl) (by kernel_rfl) (rlaw273_he loc key op s r vm nd3 nd4 nd5 nd6 nd7 B8 B12) ?_ (RunsAll.all ?_) ?_
  · have hp : ∀ i, act rlaw273Cnt 7 (fun _ => false) i → i ∈ [999, 1999, 2999, 3999, 4999, 5999, 6999] := by
      intro i hi
      have h9 : i % 1000 = 999 := by
        by_cases h : i % 1000 = 999
        · exact h
        · exact absurd (act_lt hi h) (by simp)
      unfold act at hi
      rw [if_pos h9] at hi
      simp only [List.mem_cons, List.not_mem_nil, or_false]
      omega
    refine hO.drew.family (fun i hi => ?_) (fun i j hi hj hij => ?_)
    · have := hp i hi
      simp only [List.mem_cons, List.not_mem_nil, or_false] at this
      rcases this with rfl | rfl | rfl | rfl | rfl | rfl | rfl <;> rfl
    · have h1 := hp i hi
      have h2 := hp j hj
      simp only [List.mem_cons, List.not_mem_nil, or_false] at h1 h2
      omega
  · refine ⟨?_, ?_, ?_, ?_, ?_, ?_, ?_, ?_, ?_, ?_, ?_, ?_, ?_, trivial⟩
    · intro L9 α a9 u9 K9 hL hcl hA hG hS h0 hK
      replace hL : L9 0 = false := hL
      have q14 : a9.tmps[14]? = some (.pointer (some ⟨nd4, 0, none⟩)) := (h0 14 (by kernel_rfl)).trans rfl
      have s14 := Rega.eval_of q14
      go_simp
      exact hK _ α _ (fun _ _ => rfl) rfl (step_same (st9) hL hcl rfl rfl hG)
    · intro L9 α a9 u9 K9 hL hcl hA hG hS h0 hK
      replace hL : L9 1 = false := hL
      have q15 : a9.tmps[15]? = some (.pointer (some ⟨B8, 0, none⟩)) := (h0 15 (by kernel_rfl)).trans rfl
      have s15 := Rega.eval_of q15
      have e0 : R9 L9 α 1999 = row (B8) 30 #[.int .i32 loc] := rfl
      have hr := hG.rowAt 1999 (act_base 1999 rfl) e0
      have c0 : u9.cell? ⟨B8, 0, none⟩ = some (.int .i32 loc) := hr.cell rfl
      clear hr e0
      go_simp
      exact hK _ α _ (fun _ _ => rfl) rfl (step_same (st9) hL hcl rfl rfl hG)
    · intro L9 α a9 u9 K9 hL hcl hA hG hS h0 hK
      replace hL : L9 2 = false := hL
      have q0 : a9.tmps[0]? = some (.int .i32 loc) := (h0 0 (by kernel_rfl)).trans rfl
      have s0 := Rega.eval_of q0
      go_simp
      exact hK _ α _ (fun _ _ => rfl) rfl (step_same (st9) hL hcl rfl rfl hG)
    · intro L9 α a9 u9 K9 hL hcl hA hG hS h0 hK
      replace hL : L9 3 = false := hL
      have q1 : a9.tmps[1]? = some (.string key) := (h0 1 (by kernel_rfl)).trans rfl
      have s1 := Rega.eval_of q1
      go_simp
      exact hK _ α _ (fun _ _ => rfl) rfl (step_same (st9) hL hcl rfl rfl hG)
    · intro L9 α a9 u9 K9 hL hcl hA hG hS h0 hK
      replace hL : L9 4 = false := hL
      have q60 : a9.tmps[60]? = some (.string key) := hS 3 60 (by decide) rfl (by show 60 < 235; decide)
      have s60 := Rega.eval_of q60
      go_simp
      have hM : ∀ i, i ∈ [] → act rlaw273Cnt 7 L9 i := by intro i hi; simp at hi
      have hP : Own w0 u9 [] _ := hG.pick [] (by decide) (by simp)
      clear hM
      refine Calls.mono (unitsO key _ _ _ hP (by omega)) ?_
      rintro e9 u1 ⟨b0, rfl, hQ⟩
      obtain ⟨α', hα'⟩ : ∃ α' : Rega.Atoms, α' = (fun j => if j = 4 then b0 else α j) := ⟨_, rfl⟩
      have f0 : R9 (Rega.ran L9 4) α' 4 = row (α' 4) 69 (units key) := rfl
      have hα : ∀ j, j % 1000 ≠ 4 → α' j = α j := fun j hj => by rw [hα']; simp only []; rw [if_neg (by omega)]
      have hb0 : α' 4 = b0 := by rw [hα']; rfl
      skip
      refine hK _ α' _ hα ?_ (step_call (st9) hL hcl hα [] [4] (by decide) (by decide) (by decide) (M := _) ?_ hG hQ)
      · show _ = (.slice (some ⟨α' 4, 0, none⟩) key.size key.size : Value)
        simp only [hb0]
      · show [R9 (Rega.ran L9 4) α' 4] = _
        rw [f0]
        simp only [hb0]
    · intro L9 α a9 u9 K9 hL hcl hA hG hS h0 hK
      replace hL : L9 5 = false := hL
      have q59 : a9.tmps[59]? = some (.int .i32 loc) := hS 2 59 (by decide) rfl (by show 59 < 235; decide)
      have s59 := Rega.eval_of q59
      have q61 : a9.tmps[61]? = some (.slice (some ⟨α 4, 0, none⟩) key.size key.size) := hS 4 61 (by decide) rfl (by show 61 < 235; decide)
      have s61 := Rega.eval_of q61
      go_simp
      have hM : ∀ i, i ∈ [] → act rlaw273Cnt 7 L9 i := by intro i hi; simp at hi
      have hP : Own w0 u9 [] _ := hG.pick [] (by decide) (by simp)
      clear hM
      refine Calls.mono (strE loc (α 4) key.size key.size _ _ _ hP ) ?_
      rintro e9 u1 ⟨b0, rfl, hQ⟩
      obtain ⟨α', hα'⟩ : ∃ α' : Rega.Atoms, α' = (fun j => if j = 5 then b0 else α j) := ⟨_, rfl⟩
      have f0 : R9 (Rega.ran L9 5) α' 5 = row (α' 5) 197 #[.slice (some ⟨α' 4, 0, none⟩) key.size key.size, .int .i32 0, .bool false, .bool false, .bool false] := rfl
      have hα : ∀ j, j % 1000 ≠ 5 → α' j = α j := fun j hj => by rw [hα']; simp only []; rw [if_neg (by omega)]
      have hb0 : α' 5 = b0 := by rw [hα']; rfl
      have ha4 : α' 4 = α 4 := hα 4 (by decide)
      skip
      refine hK _ α' _ hα ?_ (step_call (st9) hL hcl hα [] [5] (by decide) (by decide) (by decide) (M := _) ?_ hG hQ)
      · show _ = (.agg #[.iface 195 (.pointer (some ⟨α' 5, 0, none⟩)), .int .i32 loc] : Value)
        simp only [hb0]
      · show [R9 (Rega.ran L9 5) α' 5] = _
        rw [f0]
        simp only [hb0, ha4]
    · intro L9 α a9 u9 K9 hL hcl hA hG hS h0 hK
      replace hL : L9 6 = false := hL
      have q2 : a9.tmps[2]? = some (.int .u8 op) := (h0 2 (by kernel_rfl)).trans rfl
      have s2 := Rega.eval_of q2
      go_simp
      exact hK _ α _ (fun _ _ => rfl) rfl (step_same (st9) hL hcl rfl rfl hG)
    · intro L9 α a9 u9 K9 hL hcl hA hG hS h0 hK
      replace hL : L9 7 = false := hL
      have q0 : a9.tmps[0]? = some (.int .i32 loc) := (h0 0 (by kernel_rfl)).trans rfl
      have s0 := Rega.eval_of q0
      go_simp
      exact hK _ α _ (fun _ _ => rfl) rfl (step_same (st9) hL hcl rfl rfl hG)
    · intro L9 α a9 u9 K9 hL hcl hA hG hS h0 hK
      replace hL : L9 8 = false := hL
      have q17 : a9.tmps[17]? = some (.pointer (some ⟨B12, 0, none⟩)) := (h0 17 (by kernel_rfl)).trans rfl
      have s17 := Rega.eval_of q17
      have e0 : R9 L9 α 999 = row (B12) 48 #[.int .u32 3, .int .u32 vm] := rfl
      have hr := hG.rowAt 999 (act_base 999 rfl) e0
      have c0 : u9.cell? ⟨B12, 0, none⟩ = some (.int .u32 3) := hr.cell rfl
      have c1 : u9.cell? ⟨B12, 1, none⟩ = some (.int .u32 vm) := hr.cell rfl
      clear hr e0
      go_simp
      exact hK _ α _ (fun _ _ => rfl) rfl (step_same (st9) hL hcl rfl rfl hG)
    · intro L9 α a9 u9 K9 hL hcl hA hG hS h0 hK
      replace hL : L9 9 = false := hL
      have q64 : a9.tmps[64]? = some (.int .i32 loc) := hS 7 64 (by decide) rfl (by show 64 < 235; decide)
      have s64 := Rega.eval_of q64
      have q65 : a9.tmps[65]? = some (.agg #[.int .u32 3, .int .u32 vm]) := hS 8 65 (by decide) rfl (by show 65 < 235; decide)
      have s65 := Rega.eval_of q65
      go_simp
      have hM : ∀ i, i ∈ [] → act rlaw273Cnt 7 L9 i := by intro i hi; simp at hi
      have hP : Own w0 u9 [] _ := hG.pick [] (by decide) (by simp)
      clear hM
      refine Calls.mono (idE loc 3 vm _ _ _ hP ) ?_
      rintro e9 u1 ⟨b0, rfl, hQ⟩
      obtain ⟨α', hα'⟩ : ∃ α' : Rega.Atoms, α' = (fun j => if j = 9 then b0 else α j) := ⟨_, rfl⟩
      have f0 : R9 (Rega.ran L9 9) α' 9 = row (α' 9) 191 #[.int .u32 3, .int .u32 vm, .bool false, .bool false, .bool false] := rfl
      have hα : ∀ j, j % 1000 ≠ 9 → α' j = α j := fun j hj => by rw [hα']; simp only []; rw [if_neg (by omega)]
      have hb0 : α' 9 = b0 := by rw [hα']; rfl
      skip
      refine hK _ α' _ hα ?_ (step_call (st9) hL hcl hα [] [9] (by decide) (by decide) (by decide) (M := _) ?_ hG hQ)
      · show _ = (.agg #[.iface 189 (.pointer (some ⟨α' 9, 0, none⟩)), .int .i32 loc] : Value)
        simp only [hb0]
      · show [R9 (Rega.ran L9 9) α' 9] = _
        rw [f0]
        simp only [hb0]
    · intro L9 α a9 u9 K9 hL hcl hA hG hS h0 hK
      replace hL : L9 10 = false := hL
      have q57 : a9.tmps[57]? = some (.pointer (some ⟨nd4, 0, none⟩)) := hS 0 57 (by decide) rfl (by show 57 < 235; decide)
      have s57 := Rega.eval_of q57
      have q58 : a9.tmps[58]? = some (.agg #[.int .i32 loc]) := hS 1 58 (by decide) rfl (by show 58 < 235; decide)
      have s58 := Rega.eval_of q58
      have q62 : a9.tmps[62]? = some (.agg #[.iface 195 (.pointer (some ⟨α 5, 0, none⟩)), .int .i32 loc]) := hS 5 62 (by decide) rfl (by show 62 < 235; decide)
      have s62 := Rega.eval_of q62
      have q63 : a9.tmps[63]? = some (.int .u8 op) := hS 6 63 (by decide) rfl (by show 63 < 235; decide)
      have s63 := Rega.eval_of q63
      have q66 : a9.tmps[66]? = some (.agg #[.iface 189 (.pointer (some ⟨α 9, 0, none⟩)), .int .i32 loc]) := hS 9 66 (by decide) rfl (by show 66 < 235; decide)
      have s66 := Rega.eval_of q66
      go_simp
      have e0 : R9 L9 α 3999 = row (nd4) 188 (newSrstP r s (nd3) (nd5) (nd6) (nd7)) := by
        show rlaw273T3999 loc key op s r vm nd3 nd4 nd5 nd6 nd7 B8 B12 L9 α = _
        unfold rlaw273T3999
        rw [if_neg (by rw [hL]; decide)]
      have e1 : R9 L9 α 2999 = row (nd3) 74 (full symZ (symL ([sy ⟨#[70, 111, 111]⟩ 0])) 0) := by
        show rlaw273T2999 loc key op s r vm nd3 nd4 nd5 nd6 nd7 B8 B12 L9 α = _
        unfold rlaw273T2999
        rw [if_neg (by rw [hL]; decide)]
      have e2 : R9 L9 α 4999 = ((nd5, .map #[] 0) : Rw) := by
        show rlaw273T4999 loc key op s r vm nd3 nd4 nd5 nd6 nd7 B8 B12 L9 α = _
        unfold rlaw273T4999
        rw [if_neg (by rw [hL]; decide)]
      have e3 : R9 L9 α 5999 = row (nd6) 223 #[.pointer none, .pointer none, .slice none 0 0, .map none, .slice none 0 0, .slice none 0 0, .int .i32 0, .int .i32 0, .int .u32 0, .int .u32 0, .bool false, .bool false, .bool false, .bool false, .int .u8 0, .int .u8 6] := by
        show rlaw273T5999 loc key op s r vm nd3 nd4 nd5 nd6 nd7 B8 B12 L9 α = _
        unfold rlaw273T5999
        rw [if_neg (by rw [hL]; decide)]
      have e4 : R9 L9 α 6999 = row (nd7) 48 #[.int .u32 0, .int .u32 0] := rfl
      have e5 : R9 L9 α 5 = row (α 5) 197 #[.slice (some ⟨α 4, 0, none⟩) key.size key.size, .int .i32 0, .bool false, .bool false, .bool false] := rfl
      have hM : ∀ i, i ∈ [3999, 2999, 4999, 5999, 6999, 5] → act rlaw273Cnt 7 L9 i := by
        intro i hi
        simp only [List.mem_cons, List.not_mem_nil, or_false] at hi
        rcases hi with rfl | rfl | rfl | rfl | rfl | rfl
        · exact act_base 3999 rfl
        · exact act_base 2999 rfl
        · exact act_base 4999 rfl
        · exact act_base 5999 rfl
        · exact act_base 6999 rfl
        · exact act_new 5 rfl (hA 5 (by decide))
      have hP : Own w0 u9 [row (nd4) 188 (newSrstP r s (nd3) (nd5) (nd6) (nd7)), row (nd3) 74 (full symZ (symL ([sy ⟨#[70, 111, 111]⟩ 0])) 0), ((nd5, .map #[] 0) : Rw), row (nd6) 223 #[.pointer none, .pointer none, .slice none 0 0, .map none, .slice none 0 0, .slice none 0 0, .int .i32 0, .int .i32 0, .int .u32 0, .int .u32 0, .bool false, .bool false, .bool false, .bool false, .int .u8 0, .int .u8 6], row (nd7) 48 #[.int .u32 0, .int .u32 0], row (α 5) 197 #[.slice (some ⟨α 4, 0, none⟩) key.size key.size, .int .i32 0, .bool false, .bool false, .bool false]] _ := (hG.pick [3999, 2999, 4999, 5999, 6999, 5] (by decide) hM).conv (by
        show [R9 L9 α 3999, R9 L9 α 2999, R9 L9 α 4999, R9 L9 α 5999, R9 L9 α 6999, R9 L9 α 5] = _
        rw [e0, e1, e2, e3, e4, e5])
      clear e0 e1 e2 e3 e4 e5 hM
      refine Calls.mono (dbinopU nd4 (newSrstP r s nd3 nd5 nd6 nd7) nd3 0 nd5 nd6 #[.pointer none, .pointer none, .slice none 0 0, .map none, .slice none 0 0, .slice none 0 0, .int .i32 0, .int .i32 0, .int .u32 0, .int .u32 0, .bool false, .bool false, .bool false, .bool false, .int .u8 0, .int .u8 6] nd7 loc r s (α 5) (α 4) key.size key.size loc op 189 (α 9) loc _ _ _ hP (newSrst_350 r s (nd3) (nd5) (nd6) (nd7)) (newSrst_32 r s (nd3) (nd5) (nd6) (nd7)) (newSrst_105 r s (nd3) (nd5) (nd6) (nd7)) (newSrst_66 r s (nd3) (nd5) (nd6) (nd7)) (newSrst_117 r s (nd3) (nd5) (nd6) (nd7)) (newSrst_187 r s (nd3) (nd5) (nd6) (nd7)) (newSrst_97 r s (nd3) (nd5) (nd6) (nd7)) (newSrst_95 r s (nd3) (nd5) (nd6) (nd7)) (newSrst_96 r s (nd3) (nd5) (nd6) (nd7)) (newSrst_106 r s (nd3) (nd5) (nd6) (nd7)) rfl hg0 hg1) ?_
      rintro e9 u1 ⟨b0, b1, b2, b3, b4, b5, b6, b7, b8, b9, b10, b11, b12, b13, b14, b16, b17, b15, b18, rfl, hQ⟩
      obtain ⟨α', hα'⟩ : ∃ α' : Rega.Atoms, α' = (fun j => if j = 10 then b0 else if j = 1010 then b1 else if j = 2010 then b2 else if j = 3010 then b3 else if j = 4010 then b4 else if j = 5010 then b5 else if j = 6010 then b6 else if j = 7010 then b7 else if j = 8010 then b8 else if j = 9010 then b9 else if j = 10010 then b10 else if j = 11010 then b11 else if j = 12010 then b12 else if j = 13010 then b13 else if j = 14010 then b14 else if j = 15010 then b15 else if j = 16010 then b16 else if j = 17010 then b17 else if j = 18010 then b18 else α j) := ⟨_, rfl⟩
      have f0 : R9 (Rega.ran L9 10) α' 3999 = row (nd4) 188 ((newSrstP r s nd3 nd5 nd6 nd7).setIfInBounds 106 (.slice (some ⟨α' 16010, 0, none⟩) 3 (3 + (α' 17010)))) := by
        show rlaw273T3999 loc key op s r vm nd3 nd4 nd5 nd6 nd7 B8 B12 (Rega.ran L9 10) α' = _
        unfold rlaw273T3999
        rw [if_pos (show Rega.ran L9 10 10 = true from rfl)]
      have f1 : R9 (Rega.ran L9 10) α' 2999 = row (α' 16010) 74 (full symZ (symL ([sy ⟨#[70, 111, 111]⟩ (uz r (uz r 0)), sy ⟨#[95, 95, 115, 117, 112, 101, 114, 71, 101, 116]⟩ 1, sy ⟨#[95, 95, 115, 117, 112, 101, 114, 83, 101, 116]⟩ 1])) (α' 17010)) := by
        show rlaw273T2999 loc key op s r vm nd3 nd4 nd5 nd6 nd7 B8 B12 (Rega.ran L9 10) α' = _
        unfold rlaw273T2999
        rw [if_pos (show Rega.ran L9 10 10 = true from rfl)]
      have f2 : R9 (Rega.ran L9 10) α' 4999 = ((nd5, .map #[⟨.string ⟨#[95, 95, 115, 117, 112, 101, 114, 71, 101, 116]⟩, .agg #[.int .i32 loc, .int .u32 0, .int .u32 1], 0⟩, ⟨.string ⟨#[95, 95, 115, 117, 112, 101, 114, 83, 101, 116]⟩, .agg #[.int .i32 loc, .int .u32 0, .int .u32 2], 1⟩] 2) : Rw) := by
        show rlaw273T4999 loc key op s r vm nd3 nd4 nd5 nd6 nd7 B8 B12 (Rega.ran L9 10) α' = _
        unfold rlaw273T4999
        rw [if_pos (show Rega.ran L9 10 10 = true from rfl)]
      have f3 : R9 (Rega.ran L9 10) α' 5999 = row (nd6) 223 (#[.pointer none, .pointer none, .slice none 0 0, .map none, .slice none 0 0, .slice none 0 0, .int .i32 0, .int .i32 0, .int .u32 0, .int .u32 0, .bool false, .bool false, .bool false, .bool false, .int .u8 0, .int .u8 6].setIfInBounds 5 (.slice (some ⟨α' 15010, 0, none⟩) 2 (2 + (α' 18010)))) := by
        show rlaw273T5999 loc key op s r vm nd3 nd4 nd5 nd6 nd7 B8 B12 (Rega.ran L9 10) α' = _
        unfold rlaw273T5999
        rw [if_pos (show Rega.ran L9 10 10 = true from rfl)]
      have f4 : R9 (Rega.ran L9 10) α' 15010 = row (α' 15010) 48 (full refZ ([.int .u32 0, .int .u32 1, .int .u32 0, .int .u32 2]) (α' 18010)) := rfl
      have f5 : R9 (Rega.ran L9 10) α' 6999 = row (nd7) 48 #[.int .u32 0, .int .u32 0] := rfl
      have f6 : R9 (Rega.ran L9 10) α' 5 = row (α' 5) 197 #[.slice (some ⟨α' 4, 0, none⟩) key.size key.size, .int .i32 0, .bool false, .bool false, .bool false] := rfl
      have f7 : R9 (Rega.ran L9 10) α' 10 = row (α' 10) 191 #[.int .u32 0, .int .u32 1, .bool false, .bool false, .bool false] := rfl
      have f8 : R9 (Rega.ran L9 10) α' 1010 = row (α' 1010) 255 #[.iface 189 (.pointer (some ⟨α' 10, 0, none⟩)), .int .i32 loc, .slice (some ⟨α' 2010, 0, none⟩) 3 3, .int .i32 0, .int .u8 0, .int .u8 0, .bool false, .bool false] := rfl
      have f9 : R9 (Rega.ran L9 10) α' 2010 = row (α' 2010) 32 #[.iface (clsTy s) (.pointer (some ⟨α' 4010, 0, none⟩)), .int .i32 loc, .iface (thsTy r) (.pointer (some ⟨α' 6010, 0, none⟩)), .int .i32 loc, .iface 195 (.pointer (some ⟨α' 3010, 0, none⟩)), .int .i32 loc] := rfl
      have f10 : R9 (Rega.ran L9 10) α' 3010 = row (α' 3010) 197 #[.slice (some ⟨α' 4, 0, none⟩) key.size key.size, .int .i32 0, .bool false, .bool false, .bool false] := rfl
      have f11 : R9 (Rega.ran L9 10) α' 4010 = row (α' 4010) (clsT s) (clsC s loc (α' 5010)) := rfl
      have f12 : R9 (Rega.ran L9 10) α' 5010 = row (α' 5010) (xtrT s) (xtrC s loc (α' 4010)) := rfl
      have f13 : R9 (Rega.ran L9 10) α' 6010 = row (α' 6010) (thsT r) (thsC r) := rfl
      have f14 : R9 (Rega.ran L9 10) α' 7010 = row (α' 7010) 191 #[.int .u32 0, .int .u32 2, .bool false, .bool false, .bool false] := rfl
      have f15 : R9 (Rega.ran L9 10) α' 8010 = row (α' 8010) 255 #[.iface 189 (.pointer (some ⟨α' 7010, 0, none⟩)), .int .i32 loc, .slice (some ⟨α' 9010, 0, none⟩) 4 4, .int .i32 0, .int .u8 0, .int .u8 0, .bool false, .bool false] := rfl
      have f16 : R9 (Rega.ran L9 10) α' 9010 = row (α' 9010) 32 #[.iface (clsTy s) (.pointer (some ⟨α' 11010, 0, none⟩)), .int .i32 loc, .iface (thsTy r) (.pointer (some ⟨α' 13010, 0, none⟩)), .int .i32 loc, .iface 195 (.pointer (some ⟨α' 10010, 0, none⟩)), .int .i32 loc, .iface 235 (.pointer (some ⟨α' 14010, 0, none⟩)), .int .i32 loc] := rfl
      have f17 : R9 (Rega.ran L9 10) α' 10010 = row (α' 10010) 197 #[.slice (some ⟨α' 4, 0, none⟩) key.size key.size, .int .i32 0, .bool false, .bool false, .bool false] := rfl
      have f18 : R9 (Rega.ran L9 10) α' 11010 = row (α' 11010) (clsT s) (clsC s loc (α' 12010)) := rfl
      have f19 : R9 (Rega.ran L9 10) α' 12010 = row (α' 12010) (xtrT s) (xtrC s loc (α' 11010)) := rfl
      have f20 : R9 (Rega.ran L9 10) α' 13010 = row (α' 13010) (thsT r) (thsC r) := rfl
      have f21 : R9 (Rega.ran L9 10) α' 14010 = row (α' 14010) 238 #[.iface 251 (.pointer (some ⟨α' 1010, 0, none⟩)), .int .i32 loc, .iface 189 (.pointer (some ⟨α' 9, 0, none⟩)), .int .i32 loc, .int .u8 op, .bool false] := rfl
      have hα : ∀ j, j % 1000 ≠ 10 → α' j = α j := fun j hj => by rw [hα']; simp only []; rw [if_neg (by omega), if_neg (by omega), if_neg (by omega), if_neg (by omega), if_neg (by omega), if_neg (by omega), if_neg (by omega), if_neg (by omega), if_neg (by omega), if_neg (by omega), if_neg (by omega), if_neg (by omega), if_neg (by omega), if_neg (by omega), if_neg (by omega), if_neg (by omega), if_neg (by omega), if_neg (by omega), if_neg (by omega)]
      have hb0 : α' 10 = b0 := by rw [hα']; rfl
      have hb1 : α' 1010 = b1 := by rw [hα']; rfl
      have hb2 : α' 2010 = b2 := by rw [hα']; rfl
      have hb3 : α' 3010 = b3 := by rw [hα']; rfl
      have hb4 : α' 4010 = b4 := by rw [hα']; rfl
      have hb5 : α' 5010 = b5 := by rw [hα']; rfl
      have hb6 : α' 6010 = b6 := by rw [hα']; rfl
      have hb7 : α' 7010 = b7 := by rw [hα']; rfl
      have hb8 : α' 8010 = b8 := by rw [hα']; rfl
      have hb9 : α' 9010 = b9 := by rw [hα']; rfl
      have hb10 : α' 10010 = b10 := by rw [hα']; rfl
      have hb11 : α' 11010 = b11 := by rw [hα']; rfl
      have hb12 : α' 12010 = b12 := by rw [hα']; rfl
      have hb13 : α' 13010 = b13 := by rw [hα']; rfl
      have hb14 : α' 14010 = b14 := by rw [hα']; rfl
      have hb15 : α' 15010 = b15 := by rw [hα']; rfl
      have hb16 : α' 16010 = b16 := by rw [hα']; rfl
      have hb17 : α' 17010 = b17 := by rw [hα']; rfl
      have hb18 : α' 18010 = b18 := by rw [hα']; rfl
      have ha4 : α' 4 = α 4 := hα 4 (by decide)
      have ha5 : α' 5 = α 5 := hα 5 (by decide)
      have ha9 : α' 9 = α 9 := hα 9 (by decide)
      skip
      refine hK _ α' _ hα ?_ (step_call (st9) hL hcl hα [3999, 2999, 4999, 5999, 6999, 5] [3999, 2999, 4999, 5999, 15010, 6999, 5, 10, 1010, 2010, 3010, 4010, 5010, 6010, 7010, 8010, 9010, 10010, 11010, 12010, 13010, 14010] (by decide) (by decide) (by decide) (M := _) ?_ hG hQ)
      · show _ = (.agg #[.iface 251 (.pointer (some ⟨α' 8010, 0, none⟩)), .int .i32 loc] : Value)
        simp only [hb8]
      · show [R9 (Rega.ran L9 10) α' 3999, R9 (Rega.ran L9 10) α' 2999, R9 (Rega.ran L9 10) α' 4999, R9 (Rega.ran L9 10) α' 5999, R9 (Rega.ran L9 10) α' 15010, R9 (Rega.ran L9 10) α' 6999, R9 (Rega.ran L9 10) α' 5, R9 (Rega.ran L9 10) α' 10, R9 (Rega.ran L9 10) α' 1010, R9 (Rega.ran L9 10) α' 2010, R9 (Rega.ran L9 10) α' 3010, R9 (Rega.ran L9 10) α' 4010, R9 (Rega.ran L9 10) α' 5010, R9 (Rega.ran L9 10) α' 6010, R9 (Rega.ran L9 10) α' 7010, R9 (Rega.ran L9 10) α' 8010, R9 (Rega.ran L9 10) α' 9010, R9 (Rega.ran L9 10) α' 10010, R9 (Rega.ran L9 10) α' 11010, R9 (Rega.ran L9 10) α' 12010, R9 (Rega.ran L9 10) α' 13010, R9 (Rega.ran L9 10) α' 14010] = _
        rw [f0, f1, f2, f3, f4, f5, f6, f7, f8, f9, f10, f11, f12, f13, f14, f15, f16, f17, f18, f19, f20, f21]
        simp only [hb0, hb1, hb2, hb3, hb4, hb5, hb6, hb7, hb8, hb9, hb10, hb11, hb12, hb13, hb14, hb15, hb16, hb17, hb18, ha4, ha5, ha9]
    · intro L9 α a9 u9 K9 hL hcl hA hG hS h0 hK
      replace hL : L9 11 = false := hL
      go_simp
      have e1 : R9 (Rega.ran L9 11) (fun j => if j = 11 then u9.heap.size else α j) 11 = row (u9.heap.size) 32 #[.nilIface, .int .i32 0] := by
        show rlaw273T11 loc key op s r vm nd3 nd4 nd5 nd6 nd7 B8 B12 (Rega.ran L9 11) (fun j => if j = 11 then u9.heap.size else α j) = _
        unfold rlaw273T11
        exact ((if_neg (fun e => (fun e => by have := hcl 12 e 11 (by decide); rw [hL] at this; cases this) ((ran_ne (by decide)).symm.trans e))).trans rfl)
      exact hK _ (fun j => if j = 11 then u9.heap.size else α j) _ (fun j hj => if_neg (fun e => hj (by rw [e]))) rfl (step_alloc (st9) hL hcl rfl rfl (by decide) _ e1 hG)
    · intro L9 α a9 u9 K9 hL hcl hA hG hS h0 hK
      replace hL : L9 12 = false := hL
      have q18 : a9.tmps[18]? = some (.pointer (some ⟨α 11, 0, none⟩)) := hS 11 18 (by decide) rfl (by show 18 < 235; decide)
      have s18 := Rega.eval_of q18
      have q67 : a9.tmps[67]? = some (.agg #[.iface 251 (.pointer (some ⟨α 8010, 0, none⟩)), .int .i32 loc]) := hS 10 67 (by decide) rfl (by show 67 < 235; decide)
      have s67 := Rega.eval_of q67
      have e0 : R9 L9 α 11 = row (α 11) 32 #[.nilIface, .int .i32 0] := by
        show rlaw273T11 loc key op s r vm nd3 nd4 nd5 nd6 nd7 B8 B12 L9 α = _
        unfold rlaw273T11
        rw [if_neg (by rw [hL]; decide)]
      have hr := hG.rowAt 11 (act_new 11 rfl (hA 11 (by decide))) e0
      have c0 : u9.cell? ⟨α 11, 0, none⟩ = some (.nilIface) := hr.cell rfl
      have y0 : u9.frozen? ⟨α 11, 0, none⟩ = false := hr.free 0
      have c1 : u9.cell? ⟨α 11, 1, none⟩ = some (.int .i32 0) := hr.cell rfl
      have y1 : u9.frozen? ⟨α 11, 1, none⟩ = false := hr.free 1
      clear hr
      have E0 := Lib.hid e0
      clear e0
      go_simp
      have e1 : R9 (Rega.ran L9 12) α 11 = row (α 11) 32 #[.iface 251 (.pointer (some ⟨α 8010, 0, none⟩)), .int .i32 loc] := by
        show rlaw273T11 loc key op s r vm nd3 nd4 nd5 nd6 nd7 B8 B12 (Rega.ran L9 12) α = _
        unfold rlaw273T11
        rw [if_pos (show Rega.ran L9 12 12 = true from rfl)]
      exact hK _ α _ (fun _ _ => rfl) rfl (step_sets (st9) hL hcl rfl 11 rfl (act_new 11 rfl (hA 11 (by decide))) E0.out 0 [.iface 251 (.pointer (some ⟨α 8010, 0, none⟩)), .int .i32 loc] (e1.trans rfl) hG)
  clear st9
  intro α u hG
  have e0 : R9 (fun k => decide (k < 13)) α 999 = row (B12) 48 #[.int .u32 3, .int .u32 vm] := rfl
  have e1 : R9 (fun k => decide (k < 13)) α 1999 = row (B8) 30 #[.int .i32 loc] := rfl
  have e2 : R9 (fun k => decide (k < 13)) α 2999 = row (α 16010) 74 (full symZ (symL ([sy ⟨#[70, 111, 111]⟩ (uz r (uz r 0)), sy ⟨#[95, 95, 115, 117, 112, 101, 114, 71, 101, 116]⟩ 1, sy ⟨#[95, 95, 115, 117, 112, 101, 114, 83, 101, 116]⟩ 1])) (α 17010)) := by
    show rlaw273T2999 loc key op s r vm nd3 nd4 nd5 nd6 nd7 B8 B12 (fun k => decide (k < 13)) α = _
    unfold rlaw273T2999
    rw [if_pos (by decide)]
  have e3 : R9 (fun k => decide (k < 13)) α 3999 = row (nd4) 188 ((newSrstP r s nd3 nd5 nd6 nd7).setIfInBounds 106 (.slice (some ⟨α 16010, 0, none⟩) 3 (3 + (α 17010)))) := by
    show rlaw273T3999 loc key op s r vm nd3 nd4 nd5 nd6 nd7 B8 B12 (fun k => decide (k < 13)) α = _
    unfold rlaw273T3999
    rw [if_pos (by decide)]
  have e4 : R9 (fun k => decide (k < 13)) α 4999 = ((nd5, .map #[⟨.string ⟨#[95, 95, 115, 117, 112, 101, 114, 71, 101, 116]⟩, .agg #[.int .i32 loc, .int .u32 0, .int .u32 1], 0⟩, ⟨.string ⟨#[95, 95, 115, 117, 112, 101, 114, 83, 101, 116]⟩, .agg #[.int .i32 loc, .int .u32 0, .int .u32 2], 1⟩] 2) : Rw) := by
    show rlaw273T4999 loc key op s r vm nd3 nd4 nd5 nd6 nd7 B8 B12 (fun k => decide (k < 13)) α = _
    unfold rlaw273T4999
    rw [if_pos (by decide)]
  have e5 : R9 (fun k => decide (k < 13)) α 5999 = row (nd6) 223 (#[.pointer none, .pointer none, .slice none 0 0, .map none, .slice none 0 0, .slice none 0 0, .int .i32 0, .int .i32 0, .int .u32 0, .int .u32 0, .bool false, .bool false, .bool false, .bool false, .int .u8 0, .int .u8 6].setIfInBounds 5 (.slice (some ⟨α 15010, 0, none⟩) 2 (2 + (α 18010)))) := by
    show rlaw273T5999 loc key op s r vm nd3 nd4 nd5 nd6 nd7 B8 B12 (fun k => decide (k < 13)) α = _
    unfold rlaw273T5999
    rw [if_pos (by decide)]
  have e6 : R9 (fun k => decide (k < 13)) α 6999 = row (nd7) 48 #[.int .u32 0, .int .u32 0] := rfl
  have e7 : R9 (fun k => decide (k < 13)) α 4 = row (α 4) 69 (units key) := rfl
  have e8 : R9 (fun k => decide (k < 13)) α 5 = row (α 5) 197 #[.slice (some ⟨α 4, 0, none⟩) key.size key.size, .int .i32 0, .bool false, .bool false, .bool false] := rfl
  have e9 : R9 (fun k => decide (k < 13)) α 9 = row (α 9) 191 #[.int .u32 3, .int .u32 vm, .bool false, .bool false, .bool false] := rfl
  have e10 : R9 (fun k => decide (k < 13)) α 10 = row (α 10) 191 #[.int .u32 0, .int .u32 1, .bool false, .bool false, .bool false] := rfl
  have e11 : R9 (fun k => decide (k < 13)) α 1010 = row (α 1010) 255 #[.iface 189 (.pointer (some ⟨α 10, 0, none⟩)), .int .i32 loc, .slice (some ⟨α 2010, 0, none⟩) 3 3, .int .i32 0, .int .u8 0, .int .u8 0, .bool false, .bool false] := rfl
  have e12 : R9 (fun k => decide (k < 13)) α 2010 = row (α 2010) 32 #[.iface (clsTy s) (.pointer (some ⟨α 4010, 0, none⟩)), .int .i32 loc, .iface (thsTy r) (.pointer (some ⟨α 6010, 0, none⟩)), .int .i32 loc, .iface 195 (.pointer (some ⟨α 3010, 0, none⟩)), .int .i32 loc] := rfl
  have e13 : R9 (fun k => decide (k < 13)) α 3010 = row (α 3010) 197 #[.slice (some ⟨α 4, 0, none⟩) key.size key.size, .int .i32 0, .bool false, .bool false, .bool false] := rfl
  have e14 : R9 (fun k => decide (k < 13)) α 4010 = row (α 4010) (clsT s) (clsC s loc (α 5010)) := rfl
  have e15 : R9 (fun k => decide (k < 13)) α 5010 = row (α 5010) (xtrT s) (xtrC s loc (α 4010)) := rfl
  have e16 : R9 (fun k => decide (k < 13)) α 6010 = row (α 6010) (thsT r) (thsC r) := rfl
  have e17 : R9 (fun k => decide (k < 13)) α 7010 = row (α 7010) 191 #[.int .u32 0, .int .u32 2, .bool false, .bool false, .bool false] := rfl
  have e18 : R9 (fun k => decide (k < 13)) α 8010 = row (α 8010) 255 #[.iface 189 (.pointer (some ⟨α 7010, 0, none⟩)), .int .i32 loc, .slice (some ⟨α 9010, 0, none⟩) 4 4, .int .i32 0, .int .u8 0, .int .u8 0, .bool false, .bool false] := rfl
  have e19 : R9 (fun k => decide (k < 13)) α 9010 = row (α 9010) 32 #[.iface (clsTy s) (.pointer (some ⟨α 11010, 0, none⟩)), .int .i32 loc, .iface (thsTy r) (.pointer (some ⟨α 13010, 0, none⟩)), .int .i32 loc, .iface 195 (.pointer (some ⟨α 10010, 0, none⟩)), .int .i32 loc, .iface 235 (.pointer (some ⟨α 14010, 0, none⟩)), .int .i32 loc] := rfl
  have e20 : R9 (fun k => decide (k < 13)) α 10010 = row (α 10010) 197 #[.slice (some ⟨α 4, 0, none⟩) key.size key.size, .int .i32 0, .bool false, .bool false, .bool false] := rfl
  have e21 : R9 (fun k => decide (k < 13)) α 11010 = row (α 11010) (clsT s) (clsC s loc (α 12010)) := rfl
  have e22 : R9 (fun k => decide (k < 13)) α 12010 = row (α 12010) (xtrT s) (xtrC s loc (α 11010)) := rfl
  have e23 : R9 (fun k => decide (k < 13)) α 13010 = row (α 13010) (thsT r) (thsC r) := rfl
  have e24 : R9 (fun k => decide (k < 13)) α 14010 = row (α 14010) 238 #[.iface 251 (.pointer (some ⟨α 1010, 0, none⟩)), .int .i32 loc, .iface 189 (.pointer (some ⟨α 9, 0, none⟩)), .int .i32 loc, .int .u8 op, .bool false] := rfl
  have e25 : R9 (fun k => decide (k < 13)) α 15010 = row (α 15010) 48 (full refZ ([.int .u32 0, .int .u32 1, .int .u32 0, .int .u32 2]) (α 18010)) := rfl
  have e26 : R9 (fun k => decide (k < 13)) α 11 = row (α 11) 32 #[.iface 251 (.pointer (some ⟨α 8010, 0, none⟩)), .int .i32 loc] := by
    show rlaw273T11 loc key op s r vm nd3 nd4 nd5 nd6 nd7 B8 B12 (fun k => decide (k < 13)) α = _
    unfold rlaw273T11
    rw [if_pos (by decide)]
  have hO : Own w0 u [row (B12) 48 #[.int .u32 3, .int .u32 vm], row (B8) 30 #[.int .i32 loc], row (α 16010) 74 (full symZ (symL ([sy ⟨#[70, 111, 111]⟩ (uz r (uz r 0)), sy ⟨#[95, 95, 115, 117, 112, 101, 114, 71, 101, 116]⟩ 1, sy ⟨#[95, 95, 115, 117, 112, 101, 114, 83, 101, 116]⟩ 1])) (α 17010)), row (nd4) 188 ((newSrstP r s nd3 nd5 nd6 nd7).setIfInBounds 106 (.slice (some ⟨α 16010, 0, none⟩) 3 (3 + (α 17010)))), ((nd5, .map #[⟨.string ⟨#[95, 95, 115, 117, 112, 101, 114, 71, 101, 116]⟩, .agg #[.int .i32 loc, .int .u32 0, .int .u32 1], 0⟩, ⟨.string ⟨#[95, 95, 115, 117, 112, 101, 114, 83, 101, 116]⟩, .agg #[.int .i32 loc, .int .u32 0, .int .u32 2], 1⟩] 2) : Rw), row (nd6) 223 (#[.pointer none, .pointer none, .slice none 0 0, .map none, .slice none 0 0, .slice none 0 0, .int .i32 0, .int .i32 0, .int .u32 0, .int .u32 0, .bool false, .bool false, .bool false, .bool false, .int .u8 0, .int .u8 6].setIfInBounds 5 (.slice (some ⟨α 15010, 0, none⟩) 2 (2 + (α 18010)))), row (nd7) 48 #[.int .u32 0, .int .u32 0], row (α 4) 69 (units key), row (α 5) 197 #[.slice (some ⟨α 4, 0, none⟩) key.size key.size, .int .i32 0, .bool false, .bool false, .bool false], row (α 9) 191 #[.int .u32 3, .int .u32 vm, .bool false, .bool false, .bool false], row (α 10) 191 #[.int .u32 0, .int .u32 1, .bool false, .bool false, .bool false], row (α 1010) 255 #[.iface 189 (.pointer (some ⟨α 10, 0, none⟩)), .int .i32 loc, .slice (some ⟨α 2010, 0, none⟩) 3 3, .int .i32 0, .int .u8 0, .int .u8 0, .bool false, .bool false], row (α 2010) 32 #[.iface (clsTy s) (.pointer (some ⟨α 4010, 0, none⟩)), .int .i32 loc, .iface (thsTy r) (.pointer (some ⟨α 6010, 0, none⟩)), .int .i32 loc, .iface 195 (.pointer (some ⟨α 3010, 0, none⟩)), .int .i32 loc], row (α 3010) 197 #[.slice (some ⟨α 4, 0, none⟩) key.size key.size, .int .i32 0, .bool false, .bool false, .bool false], row (α 4010) (clsT s) (clsC s loc (α 5010)), row (α 5010) (xtrT s) (xtrC s loc (α 4010)), row (α 6010) (thsT r) (thsC r), row (α 7010) 191 #[.int .u32 0, .int .u32 2, .bool false, .bool false, .bool false], row (α 8010) 255 #[.iface 189 (.pointer (some ⟨α 7010, 0, none⟩)), .int .i32 loc, .slice (some ⟨α 9010, 0, none⟩) 4 4, .int .i32 0, .int .u8 0, .int .u8 0, .bool false, .bool false], row (α 9010) 32 #[.iface (clsTy s) (.pointer (some ⟨α 11010, 0, none⟩)), .int .i32 loc, .iface (thsTy r) (.pointer (some ⟨α 13010, 0, none⟩)), .int .i32 loc, .iface 195 (.pointer (some ⟨α 10010, 0, none⟩)), .int .i32 loc, .iface 235 (.pointer (some ⟨α 14010, 0, none⟩)), .int .i32 loc], row (α 10010) 197 #[.slice (some ⟨α 4, 0, none⟩) key.size key.size, .int .i32 0, .bool false, .bool false, .bool false], row (α 11010) (clsT s) (clsC s loc (α 12010)), row (α 12010) (xtrT s) (xtrC s loc (α 11010)), row (α 13010) (thsT r) (thsC r), row (α 14010) 238 #[.iface 251 (.pointer (some ⟨α 1010, 0, none⟩)), .int .i32 loc, .iface 189 (.pointer (some ⟨α 9, 0, none⟩)), .int .i32 loc, .int .u8 op, .bool false], row (α 15010) 48 (full refZ ([.int .u32 0, .int .u32 1, .int .u32 0, .int .u32 2]) (α 18010)), row (α 11) 32 #[.iface 251 (.pointer (some ⟨α 8010, 0, none⟩)), .int .i32 loc]] X9_14 := (hG.list [999, 1999, 2999, 3999, 4999, 5999, 6999, 4, 5, 9, 10, 1010, 2010, 3010, 4010, 5010, 6010, 7010, 8010, 9010, 10010, 11010, 12010, 13010, 14010, 15010, 11] (by decide) (act_all (by decide))).conv (by
    show [R9 (fun k => decide (k < 13)) α 999, R9 (fun k => decide (k < 13)) α 1999, R9 (fun k => decide (k < 13)) α 2999, R9 (fun k => decide (k < 13)) α 3999, R9 (fun k => decide (k < 13)) α 4999, R9 (fun k => decide (k < 13)) α 5999, R9 (fun k => decide (k < 13)) α 6999, R9 (fun k => decide (k < 13)) α 4, R9 (fun k => decide (k < 13)) α 5, R9 (fun k => decide (k < 13)) α 9, R9 (fun k => decide (k < 13)) α 10, R9 (fun k => decide (k < 13)) α 1010, R9 (fun k => decide (k < 13)) α 2010, R9 (fun k => decide (k < 13)) α 3010, R9 (fun k => decide (k < 13)) α 4010, R9 (fun k => decide (k < 13)) α 5010, R9 (fun k => decide (k < 13)) α 6010, R9 (fun k => decide (k < 13)) α 7010, R9 (fun k => decide (k < 13)) α 8010, R9 (fun k => decide (k < 13)) α 9010, R9 (fun k => decide (k < 13)) α 10010, R9 (fun k => decide (k < 13)) α 11010, R9 (fun k => decide (k < 13)) α 12010, R9 (fun k => decide (k < 13)) α 13010, R9 (fun k => decide (k < 13)) α 14010, R9 (fun k => decide (k < 13)) α 15010, R9 (fun k => decide (k < 13)) α 11] = _
    rw [e0, e1, e2, e3, e4, e5, e6, e7, e8, e9, e10, e11, e12, e13, e14, e15, e16, e17, e18, e19, e20, e21, e22, e23, e24, e25, e26])
  clear hG e0 e1 e2 e3 e4 e5 e6 e7 e8 e9 e10 e11 e12 e13 e14 e15 e16 e17 e18 e19 e20 e21 e22 e23 e24 e25 e26 R9
  generalize hfr : Rega.frameAt _ _ _ _ _ = fr
  have hdf : fr = ⟨#[.int .i32 loc, .string key, .int .u8 op, .bool s, .bool r, .int .u32 vm, undef, undef, undef, undef, undef, undef, .bool false, .pointer (some ⟨B1, 0, none⟩), .pointer (some ⟨nd4, 0, none⟩), .pointer (some ⟨B8, 0, none⟩), .slice (some ⟨nd11, 0, none⟩) key.size key.size, .pointer (some ⟨B12, 0, none⟩), .pointer (some ⟨α 11, 0, none⟩), undef, undef, undef, undef, undef, undef, undef, undef, undef, undef, undef, undef, undef, undef, undef, .int .i32 loc, .string key, .int .u8 op, .bool s, .bool r, .int .u32 vm, .bool true, .bool false, .string key, .int .i64 (key.size : Int), .bool (decide (65536 < (key.size : Int))), .agg #[.int .u32 0, .int .u32 0], .slice (some ⟨nd3, 0, none⟩) 1 1, .agg #[.int .u32 0, .int .u32 0], .bool s, .bool r, .pointer (some ⟨nd4, 0, none⟩), .int .i32 loc, .agg #[.int .i32 loc], .string key, .slice (some ⟨nd11, 0, none⟩) key.size key.size, .int .u32 vm, .agg #[.int .u32 3, .int .u32 vm], .pointer (some ⟨nd4, 0, none⟩), .agg #[.int .i32 loc], .int .i32 loc, .string key, .slice (some ⟨α 4, 0, none⟩) key.size key.size, .agg #[.iface 195 (.pointer (some ⟨α 5, 0, none⟩)), .int .i32 loc], .int .u8 op, .int .i32 loc, .agg #[.int .u32 3, .int .u32 vm], .agg #[.iface 189 (.pointer (some ⟨α 9, 0, none⟩)), .int .i32 loc], .agg #[.iface 251 (.pointer (some ⟨α 8010, 0, none⟩)), .int .i32 loc], undef, undef, undef, undef, undef, undef, undef, undef, undef, undef, undef, undef, undef, undef, undef, undef, undef, undef, undef, undef, undef, undef, undef, undef, undef, undef, undef, undef, undef, undef, undef, undef, undef, undef, undef, undef, undef, undef, undef, undef, undef, undef, undef, undef, undef, undef, undef, undef, undef, undef, undef, undef, undef, undef, undef, undef, undef, undef, undef, undef, undef, undef, undef, undef, undef, undef, undef, undef, undef, undef, undef, undef, undef, undef, undef, undef, undef, undef, undef, undef, undef, undef, undef, undef, undef, undef, undef, undef, undef, undef, undef, undef, undef, undef, undef, undef, undef, undef, undef, undef, undef, undef, undef, undef, undef, undef, undef, undef, undef, undef, undef, undef, undef, undef, undef, undef, undef, undef, undef, undef, undef, undef, undef, undef, undef, undef, undef, undef, undef, undef, undef, undef, undef, undef, undef, undef, undef, undef, undef, undef, undef, undef, undef, undef, undef, undef, undef, undef, undef, undef, undef, undef, undef, undef, undef, undef, undef, undef, undef, undef, undef, undef, undef, undef, undef, undef, undef], []⟩ := by rw [← hfr]; kernel_rfl
  clear hfr
  subst hdf
  generalize α 4 = nd15 at hO ⊢
  generalize α 5 = nd16 at hO ⊢
  generalize α 9 = nd17 at hO ⊢
  generalize α 10 = nd18 at hO ⊢
  generalize α 11 = nd19 at hO ⊢
  generalize α 1010 = nd20 at hO ⊢
  generalize α 2010 = nd21 at hO ⊢
  generalize α 3010 = nd22 at hO ⊢
  generalize α 4010 = nd23 at hO ⊢
  generalize α 5010 = nd24 at hO ⊢
  generalize α 6010 = nd25 at hO ⊢
  generalize α 7010 = nd26 at hO ⊢
  generalize α 8010 = nd27 at hO ⊢
  generalize α 9010 = nd28 at hO ⊢
  generalize α 10010 = nd29 at hO ⊢
  generalize α 11010 = nd30 at hO ⊢
  generalize α 12010 = nd31 at hO ⊢
  generalize α 13010 = nd32 at hO ⊢
  generalize α 14010 = nd33 at hO ⊢
  generalize α 15010 = nd34 at hO ⊢
  generalize α 16010 = nd35 at hO ⊢
  generalize α 17010 = nd36 at hO ⊢
  generalize α 18010 = nd37 at hO ⊢
  clear α
  subst hX9_14
  have hN : Own w0 u [row (B12) 48 #[.int .u32 3, .int .u32 vm], row (B8) 30 #[.int .i32 loc], row (nd35) 74 (full symZ (symL ([sy ⟨#[70, 111, 111]⟩ (uz r (uz r 0)), sy ⟨#[95, 95, 115, 117, 112, 101, 114, 71, 101, 116]⟩ 1, sy ⟨#[95, 95, 115, 117, 112, 101, 114, 83, 101, 116]⟩ 1])) (nd36)), row (nd4) 188 ((newSrstP r s nd3 nd5 nd6 nd7).setIfInBounds 106 (.slice (some ⟨nd35, 0, none⟩) 3 (3 + (nd36)))), ((nd5, .map #[⟨.string ⟨#[95, 95, 115, 117, 112, 101, 114, 71, 101, 116]⟩, .agg #[.int .i32 loc, .int .u32 0, .int .u32 1], 0⟩, ⟨.string ⟨#[95, 95, 115, 117, 112, 101, 114, 83, 101, 116]⟩, .agg #[.int .i32 loc, .int .u32 0, .int .u32 2], 1⟩] 2) : Rw), row (nd6) 223 (#[.pointer none, .pointer none, .slice none 0 0, .map none, .slice none 0 0, .slice none 0 0, .int .i32 0, .int .i32 0, .int .u32 0, .int .u32 0, .bool false, .bool false, .bool false, .bool false, .int .u8 0, .int .u8 6].setIfInBounds 5 (.slice (some ⟨nd34, 0, none⟩) 2 (2 + (nd37)))), row (nd7) 48 #[.int .u32 0, .int .u32 0], row (nd15) 69 (units key), row (nd16) 197 #[.slice (some ⟨nd15, 0, none⟩) key.size key.size, .int .i32 0, .bool false, .bool false, .bool false], row (nd17) 191 #[.int .u32 3, .int .u32 vm, .bool false, .bool false, .bool false], row (nd18) 191 #[.int .u32 0, .int .u32 1, .bool false, .bool false, .bool false], row (nd20) 255 #[.iface 189 (.pointer (some ⟨nd18, 0, none⟩)), .int .i32 loc, .slice (some ⟨nd21, 0, none⟩) 3 3, .int .i32 0, .int .u8 0, .int .u8 0, .bool false, .bool false], row (nd21) 32 #[.iface (clsTy s) (.pointer (some ⟨nd23, 0, none⟩)), .int .i32 loc, .iface (thsTy r) (.pointer (some ⟨nd25, 0, none⟩)), .int .i32 loc, .iface 195 (.pointer (some ⟨nd22, 0, none⟩)), .int .i32 loc], row (nd22) 197 #[.slice (some ⟨nd15, 0, none⟩) key.size key.size, .int .i32 0, .bool false, .bool false, .bool false], row (nd23) (clsT s) (clsC s loc (nd24)), row (nd24) (xtrT s) (xtrC s loc (nd23)), row (nd25) (thsT r) (thsC r), row (nd26) 191 #[.int .u32 0, .int .u32 2, .bool false, .bool false, .bool false], row (nd27) 255 #[.iface 189 (.pointer (some ⟨nd26, 0, none⟩)), .int .i32 loc, .slice (some ⟨nd28, 0, none⟩) 4 4, .int .i32 0, .int .u8 0, .int .u8 0, .bool false, .bool false], row (nd28) 32 #[.iface (clsTy s) (.pointer (some ⟨nd30, 0, none⟩)), .int .i32 loc, .iface (thsTy r) (.pointer (some ⟨nd32, 0, none⟩)), .int .i32 loc, .iface 195 (.pointer (some ⟨nd29, 0, none⟩)), .int .i32 loc, .iface 235 (.pointer (some ⟨nd33, 0, none⟩)), .int .i32 loc], row (nd29) 197 #[.slice (some ⟨nd15, 0, none⟩) key.size key.size, .int .i32 0, .bool false, .bool false, .bool false], row (nd30) (clsT s) (clsC s loc (nd31)), row (nd31) (xtrT s) (xtrC s loc (nd30)), row (nd32) (thsT r) (thsC r), row (nd33) 238 #[.iface 251 (.pointer (some ⟨nd20, 0, none⟩)), .int .i32 loc, .iface 189 (.pointer (some ⟨nd17, 0, none⟩)), .int .i32 loc, .int .u8 op, .bool false], row (nd34) 48 (full refZ ([.int .u32 0, .int .u32 1, .int .u32 0, .int .u32 2]) (nd37)), row (nd19) 32 #[.iface 251 (.pointer (some ⟨nd27, 0, none⟩)), .int .i32 loc], row (nd11) 69 (units key), row (B1) 48 #[.int .u32 0, .int .u32 0]] X := hO.back HL.out HX.out [1, 3] (by decide) (by decide)
  clear hO HL HX
  have hO := hN
  clear hN
  have hN : Own w0 u [row (B12) 48 #[.int .u32 3, .int .u32 vm], row (B8) 30 #[.int .i32 loc], row (nd35) 74 (full symZ (symL ([sy ⟨#[70, 111, 111]⟩ (uz r (uz r 0)), sy ⟨#[95, 95, 115, 117, 112, 101, 114, 71, 101, 116]⟩ 1, sy ⟨#[95, 95, 115, 117, 112, 101, 114, 83, 101, 116]⟩ 1])) (nd36)), row (nd4) 188 ((newSrstP r s nd3 nd5 nd6 nd7).setIfInBounds 106 (.slice (some ⟨nd35, 0, none⟩) 3 (3 + (nd36)))), ((nd5, .map #[⟨.string ⟨#[95, 95, 115, 117, 112, 101, 114, 71, 101, 116]⟩, .agg #[.int .i32 loc, .int .u32 0, .int .u32 1], 0⟩, ⟨.string ⟨#[95, 95, 115, 117, 112, 101, 114, 83, 101, 116]⟩, .agg #[.int .i32 loc, .int .u32 0, .int .u32 2], 1⟩] 2) : Rw), row (nd6) 223 #[.pointer none, .pointer none, .slice none 0 0, .map none, .slice none 0 0, .slice (some ⟨nd34, 0, none⟩) 2 (2 + (nd37)), .int .i32 0, .int .i32 0, .int .u32 0, .int .u32 0, .bool false, .bool false, .bool false, .bool false, .int .u8 0, .int .u8 6], row (nd7) 48 #[.int .u32 0, .int .u32 0], row (nd15) 69 (units key), row (nd16) 197 #[.slice (some ⟨nd15, 0, none⟩) key.size key.size, .int .i32 0, .bool false, .bool false, .bool false], row (nd17) 191 #[.int .u32 3, .int .u32 vm, .bool false, .bool false, .bool false], row (nd18) 191 #[.int .u32 0, .int .u32 1, .bool false, .bool false, .bool false], row (nd20) 255 #[.iface 189 (.pointer (some ⟨nd18, 0, none⟩)), .int .i32 loc, .slice (some ⟨nd21, 0, none⟩) 3 3, .int .i32 0, .int .u8 0, .int .u8 0, .bool false, .bool false], row (nd21) 32 #[.iface (clsTy s) (.pointer (some ⟨nd23, 0, none⟩)), .int .i32 loc, .iface (thsTy r) (.pointer (some ⟨nd25, 0, none⟩)), .int .i32 loc, .iface 195 (.pointer (some ⟨nd22, 0, none⟩)), .int .i32 loc], row (nd22) 197 #[.slice (some ⟨nd15, 0, none⟩) key.size key.size, .int .i32 0, .bool false, .bool false, .bool false], row (nd23) (clsT s) (clsC s loc (nd24)), row (nd24) (xtrT s) (xtrC s loc (nd23)), row (nd25) (thsT r) (thsC r), row (nd26) 191 #[.int .u32 0, .int .u32 2, .bool false, .bool false, .bool false], row (nd27) 255 #[.iface 189 (.pointer (some ⟨nd26, 0, none⟩)), .int .i32 loc, .slice (some ⟨nd28, 0, none⟩) 4 4, .int .i32 0, .int .u8 0, .int .u8 0, .bool false, .bool false], row (nd28) 32 #[.iface (clsTy s) (.pointer (some ⟨nd30, 0, none⟩)), .int .i32 loc, .iface (thsTy r) (.pointer (some ⟨nd32, 0, none⟩)), .int .i32 loc, .iface 195 (.pointer (some ⟨nd29, 0, none⟩)), .int .i32 loc, .iface 235 (.pointer (some ⟨nd33, 0, none⟩)), .int .i32 loc], row (nd29) 197 #[.slice (some ⟨nd15, 0, none⟩) key.size key.size, .int .i32 0, .bool false, .bool false, .bool false], row (nd30) (clsT s) (clsC s loc (nd31)), row (nd31) (xtrT s) (xtrC s loc (nd30)), row (nd32) (thsT r) (thsC r), row (nd33) 238 #[.iface 251 (.pointer (some ⟨nd20, 0, none⟩)), .int .i32 loc, .iface 189 (.pointer (some ⟨nd17, 0, none⟩)), .int .i32 loc, .int .u8 op, .bool false], row (nd34) 48 (full refZ [.int .u32 0, .int .u32 1, .int .u32 0, .int .u32 2] (nd37)), row (nd19) 32 #[.iface 251 (.pointer (some ⟨nd27, 0, none⟩)), .int .i32 loc], row (nd11) 69 (units key), row (B1) 48 #[.int .u32 0, .int .u32 0]] X := hO
  clear hO
  have hO := hN
  clear hN
  obtain ⟨c9_0_0, c9_0_1, lt9_0, y9_0, -⟩ := hO.k2 0 rfl
  obtain ⟨c9_1_0, lt9_1, y9_1, -⟩ := hO.k1 1 rfl
  obtain ⟨c9_6_0, c9_6_1, lt9_6, y9_6, -⟩ := hO.k2 6 rfl
  obtain ⟨c9_8_0, c9_8_1, c9_8_2, c9_8_3, c9_8_4, lt9_8, y9_8, -⟩ := hO.k5 8 rfl
  obtain ⟨c9_9_0, c9_9_1, c9_9_2, c9_9_3, c9_9_4, lt9_9, y9_9, -⟩ := hO.k5 9 rfl
  obtain ⟨c9_10_0, c9_10_1, c9_10_2, c9_10_3, c9_10_4, lt9_10, y9_10, -⟩ := hO.k5 10 rfl
  obtain ⟨c9_11_0, c9_11_1, c9_11_2, c9_11_3, c9_11_4, c9_11_5, c9_11_6, c9_11_7, lt9_11, y9_11, -⟩ := hO.k8 11 rfl
  obtain ⟨c9_12_0, c9_12_1, c9_12_2, c9_12_3, c9_12_4, c9_12_5, lt9_12, y9_12, -⟩ := hO.k6 12 rfl
  obtain ⟨c9_13_0, c9_13_1, c9_13_2, c9_13_3, c9_13_4, lt9_13, y9_13, -⟩ := hO.k5 13 rfl
  obtain ⟨c9_17_0, c9_17_1, c9_17_2, c9_17_3, c9_17_4, lt9_17, y9_17, -⟩ := hO.k5 17 rfl
  obtain ⟨c9_18_0, c9_18_1, c9_18_2, c9_18_3, c9_18_4, c9_18_5, c9_18_6, c9_18_7, lt9_18, y9_18, -⟩ := hO.k8 18 rfl
  obtain ⟨c9_19_0, c9_19_1, c9_19_2, c9_19_3, c9_19_4, c9_19_5, c9_19_6, c9_19_7, lt9_19, y9_19, -⟩ := hO.k8 19 rfl
  obtain ⟨c9_20_0, c9_20_1, c9_20_2, c9_20_3, c9_20_4, lt9_20, y9_20, -⟩ := hO.k5 20 rfl
  obtain ⟨c9_24_0, c9_24_1, c9_24_2, c9_24_3, c9_24_4, c9_24_5, lt9_24, y9_24, -⟩ := hO.k6 24 rfl
  obtain ⟨c9_26_0, c9_26_1, lt9_26, y9_26, -⟩ := hO.k2 26 rfl
  obtain ⟨c9_28_0, c9_28_1, lt9_28, y9_28, -⟩ := hO.k2 28 rfl
  have HO := Lib.hid hO
  clear hO
  go_wp2_with (first | (with_reducible refine Own.stay (fn := Tryz.f5) ?_) | (first | (go_at_call 18; go_in)))
  try with_reducible refine Own.Stay.mk ?_
  have hO := HO.out
  clear HO c9_0_0 c9_0_1 lt9_0 y9_0 c9_1_0 lt9_1 y9_1 c9_6_0 c9_6_1 lt9_6 y9_6 c9_8_0 c9_8_1 c9_8_2 c9_8_3 c9_8_4 lt9_8 y9_8 c9_9_0 c9_9_1 c9_9_2 c9_9_3 c9_9_4 lt9_9 y9_9 c9_10_0 c9_10_1 c9_10_2 c9_10_3 c9_10_4 lt9_10 y9_10 c9_11_0 c9_11_1 c9_11_2 c9_11_3 c9_11_4 c9_11_5 c9_11_6 c9_11_7 lt9_11 y9_11 c9_12_0 c9_12_1 c9_12_2 c9_12_3 c9_12_4 c9_12_5 lt9_12 y9_12 c9_13_0 c9_13_1 c9_13_2 c9_13_3 c9_13_4 lt9_13 y9_13 c9_17_0 c9_17_1 c9_17_2 c9_17_3 c9_17_4 lt9_17 y9_17 c9_18_0 c9_18_1 c9_18_2 c9_18_3 c9_18_4 c9_18_5 c9_18_6 c9_18_7 lt9_18 y9_18 c9_19_0 c9_19_1 c9_19_2 c9_19_3 c9_19_4 c9_19_5 c9_19_6 c9_19_7 lt9_19 y9_19 c9_20_0 c9_20_1 c9_20_2 c9_20_3 c9_20_4 lt9_20 y9_20 c9_24_0 c9_24_1 c9_24_2 c9_24_3 c9_24_4 c9_24_5 lt9_24 y9_24 c9_26_0 c9_26_1 lt9_26 y9_26 c9_28_0 c9_28_1 lt9_28 y9_28
  have hL := hO.apart
  have hX := hO.apartX
  have HL := Lib.hid hL
  have HX := Lib.hid hX
  clear hL hX
  have hP9 := hO.pick [3, 4] (by decide)
  have h9_hyes : Instr.findNow .string (.string (⟨#[95, 95, 115, 117, 112, 101, 114, 83, 101, 116]⟩ : ByteArray)) (#[⟨.string ⟨#[95, 95, 115, 117, 112, 101, 114, 71, 101, 116]⟩, .agg #[.int .i32 loc, .int .u32 0, .int .u32 1], 0⟩, ⟨.string ⟨#[95, 95, 115, 117, 112, 101, 114, 83, 101, 116]⟩, .agg #[.int .i32 loc, .int .u32 0, .int .u32 2], 1⟩] : Array MapEntry).toList 0 = some (some (1, .agg #[.int .i32 loc, .int .u32 0, .int .u32 2])) := (by kernel_rfl)
  have T9 := impRefY nd4 ((newSrstP r s nd3 nd5 nd6 nd7).setIfInBounds 106 (.slice (some ⟨nd35, 0, none⟩) 3 (3 + nd36))) nd5 #[⟨.string ⟨#[95, 95, 115, 117, 112, 101, 114, 71, 101, 116]⟩, .agg #[.int .i32 loc, .int .u32 0, .int .u32 1], 0⟩, ⟨.string ⟨#[95, 95, 115, 117, 112, 101, 114, 83, 101, 116]⟩, .agg #[.int .i32 loc, .int .u32 0, .int .u32 2], 1⟩] 2 ⟨#[95, 95, 115, 117, 112, 101, 114, 83, 101, 116]⟩ 1 loc 0 2 _ _ _ hP9 (get_other (newSrst_117 r s (nd3) (nd5) (nd6) (nd7)) (by omega) _) h9_hyes
  refine Calls.mono T9 ?_
  clear hP9 T9 h9_hyes
  rintro e u38 ⟨rfl, hQ⟩
  have hN : Own w0 u38 [row (nd4) 188 ((newSrstP r s nd3 nd5 nd6 nd7).setIfInBounds 106 (.slice (some ⟨nd35, 0, none⟩) 3 (3 + nd36))), ((nd5, .map #[⟨.string ⟨#[95, 95, 115, 117, 112, 101, 114, 71, 101, 116]⟩, .agg #[.int .i32 loc, .int .u32 0, .int .u32 1], 0⟩, ⟨.string ⟨#[95, 95, 115, 117, 112, 101, 114, 83, 101, 116]⟩, .agg #[.int .i32 loc, .int .u32 0, .int .u32 2], 1⟩] 2) : Rw), row (B12) 48 #[.int .u32 3, .int .u32 vm], row (B8) 30 #[.int .i32 loc], row (nd35) 74 (full symZ (symL ([sy ⟨#[70, 111, 111]⟩ (uz r (uz r 0)), sy ⟨#[95, 95, 115, 117, 112, 101, 114, 71, 101, 116]⟩ 1, sy ⟨#[95, 95, 115, 117, 112, 101, 114, 83, 101, 116]⟩ 1])) (nd36)), row (nd6) 223 #[.pointer none, .pointer none, .slice none 0 0, .map none, .slice none 0 0, .slice (some ⟨nd34, 0, none⟩) 2 (2 + (nd37)), .int .i32 0, .int .i32 0, .int .u32 0, .int .u32 0, .bool false, .bool false, .bool false, .bool false, .int .u8 0, .int .u8 6], row (nd7) 48 #[.int .u32 0, .int .u32 0], row (nd15) 69 (units key), row (nd16) 197 #[.slice (some ⟨nd15, 0, none⟩) key.size key.size, .int .i32 0, .bool false, .bool false, .bool false], row (nd17) 191 #[.int .u32 3, .int .u32 vm, .bool false, .bool false, .bool false], row (nd18) 191 #[.int .u32 0, .int .u32 1, .bool false, .bool false, .bool false], row (nd20) 255 #[.iface 189 (.pointer (some ⟨nd18, 0, none⟩)), .int .i32 loc, .slice (some ⟨nd21, 0, none⟩) 3 3, .int .i32 0, .int .u8 0, .int .u8 0, .bool false, .bool false], row (nd21) 32 #[.iface (clsTy s) (.pointer (some ⟨nd23, 0, none⟩)), .int .i32 loc, .iface (thsTy r) (.pointer (some ⟨nd25, 0, none⟩)), .int .i32 loc, .iface 195 (.pointer (some ⟨nd22, 0, none⟩)), .int .i32 loc], row (nd22) 197 #[.slice (some ⟨nd15, 0, none⟩) key.size key.size, .int .i32 0, .bool false, .bool false, .bool false], row (nd23) (clsT s) (clsC s loc (nd24)), row (nd24) (xtrT s) (xtrC s loc (nd23)), row (nd25) (thsT r) (thsC r), row (nd26) 191 #[.int .u32 0, .int .u32 2, .bool false, .bool false, .bool false], row (nd27) 255 #[.iface 189 (.pointer (some ⟨nd26, 0, none⟩)), .int .i32 loc, .slice (some ⟨nd28, 0, none⟩) 4 4, .int .i32 0, .int .u8 0, .int .u8 0, .bool false, .bool false], row (nd28) 32 #[.iface (clsTy s) (.pointer (some ⟨nd30, 0, none⟩)), .int .i32 loc, .iface (thsTy r) (.pointer (some ⟨nd32, 0, none⟩)), .int .i32 loc, .iface 195 (.pointer (some ⟨nd29, 0, none⟩)), .int .i32 loc, .iface 235 (.pointer (some ⟨nd33, 0, none⟩)), .int .i32 loc], row (nd29) 197 #[.slice (some ⟨nd15, 0, none⟩) key.size key.size, .int .i32 0, .bool false, .bool false, .bool false], row (nd30) (clsT s) (clsC s loc (nd31)), row (nd31) (xtrT s) (xtrC s loc (nd30)), row (nd32) (thsT r) (thsC r), row (nd33) 238 #[.iface 251 (.pointer (some ⟨nd20, 0, none⟩)), .int .i32 loc, .iface 189 (.pointer (some ⟨nd17, 0, none⟩)), .int .i32 loc, .int .u8 op, .bool false], row (nd34) 48 (full refZ [.int .u32 0, .int .u32 1, .int .u32 0, .int .u32 2] (nd37)), row (nd19) 32 #[.iface 251 (.pointer (some ⟨nd27, 0, none⟩)), .int .i32 loc], row (nd11) 69 (units key), row (B1) 48 #[.int .u32 0, .int .u32 0]] X := hQ.back HL.out HX.out [0, 1, 2, 5, 6, 7, 8, 9, 10, 11, 12, 13, 14, 15, 16, 17, 18, 19, 20, 21, 22, 23, 24, 25, 26, 27, 28] (by decide) (by decide)
  clear hQ HL HX hO
  have hO := hN
  clear hN
  have hN : Own w0 u38 [row (nd4) 188 ((newSrstP r s nd3 nd5 nd6 nd7).setIfInBounds 106 (.slice (some ⟨nd35, 0, none⟩) 3 (3 + nd36))), ((nd5, .map #[⟨.string ⟨#[95, 95, 115, 117, 112, 101, 114, 71, 101, 116]⟩, .agg #[.int .i32 loc, .int .u32 0, .int .u32 1], 0⟩, ⟨.string ⟨#[95, 95, 115, 117, 112, 101, 114, 83, 101, 116]⟩, .agg #[.int .i32 loc, .int .u32 0, .int .u32 2], 1⟩] 2) : Rw), row (B12) 48 #[.int .u32 3, .int .u32 vm], row (B8) 30 #[.int .i32 loc], row (nd35) 74 (full symZ (symL ([sy ⟨#[70, 111, 111]⟩ (uz r (uz r 0)), sy ⟨#[95, 95, 115, 117, 112, 101, 114, 71, 101, 116]⟩ 1, sy ⟨#[95, 95, 115, 117, 112, 101, 114, 83, 101, 116]⟩ 1])) (nd36)), row (nd15) 69 (units key), row (nd16) 197 #[.slice (some ⟨nd15, 0, none⟩) key.size key.size, .int .i32 0, .bool false, .bool false, .bool false], row (nd17) 191 #[.int .u32 3, .int .u32 vm, .bool false, .bool false, .bool false], row (nd18) 191 #[.int .u32 0, .int .u32 1, .bool false, .bool false, .bool false], row (nd20) 255 #[.iface 189 (.pointer (some ⟨nd18, 0, none⟩)), .int .i32 loc, .slice (some ⟨nd21, 0, none⟩) 3 3, .int .i32 0, .int .u8 0, .int .u8 0, .bool false, .bool false], row (nd21) 32 #[.iface (clsTy s) (.pointer (some ⟨nd23, 0, none⟩)), .int .i32 loc, .iface (thsTy r) (.pointer (some ⟨nd25, 0, none⟩)), .int .i32 loc, .iface 195 (.pointer (some ⟨nd22, 0, none⟩)), .int .i32 loc], row (nd22) 197 #[.slice (some ⟨nd15, 0, none⟩) key.size key.size, .int .i32 0, .bool false, .bool false, .bool false], row (nd23) (clsT s) (clsC s loc (nd24)), row (nd24) (xtrT s) (xtrC s loc (nd23)), row (nd25) (thsT r) (thsC r), row (nd26) 191 #[.int .u32 0, .int .u32 2, .bool false, .bool false, .bool false], row (nd27) 255 #[.iface 189 (.pointer (some ⟨nd26, 0, none⟩)), .int .i32 loc, .slice (some ⟨nd28, 0, none⟩) 4 4, .int .i32 0, .int .u8 0, .int .u8 0, .bool false, .bool false], row (nd28) 32 #[.iface (clsTy s) (.pointer (some ⟨nd30, 0, none⟩)), .int .i32 loc, .iface (thsTy r) (.pointer (some ⟨nd32, 0, none⟩)), .int .i32 loc, .iface 195 (.pointer (some ⟨nd29, 0, none⟩)), .int .i32 loc, .iface 235 (.pointer (some ⟨nd33, 0, none⟩)), .int .i32 loc], row (nd29) 197 #[.slice (some ⟨nd15, 0, none⟩) key.size key.size, .int .i32 0, .bool false, .bool false, .bool false], row (nd30) (clsT s) (clsC s loc (nd31)), row (nd31) (xtrT s) (xtrC s loc (nd30)), row (nd32) (thsT r) (thsC r), row (nd33) 238 #[.iface 251 (.pointer (some ⟨nd20, 0, none⟩)), .int .i32 loc, .iface 189 (.pointer (some ⟨nd17, 0, none⟩)), .int .i32 loc, .int .u8 op, .bool false], row (nd19) 32 #[.iface 251 (.pointer (some ⟨nd27, 0, none⟩)), .int .i32 loc], row (nd11) 69 (units key), row (B1) 48 #[.int .u32 0, .int .u32 0]] X := hO.sub [0, 1, 2, 3, 4, 7, 8, 9, 10, 11, 12, 13, 14, 15, 16, 17, 18, 19, 20, 21, 22, 23, 24, 26, 27, 28] (by decide)
  clear hO
  have hO := hN
  clear hN
  obtain ⟨c9_2_0, c9_2_1, lt9_2, y9_2, -⟩ := hO.k2 2 rfl
  obtain ⟨c9_3_0, lt9_3, y9_3, -⟩ := hO.k1 3 rfl
  obtain ⟨c9_6_0, c9_6_1, c9_6_2, c9_6_3, c9_6_4, lt9_6, y9_6, -⟩ := hO.k5 6 rfl
  obtain ⟨c9_7_0, c9_7_1, c9_7_2, c9_7_3, c9_7_4, lt9_7, y9_7, -⟩ := hO.k5 7 rfl
  obtain ⟨c9_8_0, c9_8_1, c9_8_2, c9_8_3, c9_8_4, lt9_8, y9_8, -⟩ := hO.k5 8 rfl
  obtain ⟨c9_9_0, c9_9_1, c9_9_2, c9_9_3, c9_9_4, c9_9_5, c9_9_6, c9_9_7, lt9_9, y9_9, -⟩ := hO.k8 9 rfl
  obtain ⟨c9_10_0, c9_10_1, c9_10_2, c9_10_3, c9_10_4, c9_10_5, lt9_10, y9_10, -⟩ := hO.k6 10 rfl
  obtain ⟨c9_11_0, c9_11_1, c9_11_2, c9_11_3, c9_11_4, lt9_11, y9_11, -⟩ := hO.k5 11 rfl
  obtain ⟨c9_15_0, c9_15_1, c9_15_2, c9_15_3, c9_15_4, lt9_15, y9_15, -⟩ := hO.k5 15 rfl
  obtain ⟨c9_16_0, c9_16_1, c9_16_2, c9_16_3, c9_16_4, c9_16_5, c9_16_6, c9_16_7, lt9_16, y9_16, -⟩ := hO.k8 16 rfl
  obtain ⟨c9_17_0, c9_17_1, c9_17_2, c9_17_3, c9_17_4, c9_17_5, c9_17_6, c9_17_7, lt9_17, y9_17, -⟩ := hO.k8 17 rfl
  obtain ⟨c9_18_0, c9_18_1, c9_18_2, c9_18_3, c9_18_4, lt9_18, y9_18, -⟩ := hO.k5 18 rfl
  obtain ⟨c9_22_0, c9_22_1, c9_22_2, c9_22_3, c9_22_4, c9_22_5, lt9_22, y9_22, -⟩ := hO.k6 22 rfl
  obtain ⟨c9_23_0, c9_23_1, lt9_23, y9_23, -⟩ := hO.k2 23 rfl
  obtain ⟨c9_25_0, c9_25_1, lt9_25, y9_25, -⟩ := hO.k2 25 rfl
  have HO := Lib.hid hO
  clear hO
  go_wp2_with (first | (with_reducible refine Own.stay (fn := Tryz.f5) ?_) | (first | (go_at_call 18; go_in)))
  try with_reducible refine Own.Stay.mk ?_
  have hO := HO.out
  clear HO c9_2_0 c9_2_1 lt9_2 y9_2 c9_3_0 lt9_3 y9_3 c9_6_0 c9_6_1 c9_6_2 c9_6_3 c9_6_4 lt9_6 y9_6 c9_7_0 c9_7_1 c9_7_2 c9_7_3 c9_7_4 lt9_7 y9_7 c9_8_0 c9_8_1 c9_8_2 c9_8_3 c9_8_4 lt9_8 y9_8 c9_9_0 c9_9_1 c9_9_2 c9_9_3 c9_9_4 c9_9_5 c9_9_6 c9_9_7 lt9_9 y9_9 c9_10_0 c9_10_1 c9_10_2 c9_10_3 c9_10_4 c9_10_5 lt9_10 y9_10 c9_11_0 c9_11_1 c9_11_2 c9_11_3 c9_11_4 lt9_11 y9_11 c9_15_0 c9_15_1 c9_15_2 c9_15_3 c9_15_4 lt9_15 y9_15 c9_16_0 c9_16_1 c9_16_2 c9_16_3 c9_16_4 c9_16_5 c9_16_6 c9_16_7 lt9_16 y9_16 c9_17_0 c9_17_1 c9_17_2 c9_17_3 c9_17_4 c9_17_5 c9_17_6 c9_17_7 lt9_17 y9_17 c9_18_0 c9_18_1 c9_18_2 c9_18_3 c9_18_4 lt9_18 y9_18 c9_22_0 c9_22_1 c9_22_2 c9_22_3 c9_22_4 c9_22_5 lt9_22 y9_22 c9_23_0 c9_23_1 lt9_23 y9_23 c9_25_0 c9_25_1 lt9_25 y9_25
  generalize hW : World.alloc _ _ = W40
  have hN : Own w0 W40 [row (u38.heap.size) 48 #[.int .u32 0, .int .u32 2], row (nd4) 188 ((newSrstP r s nd3 nd5 nd6 nd7).setIfInBounds 106 (.slice (some ⟨nd35, 0, none⟩) 3 (3 + nd36))), ((nd5, .map #[⟨.string ⟨#[95, 95, 115, 117, 112, 101, 114, 71, 101, 116]⟩, .agg #[.int .i32 loc, .int .u32 0, .int .u32 1], 0⟩, ⟨.string ⟨#[95, 95, 115, 117, 112, 101, 114, 83, 101, 116]⟩, .agg #[.int .i32 loc, .int .u32 0, .int .u32 2], 1⟩] 2) : Rw), row (B12) 48 #[.int .u32 3, .int .u32 vm], row (B8) 30 #[.int .i32 loc], row (nd35) 74 (full symZ (symL ([sy ⟨#[70, 111, 111]⟩ (uz r (uz r 0)), sy ⟨#[95, 95, 115, 117, 112, 101, 114, 71, 101, 116]⟩ 1, sy ⟨#[95, 95, 115, 117, 112, 101, 114, 83, 101, 116]⟩ 1])) (nd36)), row (nd15) 69 (units key), row (nd16) 197 #[.slice (some ⟨nd15, 0, none⟩) key.size key.size, .int .i32 0, .bool false, .bool false, .bool false], row (nd17) 191 #[.int .u32 3, .int .u32 vm, .bool false, .bool false, .bool false], row (nd18) 191 #[.int .u32 0, .int .u32 1, .bool false, .bool false, .bool false], row (nd20) 255 #[.iface 189 (.pointer (some ⟨nd18, 0, none⟩)), .int .i32 loc, .slice (some ⟨nd21, 0, none⟩) 3 3, .int .i32 0, .int .u8 0, .int .u8 0, .bool false, .bool false], row (nd21) 32 #[.iface (clsTy s) (.pointer (some ⟨nd23, 0, none⟩)), .int .i32 loc, .iface (thsTy r) (.pointer (some ⟨nd25, 0, none⟩)), .int .i32 loc, .iface 195 (.pointer (some ⟨nd22, 0, none⟩)), .int .i32 loc], row (nd22) 197 #[.slice (some ⟨nd15, 0, none⟩) key.size key.size, .int .i32 0, .bool false, .bool false, .bool false], row (nd23) (clsT s) (clsC s loc (nd24)), row (nd24) (xtrT s) (xtrC s loc (nd23)), row (nd25) (thsT r) (thsC r), row (nd26) 191 #[.int .u32 0, .int .u32 2, .bool false, .bool false, .bool false], row (nd27) 255 #[.iface 189 (.pointer (some ⟨nd26, 0, none⟩)), .int .i32 loc, .slice (some ⟨nd28, 0, none⟩) 4 4, .int .i32 0, .int .u8 0, .int .u8 0, .bool false, .bool false], row (nd28) 32 #[.iface (clsTy s) (.pointer (some ⟨nd30, 0, none⟩)), .int .i32 loc, .iface (thsTy r) (.pointer (some ⟨nd32, 0, none⟩)), .int .i32 loc, .iface 195 (.pointer (some ⟨nd29, 0, none⟩)), .int .i32 loc, .iface 235 (.pointer (some ⟨nd33, 0, none⟩)), .int .i32 loc], row (nd29) 197 #[.slice (some ⟨nd15, 0, none⟩) key.size key.size, .int .i32 0, .bool false, .bool false, .bool false], row (nd30) (clsT s) (clsC s loc (nd31)), row (nd31) (xtrT s) (xtrC s loc (nd30)), row (nd32) (thsT r) (thsC r), row (nd33) 238 #[.iface 251 (.pointer (some ⟨nd20, 0, none⟩)), .int .i32 loc, .iface 189 (.pointer (some ⟨nd17, 0, none⟩)), .int .i32 loc, .int .u8 op, .bool false], row (nd19) 32 #[.iface 251 (.pointer (some ⟨nd27, 0, none⟩)), .int .i32 loc], row (nd11) 69 (units key), row (B1) 48 #[.int .u32 0, .int .u32 0]] X := by
    rw [← hW]
    exact (hO).alloc' _ (u38.heap.size) (by simp)
  clear hW hO
  generalize u38.heap.size = B39 at hN ⊢
  have hO := hN
  clear hN
  have hL := hO.apart
  have hX := hO.apartX
  have HL := Lib.hid hL
  have HX := Lib.hid hX
  clear hL hX
  have hP9 := hO.pick [1, 2] (by decide)
  have h9_hyes : Instr.findNow .string (.string (⟨#[95, 95, 115, 117, 112, 101, 114, 71, 101, 116]⟩ : ByteArray)) (#[⟨.string ⟨#[95, 95, 115, 117, 112, 101, 114, 71, 101, 116]⟩, .agg #[.int .i32 loc, .int .u32 0, .int .u32 1], 0⟩, ⟨.string ⟨#[95, 95, 115, 117, 112, 101, 114, 83, 101, 116]⟩, .agg #[.int .i32 loc, .int .u32 0, .int .u32 2], 1⟩] : Array MapEntry).toList 0 = some (some (0, .agg #[.int .i32 loc, .int .u32 0, .int .u32 1])) := (by kernel_rfl)
  have T9 := impRefY nd4 ((newSrstP r s nd3 nd5 nd6 nd7).setIfInBounds 106 (.slice (some ⟨nd35, 0, none⟩) 3 (3 + nd36))) nd5 #[⟨.string ⟨#[95, 95, 115, 117, 112, 101, 114, 71, 101, 116]⟩, .agg #[.int .i32 loc, .int .u32 0, .int .u32 1], 0⟩, ⟨.string ⟨#[95, 95, 115, 117, 112, 101, 114, 83, 101, 116]⟩, .agg #[.int .i32 loc, .int .u32 0, .int .u32 2], 1⟩] 2 ⟨#[95, 95, 115, 117, 112, 101, 114, 71, 101, 116]⟩ 0 loc 0 1 _ _ _ hP9 (get_other (newSrst_117 r s (nd3) (nd5) (nd6) (nd7)) (by omega) _) h9_hyes
  refine Calls.mono T9 ?_
  clear hP9 T9 h9_hyes
  rintro e u41 ⟨rfl, hQ⟩
  have hN : Own w0 u41 [row (nd4) 188 ((newSrstP r s nd3 nd5 nd6 nd7).setIfInBounds 106 (.slice (some ⟨nd35, 0, none⟩) 3 (3 + nd36))), ((nd5, .map #[⟨.string ⟨#[95, 95, 115, 117, 112, 101, 114, 71, 101, 116]⟩, .agg #[.int .i32 loc, .int .u32 0, .int .u32 1], 0⟩, ⟨.string ⟨#[95, 95, 115, 117, 112, 101, 114, 83, 101, 116]⟩, .agg #[.int .i32 loc, .int .u32 0, .int .u32 2], 1⟩] 2) : Rw), row (B39) 48 #[.int .u32 0, .int .u32 2], row (B12) 48 #[.int .u32 3, .int .u32 vm], row (B8) 30 #[.int .i32 loc], row (nd35) 74 (full symZ (symL ([sy ⟨#[70, 111, 111]⟩ (uz r (uz r 0)), sy ⟨#[95, 95, 115, 117, 112, 101, 114, 71, 101, 116]⟩ 1, sy ⟨#[95, 95, 115, 117, 112, 101, 114, 83, 101, 116]⟩ 1])) (nd36)), row (nd15) 69 (units key), row (nd16) 197 #[.slice (some ⟨nd15, 0, none⟩) key.size key.size, .int .i32 0, .bool false, .bool false, .bool false], row (nd17) 191 #[.int .u32 3, .int .u32 vm, .bool false, .bool false, .bool false], row (nd18) 191 #[.int .u32 0, .int .u32 1, .bool false, .bool false, .bool false], row (nd20) 255 #[.iface 189 (.pointer (some ⟨nd18, 0, none⟩)), .int .i32 loc, .slice (some ⟨nd21, 0, none⟩) 3 3, .int .i32 0, .int .u8 0, .int .u8 0, .bool false, .bool false], row (nd21) 32 #[.iface (clsTy s) (.pointer (some ⟨nd23, 0, none⟩)), .int .i32 loc, .iface (thsTy r) (.pointer (some ⟨nd25, 0, none⟩)), .int .i32 loc, .iface 195 (.pointer (some ⟨nd22, 0, none⟩)), .int .i32 loc], row (nd22) 197 #[.slice (some ⟨nd15, 0, none⟩) key.size key.size, .int .i32 0, .bool false, .bool false, .bool false], row (nd23) (clsT s) (clsC s loc (nd24)), row (nd24) (xtrT s) (xtrC s loc (nd23)), row (nd25) (thsT r) (thsC r), row (nd26) 191 #[.int .u32 0, .int .u32 2, .bool false, .bool false, .bool false], row (nd27) 255 #[.iface 189 (.pointer (some ⟨nd26, 0, none⟩)), .int .i32 loc, .slice (some ⟨nd28, 0, none⟩) 4 4, .int .i32 0, .int .u8 0, .int .u8 0, .bool false, .bool false], row (nd28) 32 #[.iface (clsTy s) (.pointer (some ⟨nd30, 0, none⟩)), .int .i32 loc, .iface (thsTy r) (.pointer (some ⟨nd32, 0, none⟩)), .int .i32 loc, .iface 195 (.pointer (some ⟨nd29, 0, none⟩)), .int .i32 loc, .iface 235 (.pointer (some ⟨nd33, 0, none⟩)), .int .i32 loc], row (nd29) 197 #[.slice (some ⟨nd15, 0, none⟩) key.size key.size, .int .i32 0, .bool false, .bool false, .bool false], row (nd30) (clsT s) (clsC s loc (nd31)), row (nd31) (xtrT s) (xtrC s loc (nd30)), row (nd32) (thsT r) (thsC r), row (nd33) 238 #[.iface 251 (.pointer (some ⟨nd20, 0, none⟩)), .int .i32 loc, .iface 189 (.pointer (some ⟨nd17, 0, none⟩)), .int .i32 loc, .int .u8 op, .bool false], row (nd19) 32 #[.iface 251 (.pointer (some ⟨nd27, 0, none⟩)), .int .i32 loc], row (nd11) 69 (units key), row (B1) 48 #[.int .u32 0, .int .u32 0]] X := hQ.back HL.out HX.out [0, 3, 4, 5, 6, 7, 8, 9, 10, 11, 12, 13, 14, 15, 16, 17, 18, 19, 20, 21, 22, 23, 24, 25, 26] (by decide) (by decide)
  clear hQ HL HX hO
  have hO := hN
  clear hN
  have hN : Own w0 u41 [row (nd4) 188 ((newSrstP r s nd3 nd5 nd6 nd7).setIfInBounds 106 (.slice (some ⟨nd35, 0, none⟩) 3 (3 + nd36))), ((nd5, .map #[⟨.string ⟨#[95, 95, 115, 117, 112, 101, 114, 71, 101, 116]⟩, .agg #[.int .i32 loc, .int .u32 0, .int .u32 1], 0⟩, ⟨.string ⟨#[95, 95, 115, 117, 112, 101, 114, 83, 101, 116]⟩, .agg #[.int .i32 loc, .int .u32 0, .int .u32 2], 1⟩] 2) : Rw), row (B39) 48 #[.int .u32 0, .int .u32 2], row (B12) 48 #[.int .u32 3, .int .u32 vm], row (B8) 30 #[.int .i32 loc], row (nd35) 74 (full symZ (symL ([sy ⟨#[70, 111, 111]⟩ (uz r (uz r 0)), sy ⟨#[95, 95, 115, 117, 112, 101, 114, 71, 101, 116]⟩ 1, sy ⟨#[95, 95, 115, 117, 112, 101, 114, 83, 101, 116]⟩ 1])) (nd36)), row (nd15) 69 (units key), row (nd16) 197 #[.slice (some ⟨nd15, 0, none⟩) key.size key.size, .int .i32 0, .bool false, .bool false, .bool false], row (nd17) 191 #[.int .u32 3, .int .u32 vm, .bool false, .bool false, .bool false], row (nd18) 191 #[.int .u32 0, .int .u32 1, .bool false, .bool false, .bool false], row (nd20) 255 #[.iface 189 (.pointer (some ⟨nd18, 0, none⟩)), .int .i32 loc, .slice (some ⟨nd21, 0, none⟩) 3 3, .int .i32 0, .int .u8 0, .int .u8 0, .bool false, .bool false], row (nd21) 32 #[.iface (clsTy s) (.pointer (some ⟨nd23, 0, none⟩)), .int .i32 loc, .iface (thsTy r) (.pointer (some ⟨nd25, 0, none⟩)), .int .i32 loc, .iface 195 (.pointer (some ⟨nd22, 0, none⟩)), .int .i32 loc], row (nd22) 197 #[.slice (some ⟨nd15, 0, none⟩) key.size key.size, .int .i32 0, .bool false, .bool false, .bool false], row (nd23) (clsT s) (clsC s loc (nd24)), row (nd24) (xtrT s) (xtrC s loc (nd23)), row (nd25) (thsT r) (thsC r), row (nd26) 191 #[.int .u32 0, .int .u32 2, .bool false, .bool false, .bool false], row (nd27) 255 #[.iface 189 (.pointer (some ⟨nd26, 0, none⟩)), .int .i32 loc, .slice (some ⟨nd28, 0, none⟩) 4 4, .int .i32 0, .int .u8 0, .int .u8 0, .bool false, .bool false], row (nd28) 32 #[.iface (clsTy s) (.pointer (some ⟨nd30, 0, none⟩)), .int .i32 loc, .iface (thsTy r) (.pointer (some ⟨nd32, 0, none⟩)), .int .i32 loc, .iface 195 (.pointer (some ⟨nd29, 0, none⟩)), .int .i32 loc, .iface 235 (.pointer (some ⟨nd33, 0, none⟩)), .int .i32 loc], row (nd29) 197 #[.slice (some ⟨nd15, 0, none⟩) key.size key.size, .int .i32 0, .bool false, .bool false, .bool false], row (nd30) (clsT s) (clsC s loc (nd31)), row (nd31) (xtrT s) (xtrC s loc (nd30)), row (nd32) (thsT r) (thsC r), row (nd33) 238 #[.iface 251 (.pointer (some ⟨nd20, 0, none⟩)), .int .i32 loc, .iface 189 (.pointer (some ⟨nd17, 0, none⟩)), .int .i32 loc, .int .u8 op, .bool false], row (nd19) 32 #[.iface 251 (.pointer (some ⟨nd27, 0, none⟩)), .int .i32 loc], row (nd11) 69 (units key), row (B1) 48 #[.int .u32 0, .int .u32 0]] X := hO.sub [0, 1, 2, 3, 4, 5, 6, 7, 8, 9, 10, 11, 12, 13, 14, 15, 16, 17, 18, 19, 20, 21, 22, 23, 24, 25, 26] (by decide)
  clear hO
  have hO := hN
  clear hN
  obtain ⟨c9_2_0, c9_2_1, lt9_2, y9_2, -⟩ := hO.k2 2 rfl
  obtain ⟨c9_3_0, c9_3_1, lt9_3, y9_3, -⟩ := hO.k2 3 rfl
  obtain ⟨c9_4_0, lt9_4, y9_4, -⟩ := hO.k1 4 rfl
  obtain ⟨c9_7_0, c9_7_1, c9_7_2, c9_7_3, c9_7_4, lt9_7, y9_7, -⟩ := hO.k5 7 rfl
  obtain ⟨c9_8_0, c9_8_1, c9_8_2, c9_8_3, c9_8_4, lt9_8, y9_8, -⟩ := hO.k5 8 rfl
  obtain ⟨c9_9_0, c9_9_1, c9_9_2, c9_9_3, c9_9_4, lt9_9, y9_9, -⟩ := hO.k5 9 rfl
  obtain ⟨c9_10_0, c9_10_1, c9_10_2, c9_10_3, c9_10_4, c9_10_5, c9_10_6, c9_10_7, lt9_10, y9_10, -⟩ := hO.k8 10 rfl
  obtain ⟨c9_11_0, c9_11_1, c9_11_2, c9_11_3, c9_11_4, c9_11_5, lt9_11, y9_11, -⟩ := hO.k6 11 rfl
  obtain ⟨c9_12_0, c9_12_1, c9_12_2, c9_12_3, c9_12_4, lt9_12, y9_12, -⟩ := hO.k5 12 rfl
  obtain ⟨c9_16_0, c9_16_1, c9_16_2, c9_16_3, c9_16_4, lt9_16, y9_16, -⟩ := hO.k5 16 rfl
  obtain ⟨c9_17_0, c9_17_1, c9_17_2, c9_17_3, c9_17_4, c9_17_5, c9_17_6, c9_17_7, lt9_17, y9_17, -⟩ := hO.k8 17 rfl
  obtain ⟨c9_18_0, c9_18_1, c9_18_2, c9_18_3, c9_18_4, c9_18_5, c9_18_6, c9_18_7, lt9_18, y9_18, -⟩ := hO.k8 18 rfl
  obtain ⟨c9_19_0, c9_19_1, c9_19_2, c9_19_3, c9_19_4, lt9_19, y9_19, -⟩ := hO.k5 19 rfl
  obtain ⟨c9_23_0, c9_23_1, c9_23_2, c9_23_3, c9_23_4, c9_23_5, lt9_23, y9_23, -⟩ := hO.k6 23 rfl
  obtain ⟨c9_24_0, c9_24_1, lt9_24, y9_24, -⟩ := hO.k2 24 rfl
  obtain ⟨c9_26_0, c9_26_1, lt9_26, y9_26, -⟩ := hO.k2 26 rfl
  have HO := Lib.hid hO
  clear hO
  go_wp2_with (first | (with_reducible refine Own.stay (fn := Tryz.f5) ?_) | (first | (go_at_call 18; go_in)))
  try with_reducible refine Own.Stay.mk ?_
  have hO := HO.out
  clear HO c9_2_0 c9_2_1 lt9_2 y9_2 c9_3_0 c9_3_1 lt9_3 y9_3 c9_4_0 lt9_4 y9_4 c9_7_0 c9_7_1 c9_7_2 c9_7_3 c9_7_4 lt9_7 y9_7 c9_8_0 c9_8_1 c9_8_2 c9_8_3 c9_8_4 lt9_8 y9_8 c9_9_0 c9_9_1 c9_9_2 c9_9_3 c9_9_4 lt9_9 y9_9 c9_10_0 c9_10_1 c9_10_2 c9_10_3 c9_10_4 c9_10_5 c9_10_6 c9_10_7 lt9_10 y9_10 c9_11_0 c9_11_1 c9_11_2 c9_11_3 c9_11_4 c9_11_5 lt9_11 y9_11 c9_12_0 c9_12_1 c9_12_2 c9_12_3 c9_12_4 lt9_12 y9_12 c9_16_0 c9_16_1 c9_16_2 c9_16_3 c9_16_4 lt9_16 y9_16 c9_17_0 c9_17_1 c9_17_2 c9_17_3 c9_17_4 c9_17_5 c9_17_6 c9_17_7 lt9_17 y9_17 c9_18_0 c9_18_1 c9_18_2 c9_18_3 c9_18_4 c9_18_5 c9_18_6 c9_18_7 lt9_18 y9_18 c9_19_0 c9_19_1 c9_19_2 c9_19_3 c9_19_4 lt9_19 y9_19 c9_23_0 c9_23_1 c9_23_2 c9_23_3 c9_23_4 c9_23_5 lt9_23 y9_23 c9_24_0 c9_24_1 lt9_24 y9_24 c9_26_0 c9_26_1 lt9_26 y9_26
  generalize hW : World.alloc _ _ = W43
  have hN : Own w0 W43 [row (u41.heap.size) 48 #[.int .u32 0, .int .u32 1], row (nd4) 188 ((newSrstP r s nd3 nd5 nd6 nd7).setIfInBounds 106 (.slice (some ⟨nd35, 0, none⟩) 3 (3 + nd36))), ((nd5, .map #[⟨.string ⟨#[95, 95, 115, 117, 112, 101, 114, 71, 101, 116]⟩, .agg #[.int .i32 loc, .int .u32 0, .int .u32 1], 0⟩, ⟨.string ⟨#[95, 95, 115, 117, 112, 101, 114, 83, 101, 116]⟩, .agg #[.int .i32 loc, .int .u32 0, .int .u32 2], 1⟩] 2) : Rw), row (B39) 48 #[.int .u32 0, .int .u32 2], row (B12) 48 #[.int .u32 3, .int .u32 vm], row (B8) 30 #[.int .i32 loc], row (nd35) 74 (full symZ (symL ([sy ⟨#[70, 111, 111]⟩ (uz r (uz r 0)), sy ⟨#[95, 95, 115, 117, 112, 101, 114, 71, 101, 116]⟩ 1, sy ⟨#[95, 95, 115, 117, 112, 101, 114, 83, 101, 116]⟩ 1])) (nd36)), row (nd15) 69 (units key), row (nd16) 197 #[.slice (some ⟨nd15, 0, none⟩) key.size key.size, .int .i32 0, .bool false, .bool false, .bool false], row (nd17) 191 #[.int .u32 3, .int .u32 vm, .bool false, .bool false, .bool false], row (nd18) 191 #[.int .u32 0, .int .u32 1, .bool false, .bool false, .bool false], row (nd20) 255 #[.iface 189 (.pointer (some ⟨nd18, 0, none⟩)), .int .i32 loc, .slice (some ⟨nd21, 0, none⟩) 3 3, .int .i32 0, .int .u8 0, .int .u8 0, .bool false, .bool false], row (nd21) 32 #[.iface (clsTy s) (.pointer (some ⟨nd23, 0, none⟩)), .int .i32 loc, .iface (thsTy r) (.pointer (some ⟨nd25, 0, none⟩)), .int .i32 loc, .iface 195 (.pointer (some ⟨nd22, 0, none⟩)), .int .i32 loc], row (nd22) 197 #[.slice (some ⟨nd15, 0, none⟩) key.size key.size, .int .i32 0, .bool false, .bool false, .bool false], row (nd23) (clsT s) (clsC s loc (nd24)), row (nd24) (xtrT s) (xtrC s loc (nd23)), row (nd25) (thsT r) (thsC r), row (nd26) 191 #[.int .u32 0, .int .u32 2, .bool false, .bool false, .bool false], row (nd27) 255 #[.iface 189 (.pointer (some ⟨nd26, 0, none⟩)), .int .i32 loc, .slice (some ⟨nd28, 0, none⟩) 4 4, .int .i32 0, .int .u8 0, .int .u8 0, .bool false, .bool false], row (nd28) 32 #[.iface (clsTy s) (.pointer (some ⟨nd30, 0, none⟩)), .int .i32 loc, .iface (thsTy r) (.pointer (some ⟨nd32, 0, none⟩)), .int .i32 loc, .iface 195 (.pointer (some ⟨nd29, 0, none⟩)), .int .i32 loc, .iface 235 (.pointer (some ⟨nd33, 0, none⟩)), .int .i32 loc], row (nd29) 197 #[.slice (some ⟨nd15, 0, none⟩) key.size key.size, .int .i32 0, .bool false, .bool false, .bool false], row (nd30) (clsT s) (clsC s loc (nd31)), row (nd31) (xtrT s) (xtrC s loc (nd30)), row (nd32) (thsT r) (thsC r), row (nd33) 238 #[.iface 251 (.pointer (some ⟨nd20, 0, none⟩)), .int .i32 loc, .iface 189 (.pointer (some ⟨nd17, 0, none⟩)), .int .i32 loc, .int .u8 op, .bool false], row (nd19) 32 #[.iface 251 (.pointer (some ⟨nd27, 0, none⟩)), .int .i32 loc], row (nd11) 69 (units key), row (B1) 48 #[.int .u32 0, .int .u32 0]] X := by
    rw [← hW]
    exact (hO).alloc' _ (u41.heap.size) (by simp)
  clear hW hO
  generalize u41.heap.size = B42 at hN ⊢
  have hO := hN
  clear hN
  have hL := hO.apart
  have hX := hO.apartX
  have HL := Lib.hid hL
  have HX := Lib.hid hX
  clear hL hX
  have hP9 := hO.pick [1, 2] (by decide)
  have h9_hsz : (#[⟨.string ⟨#[95, 95, 115, 117, 112, 101, 114, 71, 101, 116]⟩, .agg #[.int .i32 loc, .int .u32 0, .int .u32 1], 0⟩, ⟨.string ⟨#[95, 95, 115, 117, 112, 101, 114, 83, 101, 116]⟩, .agg #[.int .i32 loc, .int .u32 0, .int .u32 2], 1⟩] : Array MapEntry).size = 2 := rfl
  have T9 := impCnt nd4 ((newSrstP r s nd3 nd5 nd6 nd7).setIfInBounds 106 (.slice (some ⟨nd35, 0, none⟩) 3 (3 + nd36))) nd5 #[⟨.string ⟨#[95, 95, 115, 117, 112, 101, 114, 71, 101, 116]⟩, .agg #[.int .i32 loc, .int .u32 0, .int .u32 1], 0⟩, ⟨.string ⟨#[95, 95, 115, 117, 112, 101, 114, 83, 101, 116]⟩, .agg #[.int .i32 loc, .int .u32 0, .int .u32 2], 1⟩] 2 2 _ _ _ hP9 (get_other (newSrst_117 r s (nd3) (nd5) (nd6) (nd7)) (by omega) _) h9_hsz
  refine Calls.mono T9 ?_
  clear hP9 T9 h9_hsz
  rintro e u44 ⟨rfl, hQ⟩
  have hN : Own w0 u44 [row (nd4) 188 ((newSrstP r s nd3 nd5 nd6 nd7).setIfInBounds 106 (.slice (some ⟨nd35, 0, none⟩) 3 (3 + nd36))), ((nd5, .map #[⟨.string ⟨#[95, 95, 115, 117, 112, 101, 114, 71, 101, 116]⟩, .agg #[.int .i32 loc, .int .u32 0, .int .u32 1], 0⟩, ⟨.string ⟨#[95, 95, 115, 117, 112, 101, 114, 83, 101, 116]⟩, .agg #[.int .i32 loc, .int .u32 0, .int .u32 2], 1⟩] 2) : Rw), row (B42) 48 #[.int .u32 0, .int .u32 1], row (B39) 48 #[.int .u32 0, .int .u32 2], row (B12) 48 #[.int .u32 3, .int .u32 vm], row (B8) 30 #[.int .i32 loc], row (nd35) 74 (full symZ (symL ([sy ⟨#[70, 111, 111]⟩ (uz r (uz r 0)), sy ⟨#[95, 95, 115, 117, 112, 101, 114, 71, 101, 116]⟩ 1, sy ⟨#[95, 95, 115, 117, 112, 101, 114, 83, 101, 116]⟩ 1])) (nd36)), row (nd15) 69 (units key), row (nd16) 197 #[.slice (some ⟨nd15, 0, none⟩) key.size key.size, .int .i32 0, .bool false, .bool false, .bool false], row (nd17) 191 #[.int .u32 3, .int .u32 vm, .bool false, .bool false, .bool false], row (nd18) 191 #[.int .u32 0, .int .u32 1, .bool false, .bool false, .bool false], row (nd20) 255 #[.iface 189 (.pointer (some ⟨nd18, 0, none⟩)), .int .i32 loc, .slice (some ⟨nd21, 0, none⟩) 3 3, .int .i32 0, .int .u8 0, .int .u8 0, .bool false, .bool false], row (nd21) 32 #[.iface (clsTy s) (.pointer (some ⟨nd23, 0, none⟩)), .int .i32 loc, .iface (thsTy r) (.pointer (some ⟨nd25, 0, none⟩)), .int .i32 loc, .iface 195 (.pointer (some ⟨nd22, 0, none⟩)), .int .i32 loc], row (nd22) 197 #[.slice (some ⟨nd15, 0, none⟩) key.size key.size, .int .i32 0, .bool false, .bool false, .bool false], row (nd23) (clsT s) (clsC s loc (nd24)), row (nd24) (xtrT s) (xtrC s loc (nd23)), row (nd25) (thsT r) (thsC r), row (nd26) 191 #[.int .u32 0, .int .u32 2, .bool false, .bool false, .bool false], row (nd27) 255 #[.iface 189 (.pointer (some ⟨nd26, 0, none⟩)), .int .i32 loc, .slice (some ⟨nd28, 0, none⟩) 4 4, .int .i32 0, .int .u8 0, .int .u8 0, .bool false, .bool false], row (nd28) 32 #[.iface (clsTy s) (.pointer (some ⟨nd30, 0, none⟩)), .int .i32 loc, .iface (thsTy r) (.pointer (some ⟨nd32, 0, none⟩)), .int .i32 loc, .iface 195 (.pointer (some ⟨nd29, 0, none⟩)), .int .i32 loc, .iface 235 (.pointer (some ⟨nd33, 0, none⟩)), .int .i32 loc], row (nd29) 197 #[.slice (some ⟨nd15, 0, none⟩) key.size key.size, .int .i32 0, .bool false, .bool false, .bool false], row (nd30) (clsT s) (clsC s loc (nd31)), row (nd31) (xtrT s) (xtrC s loc (nd30)), row (nd32) (thsT r) (thsC r), row (nd33) 238 #[.iface 251 (.pointer (some ⟨nd20, 0, none⟩)), .int .i32 loc, .iface 189 (.pointer (some ⟨nd17, 0, none⟩)), .int .i32 loc, .int .u8 op, .bool false], row (nd19) 32 #[.iface 251 (.pointer (some ⟨nd27, 0, none⟩)), .int .i32 loc], row (nd11) 69 (units key), row (B1) 48 #[.int .u32 0, .int .u32 0]] X := hQ.back HL.out HX.out [0, 3, 4, 5, 6, 7, 8, 9, 10, 11, 12, 13, 14, 15, 16, 17, 18, 19, 20, 21, 22, 23, 24, 25, 26, 27] (by decide) (by decide)
  clear hQ HL HX hO
  have hO := hN
  clear hN
  have hN : Own w0 u44 [row (nd4) 188 ((newSrstP r s nd3 nd5 nd6 nd7).setIfInBounds 106 (.slice (some ⟨nd35, 0, none⟩) 3 (3 + nd36))), row (B42) 48 #[.int .u32 0, .int .u32 1], row (B39) 48 #[.int .u32 0, .int .u32 2], row (B12) 48 #[.int .u32 3, .int .u32 vm], row (B8) 30 #[.int .i32 loc], row (nd35) 74 (full symZ (symL ([sy ⟨#[70, 111, 111]⟩ (uz r (uz r 0)), sy ⟨#[95, 95, 115, 117, 112, 101, 114, 71, 101, 116]⟩ 1, sy ⟨#[95, 95, 115, 117, 112, 101, 114, 83, 101, 116]⟩ 1])) (nd36)), row (nd15) 69 (units key), row (nd16) 197 #[.slice (some ⟨nd15, 0, none⟩) key.size key.size, .int .i32 0, .bool false, .bool false, .bool false], row (nd17) 191 #[.int .u32 3, .int .u32 vm, .bool false, .bool false, .bool false], row (nd18) 191 #[.int .u32 0, .int .u32 1, .bool false, .bool false, .bool false], row (nd20) 255 #[.iface 189 (.pointer (some ⟨nd18, 0, none⟩)), .int .i32 loc, .slice (some ⟨nd21, 0, none⟩) 3 3, .int .i32 0, .int .u8 0, .int .u8 0, .bool false, .bool false], row (nd21) 32 #[.iface (clsTy s) (.pointer (some ⟨nd23, 0, none⟩)), .int .i32 loc, .iface (thsTy r) (.pointer (some ⟨nd25, 0, none⟩)), .int .i32 loc, .iface 195 (.pointer (some ⟨nd22, 0, none⟩)), .int .i32 loc], row (nd22) 197 #[.slice (some ⟨nd15, 0, none⟩) key.size key.size, .int .i32 0, .bool false, .bool false, .bool false], row (nd23) (clsT s) (clsC s loc (nd24)), row (nd24) (xtrT s) (xtrC s loc (nd23)), row (nd25) (thsT r) (thsC r), row (nd26) 191 #[.int .u32 0, .int .u32 2, .bool false, .bool false, .bool false], row (nd27) 255 #[.iface 189 (.pointer (some ⟨nd26, 0, none⟩)), .int .i32 loc, .slice (some ⟨nd28, 0, none⟩) 4 4, .int .i32 0, .int .u8 0, .int .u8 0, .bool false, .bool false], row (nd28) 32 #[.iface (clsTy s) (.pointer (some ⟨nd30, 0, none⟩)), .int .i32 loc, .iface (thsTy r) (.pointer (some ⟨nd32, 0, none⟩)), .int .i32 loc, .iface 195 (.pointer (some ⟨nd29, 0, none⟩)), .int .i32 loc, .iface 235 (.pointer (some ⟨nd33, 0, none⟩)), .int .i32 loc], row (nd29) 197 #[.slice (some ⟨nd15, 0, none⟩) key.size key.size, .int .i32 0, .bool false, .bool false, .bool false], row (nd30) (clsT s) (clsC s loc (nd31)), row (nd31) (xtrT s) (xtrC s loc (nd30)), row (nd32) (thsT r) (thsC r), row (nd33) 238 #[.iface 251 (.pointer (some ⟨nd20, 0, none⟩)), .int .i32 loc, .iface 189 (.pointer (some ⟨nd17, 0, none⟩)), .int .i32 loc, .int .u8 op, .bool false], row (nd19) 32 #[.iface 251 (.pointer (some ⟨nd27, 0, none⟩)), .int .i32 loc], row (nd11) 69 (units key), row (B1) 48 #[.int .u32 0, .int .u32 0]] X := hO.sub [0, 2, 3, 4, 5, 6, 7, 8, 9, 10, 11, 12, 13, 14, 15, 16, 17, 18, 19, 20, 21, 22, 23, 24, 25, 26, 27] (by decide)
  clear hO
  have hO := hN
  clear hN
  obtain ⟨c9_1_0, c9_1_1, lt9_1, y9_1, -⟩ := hO.k2 1 rfl
  obtain ⟨c9_2_0, c9_2_1, lt9_2, y9_2, -⟩ := hO.k2 2 rfl
  obtain ⟨c9_3_0, c9_3_1, lt9_3, y9_3, -⟩ := hO.k2 3 rfl
  obtain ⟨c9_4_0, lt9_4, y9_4, -⟩ := hO.k1 4 rfl
  obtain ⟨c9_7_0, c9_7_1, c9_7_2, c9_7_3, c9_7_4, lt9_7, y9_7, -⟩ := hO.k5 7 rfl
  obtain ⟨c9_8_0, c9_8_1, c9_8_2, c9_8_3, c9_8_4, lt9_8, y9_8, -⟩ := hO.k5 8 rfl
  obtain ⟨c9_9_0, c9_9_1, c9_9_2, c9_9_3, c9_9_4, lt9_9, y9_9, -⟩ := hO.k5 9 rfl
  obtain ⟨c9_10_0, c9_10_1, c9_10_2, c9_10_3, c9_10_4, c9_10_5, c9_10_6, c9_10_7, lt9_10, y9_10, -⟩ := hO.k8 10 rfl
  obtain ⟨c9_11_0, c9_11_1, c9_11_2, c9_11_3, c9_11_4, c9_11_5, lt9_11, y9_11, -⟩ := hO.k6 11 rfl
  obtain ⟨c9_12_0, c9_12_1, c9_12_2, c9_12_3, c9_12_4, lt9_12, y9_12, -⟩ := hO.k5 12 rfl
  obtain ⟨c9_16_0, c9_16_1, c9_16_2, c9_16_3, c9_16_4, lt9_16, y9_16, -⟩ := hO.k5 16 rfl
  obtain ⟨c9_17_0, c9_17_1, c9_17_2, c9_17_3, c9_17_4, c9_17_5, c9_17_6, c9_17_7, lt9_17, y9_17, -⟩ := hO.k8 17 rfl
  obtain ⟨c9_18_0, c9_18_1, c9_18_2, c9_18_3, c9_18_4, c9_18_5, c9_18_6, c9_18_7, lt9_18, y9_18, -⟩ := hO.k8 18 rfl
  obtain ⟨c9_19_0, c9_19_1, c9_19_2, c9_19_3, c9_19_4, lt9_19, y9_19, -⟩ := hO.k5 19 rfl
  obtain ⟨c9_23_0, c9_23_1, c9_23_2, c9_23_3, c9_23_4, c9_23_5, lt9_23, y9_23, -⟩ := hO.k6 23 rfl
  obtain ⟨c9_24_0, c9_24_1, lt9_24, y9_24, -⟩ := hO.k2 24 rfl
  obtain ⟨c9_26_0, c9_26_1, lt9_26, y9_26, -⟩ := hO.k2 26 rfl
  have HO := Lib.hid hO
  clear hO
  go_wp2_with (first | (with_reducible refine Own.stay (fn := Tryz.f5) ?_) | (first | (go_at_call 18; go_in)))
  try with_reducible refine Own.Stay.mk ?_
  have hO := HO.out
  clear HO c9_1_0 c9_1_1 lt9_1 y9_1 c9_2_0 c9_2_1 lt9_2 y9_2 c9_3_0 c9_3_1 lt9_3 y9_3 c9_4_0 lt9_4 y9_4 c9_7_0 c9_7_1 c9_7_2 c9_7_3 c9_7_4 lt9_7 y9_7 c9_8_0 c9_8_1 c9_8_2 c9_8_3 c9_8_4 lt9_8 y9_8 c9_9_0 c9_9_1 c9_9_2 c9_9_3 c9_9_4 lt9_9 y9_9 c9_10_0 c9_10_1 c9_10_2 c9_10_3 c9_10_4 c9_10_5 c9_10_6 c9_10_7 lt9_10 y9_10 c9_11_0 c9_11_1 c9_11_2 c9_11_3 c9_11_4 c9_11_5 lt9_11 y9_11 c9_12_0 c9_12_1 c9_12_2 c9_12_3 c9_12_4 lt9_12 y9_12 c9_16_0 c9_16_1 c9_16_2 c9_16_3 c9_16_4 lt9_16 y9_16 c9_17_0 c9_17_1 c9_17_2 c9_17_3 c9_17_4 c9_17_5 c9_17_6 c9_17_7 lt9_17 y9_17 c9_18_0 c9_18_1 c9_18_2 c9_18_3 c9_18_4 c9_18_5 c9_18_6 c9_18_7 lt9_18 y9_18 c9_19_0 c9_19_1 c9_19_2 c9_19_3 c9_19_4 lt9_19 y9_19 c9_23_0 c9_23_1 c9_23_2 c9_23_3 c9_23_4 c9_23_5 lt9_23 y9_23 c9_24_0 c9_24_1 lt9_24 y9_24 c9_26_0 c9_26_1 lt9_26 y9_26
  have hL := hO.apart
  have hX := hO.apartX
  have HL := Lib.hid hL
  have HX := Lib.hid hX
  clear hL hX
  have hP9 := hO.pick [17, 16] (by decide)
  have T9 := helperCall4 nd27 nd26 nd28 loc loc 0 2 _ _ _ hP9 
  refine Calls.mono T9 ?_
  clear hP9 T9
  rintro e u45 ⟨rfl, hQ⟩
  have hN : Own w0 u45 [row (nd27) 255 #[.iface 189 (.pointer (some ⟨nd26, 0, none⟩)), .int .i32 loc, .slice (some ⟨nd28, 0, none⟩) 4 4, .int .i32 0, .int .u8 0, .int .u8 0, .bool false, .bool false], row (nd26) 191 #[.int .u32 0, .int .u32 2, .bool false, .bool false, .bool false], row (nd4) 188 ((newSrstP r s nd3 nd5 nd6 nd7).setIfInBounds 106 (.slice (some ⟨nd35, 0, none⟩) 3 (3 + nd36))), row (B42) 48 #[.int .u32 0, .int .u32 1], row (B39) 48 #[.int .u32 0, .int .u32 2], row (B12) 48 #[.int .u32 3, .int .u32 vm], row (B8) 30 #[.int .i32 loc], row (nd35) 74 (full symZ (symL ([sy ⟨#[70, 111, 111]⟩ (uz r (uz r 0)), sy ⟨#[95, 95, 115, 117, 112, 101, 114, 71, 101, 116]⟩ 1, sy ⟨#[95, 95, 115, 117, 112, 101, 114, 83, 101, 116]⟩ 1])) (nd36)), row (nd15) 69 (units key), row (nd16) 197 #[.slice (some ⟨nd15, 0, none⟩) key.size key.size, .int .i32 0, .bool false, .bool false, .bool false], row (nd17) 191 #[.int .u32 3, .int .u32 vm, .bool false, .bool false, .bool false], row (nd18) 191 #[.int .u32 0, .int .u32 1, .bool false, .bool false, .bool false], row (nd20) 255 #[.iface 189 (.pointer (some ⟨nd18, 0, none⟩)), .int .i32 loc, .slice (some ⟨nd21, 0, none⟩) 3 3, .int .i32 0, .int .u8 0, .int .u8 0, .bool false, .bool false], row (nd21) 32 #[.iface (clsTy s) (.pointer (some ⟨nd23, 0, none⟩)), .int .i32 loc, .iface (thsTy r) (.pointer (some ⟨nd25, 0, none⟩)), .int .i32 loc, .iface 195 (.pointer (some ⟨nd22, 0, none⟩)), .int .i32 loc], row (nd22) 197 #[.slice (some ⟨nd15, 0, none⟩) key.size key.size, .int .i32 0, .bool false, .bool false, .bool false], row (nd23) (clsT s) (clsC s loc (nd24)), row (nd24) (xtrT s) (xtrC s loc (nd23)), row (nd25) (thsT r) (thsC r), row (nd28) 32 #[.iface (clsTy s) (.pointer (some ⟨nd30, 0, none⟩)), .int .i32 loc, .iface (thsTy r) (.pointer (some ⟨nd32, 0, none⟩)), .int .i32 loc, .iface 195 (.pointer (some ⟨nd29, 0, none⟩)), .int .i32 loc, .iface 235 (.pointer (some ⟨nd33, 0, none⟩)), .int .i32 loc], row (nd29) 197 #[.slice (some ⟨nd15, 0, none⟩) key.size key.size, .int .i32 0, .bool false, .bool false, .bool false], row (nd30) (clsT s) (clsC s loc (nd31)), row (nd31) (xtrT s) (xtrC s loc (nd30)), row (nd32) (thsT r) (thsC r), row (nd33) 238 #[.iface 251 (.pointer (some ⟨nd20, 0, none⟩)), .int .i32 loc, .iface 189 (.pointer (some ⟨nd17, 0, none⟩)), .int .i32 loc, .int .u8 op, .bool false], row (nd19) 32 #[.iface 251 (.pointer (some ⟨nd27, 0, none⟩)), .int .i32 loc], row (nd11) 69 (units key), row (B1) 48 #[.int .u32 0, .int .u32 0]] X := hQ.back HL.out HX.out [0, 1, 2, 3, 4, 5, 6, 7, 8, 9, 10, 11, 12, 13, 14, 15, 18, 19, 20, 21, 22, 23, 24, 25, 26] (by decide) (by decide)
  clear hQ HL HX hO
  have hO := hN
  clear hN
  obtain ⟨c9_0_0, c9_0_1, c9_0_2, c9_0_3, c9_0_4, c9_0_5, c9_0_6, c9_0_7, lt9_0, y9_0, -⟩ := hO.k8 0 rfl
  obtain ⟨c9_1_0, c9_1_1, c9_1_2, c9_1_3, c9_1_4, lt9_1, y9_1, -⟩ := hO.k5 1 rfl
  obtain ⟨c9_3_0, c9_3_1, lt9_3, y9_3, -⟩ := hO.k2 3 rfl
  obtain ⟨c9_4_0, c9_4_1, lt9_4, y9_4, -⟩ := hO.k2 4 rfl
  obtain ⟨c9_5_0, c9_5_1, lt9_5, y9_5, -⟩ := hO.k2 5 rfl
  obtain ⟨c9_6_0, lt9_6, y9_6, -⟩ := hO.k1 6 rfl
  obtain ⟨c9_9_0, c9_9_1, c9_9_2, c9_9_3, c9_9_4, lt9_9, y9_9, -⟩ := hO.k5 9 rfl
  obtain ⟨c9_10_0, c9_10_1, c9_10_2, c9_10_3, c9_10_4, lt9_10, y9_10, -⟩ := hO.k5 10 rfl
  obtain ⟨c9_11_0, c9_11_1, c9_11_2, c9_11_3, c9_11_4, lt9_11, y9_11, -⟩ := hO.k5 11 rfl
  obtain ⟨c9_12_0, c9_12_1, c9_12_2, c9_12_3, c9_12_4, c9_12_5, c9_12_6, c9_12_7, lt9_12, y9_12, -⟩ := hO.k8 12 rfl
  obtain ⟨c9_13_0, c9_13_1, c9_13_2, c9_13_3, c9_13_4, c9_13_5, lt9_13, y9_13, -⟩ := hO.k6 13 rfl
  obtain ⟨c9_14_0, c9_14_1, c9_14_2, c9_14_3, c9_14_4, lt9_14, y9_14, -⟩ := hO.k5 14 rfl
  obtain ⟨c9_18_0, c9_18_1, c9_18_2, c9_18_3, c9_18_4, c9_18_5, c9_18_6, c9_18_7, lt9_18, y9_18, -⟩ := hO.k8 18 rfl
  obtain ⟨c9_19_0, c9_19_1, c9_19_2, c9_19_3, c9_19_4, lt9_19, y9_19, -⟩ := hO.k5 19 rfl
  obtain ⟨c9_23_0, c9_23_1, c9_23_2, c9_23_3, c9_23_4, c9_23_5, lt9_23, y9_23, -⟩ := hO.k6 23 rfl
  obtain ⟨c9_24_0, c9_24_1, lt9_24, y9_24, -⟩ := hO.k2 24 rfl
  obtain ⟨c9_26_0, c9_26_1, lt9_26, y9_26, -⟩ := hO.k2 26 rfl
  have HO := Lib.hid hO
  clear hO
  go_wp2_with (first | (with_reducible refine Own.stay (fn := Tryz.f5) ?_) | (first | (go_at_call 18; go_in)))
  try with_reducible refine Own.Stay.mk ?_
  have hO := HO.out
  clear HO c9_0_0 c9_0_1 c9_0_2 c9_0_3 c9_0_4 c9_0_5 c9_0_6 c9_0_7 lt9_0 y9_0 c9_1_0 c9_1_1 c9_1_2 c9_1_3 c9_1_4 lt9_1 y9_1 c9_3_0 c9_3_1 lt9_3 y9_3 c9_4_0 c9_4_1 lt9_4 y9_4 c9_5_0 c9_5_1 lt9_5 y9_5 c9_6_0 lt9_6 y9_6 c9_9_0 c9_9_1 c9_9_2 c9_9_3 c9_9_4 lt9_9 y9_9 c9_10_0 c9_10_1 c9_10_2 c9_10_3 c9_10_4 lt9_10 y9_10 c9_11_0 c9_11_1 c9_11_2 c9_11_3 c9_11_4 lt9_11 y9_11 c9_12_0 c9_12_1 c9_12_2 c9_12_3 c9_12_4 c9_12_5 c9_12_6 c9_12_7 lt9_12 y9_12 c9_13_0 c9_13_1 c9_13_2 c9_13_3 c9_13_4 c9_13_5 lt9_13 y9_13 c9_14_0 c9_14_1 c9_14_2 c9_14_3 c9_14_4 lt9_14 y9_14 c9_18_0 c9_18_1 c9_18_2 c9_18_3 c9_18_4 c9_18_5 c9_18_6 c9_18_7 lt9_18 y9_18 c9_19_0 c9_19_1 c9_19_2 c9_19_3 c9_19_4 lt9_19 y9_19 c9_23_0 c9_23_1 c9_23_2 c9_23_3 c9_23_4 c9_23_5 lt9_23 y9_23 c9_24_0 c9_24_1 lt9_24 y9_24 c9_26_0 c9_26_1 lt9_26 y9_26
  have hL := hO.apart
  have hX := hO.apartX
  have HL := Lib.hid hL
  have HX := Lib.hid hX
  clear hL hX
  have hP9 := hO.pick [8, 18, 19, 20, 21, 22, 25, 26] (by decide)
  generalize hX9_46 : Own.Rest _ _ X = X9_46 at hP9
  replace hP9 : Own w0 u45 [row (nd15) 69 (units key), row (nd28) 32 #[.iface (clsTy s) (.pointer (some ⟨nd30, 0, none⟩)), .int .i32 loc, .iface (thsTy r) (.pointer (some ⟨nd32, 0, none⟩)), .int .i32 loc, .iface 195 (.pointer (some ⟨nd29, 0, none⟩)), .int .i32 loc, .iface 235 (.pointer (some ⟨nd33, 0, none⟩)), .int .i32 loc], row (nd29) 197 #[.slice (some ⟨nd15, 0, none⟩) key.size key.size, .int .i32 0, .bool false, .bool false, .bool false], row (nd30) (clsT s) (clsC s loc (nd31)), row (nd31) (xtrT s) (xtrC s loc (nd30)), row (nd32) (thsT r) (thsC r), row (nd11) 69 (units key), row (B1) 48 #[.int .u32 0, .int .u32 0]] X9_46 := hP9
  clear hO
  have hO := hP9
  clear hP9
  have st9 := rlaw278_st loc key s r B1 nd11 nd15 nd28 nd29 nd30 nd31 nd32 nd33
  let R9 := rlaw278R loc key s r B1 nd11 nd15 nd28 nd29 nd30 nd31 nd32 nd33
  refine wp_region_own (e := rlaw278E loc key s r B1 nd11 nd15 nd28 nd29 nd30 nd31 nd32 nd33) (anc := rlaw278Anc) (G := (fun L9 α u9 => OwnF w0 u9 (act rlaw278Cnt 8 L9) (rlaw278R loc key s r B1 nd11 nd15 nd28 nd29 nd30 nd31 nd32 nd33 L9 α) X9_46)) (by kernel_rfl) (by kernel_rfl) (by kernel_rfl) (by kernel_rfl) (rlaw278_he loc key s r B1 nd11 nd15 nd28 nd29 nd30 nd31 nd32 nd33) ?_ (RunsAll.all ?_) ?_
  · have hp : ∀ i, act rlaw278Cnt 8 (fun _ => false) i → i ∈ [999, 1999, 2999, 3999, 4999, 5999, 6999, 7999] := by
      intro i hi
      have h9 : i % 1000 = 999 := by
        by_cases h : i % 1000 = 999
        · exact h
        · exact absurd (act_lt hi h) (by simp)
      unfold act at hi
      rw [if_pos h9] at hi
      simp only [List.mem_cons, List.not_mem_nil, or_false]
      omega
    refine hO.drew.family (fun i hi => ?_) (fun i j hi hj hij => ?_)
    · have := hp i hi
      simp only [List.mem_cons, List.not_mem_nil, or_false] at this
      rcases this with rfl | rfl | rfl | rfl | rfl | rfl | rfl | rfl <;> rfl
    · have h1 := hp i hi
      have h2 := hp j hj
      simp only [List.mem_cons, List.not_mem_nil, or_false] at h1 h2
      omega
  · refine ⟨?_, ?_, ?_, ?_, ?_, ?_, ?_, ?_, ?_, ?_, ?_, ?_, ?_, ?_, ?_, ?_, ?_, ?_, ?_, ?_, ?_, ?_, ?_, ?_, ?_, ?_, ?_, ?_, trivial⟩
    · intro L9 α a9 u9 K9 hL hcl hA hG hS h0 hK
      replace hL : L9 0 = false := hL
      have q24 : a9.tmps[24]? = some (.bool true) := (h0 24 (by kernel_rfl)).trans rfl
      have s24 := Rega.eval_of q24
      go_simp
      exact hK _ α _ (fun _ _ => rfl) rfl (step_same (st9) hL hcl rfl rfl hG)
    · intro L9 α a9 u9 K9 hL hcl hA hG hS h0 hK
      replace hL : L9 1 = false := hL
      have q95 : a9.tmps[95]? = some (.bool true) := hS 0 95 (by decide) rfl (by show 95 < 235; decide)
      have s95 := Rega.eval_of q95
      go_simp
      exact hK _ α _ (fun _ _ => rfl) rfl (step_same (st9) hL hcl rfl rfl hG)
    · intro L9 α a9 u9 K9 hL hcl hA hG hS h0 hK
      replace hL : L9 2 = false := hL
      have q96 : a9.tmps[96]? = some (.bool false) := hS 1 96 (by decide) rfl (by show 96 < 235; decide)
      have s96 := Rega.eval_of q96
      go_simp
      exact hK _ α _ (fun _ _ => rfl) rfl (step_same (st9) hL hcl rfl rfl hG)
    · intro L9 α a9 u9 K9 hL hcl hA hG hS h0 hK
      replace hL : L9 3 = false := hL
      have q23 : a9.tmps[23]? = some (.slice (some ⟨nd28, 0, none⟩) 4 4) := (h0 23 (by kernel_rfl)).trans rfl
      have s23 := Rega.eval_of q23
      have q97 : a9.tmps[97]? = some (.bool false) := hS 2 97 (by decide) rfl (by show 97 < 235; decide)
      have s97 := Rega.eval_of q97
      go_simp
      exact hK _ α _ (fun _ _ => rfl) rfl (step_same (st9) hL hcl rfl rfl hG)
    · intro L9 α a9 u9 K9 hL hcl hA hG hS h0 hK
      replace hL : L9 4 = false := hL
      have q98 : a9.tmps[98]? = some (.slice (some ⟨nd28, 0, none⟩) 4 4) := hS 3 98 (by decide) rfl (by show 98 < 235; decide)
      have s98 := Rega.eval_of q98
      have q97 : a9.tmps[97]? = some (.bool false) := hS 2 97 (by decide) rfl (by show 97 < 235; decide)
      have s97 := Rega.eval_of q97
      go_simp
      exact hK _ α _ (fun _ _ => rfl) rfl (step_same (st9) hL hcl rfl rfl hG)
    · intro L9 α a9 u9 K9 hL hcl hA hG hS h0 hK
      replace hL : L9 5 = false := hL
      have q99 : a9.tmps[99]? = some (.pointer (some ⟨nd28, 0, none⟩)) := hS 4 99 (by decide) rfl (by show 99 < 235; decide)
      have s99 := Rega.eval_of q99
      have q97 : a9.tmps[97]? = some (.bool false) := hS 2 97 (by decide) rfl (by show 97 < 235; decide)
      have s97 := Rega.eval_of q97
      have e0 : R9 L9 α 1999 = row (nd28) 32 #[.iface (clsTy s) (.pointer (some ⟨nd30, 0, none⟩)), .int .i32 loc, .iface (thsTy r) (.pointer (some ⟨nd32, 0, none⟩)), .int .i32 loc, .iface 195 (.pointer (some ⟨nd29, 0, none⟩)), .int .i32 loc, .iface 235 (.pointer (some ⟨nd33, 0, none⟩)), .int .i32 loc] := rfl
      have hr := hG.rowAt 1999 (act_base 1999 rfl) e0
      have c0 : u9.cell? ⟨nd28, 0, none⟩ = some (.iface (clsTy s) (.pointer (some ⟨nd30, 0, none⟩))) := hr.cell rfl
      have c1 : u9.cell? ⟨nd28, 1, none⟩ = some (.int .i32 loc) := hr.cell rfl
      clear hr e0
      go_simp
      exact hK _ α _ (fun _ _ => rfl) rfl (step_same (st9) hL hcl rfl rfl hG)
    · intro L9 α a9 u9 K9 hL hcl hA hG hS h0 hK
      replace hL : L9 6 = false := hL
      have q13 : a9.tmps[13]? = some (.pointer (some ⟨B1, 0, none⟩)) := (h0 13 (by kernel_rfl)).trans rfl
      have s13 := Rega.eval_of q13
      have q97 : a9.tmps[97]? = some (.bool false) := hS 2 97 (by decide) rfl (by show 97 < 235; decide)
      have s97 := Rega.eval_of q97
      have e0 : R9 L9 α 7999 = row (B1) 48 #[.int .u32 0, .int .u32 0] := rfl
      have hr := hG.rowAt 7999 (act_base 7999 rfl) e0
      have c0 : u9.cell? ⟨B1, 0, none⟩ = some (.int .u32 0) := hr.cell rfl
      have c1 : u9.cell? ⟨B1, 1, none⟩ = some (.int .u32 0) := hr.cell rfl
      clear hr e0
      go_simp
      exact hK _ α _ (fun _ _ => rfl) rfl (step_same (st9) hL hcl rfl rfl hG)
    · intro L9 α a9 u9 K9 hL hcl hA hG hS h0 hK
      replace hL : L9 7 = false := hL
      have q3 : a9.tmps[3]? = some (.bool s) := (h0 3 (by kernel_rfl)).trans rfl
      have s3 := Rega.eval_of q3
      have q97 : a9.tmps[97]? = some (.bool false) := hS 2 97 (by decide) rfl (by show 97 < 235; decide)
      have s97 := Rega.eval_of q97
      go_simp
      exact hK _ α _ (fun _ _ => rfl) rfl (step_same (st9) hL hcl rfl rfl hG)
    · intro L9 α a9 u9 K9 hL hcl hA hG hS h0 hK
      replace hL : L9 8 = false := hL
      have q100 : a9.tmps[100]? = some (.agg #[.iface (clsTy s) (.pointer (some ⟨nd30, 0, none⟩)), .int .i32 loc]) := hS 5 100 (by decide) rfl (by show 100 < 235; decide)
      have s100 := Rega.eval_of q100
      have q101 : a9.tmps[101]? = some (.agg #[.int .u32 0, .int .u32 0]) := hS 6 101 (by decide) rfl (by show 101 < 235; decide)
      have s101 := Rega.eval_of q101
      have q102 : a9.tmps[102]? = some (.bool s) := hS 7 102 (by decide) rfl (by show 102 < 235; decide)
      have s102 := Rega.eval_of q102
      have q97 : a9.tmps[97]? = some (.bool false) := hS 2 97 (by decide) rfl (by show 97 < 235; decide)
      have s97 := Rega.eval_of q97
      go_simp
      have e0 : R9 L9 α 3999 = row (nd30) (clsT s) (clsC s loc (nd31)) := rfl
      have e1 : R9 L9 α 4999 = row (nd31) (xtrT s) (xtrC s loc (nd30)) := rfl
      have hM : ∀ i, i ∈ [3999, 4999] → act rlaw278Cnt 8 L9 i := by
        intro i hi
        simp only [List.mem_cons, List.not_mem_nil, or_false] at hi
        rcases hi with rfl | rfl
        · exact act_base 3999 rfl
        · exact act_base 4999 rfl
      have hP : Own w0 u9 [row (nd30) (clsT s) (clsC s loc (nd31)), row (nd31) (xtrT s) (xtrC s loc (nd30))] _ := (hG.pick [3999, 4999] (by decide) hM).conv (by
        show [R9 L9 α 3999, R9 L9 α 4999] = _
        rw [e0, e1])
      clear e0 e1 hM
      refine Calls.mono (classArgU s nd30 nd31 loc loc _ _ _ hP ) ?_
      rintro e9 u1 ⟨rfl, hQ⟩
      obtain ⟨α', hα'⟩ : ∃ α' : Rega.Atoms, α' = α := ⟨_, rfl⟩
      have f0 : R9 (Rega.ran L9 8) α' 3999 = row (nd30) (clsT s) (clsC s loc (nd31)) := rfl
      have f1 : R9 (Rega.ran L9 8) α' 4999 = row (nd31) (xtrT s) (xtrC s loc (nd30)) := rfl
      have hα : ∀ j, j % 1000 ≠ 8 → α' j = α j := fun j hj => by rw [hα']
      skip
      refine hK _ α' _ hα ?_ (step_call (st9) hL hcl hα [3999, 4999] [3999, 4999] (by decide) (by decide) (by decide) (M := _) ?_ hG hQ)
      · rfl
      · show [R9 (Rega.ran L9 8) α' 3999, R9 (Rega.ran L9 8) α' 4999] = _
        rw [f0, f1]
    · intro L9 α a9 u9 K9 hL hcl hA hG hS h0 hK
      replace hL : L9 9 = false := hL
      have q103 : a9.tmps[103]? = some (.bool true) := hS 8 103 (by decide) rfl (by show 103 < 235; decide)
      have s103 := Rega.eval_of q103
      have q97 : a9.tmps[97]? = some (.bool false) := hS 2 97 (by decide) rfl (by show 97 < 235; decide)
      have s97 := Rega.eval_of q97
      go_simp
      exact hK _ α _ (fun _ _ => rfl) rfl (step_same (st9) hL hcl rfl rfl hG)
    · intro L9 α a9 u9 K9 hL hcl hA hG hS h0 hK
      replace hL : L9 10 = false := hL
      have q97 : a9.tmps[97]? = some (.bool false) := hS 2 97 (by decide) rfl (by show 97 < 235; decide)
      have s97 := Rega.eval_of q97
      have q104 : a9.tmps[104]? = some (.bool false) := hS 9 104 (by decide) rfl (by show 104 < 235; decide)
      have s104 := Rega.eval_of q104
      go_simp
      exact hK _ α _ (fun _ _ => rfl) rfl (step_same (st9) hL hcl rfl rfl hG)
    · intro L9 α a9 u9 K9 hL hcl hA hG hS h0 hK
      replace hL : L9 11 = false := hL
      have q105 : a9.tmps[105]? = some (.bool false) := hS 10 105 (by decide) rfl (by show 105 < 235; decide)
      have s105 := Rega.eval_of q105
      go_simp
      exact hK _ α _ (fun _ _ => rfl) rfl (step_same (st9) hL hcl rfl rfl hG)
    · intro L9 α a9 u9 K9 hL hcl hA hG hS h0 hK
      replace hL : L9 12 = false := hL
      have q23 : a9.tmps[23]? = some (.slice (some ⟨nd28, 0, none⟩) 4 4) := (h0 23 (by kernel_rfl)).trans rfl
      have s23 := Rega.eval_of q23
      have q106 : a9.tmps[106]? = some (.bool false) := hS 11 106 (by decide) rfl (by show 106 < 235; decide)
      have s106 := Rega.eval_of q106
      go_simp
      exact hK _ α _ (fun _ _ => rfl) rfl (step_same (st9) hL hcl rfl rfl hG)
    · intro L9 α a9 u9 K9 hL hcl hA hG hS h0 hK
      replace hL : L9 13 = false := hL
      have q107 : a9.tmps[107]? = some (.slice (some ⟨nd28, 0, none⟩) 4 4) := hS 12 107 (by decide) rfl (by show 107 < 235; decide)
      have s107 := Rega.eval_of q107
      have q106 : a9.tmps[106]? = some (.bool false) := hS 11 106 (by decide) rfl (by show 106 < 235; decide)
      have s106 := Rega.eval_of q106
      go_simp
      exact hK _ α _ (fun _ _ => rfl) rfl (step_same (st9) hL hcl rfl rfl hG)
    · intro L9 α a9 u9 K9 hL hcl hA hG hS h0 hK
      replace hL : L9 14 = false := hL
      have q108 : a9.tmps[108]? = some (.pointer (some ⟨nd28, 2, none⟩)) := hS 13 108 (by decide) rfl (by show 108 < 235; decide)
      have s108 := Rega.eval_of q108
      have q106 : a9.tmps[106]? = some (.bool false) := hS 11 106 (by decide) rfl (by show 106 < 235; decide)
      have s106 := Rega.eval_of q106
      have e0 : R9 L9 α 1999 = row (nd28) 32 #[.iface (clsTy s) (.pointer (some ⟨nd30, 0, none⟩)), .int .i32 loc, .iface (thsTy r) (.pointer (some ⟨nd32, 0, none⟩)), .int .i32 loc, .iface 195 (.pointer (some ⟨nd29, 0, none⟩)), .int .i32 loc, .iface 235 (.pointer (some ⟨nd33, 0, none⟩)), .int .i32 loc] := rfl
      have hr := hG.rowAt 1999 (act_base 1999 rfl) e0
      have c0 : u9.cell? ⟨nd28, 2, none⟩ = some (.iface (thsTy r) (.pointer (some ⟨nd32, 0, none⟩))) := hr.cell rfl
      have c1 : u9.cell? ⟨nd28, 3, none⟩ = some (.int .i32 loc) := hr.cell rfl
      clear hr e0
      go_simp
      exact hK _ α _ (fun _ _ => rfl) rfl (step_same (st9) hL hcl rfl rfl hG)
    · intro L9 α a9 u9 K9 hL hcl hA hG hS h0 hK
      replace hL : L9 15 = false := hL
      have q13 : a9.tmps[13]? = some (.pointer (some ⟨B1, 0, none⟩)) := (h0 13 (by kernel_rfl)).trans rfl
      have s13 := Rega.eval_of q13
      have q106 : a9.tmps[106]? = some (.bool false) := hS 11 106 (by decide) rfl (by show 106 < 235; decide)
      have s106 := Rega.eval_of q106
      have e0 : R9 L9 α 7999 = row (B1) 48 #[.int .u32 0, .int .u32 0] := rfl
      have hr := hG.rowAt 7999 (act_base 7999 rfl) e0
      have c0 : u9.cell? ⟨B1, 0, none⟩ = some (.int .u32 0) := hr.cell rfl
      have c1 : u9.cell? ⟨B1, 1, none⟩ = some (.int .u32 0) := hr.cell rfl
      clear hr e0
      go_simp
      exact hK _ α _ (fun _ _ => rfl) rfl (step_same (st9) hL hcl rfl rfl hG)
    · intro L9 α a9 u9 K9 hL hcl hA hG hS h0 hK
      replace hL : L9 16 = false := hL
      have q4 : a9.tmps[4]? = some (.bool r) := (h0 4 (by kernel_rfl)).trans rfl
      have s4 := Rega.eval_of q4
      have q106 : a9.tmps[106]? = some (.bool false) := hS 11 106 (by decide) rfl (by show 106 < 235; decide)
      have s106 := Rega.eval_of q106
      go_simp
      exact hK _ α _ (fun _ _ => rfl) rfl (step_same (st9) hL hcl rfl rfl hG)
    · intro L9 α a9 u9 K9 hL hcl hA hG hS h0 hK
      replace hL : L9 17 = false := hL
      have q109 : a9.tmps[109]? = some (.agg #[.iface (thsTy r) (.pointer (some ⟨nd32, 0, none⟩)), .int .i32 loc]) := hS 14 109 (by decide) rfl (by show 109 < 235; decide)
      have s109 := Rega.eval_of q109
      have q110 : a9.tmps[110]? = some (.agg #[.int .u32 0, .int .u32 0]) := hS 15 110 (by decide) rfl (by show 110 < 235; decide)
      have s110 := Rega.eval_of q110
      have q111 : a9.tmps[111]? = some (.bool r) := hS 16 111 (by decide) rfl (by show 111 < 235; decide)
      have s111 := Rega.eval_of q111
      have q106 : a9.tmps[106]? = some (.bool false) := hS 11 106 (by decide) rfl (by show 106 < 235; decide)
      have s106 := Rega.eval_of q106
      go_simp
      have e0 : R9 L9 α 5999 = row (nd32) (thsT r) (thsC r) := rfl
      have hM : ∀ i, i ∈ [5999] → act rlaw278Cnt 8 L9 i := by
        intro i hi
        simp only [List.mem_cons, List.not_mem_nil, or_false] at hi
        subst hi
        exact act_base 5999 rfl
      have hP : Own w0 u9 [row (nd32) (thsT r) (thsC r)] _ := (hG.pick [5999] (by decide) hM).conv (by
        show [R9 L9 α 5999] = _
        rw [e0])
      clear e0 hM
      refine Calls.mono (thisArgU r nd32 loc _ _ _ hP ) ?_
      rintro e9 u1 ⟨rfl, hQ⟩
      obtain ⟨α', hα'⟩ : ∃ α' : Rega.Atoms, α' = α := ⟨_, rfl⟩
      have f0 : R9 (Rega.ran L9 17) α' 5999 = row (nd32) (thsT r) (thsC r) := rfl
      have hα : ∀ j, j % 1000 ≠ 17 → α' j = α j := fun j hj => by rw [hα']
      skip
      refine hK _ α' _ hα ?_ (step_call (st9) hL hcl hα [5999] [5999] (by decide) (by decide) (by decide) (M := _) ?_ hG hQ)
      · rfl
      · show [R9 (Rega.ran L9 17) α' 5999] = _
        rw [f0]
    · intro L9 α a9 u9 K9 hL hcl hA hG hS h0 hK
      replace hL : L9 18 = false := hL
      have q112 : a9.tmps[112]? = some (.bool true) := hS 17 112 (by decide) rfl (by show 112 < 235; decide)
      have s112 := Rega.eval_of q112
      have q106 : a9.tmps[106]? = some (.bool false) := hS 11 106 (by decide) rfl (by show 106 < 235; decide)
      have s106 := Rega.eval_of q106
      go_simp
      exact hK _ α _ (fun _ _ => rfl) rfl (step_same (st9) hL hcl rfl rfl hG)
    · intro L9 α a9 u9 K9 hL hcl hA hG hS h0 hK
      replace hL : L9 19 = false := hL
      have q106 : a9.tmps[106]? = some (.bool false) := hS 11 106 (by decide) rfl (by show 106 < 235; decide)
      have s106 := Rega.eval_of q106
      have q113 : a9.tmps[113]? = some (.bool false) := hS 18 113 (by decide) rfl (by show 113 < 235; decide)
      have s113 := Rega.eval_of q113
      go_simp
      exact hK _ α _ (fun _ _ => rfl) rfl (step_same (st9) hL hcl rfl rfl hG)
    · intro L9 α a9 u9 K9 hL hcl hA hG hS h0 hK
      replace hL : L9 20 = false := hL
      have q114 : a9.tmps[114]? = some (.bool false) := hS 19 114 (by decide) rfl (by show 114 < 235; decide)
      have s114 := Rega.eval_of q114
      go_simp
      exact hK _ α _ (fun _ _ => rfl) rfl (step_same (st9) hL hcl rfl rfl hG)
    · intro L9 α a9 u9 K9 hL hcl hA hG hS h0 hK
      replace hL : L9 21 = false := hL
      have q23 : a9.tmps[23]? = some (.slice (some ⟨nd28, 0, none⟩) 4 4) := (h0 23 (by kernel_rfl)).trans rfl
      have s23 := Rega.eval_of q23
      have q115 : a9.tmps[115]? = some (.bool false) := hS 20 115 (by decide) rfl (by show 115 < 235; decide)
      have s115 := Rega.eval_of q115
      go_simp
      exact hK _ α _ (fun _ _ => rfl) rfl (step_same (st9) hL hcl rfl rfl hG)
    · intro L9 α a9 u9 K9 hL hcl hA hG hS h0 hK
      replace hL : L9 22 = false := hL
      have q116 : a9.tmps[116]? = some (.slice (some ⟨nd28, 0, none⟩) 4 4) := hS 21 116 (by decide) rfl (by show 116 < 235; decide)
      have s116 := Rega.eval_of q116
      have q115 : a9.tmps[115]? = some (.bool false) := hS 20 115 (by decide) rfl (by show 115 < 235; decide)
      have s115 := Rega.eval_of q115
      go_simp
      exact hK _ α _ (fun _ _ => rfl) rfl (step_same (st9) hL hcl rfl rfl hG)
    · intro L9 α a9 u9 K9 hL hcl hA hG hS h0 hK
      replace hL : L9 23 = false := hL
      have q117 : a9.tmps[117]? = some (.pointer (some ⟨nd28, 4, none⟩)) := hS 22 117 (by decide) rfl (by show 117 < 235; decide)
      have s117 := Rega.eval_of q117
      have q115 : a9.tmps[115]? = some (.bool false) := hS 20 115 (by decide) rfl (by show 115 < 235; decide)
      have s115 := Rega.eval_of q115
      have e0 : R9 L9 α 1999 = row (nd28) 32 #[.iface (clsTy s) (.pointer (some ⟨nd30, 0, none⟩)), .int .i32 loc, .iface (thsTy r) (.pointer (some ⟨nd32, 0, none⟩)), .int .i32 loc, .iface 195 (.pointer (some ⟨nd29, 0, none⟩)), .int .i32 loc, .iface 235 (.pointer (some ⟨nd33, 0, none⟩)), .int .i32 loc] := rfl
      have hr := hG.rowAt 1999 (act_base 1999 rfl) e0
      have c0 : u9.cell? ⟨nd28, 4, none⟩ = some (.iface 195 (.pointer (some ⟨nd29, 0, none⟩))) := hr.cell rfl
      have c1 : u9.cell? ⟨nd28, 5, none⟩ = some (.int .i32 loc) := hr.cell rfl
      clear hr e0
      go_simp
      exact hK _ α _ (fun _ _ => rfl) rfl (step_same (st9) hL hcl rfl rfl hG)
    · intro L9 α a9 u9 K9 hL hcl hA hG hS h0 hK
      replace hL : L9 24 = false := hL
      have q16 : a9.tmps[16]? = some (.slice (some ⟨nd11, 0, none⟩) key.size key.size) := (h0 16 (by kernel_rfl)).trans rfl
      have s16 := Rega.eval_of q16
      have q115 : a9.tmps[115]? = some (.bool false) := hS 20 115 (by decide) rfl (by show 115 < 235; decide)
      have s115 := Rega.eval_of q115
      go_simp
      exact hK _ α _ (fun _ _ => rfl) rfl (step_same (st9) hL hcl rfl rfl hG)
    · intro L9 α a9 u9 K9 hL hcl hA hG hS h0 hK
      replace hL : L9 25 = false := hL
      have q118 : a9.tmps[118]? = some (.agg #[.iface 195 (.pointer (some ⟨nd29, 0, none⟩)), .int .i32 loc]) := hS 23 118 (by decide) rfl (by show 118 < 235; decide)
      have s118 := Rega.eval_of q118
      have q119 : a9.tmps[119]? = some (.slice (some ⟨nd11, 0, none⟩) key.size key.size) := hS 24 119 (by decide) rfl (by show 119 < 235; decide)
      have s119 := Rega.eval_of q119
      have q115 : a9.tmps[115]? = some (.bool false) := hS 20 115 (by decide) rfl (by show 115 < 235; decide)
      have s115 := Rega.eval_of q115
      go_simp
      have e0 : R9 L9 α 2999 = row (nd29) 197 #[.slice (some ⟨nd15, 0, none⟩) key.size key.size, .int .i32 0, .bool false, .bool false, .bool false] := rfl
      have e1 : R9 L9 α 999 = row (nd15) 69 (units key) := rfl
      have e2 : R9 L9 α 6999 = row (nd11) 69 (units key) := rfl
      have hM : ∀ i, i ∈ [2999, 999, 6999] → act rlaw278Cnt 8 L9 i := by
        intro i hi
        simp only [List.mem_cons, List.not_mem_nil, or_false] at hi
        rcases hi with rfl | rfl | rfl
        · exact act_base 2999 rfl
        · exact act_base 999 rfl
        · exact act_base 6999 rfl
      have hP : Own w0 u9 [row (nd29) 197 #[.slice (some ⟨nd15, 0, none⟩) key.size key.size, .int .i32 0, .bool false, .bool false, .bool false], row (nd15) 69 (units key), row (nd11) 69 (units key)] _ := (hG.pick [2999, 999, 6999] (by decide) hM).conv (by
        show [R9 L9 α 2999, R9 L9 α 999, R9 L9 α 6999] = _
        rw [e0, e1, e2])
      clear e0 e1 e2 hM
      refine Calls.mono (isKeyO key nd29 nd15 nd11 loc _ _ _ hP (by omega)) ?_
      rintro e9 u1 ⟨rfl, hQ⟩
      obtain ⟨α', hα'⟩ : ∃ α' : Rega.Atoms, α' = α := ⟨_, rfl⟩
      have f0 : R9 (Rega.ran L9 25) α' 2999 = row (nd29) 197 #[.slice (some ⟨nd15, 0, none⟩) key.size key.size, .int .i32 0, .bool false, .bool false, .bool false] := rfl
      have f1 : R9 (Rega.ran L9 25) α' 999 = row (nd15) 69 (units key) := rfl
      have f2 : R9 (Rega.ran L9 25) α' 6999 = row (nd11) 69 (units key) := rfl
      have hα : ∀ j, j % 1000 ≠ 25 → α' j = α j := fun j hj => by rw [hα']
      skip
      refine hK _ α' _ hα ?_ (step_call (st9) hL hcl hα [2999, 999, 6999] [2999, 999, 6999] (by decide) (by decide) (by decide) (M := _) ?_ hG hQ)
      · rfl
      · show [R9 (Rega.ran L9 25) α' 2999, R9 (Rega.ran L9 25) α' 999, R9 (Rega.ran L9 25) α' 6999] = _
        rw [f0, f1, f2]
    · intro L9 α a9 u9 K9 hL hcl hA hG hS h0 hK
      replace hL : L9 26 = false := hL
      have q120 : a9.tmps[120]? = some (.bool true) := hS 25 120 (by decide) rfl (by show 120 < 235; decide)
      have s120 := Rega.eval_of q120
      have q115 : a9.tmps[115]? = some (.bool false) := hS 20 115 (by decide) rfl (by show 115 < 235; decide)
      have s115 := Rega.eval_of q115
      go_simp
      exact hK _ α _ (fun _ _ => rfl) rfl (step_same (st9) hL hcl rfl rfl hG)
    · intro L9 α a9 u9 K9 hL hcl hA hG hS h0 hK
      replace hL : L9 27 = false := hL
      have q115 : a9.tmps[115]? = some (.bool false) := hS 20 115 (by decide) rfl (by show 115 < 235; decide)
      have s115 := Rega.eval_of q115
      have q121 : a9.tmps[121]? = some (.bool false) := hS 26 121 (by decide) rfl (by show 121 < 235; decide)
      have s121 := Rega.eval_of q121
      go_simp
      exact hK _ α _ (fun _ _ => rfl) rfl (step_same (st9) hL hcl rfl rfl hG)
  clear st9
  intro α u hG
  have e0 : R9 (fun k => decide (k < 28)) α 999 = row (nd15) 69 (units key) := rfl
  have e1 : R9 (fun k => decide (k < 28)) α 1999 = row (nd28) 32 #[.iface (clsTy s) (.pointer (some ⟨nd30, 0, none⟩)), .int .i32 loc, .iface (thsTy r) (.pointer (some ⟨nd32, 0, none⟩)), .int .i32 loc, .iface 195 (.pointer (some ⟨nd29, 0, none⟩)), .int .i32 loc, .iface 235 (.pointer (some ⟨nd33, 0, none⟩)), .int .i32 loc] := rfl
  have e2 : R9 (fun k => decide (k < 28)) α 2999 = row (nd29) 197 #[.slice (some ⟨nd15, 0, none⟩) key.size key.size, .int .i32 0, .bool false, .bool false, .bool false] := rfl
  have e3 : R9 (fun k => decide (k < 28)) α 3999 = row (nd30) (clsT s) (clsC s loc (nd31)) := rfl
  have e4 : R9 (fun k => decide (k < 28)) α 4999 = row (nd31) (xtrT s) (xtrC s loc (nd30)) := rfl
  have e5 : R9 (fun k => decide (k < 28)) α 5999 = row (nd32) (thsT r) (thsC r) := rfl
  have e6 : R9 (fun k => decide (k < 28)) α 6999 = row (nd11) 69 (units key) := rfl
  have e7 : R9 (fun k => decide (k < 28)) α 7999 = row (B1) 48 #[.int .u32 0, .int .u32 0] := rfl
  have hO : Own w0 u [row (nd15) 69 (units key), row (nd28) 32 #[.iface (clsTy s) (.pointer (some ⟨nd30, 0, none⟩)), .int .i32 loc, .iface (thsTy r) (.pointer (some ⟨nd32, 0, none⟩)), .int .i32 loc, .iface 195 (.pointer (some ⟨nd29, 0, none⟩)), .int .i32 loc, .iface 235 (.pointer (some ⟨nd33, 0, none⟩)), .int .i32 loc], row (nd29) 197 #[.slice (some ⟨nd15, 0, none⟩) key.size key.size, .int .i32 0, .bool false, .bool false, .bool false], row (nd30) (clsT s) (clsC s loc (nd31)), row (nd31) (xtrT s) (xtrC s loc (nd30)), row (nd32) (thsT r) (thsC r), row (nd11) 69 (units key), row (B1) 48 #[.int .u32 0, .int .u32 0]] X9_46 := (hG.list [999, 1999, 2999, 3999, 4999, 5999, 6999, 7999] (by decide) (act_all (by decide))).conv (by
    show [R9 (fun k => decide (k < 28)) α 999, R9 (fun k => decide (k < 28)) α 1999, R9 (fun k => decide (k < 28)) α 2999, R9 (fun k => decide (k < 28)) α 3999, R9 (fun k => decide (k < 28)) α 4999, R9 (fun k => decide (k < 28)) α 5999, R9 (fun k => decide (k < 28)) α 6999, R9 (fun k => decide (k < 28)) α 7999] = _
    rw [e0, e1, e2, e3, e4, e5, e6, e7])
  clear hG e0 e1 e2 e3 e4 e5 e6 e7 R9
  generalize hfr : Rega.frameAt _ _ _ _ _ = fr
  have hdf : fr = ⟨#[.int .i32 loc, .string key, .int .u8 op, .bool s, .bool r, .int .u32 vm, undef, undef, undef, undef, undef, undef, .bool false, .pointer (some ⟨B1, 0, none⟩), .pointer (some ⟨nd4, 0, none⟩), .pointer (some ⟨B8, 0, none⟩), .slice (some ⟨nd11, 0, none⟩) key.size key.size, .pointer (some ⟨B12, 0, none⟩), .pointer (some ⟨nd19, 0, none⟩), .pointer (some ⟨B39, 0, none⟩), .bool true, .pointer (some ⟨B42, 0, none⟩), .bool true, .slice (some ⟨nd28, 0, none⟩) 4 4, .bool true, undef, undef, undef, undef, undef, undef, undef, undef, undef, .int .i32 loc, .string key, .int .u8 op, .bool s, .bool r, .int .u32 vm, .bool true, .bool false, .string key, .int .i64 (key.size : Int), .bool (decide (65536 < (key.size : Int))), .agg #[.int .u32 0, .int .u32 0], .slice (some ⟨nd3, 0, none⟩) 1 1, .agg #[.int .u32 0, .int .u32 0], .bool s, .bool r, .pointer (some ⟨nd4, 0, none⟩), .int .i32 loc, .agg #[.int .i32 loc], .string key, .slice (some ⟨nd11, 0, none⟩) key.size key.size, .int .u32 vm, .agg #[.int .u32 3, .int .u32 vm], .pointer (some ⟨nd4, 0, none⟩), .agg #[.int .i32 loc], .int .i32 loc, .string key, .slice (some ⟨nd15, 0, none⟩) key.size key.size, .agg #[.iface 195 (.pointer (some ⟨nd16, 0, none⟩)), .int .i32 loc], .int .u8 op, .int .i32 loc, .agg #[.int .u32 3, .int .u32 vm], .agg #[.iface 189 (.pointer (some ⟨nd17, 0, none⟩)), .int .i32 loc], .agg #[.iface 251 (.pointer (some ⟨nd27, 0, none⟩)), .int .i32 loc], .tuple #[.agg #[.int .u32 0, .int .u32 2], .bool true], .pointer (some ⟨nd4, 0, none⟩), .tuple #[.agg #[.int .u32 0, .int .u32 2], .bool true], .agg #[.int .u32 0, .int .u32 2], .bool true, .tuple #[.agg #[.int .u32 0, .int .u32 1], .bool true], .pointer (some ⟨nd4, 0, none⟩), .tuple #[.agg #[.int .u32 0, .int .u32 1], .bool true], .agg #[.int .u32 0, .int .u32 1], .bool true, .bool true, .bool false, .bool false, .bool true, .bool false, .bool false, .bool false, .pointer (some ⟨nd4, 0, none⟩), .int .i64 2, .bool false, .bool false, .tuple #[.slice (some ⟨nd28, 0, none⟩) 4 4, .bool true], .agg #[.iface 251 (.pointer (some ⟨nd27, 0, none⟩)), .int .i32 loc], .agg #[.int .u32 0, .int .u32 2], .tuple #[.slice (some ⟨nd28, 0, none⟩) 4 4, .bool true], .slice (some ⟨nd28, 0, none⟩) 4 4, .bool true, .bool true, .bool false, .bool false, .slice (some ⟨nd28, 0, none⟩) 4 4, .pointer (some ⟨nd28, 0, none⟩), .agg #[.iface (clsTy s) (.pointer (some ⟨nd30, 0, none⟩)), .int .i32 loc], .agg #[.int .u32 0, .int .u32 0], .bool s, .bool true, .bool false, .bool false, .bool false, .slice (some ⟨nd28, 0, none⟩) 4 4, .pointer (some ⟨nd28, 2, none⟩), .agg #[.iface (thsTy r) (.pointer (some ⟨nd32, 0, none⟩)), .int .i32 loc], .agg #[.int .u32 0, .int .u32 0], .bool r, .bool true, .bool false, .bool false, .bool false, .slice (some ⟨nd28, 0, none⟩) 4 4, .pointer (some ⟨nd28, 4, none⟩), .agg #[.iface 195 (.pointer (some ⟨nd29, 0, none⟩)), .int .i32 loc], .slice (some ⟨nd11, 0, none⟩) key.size key.size, .bool true, .bool false, .bool false, undef, undef, undef, undef, undef, undef, undef, undef, undef, undef, undef, undef, undef, undef, undef, undef, undef, undef, undef, undef, undef, undef, undef, undef, undef, undef, undef, undef, undef, undef, undef, undef, undef, undef, undef, undef, undef, undef, undef, undef, undef, undef, undef, undef, undef, undef, undef, undef, undef, undef, undef, undef, undef, undef, undef, undef, undef, undef, undef, undef, undef, undef, undef, undef, undef, undef, undef, undef, undef, undef, undef, undef, undef, undef, undef, undef, undef, undef, undef, undef, undef, undef, undef, undef, undef, undef, undef, undef, undef, undef, undef, undef, undef, undef, undef, undef, undef, undef, undef, undef, undef, undef, undef, undef, undef, undef, undef, undef, undef, undef, undef, undef], []⟩ := by rw [← hfr]; kernel_rfl
  clear hfr
  subst hdf
  clear α
  subst hX9_46
  have hN : Own w0 u [row (nd15) 69 (units key), row (nd28) 32 #[.iface (clsTy s) (.pointer (some ⟨nd30, 0, none⟩)), .int .i32 loc, .iface (thsTy r) (.pointer (some ⟨nd32, 0, none⟩)), .int .i32 loc, .iface 195 (.pointer (some ⟨nd29, 0, none⟩)), .int .i32 loc, .iface 235 (.pointer (some ⟨nd33, 0, none⟩)), .int .i32 loc], row (nd29) 197 #[.slice (some ⟨nd15, 0, none⟩) key.size key.size, .int .i32 0, .bool false, .bool false, .bool false], row (nd30) (clsT s) (clsC s loc (nd31)), row (nd31) (xtrT s) (xtrC s loc (nd30)), row (nd32) (thsT r) (thsC r), row (nd11) 69 (units key), row (B1) 48 #[.int .u32 0, .int .u32 0], row (nd27) 255 #[.iface 189 (.pointer (some ⟨nd26, 0, none⟩)), .int .i32 loc, .slice (some ⟨nd28, 0, none⟩) 4 4, .int .i32 0, .int .u8 0, .int .u8 0, .bool false, .bool false], row (nd26) 191 #[.int .u32 0, .int .u32 2, .bool false, .bool false, .bool false], row (nd4) 188 ((newSrstP r s nd3 nd5 nd6 nd7).setIfInBounds 106 (.slice (some ⟨nd35, 0, none⟩) 3 (3 + nd36))), row (B42) 48 #[.int .u32 0, .int .u32 1], row (B39) 48 #[.int .u32 0, .int .u32 2], row (B12) 48 #[.int .u32 3, .int .u32 vm], row (B8) 30 #[.int .i32 loc], row (nd35) 74 (full symZ (symL ([sy ⟨#[70, 111, 111]⟩ (uz r (uz r 0)), sy ⟨#[95, 95, 115, 117, 112, 101, 114, 71, 101, 116]⟩ 1, sy ⟨#[95, 95, 115, 117, 112, 101, 114, 83, 101, 116]⟩ 1])) (nd36)), row (nd16) 197 #[.slice (some ⟨nd15, 0, none⟩) key.size key.size, .int .i32 0, .bool false, .bool false, .bool false], row (nd17) 191 #[.int .u32 3, .int .u32 vm, .bool false, .bool false, .bool false], row (nd18) 191 #[.int .u32 0, .int .u32 1, .bool false, .bool false, .bool false], row (nd20) 255 #[.iface 189 (.pointer (some ⟨nd18, 0, none⟩)), .int .i32 loc, .slice (some ⟨nd21, 0, none⟩) 3 3, .int .i32 0, .int .u8 0, .int .u8 0, .bool false, .bool false], row (nd21) 32 #[.iface (clsTy s) (.pointer (some ⟨nd23, 0, none⟩)), .int .i32 loc, .iface (thsTy r) (.pointer (some ⟨nd25, 0, none⟩)), .int .i32 loc, .iface 195 (.pointer (some ⟨nd22, 0, none⟩)), .int .i32 loc], row (nd22) 197 #[.slice (some ⟨nd15, 0, none⟩) key.size key.size, .int .i32 0, .bool false, .bool false, .bool false], row (nd23) (clsT s) (clsC s loc (nd24)), row (nd24) (xtrT s) (xtrC s loc (nd23)), row (nd25) (thsT r) (thsC r), row (nd33) 238 #[.iface 251 (.pointer (some ⟨nd20, 0, none⟩)), .int .i32 loc, .iface 189 (.pointer (some ⟨nd17, 0, none⟩)), .int .i32 loc, .int .u8 op, .bool false], row (nd19) 32 #[.iface 251 (.pointer (some ⟨nd27, 0, none⟩)), .int .i32 loc]] X := hO.back HL.out HX.out [0, 1, 2, 3, 4, 5, 6, 7, 9, 10, 11, 12, 13, 14, 15, 16, 17, 23, 24] (by decide) (by decide)
  clear hO HL HX
  have hO := hN
  clear hN
  obtain ⟨c9_1_0, c9_1_1, c9_1_2, c9_1_3, c9_1_4, c9_1_5, c9_1_6, c9_1_7, lt9_1, y9_1, -⟩ := hO.k8 1 rfl
  obtain ⟨c9_2_0, c9_2_1, c9_2_2, c9_2_3, c9_2_4, lt9_2, y9_2, -⟩ := hO.k5 2 rfl
  obtain ⟨c9_7_0, c9_7_1, lt9_7, y9_7, -⟩ := hO.k2 7 rfl
  obtain ⟨c9_8_0, c9_8_1, c9_8_2, c9_8_3, c9_8_4, c9_8_5, c9_8_6, c9_8_7, lt9_8, y9_8, -⟩ := hO.k8 8 rfl
  obtain ⟨c9_9_0, c9_9_1, c9_9_2, c9_9_3, c9_9_4, lt9_9, y9_9, -⟩ := hO.k5 9 rfl
  obtain ⟨c9_11_0, c9_11_1, lt9_11, y9_11, -⟩ := hO.k2 11 rfl
  obtain ⟨c9_12_0, c9_12_1, lt9_12, y9_12, -⟩ := hO.k2 12 rfl
  obtain ⟨c9_13_0, c9_13_1, lt9_13, y9_13, -⟩ := hO.k2 13 rfl
  obtain ⟨c9_14_0, lt9_14, y9_14, -⟩ := hO.k1 14 rfl
  obtain ⟨c9_16_0, c9_16_1, c9_16_2, c9_16_3, c9_16_4, lt9_16, y9_16, -⟩ := hO.k5 16 rfl
  obtain ⟨c9_17_0, c9_17_1, c9_17_2, c9_17_3, c9_17_4, lt9_17, y9_17, -⟩ := hO.k5 17 rfl
  obtain ⟨c9_18_0, c9_18_1, c9_18_2, c9_18_3, c9_18_4, lt9_18, y9_18, -⟩ := hO.k5 18 rfl
  obtain ⟨c9_19_0, c9_19_1, c9_19_2, c9_19_3, c9_19_4, c9_19_5, c9_19_6, c9_19_7, lt9_19, y9_19, -⟩ := hO.k8 19 rfl
  obtain ⟨c9_20_0, c9_20_1, c9_20_2, c9_20_3, c9_20_4, c9_20_5, lt9_20, y9_20, -⟩ := hO.k6 20 rfl
  obtain ⟨c9_21_0, c9_21_1, c9_21_2, c9_21_3, c9_21_4, lt9_21, y9_21, -⟩ := hO.k5 21 rfl
  obtain ⟨c9_25_0, c9_25_1, c9_25_2, c9_25_3, c9_25_4, c9_25_5, lt9_25, y9_25, -⟩ := hO.k6 25 rfl
  obtain ⟨c9_26_0, c9_26_1, lt9_26, y9_26, -⟩ := hO.k2 26 rfl
  have HO := Lib.hid hO
  clear hO
  go_wp2_with (first | (with_reducible refine Own.stay (fn := Tryz.f5) ?_) | (first | (go_at_call 18; go_in)))
  try with_reducible refine Own.Stay.mk ?_
  have hO := HO.out
  clear HO c9_1_0 c9_1_1 c9_1_2 c9_1_3 c9_1_4 c9_1_5 c9_1_6 c9_1_7 lt9_1 y9_1 c9_2_0 c9_2_1 c9_2_2 c9_2_3 c9_2_4 lt9_2 y9_2 c9_7_0 c9_7_1 lt9_7 y9_7 c9_8_0 c9_8_1 c9_8_2 c9_8_3 c9_8_4 c9_8_5 c9_8_6 c9_8_7 lt9_8 y9_8 c9_9_0 c9_9_1 c9_9_2 c9_9_3 c9_9_4 lt9_9 y9_9 c9_11_0 c9_11_1 lt9_11 y9_11 c9_12_0 c9_12_1 lt9_12 y9_12 c9_13_0 c9_13_1 lt9_13 y9_13 c9_14_0 lt9_14 y9_14 c9_16_0 c9_16_1 c9_16_2 c9_16_3 c9_16_4 lt9_16 y9_16 c9_17_0 c9_17_1 c9_17_2 c9_17_3 c9_17_4 lt9_17 y9_17 c9_18_0 c9_18_1 c9_18_2 c9_18_3 c9_18_4 lt9_18 y9_18 c9_19_0 c9_19_1 c9_19_2 c9_19_3 c9_19_4 c9_19_5 c9_19_6 c9_19_7 lt9_19 y9_19 c9_20_0 c9_20_1 c9_20_2 c9_20_3 c9_20_4 c9_20_5 lt9_20 y9_20 c9_21_0 c9_21_1 c9_21_2 c9_21_3 c9_21_4 lt9_21 y9_21 c9_25_0 c9_25_1 c9_25_2 c9_25_3 c9_25_4 c9_25_5 lt9_25 y9_25 c9_26_0 c9_26_1 lt9_26 y9_26
  have hL := hO.apart
  have hX := hO.apartX
  have HL := Lib.hid hL
  have HX := Lib.hid hX
  clear hL hX
  have hP9 := hO.pick [25] (by decide)
  have T9 := binOf nd33 loc 251 nd20 loc 189 nd17 loc op _ _ _ hP9 
  refine Calls.mono T9 ?_
  clear hP9 T9
  rintro e u47 ⟨rfl, hQ⟩
  have hN : Own w0 u47 [row (nd33) 238 #[.iface 251 (.pointer (some ⟨nd20, 0, none⟩)), .int .i32 loc, .iface 189 (.pointer (some ⟨nd17, 0, none⟩)), .int .i32 loc, .int .u8 op, .bool false], row (nd15) 69 (units key), row (nd28) 32 #[.iface (clsTy s) (.pointer (some ⟨nd30, 0, none⟩)), .int .i32 loc, .iface (thsTy r) (.pointer (some ⟨nd32, 0, none⟩)), .int .i32 loc, .iface 195 (.pointer (some ⟨nd29, 0, none⟩)), .int .i32 loc, .iface 235 (.pointer (some ⟨nd33, 0, none⟩)), .int .i32 loc], row (nd29) 197 #[.slice (some ⟨nd15, 0, none⟩) key.size key.size, .int .i32 0, .bool false, .bool false, .bool false], row (nd30) (clsT s) (clsC s loc (nd31)), row (nd31) (xtrT s) (xtrC s loc (nd30)), row (nd32) (thsT r) (thsC r), row (nd11) 69 (units key), row (B1) 48 #[.int .u32 0, .int .u32 0], row (nd27) 255 #[.iface 189 (.pointer (some ⟨nd26, 0, none⟩)), .int .i32 loc, .slice (some ⟨nd28, 0, none⟩) 4 4, .int .i32 0, .int .u8 0, .int .u8 0, .bool false, .bool false], row (nd26) 191 #[.int .u32 0, .int .u32 2, .bool false, .bool false, .bool false], row (nd4) 188 ((newSrstP r s nd3 nd5 nd6 nd7).setIfInBounds 106 (.slice (some ⟨nd35, 0, none⟩) 3 (3 + nd36))), row (B42) 48 #[.int .u32 0, .int .u32 1], row (B39) 48 #[.int .u32 0, .int .u32 2], row (B12) 48 #[.int .u32 3, .int .u32 vm], row (B8) 30 #[.int .i32 loc], row (nd35) 74 (full symZ (symL ([sy ⟨#[70, 111, 111]⟩ (uz r (uz r 0)), sy ⟨#[95, 95, 115, 117, 112, 101, 114, 71, 101, 116]⟩ 1, sy ⟨#[95, 95, 115, 117, 112, 101, 114, 83, 101, 116]⟩ 1])) (nd36)), row (nd16) 197 #[.slice (some ⟨nd15, 0, none⟩) key.size key.size, .int .i32 0, .bool false, .bool false, .bool false], row (nd17) 191 #[.int .u32 3, .int .u32 vm, .bool false, .bool false, .bool false], row (nd18) 191 #[.int .u32 0, .int .u32 1, .bool false, .bool false, .bool false], row (nd20) 255 #[.iface 189 (.pointer (some ⟨nd18, 0, none⟩)), .int .i32 loc, .slice (some ⟨nd21, 0, none⟩) 3 3, .int .i32 0, .int .u8 0, .int .u8 0, .bool false, .bool false], row (nd21) 32 #[.iface (clsTy s) (.pointer (some ⟨nd23, 0, none⟩)), .int .i32 loc, .iface (thsTy r) (.pointer (some ⟨nd25, 0, none⟩)), .int .i32 loc, .iface 195 (.pointer (some ⟨nd22, 0, none⟩)), .int .i32 loc], row (nd22) 197 #[.slice (some ⟨nd15, 0, none⟩) key.size key.size, .int .i32 0, .bool false, .bool false, .bool false], row (nd23) (clsT s) (clsC s loc (nd24)), row (nd24) (xtrT s) (xtrC s loc (nd23)), row (nd25) (thsT r) (thsC r), row (nd19) 32 #[.iface 251 (.pointer (some ⟨nd27, 0, none⟩)), .int .i32 loc]] X := hQ.back HL.out HX.out [0, 1, 2, 3, 4, 5, 6, 7, 8, 9, 10, 11, 12, 13, 14, 15, 16, 17, 18, 19, 20, 21, 22, 23, 24, 26] (by decide) (by decide)
  clear hQ HL HX hO
  have hO := hN
  clear hN
  obtain ⟨c9_0_0, c9_0_1, c9_0_2, c9_0_3, c9_0_4, c9_0_5, lt9_0, y9_0, -⟩ := hO.k6 0 rfl
  obtain ⟨c9_2_0, c9_2_1, c9_2_2, c9_2_3, c9_2_4, c9_2_5, c9_2_6, c9_2_7, lt9_2, y9_2, -⟩ := hO.k8 2 rfl
  obtain ⟨c9_3_0, c9_3_1, c9_3_2, c9_3_3, c9_3_4, lt9_3, y9_3, -⟩ := hO.k5 3 rfl
  obtain ⟨c9_8_0, c9_8_1, lt9_8, y9_8, -⟩ := hO.k2 8 rfl
  obtain ⟨c9_9_0, c9_9_1, c9_9_2, c9_9_3, c9_9_4, c9_9_5, c9_9_6, c9_9_7, lt9_9, y9_9, -⟩ := hO.k8 9 rfl
  obtain ⟨c9_10_0, c9_10_1, c9_10_2, c9_10_3, c9_10_4, lt9_10, y9_10, -⟩ := hO.k5 10 rfl
  obtain ⟨c9_12_0, c9_12_1, lt9_12, y9_12, -⟩ := hO.k2 12 rfl
  obtain ⟨c9_13_0, c9_13_1, lt9_13, y9_13, -⟩ := hO.k2 13 rfl
  obtain ⟨c9_14_0, c9_14_1, lt9_14, y9_14, -⟩ := hO.k2 14 rfl
  obtain ⟨c9_15_0, lt9_15, y9_15, -⟩ := hO.k1 15 rfl
  obtain ⟨c9_17_0, c9_17_1, c9_17_2, c9_17_3, c9_17_4, lt9_17, y9_17, -⟩ := hO.k5 17 rfl
  obtain ⟨c9_18_0, c9_18_1, c9_18_2, c9_18_3, c9_18_4, lt9_18, y9_18, -⟩ := hO.k5 18 rfl
  obtain ⟨c9_19_0, c9_19_1, c9_19_2, c9_19_3, c9_19_4, lt9_19, y9_19, -⟩ := hO.k5 19 rfl
  obtain ⟨c9_20_0, c9_20_1, c9_20_2, c9_20_3, c9_20_4, c9_20_5, c9_20_6, c9_20_7, lt9_20, y9_20, -⟩ := hO.k8 20 rfl
  obtain ⟨c9_21_0, c9_21_1, c9_21_2, c9_21_3, c9_21_4, c9_21_5, lt9_21, y9_21, -⟩ := hO.k6 21 rfl
  obtain ⟨c9_22_0, c9_22_1, c9_22_2, c9_22_3, c9_22_4, lt9_22, y9_22, -⟩ := hO.k5 22 rfl
  obtain ⟨c9_26_0, c9_26_1, lt9_26, y9_26, -⟩ := hO.k2 26 rfl
  have HO := Lib.hid hO
  clear hO
  go_wp2_with (first | (with_reducible refine Own.stay (fn := Tryz.f5) ?_) | (first | (go_at_call 18; go_in)))
  try with_reducible refine Own.Stay.mk ?_
  have hO := HO.out
  clear HO c9_0_0 c9_0_1 c9_0_2 c9_0_3 c9_0_4 c9_0_5 lt9_0 y9_0 c9_2_0 c9_2_1 c9_2_2 c9_2_3 c9_2_4 c9_2_5 c9_2_6 c9_2_7 lt9_2 y9_2 c9_3_0 c9_3_1 c9_3_2 c9_3_3 c9_3_4 lt9_3 y9_3 c9_8_0 c9_8_1 lt9_8 y9_8 c9_9_0 c9_9_1 c9_9_2 c9_9_3 c9_9_4 c9_9_5 c9_9_6 c9_9_7 lt9_9 y9_9 c9_10_0 c9_10_1 c9_10_2 c9_10_3 c9_10_4 lt9_10 y9_10 c9_12_0 c9_12_1 lt9_12 y9_12 c9_13_0 c9_13_1 lt9_13 y9_13 c9_14_0 c9_14_1 lt9_14 y9_14 c9_15_0 lt9_15 y9_15 c9_17_0 c9_17_1 c9_17_2 c9_17_3 c9_17_4 lt9_17 y9_17 c9_18_0 c9_18_1 c9_18_2 c9_18_3 c9_18_4 lt9_18 y9_18 c9_19_0 c9_19_1 c9_19_2 c9_19_3 c9_19_4 lt9_19 y9_19 c9_20_0 c9_20_1 c9_20_2 c9_20_3 c9_20_4 c9_20_5 c9_20_6 c9_20_7 lt9_20 y9_20 c9_21_0 c9_21_1 c9_21_2 c9_21_3 c9_21_4 c9_21_5 lt9_21 y9_21 c9_22_0 c9_22_1 c9_22_2 c9_22_3 c9_22_4 lt9_22 y9_22 c9_26_0 c9_26_1 lt9_26 y9_26
  generalize hW : World.alloc _ _ = W49
  have hN : Own w0 W49 [row (u47.heap.size + 1) 32 #[.iface 189 (.pointer (some ⟨nd17, 0, none⟩)), .int .i32 loc], row (u47.heap.size) 32 #[.iface 251 (.pointer (some ⟨nd20, 0, none⟩)), .int .i32 loc], row (nd33) 238 #[.iface 251 (.pointer (some ⟨nd20, 0, none⟩)), .int .i32 loc, .iface 189 (.pointer (some ⟨nd17, 0, none⟩)), .int .i32 loc, .int .u8 op, .bool false], row (nd15) 69 (units key), row (nd28) 32 #[.iface (clsTy s) (.pointer (some ⟨nd30, 0, none⟩)), .int .i32 loc, .iface (thsTy r) (.pointer (some ⟨nd32, 0, none⟩)), .int .i32 loc, .iface 195 (.pointer (some ⟨nd29, 0, none⟩)), .int .i32 loc, .iface 235 (.pointer (some ⟨nd33, 0, none⟩)), .int .i32 loc], row (nd29) 197 #[.slice (some ⟨nd15, 0, none⟩) key.size key.size, .int .i32 0, .bool false, .bool false, .bool false], row (nd30) (clsT s) (clsC s loc (nd31)), row (nd31) (xtrT s) (xtrC s loc (nd30)), row (nd32) (thsT r) (thsC r), row (nd11) 69 (units key), row (B1) 48 #[.int .u32 0, .int .u32 0], row (nd27) 255 #[.iface 189 (.pointer (some ⟨nd26, 0, none⟩)), .int .i32 loc, .slice (some ⟨nd28, 0, none⟩) 4 4, .int .i32 0, .int .u8 0, .int .u8 0, .bool false, .bool false], row (nd26) 191 #[.int .u32 0, .int .u32 2, .bool false, .bool false, .bool false], row (nd4) 188 ((newSrstP r s nd3 nd5 nd6 nd7).setIfInBounds 106 (.slice (some ⟨nd35, 0, none⟩) 3 (3 + nd36))), row (B42) 48 #[.int .u32 0, .int .u32 1], row (B39) 48 #[.int .u32 0, .int .u32 2], row (B12) 48 #[.int .u32 3, .int .u32 vm], row (B8) 30 #[.int .i32 loc], row (nd35) 74 (full symZ (symL ([sy ⟨#[70, 111, 111]⟩ (uz r (uz r 0)), sy ⟨#[95, 95, 115, 117, 112, 101, 114, 71, 101, 116]⟩ 1, sy ⟨#[95, 95, 115, 117, 112, 101, 114, 83, 101, 116]⟩ 1])) (nd36)), row (nd16) 197 #[.slice (some ⟨nd15, 0, none⟩) key.size key.size, .int .i32 0, .bool false, .bool false, .bool false], row (nd17) 191 #[.int .u32 3, .int .u32 vm, .bool false, .bool false, .bool false], row (nd18) 191 #[.int .u32 0, .int .u32 1, .bool false, .bool false, .bool false], row (nd20) 255 #[.iface 189 (.pointer (some ⟨nd18, 0, none⟩)), .int .i32 loc, .slice (some ⟨nd21, 0, none⟩) 3 3, .int .i32 0, .int .u8 0, .int .u8 0, .bool false, .bool false], row (nd21) 32 #[.iface (clsTy s) (.pointer (some ⟨nd23, 0, none⟩)), .int .i32 loc, .iface (thsTy r) (.pointer (some ⟨nd25, 0, none⟩)), .int .i32 loc, .iface 195 (.pointer (some ⟨nd22, 0, none⟩)), .int .i32 loc], row (nd22) 197 #[.slice (some ⟨nd15, 0, none⟩) key.size key.size, .int .i32 0, .bool false, .bool false, .bool false], row (nd23) (clsT s) (clsC s loc (nd24)), row (nd24) (xtrT s) (xtrC s loc (nd23)), row (nd25) (thsT r) (thsC r), row (nd19) 32 #[.iface 251 (.pointer (some ⟨nd27, 0, none⟩)), .int .i32 loc]] X := by
    rw [← hW]
    exact ((hO).alloc' _ (u47.heap.size) (by simp)).alloc' _ (u47.heap.size + 1) (by simp)
  clear hW hO
  generalize u47.heap.size + 1 = B48_1 at hN ⊢
  generalize u47.heap.size = B48 at hN ⊢
  have hO := hN
  clear hN
  have hL := hO.apart
  have hX := hO.apartX
  have HL := Lib.hid hL
  have HX := Lib.hid hX
  clear hL hX
  have hP9 := hO.pick [20] (by decide)
  have T9 := identOf nd17 loc 3 vm _ _ _ hP9 
  refine Calls.mono T9 ?_
  clear hP9 T9
  rintro e u50 ⟨rfl, hQ⟩
  have hN : Own w0 u50 [row (nd17) 191 #[.int .u32 3, .int .u32 vm, .bool false, .bool false, .bool false], row (B48_1) 32 #[.iface 189 (.pointer (some ⟨nd17, 0, none⟩)), .int .i32 loc], row (B48) 32 #[.iface 251 (.pointer (some ⟨nd20, 0, none⟩)), .int .i32 loc], row (nd33) 238 #[.iface 251 (.pointer (some ⟨nd20, 0, none⟩)), .int .i32 loc, .iface 189 (.pointer (some ⟨nd17, 0, none⟩)), .int .i32 loc, .int .u8 op, .bool false], row (nd15) 69 (units key), row (nd28) 32 #[.iface (clsTy s) (.pointer (some ⟨nd30, 0, none⟩)), .int .i32 loc, .iface (thsTy r) (.pointer (some ⟨nd32, 0, none⟩)), .int .i32 loc, .iface 195 (.pointer (some ⟨nd29, 0, none⟩)), .int .i32 loc, .iface 235 (.pointer (some ⟨nd33, 0, none⟩)), .int .i32 loc], row (nd29) 197 #[.slice (some ⟨nd15, 0, none⟩) key.size key.size, .int .i32 0, .bool false, .bool false, .bool false], row (nd30) (clsT s) (clsC s loc (nd31)), row (nd31) (xtrT s) (xtrC s loc (nd30)), row (nd32) (thsT r) (thsC r), row (nd11) 69 (units key), row (B1) 48 #[.int .u32 0, .int .u32 0], row (nd27) 255 #[.iface 189 (.pointer (some ⟨nd26, 0, none⟩)), .int .i32 loc, .slice (some ⟨nd28, 0, none⟩) 4 4, .int .i32 0, .int .u8 0, .int .u8 0, .bool false, .bool false], row (nd26) 191 #[.int .u32 0, .int .u32 2, .bool false, .bool false, .bool false], row (nd4) 188 ((newSrstP r s nd3 nd5 nd6 nd7).setIfInBounds 106 (.slice (some ⟨nd35, 0, none⟩) 3 (3 + nd36))), row (B42) 48 #[.int .u32 0, .int .u32 1], row (B39) 48 #[.int .u32 0, .int .u32 2], row (B12) 48 #[.int .u32 3, .int .u32 vm], row (B8) 30 #[.int .i32 loc], row (nd35) 74 (full symZ (symL ([sy ⟨#[70, 111, 111]⟩ (uz r (uz r 0)), sy ⟨#[95, 95, 115, 117, 112, 101, 114, 71, 101, 116]⟩ 1, sy ⟨#[95, 95, 115, 117, 112, 101, 114, 83, 101, 116]⟩ 1])) (nd36)), row (nd16) 197 #[.slice (some ⟨nd15, 0, none⟩) key.size key.size, .int .i32 0, .bool false, .bool false, .bool false], row (nd18) 191 #[.int .u32 0, .int .u32 1, .bool false, .bool false, .bool false], row (nd20) 255 #[.iface 189 (.pointer (some ⟨nd18, 0, none⟩)), .int .i32 loc, .slice (some ⟨nd21, 0, none⟩) 3 3, .int .i32 0, .int .u8 0, .int .u8 0, .bool false, .bool false], row (nd21) 32 #[.iface (clsTy s) (.pointer (some ⟨nd23, 0, none⟩)), .int .i32 loc, .iface (thsTy r) (.pointer (some ⟨nd25, 0, none⟩)), .int .i32 loc, .iface 195 (.pointer (some ⟨nd22, 0, none⟩)), .int .i32 loc], row (nd22) 197 #[.slice (some ⟨nd15, 0, none⟩) key.size key.size, .int .i32 0, .bool false, .bool false, .bool false], row (nd23) (clsT s) (clsC s loc (nd24)), row (nd24) (xtrT s) (xtrC s loc (nd23)), row (nd25) (thsT r) (thsC r), row (nd19) 32 #[.iface 251 (.pointer (some ⟨nd27, 0, none⟩)), .int .i32 loc]] X := hQ.back HL.out HX.out [0, 1, 2, 3, 4, 5, 6, 7, 8, 9, 10, 11, 12, 13, 14, 15, 16, 17, 18, 19, 21, 22, 23, 24, 25, 26, 27, 28] (by decide) (by decide)
  clear hQ HL HX hO
  have hO := hN
  clear hN
  obtain ⟨c9_0_0, c9_0_1, c9_0_2, c9_0_3, c9_0_4, lt9_0, y9_0, -⟩ := hO.k5 0 rfl
  obtain ⟨c9_1_0, c9_1_1, lt9_1, y9_1, -⟩ := hO.k2 1 rfl
  obtain ⟨c9_2_0, c9_2_1, lt9_2, y9_2, -⟩ := hO.k2 2 rfl
  obtain ⟨c9_3_0, c9_3_1, c9_3_2, c9_3_3, c9_3_4, c9_3_5, lt9_3, y9_3, -⟩ := hO.k6 3 rfl
  obtain ⟨c9_5_0, c9_5_1, c9_5_2, c9_5_3, c9_5_4, c9_5_5, c9_5_6, c9_5_7, lt9_5, y9_5, -⟩ := hO.k8 5 rfl
  obtain ⟨c9_6_0, c9_6_1, c9_6_2, c9_6_3, c9_6_4, lt9_6, y9_6, -⟩ := hO.k5 6 rfl
  obtain ⟨c9_11_0, c9_11_1, lt9_11, y9_11, -⟩ := hO.k2 11 rfl
  obtain ⟨c9_12_0, c9_12_1, c9_12_2, c9_12_3, c9_12_4, c9_12_5, c9_12_6, c9_12_7, lt9_12, y9_12, -⟩ := hO.k8 12 rfl
  obtain ⟨c9_13_0, c9_13_1, c9_13_2, c9_13_3, c9_13_4, lt9_13, y9_13, -⟩ := hO.k5 13 rfl
  obtain ⟨c9_15_0, c9_15_1, lt9_15, y9_15, -⟩ := hO.k2 15 rfl
  obtain ⟨c9_16_0, c9_16_1, lt9_16, y9_16, -⟩ := hO.k2 16 rfl
  obtain ⟨c9_17_0, c9_17_1, lt9_17, y9_17, -⟩ := hO.k2 17 rfl
  obtain ⟨c9_18_0, lt9_18, y9_18, -⟩ := hO.k1 18 rfl
  obtain ⟨c9_20_0, c9_20_1, c9_20_2, c9_20_3, c9_20_4, lt9_20, y9_20, -⟩ := hO.k5 20 rfl
  obtain ⟨c9_21_0, c9_21_1, c9_21_2, c9_21_3, c9_21_4, lt9_21, y9_21, -⟩ := hO.k5 21 rfl
  obtain ⟨c9_22_0, c9_22_1, c9_22_2, c9_22_3, c9_22_4, c9_22_5, c9_22_6, c9_22_7, lt9_22, y9_22, -⟩ := hO.k8 22 rfl
  obtain ⟨c9_23_0, c9_23_1, c9_23_2, c9_23_3, c9_23_4, c9_23_5, lt9_23, y9_23, -⟩ := hO.k6 23 rfl
  obtain ⟨c9_24_0, c9_24_1, c9_24_2, c9_24_3, c9_24_4, lt9_24, y9_24, -⟩ := hO.k5 24 rfl
  obtain ⟨c9_28_0, c9_28_1, lt9_28, y9_28, -⟩ := hO.k2 28 rfl
  have HO := Lib.hid hO
  clear hO
  go_wp2_with (first | (with_reducible refine Own.stay (fn := Tryz.f5) ?_) | (first | (go_at_call 18; go_in)))
  try with_reducible refine Own.Stay.mk ?_
  have hO := HO.out
  clear HO c9_0_0 c9_0_1 c9_0_2 c9_0_3 c9_0_4 lt9_0 y9_0 c9_1_0 c9_1_1 lt9_1 y9_1 c9_2_0 c9_2_1 lt9_2 y9_2 c9_3_0 c9_3_1 c9_3_2 c9_3_3 c9_3_4 c9_3_5 lt9_3 y9_3 c9_5_0 c9_5_1 c9_5_2 c9_5_3 c9_5_4 c9_5_5 c9_5_6 c9_5_7 lt9_5 y9_5 c9_6_0 c9_6_1 c9_6_2 c9_6_3 c9_6_4 lt9_6 y9_6 c9_11_0 c9_11_1 lt9_11 y9_11 c9_12_0 c9_12_1 c9_12_2 c9_12_3 c9_12_4 c9_12_5 c9_12_6 c9_12_7 lt9_12 y9_12 c9_13_0 c9_13_1 c9_13_2 c9_13_3 c9_13_4 lt9_13 y9_13 c9_15_0 c9_15_1 lt9_15 y9_15 c9_16_0 c9_16_1 lt9_16 y9_16 c9_17_0 c9_17_1 lt9_17 y9_17 c9_18_0 lt9_18 y9_18 c9_20_0 c9_20_1 c9_20_2 c9_20_3 c9_20_4 lt9_20 y9_20 c9_21_0 c9_21_1 c9_21_2 c9_21_3 c9_21_4 lt9_21 y9_21 c9_22_0 c9_22_1 c9_22_2 c9_22_3 c9_22_4 c9_22_5 c9_22_6 c9_22_7 lt9_22 y9_22 c9_23_0 c9_23_1 c9_23_2 c9_23_3 c9_23_4 c9_23_5 lt9_23 y9_23 c9_24_0 c9_24_1 c9_24_2 c9_24_3 c9_24_4 lt9_24 y9_24 c9_28_0 c9_28_1 lt9_28 y9_28
  generalize hW : World.alloc _ _ = W52
  have hN : Own w0 W52 [row (u50.heap.size) 48 #[.int .u32 3, .int .u32 vm], row (nd17) 191 #[.int .u32 3, .int .u32 vm, .bool false, .bool false, .bool false], row (B48_1) 32 #[.iface 189 (.pointer (some ⟨nd17, 0, none⟩)), .int .i32 loc], row (B48) 32 #[.iface 251 (.pointer (some ⟨nd20, 0, none⟩)), .int .i32 loc], row (nd33) 238 #[.iface 251 (.pointer (some ⟨nd20, 0, none⟩)), .int .i32 loc, .iface 189 (.pointer (some ⟨nd17, 0, none⟩)), .int .i32 loc, .int .u8 op, .bool false], row (nd15) 69 (units key), row (nd28) 32 #[.iface (clsTy s) (.pointer (some ⟨nd30, 0, none⟩)), .int .i32 loc, .iface (thsTy r) (.pointer (some ⟨nd32, 0, none⟩)), .int .i32 loc, .iface 195 (.pointer (some ⟨nd29, 0, none⟩)), .int .i32 loc, .iface 235 (.pointer (some ⟨nd33, 0, none⟩)), .int .i32 loc], row (nd29) 197 #[.slice (some ⟨nd15, 0, none⟩) key.size key.size, .int .i32 0, .bool false, .bool false, .bool false], row (nd30) (clsT s) (clsC s loc (nd31)), row (nd31) (xtrT s) (xtrC s loc (nd30)), row (nd32) (thsT r) (thsC r), row (nd11) 69 (units key), row (B1) 48 #[.int .u32 0, .int .u32 0], row (nd27) 255 #[.iface 189 (.pointer (some ⟨nd26, 0, none⟩)), .int .i32 loc, .slice (some ⟨nd28, 0, none⟩) 4 4, .int .i32 0, .int .u8 0, .int .u8 0, .bool false, .bool false], row (nd26) 191 #[.int .u32 0, .int .u32 2, .bool false, .bool false, .bool false], row (nd4) 188 ((newSrstP r s nd3 nd5 nd6 nd7).setIfInBounds 106 (.slice (some ⟨nd35, 0, none⟩) 3 (3 + nd36))), row (B42) 48 #[.int .u32 0, .int .u32 1], row (B39) 48 #[.int .u32 0, .int .u32 2], row (B12) 48 #[.int .u32 3, .int .u32 vm], row (B8) 30 #[.int .i32 loc], row (nd35) 74 (full symZ (symL ([sy ⟨#[70, 111, 111]⟩ (uz r (uz r 0)), sy ⟨#[95, 95, 115, 117, 112, 101, 114, 71, 101, 116]⟩ 1, sy ⟨#[95, 95, 115, 117, 112, 101, 114, 83, 101, 116]⟩ 1])) (nd36)), row (nd16) 197 #[.slice (some ⟨nd15, 0, none⟩) key.size key.size, .int .i32 0, .bool false, .bool false, .bool false], row (nd18) 191 #[.int .u32 0, .int .u32 1, .bool false, .bool false, .bool false], row (nd20) 255 #[.iface 189 (.pointer (some ⟨nd18, 0, none⟩)), .int .i32 loc, .slice (some ⟨nd21, 0, none⟩) 3 3, .int .i32 0, .int .u8 0, .int .u8 0, .bool false, .bool false], row (nd21) 32 #[.iface (clsTy s) (.pointer (some ⟨nd23, 0, none⟩)), .int .i32 loc, .iface (thsTy r) (.pointer (some ⟨nd25, 0, none⟩)), .int .i32 loc, .iface 195 (.pointer (some ⟨nd22, 0, none⟩)), .int .i32 loc], row (nd22) 197 #[.slice (some ⟨nd15, 0, none⟩) key.size key.size, .int .i32 0, .bool false, .bool false, .bool false], row (nd23) (clsT s) (clsC s loc (nd24)), row (nd24) (xtrT s) (xtrC s loc (nd23)), row (nd25) (thsT r) (thsC r), row (nd19) 32 #[.iface 251 (.pointer (some ⟨nd27, 0, none⟩)), .int .i32 loc]] X := by
    rw [← hW]
    exact (hO).alloc' _ (u50.heap.size) (by simp)
  clear hW hO
  generalize u50.heap.size = B51 at hN ⊢
  have hO := hN
  clear hN
  have hL := hO.apart
  have hX := hO.apartX
  have HL := Lib.hid hL
  have HX := Lib.hid hX
  clear hL hX
  have hP9 := hO.pick [23, 22] (by decide)
  have T9 := helperCall3 nd20 nd18 nd21 loc loc 0 1 _ _ _ hP9 
  refine Calls.mono T9 ?_
  clear hP9 T9
  rintro e u53 ⟨rfl, hQ⟩
  have hN : Own w0 u53 [row (nd20) 255 #[.iface 189 (.pointer (some ⟨nd18, 0, none⟩)), .int .i32 loc, .slice (some ⟨nd21, 0, none⟩) 3 3, .int .i32 0, .int .u8 0, .int .u8 0, .bool false, .bool false], row (nd18) 191 #[.int .u32 0, .int .u32 1, .bool false, .bool false, .bool false], row (B51) 48 #[.int .u32 3, .int .u32 vm], row (nd17) 191 #[.int .u32 3, .int .u32 vm, .bool false, .bool false, .bool false], row (B48_1) 32 #[.iface 189 (.pointer (some ⟨nd17, 0, none⟩)), .int .i32 loc], row (B48) 32 #[.iface 251 (.pointer (some ⟨nd20, 0, none⟩)), .int .i32 loc], row (nd33) 238 #[.iface 251 (.pointer (some ⟨nd20, 0, none⟩)), .int .i32 loc, .iface 189 (.pointer (some ⟨nd17, 0, none⟩)), .int .i32 loc, .int .u8 op, .bool false], row (nd15) 69 (units key), row (nd28) 32 #[.iface (clsTy s) (.pointer (some ⟨nd30, 0, none⟩)), .int .i32 loc, .iface (thsTy r) (.pointer (some ⟨nd32, 0, none⟩)), .int .i32 loc, .iface 195 (.pointer (some ⟨nd29, 0, none⟩)), .int .i32 loc, .iface 235 (.pointer (some ⟨nd33, 0, none⟩)), .int .i32 loc], row (nd29) 197 #[.slice (some ⟨nd15, 0, none⟩) key.size key.size, .int .i32 0, .bool false, .bool false, .bool false], row (nd30) (clsT s) (clsC s loc (nd31)), row (nd31) (xtrT s) (xtrC s loc (nd30)), row (nd32) (thsT r) (thsC r), row (nd11) 69 (units key), row (B1) 48 #[.int .u32 0, .int .u32 0], row (nd27) 255 #[.iface 189 (.pointer (some ⟨nd26, 0, none⟩)), .int .i32 loc, .slice (some ⟨nd28, 0, none⟩) 4 4, .int .i32 0, .int .u8 0, .int .u8 0, .bool false, .bool false], row (nd26) 191 #[.int .u32 0, .int .u32 2, .bool false, .bool false, .bool false], row (nd4) 188 ((newSrstP r s nd3 nd5 nd6 nd7).setIfInBounds 106 (.slice (some ⟨nd35, 0, none⟩) 3 (3 + nd36))), row (B42) 48 #[.int .u32 0, .int .u32 1], row (B39) 48 #[.int .u32 0, .int .u32 2], row (B12) 48 #[.int .u32 3, .int .u32 vm], row (B8) 30 #[.int .i32 loc], row (nd35) 74 (full symZ (symL ([sy ⟨#[70, 111, 111]⟩ (uz r (uz r 0)), sy ⟨#[95, 95, 115, 117, 112, 101, 114, 71, 101, 116]⟩ 1, sy ⟨#[95, 95, 115, 117, 112, 101, 114, 83, 101, 116]⟩ 1])) (nd36)), row (nd16) 197 #[.slice (some ⟨nd15, 0, none⟩) key.size key.size, .int .i32 0, .bool false, .bool false, .bool false], row (nd21) 32 #[.iface (clsTy s) (.pointer (some ⟨nd23, 0, none⟩)), .int .i32 loc, .iface (thsTy r) (.pointer (some ⟨nd25, 0, none⟩)), .int .i32 loc, .iface 195 (.pointer (some ⟨nd22, 0, none⟩)), .int .i32 loc], row (nd22) 197 #[.slice (some ⟨nd15, 0, none⟩) key.size key.size, .int .i32 0, .bool false, .bool false, .bool false], row (nd23) (clsT s) (clsC s loc (nd24)), row (nd24) (xtrT s) (xtrC s loc (nd23)), row (nd25) (thsT r) (thsC r), row (nd19) 32 #[.iface 251 (.pointer (some ⟨nd27, 0, none⟩)), .int .i32 loc]] X := hQ.back HL.out HX.out [0, 1, 2, 3, 4, 5, 6, 7, 8, 9, 10, 11, 12, 13, 14, 15, 16, 17, 18, 19, 20, 21, 24, 25, 26, 27, 28, 29] (by decide) (by decide)
  clear hQ HL HX hO
  have hO := hN
  clear hN
  obtain ⟨c9_0_0, c9_0_1, c9_0_2, c9_0_3, c9_0_4, c9_0_5, c9_0_6, c9_0_7, lt9_0, y9_0, -⟩ := hO.k8 0 rfl
  obtain ⟨c9_1_0, c9_1_1, c9_1_2, c9_1_3, c9_1_4, lt9_1, y9_1, -⟩ := hO.k5 1 rfl
  obtain ⟨c9_2_0, c9_2_1, lt9_2, y9_2, -⟩ := hO.k2 2 rfl
  obtain ⟨c9_3_0, c9_3_1, c9_3_2, c9_3_3, c9_3_4, lt9_3, y9_3, -⟩ := hO.k5 3 rfl
  obtain ⟨c9_4_0, c9_4_1, lt9_4, y9_4, -⟩ := hO.k2 4 rfl
  obtain ⟨c9_5_0, c9_5_1, lt9_5, y9_5, -⟩ := hO.k2 5 rfl
  obtain ⟨c9_6_0, c9_6_1, c9_6_2, c9_6_3, c9_6_4, c9_6_5, lt9_6, y9_6, -⟩ := hO.k6 6 rfl
  obtain ⟨c9_8_0, c9_8_1, c9_8_2, c9_8_3, c9_8_4, c9_8_5, c9_8_6, c9_8_7, lt9_8, y9_8, -⟩ := hO.k8 8 rfl
  obtain ⟨c9_9_0, c9_9_1, c9_9_2, c9_9_3, c9_9_4, lt9_9, y9_9, -⟩ := hO.k5 9 rfl
  obtain ⟨c9_14_0, c9_14_1, lt9_14, y9_14, -⟩ := hO.k2 14 rfl
  obtain ⟨c9_15_0, c9_15_1, c9_15_2, c9_15_3, c9_15_4, c9_15_5, c9_15_6, c9_15_7, lt9_15, y9_15, -⟩ := hO.k8 15 rfl
  obtain ⟨c9_16_0, c9_16_1, c9_16_2, c9_16_3, c9_16_4, lt9_16, y9_16, -⟩ := hO.k5 16 rfl
  obtain ⟨c9_18_0, c9_18_1, lt9_18, y9_18, -⟩ := hO.k2 18 rfl
  obtain ⟨c9_19_0, c9_19_1, lt9_19, y9_19, -⟩ := hO.k2 19 rfl
  obtain ⟨c9_20_0, c9_20_1, lt9_20, y9_20, -⟩ := hO.k2 20 rfl
  obtain ⟨c9_21_0, lt9_21, y9_21, -⟩ := hO.k1 21 rfl
  obtain ⟨c9_23_0, c9_23_1, c9_23_2, c9_23_3, c9_23_4, lt9_23, y9_23, -⟩ := hO.k5 23 rfl
  obtain ⟨c9_24_0, c9_24_1, c9_24_2, c9_24_3, c9_24_4, c9_24_5, lt9_24, y9_24, -⟩ := hO.k6 24 rfl
  obtain ⟨c9_25_0, c9_25_1, c9_25_2, c9_25_3, c9_25_4, lt9_25, y9_25, -⟩ := hO.k5 25 rfl
  obtain ⟨c9_29_0, c9_29_1, lt9_29, y9_29, -⟩ := hO.k2 29 rfl
  have HO := Lib.hid hO
  clear hO
  go_wp2_with (first | (with_reducible refine Own.stay (fn := Tryz.f5) ?_) | (first | (go_at_call 18; go_in)))
  try with_reducible refine Own.Stay.mk ?_
  have hO := HO.out
  clear HO c9_0_0 c9_0_1 c9_0_2 c9_0_3 c9_0_4 c9_0_5 c9_0_6 c9_0_7 lt9_0 y9_0 c9_1_0 c9_1_1 c9_1_2 c9_1_3 c9_1_4 lt9_1 y9_1 c9_2_0 c9_2_1 lt9_2 y9_2 c9_3_0 c9_3_1 c9_3_2 c9_3_3 c9_3_4 lt9_3 y9_3 c9_4_0 c9_4_1 lt9_4 y9_4 c9_5_0 c9_5_1 lt9_5 y9_5 c9_6_0 c9_6_1 c9_6_2 c9_6_3 c9_6_4 c9_6_5 lt9_6 y9_6 c9_8_0 c9_8_1 c9_8_2 c9_8_3 c9_8_4 c9_8_5 c9_8_6 c9_8_7 lt9_8 y9_8 c9_9_0 c9_9_1 c9_9_2 c9_9_3 c9_9_4 lt9_9 y9_9 c9_14_0 c9_14_1 lt9_14 y9_14 c9_15_0 c9_15_1 c9_15_2 c9_15_3 c9_15_4 c9_15_5 c9_15_6 c9_15_7 lt9_15 y9_15 c9_16_0 c9_16_1 c9_16_2 c9_16_3 c9_16_4 lt9_16 y9_16 c9_18_0 c9_18_1 lt9_18 y9_18 c9_19_0 c9_19_1 lt9_19 y9_19 c9_20_0 c9_20_1 lt9_20 y9_20 c9_21_0 lt9_21 y9_21 c9_23_0 c9_23_1 c9_23_2 c9_23_3 c9_23_4 lt9_23 y9_23 c9_24_0 c9_24_1 c9_24_2 c9_24_3 c9_24_4 c9_24_5 lt9_24 y9_24 c9_25_0 c9_25_1 c9_25_2 c9_25_3 c9_25_4 lt9_25 y9_25 c9_29_0 c9_29_1 lt9_29 y9_29
  have hL := hO.apart
  have hX := hO.apartX
  have HL := Lib.hid hL
  have HX := Lib.hid hX
  clear hL hX
  have hP9 := hO.pick [7, 13, 14, 24, 25, 26, 27, 28] (by decide)
  generalize hX9_54 : Own.Rest _ _ X = X9_54 at hP9
  replace hP9 : Own w0 u53 [row (nd15) 69 (units key), row (nd11) 69 (units key), row (B1) 48 #[.int .u32 0, .int .u32 0], row (nd21) 32 #[.iface (clsTy s) (.pointer (some ⟨nd23, 0, none⟩)), .int .i32 loc, .iface (thsTy r) (.pointer (some ⟨nd25, 0, none⟩)), .int .i32 loc, .iface 195 (.pointer (some ⟨nd22, 0, none⟩)), .int .i32 loc], row (nd22) 197 #[.slice (some ⟨nd15, 0, none⟩) key.size key.size, .int .i32 0, .bool false, .bool false, .bool false], row (nd23) (clsT s) (clsC s loc (nd24)), row (nd24) (xtrT s) (xtrC s loc (nd23)), row (nd25) (thsT r) (thsC r)] X9_54 := hP9
  clear hO
  have hO := hP9
  clear hP9
  have st9 := rlaw2712_st loc key s r B1 nd11 nd15 nd21 nd22 nd23 nd24 nd25
  let R9 := rlaw2712R loc key s r B1 nd11 nd15 nd21 nd22 nd23 nd24 nd25
  refine wp_region_own (e := rlaw2712E loc key s r B1 nd11 nd15 nd21 nd22 nd23 nd24 nd25) (anc := rlaw2712Anc) (G := (fun L9 α u9 => OwnF w0 u9 (act rlaw2712Cnt 8 L9) (rlaw2712R loc key s r B1 nd11 nd15 nd21 nd22 nd23 nd24 nd25 L9 α) X9_54)) (by kernel_rfl) (by kernel_rfl) (by kernel_rfl) (by kernel_rfl) (rlaw2712_he loc key s r B1 nd11 nd15 nd21 nd22 nd23 nd24 nd25) ?_ (RunsAll.all ?_) ?_
  · have hp : ∀ i, act rlaw2712Cnt 8 (fun _ => false) i → i ∈ [999, 1999, 2999, 3999, 4999, 5999, 6999, 7999] := by
      intro i hi
      have h9 : i % 1000 = 999 := by
        by_cases h : i % 1000 = 999
        · exact h
        · exact absurd (act_lt hi h) (by simp)
      unfold act at hi
      rw [if_pos h9] at hi
      simp only [List.mem_cons, List.not_mem_nil, or_false]
      omega
    refine hO.drew.family (fun i hi => ?_) (fun i j hi hj hij => ?_)
    · have := hp i hi
      simp only [List.mem_cons, List.not_mem_nil, or_false] at this
      rcases this with rfl | rfl | rfl | rfl | rfl | rfl | rfl | rfl <;> rfl
    · have h1 := hp i hi
      have h2 := hp j hj
      simp only [List.mem_cons, List.not_mem_nil, or_false] at h1 h2
      omega
  · refine ⟨?_, ?_, ?_, ?_, ?_, ?_, ?_, ?_, ?_, ?_, ?_, ?_, ?_, ?_, ?_, ?_, ?_, ?_, ?_, ?_, ?_, ?_, ?_, ?_, ?_, ?_, ?_, ?_, trivial⟩
    · intro L9 α a9 u9 K9 hL hcl hA hG hS h0 hK
      replace hL : L9 0 = false := hL
      have q32 : a9.tmps[32]? = some (.bool true) := (h0 32 (by kernel_rfl)).trans rfl
      have s32 := Rega.eval_of q32
      go_simp
      exact hK _ α _ (fun _ _ => rfl) rfl (step_same (st9) hL hcl rfl rfl hG)
    · intro L9 α a9 u9 K9 hL hcl hA hG hS h0 hK
      replace hL : L9 1 = false := hL
      have q157 : a9.tmps[157]? = some (.bool true) := hS 0 157 (by decide) rfl (by show 157 < 235; decide)
      have s157 := Rega.eval_of q157
      go_simp
      exact hK _ α _ (fun _ _ => rfl) rfl (step_same (st9) hL hcl rfl rfl hG)
    · intro L9 α a9 u9 K9 hL hcl hA hG hS h0 hK
      replace hL : L9 2 = false := hL
      have q158 : a9.tmps[158]? = some (.bool false) := hS 1 158 (by decide) rfl (by show 158 < 235; decide)
      have s158 := Rega.eval_of q158
      go_simp
      exact hK _ α _ (fun _ _ => rfl) rfl (step_same (st9) hL hcl rfl rfl hG)
    · intro L9 α a9 u9 K9 hL hcl hA hG hS h0 hK
      replace hL : L9 3 = false := hL
      have q31 : a9.tmps[31]? = some (.slice (some ⟨nd21, 0, none⟩) 3 3) := (h0 31 (by kernel_rfl)).trans rfl
      have s31 := Rega.eval_of q31
      have q159 : a9.tmps[159]? = some (.bool false) := hS 2 159 (by decide) rfl (by show 159 < 235; decide)
      have s159 := Rega.eval_of q159
      go_simp
      exact hK _ α _ (fun _ _ => rfl) rfl (step_same (st9) hL hcl rfl rfl hG)
    · intro L9 α a9 u9 K9 hL hcl hA hG hS h0 hK
      replace hL : L9 4 = false := hL
      have q160 : a9.tmps[160]? = some (.slice (some ⟨nd21, 0, none⟩) 3 3) := hS 3 160 (by decide) rfl (by show 160 < 235; decide)
      have s160 := Rega.eval_of q160
      have q159 : a9.tmps[159]? = some (.bool false) := hS 2 159 (by decide) rfl (by show 159 < 235; decide)
      have s159 := Rega.eval_of q159
      go_simp
      exact hK _ α _ (fun _ _ => rfl) rfl (step_same (st9) hL hcl rfl rfl hG)
    · intro L9 α a9 u9 K9 hL hcl hA hG hS h0 hK
      replace hL : L9 5 = false := hL
      have q161 : a9.tmps[161]? = some (.pointer (some ⟨nd21, 0, none⟩)) := hS 4 161 (by decide) rfl (by show 161 < 235; decide)
      have s161 := Rega.eval_of q161
      have q159 : a9.tmps[159]? = some (.bool false) := hS 2 159 (by decide) rfl (by show 159 < 235; decide)
      have s159 := Rega.eval_of q159
      have e0 : R9 L9 α 3999 = row (nd21) 32 #[.iface (clsTy s) (.pointer (some ⟨nd23, 0, none⟩)), .int .i32 loc, .iface (thsTy r) (.pointer (some ⟨nd25, 0, none⟩)), .int .i32 loc, .iface 195 (.pointer (some ⟨nd22, 0, none⟩)), .int .i32 loc] := rfl
      have hr := hG.rowAt 3999 (act_base 3999 rfl) e0
      have c0 : u9.cell? ⟨nd21, 0, none⟩ = some (.iface (clsTy s) (.pointer (some ⟨nd23, 0, none⟩))) := hr.cell rfl
      have c1 : u9.cell? ⟨nd21, 1, none⟩ = some (.int .i32 loc) := hr.cell rfl
      clear hr e0
      go_simp
      exact hK _ α _ (fun _ _ => rfl) rfl (step_same (st9) hL hcl rfl rfl hG)
    · intro L9 α a9 u9 K9 hL hcl hA hG hS h0 hK
      replace hL : L9 6 = false := hL
      have q13 : a9.tmps[13]? = some (.pointer (some ⟨B1, 0, none⟩)) := (h0 13 (by kernel_rfl)).trans rfl
      have s13 := Rega.eval_of q13
      have q159 : a9.tmps[159]? = some (.bool false) := hS 2 159 (by decide) rfl (by show 159 < 235; decide)
      have s159 := Rega.eval_of q159
      have e0 : R9 L9 α 2999 = row (B1) 48 #[.int .u32 0, .int .u32 0] := rfl
      have hr := hG.rowAt 2999 (act_base 2999 rfl) e0
      have c0 : u9.cell? ⟨B1, 0, none⟩ = some (.int .u32 0) := hr.cell rfl
      have c1 : u9.cell? ⟨B1, 1, none⟩ = some (.int .u32 0) := hr.cell rfl
      clear hr e0
      go_simp
      exact hK _ α _ (fun _ _ => rfl) rfl (step_same (st9) hL hcl rfl rfl hG)
    · intro L9 α a9 u9 K9 hL hcl hA hG hS h0 hK
      replace hL : L9 7 = false := hL
      have q3 : a9.tmps[3]? = some (.bool s) := (h0 3 (by kernel_rfl)).trans rfl
      have s3 := Rega.eval_of q3
      have q159 : a9.tmps[159]? = some (.bool false) := hS 2 159 (by decide) rfl (by show 159 < 235; decide)
      have s159 := Rega.eval_of q159
      go_simp
      exact hK _ α _ (fun _ _ => rfl) rfl (step_same (st9) hL hcl rfl rfl hG)
    · intro L9 α a9 u9 K9 hL hcl hA hG hS h0 hK
      replace hL : L9 8 = false := hL
      have q162 : a9.tmps[162]? = some (.agg #[.iface (clsTy s) (.pointer (some ⟨nd23, 0, none⟩)), .int .i32 loc]) := hS 5 162 (by decide) rfl (by show 162 < 235; decide)
      have s162 := Rega.eval_of q162
      have q163 : a9.tmps[163]? = some (.agg #[.int .u32 0, .int .u32 0]) := hS 6 163 (by decide) rfl (by show 163 < 235; decide)
      have s163 := Rega.eval_of q163
      have q164 : a9.tmps[164]? = some (.bool s) := hS 7 164 (by decide) rfl (by show 164 < 235; decide)
      have s164 := Rega.eval_of q164
      have q159 : a9.tmps[159]? = some (.bool false) := hS 2 159 (by decide) rfl (by show 159 < 235; decide)
      have s159 := Rega.eval_of q159
      go_simp
      have e0 : R9 L9 α 5999 = row (nd23) (clsT s) (clsC s loc (nd24)) := rfl
      have e1 : R9 L9 α 6999 = row (nd24) (xtrT s) (xtrC s loc (nd23)) := rfl
      have hM : ∀ i, i ∈ [5999, 6999] → act rlaw2712Cnt 8 L9 i := by
        intro i hi
        simp only [List.mem_cons, List.not_mem_nil, or_false] at hi
        rcases hi with rfl | rfl
        · exact act_base 5999 rfl
        · exact act_base 6999 rfl
      have hP : Own w0 u9 [row (nd23) (clsT s) (clsC s loc (nd24)), row (nd24) (xtrT s) (xtrC s loc (nd23))] _ := (hG.pick [5999, 6999] (by decide) hM).conv (by
        show [R9 L9 α 5999, R9 L9 α 6999] = _
        rw [e0, e1])
      clear e0 e1 hM
      refine Calls.mono (classArgU s nd23 nd24 loc loc _ _ _ hP ) ?_
      rintro e9 u1 ⟨rfl, hQ⟩
      obtain ⟨α', hα'⟩ : ∃ α' : Rega.Atoms, α' = α := ⟨_, rfl⟩
      have f0 : R9 (Rega.ran L9 8) α' 5999 = row (nd23) (clsT s) (clsC s loc (nd24)) := rfl
      have f1 : R9 (Rega.ran L9 8) α' 6999 = row (nd24) (xtrT s) (xtrC s loc (nd23)) := rfl
      have hα : ∀ j, j % 1000 ≠ 8 → α' j = α j := fun j hj => by rw [hα']
      skip
      refine hK _ α' _ hα ?_ (step_call (st9) hL hcl hα [5999, 6999] [5999, 6999] (by decide) (by decide) (by decide) (M := _) ?_ hG hQ)
      · rfl
      · show [R9 (Rega.ran L9 8) α' 5999, R9 (Rega.ran L9 8) α' 6999] = _
        rw [f0, f1]
    · intro L9 α a9 u9 K9 hL hcl hA hG hS h0 hK
      replace hL : L9 9 = false := hL
      have q165 : a9.tmps[165]? = some (.bool true) := hS 8 165 (by decide) rfl (by show 165 < 235; decide)
      have s165 := Rega.eval_of q165
      have q159 : a9.tmps[159]? = some (.bool false) := hS 2 159 (by decide) rfl (by show 159 < 235; decide)
      have s159 := Rega.eval_of q159
      go_simp
      exact hK _ α _ (fun _ _ => rfl) rfl (step_same (st9) hL hcl rfl rfl hG)
    · intro L9 α a9 u9 K9 hL hcl hA hG hS h0 hK
      replace hL : L9 10 = false := hL
      have q159 : a9.tmps[159]? = some (.bool false) := hS 2 159 (by decide) rfl (by show 159 < 235; decide)
      have s159 := Rega.eval_of q159
      have q166 : a9.tmps[166]? = some (.bool false) := hS 9 166 (by decide) rfl (by show 166 < 235; decide)
      have s166 := Rega.eval_of q166
      go_simp
      exact hK _ α _ (fun _ _ => rfl) rfl (step_same (st9) hL hcl rfl rfl hG)
    · intro L9 α a9 u9 K9 hL hcl hA hG hS h0 hK
      replace hL : L9 11 = false := hL
      have q167 : a9.tmps[167]? = some (.bool false) := hS 10 167 (by decide) rfl (by show 167 < 235; decide)
      have s167 := Rega.eval_of q167
      go_simp
      exact hK _ α _ (fun _ _ => rfl) rfl (step_same (st9) hL hcl rfl rfl hG)
    · intro L9 α a9 u9 K9 hL hcl hA hG hS h0 hK
      replace hL : L9 12 = false := hL
      have q31 : a9.tmps[31]? = some (.slice (some ⟨nd21, 0, none⟩) 3 3) := (h0 31 (by kernel_rfl)).trans rfl
      have s31 := Rega.eval_of q31
      have q168 : a9.tmps[168]? = some (.bool false) := hS 11 168 (by decide) rfl (by show 168 < 235; decide)
      have s168 := Rega.eval_of q168
      go_simp
      exact hK _ α _ (fun _ _ => rfl) rfl (step_same (st9) hL hcl rfl rfl hG)
    · intro L9 α a9 u9 K9 hL hcl hA hG hS h0 hK
      replace hL : L9 13 = false := hL
      have q169 : a9.tmps[169]? = some (.slice (some ⟨nd21, 0, none⟩) 3 3) := hS 12 169 (by decide) rfl (by show 169 < 235; decide)
      have s169 := Rega.eval_of q169
      have q168 : a9.tmps[168]? = some (.bool false) := hS 11 168 (by decide) rfl (by show 168 < 235; decide)
      have s168 := Rega.eval_of q168
      go_simp
      exact hK _ α _ (fun _ _ => rfl) rfl (step_same (st9) hL hcl rfl rfl hG)
    · intro L9 α a9 u9 K9 hL hcl hA hG hS h0 hK
      replace hL : L9 14 = false := hL
      have q170 : a9.tmps[170]? = some (.pointer (some ⟨nd21, 2, none⟩)) := hS 13 170 (by decide) rfl (by show 170 < 235; decide)
      have s170 := Rega.eval_of q170
      have q168 : a9.tmps[168]? = some (.bool false) := hS 11 168 (by decide) rfl (by show 168 < 235; decide)
      have s168 := Rega.eval_of q168
      have e0 : R9 L9 α 3999 = row (nd21) 32 #[.iface (clsTy s) (.pointer (some ⟨nd23, 0, none⟩)), .int .i32 loc, .iface (thsTy r) (.pointer (some ⟨nd25, 0, none⟩)), .int .i32 loc, .iface 195 (.pointer (some ⟨nd22, 0, none⟩)), .int .i32 loc] := rfl
      have hr := hG.rowAt 3999 (act_base 3999 rfl) e0
      have c0 : u9.cell? ⟨nd21, 2, none⟩ = some (.iface (thsTy r) (.pointer (some ⟨nd25, 0, none⟩))) := hr.cell rfl
      have c1 : u9.cell? ⟨nd21, 3, none⟩ = some (.int .i32 loc) := hr.cell rfl
      clear hr e0
      go_simp
      exact hK _ α _ (fun _ _ => rfl) rfl (step_same (st9) hL hcl rfl rfl hG)
    · intro L9 α a9 u9 K9 hL hcl hA hG hS h0 hK
      replace hL : L9 15 = false := hL
      have q13 : a9.tmps[13]? = some (.pointer (some ⟨B1, 0, none⟩)) := (h0 13 (by kernel_rfl)).trans rfl
      have s13 := Rega.eval_of q13
      have q168 : a9.tmps[168]? = some (.bool false) := hS 11 168 (by decide) rfl (by show 168 < 235; decide)
      have s168 := Rega.eval_of q168
      have e0 : R9 L9 α 2999 = row (B1) 48 #[.int .u32 0, .int .u32 0] := rfl
      have hr := hG.rowAt 2999 (act_base 2999 rfl) e0
      have c0 : u9.cell? ⟨B1, 0, none⟩ = some (.int .u32 0) := hr.cell rfl
      have c1 : u9.cell? ⟨B1, 1, none⟩ = some (.int .u32 0) := hr.cell rfl
      clear hr e0
      go_simp
      exact hK _ α _ (fun _ _ => rfl) rfl (step_same (st9) hL hcl rfl rfl hG)
    · intro L9 α a9 u9 K9 hL hcl hA hG hS h0 hK
      replace hL : L9 16 = false := hL
      have q4 : a9.tmps[4]? = some (.bool r) := (h0 4 (by kernel_rfl)).trans rfl
      have s4 := Rega.eval_of q4
      have q168 : a9.tmps[168]? = some (.bool false) := hS 11 168 (by decide) rfl (by show 168 < 235; decide)
      have s168 := Rega.eval_of q168
      go_simp
      exact hK _ α _ (fun _ _ => rfl) rfl (step_same (st9) hL hcl rfl rfl hG)
    · intro L9 α a9 u9 K9 hL hcl hA hG hS h0 hK
      replace hL : L9 17 = false := hL
      have q171 : a9.tmps[171]? = some (.agg #[.iface (thsTy r) (.pointer (some ⟨nd25, 0, none⟩)), .int .i32 loc]) := hS 14 171 (by decide) rfl (by show 171 < 235; decide)
      have s171 := Rega.eval_of q171
      have q172 : a9.tmps[172]? = some (.agg #[.int .u32 0, .int .u32 0]) := hS 15 172 (by decide) rfl (by show 172 < 235; decide)
      have s172 := Rega.eval_of q172
      have q173 : a9.tmps[173]? = some (.bool r) := hS 16 173 (by decide) rfl (by show 173 < 235; decide)
      have s173 := Rega.eval_of q173
      have q168 : a9.tmps[168]? = some (.bool false) := hS 11 168 (by decide) rfl (by show 168 < 235; decide)
      have s168 := Rega.eval_of q168
      go_simp
      have e0 : R9 L9 α 7999 = row (nd25) (thsT r) (thsC r) := rfl
      have hM : ∀ i, i ∈ [7999] → act rlaw2712Cnt 8 L9 i := by
        intro i hi
        simp only [List.mem_cons, List.not_mem_nil, or_false] at hi
        subst hi
        exact act_base 7999 rfl
      have hP : Own w0 u9 [row (nd25) (thsT r) (thsC r)] _ := (hG.pick [7999] (by decide) hM).conv (by
        show [R9 L9 α 7999] = _
        rw [e0])
      clear e0 hM
      refine Calls.mono (thisArgU r nd25 loc _ _ _ hP ) ?_
      rintro e9 u1 ⟨rfl, hQ⟩
      obtain ⟨α', hα'⟩ : ∃ α' : Rega.Atoms, α' = α := ⟨_, rfl⟩
      have f0 : R9 (Rega.ran L9 17) α' 7999 = row (nd25) (thsT r) (thsC r) := rfl
      have hα : ∀ j, j % 1000 ≠ 17 → α' j = α j := fun j hj => by rw [hα']
      skip
      refine hK _ α' _ hα ?_ (step_call (st9) hL hcl hα [7999] [7999] (by decide) (by decide) (by decide) (M := _) ?_ hG hQ)
      · rfl
      · show [R9 (Rega.ran L9 17) α' 7999] = _
        rw [f0]
    · intro L9 α a9 u9 K9 hL hcl hA hG hS h0 hK
      replace hL : L9 18 = false := hL
      have q174 : a9.tmps[174]? = some (.bool true) := hS 17 174 (by decide) rfl (by show 174 < 235; decide)
      have s174 := Rega.eval_of q174
      have q168 : a9.tmps[168]? = some (.bool false) := hS 11 168 (by decide) rfl (by show 168 < 235; decide)
      have s168 := Rega.eval_of q168
      go_simp
      exact hK _ α _ (fun _ _ => rfl) rfl (step_same (st9) hL hcl rfl rfl hG)
    · intro L9 α a9 u9 K9 hL hcl hA hG hS h0 hK
      replace hL : L9 19 = false := hL
      have q168 : a9.tmps[168]? = some (.bool false) := hS 11 168 (by decide) rfl (by show 168 < 235; decide)
      have s168 := Rega.eval_of q168
      have q175 : a9.tmps[175]? = some (.bool false) := hS 18 175 (by decide) rfl (by show 175 < 235; decide)
      have s175 := Rega.eval_of q175
      go_simp
      exact hK _ α _ (fun _ _ => rfl) rfl (step_same (st9) hL hcl rfl rfl hG)
    · intro L9 α a9 u9 K9 hL hcl hA hG hS h0 hK
      replace hL : L9 20 = false := hL
      have q176 : a9.tmps[176]? = some (.bool false) := hS 19 176 (by decide) rfl (by show 176 < 235; decide)
      have s176 := Rega.eval_of q176
      go_simp
      exact hK _ α _ (fun _ _ => rfl) rfl (step_same (st9) hL hcl rfl rfl hG)
    · intro L9 α a9 u9 K9 hL hcl hA hG hS h0 hK
      replace hL : L9 21 = false := hL
      have q31 : a9.tmps[31]? = some (.slice (some ⟨nd21, 0, none⟩) 3 3) := (h0 31 (by kernel_rfl)).trans rfl
      have s31 := Rega.eval_of q31
      have q177 : a9.tmps[177]? = some (.bool false) := hS 20 177 (by decide) rfl (by show 177 < 235; decide)
      have s177 := Rega.eval_of q177
      go_simp
      exact hK _ α _ (fun _ _ => rfl) rfl (step_same (st9) hL hcl rfl rfl hG)
    · intro L9 α a9 u9 K9 hL hcl hA hG hS h0 hK
      replace hL : L9 22 = false := hL
      have q178 : a9.tmps[178]? = some (.slice (some ⟨nd21, 0, none⟩) 3 3) := hS 21 178 (by decide) rfl (by show 178 < 235; decide)
      have s178 := Rega.eval_of q178
      have q177 : a9.tmps[177]? = some (.bool false) := hS 20 177 (by decide) rfl (by show 177 < 235; decide)
      have s177 := Rega.eval_of q177
      go_simp
      exact hK _ α _ (fun _ _ => rfl) rfl (step_same (st9) hL hcl rfl rfl hG)
    · intro L9 α a9 u9 K9 hL hcl hA hG hS h0 hK
      replace hL : L9 23 = false := hL
      have q179 : a9.tmps[179]? = some (.pointer (some ⟨nd21, 4, none⟩)) := hS 22 179 (by decide) rfl (by show 179 < 235; decide)
      have s179 := Rega.eval_of q179
      have q177 : a9.tmps[177]? = some (.bool false) := hS 20 177 (by decide) rfl (by show 177 < 235; decide)
      have s177 := Rega.eval_of q177
      have e0 : R9 L9 α 3999 = row (nd21) 32 #[.iface (clsTy s) (.pointer (some ⟨nd23, 0, none⟩)), .int .i32 loc, .iface (thsTy r) (.pointer (some ⟨nd25, 0, none⟩)), .int .i32 loc, .iface 195 (.pointer (some ⟨nd22, 0, none⟩)), .int .i32 loc] := rfl
      have hr := hG.rowAt 3999 (act_base 3999 rfl) e0
      have c0 : u9.cell? ⟨nd21, 4, none⟩ = some (.iface 195 (.pointer (some ⟨nd22, 0, none⟩))) := hr.cell rfl
      have c1 : u9.cell? ⟨nd21, 5, none⟩ = some (.int .i32 loc) := hr.cell rfl
      clear hr e0
      go_simp
      exact hK _ α _ (fun _ _ => rfl) rfl (step_same (st9) hL hcl rfl rfl hG)
    · intro L9 α a9 u9 K9 hL hcl hA hG hS h0 hK
      replace hL : L9 24 = false := hL
      have q16 : a9.tmps[16]? = some (.slice (some ⟨nd11, 0, none⟩) key.size key.size) := (h0 16 (by kernel_rfl)).trans rfl
      have s16 := Rega.eval_of q16
      have q177 : a9.tmps[177]? = some (.bool false) := hS 20 177 (by decide) rfl (by show 177 < 235; decide)
      have s177 := Rega.eval_of q177
      go_simp
      exact hK _ α _ (fun _ _ => rfl) rfl (step_same (st9) hL hcl rfl rfl hG)
    · intro L9 α a9 u9 K9 hL hcl hA hG hS h0 hK
      replace hL : L9 25 = false := hL
      have q180 : a9.tmps[180]? = some (.agg #[.iface 195 (.pointer (some ⟨nd22, 0, none⟩)), .int .i32 loc]) := hS 23 180 (by decide) rfl (by show 180 < 235; decide)
      have s180 := Rega.eval_of q180
      have q181 : a9.tmps[181]? = some (.slice (some ⟨nd11, 0, none⟩) key.size key.size) := hS 24 181 (by decide) rfl (by show 181 < 235; decide)
      have s181 := Rega.eval_of q181
      have q177 : a9.tmps[177]? = some (.bool false) := hS 20 177 (by decide) rfl (by show 177 < 235; decide)
      have s177 := Rega.eval_of q177
      go_simp
      have e0 : R9 L9 α 4999 = row (nd22) 197 #[.slice (some ⟨nd15, 0, none⟩) key.size key.size, .int .i32 0, .bool false, .bool false, .bool false] := rfl
      have e1 : R9 L9 α 999 = row (nd15) 69 (units key) := rfl
      have e2 : R9 L9 α 1999 = row (nd11) 69 (units key) := rfl
      have hM : ∀ i, i ∈ [4999, 999, 1999] → act rlaw2712Cnt 8 L9 i := by
        intro i hi
        simp only [List.mem_cons, List.not_mem_nil, or_false] at hi
        rcases hi with rfl | rfl | rfl
        · exact act_base 4999 rfl
        · exact act_base 999 rfl
        · exact act_base 1999 rfl
      have hP : Own w0 u9 [row (nd22) 197 #[.slice (some ⟨nd15, 0, none⟩) key.size key.size, .int .i32 0, .bool false, .bool false, .bool false], row (nd15) 69 (units key), row (nd11) 69 (units key)] _ := (hG.pick [4999, 999, 1999] (by decide) hM).conv (by
        show [R9 L9 α 4999, R9 L9 α 999, R9 L9 α 1999] = _
        rw [e0, e1, e2])
      clear e0 e1 e2 hM
      refine Calls.mono (isKeyO key nd22 nd15 nd11 loc _ _ _ hP (by omega)) ?_
      rintro e9 u1 ⟨rfl, hQ⟩
      obtain ⟨α', hα'⟩ : ∃ α' : Rega.Atoms, α' = α := ⟨_, rfl⟩
      have f0 : R9 (Rega.ran L9 25) α' 4999 = row (nd22) 197 #[.slice (some ⟨nd15, 0, none⟩) key.size key.size, .int .i32 0, .bool false, .bool false, .bool false] := rfl
      have f1 : R9 (Rega.ran L9 25) α' 999 = row (nd15) 69 (units key) := rfl
      have f2 : R9 (Rega.ran L9 25) α' 1999 = row (nd11) 69 (units key) := rfl
      have hα : ∀ j, j % 1000 ≠ 25 → α' j = α j := fun j hj => by rw [hα']
      skip
      refine hK _ α' _ hα ?_ (step_call (st9) hL hcl hα [4999, 999, 1999] [4999, 999, 1999] (by decide) (by decide) (by decide) (M := _) ?_ hG hQ)
      · rfl
      · show [R9 (Rega.ran L9 25) α' 4999, R9 (Rega.ran L9 25) α' 999, R9 (Rega.ran L9 25) α' 1999] = _
        rw [f0, f1, f2]
    · intro L9 α a9 u9 K9 hL hcl hA hG hS h0 hK
      replace hL : L9 26 = false := hL
      have q182 : a9.tmps[182]? = some (.bool true) := hS 25 182 (by decide) rfl (by show 182 < 235; decide)
      have s182 := Rega.eval_of q182
      have q177 : a9.tmps[177]? = some (.bool false) := hS 20 177 (by decide) rfl (by show 177 < 235; decide)
      have s177 := Rega.eval_of q177
      go_simp
      exact hK _ α _ (fun _ _ => rfl) rfl (step_same (st9) hL hcl rfl rfl hG)
    · intro L9 α a9 u9 K9 hL hcl hA hG hS h0 hK
      replace hL : L9 27 = false := hL
      have q177 : a9.tmps[177]? = some (.bool false) := hS 20 177 (by decide) rfl (by show 177 < 235; decide)
      have s177 := Rega.eval_of q177
      have q183 : a9.tmps[183]? = some (.bool false) := hS 26 183 (by decide) rfl (by show 183 < 235; decide)
      have s183 := Rega.eval_of q183
      go_simp
      exact hK _ α _ (fun _ _ => rfl) rfl (step_same (st9) hL hcl rfl rfl hG)
  clear st9
  intro α u hG
  have e0 : R9 (fun k => decide (k < 28)) α 999 = row (nd15) 69 (units key) := rfl
  have e1 : R9 (fun k => decide (k < 28)) α 1999 = row (nd11) 69 (units key) := rfl
  have e2 : R9 (fun k => decide (k < 28)) α 2999 = row (B1) 48 #[.int .u32 0, .int .u32 0] := rfl
  have e3 : R9 (fun k => decide (k < 28)) α 3999 = row (nd21) 32 #[.iface (clsTy s) (.pointer (some ⟨nd23, 0, none⟩)), .int .i32 loc, .iface (thsTy r) (.pointer (some ⟨nd25, 0, none⟩)), .int .i32 loc, .iface 195 (.pointer (some ⟨nd22, 0, none⟩)), .int .i32 loc] := rfl
  have e4 : R9 (fun k => decide (k < 28)) α 4999 = row (nd22) 197 #[.slice (some ⟨nd15, 0, none⟩) key.size key.size, .int .i32 0, .bool false, .bool false, .bool false] := rfl
  have e5 : R9 (fun k => decide (k < 28)) α 5999 = row (nd23) (clsT s) (clsC s loc (nd24)) := rfl
  have e6 : R9 (fun k => decide (k < 28)) α 6999 = row (nd24) (xtrT s) (xtrC s loc (nd23)) := rfl
  have e7 : R9 (fun k => decide (k < 28)) α 7999 = row (nd25) (thsT r) (thsC r) := rfl
  have hO : Own w0 u [row (nd15) 69 (units key), row (nd11) 69 (units key), row (B1) 48 #[.int .u32 0, .int .u32 0], row (nd21) 32 #[.iface (clsTy s) (.pointer (some ⟨nd23, 0, none⟩)), .int .i32 loc, .iface (thsTy r) (.pointer (some ⟨nd25, 0, none⟩)), .int .i32 loc, .iface 195 (.pointer (some ⟨nd22, 0, none⟩)), .int .i32 loc], row (nd22) 197 #[.slice (some ⟨nd15, 0, none⟩) key.size key.size, .int .i32 0, .bool false, .bool false, .bool false], row (nd23) (clsT s) (clsC s loc (nd24)), row (nd24) (xtrT s) (xtrC s loc (nd23)), row (nd25) (thsT r) (thsC r)] X9_54 := (hG.list [999, 1999, 2999, 3999, 4999, 5999, 6999, 7999] (by decide) (act_all (by decide))).conv (by
    show [R9 (fun k => decide (k < 28)) α 999, R9 (fun k => decide (k < 28)) α 1999, R9 (fun k => decide (k < 28)) α 2999, R9 (fun k => decide (k < 28)) α 3999, R9 (fun k => decide (k < 28)) α 4999, R9 (fun k => decide (k < 28)) α 5999, R9 (fun k => decide (k < 28)) α 6999, R9 (fun k => decide (k < 28)) α 7999] = _
    rw [e0, e1, e2, e3, e4, e5, e6, e7])
  clear hG e0 e1 e2 e3 e4 e5 e6 e7 R9
  generalize hfr : Rega.frameAt _ _ _ _ _ = fr
  have hdf : fr = ⟨#[.int .i32 loc, .string key, .int .u8 op, .bool s, .bool r, .int .u32 vm, undef, undef, undef, undef, undef, undef, .bool false, .pointer (some ⟨B1, 0, none⟩), .pointer (some ⟨nd4, 0, none⟩), .pointer (some ⟨B8, 0, none⟩), .slice (some ⟨nd11, 0, none⟩) key.size key.size, .pointer (some ⟨B12, 0, none⟩), .pointer (some ⟨nd19, 0, none⟩), .pointer (some ⟨B39, 0, none⟩), .bool true, .pointer (some ⟨B42, 0, none⟩), .bool true, .slice (some ⟨nd28, 0, none⟩) 4 4, .bool true, .int .u8 op, .pointer (some ⟨B48, 0, none⟩), .pointer (some ⟨B48_1, 0, none⟩), .bool true, .pointer (some ⟨B51, 0, none⟩), .bool true, .slice (some ⟨nd21, 0, none⟩) 3 3, .bool true, undef, .int .i32 loc, .string key, .int .u8 op, .bool s, .bool r, .int .u32 vm, .bool true, .bool false, .string key, .int .i64 (key.size : Int), .bool (decide (65536 < (key.size : Int))), .agg #[.int .u32 0, .int .u32 0], .slice (some ⟨nd3, 0, none⟩) 1 1, .agg #[.int .u32 0, .int .u32 0], .bool s, .bool r, .pointer (some ⟨nd4, 0, none⟩), .int .i32 loc, .agg #[.int .i32 loc], .string key, .slice (some ⟨nd11, 0, none⟩) key.size key.size, .int .u32 vm, .agg #[.int .u32 3, .int .u32 vm], .pointer (some ⟨nd4, 0, none⟩), .agg #[.int .i32 loc], .int .i32 loc, .string key, .slice (some ⟨nd15, 0, none⟩) key.size key.size, .agg #[.iface 195 (.pointer (some ⟨nd16, 0, none⟩)), .int .i32 loc], .int .u8 op, .int .i32 loc, .agg #[.int .u32 3, .int .u32 vm], .agg #[.iface 189 (.pointer (some ⟨nd17, 0, none⟩)), .int .i32 loc], .agg #[.iface 251 (.pointer (some ⟨nd27, 0, none⟩)), .int .i32 loc], .tuple #[.agg #[.int .u32 0, .int .u32 2], .bool true], .pointer (some ⟨nd4, 0, none⟩), .tuple #[.agg #[.int .u32 0, .int .u32 2], .bool true], .agg #[.int .u32 0, .int .u32 2], .bool true, .tuple #[.agg #[.int .u32 0, .int .u32 1], .bool true], .pointer (some ⟨nd4, 0, none⟩), .tuple #[.agg #[.int .u32 0, .int .u32 1], .bool true], .agg #[.int .u32 0, .int .u32 1], .bool true, .bool true, .bool false, .bool false, .bool true, .bool false, .bool false, .bool false, .pointer (some ⟨nd4, 0, none⟩), .int .i64 2, .bool false, .bool false, .tuple #[.slice (some ⟨nd28, 0, none⟩) 4 4, .bool true], .agg #[.iface 251 (.pointer (some ⟨nd27, 0, none⟩)), .int .i32 loc], .agg #[.int .u32 0, .int .u32 2], .tuple #[.slice (some ⟨nd28, 0, none⟩) 4 4, .bool true], .slice (some ⟨nd28, 0, none⟩) 4 4, .bool true, .bool true, .bool false, .bool false, .slice (some ⟨nd28, 0, none⟩) 4 4, .pointer (some ⟨nd28, 0, none⟩), .agg #[.iface (clsTy s) (.pointer (some ⟨nd30, 0, none⟩)), .int .i32 loc], .agg #[.int .u32 0, .int .u32 0], .bool s, .bool true, .bool false, .bool false, .bool false, .slice (some ⟨nd28, 0, none⟩) 4 4, .pointer (some ⟨nd28, 2, none⟩), .agg #[.iface (thsTy r) (.pointer (some ⟨nd32, 0, none⟩)), .int .i32 loc], .agg #[.int .u32 0, .int .u32 0], .bool r, .bool true, .bool false, .bool false, .bool false, .slice (some ⟨nd28, 0, none⟩) 4 4, .pointer (some ⟨nd28, 4, none⟩), .agg #[.iface 195 (.pointer (some ⟨nd29, 0, none⟩)), .int .i32 loc], .slice (some ⟨nd11, 0, none⟩) key.size key.size, .bool true, .bool false, .bool false, .tuple #[.int .u8 op, .agg #[.iface 251 (.pointer (some ⟨nd20, 0, none⟩)), .int .i32 loc], .agg #[.iface 189 (.pointer (some ⟨nd17, 0, none⟩)), .int .i32 loc], .bool true], .slice (some ⟨nd28, 0, none⟩) 4 4, .pointer (some ⟨nd28, 6, none⟩), .agg #[.iface 235 (.pointer (some ⟨nd33, 0, none⟩)), .int .i32 loc], .tuple #[.int .u8 op, .agg #[.iface 251 (.pointer (some ⟨nd20, 0, none⟩)), .int .i32 loc], .agg #[.iface 189 (.pointer (some ⟨nd17, 0, none⟩)), .int .i32 loc], .bool true], .int .u8 op, .agg #[.iface 251 (.pointer (some ⟨nd20, 0, none⟩)), .int .i32 loc], .agg #[.iface 189 (.pointer (some ⟨nd17, 0, none⟩)), .int .i32 loc], .bool true, .bool true, .bool false, .bool false, .int .u8 op, .int .u8 op, .bool false, .bool false, .tuple #[.agg #[.int .u32 3, .int .u32 vm], .bool true], .agg #[.iface 189 (.pointer (some ⟨nd17, 0, none⟩)), .int .i32 loc], .tuple #[.agg #[.int .u32 3, .int .u32 vm], .bool true], .agg #[.int .u32 3, .int .u32 vm], .bool true, .bool true, .bool false, .bool false, .agg #[.int .u32 3, .int .u32 vm], .agg #[.int .u32 3, .int .u32 vm], .bool false, .bool false, .tuple #[.slice (some ⟨nd21, 0, none⟩) 3 3, .bool true], .agg #[.iface 251 (.pointer (some ⟨nd20, 0, none⟩)), .int .i32 loc], .agg #[.int .u32 0, .int .u32 1], .tuple #[.slice (some ⟨nd21, 0, none⟩) 3 3, .bool true], .slice (some ⟨nd21, 0, none⟩) 3 3, .bool true, .bool true, .bool false, .bool false, .slice (some ⟨nd21, 0, none⟩) 3 3, .pointer (some ⟨nd21, 0, none⟩), .agg #[.iface (clsTy s) (.pointer (some ⟨nd23, 0, none⟩)), .int .i32 loc], .agg #[.int .u32 0, .int .u32 0], .bool s, .bool true, .bool false, .bool false, .bool false, .slice (some ⟨nd21, 0, none⟩) 3 3, .pointer (some ⟨nd21, 2, none⟩), .agg #[.iface (thsTy r) (.pointer (some ⟨nd25, 0, none⟩)), .int .i32 loc], .agg #[.int .u32 0, .int .u32 0], .bool r, .bool true, .bool false, .bool false, .bool false, .slice (some ⟨nd21, 0, none⟩) 3 3, .pointer (some ⟨nd21, 4, none⟩), .agg #[.iface 195 (.pointer (some ⟨nd22, 0, none⟩)), .int .i32 loc], .slice (some ⟨nd11, 0, none⟩) key.size key.size, .bool true, .bool false, .bool false, undef, undef, undef, undef, undef, undef, undef, undef, undef, undef, undef, undef, undef, undef, undef, undef, undef, undef, undef, undef, undef, undef, undef, undef, undef, undef, undef, undef, undef, undef, undef, undef, undef, undef, undef, undef, undef, undef, undef, undef, undef, undef, undef, undef, undef, undef, undef, undef, undef, undef], []⟩ := by rw [← hfr]; kernel_rfl
  clear hfr
  subst hdf
  clear α
  subst hX9_54
  have hN : Own w0 u [row (nd15) 69 (units key), row (nd11) 69 (units key), row (B1) 48 #[.int .u32 0, .int .u32 0], row (nd21) 32 #[.iface (clsTy s) (.pointer (some ⟨nd23, 0, none⟩)), .int .i32 loc, .iface (thsTy r) (.pointer (some ⟨nd25, 0, none⟩)), .int .i32 loc, .iface 195 (.pointer (some ⟨nd22, 0, none⟩)), .int .i32 loc], row (nd22) 197 #[.slice (some ⟨nd15, 0, none⟩) key.size key.size, .int .i32 0, .bool false, .bool false, .bool false], row (nd23) (clsT s) (clsC s loc (nd24)), row (nd24) (xtrT s) (xtrC s loc (nd23)), row (nd25) (thsT r) (thsC r), row (nd20) 255 #[.iface 189 (.pointer (some ⟨nd18, 0, none⟩)), .int .i32 loc, .slice (some ⟨nd21, 0, none⟩) 3 3, .int .i32 0, .int .u8 0, .int .u8 0, .bool false, .bool false], row (nd18) 191 #[.int .u32 0, .int .u32 1, .bool false, .bool false, .bool false], row (B51) 48 #[.int .u32 3, .int .u32 vm], row (nd17) 191 #[.int .u32 3, .int .u32 vm, .bool false, .bool false, .bool false], row (B48_1) 32 #[.iface 189 (.pointer (some ⟨nd17, 0, none⟩)), .int .i32 loc], row (B48) 32 #[.iface 251 (.pointer (some ⟨nd20, 0, none⟩)), .int .i32 loc], row (nd33) 238 #[.iface 251 (.pointer (some ⟨nd20, 0, none⟩)), .int .i32 loc, .iface 189 (.pointer (some ⟨nd17, 0, none⟩)), .int .i32 loc, .int .u8 op, .bool false], row (nd28) 32 #[.iface (clsTy s) (.pointer (some ⟨nd30, 0, none⟩)), .int .i32 loc, .iface (thsTy r) (.pointer (some ⟨nd32, 0, none⟩)), .int .i32 loc, .iface 195 (.pointer (some ⟨nd29, 0, none⟩)), .int .i32 loc, .iface 235 (.pointer (some ⟨nd33, 0, none⟩)), .int .i32 loc], row (nd29) 197 #[.slice (some ⟨nd15, 0, none⟩) key.size key.size, .int .i32 0, .bool false, .bool false, .bool false], row (nd30) (clsT s) (clsC s loc (nd31)), row (nd31) (xtrT s) (xtrC s loc (nd30)), row (nd32) (thsT r) (thsC r), row (nd27) 255 #[.iface 189 (.pointer (some ⟨nd26, 0, none⟩)), .int .i32 loc, .slice (some ⟨nd28, 0, none⟩) 4 4, .int .i32 0, .int .u8 0, .int .u8 0, .bool false, .bool false], row (nd26) 191 #[.int .u32 0, .int .u32 2, .bool false, .bool false, .bool false], row (nd4) 188 ((newSrstP r s nd3 nd5 nd6 nd7).setIfInBounds 106 (.slice (some ⟨nd35, 0, none⟩) 3 (3 + nd36))), row (B42) 48 #[.int .u32 0, .int .u32 1], row (B39) 48 #[.int .u32 0, .int .u32 2], row (B12) 48 #[.int .u32 3, .int .u32 vm], row (B8) 30 #[.int .i32 loc], row (nd35) 74 (full symZ (symL ([sy ⟨#[70, 111, 111]⟩ (uz r (uz r 0)), sy ⟨#[95, 95, 115, 117, 112, 101, 114, 71, 101, 116]⟩ 1, sy ⟨#[95, 95, 115, 117, 112, 101, 114, 83, 101, 116]⟩ 1])) (nd36)), row (nd16) 197 #[.slice (some ⟨nd15, 0, none⟩) key.size key.size, .int .i32 0, .bool false, .bool false, .bool false], row (nd19) 32 #[.iface 251 (.pointer (some ⟨nd27, 0, none⟩)), .int .i32 loc]] X := hO.back HL.out HX.out [0, 1, 2, 3, 4, 5, 6, 8, 9, 10, 11, 12, 15, 16, 17, 18, 19, 20, 21, 22, 23, 29] (by decide) (by decide)
  clear hO HL HX
  have hO := hN
  clear hN
  obtain ⟨c9_2_0, c9_2_1, lt9_2, y9_2, -⟩ := hO.k2 2 rfl
  obtain ⟨c9_3_0, c9_3_1, c9_3_2, c9_3_3, c9_3_4, c9_3_5, lt9_3, y9_3, -⟩ := hO.k6 3 rfl
  obtain ⟨c9_4_0, c9_4_1, c9_4_2, c9_4_3, c9_4_4, lt9_4, y9_4, -⟩ := hO.k5 4 rfl
  obtain ⟨c9_8_0, c9_8_1, c9_8_2, c9_8_3, c9_8_4, c9_8_5, c9_8_6, c9_8_7, lt9_8, y9_8, -⟩ := hO.k8 8 rfl
  obtain ⟨c9_9_0, c9_9_1, c9_9_2, c9_9_3, c9_9_4, lt9_9, y9_9, -⟩ := hO.k5 9 rfl
  obtain ⟨c9_10_0, c9_10_1, lt9_10, y9_10, -⟩ := hO.k2 10 rfl
  obtain ⟨c9_11_0, c9_11_1, c9_11_2, c9_11_3, c9_11_4, lt9_11, y9_11, -⟩ := hO.k5 11 rfl
  obtain ⟨c9_12_0, c9_12_1, lt9_12, y9_12, -⟩ := hO.k2 12 rfl
  obtain ⟨c9_13_0, c9_13_1, lt9_13, y9_13, -⟩ := hO.k2 13 rfl
  obtain ⟨c9_14_0, c9_14_1, c9_14_2, c9_14_3, c9_14_4, c9_14_5, lt9_14, y9_14, -⟩ := hO.k6 14 rfl
  obtain ⟨c9_15_0, c9_15_1, c9_15_2, c9_15_3, c9_15_4, c9_15_5, c9_15_6, c9_15_7, lt9_15, y9_15, -⟩ := hO.k8 15 rfl
  obtain ⟨c9_16_0, c9_16_1, c9_16_2, c9_16_3, c9_16_4, lt9_16, y9_16, -⟩ := hO.k5 16 rfl
  obtain ⟨c9_20_0, c9_20_1, c9_20_2, c9_20_3, c9_20_4, c9_20_5, c9_20_6, c9_20_7, lt9_20, y9_20, -⟩ := hO.k8 20 rfl
  obtain ⟨c9_21_0, c9_21_1, c9_21_2, c9_21_3, c9_21_4, lt9_21, y9_21, -⟩ := hO.k5 21 rfl
  obtain ⟨c9_23_0, c9_23_1, lt9_23, y9_23, -⟩ := hO.k2 23 rfl
  obtain ⟨c9_24_0, c9_24_1, lt9_24, y9_24, -⟩ := hO.k2 24 rfl
  obtain ⟨c9_25_0, c9_25_1, lt9_25, y9_25, -⟩ := hO.k2 25 rfl
  obtain ⟨c9_26_0, lt9_26, y9_26, -⟩ := hO.k1 26 rfl
  obtain ⟨c9_28_0, c9_28_1, c9_28_2, c9_28_3, c9_28_4, lt9_28, y9_28, -⟩ := hO.k5 28 rfl
  obtain ⟨c9_29_0, c9_29_1, lt9_29, y9_29, -⟩ := hO.k2 29 rfl
  have HO := Lib.hid hO
  clear hO
  go_wp2_with (first | (with_reducible refine Own.stay (fn := Tryz.f5) ?_) | (first | (go_at_call 18; go_in)))
  try with_reducible refine Own.Stay.mk ?_
  have hO := HO.out
  clear HO c9_2_0 c9_2_1 lt9_2 y9_2 c9_3_0 c9_3_1 c9_3_2 c9_3_3 c9_3_4 c9_3_5 lt9_3 y9_3 c9_4_0 c9_4_1 c9_4_2 c9_4_3 c9_4_4 lt9_4 y9_4 c9_8_0 c9_8_1 c9_8_2 c9_8_3 c9_8_4 c9_8_5 c9_8_6 c9_8_7 lt9_8 y9_8 c9_9_0 c9_9_1 c9_9_2 c9_9_3 c9_9_4 lt9_9 y9_9 c9_10_0 c9_10_1 lt9_10 y9_10 c9_11_0 c9_11_1 c9_11_2 c9_11_3 c9_11_4 lt9_11 y9_11 c9_12_0 c9_12_1 lt9_12 y9_12 c9_13_0 c9_13_1 lt9_13 y9_13 c9_14_0 c9_14_1 c9_14_2 c9_14_3 c9_14_4 c9_14_5 lt9_14 y9_14 c9_15_0 c9_15_1 c9_15_2 c9_15_3 c9_15_4 c9_15_5 c9_15_6 c9_15_7 lt9_15 y9_15 c9_16_0 c9_16_1 c9_16_2 c9_16_3 c9_16_4 lt9_16 y9_16 c9_20_0 c9_20_1 c9_20_2 c9_20_3 c9_20_4 c9_20_5 c9_20_6 c9_20_7 lt9_20 y9_20 c9_21_0 c9_21_1 c9_21_2 c9_21_3 c9_21_4 lt9_21 y9_21 c9_23_0 c9_23_1 lt9_23 y9_23 c9_24_0 c9_24_1 lt9_24 y9_24 c9_25_0 c9_25_1 lt9_25 y9_25 c9_26_0 lt9_26 y9_26 c9_28_0 c9_28_1 c9_28_2 c9_28_3 c9_28_4 lt9_28 y9_28 c9_29_0 c9_29_1 lt9_29 y9_29
  have hL := hO.apart
  have hX := hO.apartX
  have HL := Lib.hid hL
  have HX := Lib.hid hX
  clear hL hX
  have hP9 := hO.pick [22] (by decide)
  have T9 := symsO nd4 ((newSrstP r s nd3 nd5 nd6 nd7).setIfInBounds 106 (.slice (some ⟨nd35, 0, none⟩) 3 (3 + nd36))) nd35 3 (3 + nd36) _ _ _ hP9 (get_set (newSrst_106 r s (nd3) (nd5) (nd6) (nd7)) _)
  refine Calls.mono T9 ?_
  clear hP9 T9
  rintro e u55 ⟨rfl, hQ⟩
  have hN : Own w0 u55 [row (nd4) 188 ((newSrstP r s nd3 nd5 nd6 nd7).setIfInBounds 106 (.slice (some ⟨nd35, 0, none⟩) 3 (3 + nd36))), row (nd15) 69 (units key), row (nd11) 69 (units key), row (B1) 48 #[.int .u32 0, .int .u32 0], row (nd21) 32 #[.iface (clsTy s) (.pointer (some ⟨nd23, 0, none⟩)), .int .i32 loc, .iface (thsTy r) (.pointer (some ⟨nd25, 0, none⟩)), .int .i32 loc, .iface 195 (.pointer (some ⟨nd22, 0, none⟩)), .int .i32 loc], row (nd22) 197 #[.slice (some ⟨nd15, 0, none⟩) key.size key.size, .int .i32 0, .bool false, .bool false, .bool false], row (nd23) (clsT s) (clsC s loc (nd24)), row (nd24) (xtrT s) (xtrC s loc (nd23)), row (nd25) (thsT r) (thsC r), row (nd20) 255 #[.iface 189 (.pointer (some ⟨nd18, 0, none⟩)), .int .i32 loc, .slice (some ⟨nd21, 0, none⟩) 3 3, .int .i32 0, .int .u8 0, .int .u8 0, .bool false, .bool false], row (nd18) 191 #[.int .u32 0, .int .u32 1, .bool false, .bool false, .bool false], row (B51) 48 #[.int .u32 3, .int .u32 vm], row (nd17) 191 #[.int .u32 3, .int .u32 vm, .bool false, .bool false, .bool false], row (B48_1) 32 #[.iface 189 (.pointer (some ⟨nd17, 0, none⟩)), .int .i32 loc], row (B48) 32 #[.iface 251 (.pointer (some ⟨nd20, 0, none⟩)), .int .i32 loc], row (nd33) 238 #[.iface 251 (.pointer (some ⟨nd20, 0, none⟩)), .int .i32 loc, .iface 189 (.pointer (some ⟨nd17, 0, none⟩)), .int .i32 loc, .int .u8 op, .bool false], row (nd28) 32 #[.iface (clsTy s) (.pointer (some ⟨nd30, 0, none⟩)), .int .i32 loc, .iface (thsTy r) (.pointer (some ⟨nd32, 0, none⟩)), .int .i32 loc, .iface 195 (.pointer (some ⟨nd29, 0, none⟩)), .int .i32 loc, .iface 235 (.pointer (some ⟨nd33, 0, none⟩)), .int .i32 loc], row (nd29) 197 #[.slice (some ⟨nd15, 0, none⟩) key.size key.size, .int .i32 0, .bool false, .bool false, .bool false], row (nd30) (clsT s) (clsC s loc (nd31)), row (nd31) (xtrT s) (xtrC s loc (nd30)), row (nd32) (thsT r) (thsC r), row (nd27) 255 #[.iface 189 (.pointer (some ⟨nd26, 0, none⟩)), .int .i32 loc, .slice (some ⟨nd28, 0, none⟩) 4 4, .int .i32 0, .int .u8 0, .int .u8 0, .bool false, .bool false], row (nd26) 191 #[.int .u32 0, .int .u32 2, .bool false, .bool false, .bool false], row (B42) 48 #[.int .u32 0, .int .u32 1], row (B39) 48 #[.int .u32 0, .int .u32 2], row (B12) 48 #[.int .u32 3, .int .u32 vm], row (B8) 30 #[.int .i32 loc], row (nd35) 74 (full symZ (symL ([sy ⟨#[70, 111, 111]⟩ (uz r (uz r 0)), sy ⟨#[95, 95, 115, 117, 112, 101, 114, 71, 101, 116]⟩ 1, sy ⟨#[95, 95, 115, 117, 112, 101, 114, 83, 101, 116]⟩ 1])) (nd36)), row (nd16) 197 #[.slice (some ⟨nd15, 0, none⟩) key.size key.size, .int .i32 0, .bool false, .bool false, .bool false], row (nd19) 32 #[.iface 251 (.pointer (some ⟨nd27, 0, none⟩)), .int .i32 loc]] X := hQ.back HL.out HX.out [0, 1, 2, 3, 4, 5, 6, 7, 8, 9, 10, 11, 12, 13, 14, 15, 16, 17, 18, 19, 20, 21, 23, 24, 25, 26, 27, 28, 29] (by decide) (by decide)
  clear hQ HL HX hO
  have hO := hN
  clear hN
  obtain ⟨c9_3_0, c9_3_1, lt9_3, y9_3, -⟩ := hO.k2 3 rfl
  obtain ⟨c9_4_0, c9_4_1, c9_4_2, c9_4_3, c9_4_4, c9_4_5, lt9_4, y9_4, -⟩ := hO.k6 4 rfl
  obtain ⟨c9_5_0, c9_5_1, c9_5_2, c9_5_3, c9_5_4, lt9_5, y9_5, -⟩ := hO.k5 5 rfl
  obtain ⟨c9_9_0, c9_9_1, c9_9_2, c9_9_3, c9_9_4, c9_9_5, c9_9_6, c9_9_7, lt9_9, y9_9, -⟩ := hO.k8 9 rfl
  obtain ⟨c9_10_0, c9_10_1, c9_10_2, c9_10_3, c9_10_4, lt9_10, y9_10, -⟩ := hO.k5 10 rfl
  obtain ⟨c9_11_0, c9_11_1, lt9_11, y9_11, -⟩ := hO.k2 11 rfl
  obtain ⟨c9_12_0, c9_12_1, c9_12_2, c9_12_3, c9_12_4, lt9_12, y9_12, -⟩ := hO.k5 12 rfl
  obtain ⟨c9_13_0, c9_13_1, lt9_13, y9_13, -⟩ := hO.k2 13 rfl
  obtain ⟨c9_14_0, c9_14_1, lt9_14, y9_14, -⟩ := hO.k2 14 rfl
  obtain ⟨c9_15_0, c9_15_1, c9_15_2, c9_15_3, c9_15_4, c9_15_5, lt9_15, y9_15, -⟩ := hO.k6 15 rfl
  obtain ⟨c9_16_0, c9_16_1, c9_16_2, c9_16_3, c9_16_4, c9_16_5, c9_16_6, c9_16_7, lt9_16, y9_16, -⟩ := hO.k8 16 rfl
  obtain ⟨c9_17_0, c9_17_1, c9_17_2, c9_17_3, c9_17_4, lt9_17, y9_17, -⟩ := hO.k5 17 rfl
  obtain ⟨c9_21_0, c9_21_1, c9_21_2, c9_21_3, c9_21_4, c9_21_5, c9_21_6, c9_21_7, lt9_21, y9_21, -⟩ := hO.k8 21 rfl
  obtain ⟨c9_22_0, c9_22_1, c9_22_2, c9_22_3, c9_22_4, lt9_22, y9_22, -⟩ := hO.k5 22 rfl
  obtain ⟨c9_23_0, c9_23_1, lt9_23, y9_23, -⟩ := hO.k2 23 rfl
  obtain ⟨c9_24_0, c9_24_1, lt9_24, y9_24, -⟩ := hO.k2 24 rfl
  obtain ⟨c9_25_0, c9_25_1, lt9_25, y9_25, -⟩ := hO.k2 25 rfl
  obtain ⟨c9_26_0, lt9_26, y9_26, -⟩ := hO.k1 26 rfl
  obtain ⟨c9_28_0, c9_28_1, c9_28_2, c9_28_3, c9_28_4, lt9_28, y9_28, -⟩ := hO.k5 28 rfl
  obtain ⟨c9_29_0, c9_29_1, lt9_29, y9_29, -⟩ := hO.k2 29 rfl
  have HO := Lib.hid hO
  clear hO
  go_wp2_with (first | (with_reducible refine Own.stay (fn := Tryz.f5) ?_) | (first | (go_at_call 18; go_in)))
  try with_reducible refine Own.Stay.mk ?_
  have hO := HO.out
  clear HO c9_3_0 c9_3_1 lt9_3 y9_3 c9_4_0 c9_4_1 c9_4_2 c9_4_3 c9_4_4 c9_4_5 lt9_4 y9_4 c9_5_0 c9_5_1 c9_5_2 c9_5_3 c9_5_4 lt9_5 y9_5 c9_9_0 c9_9_1 c9_9_2 c9_9_3 c9_9_4 c9_9_5 c9_9_6 c9_9_7 lt9_9 y9_9 c9_10_0 c9_10_1 c9_10_2 c9_10_3 c9_10_4 lt9_10 y9_10 c9_11_0 c9_11_1 lt9_11 y9_11 c9_12_0 c9_12_1 c9_12_2 c9_12_3 c9_12_4 lt9_12 y9_12 c9_13_0 c9_13_1 lt9_13 y9_13 c9_14_0 c9_14_1 lt9_14 y9_14 c9_15_0 c9_15_1 c9_15_2 c9_15_3 c9_15_4 c9_15_5 lt9_15 y9_15 c9_16_0 c9_16_1 c9_16_2 c9_16_3 c9_16_4 c9_16_5 c9_16_6 c9_16_7 lt9_16 y9_16 c9_17_0 c9_17_1 c9_17_2 c9_17_3 c9_17_4 lt9_17 y9_17 c9_21_0 c9_21_1 c9_21_2 c9_21_3 c9_21_4 c9_21_5 c9_21_6 c9_21_7 lt9_21 y9_21 c9_22_0 c9_22_1 c9_22_2 c9_22_3 c9_22_4 lt9_22 y9_22 c9_23_0 c9_23_1 lt9_23 y9_23 c9_24_0 c9_24_1 lt9_24 y9_24 c9_25_0 c9_25_1 lt9_25 y9_25 c9_26_0 lt9_26 y9_26 c9_28_0 c9_28_1 c9_28_2 c9_28_3 c9_28_4 lt9_28 y9_28 c9_29_0 c9_29_1 lt9_29 y9_29
  have hL := hO.apart
  have hX := hO.apartX
  have HL := Lib.hid hL
  have HX := Lib.hid hX
  clear hL hX
  have hP9 := hO.pick [23, 24, 27] (by decide)
  generalize hX9_56 : Own.Rest _ _ X = X9_56 at hP9
  replace hP9 : Own w0 u55 [row (B42) 48 #[.int .u32 0, .int .u32 1], row (B39) 48 #[.int .u32 0, .int .u32 2], row (nd35) 74 (full symZ (symL ([sy ⟨#[70, 111, 111]⟩ (uz r (uz r 0)), sy ⟨#[95, 95, 115, 117, 112, 101, 114, 71, 101, 116]⟩ 1, sy ⟨#[95, 95, 115, 117, 112, 101, 114, 83, 101, 116]⟩ 1])) (nd36))] X9_56 := hP9
  clear hO
  have hO := hP9
  clear hP9
  have st9 := rlaw2714_st r nd35 nd36 B39 B42
  let R9 := rlaw2714R r nd35 nd36 B39 B42
  refine wp_region_own (e := rlaw2714E r nd35 nd36 B39 B42) (anc := rlaw2714Anc) (G := (fun L9 α u9 => OwnF w0 u9 (act rlaw2714Cnt 3 L9) (rlaw2714R r nd35 nd36 B39 B42 L9 α) X9_56)) (by kernel_rfl) (by kernel_rfl) (by kernel_rfl) (by kernel_rfl) (rlaw2714_he r nd35 nd36 B39 B42) ?_ (RunsAll.all ?_) ?_
  · have hp : ∀ i, act rlaw2714Cnt 3 (fun _ => false) i → i ∈ [999, 1999, 2999] := by
      intro i hi
      have h9 : i % 1000 = 999 := by
        by_cases h : i % 1000 = 999
        · exact h
        · exact absurd (act_lt hi h) (by simp)
      unfold act at hi
      rw [if_pos h9] at hi
      simp only [List.mem_cons, List.not_mem_nil, or_false]
      omega
    refine hO.drew.family (fun i hi => ?_) (fun i j hi hj hij => ?_)
    · have := hp i hi
      simp only [List.mem_cons, List.not_mem_nil, or_false] at this
      rcases this with rfl | rfl | rfl <;> rfl
    · have h1 := hp i hi
      have h2 := hp j hj
      simp only [List.mem_cons, List.not_mem_nil, or_false] at h1 h2
      omega
  · refine ⟨?_, ?_, ?_, ?_, ?_, ?_, ?_, ?_, ?_, ?_, ?_, ?_, ?_, ?_, ?_, ?_, ?_, ?_, ?_, ?_, ?_, ?_, ?_, ?_, ?_, ?_, trivial⟩
    · intro L9 α a9 u9 K9 hL hcl hA hG hS h0 hK
      replace hL : L9 0 = false := hL
      have q33 : a9.tmps[33]? = some (.slice (some ⟨nd35, 0, none⟩) 3 (3 + nd36)) := (h0 33 (by kernel_rfl)).trans rfl
      have s33 := Rega.eval_of q33
      go_simp
      exact hK _ α _ (fun _ _ => rfl) rfl (step_same (st9) hL hcl rfl rfl hG)
    · intro L9 α a9 u9 K9 hL hcl hA hG hS h0 hK
      replace hL : L9 1 = false := hL
      have q210 : a9.tmps[210]? = some (.slice (some ⟨nd35, 0, none⟩) 3 (3 + nd36)) := hS 0 210 (by decide) rfl (by show 210 < 235; decide)
      have s210 := Rega.eval_of q210
      go_simp
      exact hK _ α _ (fun _ _ => rfl) rfl (step_same (st9) hL hcl rfl rfl hG)
    · intro L9 α a9 u9 K9 hL hcl hA hG hS h0 hK
      replace hL : L9 2 = false := hL
      have q211 : a9.tmps[211]? = some (.pointer (some ⟨nd35, 0, none⟩)) := hS 1 211 (by decide) rfl (by show 211 < 235; decide)
      have s211 := Rega.eval_of q211
      go_simp
      exact hK _ α _ (fun _ _ => rfl) rfl (step_same (st9) hL hcl rfl rfl hG)
    · intro L9 α a9 u9 K9 hL hcl hA hG hS h0 hK
      replace hL : L9 3 = false := hL
      have q212 : a9.tmps[212]? = some (.pointer (some ⟨nd35, 4, none⟩)) := hS 2 212 (by decide) rfl (by show 212 < 235; decide)
      have s212 := Rega.eval_of q212
      have e0 : R9 L9 α 2999 = row (nd35) 74 (full symZ (symL ([sy ⟨#[70, 111, 111]⟩ (uz r (uz r 0)), sy ⟨#[95, 95, 115, 117, 112, 101, 114, 71, 101, 116]⟩ 1, sy ⟨#[95, 95, 115, 117, 112, 101, 114, 83, 101, 116]⟩ 1])) (nd36)) := rfl
      have hr := hG.rowAt 2999 (act_base 2999 rfl) e0
      have c0 : u9.cell? ⟨nd35, 4, none⟩ = some (.int .u32 (uz r (uz r 0) : Int)) := hr.cell ((full_at rfl))
      clear hr e0
      go_simp
      exact hK _ α _ (fun _ _ => rfl) rfl (step_same (st9) hL hcl rfl rfl hG)
    · intro L9 α a9 u9 K9 hL hcl hA hG hS h0 hK
      replace hL : L9 4 = false := hL
      have q4 : a9.tmps[4]? = some (.bool r) := (h0 4 (by kernel_rfl)).trans rfl
      have s4 := Rega.eval_of q4
      go_simp
      exact hK _ α _ (fun _ _ => rfl) rfl (step_same (st9) hL hcl rfl rfl hG)
    · intro L9 α a9 u9 K9 hL hcl hA hG hS h0 hK
      replace hL : L9 5 = false := hL
      have q214 : a9.tmps[214]? = some (.bool r) := hS 4 214 (by decide) rfl (by show 214 < 235; decide)
      have s214 := Rega.eval_of q214
      go_simp
      have hM : ∀ i, i ∈ [] → act rlaw2714Cnt 3 L9 i := by intro i hi; simp at hi
      have hP : Own w0 u9 [] _ := hG.pick [] (by decide) (by simp)
      clear hM
      refine Calls.mono (wantUsesU2 r _ _ _ hP ) ?_
      rintro e9 u1 ⟨rfl, hQ⟩
      obtain ⟨α', hα'⟩ : ∃ α' : Rega.Atoms, α' = α := ⟨_, rfl⟩
      have hα : ∀ j, j % 1000 ≠ 5 → α' j = α j := fun j hj => by rw [hα']
      skip
      refine hK _ α' _ hα ?_ (step_call (st9) hL hcl hα [] [] (by decide) (by decide) (by decide) (M := _) ?_ hG hQ)
      · rfl
      · show [] = _
        rw []
    · intro L9 α a9 u9 K9 hL hcl hA hG hS h0 hK
      replace hL : L9 6 = false := hL
      have q213 : a9.tmps[213]? = some (.int .u32 (uz r (uz r 0) : Int)) := hS 3 213 (by decide) rfl (by show 213 < 235; decide)
      have s213 := Rega.eval_of q213
      have q215 : a9.tmps[215]? = some (.int .u32 (uz r (uz r 0) : Int)) := hS 5 215 (by decide) rfl (by show 215 < 235; decide)
      have s215 := Rega.eval_of q215
      go_simp
      exact hK _ α _ (fun _ _ => rfl) rfl (step_same (st9) hL hcl rfl rfl hG)
    · intro L9 α a9 u9 K9 hL hcl hA hG hS h0 hK
      replace hL : L9 7 = false := hL
      have q216 : a9.tmps[216]? = some (.bool true) := hS 6 216 (by decide) rfl (by show 216 < 235; decide)
      have s216 := Rega.eval_of q216
      go_simp
      exact hK _ α _ (fun _ _ => rfl) rfl (step_same (st9) hL hcl rfl rfl hG)
    · intro L9 α a9 u9 K9 hL hcl hA hG hS h0 hK
      replace hL : L9 8 = false := hL
      have q33 : a9.tmps[33]? = some (.slice (some ⟨nd35, 0, none⟩) 3 (3 + nd36)) := (h0 33 (by kernel_rfl)).trans rfl
      have s33 := Rega.eval_of q33
      have q217 : a9.tmps[217]? = some (.bool true) := hS 7 217 (by decide) rfl (by show 217 < 235; decide)
      have s217 := Rega.eval_of q217
      go_simp
      exact hK _ α _ (fun _ _ => rfl) rfl (step_same (st9) hL hcl rfl rfl hG)
    · intro L9 α a9 u9 K9 hL hcl hA hG hS h0 hK
      replace hL : L9 9 = false := hL
      have q19 : a9.tmps[19]? = some (.pointer (some ⟨B39, 0, none⟩)) := (h0 19 (by kernel_rfl)).trans rfl
      have s19 := Rega.eval_of q19
      have q217 : a9.tmps[217]? = some (.bool true) := hS 7 217 (by decide) rfl (by show 217 < 235; decide)
      have s217 := Rega.eval_of q217
      go_simp
      exact hK _ α _ (fun _ _ => rfl) rfl (step_same (st9) hL hcl rfl rfl hG)
    · intro L9 α a9 u9 K9 hL hcl hA hG hS h0 hK
      replace hL : L9 10 = false := hL
      have q219 : a9.tmps[219]? = some (.pointer (some ⟨B39, 1, none⟩)) := hS 9 219 (by decide) rfl (by show 219 < 235; decide)
      have s219 := Rega.eval_of q219
      have q217 : a9.tmps[217]? = some (.bool true) := hS 7 217 (by decide) rfl (by show 217 < 235; decide)
      have s217 := Rega.eval_of q217
      have e0 : R9 L9 α 1999 = row (B39) 48 #[.int .u32 0, .int .u32 2] := rfl
      have hr := hG.rowAt 1999 (act_base 1999 rfl) e0
      have c0 : u9.cell? ⟨B39, 1, none⟩ = some (.int .u32 2) := hr.cell rfl
      clear hr e0
      go_simp
      exact hK _ α _ (fun _ _ => rfl) rfl (step_same (st9) hL hcl rfl rfl hG)
    · intro L9 α a9 u9 K9 hL hcl hA hG hS h0 hK
      replace hL : L9 11 = false := hL
      have q218 : a9.tmps[218]? = some (.slice (some ⟨nd35, 0, none⟩) 3 (3 + nd36)) := hS 8 218 (by decide) rfl (by show 218 < 235; decide)
      have s218 := Rega.eval_of q218
      have q220 : a9.tmps[220]? = some (.int .u32 2) := hS 10 220 (by decide) rfl (by show 220 < 235; decide)
      have s220 := Rega.eval_of q220
      have q217 : a9.tmps[217]? = some (.bool true) := hS 7 217 (by decide) rfl (by show 217 < 235; decide)
      have s217 := Rega.eval_of q217
      go_simp
      exact hK _ α _ (fun _ _ => rfl) rfl (step_same (st9) hL hcl rfl rfl hG)
    · intro L9 α a9 u9 K9 hL hcl hA hG hS h0 hK
      replace hL : L9 12 = false := hL
      have q221 : a9.tmps[221]? = some (.pointer (some ⟨nd35, 20, none⟩)) := hS 11 221 (by decide) rfl (by show 221 < 235; decide)
      have s221 := Rega.eval_of q221
      have q217 : a9.tmps[217]? = some (.bool true) := hS 7 217 (by decide) rfl (by show 217 < 235; decide)
      have s217 := Rega.eval_of q217
      go_simp
      exact hK _ α _ (fun _ _ => rfl) rfl (step_same (st9) hL hcl rfl rfl hG)
    · intro L9 α a9 u9 K9 hL hcl hA hG hS h0 hK
      replace hL : L9 13 = false := hL
      have q222 : a9.tmps[222]? = some (.pointer (some ⟨nd35, 24, none⟩)) := hS 12 222 (by decide) rfl (by show 222 < 235; decide)
      have s222 := Rega.eval_of q222
      have q217 : a9.tmps[217]? = some (.bool true) := hS 7 217 (by decide) rfl (by show 217 < 235; decide)
      have s217 := Rega.eval_of q217
      have e0 : R9 L9 α 2999 = row (nd35) 74 (full symZ (symL ([sy ⟨#[70, 111, 111]⟩ (uz r (uz r 0)), sy ⟨#[95, 95, 115, 117, 112, 101, 114, 71, 101, 116]⟩ 1, sy ⟨#[95, 95, 115, 117, 112, 101, 114, 83, 101, 116]⟩ 1])) (nd36)) := rfl
      have hr := hG.rowAt 2999 (act_base 2999 rfl) e0
      have c0 : u9.cell? ⟨nd35, 24, none⟩ = some (.int .u32 1) := hr.cell ((full_at rfl))
      clear hr e0
      go_simp
      exact hK _ α _ (fun _ _ => rfl) rfl (step_same (st9) hL hcl rfl rfl hG)
    · intro L9 α a9 u9 K9 hL hcl hA hG hS h0 hK
      replace hL : L9 14 = false := hL
      have q223 : a9.tmps[223]? = some (.int .u32 1) := hS 13 223 (by decide) rfl (by show 223 < 235; decide)
      have s223 := Rega.eval_of q223
      have q217 : a9.tmps[217]? = some (.bool true) := hS 7 217 (by decide) rfl (by show 217 < 235; decide)
      have s217 := Rega.eval_of q217
      go_simp
      exact hK _ α _ (fun _ _ => rfl) rfl (step_same (st9) hL hcl rfl rfl hG)
    · intro L9 α a9 u9 K9 hL hcl hA hG hS h0 hK
      replace hL : L9 15 = false := hL
      have q217 : a9.tmps[217]? = some (.bool true) := hS 7 217 (by decide) rfl (by show 217 < 235; decide)
      have s217 := Rega.eval_of q217
      have q224 : a9.tmps[224]? = some (.bool true) := hS 14 224 (by decide) rfl (by show 224 < 235; decide)
      have s224 := Rega.eval_of q224
      go_simp
      exact hK _ α _ (fun _ _ => rfl) rfl (step_same (st9) hL hcl rfl rfl hG)
    · intro L9 α a9 u9 K9 hL hcl hA hG hS h0 hK
      replace hL : L9 16 = false := hL
      have q225 : a9.tmps[225]? = some (.bool true) := hS 15 225 (by decide) rfl (by show 225 < 235; decide)
      have s225 := Rega.eval_of q225
      go_simp
      exact hK _ α _ (fun _ _ => rfl) rfl (step_same (st9) hL hcl rfl rfl hG)
    · intro L9 α a9 u9 K9 hL hcl hA hG hS h0 hK
      replace hL : L9 17 = false := hL
      have q33 : a9.tmps[33]? = some (.slice (some ⟨nd35, 0, none⟩) 3 (3 + nd36)) := (h0 33 (by kernel_rfl)).trans rfl
      have s33 := Rega.eval_of q33
      have q226 : a9.tmps[226]? = some (.bool true) := hS 16 226 (by decide) rfl (by show 226 < 235; decide)
      have s226 := Rega.eval_of q226
      go_simp
      exact hK _ α _ (fun _ _ => rfl) rfl (step_same (st9) hL hcl rfl rfl hG)
    · intro L9 α a9 u9 K9 hL hcl hA hG hS h0 hK
      replace hL : L9 18 = false := hL
      have q21 : a9.tmps[21]? = some (.pointer (some ⟨B42, 0, none⟩)) := (h0 21 (by kernel_rfl)).trans rfl
      have s21 := Rega.eval_of q21
      have q226 : a9.tmps[226]? = some (.bool true) := hS 16 226 (by decide) rfl (by show 226 < 235; decide)
      have s226 := Rega.eval_of q226
      go_simp
      exact hK _ α _ (fun _ _ => rfl) rfl (step_same (st9) hL hcl rfl rfl hG)
    · intro L9 α a9 u9 K9 hL hcl hA hG hS h0 hK
      replace hL : L9 19 = false := hL
      have q228 : a9.tmps[228]? = some (.pointer (some ⟨B42, 1, none⟩)) := hS 18 228 (by decide) rfl (by show 228 < 235; decide)
      have s228 := Rega.eval_of q228
      have q226 : a9.tmps[226]? = some (.bool true) := hS 16 226 (by decide) rfl (by show 226 < 235; decide)
      have s226 := Rega.eval_of q226
      have e0 : R9 L9 α 999 = row (B42) 48 #[.int .u32 0, .int .u32 1] := rfl
      have hr := hG.rowAt 999 (act_base 999 rfl) e0
      have c0 : u9.cell? ⟨B42, 1, none⟩ = some (.int .u32 1) := hr.cell rfl
      clear hr e0
      go_simp
      exact hK _ α _ (fun _ _ => rfl) rfl (step_same (st9) hL hcl rfl rfl hG)
    · intro L9 α a9 u9 K9 hL hcl hA hG hS h0 hK
      replace hL : L9 20 = false := hL
      have q227 : a9.tmps[227]? = some (.slice (some ⟨nd35, 0, none⟩) 3 (3 + nd36)) := hS 17 227 (by decide) rfl (by show 227 < 235; decide)
      have s227 := Rega.eval_of q227
      have q229 : a9.tmps[229]? = some (.int .u32 1) := hS 19 229 (by decide) rfl (by show 229 < 235; decide)
      have s229 := Rega.eval_of q229
      have q226 : a9.tmps[226]? = some (.bool true) := hS 16 226 (by decide) rfl (by show 226 < 235; decide)
      have s226 := Rega.eval_of q226
      go_simp
      exact hK _ α _ (fun _ _ => rfl) rfl (step_same (st9) hL hcl rfl rfl hG)
    · intro L9 α a9 u9 K9 hL hcl hA hG hS h0 hK
      replace hL : L9 21 = false := hL
      have q230 : a9.tmps[230]? = some (.pointer (some ⟨nd35, 10, none⟩)) := hS 20 230 (by decide) rfl (by show 230 < 235; decide)
      have s230 := Rega.eval_of q230
      have q226 : a9.tmps[226]? = some (.bool true) := hS 16 226 (by decide) rfl (by show 226 < 235; decide)
      have s226 := Rega.eval_of q226
      go_simp
      exact hK _ α _ (fun _ _ => rfl) rfl (step_same (st9) hL hcl rfl rfl hG)
    · intro L9 α a9 u9 K9 hL hcl hA hG hS h0 hK
      replace hL : L9 22 = false := hL
      have q231 : a9.tmps[231]? = some (.pointer (some ⟨nd35, 14, none⟩)) := hS 21 231 (by decide) rfl (by show 231 < 235; decide)
      have s231 := Rega.eval_of q231
      have q226 : a9.tmps[226]? = some (.bool true) := hS 16 226 (by decide) rfl (by show 226 < 235; decide)
      have s226 := Rega.eval_of q226
      have e0 : R9 L9 α 2999 = row (nd35) 74 (full symZ (symL ([sy ⟨#[70, 111, 111]⟩ (uz r (uz r 0)), sy ⟨#[95, 95, 115, 117, 112, 101, 114, 71, 101, 116]⟩ 1, sy ⟨#[95, 95, 115, 117, 112, 101, 114, 83, 101, 116]⟩ 1])) (nd36)) := rfl
      have hr := hG.rowAt 2999 (act_base 2999 rfl) e0
      have c0 : u9.cell? ⟨nd35, 14, none⟩ = some (.int .u32 1) := hr.cell ((full_at rfl))
      clear hr e0
      go_simp
      exact hK _ α _ (fun _ _ => rfl) rfl (step_same (st9) hL hcl rfl rfl hG)
    · intro L9 α a9 u9 K9 hL hcl hA hG hS h0 hK
      replace hL : L9 23 = false := hL
      have q232 : a9.tmps[232]? = some (.int .u32 1) := hS 22 232 (by decide) rfl (by show 232 < 235; decide)
      have s232 := Rega.eval_of q232
      have q226 : a9.tmps[226]? = some (.bool true) := hS 16 226 (by decide) rfl (by show 226 < 235; decide)
      have s226 := Rega.eval_of q226
      go_simp
      exact hK _ α _ (fun _ _ => rfl) rfl (step_same (st9) hL hcl rfl rfl hG)
    · intro L9 α a9 u9 K9 hL hcl hA hG hS h0 hK
      replace hL : L9 24 = false := hL
      have q226 : a9.tmps[226]? = some (.bool true) := hS 16 226 (by decide) rfl (by show 226 < 235; decide)
      have s226 := Rega.eval_of q226
      have q233 : a9.tmps[233]? = some (.bool true) := hS 23 233 (by decide) rfl (by show 233 < 235; decide)
      have s233 := Rega.eval_of q233
      go_simp
      exact hK _ α _ (fun _ _ => rfl) rfl (step_same (st9) hL hcl rfl rfl hG)
    · intro L9 α a9 u9 K9 hL hcl hA hG hS h0 hK
      replace hL : L9 25 = false := hL
      have q234 : a9.tmps[234]? = some (.bool true) := hS 24 234 (by decide) rfl (by show 234 < 235; decide)
      have s234 := Rega.eval_of q234
      go_simp
      exact hK _ α _ (fun _ _ => rfl) rfl (step_same (st9) hL hcl rfl rfl hG)
  clear st9
  intro α u hG
  have e0 : R9 (fun k => decide (k < 26)) α 999 = row (B42) 48 #[.int .u32 0, .int .u32 1] := rfl
  have e1 : R9 (fun k => decide (k < 26)) α 1999 = row (B39) 48 #[.int .u32 0, .int .u32 2] := rfl
  have e2 : R9 (fun k => decide (k < 26)) α 2999 = row (nd35) 74 (full symZ (symL ([sy ⟨#[70, 111, 111]⟩ (uz r (uz r 0)), sy ⟨#[95, 95, 115, 117, 112, 101, 114, 71, 101, 116]⟩ 1, sy ⟨#[95, 95, 115, 117, 112, 101, 114, 83, 101, 116]⟩ 1])) (nd36)) := rfl
  have hO : Own w0 u [row (B42) 48 #[.int .u32 0, .int .u32 1], row (B39) 48 #[.int .u32 0, .int .u32 2], row (nd35) 74 (full symZ (symL ([sy ⟨#[70, 111, 111]⟩ (uz r (uz r 0)), sy ⟨#[95, 95, 115, 117, 112, 101, 114, 71, 101, 116]⟩ 1, sy ⟨#[95, 95, 115, 117, 112, 101, 114, 83, 101, 116]⟩ 1])) (nd36))] X9_56 := (hG.list [999, 1999, 2999] (by decide) (act_all (by decide))).conv (by
    show [R9 (fun k => decide (k < 26)) α 999, R9 (fun k => decide (k < 26)) α 1999, R9 (fun k => decide (k < 26)) α 2999] = _
    rw [e0, e1, e2])
  clear hG e0 e1 e2 R9
  generalize hfr : Rega.frameAt _ _ _ _ _ = fr
  have hdf : fr = ⟨#[.int .i32 loc, .string key, .int .u8 op, .bool s, .bool r, .int .u32 vm, undef, undef, undef, undef, undef, undef, .bool true, .pointer (some ⟨B1, 0, none⟩), .pointer (some ⟨nd4, 0, none⟩), .pointer (some ⟨B8, 0, none⟩), .slice (some ⟨nd11, 0, none⟩) key.size key.size, .pointer (some ⟨B12, 0, none⟩), .pointer (some ⟨nd19, 0, none⟩), .pointer (some ⟨B39, 0, none⟩), .bool true, .pointer (some ⟨B42, 0, none⟩), .bool true, .slice (some ⟨nd28, 0, none⟩) 4 4, .bool true, .int .u8 op, .pointer (some ⟨B48, 0, none⟩), .pointer (some ⟨B48_1, 0, none⟩), .bool true, .pointer (some ⟨B51, 0, none⟩), .bool true, .slice (some ⟨nd21, 0, none⟩) 3 3, .bool true, .slice (some ⟨nd35, 0, none⟩) 3 (3 + nd36), .int .i32 loc, .string key, .int .u8 op, .bool s, .bool r, .int .u32 vm, .bool true, .bool false, .string key, .int .i64 (key.size : Int), .bool (decide (65536 < (key.size : Int))), .agg #[.int .u32 0, .int .u32 0], .slice (some ⟨nd3, 0, none⟩) 1 1, .agg #[.int .u32 0, .int .u32 0], .bool s, .bool r, .pointer (some ⟨nd4, 0, none⟩), .int .i32 loc, .agg #[.int .i32 loc], .string key, .slice (some ⟨nd11, 0, none⟩) key.size key.size, .int .u32 vm, .agg #[.int .u32 3, .int .u32 vm], .pointer (some ⟨nd4, 0, none⟩), .agg #[.int .i32 loc], .int .i32 loc, .string key, .slice (some ⟨nd15, 0, none⟩) key.size key.size, .agg #[.iface 195 (.pointer (some ⟨nd16, 0, none⟩)), .int .i32 loc], .int .u8 op, .int .i32 loc, .agg #[.int .u32 3, .int .u32 vm], .agg #[.iface 189 (.pointer (some ⟨nd17, 0, none⟩)), .int .i32 loc], .agg #[.iface 251 (.pointer (some ⟨nd27, 0, none⟩)), .int .i32 loc], .tuple #[.agg #[.int .u32 0, .int .u32 2], .bool true], .pointer (some ⟨nd4, 0, none⟩), .tuple #[.agg #[.int .u32 0, .int .u32 2], .bool true], .agg #[.int .u32 0, .int .u32 2], .bool true, .tuple #[.agg #[.int .u32 0, .int .u32 1], .bool true], .pointer (some ⟨nd4, 0, none⟩), .tuple #[.agg #[.int .u32 0, .int .u32 1], .bool true], .agg #[.int .u32 0, .int .u32 1], .bool true, .bool true, .bool false, .bool false, .bool true, .bool false, .bool false, .bool false, .pointer (some ⟨nd4, 0, none⟩), .int .i64 2, .bool false, .bool false, .tuple #[.slice (some ⟨nd28, 0, none⟩) 4 4, .bool true], .agg #[.iface 251 (.pointer (some ⟨nd27, 0, none⟩)), .int .i32 loc], .agg #[.int .u32 0, .int .u32 2], .tuple #[.slice (some ⟨nd28, 0, none⟩) 4 4, .bool true], .slice (some ⟨nd28, 0, none⟩) 4 4, .bool true, .bool true, .bool false, .bool false, .slice (some ⟨nd28, 0, none⟩) 4 4, .pointer (some ⟨nd28, 0, none⟩), .agg #[.iface (clsTy s) (.pointer (some ⟨nd30, 0, none⟩)), .int .i32 loc], .agg #[.int .u32 0, .int .u32 0], .bool s, .bool true, .bool false, .bool false, .bool false, .slice (some ⟨nd28, 0, none⟩) 4 4, .pointer (some ⟨nd28, 2, none⟩), .agg #[.iface (thsTy r) (.pointer (some ⟨nd32, 0, none⟩)), .int .i32 loc], .agg #[.int .u32 0, .int .u32 0], .bool r, .bool true, .bool false, .bool false, .bool false, .slice (some ⟨nd28, 0, none⟩) 4 4, .pointer (some ⟨nd28, 4, none⟩), .agg #[.iface 195 (.pointer (some ⟨nd29, 0, none⟩)), .int .i32 loc], .slice (some ⟨nd11, 0, none⟩) key.size key.size, .bool true, .bool false, .bool false, .tuple #[.int .u8 op, .agg #[.iface 251 (.pointer (some ⟨nd20, 0, none⟩)), .int .i32 loc], .agg #[.iface 189 (.pointer (some ⟨nd17, 0, none⟩)), .int .i32 loc], .bool true], .slice (some ⟨nd28, 0, none⟩) 4 4, .pointer (some ⟨nd28, 6, none⟩), .agg #[.iface 235 (.pointer (some ⟨nd33, 0, none⟩)), .int .i32 loc], .tuple #[.int .u8 op, .agg #[.iface 251 (.pointer (some ⟨nd20, 0, none⟩)), .int .i32 loc], .agg #[.iface 189 (.pointer (some ⟨nd17, 0, none⟩)), .int .i32 loc], .bool true], .int .u8 op, .agg #[.iface 251 (.pointer (some ⟨nd20, 0, none⟩)), .int .i32 loc], .agg #[.iface 189 (.pointer (some ⟨nd17, 0, none⟩)), .int .i32 loc], .bool true, .bool true, .bool false, .bool false, .int .u8 op, .int .u8 op, .bool false, .bool false, .tuple #[.agg #[.int .u32 3, .int .u32 vm], .bool true], .agg #[.iface 189 (.pointer (some ⟨nd17, 0, none⟩)), .int .i32 loc], .tuple #[.agg #[.int .u32 3, .int .u32 vm], .bool true], .agg #[.int .u32 3, .int .u32 vm], .bool true, .bool true, .bool false, .bool false, .agg #[.int .u32 3, .int .u32 vm], .agg #[.int .u32 3, .int .u32 vm], .bool false, .bool false, .tuple #[.slice (some ⟨nd21, 0, none⟩) 3 3, .bool true], .agg #[.iface 251 (.pointer (some ⟨nd20, 0, none⟩)), .int .i32 loc], .agg #[.int .u32 0, .int .u32 1], .tuple #[.slice (some ⟨nd21, 0, none⟩) 3 3, .bool true], .slice (some ⟨nd21, 0, none⟩) 3 3, .bool true, .bool true, .bool false, .bool false, .slice (some ⟨nd21, 0, none⟩) 3 3, .pointer (some ⟨nd21, 0, none⟩), .agg #[.iface (clsTy s) (.pointer (some ⟨nd23, 0, none⟩)), .int .i32 loc], .agg #[.int .u32 0, .int .u32 0], .bool s, .bool true, .bool false, .bool false, .bool false, .slice (some ⟨nd21, 0, none⟩) 3 3, .pointer (some ⟨nd21, 2, none⟩), .agg #[.iface (thsTy r) (.pointer (some ⟨nd25, 0, none⟩)), .int .i32 loc], .agg #[.int .u32 0, .int .u32 0], .bool r, .bool true, .bool false, .bool false, .bool false, .slice (some ⟨nd21, 0, none⟩) 3 3, .pointer (some ⟨nd21, 4, none⟩), .agg #[.iface 195 (.pointer (some ⟨nd22, 0, none⟩)), .int .i32 loc], .slice (some ⟨nd11, 0, none⟩) key.size key.size, .bool true, .bool false, .bool false, .pointer (some ⟨nd4, 0, none⟩), .slice (some ⟨nd35, 0, none⟩) 3 (3 + nd36), .slice (some ⟨nd35, 0, none⟩) 3 (3 + nd36), .int .i64 3, .bool false, .bool false, .pointer (some ⟨B39, 1, none⟩), .int .u32 2, .bool false, .bool false, .bool false, .pointer (some ⟨B42, 1, none⟩), .int .u32 1, .bool false, .bool false, .bool false, .pointer (some ⟨B39, 1, none⟩), .int .u32 2, .bool false, .bool false, .bool false, .pointer (some ⟨B42, 1, none⟩), .int .u32 1, .bool false, .bool false, .slice (some ⟨nd35, 0, none⟩) 3 (3 + nd36), .pointer (some ⟨nd35, 0, none⟩), .pointer (some ⟨nd35, 4, none⟩), .int .u32 (uz r (uz r 0) : Int), .bool r, .int .u32 (uz r (uz r 0) : Int), .bool true, .bool true, .slice (some ⟨nd35, 0, none⟩) 3 (3 + nd36), .pointer (some ⟨B39, 1, none⟩), .int .u32 2, .pointer (some ⟨nd35, 20, none⟩), .pointer (some ⟨nd35, 24, none⟩), .int .u32 1, .bool true, .bool true, .bool true, .slice (some ⟨nd35, 0, none⟩) 3 (3 + nd36), .pointer (some ⟨B42, 1, none⟩), .int .u32 1, .pointer (some ⟨nd35, 10, none⟩), .pointer (some ⟨nd35, 14, none⟩), .int .u32 1, .bool true, .bool true], []⟩ := by rw [← hfr]; kernel_rfl
  clear hfr
  subst hdf
  clear α
  subst hX9_56
  have hN : Own w0 u [row (B42) 48 #[.int .u32 0, .int .u32 1], row (B39) 48 #[.int .u32 0, .int .u32 2], row (nd35) 74 (full symZ (symL ([sy ⟨#[70, 111, 111]⟩ (uz r (uz r 0)), sy ⟨#[95, 95, 115, 117, 112, 101, 114, 71, 101, 116]⟩ 1, sy ⟨#[95, 95, 115, 117, 112, 101, 114, 83, 101, 116]⟩ 1])) (nd36)), row (nd4) 188 ((newSrstP r s nd3 nd5 nd6 nd7).setIfInBounds 106 (.slice (some ⟨nd35, 0, none⟩) 3 (3 + nd36))), row (nd15) 69 (units key), row (nd11) 69 (units key), row (B1) 48 #[.int .u32 0, .int .u32 0], row (nd21) 32 #[.iface (clsTy s) (.pointer (some ⟨nd23, 0, none⟩)), .int .i32 loc, .iface (thsTy r) (.pointer (some ⟨nd25, 0, none⟩)), .int .i32 loc, .iface 195 (.pointer (some ⟨nd22, 0, none⟩)), .int .i32 loc], row (nd22) 197 #[.slice (some ⟨nd15, 0, none⟩) key.size key.size, .int .i32 0, .bool false, .bool false, .bool false], row (nd23) (clsT s) (clsC s loc (nd24)), row (nd24) (xtrT s) (xtrC s loc (nd23)), row (nd25) (thsT r) (thsC r), row (nd20) 255 #[.iface 189 (.pointer (some ⟨nd18, 0, none⟩)), .int .i32 loc, .slice (some ⟨nd21, 0, none⟩) 3 3, .int .i32 0, .int .u8 0, .int .u8 0, .bool false, .bool false], row (nd18) 191 #[.int .u32 0, .int .u32 1, .bool false, .bool false, .bool false], row (B51) 48 #[.int .u32 3, .int .u32 vm], row (nd17) 191 #[.int .u32 3, .int .u32 vm, .bool false, .bool false, .bool false], row (B48_1) 32 #[.iface 189 (.pointer (some ⟨nd17, 0, none⟩)), .int .i32 loc], row (B48) 32 #[.iface 251 (.pointer (some ⟨nd20, 0, none⟩)), .int .i32 loc], row (nd33) 238 #[.iface 251 (.pointer (some ⟨nd20, 0, none⟩)), .int .i32 loc, .iface 189 (.pointer (some ⟨nd17, 0, none⟩)), .int .i32 loc, .int .u8 op, .bool false], row (nd28) 32 #[.iface (clsTy s) (.pointer (some ⟨nd30, 0, none⟩)), .int .i32 loc, .iface (thsTy r) (.pointer (some ⟨nd32, 0, none⟩)), .int .i32 loc, .iface 195 (.pointer (some ⟨nd29, 0, none⟩)), .int .i32 loc, .iface 235 (.pointer (some ⟨nd33, 0, none⟩)), .int .i32 loc], row (nd29) 197 #[.slice (some ⟨nd15, 0, none⟩) key.size key.size, .int .i32 0, .bool false, .bool false, .bool false], row (nd30) (clsT s) (clsC s loc (nd31)), row (nd31) (xtrT s) (xtrC s loc (nd30)), row (nd32) (thsT r) (thsC r), row (nd27) 255 #[.iface 189 (.pointer (some ⟨nd26, 0, none⟩)), .int .i32 loc, .slice (some ⟨nd28, 0, none⟩) 4 4, .int .i32 0, .int .u8 0, .int .u8 0, .bool false, .bool false], row (nd26) 191 #[.int .u32 0, .int .u32 2, .bool false, .bool false, .bool false], row (B12) 48 #[.int .u32 3, .int .u32 vm], row (B8) 30 #[.int .i32 loc], row (nd16) 197 #[.slice (some ⟨nd15, 0, none⟩) key.size key.size, .int .i32 0, .bool false, .bool false, .bool false], row (nd19) 32 #[.iface 251 (.pointer (some ⟨nd27, 0, none⟩)), .int .i32 loc]] X := hO.back HL.out HX.out [0, 1, 2, 3, 4, 5, 6, 7, 8, 9, 10, 11, 12, 13, 14, 15, 16, 17, 18, 19, 20, 21, 22, 25, 26, 28, 29] (by decide) (by decide)
  clear hO HL HX
  have hO := hN
  clear hN
  obtain ⟨c9_0_0, c9_0_1, lt9_0, y9_0, -⟩ := hO.k2 0 rfl
  obtain ⟨c9_1_0, c9_1_1, lt9_1, y9_1, -⟩ := hO.k2 1 rfl
  obtain ⟨c9_6_0, c9_6_1, lt9_6, y9_6, -⟩ := hO.k2 6 rfl
  obtain ⟨c9_7_0, c9_7_1, c9_7_2, c9_7_3, c9_7_4, c9_7_5, lt9_7, y9_7, -⟩ := hO.k6 7 rfl
  obtain ⟨c9_8_0, c9_8_1, c9_8_2, c9_8_3, c9_8_4, lt9_8, y9_8, -⟩ := hO.k5 8 rfl
  obtain ⟨c9_12_0, c9_12_1, c9_12_2, c9_12_3, c9_12_4, c9_12_5, c9_12_6, c9_12_7, lt9_12, y9_12, -⟩ := hO.k8 12 rfl
  obtain ⟨c9_13_0, c9_13_1, c9_13_2, c9_13_3, c9_13_4, lt9_13, y9_13, -⟩ := hO.k5 13 rfl
  obtain ⟨c9_14_0, c9_14_1, lt9_14, y9_14, -⟩ := hO.k2 14 rfl
  obtain ⟨c9_15_0, c9_15_1, c9_15_2, c9_15_3, c9_15_4, lt9_15, y9_15, -⟩ := hO.k5 15 rfl
  obtain ⟨c9_16_0, c9_16_1, lt9_16, y9_16, -⟩ := hO.k2 16 rfl
  obtain ⟨c9_17_0, c9_17_1, lt9_17, y9_17, -⟩ := hO.k2 17 rfl
  obtain ⟨c9_18_0, c9_18_1, c9_18_2, c9_18_3, c9_18_4, c9_18_5, lt9_18, y9_18, -⟩ := hO.k6 18 rfl
  obtain ⟨c9_19_0, c9_19_1, c9_19_2, c9_19_3, c9_19_4, c9_19_5, c9_19_6, c9_19_7, lt9_19, y9_19, -⟩ := hO.k8 19 rfl
  obtain ⟨c9_20_0, c9_20_1, c9_20_2, c9_20_3, c9_20_4, lt9_20, y9_20, -⟩ := hO.k5 20 rfl
  obtain ⟨c9_24_0, c9_24_1, c9_24_2, c9_24_3, c9_24_4, c9_24_5, c9_24_6, c9_24_7, lt9_24, y9_24, -⟩ := hO.k8 24 rfl
  obtain ⟨c9_25_0, c9_25_1, c9_25_2, c9_25_3, c9_25_4, lt9_25, y9_25, -⟩ := hO.k5 25 rfl
  obtain ⟨c9_26_0, c9_26_1, lt9_26, y9_26, -⟩ := hO.k2 26 rfl
  obtain ⟨c9_27_0, lt9_27, y9_27, -⟩ := hO.k1 27 rfl
  obtain ⟨c9_28_0, c9_28_1, c9_28_2, c9_28_3, c9_28_4, lt9_28, y9_28, -⟩ := hO.k5 28 rfl
  obtain ⟨c9_29_0, c9_29_1, lt9_29, y9_29, -⟩ := hO.k2 29 rfl
  have HO := Lib.hid hO
  clear hO
  go_wp2_with (first | (with_reducible refine Own.stay (fn := Tryz.f5) ?_) | (first | (go_at_call 18; go_in)))
  try with_reducible refine Own.Stay.mk ?_
  have hO := HO.out
  clear HO c9_0_0 c9_0_1 lt9_0 y9_0 c9_1_0 c9_1_1 lt9_1 y9_1 c9_6_0 c9_6_1 lt9_6 y9_6 c9_7_0 c9_7_1 c9_7_2 c9_7_3 c9_7_4 c9_7_5 lt9_7 y9_7 c9_8_0 c9_8_1 c9_8_2 c9_8_3 c9_8_4 lt9_8 y9_8 c9_12_0 c9_12_1 c9_12_2 c9_12_3 c9_12_4 c9_12_5 c9_12_6 c9_12_7 lt9_12 y9_12 c9_13_0 c9_13_1 c9_13_2 c9_13_3 c9_13_4 lt9_13 y9_13 c9_14_0 c9_14_1 lt9_14 y9_14 c9_15_0 c9_15_1 c9_15_2 c9_15_3 c9_15_4 lt9_15 y9_15 c9_16_0 c9_16_1 lt9_16 y9_16 c9_17_0 c9_17_1 lt9_17 y9_17 c9_18_0 c9_18_1 c9_18_2 c9_18_3 c9_18_4 c9_18_5 lt9_18 y9_18 c9_19_0 c9_19_1 c9_19_2 c9_19_3 c9_19_4 c9_19_5 c9_19_6 c9_19_7 lt9_19 y9_19 c9_20_0 c9_20_1 c9_20_2 c9_20_3 c9_20_4 lt9_20 y9_20 c9_24_0 c9_24_1 c9_24_2 c9_24_3 c9_24_4 c9_24_5 c9_24_6 c9_24_7 lt9_24 y9_24 c9_25_0 c9_25_1 c9_25_2 c9_25_3 c9_25_4 lt9_25 y9_25 c9_26_0 c9_26_1 lt9_26 y9_26 c9_27_0 lt9_27 y9_27 c9_28_0 c9_28_1 c9_28_2 c9_28_3 c9_28_4 lt9_28 y9_28 c9_29_0 c9_29_1 lt9_29 y9_29
  refine bodyPost_ret (v := .bool true) ?_ rfl ⟨rfl, hO.sub [] (by decide)⟩
  simp [results, Tryz.results5, go_sem]
end Go.Proofs.YtkhmjppfogppoaaGreatDoor.Use
