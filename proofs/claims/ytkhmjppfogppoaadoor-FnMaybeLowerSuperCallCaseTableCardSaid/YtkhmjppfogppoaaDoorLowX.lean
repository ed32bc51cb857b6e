/- A super call by name, lowered: its key told. No condition. -/
import Derived.Test.YtkhmjppfogppoaaDoorU16x
import Derived.Test.YtkhmjppfogppoaaDoorShl
import Derived.Test.YtkhmjppfogppoaaDoorUniG
import Derived.Test.YtkhmjppfogppoaaDoorLoop
import Derived.Test.YtkhmjppfogppoaaDoorLive
import Derived.Test.YtkhmjppfogppoaaDoorApp
import Derived.Test.YtkhmjppfogppoaaDoorOwnK
import Derived.Test.YtkhmjppfogppoaaDoorOwn
import Derived.Test.YtkhmjppfogppoaaDoorDeepCells
import Derived.Test.YtkhmjppfogppoaaDoorRows
import Derived.Test.YtkhmjppfogppoaaDoorUse
namespace Go.Proofs.YtkhmjppfogppoaaDoor.Use
open Go.ChangeShapes Go.WideShapes Go.ChangeAt Go.RowKit Go.Sort Own
set_option linter.unusedVariables false
noncomputable def rLX02E (loc : Int) (tg : Nat) (sp : Nat) (name : ByteArray) (B1 : Nat) : Nat → Rega.Atoms → Value
  | 0, α => .pointer (some ⟨tg, 0, none⟩)
  | 1, α => .pointer (some ⟨tg, 0, none⟩)
  | 2, α => .pointer (some ⟨tg, 3, none⟩)
  | 3, α => .agg #[.int .i32 loc]
  | 4, α => .pointer (some ⟨tg, 0, none⟩)
  | 5, α => .pointer (some ⟨tg, 0, none⟩)
  | 6, α => .pointer (some ⟨tg, 2, none⟩)
  | 7, α => .string name
  | 8, α => .slice (some ⟨α 8, 0, none⟩) (u16L name).length ((u16L name).length + (α 1008))
  | 9, α => .agg #[.slice (some ⟨α 8, 0, none⟩) (u16L name).length ((u16L name).length + (α 1008)), .int .i32 0, .bool false, .bool false, .bool false]
  | 10, α => .pointer (some ⟨α 10, 0, none⟩)
  | 11, α => .iface 206 (.pointer (some ⟨α 10, 0, none⟩))
  | 12, α => .agg #[.iface 206 (.pointer (some ⟨α 10, 0, none⟩)), .int .i32 loc]
  | 13, α => undef
  | _, _ => undef
noncomputable def rLX02Anc : Nat → List Nat
  | 1 => [0]
  | 2 => [0, 1]
  | 3 => [0, 1, 2]
  | 5 => [4]
  | 6 => [4, 5]
  | 7 => [4, 5, 6]
  | 8 => [4, 5, 6, 7]
  | 9 => [4, 5, 6, 7, 8]
  | 10 => [4, 5, 6, 7, 8, 9]
  | 11 => [4, 5, 6, 7, 8, 9, 10]
  | 12 => [0, 1, 2, 3, 4, 5, 6, 7, 8, 9, 10, 11]
  | 13 => [0, 1, 2, 3, 4, 5, 6, 7, 8, 9, 10, 11, 12]
  | _ => []
noncomputable def rLX02Trn : Nat → List Nat
  | 13 => [999]
  | _ => []
noncomputable def rLX02Cnt : List (Nat × Nat) := [(8, 1), (10, 1)]
noncomputable def rLX02T999 (loc : Int) (tg : Nat) (sp : Nat) (name : ByteArray) (B1 : Nat) (L9 : Nat → Bool) (α : Rega.Atoms) : Rw := if L9 13 = true then row (B1) 35 #[.iface 206 (.pointer (some ⟨α 10, 0, none⟩)), .int .i32 loc] else row (B1) 35 #[.nilIface, .int .i32 0]
noncomputable def rLX02R (loc : Int) (tg : Nat) (sp : Nat) (name : ByteArray) (B1 : Nat) (L9 : Nat → Bool) (α : Rega.Atoms) (ix9 : Nat) : Rw := if ix9 = 999 then rLX02T999 loc tg sp name B1 L9 α else if ix9 = 1999 then row (tg) 228 #[.iface 229 (.pointer (some ⟨sp, 0, none⟩)), .int .i32 loc, .string name, .int .i32 loc, .int .u8 0, .bool false, .bool false, .bool false] else if ix9 = 8 then row (α 8) 51 (full u16Z (u16L name) (α 1008)) else if ix9 = 10 then row (α 10) 208 #[.slice (some ⟨α 8, 0, none⟩) (u16L name).length ((u16L name).length + (α 1008)), .int .i32 0, .bool false, .bool false, .bool false] else (0, .map #[] 0)
theorem rLX02_he (loc : Int) (tg : Nat) (sp : Nat) (name : ByteArray) (B1 : Nat) : ∀ kk α α', (∀ j, (j % 1000 = kk ∨ j % 1000 ∈ rLX02Anc kk) → α j = α' j) → rLX02E loc tg sp name B1 kk α = rLX02E loc tg sp name B1 kk α' := by
  intro kk α α' h
  match kk with
  | 0 => rfl
  | 1 => rfl
  | 2 => rfl
  | 3 => rfl
  | 4 => rfl
  | 5 => rfl
  | 6 => rfl
  | 7 => rfl
  | 8 => simp only [rLX02E, h 8 (Or.inl rfl), h 1008 (Or.inl rfl)]
  | 9 => simp only [rLX02E, h 8 (Or.inr (by decide)), h 1008 (Or.inr (by decide))]
  | 10 => simp only [rLX02E, h 10 (Or.inl rfl)]
  | 11 => simp only [rLX02E, h 10 (Or.inr (by decide))]
  | 12 => simp only [rLX02E, h 10 (Or.inr (by decide))]
  | 13 => rfl
  | n + 14 => rfl
theorem rLX02_st (loc : Int) (tg : Nat) (sp : Nat) (name : ByteArray) (B1 : Nat) : Stable rLX02Cnt 2 rLX02Anc rLX02Trn (rLX02R loc tg sp name B1) := by
  intro k9 L9 α α' ix9 hk hcl hα hact ht
  have hp := act_places hact
  replace hp : ix9 ∈ [999, 1999, 8, 10] := hp
  simp only [List.mem_cons, List.not_mem_nil, or_false] at hp
  rcases hp with rfl | rfl | rfl | rfl
  · show rLX02T999 loc tg sp name B1 (Rega.ran L9 k9) α' = rLX02T999 loc tg sp name B1 L9 α
    unfold rLX02T999
    have n13 : 13 ≠ k9 := fun e => ht (by rw [← e]; decide)
    rw [ran_ne n13]
    by_cases e13 : L9 13 = true
    · first | rw [if_pos e13, if_pos e13] | rw [if_pos e13]
      try simp only [hα 10 (ne_ran hk (hcl 13 e13 10 (by decide)))]
    first | rw [if_neg e13, if_neg e13] | rw [if_neg e13]
  · rfl
  · have e0 : L9 8 = true := act_lt hact (by decide)
    show row (α' 8) 51 (full u16Z (u16L name) (α' 1008)) = row (α 8) 51 (full u16Z (u16L name) (α 1008))
    simp only [hα 8 (ne_ran hk e0), hα 1008 (ne_ran hk e0)]
  · have e0 : L9 10 = true := act_lt hact (by decide)
    show row (α' 10) 208 #[.slice (some ⟨α' 8, 0, none⟩) (u16L name).length ((u16L name).length + (α' 1008)), .int .i32 0, .bool false, .bool false, .bool false] = row (α 10) 208 #[.slice (some ⟨α 8, 0, none⟩) (u16L name).length ((u16L name).length + (α 1008)), .int .i32 0, .bool false, .bool false, .bool false]
    simp only [hα 8 (ne_ran hk (hcl 10 e0 8 (by decide))), hα 10 (ne_ran hk e0), hα 1008 (ne_ran hk (hcl 10 e0 8 (by decide)))]
noncomputable def rLX03E (pb : Nat) (PC : Array Value) (sb : Nat) (c : Nat) (mp : Nat) (ms : Nat) (MC : Array Value) (cr : Nat) (loc : Int) (r : Bool) (s : Bool) (tg : Nat) (ec : Nat) (ab : Nat) (n : Nat) (B1 : Nat) (nd6 : Nat) : Nat → Rega.Atoms → Value
  | 0, α => .pointer (some ⟨ec, 0, none⟩)
  | 1, α => .pointer (some ⟨pb, 0, none⟩)
  | 2, α => .pointer (some ⟨ec, 0, none⟩)
  | 3, α => .pointer (some ⟨ec, 0, none⟩)
  | 4, α => .pointer (some ⟨ec, 0, none⟩)
  | 5, α => .pointer (some ⟨ec, 1, none⟩)
  | 6, α => .agg #[.int .i32 loc]
  | 7, α => .agg #[.iface 206 (.pointer (some ⟨nd6, 0, none⟩)), .int .i32 loc]
  | 8, α => .agg #[.iface 65 (.pointer (some ⟨α 8, 0, none⟩)), .int .i32 loc]
  | 9, α => .pointer (some ⟨B1, 1, none⟩)
  | 10, α => .agg #[.int .i32 loc]
  | 11, α => .agg #[.iface 65 (.pointer (some ⟨α 8, 0, none⟩)), .int .i32 loc, .string ⟨#[99, 97, 108, 108]⟩, .int .i32 loc, .int .u8 0, .bool false, .bool false, .bool false]
  | 12, α => .pointer (some ⟨α 12, 0, none⟩)
  | 13, α => .iface 225 (.pointer (some ⟨α 12, 0, none⟩))
  | 14, α => .pointer (some ⟨ec, 0, none⟩)
  | 15, α => .pointer (some ⟨ec, 0, none⟩)
  | 16, α => .pointer (some ⟨ec, 0, none⟩)
  | 17, α => undef
  | _, _ => undef
noncomputable def rLX03Anc : Nat → List Nat
  | 3 => [2]
  | 4 => [2, 3]
  | 5 => [2, 3, 4]
  | 6 => [2, 3, 4, 5]
  | 8 => [1, 2, 3, 4, 5, 6, 7]
  | 10 => [9]
  | 11 => [1, 2, 3, 4, 5, 6, 7, 8, 9, 10]
  | 12 => [1, 2, 3, 4, 5, 6, 7, 8, 9, 10, 11]
  | 13 => [1, 2, 3, 4, 5, 6, 7, 8, 9, 10, 11, 12]
  | 14 => [0, 1, 2, 3, 4, 5, 6, 7, 8, 9, 10, 11, 12, 13]
  | 15 => [0, 1, 2, 3, 4, 5, 6, 7, 8, 9, 10, 11, 12, 13, 14]
  | 16 => [0, 1, 2, 3, 4, 5, 6, 7, 8, 9, 10, 11, 12, 13, 14, 15]
  | 17 => [0, 1, 2, 3, 4, 5, 6, 7, 8, 9, 10, 11, 12, 13, 14, 15, 16]
  | _ => []
noncomputable def rLX03Trn : Nat → List Nat
  | 8 => [1999, 2999, 3999, 4999]
  | 17 => [6999]
  | _ => []
noncomputable def rLX03Cnt : List (Nat × Nat) := [(8, 7), (12, 1)]
noncomputable def rLX03T1999 (pb : Nat) (PC : Array Value) (sb : Nat) (c : Nat) (mp : Nat) (ms : Nat) (MC : Array Value) (cr : Nat) (loc : Int) (r : Bool) (s : Bool) (tg : Nat) (ec : Nat) (ab : Nat) (n : Nat) (B1 : Nat) (nd6 : Nat) (L9 : Nat → Bool) (α : Rega.Atoms) : Rw := if L9 8 = true then row (pb) 193 (PC.setIfInBounds 106 (.slice (some ⟨α 7008, 0, none⟩) 2 (2 + (α 8008)))) else row (pb) 193 PC
noncomputable def rLX03T2999 (pb : Nat) (PC : Array Value) (sb : Nat) (c : Nat) (mp : Nat) (ms : Nat) (MC : Array Value) (cr : Nat) (loc : Int) (r : Bool) (s : Bool) (tg : Nat) (ec : Nat) (ab : Nat) (n : Nat) (B1 : Nat) (nd6 : Nat) (L9 : Nat → Bool) (α : Rega.Atoms) : Rw := if L9 8 = true then row (α 7008) 56 (full symZ (symL ([sy ⟨#[70, 111, 111]⟩ (uz r 0), sy ⟨#[95, 95, 115, 117, 112, 101, 114, 71, 101, 116]⟩ 1])) (α 8008)) else row (sb) 56 (full symZ (symL ([sy ⟨#[70, 111, 111]⟩ 0])) c)
noncomputable def rLX03T3999 (pb : Nat) (PC : Array Value) (sb : Nat) (c : Nat) (mp : Nat) (ms : Nat) (MC : Array Value) (cr : Nat) (loc : Int) (r : Bool) (s : Bool) (tg : Nat) (ec : Nat) (ab : Nat) (n : Nat) (B1 : Nat) (nd6 : Nat) (L9 : Nat → Bool) (α : Rega.Atoms) : Rw := if L9 8 = true then ((mp, .map #[⟨.string ⟨#[95, 95, 115, 117, 112, 101, 114, 71, 101, 116]⟩, .agg #[.int .i32 loc, .int .u32 0, .int .u32 1], 0⟩] 1) : Rw) else ((mp, .map #[] 0) : Rw)
noncomputable def rLX03T4999 (pb : Nat) (PC : Array Value) (sb : Nat) (c : Nat) (mp : Nat) (ms : Nat) (MC : Array Value) (cr : Nat) (loc : Int) (r : Bool) (s : Bool) (tg : Nat) (ec : Nat) (ab : Nat) (n : Nat) (B1 : Nat) (nd6 : Nat) (L9 : Nat → Bool) (α : Rega.Atoms) : Rw := if L9 8 = true then row (ms) 203 (MC.setIfInBounds 5 (.slice (some ⟨α 6008, 0, none⟩) 1 (1 + (α 9008)))) else row (ms) 203 MC
noncomputable def rLX03T6999 (pb : Nat) (PC : Array Value) (sb : Nat) (c : Nat) (mp : Nat) (ms : Nat) (MC : Array Value) (cr : Nat) (loc : Int) (r : Bool) (s : Bool) (tg : Nat) (ec : Nat) (ab : Nat) (n : Nat) (B1 : Nat) (nd6 : Nat) (L9 : Nat → Bool) (α : Rega.Atoms) : Rw := if L9 17 = true then row (ec) 71 #[.iface 225 (.pointer (some ⟨α 12, 0, none⟩)), .int .i32 loc, .slice (some ⟨ab, 0, none⟩) n n, .int .i32 0, .int .u8 0, .int .u8 0, .bool false, .bool false] else row (ec) 71 #[.iface 225 (.pointer (some ⟨tg, 0, none⟩)), .int .i32 loc, .slice (some ⟨ab, 0, none⟩) n n, .int .i32 0, .int .u8 0, .int .u8 0, .bool false, .bool false]
noncomputable def rLX03R (pb : Nat) (PC : Array Value) (sb : Nat) (c : Nat) (mp : Nat) (ms : Nat) (MC : Array Value) (cr : Nat) (loc : Int) (r : Bool) (s : Bool) (tg : Nat) (ec : Nat) (ab : Nat) (n : Nat) (B1 : Nat) (nd6 : Nat) (L9 : Nat → Bool) (α : Rega.Atoms) (ix9 : Nat) : Rw := if ix9 = 999 then row (B1) 35 #[.iface 206 (.pointer (some ⟨nd6, 0, none⟩)), .int .i32 loc] else if ix9 = 1999 then rLX03T1999 pb PC sb c mp ms MC cr loc r s tg ec ab n B1 nd6 L9 α else if ix9 = 2999 then rLX03T2999 pb PC sb c mp ms MC cr loc r s tg ec ab n B1 nd6 L9 α else if ix9 = 3999 then rLX03T3999 pb PC sb c mp ms MC cr loc r s tg ec ab n B1 nd6 L9 α else if ix9 = 4999 then rLX03T4999 pb PC sb c mp ms MC cr loc r s tg ec ab n B1 nd6 L9 α else if ix9 = 5999 then row (cr) 25 #[.int .u32 0, .int .u32 0] else if ix9 = 6999 then rLX03T6999 pb PC sb c mp ms MC cr loc r s tg ec ab n B1 nd6 L9 α else if ix9 = 8 then row (α 8) 71 #[.iface 209 (.pointer (some ⟨α 1008, 0, none⟩)), .int .i32 loc, .slice (some ⟨α 2008, 0, none⟩) 3 3, .int .i32 0, .int .u8 0, .int .u8 0, .bool false, .bool false] else if ix9 = 1008 then row (α 1008) 211 #[.int .u32 0, .int .u32 1, .bool false, .bool false, .bool false] else if ix9 = 2008 then row (α 2008) 35 #[.iface (clsTy s) (.pointer (some ⟨α 3008, 0, none⟩)), .int .i32 loc, .iface (thsTy r) (.pointer (some ⟨α 5008, 0, none⟩)), .int .i32 loc, .iface 206 (.pointer (some ⟨nd6, 0, none⟩)), .int .i32 loc] else if ix9 = 3008 then row (α 3008) (clsT s) (clsC s loc (α 4008)) else if ix9 = 4008 then row (α 4008) (xtrT s) (xtrC s loc (α 3008)) else if ix9 = 5008 then row (α 5008) (thsT r) (thsC r) else if ix9 = 6008 then row (α 6008) 25 (full refZ ([.int .u32 0, .int .u32 1]) (α 9008)) else if ix9 = 12 then row (α 12) 228 #[.iface 65 (.pointer (some ⟨α 8, 0, none⟩)), .int .i32 loc, .string ⟨#[99, 97, 108, 108]⟩, .int .i32 loc, .int .u8 0, .bool false, .bool false, .bool false] else (0, .map #[] 0)
theorem rLX03_he (pb : Nat) (PC : Array Value) (sb : Nat) (c : Nat) (mp : Nat) (ms : Nat) (MC : Array Value) (cr : Nat) (loc : Int) (r : Bool) (s : Bool) (tg : Nat) (ec : Nat) (ab : Nat) (n : Nat) (B1 : Nat) (nd6 : Nat) : ∀ kk α α', (∀ j, (j % 1000 = kk ∨ j % 1000 ∈ rLX03Anc kk) → α j = α' j) → rLX03E pb PC sb c mp ms MC cr loc r s tg ec ab n B1 nd6 kk α = rLX03E pb PC sb c mp ms MC cr loc r s tg ec ab n B1 nd6 kk α' := by
  intro kk α α' h
  match kk with
  | 0 => rfl
  | 1 => rfl
  | 2 => rfl
  | 3 => rfl
  | 4 => rfl
  | 5 => rfl
  | 6 => rfl
  | 7 => rfl
  | 8 => simp only [rLX03E, h 8 (Or.inl rfl)]
  | 9 => rfl
  | 10 => rfl
  | 11 => simp only [rLX03E, h 8 (Or.inr (by decide))]
  | 12 => simp only [rLX03E, h 12 (Or.inl rfl)]
  | 13 => simp only [rLX03E, h 12 (Or.inr (by decide))]
  | 14 => rfl
  | 15 => rfl
  | 16 => rfl
  | 17 => rfl
  | n + 18 => rfl
theorem rLX03_st (pb : Nat) (PC : Array Value) (sb : Nat) (c : Nat) (mp : Nat) (ms : Nat) (MC : Array Value) (cr : Nat) (loc : Int) (r : Bool) (s : Bool) (tg : Nat) (ec : Nat) (ab : Nat) (n : Nat) (B1 : Nat) (nd6 : Nat) : Stable rLX03Cnt 7 rLX03Anc rLX03Trn (rLX03R pb PC sb c mp ms MC cr loc r s tg ec ab n B1 nd6) := by
  intro k9 L9 α α' ix9 hk hcl hα hact ht
  have hp := act_places hact
  replace hp : ix9 ∈ [999, 1999, 2999, 3999, 4999, 5999, 6999, 8, 1008, 2008, 3008, 4008, 5008, 6008, 12] := hp
  simp only [List.mem_cons, List.not_mem_nil, or_false] at hp
  rcases hp with rfl | rfl | rfl | rfl | rfl | rfl | rfl | rfl | rfl | rfl | rfl | rfl | rfl | rfl | rfl
  · rfl
  · show rLX03T1999 pb PC sb c mp ms MC cr loc r s tg ec ab n B1 nd6 (Rega.ran L9 k9) α' = rLX03T1999 pb PC sb c mp ms MC cr loc r s tg ec ab n B1 nd6 L9 α
    unfold rLX03T1999
    have n8 : 8 ≠ k9 := fun e => ht (by rw [← e]; decide)
    rw [ran_ne n8]
    by_cases e8 : L9 8 = true
    · first | rw [if_pos e8, if_pos e8] | rw [if_pos e8]
      try simp only [hα 7008 (ne_ran hk e8), hα 8008 (ne_ran hk e8)]
    first | rw [if_neg e8, if_neg e8] | rw [if_neg e8]
  · show rLX03T2999 pb PC sb c mp ms MC cr loc r s tg ec ab n B1 nd6 (Rega.ran L9 k9) α' = rLX03T2999 pb PC sb c mp ms MC cr loc r s tg ec ab n B1 nd6 L9 α
    unfold rLX03T2999
    have n8 : 8 ≠ k9 := fun e => ht (by rw [← e]; decide)
    rw [ran_ne n8]
    by_cases e8 : L9 8 = true
    · first | rw [if_pos e8, if_pos e8] | rw [if_pos e8]
      try simp only [hα 7008 (ne_ran hk e8), hα 8008 (ne_ran hk e8)]
    first | rw [if_neg e8, if_neg e8] | rw [if_neg e8]
  · show rLX03T3999 pb PC sb c mp ms MC cr loc r s tg ec ab n B1 nd6 (Rega.ran L9 k9) α' = rLX03T3999 pb PC sb c mp ms MC cr loc r s tg ec ab n B1 nd6 L9 α
    unfold rLX03T3999
    have n8 : 8 ≠ k9 := fun e => ht (by rw [← e]; decide)
    rw [ran_ne n8]
  · show rLX03T4999 pb PC sb c mp ms MC cr loc r s tg ec ab n B1 nd6 (Rega.ran L9 k9) α' = rLX03T4999 pb PC sb c mp ms MC cr loc r s tg ec ab n B1 nd6 L9 α
    unfold rLX03T4999
    have n8 : 8 ≠ k9 := fun e => ht (by rw [← e]; decide)
    rw [ran_ne n8]
    by_cases e8 : L9 8 = true
    · first | rw [if_pos e8, if_pos e8] | rw [if_pos e8]
      try simp only [hα 6008 (ne_ran hk e8), hα 9008 (ne_ran hk e8)]
    first | rw [if_neg e8, if_neg e8] | rw [if_neg e8]
  · rfl
  · show rLX03T6999 pb PC sb c mp ms MC cr loc r s tg ec ab n B1 nd6 (Rega.ran L9 k9) α' = rLX03T6999 pb PC sb c mp ms MC cr loc r s tg ec ab n B1 nd6 L9 α
    unfold rLX03T6999
    have n17 : 17 ≠ k9 := fun e => ht (by rw [← e]; decide)
    rw [ran_ne n17]
    by_cases e17 : L9 17 = true
    · first | rw [if_pos e17, if_pos e17] | rw [if_pos e17]
      try simp only [hα 12 (ne_ran hk (hcl 17 e17 12 (by decide)))]
    first | rw [if_neg e17, if_neg e17] | rw [if_neg e17]
  · have e0 : L9 8 = true := act_lt hact (by decide)
    show row (α' 8) 71 #[.iface 209 (.pointer (some ⟨α' 1008, 0, none⟩)), .int .i32 loc, .slice (some ⟨α' 2008, 0, none⟩) 3 3, .int .i32 0, .int .u8 0, .int .u8 0, .bool false, .bool false] = row (α 8) 71 #[.iface 209 (.pointer (some ⟨α 1008, 0, none⟩)), .int .i32 loc, .slice (some ⟨α 2008, 0, none⟩) 3 3, .int .i32 0, .int .u8 0, .int .u8 0, .bool false, .bool false]
    simp only [hα 8 (ne_ran hk e0), hα 1008 (ne_ran hk e0), hα 2008 (ne_ran hk e0)]
  · have e0 : L9 8 = true := act_lt hact (by decide)
    show row (α' 1008) 211 #[.int .u32 0, .int .u32 1, .bool false, .bool false, .bool false] = row (α 1008) 211 #[.int .u32 0, .int .u32 1, .bool false, .bool false, .bool false]
    simp only [hα 1008 (ne_ran hk e0)]
  · have e0 : L9 8 = true := act_lt hact (by decide)
    show row (α' 2008) 35 #[.iface (clsTy s) (.pointer (some ⟨α' 3008, 0, none⟩)), .int .i32 loc, .iface (thsTy r) (.pointer (some ⟨α' 5008, 0, none⟩)), .int .i32 loc, .iface 206 (.pointer (some ⟨nd6, 0, none⟩)), .int .i32 loc] = row (α 2008) 35 #[.iface (clsTy s) (.pointer (some ⟨α 3008, 0, none⟩)), .int .i32 loc, .iface (thsTy r) (.pointer (some ⟨α 5008, 0, none⟩)), .int .i32 loc, .iface 206 (.pointer (some ⟨nd6, 0, none⟩)), .int .i32 loc]
    simp only [hα 2008 (ne_ran hk e0), hα 3008 (ne_ran hk e0), hα 5008 (ne_ran hk e0)]
  · have e0 : L9 8 = true := act_lt hact (by decide)
    show row (α' 3008) (clsT s) (clsC s loc (α' 4008)) = row (α 3008) (clsT s) (clsC s loc (α 4008))
    simp only [hα 3008 (ne_ran hk e0), hα 4008 (ne_ran hk e0)]
  · have e0 : L9 8 = true := act_lt hact (by decide)
    show row (α' 4008) (xtrT s) (xtrC s loc (α' 3008)) = row (α 4008) (xtrT s) (xtrC s loc (α 3008))
    simp only [hα 3008 (ne_ran hk e0), hα 4008 (ne_ran hk e0)]
  · have e0 : L9 8 = true := act_lt hact (by decide)
    show row (α' 5008) (thsT r) (thsC r) = row (α 5008) (thsT r) (thsC r)
    simp only [hα 5008 (ne_ran hk e0)]
  · have e0 : L9 8 = true := act_lt hact (by decide)
    show row (α' 6008) 25 (full refZ ([.int .u32 0, .int .u32 1]) (α' 9008)) = row (α 6008) 25 (full refZ ([.int .u32 0, .int .u32 1]) (α 9008))
    simp only [hα 6008 (ne_ran hk e0), hα 9008 (ne_ran hk e0)]
  · have e0 : L9 12 = true := act_lt hact (by decide)
    show row (α' 12) 228 #[.iface 65 (.pointer (some ⟨α' 8, 0, none⟩)), .int .i32 loc, .string ⟨#[99, 97, 108, 108]⟩, .int .i32 loc, .int .u8 0, .bool false, .bool false, .bool false] = row (α 12) 228 #[.iface 65 (.pointer (some ⟨α 8, 0, none⟩)), .int .i32 loc, .string ⟨#[99, 97, 108, 108]⟩, .int .i32 loc, .int .u8 0, .bool false, .bool false, .bool false]
    simp only [hα 8 (ne_ran hk (hcl 12 e0 8 (by decide))), hα 12 (ne_ran hk e0)]
noncomputable def rLX04E (loc : Int) (ec : Nat) (ab : Nat) (blk : Nat → Nat) (n : Nat) (nd10 : Nat) (B20_1 : Nat) (B20 : Nat) : Nat → Rega.Atoms → Value
  | 0, α => .pointer (some ⟨ec, 0, none⟩)
  | 1, α => .agg #[.iface 237 (.pointer (some ⟨B20, 0, none⟩)), .int .i32 loc]
  | 2, α => .slice (some ⟨α 2, 0, none⟩) 1 1
  | 3, α => .pointer (some ⟨ec, 0, none⟩)
  | 4, α => .pointer (some ⟨ec, 0, none⟩)
  | 5, α => .pointer (some ⟨ec, 2, none⟩)
  | 6, α => .slice (some ⟨ab, 0, none⟩) n n
  | 7, α => .slice (some ⟨α 7, 0, none⟩) (1 + n) (1 + n + α 1007)
  | 8, α => .pointer (some ⟨ec, 0, none⟩)
  | 9, α => .pointer (some ⟨ec, 2, none⟩)
  | 10, α => undef
  | _, _ => undef
noncomputable def rLX04Anc : Nat → List Nat
  | 2 => [1]
  | 4 => [3]
  | 5 => [3, 4]
  | 6 => [3, 4, 5]
  | 7 => [1, 2, 3, 4, 5, 6]
  | 8 => [0, 1, 2, 3, 4, 5, 6, 7]
  | 9 => [0, 1, 2, 3, 4, 5, 6, 7, 8]
  | 10 => [0, 1, 2, 3, 4, 5, 6, 7, 8, 9]
  | _ => []
noncomputable def rLX04Trn : Nat → List Nat
  | 7 => [2]
  | 10 => [1999]
  | _ => []
noncomputable def rLX04Cnt : List (Nat × Nat) := [(2, 1)]
noncomputable def rLX04T1999 (loc : Int) (ec : Nat) (ab : Nat) (blk : Nat → Nat) (n : Nat) (nd10 : Nat) (B20_1 : Nat) (B20 : Nat) (L9 : Nat → Bool) (α : Rega.Atoms) : Rw := if L9 10 = true then row (ec) 71 #[.iface 225 (.pointer (some ⟨nd10, 0, none⟩)), .int .i32 loc, .slice (some ⟨α 7, 0, none⟩) (1 + n) (1 + n + α 1007), .int .i32 0, .int .u8 0, .int .u8 0, .bool false, .bool false] else row (ec) 71 #[.iface 225 (.pointer (some ⟨nd10, 0, none⟩)), .int .i32 loc, .slice (some ⟨ab, 0, none⟩) n n, .int .i32 0, .int .u8 0, .int .u8 0, .bool false, .bool false]
noncomputable def rLX04T2 (loc : Int) (ec : Nat) (ab : Nat) (blk : Nat → Nat) (n : Nat) (nd10 : Nat) (B20_1 : Nat) (B20 : Nat) (L9 : Nat → Bool) (α : Rega.Atoms) : Rw := if L9 7 = true then row (α 7) 35 (full exprZ ([.iface 237 (.pointer (some ⟨B20, 0, none⟩)), .int .i32 loc] ++ (args loc blk n)) (α 1007)) else row (α 2) 35 #[.iface 237 (.pointer (some ⟨B20, 0, none⟩)), .int .i32 loc]
noncomputable def rLX04R (loc : Int) (ec : Nat) (ab : Nat) (blk : Nat → Nat) (n : Nat) (nd10 : Nat) (B20_1 : Nat) (B20 : Nat) (L9 : Nat → Bool) (α : Rega.Atoms) (ix9 : Nat) : Rw := if ix9 = 999 then row (B20_1) 35 #[.iface 237 (.pointer (some ⟨B20, 0, none⟩)), .int .i32 loc] else if ix9 = 1999 then rLX04T1999 loc ec ab blk n nd10 B20_1 B20 L9 α else if ix9 = 2999 then row (ab) 35 ((args loc blk n).toArray) else if ix9 = 2 then rLX04T2 loc ec ab blk n nd10 B20_1 B20 L9 α else (0, .map #[] 0)
theorem rLX04_he (loc : Int) (ec : Nat) (ab : Nat) (blk : Nat → Nat) (n : Nat) (nd10 : Nat) (B20_1 : Nat) (B20 : Nat) : ∀ kk α α', (∀ j, (j % 1000 = kk ∨ j % 1000 ∈ rLX04Anc kk) → α j = α' j) → rLX04E loc ec ab blk n nd10 B20_1 B20 kk α = rLX04E loc ec ab blk n nd10 B20_1 B20 kk α' := by
  intro kk α α' h
  match kk with
  | 0 => rfl
  | 1 => rfl
  | 2 => simp only [rLX04E, h 2 (Or.inl rfl)]
  | 3 => rfl
  | 4 => rfl
  | 5 => rfl
  | 6 => rfl
  | 7 => simp only [rLX04E, h 7 (Or.inl rfl), h 1007 (Or.inl rfl)]
  | 8 => rfl
  | 9 => rfl
  | 10 => rfl
  | n + 11 => rfl
theorem rLX04_st (loc : Int) (ec : Nat) (ab : Nat) (blk : Nat → Nat) (n : Nat) (nd10 : Nat) (B20_1 : Nat) (B20 : Nat) : Stable rLX04Cnt 3 rLX04Anc rLX04Trn (rLX04R loc ec ab blk n nd10 B20_1 B20) := by
  intro k9 L9 α α' ix9 hk hcl hα hact ht
  have hp := act_places hact
  replace hp : ix9 ∈ [999, 1999, 2999, 2] := hp
  simp only [List.mem_cons, List.not_mem_nil, or_false] at hp
  rcases hp with rfl | rfl | rfl | rfl
  · rfl
  · show rLX04T1999 loc ec ab blk n nd10 B20_1 B20 (Rega.ran L9 k9) α' = rLX04T1999 loc ec ab blk n nd10 B20_1 B20 L9 α
    unfold rLX04T1999
    have n10 : 10 ≠ k9 := fun e => ht (by rw [← e]; decide)
    rw [ran_ne n10]
    by_cases e10 : L9 10 = true
    · first | rw [if_pos e10, if_pos e10] | rw [if_pos e10]
      try simp only [hα 7 (ne_ran hk (hcl 10 e10 7 (by decide))), hα 1007 (ne_ran hk (hcl 10 e10 7 (by decide)))]
    first | rw [if_neg e10, if_neg e10] | rw [if_neg e10]
  · rfl
  · have e0 : L9 2 = true := act_lt hact (by decide)
    show rLX04T2 loc ec ab blk n nd10 B20_1 B20 (Rega.ran L9 k9) α' = rLX04T2 loc ec ab blk n nd10 B20_1 B20 L9 α
    unfold rLX04T2
    have n7 : 7 ≠ k9 := fun e => ht (by rw [← e]; decide)
    rw [ran_ne n7]
    by_cases e7 : L9 7 = true
    · first | rw [if_pos e7, if_pos e7] | rw [if_pos e7]
      try simp only [hα 7 (ne_ran hk e7), hα 1007 (ne_ran hk e7)]
    first | rw [if_neg e7, if_neg e7] | rw [if_neg e7]
    try simp only [hα 2 (ne_ran hk e0)]
def lowX0Post (pb : Nat) (PC : Array Value) (sb c mp ms : Nat) (MC : Array Value) (cr : Nat) (loc : Int) (r s : Bool) (tg sp : Nat) (name : ByteArray) (ec ab : Nat) (blk : Nat → Nat) (n : Nat) (w0 : World) (X : Nat → Obj → Prop) (e : Ending) (w' : World) : Prop :=
  ∃ ca : Nat, ∃ b : Nat, ∃ sx : Nat, ∃ cb : Nat, ∃ xb : Nat, ∃ tb : Nat, ∃ sb2 : Nat, ∃ c2 : Nat, ∃ gb2 : Nat, ∃ cg2 : Nat, ∃ td : Nat, ∃ t2 : Nat, ∃ nb : Nat, ∃ cn : Nat, ∃ sk : Nat, ∃ ub : Nat, ∃ cz : Nat, e = .returned (.tuple #[]) ∧ Own w0 w' [row (pb) 193 (PC.setIfInBounds 106 (.slice (some ⟨sb2, 0, none⟩) 2 (2 + c2))), row (sb2) 56 (full symZ (symL ([sy ⟨#[70, 111, 111]⟩ (uz r 0), sy ⟨#[95, 95, 115, 117, 112, 101, 114, 71, 101, 116]⟩ 1])) c2), ((mp, .map #[⟨.string ⟨#[95, 95, 115, 117, 112, 101, 114, 71, 101, 116]⟩, .agg #[.int .i32 loc, .int .u32 0, .int .u32 1], 0⟩] 1) : Rw), row (ms) 203 (MC.setIfInBounds 5 (.slice (some ⟨gb2, 0, none⟩) 1 (1 + cg2))), row (gb2) 25 (full refZ ([.int .u32 0, .int .u32 1]) cg2), row (cr) 25 #[.int .u32 0, .int .u32 0], row (b) 211 #[.int .u32 0, .int .u32 1, .bool false, .bool false, .bool false], row (ca) 71 #[.iface 209 (.pointer (some ⟨b, 0, none⟩)), .int .i32 loc, .slice (some ⟨sx, 0, none⟩) 3 3, .int .i32 0, .int .u8 0, .int .u8 0, .bool false, .bool false], row (sx) 35 #[.iface (clsTy s) (.pointer (some ⟨cb, 0, none⟩)), .int .i32 loc, .iface (thsTy r) (.pointer (some ⟨tb, 0, none⟩)), .int .i32 loc, .iface 206 (.pointer (some ⟨sk, 0, none⟩)), .int .i32 loc], row (cb) (clsT s) (clsC s loc xb), row (xb) (xtrT s) (xtrC s loc cb), row (tb) (thsT r) (thsC r), row (ec) 71 #[.iface 225 (.pointer (some ⟨td, 0, none⟩)), .int .i32 loc, .slice (some ⟨nb, 0, none⟩) (1 + n) (1 + n + cn), .int .i32 0, .int .u8 0, .int .u8 0, .bool false, .bool false], row (td) 228 #[.iface 65 (.pointer (some ⟨ca, 0, none⟩)), .int .i32 loc, .string ⟨#[99, 97, 108, 108]⟩, .int .i32 loc, .int .u8 0, .bool false, .bool false, .bool false], row (nb) 35 (full exprZ ([.iface 237 (.pointer (some ⟨t2, 0, none⟩)), .int .i32 loc] ++ (args loc blk n)) cn), row (sk) 208 #[.slice (some ⟨ub, 0, none⟩) (u16L name).length ((u16L name).length + cz), .int .i32 0, .bool false, .bool false, .bool false], row (ub) 51 (full u16Z (u16L name) cz)] X
set_option maxRecDepth 100000 in
set_option maxHeartbeats 1000000 in
theorem lowX0 (pb : Nat) (PC : Array Value) (sb c mp ms : Nat) (MC : Array Value) (cr : Nat) (loc : Int) (r s : Bool) (tg sp : Nat) (name : ByteArray) (ec ab : Nat) (blk : Nat → Nat) (n : Nat) (w0 w : World) (X : Nat → Obj → Prop) (hO : Own w0 w [row (pb) 193 PC, row (sb) 56 (full symZ (symL ([sy ⟨#[70, 111, 111]⟩ 0])) c), ((mp, .map #[] 0) : Rw), row (ms) 203 MC, row (cr) 25 #[.int .u32 0, .int .u32 0], row (ec) 71 #[.iface 225 (.pointer (some ⟨tg, 0, none⟩)), .int .i32 loc, .slice (some ⟨ab, 0, none⟩) n n, .int .i32 0, .int .u8 0, .int .u8 0, .bool false, .bool false], row (tg) 228 #[.iface 229 (.pointer (some ⟨sp, 0, none⟩)), .int .i32 loc, .string name, .int .i32 loc, .int .u8 0, .bool false, .bool false, .bool false], row (ab) 35 ((args loc blk n).toArray)] X) (hk350 : PC[350]? = some (.bool false)) (hk32 : PC[32]? = some (.bool false)) (hk105 : PC[105]? = some (.pointer none)) (hk66 : PC[66]? = some (.int .u32 0)) (hk117 : PC[117]? = some (.map (some mp))) (hk187 : PC[187]? = some (.pointer (some ⟨ms, 0, none⟩))) (hk97 : PC[97]? = some (.pointer (some ⟨cr, 0, none⟩))) (hk95 : PC[95]? = some (.bool r)) (hk96 : PC[96]? = some (.bool s)) (hk106 : PC[106]? = some (.slice (some ⟨sb, 0, none⟩) 1 (1 + c))) (hgen : MC[5]? = some (.slice none 0 0)) (hk338 : PC[338]? = some (.bool true)) (hn : n ≤ 4096) (hlen : name.size ≤ 65536) (hg0 : w0.cell? ⟨0, 0, none⟩ = some (.int .u32 4294967295)) (hg1 : w0.cell? ⟨0, 1, none⟩ = some (.int .u32 4294967295)) :
    Calls Tryd.prog 47 #[.pointer (some ⟨pb, 0, none⟩), .pointer (some ⟨ec, 0, none⟩)] w (lowX0Post pb PC sb c mp ms MC cr loc r s tg sp name ec ab blk n w0 X) := by
  go_enter Tryd.func47, Tryd.ntmps47
  obtain ⟨c9_4_0, c9_4_1, lt9_4, y9_4, -⟩ := hO.k2 4 rfl
  obtain ⟨c9_5_0, c9_5_1, c9_5_2, c9_5_3, c9_5_4, c9_5_5, c9_5_6, c9_5_7, lt9_5, y9_5, -⟩ := hO.k8 5 rfl
  obtain ⟨c9_6_0, c9_6_1, c9_6_2, c9_6_3, c9_6_4, c9_6_5, c9_6_6, c9_6_7, lt9_6, y9_6, -⟩ := hO.k8 6 rfl
  have HO := Lib.hid hO
  clear hO
  have hnn : (n : Int) ≤ 4096 := by omega
  go_wp2_with (first | (with_reducible refine Own.stay (fn := Tryd.f47) ?_) | fail)
  try with_reducible refine Own.Stay.mk ?_
  have hO := HO.out
  clear HO c9_4_0 c9_4_1 lt9_4 y9_4 c9_5_0 c9_5_1 c9_5_2 c9_5_3 c9_5_4 c9_5_5 c9_5_6 c9_5_7 lt9_5 y9_5 c9_6_0 c9_6_1 c9_6_2 c9_6_3 c9_6_4 c9_6_5 c9_6_6 c9_6_7 lt9_6 y9_6
  generalize hW : World.alloc _ _ = W2
  have hN : Own w0 W2 [row (w.heap.size) 35 #[.nilIface, .int .i32 0], row (pb) 193 PC, row (sb) 56 (full symZ (symL ([sy ⟨#[70, 111, 111]⟩ 0])) c), ((mp, .map #[] 0) : Rw), row (ms) 203 MC, row (cr) 25 #[.int .u32 0, .int .u32 0], row (ec) 71 #[.iface 225 (.pointer (some ⟨tg, 0, none⟩)), .int .i32 loc, .slice (some ⟨ab, 0, none⟩) n n, .int .i32 0, .int .u8 0, .int .u8 0, .bool false, .bool false], row (tg) 228 #[.iface 229 (.pointer (some ⟨sp, 0, none⟩)), .int .i32 loc, .string name, .int .i32 loc, .int .u8 0, .bool false, .bool false, .bool false], row (ab) 35 ((args loc blk n).toArray)] X := by
    rw [← hW]
    exact (hO).alloc' _ (w.heap.size) (by simp)
  clear hW hO
  generalize w.heap.size = B1 at hN ⊢
  have hO := hN
  clear hN
  have hL := hO.apart
  have hX := hO.apartX
  have HL := Lib.hid hL
  have HX := Lib.hid hX
  clear hL hX
  have hP9 := hO.pick [1] (by decide)
  have T9 := shouldY pb PC sp loc _ _ _ hP9 hk338
  refine Calls.mono T9 ?_
  clear hP9 T9
  rintro e u3 ⟨rfl, hQ⟩
  have hN : Own w0 u3 [row (pb) 193 PC, row (B1) 35 #[.nilIface, .int .i32 0], row (sb) 56 (full symZ (symL ([sy ⟨#[70, 111, 111]⟩ 0])) c), ((mp, .map #[] 0) : Rw), row (ms) 203 MC, row (cr) 25 #[.int .u32 0, .int .u32 0], row (ec) 71 #[.iface 225 (.pointer (some ⟨tg, 0, none⟩)), .int .i32 loc, .slice (some ⟨ab, 0, none⟩) n n, .int .i32 0, .int .u8 0, .int .u8 0, .bool false, .bool false], row (tg) 228 #[.iface 229 (.pointer (some ⟨sp, 0, none⟩)), .int .i32 loc, .string name, .int .i32 loc, .int .u8 0, .bool false, .bool false, .bool false], row (ab) 35 ((args loc blk n).toArray)] X := hQ.back HL.out HX.out [0, 2, 3, 4, 5, 6, 7, 8] (by decide) (by decide)
  clear hQ HL HX hO
  have hO := hN
  clear hN
  obtain ⟨c9_1_0, c9_1_1, lt9_1, y9_1, -⟩ := hO.k2 1 rfl
  obtain ⟨c9_5_0, c9_5_1, lt9_5, y9_5, -⟩ := hO.k2 5 rfl
  obtain ⟨c9_6_0, c9_6_1, c9_6_2, c9_6_3, c9_6_4, c9_6_5, c9_6_6, c9_6_7, lt9_6, y9_6, -⟩ := hO.k8 6 rfl
  obtain ⟨c9_7_0, c9_7_1, c9_7_2, c9_7_3, c9_7_4, c9_7_5, c9_7_6, c9_7_7, lt9_7, y9_7, -⟩ := hO.k8 7 rfl
  have HO := Lib.hid hO
  clear hO
  go_wp2_with (first | (with_reducible refine Own.stay (fn := Tryd.f47) ?_) | fail)
  try with_reducible refine Own.Stay.mk ?_
  have hO := HO.out
  clear HO c9_1_0 c9_1_1 lt9_1 y9_1 c9_5_0 c9_5_1 lt9_5 y9_5 c9_6_0 c9_6_1 c9_6_2 c9_6_3 c9_6_4 c9_6_5 c9_6_6 c9_6_7 lt9_6 y9_6 c9_7_0 c9_7_1 c9_7_2 c9_7_3 c9_7_4 c9_7_5 c9_7_6 c9_7_7 lt9_7 y9_7
  have hL := hO.apart
  have hX := hO.apartX
  have HL := Lib.hid hL
  have HX := Lib.hid hX
  clear hL hX
  have hP9 := hO.pick [1, 7] (by decide)
  generalize hX9_4 : Own.Rest _ _ X = X9_4 at hP9
  replace hP9 : Own w0 u3 [row (B1) 35 #[.nilIface, .int .i32 0], row (tg) 228 #[.iface 229 (.pointer (some ⟨sp, 0, none⟩)), .int .i32 loc, .string name, .int .i32 loc, .int .u8 0, .bool false, .bool false, .bool false]] X9_4 := hP9
  clear hO
  have hO := hP9
  clear hP9
  have st9 := rLX02_st loc tg sp name B1
  let R9 := rLX02R loc tg sp name B1
  refine wp_region_own (e := rLX02E loc tg sp name B1) (anc := rLX02Anc) (G := (fun L9 α u9 => OwnF w0 u9 (act rLX02Cnt 2 L9) (rLX02R loc tg sp name B1 L9 α) X9_4)) (by kernel_rfl) (by kernel_rfl) (by kernel_rfl) (by kernel_rfl) (rLX02_he loc tg sp name B1) ?_ (RunsAll.all ?_) ?_
  · have hp : ∀ i, act rLX02Cnt 2 (fun _ => false) i → i ∈ [999, 1999] := by
      intro i hi
      have h9 : i % 1000 = 999 := by
        by_cases h : i % 1000 = 999
        · exact h
        · exact absurd (act_lt hi h) (by simp)
      unfold act at hi
      rw [if_pos h9] at hi
      simp only [List.mem_cons, List.not_mem_nil, or_false]
      omega
    refine hO.drew.family (fun i hi => ?_) (fun i j hi hj hij => ?_)
    · have := hp i hi
      simp only [List.mem_cons, List.not_mem_nil, or_false] at this
      rcases this with rfl | rfl <;> rfl
    · have h1 := hp i hi
      have h2 := hp j hj
      simp only [List.mem_cons, List.not_mem_nil, or_false] at h1 h2
      omega
  · refine ⟨?_, ?_, ?_, ?_, ?_, ?_, ?_, ?_, ?_, ?_, ?_, ?_, ?_, ?_, trivial⟩
    · intro L9 α a9 u9 K9 hL hcl hA hG hS h0 hK
      replace hL : L9 0 = false := hL
      have q5 : a9.tmps[5]? = some (.pointer (some ⟨tg, 0, none⟩)) := (h0 5 (by kernel_rfl)).trans rfl
      have s5 := Rega.eval_of q5
      go_simp
      exact hK _ α _ (fun _ _ => rfl) rfl (step_same (st9) hL hcl rfl rfl hG)
    · intro L9 α a9 u9 K9 hL hcl hA hG hS h0 hK
      replace hL : L9 1 = false := hL
      have q24 : a9.tmps[24]? = some (.pointer (some ⟨tg, 0, none⟩)) := hS 0 24 (by decide) rfl (by show 24 < 87; decide)
      have s24 := Rega.eval_of q24
      go_simp
      exact hK _ α _ (fun _ _ => rfl) rfl (step_same (st9) hL hcl rfl rfl hG)
    · intro L9 α a9 u9 K9 hL hcl hA hG hS h0 hK
      replace hL : L9 2 = false := hL
      have q25 : a9.tmps[25]? = some (.pointer (some ⟨tg, 0, none⟩)) := hS 1 25 (by decide) rfl (by show 25 < 87; decide)
      have s25 := Rega.eval_of q25
      go_simp
      exact hK _ α _ (fun _ _ => rfl) rfl (step_same (st9) hL hcl rfl rfl hG)
    · intro L9 α a9 u9 K9 hL hcl hA hG hS h0 hK
      replace hL : L9 3 = false := hL
      have q26 : a9.tmps[26]? = some (.pointer (some ⟨tg, 3, none⟩)) := hS 2 26 (by decide) rfl (by show 26 < 87; decide)
      have s26 := Rega.eval_of q26
      have e0 : R9 L9 α 1999 = row (tg) 228 #[.iface 229 (.pointer (some ⟨sp, 0, none⟩)), .int .i32 loc, .string name, .int .i32 loc, .int .u8 0, .bool false, .bool false, .bool false] := rfl
      have hr := hG.rowAt 1999 (act_base 1999 rfl) e0
      have c0 : u9.cell? ⟨tg, 3, none⟩ = some (.int .i32 loc) := hr.cell rfl
      clear hr e0
      go_simp
      exact hK _ α _ (fun _ _ => rfl) rfl (step_same (st9) hL hcl rfl rfl hG)
    · intro L9 α a9 u9 K9 hL hcl hA hG hS h0 hK
      replace hL : L9 4 = false := hL
      have q5 : a9.tmps[5]? = some (.pointer (some ⟨tg, 0, none⟩)) := (h0 5 (by kernel_rfl)).trans rfl
      have s5 := Rega.eval_of q5
      go_simp
      exact hK _ α _ (fun _ _ => rfl) rfl (step_same (st9) hL hcl rfl rfl hG)
    · intro L9 α a9 u9 K9 hL hcl hA hG hS h0 hK
      replace hL : L9 5 = false := hL
      have q28 : a9.tmps[28]? = some (.pointer (some ⟨tg, 0, none⟩)) := hS 4 28 (by decide) rfl (by show 28 < 87; decide)
      have s28 := Rega.eval_of q28
      go_simp
      exact hK _ α _ (fun _ _ => rfl) rfl (step_same (st9) hL hcl rfl rfl hG)
    · intro L9 α a9 u9 K9 hL hcl hA hG hS h0 hK
      replace hL : L9 6 = false := hL
      have q29 : a9.tmps[29]? = some (.pointer (some ⟨tg, 0, none⟩)) := hS 5 29 (by decide) rfl (by show 29 < 87; decide)
      have s29 := Rega.eval_of q29
      go_simp
      exact hK _ α _ (fun _ _ => rfl) rfl (step_same (st9) hL hcl rfl rfl hG)
    · intro L9 α a9 u9 K9 hL hcl hA hG hS h0 hK
      replace hL : L9 7 = false := hL
      have q30 : a9.tmps[30]? = some (.pointer (some ⟨tg, 2, none⟩)) := hS 6 30 (by decide) rfl (by show 30 < 87; decide)
      have s30 := Rega.eval_of q30
      have e0 : R9 L9 α 1999 = row (tg) 228 #[.iface 229 (.pointer (some ⟨sp, 0, none⟩)), .int .i32 loc, .string name, .int .i32 loc, .int .u8 0, .bool false, .bool false, .bool false] := rfl
      have hr := hG.rowAt 1999 (act_base 1999 rfl) e0
      have c0 : u9.cell? ⟨tg, 2, none⟩ = some (.string name) := hr.cell rfl
      clear hr e0
      go_simp
      exact hK _ α _ (fun _ _ => rfl) rfl (step_same (st9) hL hcl rfl rfl hG)
    · intro L9 α a9 u9 K9 hL hcl hA hG hS h0 hK
      replace hL : L9 8 = false := hL
      have q31 : a9.tmps[31]? = some (.string name) := hS 7 31 (by decide) rfl (by show 31 < 87; decide)
      have s31 := Rega.eval_of q31
      go_simp
      have hM : ∀ i, i ∈ [] → act rLX02Cnt 2 L9 i := by intro i hi; simp at hi
      have hP : Own w0 u9 [] _ := hG.pick [] (by decide) (by simp)
      clear hM
      refine Calls.mono (toU16x name _ _ _ hP (by omega)) ?_
      rintro e9 u1 ⟨b0, b1, rfl, hQ⟩
      obtain ⟨α', hα'⟩ : ∃ α' : Rega.Atoms, α' = (fun j => if j = 8 then b0 else if j = 1008 then b1 else α j) := ⟨_, rfl⟩
      have f0 : R9 (Rega.ran L9 8) α' 8 = row (α' 8) 51 (full u16Z (u16L name) (α' 1008)) := rfl
      have hα : ∀ j, j % 1000 ≠ 8 → α' j = α j := fun j hj => by rw [hα']; simp only []; rw [if_neg (by omega), if_neg (by omega)]
      have hb0 : α' 8 = b0 := by rw [hα']; rfl
      have hb1 : α' 1008 = b1 := by rw [hα']; rfl
      skip
      refine hK _ α' _ hα ?_ (step_call (st9) hL hcl hα [] [8] (by decide) (by decide) (by decide) (M := _) ?_ hG hQ)
      · show _ = (.slice (some ⟨α' 8, 0, none⟩) (u16L name).length ((u16L name).length + (α' 1008)) : Value)
        simp only [hb0, hb1]
      · show [R9 (Rega.ran L9 8) α' 8] = _
        rw [f0]
        simp only [hb0, hb1]
    · intro L9 α a9 u9 K9 hL hcl hA hG hS h0 hK
      replace hL : L9 9 = false := hL
      have q32 : a9.tmps[32]? = some (.slice (some ⟨α 8, 0, none⟩) (u16L name).length ((u16L name).length + (α 1008))) := hS 8 32 (by decide) rfl (by show 32 < 87; decide)
      have s32 := Rega.eval_of q32
      go_simp
      exact hK _ α _ (fun _ _ => rfl) rfl (step_same (st9) hL hcl rfl rfl hG)
    · intro L9 α a9 u9 K9 hL hcl hA hG hS h0 hK
      replace hL : L9 10 = false := hL
      have q33 : a9.tmps[33]? = some (.agg #[.slice (some ⟨α 8, 0, none⟩) (u16L name).length ((u16L name).length + (α 1008)), .int .i32 0, .bool false, .bool false, .bool false]) := hS 9 33 (by decide) rfl (by show 33 < 87; decide)
      have s33 := Rega.eval_of q33
      go_simp
      exact hK _ (fun j => if j = 10 then u9.heap.size else α j) _ (fun j hj => if_neg (fun e => hj (by rw [e]))) rfl (step_alloc (st9) hL hcl rfl rfl (by decide) _ rfl hG)
    · intro L9 α a9 u9 K9 hL hcl hA hG hS h0 hK
      replace hL : L9 11 = false := hL
      have q34 : a9.tmps[34]? = some (.pointer (some ⟨α 10, 0, none⟩)) := hS 10 34 (by decide) rfl (by show 34 < 87; decide)
      have s34 := Rega.eval_of q34
      go_simp
      exact hK _ α _ (fun _ _ => rfl) rfl (step_same (st9) hL hcl rfl rfl hG)
    · intro L9 α a9 u9 K9 hL hcl hA hG hS h0 hK
      replace hL : L9 12 = false := hL
      have q27 : a9.tmps[27]? = some (.agg #[.int .i32 loc]) := hS 3 27 (by decide) rfl (by show 27 < 87; decide)
      have s27 := Rega.eval_of q27
      have q35 : a9.tmps[35]? = some (.iface 206 (.pointer (some ⟨α 10, 0, none⟩))) := hS 11 35 (by decide) rfl (by show 35 < 87; decide)
      have s35 := Rega.eval_of q35
      go_simp
      exact hK _ α _ (fun _ _ => rfl) rfl (step_same (st9) hL hcl rfl rfl hG)
    · intro L9 α a9 u9 K9 hL hcl hA hG hS h0 hK
      replace hL : L9 13 = false := hL
      have q4 : a9.tmps[4]? = some (.pointer (some ⟨B1, 0, none⟩)) := (h0 4 (by kernel_rfl)).trans rfl
      have s4 := Rega.eval_of q4
      have q36 : a9.tmps[36]? = some (.agg #[.iface 206 (.pointer (some ⟨α 10, 0, none⟩)), .int .i32 loc]) := hS 12 36 (by decide) rfl (by show 36 < 87; decide)
      have s36 := Rega.eval_of q36
      have e0 : R9 L9 α 999 = row (B1) 35 #[.nilIface, .int .i32 0] := by
        show rLX02T999 loc tg sp name B1 L9 α = _
        unfold rLX02T999
        rw [if_neg (by rw [hL]; decide)]
      have hr := hG.rowAt 999 (act_base 999 rfl) e0
      have c0 : u9.cell? ⟨B1, 0, none⟩ = some (.nilIface) := hr.cell rfl
      have y0 : u9.frozen? ⟨B1, 0, none⟩ = false := hr.free (0)
      have c1 : u9.cell? ⟨B1, 1, none⟩ = some (.int .i32 0) := hr.cell rfl
      have y1 : u9.frozen? ⟨B1, 1, none⟩ = false := hr.free (1)
      clear hr
      have E0 := Lib.hid e0
      clear e0
      go_simp
      have e1 : R9 (Rega.ran L9 13) α 999 = row (B1) 35 #[.iface 206 (.pointer (some ⟨α 10, 0, none⟩)), .int .i32 loc] := by
        show rLX02T999 loc tg sp name B1 (Rega.ran L9 13) α = _
        unfold rLX02T999
        rw [if_pos (show Rega.ran L9 13 13 = true from rfl)]
      exact hK _ α _ (fun _ _ => rfl) rfl (step_sets (st9) hL hcl rfl 999 rfl (act_base 999 rfl) E0.out (0) [.iface 206 (.pointer (some ⟨α 10, 0, none⟩)), .int .i32 loc] (e1.trans rfl) hG)
  clear st9
  intro α u hG
  have e0 : R9 (fun k => decide (k < 14)) α 999 = row (B1) 35 #[.iface 206 (.pointer (some ⟨α 10, 0, none⟩)), .int .i32 loc] := by
    show rLX02T999 loc tg sp name B1 (fun k => decide (k < 14)) α = _
    unfold rLX02T999
    rw [if_pos (by decide)]
  have e1 : R9 (fun k => decide (k < 14)) α 1999 = row (tg) 228 #[.iface 229 (.pointer (some ⟨sp, 0, none⟩)), .int .i32 loc, .string name, .int .i32 loc, .int .u8 0, .bool false, .bool false, .bool false] := rfl
  have e2 : R9 (fun k => decide (k < 14)) α 8 = row (α 8) 51 (full u16Z (u16L name) (α 1008)) := rfl
  have e3 : R9 (fun k => decide (k < 14)) α 10 = row (α 10) 208 #[.slice (some ⟨α 8, 0, none⟩) (u16L name).length ((u16L name).length + (α 1008)), .int .i32 0, .bool false, .bool false, .bool false] := rfl
  have hO : Own w0 u [row (B1) 35 #[.iface 206 (.pointer (some ⟨α 10, 0, none⟩)), .int .i32 loc], row (tg) 228 #[.iface 229 (.pointer (some ⟨sp, 0, none⟩)), .int .i32 loc, .string name, .int .i32 loc, .int .u8 0, .bool false, .bool false, .bool false], row (α 8) 51 (full u16Z (u16L name) (α 1008)), row (α 10) 208 #[.slice (some ⟨α 8, 0, none⟩) (u16L name).length ((u16L name).length + (α 1008)), .int .i32 0, .bool false, .bool false, .bool false]] X9_4 := (hG.list [999, 1999, 8, 10] (by decide) (act_all (by decide))).conv (by
    show [R9 (fun k => decide (k < 14)) α 999, R9 (fun k => decide (k < 14)) α 1999, R9 (fun k => decide (k < 14)) α 8, R9 (fun k => decide (k < 14)) α 10] = _
    rw [e0, e1, e2, e3])
  clear hG e0 e1 e2 e3 R9
  generalize hfr : Rega.frameAt _ _ _ _ _ = fr
  have hdf : fr = ⟨#[.pointer (some ⟨pb, 0, none⟩), .pointer (some ⟨ec, 0, none⟩), undef, undef, .pointer (some ⟨B1, 0, none⟩), .pointer (some ⟨tg, 0, none⟩), undef, undef, undef, .pointer (some ⟨ec, 0, none⟩), .pointer (some ⟨ec, 0, none⟩), .pointer (some ⟨ec, 0, none⟩), .pointer (some ⟨ec, 0, none⟩), .iface 225 (.pointer (some ⟨tg, 0, none⟩)), .tuple #[.pointer (some ⟨tg, 0, none⟩), .bool true], .bool true, .pointer (some ⟨tg, 0, none⟩), .pointer (some ⟨pb, 0, none⟩), .pointer (some ⟨tg, 0, none⟩), .pointer (some ⟨tg, 0, none⟩), .pointer (some ⟨tg, 0, none⟩), .agg #[.iface 229 (.pointer (some ⟨sp, 0, none⟩)), .int .i32 loc], .bool true, .bool false, .pointer (some ⟨tg, 0, none⟩), .pointer (some ⟨tg, 0, none⟩), .pointer (some ⟨tg, 3, none⟩), .agg #[.int .i32 loc], .pointer (some ⟨tg, 0, none⟩), .pointer (some ⟨tg, 0, none⟩), .pointer (some ⟨tg, 2, none⟩), .string name, .slice (some ⟨α 8, 0, none⟩) (u16L name).length ((u16L name).length + (α 1008)), .agg #[.slice (some ⟨α 8, 0, none⟩) (u16L name).length ((u16L name).length + (α 1008)), .int .i32 0, .bool false, .bool false, .bool false], .pointer (some ⟨α 10, 0, none⟩), .iface 206 (.pointer (some ⟨α 10, 0, none⟩)), .agg #[.iface 206 (.pointer (some ⟨α 10, 0, none⟩)), .int .i32 loc], undef, undef, undef, undef, undef, undef, undef, undef, undef, undef, undef, undef, undef, undef, undef, undef, undef, undef, undef, undef, undef, undef, undef, undef, undef, undef, undef, undef, undef, undef, undef, undef, undef, undef, undef, undef, undef, undef, undef, undef, undef, undef, undef, undef, undef, undef, undef, undef, undef, undef], []⟩ := by rw [← hfr]; kernel_rfl
  clear hfr
  subst hdf
  generalize α 8 = nd5 at hO ⊢
  generalize α 10 = nd6 at hO ⊢
  generalize α 1008 = nd7 at hO ⊢
  clear α
  subst hX9_4
  have hN : Own w0 u [row (B1) 35 #[.iface 206 (.pointer (some ⟨nd6, 0, none⟩)), .int .i32 loc], row (tg) 228 #[.iface 229 (.pointer (some ⟨sp, 0, none⟩)), .int .i32 loc, .string name, .int .i32 loc, .int .u8 0, .bool false, .bool false, .bool false], row (nd5) 51 (full u16Z (u16L name) (nd7)), row (nd6) 208 #[.slice (some ⟨nd5, 0, none⟩) (u16L name).length ((u16L name).length + (nd7)), .int .i32 0, .bool false, .bool false, .bool false], row (pb) 193 PC, row (sb) 56 (full symZ (symL ([sy ⟨#[70, 111, 111]⟩ 0])) c), ((mp, .map #[] 0) : Rw), row (ms) 203 MC, row (cr) 25 #[.int .u32 0, .int .u32 0], row (ec) 71 #[.iface 225 (.pointer (some ⟨tg, 0, none⟩)), .int .i32 loc, .slice (some ⟨ab, 0, none⟩) n n, .int .i32 0, .int .u8 0, .int .u8 0, .bool false, .bool false], row (ab) 35 ((args loc blk n).toArray)] X := hO.back HL.out HX.out [0, 2, 3, 4, 5, 6, 8] (by decide) (by decide)
  clear hO HL HX
  have hO := hN
  clear hN
  obtain ⟨c9_0_0, c9_0_1, lt9_0, y9_0, -⟩ := hO.k2 0 rfl
  obtain ⟨c9_1_0, c9_1_1, c9_1_2, c9_1_3, c9_1_4, c9_1_5, c9_1_6, c9_1_7, lt9_1, y9_1, -⟩ := hO.k8 1 rfl
  obtain ⟨c9_3_0, c9_3_1, c9_3_2, c9_3_3, c9_3_4, lt9_3, y9_3, -⟩ := hO.k5 3 rfl
  obtain ⟨c9_8_0, c9_8_1, lt9_8, y9_8, -⟩ := hO.k2 8 rfl
  obtain ⟨c9_9_0, c9_9_1, c9_9_2, c9_9_3, c9_9_4, c9_9_5, c9_9_6, c9_9_7, lt9_9, y9_9, -⟩ := hO.k8 9 rfl
  have HO := Lib.hid hO
  clear hO
  go_wp2_with (first | (with_reducible refine Own.stay (fn := Tryd.f47) ?_) | fail)
  try with_reducible refine Own.Stay.mk ?_
  have hO := HO.out
  clear HO c9_0_0 c9_0_1 lt9_0 y9_0 c9_1_0 c9_1_1 c9_1_2 c9_1_3 c9_1_4 c9_1_5 c9_1_6 c9_1_7 lt9_1 y9_1 c9_3_0 c9_3_1 c9_3_2 c9_3_3 c9_3_4 lt9_3 y9_3 c9_8_0 c9_8_1 lt9_8 y9_8 c9_9_0 c9_9_1 c9_9_2 c9_9_3 c9_9_4 c9_9_5 c9_9_6 c9_9_7 lt9_9 y9_9
  have hL := hO.apart
  have hX := hO.apartX
  have HL := Lib.hid hL
  have HX := Lib.hid hX
  clear hL hX
  have hP9 := hO.pick [0, 4, 5, 6, 7, 8, 9] (by decide)
  generalize hX9_8 : Own.Rest _ _ X = X9_8 at hP9
  replace hP9 : Own w0 u [row (B1) 35 #[.iface 206 (.pointer (some ⟨nd6, 0, none⟩)), .int .i32 loc], row (pb) 193 PC, row (sb) 56 (full symZ (symL ([sy ⟨#[70, 111, 111]⟩ 0])) c), ((mp, .map #[] 0) : Rw), row (ms) 203 MC, row (cr) 25 #[.int .u32 0, .int .u32 0], row (ec) 71 #[.iface 225 (.pointer (some ⟨tg, 0, none⟩)), .int .i32 loc, .slice (some ⟨ab, 0, none⟩) n n, .int .i32 0, .int .u8 0, .int .u8 0, .bool false, .bool false]] X9_8 := hP9
  clear hO
  have hO := hP9
  clear hP9
  have st9 := rLX03_st pb PC sb c mp ms MC cr loc r s tg ec ab n B1 nd6
  let R9 := rLX03R pb PC sb c mp ms MC cr loc r s tg ec ab n B1 nd6
  refine wp_region_own (e := rLX03E pb PC sb c mp ms MC cr loc r s tg ec ab n B1 nd6) (anc := rLX03Anc) (G := (fun L9 α u9 => OwnF w0 u9 (act rLX03Cnt 7 L9) (rLX03R pb PC sb c mp ms MC cr loc r s tg ec ab n B1 nd6 L9 α) X9_8)) (by kernel_rfl) (by kernel_rfl) (by kernel_rfl) (by kernel_rfl) (rLX03_he pb PC sb c mp ms MC cr loc r s tg ec ab n B1 nd6) ?_ (RunsAll.all ?_) ?_
  · have hp : ∀ i, act rLX03Cnt 7 (fun _ => false) i → i ∈ [999, 1999, 2999, 3999, 4999, 5999, 6999] := by
      intro i hi
      have h9 : i % 1000 = 999 := by
        by_cases h : i % 1000 = 999
        · exact h
        · exact absurd (act_lt hi h) (by simp)
      unfold act at hi
      rw [if_pos h9] at hi
      simp only [List.mem_cons, List.not_mem_nil, or_false]
      omega
    refine hO.drew.family (fun i hi => ?_) (fun i j hi hj hij => ?_)
    · have := hp i hi
      simp only [List.mem_cons, List.not_mem_nil, or_false] at this
      rcases this with rfl | rfl | rfl | rfl | rfl | rfl | rfl <;> rfl
    · have h1 := hp i hi
      have h2 := hp j hj
      simp only [List.mem_cons, List.not_mem_nil, or_false] at h1 h2
      omega
  · refine ⟨?_, ?_, ?_, ?_, ?_, ?_, ?_, ?_, ?_, ?_, ?_, ?_, ?_, ?_, ?_, ?_, ?_, ?_, trivial⟩
    · intro L9 α a9 u9 K9 hL hcl hA hG hS h0 hK
      replace hL : L9 0 = false := hL
      have q1 : a9.tmps[1]? = some (.pointer (some ⟨ec, 0, none⟩)) := (h0 1 (by kernel_rfl)).trans rfl
      have s1 := Rega.eval_of q1
      go_simp
      exact hK _ α _ (fun _ _ => rfl) rfl (step_same (st9) hL hcl rfl rfl hG)
    · intro L9 α a9 u9 K9 hL hcl hA hG hS h0 hK
      replace hL : L9 1 = false := hL
      have q0 : a9.tmps[0]? = some (.pointer (some ⟨pb, 0, none⟩)) := (h0 0 (by kernel_rfl)).trans rfl
      have s0 := Rega.eval_of q0
      go_simp
      exact hK _ α _ (fun _ _ => rfl) rfl (step_same (st9) hL hcl rfl rfl hG)
    · intro L9 α a9 u9 K9 hL hcl hA hG hS h0 hK
      replace hL : L9 2 = false := hL
      have q1 : a9.tmps[1]? = some (.pointer (some ⟨ec, 0, none⟩)) := (h0 1 (by kernel_rfl)).trans rfl
      have s1 := Rega.eval_of q1
      go_simp
      exact hK _ α _ (fun _ _ => rfl) rfl (step_same (st9) hL hcl rfl rfl hG)
    · intro L9 α a9 u9 K9 hL hcl hA hG hS h0 hK
      replace hL : L9 3 = false := hL
      have q53 : a9.tmps[53]? = some (.pointer (some ⟨ec, 0, none⟩)) := hS 2 53 (by decide) rfl (by show 53 < 87; decide)
      have s53 := Rega.eval_of q53
      go_simp
      exact hK _ α _ (fun _ _ => rfl) rfl (step_same (st9) hL hcl rfl rfl hG)
    · intro L9 α a9 u9 K9 hL hcl hA hG hS h0 hK
      replace hL : L9 4 = false := hL
      have q54 : a9.tmps[54]? = some (.pointer (some ⟨ec, 0, none⟩)) := hS 3 54 (by decide) rfl (by show 54 < 87; decide)
      have s54 := Rega.eval_of q54
      go_simp
      exact hK _ α _ (fun _ _ => rfl) rfl (step_same (st9) hL hcl rfl rfl hG)
    · intro L9 α a9 u9 K9 hL hcl hA hG hS h0 hK
      replace hL : L9 5 = false := hL
      have q55 : a9.tmps[55]? = some (.pointer (some ⟨ec, 0, none⟩)) := hS 4 55 (by decide) rfl (by show 55 < 87; decide)
      have s55 := Rega.eval_of q55
      go_simp
      exact hK _ α _ (fun _ _ => rfl) rfl (step_same (st9) hL hcl rfl rfl hG)
    · intro L9 α a9 u9 K9 hL hcl hA hG hS h0 hK
      replace hL : L9 6 = false := hL
      have q56 : a9.tmps[56]? = some (.pointer (some ⟨ec, 1, none⟩)) := hS 5 56 (by decide) rfl (by show 56 < 87; decide)
      have s56 := Rega.eval_of q56
      have e0 : R9 L9 α 6999 = row (ec) 71 #[.iface 225 (.pointer (some ⟨tg, 0, none⟩)), .int .i32 loc, .slice (some ⟨ab, 0, none⟩) n n, .int .i32 0, .int .u8 0, .int .u8 0, .bool false, .bool false] := by
        show rLX03T6999 pb PC sb c mp ms MC cr loc r s tg ec ab n B1 nd6 L9 α = _
        unfold rLX03T6999
        rw [if_neg (fun e => by have := hcl 17 e 6 (by decide); rw [hL] at this; cases this)]
      have hr := hG.rowAt 6999 (act_base 6999 rfl) e0
      have c0 : u9.cell? ⟨ec, 1, none⟩ = some (.int .i32 loc) := hr.cell rfl
      clear hr e0
      go_simp
      exact hK _ α _ (fun _ _ => rfl) rfl (step_same (st9) hL hcl rfl rfl hG)
    · intro L9 α a9 u9 K9 hL hcl hA hG hS h0 hK
      replace hL : L9 7 = false := hL
      have q4 : a9.tmps[4]? = some (.pointer (some ⟨B1, 0, none⟩)) := (h0 4 (by kernel_rfl)).trans rfl
      have s4 := Rega.eval_of q4
      have e0 : R9 L9 α 999 = row (B1) 35 #[.iface 206 (.pointer (some ⟨nd6, 0, none⟩)), .int .i32 loc] := rfl
      have hr := hG.rowAt 999 (act_base 999 rfl) e0
      have c0 : u9.cell? ⟨B1, 0, none⟩ = some (.iface 206 (.pointer (some ⟨nd6, 0, none⟩))) := hr.cell rfl
      have c1 : u9.cell? ⟨B1, 1, none⟩ = some (.int .i32 loc) := hr.cell rfl
      clear hr e0
      go_simp
      exact hK _ α _ (fun _ _ => rfl) rfl (step_same (st9) hL hcl rfl rfl hG)
    · intro L9 α a9 u9 K9 hL hcl hA hG hS h0 hK
      replace hL : L9 8 = false := hL
      have q52 : a9.tmps[52]? = some (.pointer (some ⟨pb, 0, none⟩)) := hS 1 52 (by decide) rfl (by show 52 < 87; decide)
      have s52 := Rega.eval_of q52
      have q57 : a9.tmps[57]? = some (.agg #[.int .i32 loc]) := hS 6 57 (by decide) rfl (by show 57 < 87; decide)
      have s57 := Rega.eval_of q57
      have q58 : a9.tmps[58]? = some (.agg #[.iface 206 (.pointer (some ⟨nd6, 0, none⟩)), .int .i32 loc]) := hS 7 58 (by decide) rfl (by show 58 < 87; decide)
      have s58 := Rega.eval_of q58
      go_simp
      have e0 : R9 L9 α 1999 = row (pb) 193 PC := by
        show rLX03T1999 pb PC sb c mp ms MC cr loc r s tg ec ab n B1 nd6 L9 α = _
        unfold rLX03T1999
        rw [if_neg (by rw [hL]; decide)]
      have e1 : R9 L9 α 2999 = row (sb) 56 (full symZ (symL ([sy ⟨#[70, 111, 111]⟩ 0])) c) := by
        show rLX03T2999 pb PC sb c mp ms MC cr loc r s tg ec ab n B1 nd6 L9 α = _
        unfold rLX03T2999
        rw [if_neg (by rw [hL]; decide)]
      have e2 : R9 L9 α 3999 = ((mp, .map #[] 0) : Rw) := by
        show rLX03T3999 pb PC sb c mp ms MC cr loc r s tg ec ab n B1 nd6 L9 α = _
        unfold rLX03T3999
        rw [if_neg (by rw [hL]; decide)]
      have e3 : R9 L9 α 4999 = row (ms) 203 MC := by
        show rLX03T4999 pb PC sb c mp ms MC cr loc r s tg ec ab n B1 nd6 L9 α = _
        unfold rLX03T4999
        rw [if_neg (by rw [hL]; decide)]
      have e4 : R9 L9 α 5999 = row (cr) 25 #[.int .u32 0, .int .u32 0] := rfl
      have hM : ∀ i, i ∈ [1999, 2999, 3999, 4999, 5999] → act rLX03Cnt 7 L9 i := by
        intro i hi
        simp only [List.mem_cons, List.not_mem_nil, or_false] at hi
        rcases hi with rfl | rfl | rfl | rfl | rfl
        · exact act_base 1999 rfl
        · exact act_base 2999 rfl
        · exact act_base 3999 rfl
        · exact act_base 4999 rfl
        · exact act_base 5999 rfl
      have hP : Own w0 u9 [row (pb) 193 PC, row (sb) 56 (full symZ (symL ([sy ⟨#[70, 111, 111]⟩ 0])) c), ((mp, .map #[] 0) : Rw), row (ms) 203 MC, row (cr) 25 #[.int .u32 0, .int .u32 0]] _ := (hG.pick [1999, 2999, 3999, 4999, 5999] (by decide) hM).conv (by
        show [R9 L9 α 1999, R9 L9 α 2999, R9 L9 α 3999, R9 L9 α 4999, R9 L9 α 5999] = _
        rw [e0, e1, e2, e3, e4])
      clear e0 e1 e2 e3 e4 hM
      refine Calls.mono (uGetF pb PC sb c mp ms MC cr loc r s 206 nd6 loc _ _ _ hP hk350 hk32 hk105 hk66 hk117 hk187 hk97 hk95 hk96 hk106 hgen hg0 hg1) ?_
      rintro e9 u1 ⟨b0, b1, b2, b3, b4, b5, b7, b8, b6, b9, rfl, hQ⟩
      obtain ⟨α', hα'⟩ : ∃ α' : Rega.Atoms, α' = (fun j => if j = 8 then b0 else if j = 1008 then b1 else if j = 2008 then b2 else if j = 3008 then b3 else if j = 4008 then b4 else if j = 5008 then b5 else if j = 6008 then b6 else if j = 7008 then b7 else if j = 8008 then b8 else if j = 9008 then b9 else α j) := ⟨_, rfl⟩
      have f0 : R9 (Rega.ran L9 8) α' 1999 = row (pb) 193 (PC.setIfInBounds 106 (.slice (some ⟨α' 7008, 0, none⟩) 2 (2 + (α' 8008)))) := by
        show rLX03T1999 pb PC sb c mp ms MC cr loc r s tg ec ab n B1 nd6 (Rega.ran L9 8) α' = _
        unfold rLX03T1999
        rw [if_pos (show Rega.ran L9 8 8 = true from rfl)]
      have f1 : R9 (Rega.ran L9 8) α' 2999 = row (α' 7008) 56 (full symZ (symL ([sy ⟨#[70, 111, 111]⟩ (uz r 0), sy ⟨#[95, 95, 115, 117, 112, 101, 114, 71, 101, 116]⟩ 1])) (α' 8008)) := by
        show rLX03T2999 pb PC sb c mp ms MC cr loc r s tg ec ab n B1 nd6 (Rega.ran L9 8) α' = _
        unfold rLX03T2999
        rw [if_pos (show Rega.ran L9 8 8 = true from rfl)]
      have f2 : R9 (Rega.ran L9 8) α' 3999 = ((mp, .map #[⟨.string ⟨#[95, 95, 115, 117, 112, 101, 114, 71, 101, 116]⟩, .agg #[.int .i32 loc, .int .u32 0, .int .u32 1], 0⟩] 1) : Rw) := by
        show rLX03T3999 pb PC sb c mp ms MC cr loc r s tg ec ab n B1 nd6 (Rega.ran L9 8) α' = _
        unfold rLX03T3999
        rw [if_pos (show Rega.ran L9 8 8 = true from rfl)]
      have f3 : R9 (Rega.ran L9 8) α' 4999 = row (ms) 203 (MC.setIfInBounds 5 (.slice (some ⟨α' 6008, 0, none⟩) 1 (1 + (α' 9008)))) := by
        show rLX03T4999 pb PC sb c mp ms MC cr loc r s tg ec ab n B1 nd6 (Rega.ran L9 8) α' = _
        unfold rLX03T4999
        rw [if_pos (show Rega.ran L9 8 8 = true from rfl)]
      have f4 : R9 (Rega.ran L9 8) α' 6008 = row (α' 6008) 25 (full refZ ([.int .u32 0, .int .u32 1]) (α' 9008)) := rfl
      have f5 : R9 (Rega.ran L9 8) α' 5999 = row (cr) 25 #[.int .u32 0, .int .u32 0] := rfl
      have f6 : R9 (Rega.ran L9 8) α' 1008 = row (α' 1008) 211 #[.int .u32 0, .int .u32 1, .bool false, .bool false, .bool false] := rfl
      have f7 : R9 (Rega.ran L9 8) α' 8 = row (α' 8) 71 #[.iface 209 (.pointer (some ⟨α' 1008, 0, none⟩)), .int .i32 loc, .slice (some ⟨α' 2008, 0, none⟩) 3 3, .int .i32 0, .int .u8 0, .int .u8 0, .bool false, .bool false] := rfl
      have f8 : R9 (Rega.ran L9 8) α' 2008 = row (α' 2008) 35 #[.iface (clsTy s) (.pointer (some ⟨α' 3008, 0, none⟩)), .int .i32 loc, .iface (thsTy r) (.pointer (some ⟨α' 5008, 0, none⟩)), .int .i32 loc, .iface 206 (.pointer (some ⟨nd6, 0, none⟩)), .int .i32 loc] := rfl
      have f9 : R9 (Rega.ran L9 8) α' 3008 = row (α' 3008) (clsT s) (clsC s loc (α' 4008)) := rfl
      have f10 : R9 (Rega.ran L9 8) α' 4008 = row (α' 4008) (xtrT s) (xtrC s loc (α' 3008)) := rfl
      have f11 : R9 (Rega.ran L9 8) α' 5008 = row (α' 5008) (thsT r) (thsC r) := rfl
      have hα : ∀ j, j % 1000 ≠ 8 → α' j = α j := fun j hj => by rw [hα']; simp only []; rw [if_neg (by omega), if_neg (by omega), if_neg (by omega), if_neg (by omega), if_neg (by omega), if_neg (by omega), if_neg (by omega), if_neg (by omega), if_neg (by omega), if_neg (by omega)]
      have hb0 : α' 8 = b0 := by rw [hα']; rfl
      have hb1 : α' 1008 = b1 := by rw [hα']; rfl
      have hb2 : α' 2008 = b2 := by rw [hα']; rfl
      have hb3 : α' 3008 = b3 := by rw [hα']; rfl
      have hb4 : α' 4008 = b4 := by rw [hα']; rfl
      have hb5 : α' 5008 = b5 := by rw [hα']; rfl
      have hb6 : α' 6008 = b6 := by rw [hα']; rfl
      have hb7 : α' 7008 = b7 := by rw [hα']; rfl
      have hb8 : α' 8008 = b8 := by rw [hα']; rfl
      have hb9 : α' 9008 = b9 := by rw [hα']; rfl
      skip
      refine hK _ α' _ hα ?_ (step_call (st9) hL hcl hα [1999, 2999, 3999, 4999, 5999] [1999, 2999, 3999, 4999, 6008, 5999, 1008, 8, 2008, 3008, 4008, 5008] (by decide) (by decide) (by decide) (M := _) ?_ hG hQ)
      · show _ = (.agg #[.iface 65 (.pointer (some ⟨α' 8, 0, none⟩)), .int .i32 loc] : Value)
        simp only [hb0]
      · show [R9 (Rega.ran L9 8) α' 1999, R9 (Rega.ran L9 8) α' 2999, R9 (Rega.ran L9 8) α' 3999, R9 (Rega.ran L9 8) α' 4999, R9 (Rega.ran L9 8) α' 6008, R9 (Rega.ran L9 8) α' 5999, R9 (Rega.ran L9 8) α' 1008, R9 (Rega.ran L9 8) α' 8, R9 (Rega.ran L9 8) α' 2008, R9 (Rega.ran L9 8) α' 3008, R9 (Rega.ran L9 8) α' 4008, R9 (Rega.ran L9 8) α' 5008] = _
        rw [f0, f1, f2, f3, f4, f5, f6, f7, f8, f9, f10, f11]
        simp only [hb0, hb1, hb2, hb3, hb4, hb5, hb6, hb7, hb8, hb9]
    · intro L9 α a9 u9 K9 hL hcl hA hG hS h0 hK
      replace hL : L9 9 = false := hL
      have q4 : a9.tmps[4]? = some (.pointer (some ⟨B1, 0, none⟩)) := (h0 4 (by kernel_rfl)).trans rfl
      have s4 := Rega.eval_of q4
      go_simp
      exact hK _ α _ (fun _ _ => rfl) rfl (step_same (st9) hL hcl rfl rfl hG)
    · intro L9 α a9 u9 K9 hL hcl hA hG hS h0 hK
      replace hL : L9 10 = false := hL
      have q60 : a9.tmps[60]? = some (.pointer (some ⟨B1, 1, none⟩)) := hS 9 60 (by decide) rfl (by show 60 < 87; decide)
      have s60 := Rega.eval_of q60
      have e0 : R9 L9 α 999 = row (B1) 35 #[.iface 206 (.pointer (some ⟨nd6, 0, none⟩)), .int .i32 loc] := rfl
      have hr := hG.rowAt 999 (act_base 999 rfl) e0
      have c0 : u9.cell? ⟨B1, 1, none⟩ = some (.int .i32 loc) := hr.cell rfl
      clear hr e0
      go_simp
      exact hK _ α _ (fun _ _ => rfl) rfl (step_same (st9) hL hcl rfl rfl hG)
    · intro L9 α a9 u9 K9 hL hcl hA hG hS h0 hK
      replace hL : L9 11 = false := hL
      have q59 : a9.tmps[59]? = some (.agg #[.iface 65 (.pointer (some ⟨α 8, 0, none⟩)), .int .i32 loc]) := hS 8 59 (by decide) rfl (by show 59 < 87; decide)
      have s59 := Rega.eval_of q59
      have q61 : a9.tmps[61]? = some (.agg #[.int .i32 loc]) := hS 10 61 (by decide) rfl (by show 61 < 87; decide)
      have s61 := Rega.eval_of q61
      go_simp
      exact hK _ α _ (fun _ _ => rfl) rfl (step_same (st9) hL hcl rfl rfl hG)
    · intro L9 α a9 u9 K9 hL hcl hA hG hS h0 hK
      replace hL : L9 12 = false := hL
      have q62 : a9.tmps[62]? = some (.agg #[.iface 65 (.pointer (some ⟨α 8, 0, none⟩)), .int .i32 loc, .string ⟨#[99, 97, 108, 108]⟩, .int .i32 loc, .int .u8 0, .bool false, .bool false, .bool false]) := hS 11 62 (by decide) rfl (by show 62 < 87; decide)
      have s62 := Rega.eval_of q62
      go_simp
      exact hK _ (fun j => if j = 12 then u9.heap.size else α j) _ (fun j hj => if_neg (fun e => hj (by rw [e]))) rfl (step_alloc (st9) hL hcl rfl rfl (by decide) _ rfl hG)
    · intro L9 α a9 u9 K9 hL hcl hA hG hS h0 hK
      replace hL : L9 13 = false := hL
      have q63 : a9.tmps[63]? = some (.pointer (some ⟨α 12, 0, none⟩)) := hS 12 63 (by decide) rfl (by show 63 < 87; decide)
      have s63 := Rega.eval_of q63
      go_simp
      exact hK _ α _ (fun _ _ => rfl) rfl (step_same (st9) hL hcl rfl rfl hG)
    · intro L9 α a9 u9 K9 hL hcl hA hG hS h0 hK
      replace hL : L9 14 = false := hL
      have q51 : a9.tmps[51]? = some (.pointer (some ⟨ec, 0, none⟩)) := hS 0 51 (by decide) rfl (by show 51 < 87; decide)
      have s51 := Rega.eval_of q51
      go_simp
      exact hK _ α _ (fun _ _ => rfl) rfl (step_same (st9) hL hcl rfl rfl hG)
    · intro L9 α a9 u9 K9 hL hcl hA hG hS h0 hK
      replace hL : L9 15 = false := hL
      have q65 : a9.tmps[65]? = some (.pointer (some ⟨ec, 0, none⟩)) := hS 14 65 (by decide) rfl (by show 65 < 87; decide)
      have s65 := Rega.eval_of q65
      go_simp
      exact hK _ α _ (fun _ _ => rfl) rfl (step_same (st9) hL hcl rfl rfl hG)
    · intro L9 α a9 u9 K9 hL hcl hA hG hS h0 hK
      replace hL : L9 16 = false := hL
      have q66 : a9.tmps[66]? = some (.pointer (some ⟨ec, 0, none⟩)) := hS 15 66 (by decide) rfl (by show 66 < 87; decide)
      have s66 := Rega.eval_of q66
      go_simp
      exact hK _ α _ (fun _ _ => rfl) rfl (step_same (st9) hL hcl rfl rfl hG)
    · intro L9 α a9 u9 K9 hL hcl hA hG hS h0 hK
      replace hL : L9 17 = false := hL
      have q67 : a9.tmps[67]? = some (.pointer (some ⟨ec, 0, none⟩)) := hS 16 67 (by decide) rfl (by show 67 < 87; decide)
      have s67 := Rega.eval_of q67
      have q64 : a9.tmps[64]? = some (.iface 225 (.pointer (some ⟨α 12, 0, none⟩))) := hS 13 64 (by decide) rfl (by show 64 < 87; decide)
      have s64 := Rega.eval_of q64
      have e0 : R9 L9 α 6999 = row (ec) 71 #[.iface 225 (.pointer (some ⟨tg, 0, none⟩)), .int .i32 loc, .slice (some ⟨ab, 0, none⟩) n n, .int .i32 0, .int .u8 0, .int .u8 0, .bool false, .bool false] := by
        show rLX03T6999 pb PC sb c mp ms MC cr loc r s tg ec ab n B1 nd6 L9 α = _
        unfold rLX03T6999
        rw [if_neg (by rw [hL]; decide)]
      have hr := hG.rowAt 6999 (act_base 6999 rfl) e0
      have c0 : u9.cell? ⟨ec, 0, none⟩ = some (.iface 225 (.pointer (some ⟨tg, 0, none⟩))) := hr.cell rfl
      have y0 : u9.frozen? ⟨ec, 0, none⟩ = false := hr.free (0)
      clear hr
      have E0 := Lib.hid e0
      clear e0
      go_simp
      have e1 : R9 (Rega.ran L9 17) α 6999 = row (ec) 71 #[.iface 225 (.pointer (some ⟨α 12, 0, none⟩)), .int .i32 loc, .slice (some ⟨ab, 0, none⟩) n n, .int .i32 0, .int .u8 0, .int .u8 0, .bool false, .bool false] := by
        show rLX03T6999 pb PC sb c mp ms MC cr loc r s tg ec ab n B1 nd6 (Rega.ran L9 17) α = _
        unfold rLX03T6999
        rw [if_pos (show Rega.ran L9 17 17 = true from rfl)]
      exact hK _ α _ (fun _ _ => rfl) rfl (step_sets (st9) hL hcl rfl 6999 rfl (act_base 6999 rfl) E0.out (0) [.iface 225 (.pointer (some ⟨α 12, 0, none⟩))] (e1.trans rfl) hG)
  clear st9
  intro α u hG
  have e0 : R9 (fun k => decide (k < 18)) α 999 = row (B1) 35 #[.iface 206 (.pointer (some ⟨nd6, 0, none⟩)), .int .i32 loc] := rfl
  have e1 : R9 (fun k => decide (k < 18)) α 1999 = row (pb) 193 (PC.setIfInBounds 106 (.slice (some ⟨α 7008, 0, none⟩) 2 (2 + (α 8008)))) := by
    show rLX03T1999 pb PC sb c mp ms MC cr loc r s tg ec ab n B1 nd6 (fun k => decide (k < 18)) α = _
    unfold rLX03T1999
    rw [if_pos (by decide)]
  have e2 : R9 (fun k => decide (k < 18)) α 2999 = row (α 7008) 56 (full symZ (symL ([sy ⟨#[70, 111, 111]⟩ (uz r 0), sy ⟨#[95, 95, 115, 117, 112, 101, 114, 71, 101, 116]⟩ 1])) (α 8008)) := by
    show rLX03T2999 pb PC sb c mp ms MC cr loc r s tg ec ab n B1 nd6 (fun k => decide (k < 18)) α = _
    unfold rLX03T2999
    rw [if_pos (by decide)]
  have e3 : R9 (fun k => decide (k < 18)) α 3999 = ((mp, .map #[⟨.string ⟨#[95, 95, 115, 117, 112, 101, 114, 71, 101, 116]⟩, .agg #[.int .i32 loc, .int .u32 0, .int .u32 1], 0⟩] 1) : Rw) := by
    show rLX03T3999 pb PC sb c mp ms MC cr loc r s tg ec ab n B1 nd6 (fun k => decide (k < 18)) α = _
    unfold rLX03T3999
    rw [if_pos (by decide)]
  have e4 : R9 (fun k => decide (k < 18)) α 4999 = row (ms) 203 (MC.setIfInBounds 5 (.slice (some ⟨α 6008, 0, none⟩) 1 (1 + (α 9008)))) := by
    show rLX03T4999 pb PC sb c mp ms MC cr loc r s tg ec ab n B1 nd6 (fun k => decide (k < 18)) α = _
    unfold rLX03T4999
    rw [if_pos (by decide)]
  have e5 : R9 (fun k => decide (k < 18)) α 5999 = row (cr) 25 #[.int .u32 0, .int .u32 0] := rfl
  have e6 : R9 (fun k => decide (k < 18)) α 6999 = row (ec) 71 #[.iface 225 (.pointer (some ⟨α 12, 0, none⟩)), .int .i32 loc, .slice (some ⟨ab, 0, none⟩) n n, .int .i32 0, .int .u8 0, .int .u8 0, .bool false, .bool false] := by
    show rLX03T6999 pb PC sb c mp ms MC cr loc r s tg ec ab n B1 nd6 (fun k => decide (k < 18)) α = _
    unfold rLX03T6999
    rw [if_pos (by decide)]
  have e7 : R9 (fun k => decide (k < 18)) α 8 = row (α 8) 71 #[.iface 209 (.pointer (some ⟨α 1008, 0, none⟩)), .int .i32 loc, .slice (some ⟨α 2008, 0, none⟩) 3 3, .int .i32 0, .int .u8 0, .int .u8 0, .bool false, .bool false] := rfl
  have e8 : R9 (fun k => decide (k < 18)) α 1008 = row (α 1008) 211 #[.int .u32 0, .int .u32 1, .bool false, .bool false, .bool false] := rfl
  have e9 : R9 (fun k => decide (k < 18)) α 2008 = row (α 2008) 35 #[.iface (clsTy s) (.pointer (some ⟨α 3008, 0, none⟩)), .int .i32 loc, .iface (thsTy r) (.pointer (some ⟨α 5008, 0, none⟩)), .int .i32 loc, .iface 206 (.pointer (some ⟨nd6, 0, none⟩)), .int .i32 loc] := rfl
  have e10 : R9 (fun k => decide (k < 18)) α 3008 = row (α 3008) (clsT s) (clsC s loc (α 4008)) := rfl
  have e11 : R9 (fun k => decide (k < 18)) α 4008 = row (α 4008) (xtrT s) (xtrC s loc (α 3008)) := rfl
  have e12 : R9 (fun k => decide (k < 18)) α 5008 = row (α 5008) (thsT r) (thsC r) := rfl
  have e13 : R9 (fun k => decide (k < 18)) α 6008 = row (α 6008) 25 (full refZ ([.int .u32 0, .int .u32 1]) (α 9008)) := rfl
  have e14 : R9 (fun k => decide (k < 18)) α 12 = row (α 12) 228 #[.iface 65 (.pointer (some ⟨α 8, 0, none⟩)), .int .i32 loc, .string ⟨#[99, 97, 108, 108]⟩, .int .i32 loc, .int .u8 0, .bool false, .bool false, .bool false] := rfl
  have hO : Own w0 u [row (B1) 35 #[.iface 206 (.pointer (some ⟨nd6, 0, none⟩)), .int .i32 loc], row (pb) 193 (PC.setIfInBounds 106 (.slice (some ⟨α 7008, 0, none⟩) 2 (2 + (α 8008)))), row (α 7008) 56 (full symZ (symL ([sy ⟨#[70, 111, 111]⟩ (uz r 0), sy ⟨#[95, 95, 115, 117, 112, 101, 114, 71, 101, 116]⟩ 1])) (α 8008)), ((mp, .map #[⟨.string ⟨#[95, 95, 115, 117, 112, 101, 114, 71, 101, 116]⟩, .agg #[.int .i32 loc, .int .u32 0, .int .u32 1], 0⟩] 1) : Rw), row (ms) 203 (MC.setIfInBounds 5 (.slice (some ⟨α 6008, 0, none⟩) 1 (1 + (α 9008)))), row (cr) 25 #[.int .u32 0, .int .u32 0], row (ec) 71 #[.iface 225 (.pointer (some ⟨α 12, 0, none⟩)), .int .i32 loc, .slice (some ⟨ab, 0, none⟩) n n, .int .i32 0, .int .u8 0, .int .u8 0, .bool false, .bool false], row (α 8) 71 #[.iface 209 (.pointer (some ⟨α 1008, 0, none⟩)), .int .i32 loc, .slice (some ⟨α 2008, 0, none⟩) 3 3, .int .i32 0, .int .u8 0, .int .u8 0, .bool false, .bool false], row (α 1008) 211 #[.int .u32 0, .int .u32 1, .bool false, .bool false, .bool false], row (α 2008) 35 #[.iface (clsTy s) (.pointer (some ⟨α 3008, 0, none⟩)), .int .i32 loc, .iface (thsTy r) (.pointer (some ⟨α 5008, 0, none⟩)), .int .i32 loc, .iface 206 (.pointer (some ⟨nd6, 0, none⟩)), .int .i32 loc], row (α 3008) (clsT s) (clsC s loc (α 4008)), row (α 4008) (xtrT s) (xtrC s loc (α 3008)), row (α 5008) (thsT r) (thsC r), row (α 6008) 25 (full refZ ([.int .u32 0, .int .u32 1]) (α 9008)), row (α 12) 228 #[.iface 65 (.pointer (some ⟨α 8, 0, none⟩)), .int .i32 loc, .string ⟨#[99, 97, 108, 108]⟩, .int .i32 loc, .int .u8 0, .bool false, .bool false, .bool false]] X9_8 := (hG.list [999, 1999, 2999, 3999, 4999, 5999, 6999, 8, 1008, 2008, 3008, 4008, 5008, 6008, 12] (by decide) (act_all (by decide))).conv (by
    show [R9 (fun k => decide (k < 18)) α 999, R9 (fun k => decide (k < 18)) α 1999, R9 (fun k => decide (k < 18)) α 2999, R9 (fun k => decide (k < 18)) α 3999, R9 (fun k => decide (k < 18)) α 4999, R9 (fun k => decide (k < 18)) α 5999, R9 (fun k => decide (k < 18)) α 6999, R9 (fun k => decide (k < 18)) α 8, R9 (fun k => decide (k < 18)) α 1008, R9 (fun k => decide (k < 18)) α 2008, R9 (fun k => decide (k < 18)) α 3008, R9 (fun k => decide (k < 18)) α 4008, R9 (fun k => decide (k < 18)) α 5008, R9 (fun k => decide (k < 18)) α 6008, R9 (fun k => decide (k < 18)) α 12] = _
    rw [e0, e1, e2, e3, e4, e5, e6, e7, e8, e9, e10, e11, e12, e13, e14])
  clear hG e0 e1 e2 e3 e4 e5 e6 e7 e8 e9 e10 e11 e12 e13 e14 R9
  generalize hfr : Rega.frameAt _ _ _ _ _ = fr
  have hdf : fr = ⟨#[.pointer (some ⟨pb, 0, none⟩), .pointer (some ⟨ec, 0, none⟩), undef, undef, .pointer (some ⟨B1, 0, none⟩), .pointer (some ⟨tg, 0, none⟩), undef, undef, undef, .pointer (some ⟨ec, 0, none⟩), .pointer (some ⟨ec, 0, none⟩), .pointer (some ⟨ec, 0, none⟩), .pointer (some ⟨ec, 0, none⟩), .iface 225 (.pointer (some ⟨tg, 0, none⟩)), .tuple #[.pointer (some ⟨tg, 0, none⟩), .bool true], .bool true, .pointer (some ⟨tg, 0, none⟩), .pointer (some ⟨pb, 0, none⟩), .pointer (some ⟨tg, 0, none⟩), .pointer (some ⟨tg, 0, none⟩), .pointer (some ⟨tg, 0, none⟩), .agg #[.iface 229 (.pointer (some ⟨sp, 0, none⟩)), .int .i32 loc], .bool true, .bool false, .pointer (some ⟨tg, 0, none⟩), .pointer (some ⟨tg, 0, none⟩), .pointer (some ⟨tg, 3, none⟩), .agg #[.int .i32 loc], .pointer (some ⟨tg, 0, none⟩), .pointer (some ⟨tg, 0, none⟩), .pointer (some ⟨tg, 2, none⟩), .string name, .slice (some ⟨nd5, 0, none⟩) (u16L name).length ((u16L name).length + nd7), .agg #[.slice (some ⟨nd5, 0, none⟩) (u16L name).length ((u16L name).length + nd7), .int .i32 0, .bool false, .bool false, .bool false], .pointer (some ⟨nd6, 0, none⟩), .iface 206 (.pointer (some ⟨nd6, 0, none⟩)), .agg #[.iface 206 (.pointer (some ⟨nd6, 0, none⟩)), .int .i32 loc], undef, undef, undef, undef, undef, undef, undef, undef, undef, undef, undef, undef, undef, undef, .pointer (some ⟨ec, 0, none⟩), .pointer (some ⟨pb, 0, none⟩), .pointer (some ⟨ec, 0, none⟩), .pointer (some ⟨ec, 0, none⟩), .pointer (some ⟨ec, 0, none⟩), .pointer (some ⟨ec, 1, none⟩), .agg #[.int .i32 loc], .agg #[.iface 206 (.pointer (some ⟨nd6, 0, none⟩)), .int .i32 loc], .agg #[.iface 65 (.pointer (some ⟨α 8, 0, none⟩)), .int .i32 loc], .pointer (some ⟨B1, 1, none⟩), .agg #[.int .i32 loc], .agg #[.iface 65 (.pointer (some ⟨α 8, 0, none⟩)), .int .i32 loc, .string ⟨#[99, 97, 108, 108]⟩, .int .i32 loc, .int .u8 0, .bool false, .bool false, .bool false], .pointer (some ⟨α 12, 0, none⟩), .iface 225 (.pointer (some ⟨α 12, 0, none⟩)), .pointer (some ⟨ec, 0, none⟩), .pointer (some ⟨ec, 0, none⟩), .pointer (some ⟨ec, 0, none⟩), undef, undef, undef, undef, undef, undef, undef, undef, undef, undef, undef, undef, undef, undef, undef, undef, undef, undef, undef], []⟩ := by rw [← hfr]; kernel_rfl
  clear hfr
  subst hdf
  generalize α 8 = nd9 at hO ⊢
  generalize α 12 = nd10 at hO ⊢
  generalize α 1008 = nd11 at hO ⊢
  generalize α 2008 = nd12 at hO ⊢
  generalize α 3008 = nd13 at hO ⊢
  generalize α 4008 = nd14 at hO ⊢
  generalize α 5008 = nd15 at hO ⊢
  generalize α 6008 = nd16 at hO ⊢
  generalize α 7008 = nd17 at hO ⊢
  generalize α 8008 = nd18 at hO ⊢
  generalize α 9008 = nd19 at hO ⊢
  clear α
  subst hX9_8
  have hN : Own w0 u [row (B1) 35 #[.iface 206 (.pointer (some ⟨nd6, 0, none⟩)), .int .i32 loc], row (pb) 193 (PC.setIfInBounds 106 (.slice (some ⟨nd17, 0, none⟩) 2 (2 + (nd18)))), row (nd17) 56 (full symZ (symL ([sy ⟨#[70, 111, 111]⟩ (uz r 0), sy ⟨#[95, 95, 115, 117, 112, 101, 114, 71, 101, 116]⟩ 1])) (nd18)), ((mp, .map #[⟨.string ⟨#[95, 95, 115, 117, 112, 101, 114, 71, 101, 116]⟩, .agg #[.int .i32 loc, .int .u32 0, .int .u32 1], 0⟩] 1) : Rw), row (ms) 203 (MC.setIfInBounds 5 (.slice (some ⟨nd16, 0, none⟩) 1 (1 + (nd19)))), row (cr) 25 #[.int .u32 0, .int .u32 0], row (ec) 71 #[.iface 225 (.pointer (some ⟨nd10, 0, none⟩)), .int .i32 loc, .slice (some ⟨ab, 0, none⟩) n n, .int .i32 0, .int .u8 0, .int .u8 0, .bool false, .bool false], row (nd9) 71 #[.iface 209 (.pointer (some ⟨nd11, 0, none⟩)), .int .i32 loc, .slice (some ⟨nd12, 0, none⟩) 3 3, .int .i32 0, .int .u8 0, .int .u8 0, .bool false, .bool false], row (nd11) 211 #[.int .u32 0, .int .u32 1, .bool false, .bool false, .bool false], row (nd12) 35 #[.iface (clsTy s) (.pointer (some ⟨nd13, 0, none⟩)), .int .i32 loc, .iface (thsTy r) (.pointer (some ⟨nd15, 0, none⟩)), .int .i32 loc, .iface 206 (.pointer (some ⟨nd6, 0, none⟩)), .int .i32 loc], row (nd13) (clsT s) (clsC s loc (nd14)), row (nd14) (xtrT s) (xtrC s loc (nd13)), row (nd15) (thsT r) (thsC r), row (nd16) 25 (full refZ ([.int .u32 0, .int .u32 1]) (nd19)), row (nd10) 228 #[.iface 65 (.pointer (some ⟨nd9, 0, none⟩)), .int .i32 loc, .string ⟨#[99, 97, 108, 108]⟩, .int .i32 loc, .int .u8 0, .bool false, .bool false, .bool false], row (tg) 228 #[.iface 229 (.pointer (some ⟨sp, 0, none⟩)), .int .i32 loc, .string name, .int .i32 loc, .int .u8 0, .bool false, .bool false, .bool false], row (nd5) 51 (full u16Z (u16L name) (nd7)), row (nd6) 208 #[.slice (some ⟨nd5, 0, none⟩) (u16L name).length ((u16L name).length + (nd7)), .int .i32 0, .bool false, .bool false, .bool false], row (ab) 35 ((args loc blk n).toArray)] X := hO.back HL.out HX.out [1, 2, 3, 10] (by decide) (by decide)
  clear hO HL HX
  have hO := hN
  clear hN
  have hN : Own w0 u [row (B1) 35 #[.iface 206 (.pointer (some ⟨nd6, 0, none⟩)), .int .i32 loc], row (pb) 193 (PC.setIfInBounds 106 (.slice (some ⟨nd17, 0, none⟩) 2 (2 + (nd18)))), row (nd17) 56 (full symZ (symL ([sy ⟨#[70, 111, 111]⟩ (uz r 0), sy ⟨#[95, 95, 115, 117, 112, 101, 114, 71, 101, 116]⟩ 1])) (nd18)), ((mp, .map #[⟨.string ⟨#[95, 95, 115, 117, 112, 101, 114, 71, 101, 116]⟩, .agg #[.int .i32 loc, .int .u32 0, .int .u32 1], 0⟩] 1) : Rw), row (ms) 203 (MC.setIfInBounds 5 (.slice (some ⟨nd16, 0, none⟩) 1 (1 + (nd19)))), row (cr) 25 #[.int .u32 0, .int .u32 0], row (ec) 71 #[.iface 225 (.pointer (some ⟨nd10, 0, none⟩)), .int .i32 loc, .slice (some ⟨ab, 0, none⟩) n n, .int .i32 0, .int .u8 0, .int .u8 0, .bool false, .bool false], row (nd9) 71 #[.iface 209 (.pointer (some ⟨nd11, 0, none⟩)), .int .i32 loc, .slice (some ⟨nd12, 0, none⟩) 3 3, .int .i32 0, .int .u8 0, .int .u8 0, .bool false, .bool false], row (nd11) 211 #[.int .u32 0, .int .u32 1, .bool false, .bool false, .bool false], row (nd12) 35 #[.iface (clsTy s) (.pointer (some ⟨nd13, 0, none⟩)), .int .i32 loc, .iface (thsTy r) (.pointer (some ⟨nd15, 0, none⟩)), .int .i32 loc, .iface 206 (.pointer (some ⟨nd6, 0, none⟩)), .int .i32 loc], row (nd13) (clsT s) (clsC s loc (nd14)), row (nd14) (xtrT s) (xtrC s loc (nd13)), row (nd15) (thsT r) (thsC r), row (nd16) 25 (full refZ [.int .u32 0, .int .u32 1] (nd19)), row (nd10) 228 #[.iface 65 (.pointer (some ⟨nd9, 0, none⟩)), .int .i32 loc, .string ⟨#[99, 97, 108, 108]⟩, .int .i32 loc, .int .u8 0, .bool false, .bool false, .bool false], row (tg) 228 #[.iface 229 (.pointer (some ⟨sp, 0, none⟩)), .int .i32 loc, .string name, .int .i32 loc, .int .u8 0, .bool false, .bool false, .bool false], row (nd5) 51 (full u16Z (u16L name) (nd7)), row (nd6) 208 #[.slice (some ⟨nd5, 0, none⟩) (u16L name).length ((u16L name).length + (nd7)), .int .i32 0, .bool false, .bool false, .bool false], row (ab) 35 ((args loc blk n).toArray)] X := hO
  clear hO
  have hO := hN
  clear hN
  obtain ⟨c9_0_0, c9_0_1, lt9_0, y9_0, -⟩ := hO.k2 0 rfl
  obtain ⟨c9_5_0, c9_5_1, lt9_5, y9_5, -⟩ := hO.k2 5 rfl
  obtain ⟨c9_6_0, c9_6_1, c9_6_2, c9_6_3, c9_6_4, c9_6_5, c9_6_6, c9_6_7, lt9_6, y9_6, -⟩ := hO.k8 6 rfl
  obtain ⟨c9_7_0, c9_7_1, c9_7_2, c9_7_3, c9_7_4, c9_7_5, c9_7_6, c9_7_7, lt9_7, y9_7, -⟩ := hO.k8 7 rfl
  obtain ⟨c9_8_0, c9_8_1, c9_8_2, c9_8_3, c9_8_4, lt9_8, y9_8, -⟩ := hO.k5 8 rfl
  obtain ⟨c9_9_0, c9_9_1, c9_9_2, c9_9_3, c9_9_4, c9_9_5, lt9_9, y9_9, -⟩ := hO.k6 9 rfl
  obtain ⟨c9_14_0, c9_14_1, c9_14_2, c9_14_3, c9_14_4, c9_14_5, c9_14_6, c9_14_7, lt9_14, y9_14, -⟩ := hO.k8 14 rfl
  obtain ⟨c9_15_0, c9_15_1, c9_15_2, c9_15_3, c9_15_4, c9_15_5, c9_15_6, c9_15_7, lt9_15, y9_15, -⟩ := hO.k8 15 rfl
  obtain ⟨c9_17_0, c9_17_1, c9_17_2, c9_17_3, c9_17_4, lt9_17, y9_17, -⟩ := hO.k5 17 rfl
  have HO := Lib.hid hO
  clear hO
  go_wp2_with (first | (with_reducible refine Own.stay (fn := Tryd.f47) ?_) | fail)
  try with_reducible refine Own.Stay.mk ?_
  have hO := HO.out
  clear HO c9_0_0 c9_0_1 lt9_0 y9_0 c9_5_0 c9_5_1 lt9_5 y9_5 c9_6_0 c9_6_1 c9_6_2 c9_6_3 c9_6_4 c9_6_5 c9_6_6 c9_6_7 lt9_6 y9_6 c9_7_0 c9_7_1 c9_7_2 c9_7_3 c9_7_4 c9_7_5 c9_7_6 c9_7_7 lt9_7 y9_7 c9_8_0 c9_8_1 c9_8_2 c9_8_3 c9_8_4 lt9_8 y9_8 c9_9_0 c9_9_1 c9_9_2 c9_9_3 c9_9_4 c9_9_5 lt9_9 y9_9 c9_14_0 c9_14_1 c9_14_2 c9_14_3 c9_14_4 c9_14_5 c9_14_6 c9_14_7 lt9_14 y9_14 c9_15_0 c9_15_1 c9_15_2 c9_15_3 c9_15_4 c9_15_5 c9_15_6 c9_15_7 lt9_15 y9_15 c9_17_0 c9_17_1 c9_17_2 c9_17_3 c9_17_4 lt9_17 y9_17
  generalize hW : World.alloc _ _ = W21
  have hN : Own w0 W21 [row (u.heap.size + 1) 35 #[.iface 237 (.pointer (some ⟨u.heap.size, 0, none⟩)), .int .i32 loc], row (u.heap.size) 241 #[], row (B1) 35 #[.iface 206 (.pointer (some ⟨nd6, 0, none⟩)), .int .i32 loc], row (pb) 193 (PC.setIfInBounds 106 (.slice (some ⟨nd17, 0, none⟩) 2 (2 + (nd18)))), row (nd17) 56 (full symZ (symL ([sy ⟨#[70, 111, 111]⟩ (uz r 0), sy ⟨#[95, 95, 115, 117, 112, 101, 114, 71, 101, 116]⟩ 1])) (nd18)), ((mp, .map #[⟨.string ⟨#[95, 95, 115, 117, 112, 101, 114, 71, 101, 116]⟩, .agg #[.int .i32 loc, .int .u32 0, .int .u32 1], 0⟩] 1) : Rw), row (ms) 203 (MC.setIfInBounds 5 (.slice (some ⟨nd16, 0, none⟩) 1 (1 + (nd19)))), row (cr) 25 #[.int .u32 0, .int .u32 0], row (ec) 71 #[.iface 225 (.pointer (some ⟨nd10, 0, none⟩)), .int .i32 loc, .slice (some ⟨ab, 0, none⟩) n n, .int .i32 0, .int .u8 0, .int .u8 0, .bool false, .bool false], row (nd9) 71 #[.iface 209 (.pointer (some ⟨nd11, 0, none⟩)), .int .i32 loc, .slice (some ⟨nd12, 0, none⟩) 3 3, .int .i32 0, .int .u8 0, .int .u8 0, .bool false, .bool false], row (nd11) 211 #[.int .u32 0, .int .u32 1, .bool false, .bool false, .bool false], row (nd12) 35 #[.iface (clsTy s) (.pointer (some ⟨nd13, 0, none⟩)), .int .i32 loc, .iface (thsTy r) (.pointer (some ⟨nd15, 0, none⟩)), .int .i32 loc, .iface 206 (.pointer (some ⟨nd6, 0, none⟩)), .int .i32 loc], row (nd13) (clsT s) (clsC s loc (nd14)), row (nd14) (xtrT s) (xtrC s loc (nd13)), row (nd15) (thsT r) (thsC r), row (nd16) 25 (full refZ [.int .u32 0, .int .u32 1] (nd19)), row (nd10) 228 #[.iface 65 (.pointer (some ⟨nd9, 0, none⟩)), .int .i32 loc, .string ⟨#[99, 97, 108, 108]⟩, .int .i32 loc, .int .u8 0, .bool false, .bool false, .bool false], row (tg) 228 #[.iface 229 (.pointer (some ⟨sp, 0, none⟩)), .int .i32 loc, .string name, .int .i32 loc, .int .u8 0, .bool false, .bool false, .bool false], row (nd5) 51 (full u16Z (u16L name) (nd7)), row (nd6) 208 #[.slice (some ⟨nd5, 0, none⟩) (u16L name).length ((u16L name).length + (nd7)), .int .i32 0, .bool false, .bool false, .bool false], row (ab) 35 ((args loc blk n).toArray)] X := by
    rw [← hW]
    exact ((hO).alloc' _ (u.heap.size) (by simp)).alloc' _ (u.heap.size + 1) (by simp)
  clear hW hO
  generalize u.heap.size + 1 = B20_1 at hN ⊢
  generalize u.heap.size = B20 at hN ⊢
  have hO := hN
  clear hN
  have hL := hO.apart
  have hX := hO.apartX
  have HL := Lib.hid hL
  have HX := Lib.hid hX
  clear hL hX
  have hP9 := hO.pick [0, 8, 20] (by decide)
  generalize hX9_22 : Own.Rest _ _ X = X9_22 at hP9
  replace hP9 : Own w0 W21 [row (B20_1) 35 #[.iface 237 (.pointer (some ⟨B20, 0, none⟩)), .int .i32 loc], row (ec) 71 #[.iface 225 (.pointer (some ⟨nd10, 0, none⟩)), .int .i32 loc, .slice (some ⟨ab, 0, none⟩) n n, .int .i32 0, .int .u8 0, .int .u8 0, .bool false, .bool false], row (ab) 35 ((args loc blk n).toArray)] X9_22 := hP9
  clear hO
  have hO := hP9
  clear hP9
  have st9 := rLX04_st loc ec ab blk n nd10 B20_1 B20
  let R9 := rLX04R loc ec ab blk n nd10 B20_1 B20
  refine wp_region_own (e := rLX04E loc ec ab blk n nd10 B20_1 B20) (anc := rLX04Anc) (G := (fun L9 α u9 => OwnF w0 u9 (act rLX04Cnt 3 L9) (rLX04R loc ec ab blk n nd10 B20_1 B20 L9 α) X9_22)) (by kernel_rfl) (by kernel_rfl) (by kernel_rfl) (by kernel_rfl) (rLX04_he loc ec ab blk n nd10 B20_1 B20) ?_ (RunsAll.all ?_) ?_
  · have hp : ∀ i, act rLX04Cnt 3 (fun _ => false) i → i ∈ [999, 1999, 2999] := by
      intro i hi
      have h9 : i % 1000 = 999 := by
        by_cases h : i % 1000 = 999
        · exact h
        · exact absurd (act_lt hi h) (by simp)
      unfold act at hi
      rw [if_pos h9] at hi
      simp only [List.mem_cons, List.not_mem_nil, or_false]
      omega
    refine hO.drew.family (fun i hi => ?_) (fun i j hi hj hij => ?_)
    · have := hp i hi
      simp only [List.mem_cons, List.not_mem_nil, or_false] at this
      rcases this with rfl | rfl | rfl <;> rfl
    · have h1 := hp i hi
      have h2 := hp j hj
      simp only [List.mem_cons, List.not_mem_nil, or_false] at h1 h2
      omega
  · refine ⟨?_, ?_, ?_, ?_, ?_, ?_, ?_, ?_, ?_, ?_, ?_, trivial⟩
    · intro L9 α a9 u9 K9 hL hcl hA hG hS h0 hK
      replace hL : L9 0 = false := hL
      have q1 : a9.tmps[1]? = some (.pointer (some ⟨ec, 0, none⟩)) := (h0 1 (by kernel_rfl)).trans rfl
      have s1 := Rega.eval_of q1
      go_simp
      exact hK _ α _ (fun _ _ => rfl) rfl (step_same (st9) hL hcl rfl rfl hG)
    · intro L9 α a9 u9 K9 hL hcl hA hG hS h0 hK
      replace hL : L9 1 = false := hL
      have q8 : a9.tmps[8]? = some (.pointer (some ⟨B20_1, 0, none⟩)) := (h0 8 (by kernel_rfl)).trans rfl
      have s8 := Rega.eval_of q8
      have e0 : R9 L9 α 999 = row (B20_1) 35 #[.iface 237 (.pointer (some ⟨B20, 0, none⟩)), .int .i32 loc] := rfl
      have hr := hG.rowAt 999 (act_base 999 rfl) e0
      have c0 : u9.cell? ⟨B20_1, 0, none⟩ = some (.iface 237 (.pointer (some ⟨B20, 0, none⟩))) := hr.cell rfl
      have c1 : u9.cell? ⟨B20_1, 1, none⟩ = some (.int .i32 loc) := hr.cell rfl
      clear hr e0
      go_simp
      exact hK _ α _ (fun _ _ => rfl) rfl (step_same (st9) hL hcl rfl rfl hG)
    · intro L9 α a9 u9 K9 hL hcl hA hG hS h0 hK
      replace hL : L9 2 = false := hL
      have q78 : a9.tmps[78]? = some (.agg #[.iface 237 (.pointer (some ⟨B20, 0, none⟩)), .int .i32 loc]) := hS 1 78 (by decide) rfl (by show 78 < 87; decide)
      have s78 := Rega.eval_of q78
      go_simp
      have e1 : R9 (Rega.ran L9 2) (fun j => if j = 2 then u9.heap.size else α j) 2 = row (u9.heap.size) 35 #[.iface 237 (.pointer (some ⟨B20, 0, none⟩)), .int .i32 loc] := by
        show rLX04T2 loc ec ab blk n nd10 B20_1 B20 (Rega.ran L9 2) (fun j => if j = 2 then u9.heap.size else α j) = _
        unfold rLX04T2
        exact ((if_neg (fun e => (fun e => by have := hcl 7 e 2 (by decide); rw [hL] at this; cases this) ((ran_ne (by decide)).symm.trans e))).trans rfl)
      exact hK _ (fun j => if j = 2 then u9.heap.size else α j) _ (fun j hj => if_neg (fun e => hj (by rw [e]))) rfl (step_alloc (st9) hL hcl rfl rfl (by decide) _ e1 hG)
    · intro L9 α a9 u9 K9 hL hcl hA hG hS h0 hK
      replace hL : L9 3 = false := hL
      have q1 : a9.tmps[1]? = some (.pointer (some ⟨ec, 0, none⟩)) := (h0 1 (by kernel_rfl)).trans rfl
      have s1 := Rega.eval_of q1
      go_simp
      exact hK _ α _ (fun _ _ => rfl) rfl (step_same (st9) hL hcl rfl rfl hG)
    · intro L9 α a9 u9 K9 hL hcl hA hG hS h0 hK
      replace hL : L9 4 = false := hL
      have q80 : a9.tmps[80]? = some (.pointer (some ⟨ec, 0, none⟩)) := hS 3 80 (by decide) rfl (by show 80 < 87; decide)
      have s80 := Rega.eval_of q80
      go_simp
      exact hK _ α _ (fun _ _ => rfl) rfl (step_same (st9) hL hcl rfl rfl hG)
    · intro L9 α a9 u9 K9 hL hcl hA hG hS h0 hK
      replace hL : L9 5 = false := hL
      have q81 : a9.tmps[81]? = some (.pointer (some ⟨ec, 0, none⟩)) := hS 4 81 (by decide) rfl (by show 81 < 87; decide)
      have s81 := Rega.eval_of q81
      go_simp
      exact hK _ α _ (fun _ _ => rfl) rfl (step_same (st9) hL hcl rfl rfl hG)
    · intro L9 α a9 u9 K9 hL hcl hA hG hS h0 hK
      replace hL : L9 6 = false := hL
      have q82 : a9.tmps[82]? = some (.pointer (some ⟨ec, 2, none⟩)) := hS 5 82 (by decide) rfl (by show 82 < 87; decide)
      have s82 := Rega.eval_of q82
      have e0 : R9 L9 α 1999 = row (ec) 71 #[.iface 225 (.pointer (some ⟨nd10, 0, none⟩)), .int .i32 loc, .slice (some ⟨ab, 0, none⟩) n n, .int .i32 0, .int .u8 0, .int .u8 0, .bool false, .bool false] := by
        show rLX04T1999 loc ec ab blk n nd10 B20_1 B20 L9 α = _
        unfold rLX04T1999
        rw [if_neg (fun e => by have := hcl 10 e 6 (by decide); rw [hL] at this; cases this)]
      have hr := hG.rowAt 1999 (act_base 1999 rfl) e0
      have c0 : u9.cell? ⟨ec, 2, none⟩ = some (.slice (some ⟨ab, 0, none⟩) n n) := hr.cell rfl
      clear hr e0
      go_simp
      exact hK _ α _ (fun _ _ => rfl) rfl (step_same (st9) hL hcl rfl rfl hG)
    · intro L9 α a9 u9 K9 hL hcl hA hG hS h0 hK
      replace hL : L9 7 = false := hL
      have q79 : a9.tmps[79]? = some (.slice (some ⟨α 2, 0, none⟩) 1 1) := hS 2 79 (by decide) rfl (by show 79 < 87; decide)
      have s79 := Rega.eval_of q79
      have q83 : a9.tmps[83]? = some (.slice (some ⟨ab, 0, none⟩) n n) := hS 6 83 (by decide) rfl (by show 83 < 87; decide)
      have s83 := Rega.eval_of q83
      simp only [Region.wanted, if_true]
      have e0 : R9 L9 α 2 = row (α 2) 35 #[.iface 237 (.pointer (some ⟨B20, 0, none⟩)), .int .i32 loc] := by
        show rLX04T2 loc ec ab blk n nd10 B20_1 B20 L9 α = _
        unfold rLX04T2
        rw [if_neg (by rw [hL]; decide)]
      have e1 : R9 L9 α 2999 = row (ab) 35 ((args loc blk n).toArray) := rfl
      have hM : ∀ i, i ∈ [2, 2999] → act rLX04Cnt 3 L9 i := by
        intro i hi
        simp only [List.mem_cons, List.not_mem_nil, or_false] at hi
        rcases hi with rfl | rfl
        · exact act_new 2 rfl (hA 2 (by decide))
        · exact act_base 2999 rfl
      have hP : Own w0 u9 [row (α 2) 35 (full exprZ [.iface 237 (.pointer (some ⟨B20, 0, none⟩)), .int .i32 loc] 0), row (ab) 35 ((args loc blk n).toArray)] _ := (hG.pick [2, 2999] (by decide) hM).conv (by
        show [R9 L9 α 2, R9 L9 α 2999] = _
        rw [e0, e1, Own.full_nil])
      clear e0 e1 hM
      obtain ⟨i9, hi9, z1, z2, z3⟩ := info_parts infoExpr
      refine wp_append_full (Operand.tmp 79) (Operand.tmp 83) 44 rfl 35 i9 (.agg exprZ) 2 24 Tryd.underlying44 hi9 z1 z2 z3 rfl (by decide) hP s79 s83 (by first | rfl | assumption | (simp; done) | (simp; omega)) (by first | rfl | assumption | omega) (args_len _ _ _) (args_one _ _ _) (by first | decide | omega | (unfold maxLen; omega)) (by first | decide | omega | (unfold maxLen; omega)) ?_
      intro b0 b1 u1 hQ
      obtain ⟨α', hα'⟩ : ∃ α' : Rega.Atoms, α' = (fun j => if j = 7 then b0 else if j = 1007 then b1 else α j) := ⟨_, rfl⟩
      have f0 : R9 (Rega.ran L9 7) α' 2 = row (α' 7) 35 (full exprZ ([.iface 237 (.pointer (some ⟨B20, 0, none⟩)), .int .i32 loc] ++ (args loc blk n)) (α' 1007)) := by
        show rLX04T2 loc ec ab blk n nd10 B20_1 B20 (Rega.ran L9 7) α' = _
        unfold rLX04T2
        rw [if_pos (show Rega.ran L9 7 7 = true from rfl)]
      have f1 : R9 (Rega.ran L9 7) α' 2999 = row (ab) 35 ((args loc blk n).toArray) := rfl
      have hα : ∀ j, j % 1000 ≠ 7 → α' j = α j := fun j hj => by rw [hα']; simp only []; rw [if_neg (by omega), if_neg (by omega)]
      have hb0 : α' 7 = b0 := by rw [hα']; rfl
      have hb1 : α' 1007 = b1 := by rw [hα']; rfl
      refine hK _ α' _ hα ?_ (step_call (st9) hL hcl hα [2, 2999] [2, 2999] (by decide) (by decide) (by decide) (M := _) ?_ hG hQ)
      · show _ = (.slice (some ⟨α' 7, 0, none⟩) (1 + n) (1 + n + α' 1007) : Value)
        simp only [hb0, hb1]
      · show [R9 (Rega.ran L9 7) α' 2, R9 (Rega.ran L9 7) α' 2999] = _
        rw [f0, f1]
        simp only [hb0, hb1]
        try rfl
    · intro L9 α a9 u9 K9 hL hcl hA hG hS h0 hK
      replace hL : L9 8 = false := hL
      have q77 : a9.tmps[77]? = some (.pointer (some ⟨ec, 0, none⟩)) := hS 0 77 (by decide) rfl (by show 77 < 87; decide)
      have s77 := Rega.eval_of q77
      go_simp
      exact hK _ α _ (fun _ _ => rfl) rfl (step_same (st9) hL hcl rfl rfl hG)
    · intro L9 α a9 u9 K9 hL hcl hA hG hS h0 hK
      replace hL : L9 9 = false := hL
      have q85 : a9.tmps[85]? = some (.pointer (some ⟨ec, 0, none⟩)) := hS 8 85 (by decide) rfl (by show 85 < 87; decide)
      have s85 := Rega.eval_of q85
      go_simp
      exact hK _ α _ (fun _ _ => rfl) rfl (step_same (st9) hL hcl rfl rfl hG)
    · intro L9 α a9 u9 K9 hL hcl hA hG hS h0 hK
      replace hL : L9 10 = false := hL
      have q86 : a9.tmps[86]? = some (.pointer (some ⟨ec, 2, none⟩)) := hS 9 86 (by decide) rfl (by show 86 < 87; decide)
      have s86 := Rega.eval_of q86
      have q84 : a9.tmps[84]? = some (.slice (some ⟨α 7, 0, none⟩) (1 + n) (1 + n + α 1007)) := hS 7 84 (by decide) rfl (by show 84 < 87; decide)
      have s84 := Rega.eval_of q84
      have e0 : R9 L9 α 1999 = row (ec) 71 #[.iface 225 (.pointer (some ⟨nd10, 0, none⟩)), .int .i32 loc, .slice (some ⟨ab, 0, none⟩) n n, .int .i32 0, .int .u8 0, .int .u8 0, .bool false, .bool false] := by
        show rLX04T1999 loc ec ab blk n nd10 B20_1 B20 L9 α = _
        unfold rLX04T1999
        rw [if_neg (by rw [hL]; decide)]
      have hr := hG.rowAt 1999 (act_base 1999 rfl) e0
      have c0 : u9.cell? ⟨ec, 2, none⟩ = some (.slice (some ⟨ab, 0, none⟩) n n) := hr.cell rfl
      have y0 : u9.frozen? ⟨ec, 2, none⟩ = false := hr.free (2)
      clear hr
      have E0 := Lib.hid e0
      clear e0
      go_simp
      have e1 : R9 (Rega.ran L9 10) α 1999 = row (ec) 71 #[.iface 225 (.pointer (some ⟨nd10, 0, none⟩)), .int .i32 loc, .slice (some ⟨α 7, 0, none⟩) (1 + n) (1 + n + α 1007), .int .i32 0, .int .u8 0, .int .u8 0, .bool false, .bool false] := by
        show rLX04T1999 loc ec ab blk n nd10 B20_1 B20 (Rega.ran L9 10) α = _
        unfold rLX04T1999
        rw [if_pos (show Rega.ran L9 10 10 = true from rfl)]
      exact hK _ α _ (fun _ _ => rfl) rfl (step_sets (st9) hL hcl rfl 1999 rfl (act_base 1999 rfl) E0.out (2) [.slice (some ⟨α 7, 0, none⟩) (1 + n) (1 + n + α 1007)] (e1.trans rfl) hG)
  clear st9
  intro α u hG
  have e0 : R9 (fun k => decide (k < 11)) α 999 = row (B20_1) 35 #[.iface 237 (.pointer (some ⟨B20, 0, none⟩)), .int .i32 loc] := rfl
  have e1 : R9 (fun k => decide (k < 11)) α 1999 = row (ec) 71 #[.iface 225 (.pointer (some ⟨nd10, 0, none⟩)), .int .i32 loc, .slice (some ⟨α 7, 0, none⟩) (1 + n) (1 + n + α 1007), .int .i32 0, .int .u8 0, .int .u8 0, .bool false, .bool false] := by
    show rLX04T1999 loc ec ab blk n nd10 B20_1 B20 (fun k => decide (k < 11)) α = _
    unfold rLX04T1999
    rw [if_pos (by decide)]
  have e2 : R9 (fun k => decide (k < 11)) α 2999 = row (ab) 35 ((args loc blk n).toArray) := rfl
  have e3 : R9 (fun k => decide (k < 11)) α 2 = row (α 7) 35 (full exprZ ([.iface 237 (.pointer (some ⟨B20, 0, none⟩)), .int .i32 loc] ++ (args loc blk n)) (α 1007)) := by
    show rLX04T2 loc ec ab blk n nd10 B20_1 B20 (fun k => decide (k < 11)) α = _
    unfold rLX04T2
    rw [if_pos (by decide)]
  have hO : Own w0 u [row (B20_1) 35 #[.iface 237 (.pointer (some ⟨B20, 0, none⟩)), .int .i32 loc], row (ec) 71 #[.iface 225 (.pointer (some ⟨nd10, 0, none⟩)), .int .i32 loc, .slice (some ⟨α 7, 0, none⟩) (1 + n) (1 + n + α 1007), .int .i32 0, .int .u8 0, .int .u8 0, .bool false, .bool false], row (ab) 35 ((args loc blk n).toArray), row (α 7) 35 (full exprZ ([.iface 237 (.pointer (some ⟨B20, 0, none⟩)), .int .i32 loc] ++ (args loc blk n)) (α 1007))] X9_22 := (hG.list [999, 1999, 2999, 2] (by decide) (act_all (by decide))).conv (by
    show [R9 (fun k => decide (k < 11)) α 999, R9 (fun k => decide (k < 11)) α 1999, R9 (fun k => decide (k < 11)) α 2999, R9 (fun k => decide (k < 11)) α 2] = _
    rw [e0, e1, e2, e3])
  clear hG e0 e1 e2 e3 R9
  generalize hfr : Rega.frameAt _ _ _ _ _ = fr
  have hdf : fr = ⟨#[.pointer (some ⟨pb, 0, none⟩), .pointer (some ⟨ec, 0, none⟩), undef, undef, .pointer (some ⟨B1, 0, none⟩), .pointer (some ⟨tg, 0, none⟩), undef, undef, .pointer (some ⟨B20_1, 0, none⟩), .pointer (some ⟨ec, 0, none⟩), .pointer (some ⟨ec, 0, none⟩), .pointer (some ⟨ec, 0, none⟩), .pointer (some ⟨ec, 0, none⟩), .iface 225 (.pointer (some ⟨tg, 0, none⟩)), .tuple #[.pointer (some ⟨tg, 0, none⟩), .bool true], .bool true, .pointer (some ⟨tg, 0, none⟩), .pointer (some ⟨pb, 0, none⟩), .pointer (some ⟨tg, 0, none⟩), .pointer (some ⟨tg, 0, none⟩), .pointer (some ⟨tg, 0, none⟩), .agg #[.iface 229 (.pointer (some ⟨sp, 0, none⟩)), .int .i32 loc], .bool true, .bool false, .pointer (some ⟨tg, 0, none⟩), .pointer (some ⟨tg, 0, none⟩), .pointer (some ⟨tg, 3, none⟩), .agg #[.int .i32 loc], .pointer (some ⟨tg, 0, none⟩), .pointer (some ⟨tg, 0, none⟩), .pointer (some ⟨tg, 2, none⟩), .string name, .slice (some ⟨nd5, 0, none⟩) (u16L name).length ((u16L name).length + nd7), .agg #[.slice (some ⟨nd5, 0, none⟩) (u16L name).length ((u16L name).length + nd7), .int .i32 0, .bool false, .bool false, .bool false], .pointer (some ⟨nd6, 0, none⟩), .iface 206 (.pointer (some ⟨nd6, 0, none⟩)), .agg #[.iface 206 (.pointer (some ⟨nd6, 0, none⟩)), .int .i32 loc], undef, undef, undef, undef, undef, undef, undef, undef, undef, undef, undef, undef, undef, undef, .pointer (some ⟨ec, 0, none⟩), .pointer (some ⟨pb, 0, none⟩), .pointer (some ⟨ec, 0, none⟩), .pointer (some ⟨ec, 0, none⟩), .pointer (some ⟨ec, 0, none⟩), .pointer (some ⟨ec, 1, none⟩), .agg #[.int .i32 loc], .agg #[.iface 206 (.pointer (some ⟨nd6, 0, none⟩)), .int .i32 loc], .agg #[.iface 65 (.pointer (some ⟨nd9, 0, none⟩)), .int .i32 loc], .pointer (some ⟨B1, 1, none⟩), .agg #[.int .i32 loc], .agg #[.iface 65 (.pointer (some ⟨nd9, 0, none⟩)), .int .i32 loc, .string ⟨#[99, 97, 108, 108]⟩, .int .i32 loc, .int .u8 0, .bool false, .bool false, .bool false], .pointer (some ⟨nd10, 0, none⟩), .iface 225 (.pointer (some ⟨nd10, 0, none⟩)), .pointer (some ⟨ec, 0, none⟩), .pointer (some ⟨ec, 0, none⟩), .pointer (some ⟨ec, 0, none⟩), .pointer (some ⟨ec, 0, none⟩), .pointer (some ⟨ec, 0, none⟩), .pointer (some ⟨ec, 0, none⟩), .pointer (some ⟨ec, 1, none⟩), .agg #[.int .i32 loc], .agg #[], .pointer (some ⟨B20, 0, none⟩), .iface 237 (.pointer (some ⟨B20, 0, none⟩)), .agg #[.iface 237 (.pointer (some ⟨B20, 0, none⟩)), .int .i32 loc], .pointer (some ⟨ec, 0, none⟩), .agg #[.iface 237 (.pointer (some ⟨B20, 0, none⟩)), .int .i32 loc], .slice (some ⟨α 2, 0, none⟩) 1 1, .pointer (some ⟨ec, 0, none⟩), .pointer (some ⟨ec, 0, none⟩), .pointer (some ⟨ec, 2, none⟩), .slice (some ⟨ab, 0, none⟩) n n, .slice (some ⟨α 7, 0, none⟩) (1 + n) (1 + n + α 1007), .pointer (some ⟨ec, 0, none⟩), .pointer (some ⟨ec, 2, none⟩)], []⟩ := by rw [← hfr]; kernel_rfl
  clear hfr
  subst hdf
  generalize α 2 = nd23 at hO ⊢
  generalize α 7 = nd24 at hO ⊢
  generalize α 1007 = nd25 at hO ⊢
  clear α
  subst hX9_22
  have hN : Own w0 u [row (B20_1) 35 #[.iface 237 (.pointer (some ⟨B20, 0, none⟩)), .int .i32 loc], row (ec) 71 #[.iface 225 (.pointer (some ⟨nd10, 0, none⟩)), .int .i32 loc, .slice (some ⟨nd24, 0, none⟩) (1 + n) (1 + n + nd25), .int .i32 0, .int .u8 0, .int .u8 0, .bool false, .bool false], row (ab) 35 ((args loc blk n).toArray), row (nd24) 35 (full exprZ ([.iface 237 (.pointer (some ⟨B20, 0, none⟩)), .int .i32 loc] ++ (args loc blk n)) (nd25)), row (B20) 241 #[], row (B1) 35 #[.iface 206 (.pointer (some ⟨nd6, 0, none⟩)), .int .i32 loc], row (pb) 193 (PC.setIfInBounds 106 (.slice (some ⟨nd17, 0, none⟩) 2 (2 + (nd18)))), row (nd17) 56 (full symZ (symL ([sy ⟨#[70, 111, 111]⟩ (uz r 0), sy ⟨#[95, 95, 115, 117, 112, 101, 114, 71, 101, 116]⟩ 1])) (nd18)), ((mp, .map #[⟨.string ⟨#[95, 95, 115, 117, 112, 101, 114, 71, 101, 116]⟩, .agg #[.int .i32 loc, .int .u32 0, .int .u32 1], 0⟩] 1) : Rw), row (ms) 203 (MC.setIfInBounds 5 (.slice (some ⟨nd16, 0, none⟩) 1 (1 + (nd19)))), row (cr) 25 #[.int .u32 0, .int .u32 0], row (nd9) 71 #[.iface 209 (.pointer (some ⟨nd11, 0, none⟩)), .int .i32 loc, .slice (some ⟨nd12, 0, none⟩) 3 3, .int .i32 0, .int .u8 0, .int .u8 0, .bool false, .bool false], row (nd11) 211 #[.int .u32 0, .int .u32 1, .bool false, .bool false, .bool false], row (nd12) 35 #[.iface (clsTy s) (.pointer (some ⟨nd13, 0, none⟩)), .int .i32 loc, .iface (thsTy r) (.pointer (some ⟨nd15, 0, none⟩)), .int .i32 loc, .iface 206 (.pointer (some ⟨nd6, 0, none⟩)), .int .i32 loc], row (nd13) (clsT s) (clsC s loc (nd14)), row (nd14) (xtrT s) (xtrC s loc (nd13)), row (nd15) (thsT r) (thsC r), row (nd16) 25 (full refZ [.int .u32 0, .int .u32 1] (nd19)), row (nd10) 228 #[.iface 65 (.pointer (some ⟨nd9, 0, none⟩)), .int .i32 loc, .string ⟨#[99, 97, 108, 108]⟩, .int .i32 loc, .int .u8 0, .bool false, .bool false, .bool false], row (tg) 228 #[.iface 229 (.pointer (some ⟨sp, 0, none⟩)), .int .i32 loc, .string name, .int .i32 loc, .int .u8 0, .bool false, .bool false, .bool false], row (nd5) 51 (full u16Z (u16L name) (nd7)), row (nd6) 208 #[.slice (some ⟨nd5, 0, none⟩) (u16L name).length ((u16L name).length + (nd7)), .int .i32 0, .bool false, .bool false, .bool false]] X := hO.back HL.out HX.out [1, 2, 3, 4, 5, 6, 7, 9, 10, 11, 12, 13, 14, 15, 16, 17, 18, 19] (by decide) (by decide)
  clear hO HL HX
  have hO := hN
  clear hN
  obtain ⟨c9_0_0, c9_0_1, lt9_0, y9_0, -⟩ := hO.k2 0 rfl
  obtain ⟨c9_1_0, c9_1_1, c9_1_2, c9_1_3, c9_1_4, c9_1_5, c9_1_6, c9_1_7, lt9_1, y9_1, -⟩ := hO.k8 1 rfl
  obtain ⟨lt9_4, y9_4, -⟩ := hO.k0 4 rfl
  obtain ⟨c9_5_0, c9_5_1, lt9_5, y9_5, -⟩ := hO.k2 5 rfl
  obtain ⟨c9_10_0, c9_10_1, lt9_10, y9_10, -⟩ := hO.k2 10 rfl
  obtain ⟨c9_11_0, c9_11_1, c9_11_2, c9_11_3, c9_11_4, c9_11_5, c9_11_6, c9_11_7, lt9_11, y9_11, -⟩ := hO.k8 11 rfl
  obtain ⟨c9_12_0, c9_12_1, c9_12_2, c9_12_3, c9_12_4, lt9_12, y9_12, -⟩ := hO.k5 12 rfl
  obtain ⟨c9_13_0, c9_13_1, c9_13_2, c9_13_3, c9_13_4, c9_13_5, lt9_13, y9_13, -⟩ := hO.k6 13 rfl
  obtain ⟨c9_18_0, c9_18_1, c9_18_2, c9_18_3, c9_18_4, c9_18_5, c9_18_6, c9_18_7, lt9_18, y9_18, -⟩ := hO.k8 18 rfl
  obtain ⟨c9_19_0, c9_19_1, c9_19_2, c9_19_3, c9_19_4, c9_19_5, c9_19_6, c9_19_7, lt9_19, y9_19, -⟩ := hO.k8 19 rfl
  obtain ⟨c9_21_0, c9_21_1, c9_21_2, c9_21_3, c9_21_4, lt9_21, y9_21, -⟩ := hO.k5 21 rfl
  have HO := Lib.hid hO
  clear hO
  go_wp2_with (first | (with_reducible refine Own.stay (fn := Tryd.f47) ?_) | fail)
  try with_reducible refine Own.Stay.mk ?_
  have hO := HO.out
  clear HO c9_0_0 c9_0_1 lt9_0 y9_0 c9_1_0 c9_1_1 c9_1_2 c9_1_3 c9_1_4 c9_1_5 c9_1_6 c9_1_7 lt9_1 y9_1 lt9_4 y9_4 c9_5_0 c9_5_1 lt9_5 y9_5 c9_10_0 c9_10_1 lt9_10 y9_10 c9_11_0 c9_11_1 c9_11_2 c9_11_3 c9_11_4 c9_11_5 c9_11_6 c9_11_7 lt9_11 y9_11 c9_12_0 c9_12_1 c9_12_2 c9_12_3 c9_12_4 lt9_12 y9_12 c9_13_0 c9_13_1 c9_13_2 c9_13_3 c9_13_4 c9_13_5 lt9_13 y9_13 c9_18_0 c9_18_1 c9_18_2 c9_18_3 c9_18_4 c9_18_5 c9_18_6 c9_18_7 lt9_18 y9_18 c9_19_0 c9_19_1 c9_19_2 c9_19_3 c9_19_4 c9_19_5 c9_19_6 c9_19_7 lt9_19 y9_19 c9_21_0 c9_21_1 c9_21_2 c9_21_3 c9_21_4 lt9_21 y9_21
  refine bodyPost_ret (v := .tuple #[]) ?_ rfl ⟨nd9, nd11, nd12, nd13, nd14, nd15, nd17, nd18, nd16, nd19, nd10, B20, nd24, nd25, nd6, nd5, nd7, rfl, hO.sub [6, 7, 8, 9, 17, 10, 12, 11, 13, 14, 15, 16, 1, 18, 3, 21, 20] (by decide)⟩
  simp [results, Tryd.results47, go_sem]
end Go.Proofs.YtkhmjppfogppoaaDoor.Use
