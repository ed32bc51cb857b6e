/- The law on a super call, walked. No condition. -/
import Derived.Test.YtkhmjppfogppoaaDoorBax
import Derived.Test.YtkhmjppfogppoaaDoorAra
import Derived.Test.YtkhmjppfogppoaaDoorRdx
import Derived.Test.YtkhmjppfogppoaaDoorDoorX
import Derived.Test.YtkhmjppfogppoaaDoorNewL
import Derived.Test.YtkhmjppfogppoaaDoorWuU
import Derived.Test.YtkhmjppfogppoaaDoorUniG
import Derived.Test.YtkhmjppfogppoaaDoorKit2
import Derived.Test.YtkhmjppfogppoaaDoorKit
import Derived.Test.YtkhmjppfogppoaaDoorUey
import Derived.Test.YtkhmjppfogppoaaDoorUex
import Derived.Test.YtkhmjppfogppoaaDoorU16z
import Derived.Test.YtkhmjppfogppoaaDoorU16x
import Derived.Test.YtkhmjppfogppoaaDoorLoop
import Derived.Test.YtkhmjppfogppoaaDoorLive
import Derived.Test.YtkhmjppfogppoaaDoorApp
import Derived.Test.YtkhmjppfogppoaaDoorOwnK
import Derived.Test.YtkhmjppfogppoaaDoorOwn
import Derived.Test.YtkhmjppfogppoaaDoorDeepCells
import Derived.Test.YtkhmjppfogppoaaDoorRows
import Derived.Test.YtkhmjppfogppoaaDoorUse
namespace Go.Proofs.YtkhmjppfogppoaaDoor.Use
open Go.ChangeShapes Go.WideShapes Go.ChangeAt Go.RowKit Go.Sort Own
set_option linter.unusedVariables false
noncomputable def rlaw44y01E (s : Bool) (r : Bool) (im : Int) (B1_1 : Nat) (B1 : Nat) : Nat → Rega.Atoms → Value
  | 0, α => .slice (some ⟨α 0, 0, none⟩) 1 1
  | 1, α => .agg #[.int .u32 0, .int .u32 0]
  | 2, α => .bool s
  | 3, α => .bool r
  | 4, α => .bool true
  | 5, α => .pointer (some ⟨α 5, 0, none⟩)
  | 6, α => .pointer (some ⟨α 5, 0, none⟩)
  | _, _ => undef
noncomputable def rlaw44y01Anc : Nat → List Nat
  | 5 => [0, 1, 2, 3, 4]
  | 6 => [0, 1, 2, 3, 4, 5]
  | _ => []
noncomputable def rlaw44y01Trn : Nat → List Nat
  | _ => []
noncomputable def rlaw44y01Cnt : List (Nat × Nat) := [(0, 1), (5, 4)]
noncomputable def rlaw44y01R (s : Bool) (r : Bool) (im : Int) (B1_1 : Nat) (B1 : Nat) (L9 : Nat → Bool) (α : Rega.Atoms) (ix9 : Nat) : Rw := if ix9 = 999 then row (B1_1) 25 #[.int .u32 5, .int .u32 im] else if ix9 = 1999 then row (B1) 25 #[.int .u32 0, .int .u32 0] else if ix9 = 0 then row (α 0) 56 (full symZ (symL ([sy ⟨#[70, 111, 111]⟩ 0])) 0) else if ix9 = 5 then row (α 5) 193 (newSrslP r s true (α 0) (α 1005) (α 2005) (α 3005)) else if ix9 = 1005 then ((α 1005, .map #[] 0) : Rw) else if ix9 = 2005 then row (α 2005) 203 #[.pointer none, .pointer none, .slice none 0 0, .map none, .slice none 0 0, .slice none 0 0, .int .i32 0, .int .i32 0, .int .u32 0, .int .u32 0, .bool false, .bool false, .bool false, .bool false, .int .u8 0, .int .u8 6] else if ix9 = 3005 then row (α 3005) 25 #[.int .u32 0, .int .u32 0] else (0, .map #[] 0)
theorem rlaw44y01_he (s : Bool) (r : Bool) (im : Int) (B1_1 : Nat) (B1 : Nat) : ∀ kk α α', (∀ j, (j % 1000 = kk ∨ j % 1000 ∈ rlaw44y01Anc kk) → α j = α' j) → rlaw44y01E s r im B1_1 B1 kk α = rlaw44y01E s r im B1_1 B1 kk α' := by
  intro kk α α' h
  match kk with
  | 0 => simp only [rlaw44y01E, h 0 (Or.inl rfl)]
  | 1 => rfl
  | 2 => rfl
  | 3 => rfl
  | 4 => rfl
  | 5 => simp only [rlaw44y01E, h 5 (Or.inl rfl)]
  | 6 => simp only [rlaw44y01E, h 5 (Or.inr (by decide))]
  | n + 7 => rfl
theorem rlaw44y01_st (s : Bool) (r : Bool) (im : Int) (B1_1 : Nat) (B1 : Nat) : Stable rlaw44y01Cnt 2 rlaw44y01Anc rlaw44y01Trn (rlaw44y01R s r im B1_1 B1) := by
  intro k9 L9 α α' ix9 hk hcl hα hact ht
  have hp := act_places hact
  replace hp : ix9 ∈ [999, 1999, 0, 5, 1005, 2005, 3005] := hp
  simp only [List.mem_cons, List.not_mem_nil, or_false] at hp
  rcases hp with rfl | rfl | rfl | rfl | rfl | rfl | rfl
  · rfl
  · rfl
  · have e0 : L9 0 = true := act_lt hact (by decide)
    show row (α' 0) 56 (full symZ (symL ([sy ⟨#[70, 111, 111]⟩ 0])) 0) = row (α 0) 56 (full symZ (symL ([sy ⟨#[70, 111, 111]⟩ 0])) 0)
    simp only [hα 0 (ne_ran hk e0)]
  · have e0 : L9 5 = true := act_lt hact (by decide)
    show row (α' 5) 193 (newSrslP r s true (α' 0) (α' 1005) (α' 2005) (α' 3005)) = row (α 5) 193 (newSrslP r s true (α 0) (α 1005) (α 2005) (α 3005))
    simp only [hα 0 (ne_ran hk (hcl 5 e0 0 (by decide))), hα 5 (ne_ran hk e0), hα 1005 (ne_ran hk e0), hα 2005 (ne_ran hk e0), hα 3005 (ne_ran hk e0)]
  · have e0 : L9 5 = true := act_lt hact (by decide)
    show ((α' 1005, .map #[] 0) : Rw) = ((α 1005, .map #[] 0) : Rw)
    simp only [hα 1005 (ne_ran hk e0)]
  · have e0 : L9 5 = true := act_lt hact (by decide)
    show row (α' 2005) 203 #[.pointer none, .pointer none, .slice none 0 0, .map none, .slice none 0 0, .slice none 0 0, .int .i32 0, .int .i32 0, .int .u32 0, .int .u32 0, .bool false, .bool false, .bool false, .bool false, .int .u8 0, .int .u8 6] = row (α 2005) 203 #[.pointer none, .pointer none, .slice none 0 0, .map none, .slice none 0 0, .slice none 0 0, .int .i32 0, .int .i32 0, .int .u32 0, .int .u32 0, .bool false, .bool false, .bool false, .bool false, .int .u8 0, .int .u8 6]
    simp only [hα 2005 (ne_ran hk e0)]
  · have e0 : L9 5 = true := act_lt hact (by decide)
    show row (α' 3005) 25 #[.int .u32 0, .int .u32 0] = row (α 3005) 25 #[.int .u32 0, .int .u32 0]
    simp only [hα 3005 (ne_ran hk e0)]
noncomputable def rlaw44y09E (s : Bool) (r : Bool) (loc : Int) (B1 : Nat) (nd18 : Nat) (nd19 : Nat) (nd20 : Nat) (nd21 : Nat) (nd30 : Nat) : Nat → Rega.Atoms → Value
  | 0, α => .bool true
  | 1, α => .bool false
  | 2, α => .bool false
  | 3, α => .slice (some ⟨nd18, 0, none⟩) 3 3
  | 4, α => .pointer (some ⟨nd18, 0, none⟩)
  | 5, α => .agg #[.iface (clsTy s) (.pointer (some ⟨nd19, 0, none⟩)), .int .i32 loc]
  | 6, α => .agg #[.int .u32 0, .int .u32 0]
  | 7, α => .bool s
  | 8, α => .bool true
  | 9, α => .bool false
  | 10, α => .bool false
  | 11, α => .bool false
  | 12, α => .slice (some ⟨nd18, 0, none⟩) 3 3
  | 13, α => .pointer (some ⟨nd18, 2, none⟩)
  | 14, α => .agg #[.iface (thsTy r) (.pointer (some ⟨nd21, 0, none⟩)), .int .i32 loc]
  | 15, α => .agg #[.int .u32 0, .int .u32 0]
  | 16, α => .bool r
  | 17, α => .bool true
  | 18, α => .bool false
  | 19, α => .bool false
  | _, _ => undef
noncomputable def rlaw44y09Anc : Nat → List Nat
  | 1 => [0]
  | 2 => [0, 1]
  | 3 => [0, 1, 2]
  | 4 => [0, 1, 2, 3]
  | 5 => [0, 1, 2, 3, 4]
  | 6 => [0, 1, 2]
  | 7 => [0, 1, 2]
  | 8 => [0, 1, 2, 3, 4, 5, 6, 7]
  | 9 => [0, 1, 2, 3, 4, 5, 6, 7, 8]
  | 10 => [0, 1, 2, 3, 4, 5, 6, 7, 8, 9]
  | 11 => [0, 1, 2, 3, 4, 5, 6, 7, 8, 9, 10]
  | 12 => [0, 1, 2, 3, 4, 5, 6, 7, 8, 9, 10, 11]
  | 13 => [0, 1, 2, 3, 4, 5, 6, 7, 8, 9, 10, 11, 12]
  | 14 => [0, 1, 2, 3, 4, 5, 6, 7, 8, 9, 10, 11, 12, 13]
  | 15 => [0, 1, 2, 3, 4, 5, 6, 7, 8, 9, 10, 11]
  | 16 => [0, 1, 2, 3, 4, 5, 6, 7, 8, 9, 10, 11]
  | 17 => [0, 1, 2, 3, 4, 5, 6, 7, 8, 9, 10, 11, 12, 13, 14, 15, 16]
  | 18 => [0, 1, 2, 3, 4, 5, 6, 7, 8, 9, 10, 11, 12, 13, 14, 15, 16, 17]
  | 19 => [0, 1, 2, 3, 4, 5, 6, 7, 8, 9, 10, 11, 12, 13, 14, 15, 16, 17, 18]
  | _ => []
noncomputable def rlaw44y09Trn : Nat → List Nat
  | _ => []
noncomputable def rlaw44y09Cnt : List (Nat × Nat) := []
noncomputable def rlaw44y09R (s : Bool) (r : Bool) (loc : Int) (B1 : Nat) (nd18 : Nat) (nd19 : Nat) (nd20 : Nat) (nd21 : Nat) (nd30 : Nat) (L9 : Nat → Bool) (α : Rega.Atoms) (ix9 : Nat) : Rw := if ix9 = 999 then row (nd18) 35 #[.iface (clsTy s) (.pointer (some ⟨nd19, 0, none⟩)), .int .i32 loc, .iface (thsTy r) (.pointer (some ⟨nd21, 0, none⟩)), .int .i32 loc, .iface 206 (.pointer (some ⟨nd30, 0, none⟩)), .int .i32 loc] else if ix9 = 1999 then row (nd19) (clsT s) (clsC s loc nd20) else if ix9 = 2999 then row (nd20) (xtrT s) (xtrC s loc nd19) else if ix9 = 3999 then row (nd21) (thsT r) (thsC r) else if ix9 = 4999 then row (B1) 25 #[.int .u32 0, .int .u32 0] else (0, .map #[] 0)
theorem rlaw44y09_he (s : Bool) (r : Bool) (loc : Int) (B1 : Nat) (nd18 : Nat) (nd19 : Nat) (nd20 : Nat) (nd21 : Nat) (nd30 : Nat) : ∀ kk α α', (∀ j, (j % 1000 = kk ∨ j % 1000 ∈ rlaw44y09Anc kk) → α j = α' j) → rlaw44y09E s r loc B1 nd18 nd19 nd20 nd21 nd30 kk α = rlaw44y09E s r loc B1 nd18 nd19 nd20 nd21 nd30 kk α' := by
  intro kk α α' h
  match kk with
  | 0 => rfl
  | 1 => rfl
  | 2 => rfl
  | 3 => rfl
  | 4 => rfl
  | 5 => rfl
  | 6 => rfl
  | 7 => rfl
  | 8 => rfl
  | 9 => rfl
  | 10 => rfl
  | 11 => rfl
  | 12 => rfl
  | 13 => rfl
  | 14 => rfl
  | 15 => rfl
  | 16 => rfl
  | 17 => rfl
  | 18 => rfl
  | 19 => rfl
  | n + 20 => rfl
theorem rlaw44y09_st (s : Bool) (r : Bool) (loc : Int) (B1 : Nat) (nd18 : Nat) (nd19 : Nat) (nd20 : Nat) (nd21 : Nat) (nd30 : Nat) : Stable rlaw44y09Cnt 5 rlaw44y09Anc rlaw44y09Trn (rlaw44y09R s r loc B1 nd18 nd19 nd20 nd21 nd30) := by
  intro k9 L9 α α' ix9 hk hcl hα hact ht
  have hp := act_places hact
  replace hp : ix9 ∈ [999, 1999, 2999, 3999, 4999] := hp
  simp only [List.mem_cons, List.not_mem_nil, or_false] at hp
  rcases hp with rfl | rfl | rfl | rfl | rfl
  · rfl
  · rfl
  · rfl
  · rfl
  · rfl
noncomputable def rlaw44y010E (name : ByteArray) (s : Bool) (r : Bool) (loc : Int) (nd18 : Nat) (nd19 : Nat) (nd21 : Nat) (nd30 : Nat) (nd31 : Nat) (nd32 : Nat) : Nat → Rega.Atoms → Value
  | 0, α => .slice (some ⟨nd18, 0, none⟩) 3 3
  | 1, α => .pointer (some ⟨nd18, 4, none⟩)
  | 2, α => .agg #[.iface 206 (.pointer (some ⟨nd30, 0, none⟩)), .int .i32 loc]
  | 3, α => .string name
  | 4, α => .slice (some ⟨α 4, 0, none⟩) (u16L name).length ((u16L name).length + (α 1004))
  | 5, α => .bool true
  | 6, α => .bool false
  | _, _ => undef
noncomputable def rlaw44y010Anc : Nat → List Nat
  | 1 => [0]
  | 2 => [0, 1]
  | 4 => [3]
  | 5 => [0, 1, 2, 3, 4]
  | 6 => [0, 1, 2, 3, 4, 5]
  | _ => []
noncomputable def rlaw44y010Trn : Nat → List Nat
  | _ => []
noncomputable def rlaw44y010Cnt : List (Nat × Nat) := [(4, 1)]
noncomputable def rlaw44y010R (name : ByteArray) (s : Bool) (r : Bool) (loc : Int) (nd18 : Nat) (nd19 : Nat) (nd21 : Nat) (nd30 : Nat) (nd31 : Nat) (nd32 : Nat) (L9 : Nat → Bool) (α : Rega.Atoms) (ix9 : Nat) : Rw := if ix9 = 999 then row (nd18) 35 #[.iface (clsTy s) (.pointer (some ⟨nd19, 0, none⟩)), .int .i32 loc, .iface (thsTy r) (.pointer (some ⟨nd21, 0, none⟩)), .int .i32 loc, .iface 206 (.pointer (some ⟨nd30, 0, none⟩)), .int .i32 loc] else if ix9 = 1999 then row (nd30) 208 #[.slice (some ⟨nd31, 0, none⟩) (u16L name).length ((u16L name).length + nd32), .int .i32 0, .bool false, .bool false, .bool false] else if ix9 = 2999 then row (nd31) 51 (full u16Z (u16L name) nd32) else if ix9 = 4 then row (α 4) 51 (full u16Z (u16L name) (α 1004)) else (0, .map #[] 0)
theorem rlaw44y010_he (name : ByteArray) (s : Bool) (r : Bool) (loc : Int) (nd18 : Nat) (nd19 : Nat) (nd21 : Nat) (nd30 : Nat) (nd31 : Nat) (nd32 : Nat) : ∀ kk α α', (∀ j, (j % 1000 = kk ∨ j % 1000 ∈ rlaw44y010Anc kk) → α j = α' j) → rlaw44y010E name s r loc nd18 nd19 nd21 nd30 nd31 nd32 kk α = rlaw44y010E name s r loc nd18 nd19 nd21 nd30 nd31 nd32 kk α' := by
  intro kk α α' h
  match kk with
  | 0 => rfl
  | 1 => rfl
  | 2 => rfl
  | 3 => rfl
  | 4 => simp only [rlaw44y010E, h 4 (Or.inl rfl), h 1004 (Or.inl rfl)]
  | 5 => rfl
  | 6 => rfl
  | n + 7 => rfl
theorem rlaw44y010_st (name : ByteArray) (s : Bool) (r : Bool) (loc : Int) (nd18 : Nat) (nd19 : Nat) (nd21 : Nat) (nd30 : Nat) (nd31 : Nat) (nd32 : Nat) : Stable rlaw44y010Cnt 3 rlaw44y010Anc rlaw44y010Trn (rlaw44y010R name s r loc nd18 nd19 nd21 nd30 nd31 nd32) := by
  intro k9 L9 α α' ix9 hk hcl hα hact ht
  have hp := act_places hact
  replace hp : ix9 ∈ [999, 1999, 2999, 4] := hp
  simp only [List.mem_cons, List.not_mem_nil, or_false] at hp
  rcases hp with rfl | rfl | rfl | rfl
  · rfl
  · rfl
  · rfl
  · have e0 : L9 4 = true := act_lt hact (by decide)
    show row (α' 4) 51 (full u16Z (u16L name) (α' 1004)) = row (α 4) 51 (full u16Z (u16L name) (α 1004))
    simp only [hα 4 (ne_ran hk e0), hα 1004 (ne_ran hk e0)]
noncomputable def rlaw44y013E (r : Bool) (nd22 : Nat) (nd23 : Nat) : Nat → Rega.Atoms → Value
  | 0, α => .slice (some ⟨nd22, 0, none⟩) 2 (2 + nd23)
  | 1, α => .pointer (some ⟨nd22, 0, none⟩)
  | 2, α => .pointer (some ⟨nd22, 4, none⟩)
  | 3, α => .int .u32 (uz r 0 : Int)
  | 4, α => .bool r
  | 5, α => .int .u32 (uz r 0 : Int)
  | 6, α => .bool true
  | 7, α => .bool true
  | _, _ => undef
noncomputable def rlaw44y013Anc : Nat → List Nat
  | 1 => [0]
  | 2 => [0, 1]
  | 3 => [0, 1, 2]
  | 5 => [4]
  | 6 => [0, 1, 2, 3, 4, 5]
  | 7 => [0, 1, 2, 3, 4, 5, 6]
  | _ => []
noncomputable def rlaw44y013Trn : Nat → List Nat
  | _ => []
noncomputable def rlaw44y013Cnt : List (Nat × Nat) := []
noncomputable def rlaw44y013R (r : Bool) (nd22 : Nat) (nd23 : Nat) (L9 : Nat → Bool) (α : Rega.Atoms) (ix9 : Nat) : Rw := if ix9 = 999 then row (nd22) 56 (full symZ (symL ([sy ⟨#[70, 111, 111]⟩ (uz r 0), sy ⟨#[95, 95, 115, 117, 112, 101, 114, 71, 101, 116]⟩ 1])) nd23) else (0, .map #[] 0)
theorem rlaw44y013_he (r : Bool) (nd22 : Nat) (nd23 : Nat) : ∀ kk α α', (∀ j, (j % 1000 = kk ∨ j % 1000 ∈ rlaw44y013Anc kk) → α j = α' j) → rlaw44y013E r nd22 nd23 kk α = rlaw44y013E r nd22 nd23 kk α' := by
  intro kk α α' h
  match kk with
  | 0 => rfl
  | 1 => rfl
  | 2 => rfl
  | 3 => rfl
  | 4 => rfl
  | 5 => rfl
  | 6 => rfl
  | 7 => rfl
  | n + 8 => rfl
theorem rlaw44y013_st (r : Bool) (nd22 : Nat) (nd23 : Nat) : Stable rlaw44y013Cnt 1 rlaw44y013Anc rlaw44y013Trn (rlaw44y013R r nd22 nd23) := by
  intro k9 L9 α α' ix9 hk hcl hα hact ht
  have hp := act_places hact
  replace hp : ix9 ∈ [999] := hp
  simp only [List.mem_cons, List.not_mem_nil, or_false] at hp
  subst hp
  rfl
def law44y0Post (kind : Int) (name : ByteArray) (n : Nat) (s r : Bool) (loc im : Int) (w0 : World) (X : Nat → Obj → Prop) (e : Ending) (w' : World) : Prop :=
  e = .returned (.bool true) ∧ Own w0 w' [] X
set_option maxRecDepth 100000 in
set_option maxHeartbeats 1000000 in
theorem law44y0 (kind : Int) (name : ByteArray) (n : Nat) (s r : Bool) (loc im : Int) (w0 w : World) (X : Nat → Obj → Prop) (hO : Own w0 w [] X) (hkd : kind.tmod 4 = 0) (hlen : name.size ≤ 65536) (hn : n ≤ 4096) (hg0 : w0.cell? ⟨0, 0, none⟩ = some (.int .u32 4294967295)) (hg1 : w0.cell? ⟨0, 1, none⟩ = some (.int .u32 4294967295)) :
    Calls Tryd.prog 7 #[.int .u8 kind, .string name, .int .i64 (n : Int), .bool true, .bool s, .bool r, .int .i32 loc, .int .u32 im] w (law44y0Post kind name n s r loc im w0 X) := by
  go_enter Tryd.func7, Tryd.ntmps7
  have hl9 : (name.size : Int) ≤ 65536 := by omega
  have hn9 : (n : Int) ≤ 4096 := by omega
  go_wp2_with (first | (with_reducible refine Own.stay (fn := Tryd.f7) ?_) | (first | (go_at_call 31; go_in)))
  try with_reducible refine Own.Stay.mk ?_
  generalize hW : World.alloc _ _ = W2
  have hN : Own w0 W2 [row (w.heap.size + 1) 25 #[.int .u32 5, .int .u32 im], row (w.heap.size) 25 #[.int .u32 0, .int .u32 0]] X := by
    rw [← hW]
    exact ((hO).alloc' _ (w.heap.size) (by simp)).alloc' _ (w.heap.size + 1) (by simp)
  clear hW hO
  generalize w.heap.size + 1 = B1_1 at hN ⊢
  generalize w.heap.size = B1 at hN ⊢
  have hO := hN
  clear hN
  have st9 := rlaw44y01_st s r im B1_1 B1
  let R9 := rlaw44y01R s r im B1_1 B1
  refine wp_region_own (e := rlaw44y01E s r im B1_1 B1) (anc := rlaw44y01Anc) (G := (fun L9 α u9 => OwnF w0 u9 (act rlaw44y01Cnt 2 L9) (rlaw44y01R s r im B1_1 B1 L9 α) X)) (by kernel_rfl) (by kernel_rfl) (by kernel_rfl) (by kernel_rfl) (rlaw44y01_he s r im B1_1 B1) ?_ (RunsAll.all ?_) ?_
  · have hp : ∀ i, act rlaw44y01Cnt 2 (fun _ => false) i → i ∈ [999, 1999] := by
      intro i hi
      have h9 : i % 1000 = 999 := by
        by_cases h : i % 1000 = 999
        · exact h
        · exact absurd (act_lt hi h) (by simp)
      unfold act at hi
      rw [if_pos h9] at hi
      simp only [List.mem_cons, List.not_mem_nil, or_false]
      omega
    refine hO.drew.family (fun i hi => ?_) (fun i j hi hj hij => ?_)
    · have := hp i hi
      simp only [List.mem_cons, List.not_mem_nil, or_false] at this
      rcases this with rfl | rfl <;> rfl
    · have h1 := hp i hi
      have h2 := hp j hj
      simp only [List.mem_cons, List.not_mem_nil, or_false] at h1 h2
      omega
  · refine ⟨?_, ?_, ?_, ?_, ?_, ?_, ?_, trivial⟩
    · intro L9 α a9 u9 K9 hL hcl hA hG hS h0 hK
      replace hL : L9 0 = false := hL
      go_simp
      have hM : ∀ i, i ∈ [] → act rlaw44y01Cnt 2 L9 i := by intro i hi; simp at hi
      have hP : Own w0 u9 [] _ := hG.pick [] (by decide) (by simp)
      clear hM
      refine Calls.mono (classSyms  _ _ _ hP hg0 hg1) ?_
      rintro e9 u1 ⟨b0, rfl, hQ⟩
      obtain ⟨α', hα'⟩ : ∃ α' : Rega.Atoms, α' = (fun j => if j = 0 then b0 else α j) := ⟨_, rfl⟩
      have f0 : R9 (Rega.ran L9 0) α' 0 = row (α' 0) 56 (full symZ (symL ([sy ⟨#[70, 111, 111]⟩ 0])) 0) := rfl
      have hα : ∀ j, j % 1000 ≠ 0 → α' j = α j := fun j hj => by rw [hα']; simp only []; rw [if_neg (by omega)]
      have hb0 : α' 0 = b0 := by rw [hα']; rfl
      skip
      refine hK _ α' _ hα ?_ (step_call (st9) hL hcl hα [] [0] (by decide) (by decide) (by decide) (M := _) ?_ hG hQ)
      · show _ = (.slice (some ⟨α' 0, 0, none⟩) 1 1 : Value)
        simp only [hb0]
      · show [R9 (Rega.ran L9 0) α' 0] = _
        rw [f0]
        simp only [hb0]
    · intro L9 α a9 u9 K9 hL hcl hA hG hS h0 hK
      replace hL : L9 1 = false := hL
      have q17 : a9.tmps[17]? = some (.pointer (some ⟨B1, 0, none⟩)) := (h0 17 (by kernel_rfl)).trans rfl
      have s17 := Rega.eval_of q17
      have e0 : R9 L9 α 1999 = row (B1) 25 #[.int .u32 0, .int .u32 0] := rfl
      have hr := hG.rowAt 1999 (act_base 1999 rfl) e0
      have c0 : u9.cell? ⟨B1, 0, none⟩ = some (.int .u32 0) := hr.cell rfl
      have c1 : u9.cell? ⟨B1, 1, none⟩ = some (.int .u32 0) := hr.cell rfl
      clear hr e0
      go_simp
      exact hK _ α _ (fun _ _ => rfl) rfl (step_same (st9) hL hcl rfl rfl hG)
    · intro L9 α a9 u9 K9 hL hcl hA hG hS h0 hK
      replace hL : L9 2 = false := hL
      have q4 : a9.tmps[4]? = some (.bool s) := (h0 4 (by kernel_rfl)).trans rfl
      have s4 := Rega.eval_of q4
      go_simp
      exact hK _ α _ (fun _ _ => rfl) rfl (step_same (st9) hL hcl rfl rfl hG)
    · intro L9 α a9 u9 K9 hL hcl hA hG hS h0 hK
      replace hL : L9 3 = false := hL
      have q5 : a9.tmps[5]? = some (.bool r) := (h0 5 (by kernel_rfl)).trans rfl
      have s5 := Rega.eval_of q5
      go_simp
      exact hK _ α _ (fun _ _ => rfl) rfl (step_same (st9) hL hcl rfl rfl hG)
    · intro L9 α a9 u9 K9 hL hcl hA hG hS h0 hK
      replace hL : L9 4 = false := hL
      have q3 : a9.tmps[3]? = some (.bool true) := (h0 3 (by kernel_rfl)).trans rfl
      have s3 := Rega.eval_of q3
      go_simp
      exact hK _ α _ (fun _ _ => rfl) rfl (step_same (st9) hL hcl rfl rfl hG)
    · intro L9 α a9 u9 K9 hL hcl hA hG hS h0 hK
      replace hL : L9 5 = false := hL
      have q69 : a9.tmps[69]? = some (.slice (some ⟨α 0, 0, none⟩) 1 1) := hS 0 69 (by decide) rfl (by show 69 < 342; decide)
      have s69 := Rega.eval_of q69
      have q70 : a9.tmps[70]? = some (.agg #[.int .u32 0, .int .u32 0]) := hS 1 70 (by decide) rfl (by show 70 < 342; decide)
      have s70 := Rega.eval_of q70
      have q71 : a9.tmps[71]? = some (.bool s) := hS 2 71 (by decide) rfl (by show 71 < 342; decide)
      have s71 := Rega.eval_of q71
      have q72 : a9.tmps[72]? = some (.bool r) := hS 3 72 (by decide) rfl (by show 72 < 342; decide)
      have s72 := Rega.eval_of q72
      have q73 : a9.tmps[73]? = some (.bool true) := hS 4 73 (by decide) rfl (by show 73 < 342; decide)
      have s73 := Rega.eval_of q73
      go_simp
      have hM : ∀ i, i ∈ [] → act rlaw44y01Cnt 2 L9 i := by intro i hi; simp at hi
      have hP : Own w0 u9 [] _ := hG.pick [] (by decide) (by simp)
      clear hM
      refine Calls.mono (newSrsl r s true (α 0) _ _ _ hP ) ?_
      rintro e9 u1 ⟨b0, b1, b2, b3, rfl, hQ⟩
      obtain ⟨α', hα'⟩ : ∃ α' : Rega.Atoms, α' = (fun j => if j = 5 then b0 else if j = 1005 then b1 else if j = 2005 then b2 else if j = 3005 then b3 else α j) := ⟨_, rfl⟩
      have f0 : R9 (Rega.ran L9 5) α' 5 = row (α' 5) 193 (newSrslP r s true (α' 0) (α' 1005) (α' 2005) (α' 3005)) := rfl
      have f1 : R9 (Rega.ran L9 5) α' 1005 = ((α' 1005, .map #[] 0) : Rw) := rfl
      have f2 : R9 (Rega.ran L9 5) α' 2005 = row (α' 2005) 203 #[.pointer none, .pointer none, .slice none 0 0, .map none, .slice none 0 0, .slice none 0 0, .int .i32 0, .int .i32 0, .int .u32 0, .int .u32 0, .bool false, .bool false, .bool false, .bool false, .int .u8 0, .int .u8 6] := rfl
      have f3 : R9 (Rega.ran L9 5) α' 3005 = row (α' 3005) 25 #[.int .u32 0, .int .u32 0] := rfl
      have hα : ∀ j, j % 1000 ≠ 5 → α' j = α j := fun j hj => by rw [hα']; simp only []; rw [if_neg (by omega), if_neg (by omega), if_neg (by omega), if_neg (by omega)]
      have hb0 : α' 5 = b0 := by rw [hα']; rfl
      have hb1 : α' 1005 = b1 := by rw [hα']; rfl
      have hb2 : α' 2005 = b2 := by rw [hα']; rfl
      have hb3 : α' 3005 = b3 := by rw [hα']; rfl
      have ha0 : α' 0 = α 0 := hα 0 (by decide)
      skip
      refine hK _ α' _ hα ?_ (step_call (st9) hL hcl hα [] [5, 1005, 2005, 3005] (by decide) (by decide) (by decide) (M := _) ?_ hG hQ)
      · show _ = (.pointer (some ⟨α' 5, 0, none⟩) : Value)
        simp only [hb0]
      · show [R9 (Rega.ran L9 5) α' 5, R9 (Rega.ran L9 5) α' 1005, R9 (Rega.ran L9 5) α' 2005, R9 (Rega.ran L9 5) α' 3005] = _
        rw [f0, f1, f2, f3]
        simp only [hb0, hb1, hb2, hb3, ha0]
    · intro L9 α a9 u9 K9 hL hcl hA hG hS h0 hK
      replace hL : L9 6 = false := hL
      have q74 : a9.tmps[74]? = some (.pointer (some ⟨α 5, 0, none⟩)) := hS 5 74 (by decide) rfl (by show 74 < 342; decide)
      have s74 := Rega.eval_of q74
      go_simp
      exact hK _ α _ (fun _ _ => rfl) rfl (step_same (st9) hL hcl rfl rfl hG)
  clear st9
  intro α u hG
  have e0 : R9 (fun k => decide (k < 7)) α 999 = row (B1_1) 25 #[.int .u32 5, .int .u32 im] := rfl
  have e1 : R9 (fun k => decide (k < 7)) α 1999 = row (B1) 25 #[.int .u32 0, .int .u32 0] := rfl
  have e2 : R9 (fun k => decide (k < 7)) α 0 = row (α 0) 56 (full symZ (symL ([sy ⟨#[70, 111, 111]⟩ 0])) 0) := rfl
  have e3 : R9 (fun k => decide (k < 7)) α 5 = row (α 5) 193 (newSrslP r s true (α 0) (α 1005) (α 2005) (α 3005)) := rfl
  have e4 : R9 (fun k => decide (k < 7)) α 1005 = ((α 1005, .map #[] 0) : Rw) := rfl
  have e5 : R9 (fun k => decide (k < 7)) α 2005 = row (α 2005) 203 #[.pointer none, .pointer none, .slice none 0 0, .map none, .slice none 0 0, .slice none 0 0, .int .i32 0, .int .i32 0, .int .u32 0, .int .u32 0, .bool false, .bool false, .bool false, .bool false, .int .u8 0, .int .u8 6] := rfl
  have e6 : R9 (fun k => decide (k < 7)) α 3005 = row (α 3005) 25 #[.int .u32 0, .int .u32 0] := rfl
  have hO : Own w0 u [row (B1_1) 25 #[.int .u32 5, .int .u32 im], row (B1) 25 #[.int .u32 0, .int .u32 0], row (α 0) 56 (full symZ (symL ([sy ⟨#[70, 111, 111]⟩ 0])) 0), row (α 5) 193 (newSrslP r s true (α 0) (α 1005) (α 2005) (α 3005)), ((α 1005, .map #[] 0) : Rw), row (α 2005) 203 #[.pointer none, .pointer none, .slice none 0 0, .map none, .slice none 0 0, .slice none 0 0, .int .i32 0, .int .i32 0, .int .u32 0, .int .u32 0, .bool false, .bool false, .bool false, .bool false, .int .u8 0, .int .u8 6], row (α 3005) 25 #[.int .u32 0, .int .u32 0]] X := (hG.list [999, 1999, 0, 5, 1005, 2005, 3005] (by decide) (act_all (by decide))).conv (by
    show [R9 (fun k => decide (k < 7)) α 999, R9 (fun k => decide (k < 7)) α 1999, R9 (fun k => decide (k < 7)) α 0, R9 (fun k => decide (k < 7)) α 5, R9 (fun k => decide (k < 7)) α 1005, R9 (fun k => decide (k < 7)) α 2005, R9 (fun k => decide (k < 7)) α 3005] = _
    rw [e0, e1, e2, e3, e4, e5, e6])
  clear hG e0 e1 e2 e3 e4 e5 e6 R9
  generalize hfr : Rega.frameAt _ _ _ _ _ = fr
  have hdf : fr = ⟨#[.int .u8 kind, .string name, .int .i64 (n : Int), .bool true, .bool s, .bool r, .int .i32 loc, .int .u32 im, undef, undef, undef, undef, undef, undef, undef, undef, .bool false, .pointer (some ⟨B1, 0, none⟩), .pointer (some ⟨B1_1, 0, none⟩), .pointer (some ⟨α 5, 0, none⟩), undef, undef, undef, undef, undef, undef, undef, undef, undef, undef, undef, undef, undef, undef, undef, undef, undef, undef, undef, undef, undef, undef, undef, undef, undef, undef, undef, .int .u8 kind, .string name, .int .i64 (n : Int), .bool true, .bool s, .bool r, .int .i32 loc, .int .u32 im, .bool true, .bool false, .string name, .int .i64 (name.size : Int), .bool (decide (65536 < (name.size : Int))), .int .i64 (n : Int), .bool (decide ((n : Int) < 0)), .bool (decide ((n : Int) < 0)), .int .i64 (n : Int), .bool (decide (4096 < (n : Int))), .bool (decide ((n : Int) < 0) || decide (4096 < (n : Int))), .agg #[.int .u32 0, .int .u32 0], .int .u32 im, .agg #[.int .u32 5, .int .u32 im], .slice (some ⟨α 0, 0, none⟩) 1 1, .agg #[.int .u32 0, .int .u32 0], .bool s, .bool r, .bool true, .pointer (some ⟨α 5, 0, none⟩), undef, undef, undef, undef, undef, undef, undef, undef, undef, undef, undef, undef, undef, undef, undef, undef, undef, undef, undef, undef, undef, undef, undef, undef, undef, undef, undef, undef, undef, undef, undef, undef, undef, undef, undef, undef, undef, undef, undef, undef, undef, undef, undef, undef, undef, undef, undef, undef, undef, undef, undef, undef, undef, undef, undef, undef, undef, undef, undef, undef, undef, undef, undef, undef, undef, undef, undef, undef, undef, undef, undef, undef, undef, undef, undef, undef, undef, undef, undef, undef, undef, undef, undef, undef, undef, undef, undef, undef, undef, undef, undef, undef, undef, undef, undef, undef, undef, undef, undef, undef, undef, undef, undef, undef, undef, undef, undef, undef, undef, undef, undef, undef, undef, undef, undef, undef, undef, undef, undef, undef, undef, undef, undef, undef, undef, undef, undef, undef, undef, undef, undef, undef, undef, undef, undef, undef, undef, undef, undef, undef, undef, undef, undef, undef, undef, undef, undef, undef, undef, undef, undef, undef, undef, undef, undef, undef, undef, undef, undef, undef, undef, undef, undef, undef, undef, undef, undef, undef, undef, undef, undef, undef, undef, undef, undef, undef, undef, undef, undef, undef, undef, undef, undef, undef, undef, undef, undef, undef, undef, undef, undef, undef, undef, undef, undef, undef, undef, undef, undef, undef, undef, undef, undef, undef, undef, undef, undef, undef, undef, undef, undef, undef, undef, undef, undef, undef, undef, undef, undef, undef, undef, undef, undef, undef, undef, undef, undef, undef, undef, undef, undef, undef, undef, undef, undef, undef, undef, undef, undef, undef, undef, undef, undef, undef, undef, undef, undef, undef, undef, undef, undef, undef, undef, undef, undef, undef, undef, undef, undef, undef, undef, undef, undef, undef, undef, undef, undef], []⟩ := by rw [← hfr]; kernel_rfl
  clear hfr
  subst hdf
  generalize α 0 = nd3 at hO ⊢
  generalize α 5 = nd4 at hO ⊢
  generalize α 1005 = nd5 at hO ⊢
  generalize α 2005 = nd6 at hO ⊢
  generalize α 3005 = nd7 at hO ⊢
  clear α
  obtain ⟨c9_0_0, c9_0_1, lt9_0, y9_0, -⟩ := hO.k2 0 rfl
  obtain ⟨c9_1_0, c9_1_1, lt9_1, y9_1, -⟩ := hO.k2 1 rfl
  obtain ⟨c9_6_0, c9_6_1, lt9_6, y9_6, -⟩ := hO.k2 6 rfl
  have HO := Lib.hid hO
  clear hO
  go_wp2_with (first | (with_reducible refine Own.stay (fn := Tryd.f7) ?_) | (first | (go_at_call 31; go_in)))
  try with_reducible refine Own.Stay.mk ?_
  have hO := HO.out
  clear HO c9_0_0 c9_0_1 lt9_0 y9_0 c9_1_0 c9_1_1 lt9_1 y9_1 c9_6_0 c9_6_1 lt9_6 y9_6
  have hL := hO.apart
  have hX := hO.apartX
  have HL := Lib.hid hL
  have HX := Lib.hid hX
  clear hL hX
  have hP9 := hO.pick [] (by decide)
  have T9 := buildCallX0 kind name n loc im _ _ _ hP9 hkd hn
  refine Calls.mono T9 ?_
  clear hP9 T9
  rintro e u8 ⟨nd9, nd10, nd11, nd12, nd13, nd14, rfl, hQ⟩
  have hN : Own w0 u8 [row (nd9) 71 #[.iface 225 (.pointer (some ⟨nd10, 0, none⟩)), .int .i32 loc, .slice (some ⟨nd12, 0, none⟩) n n, .int .i32 0, .int .u8 0, .int .u8 0, .bool false, .bool false], row (nd10) 228 #[.iface 229 (.pointer (some ⟨nd11, 0, none⟩)), .int .i32 loc, .string name, .int .i32 loc, .int .u8 0, .bool false, .bool false, .bool false], row (nd12) 35 ((args loc nd14 n).toArray), row (nd13) 211 #[.int .u32 5, .int .u32 im, .bool false, .bool false, .bool false], row (B1_1) 25 #[.int .u32 5, .int .u32 im], row (B1) 25 #[.int .u32 0, .int .u32 0], row (nd3) 56 (full symZ (symL ([sy ⟨#[70, 111, 111]⟩ 0])) 0), row (nd4) 193 (newSrslP r s true (nd3) (nd5) (nd6) (nd7)), ((nd5, .map #[] 0) : Rw), row (nd6) 203 #[.pointer none, .pointer none, .slice none 0 0, .map none, .slice none 0 0, .slice none 0 0, .int .i32 0, .int .i32 0, .int .u32 0, .int .u32 0, .bool false, .bool false, .bool false, .bool false, .int .u8 0, .int .u8 6], row (nd7) 25 #[.int .u32 0, .int .u32 0]] (argsX X nd14 n) := hQ.backAX HL.out HX.out (by
    intro r9 hr9
    simp only [List.mem_cons, List.not_mem_nil, or_false] at hr9
    rcases hr9 with rfl | rfl | rfl | rfl | rfl | rfl | rfl
    all_goals first | exact Or.inl ⟨_, _, rfl, by decide⟩ | exact Or.inr ⟨_, _, rfl⟩)
  clear hQ HL HX hO
  have hO := hN
  clear hN
  obtain ⟨c9_0_0, c9_0_1, c9_0_2, c9_0_3, c9_0_4, c9_0_5, c9_0_6, c9_0_7, lt9_0, y9_0, -⟩ := hO.k8 0 rfl
  obtain ⟨c9_1_0, c9_1_1, c9_1_2, c9_1_3, c9_1_4, c9_1_5, c9_1_6, c9_1_7, lt9_1, y9_1, -⟩ := hO.k8 1 rfl
  obtain ⟨c9_3_0, c9_3_1, c9_3_2, c9_3_3, c9_3_4, lt9_3, y9_3, -⟩ := hO.k5 3 rfl
  obtain ⟨c9_4_0, c9_4_1, lt9_4, y9_4, -⟩ := hO.k2 4 rfl
  obtain ⟨c9_5_0, c9_5_1, lt9_5, y9_5, -⟩ := hO.k2 5 rfl
  obtain ⟨c9_10_0, c9_10_1, lt9_10, y9_10, -⟩ := hO.k2 10 rfl
  have HO := Lib.hid hO
  clear hO
  go_wp2_with (first | (with_reducible refine Own.stay (fn := Tryd.f7) ?_) | (first | (go_at_call 31; go_in)))
  try with_reducible refine Own.Stay.mk ?_
  have hO := HO.out
  clear HO c9_0_0 c9_0_1 c9_0_2 c9_0_3 c9_0_4 c9_0_5 c9_0_6 c9_0_7 lt9_0 y9_0 c9_1_0 c9_1_1 c9_1_2 c9_1_3 c9_1_4 c9_1_5 c9_1_6 c9_1_7 lt9_1 y9_1 c9_3_0 c9_3_1 c9_3_2 c9_3_3 c9_3_4 lt9_3 y9_3 c9_4_0 c9_4_1 lt9_4 y9_4 c9_5_0 c9_5_1 lt9_5 y9_5 c9_10_0 c9_10_1 lt9_10 y9_10
  have hL := hO.apart
  have hX := hO.apartX
  have HL := Lib.hid hL
  have HX := Lib.hid hX
  clear hL hX
  have hP9 := hO.pick [7, 6, 8, 9, 10, 0, 1, 2] (by decide)
  have T9 := dlowX0 nd4 (newSrslP r s true nd3 nd5 nd6 nd7) nd3 0 nd5 nd6 #[.pointer none, .pointer none, .slice none 0 0, .map none, .slice none 0 0, .slice none 0 0, .int .i32 0, .int .i32 0, .int .u32 0, .int .u32 0, .bool false, .bool false, .bool false, .bool false, .int .u8 0, .int .u8 6] nd7 loc r s nd10 nd11 name nd9 nd12 nd14 n _ _ _ hP9 (newSrsl_350 r s true (nd3) (nd5) (nd6) (nd7)) (newSrsl_32 r s true (nd3) (nd5) (nd6) (nd7)) (newSrsl_105 r s true (nd3) (nd5) (nd6) (nd7)) (newSrsl_66 r s true (nd3) (nd5) (nd6) (nd7)) (newSrsl_117 r s true (nd3) (nd5) (nd6) (nd7)) (newSrsl_187 r s true (nd3) (nd5) (nd6) (nd7)) (newSrsl_97 r s true (nd3) (nd5) (nd6) (nd7)) (newSrsl_95 r s true (nd3) (nd5) (nd6) (nd7)) (newSrsl_96 r s true (nd3) (nd5) (nd6) (nd7)) (newSrsl_106 r s true (nd3) (nd5) (nd6) (nd7)) rfl (newSrsl_338 r s true (nd3) (nd5) (nd6) (nd7)) hn hlen hg0 hg1
  refine Calls.mono T9 ?_
  clear hP9 T9
  rintro e u15 ⟨nd16, nd17, nd18, nd19, nd20, nd21, nd22, nd23, nd24, nd25, nd26, nd27, nd28, nd29, nd30, nd31, nd32, rfl, hQ⟩
  have hN : Own w0 u15 [row (nd4) 193 ((newSrslP r s true nd3 nd5 nd6 nd7).setIfInBounds 106 (.slice (some ⟨nd22, 0, none⟩) 2 (2 + nd23))), row (nd22) 56 (full symZ (symL ([sy ⟨#[70, 111, 111]⟩ (uz r 0), sy ⟨#[95, 95, 115, 117, 112, 101, 114, 71, 101, 116]⟩ 1])) nd23), ((nd5, .map #[⟨.string ⟨#[95, 95, 115, 117, 112, 101, 114, 71, 101, 116]⟩, .agg #[.int .i32 loc, .int .u32 0, .int .u32 1], 0⟩] 1) : Rw), row (nd6) 203 #[.pointer none, .pointer none, .slice none 0 0, .map none, .slice none 0 0, .slice (some ⟨nd24, 0, none⟩) 1 (1 + nd25), .int .i32 0, .int .i32 0, .int .u32 0, .int .u32 0, .bool false, .bool false, .bool false, .bool false, .int .u8 0, .int .u8 6], row (nd24) 25 (full refZ [.int .u32 0, .int .u32 1] nd25), row (nd7) 25 #[.int .u32 0, .int .u32 0], row (nd17) 211 #[.int .u32 0, .int .u32 1, .bool false, .bool false, .bool false], row (nd16) 71 #[.iface 209 (.pointer (some ⟨nd17, 0, none⟩)), .int .i32 loc, .slice (some ⟨nd18, 0, none⟩) 3 3, .int .i32 0, .int .u8 0, .int .u8 0, .bool false, .bool false], row (nd18) 35 #[.iface (clsTy s) (.pointer (some ⟨nd19, 0, none⟩)), .int .i32 loc, .iface (thsTy r) (.pointer (some ⟨nd21, 0, none⟩)), .int .i32 loc, .iface 206 (.pointer (some ⟨nd30, 0, none⟩)), .int .i32 loc], row (nd19) (clsT s) (clsC s loc nd20), row (nd20) (xtrT s) (xtrC s loc nd19), row (nd21) (thsT r) (thsC r), row (nd9) 71 #[.iface 225 (.pointer (some ⟨nd26, 0, none⟩)), .int .i32 loc, .slice (some ⟨nd28, 0, none⟩) (1 + n) (1 + n + nd29), .int .i32 0, .int .u8 0, .int .u8 0, .bool false, .bool false], row (nd26) 228 #[.iface 65 (.pointer (some ⟨nd16, 0, none⟩)), .int .i32 loc, .string ⟨#[99, 97, 108, 108]⟩, .int .i32 loc, .int .u8 0, .bool false, .bool false, .bool false], row (nd28) 35 (full exprZ ([.iface 237 (.pointer (some ⟨nd27, 0, none⟩)), .int .i32 loc] ++ (args loc nd14 n)) nd29), row (nd30) 208 #[.slice (some ⟨nd31, 0, none⟩) (u16L name).length ((u16L name).length + nd32), .int .i32 0, .bool false, .bool false, .bool false], row (nd31) 51 (full u16Z (u16L name) nd32), row (nd13) 211 #[.int .u32 5, .int .u32 im, .bool false, .bool false, .bool false], row (B1_1) 25 #[.int .u32 5, .int .u32 im], row (B1) 25 #[.int .u32 0, .int .u32 0]] (argsX X nd14 n) := hQ.back HL.out HX.out [3, 4, 5] (by decide) (by decide)
  clear hQ HL HX hO
  have hO := hN
  clear hN
  obtain ⟨c9_5_0, c9_5_1, lt9_5, y9_5, -⟩ := hO.k2 5 rfl
  obtain ⟨c9_6_0, c9_6_1, c9_6_2, c9_6_3, c9_6_4, lt9_6, y9_6, -⟩ := hO.k5 6 rfl
  obtain ⟨c9_7_0, c9_7_1, c9_7_2, c9_7_3, c9_7_4, c9_7_5, c9_7_6, c9_7_7, lt9_7, y9_7, -⟩ := hO.k8 7 rfl
  obtain ⟨c9_8_0, c9_8_1, c9_8_2, c9_8_3, c9_8_4, c9_8_5, lt9_8, y9_8, -⟩ := hO.k6 8 rfl
  obtain ⟨c9_12_0, c9_12_1, c9_12_2, c9_12_3, c9_12_4, c9_12_5, c9_12_6, c9_12_7, lt9_12, y9_12, -⟩ := hO.k8 12 rfl
  obtain ⟨c9_13_0, c9_13_1, c9_13_2, c9_13_3, c9_13_4, c9_13_5, c9_13_6, c9_13_7, lt9_13, y9_13, -⟩ := hO.k8 13 rfl
  obtain ⟨c9_15_0, c9_15_1, c9_15_2, c9_15_3, c9_15_4, lt9_15, y9_15, -⟩ := hO.k5 15 rfl
  obtain ⟨c9_17_0, c9_17_1, c9_17_2, c9_17_3, c9_17_4, lt9_17, y9_17, -⟩ := hO.k5 17 rfl
  obtain ⟨c9_18_0, c9_18_1, lt9_18, y9_18, -⟩ := hO.k2 18 rfl
  obtain ⟨c9_19_0, c9_19_1, lt9_19, y9_19, -⟩ := hO.k2 19 rfl
  have HO := Lib.hid hO
  clear hO
  go_wp2_with (first | (with_reducible refine Own.stay (fn := Tryd.f7) ?_) | (first | (go_at_call 31; go_in)))
  try with_reducible refine Own.Stay.mk ?_
  have hO := HO.out
  clear HO c9_5_0 c9_5_1 lt9_5 y9_5 c9_6_0 c9_6_1 c9_6_2 c9_6_3 c9_6_4 lt9_6 y9_6 c9_7_0 c9_7_1 c9_7_2 c9_7_3 c9_7_4 c9_7_5 c9_7_6 c9_7_7 lt9_7 y9_7 c9_8_0 c9_8_1 c9_8_2 c9_8_3 c9_8_4 c9_8_5 lt9_8 y9_8 c9_12_0 c9_12_1 c9_12_2 c9_12_3 c9_12_4 c9_12_5 c9_12_6 c9_12_7 lt9_12 y9_12 c9_13_0 c9_13_1 c9_13_2 c9_13_3 c9_13_4 c9_13_5 c9_13_6 c9_13_7 lt9_13 y9_13 c9_15_0 c9_15_1 c9_15_2 c9_15_3 c9_15_4 lt9_15 y9_15 c9_17_0 c9_17_1 c9_17_2 c9_17_3 c9_17_4 lt9_17 y9_17 c9_18_0 c9_18_1 lt9_18 y9_18 c9_19_0 c9_19_1 lt9_19 y9_19
  have hL := hO.apart
  have hX := hO.apartX
  have HL := Lib.hid hL
  have HX := Lib.hid hX
  clear hL hX
  have hP9 := hO.pick [0] (by decide)
  have T9 := symsO nd4 ((newSrslP r s true nd3 nd5 nd6 nd7).setIfInBounds 106 (.slice (some ⟨nd22, 0, none⟩) 2 (2 + nd23))) nd22 2 (2 + nd23) _ _ _ hP9 (get_set (newSrsl_106 r s true (nd3) (nd5) (nd6) (nd7)) _)
  refine Calls.mono T9 ?_
  clear hP9 T9
  rintro e u33 ⟨rfl, hQ⟩
  have hN : Own w0 u33 [row (nd4) 193 ((newSrslP r s true nd3 nd5 nd6 nd7).setIfInBounds 106 (.slice (some ⟨nd22, 0, none⟩) 2 (2 + nd23))), row (nd22) 56 (full symZ (symL ([sy ⟨#[70, 111, 111]⟩ (uz r 0), sy ⟨#[95, 95, 115, 117, 112, 101, 114, 71, 101, 116]⟩ 1])) nd23), ((nd5, .map #[⟨.string ⟨#[95, 95, 115, 117, 112, 101, 114, 71, 101, 116]⟩, .agg #[.int .i32 loc, .int .u32 0, .int .u32 1], 0⟩] 1) : Rw), row (nd6) 203 #[.pointer none, .pointer none, .slice none 0 0, .map none, .slice none 0 0, .slice (some ⟨nd24, 0, none⟩) 1 (1 + nd25), .int .i32 0, .int .i32 0, .int .u32 0, .int .u32 0, .bool false, .bool false, .bool false, .bool false, .int .u8 0, .int .u8 6], row (nd24) 25 (full refZ [.int .u32 0, .int .u32 1] nd25), row (nd7) 25 #[.int .u32 0, .int .u32 0], row (nd17) 211 #[.int .u32 0, .int .u32 1, .bool false, .bool false, .bool false], row (nd16) 71 #[.iface 209 (.pointer (some ⟨nd17, 0, none⟩)), .int .i32 loc, .slice (some ⟨nd18, 0, none⟩) 3 3, .int .i32 0, .int .u8 0, .int .u8 0, .bool false, .bool false], row (nd18) 35 #[.iface (clsTy s) (.pointer (some ⟨nd19, 0, none⟩)), .int .i32 loc, .iface (thsTy r) (.pointer (some ⟨nd21, 0, none⟩)), .int .i32 loc, .iface 206 (.pointer (some ⟨nd30, 0, none⟩)), .int .i32 loc], row (nd19) (clsT s) (clsC s loc nd20), row (nd20) (xtrT s) (xtrC s loc nd19), row (nd21) (thsT r) (thsC r), row (nd9) 71 #[.iface 225 (.pointer (some ⟨nd26, 0, none⟩)), .int .i32 loc, .slice (some ⟨nd28, 0, none⟩) (1 + n) (1 + n + nd29), .int .i32 0, .int .u8 0, .int .u8 0, .bool false, .bool false], row (nd26) 228 #[.iface 65 (.pointer (some ⟨nd16, 0, none⟩)), .int .i32 loc, .string ⟨#[99, 97, 108, 108]⟩, .int .i32 loc, .int .u8 0, .bool false, .bool false, .bool false], row (nd28) 35 (full exprZ ([.iface 237 (.pointer (some ⟨nd27, 0, none⟩)), .int .i32 loc] ++ (args loc nd14 n)) nd29), row (nd30) 208 #[.slice (some ⟨nd31, 0, none⟩) (u16L name).length ((u16L name).length + nd32), .int .i32 0, .bool false, .bool false, .bool false], row (nd31) 51 (full u16Z (u16L name) nd32), row (nd13) 211 #[.int .u32 5, .int .u32 im, .bool false, .bool false, .bool false], row (B1_1) 25 #[.int .u32 5, .int .u32 im], row (B1) 25 #[.int .u32 0, .int .u32 0]] (argsX X nd14 n) := hQ.back HL.out HX.out [1, 2, 3, 4, 5, 6, 7, 8, 9, 10, 11, 12, 13, 14, 15, 16, 17, 18, 19] (by decide) (by decide)
  clear hQ HL HX hO
  have hO := hN
  clear hN
  obtain ⟨c9_5_0, c9_5_1, lt9_5, y9_5, -⟩ := hO.k2 5 rfl
  obtain ⟨c9_6_0, c9_6_1, c9_6_2, c9_6_3, c9_6_4, lt9_6, y9_6, -⟩ := hO.k5 6 rfl
  obtain ⟨c9_7_0, c9_7_1, c9_7_2, c9_7_3, c9_7_4, c9_7_5, c9_7_6, c9_7_7, lt9_7, y9_7, -⟩ := hO.k8 7 rfl
  obtain ⟨c9_8_0, c9_8_1, c9_8_2, c9_8_3, c9_8_4, c9_8_5, lt9_8, y9_8, -⟩ := hO.k6 8 rfl
  obtain ⟨c9_12_0, c9_12_1, c9_12_2, c9_12_3, c9_12_4, c9_12_5, c9_12_6, c9_12_7, lt9_12, y9_12, -⟩ := hO.k8 12 rfl
  obtain ⟨c9_13_0, c9_13_1, c9_13_2, c9_13_3, c9_13_4, c9_13_5, c9_13_6, c9_13_7, lt9_13, y9_13, -⟩ := hO.k8 13 rfl
  obtain ⟨c9_15_0, c9_15_1, c9_15_2, c9_15_3, c9_15_4, lt9_15, y9_15, -⟩ := hO.k5 15 rfl
  obtain ⟨c9_17_0, c9_17_1, c9_17_2, c9_17_3, c9_17_4, lt9_17, y9_17, -⟩ := hO.k5 17 rfl
  obtain ⟨c9_18_0, c9_18_1, lt9_18, y9_18, -⟩ := hO.k2 18 rfl
  obtain ⟨c9_19_0, c9_19_1, lt9_19, y9_19, -⟩ := hO.k2 19 rfl
  have HO := Lib.hid hO
  clear hO
  go_wp2_with (first | (with_reducible refine Own.stay (fn := Tryd.f7) ?_) | (first | (go_at_call 31; go_in)))
  try with_reducible refine Own.Stay.mk ?_
  have hO := HO.out
  clear HO c9_5_0 c9_5_1 lt9_5 y9_5 c9_6_0 c9_6_1 c9_6_2 c9_6_3 c9_6_4 lt9_6 y9_6 c9_7_0 c9_7_1 c9_7_2 c9_7_3 c9_7_4 c9_7_5 c9_7_6 c9_7_7 lt9_7 y9_7 c9_8_0 c9_8_1 c9_8_2 c9_8_3 c9_8_4 c9_8_5 lt9_8 y9_8 c9_12_0 c9_12_1 c9_12_2 c9_12_3 c9_12_4 c9_12_5 c9_12_6 c9_12_7 lt9_12 y9_12 c9_13_0 c9_13_1 c9_13_2 c9_13_3 c9_13_4 c9_13_5 c9_13_6 c9_13_7 lt9_13 y9_13 c9_15_0 c9_15_1 c9_15_2 c9_15_3 c9_15_4 lt9_15 y9_15 c9_17_0 c9_17_1 c9_17_2 c9_17_3 c9_17_4 lt9_17 y9_17 c9_18_0 c9_18_1 lt9_18 y9_18 c9_19_0 c9_19_1 lt9_19 y9_19
  have hL := hO.apart
  have hX := hO.apartX
  have HL := Lib.hid hL
  have HX := Lib.hid hX
  clear hL hX
  have hP9 := hO.pick [0, 2] (by decide)
  have h9_hyes : Instr.findNow .string (.string (⟨#[95, 95, 115, 117, 112, 101, 114, 71, 101, 116]⟩ : ByteArray)) (#[⟨.string ⟨#[95, 95, 115, 117, 112, 101, 114, 71, 101, 116]⟩, .agg #[.int .i32 loc, .int .u32 0, .int .u32 1], 0⟩] : Array MapEntry).toList 0 = some (some (0, .agg #[.int .i32 loc, .int .u32 0, .int .u32 1])) := (by kernel_rfl)
  have T9 := impRefY nd4 ((newSrslP r s true nd3 nd5 nd6 nd7).setIfInBounds 106 (.slice (some ⟨nd22, 0, none⟩) 2 (2 + nd23))) nd5 #[⟨.string ⟨#[95, 95, 115, 117, 112, 101, 114, 71, 101, 116]⟩, .agg #[.int .i32 loc, .int .u32 0, .int .u32 1], 0⟩] 1 ⟨#[95, 95, 115, 117, 112, 101, 114, 71, 101, 116]⟩ 0 loc 0 1 _ _ _ hP9 (get_other (newSrsl_117 r s true (nd3) (nd5) (nd6) (nd7)) (by omega) _) h9_hyes
  refine Calls.mono T9 ?_
  clear hP9 T9 h9_hyes
  rintro e u34 ⟨rfl, hQ⟩
  have hN : Own w0 u34 [row (nd4) 193 ((newSrslP r s true nd3 nd5 nd6 nd7).setIfInBounds 106 (.slice (some ⟨nd22, 0, none⟩) 2 (2 + nd23))), ((nd5, .map #[⟨.string ⟨#[95, 95, 115, 117, 112, 101, 114, 71, 101, 116]⟩, .agg #[.int .i32 loc, .int .u32 0, .int .u32 1], 0⟩] 1) : Rw), row (nd22) 56 (full symZ (symL ([sy ⟨#[70, 111, 111]⟩ (uz r 0), sy ⟨#[95, 95, 115, 117, 112, 101, 114, 71, 101, 116]⟩ 1])) nd23), row (nd6) 203 #[.pointer none, .pointer none, .slice none 0 0, .map none, .slice none 0 0, .slice (some ⟨nd24, 0, none⟩) 1 (1 + nd25), .int .i32 0, .int .i32 0, .int .u32 0, .int .u32 0, .bool false, .bool false, .bool false, .bool false, .int .u8 0, .int .u8 6], row (nd24) 25 (full refZ [.int .u32 0, .int .u32 1] nd25), row (nd7) 25 #[.int .u32 0, .int .u32 0], row (nd17) 211 #[.int .u32 0, .int .u32 1, .bool false, .bool false, .bool false], row (nd16) 71 #[.iface 209 (.pointer (some ⟨nd17, 0, none⟩)), .int .i32 loc, .slice (some ⟨nd18, 0, none⟩) 3 3, .int .i32 0, .int .u8 0, .int .u8 0, .bool false, .bool false], row (nd18) 35 #[.iface (clsTy s) (.pointer (some ⟨nd19, 0, none⟩)), .int .i32 loc, .iface (thsTy r) (.pointer (some ⟨nd21, 0, none⟩)), .int .i32 loc, .iface 206 (.pointer (some ⟨nd30, 0, none⟩)), .int .i32 loc], row (nd19) (clsT s) (clsC s loc nd20), row (nd20) (xtrT s) (xtrC s loc nd19), row (nd21) (thsT r) (thsC r), row (nd9) 71 #[.iface 225 (.pointer (some ⟨nd26, 0, none⟩)), .int .i32 loc, .slice (some ⟨nd28, 0, none⟩) (1 + n) (1 + n + nd29), .int .i32 0, .int .u8 0, .int .u8 0, .bool false, .bool false], row (nd26) 228 #[.iface 65 (.pointer (some ⟨nd16, 0, none⟩)), .int .i32 loc, .string ⟨#[99, 97, 108, 108]⟩, .int .i32 loc, .int .u8 0, .bool false, .bool false, .bool false], row (nd28) 35 (full exprZ ([.iface 237 (.pointer (some ⟨nd27, 0, none⟩)), .int .i32 loc] ++ (args loc nd14 n)) nd29), row (nd30) 208 #[.slice (some ⟨nd31, 0, none⟩) (u16L name).length ((u16L name).length + nd32), .int .i32 0, .bool false, .bool false, .bool false], row (nd31) 51 (full u16Z (u16L name) nd32), row (nd13) 211 #[.int .u32 5, .int .u32 im, .bool false, .bool false, .bool false], row (B1_1) 25 #[.int .u32 5, .int .u32 im], row (B1) 25 #[.int .u32 0, .int .u32 0]] (argsX X nd14 n) := hQ.back HL.out HX.out [1, 3, 4, 5, 6, 7, 8, 9, 10, 11, 12, 13, 14, 15, 16, 17, 18, 19] (by decide) (by decide)
  clear hQ HL HX hO
  have hO := hN
  clear hN
  obtain ⟨c9_5_0, c9_5_1, lt9_5, y9_5, -⟩ := hO.k2 5 rfl
  obtain ⟨c9_6_0, c9_6_1, c9_6_2, c9_6_3, c9_6_4, lt9_6, y9_6, -⟩ := hO.k5 6 rfl
  obtain ⟨c9_7_0, c9_7_1, c9_7_2, c9_7_3, c9_7_4, c9_7_5, c9_7_6, c9_7_7, lt9_7, y9_7, -⟩ := hO.k8 7 rfl
  obtain ⟨c9_8_0, c9_8_1, c9_8_2, c9_8_3, c9_8_4, c9_8_5, lt9_8, y9_8, -⟩ := hO.k6 8 rfl
  obtain ⟨c9_12_0, c9_12_1, c9_12_2, c9_12_3, c9_12_4, c9_12_5, c9_12_6, c9_12_7, lt9_12, y9_12, -⟩ := hO.k8 12 rfl
  obtain ⟨c9_13_0, c9_13_1, c9_13_2, c9_13_3, c9_13_4, c9_13_5, c9_13_6, c9_13_7, lt9_13, y9_13, -⟩ := hO.k8 13 rfl
  obtain ⟨c9_15_0, c9_15_1, c9_15_2, c9_15_3, c9_15_4, lt9_15, y9_15, -⟩ := hO.k5 15 rfl
  obtain ⟨c9_17_0, c9_17_1, c9_17_2, c9_17_3, c9_17_4, lt9_17, y9_17, -⟩ := hO.k5 17 rfl
  obtain ⟨c9_18_0, c9_18_1, lt9_18, y9_18, -⟩ := hO.k2 18 rfl
  obtain ⟨c9_19_0, c9_19_1, lt9_19, y9_19, -⟩ := hO.k2 19 rfl
  have HO := Lib.hid hO
  clear hO
  go_wp2_with (first | (with_reducible refine Own.stay (fn := Tryd.f7) ?_) | (first | (go_at_call 31; go_in)))
  try with_reducible refine Own.Stay.mk ?_
  have hO := HO.out
  clear HO c9_5_0 c9_5_1 lt9_5 y9_5 c9_6_0 c9_6_1 c9_6_2 c9_6_3 c9_6_4 lt9_6 y9_6 c9_7_0 c9_7_1 c9_7_2 c9_7_3 c9_7_4 c9_7_5 c9_7_6 c9_7_7 lt9_7 y9_7 c9_8_0 c9_8_1 c9_8_2 c9_8_3 c9_8_4 c9_8_5 lt9_8 y9_8 c9_12_0 c9_12_1 c9_12_2 c9_12_3 c9_12_4 c9_12_5 c9_12_6 c9_12_7 lt9_12 y9_12 c9_13_0 c9_13_1 c9_13_2 c9_13_3 c9_13_4 c9_13_5 c9_13_6 c9_13_7 lt9_13 y9_13 c9_15_0 c9_15_1 c9_15_2 c9_15_3 c9_15_4 lt9_15 y9_15 c9_17_0 c9_17_1 c9_17_2 c9_17_3 c9_17_4 lt9_17 y9_17 c9_18_0 c9_18_1 lt9_18 y9_18 c9_19_0 c9_19_1 lt9_19 y9_19
  generalize hW : World.alloc _ _ = W36
  have hN : Own w0 W36 [row (u34.heap.size) 25 #[.int .u32 0, .int .u32 1], row (nd4) 193 ((newSrslP r s true nd3 nd5 nd6 nd7).setIfInBounds 106 (.slice (some ⟨nd22, 0, none⟩) 2 (2 + nd23))), ((nd5, .map #[⟨.string ⟨#[95, 95, 115, 117, 112, 101, 114, 71, 101, 116]⟩, .agg #[.int .i32 loc, .int .u32 0, .int .u32 1], 0⟩] 1) : Rw), row (nd22) 56 (full symZ (symL ([sy ⟨#[70, 111, 111]⟩ (uz r 0), sy ⟨#[95, 95, 115, 117, 112, 101, 114, 71, 101, 116]⟩ 1])) nd23), row (nd6) 203 #[.pointer none, .pointer none, .slice none 0 0, .map none, .slice none 0 0, .slice (some ⟨nd24, 0, none⟩) 1 (1 + nd25), .int .i32 0, .int .i32 0, .int .u32 0, .int .u32 0, .bool false, .bool false, .bool false, .bool false, .int .u8 0, .int .u8 6], row (nd24) 25 (full refZ [.int .u32 0, .int .u32 1] nd25), row (nd7) 25 #[.int .u32 0, .int .u32 0], row (nd17) 211 #[.int .u32 0, .int .u32 1, .bool false, .bool false, .bool false], row (nd16) 71 #[.iface 209 (.pointer (some ⟨nd17, 0, none⟩)), .int .i32 loc, .slice (some ⟨nd18, 0, none⟩) 3 3, .int .i32 0, .int .u8 0, .int .u8 0, .bool false, .bool false], row (nd18) 35 #[.iface (clsTy s) (.pointer (some ⟨nd19, 0, none⟩)), .int .i32 loc, .iface (thsTy r) (.pointer (some ⟨nd21, 0, none⟩)), .int .i32 loc, .iface 206 (.pointer (some ⟨nd30, 0, none⟩)), .int .i32 loc], row (nd19) (clsT s) (clsC s loc nd20), row (nd20) (xtrT s) (xtrC s loc nd19), row (nd21) (thsT r) (thsC r), row (nd9) 71 #[.iface 225 (.pointer (some ⟨nd26, 0, none⟩)), .int .i32 loc, .slice (some ⟨nd28, 0, none⟩) (1 + n) (1 + n + nd29), .int .i32 0, .int .u8 0, .int .u8 0, .bool false, .bool false], row (nd26) 228 #[.iface 65 (.pointer (some ⟨nd16, 0, none⟩)), .int .i32 loc, .string ⟨#[99, 97, 108, 108]⟩, .int .i32 loc, .int .u8 0, .bool false, .bool false, .bool false], row (nd28) 35 (full exprZ ([.iface 237 (.pointer (some ⟨nd27, 0, none⟩)), .int .i32 loc] ++ (args loc nd14 n)) nd29), row (nd30) 208 #[.slice (some ⟨nd31, 0, none⟩) (u16L name).length ((u16L name).length + nd32), .int .i32 0, .bool false, .bool false, .bool false], row (nd31) 51 (full u16Z (u16L name) nd32), row (nd13) 211 #[.int .u32 5, .int .u32 im, .bool false, .bool false, .bool false], row (B1_1) 25 #[.int .u32 5, .int .u32 im], row (B1) 25 #[.int .u32 0, .int .u32 0]] (argsX X nd14 n) := by
    rw [← hW]
    exact (hO).alloc' _ (u34.heap.size) (by simp)
  clear hW hO
  generalize u34.heap.size = B35 at hN ⊢
  have hO := hN
  clear hN
  have hL := hO.apart
  have hX := hO.apartX
  have HL := Lib.hid hL
  have HX := Lib.hid hX
  clear hL hX
  have hP9 := hO.pick [1, 2] (by decide)
  have h9_hsz : (#[⟨.string ⟨#[95, 95, 115, 117, 112, 101, 114, 71, 101, 116]⟩, .agg #[.int .i32 loc, .int .u32 0, .int .u32 1], 0⟩] : Array MapEntry).size = 1 := rfl
  have T9 := impCnt nd4 ((newSrslP r s true nd3 nd5 nd6 nd7).setIfInBounds 106 (.slice (some ⟨nd22, 0, none⟩) 2 (2 + nd23))) nd5 #[⟨.string ⟨#[95, 95, 115, 117, 112, 101, 114, 71, 101, 116]⟩, .agg #[.int .i32 loc, .int .u32 0, .int .u32 1], 0⟩] 1 1 _ _ _ hP9 (get_other (newSrsl_117 r s true (nd3) (nd5) (nd6) (nd7)) (by omega) _) h9_hsz
  refine Calls.mono T9 ?_
  clear hP9 T9 h9_hsz
  rintro e u37 ⟨rfl, hQ⟩
  have hN : Own w0 u37 [row (nd4) 193 ((newSrslP r s true nd3 nd5 nd6 nd7).setIfInBounds 106 (.slice (some ⟨nd22, 0, none⟩) 2 (2 + nd23))), ((nd5, .map #[⟨.string ⟨#[95, 95, 115, 117, 112, 101, 114, 71, 101, 116]⟩, .agg #[.int .i32 loc, .int .u32 0, .int .u32 1], 0⟩] 1) : Rw), row (B35) 25 #[.int .u32 0, .int .u32 1], row (nd22) 56 (full symZ (symL ([sy ⟨#[70, 111, 111]⟩ (uz r 0), sy ⟨#[95, 95, 115, 117, 112, 101, 114, 71, 101, 116]⟩ 1])) nd23), row (nd6) 203 #[.pointer none, .pointer none, .slice none 0 0, .map none, .slice none 0 0, .slice (some ⟨nd24, 0, none⟩) 1 (1 + nd25), .int .i32 0, .int .i32 0, .int .u32 0, .int .u32 0, .bool false, .bool false, .bool false, .bool false, .int .u8 0, .int .u8 6], row (nd24) 25 (full refZ [.int .u32 0, .int .u32 1] nd25), row (nd7) 25 #[.int .u32 0, .int .u32 0], row (nd17) 211 #[.int .u32 0, .int .u32 1, .bool false, .bool false, .bool false], row (nd16) 71 #[.iface 209 (.pointer (some ⟨nd17, 0, none⟩)), .int .i32 loc, .slice (some ⟨nd18, 0, none⟩) 3 3, .int .i32 0, .int .u8 0, .int .u8 0, .bool false, .bool false], row (nd18) 35 #[.iface (clsTy s) (.pointer (some ⟨nd19, 0, none⟩)), .int .i32 loc, .iface (thsTy r) (.pointer (some ⟨nd21, 0, none⟩)), .int .i32 loc, .iface 206 (.pointer (some ⟨nd30, 0, none⟩)), .int .i32 loc], row (nd19) (clsT s) (clsC s loc nd20), row (nd20) (xtrT s) (xtrC s loc nd19), row (nd21) (thsT r) (thsC r), row (nd9) 71 #[.iface 225 (.pointer (some ⟨nd26, 0, none⟩)), .int .i32 loc, .slice (some ⟨nd28, 0, none⟩) (1 + n) (1 + n + nd29), .int .i32 0, .int .u8 0, .int .u8 0, .bool false, .bool false], row (nd26) 228 #[.iface 65 (.pointer (some ⟨nd16, 0, none⟩)), .int .i32 loc, .string ⟨#[99, 97, 108, 108]⟩, .int .i32 loc, .int .u8 0, .bool false, .bool false, .bool false], row (nd28) 35 (full exprZ ([.iface 237 (.pointer (some ⟨nd27, 0, none⟩)), .int .i32 loc] ++ (args loc nd14 n)) nd29), row (nd30) 208 #[.slice (some ⟨nd31, 0, none⟩) (u16L name).length ((u16L name).length + nd32), .int .i32 0, .bool false, .bool false, .bool false], row (nd31) 51 (full u16Z (u16L name) nd32), row (nd13) 211 #[.int .u32 5, .int .u32 im, .bool false, .bool false, .bool false], row (B1_1) 25 #[.int .u32 5, .int .u32 im], row (B1) 25 #[.int .u32 0, .int .u32 0]] (argsX X nd14 n) := hQ.back HL.out HX.out [0, 3, 4, 5, 6, 7, 8, 9, 10, 11, 12, 13, 14, 15, 16, 17, 18, 19, 20] (by decide) (by decide)
  clear hQ HL HX hO
  have hO := hN
  clear hN
  have hN : Own w0 u37 [((nd5, .map #[⟨.string ⟨#[95, 95, 115, 117, 112, 101, 114, 71, 101, 116]⟩, .agg #[.int .i32 loc, .int .u32 0, .int .u32 1], 0⟩] 1) : Rw), row (B35) 25 #[.int .u32 0, .int .u32 1], row (nd22) 56 (full symZ (symL ([sy ⟨#[70, 111, 111]⟩ (uz r 0), sy ⟨#[95, 95, 115, 117, 112, 101, 114, 71, 101, 116]⟩ 1])) nd23), row (nd6) 203 #[.pointer none, .pointer none, .slice none 0 0, .map none, .slice none 0 0, .slice (some ⟨nd24, 0, none⟩) 1 (1 + nd25), .int .i32 0, .int .i32 0, .int .u32 0, .int .u32 0, .bool false, .bool false, .bool false, .bool false, .int .u8 0, .int .u8 6], row (nd24) 25 (full refZ [.int .u32 0, .int .u32 1] nd25), row (nd7) 25 #[.int .u32 0, .int .u32 0], row (nd17) 211 #[.int .u32 0, .int .u32 1, .bool false, .bool false, .bool false], row (nd16) 71 #[.iface 209 (.pointer (some ⟨nd17, 0, none⟩)), .int .i32 loc, .slice (some ⟨nd18, 0, none⟩) 3 3, .int .i32 0, .int .u8 0, .int .u8 0, .bool false, .bool false], row (nd18) 35 #[.iface (clsTy s) (.pointer (some ⟨nd19, 0, none⟩)), .int .i32 loc, .iface (thsTy r) (.pointer (some ⟨nd21, 0, none⟩)), .int .i32 loc, .iface 206 (.pointer (some ⟨nd30, 0, none⟩)), .int .i32 loc], row (nd19) (clsT s) (clsC s loc nd20), row (nd20) (xtrT s) (xtrC s loc nd19), row (nd21) (thsT r) (thsC r), row (nd9) 71 #[.iface 225 (.pointer (some ⟨nd26, 0, none⟩)), .int .i32 loc, .slice (some ⟨nd28, 0, none⟩) (1 + n) (1 + n + nd29), .int .i32 0, .int .u8 0, .int .u8 0, .bool false, .bool false], row (nd26) 228 #[.iface 65 (.pointer (some ⟨nd16, 0, none⟩)), .int .i32 loc, .string ⟨#[99, 97, 108, 108]⟩, .int .i32 loc, .int .u8 0, .bool false, .bool false, .bool false], row (nd28) 35 (full exprZ ([.iface 237 (.pointer (some ⟨nd27, 0, none⟩)), .int .i32 loc] ++ (args loc nd14 n)) nd29), row (nd30) 208 #[.slice (some ⟨nd31, 0, none⟩) (u16L name).length ((u16L name).length + nd32), .int .i32 0, .bool false, .bool false, .bool false], row (nd31) 51 (full u16Z (u16L name) nd32), row (nd13) 211 #[.int .u32 5, .int .u32 im, .bool false, .bool false, .bool false], row (B1_1) 25 #[.int .u32 5, .int .u32 im], row (B1) 25 #[.int .u32 0, .int .u32 0]] (argsX X nd14 n) := hO.sub [1, 2, 3, 4, 5, 6, 7, 8, 9, 10, 11, 12, 13, 14, 15, 16, 17, 18, 19, 20] (by decide)
  clear hO
  have hO := hN
  clear hN
  obtain ⟨c9_1_0, c9_1_1, lt9_1, y9_1, -⟩ := hO.k2 1 rfl
  obtain ⟨c9_5_0, c9_5_1, lt9_5, y9_5, -⟩ := hO.k2 5 rfl
  obtain ⟨c9_6_0, c9_6_1, c9_6_2, c9_6_3, c9_6_4, lt9_6, y9_6, -⟩ := hO.k5 6 rfl
  obtain ⟨c9_7_0, c9_7_1, c9_7_2, c9_7_3, c9_7_4, c9_7_5, c9_7_6, c9_7_7, lt9_7, y9_7, -⟩ := hO.k8 7 rfl
  obtain ⟨c9_8_0, c9_8_1, c9_8_2, c9_8_3, c9_8_4, c9_8_5, lt9_8, y9_8, -⟩ := hO.k6 8 rfl
  obtain ⟨c9_12_0, c9_12_1, c9_12_2, c9_12_3, c9_12_4, c9_12_5, c9_12_6, c9_12_7, lt9_12, y9_12, -⟩ := hO.k8 12 rfl
  obtain ⟨c9_13_0, c9_13_1, c9_13_2, c9_13_3, c9_13_4, c9_13_5, c9_13_6, c9_13_7, lt9_13, y9_13, -⟩ := hO.k8 13 rfl
  obtain ⟨c9_15_0, c9_15_1, c9_15_2, c9_15_3, c9_15_4, lt9_15, y9_15, -⟩ := hO.k5 15 rfl
  obtain ⟨c9_17_0, c9_17_1, c9_17_2, c9_17_3, c9_17_4, lt9_17, y9_17, -⟩ := hO.k5 17 rfl
  obtain ⟨c9_18_0, c9_18_1, lt9_18, y9_18, -⟩ := hO.k2 18 rfl
  obtain ⟨c9_19_0, c9_19_1, lt9_19, y9_19, -⟩ := hO.k2 19 rfl
  have HO := Lib.hid hO
  clear hO
  go_wp2_with (first | (with_reducible refine Own.stay (fn := Tryd.f7) ?_) | (first | (go_at_call 31; go_in)))
  try with_reducible refine Own.Stay.mk ?_
  have hO := HO.out
  clear HO c9_1_0 c9_1_1 lt9_1 y9_1 c9_5_0 c9_5_1 lt9_5 y9_5 c9_6_0 c9_6_1 c9_6_2 c9_6_3 c9_6_4 lt9_6 y9_6 c9_7_0 c9_7_1 c9_7_2 c9_7_3 c9_7_4 c9_7_5 c9_7_6 c9_7_7 lt9_7 y9_7 c9_8_0 c9_8_1 c9_8_2 c9_8_3 c9_8_4 c9_8_5 lt9_8 y9_8 c9_12_0 c9_12_1 c9_12_2 c9_12_3 c9_12_4 c9_12_5 c9_12_6 c9_12_7 lt9_12 y9_12 c9_13_0 c9_13_1 c9_13_2 c9_13_3 c9_13_4 c9_13_5 c9_13_6 c9_13_7 lt9_13 y9_13 c9_15_0 c9_15_1 c9_15_2 c9_15_3 c9_15_4 lt9_15 y9_15 c9_17_0 c9_17_1 c9_17_2 c9_17_3 c9_17_4 lt9_17 y9_17 c9_18_0 c9_18_1 lt9_18 y9_18 c9_19_0 c9_19_1 lt9_19 y9_19
  have hL := hO.apart
  have hX := hO.apartX
  have HL := Lib.hid hL
  have HX := Lib.hid hX
  clear hL hX
  have hP9 := hO.pick [13] (by decide)
  have T9 := dotOf nd26 65 nd16 loc ⟨#[99, 97, 108, 108]⟩ loc loc _ _ _ hP9 
  refine Calls.mono T9 ?_
  clear hP9 T9
  rintro e u38 ⟨rfl, hQ⟩
  have hN : Own w0 u38 [row (nd26) 228 #[.iface 65 (.pointer (some ⟨nd16, 0, none⟩)), .int .i32 loc, .string ⟨#[99, 97, 108, 108]⟩, .int .i32 loc, .int .u8 0, .bool false, .bool false, .bool false], ((nd5, .map #[⟨.string ⟨#[95, 95, 115, 117, 112, 101, 114, 71, 101, 116]⟩, .agg #[.int .i32 loc, .int .u32 0, .int .u32 1], 0⟩] 1) : Rw), row (B35) 25 #[.int .u32 0, .int .u32 1], row (nd22) 56 (full symZ (symL ([sy ⟨#[70, 111, 111]⟩ (uz r 0), sy ⟨#[95, 95, 115, 117, 112, 101, 114, 71, 101, 116]⟩ 1])) nd23), row (nd6) 203 #[.pointer none, .pointer none, .slice none 0 0, .map none, .slice none 0 0, .slice (some ⟨nd24, 0, none⟩) 1 (1 + nd25), .int .i32 0, .int .i32 0, .int .u32 0, .int .u32 0, .bool false, .bool false, .bool false, .bool false, .int .u8 0, .int .u8 6], row (nd24) 25 (full refZ [.int .u32 0, .int .u32 1] nd25), row (nd7) 25 #[.int .u32 0, .int .u32 0], row (nd17) 211 #[.int .u32 0, .int .u32 1, .bool false, .bool false, .bool false], row (nd16) 71 #[.iface 209 (.pointer (some ⟨nd17, 0, none⟩)), .int .i32 loc, .slice (some ⟨nd18, 0, none⟩) 3 3, .int .i32 0, .int .u8 0, .int .u8 0, .bool false, .bool false], row (nd18) 35 #[.iface (clsTy s) (.pointer (some ⟨nd19, 0, none⟩)), .int .i32 loc, .iface (thsTy r) (.pointer (some ⟨nd21, 0, none⟩)), .int .i32 loc, .iface 206 (.pointer (some ⟨nd30, 0, none⟩)), .int .i32 loc], row (nd19) (clsT s) (clsC s loc nd20), row (nd20) (xtrT s) (xtrC s loc nd19), row (nd21) (thsT r) (thsC r), row (nd9) 71 #[.iface 225 (.pointer (some ⟨nd26, 0, none⟩)), .int .i32 loc, .slice (some ⟨nd28, 0, none⟩) (1 + n) (1 + n + nd29), .int .i32 0, .int .u8 0, .int .u8 0, .bool false, .bool false], row (nd28) 35 (full exprZ ([.iface 237 (.pointer (some ⟨nd27, 0, none⟩)), .int .i32 loc] ++ (args loc nd14 n)) nd29), row (nd30) 208 #[.slice (some ⟨nd31, 0, none⟩) (u16L name).length ((u16L name).length + nd32), .int .i32 0, .bool false, .bool false, .bool false], row (nd31) 51 (full u16Z (u16L name) nd32), row (nd13) 211 #[.int .u32 5, .int .u32 im, .bool false, .bool false, .bool false], row (B1_1) 25 #[.int .u32 5, .int .u32 im], row (B1) 25 #[.int .u32 0, .int .u32 0]] (argsX X nd14 n) := hQ.back HL.out HX.out [0, 1, 2, 3, 4, 5, 6, 7, 8, 9, 10, 11, 12, 14, 15, 16, 17, 18, 19] (by decide) (by decide)
  clear hQ HL HX hO
  have hO := hN
  clear hN
  obtain ⟨c9_0_0, c9_0_1, c9_0_2, c9_0_3, c9_0_4, c9_0_5, c9_0_6, c9_0_7, lt9_0, y9_0, -⟩ := hO.k8 0 rfl
  obtain ⟨c9_2_0, c9_2_1, lt9_2, y9_2, -⟩ := hO.k2 2 rfl
  obtain ⟨c9_6_0, c9_6_1, lt9_6, y9_6, -⟩ := hO.k2 6 rfl
  obtain ⟨c9_7_0, c9_7_1, c9_7_2, c9_7_3, c9_7_4, lt9_7, y9_7, -⟩ := hO.k5 7 rfl
  obtain ⟨c9_8_0, c9_8_1, c9_8_2, c9_8_3, c9_8_4, c9_8_5, c9_8_6, c9_8_7, lt9_8, y9_8, -⟩ := hO.k8 8 rfl
  obtain ⟨c9_9_0, c9_9_1, c9_9_2, c9_9_3, c9_9_4, c9_9_5, lt9_9, y9_9, -⟩ := hO.k6 9 rfl
  obtain ⟨c9_13_0, c9_13_1, c9_13_2, c9_13_3, c9_13_4, c9_13_5, c9_13_6, c9_13_7, lt9_13, y9_13, -⟩ := hO.k8 13 rfl
  obtain ⟨c9_15_0, c9_15_1, c9_15_2, c9_15_3, c9_15_4, lt9_15, y9_15, -⟩ := hO.k5 15 rfl
  obtain ⟨c9_17_0, c9_17_1, c9_17_2, c9_17_3, c9_17_4, lt9_17, y9_17, -⟩ := hO.k5 17 rfl
  obtain ⟨c9_18_0, c9_18_1, lt9_18, y9_18, -⟩ := hO.k2 18 rfl
  obtain ⟨c9_19_0, c9_19_1, lt9_19, y9_19, -⟩ := hO.k2 19 rfl
  have HO := Lib.hid hO
  clear hO
  go_wp2_with (first | (with_reducible refine Own.stay (fn := Tryd.f7) ?_) | (first | (go_at_call 31; go_in)))
  try with_reducible refine Own.Stay.mk ?_
  have hO := HO.out
  clear HO c9_0_0 c9_0_1 c9_0_2 c9_0_3 c9_0_4 c9_0_5 c9_0_6 c9_0_7 lt9_0 y9_0 c9_2_0 c9_2_1 lt9_2 y9_2 c9_6_0 c9_6_1 lt9_6 y9_6 c9_7_0 c9_7_1 c9_7_2 c9_7_3 c9_7_4 lt9_7 y9_7 c9_8_0 c9_8_1 c9_8_2 c9_8_3 c9_8_4 c9_8_5 c9_8_6 c9_8_7 lt9_8 y9_8 c9_9_0 c9_9_1 c9_9_2 c9_9_3 c9_9_4 c9_9_5 lt9_9 y9_9 c9_13_0 c9_13_1 c9_13_2 c9_13_3 c9_13_4 c9_13_5 c9_13_6 c9_13_7 lt9_13 y9_13 c9_15_0 c9_15_1 c9_15_2 c9_15_3 c9_15_4 lt9_15 y9_15 c9_17_0 c9_17_1 c9_17_2 c9_17_3 c9_17_4 lt9_17 y9_17 c9_18_0 c9_18_1 lt9_18 y9_18 c9_19_0 c9_19_1 lt9_19 y9_19
  generalize hW : World.alloc _ _ = W40
  have hN : Own w0 W40 [row (u38.heap.size) 35 #[.iface 65 (.pointer (some ⟨nd16, 0, none⟩)), .int .i32 loc], row (nd26) 228 #[.iface 65 (.pointer (some ⟨nd16, 0, none⟩)), .int .i32 loc, .string ⟨#[99, 97, 108, 108]⟩, .int .i32 loc, .int .u8 0, .bool false, .bool false, .bool false], ((nd5, .map #[⟨.string ⟨#[95, 95, 115, 117, 112, 101, 114, 71, 101, 116]⟩, .agg #[.int .i32 loc, .int .u32 0, .int .u32 1], 0⟩] 1) : Rw), row (B35) 25 #[.int .u32 0, .int .u32 1], row (nd22) 56 (full symZ (symL ([sy ⟨#[70, 111, 111]⟩ (uz r 0), sy ⟨#[95, 95, 115, 117, 112, 101, 114, 71, 101, 116]⟩ 1])) nd23), row (nd6) 203 #[.pointer none, .pointer none, .slice none 0 0, .map none, .slice none 0 0, .slice (some ⟨nd24, 0, none⟩) 1 (1 + nd25), .int .i32 0, .int .i32 0, .int .u32 0, .int .u32 0, .bool false, .bool false, .bool false, .bool false, .int .u8 0, .int .u8 6], row (nd24) 25 (full refZ [.int .u32 0, .int .u32 1] nd25), row (nd7) 25 #[.int .u32 0, .int .u32 0], row (nd17) 211 #[.int .u32 0, .int .u32 1, .bool false, .bool false, .bool false], row (nd16) 71 #[.iface 209 (.pointer (some ⟨nd17, 0, none⟩)), .int .i32 loc, .slice (some ⟨nd18, 0, none⟩) 3 3, .int .i32 0, .int .u8 0, .int .u8 0, .bool false, .bool false], row (nd18) 35 #[.iface (clsTy s) (.pointer (some ⟨nd19, 0, none⟩)), .int .i32 loc, .iface (thsTy r) (.pointer (some ⟨nd21, 0, none⟩)), .int .i32 loc, .iface 206 (.pointer (some ⟨nd30, 0, none⟩)), .int .i32 loc], row (nd19) (clsT s) (clsC s loc nd20), row (nd20) (xtrT s) (xtrC s loc nd19), row (nd21) (thsT r) (thsC r), row (nd9) 71 #[.iface 225 (.pointer (some ⟨nd26, 0, none⟩)), .int .i32 loc, .slice (some ⟨nd28, 0, none⟩) (1 + n) (1 + n + nd29), .int .i32 0, .int .u8 0, .int .u8 0, .bool false, .bool false], row (nd28) 35 (full exprZ ([.iface 237 (.pointer (some ⟨nd27, 0, none⟩)), .int .i32 loc] ++ (args loc nd14 n)) nd29), row (nd30) 208 #[.slice (some ⟨nd31, 0, none⟩) (u16L name).length ((u16L name).length + nd32), .int .i32 0, .bool false, .bool false, .bool false], row (nd31) 51 (full u16Z (u16L name) nd32), row (nd13) 211 #[.int .u32 5, .int .u32 im, .bool false, .bool false, .bool false], row (B1_1) 25 #[.int .u32 5, .int .u32 im], row (B1) 25 #[.int .u32 0, .int .u32 0]] (argsX X nd14 n) := by
    rw [← hW]
    exact (hO).alloc' _ (u38.heap.size) (by simp)
  clear hW hO
  generalize u38.heap.size = B39 at hN ⊢
  have hO := hN
  clear hN
  have hL := hO.apart
  have hX := hO.apartX
  have HL := Lib.hid hL
  have HX := Lib.hid hX
  clear hL hX
  have hP9 := hO.pick [9, 8] (by decide)
  have T9 := helperCall3 nd16 nd17 nd18 loc loc 0 1 _ _ _ hP9 
  refine Calls.mono T9 ?_
  clear hP9 T9
  rintro e u41 ⟨rfl, hQ⟩
  have hN : Own w0 u41 [row (nd16) 71 #[.iface 209 (.pointer (some ⟨nd17, 0, none⟩)), .int .i32 loc, .slice (some ⟨nd18, 0, none⟩) 3 3, .int .i32 0, .int .u8 0, .int .u8 0, .bool false, .bool false], row (nd17) 211 #[.int .u32 0, .int .u32 1, .bool false, .bool false, .bool false], row (B39) 35 #[.iface 65 (.pointer (some ⟨nd16, 0, none⟩)), .int .i32 loc], row (nd26) 228 #[.iface 65 (.pointer (some ⟨nd16, 0, none⟩)), .int .i32 loc, .string ⟨#[99, 97, 108, 108]⟩, .int .i32 loc, .int .u8 0, .bool false, .bool false, .bool false], ((nd5, .map #[⟨.string ⟨#[95, 95, 115, 117, 112, 101, 114, 71, 101, 116]⟩, .agg #[.int .i32 loc, .int .u32 0, .int .u32 1], 0⟩] 1) : Rw), row (B35) 25 #[.int .u32 0, .int .u32 1], row (nd22) 56 (full symZ (symL ([sy ⟨#[70, 111, 111]⟩ (uz r 0), sy ⟨#[95, 95, 115, 117, 112, 101, 114, 71, 101, 116]⟩ 1])) nd23), row (nd6) 203 #[.pointer none, .pointer none, .slice none 0 0, .map none, .slice none 0 0, .slice (some ⟨nd24, 0, none⟩) 1 (1 + nd25), .int .i32 0, .int .i32 0, .int .u32 0, .int .u32 0, .bool false, .bool false, .bool false, .bool false, .int .u8 0, .int .u8 6], row (nd24) 25 (full refZ [.int .u32 0, .int .u32 1] nd25), row (nd7) 25 #[.int .u32 0, .int .u32 0], row (nd18) 35 #[.iface (clsTy s) (.pointer (some ⟨nd19, 0, none⟩)), .int .i32 loc, .iface (thsTy r) (.pointer (some ⟨nd21, 0, none⟩)), .int .i32 loc, .iface 206 (.pointer (some ⟨nd30, 0, none⟩)), .int .i32 loc], row (nd19) (clsT s) (clsC s loc nd20), row (nd20) (xtrT s) (xtrC s loc nd19), row (nd21) (thsT r) (thsC r), row (nd9) 71 #[.iface 225 (.pointer (some ⟨nd26, 0, none⟩)), .int .i32 loc, .slice (some ⟨nd28, 0, none⟩) (1 + n) (1 + n + nd29), .int .i32 0, .int .u8 0, .int .u8 0, .bool false, .bool false], row (nd28) 35 (full exprZ ([.iface 237 (.pointer (some ⟨nd27, 0, none⟩)), .int .i32 loc] ++ (args loc nd14 n)) nd29), row (nd30) 208 #[.slice (some ⟨nd31, 0, none⟩) (u16L name).length ((u16L name).length + nd32), .int .i32 0, .bool false, .bool false, .bool false], row (nd31) 51 (full u16Z (u16L name) nd32), row (nd13) 211 #[.int .u32 5, .int .u32 im, .bool false, .bool false, .bool false], row (B1_1) 25 #[.int .u32 5, .int .u32 im], row (B1) 25 #[.int .u32 0, .int .u32 0]] (argsX X nd14 n) := hQ.back HL.out HX.out [0, 1, 2, 3, 4, 5, 6, 7, 10, 11, 12, 13, 14, 15, 16, 17, 18, 19, 20] (by decide) (by decide)
  clear hQ HL HX hO
  have hO := hN
  clear hN
  obtain ⟨c9_0_0, c9_0_1, c9_0_2, c9_0_3, c9_0_4, c9_0_5, c9_0_6, c9_0_7, lt9_0, y9_0, -⟩ := hO.k8 0 rfl
  obtain ⟨c9_1_0, c9_1_1, c9_1_2, c9_1_3, c9_1_4, lt9_1, y9_1, -⟩ := hO.k5 1 rfl
  obtain ⟨c9_2_0, c9_2_1, lt9_2, y9_2, -⟩ := hO.k2 2 rfl
  obtain ⟨c9_3_0, c9_3_1, c9_3_2, c9_3_3, c9_3_4, c9_3_5, c9_3_6, c9_3_7, lt9_3, y9_3, -⟩ := hO.k8 3 rfl
  obtain ⟨c9_5_0, c9_5_1, lt9_5, y9_5, -⟩ := hO.k2 5 rfl
  obtain ⟨c9_9_0, c9_9_1, lt9_9, y9_9, -⟩ := hO.k2 9 rfl
  obtain ⟨c9_10_0, c9_10_1, c9_10_2, c9_10_3, c9_10_4, c9_10_5, lt9_10, y9_10, -⟩ := hO.k6 10 rfl
  obtain ⟨c9_14_0, c9_14_1, c9_14_2, c9_14_3, c9_14_4, c9_14_5, c9_14_6, c9_14_7, lt9_14, y9_14, -⟩ := hO.k8 14 rfl
  obtain ⟨c9_16_0, c9_16_1, c9_16_2, c9_16_3, c9_16_4, lt9_16, y9_16, -⟩ := hO.k5 16 rfl
  obtain ⟨c9_18_0, c9_18_1, c9_18_2, c9_18_3, c9_18_4, lt9_18, y9_18, -⟩ := hO.k5 18 rfl
  obtain ⟨c9_19_0, c9_19_1, lt9_19, y9_19, -⟩ := hO.k2 19 rfl
  obtain ⟨c9_20_0, c9_20_1, lt9_20, y9_20, -⟩ := hO.k2 20 rfl
  have HO := Lib.hid hO
  clear hO
  go_wp2_with (first | (with_reducible refine Own.stay (fn := Tryd.f7) ?_) | (first | (go_at_call 31; go_in)))
  try with_reducible refine Own.Stay.mk ?_
  have hO := HO.out
  clear HO c9_0_0 c9_0_1 c9_0_2 c9_0_3 c9_0_4 c9_0_5 c9_0_6 c9_0_7 lt9_0 y9_0 c9_1_0 c9_1_1 c9_1_2 c9_1_3 c9_1_4 lt9_1 y9_1 c9_2_0 c9_2_1 lt9_2 y9_2 c9_3_0 c9_3_1 c9_3_2 c9_3_3 c9_3_4 c9_3_5 c9_3_6 c9_3_7 lt9_3 y9_3 c9_5_0 c9_5_1 lt9_5 y9_5 c9_9_0 c9_9_1 lt9_9 y9_9 c9_10_0 c9_10_1 c9_10_2 c9_10_3 c9_10_4 c9_10_5 lt9_10 y9_10 c9_14_0 c9_14_1 c9_14_2 c9_14_3 c9_14_4 c9_14_5 c9_14_6 c9_14_7 lt9_14 y9_14 c9_16_0 c9_16_1 c9_16_2 c9_16_3 c9_16_4 lt9_16 y9_16 c9_18_0 c9_18_1 c9_18_2 c9_18_3 c9_18_4 lt9_18 y9_18 c9_19_0 c9_19_1 lt9_19 y9_19 c9_20_0 c9_20_1 lt9_20 y9_20
  have hL := hO.apart
  have hX := hO.apartX
  have HL := Lib.hid hL
  have HX := Lib.hid hX
  clear hL hX
  have hP9 := hO.pick [10, 11, 12, 13, 20] (by decide)
  generalize hX9_42 : Own.Rest _ _ (argsX X nd14 n) = X9_42 at hP9
  replace hP9 : Own w0 u41 [row (nd18) 35 #[.iface (clsTy s) (.pointer (some ⟨nd19, 0, none⟩)), .int .i32 loc, .iface (thsTy r) (.pointer (some ⟨nd21, 0, none⟩)), .int .i32 loc, .iface 206 (.pointer (some ⟨nd30, 0, none⟩)), .int .i32 loc], row (nd19) (clsT s) (clsC s loc nd20), row (nd20) (xtrT s) (xtrC s loc nd19), row (nd21) (thsT r) (thsC r), row (B1) 25 #[.int .u32 0, .int .u32 0]] X9_42 := hP9
  clear hO
  have hO := hP9
  clear hP9
  have st9 := rlaw44y09_st s r loc B1 nd18 nd19 nd20 nd21 nd30
  let R9 := rlaw44y09R s r loc B1 nd18 nd19 nd20 nd21 nd30
  refine wp_region_own (e := rlaw44y09E s r loc B1 nd18 nd19 nd20 nd21 nd30) (anc := rlaw44y09Anc) (G := (fun L9 α u9 => OwnF w0 u9 (act rlaw44y09Cnt 5 L9) (rlaw44y09R s r loc B1 nd18 nd19 nd20 nd21 nd30 L9 α) X9_42)) (by kernel_rfl) (by kernel_rfl) (by kernel_rfl) (by kernel_rfl) (rlaw44y09_he s r loc B1 nd18 nd19 nd20 nd21 nd30) ?_ (RunsAll.all ?_) ?_
  · have hp : ∀ i, act rlaw44y09Cnt 5 (fun _ => false) i → i ∈ [999, 1999, 2999, 3999, 4999] := by
      intro i hi
      have h9 : i % 1000 = 999 := by
        by_cases h : i % 1000 = 999
        · exact h
        · exact absurd (act_lt hi h) (by simp)
      unfold act at hi
      rw [if_pos h9] at hi
      simp only [List.mem_cons, List.not_mem_nil, or_false]
      omega
    refine hO.drew.family (fun i hi => ?_) (fun i j hi hj hij => ?_)
    · have := hp i hi
      simp only [List.mem_cons, List.not_mem_nil, or_false] at this
      rcases this with rfl | rfl | rfl | rfl | rfl <;> rfl
    · have h1 := hp i hi
      have h2 := hp j hj
      simp only [List.mem_cons, List.not_mem_nil, or_false] at h1 h2
      omega
  · refine ⟨?_, ?_, ?_, ?_, ?_, ?_, ?_, ?_, ?_, ?_, ?_, ?_, ?_, ?_, ?_, ?_, ?_, ?_, ?_, ?_, trivial⟩
    · intro L9 α a9 u9 K9 hL hcl hA hG hS h0 hK
      replace hL : L9 0 = false := hL
      have q44 : a9.tmps[44]? = some (.bool true) := (h0 44 (by kernel_rfl)).trans rfl
      have s44 := Rega.eval_of q44
      go_simp
      exact hK _ α _ (fun _ _ => rfl) rfl (step_same (st9) hL hcl rfl rfl hG)
    · intro L9 α a9 u9 K9 hL hcl hA hG hS h0 hK
      replace hL : L9 1 = false := hL
      have q243 : a9.tmps[243]? = some (.bool true) := hS 0 243 (by decide) rfl (by show 243 < 342; decide)
      have s243 := Rega.eval_of q243
      go_simp
      exact hK _ α _ (fun _ _ => rfl) rfl (step_same (st9) hL hcl rfl rfl hG)
    · intro L9 α a9 u9 K9 hL hcl hA hG hS h0 hK
      replace hL : L9 2 = false := hL
      have q244 : a9.tmps[244]? = some (.bool false) := hS 1 244 (by decide) rfl (by show 244 < 342; decide)
      have s244 := Rega.eval_of q244
      go_simp
      exact hK _ α _ (fun _ _ => rfl) rfl (step_same (st9) hL hcl rfl rfl hG)
    · intro L9 α a9 u9 K9 hL hcl hA hG hS h0 hK
      replace hL : L9 3 = false := hL
      have q43 : a9.tmps[43]? = some (.slice (some ⟨nd18, 0, none⟩) 3 3) := (h0 43 (by kernel_rfl)).trans rfl
      have s43 := Rega.eval_of q43
      have q245 : a9.tmps[245]? = some (.bool false) := hS 2 245 (by decide) rfl (by show 245 < 342; decide)
      have s245 := Rega.eval_of q245
      go_simp
      exact hK _ α _ (fun _ _ => rfl) rfl (step_same (st9) hL hcl rfl rfl hG)
    · intro L9 α a9 u9 K9 hL hcl hA hG hS h0 hK
      replace hL : L9 4 = false := hL
      have q246 : a9.tmps[246]? = some (.slice (some ⟨nd18, 0, none⟩) 3 3) := hS 3 246 (by decide) rfl (by show 246 < 342; decide)
      have s246 := Rega.eval_of q246
      have q245 : a9.tmps[245]? = some (.bool false) := hS 2 245 (by decide) rfl (by show 245 < 342; decide)
      have s245 := Rega.eval_of q245
      go_simp
      exact hK _ α _ (fun _ _ => rfl) rfl (step_same (st9) hL hcl rfl rfl hG)
    · intro L9 α a9 u9 K9 hL hcl hA hG hS h0 hK
      replace hL : L9 5 = false := hL
      have q247 : a9.tmps[247]? = some (.pointer (some ⟨nd18, 0, none⟩)) := hS 4 247 (by decide) rfl (by show 247 < 342; decide)
      have s247 := Rega.eval_of q247
      have q245 : a9.tmps[245]? = some (.bool false) := hS 2 245 (by decide) rfl (by show 245 < 342; decide)
      have s245 := Rega.eval_of q245
      have e0 : R9 L9 α 999 = row (nd18) 35 #[.iface (clsTy s) (.pointer (some ⟨nd19, 0, none⟩)), .int .i32 loc, .iface (thsTy r) (.pointer (some ⟨nd21, 0, none⟩)), .int .i32 loc, .iface 206 (.pointer (some ⟨nd30, 0, none⟩)), .int .i32 loc] := rfl
      have hr := hG.rowAt 999 (act_base 999 rfl) e0
      have c0 : u9.cell? ⟨nd18, 0, none⟩ = some (.iface (clsTy s) (.pointer (some ⟨nd19, 0, none⟩))) := hr.cell rfl
      have c1 : u9.cell? ⟨nd18, 1, none⟩ = some (.int .i32 loc) := hr.cell rfl
      clear hr e0
      go_simp
      exact hK _ α _ (fun _ _ => rfl) rfl (step_same (st9) hL hcl rfl rfl hG)
    · intro L9 α a9 u9 K9 hL hcl hA hG hS h0 hK
      replace hL : L9 6 = false := hL
      have q17 : a9.tmps[17]? = some (.pointer (some ⟨B1, 0, none⟩)) := (h0 17 (by kernel_rfl)).trans rfl
      have s17 := Rega.eval_of q17
      have q245 : a9.tmps[245]? = some (.bool false) := hS 2 245 (by decide) rfl (by show 245 < 342; decide)
      have s245 := Rega.eval_of q245
      have e0 : R9 L9 α 4999 = row (B1) 25 #[.int .u32 0, .int .u32 0] := rfl
      have hr := hG.rowAt 4999 (act_base 4999 rfl) e0
      have c0 : u9.cell? ⟨B1, 0, none⟩ = some (.int .u32 0) := hr.cell rfl
      have c1 : u9.cell? ⟨B1, 1, none⟩ = some (.int .u32 0) := hr.cell rfl
      clear hr e0
      go_simp
      exact hK _ α _ (fun _ _ => rfl) rfl (step_same (st9) hL hcl rfl rfl hG)
    · intro L9 α a9 u9 K9 hL hcl hA hG hS h0 hK
      replace hL : L9 7 = false := hL
      have q4 : a9.tmps[4]? = some (.bool s) := (h0 4 (by kernel_rfl)).trans rfl
      have s4 := Rega.eval_of q4
      have q245 : a9.tmps[245]? = some (.bool false) := hS 2 245 (by decide) rfl (by show 245 < 342; decide)
      have s245 := Rega.eval_of q245
      go_simp
      exact hK _ α _ (fun _ _ => rfl) rfl (step_same (st9) hL hcl rfl rfl hG)
    · intro L9 α a9 u9 K9 hL hcl hA hG hS h0 hK
      replace hL : L9 8 = false := hL
      have q248 : a9.tmps[248]? = some (.agg #[.iface (clsTy s) (.pointer (some ⟨nd19, 0, none⟩)), .int .i32 loc]) := hS 5 248 (by decide) rfl (by show 248 < 342; decide)
      have s248 := Rega.eval_of q248
      have q249 : a9.tmps[249]? = some (.agg #[.int .u32 0, .int .u32 0]) := hS 6 249 (by decide) rfl (by show 249 < 342; decide)
      have s249 := Rega.eval_of q249
      have q250 : a9.tmps[250]? = some (.bool s) := hS 7 250 (by decide) rfl (by show 250 < 342; decide)
      have s250 := Rega.eval_of q250
      have q245 : a9.tmps[245]? = some (.bool false) := hS 2 245 (by decide) rfl (by show 245 < 342; decide)
      have s245 := Rega.eval_of q245
      go_simp
      have e0 : R9 L9 α 1999 = row (nd19) (clsT s) (clsC s loc nd20) := rfl
      have e1 : R9 L9 α 2999 = row (nd20) (xtrT s) (xtrC s loc nd19) := rfl
      have hM : ∀ i, i ∈ [1999, 2999] → act rlaw44y09Cnt 5 L9 i := by
        intro i hi
        simp only [List.mem_cons, List.not_mem_nil, or_false] at hi
        rcases hi with rfl | rfl
        · exact act_base 1999 rfl
        · exact act_base 2999 rfl
      have hP : Own w0 u9 [row (nd19) (clsT s) (clsC s loc nd20), row (nd20) (xtrT s) (xtrC s loc nd19)] _ := (hG.pick [1999, 2999] (by decide) hM).conv (by
        show [R9 L9 α 1999, R9 L9 α 2999] = _
        rw [e0, e1])
      clear e0 e1 hM
      refine Calls.mono (classArgU s nd19 nd20 loc loc _ _ _ hP ) ?_
      rintro e9 u1 ⟨rfl, hQ⟩
      obtain ⟨α', hα'⟩ : ∃ α' : Rega.Atoms, α' = α := ⟨_, rfl⟩
      have f0 : R9 (Rega.ran L9 8) α' 1999 = row (nd19) (clsT s) (clsC s loc nd20) := rfl
      have f1 : R9 (Rega.ran L9 8) α' 2999 = row (nd20) (xtrT s) (xtrC s loc nd19) := rfl
      have hα : ∀ j, j % 1000 ≠ 8 → α' j = α j := fun j hj => by rw [hα']
      skip
      refine hK _ α' _ hα ?_ (step_call (st9) hL hcl hα [1999, 2999] [1999, 2999] (by decide) (by decide) (by decide) (M := _) ?_ hG hQ)
      · rfl
      · show [R9 (Rega.ran L9 8) α' 1999, R9 (Rega.ran L9 8) α' 2999] = _
        rw [f0, f1]
    · intro L9 α a9 u9 K9 hL hcl hA hG hS h0 hK
      replace hL : L9 9 = false := hL
      have q251 : a9.tmps[251]? = some (.bool true) := hS 8 251 (by decide) rfl (by show 251 < 342; decide)
      have s251 := Rega.eval_of q251
      have q245 : a9.tmps[245]? = some (.bool false) := hS 2 245 (by decide) rfl (by show 245 < 342; decide)
      have s245 := Rega.eval_of q245
      go_simp
      exact hK _ α _ (fun _ _ => rfl) rfl (step_same (st9) hL hcl rfl rfl hG)
    · intro L9 α a9 u9 K9 hL hcl hA hG hS h0 hK
      replace hL : L9 10 = false := hL
      have q245 : a9.tmps[245]? = some (.bool false) := hS 2 245 (by decide) rfl (by show 245 < 342; decide)
      have s245 := Rega.eval_of q245
      have q252 : a9.tmps[252]? = some (.bool false) := hS 9 252 (by decide) rfl (by show 252 < 342; decide)
      have s252 := Rega.eval_of q252
      go_simp
      exact hK _ α _ (fun _ _ => rfl) rfl (step_same (st9) hL hcl rfl rfl hG)
    · intro L9 α a9 u9 K9 hL hcl hA hG hS h0 hK
      replace hL : L9 11 = false := hL
      have q253 : a9.tmps[253]? = some (.bool false) := hS 10 253 (by decide) rfl (by show 253 < 342; decide)
      have s253 := Rega.eval_of q253
      go_simp
      exact hK _ α _ (fun _ _ => rfl) rfl (step_same (st9) hL hcl rfl rfl hG)
    · intro L9 α a9 u9 K9 hL hcl hA hG hS h0 hK
      replace hL : L9 12 = false := hL
      have q43 : a9.tmps[43]? = some (.slice (some ⟨nd18, 0, none⟩) 3 3) := (h0 43 (by kernel_rfl)).trans rfl
      have s43 := Rega.eval_of q43
      have q254 : a9.tmps[254]? = some (.bool false) := hS 11 254 (by decide) rfl (by show 254 < 342; decide)
      have s254 := Rega.eval_of q254
      go_simp
      exact hK _ α _ (fun _ _ => rfl) rfl (step_same (st9) hL hcl rfl rfl hG)
    · intro L9 α a9 u9 K9 hL hcl hA hG hS h0 hK
      replace hL : L9 13 = false := hL
      have q255 : a9.tmps[255]? = some (.slice (some ⟨nd18, 0, none⟩) 3 3) := hS 12 255 (by decide) rfl (by show 255 < 342; decide)
      have s255 := Rega.eval_of q255
      have q254 : a9.tmps[254]? = some (.bool false) := hS 11 254 (by decide) rfl (by show 254 < 342; decide)
      have s254 := Rega.eval_of q254
      go_simp
      exact hK _ α _ (fun _ _ => rfl) rfl (step_same (st9) hL hcl rfl rfl hG)
    · intro L9 α a9 u9 K9 hL hcl hA hG hS h0 hK
      replace hL : L9 14 = false := hL
      have q256 : a9.tmps[256]? = some (.pointer (some ⟨nd18, 2, none⟩)) := hS 13 256 (by decide) rfl (by show 256 < 342; decide)
      have s256 := Rega.eval_of q256
      have q254 : a9.tmps[254]? = some (.bool false) := hS 11 254 (by decide) rfl (by show 254 < 342; decide)
      have s254 := Rega.eval_of q254
      have e0 : R9 L9 α 999 = row (nd18) 35 #[.iface (clsTy s) (.pointer (some ⟨nd19, 0, none⟩)), .int .i32 loc, .iface (thsTy r) (.pointer (some ⟨nd21, 0, none⟩)), .int .i32 loc, .iface 206 (.pointer (some ⟨nd30, 0, none⟩)), .int .i32 loc] := rfl
      have hr := hG.rowAt 999 (act_base 999 rfl) e0
      have c0 : u9.cell? ⟨nd18, 2, none⟩ = some (.iface (thsTy r) (.pointer (some ⟨nd21, 0, none⟩))) := hr.cell rfl
      have c1 : u9.cell? ⟨nd18, 3, none⟩ = some (.int .i32 loc) := hr.cell rfl
      clear hr e0
      go_simp
      exact hK _ α _ (fun _ _ => rfl) rfl (step_same (st9) hL hcl rfl rfl hG)
    · intro L9 α a9 u9 K9 hL hcl hA hG hS h0 hK
      replace hL : L9 15 = false := hL
      have q17 : a9.tmps[17]? = some (.pointer (some ⟨B1, 0, none⟩)) := (h0 17 (by kernel_rfl)).trans rfl
      have s17 := Rega.eval_of q17
      have q254 : a9.tmps[254]? = some (.bool false) := hS 11 254 (by decide) rfl (by show 254 < 342; decide)
      have s254 := Rega.eval_of q254
      have e0 : R9 L9 α 4999 = row (B1) 25 #[.int .u32 0, .int .u32 0] := rfl
      have hr := hG.rowAt 4999 (act_base 4999 rfl) e0
      have c0 : u9.cell? ⟨B1, 0, none⟩ = some (.int .u32 0) := hr.cell rfl
      have c1 : u9.cell? ⟨B1, 1, none⟩ = some (.int .u32 0) := hr.cell rfl
      clear hr e0
      go_simp
      exact hK _ α _ (fun _ _ => rfl) rfl (step_same (st9) hL hcl rfl rfl hG)
    · intro L9 α a9 u9 K9 hL hcl hA hG hS h0 hK
      replace hL : L9 16 = false := hL
      have q5 : a9.tmps[5]? = some (.bool r) := (h0 5 (by kernel_rfl)).trans rfl
      have s5 := Rega.eval_of q5
      have q254 : a9.tmps[254]? = some (.bool false) := hS 11 254 (by decide) rfl (by show 254 < 342; decide)
      have s254 := Rega.eval_of q254
      go_simp
      exact hK _ α _ (fun _ _ => rfl) rfl (step_same (st9) hL hcl rfl rfl hG)
    · intro L9 α a9 u9 K9 hL hcl hA hG hS h0 hK
      replace hL : L9 17 = false := hL
      have q257 : a9.tmps[257]? = some (.agg #[.iface (thsTy r) (.pointer (some ⟨nd21, 0, none⟩)), .int .i32 loc]) := hS 14 257 (by decide) rfl (by show 257 < 342; decide)
      have s257 := Rega.eval_of q257
      have q258 : a9.tmps[258]? = some (.agg #[.int .u32 0, .int .u32 0]) := hS 15 258 (by decide) rfl (by show 258 < 342; decide)
      have s258 := Rega.eval_of q258
      have q259 : a9.tmps[259]? = some (.bool r) := hS 16 259 (by decide) rfl (by show 259 < 342; decide)
      have s259 := Rega.eval_of q259
      have q254 : a9.tmps[254]? = some (.bool false) := hS 11 254 (by decide) rfl (by show 254 < 342; decide)
      have s254 := Rega.eval_of q254
      go_simp
      have e0 : R9 L9 α 3999 = row (nd21) (thsT r) (thsC r) := rfl
      have hM : ∀ i, i ∈ [3999] → act rlaw44y09Cnt 5 L9 i := by
        intro i hi
        simp only [List.mem_cons, List.not_mem_nil, or_false] at hi
        subst hi
        exact act_base 3999 rfl
      have hP : Own w0 u9 [row (nd21) (thsT r) (thsC r)] _ := (hG.pick [3999] (by decide) hM).conv (by
        show [R9 L9 α 3999] = _
        rw [e0])
      clear e0 hM
      refine Calls.mono (thisArgU r nd21 loc _ _ _ hP ) ?_
      rintro e9 u1 ⟨rfl, hQ⟩
      obtain ⟨α', hα'⟩ : ∃ α' : Rega.Atoms, α' = α := ⟨_, rfl⟩
      have f0 : R9 (Rega.ran L9 17) α' 3999 = row (nd21) (thsT r) (thsC r) := rfl
      have hα : ∀ j, j % 1000 ≠ 17 → α' j = α j := fun j hj => by rw [hα']
      skip
      refine hK _ α' _ hα ?_ (step_call (st9) hL hcl hα [3999] [3999] (by decide) (by decide) (by decide) (M := _) ?_ hG hQ)
      · rfl
      · show [R9 (Rega.ran L9 17) α' 3999] = _
        rw [f0]
    · intro L9 α a9 u9 K9 hL hcl hA hG hS h0 hK
      replace hL : L9 18 = false := hL
      have q260 : a9.tmps[260]? = some (.bool true) := hS 17 260 (by decide) rfl (by show 260 < 342; decide)
      have s260 := Rega.eval_of q260
      have q254 : a9.tmps[254]? = some (.bool false) := hS 11 254 (by decide) rfl (by show 254 < 342; decide)
      have s254 := Rega.eval_of q254
      go_simp
      exact hK _ α _ (fun _ _ => rfl) rfl (step_same (st9) hL hcl rfl rfl hG)
    · intro L9 α a9 u9 K9 hL hcl hA hG hS h0 hK
      replace hL : L9 19 = false := hL
      have q254 : a9.tmps[254]? = some (.bool false) := hS 11 254 (by decide) rfl (by show 254 < 342; decide)
      have s254 := Rega.eval_of q254
      have q261 : a9.tmps[261]? = some (.bool false) := hS 18 261 (by decide) rfl (by show 261 < 342; decide)
      have s261 := Rega.eval_of q261
      go_simp
      exact hK _ α _ (fun _ _ => rfl) rfl (step_same (st9) hL hcl rfl rfl hG)
  clear st9
  intro α u hG
  have e0 : R9 (fun k => decide (k < 20)) α 999 = row (nd18) 35 #[.iface (clsTy s) (.pointer (some ⟨nd19, 0, none⟩)), .int .i32 loc, .iface (thsTy r) (.pointer (some ⟨nd21, 0, none⟩)), .int .i32 loc, .iface 206 (.pointer (some ⟨nd30, 0, none⟩)), .int .i32 loc] := rfl
  have e1 : R9 (fun k => decide (k < 20)) α 1999 = row (nd19) (clsT s) (clsC s loc nd20) := rfl
  have e2 : R9 (fun k => decide (k < 20)) α 2999 = row (nd20) (xtrT s) (xtrC s loc nd19) := rfl
  have e3 : R9 (fun k => decide (k < 20)) α 3999 = row (nd21) (thsT r) (thsC r) := rfl
  have e4 : R9 (fun k => decide (k < 20)) α 4999 = row (B1) 25 #[.int .u32 0, .int .u32 0] := rfl
  have hO : Own w0 u [row (nd18) 35 #[.iface (clsTy s) (.pointer (some ⟨nd19, 0, none⟩)), .int .i32 loc, .iface (thsTy r) (.pointer (some ⟨nd21, 0, none⟩)), .int .i32 loc, .iface 206 (.pointer (some ⟨nd30, 0, none⟩)), .int .i32 loc], row (nd19) (clsT s) (clsC s loc nd20), row (nd20) (xtrT s) (xtrC s loc nd19), row (nd21) (thsT r) (thsC r), row (B1) 25 #[.int .u32 0, .int .u32 0]] X9_42 := (hG.list [999, 1999, 2999, 3999, 4999] (by decide) (act_all (by decide))).conv (by
    show [R9 (fun k => decide (k < 20)) α 999, R9 (fun k => decide (k < 20)) α 1999, R9 (fun k => decide (k < 20)) α 2999, R9 (fun k => decide (k < 20)) α 3999, R9 (fun k => decide (k < 20)) α 4999] = _
    rw [e0, e1, e2, e3, e4])
  clear hG e0 e1 e2 e3 e4 R9
  generalize hfr : Rega.frameAt _ _ _ _ _ = fr
  have hdf : fr = ⟨#[.int .u8 kind, .string name, .int .i64 (n : Int), .bool true, .bool s, .bool r, .int .i32 loc, .int .u32 im, undef, undef, undef, undef, undef, undef, undef, undef, .bool false, .pointer (some ⟨B1, 0, none⟩), .pointer (some ⟨B1_1, 0, none⟩), .pointer (some ⟨nd4, 0, none⟩), .pointer (some ⟨nd9, 0, none⟩), .slice (some ⟨nd22, 0, none⟩) 2 (2 + nd23), .int .u8 0, undef, undef, undef, undef, undef, undef, undef, undef, undef, undef, undef, undef, undef, undef, undef, .pointer (some ⟨B35, 0, none⟩), .bool true, .pointer (some ⟨B39, 0, none⟩), .string ⟨#[99, 97, 108, 108]⟩, .bool true, .slice (some ⟨nd18, 0, none⟩) 3 3, .bool true, undef, undef, .int .u8 kind, .string name, .int .i64 (n : Int), .bool true, .bool s, .bool r, .int .i32 loc, .int .u32 im, .bool true, .bool false, .string name, .int .i64 (name.size : Int), .bool (decide (65536 < (name.size : Int))), .int .i64 (n : Int), .bool (decide ((n : Int) < 0)), .bool (decide ((n : Int) < 0)), .int .i64 (n : Int), .bool (decide (4096 < (n : Int))), .bool (decide ((n : Int) < 0) || decide (4096 < (n : Int))), .agg #[.int .u32 0, .int .u32 0], .int .u32 im, .agg #[.int .u32 5, .int .u32 im], .slice (some ⟨nd3, 0, none⟩) 1 1, .agg #[.int .u32 0, .int .u32 0], .bool s, .bool r, .bool true, .pointer (some ⟨nd4, 0, none⟩), .int .u8 kind, .string name, .int .i64 (n : Int), .int .i32 loc, .int .u32 im, .pointer (some ⟨nd9, 0, none⟩), .pointer (some ⟨nd4, 0, none⟩), .pointer (some ⟨nd9, 0, none⟩), .tuple #[], .pointer (some ⟨nd4, 0, none⟩), .slice (some ⟨nd22, 0, none⟩) 2 (2 + nd23), .int .u8 kind, .int .u8 0, .bool true, .bool true, .int .u8 0, .bool true, .bool true, .bool false, undef, undef, undef, undef, undef, undef, undef, undef, undef, undef, undef, undef, undef, undef, undef, undef, undef, undef, undef, undef, undef, undef, undef, undef, undef, undef, undef, undef, undef, undef, undef, undef, undef, undef, undef, undef, undef, undef, undef, undef, undef, undef, undef, undef, undef, undef, undef, undef, undef, undef, undef, undef, undef, undef, undef, undef, undef, undef, undef, undef, undef, undef, undef, undef, undef, undef, undef, undef, undef, undef, undef, undef, undef, undef, undef, undef, undef, undef, undef, undef, undef, undef, undef, undef, undef, undef, undef, undef, undef, undef, undef, undef, undef, undef, undef, undef, undef, undef, undef, undef, undef, undef, undef, undef, undef, undef, undef, undef, undef, undef, undef, undef, undef, undef, undef, undef, .tuple #[.agg #[.int .u32 0, .int .u32 1], .bool true], .pointer (some ⟨nd4, 0, none⟩), .tuple #[.agg #[.int .u32 0, .int .u32 1], .bool true], .agg #[.int .u32 0, .int .u32 1], .bool true, .bool true, .bool false, .bool false, .pointer (some ⟨nd4, 0, none⟩), .int .i64 1, .bool false, .bool false, .tuple #[.agg #[.iface 65 (.pointer (some ⟨nd16, 0, none⟩)), .int .i32 loc], .string ⟨#[99, 97, 108, 108]⟩, .bool true], .pointer (some ⟨nd9, 0, none⟩), .pointer (some ⟨nd9, 0, none⟩), .pointer (some ⟨nd9, 0, none⟩), .agg #[.iface 225 (.pointer (some ⟨nd26, 0, none⟩)), .int .i32 loc], .tuple #[.agg #[.iface 65 (.pointer (some ⟨nd16, 0, none⟩)), .int .i32 loc], .string ⟨#[99, 97, 108, 108]⟩, .bool true], .agg #[.iface 65 (.pointer (some ⟨nd16, 0, none⟩)), .int .i32 loc], .string ⟨#[99, 97, 108, 108]⟩, .bool true, .bool true, .bool false, .bool false, .string ⟨#[99, 97, 108, 108]⟩, .bool false, .bool false, .tuple #[.slice (some ⟨nd18, 0, none⟩) 3 3, .bool true], .agg #[.iface 65 (.pointer (some ⟨nd16, 0, none⟩)), .int .i32 loc], .agg #[.int .u32 0, .int .u32 1], .tuple #[.slice (some ⟨nd18, 0, none⟩) 3 3, .bool true], .slice (some ⟨nd18, 0, none⟩) 3 3, .bool true, .bool true, .bool false, .bool false, .slice (some ⟨nd18, 0, none⟩) 3 3, .pointer (some ⟨nd18, 0, none⟩), .agg #[.iface (clsTy s) (.pointer (some ⟨nd19, 0, none⟩)), .int .i32 loc], .agg #[.int .u32 0, .int .u32 0], .bool s, .bool true, .bool false, .bool false, .bool false, .slice (some ⟨nd18, 0, none⟩) 3 3, .pointer (some ⟨nd18, 2, none⟩), .agg #[.iface (thsTy r) (.pointer (some ⟨nd21, 0, none⟩)), .int .i32 loc], .agg #[.int .u32 0, .int .u32 0], .bool r, .bool true, .bool false, .bool false, undef, undef, undef, undef, undef, undef, undef, undef, undef, undef, undef, undef, undef, undef, undef, undef, undef, undef, undef, undef, undef, undef, undef, undef, undef, undef, undef, undef, undef, undef, undef, undef, undef, undef, undef, undef, undef, undef, undef, undef, undef, undef, undef, undef, undef, undef, undef, undef, undef, undef, undef, undef, undef, undef, undef, undef, undef, undef, undef, undef, undef, undef, undef, undef, undef, undef, undef, undef, undef, undef, undef, undef, undef, undef, undef, undef, undef, undef, undef], []⟩ := by rw [← hfr]; kernel_rfl
  clear hfr
  subst hdf
  clear α
  subst hX9_42
  have hN : Own w0 u [row (nd18) 35 #[.iface (clsTy s) (.pointer (some ⟨nd19, 0, none⟩)), .int .i32 loc, .iface (thsTy r) (.pointer (some ⟨nd21, 0, none⟩)), .int .i32 loc, .iface 206 (.pointer (some ⟨nd30, 0, none⟩)), .int .i32 loc], row (nd19) (clsT s) (clsC s loc nd20), row (nd20) (xtrT s) (xtrC s loc nd19), row (nd21) (thsT r) (thsC r), row (B1) 25 #[.int .u32 0, .int .u32 0], row (nd16) 71 #[.iface 209 (.pointer (some ⟨nd17, 0, none⟩)), .int .i32 loc, .slice (some ⟨nd18, 0, none⟩) 3 3, .int .i32 0, .int .u8 0, .int .u8 0, .bool false, .bool false], row (nd17) 211 #[.int .u32 0, .int .u32 1, .bool false, .bool false, .bool false], row (B39) 35 #[.iface 65 (.pointer (some ⟨nd16, 0, none⟩)), .int .i32 loc], row (nd26) 228 #[.iface 65 (.pointer (some ⟨nd16, 0, none⟩)), .int .i32 loc, .string ⟨#[99, 97, 108, 108]⟩, .int .i32 loc, .int .u8 0, .bool false, .bool false, .bool false], ((nd5, .map #[⟨.string ⟨#[95, 95, 115, 117, 112, 101, 114, 71, 101, 116]⟩, .agg #[.int .i32 loc, .int .u32 0, .int .u32 1], 0⟩] 1) : Rw), row (B35) 25 #[.int .u32 0, .int .u32 1], row (nd22) 56 (full symZ (symL ([sy ⟨#[70, 111, 111]⟩ (uz r 0), sy ⟨#[95, 95, 115, 117, 112, 101, 114, 71, 101, 116]⟩ 1])) nd23), row (nd6) 203 #[.pointer none, .pointer none, .slice none 0 0, .map none, .slice none 0 0, .slice (some ⟨nd24, 0, none⟩) 1 (1 + nd25), .int .i32 0, .int .i32 0, .int .u32 0, .int .u32 0, .bool false, .bool false, .bool false, .bool false, .int .u8 0, .int .u8 6], row (nd24) 25 (full refZ [.int .u32 0, .int .u32 1] nd25), row (nd7) 25 #[.int .u32 0, .int .u32 0], row (nd9) 71 #[.iface 225 (.pointer (some ⟨nd26, 0, none⟩)), .int .i32 loc, .slice (some ⟨nd28, 0, none⟩) (1 + n) (1 + n + nd29), .int .i32 0, .int .u8 0, .int .u8 0, .bool false, .bool false], row (nd28) 35 (full exprZ ([.iface 237 (.pointer (some ⟨nd27, 0, none⟩)), .int .i32 loc] ++ (args loc nd14 n)) nd29), row (nd30) 208 #[.slice (some ⟨nd31, 0, none⟩) (u16L name).length ((u16L name).length + nd32), .int .i32 0, .bool false, .bool false, .bool false], row (nd31) 51 (full u16Z (u16L name) nd32), row (nd13) 211 #[.int .u32 5, .int .u32 im, .bool false, .bool false, .bool false], row (B1_1) 25 #[.int .u32 5, .int .u32 im]] (argsX X nd14 n) := hO.back HL.out HX.out [0, 1, 2, 3, 4, 5, 6, 7, 8, 9, 14, 15, 16, 17, 18, 19] (by decide) (by decide)
  clear hO HL HX
  have hO := hN
  clear hN
  obtain ⟨c9_0_0, c9_0_1, c9_0_2, c9_0_3, c9_0_4, c9_0_5, lt9_0, y9_0, -⟩ := hO.k6 0 rfl
  obtain ⟨c9_4_0, c9_4_1, lt9_4, y9_4, -⟩ := hO.k2 4 rfl
  obtain ⟨c9_5_0, c9_5_1, c9_5_2, c9_5_3, c9_5_4, c9_5_5, c9_5_6, c9_5_7, lt9_5, y9_5, -⟩ := hO.k8 5 rfl
  obtain ⟨c9_6_0, c9_6_1, c9_6_2, c9_6_3, c9_6_4, lt9_6, y9_6, -⟩ := hO.k5 6 rfl
  obtain ⟨c9_7_0, c9_7_1, lt9_7, y9_7, -⟩ := hO.k2 7 rfl
  obtain ⟨c9_8_0, c9_8_1, c9_8_2, c9_8_3, c9_8_4, c9_8_5, c9_8_6, c9_8_7, lt9_8, y9_8, -⟩ := hO.k8 8 rfl
  obtain ⟨c9_10_0, c9_10_1, lt9_10, y9_10, -⟩ := hO.k2 10 rfl
  obtain ⟨c9_14_0, c9_14_1, lt9_14, y9_14, -⟩ := hO.k2 14 rfl
  obtain ⟨c9_15_0, c9_15_1, c9_15_2, c9_15_3, c9_15_4, c9_15_5, c9_15_6, c9_15_7, lt9_15, y9_15, -⟩ := hO.k8 15 rfl
  obtain ⟨c9_17_0, c9_17_1, c9_17_2, c9_17_3, c9_17_4, lt9_17, y9_17, -⟩ := hO.k5 17 rfl
  obtain ⟨c9_19_0, c9_19_1, c9_19_2, c9_19_3, c9_19_4, lt9_19, y9_19, -⟩ := hO.k5 19 rfl
  obtain ⟨c9_20_0, c9_20_1, lt9_20, y9_20, -⟩ := hO.k2 20 rfl
  have HO := Lib.hid hO
  clear hO
  go_wp2_with (first | (with_reducible refine Own.stay (fn := Tryd.f7) ?_) | (first | (go_at_call 31; go_in)))
  try with_reducible refine Own.Stay.mk ?_
  have hO := HO.out
  clear HO c9_0_0 c9_0_1 c9_0_2 c9_0_3 c9_0_4 c9_0_5 lt9_0 y9_0 c9_4_0 c9_4_1 lt9_4 y9_4 c9_5_0 c9_5_1 c9_5_2 c9_5_3 c9_5_4 c9_5_5 c9_5_6 c9_5_7 lt9_5 y9_5 c9_6_0 c9_6_1 c9_6_2 c9_6_3 c9_6_4 lt9_6 y9_6 c9_7_0 c9_7_1 lt9_7 y9_7 c9_8_0 c9_8_1 c9_8_2 c9_8_3 c9_8_4 c9_8_5 c9_8_6 c9_8_7 lt9_8 y9_8 c9_10_0 c9_10_1 lt9_10 y9_10 c9_14_0 c9_14_1 lt9_14 y9_14 c9_15_0 c9_15_1 c9_15_2 c9_15_3 c9_15_4 c9_15_5 c9_15_6 c9_15_7 lt9_15 y9_15 c9_17_0 c9_17_1 c9_17_2 c9_17_3 c9_17_4 lt9_17 y9_17 c9_19_0 c9_19_1 c9_19_2 c9_19_3 c9_19_4 lt9_19 y9_19 c9_20_0 c9_20_1 lt9_20 y9_20
  have hL := hO.apart
  have hX := hO.apartX
  have HL := Lib.hid hL
  have HX := Lib.hid hX
  clear hL hX
  have hP9 := hO.pick [0, 17, 18] (by decide)
  generalize hX9_43 : Own.Rest _ _ (argsX X nd14 n) = X9_43 at hP9
  replace hP9 : Own w0 u [row (nd18) 35 #[.iface (clsTy s) (.pointer (some ⟨nd19, 0, none⟩)), .int .i32 loc, .iface (thsTy r) (.pointer (some ⟨nd21, 0, none⟩)), .int .i32 loc, .iface 206 (.pointer (some ⟨nd30, 0, none⟩)), .int .i32 loc], row (nd30) 208 #[.slice (some ⟨nd31, 0, none⟩) (u16L name).length ((u16L name).length + nd32), .int .i32 0, .bool false, .bool false, .bool false], row (nd31) 51 (full u16Z (u16L name) nd32)] X9_43 := hP9
  clear hO
  have hO := hP9
  clear hP9
  have st9 := rlaw44y010_st name s r loc nd18 nd19 nd21 nd30 nd31 nd32
  let R9 := rlaw44y010R name s r loc nd18 nd19 nd21 nd30 nd31 nd32
  refine wp_region_own (e := rlaw44y010E name s r loc nd18 nd19 nd21 nd30 nd31 nd32) (anc := rlaw44y010Anc) (G := (fun L9 α u9 => OwnF w0 u9 (act rlaw44y010Cnt 3 L9) (rlaw44y010R name s r loc nd18 nd19 nd21 nd30 nd31 nd32 L9 α) X9_43)) (by kernel_rfl) (by kernel_rfl) (by kernel_rfl) (by kernel_rfl) (rlaw44y010_he name s r loc nd18 nd19 nd21 nd30 nd31 nd32) ?_ (RunsAll.all ?_) ?_
  · have hp : ∀ i, act rlaw44y010Cnt 3 (fun _ => false) i → i ∈ [999, 1999, 2999] := by
      intro i hi
      have h9 : i % 1000 = 999 := by
        by_cases h : i % 1000 = 999
        · exact h
        · exact absurd (act_lt hi h) (by simp)
      unfold act at hi
      rw [if_pos h9] at hi
      simp only [List.mem_cons, List.not_mem_nil, or_false]
      omega
    refine hO.drew.family (fun i hi => ?_) (fun i j hi hj hij => ?_)
    · have := hp i hi
      simp only [List.mem_cons, List.not_mem_nil, or_false] at this
      rcases this with rfl | rfl | rfl <;> rfl
    · have h1 := hp i hi
      have h2 := hp j hj
      simp only [List.mem_cons, List.not_mem_nil, or_false] at h1 h2
      omega
  · refine ⟨?_, ?_, ?_, ?_, ?_, ?_, ?_, trivial⟩
    · intro L9 α a9 u9 K9 hL hcl hA hG hS h0 hK
      replace hL : L9 0 = false := hL
      have q43 : a9.tmps[43]? = some (.slice (some ⟨nd18, 0, none⟩) 3 3) := (h0 43 (by kernel_rfl)).trans rfl
      have s43 := Rega.eval_of q43
      go_simp
      exact hK _ α _ (fun _ _ => rfl) rfl (step_same (st9) hL hcl rfl rfl hG)
    · intro L9 α a9 u9 K9 hL hcl hA hG hS h0 hK
      replace hL : L9 1 = false := hL
      have q265 : a9.tmps[265]? = some (.slice (some ⟨nd18, 0, none⟩) 3 3) := hS 0 265 (by decide) rfl (by show 265 < 342; decide)
      have s265 := Rega.eval_of q265
      go_simp
      exact hK _ α _ (fun _ _ => rfl) rfl (step_same (st9) hL hcl rfl rfl hG)
    · intro L9 α a9 u9 K9 hL hcl hA hG hS h0 hK
      replace hL : L9 2 = false := hL
      have q266 : a9.tmps[266]? = some (.pointer (some ⟨nd18, 4, none⟩)) := hS 1 266 (by decide) rfl (by show 266 < 342; decide)
      have s266 := Rega.eval_of q266
      have e0 : R9 L9 α 999 = row (nd18) 35 #[.iface (clsTy s) (.pointer (some ⟨nd19, 0, none⟩)), .int .i32 loc, .iface (thsTy r) (.pointer (some ⟨nd21, 0, none⟩)), .int .i32 loc, .iface 206 (.pointer (some ⟨nd30, 0, none⟩)), .int .i32 loc] := rfl
      have hr := hG.rowAt 999 (act_base 999 rfl) e0
      have c0 : u9.cell? ⟨nd18, 4, none⟩ = some (.iface 206 (.pointer (some ⟨nd30, 0, none⟩))) := hr.cell rfl
      have c1 : u9.cell? ⟨nd18, 5, none⟩ = some (.int .i32 loc) := hr.cell rfl
      clear hr e0
      go_simp
      exact hK _ α _ (fun _ _ => rfl) rfl (step_same (st9) hL hcl rfl rfl hG)
    · intro L9 α a9 u9 K9 hL hcl hA hG hS h0 hK
      replace hL : L9 3 = false := hL
      have q1 : a9.tmps[1]? = some (.string name) := (h0 1 (by kernel_rfl)).trans rfl
      have s1 := Rega.eval_of q1
      go_simp
      exact hK _ α _ (fun _ _ => rfl) rfl (step_same (st9) hL hcl rfl rfl hG)
    · intro L9 α a9 u9 K9 hL hcl hA hG hS h0 hK
      replace hL : L9 4 = false := hL
      have q268 : a9.tmps[268]? = some (.string name) := hS 3 268 (by decide) rfl (by show 268 < 342; decide)
      have s268 := Rega.eval_of q268
      go_simp
      have hM : ∀ i, i ∈ [] → act rlaw44y010Cnt 3 L9 i := by intro i hi; simp at hi
      have hP : Own w0 u9 [] _ := hG.pick [] (by decide) (by simp)
      clear hM
      refine Calls.mono (zzU16x name _ _ _ hP hlen) ?_
      rintro e9 u1 ⟨b0, b1, rfl, hQ⟩
      obtain ⟨α', hα'⟩ : ∃ α' : Rega.Atoms, α' = (fun j => if j = 4 then b0 else if j = 1004 then b1 else α j) := ⟨_, rfl⟩
      have f0 : R9 (Rega.ran L9 4) α' 4 = row (α' 4) 51 (full u16Z (u16L name) (α' 1004)) := rfl
      have hα : ∀ j, j % 1000 ≠ 4 → α' j = α j := fun j hj => by rw [hα']; simp only []; rw [if_neg (by omega), if_neg (by omega)]
      have hb0 : α' 4 = b0 := by rw [hα']; rfl
      have hb1 : α' 1004 = b1 := by rw [hα']; rfl
      skip
      refine hK _ α' _ hα ?_ (step_call (st9) hL hcl hα [] [4] (by decide) (by decide) (by decide) (M := _) ?_ hG hQ)
      · show _ = (.slice (some ⟨α' 4, 0, none⟩) (u16L name).length ((u16L name).length + (α' 1004)) : Value)
        simp only [hb0, hb1]
      · show [R9 (Rega.ran L9 4) α' 4] = _
        rw [f0]
        simp only [hb0, hb1]
    · intro L9 α a9 u9 K9 hL hcl hA hG hS h0 hK
      replace hL : L9 5 = false := hL
      have q267 : a9.tmps[267]? = some (.agg #[.iface 206 (.pointer (some ⟨nd30, 0, none⟩)), .int .i32 loc]) := hS 2 267 (by decide) rfl (by show 267 < 342; decide)
      have s267 := Rega.eval_of q267
      have q269 : a9.tmps[269]? = some (.slice (some ⟨α 4, 0, none⟩) (u16L name).length ((u16L name).length + (α 1004))) := hS 4 269 (by decide) rfl (by show 269 < 342; decide)
      have s269 := Rega.eval_of q269
      go_simp
      have e0 : R9 L9 α 1999 = row (nd30) 208 #[.slice (some ⟨nd31, 0, none⟩) (u16L name).length ((u16L name).length + nd32), .int .i32 0, .bool false, .bool false, .bool false] := rfl
      have e1 : R9 L9 α 2999 = row (nd31) 51 (full u16Z (u16L name) nd32) := rfl
      have e2 : R9 L9 α 4 = row (α 4) 51 (full u16Z (u16L name) (α 1004)) := rfl
      have hM : ∀ i, i ∈ [1999, 2999, 4] → act rlaw44y010Cnt 3 L9 i := by
        intro i hi
        simp only [List.mem_cons, List.not_mem_nil, or_false] at hi
        rcases hi with rfl | rfl | rfl
        · exact act_base 1999 rfl
        · exact act_base 2999 rfl
        · exact act_new 4 rfl (hA 4 (by decide))
      have hP : Own w0 u9 [row (nd30) 208 #[.slice (some ⟨nd31, 0, none⟩) (u16L name).length ((u16L name).length + nd32), .int .i32 0, .bool false, .bool false, .bool false], row (nd31) 51 (full u16Z (u16L name) nd32), row (α 4) 51 (full u16Z (u16L name) (α 1004))] _ := (hG.pick [1999, 2999, 4] (by decide) hM).conv (by
        show [R9 L9 α 1999, R9 L9 α 2999, R9 L9 α 4] = _
        rw [e0, e1, e2])
      clear e0 e1 e2 hM
      refine Calls.mono (isKeyY name nd30 nd31 (α 4) nd32 (α 1004) loc _ _ _ hP hlen) ?_
      rintro e9 u1 ⟨rfl, hQ⟩
      obtain ⟨α', hα'⟩ : ∃ α' : Rega.Atoms, α' = α := ⟨_, rfl⟩
      have f0 : R9 (Rega.ran L9 5) α' 1999 = row (nd30) 208 #[.slice (some ⟨nd31, 0, none⟩) (u16L name).length ((u16L name).length + nd32), .int .i32 0, .bool false, .bool false, .bool false] := rfl
      have f1 : R9 (Rega.ran L9 5) α' 2999 = row (nd31) 51 (full u16Z (u16L name) nd32) := rfl
      have f2 : R9 (Rega.ran L9 5) α' 4 = row (α' 4) 51 (full u16Z (u16L name) (α' 1004)) := rfl
      have hα : ∀ j, j % 1000 ≠ 5 → α' j = α j := fun j hj => by rw [hα']
      have ha4 : α' 4 = α 4 := hα 4 (by decide)
      have ha1004 : α' 1004 = α 1004 := hα 1004 (by decide)
      skip
      refine hK _ α' _ hα ?_ (step_call (st9) hL hcl hα [1999, 2999, 4] [1999, 2999, 4] (by decide) (by decide) (by decide) (M := _) ?_ hG hQ)
      · rfl
      · show [R9 (Rega.ran L9 5) α' 1999, R9 (Rega.ran L9 5) α' 2999, R9 (Rega.ran L9 5) α' 4] = _
        rw [f0, f1, f2]
        simp only [ha4, ha1004]
    · intro L9 α a9 u9 K9 hL hcl hA hG hS h0 hK
      replace hL : L9 6 = false := hL
      have q270 : a9.tmps[270]? = some (.bool true) := hS 5 270 (by decide) rfl (by show 270 < 342; decide)
      have s270 := Rega.eval_of q270
      go_simp
      exact hK _ α _ (fun _ _ => rfl) rfl (step_same (st9) hL hcl rfl rfl hG)
  clear st9
  intro α u hG
  have e0 : R9 (fun k => decide (k < 7)) α 999 = row (nd18) 35 #[.iface (clsTy s) (.pointer (some ⟨nd19, 0, none⟩)), .int .i32 loc, .iface (thsTy r) (.pointer (some ⟨nd21, 0, none⟩)), .int .i32 loc, .iface 206 (.pointer (some ⟨nd30, 0, none⟩)), .int .i32 loc] := rfl
  have e1 : R9 (fun k => decide (k < 7)) α 1999 = row (nd30) 208 #[.slice (some ⟨nd31, 0, none⟩) (u16L name).length ((u16L name).length + nd32), .int .i32 0, .bool false, .bool false, .bool false] := rfl
  have e2 : R9 (fun k => decide (k < 7)) α 2999 = row (nd31) 51 (full u16Z (u16L name) nd32) := rfl
  have e3 : R9 (fun k => decide (k < 7)) α 4 = row (α 4) 51 (full u16Z (u16L name) (α 1004)) := rfl
  have hO : Own w0 u [row (nd18) 35 #[.iface (clsTy s) (.pointer (some ⟨nd19, 0, none⟩)), .int .i32 loc, .iface (thsTy r) (.pointer (some ⟨nd21, 0, none⟩)), .int .i32 loc, .iface 206 (.pointer (some ⟨nd30, 0, none⟩)), .int .i32 loc], row (nd30) 208 #[.slice (some ⟨nd31, 0, none⟩) (u16L name).length ((u16L name).length + nd32), .int .i32 0, .bool false, .bool false, .bool false], row (nd31) 51 (full u16Z (u16L name) nd32), row (α 4) 51 (full u16Z (u16L name) (α 1004))] X9_43 := (hG.list [999, 1999, 2999, 4] (by decide) (act_all (by decide))).conv (by
    show [R9 (fun k => decide (k < 7)) α 999, R9 (fun k => decide (k < 7)) α 1999, R9 (fun k => decide (k < 7)) α 2999, R9 (fun k => decide (k < 7)) α 4] = _
    rw [e0, e1, e2, e3])
  clear hG e0 e1 e2 e3 R9
  generalize hfr : Rega.frameAt _ _ _ _ _ = fr
  have hdf : fr = ⟨#[.int .u8 kind, .string name, .int .i64 (n : Int), .bool true, .bool s, .bool r, .int .i32 loc, .int .u32 im, undef, undef, undef, undef, undef, undef, undef, undef, .bool false, .pointer (some ⟨B1, 0, none⟩), .pointer (some ⟨B1_1, 0, none⟩), .pointer (some ⟨nd4, 0, none⟩), .pointer (some ⟨nd9, 0, none⟩), .slice (some ⟨nd22, 0, none⟩) 2 (2 + nd23), .int .u8 0, undef, undef, undef, undef, undef, undef, undef, undef, undef, undef, undef, undef, undef, undef, undef, .pointer (some ⟨B35, 0, none⟩), .bool true, .pointer (some ⟨B39, 0, none⟩), .string ⟨#[99, 97, 108, 108]⟩, .bool true, .slice (some ⟨nd18, 0, none⟩) 3 3, .bool true, undef, undef, .int .u8 kind, .string name, .int .i64 (n : Int), .bool true, .bool s, .bool r, .int .i32 loc, .int .u32 im, .bool true, .bool false, .string name, .int .i64 (name.size : Int), .bool (decide (65536 < (name.size : Int))), .int .i64 (n : Int), .bool (decide ((n : Int) < 0)), .bool (decide ((n : Int) < 0)), .int .i64 (n : Int), .bool (decide (4096 < (n : Int))), .bool (decide ((n : Int) < 0) || decide (4096 < (n : Int))), .agg #[.int .u32 0, .int .u32 0], .int .u32 im, .agg #[.int .u32 5, .int .u32 im], .slice (some ⟨nd3, 0, none⟩) 1 1, .agg #[.int .u32 0, .int .u32 0], .bool s, .bool r, .bool true, .pointer (some ⟨nd4, 0, none⟩), .int .u8 kind, .string name, .int .i64 (n : Int), .int .i32 loc, .int .u32 im, .pointer (some ⟨nd9, 0, none⟩), .pointer (some ⟨nd4, 0, none⟩), .pointer (some ⟨nd9, 0, none⟩), .tuple #[], .pointer (some ⟨nd4, 0, none⟩), .slice (some ⟨nd22, 0, none⟩) 2 (2 + nd23), .int .u8 kind, .int .u8 0, .bool true, .bool true, .int .u8 0, .bool true, .bool true, .bool false, undef, undef, undef, undef, undef, undef, undef, undef, undef, undef, undef, undef, undef, undef, undef, undef, undef, undef, undef, undef, undef, undef, undef, undef, undef, undef, undef, undef, undef, undef, undef, undef, undef, undef, undef, undef, undef, undef, undef, undef, undef, undef, undef, undef, undef, undef, undef, undef, undef, undef, undef, undef, undef, undef, undef, undef, undef, undef, undef, undef, undef, undef, undef, undef, undef, undef, undef, undef, undef, undef, undef, undef, undef, undef, undef, undef, undef, undef, undef, undef, undef, undef, undef, undef, undef, undef, undef, undef, undef, undef, undef, undef, undef, undef, undef, undef, undef, undef, undef, undef, undef, undef, undef, undef, undef, undef, undef, undef, undef, undef, undef, undef, undef, undef, undef, undef, .tuple #[.agg #[.int .u32 0, .int .u32 1], .bool true], .pointer (some ⟨nd4, 0, none⟩), .tuple #[.agg #[.int .u32 0, .int .u32 1], .bool true], .agg #[.int .u32 0, .int .u32 1], .bool true, .bool true, .bool false, .bool false, .pointer (some ⟨nd4, 0, none⟩), .int .i64 1, .bool false, .bool false, .tuple #[.agg #[.iface 65 (.pointer (some ⟨nd16, 0, none⟩)), .int .i32 loc], .string ⟨#[99, 97, 108, 108]⟩, .bool true], .pointer (some ⟨nd9, 0, none⟩), .pointer (some ⟨nd9, 0, none⟩), .pointer (some ⟨nd9, 0, none⟩), .agg #[.iface 225 (.pointer (some ⟨nd26, 0, none⟩)), .int .i32 loc], .tuple #[.agg #[.iface 65 (.pointer (some ⟨nd16, 0, none⟩)), .int .i32 loc], .string ⟨#[99, 97, 108, 108]⟩, .bool true], .agg #[.iface 65 (.pointer (some ⟨nd16, 0, none⟩)), .int .i32 loc], .string ⟨#[99, 97, 108, 108]⟩, .bool true, .bool true, .bool false, .bool false, .string ⟨#[99, 97, 108, 108]⟩, .bool false, .bool false, .tuple #[.slice (some ⟨nd18, 0, none⟩) 3 3, .bool true], .agg #[.iface 65 (.pointer (some ⟨nd16, 0, none⟩)), .int .i32 loc], .agg #[.int .u32 0, .int .u32 1], .tuple #[.slice (some ⟨nd18, 0, none⟩) 3 3, .bool true], .slice (some ⟨nd18, 0, none⟩) 3 3, .bool true, .bool true, .bool false, .bool false, .slice (some ⟨nd18, 0, none⟩) 3 3, .pointer (some ⟨nd18, 0, none⟩), .agg #[.iface (clsTy s) (.pointer (some ⟨nd19, 0, none⟩)), .int .i32 loc], .agg #[.int .u32 0, .int .u32 0], .bool s, .bool true, .bool false, .bool false, .bool false, .slice (some ⟨nd18, 0, none⟩) 3 3, .pointer (some ⟨nd18, 2, none⟩), .agg #[.iface (thsTy r) (.pointer (some ⟨nd21, 0, none⟩)), .int .i32 loc], .agg #[.int .u32 0, .int .u32 0], .bool r, .bool true, .bool false, .bool false, .int .u8 0, .bool true, .slice (some ⟨nd18, 0, none⟩) 3 3, .pointer (some ⟨nd18, 4, none⟩), .agg #[.iface 206 (.pointer (some ⟨nd30, 0, none⟩)), .int .i32 loc], .string name, .slice (some ⟨α 4, 0, none⟩) (u16L name).length ((u16L name).length + (α 1004)), .bool true, .bool false, undef, undef, undef, undef, undef, undef, undef, undef, undef, undef, undef, undef, undef, undef, undef, undef, undef, undef, undef, undef, undef, undef, undef, undef, undef, undef, undef, undef, undef, undef, undef, undef, undef, undef, undef, undef, undef, undef, undef, undef, undef, undef, undef, undef, undef, undef, undef, undef, undef, undef, undef, undef, undef, undef, undef, undef, undef, undef, undef, undef, undef, undef, undef, undef, undef, undef, undef, undef, undef, undef], []⟩ := by rw [← hfr]; kernel_rfl
  clear hfr
  subst hdf
  generalize α 4 = nd44 at hO ⊢
  generalize α 1004 = nd45 at hO ⊢
  clear α
  subst hX9_43
  have hN : Own w0 u [row (nd18) 35 #[.iface (clsTy s) (.pointer (some ⟨nd19, 0, none⟩)), .int .i32 loc, .iface (thsTy r) (.pointer (some ⟨nd21, 0, none⟩)), .int .i32 loc, .iface 206 (.pointer (some ⟨nd30, 0, none⟩)), .int .i32 loc], row (nd30) 208 #[.slice (some ⟨nd31, 0, none⟩) (u16L name).length ((u16L name).length + nd32), .int .i32 0, .bool false, .bool false, .bool false], row (nd31) 51 (full u16Z (u16L name) nd32), row (nd44) 51 (full u16Z (u16L name) (nd45)), row (nd19) (clsT s) (clsC s loc nd20), row (nd20) (xtrT s) (xtrC s loc nd19), row (nd21) (thsT r) (thsC r), row (B1) 25 #[.int .u32 0, .int .u32 0], row (nd16) 71 #[.iface 209 (.pointer (some ⟨nd17, 0, none⟩)), .int .i32 loc, .slice (some ⟨nd18, 0, none⟩) 3 3, .int .i32 0, .int .u8 0, .int .u8 0, .bool false, .bool false], row (nd17) 211 #[.int .u32 0, .int .u32 1, .bool false, .bool false, .bool false], row (B39) 35 #[.iface 65 (.pointer (some ⟨nd16, 0, none⟩)), .int .i32 loc], row (nd26) 228 #[.iface 65 (.pointer (some ⟨nd16, 0, none⟩)), .int .i32 loc, .string ⟨#[99, 97, 108, 108]⟩, .int .i32 loc, .int .u8 0, .bool false, .bool false, .bool false], ((nd5, .map #[⟨.string ⟨#[95, 95, 115, 117, 112, 101, 114, 71, 101, 116]⟩, .agg #[.int .i32 loc, .int .u32 0, .int .u32 1], 0⟩] 1) : Rw), row (B35) 25 #[.int .u32 0, .int .u32 1], row (nd22) 56 (full symZ (symL ([sy ⟨#[70, 111, 111]⟩ (uz r 0), sy ⟨#[95, 95, 115, 117, 112, 101, 114, 71, 101, 116]⟩ 1])) nd23), row (nd6) 203 #[.pointer none, .pointer none, .slice none 0 0, .map none, .slice none 0 0, .slice (some ⟨nd24, 0, none⟩) 1 (1 + nd25), .int .i32 0, .int .i32 0, .int .u32 0, .int .u32 0, .bool false, .bool false, .bool false, .bool false, .int .u8 0, .int .u8 6], row (nd24) 25 (full refZ [.int .u32 0, .int .u32 1] nd25), row (nd7) 25 #[.int .u32 0, .int .u32 0], row (nd9) 71 #[.iface 225 (.pointer (some ⟨nd26, 0, none⟩)), .int .i32 loc, .slice (some ⟨nd28, 0, none⟩) (1 + n) (1 + n + nd29), .int .i32 0, .int .u8 0, .int .u8 0, .bool false, .bool false], row (nd28) 35 (full exprZ ([.iface 237 (.pointer (some ⟨nd27, 0, none⟩)), .int .i32 loc] ++ (args loc nd14 n)) nd29), row (nd13) 211 #[.int .u32 5, .int .u32 im, .bool false, .bool false, .bool false], row (B1_1) 25 #[.int .u32 5, .int .u32 im]] (argsX X nd14 n) := hO.back HL.out HX.out [1, 2, 3, 4, 5, 6, 7, 8, 9, 10, 11, 12, 13, 14, 15, 16, 19, 20] (by decide) (by decide)
  clear hO HL HX
  have hO := hN
  clear hN
  obtain ⟨ix9, hix9, hax9, hjx9⟩ := hO.ix
  have ix9_0 : ix9 nd18 = 0 := hjx9 0 _ _ rfl
  have ix9_1 : ix9 nd30 = 1 := hjx9 1 _ _ rfl
  have ix9_2 : ix9 nd31 = 2 := hjx9 2 _ _ rfl
  have ix9_3 : ix9 nd44 = 3 := hjx9 3 _ _ rfl
  have ix9_4 : ix9 nd19 = 4 := hjx9 4 _ _ rfl
  have ix9_5 : ix9 nd20 = 5 := hjx9 5 _ _ rfl
  have ix9_6 : ix9 nd21 = 6 := hjx9 6 _ _ rfl
  have ix9_7 : ix9 B1 = 7 := hjx9 7 _ _ rfl
  have ix9_8 : ix9 nd16 = 8 := hjx9 8 _ _ rfl
  have ix9_9 : ix9 nd17 = 9 := hjx9 9 _ _ rfl
  have ix9_10 : ix9 B39 = 10 := hjx9 10 _ _ rfl
  have ix9_11 : ix9 nd26 = 11 := hjx9 11 _ _ rfl
  have ix9_12 : ix9 nd5 = 12 := hjx9 12 _ _ rfl
  have ix9_13 : ix9 B35 = 13 := hjx9 13 _ _ rfl
  have ix9_14 : ix9 nd22 = 14 := hjx9 14 _ _ rfl
  have ix9_15 : ix9 nd6 = 15 := hjx9 15 _ _ rfl
  have ix9_16 : ix9 nd24 = 16 := hjx9 16 _ _ rfl
  have ix9_17 : ix9 nd7 = 17 := hjx9 17 _ _ rfl
  have ix9_18 : ix9 nd9 = 18 := hjx9 18 _ _ rfl
  have ix9_19 : ix9 nd28 = 19 := hjx9 19 _ _ rfl
  have ix9_20 : ix9 nd13 = 20 := hjx9 20 _ _ rfl
  have ix9_21 : ix9 B1_1 = 21 := hjx9 21 _ _ rfl
  clear hjx9
  obtain ⟨c9_0_0, c9_0_1, c9_0_2, c9_0_3, c9_0_4, c9_0_5, lt9_0, y9_0, pl9_0⟩ := hO.k6 0 rfl
  obtain ⟨c9_1_0, c9_1_1, c9_1_2, c9_1_3, c9_1_4, lt9_1, y9_1, -⟩ := hO.k5 1 rfl
  have pl9_2 : Base.plainAt u (nd31) = true := hO.plain 2 rfl
  have pl9_3 : Base.plainAt u (nd44) = true := hO.plain 3 rfl
  obtain ⟨c9_7_0, c9_7_1, lt9_7, y9_7, pl9_7⟩ := hO.k2 7 rfl
  obtain ⟨c9_8_0, c9_8_1, c9_8_2, c9_8_3, c9_8_4, c9_8_5, c9_8_6, c9_8_7, lt9_8, y9_8, pl9_8⟩ := hO.k8 8 rfl
  obtain ⟨c9_9_0, c9_9_1, c9_9_2, c9_9_3, c9_9_4, lt9_9, y9_9, pl9_9⟩ := hO.k5 9 rfl
  obtain ⟨c9_10_0, c9_10_1, lt9_10, y9_10, pl9_10⟩ := hO.k2 10 rfl
  obtain ⟨c9_11_0, c9_11_1, c9_11_2, c9_11_3, c9_11_4, c9_11_5, c9_11_6, c9_11_7, lt9_11, y9_11, -⟩ := hO.k8 11 rfl
  obtain ⟨c9_13_0, c9_13_1, lt9_13, y9_13, pl9_13⟩ := hO.k2 13 rfl
  have c9_14_1 : u.cell? ⟨nd22, 1, none⟩ = some (.string ⟨#[70, 111, 111]⟩) := hO.cell 14 rfl (1) ((full_at rfl))
  have c9_14_4 : u.cell? ⟨nd22, 4, none⟩ = some (.int .u32 (uz r 0 : Int)) := hO.cell 14 rfl (4) ((full_at rfl))
  have c9_14_11 : u.cell? ⟨nd22, 11, none⟩ = some (.string ⟨#[95, 95, 115, 117, 112, 101, 114, 71, 101, 116]⟩) := hO.cell 14 rfl (11) ((full_at rfl))
  have c9_14_14 : u.cell? ⟨nd22, 14, none⟩ = some (.int .u32 1) := hO.cell 14 rfl (14) ((full_at rfl))
  have lt9_14 : nd22 < u.heap.size := hO.lt 14 rfl
  have y9_14 : ∀ o, u.frozen? ⟨nd22, o, none⟩ = false := hO.free 14 rfl
  have pl9_16 : Base.plainAt u (nd24) = true := hO.plain 16 rfl
  have c9_16_0 : u.cell? ⟨nd24, 0, none⟩ = some (.int .u32 0) := hO.cell 16 rfl (0) ((full_at rfl))
  have c9_16_1 : u.cell? ⟨nd24, 1, none⟩ = some (.int .u32 1) := hO.cell 16 rfl (1) ((full_at rfl))
  have lt9_16 : nd24 < u.heap.size := hO.lt 16 rfl
  have y9_16 : ∀ o, u.frozen? ⟨nd24, o, none⟩ = false := hO.free 16 rfl
  obtain ⟨c9_17_0, c9_17_1, lt9_17, y9_17, pl9_17⟩ := hO.k2 17 rfl
  obtain ⟨c9_18_0, c9_18_1, c9_18_2, c9_18_3, c9_18_4, c9_18_5, c9_18_6, c9_18_7, lt9_18, y9_18, pl9_18⟩ := hO.k8 18 rfl
  have pl9_19 : Base.plainAt u (nd28) = true := hO.plain 19 rfl
  have c9_19_0 : u.cell? ⟨nd28, 0, none⟩ = some (.iface 237 (.pointer (some ⟨nd27, 0, none⟩))) := hO.cell 19 rfl (0) ((full_at rfl))
  have c9_19_1 : u.cell? ⟨nd28, 1, none⟩ = some (.int .i32 loc) := hO.cell 19 rfl (1) ((full_at rfl))
  have lt9_19 : nd28 < u.heap.size := hO.lt 19 rfl
  have y9_19 : ∀ o, u.frozen? ⟨nd28, o, none⟩ = false := hO.free 19 rfl
  obtain ⟨c9_20_0, c9_20_1, c9_20_2, c9_20_3, c9_20_4, lt9_20, y9_20, pl9_20⟩ := hO.k5 20 rfl
  obtain ⟨c9_21_0, c9_21_1, lt9_21, y9_21, pl9_21⟩ := hO.k2 21 rfl
  have HO := Lib.hid hO
  clear hO
  go_wp2_with (first | (with_reducible refine Own.stay (fn := Tryd.f7) ?_) | (first | (go_at_call 31; go_in)))
  try with_reducible refine Own.Stay.mk ?_
  have hO := HO.out
  clear HO hix9 hax9 ix9_0 ix9_1 ix9_2 ix9_3 ix9_4 ix9_5 ix9_6 ix9_7 ix9_8 ix9_9 ix9_10 ix9_11 ix9_12 ix9_13 ix9_14 ix9_15 ix9_16 ix9_17 ix9_18 ix9_19 ix9_20 ix9_21 ix9 c9_0_0 c9_0_1 c9_0_2 c9_0_3 c9_0_4 c9_0_5 lt9_0 y9_0 pl9_0 c9_1_0 c9_1_1 c9_1_2 c9_1_3 c9_1_4 lt9_1 y9_1 pl9_2 pl9_3 c9_7_0 c9_7_1 lt9_7 y9_7 pl9_7 c9_8_0 c9_8_1 c9_8_2 c9_8_3 c9_8_4 c9_8_5 c9_8_6 c9_8_7 lt9_8 y9_8 pl9_8 c9_9_0 c9_9_1 c9_9_2 c9_9_3 c9_9_4 lt9_9 y9_9 pl9_9 c9_10_0 c9_10_1 lt9_10 y9_10 pl9_10 c9_11_0 c9_11_1 c9_11_2 c9_11_3 c9_11_4 c9_11_5 c9_11_6 c9_11_7 lt9_11 y9_11 c9_13_0 c9_13_1 lt9_13 y9_13 pl9_13 c9_14_1 c9_14_4 c9_14_11 c9_14_14 lt9_14 y9_14 pl9_16 c9_16_0 c9_16_1 lt9_16 y9_16 c9_17_0 c9_17_1 lt9_17 y9_17 pl9_17 c9_18_0 c9_18_1 c9_18_2 c9_18_3 c9_18_4 c9_18_5 c9_18_6 c9_18_7 lt9_18 y9_18 pl9_18 pl9_19 c9_19_0 c9_19_1 lt9_19 y9_19 c9_20_0 c9_20_1 c9_20_2 c9_20_3 c9_20_4 lt9_20 y9_20 pl9_20 c9_21_0 c9_21_1 lt9_21 y9_21 pl9_21
  have hL := hO.apart
  have hX := hO.apartX
  have HL := Lib.hid hL
  have HX := Lib.hid hX
  clear hL hX
  have hP9 := hO.pick [] (by decide)
  have T9 := isThisO nd27 loc _ _ _ hP9 
  refine Calls.mono T9 ?_
  clear hP9 T9
  rintro e u46 ⟨rfl, hQ⟩
  have hN : Own w0 u46 [row (nd18) 35 #[.iface (clsTy s) (.pointer (some ⟨nd19, 0, none⟩)), .int .i32 loc, .iface (thsTy r) (.pointer (some ⟨nd21, 0, none⟩)), .int .i32 loc, .iface 206 (.pointer (some ⟨nd30, 0, none⟩)), .int .i32 loc], row (nd30) 208 #[.slice (some ⟨nd31, 0, none⟩) (u16L name).length ((u16L name).length + nd32), .int .i32 0, .bool false, .bool false, .bool false], row (nd31) 51 (full u16Z (u16L name) nd32), row (nd44) 51 (full u16Z (u16L name) (nd45)), row (nd19) (clsT s) (clsC s loc nd20), row (nd20) (xtrT s) (xtrC s loc nd19), row (nd21) (thsT r) (thsC r), row (B1) 25 #[.int .u32 0, .int .u32 0], row (nd16) 71 #[.iface 209 (.pointer (some ⟨nd17, 0, none⟩)), .int .i32 loc, .slice (some ⟨nd18, 0, none⟩) 3 3, .int .i32 0, .int .u8 0, .int .u8 0, .bool false, .bool false], row (nd17) 211 #[.int .u32 0, .int .u32 1, .bool false, .bool false, .bool false], row (B39) 35 #[.iface 65 (.pointer (some ⟨nd16, 0, none⟩)), .int .i32 loc], row (nd26) 228 #[.iface 65 (.pointer (some ⟨nd16, 0, none⟩)), .int .i32 loc, .string ⟨#[99, 97, 108, 108]⟩, .int .i32 loc, .int .u8 0, .bool false, .bool false, .bool false], ((nd5, .map #[⟨.string ⟨#[95, 95, 115, 117, 112, 101, 114, 71, 101, 116]⟩, .agg #[.int .i32 loc, .int .u32 0, .int .u32 1], 0⟩] 1) : Rw), row (B35) 25 #[.int .u32 0, .int .u32 1], row (nd22) 56 (full symZ (symL ([sy ⟨#[70, 111, 111]⟩ (uz r 0), sy ⟨#[95, 95, 115, 117, 112, 101, 114, 71, 101, 116]⟩ 1])) nd23), row (nd6) 203 #[.pointer none, .pointer none, .slice none 0 0, .map none, .slice none 0 0, .slice (some ⟨nd24, 0, none⟩) 1 (1 + nd25), .int .i32 0, .int .i32 0, .int .u32 0, .int .u32 0, .bool false, .bool false, .bool false, .bool false, .int .u8 0, .int .u8 6], row (nd24) 25 (full refZ [.int .u32 0, .int .u32 1] nd25), row (nd7) 25 #[.int .u32 0, .int .u32 0], row (nd9) 71 #[.iface 225 (.pointer (some ⟨nd26, 0, none⟩)), .int .i32 loc, .slice (some ⟨nd28, 0, none⟩) (1 + n) (1 + n + nd29), .int .i32 0, .int .u8 0, .int .u8 0, .bool false, .bool false], row (nd28) 35 (full exprZ ([.iface 237 (.pointer (some ⟨nd27, 0, none⟩)), .int .i32 loc] ++ (args loc nd14 n)) nd29), row (nd13) 211 #[.int .u32 5, .int .u32 im, .bool false, .bool false, .bool false], row (B1_1) 25 #[.int .u32 5, .int .u32 im]] (argsX X nd14 n) := hQ.back HL.out HX.out [0, 1, 2, 3, 4, 5, 6, 7, 8, 9, 10, 11, 12, 13, 14, 15, 16, 17, 18, 19, 20, 21] (by decide) (by decide)
  clear hQ HL HX hO
  have hO := hN
  clear hN
  obtain ⟨c9_0_0, c9_0_1, c9_0_2, c9_0_3, c9_0_4, c9_0_5, lt9_0, y9_0, -⟩ := hO.k6 0 rfl
  obtain ⟨c9_1_0, c9_1_1, c9_1_2, c9_1_3, c9_1_4, lt9_1, y9_1, -⟩ := hO.k5 1 rfl
  obtain ⟨c9_7_0, c9_7_1, lt9_7, y9_7, -⟩ := hO.k2 7 rfl
  obtain ⟨c9_8_0, c9_8_1, c9_8_2, c9_8_3, c9_8_4, c9_8_5, c9_8_6, c9_8_7, lt9_8, y9_8, -⟩ := hO.k8 8 rfl
  obtain ⟨c9_9_0, c9_9_1, c9_9_2, c9_9_3, c9_9_4, lt9_9, y9_9, -⟩ := hO.k5 9 rfl
  obtain ⟨c9_10_0, c9_10_1, lt9_10, y9_10, -⟩ := hO.k2 10 rfl
  obtain ⟨c9_11_0, c9_11_1, c9_11_2, c9_11_3, c9_11_4, c9_11_5, c9_11_6, c9_11_7, lt9_11, y9_11, -⟩ := hO.k8 11 rfl
  obtain ⟨c9_13_0, c9_13_1, lt9_13, y9_13, -⟩ := hO.k2 13 rfl
  obtain ⟨c9_17_0, c9_17_1, lt9_17, y9_17, -⟩ := hO.k2 17 rfl
  obtain ⟨c9_18_0, c9_18_1, c9_18_2, c9_18_3, c9_18_4, c9_18_5, c9_18_6, c9_18_7, lt9_18, y9_18, -⟩ := hO.k8 18 rfl
  obtain ⟨c9_20_0, c9_20_1, c9_20_2, c9_20_3, c9_20_4, lt9_20, y9_20, -⟩ := hO.k5 20 rfl
  obtain ⟨c9_21_0, c9_21_1, lt9_21, y9_21, -⟩ := hO.k2 21 rfl
  have HO := Lib.hid hO
  clear hO
  go_wp2_with (first | (with_reducible refine Own.stay (fn := Tryd.f7) ?_) | (first | (go_at_call 31; go_in)))
  try with_reducible refine Own.Stay.mk ?_
  have hO := HO.out
  clear HO c9_0_0 c9_0_1 c9_0_2 c9_0_3 c9_0_4 c9_0_5 lt9_0 y9_0 c9_1_0 c9_1_1 c9_1_2 c9_1_3 c9_1_4 lt9_1 y9_1 c9_7_0 c9_7_1 lt9_7 y9_7 c9_8_0 c9_8_1 c9_8_2 c9_8_3 c9_8_4 c9_8_5 c9_8_6 c9_8_7 lt9_8 y9_8 c9_9_0 c9_9_1 c9_9_2 c9_9_3 c9_9_4 lt9_9 y9_9 c9_10_0 c9_10_1 lt9_10 y9_10 c9_11_0 c9_11_1 c9_11_2 c9_11_3 c9_11_4 c9_11_5 c9_11_6 c9_11_7 lt9_11 y9_11 c9_13_0 c9_13_1 lt9_13 y9_13 c9_17_0 c9_17_1 lt9_17 y9_17 c9_18_0 c9_18_1 c9_18_2 c9_18_3 c9_18_4 c9_18_5 c9_18_6 c9_18_7 lt9_18 y9_18 c9_20_0 c9_20_1 c9_20_2 c9_20_3 c9_20_4 lt9_20 y9_20 c9_21_0 c9_21_1 lt9_21 y9_21
  have hL := hO.apart
  have hX := hO.apartX
  have HL := Lib.hid hL
  have HX := Lib.hid hX
  clear hL hX
  have hP9 := hO.pick [19] (by decide)
  have h9_hl : (1 + n) = 1 + n := rfl
  have h9_hof : 1 ≤ 1 := (by decide)
  have h9_hC0 : ∀ i : Nat, i < n → (full exprZ ([.iface 237 (.pointer (some ⟨nd27, 0, none⟩)), .int .i32 loc] ++ (args loc nd14 n)) nd29)[(1 + i) * 2]? = some (.iface 209 (.pointer (some ⟨nd14 i, 0, none⟩))) := (fun i hi => argsAt0 hi)
  have h9_hC1 : ∀ i : Nat, i < n → (full exprZ ([.iface 237 (.pointer (some ⟨nd27, 0, none⟩)), .int .i32 loc] ++ (args loc nd14 n)) nd29)[(1 + i) * 2 + 1]? = some (.int .i32 loc) := (fun i hi => argsAt1 hi)
  have T9 := argsAre nd28 (full exprZ ([.iface 237 (.pointer (some ⟨nd27, 0, none⟩)), .int .i32 loc] ++ (args loc nd14 n)) nd29) loc nd14 1 n (1 + n) ((1 + n) + nd29) _ _ _ hP9 h9_hl hn h9_hof h9_hC0 h9_hC1 (fun i hi => Or.inl (Or.inr ⟨i, hi, rfl, rfl⟩))
  refine Calls.mono T9 ?_
  clear hP9 T9 h9_hl h9_hof h9_hC0 h9_hC1
  rintro e u47 ⟨rfl, hQ⟩
  have hN : Own w0 u47 [row (nd28) 35 (full exprZ ([.iface 237 (.pointer (some ⟨nd27, 0, none⟩)), .int .i32 loc] ++ (args loc nd14 n)) nd29), row (nd18) 35 #[.iface (clsTy s) (.pointer (some ⟨nd19, 0, none⟩)), .int .i32 loc, .iface (thsTy r) (.pointer (some ⟨nd21, 0, none⟩)), .int .i32 loc, .iface 206 (.pointer (some ⟨nd30, 0, none⟩)), .int .i32 loc], row (nd30) 208 #[.slice (some ⟨nd31, 0, none⟩) (u16L name).length ((u16L name).length + nd32), .int .i32 0, .bool false, .bool false, .bool false], row (nd31) 51 (full u16Z (u16L name) nd32), row (nd44) 51 (full u16Z (u16L name) (nd45)), row (nd19) (clsT s) (clsC s loc nd20), row (nd20) (xtrT s) (xtrC s loc nd19), row (nd21) (thsT r) (thsC r), row (B1) 25 #[.int .u32 0, .int .u32 0], row (nd16) 71 #[.iface 209 (.pointer (some ⟨nd17, 0, none⟩)), .int .i32 loc, .slice (some ⟨nd18, 0, none⟩) 3 3, .int .i32 0, .int .u8 0, .int .u8 0, .bool false, .bool false], row (nd17) 211 #[.int .u32 0, .int .u32 1, .bool false, .bool false, .bool false], row (B39) 35 #[.iface 65 (.pointer (some ⟨nd16, 0, none⟩)), .int .i32 loc], row (nd26) 228 #[.iface 65 (.pointer (some ⟨nd16, 0, none⟩)), .int .i32 loc, .string ⟨#[99, 97, 108, 108]⟩, .int .i32 loc, .int .u8 0, .bool false, .bool false, .bool false], ((nd5, .map #[⟨.string ⟨#[95, 95, 115, 117, 112, 101, 114, 71, 101, 116]⟩, .agg #[.int .i32 loc, .int .u32 0, .int .u32 1], 0⟩] 1) : Rw), row (B35) 25 #[.int .u32 0, .int .u32 1], row (nd22) 56 (full symZ (symL ([sy ⟨#[70, 111, 111]⟩ (uz r 0), sy ⟨#[95, 95, 115, 117, 112, 101, 114, 71, 101, 116]⟩ 1])) nd23), row (nd6) 203 #[.pointer none, .pointer none, .slice none 0 0, .map none, .slice none 0 0, .slice (some ⟨nd24, 0, none⟩) 1 (1 + nd25), .int .i32 0, .int .i32 0, .int .u32 0, .int .u32 0, .bool false, .bool false, .bool false, .bool false, .int .u8 0, .int .u8 6], row (nd24) 25 (full refZ [.int .u32 0, .int .u32 1] nd25), row (nd7) 25 #[.int .u32 0, .int .u32 0], row (nd9) 71 #[.iface 225 (.pointer (some ⟨nd26, 0, none⟩)), .int .i32 loc, .slice (some ⟨nd28, 0, none⟩) (1 + n) (1 + n + nd29), .int .i32 0, .int .u8 0, .int .u8 0, .bool false, .bool false], row (nd13) 211 #[.int .u32 5, .int .u32 im, .bool false, .bool false, .bool false], row (B1_1) 25 #[.int .u32 5, .int .u32 im]] (argsX X nd14 n) := hQ.back HL.out HX.out [0, 1, 2, 3, 4, 5, 6, 7, 8, 9, 10, 11, 12, 13, 14, 15, 16, 17, 18, 20, 21] (by decide) (by decide)
  clear hQ HL HX hO
  have hO := hN
  clear hN
  obtain ⟨ix9, hix9, hax9, hjx9⟩ := hO.ix
  have ix9_0 : ix9 nd28 = 0 := hjx9 0 _ _ rfl
  have ix9_1 : ix9 nd18 = 1 := hjx9 1 _ _ rfl
  have ix9_2 : ix9 nd30 = 2 := hjx9 2 _ _ rfl
  have ix9_3 : ix9 nd31 = 3 := hjx9 3 _ _ rfl
  have ix9_4 : ix9 nd44 = 4 := hjx9 4 _ _ rfl
  have ix9_5 : ix9 nd19 = 5 := hjx9 5 _ _ rfl
  have ix9_6 : ix9 nd20 = 6 := hjx9 6 _ _ rfl
  have ix9_7 : ix9 nd21 = 7 := hjx9 7 _ _ rfl
  have ix9_8 : ix9 B1 = 8 := hjx9 8 _ _ rfl
  have ix9_9 : ix9 nd16 = 9 := hjx9 9 _ _ rfl
  have ix9_10 : ix9 nd17 = 10 := hjx9 10 _ _ rfl
  have ix9_11 : ix9 B39 = 11 := hjx9 11 _ _ rfl
  have ix9_12 : ix9 nd26 = 12 := hjx9 12 _ _ rfl
  have ix9_13 : ix9 nd5 = 13 := hjx9 13 _ _ rfl
  have ix9_14 : ix9 B35 = 14 := hjx9 14 _ _ rfl
  have ix9_15 : ix9 nd22 = 15 := hjx9 15 _ _ rfl
  have ix9_16 : ix9 nd6 = 16 := hjx9 16 _ _ rfl
  have ix9_17 : ix9 nd24 = 17 := hjx9 17 _ _ rfl
  have ix9_18 : ix9 nd7 = 18 := hjx9 18 _ _ rfl
  have ix9_19 : ix9 nd9 = 19 := hjx9 19 _ _ rfl
  have ix9_20 : ix9 nd13 = 20 := hjx9 20 _ _ rfl
  have ix9_21 : ix9 B1_1 = 21 := hjx9 21 _ _ rfl
  clear hjx9
  have pl9_0 : Base.plainAt u47 (nd28) = true := hO.plain 0 rfl
  obtain ⟨c9_1_0, c9_1_1, c9_1_2, c9_1_3, c9_1_4, c9_1_5, lt9_1, y9_1, pl9_1⟩ := hO.k6 1 rfl
  obtain ⟨c9_2_0, c9_2_1, c9_2_2, c9_2_3, c9_2_4, lt9_2, y9_2, -⟩ := hO.k5 2 rfl
  have pl9_3 : Base.plainAt u47 (nd31) = true := hO.plain 3 rfl
  have pl9_4 : Base.plainAt u47 (nd44) = true := hO.plain 4 rfl
  obtain ⟨c9_8_0, c9_8_1, lt9_8, y9_8, pl9_8⟩ := hO.k2 8 rfl
  obtain ⟨c9_9_0, c9_9_1, c9_9_2, c9_9_3, c9_9_4, c9_9_5, c9_9_6, c9_9_7, lt9_9, y9_9, pl9_9⟩ := hO.k8 9 rfl
  obtain ⟨c9_10_0, c9_10_1, c9_10_2, c9_10_3, c9_10_4, lt9_10, y9_10, pl9_10⟩ := hO.k5 10 rfl
  obtain ⟨c9_11_0, c9_11_1, lt9_11, y9_11, pl9_11⟩ := hO.k2 11 rfl
  obtain ⟨c9_12_0, c9_12_1, c9_12_2, c9_12_3, c9_12_4, c9_12_5, c9_12_6, c9_12_7, lt9_12, y9_12, -⟩ := hO.k8 12 rfl
  obtain ⟨c9_14_0, c9_14_1, lt9_14, y9_14, pl9_14⟩ := hO.k2 14 rfl
  have c9_15_1 : u47.cell? ⟨nd22, 1, none⟩ = some (.string ⟨#[70, 111, 111]⟩) := hO.cell 15 rfl (1) ((full_at rfl))
  have c9_15_4 : u47.cell? ⟨nd22, 4, none⟩ = some (.int .u32 (uz r 0 : Int)) := hO.cell 15 rfl (4) ((full_at rfl))
  have c9_15_11 : u47.cell? ⟨nd22, 11, none⟩ = some (.string ⟨#[95, 95, 115, 117, 112, 101, 114, 71, 101, 116]⟩) := hO.cell 15 rfl (11) ((full_at rfl))
  have c9_15_14 : u47.cell? ⟨nd22, 14, none⟩ = some (.int .u32 1) := hO.cell 15 rfl (14) ((full_at rfl))
  have lt9_15 : nd22 < u47.heap.size := hO.lt 15 rfl
  have y9_15 : ∀ o, u47.frozen? ⟨nd22, o, none⟩ = false := hO.free 15 rfl
  have pl9_17 : Base.plainAt u47 (nd24) = true := hO.plain 17 rfl
  have c9_17_0 : u47.cell? ⟨nd24, 0, none⟩ = some (.int .u32 0) := hO.cell 17 rfl (0) ((full_at rfl))
  have c9_17_1 : u47.cell? ⟨nd24, 1, none⟩ = some (.int .u32 1) := hO.cell 17 rfl (1) ((full_at rfl))
  have lt9_17 : nd24 < u47.heap.size := hO.lt 17 rfl
  have y9_17 : ∀ o, u47.frozen? ⟨nd24, o, none⟩ = false := hO.free 17 rfl
  obtain ⟨c9_18_0, c9_18_1, lt9_18, y9_18, pl9_18⟩ := hO.k2 18 rfl
  obtain ⟨c9_19_0, c9_19_1, c9_19_2, c9_19_3, c9_19_4, c9_19_5, c9_19_6, c9_19_7, lt9_19, y9_19, pl9_19⟩ := hO.k8 19 rfl
  obtain ⟨c9_20_0, c9_20_1, c9_20_2, c9_20_3, c9_20_4, lt9_20, y9_20, pl9_20⟩ := hO.k5 20 rfl
  obtain ⟨c9_21_0, c9_21_1, lt9_21, y9_21, pl9_21⟩ := hO.k2 21 rfl
  have HO := Lib.hid hO
  clear hO
  go_wp2_with (first | (with_reducible refine Own.stay (fn := Tryd.f7) ?_) | (first | (go_at_call 31; go_in)))
  try with_reducible refine Own.Stay.mk ?_
  have hO := HO.out
  clear HO hix9 hax9 ix9_0 ix9_1 ix9_2 ix9_3 ix9_4 ix9_5 ix9_6 ix9_7 ix9_8 ix9_9 ix9_10 ix9_11 ix9_12 ix9_13 ix9_14 ix9_15 ix9_16 ix9_17 ix9_18 ix9_19 ix9_20 ix9_21 ix9 pl9_0 c9_1_0 c9_1_1 c9_1_2 c9_1_3 c9_1_4 c9_1_5 lt9_1 y9_1 pl9_1 c9_2_0 c9_2_1 c9_2_2 c9_2_3 c9_2_4 lt9_2 y9_2 pl9_3 pl9_4 c9_8_0 c9_8_1 lt9_8 y9_8 pl9_8 c9_9_0 c9_9_1 c9_9_2 c9_9_3 c9_9_4 c9_9_5 c9_9_6 c9_9_7 lt9_9 y9_9 pl9_9 c9_10_0 c9_10_1 c9_10_2 c9_10_3 c9_10_4 lt9_10 y9_10 pl9_10 c9_11_0 c9_11_1 lt9_11 y9_11 pl9_11 c9_12_0 c9_12_1 c9_12_2 c9_12_3 c9_12_4 c9_12_5 c9_12_6 c9_12_7 lt9_12 y9_12 c9_14_0 c9_14_1 lt9_14 y9_14 pl9_14 c9_15_1 c9_15_4 c9_15_11 c9_15_14 lt9_15 y9_15 pl9_17 c9_17_0 c9_17_1 lt9_17 y9_17 c9_18_0 c9_18_1 lt9_18 y9_18 pl9_18 c9_19_0 c9_19_1 c9_19_2 c9_19_3 c9_19_4 c9_19_5 c9_19_6 c9_19_7 lt9_19 y9_19 pl9_19 c9_20_0 c9_20_1 c9_20_2 c9_20_3 c9_20_4 lt9_20 y9_20 pl9_20 c9_21_0 c9_21_1 lt9_21 y9_21 pl9_21
  have hL := hO.apart
  have hX := hO.apartX
  have HL := Lib.hid hL
  have HX := Lib.hid hX
  clear hL hX
  have hP9 := hO.pick [15] (by decide)
  generalize hX9_48 : Own.Rest _ _ (argsX X nd14 n) = X9_48 at hP9
  replace hP9 : Own w0 u47 [row (nd22) 56 (full symZ (symL ([sy ⟨#[70, 111, 111]⟩ (uz r 0), sy ⟨#[95, 95, 115, 117, 112, 101, 114, 71, 101, 116]⟩ 1])) nd23)] X9_48 := hP9
  clear hO
  have hO := hP9
  clear hP9
  have st9 := rlaw44y013_st r nd22 nd23
  refine wp_region_own (e := rlaw44y013E r nd22 nd23) (anc := rlaw44y013Anc) (G := (fun L9 α u9 => OwnF w0 u9 (act rlaw44y013Cnt 1 L9) (rlaw44y013R r nd22 nd23 L9 α) X9_48)) (by kernel_rfl) (by kernel_rfl) (by kernel_rfl) (by kernel_rfl) (rlaw44y013_he r nd22 nd23) ?_ (RunsAll.all ?_) ?_
  · have hp : ∀ i, act rlaw44y013Cnt 1 (fun _ => false) i → i ∈ [999] := by
      intro i hi
      have h9 : i % 1000 = 999 := by
        by_cases h : i % 1000 = 999
        · exact h
        · exact absurd (act_lt hi h) (by simp)
      unfold act at hi
      rw [if_pos h9] at hi
      simp only [List.mem_cons, List.not_mem_nil, or_false]
      omega
    refine hO.drew.family (fun i hi => ?_) (fun i j hi hj hij => ?_)
    · have := hp i hi
      simp only [List.mem_cons, List.not_mem_nil, or_false] at this
      subst this
      rfl
    · have h1 := hp i hi
      have h2 := hp j hj
      simp only [List.mem_cons, List.not_mem_nil, or_false] at h1 h2
      omega
  · refine ⟨?_, ?_, ?_, ?_, ?_, ?_, ?_, ?_, trivial⟩
    · intro L9 α a9 u9 K9 hL hcl hA hG hS h0 hK
      replace hL : L9 0 = false := hL
      have q21 : a9.tmps[21]? = some (.slice (some ⟨nd22, 0, none⟩) 2 (2 + nd23)) := (h0 21 (by kernel_rfl)).trans rfl
      have s21 := Rega.eval_of q21
      go_simp
      exact hK _ α _ (fun _ _ => rfl) rfl (step_same (st9) hL hcl rfl rfl hG)
    · intro L9 α a9 u9 K9 hL hcl hA hG hS h0 hK
      replace hL : L9 1 = false := hL
      have q335 : a9.tmps[335]? = some (.slice (some ⟨nd22, 0, none⟩) 2 (2 + nd23)) := hS 0 335 (by decide) rfl (by show 335 < 342; decide)
      have s335 := Rega.eval_of q335
      go_simp
      exact hK _ α _ (fun _ _ => rfl) rfl (step_same (st9) hL hcl rfl rfl hG)
    · intro L9 α a9 u9 K9 hL hcl hA hG hS h0 hK
      replace hL : L9 2 = false := hL
      have q336 : a9.tmps[336]? = some (.pointer (some ⟨nd22, 0, none⟩)) := hS 1 336 (by decide) rfl (by show 336 < 342; decide)
      have s336 := Rega.eval_of q336
      go_simp
      exact hK _ α _ (fun _ _ => rfl) rfl (step_same (st9) hL hcl rfl rfl hG)
    · intro L9 α a9 u9 K9 hL hcl hA hG hS h0 hK
      replace hL : L9 3 = false := hL
      have q337 : a9.tmps[337]? = some (.pointer (some ⟨nd22, 4, none⟩)) := hS 2 337 (by decide) rfl (by show 337 < 342; decide)
      have s337 := Rega.eval_of q337
      have e0 : rlaw44y013R r nd22 nd23 L9 α 999 = row (nd22) 56 (full symZ (symL ([sy ⟨#[70, 111, 111]⟩ (uz r 0), sy ⟨#[95, 95, 115, 117, 112, 101, 114, 71, 101, 116]⟩ 1])) nd23) := rfl
      have hr := hG.rowAt 999 (act_base 999 rfl) e0
      have c0 : u9.cell? ⟨nd22, 4, none⟩ = some (.int .u32 (uz r 0 : Int)) := hr.cell ((full_at rfl))
      clear hr e0
      go_simp
      exact hK _ α _ (fun _ _ => rfl) rfl (step_same (st9) hL hcl rfl rfl hG)
    · intro L9 α a9 u9 K9 hL hcl hA hG hS h0 hK
      replace hL : L9 4 = false := hL
      have q5 : a9.tmps[5]? = some (.bool r) := (h0 5 (by kernel_rfl)).trans rfl
      have s5 := Rega.eval_of q5
      go_simp
      exact hK _ α _ (fun _ _ => rfl) rfl (step_same (st9) hL hcl rfl rfl hG)
    · intro L9 α a9 u9 K9 hL hcl hA hG hS h0 hK
      replace hL : L9 5 = false := hL
      have q339 : a9.tmps[339]? = some (.bool r) := hS 4 339 (by decide) rfl (by show 339 < 342; decide)
      have s339 := Rega.eval_of q339
      go_simp
      have hM : ∀ i, i ∈ [] → act rlaw44y013Cnt 1 L9 i := by intro i hi; simp at hi
      have hP : Own w0 u9 [] _ := hG.pick [] (by decide) (by simp)
      clear hM
      refine Calls.mono (wantUsesU1 r _ _ _ hP ) ?_
      rintro e9 u1 ⟨rfl, hQ⟩
      obtain ⟨α', hα'⟩ : ∃ α' : Rega.Atoms, α' = α := ⟨_, rfl⟩
      have hα : ∀ j, j % 1000 ≠ 5 → α' j = α j := fun j hj => by rw [hα']
      skip
      refine hK _ α' _ hα ?_ (step_call (st9) hL hcl hα [] [] (by decide) (by decide) (by decide) (M := _) ?_ hG hQ)
      · rfl
      · rfl
    · intro L9 α a9 u9 K9 hL hcl hA hG hS h0 hK
      replace hL : L9 6 = false := hL
      have q338 : a9.tmps[338]? = some (.int .u32 (uz r 0 : Int)) := hS 3 338 (by decide) rfl (by show 338 < 342; decide)
      have s338 := Rega.eval_of q338
      have q340 : a9.tmps[340]? = some (.int .u32 (uz r 0 : Int)) := hS 5 340 (by decide) rfl (by show 340 < 342; decide)
      have s340 := Rega.eval_of q340
      go_simp
      exact hK _ α _ (fun _ _ => rfl) rfl (step_same (st9) hL hcl rfl rfl hG)
    · intro L9 α a9 u9 K9 hL hcl hA hG hS h0 hK
      replace hL : L9 7 = false := hL
      have q341 : a9.tmps[341]? = some (.bool true) := hS 6 341 (by decide) rfl (by show 341 < 342; decide)
      have s341 := Rega.eval_of q341
      go_simp
      exact hK _ α _ (fun _ _ => rfl) rfl (step_same (st9) hL hcl rfl rfl hG)
  clear st9
  intro α u hG
  have e0 : rlaw44y013R r nd22 nd23 (fun k => decide (k < 8)) α 999 = row (nd22) 56 (full symZ (symL ([sy ⟨#[70, 111, 111]⟩ (uz r 0), sy ⟨#[95, 95, 115, 117, 112, 101, 114, 71, 101, 116]⟩ 1])) nd23) := rfl
  have hO : Own w0 u [row (nd22) 56 (full symZ (symL ([sy ⟨#[70, 111, 111]⟩ (uz r 0), sy ⟨#[95, 95, 115, 117, 112, 101, 114, 71, 101, 116]⟩ 1])) nd23)] X9_48 := (hG.list [999] (by decide) (act_all (by decide))).conv (by
    show [rlaw44y013R r nd22 nd23 (fun k => decide (k < 8)) α 999] = _
    rw [e0])
  clear hG e0
  generalize hfr : Rega.frameAt _ _ _ _ _ = fr
  have hdf : fr = ⟨#[.int .u8 kind, .string name, .int .i64 (n : Int), .bool true, .bool s, .bool r, .int .i32 loc, .int .u32 im, undef, undef, undef, undef, undef, undef, undef, undef, .bool true, .pointer (some ⟨B1, 0, none⟩), .pointer (some ⟨B1_1, 0, none⟩), .pointer (some ⟨nd4, 0, none⟩), .pointer (some ⟨nd9, 0, none⟩), .slice (some ⟨nd22, 0, none⟩) 2 (2 + nd23), .int .u8 0, undef, undef, undef, undef, undef, undef, undef, undef, undef, undef, undef, undef, undef, undef, undef, .pointer (some ⟨B35, 0, none⟩), .bool true, .pointer (some ⟨B39, 0, none⟩), .string ⟨#[99, 97, 108, 108]⟩, .bool true, .slice (some ⟨nd18, 0, none⟩) 3 3, .bool true, undef, undef, .int .u8 kind, .string name, .int .i64 (n : Int), .bool true, .bool s, .bool r, .int .i32 loc, .int .u32 im, .bool true, .bool false, .string name, .int .i64 (name.size : Int), .bool (decide (65536 < (name.size : Int))), .int .i64 (n : Int), .bool (decide ((n : Int) < 0)), .bool (decide ((n : Int) < 0)), .int .i64 (n : Int), .bool (decide (4096 < (n : Int))), .bool (decide ((n : Int) < 0) || decide (4096 < (n : Int))), .agg #[.int .u32 0, .int .u32 0], .int .u32 im, .agg #[.int .u32 5, .int .u32 im], .slice (some ⟨nd3, 0, none⟩) 1 1, .agg #[.int .u32 0, .int .u32 0], .bool s, .bool r, .bool true, .pointer (some ⟨nd4, 0, none⟩), .int .u8 kind, .string name, .int .i64 (n : Int), .int .i32 loc, .int .u32 im, .pointer (some ⟨nd9, 0, none⟩), .pointer (some ⟨nd4, 0, none⟩), .pointer (some ⟨nd9, 0, none⟩), .tuple #[], .pointer (some ⟨nd4, 0, none⟩), .slice (some ⟨nd22, 0, none⟩) 2 (2 + nd23), .int .u8 kind, .int .u8 0, .bool true, .bool true, .int .u8 0, .bool true, .bool true, .bool false, undef, undef, undef, undef, undef, undef, undef, undef, undef, undef, undef, undef, undef, undef, undef, undef, undef, undef, undef, undef, undef, undef, undef, undef, undef, undef, undef, undef, undef, undef, undef, undef, undef, undef, undef, undef, undef, undef, undef, undef, undef, undef, undef, undef, undef, undef, undef, undef, undef, undef, undef, undef, undef, undef, undef, undef, undef, undef, undef, undef, undef, undef, undef, undef, undef, undef, undef, undef, undef, undef, undef, undef, undef, undef, undef, undef, undef, undef, undef, undef, undef, undef, undef, undef, undef, undef, undef, undef, undef, undef, undef, undef, undef, undef, undef, undef, undef, undef, undef, undef, undef, undef, undef, undef, undef, undef, undef, undef, undef, undef, undef, undef, undef, undef, undef, undef, .tuple #[.agg #[.int .u32 0, .int .u32 1], .bool true], .pointer (some ⟨nd4, 0, none⟩), .tuple #[.agg #[.int .u32 0, .int .u32 1], .bool true], .agg #[.int .u32 0, .int .u32 1], .bool true, .bool true, .bool false, .bool false, .pointer (some ⟨nd4, 0, none⟩), .int .i64 1, .bool false, .bool false, .tuple #[.agg #[.iface 65 (.pointer (some ⟨nd16, 0, none⟩)), .int .i32 loc], .string ⟨#[99, 97, 108, 108]⟩, .bool true], .pointer (some ⟨nd9, 0, none⟩), .pointer (some ⟨nd9, 0, none⟩), .pointer (some ⟨nd9, 0, none⟩), .agg #[.iface 225 (.pointer (some ⟨nd26, 0, none⟩)), .int .i32 loc], .tuple #[.agg #[.iface 65 (.pointer (some ⟨nd16, 0, none⟩)), .int .i32 loc], .string ⟨#[99, 97, 108, 108]⟩, .bool true], .agg #[.iface 65 (.pointer (some ⟨nd16, 0, none⟩)), .int .i32 loc], .string ⟨#[99, 97, 108, 108]⟩, .bool true, .bool true, .bool false, .bool false, .string ⟨#[99, 97, 108, 108]⟩, .bool false, .bool false, .tuple #[.slice (some ⟨nd18, 0, none⟩) 3 3, .bool true], .agg #[.iface 65 (.pointer (some ⟨nd16, 0, none⟩)), .int .i32 loc], .agg #[.int .u32 0, .int .u32 1], .tuple #[.slice (some ⟨nd18, 0, none⟩) 3 3, .bool true], .slice (some ⟨nd18, 0, none⟩) 3 3, .bool true, .bool true, .bool false, .bool false, .slice (some ⟨nd18, 0, none⟩) 3 3, .pointer (some ⟨nd18, 0, none⟩), .agg #[.iface (clsTy s) (.pointer (some ⟨nd19, 0, none⟩)), .int .i32 loc], .agg #[.int .u32 0, .int .u32 0], .bool s, .bool true, .bool false, .bool false, .bool false, .slice (some ⟨nd18, 0, none⟩) 3 3, .pointer (some ⟨nd18, 2, none⟩), .agg #[.iface (thsTy r) (.pointer (some ⟨nd21, 0, none⟩)), .int .i32 loc], .agg #[.int .u32 0, .int .u32 0], .bool r, .bool true, .bool false, .bool false, .int .u8 0, .bool true, .slice (some ⟨nd18, 0, none⟩) 3 3, .pointer (some ⟨nd18, 4, none⟩), .agg #[.iface 206 (.pointer (some ⟨nd30, 0, none⟩)), .int .i32 loc], .string name, .slice (some ⟨nd44, 0, none⟩) (u16L name).length ((u16L name).length + nd45), .bool true, .bool false, undef, undef, undef, undef, undef, undef, undef, undef, undef, undef, undef, undef, undef, undef, .pointer (some ⟨nd9, 0, none⟩), .pointer (some ⟨nd9, 0, none⟩), .pointer (some ⟨nd9, 2, none⟩), .slice (some ⟨nd28, 0, none⟩) (1 + n) (1 + n + nd29), .int .i64 ((n : Int) + 1), .int .i64 (n : Int), .int .i64 ((n : Int) + 1), .bool false, .bool false, .pointer (some ⟨nd9, 0, none⟩), .pointer (some ⟨nd9, 0, none⟩), .pointer (some ⟨nd9, 2, none⟩), .slice (some ⟨nd28, 0, none⟩) (1 + n) (1 + n + nd29), .pointer (some ⟨nd28, 0, none⟩), .agg #[.iface 237 (.pointer (some ⟨nd27, 0, none⟩)), .int .i32 loc], .bool true, .bool false, .bool false, .bool false, .pointer (some ⟨nd9, 0, none⟩), .pointer (some ⟨nd9, 0, none⟩), .pointer (some ⟨nd9, 2, none⟩), .slice (some ⟨nd28, 0, none⟩) (1 + n) (1 + n + nd29), .int .i64 (n : Int), .bool true, .bool false, .bool false, .slice (some ⟨nd22, 0, none⟩) 2 (2 + nd23), .int .i64 2, .bool false, .bool false, .pointer (some ⟨B35, 1, none⟩), .int .u32 1, .bool false, .bool false, .bool false, .slice (some ⟨nd22, 0, none⟩) 2 (2 + nd23), .pointer (some ⟨nd22, 10, none⟩), .pointer (some ⟨nd22, 11, none⟩), .string ⟨#[95, 95, 115, 117, 112, 101, 114, 71, 101, 116]⟩, .bool false, .bool false, .bool false, .slice (some ⟨nd22, 0, none⟩) 2 (2 + nd23), .pointer (some ⟨nd22, 10, none⟩), .pointer (some ⟨nd22, 14, none⟩), .int .u32 1, .bool false, .bool false, .slice (some ⟨nd22, 0, none⟩) 2 (2 + nd23), .pointer (some ⟨nd22, 0, none⟩), .pointer (some ⟨nd22, 4, none⟩), .int .u32 (uz r 0 : Int), .bool r, .int .u32 (uz r 0 : Int), .bool true], []⟩ := by rw [← hfr]; kernel_rfl
  clear hfr
  subst hdf
  clear α
  subst hX9_48
  have hN : Own w0 u [row (nd22) 56 (full symZ (symL ([sy ⟨#[70, 111, 111]⟩ (uz r 0), sy ⟨#[95, 95, 115, 117, 112, 101, 114, 71, 101, 116]⟩ 1])) nd23), row (nd28) 35 (full exprZ ([.iface 237 (.pointer (some ⟨nd27, 0, none⟩)), .int .i32 loc] ++ (args loc nd14 n)) nd29), row (nd18) 35 #[.iface (clsTy s) (.pointer (some ⟨nd19, 0, none⟩)), .int .i32 loc, .iface (thsTy r) (.pointer (some ⟨nd21, 0, none⟩)), .int .i32 loc, .iface 206 (.pointer (some ⟨nd30, 0, none⟩)), .int .i32 loc], row (nd30) 208 #[.slice (some ⟨nd31, 0, none⟩) (u16L name).length ((u16L name).length + nd32), .int .i32 0, .bool false, .bool false, .bool false], row (nd31) 51 (full u16Z (u16L name) nd32), row (nd44) 51 (full u16Z (u16L name) (nd45)), row (nd19) (clsT s) (clsC s loc nd20), row (nd20) (xtrT s) (xtrC s loc nd19), row (nd21) (thsT r) (thsC r), row (B1) 25 #[.int .u32 0, .int .u32 0], row (nd16) 71 #[.iface 209 (.pointer (some ⟨nd17, 0, none⟩)), .int .i32 loc, .slice (some ⟨nd18, 0, none⟩) 3 3, .int .i32 0, .int .u8 0, .int .u8 0, .bool false, .bool false], row (nd17) 211 #[.int .u32 0, .int .u32 1, .bool false, .bool false, .bool false], row (B39) 35 #[.iface 65 (.pointer (some ⟨nd16, 0, none⟩)), .int .i32 loc], row (nd26) 228 #[.iface 65 (.pointer (some ⟨nd16, 0, none⟩)), .int .i32 loc, .string ⟨#[99, 97, 108, 108]⟩, .int .i32 loc, .int .u8 0, .bool false, .bool false, .bool false], ((nd5, .map #[⟨.string ⟨#[95, 95, 115, 117, 112, 101, 114, 71, 101, 116]⟩, .agg #[.int .i32 loc, .int .u32 0, .int .u32 1], 0⟩] 1) : Rw), row (B35) 25 #[.int .u32 0, .int .u32 1], row (nd6) 203 #[.pointer none, .pointer none, .slice none 0 0, .map none, .slice none 0 0, .slice (some ⟨nd24, 0, none⟩) 1 (1 + nd25), .int .i32 0, .int .i32 0, .int .u32 0, .int .u32 0, .bool false, .bool false, .bool false, .bool false, .int .u8 0, .int .u8 6], row (nd24) 25 (full refZ [.int .u32 0, .int .u32 1] nd25), row (nd7) 25 #[.int .u32 0, .int .u32 0], row (nd9) 71 #[.iface 225 (.pointer (some ⟨nd26, 0, none⟩)), .int .i32 loc, .slice (some ⟨nd28, 0, none⟩) (1 + n) (1 + n + nd29), .int .i32 0, .int .u8 0, .int .u8 0, .bool false, .bool false], row (nd13) 211 #[.int .u32 5, .int .u32 im, .bool false, .bool false, .bool false], row (B1_1) 25 #[.int .u32 5, .int .u32 im]] (argsX X nd14 n) := hO.back HL.out HX.out [0, 1, 2, 3, 4, 5, 6, 7, 8, 9, 10, 11, 12, 13, 14, 16, 17, 18, 19, 20, 21] (by decide) (by decide)
  clear hO HL HX
  have hO := hN
  clear hN
  obtain ⟨c9_2_0, c9_2_1, c9_2_2, c9_2_3, c9_2_4, c9_2_5, lt9_2, y9_2, -⟩ := hO.k6 2 rfl
  obtain ⟨c9_3_0, c9_3_1, c9_3_2, c9_3_3, c9_3_4, lt9_3, y9_3, -⟩ := hO.k5 3 rfl
  obtain ⟨c9_9_0, c9_9_1, lt9_9, y9_9, -⟩ := hO.k2 9 rfl
  obtain ⟨c9_10_0, c9_10_1, c9_10_2, c9_10_3, c9_10_4, c9_10_5, c9_10_6, c9_10_7, lt9_10, y9_10, -⟩ := hO.k8 10 rfl
  obtain ⟨c9_11_0, c9_11_1, c9_11_2, c9_11_3, c9_11_4, lt9_11, y9_11, -⟩ := hO.k5 11 rfl
  obtain ⟨c9_12_0, c9_12_1, lt9_12, y9_12, -⟩ := hO.k2 12 rfl
  obtain ⟨c9_13_0, c9_13_1, c9_13_2, c9_13_3, c9_13_4, c9_13_5, c9_13_6, c9_13_7, lt9_13, y9_13, -⟩ := hO.k8 13 rfl
  obtain ⟨c9_15_0, c9_15_1, lt9_15, y9_15, -⟩ := hO.k2 15 rfl
  obtain ⟨c9_18_0, c9_18_1, lt9_18, y9_18, -⟩ := hO.k2 18 rfl
  obtain ⟨c9_19_0, c9_19_1, c9_19_2, c9_19_3, c9_19_4, c9_19_5, c9_19_6, c9_19_7, lt9_19, y9_19, -⟩ := hO.k8 19 rfl
  obtain ⟨c9_20_0, c9_20_1, c9_20_2, c9_20_3, c9_20_4, lt9_20, y9_20, -⟩ := hO.k5 20 rfl
  obtain ⟨c9_21_0, c9_21_1, lt9_21, y9_21, -⟩ := hO.k2 21 rfl
  have HO := Lib.hid hO
  clear hO
  go_wp2_with (first | (with_reducible refine Own.stay (fn := Tryd.f7) ?_) | (first | (go_at_call 31; go_in)))
  try with_reducible refine Own.Stay.mk ?_
  have hO := HO.out
  clear HO c9_2_0 c9_2_1 c9_2_2 c9_2_3 c9_2_4 c9_2_5 lt9_2 y9_2 c9_3_0 c9_3_1 c9_3_2 c9_3_3 c9_3_4 lt9_3 y9_3 c9_9_0 c9_9_1 lt9_9 y9_9 c9_10_0 c9_10_1 c9_10_2 c9_10_3 c9_10_4 c9_10_5 c9_10_6 c9_10_7 lt9_10 y9_10 c9_11_0 c9_11_1 c9_11_2 c9_11_3 c9_11_4 lt9_11 y9_11 c9_12_0 c9_12_1 lt9_12 y9_12 c9_13_0 c9_13_1 c9_13_2 c9_13_3 c9_13_4 c9_13_5 c9_13_6 c9_13_7 lt9_13 y9_13 c9_15_0 c9_15_1 lt9_15 y9_15 c9_18_0 c9_18_1 lt9_18 y9_18 c9_19_0 c9_19_1 c9_19_2 c9_19_3 c9_19_4 c9_19_5 c9_19_6 c9_19_7 lt9_19 y9_19 c9_20_0 c9_20_1 c9_20_2 c9_20_3 c9_20_4 lt9_20 y9_20 c9_21_0 c9_21_1 lt9_21 y9_21
  refine bodyPost_ret (v := .bool true) ?_ rfl ⟨rfl, (hO.sub [] (by decide)).weaken (fun _ _ => Or.inl)⟩
  simp [results, Tryd.results7, go_sem]
end Go.Proofs.YtkhmjppfogppoaaDoor.Use
