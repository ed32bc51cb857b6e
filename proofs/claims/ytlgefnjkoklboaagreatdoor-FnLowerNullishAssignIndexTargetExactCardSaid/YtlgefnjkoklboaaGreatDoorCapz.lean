/- What a capture hands back; an assignment. No condition. -/
import Derived.Test.YtlgefnjkoklboaaGreatDoorOwn
import Derived.Test.YtlgefnjkoklboaaGreatDoorDeepCells
import Derived.Test.YtlgefnjkoklboaaGreatDoorRows
import Derived.Test.YtlgefnjkoklboaaGreatDoorUse
import Derived.Test.YtlgefnjkoklboaaGreatDoorKitz
import Derived.Test.YtlgefnjkoklboaaGreatDoorLawKitz
namespace Go.Proofs.YtlgefnjkoklboaaGreatDoor.Use
open Go.ChangeShapes Go.WideShapes Go.ChangeAt Go.RowKit Go.Sort Own
set_option linter.unusedVariables false
def capIdOPost (pb ib : Nat) (loc l0 : Int) (w0 : World) (X : Nat → Obj → Prop) (e : Ending) (w' : World) : Prop :=
  ∃ bx0 : Nat, ∃ bx1 : Nat, ∃ bx2 : Nat, ∃ bx3 : Nat, e = .returned (.tuple #[.func (Fn.func 39) #[] #[.pointer (some ⟨bx0, 0, none⟩), .pointer (some ⟨bx3, 0, none⟩), .pointer (some ⟨bx1, 0, none⟩)], .func (Fn.func 30) #[] #[.pointer (some ⟨bx2, 0, none⟩)]]) ∧ Own w0 w' [row (bx0) 25 #[.pointer (some ⟨pb, 0, none⟩)], row (bx1) 32 #[.int .i32 loc], row (bx2) 34 #[.iface 52 (.pointer (some ⟨ib, 0, none⟩)), .int .i32 l0], row (bx3) 52 #[.pointer (some ⟨ib, 0, none⟩)]] X
set_option maxRecDepth 100000 in
set_option maxHeartbeats 1000000 in
theorem capIdO (pb ib : Nat) (loc l0 : Int) (w0 w : World) (X : Nat → Obj → Prop) (hO : Own w0 w [] X)  :
    Calls Tryz.prog 22 #[.pointer (some ⟨pb, 0, none⟩), .agg #[.int .i32 loc], .int .i64 2, .agg #[.iface 52 (.pointer (some ⟨ib, 0, none⟩)), .int .i32 l0], .int .u8 0] w (capIdOPost pb ib loc l0 w0 X) := by
  go_enter Tryz.func22, Tryz.ntmps22
  go_wp2_with fail
  generalize hW : World.alloc _ _ = W2
  have hN : Own w0 W2 [row (w.heap.size + 1 + 1 + 1) 52 #[.pointer (some ⟨ib, 0, none⟩)], row (w.heap.size + 1 + 1) 34 #[.iface 52 (.pointer (some ⟨ib, 0, none⟩)), .int .i32 l0], row (w.heap.size + 1) 32 #[.int .i32 loc], row (w.heap.size) 25 #[.pointer (some ⟨pb, 0, none⟩)]] X := by
    rw [← hW]
    exact ((((hO).alloc' _ (w.heap.size) (by simp)).alloc' _ (w.heap.size + 1) (by simp)).alloc' _ (w.heap.size + 1 + 1) (by simp)).alloc' _ (w.heap.size + 1 + 1 + 1) (by simp)
  clear hW hO
  generalize w.heap.size + 1 + 1 + 1 = B1_3 at hN ⊢
  generalize w.heap.size + 1 + 1 = B1_2 at hN ⊢
  generalize w.heap.size + 1 = B1_1 at hN ⊢
  generalize w.heap.size = B1 at hN ⊢
  have hO := hN
  clear hN
  refine bodyPost_ret (v := .tuple #[.func (Fn.func 39) #[] #[.pointer (some ⟨B1, 0, none⟩), .pointer (some ⟨B1_3, 0, none⟩), .pointer (some ⟨B1_1, 0, none⟩)], .func (Fn.func 30) #[] #[.pointer (some ⟨B1_2, 0, none⟩)]]) ?_ rfl ⟨B1, B1_1, B1_2, B1_3, rfl, hO.sub [3, 2, 1, 0] (by decide)⟩
  simp [results, Tryz.results22, go_sem]
def capNumOPost (pb kb : Nat) (loc l0 : Int) (w0 : World) (X : Nat → Obj → Prop) (e : Ending) (w' : World) : Prop :=
  ∃ bx1 : Nat, ∃ bx2 : Nat, ∃ bx3 : Nat, e = .returned (.tuple #[.func (Fn.func 35) #[] #[.pointer (some ⟨bx1, 0, none⟩), .pointer (some ⟨bx3, 0, none⟩)], .func (Fn.func 30) #[] #[.pointer (some ⟨bx2, 0, none⟩)]]) ∧ Own w0 w' [row (bx1) 32 #[.int .i32 loc], row (bx2) 34 #[.iface 40 (.pointer (some ⟨kb, 0, none⟩)), .int .i32 l0], row (bx3) 40 #[.pointer (some ⟨kb, 0, none⟩)]] X
set_option maxRecDepth 100000 in
set_option maxHeartbeats 1000000 in
theorem capNumO (pb kb : Nat) (loc l0 : Int) (w0 w : World) (X : Nat → Obj → Prop) (hO : Own w0 w [] X)  :
    Calls Tryz.prog 22 #[.pointer (some ⟨pb, 0, none⟩), .agg #[.int .i32 loc], .int .i64 2, .agg #[.iface 40 (.pointer (some ⟨kb, 0, none⟩)), .int .i32 l0], .int .u8 0] w (capNumOPost pb kb loc l0 w0 X) := by
  go_enter Tryz.func22, Tryz.ntmps22
  go_wp2_with fail
  generalize hW : World.alloc _ _ = W2
  have hN : Own w0 W2 [row (w.heap.size + 1 + 1 + 1) 40 #[.pointer (some ⟨kb, 0, none⟩)], row (w.heap.size + 1 + 1) 34 #[.iface 40 (.pointer (some ⟨kb, 0, none⟩)), .int .i32 l0], row (w.heap.size + 1) 32 #[.int .i32 loc], row (w.heap.size) 25 #[.pointer (some ⟨pb, 0, none⟩)]] X := by
    rw [← hW]
    exact ((((hO).alloc' _ (w.heap.size) (by simp)).alloc' _ (w.heap.size + 1) (by simp)).alloc' _ (w.heap.size + 1 + 1) (by simp)).alloc' _ (w.heap.size + 1 + 1 + 1) (by simp)
  clear hW hO
  generalize w.heap.size + 1 + 1 + 1 = B1_3 at hN ⊢
  generalize w.heap.size + 1 + 1 = B1_2 at hN ⊢
  generalize w.heap.size + 1 = B1_1 at hN ⊢
  generalize w.heap.size = B1 at hN ⊢
  have hO := hN
  clear hN
  refine bodyPost_ret (v := .tuple #[.func (Fn.func 35) #[] #[.pointer (some ⟨B1_1, 0, none⟩), .pointer (some ⟨B1_3, 0, none⟩)], .func (Fn.func 30) #[] #[.pointer (some ⟨B1_2, 0, none⟩)]]) ?_ rfl ⟨B1_1, B1_2, B1_3, rfl, hO.sub [2, 1, 0] (by decide)⟩
  simp [results, Tryz.results22, go_sem]
def rVI1E (pb : Nat) (sb : Nat) (PC : Array Value) (C : Array Value) (i : Nat) (c : Nat) (src : Int) (ib : Nat) (loc : Int) (bx0 : Nat) (bx1 : Nat) (bx3 : Nat) (B1 : Nat) : Nat → Rega.Atoms → Value
  | 0, α => .pointer (some ⟨pb, 0, none⟩)
  | 1, α => .pointer (some ⟨ib, 0, none⟩)
  | 2, α => .pointer (some ⟨ib, 0, none⟩)
  | 3, α => .pointer (some ⟨ib, 0, none⟩)
  | 4, α => .agg #[.int .u32 src, .int .u32 (i : Int)]
  | 5, α => .tuple #[]
  | _, _ => undef
def rVI1Anc : Nat → List Nat
  | 2 => [1]
  | 3 => [1, 2]
  | 4 => [1, 2, 3]
  | 5 => [0, 1, 2, 3, 4]
  | _ => []
def rVI1Trn : Nat → List Nat
  | 5 => [2999]
  | _ => []
def rVI1Cnt : List (Nat × Nat) := []
def rVI1T2999 (pb : Nat) (sb : Nat) (PC : Array Value) (C : Array Value) (i : Nat) (c : Nat) (src : Int) (ib : Nat) (loc : Int) (bx0 : Nat) (bx1 : Nat) (bx3 : Nat) (B1 : Nat) (L9 : Nat → Bool) (α : Rega.Atoms) : Rw := if L9 5 = true then row (sb) 196 (bumped C i c) else row (sb) 196 C
def rVI1R (pb : Nat) (sb : Nat) (PC : Array Value) (C : Array Value) (i : Nat) (c : Nat) (src : Int) (ib : Nat) (loc : Int) (bx0 : Nat) (bx1 : Nat) (bx3 : Nat) (B1 : Nat) (L9 : Nat → Bool) (α : Rega.Atoms) (ix9 : Nat) : Rw := if ix9 = 999 then row (B1) 34 #[.nilIface, .int .i32 0] else if ix9 = 1999 then row (pb) 178 PC else if ix9 = 2999 then rVI1T2999 pb sb PC C i c src ib loc bx0 bx1 bx3 B1 L9 α else if ix9 = 3999 then row (bx0) 25 #[.pointer (some ⟨pb, 0, none⟩)] else if ix9 = 4999 then row (bx1) 32 #[.int .i32 loc] else if ix9 = 5999 then row (bx3) 52 #[.pointer (some ⟨ib, 0, none⟩)] else if ix9 = 6999 then row (ib) 180 #[.int .u32 src, .int .u32 (i : Int), .bool false, .bool false, .bool false] else (0, .map #[] 0)
theorem rVI1_he (pb : Nat) (sb : Nat) (PC : Array Value) (C : Array Value) (i : Nat) (c : Nat) (src : Int) (ib : Nat) (loc : Int) (bx0 : Nat) (bx1 : Nat) (bx3 : Nat) (B1 : Nat) : ∀ kk α α', (∀ j, (j % 1000 = kk ∨ j % 1000 ∈ rVI1Anc kk) → α j = α' j) → rVI1E pb sb PC C i c src ib loc bx0 bx1 bx3 B1 kk α = rVI1E pb sb PC C i c src ib loc bx0 bx1 bx3 B1 kk α' := by
  intro kk α α' h
  match kk with
  | 0 => rfl
  | 1 => rfl
  | 2 => rfl
  | 3 => rfl
  | 4 => rfl
  | 5 => rfl
  | n + 6 => rfl
theorem rVI1_st (pb : Nat) (sb : Nat) (PC : Array Value) (C : Array Value) (i : Nat) (c : Nat) (src : Int) (ib : Nat) (loc : Int) (bx0 : Nat) (bx1 : Nat) (bx3 : Nat) (B1 : Nat) : Stable rVI1Cnt 7 rVI1Anc rVI1Trn (rVI1R pb sb PC C i c src ib loc bx0 bx1 bx3 B1) := by
  intro k9 L9 α α' ix9 hk hcl hα hact ht
  have hp := act_places hact
  replace hp : ix9 ∈ [999, 1999, 2999, 3999, 4999, 5999, 6999] := hp
  simp only [List.mem_cons, List.not_mem_nil, or_false] at hp
  rcases hp with rfl | rfl | rfl | rfl | rfl | rfl | rfl
  · rfl
  · rfl
  · show rVI1T2999 pb sb PC C i c src ib loc bx0 bx1 bx3 B1 (Rega.ran L9 k9) α' = rVI1T2999 pb sb PC C i c src ib loc bx0 bx1 bx3 B1 L9 α
    unfold rVI1T2999
    have n5 : 5 ≠ k9 := fun e => ht (by rw [← e]; decide)
    rw [ran_ne n5]
  · rfl
  · rfl
  · rfl
  · rfl
def rVI2E (pb : Nat) (sb : Nat) (PC : Array Value) (C : Array Value) (i : Nat) (c : Nat) (src : Int) (ib : Nat) (loc : Int) (bx0 : Nat) (bx1 : Nat) (bx3 : Nat) (B1 : Nat) : Nat → Rega.Atoms → Value
  | 0, α => .agg #[.int .i32 loc]
  | 1, α => .pointer (some ⟨ib, 0, none⟩)
  | 2, α => .pointer (some ⟨ib, 0, none⟩)
  | 3, α => .pointer (some ⟨ib, 0, none⟩)
  | 4, α => .agg #[.int .u32 src, .int .u32 (i : Int)]
  | 5, α => .agg #[.int .u32 src, .int .u32 (i : Int), .bool false, .bool false, .bool false]
  | 6, α => .pointer (some ⟨α 6, 0, none⟩)
  | 7, α => .iface 52 (.pointer (some ⟨α 6, 0, none⟩))
  | 8, α => .agg #[.iface 52 (.pointer (some ⟨α 6, 0, none⟩)), .int .i32 loc]
  | 9, α => undef
  | _, _ => undef
def rVI2Anc : Nat → List Nat
  | 2 => [1]
  | 3 => [1, 2]
  | 4 => [1, 2, 3]
  | 5 => [1, 2, 3, 4]
  | 6 => [1, 2, 3, 4, 5]
  | 7 => [1, 2, 3, 4, 5, 6]
  | 8 => [0, 1, 2, 3, 4, 5, 6, 7]
  | 9 => [0, 1, 2, 3, 4, 5, 6, 7, 8]
  | _ => []
def rVI2Trn : Nat → List Nat
  | 9 => [999]
  | _ => []
def rVI2Cnt : List (Nat × Nat) := [(6, 1)]
def rVI2T999 (pb : Nat) (sb : Nat) (PC : Array Value) (C : Array Value) (i : Nat) (c : Nat) (src : Int) (ib : Nat) (loc : Int) (bx0 : Nat) (bx1 : Nat) (bx3 : Nat) (B1 : Nat) (L9 : Nat → Bool) (α : Rega.Atoms) : Rw := if L9 9 = true then row (B1) 34 #[.iface 52 (.pointer (some ⟨α 6, 0, none⟩)), .int .i32 loc] else row (B1) 34 #[.nilIface, .int .i32 0]
def rVI2R (pb : Nat) (sb : Nat) (PC : Array Value) (C : Array Value) (i : Nat) (c : Nat) (src : Int) (ib : Nat) (loc : Int) (bx0 : Nat) (bx1 : Nat) (bx3 : Nat) (B1 : Nat) (L9 : Nat → Bool) (α : Rega.Atoms) (ix9 : Nat) : Rw := if ix9 = 999 then rVI2T999 pb sb PC C i c src ib loc bx0 bx1 bx3 B1 L9 α else if ix9 = 1999 then row (pb) 178 PC else if ix9 = 2999 then row (sb) 196 (bumped C i c) else if ix9 = 3999 then row (bx0) 25 #[.pointer (some ⟨pb, 0, none⟩)] else if ix9 = 4999 then row (bx1) 32 #[.int .i32 loc] else if ix9 = 5999 then row (bx3) 52 #[.pointer (some ⟨ib, 0, none⟩)] else if ix9 = 6999 then row (ib) 180 #[.int .u32 src, .int .u32 (i : Int), .bool false, .bool false, .bool false] else if ix9 = 6 then row (α 6) 180 #[.int .u32 src, .int .u32 (i : Int), .bool false, .bool false, .bool false] else (0, .map #[] 0)
theorem rVI2_he (pb : Nat) (sb : Nat) (PC : Array Value) (C : Array Value) (i : Nat) (c : Nat) (src : Int) (ib : Nat) (loc : Int) (bx0 : Nat) (bx1 : Nat) (bx3 : Nat) (B1 : Nat) : ∀ kk α α', (∀ j, (j % 1000 = kk ∨ j % 1000 ∈ rVI2Anc kk) → α j = α' j) → rVI2E pb sb PC C i c src ib loc bx0 bx1 bx3 B1 kk α = rVI2E pb sb PC C i c src ib loc bx0 bx1 bx3 B1 kk α' := by
  intro kk α α' h
  match kk with
  | 0 => rfl
  | 1 => rfl
  | 2 => rfl
  | 3 => rfl
  | 4 => rfl
  | 5 => rfl
  | 6 => simp only [rVI2E, h 6 (Or.inl rfl)]
  | 7 => simp only [rVI2E, h 6 (Or.inr (by decide))]
  | 8 => simp only [rVI2E, h 6 (Or.inr (by decide))]
  | 9 => rfl
  | n + 10 => rfl
theorem rVI2_st (pb : Nat) (sb : Nat) (PC : Array Value) (C : Array Value) (i : Nat) (c : Nat) (src : Int) (ib : Nat) (loc : Int) (bx0 : Nat) (bx1 : Nat) (bx3 : Nat) (B1 : Nat) : Stable rVI2Cnt 7 rVI2Anc rVI2Trn (rVI2R pb sb PC C i c src ib loc bx0 bx1 bx3 B1) := by
  intro k9 L9 α α' ix9 hk hcl hα hact ht
  have hp := act_places hact
  replace hp : ix9 ∈ [999, 1999, 2999, 3999, 4999, 5999, 6999, 6] := hp
  simp only [List.mem_cons, List.not_mem_nil, or_false] at hp
  rcases hp with rfl | rfl | rfl | rfl | rfl | rfl | rfl | rfl
  · show rVI2T999 pb sb PC C i c src ib loc bx0 bx1 bx3 B1 (Rega.ran L9 k9) α' = rVI2T999 pb sb PC C i c src ib loc bx0 bx1 bx3 B1 L9 α
    unfold rVI2T999
    have n9 : 9 ≠ k9 := fun e => ht (by rw [← e]; decide)
    rw [ran_ne n9]
    by_cases e9 : L9 9 = true
    · first | rw [if_pos e9, if_pos e9] | rw [if_pos e9]
      try simp only [hα 6 (ne_ran hk (hcl 9 e9 6 (by decide)))]
    first | rw [if_neg e9, if_neg e9] | rw [if_neg e9]
  · rfl
  · rfl
  · rfl
  · rfl
  · rfl
  · rfl
  · have e0 : L9 6 = true := act_lt hact (by decide)
    show row (α' 6) 180 #[.int .u32 src, .int .u32 (i : Int), .bool false, .bool false, .bool false] = row (α 6) 180 #[.int .u32 src, .int .u32 (i : Int), .bool false, .bool false, .bool false]
    simp only [hα 6 (ne_ran hk e0)]
def capGetPost (pb sb n cap : Nat) (PC C : Array Value) (i c : Nat) (src : Int) (ib : Nat) (loc : Int) (bx0 bx1 bx3 : Nat) (w0 : World) (X : Nat → Obj → Prop) (e : Ending) (w' : World) : Prop :=
  ∃ b9 : Nat, e = .returned (.agg #[.iface 52 (.pointer (some ⟨b9, 0, none⟩)), .int .i32 loc]) ∧ Own w0 w' [row (pb) 178 PC, row (sb) 196 (bumped C i c), row (bx0) 25 #[.pointer (some ⟨pb, 0, none⟩)], row (bx1) 32 #[.int .i32 loc], row (bx3) 52 #[.pointer (some ⟨ib, 0, none⟩)], row (ib) 180 #[.int .u32 src, .int .u32 (i : Int), .bool false, .bool false, .bool false], row (b9) 180 #[.int .u32 src, .int .u32 (i : Int), .bool false, .bool false, .bool false]] X
set_option maxRecDepth 100000 in
set_option maxHeartbeats 1000000 in
theorem capGet (pb sb n cap : Nat) (PC C : Array Value) (i c : Nat) (src : Int) (ib : Nat) (loc : Int) (bx0 bx1 bx3 : Nat) (w0 w : World) (X : Nat → Obj → Prop) (hO : Own w0 w [row (pb) 178 PC, row (sb) 196 C, row (bx0) 25 #[.pointer (some ⟨pb, 0, none⟩)], row (bx1) 32 #[.int .i32 loc], row (bx3) 52 #[.pointer (some ⟨ib, 0, none⟩)], row (ib) 180 #[.int .u32 src, .int .u32 (i : Int), .bool false, .bool false, .bool false]] X) (hR : Ready PC sb n cap) (hn : n ≤ 4294967295) (hi : i < n) (hc : C[i * 10 + 4]? = some (.int .u32 (c : Int))) (hcm : c < 4294967295) :
    Calls Tryz.prog 39 #[.pointer (some ⟨bx0, 0, none⟩), .pointer (some ⟨bx3, 0, none⟩), .pointer (some ⟨bx1, 0, none⟩)] w (capGetPost pb sb n cap PC C i c src ib loc bx0 bx1 bx3 w0 X) := by
  go_enter Tryz.func39, Tryz.ntmps39
  have c9_2_0 : w.cell? ⟨bx0, 0, none⟩ = some (.pointer (some ⟨pb, 0, none⟩)) := hO.cell 2 rfl 0 rfl
  have lt9_2 : bx0 < w.heap.size := hO.lt 2 rfl
  have y9_2 : ∀ o, w.frozen? ⟨bx0, o, none⟩ = false := hO.free 2 rfl
  have c9_3_0 : w.cell? ⟨bx1, 0, none⟩ = some (.int .i32 loc) := hO.cell 3 rfl 0 rfl
  have lt9_3 : bx1 < w.heap.size := hO.lt 3 rfl
  have y9_3 : ∀ o, w.frozen? ⟨bx1, o, none⟩ = false := hO.free 3 rfl
  have c9_4_0 : w.cell? ⟨bx3, 0, none⟩ = some (.pointer (some ⟨ib, 0, none⟩)) := hO.cell 4 rfl 0 rfl
  have lt9_4 : bx3 < w.heap.size := hO.lt 4 rfl
  have y9_4 : ∀ o, w.frozen? ⟨bx3, o, none⟩ = false := hO.free 4 rfl
  have c9_5_0 : w.cell? ⟨ib, 0, none⟩ = some (.int .u32 src) := hO.cell 5 rfl 0 rfl
  have c9_5_1 : w.cell? ⟨ib, 1, none⟩ = some (.int .u32 (i : Int)) := hO.cell 5 rfl 1 rfl
  have c9_5_2 : w.cell? ⟨ib, 2, none⟩ = some (.bool false) := hO.cell 5 rfl 2 rfl
  have c9_5_3 : w.cell? ⟨ib, 3, none⟩ = some (.bool false) := hO.cell 5 rfl 3 rfl
  have c9_5_4 : w.cell? ⟨ib, 4, none⟩ = some (.bool false) := hO.cell 5 rfl 4 rfl
  have lt9_5 : ib < w.heap.size := hO.lt 5 rfl
  have y9_5 : ∀ o, w.frozen? ⟨ib, o, none⟩ = false := hO.free 5 rfl
  have HO := Lib.hid hO
  clear hO
  go_wp2_with fail
  have hO := HO.out
  clear HO c9_2_0 lt9_2 y9_2 c9_3_0 lt9_3 y9_3 c9_4_0 lt9_4 y9_4 c9_5_0 c9_5_1 c9_5_2 c9_5_3 c9_5_4 lt9_5 y9_5
  generalize hW : World.alloc _ _ = W2
  have hN : Own w0 W2 [row (w.heap.size) 34 #[.nilIface, .int .i32 0], row (pb) 178 PC, row (sb) 196 C, row (bx0) 25 #[.pointer (some ⟨pb, 0, none⟩)], row (bx1) 32 #[.int .i32 loc], row (bx3) 52 #[.pointer (some ⟨ib, 0, none⟩)], row (ib) 180 #[.int .u32 src, .int .u32 (i : Int), .bool false, .bool false, .bool false]] X := by
    rw [← hW]
    exact (hO).alloc' _ (w.heap.size) (by simp)
  clear hW hO
  generalize w.heap.size = B1 at hN ⊢
  have hO := hN
  clear hN
  refine wp_region_own (e := rVI1E pb sb PC C i c src ib loc bx0 bx1 bx3 B1) (anc := rVI1Anc) (G := (fun L9 α u9 => OwnF w0 u9 (act rVI1Cnt 7 L9) (rVI1R pb sb PC C i c src ib loc bx0 bx1 bx3 B1 L9 α) X)) (by kernel_rfl) (by kernel_rfl) (by kernel_rfl) (by kernel_rfl) (rVI1_he pb sb PC C i c src ib loc bx0 bx1 bx3 B1) ?_ (RunsAll.all ?_) ?_
  · have hp : ∀ i, act rVI1Cnt 7 (fun _ => false) i → i ∈ [999, 1999, 2999, 3999, 4999, 5999, 6999] := by
      intro i hi
      have h9 : i % 1000 = 999 := by
        by_cases h : i % 1000 = 999
        · exact h
        · exact absurd (act_lt hi h) (by simp)
      unfold act at hi
      rw [if_pos h9] at hi
      simp only [List.mem_cons, List.not_mem_nil, or_false]
      omega
    refine hO.drew.family (fun i hi => ?_) (fun i j hi hj hij => ?_)
    · have := hp i hi
      simp only [List.mem_cons, List.not_mem_nil, or_false] at this
      rcases this with rfl | rfl | rfl | rfl | rfl | rfl | rfl <;> rfl
    · have h1 := hp i hi
      have h2 := hp j hj
      simp only [List.mem_cons, List.not_mem_nil, or_false] at h1 h2
      omega
  · refine ⟨?_, ?_, ?_, ?_, ?_, ?_, trivial⟩
    · intro L9 α a9 u9 K9 hL hcl hA hG hS h0 hK
      replace hL : L9 0 = false := hL
      have q0 : a9.tmps[0]? = some (.pointer (some ⟨bx0, 0, none⟩)) := (h0 0 (by kernel_rfl)).trans rfl
      have s0 := Rega.eval_of q0
      have e0 : rVI1R pb sb PC C i c src ib loc bx0 bx1 bx3 B1 L9 α 3999 = row (bx0) 25 #[.pointer (some ⟨pb, 0, none⟩)] := rfl
      have hr := hG.rowAt 3999 (act_base 3999 rfl) e0
      have c0 : u9.cell? ⟨bx0, 0, none⟩ = some (.pointer (some ⟨pb, 0, none⟩)) := hr.cell rfl
      clear hr e0
      go_simp
      exact hK _ α _ (fun _ _ => rfl) rfl (step_same (rVI1_st pb sb PC C i c src ib loc bx0 bx1 bx3 B1) hL hcl rfl rfl hG)
    · intro L9 α a9 u9 K9 hL hcl hA hG hS h0 hK
      replace hL : L9 1 = false := hL
      have q1 : a9.tmps[1]? = some (.pointer (some ⟨bx3, 0, none⟩)) := (h0 1 (by kernel_rfl)).trans rfl
      have s1 := Rega.eval_of q1
      have e0 : rVI1R pb sb PC C i c src ib loc bx0 bx1 bx3 B1 L9 α 5999 = row (bx3) 52 #[.pointer (some ⟨ib, 0, none⟩)] := rfl
      have hr := hG.rowAt 5999 (act_base 5999 rfl) e0
      have c0 : u9.cell? ⟨bx3, 0, none⟩ = some (.pointer (some ⟨ib, 0, none⟩)) := hr.cell rfl
      clear hr e0
      go_simp
      exact hK _ α _ (fun _ _ => rfl) rfl (step_same (rVI1_st pb sb PC C i c src ib loc bx0 bx1 bx3 B1) hL hcl rfl rfl hG)
    · intro L9 α a9 u9 K9 hL hcl hA hG hS h0 hK
      replace hL : L9 2 = false := hL
      have q5 : a9.tmps[5]? = some (.pointer (some ⟨ib, 0, none⟩)) := hS 1 5 (by decide) rfl (by show 5 < 19; decide)
      have s5 := Rega.eval_of q5
      go_simp
      exact hK _ α _ (fun _ _ => rfl) rfl (step_same (rVI1_st pb sb PC C i c src ib loc bx0 bx1 bx3 B1) hL hcl rfl rfl hG)
    · intro L9 α a9 u9 K9 hL hcl hA hG hS h0 hK
      replace hL : L9 3 = false := hL
      have q6 : a9.tmps[6]? = some (.pointer (some ⟨ib, 0, none⟩)) := hS 2 6 (by decide) rfl (by show 6 < 19; decide)
      have s6 := Rega.eval_of q6
      go_simp
      exact hK _ α _ (fun _ _ => rfl) rfl (step_same (rVI1_st pb sb PC C i c src ib loc bx0 bx1 bx3 B1) hL hcl rfl rfl hG)
    · intro L9 α a9 u9 K9 hL hcl hA hG hS h0 hK
      replace hL : L9 4 = false := hL
      have q7 : a9.tmps[7]? = some (.pointer (some ⟨ib, 0, none⟩)) := hS 3 7 (by decide) rfl (by show 7 < 19; decide)
      have s7 := Rega.eval_of q7
      have e0 : rVI1R pb sb PC C i c src ib loc bx0 bx1 bx3 B1 L9 α 6999 = row (ib) 180 #[.int .u32 src, .int .u32 (i : Int), .bool false, .bool false, .bool false] := rfl
      have hr := hG.rowAt 6999 (act_base 6999 rfl) e0
      have c0 : u9.cell? ⟨ib, 0, none⟩ = some (.int .u32 src) := hr.cell rfl
      have c1 : u9.cell? ⟨ib, 1, none⟩ = some (.int .u32 (i : Int)) := hr.cell rfl
      clear hr e0
      go_simp
      exact hK _ α _ (fun _ _ => rfl) rfl (step_same (rVI1_st pb sb PC C i c src ib loc bx0 bx1 bx3 B1) hL hcl rfl rfl hG)
    · intro L9 α a9 u9 K9 hL hcl hA hG hS h0 hK
      replace hL : L9 5 = false := hL
      have q4 : a9.tmps[4]? = some (.pointer (some ⟨pb, 0, none⟩)) := hS 0 4 (by decide) rfl (by show 4 < 19; decide)
      have s4 := Rega.eval_of q4
      have q8 : a9.tmps[8]? = some (.agg #[.int .u32 src, .int .u32 (i : Int)]) := hS 4 8 (by decide) rfl (by show 8 < 19; decide)
      have s8 := Rega.eval_of q8
      go_simp
      have e0 : rVI1R pb sb PC C i c src ib loc bx0 bx1 bx3 B1 L9 α 1999 = row (pb) 178 PC := rfl
      have e1 : rVI1R pb sb PC C i c src ib loc bx0 bx1 bx3 B1 L9 α 2999 = row (sb) 196 C := by
        show rVI1T2999 pb sb PC C i c src ib loc bx0 bx1 bx3 B1 L9 α = _
        unfold rVI1T2999
        rw [if_neg (by rw [hL]; decide)]
      have hM : ∀ i, i ∈ [1999, 2999] → act rVI1Cnt 7 L9 i := by
        intro i hi
        simp only [List.mem_cons, List.not_mem_nil, or_false] at hi
        rcases hi with rfl | rfl
        · exact act_base 1999 rfl
        · exact act_base 2999 rfl
      have hP : Own w0 u9 [row (pb) 178 PC, row (sb) 196 C] _ := (hG.pick [1999, 2999] (by decide) hM).conv (by
        show [rVI1R pb sb PC C i c src ib loc bx0 bx1 bx3 B1 L9 α 1999, rVI1R pb sb PC C i c src ib loc bx0 bx1 bx3 B1 L9 α 2999] = _
        rw [e0, e1])
      clear e0 e1 hM
      refine Calls.mono (usage pb sb n cap PC C i c src _ _ _ hP hR hn hi hc hcm) ?_
      rintro e9 u1 ⟨rfl, hQ⟩
      obtain ⟨α', hα'⟩ : ∃ α' : Rega.Atoms, α' = α := ⟨_, rfl⟩
      have f0 : rVI1R pb sb PC C i c src ib loc bx0 bx1 bx3 B1 (Rega.ran L9 5) α' 1999 = row (pb) 178 PC := rfl
      have f1 : rVI1R pb sb PC C i c src ib loc bx0 bx1 bx3 B1 (Rega.ran L9 5) α' 2999 = row (sb) 196 (bumped C i c) := by
        show rVI1T2999 pb sb PC C i c src ib loc bx0 bx1 bx3 B1 (Rega.ran L9 5) α' = _
        unfold rVI1T2999
        rw [if_pos (show Rega.ran L9 5 5 = true from rfl)]
      have hα : ∀ j, j % 1000 ≠ 5 → α' j = α j := fun j hj => by rw [hα']
      skip
      refine hK _ α' _ hα ?_ (step_call (rVI1_st pb sb PC C i c src ib loc bx0 bx1 bx3 B1) hL hcl hα [1999, 2999] [1999, 2999] (by decide) (by decide) (by decide) (M := _) ?_ hG hQ)
      · rfl
      · show [rVI1R pb sb PC C i c src ib loc bx0 bx1 bx3 B1 (Rega.ran L9 5) α' 1999, rVI1R pb sb PC C i c src ib loc bx0 bx1 bx3 B1 (Rega.ran L9 5) α' 2999] = _
        rw [f0, f1]
  · intro α u hG
    have e0 : rVI1R pb sb PC C i c src ib loc bx0 bx1 bx3 B1 (fun k => decide (k < 6)) α 999 = row (B1) 34 #[.nilIface, .int .i32 0] := rfl
    have e1 : rVI1R pb sb PC C i c src ib loc bx0 bx1 bx3 B1 (fun k => decide (k < 6)) α 1999 = row (pb) 178 PC := rfl
    have e2 : rVI1R pb sb PC C i c src ib loc bx0 bx1 bx3 B1 (fun k => decide (k < 6)) α 2999 = row (sb) 196 (bumped C i c) := by
      show rVI1T2999 pb sb PC C i c src ib loc bx0 bx1 bx3 B1 (fun k => decide (k < 6)) α = _
      unfold rVI1T2999
      rw [if_pos (by decide)]
    have e3 : rVI1R pb sb PC C i c src ib loc bx0 bx1 bx3 B1 (fun k => decide (k < 6)) α 3999 = row (bx0) 25 #[.pointer (some ⟨pb, 0, none⟩)] := rfl
    have e4 : rVI1R pb sb PC C i c src ib loc bx0 bx1 bx3 B1 (fun k => decide (k < 6)) α 4999 = row (bx1) 32 #[.int .i32 loc] := rfl
    have e5 : rVI1R pb sb PC C i c src ib loc bx0 bx1 bx3 B1 (fun k => decide (k < 6)) α 5999 = row (bx3) 52 #[.pointer (some ⟨ib, 0, none⟩)] := rfl
    have e6 : rVI1R pb sb PC C i c src ib loc bx0 bx1 bx3 B1 (fun k => decide (k < 6)) α 6999 = row (ib) 180 #[.int .u32 src, .int .u32 (i : Int), .bool false, .bool false, .bool false] := rfl
    have hO : Own w0 u [row (B1) 34 #[.nilIface, .int .i32 0], row (pb) 178 PC, row (sb) 196 (bumped C i c), row (bx0) 25 #[.pointer (some ⟨pb, 0, none⟩)], row (bx1) 32 #[.int .i32 loc], row (bx3) 52 #[.pointer (some ⟨ib, 0, none⟩)], row (ib) 180 #[.int .u32 src, .int .u32 (i : Int), .bool false, .bool false, .bool false]] X := (hG.list [999, 1999, 2999, 3999, 4999, 5999, 6999] (by decide) (act_all (by decide))).conv (by
      show [rVI1R pb sb PC C i c src ib loc bx0 bx1 bx3 B1 (fun k => decide (k < 6)) α 999, rVI1R pb sb PC C i c src ib loc bx0 bx1 bx3 B1 (fun k => decide (k < 6)) α 1999, rVI1R pb sb PC C i c src ib loc bx0 bx1 bx3 B1 (fun k => decide (k < 6)) α 2999, rVI1R pb sb PC C i c src ib loc bx0 bx1 bx3 B1 (fun k => decide (k < 6)) α 3999, rVI1R pb sb PC C i c src ib loc bx0 bx1 bx3 B1 (fun k => decide (k < 6)) α 4999, rVI1R pb sb PC C i c src ib loc bx0 bx1 bx3 B1 (fun k => decide (k < 6)) α 5999, rVI1R pb sb PC C i c src ib loc bx0 bx1 bx3 B1 (fun k => decide (k < 6)) α 6999] = _
      rw [e0, e1, e2, e3, e4, e5, e6])
    clear hG e0 e1 e2 e3 e4 e5 e6
    generalize hfr : Rega.frameAt _ _ _ _ _ = fr
    have hdf : fr = ⟨#[.pointer (some ⟨bx0, 0, none⟩), .pointer (some ⟨bx3, 0, none⟩), .pointer (some ⟨bx1, 0, none⟩), .pointer (some ⟨B1, 0, none⟩), .pointer (some ⟨pb, 0, none⟩), .pointer (some ⟨ib, 0, none⟩), .pointer (some ⟨ib, 0, none⟩), .pointer (some ⟨ib, 0, none⟩), .agg #[.int .u32 src, .int .u32 (i : Int)], .tuple #[], undef, undef, undef, undef, undef, undef, undef, undef, undef], []⟩ := by rw [← hfr]; kernel_rfl
    clear hfr
    subst hdf
    clear α
    have c9_0_0 : u.cell? ⟨B1, 0, none⟩ = some (.nilIface) := hO.cell 0 rfl 0 rfl
    have c9_0_1 : u.cell? ⟨B1, 1, none⟩ = some (.int .i32 0) := hO.cell 0 rfl 1 rfl
    have lt9_0 : B1 < u.heap.size := hO.lt 0 rfl
    have y9_0 : ∀ o, u.frozen? ⟨B1, o, none⟩ = false := hO.free 0 rfl
    have c9_3_0 : u.cell? ⟨bx0, 0, none⟩ = some (.pointer (some ⟨pb, 0, none⟩)) := hO.cell 3 rfl 0 rfl
    have lt9_3 : bx0 < u.heap.size := hO.lt 3 rfl
    have y9_3 : ∀ o, u.frozen? ⟨bx0, o, none⟩ = false := hO.free 3 rfl
    have c9_4_0 : u.cell? ⟨bx1, 0, none⟩ = some (.int .i32 loc) := hO.cell 4 rfl 0 rfl
    have lt9_4 : bx1 < u.heap.size := hO.lt 4 rfl
    have y9_4 : ∀ o, u.frozen? ⟨bx1, o, none⟩ = false := hO.free 4 rfl
    have c9_5_0 : u.cell? ⟨bx3, 0, none⟩ = some (.pointer (some ⟨ib, 0, none⟩)) := hO.cell 5 rfl 0 rfl
    have lt9_5 : bx3 < u.heap.size := hO.lt 5 rfl
    have y9_5 : ∀ o, u.frozen? ⟨bx3, o, none⟩ = false := hO.free 5 rfl
    have c9_6_0 : u.cell? ⟨ib, 0, none⟩ = some (.int .u32 src) := hO.cell 6 rfl 0 rfl
    have c9_6_1 : u.cell? ⟨ib, 1, none⟩ = some (.int .u32 (i : Int)) := hO.cell 6 rfl 1 rfl
    have c9_6_2 : u.cell? ⟨ib, 2, none⟩ = some (.bool false) := hO.cell 6 rfl 2 rfl
    have c9_6_3 : u.cell? ⟨ib, 3, none⟩ = some (.bool false) := hO.cell 6 rfl 3 rfl
    have c9_6_4 : u.cell? ⟨ib, 4, none⟩ = some (.bool false) := hO.cell 6 rfl 4 rfl
    have lt9_6 : ib < u.heap.size := hO.lt 6 rfl
    have y9_6 : ∀ o, u.frozen? ⟨ib, o, none⟩ = false := hO.free 6 rfl
    have HO := Lib.hid hO
    clear hO
    go_wp2_with fail
    have hO := HO.out
    clear HO c9_0_0 c9_0_1 lt9_0 y9_0 c9_3_0 lt9_3 y9_3 c9_4_0 lt9_4 y9_4 c9_5_0 lt9_5 y9_5 c9_6_0 c9_6_1 c9_6_2 c9_6_3 c9_6_4 lt9_6 y9_6
    refine wp_region_own (e := rVI2E pb sb PC C i c src ib loc bx0 bx1 bx3 B1) (anc := rVI2Anc) (G := (fun L9 α u9 => OwnF w0 u9 (act rVI2Cnt 7 L9) (rVI2R pb sb PC C i c src ib loc bx0 bx1 bx3 B1 L9 α) X)) (by kernel_rfl) (by kernel_rfl) (by kernel_rfl) (by kernel_rfl) (rVI2_he pb sb PC C i c src ib loc bx0 bx1 bx3 B1) ?_ (RunsAll.all ?_) ?_
    · have hp : ∀ i, act rVI2Cnt 7 (fun _ => false) i → i ∈ [999, 1999, 2999, 3999, 4999, 5999, 6999] := by
        intro i hi
        have h9 : i % 1000 = 999 := by
          by_cases h : i % 1000 = 999
          · exact h
          · exact absurd (act_lt hi h) (by simp)
        unfold act at hi
        rw [if_pos h9] at hi
        simp only [List.mem_cons, List.not_mem_nil, or_false]
        omega
      refine hO.drew.family (fun i hi => ?_) (fun i j hi hj hij => ?_)
      · have := hp i hi
        simp only [List.mem_cons, List.not_mem_nil, or_false] at this
        rcases this with rfl | rfl | rfl | rfl | rfl | rfl | rfl <;> rfl
      · have h1 := hp i hi
        have h2 := hp j hj
        simp only [List.mem_cons, List.not_mem_nil, or_false] at h1 h2
        omega
    · refine ⟨?_, ?_, ?_, ?_, ?_, ?_, ?_, ?_, ?_, ?_, trivial⟩
      · intro L9 α a9 u9 K9 hL hcl hA hG hS h0 hK
        replace hL : L9 0 = false := hL
        have q2 : a9.tmps[2]? = some (.pointer (some ⟨bx1, 0, none⟩)) := (h0 2 (by kernel_rfl)).trans rfl
        have s2 := Rega.eval_of q2
        have e0 : rVI2R pb sb PC C i c src ib loc bx0 bx1 bx3 B1 L9 α 4999 = row (bx1) 32 #[.int .i32 loc] := rfl
        have hr := hG.rowAt 4999 (act_base 4999 rfl) e0
        have c0 : u9.cell? ⟨bx1, 0, none⟩ = some (.int .i32 loc) := hr.cell rfl
        clear hr e0
        go_simp
        exact hK _ α _ (fun _ _ => rfl) rfl (step_same (rVI2_st pb sb PC C i c src ib loc bx0 bx1 bx3 B1) hL hcl rfl rfl hG)
      · intro L9 α a9 u9 K9 hL hcl hA hG hS h0 hK
        replace hL : L9 1 = false := hL
        have q1 : a9.tmps[1]? = some (.pointer (some ⟨bx3, 0, none⟩)) := (h0 1 (by kernel_rfl)).trans rfl
        have s1 := Rega.eval_of q1
        have e0 : rVI2R pb sb PC C i c src ib loc bx0 bx1 bx3 B1 L9 α 5999 = row (bx3) 52 #[.pointer (some ⟨ib, 0, none⟩)] := rfl
        have hr := hG.rowAt 5999 (act_base 5999 rfl) e0
        have c0 : u9.cell? ⟨bx3, 0, none⟩ = some (.pointer (some ⟨ib, 0, none⟩)) := hr.cell rfl
        clear hr e0
        go_simp
        exact hK _ α _ (fun _ _ => rfl) rfl (step_same (rVI2_st pb sb PC C i c src ib loc bx0 bx1 bx3 B1) hL hcl rfl rfl hG)
      · intro L9 α a9 u9 K9 hL hcl hA hG hS h0 hK
        replace hL : L9 2 = false := hL
        have q11 : a9.tmps[11]? = some (.pointer (some ⟨ib, 0, none⟩)) := hS 1 11 (by decide) rfl (by show 11 < 19; decide)
        have s11 := Rega.eval_of q11
        go_simp
        exact hK _ α _ (fun _ _ => rfl) rfl (step_same (rVI2_st pb sb PC C i c src ib loc bx0 bx1 bx3 B1) hL hcl rfl rfl hG)
      · intro L9 α a9 u9 K9 hL hcl hA hG hS h0 hK
        replace hL : L9 3 = false := hL
        have q12 : a9.tmps[12]? = some (.pointer (some ⟨ib, 0, none⟩)) := hS 2 12 (by decide) rfl (by show 12 < 19; decide)
        have s12 := Rega.eval_of q12
        go_simp
        exact hK _ α _ (fun _ _ => rfl) rfl (step_same (rVI2_st pb sb PC C i c src ib loc bx0 bx1 bx3 B1) hL hcl rfl rfl hG)
      · intro L9 α a9 u9 K9 hL hcl hA hG hS h0 hK
        replace hL : L9 4 = false := hL
        have q13 : a9.tmps[13]? = some (.pointer (some ⟨ib, 0, none⟩)) := hS 3 13 (by decide) rfl (by show 13 < 19; decide)
        have s13 := Rega.eval_of q13
        have e0 : rVI2R pb sb PC C i c src ib loc bx0 bx1 bx3 B1 L9 α 6999 = row (ib) 180 #[.int .u32 src, .int .u32 (i : Int), .bool false, .bool false, .bool false] := rfl
        have hr := hG.rowAt 6999 (act_base 6999 rfl) e0
        have c0 : u9.cell? ⟨ib, 0, none⟩ = some (.int .u32 src) := hr.cell rfl
        have c1 : u9.cell? ⟨ib, 1, none⟩ = some (.int .u32 (i : Int)) := hr.cell rfl
        clear hr e0
        go_simp
        exact hK _ α _ (fun _ _ => rfl) rfl (step_same (rVI2_st pb sb PC C i c src ib loc bx0 bx1 bx3 B1) hL hcl rfl rfl hG)
      · intro L9 α a9 u9 K9 hL hcl hA hG hS h0 hK
        replace hL : L9 5 = false := hL
        have q14 : a9.tmps[14]? = some (.agg #[.int .u32 src, .int .u32 (i : Int)]) := hS 4 14 (by decide) rfl (by show 14 < 19; decide)
        have s14 := Rega.eval_of q14
        go_simp
        exact hK _ α _ (fun _ _ => rfl) rfl (step_same (rVI2_st pb sb PC C i c src ib loc bx0 bx1 bx3 B1) hL hcl rfl rfl hG)
      · intro L9 α a9 u9 K9 hL hcl hA hG hS h0 hK
        replace hL : L9 6 = false := hL
        have q15 : a9.tmps[15]? = some (.agg #[.int .u32 src, .int .u32 (i : Int), .bool false, .bool false, .bool false]) := hS 5 15 (by decide) rfl (by show 15 < 19; decide)
        have s15 := Rega.eval_of q15
        go_simp
        exact hK _ (fun j => if j = 6 then u9.heap.size else α j) _ (fun j hj => if_neg (fun e => hj (by rw [e]))) rfl (step_alloc (rVI2_st pb sb PC C i c src ib loc bx0 bx1 bx3 B1) hL hcl rfl rfl (by decide) _ rfl hG)
      · intro L9 α a9 u9 K9 hL hcl hA hG hS h0 hK
        replace hL : L9 7 = false := hL
        have q16 : a9.tmps[16]? = some (.pointer (some ⟨α 6, 0, none⟩)) := hS 6 16 (by decide) rfl (by show 16 < 19; decide)
        have s16 := Rega.eval_of q16
        go_simp
        exact hK _ α _ (fun _ _ => rfl) rfl (step_same (rVI2_st pb sb PC C i c src ib loc bx0 bx1 bx3 B1) hL hcl rfl rfl hG)
      · intro L9 α a9 u9 K9 hL hcl hA hG hS h0 hK
        replace hL : L9 8 = false := hL
        have q10 : a9.tmps[10]? = some (.agg #[.int .i32 loc]) := hS 0 10 (by decide) rfl (by show 10 < 19; decide)
        have s10 := Rega.eval_of q10
        have q17 : a9.tmps[17]? = some (.iface 52 (.pointer (some ⟨α 6, 0, none⟩))) := hS 7 17 (by decide) rfl (by show 17 < 19; decide)
        have s17 := Rega.eval_of q17
        go_simp
        exact hK _ α _ (fun _ _ => rfl) rfl (step_same (rVI2_st pb sb PC C i c src ib loc bx0 bx1 bx3 B1) hL hcl rfl rfl hG)
      · intro L9 α a9 u9 K9 hL hcl hA hG hS h0 hK
        replace hL : L9 9 = false := hL
        have q3 : a9.tmps[3]? = some (.pointer (some ⟨B1, 0, none⟩)) := (h0 3 (by kernel_rfl)).trans rfl
        have s3 := Rega.eval_of q3
        have q18 : a9.tmps[18]? = some (.agg #[.iface 52 (.pointer (some ⟨α 6, 0, none⟩)), .int .i32 loc]) := hS 8 18 (by decide) rfl (by show 18 < 19; decide)
        have s18 := Rega.eval_of q18
        have e0 : rVI2R pb sb PC C i c src ib loc bx0 bx1 bx3 B1 L9 α 999 = row (B1) 34 #[.nilIface, .int .i32 0] := by
          show rVI2T999 pb sb PC C i c src ib loc bx0 bx1 bx3 B1 L9 α = _
          unfold rVI2T999
          rw [if_neg (by rw [hL]; decide)]
        have hr := hG.rowAt 999 (act_base 999 rfl) e0
        have c0 : u9.cell? ⟨B1, 0, none⟩ = some (.nilIface) := hr.cell rfl
        have y0 : u9.frozen? ⟨B1, 0, none⟩ = false := hr.free 0
        have c1 : u9.cell? ⟨B1, 1, none⟩ = some (.int .i32 0) := hr.cell rfl
        have y1 : u9.frozen? ⟨B1, 1, none⟩ = false := hr.free 1
        clear hr
        have E0 := Lib.hid e0
        clear e0
        go_simp
        have e1 : rVI2R pb sb PC C i c src ib loc bx0 bx1 bx3 B1 (Rega.ran L9 9) α 999 = row (B1) 34 #[.iface 52 (.pointer (some ⟨α 6, 0, none⟩)), .int .i32 loc] := by
          show rVI2T999 pb sb PC C i c src ib loc bx0 bx1 bx3 B1 (Rega.ran L9 9) α = _
          unfold rVI2T999
          rw [if_pos (show Rega.ran L9 9 9 = true from rfl)]
        exact hK _ α _ (fun _ _ => rfl) rfl (step_sets (rVI2_st pb sb PC C i c src ib loc bx0 bx1 bx3 B1) hL hcl rfl 999 rfl (act_base 999 rfl) E0.out 0 [.iface 52 (.pointer (some ⟨α 6, 0, none⟩)), .int .i32 loc] (e1.trans rfl) hG)
    · intro α u hG
      have e0 : rVI2R pb sb PC C i c src ib loc bx0 bx1 bx3 B1 (fun k => decide (k < 10)) α 999 = row (B1) 34 #[.iface 52 (.pointer (some ⟨α 6, 0, none⟩)), .int .i32 loc] := by
        show rVI2T999 pb sb PC C i c src ib loc bx0 bx1 bx3 B1 (fun k => decide (k < 10)) α = _
        unfold rVI2T999
        rw [if_pos (by decide)]
      have e1 : rVI2R pb sb PC C i c src ib loc bx0 bx1 bx3 B1 (fun k => decide (k < 10)) α 1999 = row (pb) 178 PC := rfl
      have e2 : rVI2R pb sb PC C i c src ib loc bx0 bx1 bx3 B1 (fun k => decide (k < 10)) α 2999 = row (sb) 196 (bumped C i c) := rfl
      have e3 : rVI2R pb sb PC C i c src ib loc bx0 bx1 bx3 B1 (fun k => decide (k < 10)) α 3999 = row (bx0) 25 #[.pointer (some ⟨pb, 0, none⟩)] := rfl
      have e4 : rVI2R pb sb PC C i c src ib loc bx0 bx1 bx3 B1 (fun k => decide (k < 10)) α 4999 = row (bx1) 32 #[.int .i32 loc] := rfl
      have e5 : rVI2R pb sb PC C i c src ib loc bx0 bx1 bx3 B1 (fun k => decide (k < 10)) α 5999 = row (bx3) 52 #[.pointer (some ⟨ib, 0, none⟩)] := rfl
      have e6 : rVI2R pb sb PC C i c src ib loc bx0 bx1 bx3 B1 (fun k => decide (k < 10)) α 6999 = row (ib) 180 #[.int .u32 src, .int .u32 (i : Int), .bool false, .bool false, .bool false] := rfl
      have e7 : rVI2R pb sb PC C i c src ib loc bx0 bx1 bx3 B1 (fun k => decide (k < 10)) α 6 = row (α 6) 180 #[.int .u32 src, .int .u32 (i : Int), .bool false, .bool false, .bool false] := rfl
      have hO : Own w0 u [row (B1) 34 #[.iface 52 (.pointer (some ⟨α 6, 0, none⟩)), .int .i32 loc], row (pb) 178 PC, row (sb) 196 (bumped C i c), row (bx0) 25 #[.pointer (some ⟨pb, 0, none⟩)], row (bx1) 32 #[.int .i32 loc], row (bx3) 52 #[.pointer (some ⟨ib, 0, none⟩)], row (ib) 180 #[.int .u32 src, .int .u32 (i : Int), .bool false, .bool false, .bool false], row (α 6) 180 #[.int .u32 src, .int .u32 (i : Int), .bool false, .bool false, .bool false]] X := (hG.list [999, 1999, 2999, 3999, 4999, 5999, 6999, 6] (by decide) (act_all (by decide))).conv (by
        show [rVI2R pb sb PC C i c src ib loc bx0 bx1 bx3 B1 (fun k => decide (k < 10)) α 999, rVI2R pb sb PC C i c src ib loc bx0 bx1 bx3 B1 (fun k => decide (k < 10)) α 1999, rVI2R pb sb PC C i c src ib loc bx0 bx1 bx3 B1 (fun k => decide (k < 10)) α 2999, rVI2R pb sb PC C i c src ib loc bx0 bx1 bx3 B1 (fun k => decide (k < 10)) α 3999, rVI2R pb sb PC C i c src ib loc bx0 bx1 bx3 B1 (fun k => decide (k < 10)) α 4999, rVI2R pb sb PC C i c src ib loc bx0 bx1 bx3 B1 (fun k => decide (k < 10)) α 5999, rVI2R pb sb PC C i c src ib loc bx0 bx1 bx3 B1 (fun k => decide (k < 10)) α 6999, rVI2R pb sb PC C i c src ib loc bx0 bx1 bx3 B1 (fun k => decide (k < 10)) α 6] = _
        rw [e0, e1, e2, e3, e4, e5, e6, e7])
      clear hG e0 e1 e2 e3 e4 e5 e6 e7
      generalize hfr : Rega.frameAt _ _ _ _ _ = fr
      have hdf : fr = ⟨#[.pointer (some ⟨bx0, 0, none⟩), .pointer (some ⟨bx3, 0, none⟩), .pointer (some ⟨bx1, 0, none⟩), .pointer (some ⟨B1, 0, none⟩), .pointer (some ⟨pb, 0, none⟩), .pointer (some ⟨ib, 0, none⟩), .pointer (some ⟨ib, 0, none⟩), .pointer (some ⟨ib, 0, none⟩), .agg #[.int .u32 src, .int .u32 (i : Int)], .tuple #[], .agg #[.int .i32 loc], .pointer (some ⟨ib, 0, none⟩), .pointer (some ⟨ib, 0, none⟩), .pointer (some ⟨ib, 0, none⟩), .agg #[.int .u32 src, .int .u32 (i : Int)], .agg #[.int .u32 src, .int .u32 (i : Int), .bool false, .bool false, .bool false], .pointer (some ⟨α 6, 0, none⟩), .iface 52 (.pointer (some ⟨α 6, 0, none⟩)), .agg #[.iface 52 (.pointer (some ⟨α 6, 0, none⟩)), .int .i32 loc]], []⟩ := by rw [← hfr]; kernel_rfl
      clear hfr
      subst hdf
      generalize α 6 = nd3 at hO ⊢
      clear α
      have c9_0_0 : u.cell? ⟨B1, 0, none⟩ = some (.iface 52 (.pointer (some ⟨nd3, 0, none⟩))) := hO.cell 0 rfl 0 rfl
      have c9_0_1 : u.cell? ⟨B1, 1, none⟩ = some (.int .i32 loc) := hO.cell 0 rfl 1 rfl
      have lt9_0 : B1 < u.heap.size := hO.lt 0 rfl
      have y9_0 : ∀ o, u.frozen? ⟨B1, o, none⟩ = false := hO.free 0 rfl
      have c9_3_0 : u.cell? ⟨bx0, 0, none⟩ = some (.pointer (some ⟨pb, 0, none⟩)) := hO.cell 3 rfl 0 rfl
      have lt9_3 : bx0 < u.heap.size := hO.lt 3 rfl
      have y9_3 : ∀ o, u.frozen? ⟨bx0, o, none⟩ = false := hO.free 3 rfl
      have c9_4_0 : u.cell? ⟨bx1, 0, none⟩ = some (.int .i32 loc) := hO.cell 4 rfl 0 rfl
      have lt9_4 : bx1 < u.heap.size := hO.lt 4 rfl
      have y9_4 : ∀ o, u.frozen? ⟨bx1, o, none⟩ = false := hO.free 4 rfl
      have c9_5_0 : u.cell? ⟨bx3, 0, none⟩ = some (.pointer (some ⟨ib, 0, none⟩)) := hO.cell 5 rfl 0 rfl
      have lt9_5 : bx3 < u.heap.size := hO.lt 5 rfl
      have y9_5 : ∀ o, u.frozen? ⟨bx3, o, none⟩ = false := hO.free 5 rfl
      have c9_6_0 : u.cell? ⟨ib, 0, none⟩ = some (.int .u32 src) := hO.cell 6 rfl 0 rfl
      have c9_6_1 : u.cell? ⟨ib, 1, none⟩ = some (.int .u32 (i : Int)) := hO.cell 6 rfl 1 rfl
      have c9_6_2 : u.cell? ⟨ib, 2, none⟩ = some (.bool false) := hO.cell 6 rfl 2 rfl
      have c9_6_3 : u.cell? ⟨ib, 3, none⟩ = some (.bool false) := hO.cell 6 rfl 3 rfl
      have c9_6_4 : u.cell? ⟨ib, 4, none⟩ = some (.bool false) := hO.cell 6 rfl 4 rfl
      have lt9_6 : ib < u.heap.size := hO.lt 6 rfl
      have y9_6 : ∀ o, u.frozen? ⟨ib, o, none⟩ = false := hO.free 6 rfl
      have c9_7_0 : u.cell? ⟨nd3, 0, none⟩ = some (.int .u32 src) := hO.cell 7 rfl 0 rfl
      have c9_7_1 : u.cell? ⟨nd3, 1, none⟩ = some (.int .u32 (i : Int)) := hO.cell 7 rfl 1 rfl
      have c9_7_2 : u.cell? ⟨nd3, 2, none⟩ = some (.bool false) := hO.cell 7 rfl 2 rfl
      have c9_7_3 : u.cell? ⟨nd3, 3, none⟩ = some (.bool false) := hO.cell 7 rfl 3 rfl
      have c9_7_4 : u.cell? ⟨nd3, 4, none⟩ = some (.bool false) := hO.cell 7 rfl 4 rfl
      have lt9_7 : nd3 < u.heap.size := hO.lt 7 rfl
      have y9_7 : ∀ o, u.frozen? ⟨nd3, o, none⟩ = false := hO.free 7 rfl
      have HO := Lib.hid hO
      clear hO
      go_wp2_with fail
      have hO := HO.out
      clear HO c9_0_0 c9_0_1 lt9_0 y9_0 c9_3_0 lt9_3 y9_3 c9_4_0 lt9_4 y9_4 c9_5_0 lt9_5 y9_5 c9_6_0 c9_6_1 c9_6_2 c9_6_3 c9_6_4 lt9_6 y9_6 c9_7_0 c9_7_1 c9_7_2 c9_7_3 c9_7_4 lt9_7 y9_7
      have z9_0_0 : u.cell? ⟨B1, 0, none⟩ = some (.iface 52 (.pointer (some ⟨nd3, 0, none⟩))) := hO.cell 0 rfl 0 rfl
      have z9_0_1 : u.cell? ⟨B1, 1, none⟩ = some (.int .i32 loc) := hO.cell 0 rfl 1 rfl
      refine bodyPost_ret (v := .agg #[.iface 52 (.pointer (some ⟨nd3, 0, none⟩)), .int .i32 loc]) ?_ rfl ⟨nd3, rfl, hO.sub [1, 2, 3, 4, 5, 6, 7] (by decide)⟩
      simp [results, Tryz.results39, go_sem, z9_0_0, z9_0_1]
def rVN1E (kv : Nat) (kb : Nat) (loc : Int) (bx1 : Nat) (bx3 : Nat) (B1 : Nat) : Nat → Rega.Atoms → Value
  | 0, α => .agg #[.int .i32 loc]
  | 1, α => .pointer (some ⟨kb, 0, none⟩)
  | 2, α => .pointer (some ⟨kb, 0, none⟩)
  | 3, α => .pointer (some ⟨kb, 0, none⟩)
  | 4, α => .float .f64 kv
  | 5, α => .agg #[.float .f64 kv]
  | 6, α => .pointer (some ⟨α 6, 0, none⟩)
  | 7, α => .iface 40 (.pointer (some ⟨α 6, 0, none⟩))
  | 8, α => .agg #[.iface 40 (.pointer (some ⟨α 6, 0, none⟩)), .int .i32 loc]
  | 9, α => undef
  | _, _ => undef
def rVN1Anc : Nat → List Nat
  | 2 => [1]
  | 3 => [1, 2]
  | 4 => [1, 2, 3]
  | 5 => [1, 2, 3, 4]
  | 6 => [1, 2, 3, 4, 5]
  | 7 => [1, 2, 3, 4, 5, 6]
  | 8 => [0, 1, 2, 3, 4, 5, 6, 7]
  | 9 => [0, 1, 2, 3, 4, 5, 6, 7, 8]
  | _ => []
def rVN1Trn : Nat → List Nat
  | 9 => [999]
  | _ => []
def rVN1Cnt : List (Nat × Nat) := [(6, 1)]
def rVN1T999 (kv : Nat) (kb : Nat) (loc : Int) (bx1 : Nat) (bx3 : Nat) (B1 : Nat) (L9 : Nat → Bool) (α : Rega.Atoms) : Rw := if L9 9 = true then row (B1) 34 #[.iface 40 (.pointer (some ⟨α 6, 0, none⟩)), .int .i32 loc] else row (B1) 34 #[.nilIface, .int .i32 0]
def rVN1R (kv : Nat) (kb : Nat) (loc : Int) (bx1 : Nat) (bx3 : Nat) (B1 : Nat) (L9 : Nat → Bool) (α : Rega.Atoms) (ix9 : Nat) : Rw := if ix9 = 999 then rVN1T999 kv kb loc bx1 bx3 B1 L9 α else if ix9 = 1999 then row (bx1) 32 #[.int .i32 loc] else if ix9 = 2999 then row (bx3) 40 #[.pointer (some ⟨kb, 0, none⟩)] else if ix9 = 3999 then row (kb) 182 #[.float .f64 kv] else if ix9 = 6 then row (α 6) 182 #[.float .f64 kv] else (0, .map #[] 0)
theorem rVN1_he (kv : Nat) (kb : Nat) (loc : Int) (bx1 : Nat) (bx3 : Nat) (B1 : Nat) : ∀ kk α α', (∀ j, (j % 1000 = kk ∨ j % 1000 ∈ rVN1Anc kk) → α j = α' j) → rVN1E kv kb loc bx1 bx3 B1 kk α = rVN1E kv kb loc bx1 bx3 B1 kk α' := by
  intro kk α α' h
  match kk with
  | 0 => rfl
  | 1 => rfl
  | 2 => rfl
  | 3 => rfl
  | 4 => rfl
  | 5 => rfl
  | 6 => simp only [rVN1E, h 6 (Or.inl rfl)]
  | 7 => simp only [rVN1E, h 6 (Or.inr (by decide))]
  | 8 => simp only [rVN1E, h 6 (Or.inr (by decide))]
  | 9 => rfl
  | n + 10 => rfl
theorem rVN1_st (kv : Nat) (kb : Nat) (loc : Int) (bx1 : Nat) (bx3 : Nat) (B1 : Nat) : Stable rVN1Cnt 4 rVN1Anc rVN1Trn (rVN1R kv kb loc bx1 bx3 B1) := by
  intro k9 L9 α α' ix9 hk hcl hα hact ht
  have hp := act_places hact
  replace hp : ix9 ∈ [999, 1999, 2999, 3999, 6] := hp
  simp only [List.mem_cons, List.not_mem_nil, or_false] at hp
  rcases hp with rfl | rfl | rfl | rfl | rfl
  · show rVN1T999 kv kb loc bx1 bx3 B1 (Rega.ran L9 k9) α' = rVN1T999 kv kb loc bx1 bx3 B1 L9 α
    unfold rVN1T999
    have n9 : 9 ≠ k9 := fun e => ht (by rw [← e]; decide)
    rw [ran_ne n9]
    by_cases e9 : L9 9 = true
    · first | rw [if_pos e9, if_pos e9] | rw [if_pos e9]
      try simp only [hα 6 (ne_ran hk (hcl 9 e9 6 (by decide)))]
    first | rw [if_neg e9, if_neg e9] | rw [if_neg e9]
  · rfl
  · rfl
  · rfl
  · have e0 : L9 6 = true := act_lt hact (by decide)
    show row (α' 6) 182 #[.float .f64 kv] = row (α 6) 182 #[.float .f64 kv]
    simp only [hα 6 (ne_ran hk e0)]
def capGetNPost (kv kb : Nat) (loc : Int) (bx1 bx3 : Nat) (w0 : World) (X : Nat → Obj → Prop) (e : Ending) (w' : World) : Prop :=
  ∃ b9 : Nat, e = .returned (.agg #[.iface 40 (.pointer (some ⟨b9, 0, none⟩)), .int .i32 loc]) ∧ Own w0 w' [row (bx1) 32 #[.int .i32 loc], row (bx3) 40 #[.pointer (some ⟨kb, 0, none⟩)], row (kb) 182 #[.float .f64 kv], row (b9) 182 #[.float .f64 kv]] X
set_option maxRecDepth 100000 in
set_option maxHeartbeats 1000000 in
theorem capGetN (kv kb : Nat) (loc : Int) (bx1 bx3 : Nat) (w0 w : World) (X : Nat → Obj → Prop) (hO : Own w0 w [row (bx1) 32 #[.int .i32 loc], row (bx3) 40 #[.pointer (some ⟨kb, 0, none⟩)], row (kb) 182 #[.float .f64 kv]] X)  :
    Calls Tryz.prog 35 #[.pointer (some ⟨bx1, 0, none⟩), .pointer (some ⟨bx3, 0, none⟩)] w (capGetNPost kv kb loc bx1 bx3 w0 X) := by
  go_enter Tryz.func35, Tryz.ntmps35
  have c9_0_0 : w.cell? ⟨bx1, 0, none⟩ = some (.int .i32 loc) := hO.cell 0 rfl 0 rfl
  have lt9_0 : bx1 < w.heap.size := hO.lt 0 rfl
  have y9_0 : ∀ o, w.frozen? ⟨bx1, o, none⟩ = false := hO.free 0 rfl
  have c9_1_0 : w.cell? ⟨bx3, 0, none⟩ = some (.pointer (some ⟨kb, 0, none⟩)) := hO.cell 1 rfl 0 rfl
  have lt9_1 : bx3 < w.heap.size := hO.lt 1 rfl
  have y9_1 : ∀ o, w.frozen? ⟨bx3, o, none⟩ = false := hO.free 1 rfl
  have c9_2_0 : w.cell? ⟨kb, 0, none⟩ = some (.float .f64 kv) := hO.cell 2 rfl 0 rfl
  have lt9_2 : kb < w.heap.size := hO.lt 2 rfl
  have y9_2 : ∀ o, w.frozen? ⟨kb, o, none⟩ = false := hO.free 2 rfl
  have HO := Lib.hid hO
  clear hO
  go_wp2_with fail
  have hO := HO.out
  clear HO c9_0_0 lt9_0 y9_0 c9_1_0 lt9_1 y9_1 c9_2_0 lt9_2 y9_2
  generalize hW : World.alloc _ _ = W2
  have hN : Own w0 W2 [row (w.heap.size) 34 #[.nilIface, .int .i32 0], row (bx1) 32 #[.int .i32 loc], row (bx3) 40 #[.pointer (some ⟨kb, 0, none⟩)], row (kb) 182 #[.float .f64 kv]] X := by
    rw [← hW]
    exact (hO).alloc' _ (w.heap.size) (by simp)
  clear hW hO
  generalize w.heap.size = B1 at hN ⊢
  have hO := hN
  clear hN
  refine wp_region_own (e := rVN1E kv kb loc bx1 bx3 B1) (anc := rVN1Anc) (G := (fun L9 α u9 => OwnF w0 u9 (act rVN1Cnt 4 L9) (rVN1R kv kb loc bx1 bx3 B1 L9 α) X)) (by kernel_rfl) (by kernel_rfl) (by kernel_rfl) (by kernel_rfl) (rVN1_he kv kb loc bx1 bx3 B1) ?_ (RunsAll.all ?_) ?_
  · have hp : ∀ i, act rVN1Cnt 4 (fun _ => false) i → i ∈ [999, 1999, 2999, 3999] := by
      intro i hi
      have h9 : i % 1000 = 999 := by
        by_cases h : i % 1000 = 999
        · exact h
        · exact absurd (act_lt hi h) (by simp)
      unfold act at hi
      rw [if_pos h9] at hi
      simp only [List.mem_cons, List.not_mem_nil, or_false]
      omega
    refine hO.drew.family (fun i hi => ?_) (fun i j hi hj hij => ?_)
    · have := hp i hi
      simp only [List.mem_cons, List.not_mem_nil, or_false] at this
      rcases this with rfl | rfl | rfl | rfl <;> rfl
    · have h1 := hp i hi
      have h2 := hp j hj
      simp only [List.mem_cons, List.not_mem_nil, or_false] at h1 h2
      omega
  · refine ⟨?_, ?_, ?_, ?_, ?_, ?_, ?_, ?_, ?_, ?_, trivial⟩
    · intro L9 α a9 u9 K9 hL hcl hA hG hS h0 hK
      replace hL : L9 0 = false := hL
      have q0 : a9.tmps[0]? = some (.pointer (some ⟨bx1, 0, none⟩)) := (h0 0 (by kernel_rfl)).trans rfl
      have s0 := Rega.eval_of q0
      have e0 : rVN1R kv kb loc bx1 bx3 B1 L9 α 1999 = row (bx1) 32 #[.int .i32 loc] := rfl
      have hr := hG.rowAt 1999 (act_base 1999 rfl) e0
      have c0 : u9.cell? ⟨bx1, 0, none⟩ = some (.int .i32 loc) := hr.cell rfl
      clear hr e0
      go_simp
      exact hK _ α _ (fun _ _ => rfl) rfl (step_same (rVN1_st kv kb loc bx1 bx3 B1) hL hcl rfl rfl hG)
    · intro L9 α a9 u9 K9 hL hcl hA hG hS h0 hK
      replace hL : L9 1 = false := hL
      have q1 : a9.tmps[1]? = some (.pointer (some ⟨bx3, 0, none⟩)) := (h0 1 (by kernel_rfl)).trans rfl
      have s1 := Rega.eval_of q1
      have e0 : rVN1R kv kb loc bx1 bx3 B1 L9 α 2999 = row (bx3) 40 #[.pointer (some ⟨kb, 0, none⟩)] := rfl
      have hr := hG.rowAt 2999 (act_base 2999 rfl) e0
      have c0 : u9.cell? ⟨bx3, 0, none⟩ = some (.pointer (some ⟨kb, 0, none⟩)) := hr.cell rfl
      clear hr e0
      go_simp
      exact hK _ α _ (fun _ _ => rfl) rfl (step_same (rVN1_st kv kb loc bx1 bx3 B1) hL hcl rfl rfl hG)
    · intro L9 α a9 u9 K9 hL hcl hA hG hS h0 hK
      replace hL : L9 2 = false := hL
      have q4 : a9.tmps[4]? = some (.pointer (some ⟨kb, 0, none⟩)) := hS 1 4 (by decide) rfl (by show 4 < 12; decide)
      have s4 := Rega.eval_of q4
      go_simp
      exact hK _ α _ (fun _ _ => rfl) rfl (step_same (rVN1_st kv kb loc bx1 bx3 B1) hL hcl rfl rfl hG)
    · intro L9 α a9 u9 K9 hL hcl hA hG hS h0 hK
      replace hL : L9 3 = false := hL
      have q5 : a9.tmps[5]? = some (.pointer (some ⟨kb, 0, none⟩)) := hS 2 5 (by decide) rfl (by show 5 < 12; decide)
      have s5 := Rega.eval_of q5
      go_simp
      exact hK _ α _ (fun _ _ => rfl) rfl (step_same (rVN1_st kv kb loc bx1 bx3 B1) hL hcl rfl rfl hG)
    · intro L9 α a9 u9 K9 hL hcl hA hG hS h0 hK
      replace hL : L9 4 = false := hL
      have q6 : a9.tmps[6]? = some (.pointer (some ⟨kb, 0, none⟩)) := hS 3 6 (by decide) rfl (by show 6 < 12; decide)
      have s6 := Rega.eval_of q6
      have e0 : rVN1R kv kb loc bx1 bx3 B1 L9 α 3999 = row (kb) 182 #[.float .f64 kv] := rfl
      have hr := hG.rowAt 3999 (act_base 3999 rfl) e0
      have c0 : u9.cell? ⟨kb, 0, none⟩ = some (.float .f64 kv) := hr.cell rfl
      clear hr e0
      go_simp
      exact hK _ α _ (fun _ _ => rfl) rfl (step_same (rVN1_st kv kb loc bx1 bx3 B1) hL hcl rfl rfl hG)
    · intro L9 α a9 u9 K9 hL hcl hA hG hS h0 hK
      replace hL : L9 5 = false := hL
      have q7 : a9.tmps[7]? = some (.float .f64 kv) := hS 4 7 (by decide) rfl (by show 7 < 12; decide)
      have s7 := Rega.eval_of q7
      go_simp
      exact hK _ α _ (fun _ _ => rfl) rfl (step_same (rVN1_st kv kb loc bx1 bx3 B1) hL hcl rfl rfl hG)
    · intro L9 α a9 u9 K9 hL hcl hA hG hS h0 hK
      replace hL : L9 6 = false := hL
      have q8 : a9.tmps[8]? = some (.agg #[.float .f64 kv]) := hS 5 8 (by decide) rfl (by show 8 < 12; decide)
      have s8 := Rega.eval_of q8
      go_simp
      exact hK _ (fun j => if j = 6 then u9.heap.size else α j) _ (fun j hj => if_neg (fun e => hj (by rw [e]))) rfl (step_alloc (rVN1_st kv kb loc bx1 bx3 B1) hL hcl rfl rfl (by decide) _ rfl hG)
    · intro L9 α a9 u9 K9 hL hcl hA hG hS h0 hK
      replace hL : L9 7 = false := hL
      have q9 : a9.tmps[9]? = some (.pointer (some ⟨α 6, 0, none⟩)) := hS 6 9 (by decide) rfl (by show 9 < 12; decide)
      have s9 := Rega.eval_of q9
      go_simp
      exact hK _ α _ (fun _ _ => rfl) rfl (step_same (rVN1_st kv kb loc bx1 bx3 B1) hL hcl rfl rfl hG)
    · intro L9 α a9 u9 K9 hL hcl hA hG hS h0 hK
      replace hL : L9 8 = false := hL
      have q3 : a9.tmps[3]? = some (.agg #[.int .i32 loc]) := hS 0 3 (by decide) rfl (by show 3 < 12; decide)
      have s3 := Rega.eval_of q3
      have q10 : a9.tmps[10]? = some (.iface 40 (.pointer (some ⟨α 6, 0, none⟩))) := hS 7 10 (by decide) rfl (by show 10 < 12; decide)
      have s10 := Rega.eval_of q10
      go_simp
      exact hK _ α _ (fun _ _ => rfl) rfl (step_same (rVN1_st kv kb loc bx1 bx3 B1) hL hcl rfl rfl hG)
    · intro L9 α a9 u9 K9 hL hcl hA hG hS h0 hK
      replace hL : L9 9 = false := hL
      have q2 : a9.tmps[2]? = some (.pointer (some ⟨B1, 0, none⟩)) := (h0 2 (by kernel_rfl)).trans rfl
      have s2 := Rega.eval_of q2
      have q11 : a9.tmps[11]? = some (.agg #[.iface 40 (.pointer (some ⟨α 6, 0, none⟩)), .int .i32 loc]) := hS 8 11 (by decide) rfl (by show 11 < 12; decide)
      have s11 := Rega.eval_of q11
      have e0 : rVN1R kv kb loc bx1 bx3 B1 L9 α 999 = row (B1) 34 #[.nilIface, .int .i32 0] := by
        show rVN1T999 kv kb loc bx1 bx3 B1 L9 α = _
        unfold rVN1T999
        rw [if_neg (by rw [hL]; decide)]
      have hr := hG.rowAt 999 (act_base 999 rfl) e0
      have c0 : u9.cell? ⟨B1, 0, none⟩ = some (.nilIface) := hr.cell rfl
      have y0 : u9.frozen? ⟨B1, 0, none⟩ = false := hr.free 0
      have c1 : u9.cell? ⟨B1, 1, none⟩ = some (.int .i32 0) := hr.cell rfl
      have y1 : u9.frozen? ⟨B1, 1, none⟩ = false := hr.free 1
      clear hr
      have E0 := Lib.hid e0
      clear e0
      go_simp
      have e1 : rVN1R kv kb loc bx1 bx3 B1 (Rega.ran L9 9) α 999 = row (B1) 34 #[.iface 40 (.pointer (some ⟨α 6, 0, none⟩)), .int .i32 loc] := by
        show rVN1T999 kv kb loc bx1 bx3 B1 (Rega.ran L9 9) α = _
        unfold rVN1T999
        rw [if_pos (show Rega.ran L9 9 9 = true from rfl)]
      exact hK _ α _ (fun _ _ => rfl) rfl (step_sets (rVN1_st kv kb loc bx1 bx3 B1) hL hcl rfl 999 rfl (act_base 999 rfl) E0.out 0 [.iface 40 (.pointer (some ⟨α 6, 0, none⟩)), .int .i32 loc] (e1.trans rfl) hG)
  · intro α u hG
    have e0 : rVN1R kv kb loc bx1 bx3 B1 (fun k => decide (k < 10)) α 999 = row (B1) 34 #[.iface 40 (.pointer (some ⟨α 6, 0, none⟩)), .int .i32 loc] := by
      show rVN1T999 kv kb loc bx1 bx3 B1 (fun k => decide (k < 10)) α = _
      unfold rVN1T999
      rw [if_pos (by decide)]
    have e1 : rVN1R kv kb loc bx1 bx3 B1 (fun k => decide (k < 10)) α 1999 = row (bx1) 32 #[.int .i32 loc] := rfl
    have e2 : rVN1R kv kb loc bx1 bx3 B1 (fun k => decide (k < 10)) α 2999 = row (bx3) 40 #[.pointer (some ⟨kb, 0, none⟩)] := rfl
    have e3 : rVN1R kv kb loc bx1 bx3 B1 (fun k => decide (k < 10)) α 3999 = row (kb) 182 #[.float .f64 kv] := rfl
    have e4 : rVN1R kv kb loc bx1 bx3 B1 (fun k => decide (k < 10)) α 6 = row (α 6) 182 #[.float .f64 kv] := rfl
    have hO : Own w0 u [row (B1) 34 #[.iface 40 (.pointer (some ⟨α 6, 0, none⟩)), .int .i32 loc], row (bx1) 32 #[.int .i32 loc], row (bx3) 40 #[.pointer (some ⟨kb, 0, none⟩)], row (kb) 182 #[.float .f64 kv], row (α 6) 182 #[.float .f64 kv]] X := (hG.list [999, 1999, 2999, 3999, 6] (by decide) (act_all (by decide))).conv (by
      show [rVN1R kv kb loc bx1 bx3 B1 (fun k => decide (k < 10)) α 999, rVN1R kv kb loc bx1 bx3 B1 (fun k => decide (k < 10)) α 1999, rVN1R kv kb loc bx1 bx3 B1 (fun k => decide (k < 10)) α 2999, rVN1R kv kb loc bx1 bx3 B1 (fun k => decide (k < 10)) α 3999, rVN1R kv kb loc bx1 bx3 B1 (fun k => decide (k < 10)) α 6] = _
      rw [e0, e1, e2, e3, e4])
    clear hG e0 e1 e2 e3 e4
    generalize hfr : Rega.frameAt _ _ _ _ _ = fr
    have hdf : fr = ⟨#[.pointer (some ⟨bx1, 0, none⟩), .pointer (some ⟨bx3, 0, none⟩), .pointer (some ⟨B1, 0, none⟩), .agg #[.int .i32 loc], .pointer (some ⟨kb, 0, none⟩), .pointer (some ⟨kb, 0, none⟩), .pointer (some ⟨kb, 0, none⟩), .float .f64 kv, .agg #[.float .f64 kv], .pointer (some ⟨α 6, 0, none⟩), .iface 40 (.pointer (some ⟨α 6, 0, none⟩)), .agg #[.iface 40 (.pointer (some ⟨α 6, 0, none⟩)), .int .i32 loc]], []⟩ := by rw [← hfr]; kernel_rfl
    clear hfr
    subst hdf
    generalize α 6 = nd3 at hO ⊢
    clear α
    have c9_0_0 : u.cell? ⟨B1, 0, none⟩ = some (.iface 40 (.pointer (some ⟨nd3, 0, none⟩))) := hO.cell 0 rfl 0 rfl
    have c9_0_1 : u.cell? ⟨B1, 1, none⟩ = some (.int .i32 loc) := hO.cell 0 rfl 1 rfl
    have lt9_0 : B1 < u.heap.size := hO.lt 0 rfl
    have y9_0 : ∀ o, u.frozen? ⟨B1, o, none⟩ = false := hO.free 0 rfl
    have c9_1_0 : u.cell? ⟨bx1, 0, none⟩ = some (.int .i32 loc) := hO.cell 1 rfl 0 rfl
    have lt9_1 : bx1 < u.heap.size := hO.lt 1 rfl
    have y9_1 : ∀ o, u.frozen? ⟨bx1, o, none⟩ = false := hO.free 1 rfl
    have c9_2_0 : u.cell? ⟨bx3, 0, none⟩ = some (.pointer (some ⟨kb, 0, none⟩)) := hO.cell 2 rfl 0 rfl
    have lt9_2 : bx3 < u.heap.size := hO.lt 2 rfl
    have y9_2 : ∀ o, u.frozen? ⟨bx3, o, none⟩ = false := hO.free 2 rfl
    have c9_3_0 : u.cell? ⟨kb, 0, none⟩ = some (.float .f64 kv) := hO.cell 3 rfl 0 rfl
    have lt9_3 : kb < u.heap.size := hO.lt 3 rfl
    have y9_3 : ∀ o, u.frozen? ⟨kb, o, none⟩ = false := hO.free 3 rfl
    have c9_4_0 : u.cell? ⟨nd3, 0, none⟩ = some (.float .f64 kv) := hO.cell 4 rfl 0 rfl
    have lt9_4 : nd3 < u.heap.size := hO.lt 4 rfl
    have y9_4 : ∀ o, u.frozen? ⟨nd3, o, none⟩ = false := hO.free 4 rfl
    have HO := Lib.hid hO
    clear hO
    go_wp2_with fail
    have hO := HO.out
    clear HO c9_0_0 c9_0_1 lt9_0 y9_0 c9_1_0 lt9_1 y9_1 c9_2_0 lt9_2 y9_2 c9_3_0 lt9_3 y9_3 c9_4_0 lt9_4 y9_4
    have z9_0_0 : u.cell? ⟨B1, 0, none⟩ = some (.iface 40 (.pointer (some ⟨nd3, 0, none⟩))) := hO.cell 0 rfl 0 rfl
    have z9_0_1 : u.cell? ⟨B1, 1, none⟩ = some (.int .i32 loc) := hO.cell 0 rfl 1 rfl
    refine bodyPost_ret (v := .agg #[.iface 40 (.pointer (some ⟨nd3, 0, none⟩)), .int .i32 loc]) ?_ rfl ⟨nd3, rfl, hO.sub [1, 2, 3, 4] (by decide)⟩
    simp [results, Tryz.results35, go_sem, z9_0_0, z9_0_1]
def capWrapPost (T x : Nat) (l : Int) (bx2 : Nat) (w0 : World) (X : Nat → Obj → Prop) (e : Ending) (w' : World) : Prop :=
  e = .returned (.agg #[.iface T (.pointer (some ⟨x, 0, none⟩)), .int .i32 l]) ∧ Own w0 w' [] X
set_option maxRecDepth 100000 in
set_option maxHeartbeats 1000000 in
theorem capWrap (T x : Nat) (l : Int) (bx2 : Nat) (w0 w : World) (X : Nat → Obj → Prop) (hO : Own w0 w [] X)  :
    Calls Tryz.prog 30 #[.agg #[.iface T (.pointer (some ⟨x, 0, none⟩)), .int .i32 l], .pointer (some ⟨bx2, 0, none⟩)] w (capWrapPost T x l bx2 w0 X) := by
  go_enter Tryz.func30, Tryz.ntmps30
  go_wp2_with fail
  generalize hW : World.alloc _ _ = W2
  have hN : Own w0 W2 [row (w.heap.size + 1) 34 #[.iface T (.pointer (some ⟨x, 0, none⟩)), .int .i32 l], row (w.heap.size) 34 #[.iface T (.pointer (some ⟨x, 0, none⟩)), .int .i32 l]] X := by
    rw [← hW]
    exact ((hO).alloc' _ (w.heap.size) (by simp)).alloc' _ (w.heap.size + 1) (by simp)
  clear hW hO
  generalize w.heap.size + 1 = B1_1 at hN ⊢
  generalize w.heap.size = B1 at hN ⊢
  have hO := hN
  clear hN
  have z9_0_0 : W2.cell? ⟨B1_1, 0, none⟩ = some (.iface T (.pointer (some ⟨x, 0, none⟩))) := hO.cell 0 rfl 0 rfl
  have z9_0_1 : W2.cell? ⟨B1_1, 1, none⟩ = some (.int .i32 l) := hO.cell 0 rfl 1 rfl
  refine bodyPost_ret (v := .agg #[.iface T (.pointer (some ⟨x, 0, none⟩)), .int .i32 l]) ?_ rfl ⟨rfl, hO.sub [] (by decide)⟩
  simp [results, Tryz.results30, go_sem, z9_0_0, z9_0_1]
def assignOPost (T1 x1 : Nat) (l1 : Int) (T2 x2 : Nat) (l2 : Int) (w0 : World) (X : Nat → Obj → Prop) (e : Ending) (w' : World) : Prop :=
  ∃ ab : Nat, e = .returned (.agg #[.iface 42 (.pointer (some ⟨ab, 0, none⟩)), .int .i32 l1]) ∧ Own w0 w' [row (ab) 45 #[.iface T1 (.pointer (some ⟨x1, 0, none⟩)), .int .i32 l1, .iface T2 (.pointer (some ⟨x2, 0, none⟩)), .int .i32 l2, .int .u8 37, .bool false]] X
set_option maxRecDepth 100000 in
set_option maxHeartbeats 1000000 in
theorem assignO (T1 x1 : Nat) (l1 : Int) (T2 x2 : Nat) (l2 : Int) (w0 w : World) (X : Nat → Obj → Prop) (hO : Own w0 w [] X)  :
    Calls Tryz.prog 28 #[.agg #[.iface T1 (.pointer (some ⟨x1, 0, none⟩)), .int .i32 l1], .agg #[.iface T2 (.pointer (some ⟨x2, 0, none⟩)), .int .i32 l2]] w (assignOPost T1 x1 l1 T2 x2 l2 w0 X) := by
  go_enter Tryz.func28, Tryz.ntmps28
  go_wp2_with fail
  generalize hW : World.alloc _ _ = W2
  have hN : Own w0 W2 [row (w.heap.size + 1 + 1 + 1) 45 #[.iface T1 (.pointer (some ⟨x1, 0, none⟩)), .int .i32 l1, .iface T2 (.pointer (some ⟨x2, 0, none⟩)), .int .i32 l2, .int .u8 37, .bool false], row (w.heap.size + 1 + 1) 34 #[.iface 42 (.pointer (some ⟨w.heap.size + 1 + 1 + 1, 0, none⟩)), .int .i32 l1], row (w.heap.size + 1) 34 #[.iface T2 (.pointer (some ⟨x2, 0, none⟩)), .int .i32 l2], row (w.heap.size) 34 #[.iface T1 (.pointer (some ⟨x1, 0, none⟩)), .int .i32 l1]] X := by
    rw [← hW]
    exact ((((hO).alloc' _ (w.heap.size) (by simp)).alloc' _ (w.heap.size + 1) (by simp)).alloc' _ (w.heap.size + 1 + 1) (by simp)).alloc' _ (w.heap.size + 1 + 1 + 1) (by simp)
  clear hW hO
  generalize w.heap.size + 1 + 1 + 1 = B1_3 at hN ⊢
  generalize w.heap.size + 1 + 1 = B1_2 at hN ⊢
  generalize w.heap.size + 1 = B1_1 at hN ⊢
  generalize w.heap.size = B1 at hN ⊢
  have hO := hN
  clear hN
  have z9_1_0 : W2.cell? ⟨B1_2, 0, none⟩ = some (.iface 42 (.pointer (some ⟨B1_3, 0, none⟩))) := hO.cell 1 rfl 0 rfl
  have z9_1_1 : W2.cell? ⟨B1_2, 1, none⟩ = some (.int .i32 l1) := hO.cell 1 rfl 1 rfl
  refine bodyPost_ret (v := .agg #[.iface 42 (.pointer (some ⟨B1_3, 0, none⟩)), .int .i32 l1]) ?_ rfl ⟨B1_3, rfl, hO.sub [0] (by decide)⟩
  simp [results, Tryz.results28, go_sem, z9_1_0, z9_1_1]
end Go.Proofs.YtlgefnjkoklboaaGreatDoor.Use
