/- A super property lowered. No condition. -/
import Derived.Test.YtcbdjbjbikiaeaaDoorOwnK
import Derived.Test.YtcbdjbjbikiaeaaDoorOwn
import Derived.Test.YtcbdjbjbikiaeaaDoorDeepCells
import Derived.Test.YtcbdjbjbikiaeaaDoorRows
import Derived.Test.YtcbdjbjbikiaeaaDoorDead
namespace Go.Proofs.YtcbdjbjbikiaeaaDoor.Use
open Go.ChangeShapes Go.WideShapes Go.ChangeAt Go.RowKit Go.Sort Own
set_option linter.unusedVariables false
def rWrap012E (pb : Nat) (PC : Array Value) (mp : Nat) (loc : Int) (kT : Nat) (kx : Nat) (kl : Int) (B1_2 : Nat) (B1_1 : Nat) (B1 : Nat) (B4_3 : Nat) (B4_2 : Nat) (B4_1 : Nat) (B4 : Nat) : Nat → Rega.Atoms → Value
  | 0, α => .agg #[.int .i32 loc]
  | 1, α => .pointer (some ⟨pb, 0, none⟩)
  | 2, α => .agg #[.int .i32 loc]
  | 3, α => .agg #[.iface 220 (.pointer (some ⟨B4, 0, none⟩)), .int .i32 loc]
  | 4, α => .agg #[.iface 247 (.pointer (some ⟨B4_2, 0, none⟩)), .int .i32 loc]
  | 5, α => .agg #[.iface kT (.pointer (some ⟨kx, 0, none⟩)), .int .i32 kl]
  | 6, α => .slice (some ⟨α 6, 0, none⟩) 3 3
  | 7, α => .agg #[.iface 52 (.pointer (some ⟨α 7, 0, none⟩)), .int .i32 loc]
  | 8, α => .agg #[.int .i32 loc]
  | 9, α => .agg #[.iface 52 (.pointer (some ⟨α 7, 0, none⟩)), .int .i32 loc, .string ⟨#[95]⟩, .int .i32 loc, .int .u8 0, .bool false, .bool false, .bool false]
  | 10, α => .pointer (some ⟨α 10, 0, none⟩)
  | 11, α => .iface 40 (.pointer (some ⟨α 10, 0, none⟩))
  | 12, α => .agg #[.iface 40 (.pointer (some ⟨α 10, 0, none⟩)), .int .i32 loc]
  | 13, α => undef
  | _, _ => undef
def rWrap012Anc : Nat → List Nat
  | 6 => [3, 4, 5]
  | 7 => [1, 2, 3, 4, 5, 6]
  | 9 => [1, 2, 3, 4, 5, 6, 7, 8]
  | 10 => [1, 2, 3, 4, 5, 6, 7, 8, 9]
  | 11 => [1, 2, 3, 4, 5, 6, 7, 8, 9, 10]
  | 12 => [0, 1, 2, 3, 4, 5, 6, 7, 8, 9, 10, 11]
  | 13 => [0, 1, 2, 3, 4, 5, 6, 7, 8, 9, 10, 11, 12]
  | _ => []
def rWrap012Trn : Nat → List Nat
  | 13 => [3999]
  | _ => []
def rWrap012Cnt : List (Nat × Nat) := [(6, 1), (7, 2), (10, 1)]
def rWrap012T3999 (pb : Nat) (PC : Array Value) (mp : Nat) (loc : Int) (kT : Nat) (kx : Nat) (kl : Int) (B1_2 : Nat) (B1_1 : Nat) (B1 : Nat) (B4_3 : Nat) (B4_2 : Nat) (B4_1 : Nat) (B4 : Nat) (L9 : Nat → Bool) (α : Rega.Atoms) : Rw := if L9 13 = true then row (B1_2) 30 #[.iface 40 (.pointer (some ⟨α 10, 0, none⟩)), .int .i32 loc] else row (B1_2) 30 #[.nilIface, .int .i32 0]
def rWrap012R (pb : Nat) (PC : Array Value) (mp : Nat) (loc : Int) (kT : Nat) (kx : Nat) (kl : Int) (B1_2 : Nat) (B1_1 : Nat) (B1 : Nat) (B4_3 : Nat) (B4_2 : Nat) (B4_1 : Nat) (B4 : Nat) (L9 : Nat → Bool) (α : Rega.Atoms) (ix9 : Nat) : Rw := if ix9 = 999 then row (B4_3) 30 #[.iface 247 (.pointer (some ⟨B4_2, 0, none⟩)), .int .i32 loc] else if ix9 = 1999 then row (B4_1) 30 #[.iface 220 (.pointer (some ⟨B4, 0, none⟩)), .int .i32 loc] else if ix9 = 2999 then row (pb) 206 PC else if ix9 = 3999 then rWrap012T3999 pb PC mp loc kT kx kl B1_2 B1_1 B1 B4_3 B4_2 B4_1 B4 L9 α else if ix9 = 4999 then row (B1_1) 30 #[.iface kT (.pointer (some ⟨kx, 0, none⟩)), .int .i32 kl] else if ix9 = 5999 then row (B1) 28 #[.int .i32 loc] else if ix9 = 6999 then ((mp, .map #[⟨.string ⟨#[95, 95, 115, 117, 112, 101, 114, 87, 114, 97, 112, 112, 101, 114]⟩, .agg #[.int .i32 0, .int .u32 0, .int .u32 2], 0⟩, ⟨.string ⟨#[95, 95, 115, 117, 112, 101, 114, 71, 101, 116]⟩, .agg #[.int .i32 0, .int .u32 0, .int .u32 3], 1⟩, ⟨.string ⟨#[95, 95, 112, 114, 105, 118, 97, 116, 101, 87, 114, 97, 112, 112, 101, 114]⟩, .agg #[.int .i32 0, .int .u32 0, .int .u32 4], 2⟩] 3) : Rw) else if ix9 = 6 then row (α 6) 30 #[.iface 220 (.pointer (some ⟨B4, 0, none⟩)), .int .i32 loc, .iface 247 (.pointer (some ⟨B4_2, 0, none⟩)), .int .i32 loc, .iface kT (.pointer (some ⟨kx, 0, none⟩)), .int .i32 kl] else if ix9 = 7 then row (α 7) 56 #[.iface 220 (.pointer (some ⟨α 1007, 0, none⟩)), .int .i32 loc, .slice (some ⟨α 6, 0, none⟩) 3 3, .int .i32 0, .int .u8 0, .int .u8 0, .bool false, .bool false] else if ix9 = 1007 then row (α 1007) 223 #[.int .u32 0, .int .u32 2, .bool false, .bool false, .bool false] else if ix9 = 10 then row (α 10) 44 #[.iface 52 (.pointer (some ⟨α 7, 0, none⟩)), .int .i32 loc, .string ⟨#[95]⟩, .int .i32 loc, .int .u8 0, .bool false, .bool false, .bool false] else (0, .map #[] 0)
theorem rWrap012_he (pb : Nat) (PC : Array Value) (mp : Nat) (loc : Int) (kT : Nat) (kx : Nat) (kl : Int) (B1_2 : Nat) (B1_1 : Nat) (B1 : Nat) (B4_3 : Nat) (B4_2 : Nat) (B4_1 : Nat) (B4 : Nat) : ∀ kk α α', (∀ j, (j % 1000 = kk ∨ j % 1000 ∈ rWrap012Anc kk) → α j = α' j) → rWrap012E pb PC mp loc kT kx kl B1_2 B1_1 B1 B4_3 B4_2 B4_1 B4 kk α = rWrap012E pb PC mp loc kT kx kl B1_2 B1_1 B1 B4_3 B4_2 B4_1 B4 kk α' := by
  intro kk α α' h
  match kk with
  | 0 => rfl
  | 1 => rfl
  | 2 => rfl
  | 3 => rfl
  | 4 => rfl
  | 5 => rfl
  | 6 => simp only [rWrap012E, h 6 (Or.inl rfl)]
  | 7 => simp only [rWrap012E, h 7 (Or.inl rfl)]
  | 8 => rfl
  | 9 => simp only [rWrap012E, h 7 (Or.inr (by decide))]
  | 10 => simp only [rWrap012E, h 10 (Or.inl rfl)]
  | 11 => simp only [rWrap012E, h 10 (Or.inr (by decide))]
  | 12 => simp only [rWrap012E, h 10 (Or.inr (by decide))]
  | 13 => rfl
  | n + 14 => rfl
theorem rWrap012_st (pb : Nat) (PC : Array Value) (mp : Nat) (loc : Int) (kT : Nat) (kx : Nat) (kl : Int) (B1_2 : Nat) (B1_1 : Nat) (B1 : Nat) (B4_3 : Nat) (B4_2 : Nat) (B4_1 : Nat) (B4 : Nat) : Stable rWrap012Cnt 7 rWrap012Anc rWrap012Trn (rWrap012R pb PC mp loc kT kx kl B1_2 B1_1 B1 B4_3 B4_2 B4_1 B4) := by
  intro k9 L9 α α' ix9 hk hcl hα hact ht
  have hp := act_places hact
  replace hp : ix9 ∈ [999, 1999, 2999, 3999, 4999, 5999, 6999, 6, 7, 1007, 10] := hp
  simp only [List.mem_cons, List.not_mem_nil, or_false] at hp
  rcases hp with rfl | rfl | rfl | rfl | rfl | rfl | rfl | rfl | rfl | rfl | rfl
  · rfl
  · rfl
  · rfl
  · show rWrap012T3999 pb PC mp loc kT kx kl B1_2 B1_1 B1 B4_3 B4_2 B4_1 B4 (Rega.ran L9 k9) α' = rWrap012T3999 pb PC mp loc kT kx kl B1_2 B1_1 B1 B4_3 B4_2 B4_1 B4 L9 α
    unfold rWrap012T3999
    have n13 : 13 ≠ k9 := fun e => ht (by rw [← e]; decide)
    rw [ran_ne n13]
    by_cases e13 : L9 13 = true
    · first | rw [if_pos e13, if_pos e13] | rw [if_pos e13]
      try simp only [hα 10 (ne_ran hk (hcl 13 e13 10 (by decide)))]
    first | rw [if_neg e13, if_neg e13] | rw [if_neg e13]
  · rfl
  · rfl
  · rfl
  · have e0 : L9 6 = true := act_lt hact (by decide)
    show row (α' 6) 30 #[.iface 220 (.pointer (some ⟨B4, 0, none⟩)), .int .i32 loc, .iface 247 (.pointer (some ⟨B4_2, 0, none⟩)), .int .i32 loc, .iface kT (.pointer (some ⟨kx, 0, none⟩)), .int .i32 kl] = row (α 6) 30 #[.iface 220 (.pointer (some ⟨B4, 0, none⟩)), .int .i32 loc, .iface 247 (.pointer (some ⟨B4_2, 0, none⟩)), .int .i32 loc, .iface kT (.pointer (some ⟨kx, 0, none⟩)), .int .i32 kl]
    simp only [hα 6 (ne_ran hk e0)]
  · have e0 : L9 7 = true := act_lt hact (by decide)
    show row (α' 7) 56 #[.iface 220 (.pointer (some ⟨α' 1007, 0, none⟩)), .int .i32 loc, .slice (some ⟨α' 6, 0, none⟩) 3 3, .int .i32 0, .int .u8 0, .int .u8 0, .bool false, .bool false] = row (α 7) 56 #[.iface 220 (.pointer (some ⟨α 1007, 0, none⟩)), .int .i32 loc, .slice (some ⟨α 6, 0, none⟩) 3 3, .int .i32 0, .int .u8 0, .int .u8 0, .bool false, .bool false]
    simp only [hα 6 (ne_ran hk (hcl 7 e0 6 (by decide))), hα 7 (ne_ran hk e0), hα 1007 (ne_ran hk e0)]
  · have e0 : L9 7 = true := act_lt hact (by decide)
    show row (α' 1007) 223 #[.int .u32 0, .int .u32 2, .bool false, .bool false, .bool false] = row (α 1007) 223 #[.int .u32 0, .int .u32 2, .bool false, .bool false, .bool false]
    simp only [hα 1007 (ne_ran hk e0)]
  · have e0 : L9 10 = true := act_lt hact (by decide)
    show row (α' 10) 44 #[.iface 52 (.pointer (some ⟨α' 7, 0, none⟩)), .int .i32 loc, .string ⟨#[95]⟩, .int .i32 loc, .int .u8 0, .bool false, .bool false, .bool false] = row (α 10) 44 #[.iface 52 (.pointer (some ⟨α 7, 0, none⟩)), .int .i32 loc, .string ⟨#[95]⟩, .int .i32 loc, .int .u8 0, .bool false, .bool false, .bool false]
    simp only [hα 7 (ne_ran hk (hcl 10 e0 7 (by decide))), hα 10 (ne_ran hk e0)]
def supWrapnsPost (pb : Nat) (PC : Array Value) (mp cr : Nat) (loc : Int) (kT kx : Nat) (kl : Int) (w0 : World) (X : Nat → Obj → Prop) (e : Ending) (w' : World) : Prop :=
  ∃ ca : Nat, ∃ b : Nat, ∃ sx : Nat, ∃ i1 : Nat, ∃ th : Nat, ∃ dd : Nat, e = .returned (.agg #[.iface 40 (.pointer (some ⟨dd, 0, none⟩)), .int .i32 loc]) ∧ Own w0 w' [row (pb) 206 PC, ((mp, .map #[⟨.string ⟨#[95, 95, 115, 117, 112, 101, 114, 87, 114, 97, 112, 112, 101, 114]⟩, .agg #[.int .i32 0, .int .u32 0, .int .u32 2], 0⟩, ⟨.string ⟨#[95, 95, 115, 117, 112, 101, 114, 71, 101, 116]⟩, .agg #[.int .i32 0, .int .u32 0, .int .u32 3], 1⟩, ⟨.string ⟨#[95, 95, 112, 114, 105, 118, 97, 116, 101, 87, 114, 97, 112, 112, 101, 114]⟩, .agg #[.int .i32 0, .int .u32 0, .int .u32 4], 2⟩] 3) : Rw), row (cr) 68 #[.int .u32 0, .int .u32 1], row (b) 223 #[.int .u32 0, .int .u32 2, .bool false, .bool false, .bool false], row (ca) 56 #[.iface 220 (.pointer (some ⟨b, 0, none⟩)), .int .i32 loc, .slice (some ⟨sx, 0, none⟩) 3 3, .int .i32 0, .int .u8 0, .int .u8 0, .bool false, .bool false], row (sx) 30 #[.iface 220 (.pointer (some ⟨i1, 0, none⟩)), .int .i32 loc, .iface 247 (.pointer (some ⟨th, 0, none⟩)), .int .i32 loc, .iface kT (.pointer (some ⟨kx, 0, none⟩)), .int .i32 kl], row (i1) 223 #[.int .u32 0, .int .u32 1, .bool false, .bool false, .bool false], row (th) 248 #[], row (dd) 44 #[.iface 52 (.pointer (some ⟨ca, 0, none⟩)), .int .i32 loc, .string ⟨#[95]⟩, .int .i32 loc, .int .u8 0, .bool false, .bool false, .bool false]] X
set_option maxRecDepth 100000 in
set_option maxHeartbeats 1000000 in
theorem supWrapns (pb : Nat) (PC : Array Value) (mp cr : Nat) (loc : Int) (kT kx : Nat) (kl : Int) (w0 w : World) (X : Nat → Obj → Prop) (hO : Own w0 w [row (pb) 206 PC, ((mp, .map #[⟨.string ⟨#[95, 95, 115, 117, 112, 101, 114, 87, 114, 97, 112, 112, 101, 114]⟩, .agg #[.int .i32 0, .int .u32 0, .int .u32 2], 0⟩, ⟨.string ⟨#[95, 95, 115, 117, 112, 101, 114, 71, 101, 116]⟩, .agg #[.int .i32 0, .int .u32 0, .int .u32 3], 1⟩, ⟨.string ⟨#[95, 95, 112, 114, 105, 118, 97, 116, 101, 87, 114, 97, 112, 112, 101, 114]⟩, .agg #[.int .i32 0, .int .u32 0, .int .u32 4], 2⟩] 3) : Rw), row (cr) 68 #[.int .u32 0, .int .u32 1]] X) (hD : Dead PC mp cr false true) :
    Calls Tryd.prog 36 #[.pointer (some ⟨pb, 0, none⟩), .agg #[.int .i32 loc], .agg #[.iface kT (.pointer (some ⟨kx, 0, none⟩)), .int .i32 kl]] w (supWrapnsPost pb PC mp cr loc kT kx kl w0 X) := by
  go_enter Tryd.func36, Tryd.ntmps36
  obtain ⟨ix9, hix9, hax9, hjx9⟩ := hO.ix
  have ix9_0 : ix9 pb = 0 := hjx9 0 _ _ rfl
  have ix9_1 : ix9 mp = 1 := hjx9 1 _ _ rfl
  have ix9_2 : ix9 cr = 2 := hjx9 2 _ _ rfl
  clear hjx9
  have c9_0_32 : w.cell? ⟨pb, 32, none⟩ = some (.bool false) := hO.cell 0 rfl (32) (hD.ts)
  have c9_0_95 : w.cell? ⟨pb, 95, none⟩ = some (.bool false) := hO.cell 0 rfl (95) (hD.rep)
  have c9_0_96 : w.cell? ⟨pb, 96, none⟩ = some (.bool true) := hO.cell 0 rfl (96) (hD.stat)
  have c9_0_97 : w.cell? ⟨pb, 97, none⟩ = some (.pointer (some ⟨cr, 0, none⟩)) := hO.cell 0 rfl (97) (hD.cls)
  have c9_0_117 : w.cell? ⟨pb, 117, none⟩ = some (.map (some mp)) := hO.cell 0 rfl (117) (hD.imp)
  have c9_0_350 : w.cell? ⟨pb, 350, none⟩ = some (.bool true) := hO.cell 0 rfl (350) (hD.dead)
  have lt9_0 : pb < w.heap.size := hO.lt 0 rfl
  have y9_0 : ∀ o, w.frozen? ⟨pb, o, none⟩ = false := hO.free 0 rfl
  obtain ⟨c9_2_0, c9_2_1, lt9_2, y9_2, -⟩ := hO.k2 2 rfl
  have HO := Lib.hid hO
  clear hO
  go_wp2_with (first | (with_reducible refine Own.stay (fn := Tryd.f36) ?_) | fail)
  try with_reducible refine Own.Stay.mk ?_
  have hO := HO.out
  clear HO hix9 hax9 ix9_0 ix9_1 ix9_2 ix9 c9_0_32 c9_0_95 c9_0_96 c9_0_97 c9_0_117 c9_0_350 lt9_0 y9_0 c9_2_0 c9_2_1 lt9_2 y9_2
  generalize hW : World.alloc _ _ = W2
  have hN : Own w0 W2 [row (w.heap.size + 1 + 1 + 1) 68 #[.int .u32 0, .int .u32 1], row (w.heap.size + 1 + 1) 30 #[.nilIface, .int .i32 0], row (w.heap.size + 1) 30 #[.iface kT (.pointer (some ⟨kx, 0, none⟩)), .int .i32 kl], row (w.heap.size) 28 #[.int .i32 loc], row (pb) 206 PC, ((mp, .map #[⟨.string ⟨#[95, 95, 115, 117, 112, 101, 114, 87, 114, 97, 112, 112, 101, 114]⟩, .agg #[.int .i32 0, .int .u32 0, .int .u32 2], 0⟩, ⟨.string ⟨#[95, 95, 115, 117, 112, 101, 114, 71, 101, 116]⟩, .agg #[.int .i32 0, .int .u32 0, .int .u32 3], 1⟩, ⟨.string ⟨#[95, 95, 112, 114, 105, 118, 97, 116, 101, 87, 114, 97, 112, 112, 101, 114]⟩, .agg #[.int .i32 0, .int .u32 0, .int .u32 4], 2⟩] 3) : Rw), row (cr) 68 #[.int .u32 0, .int .u32 1]] X := by
    rw [← hW]
    exact ((((hO).alloc' _ (w.heap.size) (by simp)).alloc' _ (w.heap.size + 1) (by simp)).alloc' _ (w.heap.size + 1 + 1) (by simp)).alloc' _ (w.heap.size + 1 + 1 + 1) (by simp)
  clear hW hO
  generalize w.heap.size + 1 + 1 + 1 = B1_3 at hN ⊢
  generalize w.heap.size + 1 + 1 = B1_2 at hN ⊢
  generalize w.heap.size + 1 = B1_1 at hN ⊢
  generalize w.heap.size = B1 at hN ⊢
  have hO := hN
  clear hN
  have hL := hO.apart
  have hX := hO.apartX
  have HL := Lib.hid hL
  have HX := Lib.hid hX
  clear hL hX
  have hP9 := hO.pick [4] (by decide)
  have T9 := usageDead pb PC mp cr false true 0 1 _ _ _ hP9 hD
  refine Calls.mono T9 ?_
  clear hP9 T9
  rintro e u3 ⟨rfl, hQ⟩
  have hN : Own w0 u3 [row (pb) 206 PC, row (B1_3) 68 #[.int .u32 0, .int .u32 1], row (B1_2) 30 #[.nilIface, .int .i32 0], row (B1_1) 30 #[.iface kT (.pointer (some ⟨kx, 0, none⟩)), .int .i32 kl], row (B1) 28 #[.int .i32 loc], ((mp, .map #[⟨.string ⟨#[95, 95, 115, 117, 112, 101, 114, 87, 114, 97, 112, 112, 101, 114]⟩, .agg #[.int .i32 0, .int .u32 0, .int .u32 2], 0⟩, ⟨.string ⟨#[95, 95, 115, 117, 112, 101, 114, 71, 101, 116]⟩, .agg #[.int .i32 0, .int .u32 0, .int .u32 3], 1⟩, ⟨.string ⟨#[95, 95, 112, 114, 105, 118, 97, 116, 101, 87, 114, 97, 112, 112, 101, 114]⟩, .agg #[.int .i32 0, .int .u32 0, .int .u32 4], 2⟩] 3) : Rw), row (cr) 68 #[.int .u32 0, .int .u32 1]] X := hQ.back HL.out HX.out [0, 1, 2, 3, 5, 6] (by decide) (by decide)
  clear hQ HL HX hO
  have hO := hN
  clear hN
  obtain ⟨ix9, hix9, hax9, hjx9⟩ := hO.ix
  have ix9_0 : ix9 pb = 0 := hjx9 0 _ _ rfl
  have ix9_1 : ix9 B1_3 = 1 := hjx9 1 _ _ rfl
  have ix9_2 : ix9 B1_2 = 2 := hjx9 2 _ _ rfl
  have ix9_3 : ix9 B1_1 = 3 := hjx9 3 _ _ rfl
  have ix9_4 : ix9 B1 = 4 := hjx9 4 _ _ rfl
  have ix9_5 : ix9 mp = 5 := hjx9 5 _ _ rfl
  have ix9_6 : ix9 cr = 6 := hjx9 6 _ _ rfl
  clear hjx9
  have c9_0_32 : u3.cell? ⟨pb, 32, none⟩ = some (.bool false) := hO.cell 0 rfl (32) (hD.ts)
  have c9_0_95 : u3.cell? ⟨pb, 95, none⟩ = some (.bool false) := hO.cell 0 rfl (95) (hD.rep)
  have c9_0_96 : u3.cell? ⟨pb, 96, none⟩ = some (.bool true) := hO.cell 0 rfl (96) (hD.stat)
  have c9_0_97 : u3.cell? ⟨pb, 97, none⟩ = some (.pointer (some ⟨cr, 0, none⟩)) := hO.cell 0 rfl (97) (hD.cls)
  have c9_0_117 : u3.cell? ⟨pb, 117, none⟩ = some (.map (some mp)) := hO.cell 0 rfl (117) (hD.imp)
  have c9_0_350 : u3.cell? ⟨pb, 350, none⟩ = some (.bool true) := hO.cell 0 rfl (350) (hD.dead)
  have lt9_0 : pb < u3.heap.size := hO.lt 0 rfl
  have y9_0 : ∀ o, u3.frozen? ⟨pb, o, none⟩ = false := hO.free 0 rfl
  obtain ⟨c9_1_0, c9_1_1, lt9_1, y9_1, pl9_1⟩ := hO.k2 1 rfl
  obtain ⟨c9_2_0, c9_2_1, lt9_2, y9_2, pl9_2⟩ := hO.k2 2 rfl
  obtain ⟨c9_3_0, c9_3_1, lt9_3, y9_3, pl9_3⟩ := hO.k2 3 rfl
  obtain ⟨c9_4_0, lt9_4, y9_4, pl9_4⟩ := hO.k1 4 rfl
  obtain ⟨c9_6_0, c9_6_1, lt9_6, y9_6, pl9_6⟩ := hO.k2 6 rfl
  have HO := Lib.hid hO
  clear hO
  go_wp2_with (first | (with_reducible refine Own.stay (fn := Tryd.f36) ?_) | fail)
  try with_reducible refine Own.Stay.mk ?_
  have hO := HO.out
  clear HO hix9 hax9 ix9_0 ix9_1 ix9_2 ix9_3 ix9_4 ix9_5 ix9_6 ix9 c9_0_32 c9_0_95 c9_0_96 c9_0_97 c9_0_117 c9_0_350 lt9_0 y9_0 c9_1_0 c9_1_1 lt9_1 y9_1 pl9_1 c9_2_0 c9_2_1 lt9_2 y9_2 pl9_2 c9_3_0 c9_3_1 lt9_3 y9_3 pl9_3 c9_4_0 lt9_4 y9_4 pl9_4 c9_6_0 c9_6_1 lt9_6 y9_6 pl9_6
  generalize hW : World.alloc _ _ = W5
  have hN : Own w0 W5 [row (u3.heap.size + 1 + 1 + 1) 30 #[.iface 247 (.pointer (some ⟨u3.heap.size + 1 + 1, 0, none⟩)), .int .i32 loc], row (u3.heap.size + 1 + 1) 248 #[], row (u3.heap.size + 1) 30 #[.iface 220 (.pointer (some ⟨u3.heap.size, 0, none⟩)), .int .i32 loc], row (u3.heap.size) 223 #[.int .u32 0, .int .u32 1, .bool false, .bool false, .bool false], row (pb) 206 PC, row (B1_3) 68 #[.int .u32 0, .int .u32 1], row (B1_2) 30 #[.nilIface, .int .i32 0], row (B1_1) 30 #[.iface kT (.pointer (some ⟨kx, 0, none⟩)), .int .i32 kl], row (B1) 28 #[.int .i32 loc], ((mp, .map #[⟨.string ⟨#[95, 95, 115, 117, 112, 101, 114, 87, 114, 97, 112, 112, 101, 114]⟩, .agg #[.int .i32 0, .int .u32 0, .int .u32 2], 0⟩, ⟨.string ⟨#[95, 95, 115, 117, 112, 101, 114, 71, 101, 116]⟩, .agg #[.int .i32 0, .int .u32 0, .int .u32 3], 1⟩, ⟨.string ⟨#[95, 95, 112, 114, 105, 118, 97, 116, 101, 87, 114, 97, 112, 112, 101, 114]⟩, .agg #[.int .i32 0, .int .u32 0, .int .u32 4], 2⟩] 3) : Rw), row (cr) 68 #[.int .u32 0, .int .u32 1]] X := by
    rw [← hW]
    exact ((((hO).alloc' _ (u3.heap.size) (by simp)).alloc' _ (u3.heap.size + 1) (by simp)).alloc' _ (u3.heap.size + 1 + 1) (by simp)).alloc' _ (u3.heap.size + 1 + 1 + 1) (by simp)
  clear hW hO
  generalize u3.heap.size + 1 + 1 + 1 = B4_3 at hN ⊢
  generalize u3.heap.size + 1 + 1 = B4_2 at hN ⊢
  generalize u3.heap.size + 1 = B4_1 at hN ⊢
  generalize u3.heap.size = B4 at hN ⊢
  have hO := hN
  clear hN
  have hL := hO.apart
  have hX := hO.apartX
  have HL := Lib.hid hL
  have HX := Lib.hid hX
  clear hL hX
  have hP9 := hO.pick [0, 2, 4, 6, 7, 8, 9] (by decide)
  generalize hX9_6 : Own.Rest _ _ X = X9_6 at hP9
  replace hP9 : Own w0 W5 [row (B4_3) 30 #[.iface 247 (.pointer (some ⟨B4_2, 0, none⟩)), .int .i32 loc], row (B4_1) 30 #[.iface 220 (.pointer (some ⟨B4, 0, none⟩)), .int .i32 loc], row (pb) 206 PC, row (B1_2) 30 #[.nilIface, .int .i32 0], row (B1_1) 30 #[.iface kT (.pointer (some ⟨kx, 0, none⟩)), .int .i32 kl], row (B1) 28 #[.int .i32 loc], ((mp, .map #[⟨.string ⟨#[95, 95, 115, 117, 112, 101, 114, 87, 114, 97, 112, 112, 101, 114]⟩, .agg #[.int .i32 0, .int .u32 0, .int .u32 2], 0⟩, ⟨.string ⟨#[95, 95, 115, 117, 112, 101, 114, 71, 101, 116]⟩, .agg #[.int .i32 0, .int .u32 0, .int .u32 3], 1⟩, ⟨.string ⟨#[95, 95, 112, 114, 105, 118, 97, 116, 101, 87, 114, 97, 112, 112, 101, 114]⟩, .agg #[.int .i32 0, .int .u32 0, .int .u32 4], 2⟩] 3) : Rw)] X9_6 := hP9
  clear hO
  have hO := hP9
  clear hP9
  have st9 := rWrap012_st pb PC mp loc kT kx kl B1_2 B1_1 B1 B4_3 B4_2 B4_1 B4
  let R9 := rWrap012R pb PC mp loc kT kx kl B1_2 B1_1 B1 B4_3 B4_2 B4_1 B4
  refine wp_region_own (e := rWrap012E pb PC mp loc kT kx kl B1_2 B1_1 B1 B4_3 B4_2 B4_1 B4) (anc := rWrap012Anc) (G := (fun L9 α u9 => OwnF w0 u9 (act rWrap012Cnt 7 L9) (rWrap012R pb PC mp loc kT kx kl B1_2 B1_1 B1 B4_3 B4_2 B4_1 B4 L9 α) X9_6)) (by kernel_rfl) (by kernel_rfl) (by kernel_rfl) (by kernel_rfl) (rWrap012_he pb PC mp loc kT kx kl B1_2 B1_1 B1 B4_3 B4_2 B4_1 B4) ?_ (RunsAll.all ?_) ?_
  · have hp : ∀ i, act rWrap012Cnt 7 (fun _ => false) i → i ∈ [999, 1999, 2999, 3999, 4999, 5999, 6999] := by
      intro i hi
      have h9 : i % 1000 = 999 := by
        by_cases h : i % 1000 = 999
        · exact h
        · exact absurd (act_lt hi h) (by simp)
      unfold act at hi
      rw [if_pos h9] at hi
      simp only [List.mem_cons, List.not_mem_nil, or_false]
      omega
    refine hO.drew.family (fun i hi => ?_) (fun i j hi hj hij => ?_)
    · have := hp i hi
      simp only [List.mem_cons, List.not_mem_nil, or_false] at this
      rcases this with rfl | rfl | rfl | rfl | rfl | rfl | rfl <;> rfl
    · have h1 := hp i hi
      have h2 := hp j hj
      simp only [List.mem_cons, List.not_mem_nil, or_false] at h1 h2
      omega
  · refine ⟨?_, ?_, ?_, ?_, ?_, ?_, ?_, ?_, ?_, ?_, ?_, ?_, ?_, ?_, trivial⟩
    · intro L9 α a9 u9 K9 hL hcl hA hG hS h0 h1 hK
      replace hL : L9 0 = false := hL
      have q4 : a9.tmps[4]? = some (.pointer (some ⟨B1, 0, none⟩)) := (h0 4 (by kernel_rfl)).trans rfl
      have s4 := Rega.eval_of q4
      have e0 : R9 L9 α 5999 = row (B1) 28 #[.int .i32 loc] := rfl
      have hr := hG.rowAt 5999 (act_base 5999 rfl) e0
      have c0 : u9.cell? ⟨B1, 0, none⟩ = some (.int .i32 loc) := hr.cell rfl
      clear hr e0
      go_simp
      exact hK _ α _ (fun _ _ => rfl) rfl (step_same (st9) hL hcl rfl rfl hG)
    · intro L9 α a9 u9 K9 hL hcl hA hG hS h0 h1 hK
      replace hL : L9 1 = false := hL
      have q0 : a9.tmps[0]? = some (.pointer (some ⟨pb, 0, none⟩)) := (h0 0 (by kernel_rfl)).trans rfl
      have s0 := Rega.eval_of q0
      go_simp
      exact hK _ α _ (fun _ _ => rfl) rfl (step_same (st9) hL hcl rfl rfl hG)
    · intro L9 α a9 u9 K9 hL hcl hA hG hS h0 h1 hK
      replace hL : L9 2 = false := hL
      have q4 : a9.tmps[4]? = some (.pointer (some ⟨B1, 0, none⟩)) := (h0 4 (by kernel_rfl)).trans rfl
      have s4 := Rega.eval_of q4
      have e0 : R9 L9 α 5999 = row (B1) 28 #[.int .i32 loc] := rfl
      have hr := hG.rowAt 5999 (act_base 5999 rfl) e0
      have c0 : u9.cell? ⟨B1, 0, none⟩ = some (.int .i32 loc) := hr.cell rfl
      clear hr e0
      go_simp
      exact hK _ α _ (fun _ _ => rfl) rfl (step_same (st9) hL hcl rfl rfl hG)
    · intro L9 α a9 u9 K9 hL hcl hA hG hS h0 h1 hK
      replace hL : L9 3 = false := hL
      have q8 : a9.tmps[8]? = some (.pointer (some ⟨B4_1, 0, none⟩)) := (h0 8 (by kernel_rfl)).trans rfl
      have s8 := Rega.eval_of q8
      have e0 : R9 L9 α 1999 = row (B4_1) 30 #[.iface 220 (.pointer (some ⟨B4, 0, none⟩)), .int .i32 loc] := rfl
      have hr := hG.rowAt 1999 (act_base 1999 rfl) e0
      have c0 : u9.cell? ⟨B4_1, 0, none⟩ = some (.iface 220 (.pointer (some ⟨B4, 0, none⟩))) := hr.cell rfl
      have c1 : u9.cell? ⟨B4_1, 1, none⟩ = some (.int .i32 loc) := hr.cell rfl
      clear hr e0
      go_simp
      exact hK _ α _ (fun _ _ => rfl) rfl (step_same (st9) hL hcl rfl rfl hG)
    · intro L9 α a9 u9 K9 hL hcl hA hG hS h0 h1 hK
      replace hL : L9 4 = false := hL
      have q9 : a9.tmps[9]? = some (.pointer (some ⟨B4_3, 0, none⟩)) := (h0 9 (by kernel_rfl)).trans rfl
      have s9 := Rega.eval_of q9
      have e0 : R9 L9 α 999 = row (B4_3) 30 #[.iface 247 (.pointer (some ⟨B4_2, 0, none⟩)), .int .i32 loc] := rfl
      have hr := hG.rowAt 999 (act_base 999 rfl) e0
      have c0 : u9.cell? ⟨B4_3, 0, none⟩ = some (.iface 247 (.pointer (some ⟨B4_2, 0, none⟩))) := hr.cell rfl
      have c1 : u9.cell? ⟨B4_3, 1, none⟩ = some (.int .i32 loc) := hr.cell rfl
      clear hr e0
      go_simp
      exact hK _ α _ (fun _ _ => rfl) rfl (step_same (st9) hL hcl rfl rfl hG)
    · intro L9 α a9 u9 K9 hL hcl hA hG hS h0 h1 hK
      replace hL : L9 5 = false := hL
      have q5 : a9.tmps[5]? = some (.pointer (some ⟨B1_1, 0, none⟩)) := (h0 5 (by kernel_rfl)).trans rfl
      have s5 := Rega.eval_of q5
      have e0 : R9 L9 α 4999 = row (B1_1) 30 #[.iface kT (.pointer (some ⟨kx, 0, none⟩)), .int .i32 kl] := rfl
      have hr := hG.rowAt 4999 (act_base 4999 rfl) e0
      have c0 : u9.cell? ⟨B1_1, 0, none⟩ = some (.iface kT (.pointer (some ⟨kx, 0, none⟩))) := hr.cell rfl
      have c1 : u9.cell? ⟨B1_1, 1, none⟩ = some (.int .i32 kl) := hr.cell rfl
      clear hr e0
      go_simp
      exact hK _ α _ (fun _ _ => rfl) rfl (step_same (st9) hL hcl rfl rfl hG)
    · intro L9 α a9 u9 K9 hL hcl hA hG hS h0 h1 hK
      replace hL : L9 6 = false := hL
      have q59 : a9.tmps[59]? = some (.agg #[.iface 220 (.pointer (some ⟨B4, 0, none⟩)), .int .i32 loc]) := hS 3 59 (by decide) rfl (by show 59 < 69; decide)
      have s59 := Rega.eval_of q59
      have q60 : a9.tmps[60]? = some (.agg #[.iface 247 (.pointer (some ⟨B4_2, 0, none⟩)), .int .i32 loc]) := hS 4 60 (by decide) rfl (by show 60 < 69; decide)
      have s60 := Rega.eval_of q60
      have q61 : a9.tmps[61]? = some (.agg #[.iface kT (.pointer (some ⟨kx, 0, none⟩)), .int .i32 kl]) := hS 5 61 (by decide) rfl (by show 61 < 69; decide)
      have s61 := Rega.eval_of q61
      go_simp
      exact hK _ (fun j => if j = 6 then u9.heap.size else α j) _ (fun j hj => if_neg (fun e => hj (by rw [e]))) rfl (step_alloc (st9) hL hcl rfl rfl (by decide) _ rfl hG)
    · intro L9 α a9 u9 K9 hL hcl hA hG hS h0 h1 hK
      replace hL : L9 7 = false := hL
      have q57 : a9.tmps[57]? = some (.pointer (some ⟨pb, 0, none⟩)) := hS 1 57 (by decide) rfl (by show 57 < 69; decide)
      have s57 := Rega.eval_of q57
      have q58 : a9.tmps[58]? = some (.agg #[.int .i32 loc]) := hS 2 58 (by decide) rfl (by show 58 < 69; decide)
      have s58 := Rega.eval_of q58
      have q62 : a9.tmps[62]? = some (.slice (some ⟨α 6, 0, none⟩) 3 3) := hS 6 62 (by decide) rfl (by show 62 < 69; decide)
      have s62 := Rega.eval_of q62
      go_simp
      have e0 : R9 L9 α 2999 = row (pb) 206 PC := rfl
      have e1 : R9 L9 α 6999 = ((mp, .map #[⟨.string ⟨#[95, 95, 115, 117, 112, 101, 114, 87, 114, 97, 112, 112, 101, 114]⟩, .agg #[.int .i32 0, .int .u32 0, .int .u32 2], 0⟩, ⟨.string ⟨#[95, 95, 115, 117, 112, 101, 114, 71, 101, 116]⟩, .agg #[.int .i32 0, .int .u32 0, .int .u32 3], 1⟩, ⟨.string ⟨#[95, 95, 112, 114, 105, 118, 97, 116, 101, 87, 114, 97, 112, 112, 101, 114]⟩, .agg #[.int .i32 0, .int .u32 0, .int .u32 4], 2⟩] 3) : Rw) := rfl
      have hM : ∀ i, i ∈ [2999, 6999] → act rWrap012Cnt 7 L9 i := by
        intro i hi
        simp only [List.mem_cons, List.not_mem_nil, or_false] at hi
        rcases hi with rfl | rfl
        · exact act_base 2999 rfl
        · exact act_base 6999 rfl
      have hP : Own w0 u9 [row (pb) 206 PC, ((mp, .map #[⟨.string ⟨#[95, 95, 115, 117, 112, 101, 114, 87, 114, 97, 112, 112, 101, 114]⟩, .agg #[.int .i32 0, .int .u32 0, .int .u32 2], 0⟩, ⟨.string ⟨#[95, 95, 115, 117, 112, 101, 114, 71, 101, 116]⟩, .agg #[.int .i32 0, .int .u32 0, .int .u32 3], 1⟩, ⟨.string ⟨#[95, 95, 112, 114, 105, 118, 97, 116, 101, 87, 114, 97, 112, 112, 101, 114]⟩, .agg #[.int .i32 0, .int .u32 0, .int .u32 4], 2⟩] 3) : Rw)] _ := (hG.pick [2999, 6999] (by decide) hM).conv (by
        show [R9 L9 α 2999, R9 L9 α 6999] = _
        rw [e0, e1])
      clear e0 e1 hM
      refine Calls.mono (callRW pb PC mp cr false true loc (α 6) 3 3 _ _ _ hP hD) ?_
      rintro e9 u1 ⟨b0, b1, rfl, hQ⟩
      obtain ⟨α', hα'⟩ : ∃ α' : Rega.Atoms, α' = (fun j => if j = 7 then b0 else if j = 1007 then b1 else α j) := ⟨_, rfl⟩
      have f0 : R9 (Rega.ran L9 7) α' 2999 = row (pb) 206 PC := rfl
      have f1 : R9 (Rega.ran L9 7) α' 6999 = ((mp, .map #[⟨.string ⟨#[95, 95, 115, 117, 112, 101, 114, 87, 114, 97, 112, 112, 101, 114]⟩, .agg #[.int .i32 0, .int .u32 0, .int .u32 2], 0⟩, ⟨.string ⟨#[95, 95, 115, 117, 112, 101, 114, 71, 101, 116]⟩, .agg #[.int .i32 0, .int .u32 0, .int .u32 3], 1⟩, ⟨.string ⟨#[95, 95, 112, 114, 105, 118, 97, 116, 101, 87, 114, 97, 112, 112, 101, 114]⟩, .agg #[.int .i32 0, .int .u32 0, .int .u32 4], 2⟩] 3) : Rw) := rfl
      have f2 : R9 (Rega.ran L9 7) α' 1007 = row (α' 1007) 223 #[.int .u32 0, .int .u32 2, .bool false, .bool false, .bool false] := rfl
      have f3 : R9 (Rega.ran L9 7) α' 7 = row (α' 7) 56 #[.iface 220 (.pointer (some ⟨α' 1007, 0, none⟩)), .int .i32 loc, .slice (some ⟨α' 6, 0, none⟩) 3 3, .int .i32 0, .int .u8 0, .int .u8 0, .bool false, .bool false] := rfl
      have hα : ∀ j, j % 1000 ≠ 7 → α' j = α j := fun j hj => by rw [hα']; simp only []; rw [if_neg (by omega), if_neg (by omega)]
      have hb0 : α' 7 = b0 := by rw [hα']; rfl
      have hb1 : α' 1007 = b1 := by rw [hα']; rfl
      have ha6 : α' 6 = α 6 := hα 6 (by decide)
      skip
      refine hK _ α' _ hα ?_ (step_call (st9) hL hcl hα [2999, 6999] [2999, 6999, 1007, 7] (by decide) (by decide) (by decide) (M := _) ?_ hG hQ)
      · show _ = (.agg #[.iface 52 (.pointer (some ⟨α' 7, 0, none⟩)), .int .i32 loc] : Value)
        simp only [hb0]
      · show [R9 (Rega.ran L9 7) α' 2999, R9 (Rega.ran L9 7) α' 6999, R9 (Rega.ran L9 7) α' 1007, R9 (Rega.ran L9 7) α' 7] = _
        rw [f0, f1, f2, f3]
        simp only [hb0, hb1, ha6]
        try rfl
    · intro L9 α a9 u9 K9 hL hcl hA hG hS h0 h1 hK
      replace hL : L9 8 = false := hL
      have q4 : a9.tmps[4]? = some (.pointer (some ⟨B1, 0, none⟩)) := (h0 4 (by kernel_rfl)).trans rfl
      have s4 := Rega.eval_of q4
      have e0 : R9 L9 α 5999 = row (B1) 28 #[.int .i32 loc] := rfl
      have hr := hG.rowAt 5999 (act_base 5999 rfl) e0
      have c0 : u9.cell? ⟨B1, 0, none⟩ = some (.int .i32 loc) := hr.cell rfl
      clear hr e0
      go_simp
      exact hK _ α _ (fun _ _ => rfl) rfl (step_same (st9) hL hcl rfl rfl hG)
    · intro L9 α a9 u9 K9 hL hcl hA hG hS h0 h1 hK
      replace hL : L9 9 = false := hL
      have q63 : a9.tmps[63]? = some (.agg #[.iface 52 (.pointer (some ⟨α 7, 0, none⟩)), .int .i32 loc]) := hS 7 63 (by decide) rfl (by show 63 < 69; decide)
      have s63 := Rega.eval_of q63
      have q64 : a9.tmps[64]? = some (.agg #[.int .i32 loc]) := hS 8 64 (by decide) rfl (by show 64 < 69; decide)
      have s64 := Rega.eval_of q64
      go_simp
      exact hK _ α _ (fun _ _ => rfl) rfl (step_same (st9) hL hcl rfl rfl hG)
    · intro L9 α a9 u9 K9 hL hcl hA hG hS h0 h1 hK
      replace hL : L9 10 = false := hL
      have q65 : a9.tmps[65]? = some (.agg #[.iface 52 (.pointer (some ⟨α 7, 0, none⟩)), .int .i32 loc, .string ⟨#[95]⟩, .int .i32 loc, .int .u8 0, .bool false, .bool false, .bool false]) := hS 9 65 (by decide) rfl (by show 65 < 69; decide)
      have s65 := Rega.eval_of q65
      go_simp
      exact hK _ (fun j => if j = 10 then u9.heap.size else α j) _ (fun j hj => if_neg (fun e => hj (by rw [e]))) rfl (step_alloc (st9) hL hcl rfl rfl (by decide) _ rfl hG)
    · intro L9 α a9 u9 K9 hL hcl hA hG hS h0 h1 hK
      replace hL : L9 11 = false := hL
      have q66 : a9.tmps[66]? = some (.pointer (some ⟨α 10, 0, none⟩)) := hS 10 66 (by decide) rfl (by show 66 < 69; decide)
      have s66 := Rega.eval_of q66
      go_simp
      exact hK _ α _ (fun _ _ => rfl) rfl (step_same (st9) hL hcl rfl rfl hG)
    · intro L9 α a9 u9 K9 hL hcl hA hG hS h0 h1 hK
      replace hL : L9 12 = false := hL
      have q56 : a9.tmps[56]? = some (.agg #[.int .i32 loc]) := hS 0 56 (by decide) rfl (by show 56 < 69; decide)
      have s56 := Rega.eval_of q56
      have q67 : a9.tmps[67]? = some (.iface 40 (.pointer (some ⟨α 10, 0, none⟩))) := hS 11 67 (by decide) rfl (by show 67 < 69; decide)
      have s67 := Rega.eval_of q67
      go_simp
      exact hK _ α _ (fun _ _ => rfl) rfl (step_same (st9) hL hcl rfl rfl hG)
    · intro L9 α a9 u9 K9 hL hcl hA hG hS h0 h1 hK
      replace hL : L9 13 = false := hL
      have q6 : a9.tmps[6]? = some (.pointer (some ⟨B1_2, 0, none⟩)) := (h0 6 (by kernel_rfl)).trans rfl
      have s6 := Rega.eval_of q6
      have q68 : a9.tmps[68]? = some (.agg #[.iface 40 (.pointer (some ⟨α 10, 0, none⟩)), .int .i32 loc]) := hS 12 68 (by decide) rfl (by show 68 < 69; decide)
      have s68 := Rega.eval_of q68
      have e0 : R9 L9 α 3999 = row (B1_2) 30 #[.nilIface, .int .i32 0] := by
        show rWrap012T3999 pb PC mp loc kT kx kl B1_2 B1_1 B1 B4_3 B4_2 B4_1 B4 L9 α = _
        unfold rWrap012T3999
        rw [if_neg (by rw [hL]; decide)]
      have hr := hG.rowAt 3999 (act_base 3999 rfl) e0
      have c0 : u9.cell? ⟨B1_2, 0, none⟩ = some (.nilIface) := hr.cell rfl
      have y0 : u9.frozen? ⟨B1_2, 0, none⟩ = false := hr.free (0)
      have c1 : u9.cell? ⟨B1_2, 1, none⟩ = some (.int .i32 0) := hr.cell rfl
      have y1 : u9.frozen? ⟨B1_2, 1, none⟩ = false := hr.free (1)
      clear hr
      have E0 := Lib.hid e0
      clear e0
      go_simp
      have e1 : R9 (Rega.ran L9 13) α 3999 = row (B1_2) 30 #[.iface 40 (.pointer (some ⟨α 10, 0, none⟩)), .int .i32 loc] := by
        show rWrap012T3999 pb PC mp loc kT kx kl B1_2 B1_1 B1 B4_3 B4_2 B4_1 B4 (Rega.ran L9 13) α = _
        unfold rWrap012T3999
        rw [if_pos (show Rega.ran L9 13 13 = true from rfl)]
      exact hK _ α _ (fun _ _ => rfl) rfl (step_sets (st9) hL hcl rfl 3999 rfl (act_base 3999 rfl) E0.out (0) [.iface 40 (.pointer (some ⟨α 10, 0, none⟩)), .int .i32 loc] (e1.trans rfl) hG)
  clear st9
  intro α u hG
  have e0 : R9 (fun k => decide (k < 14)) α 999 = row (B4_3) 30 #[.iface 247 (.pointer (some ⟨B4_2, 0, none⟩)), .int .i32 loc] := rfl
  have e1 : R9 (fun k => decide (k < 14)) α 1999 = row (B4_1) 30 #[.iface 220 (.pointer (some ⟨B4, 0, none⟩)), .int .i32 loc] := rfl
  have e2 : R9 (fun k => decide (k < 14)) α 2999 = row (pb) 206 PC := rfl
  have e3 : R9 (fun k => decide (k < 14)) α 3999 = row (B1_2) 30 #[.iface 40 (.pointer (some ⟨α 10, 0, none⟩)), .int .i32 loc] := by
    show rWrap012T3999 pb PC mp loc kT kx kl B1_2 B1_1 B1 B4_3 B4_2 B4_1 B4 (fun k => decide (k < 14)) α = _
    unfold rWrap012T3999
    rw [if_pos (by decide)]
  have e4 : R9 (fun k => decide (k < 14)) α 4999 = row (B1_1) 30 #[.iface kT (.pointer (some ⟨kx, 0, none⟩)), .int .i32 kl] := rfl
  have e5 : R9 (fun k => decide (k < 14)) α 5999 = row (B1) 28 #[.int .i32 loc] := rfl
  have e6 : R9 (fun k => decide (k < 14)) α 6999 = ((mp, .map #[⟨.string ⟨#[95, 95, 115, 117, 112, 101, 114, 87, 114, 97, 112, 112, 101, 114]⟩, .agg #[.int .i32 0, .int .u32 0, .int .u32 2], 0⟩, ⟨.string ⟨#[95, 95, 115, 117, 112, 101, 114, 71, 101, 116]⟩, .agg #[.int .i32 0, .int .u32 0, .int .u32 3], 1⟩, ⟨.string ⟨#[95, 95, 112, 114, 105, 118, 97, 116, 101, 87, 114, 97, 112, 112, 101, 114]⟩, .agg #[.int .i32 0, .int .u32 0, .int .u32 4], 2⟩] 3) : Rw) := rfl
  have e7 : R9 (fun k => decide (k < 14)) α 6 = row (α 6) 30 #[.iface 220 (.pointer (some ⟨B4, 0, none⟩)), .int .i32 loc, .iface 247 (.pointer (some ⟨B4_2, 0, none⟩)), .int .i32 loc, .iface kT (.pointer (some ⟨kx, 0, none⟩)), .int .i32 kl] := rfl
  have e8 : R9 (fun k => decide (k < 14)) α 7 = row (α 7) 56 #[.iface 220 (.pointer (some ⟨α 1007, 0, none⟩)), .int .i32 loc, .slice (some ⟨α 6, 0, none⟩) 3 3, .int .i32 0, .int .u8 0, .int .u8 0, .bool false, .bool false] := rfl
  have e9 : R9 (fun k => decide (k < 14)) α 1007 = row (α 1007) 223 #[.int .u32 0, .int .u32 2, .bool false, .bool false, .bool false] := rfl
  have e10 : R9 (fun k => decide (k < 14)) α 10 = row (α 10) 44 #[.iface 52 (.pointer (some ⟨α 7, 0, none⟩)), .int .i32 loc, .string ⟨#[95]⟩, .int .i32 loc, .int .u8 0, .bool false, .bool false, .bool false] := rfl
  have hO : Own w0 u [row (B4_3) 30 #[.iface 247 (.pointer (some ⟨B4_2, 0, none⟩)), .int .i32 loc], row (B4_1) 30 #[.iface 220 (.pointer (some ⟨B4, 0, none⟩)), .int .i32 loc], row (pb) 206 PC, row (B1_2) 30 #[.iface 40 (.pointer (some ⟨α 10, 0, none⟩)), .int .i32 loc], row (B1_1) 30 #[.iface kT (.pointer (some ⟨kx, 0, none⟩)), .int .i32 kl], row (B1) 28 #[.int .i32 loc], ((mp, .map #[⟨.string ⟨#[95, 95, 115, 117, 112, 101, 114, 87, 114, 97, 112, 112, 101, 114]⟩, .agg #[.int .i32 0, .int .u32 0, .int .u32 2], 0⟩, ⟨.string ⟨#[95, 95, 115, 117, 112, 101, 114, 71, 101, 116]⟩, .agg #[.int .i32 0, .int .u32 0, .int .u32 3], 1⟩, ⟨.string ⟨#[95, 95, 112, 114, 105, 118, 97, 116, 101, 87, 114, 97, 112, 112, 101, 114]⟩, .agg #[.int .i32 0, .int .u32 0, .int .u32 4], 2⟩] 3) : Rw), row (α 6) 30 #[.iface 220 (.pointer (some ⟨B4, 0, none⟩)), .int .i32 loc, .iface 247 (.pointer (some ⟨B4_2, 0, none⟩)), .int .i32 loc, .iface kT (.pointer (some ⟨kx, 0, none⟩)), .int .i32 kl], row (α 7) 56 #[.iface 220 (.pointer (some ⟨α 1007, 0, none⟩)), .int .i32 loc, .slice (some ⟨α 6, 0, none⟩) 3 3, .int .i32 0, .int .u8 0, .int .u8 0, .bool false, .bool false], row (α 1007) 223 #[.int .u32 0, .int .u32 2, .bool false, .bool false, .bool false], row (α 10) 44 #[.iface 52 (.pointer (some ⟨α 7, 0, none⟩)), .int .i32 loc, .string ⟨#[95]⟩, .int .i32 loc, .int .u8 0, .bool false, .bool false, .bool false]] X9_6 := (hG.list [999, 1999, 2999, 3999, 4999, 5999, 6999, 6, 7, 1007, 10] (by decide) (act_all (by decide))).conv (by
    show [R9 (fun k => decide (k < 14)) α 999, R9 (fun k => decide (k < 14)) α 1999, R9 (fun k => decide (k < 14)) α 2999, R9 (fun k => decide (k < 14)) α 3999, R9 (fun k => decide (k < 14)) α 4999, R9 (fun k => decide (k < 14)) α 5999, R9 (fun k => decide (k < 14)) α 6999, R9 (fun k => decide (k < 14)) α 6, R9 (fun k => decide (k < 14)) α 7, R9 (fun k => decide (k < 14)) α 1007, R9 (fun k => decide (k < 14)) α 10] = _
    rw [e0, e1, e2, e3, e4, e5, e6, e7, e8, e9, e10])
  clear hG e0 e1 e2 e3 e4 e5 e6 e7 e8 e9 e10 R9
  generalize hfr : Rega.frameAt _ _ _ _ _ = fr
  have hdf : fr = ⟨#[.pointer (some ⟨pb, 0, none⟩), .agg #[.int .i32 loc], .agg #[.iface kT (.pointer (some ⟨kx, 0, none⟩)), .int .i32 kl], undef, .pointer (some ⟨B1, 0, none⟩), .pointer (some ⟨B1_1, 0, none⟩), .pointer (some ⟨B1_2, 0, none⟩), .pointer (some ⟨B1_3, 0, none⟩), .pointer (some ⟨B4_1, 0, none⟩), .pointer (some ⟨B4_3, 0, none⟩), .pointer (some ⟨pb, 0, none⟩), .pointer (some ⟨pb, 0, none⟩), .pointer (some ⟨pb, 92, none⟩), .pointer (some ⟨pb, 97, none⟩), .pointer (some ⟨cr, 0, none⟩), .pointer (some ⟨cr, 0, none⟩), .agg #[.int .u32 0, .int .u32 1], .pointer (some ⟨pb, 0, none⟩), .agg #[.int .u32 0, .int .u32 1], .tuple #[], .agg #[.int .i32 loc], .agg #[.int .u32 0, .int .u32 1], .agg #[.int .u32 0, .int .u32 1, .bool false, .bool false, .bool false], .pointer (some ⟨B4, 0, none⟩), .iface 220 (.pointer (some ⟨B4, 0, none⟩)), .agg #[.iface 220 (.pointer (some ⟨B4, 0, none⟩)), .int .i32 loc], .agg #[.int .i32 loc], .agg #[], .pointer (some ⟨B4_2, 0, none⟩), .iface 247 (.pointer (some ⟨B4_2, 0, none⟩)), .agg #[.iface 247 (.pointer (some ⟨B4_2, 0, none⟩)), .int .i32 loc], .pointer (some ⟨pb, 0, none⟩), .pointer (some ⟨pb, 0, none⟩), .pointer (some ⟨pb, 92, none⟩), .pointer (some ⟨pb, 95, none⟩), .bool false, undef, undef, undef, undef, undef, undef, undef, undef, .pointer (some ⟨pb, 0, none⟩), .pointer (some ⟨pb, 0, none⟩), .pointer (some ⟨pb, 92, none⟩), .pointer (some ⟨pb, 96, none⟩), .bool true, .bool false, undef, undef, undef, undef, undef, undef, .agg #[.int .i32 loc], .pointer (some ⟨pb, 0, none⟩), .agg #[.int .i32 loc], .agg #[.iface 220 (.pointer (some ⟨B4, 0, none⟩)), .int .i32 loc], .agg #[.iface 247 (.pointer (some ⟨B4_2, 0, none⟩)), .int .i32 loc], .agg #[.iface kT (.pointer (some ⟨kx, 0, none⟩)), .int .i32 kl], .slice (some ⟨α 6, 0, none⟩) 3 3, .agg #[.iface 52 (.pointer (some ⟨α 7, 0, none⟩)), .int .i32 loc], .agg #[.int .i32 loc], .agg #[.iface 52 (.pointer (some ⟨α 7, 0, none⟩)), .int .i32 loc, .string ⟨#[95]⟩, .int .i32 loc, .int .u8 0, .bool false, .bool false, .bool false], .pointer (some ⟨α 10, 0, none⟩), .iface 40 (.pointer (some ⟨α 10, 0, none⟩)), .agg #[.iface 40 (.pointer (some ⟨α 10, 0, none⟩)), .int .i32 loc]], []⟩ := by rw [← hfr]; kernel_rfl
  clear hfr
  subst hdf
  generalize α 6 = nd7 at hO ⊢
  generalize α 7 = nd8 at hO ⊢
  generalize α 10 = nd9 at hO ⊢
  generalize α 1007 = nd10 at hO ⊢
  clear α
  subst hX9_6
  have hN : Own w0 u [row (B4_3) 30 #[.iface 247 (.pointer (some ⟨B4_2, 0, none⟩)), .int .i32 loc], row (B4_1) 30 #[.iface 220 (.pointer (some ⟨B4, 0, none⟩)), .int .i32 loc], row (pb) 206 PC, row (B1_2) 30 #[.iface 40 (.pointer (some ⟨nd9, 0, none⟩)), .int .i32 loc], row (B1_1) 30 #[.iface kT (.pointer (some ⟨kx, 0, none⟩)), .int .i32 kl], row (B1) 28 #[.int .i32 loc], ((mp, .map #[⟨.string ⟨#[95, 95, 115, 117, 112, 101, 114, 87, 114, 97, 112, 112, 101, 114]⟩, .agg #[.int .i32 0, .int .u32 0, .int .u32 2], 0⟩, ⟨.string ⟨#[95, 95, 115, 117, 112, 101, 114, 71, 101, 116]⟩, .agg #[.int .i32 0, .int .u32 0, .int .u32 3], 1⟩, ⟨.string ⟨#[95, 95, 112, 114, 105, 118, 97, 116, 101, 87, 114, 97, 112, 112, 101, 114]⟩, .agg #[.int .i32 0, .int .u32 0, .int .u32 4], 2⟩] 3) : Rw), row (nd7) 30 #[.iface 220 (.pointer (some ⟨B4, 0, none⟩)), .int .i32 loc, .iface 247 (.pointer (some ⟨B4_2, 0, none⟩)), .int .i32 loc, .iface kT (.pointer (some ⟨kx, 0, none⟩)), .int .i32 kl], row (nd8) 56 #[.iface 220 (.pointer (some ⟨nd10, 0, none⟩)), .int .i32 loc, .slice (some ⟨nd7, 0, none⟩) 3 3, .int .i32 0, .int .u8 0, .int .u8 0, .bool false, .bool false], row (nd10) 223 #[.int .u32 0, .int .u32 2, .bool false, .bool false, .bool false], row (nd9) 44 #[.iface 52 (.pointer (some ⟨nd8, 0, none⟩)), .int .i32 loc, .string ⟨#[95]⟩, .int .i32 loc, .int .u8 0, .bool false, .bool false, .bool false], row (B4_2) 248 #[], row (B4) 223 #[.int .u32 0, .int .u32 1, .bool false, .bool false, .bool false], row (B1_3) 68 #[.int .u32 0, .int .u32 1], row (cr) 68 #[.int .u32 0, .int .u32 1]] X := hO.back HL.out HX.out [1, 3, 5, 10] (by decide) (by decide)
  clear hO HL HX
  have hO := hN
  clear hN
  obtain ⟨ix9, hix9, hax9, hjx9⟩ := hO.ix
  have ix9_0 : ix9 B4_3 = 0 := hjx9 0 _ _ rfl
  have ix9_1 : ix9 B4_1 = 1 := hjx9 1 _ _ rfl
  have ix9_2 : ix9 pb = 2 := hjx9 2 _ _ rfl
  have ix9_3 : ix9 B1_2 = 3 := hjx9 3 _ _ rfl
  have ix9_4 : ix9 B1_1 = 4 := hjx9 4 _ _ rfl
  have ix9_5 : ix9 B1 = 5 := hjx9 5 _ _ rfl
  have ix9_6 : ix9 mp = 6 := hjx9 6 _ _ rfl
  have ix9_7 : ix9 nd7 = 7 := hjx9 7 _ _ rfl
  have ix9_8 : ix9 nd8 = 8 := hjx9 8 _ _ rfl
  have ix9_9 : ix9 nd10 = 9 := hjx9 9 _ _ rfl
  have ix9_10 : ix9 nd9 = 10 := hjx9 10 _ _ rfl
  have ix9_11 : ix9 B4_2 = 11 := hjx9 11 _ _ rfl
  have ix9_12 : ix9 B4 = 12 := hjx9 12 _ _ rfl
  have ix9_13 : ix9 B1_3 = 13 := hjx9 13 _ _ rfl
  have ix9_14 : ix9 cr = 14 := hjx9 14 _ _ rfl
  clear hjx9
  obtain ⟨c9_0_0, c9_0_1, lt9_0, y9_0, pl9_0⟩ := hO.k2 0 rfl
  obtain ⟨c9_1_0, c9_1_1, lt9_1, y9_1, pl9_1⟩ := hO.k2 1 rfl
  have c9_2_32 : u.cell? ⟨pb, 32, none⟩ = some (.bool false) := hO.cell 2 rfl (32) (hD.ts)
  have c9_2_95 : u.cell? ⟨pb, 95, none⟩ = some (.bool false) := hO.cell 2 rfl (95) (hD.rep)
  have c9_2_96 : u.cell? ⟨pb, 96, none⟩ = some (.bool true) := hO.cell 2 rfl (96) (hD.stat)
  have c9_2_97 : u.cell? ⟨pb, 97, none⟩ = some (.pointer (some ⟨cr, 0, none⟩)) := hO.cell 2 rfl (97) (hD.cls)
  have c9_2_117 : u.cell? ⟨pb, 117, none⟩ = some (.map (some mp)) := hO.cell 2 rfl (117) (hD.imp)
  have c9_2_350 : u.cell? ⟨pb, 350, none⟩ = some (.bool true) := hO.cell 2 rfl (350) (hD.dead)
  have lt9_2 : pb < u.heap.size := hO.lt 2 rfl
  have y9_2 : ∀ o, u.frozen? ⟨pb, o, none⟩ = false := hO.free 2 rfl
  obtain ⟨c9_3_0, c9_3_1, lt9_3, y9_3, pl9_3⟩ := hO.k2 3 rfl
  obtain ⟨c9_4_0, c9_4_1, lt9_4, y9_4, pl9_4⟩ := hO.k2 4 rfl
  obtain ⟨c9_5_0, lt9_5, y9_5, pl9_5⟩ := hO.k1 5 rfl
  obtain ⟨c9_7_0, c9_7_1, c9_7_2, c9_7_3, c9_7_4, c9_7_5, lt9_7, y9_7, pl9_7⟩ := hO.k6 7 rfl
  obtain ⟨c9_8_0, c9_8_1, c9_8_2, c9_8_3, c9_8_4, c9_8_5, c9_8_6, c9_8_7, lt9_8, y9_8, -⟩ := hO.k8 8 rfl
  obtain ⟨c9_9_0, c9_9_1, c9_9_2, c9_9_3, c9_9_4, lt9_9, y9_9, pl9_9⟩ := hO.k5 9 rfl
  obtain ⟨c9_10_0, c9_10_1, c9_10_2, c9_10_3, c9_10_4, c9_10_5, c9_10_6, c9_10_7, lt9_10, y9_10, -⟩ := hO.k8 10 rfl
  obtain ⟨lt9_11, y9_11, -⟩ := hO.k0 11 rfl
  obtain ⟨c9_12_0, c9_12_1, c9_12_2, c9_12_3, c9_12_4, lt9_12, y9_12, pl9_12⟩ := hO.k5 12 rfl
  obtain ⟨c9_13_0, c9_13_1, lt9_13, y9_13, pl9_13⟩ := hO.k2 13 rfl
  obtain ⟨c9_14_0, c9_14_1, lt9_14, y9_14, pl9_14⟩ := hO.k2 14 rfl
  have HO := Lib.hid hO
  clear hO
  go_wp2_with (first | (with_reducible refine Own.stay (fn := Tryd.f36) ?_) | fail)
  try with_reducible refine Own.Stay.mk ?_
  have hO := HO.out
  clear HO hix9 hax9 ix9_0 ix9_1 ix9_2 ix9_3 ix9_4 ix9_5 ix9_6 ix9_7 ix9_8 ix9_9 ix9_10 ix9_11 ix9_12 ix9_13 ix9_14 ix9 c9_0_0 c9_0_1 lt9_0 y9_0 pl9_0 c9_1_0 c9_1_1 lt9_1 y9_1 pl9_1 c9_2_32 c9_2_95 c9_2_96 c9_2_97 c9_2_117 c9_2_350 lt9_2 y9_2 c9_3_0 c9_3_1 lt9_3 y9_3 pl9_3 c9_4_0 c9_4_1 lt9_4 y9_4 pl9_4 c9_5_0 lt9_5 y9_5 pl9_5 c9_7_0 c9_7_1 c9_7_2 c9_7_3 c9_7_4 c9_7_5 lt9_7 y9_7 pl9_7 c9_8_0 c9_8_1 c9_8_2 c9_8_3 c9_8_4 c9_8_5 c9_8_6 c9_8_7 lt9_8 y9_8 c9_9_0 c9_9_1 c9_9_2 c9_9_3 c9_9_4 lt9_9 y9_9 pl9_9 c9_10_0 c9_10_1 c9_10_2 c9_10_3 c9_10_4 c9_10_5 c9_10_6 c9_10_7 lt9_10 y9_10 lt9_11 y9_11 c9_12_0 c9_12_1 c9_12_2 c9_12_3 c9_12_4 lt9_12 y9_12 pl9_12 c9_13_0 c9_13_1 lt9_13 y9_13 pl9_13 c9_14_0 c9_14_1 lt9_14 y9_14 pl9_14
  have z9_3_0 : u.cell? ⟨B1_2, 0, none⟩ = some (.iface 40 (.pointer (some ⟨nd9, 0, none⟩))) := hO.cell 3 rfl 0 rfl
  have z9_3_1 : u.cell? ⟨B1_2, 1, none⟩ = some (.int .i32 loc) := hO.cell 3 rfl 1 rfl
  refine bodyPost_ret (v := .agg #[.iface 40 (.pointer (some ⟨nd9, 0, none⟩)), .int .i32 loc]) ?_ rfl ⟨nd8, nd10, nd7, B4, B4_2, nd9, rfl, hO.sub [2, 6, 14, 9, 8, 7, 12, 11, 10] (by decide)⟩
  simp [results, Tryd.results36, go_sem, z9_3_0, z9_3_1]
def rWrap002E (pb : Nat) (PC : Array Value) (mp : Nat) (loc : Int) (kT : Nat) (kx : Nat) (kl : Int) (B1_2 : Nat) (B1_1 : Nat) (B1 : Nat) (B4_4 : Nat) (B4_3 : Nat) (B4_2 : Nat) (B4_1 : Nat) : Nat → Rega.Atoms → Value
  | 0, α => .agg #[.int .i32 loc]
  | 1, α => .pointer (some ⟨pb, 0, none⟩)
  | 2, α => .agg #[.int .i32 loc]
  | 3, α => .agg #[.iface 40 (.pointer (some ⟨B4_4, 0, none⟩)), .int .i32 loc]
  | 4, α => .agg #[.iface 247 (.pointer (some ⟨B4_2, 0, none⟩)), .int .i32 loc]
  | 5, α => .agg #[.iface kT (.pointer (some ⟨kx, 0, none⟩)), .int .i32 kl]
  | 6, α => .slice (some ⟨α 6, 0, none⟩) 3 3
  | 7, α => .agg #[.iface 52 (.pointer (some ⟨α 7, 0, none⟩)), .int .i32 loc]
  | 8, α => .agg #[.int .i32 loc]
  | 9, α => .agg #[.iface 52 (.pointer (some ⟨α 7, 0, none⟩)), .int .i32 loc, .string ⟨#[95]⟩, .int .i32 loc, .int .u8 0, .bool false, .bool false, .bool false]
  | 10, α => .pointer (some ⟨α 10, 0, none⟩)
  | 11, α => .iface 40 (.pointer (some ⟨α 10, 0, none⟩))
  | 12, α => .agg #[.iface 40 (.pointer (some ⟨α 10, 0, none⟩)), .int .i32 loc]
  | 13, α => undef
  | _, _ => undef
def rWrap002Anc : Nat → List Nat
  | 6 => [3, 4, 5]
  | 7 => [1, 2, 3, 4, 5, 6]
  | 9 => [1, 2, 3, 4, 5, 6, 7, 8]
  | 10 => [1, 2, 3, 4, 5, 6, 7, 8, 9]
  | 11 => [1, 2, 3, 4, 5, 6, 7, 8, 9, 10]
  | 12 => [0, 1, 2, 3, 4, 5, 6, 7, 8, 9, 10, 11]
  | 13 => [0, 1, 2, 3, 4, 5, 6, 7, 8, 9, 10, 11, 12]
  | _ => []
def rWrap002Trn : Nat → List Nat
  | 13 => [3999]
  | _ => []
def rWrap002Cnt : List (Nat × Nat) := [(6, 1), (7, 2), (10, 1)]
def rWrap002T3999 (pb : Nat) (PC : Array Value) (mp : Nat) (loc : Int) (kT : Nat) (kx : Nat) (kl : Int) (B1_2 : Nat) (B1_1 : Nat) (B1 : Nat) (B4_4 : Nat) (B4_3 : Nat) (B4_2 : Nat) (B4_1 : Nat) (L9 : Nat → Bool) (α : Rega.Atoms) : Rw := if L9 13 = true then row (B1_2) 30 #[.iface 40 (.pointer (some ⟨α 10, 0, none⟩)), .int .i32 loc] else row (B1_2) 30 #[.nilIface, .int .i32 0]
def rWrap002R (pb : Nat) (PC : Array Value) (mp : Nat) (loc : Int) (kT : Nat) (kx : Nat) (kl : Int) (B1_2 : Nat) (B1_1 : Nat) (B1 : Nat) (B4_4 : Nat) (B4_3 : Nat) (B4_2 : Nat) (B4_1 : Nat) (L9 : Nat → Bool) (α : Rega.Atoms) (ix9 : Nat) : Rw := if ix9 = 999 then row (B4_3) 30 #[.iface 247 (.pointer (some ⟨B4_2, 0, none⟩)), .int .i32 loc] else if ix9 = 1999 then row (B4_1) 30 #[.iface 40 (.pointer (some ⟨B4_4, 0, none⟩)), .int .i32 loc] else if ix9 = 2999 then row (pb) 206 PC else if ix9 = 3999 then rWrap002T3999 pb PC mp loc kT kx kl B1_2 B1_1 B1 B4_4 B4_3 B4_2 B4_1 L9 α else if ix9 = 4999 then row (B1_1) 30 #[.iface kT (.pointer (some ⟨kx, 0, none⟩)), .int .i32 kl] else if ix9 = 5999 then row (B1) 28 #[.int .i32 loc] else if ix9 = 6999 then ((mp, .map #[⟨.string ⟨#[95, 95, 115, 117, 112, 101, 114, 87, 114, 97, 112, 112, 101, 114]⟩, .agg #[.int .i32 0, .int .u32 0, .int .u32 2], 0⟩, ⟨.string ⟨#[95, 95, 115, 117, 112, 101, 114, 71, 101, 116]⟩, .agg #[.int .i32 0, .int .u32 0, .int .u32 3], 1⟩, ⟨.string ⟨#[95, 95, 112, 114, 105, 118, 97, 116, 101, 87, 114, 97, 112, 112, 101, 114]⟩, .agg #[.int .i32 0, .int .u32 0, .int .u32 4], 2⟩] 3) : Rw) else if ix9 = 6 then row (α 6) 30 #[.iface 40 (.pointer (some ⟨B4_4, 0, none⟩)), .int .i32 loc, .iface 247 (.pointer (some ⟨B4_2, 0, none⟩)), .int .i32 loc, .iface kT (.pointer (some ⟨kx, 0, none⟩)), .int .i32 kl] else if ix9 = 7 then row (α 7) 56 #[.iface 220 (.pointer (some ⟨α 1007, 0, none⟩)), .int .i32 loc, .slice (some ⟨α 6, 0, none⟩) 3 3, .int .i32 0, .int .u8 0, .int .u8 0, .bool false, .bool false] else if ix9 = 1007 then row (α 1007) 223 #[.int .u32 0, .int .u32 2, .bool false, .bool false, .bool false] else if ix9 = 10 then row (α 10) 44 #[.iface 52 (.pointer (some ⟨α 7, 0, none⟩)), .int .i32 loc, .string ⟨#[95]⟩, .int .i32 loc, .int .u8 0, .bool false, .bool false, .bool false] else (0, .map #[] 0)
theorem rWrap002_he (pb : Nat) (PC : Array Value) (mp : Nat) (loc : Int) (kT : Nat) (kx : Nat) (kl : Int) (B1_2 : Nat) (B1_1 : Nat) (B1 : Nat) (B4_4 : Nat) (B4_3 : Nat) (B4_2 : Nat) (B4_1 : Nat) : ∀ kk α α', (∀ j, (j % 1000 = kk ∨ j % 1000 ∈ rWrap002Anc kk) → α j = α' j) → rWrap002E pb PC mp loc kT kx kl B1_2 B1_1 B1 B4_4 B4_3 B4_2 B4_1 kk α = rWrap002E pb PC mp loc kT kx kl B1_2 B1_1 B1 B4_4 B4_3 B4_2 B4_1 kk α' := by
  intro kk α α' h
  match kk with
  | 0 => rfl
  | 1 => rfl
  | 2 => rfl
  | 3 => rfl
  | 4 => rfl
  | 5 => rfl
  | 6 => simp only [rWrap002E, h 6 (Or.inl rfl)]
  | 7 => simp only [rWrap002E, h 7 (Or.inl rfl)]
  | 8 => rfl
  | 9 => simp only [rWrap002E, h 7 (Or.inr (by decide))]
  | 10 => simp only [rWrap002E, h 10 (Or.inl rfl)]
  | 11 => simp only [rWrap002E, h 10 (Or.inr (by decide))]
  | 12 => simp only [rWrap002E, h 10 (Or.inr (by decide))]
  | 13 => rfl
  | n + 14 => rfl
theorem rWrap002_st (pb : Nat) (PC : Array Value) (mp : Nat) (loc : Int) (kT : Nat) (kx : Nat) (kl : Int) (B1_2 : Nat) (B1_1 : Nat) (B1 : Nat) (B4_4 : Nat) (B4_3 : Nat) (B4_2 : Nat) (B4_1 : Nat) : Stable rWrap002Cnt 7 rWrap002Anc rWrap002Trn (rWrap002R pb PC mp loc kT kx kl B1_2 B1_1 B1 B4_4 B4_3 B4_2 B4_1) := by
  intro k9 L9 α α' ix9 hk hcl hα hact ht
  have hp := act_places hact
  replace hp : ix9 ∈ [999, 1999, 2999, 3999, 4999, 5999, 6999, 6, 7, 1007, 10] := hp
  simp only [List.mem_cons, List.not_mem_nil, or_false] at hp
  rcases hp with rfl | rfl | rfl | rfl | rfl | rfl | rfl | rfl | rfl | rfl | rfl
  · rfl
  · rfl
  · rfl
  · show rWrap002T3999 pb PC mp loc kT kx kl B1_2 B1_1 B1 B4_4 B4_3 B4_2 B4_1 (Rega.ran L9 k9) α' = rWrap002T3999 pb PC mp loc kT kx kl B1_2 B1_1 B1 B4_4 B4_3 B4_2 B4_1 L9 α
    unfold rWrap002T3999
    have n13 : 13 ≠ k9 := fun e => ht (by rw [← e]; decide)
    rw [ran_ne n13]
    by_cases e13 : L9 13 = true
    · first | rw [if_pos e13, if_pos e13] | rw [if_pos e13]
      try simp only [hα 10 (ne_ran hk (hcl 13 e13 10 (by decide)))]
    first | rw [if_neg e13, if_neg e13] | rw [if_neg e13]
  · rfl
  · rfl
  · rfl
  · have e0 : L9 6 = true := act_lt hact (by decide)
    show row (α' 6) 30 #[.iface 40 (.pointer (some ⟨B4_4, 0, none⟩)), .int .i32 loc, .iface 247 (.pointer (some ⟨B4_2, 0, none⟩)), .int .i32 loc, .iface kT (.pointer (some ⟨kx, 0, none⟩)), .int .i32 kl] = row (α 6) 30 #[.iface 40 (.pointer (some ⟨B4_4, 0, none⟩)), .int .i32 loc, .iface 247 (.pointer (some ⟨B4_2, 0, none⟩)), .int .i32 loc, .iface kT (.pointer (some ⟨kx, 0, none⟩)), .int .i32 kl]
    simp only [hα 6 (ne_ran hk e0)]
  · have e0 : L9 7 = true := act_lt hact (by decide)
    show row (α' 7) 56 #[.iface 220 (.pointer (some ⟨α' 1007, 0, none⟩)), .int .i32 loc, .slice (some ⟨α' 6, 0, none⟩) 3 3, .int .i32 0, .int .u8 0, .int .u8 0, .bool false, .bool false] = row (α 7) 56 #[.iface 220 (.pointer (some ⟨α 1007, 0, none⟩)), .int .i32 loc, .slice (some ⟨α 6, 0, none⟩) 3 3, .int .i32 0, .int .u8 0, .int .u8 0, .bool false, .bool false]
    simp only [hα 6 (ne_ran hk (hcl 7 e0 6 (by decide))), hα 7 (ne_ran hk e0), hα 1007 (ne_ran hk e0)]
  · have e0 : L9 7 = true := act_lt hact (by decide)
    show row (α' 1007) 223 #[.int .u32 0, .int .u32 2, .bool false, .bool false, .bool false] = row (α 1007) 223 #[.int .u32 0, .int .u32 2, .bool false, .bool false, .bool false]
    simp only [hα 1007 (ne_ran hk e0)]
  · have e0 : L9 10 = true := act_lt hact (by decide)
    show row (α' 10) 44 #[.iface 52 (.pointer (some ⟨α' 7, 0, none⟩)), .int .i32 loc, .string ⟨#[95]⟩, .int .i32 loc, .int .u8 0, .bool false, .bool false, .bool false] = row (α 10) 44 #[.iface 52 (.pointer (some ⟨α 7, 0, none⟩)), .int .i32 loc, .string ⟨#[95]⟩, .int .i32 loc, .int .u8 0, .bool false, .bool false, .bool false]
    simp only [hα 7 (ne_ran hk (hcl 10 e0 7 (by decide))), hα 10 (ne_ran hk e0)]
def supWrapniPost (pb : Nat) (PC : Array Value) (mp cr : Nat) (loc : Int) (kT kx : Nat) (kl : Int) (w0 : World) (X : Nat → Obj → Prop) (e : Ending) (w' : World) : Prop :=
  ∃ ca : Nat, ∃ b : Nat, ∃ sx : Nat, ∃ i1 : Nat, ∃ th : Nat, ∃ d1 : Nat, ∃ dd : Nat, e = .returned (.agg #[.iface 40 (.pointer (some ⟨dd, 0, none⟩)), .int .i32 loc]) ∧ Own w0 w' [row (pb) 206 PC, ((mp, .map #[⟨.string ⟨#[95, 95, 115, 117, 112, 101, 114, 87, 114, 97, 112, 112, 101, 114]⟩, .agg #[.int .i32 0, .int .u32 0, .int .u32 2], 0⟩, ⟨.string ⟨#[95, 95, 115, 117, 112, 101, 114, 71, 101, 116]⟩, .agg #[.int .i32 0, .int .u32 0, .int .u32 3], 1⟩, ⟨.string ⟨#[95, 95, 112, 114, 105, 118, 97, 116, 101, 87, 114, 97, 112, 112, 101, 114]⟩, .agg #[.int .i32 0, .int .u32 0, .int .u32 4], 2⟩] 3) : Rw), row (cr) 68 #[.int .u32 0, .int .u32 1], row (b) 223 #[.int .u32 0, .int .u32 2, .bool false, .bool false, .bool false], row (ca) 56 #[.iface 220 (.pointer (some ⟨b, 0, none⟩)), .int .i32 loc, .slice (some ⟨sx, 0, none⟩) 3 3, .int .i32 0, .int .u8 0, .int .u8 0, .bool false, .bool false], row (sx) 30 #[.iface 40 (.pointer (some ⟨d1, 0, none⟩)), .int .i32 loc, .iface 247 (.pointer (some ⟨th, 0, none⟩)), .int .i32 loc, .iface kT (.pointer (some ⟨kx, 0, none⟩)), .int .i32 kl], row (i1) 223 #[.int .u32 0, .int .u32 1, .bool false, .bool false, .bool false], row (th) 248 #[], row (d1) 44 #[.iface 220 (.pointer (some ⟨i1, 0, none⟩)), .int .i32 loc, .string ⟨#[112, 114, 111, 116, 111, 116, 121, 112, 101]⟩, .int .i32 loc, .int .u8 0, .bool false, .bool false, .bool false], row (dd) 44 #[.iface 52 (.pointer (some ⟨ca, 0, none⟩)), .int .i32 loc, .string ⟨#[95]⟩, .int .i32 loc, .int .u8 0, .bool false, .bool false, .bool false]] X
set_option maxRecDepth 100000 in
set_option maxHeartbeats 1000000 in
theorem supWrapni (pb : Nat) (PC : Array Value) (mp cr : Nat) (loc : Int) (kT kx : Nat) (kl : Int) (w0 w : World) (X : Nat → Obj → Prop) (hO : Own w0 w [row (pb) 206 PC, ((mp, .map #[⟨.string ⟨#[95, 95, 115, 117, 112, 101, 114, 87, 114, 97, 112, 112, 101, 114]⟩, .agg #[.int .i32 0, .int .u32 0, .int .u32 2], 0⟩, ⟨.string ⟨#[95, 95, 115, 117, 112, 101, 114, 71, 101, 116]⟩, .agg #[.int .i32 0, .int .u32 0, .int .u32 3], 1⟩, ⟨.string ⟨#[95, 95, 112, 114, 105, 118, 97, 116, 101, 87, 114, 97, 112, 112, 101, 114]⟩, .agg #[.int .i32 0, .int .u32 0, .int .u32 4], 2⟩] 3) : Rw), row (cr) 68 #[.int .u32 0, .int .u32 1]] X) (hD : Dead PC mp cr false false) :
    Calls Tryd.prog 36 #[.pointer (some ⟨pb, 0, none⟩), .agg #[.int .i32 loc], .agg #[.iface kT (.pointer (some ⟨kx, 0, none⟩)), .int .i32 kl]] w (supWrapniPost pb PC mp cr loc kT kx kl w0 X) := by
  go_enter Tryd.func36, Tryd.ntmps36
  obtain ⟨ix9, hix9, hax9, hjx9⟩ := hO.ix
  have ix9_0 : ix9 pb = 0 := hjx9 0 _ _ rfl
  have ix9_1 : ix9 mp = 1 := hjx9 1 _ _ rfl
  have ix9_2 : ix9 cr = 2 := hjx9 2 _ _ rfl
  clear hjx9
  have c9_0_32 : w.cell? ⟨pb, 32, none⟩ = some (.bool false) := hO.cell 0 rfl (32) (hD.ts)
  have c9_0_95 : w.cell? ⟨pb, 95, none⟩ = some (.bool false) := hO.cell 0 rfl (95) (hD.rep)
  have c9_0_96 : w.cell? ⟨pb, 96, none⟩ = some (.bool false) := hO.cell 0 rfl (96) (hD.stat)
  have c9_0_97 : w.cell? ⟨pb, 97, none⟩ = some (.pointer (some ⟨cr, 0, none⟩)) := hO.cell 0 rfl (97) (hD.cls)
  have c9_0_117 : w.cell? ⟨pb, 117, none⟩ = some (.map (some mp)) := hO.cell 0 rfl (117) (hD.imp)
  have c9_0_350 : w.cell? ⟨pb, 350, none⟩ = some (.bool true) := hO.cell 0 rfl (350) (hD.dead)
  have lt9_0 : pb < w.heap.size := hO.lt 0 rfl
  have y9_0 : ∀ o, w.frozen? ⟨pb, o, none⟩ = false := hO.free 0 rfl
  obtain ⟨c9_2_0, c9_2_1, lt9_2, y9_2, -⟩ := hO.k2 2 rfl
  have HO := Lib.hid hO
  clear hO
  go_wp2_with (first | (with_reducible refine Own.stay (fn := Tryd.f36) ?_) | fail)
  try with_reducible refine Own.Stay.mk ?_
  have hO := HO.out
  clear HO hix9 hax9 ix9_0 ix9_1 ix9_2 ix9 c9_0_32 c9_0_95 c9_0_96 c9_0_97 c9_0_117 c9_0_350 lt9_0 y9_0 c9_2_0 c9_2_1 lt9_2 y9_2
  generalize hW : World.alloc _ _ = W2
  have hN : Own w0 W2 [row (w.heap.size + 1 + 1 + 1) 68 #[.int .u32 0, .int .u32 1], row (w.heap.size + 1 + 1) 30 #[.nilIface, .int .i32 0], row (w.heap.size + 1) 30 #[.iface kT (.pointer (some ⟨kx, 0, none⟩)), .int .i32 kl], row (w.heap.size) 28 #[.int .i32 loc], row (pb) 206 PC, ((mp, .map #[⟨.string ⟨#[95, 95, 115, 117, 112, 101, 114, 87, 114, 97, 112, 112, 101, 114]⟩, .agg #[.int .i32 0, .int .u32 0, .int .u32 2], 0⟩, ⟨.string ⟨#[95, 95, 115, 117, 112, 101, 114, 71, 101, 116]⟩, .agg #[.int .i32 0, .int .u32 0, .int .u32 3], 1⟩, ⟨.string ⟨#[95, 95, 112, 114, 105, 118, 97, 116, 101, 87, 114, 97, 112, 112, 101, 114]⟩, .agg #[.int .i32 0, .int .u32 0, .int .u32 4], 2⟩] 3) : Rw), row (cr) 68 #[.int .u32 0, .int .u32 1]] X := by
    rw [← hW]
    exact ((((hO).alloc' _ (w.heap.size) (by simp)).alloc' _ (w.heap.size + 1) (by simp)).alloc' _ (w.heap.size + 1 + 1) (by simp)).alloc' _ (w.heap.size + 1 + 1 + 1) (by simp)
  clear hW hO
  generalize w.heap.size + 1 + 1 + 1 = B1_3 at hN ⊢
  generalize w.heap.size + 1 + 1 = B1_2 at hN ⊢
  generalize w.heap.size + 1 = B1_1 at hN ⊢
  generalize w.heap.size = B1 at hN ⊢
  have hO := hN
  clear hN
  have hL := hO.apart
  have hX := hO.apartX
  have HL := Lib.hid hL
  have HX := Lib.hid hX
  clear hL hX
  have hP9 := hO.pick [4] (by decide)
  have T9 := usageDead pb PC mp cr false false 0 1 _ _ _ hP9 hD
  refine Calls.mono T9 ?_
  clear hP9 T9
  rintro e u3 ⟨rfl, hQ⟩
  have hN : Own w0 u3 [row (pb) 206 PC, row (B1_3) 68 #[.int .u32 0, .int .u32 1], row (B1_2) 30 #[.nilIface, .int .i32 0], row (B1_1) 30 #[.iface kT (.pointer (some ⟨kx, 0, none⟩)), .int .i32 kl], row (B1) 28 #[.int .i32 loc], ((mp, .map #[⟨.string ⟨#[95, 95, 115, 117, 112, 101, 114, 87, 114, 97, 112, 112, 101, 114]⟩, .agg #[.int .i32 0, .int .u32 0, .int .u32 2], 0⟩, ⟨.string ⟨#[95, 95, 115, 117, 112, 101, 114, 71, 101, 116]⟩, .agg #[.int .i32 0, .int .u32 0, .int .u32 3], 1⟩, ⟨.string ⟨#[95, 95, 112, 114, 105, 118, 97, 116, 101, 87, 114, 97, 112, 112, 101, 114]⟩, .agg #[.int .i32 0, .int .u32 0, .int .u32 4], 2⟩] 3) : Rw), row (cr) 68 #[.int .u32 0, .int .u32 1]] X := hQ.back HL.out HX.out [0, 1, 2, 3, 5, 6] (by decide) (by decide)
  clear hQ HL HX hO
  have hO := hN
  clear hN
  obtain ⟨ix9, hix9, hax9, hjx9⟩ := hO.ix
  have ix9_0 : ix9 pb = 0 := hjx9 0 _ _ rfl
  have ix9_1 : ix9 B1_3 = 1 := hjx9 1 _ _ rfl
  have ix9_2 : ix9 B1_2 = 2 := hjx9 2 _ _ rfl
  have ix9_3 : ix9 B1_1 = 3 := hjx9 3 _ _ rfl
  have ix9_4 : ix9 B1 = 4 := hjx9 4 _ _ rfl
  have ix9_5 : ix9 mp = 5 := hjx9 5 _ _ rfl
  have ix9_6 : ix9 cr = 6 := hjx9 6 _ _ rfl
  clear hjx9
  have c9_0_32 : u3.cell? ⟨pb, 32, none⟩ = some (.bool false) := hO.cell 0 rfl (32) (hD.ts)
  have c9_0_95 : u3.cell? ⟨pb, 95, none⟩ = some (.bool false) := hO.cell 0 rfl (95) (hD.rep)
  have c9_0_96 : u3.cell? ⟨pb, 96, none⟩ = some (.bool false) := hO.cell 0 rfl (96) (hD.stat)
  have c9_0_97 : u3.cell? ⟨pb, 97, none⟩ = some (.pointer (some ⟨cr, 0, none⟩)) := hO.cell 0 rfl (97) (hD.cls)
  have c9_0_117 : u3.cell? ⟨pb, 117, none⟩ = some (.map (some mp)) := hO.cell 0 rfl (117) (hD.imp)
  have c9_0_350 : u3.cell? ⟨pb, 350, none⟩ = some (.bool true) := hO.cell 0 rfl (350) (hD.dead)
  have lt9_0 : pb < u3.heap.size := hO.lt 0 rfl
  have y9_0 : ∀ o, u3.frozen? ⟨pb, o, none⟩ = false := hO.free 0 rfl
  obtain ⟨c9_1_0, c9_1_1, lt9_1, y9_1, pl9_1⟩ := hO.k2 1 rfl
  obtain ⟨c9_2_0, c9_2_1, lt9_2, y9_2, pl9_2⟩ := hO.k2 2 rfl
  obtain ⟨c9_3_0, c9_3_1, lt9_3, y9_3, pl9_3⟩ := hO.k2 3 rfl
  obtain ⟨c9_4_0, lt9_4, y9_4, pl9_4⟩ := hO.k1 4 rfl
  obtain ⟨c9_6_0, c9_6_1, lt9_6, y9_6, pl9_6⟩ := hO.k2 6 rfl
  have HO := Lib.hid hO
  clear hO
  go_wp2_with (first | (with_reducible refine Own.stay (fn := Tryd.f36) ?_) | fail)
  try with_reducible refine Own.Stay.mk ?_
  have hO := HO.out
  clear HO hix9 hax9 ix9_0 ix9_1 ix9_2 ix9_3 ix9_4 ix9_5 ix9_6 ix9 c9_0_32 c9_0_95 c9_0_96 c9_0_97 c9_0_117 c9_0_350 lt9_0 y9_0 c9_1_0 c9_1_1 lt9_1 y9_1 pl9_1 c9_2_0 c9_2_1 lt9_2 y9_2 pl9_2 c9_3_0 c9_3_1 lt9_3 y9_3 pl9_3 c9_4_0 lt9_4 y9_4 pl9_4 c9_6_0 c9_6_1 lt9_6 y9_6 pl9_6
  generalize hW : World.alloc _ _ = W5
  have hN : Own w0 W5 [row (u3.heap.size + 1 + 1 + 1 + 1) 44 #[.iface 220 (.pointer (some ⟨u3.heap.size, 0, none⟩)), .int .i32 loc, .string ⟨#[112, 114, 111, 116, 111, 116, 121, 112, 101]⟩, .int .i32 loc, .int .u8 0, .bool false, .bool false, .bool false], row (u3.heap.size + 1 + 1 + 1) 30 #[.iface 247 (.pointer (some ⟨u3.heap.size + 1 + 1, 0, none⟩)), .int .i32 loc], row (u3.heap.size + 1 + 1) 248 #[], row (u3.heap.size + 1) 30 #[.iface 40 (.pointer (some ⟨u3.heap.size + 1 + 1 + 1 + 1, 0, none⟩)), .int .i32 loc], row (u3.heap.size) 223 #[.int .u32 0, .int .u32 1, .bool false, .bool false, .bool false], row (pb) 206 PC, row (B1_3) 68 #[.int .u32 0, .int .u32 1], row (B1_2) 30 #[.nilIface, .int .i32 0], row (B1_1) 30 #[.iface kT (.pointer (some ⟨kx, 0, none⟩)), .int .i32 kl], row (B1) 28 #[.int .i32 loc], ((mp, .map #[⟨.string ⟨#[95, 95, 115, 117, 112, 101, 114, 87, 114, 97, 112, 112, 101, 114]⟩, .agg #[.int .i32 0, .int .u32 0, .int .u32 2], 0⟩, ⟨.string ⟨#[95, 95, 115, 117, 112, 101, 114, 71, 101, 116]⟩, .agg #[.int .i32 0, .int .u32 0, .int .u32 3], 1⟩, ⟨.string ⟨#[95, 95, 112, 114, 105, 118, 97, 116, 101, 87, 114, 97, 112, 112, 101, 114]⟩, .agg #[.int .i32 0, .int .u32 0, .int .u32 4], 2⟩] 3) : Rw), row (cr) 68 #[.int .u32 0, .int .u32 1]] X := by
    rw [← hW]
    exact (((((hO).alloc' _ (u3.heap.size) (by simp)).alloc' _ (u3.heap.size + 1) (by simp)).alloc' _ (u3.heap.size + 1 + 1) (by simp)).alloc' _ (u3.heap.size + 1 + 1 + 1) (by simp)).alloc' _ (u3.heap.size + 1 + 1 + 1 + 1) (by simp)
  clear hW hO
  generalize u3.heap.size + 1 + 1 + 1 + 1 = B4_4 at hN ⊢
  generalize u3.heap.size + 1 + 1 + 1 = B4_3 at hN ⊢
  generalize u3.heap.size + 1 + 1 = B4_2 at hN ⊢
  generalize u3.heap.size + 1 = B4_1 at hN ⊢
  generalize u3.heap.size = B4 at hN ⊢
  have hO := hN
  clear hN
  have hL := hO.apart
  have hX := hO.apartX
  have HL := Lib.hid hL
  have HX := Lib.hid hX
  clear hL hX
  have hP9 := hO.pick [1, 3, 5, 7, 8, 9, 10] (by decide)
  generalize hX9_6 : Own.Rest _ _ X = X9_6 at hP9
  replace hP9 : Own w0 W5 [row (B4_3) 30 #[.iface 247 (.pointer (some ⟨B4_2, 0, none⟩)), .int .i32 loc], row (B4_1) 30 #[.iface 40 (.pointer (some ⟨B4_4, 0, none⟩)), .int .i32 loc], row (pb) 206 PC, row (B1_2) 30 #[.nilIface, .int .i32 0], row (B1_1) 30 #[.iface kT (.pointer (some ⟨kx, 0, none⟩)), .int .i32 kl], row (B1) 28 #[.int .i32 loc], ((mp, .map #[⟨.string ⟨#[95, 95, 115, 117, 112, 101, 114, 87, 114, 97, 112, 112, 101, 114]⟩, .agg #[.int .i32 0, .int .u32 0, .int .u32 2], 0⟩, ⟨.string ⟨#[95, 95, 115, 117, 112, 101, 114, 71, 101, 116]⟩, .agg #[.int .i32 0, .int .u32 0, .int .u32 3], 1⟩, ⟨.string ⟨#[95, 95, 112, 114, 105, 118, 97, 116, 101, 87, 114, 97, 112, 112, 101, 114]⟩, .agg #[.int .i32 0, .int .u32 0, .int .u32 4], 2⟩] 3) : Rw)] X9_6 := hP9
  clear hO
  have hO := hP9
  clear hP9
  have st9 := rWrap002_st pb PC mp loc kT kx kl B1_2 B1_1 B1 B4_4 B4_3 B4_2 B4_1
  let R9 := rWrap002R pb PC mp loc kT kx kl B1_2 B1_1 B1 B4_4 B4_3 B4_2 B4_1
  refine wp_region_own (e := rWrap002E pb PC mp loc kT kx kl B1_2 B1_1 B1 B4_4 B4_3 B4_2 B4_1) (anc := rWrap002Anc) (G := (fun L9 α u9 => OwnF w0 u9 (act rWrap002Cnt 7 L9) (rWrap002R pb PC mp loc kT kx kl B1_2 B1_1 B1 B4_4 B4_3 B4_2 B4_1 L9 α) X9_6)) (by kernel_rfl) (by kernel_rfl) (by kernel_rfl) (by kernel_rfl) (rWrap002_he pb PC mp loc kT kx kl B1_2 B1_1 B1 B4_4 B4_3 B4_2 B4_1) ?_ (RunsAll.all ?_) ?_
  · have hp : ∀ i, act rWrap002Cnt 7 (fun _ => false) i → i ∈ [999, 1999, 2999, 3999, 4999, 5999, 6999] := by
      intro i hi
      have h9 : i % 1000 = 999 := by
        by_cases h : i % 1000 = 999
        · exact h
        · exact absurd (act_lt hi h) (by simp)
      unfold act at hi
      rw [if_pos h9] at hi
      simp only [List.mem_cons, List.not_mem_nil, or_false]
      omega
    refine hO.drew.family (fun i hi => ?_) (fun i j hi hj hij => ?_)
    · have := hp i hi
      simp only [List.mem_cons, List.not_mem_nil, or_false] at this
      rcases this with rfl | rfl | rfl | rfl | rfl | rfl | rfl <;> rfl
    · have h1 := hp i hi
      have h2 := hp j hj
      simp only [List.mem_cons, List.not_mem_nil, or_false] at h1 h2
      omega
  · refine ⟨?_, ?_, ?_, ?_, ?_, ?_, ?_, ?_, ?_, ?_, ?_, ?_, ?_, ?_, trivial⟩
    · intro L9 α a9 u9 K9 hL hcl hA hG hS h0 h1 hK
      replace hL : L9 0 = false := hL
      have q4 : a9.tmps[4]? = some (.pointer (some ⟨B1, 0, none⟩)) := (h0 4 (by kernel_rfl)).trans rfl
      have s4 := Rega.eval_of q4
      have e0 : R9 L9 α 5999 = row (B1) 28 #[.int .i32 loc] := rfl
      have hr := hG.rowAt 5999 (act_base 5999 rfl) e0
      have c0 : u9.cell? ⟨B1, 0, none⟩ = some (.int .i32 loc) := hr.cell rfl
      clear hr e0
      go_simp
      exact hK _ α _ (fun _ _ => rfl) rfl (step_same (st9) hL hcl rfl rfl hG)
    · intro L9 α a9 u9 K9 hL hcl hA hG hS h0 h1 hK
      replace hL : L9 1 = false := hL
      have q0 : a9.tmps[0]? = some (.pointer (some ⟨pb, 0, none⟩)) := (h0 0 (by kernel_rfl)).trans rfl
      have s0 := Rega.eval_of q0
      go_simp
      exact hK _ α _ (fun _ _ => rfl) rfl (step_same (st9) hL hcl rfl rfl hG)
    · intro L9 α a9 u9 K9 hL hcl hA hG hS h0 h1 hK
      replace hL : L9 2 = false := hL
      have q4 : a9.tmps[4]? = some (.pointer (some ⟨B1, 0, none⟩)) := (h0 4 (by kernel_rfl)).trans rfl
      have s4 := Rega.eval_of q4
      have e0 : R9 L9 α 5999 = row (B1) 28 #[.int .i32 loc] := rfl
      have hr := hG.rowAt 5999 (act_base 5999 rfl) e0
      have c0 : u9.cell? ⟨B1, 0, none⟩ = some (.int .i32 loc) := hr.cell rfl
      clear hr e0
      go_simp
      exact hK _ α _ (fun _ _ => rfl) rfl (step_same (st9) hL hcl rfl rfl hG)
    · intro L9 α a9 u9 K9 hL hcl hA hG hS h0 h1 hK
      replace hL : L9 3 = false := hL
      have q8 : a9.tmps[8]? = some (.pointer (some ⟨B4_1, 0, none⟩)) := (h0 8 (by kernel_rfl)).trans rfl
      have s8 := Rega.eval_of q8
      have e0 : R9 L9 α 1999 = row (B4_1) 30 #[.iface 40 (.pointer (some ⟨B4_4, 0, none⟩)), .int .i32 loc] := rfl
      have hr := hG.rowAt 1999 (act_base 1999 rfl) e0
      have c0 : u9.cell? ⟨B4_1, 0, none⟩ = some (.iface 40 (.pointer (some ⟨B4_4, 0, none⟩))) := hr.cell rfl
      have c1 : u9.cell? ⟨B4_1, 1, none⟩ = some (.int .i32 loc) := hr.cell rfl
      clear hr e0
      go_simp
      exact hK _ α _ (fun _ _ => rfl) rfl (step_same (st9) hL hcl rfl rfl hG)
    · intro L9 α a9 u9 K9 hL hcl hA hG hS h0 h1 hK
      replace hL : L9 4 = false := hL
      have q9 : a9.tmps[9]? = some (.pointer (some ⟨B4_3, 0, none⟩)) := (h0 9 (by kernel_rfl)).trans rfl
      have s9 := Rega.eval_of q9
      have e0 : R9 L9 α 999 = row (B4_3) 30 #[.iface 247 (.pointer (some ⟨B4_2, 0, none⟩)), .int .i32 loc] := rfl
      have hr := hG.rowAt 999 (act_base 999 rfl) e0
      have c0 : u9.cell? ⟨B4_3, 0, none⟩ = some (.iface 247 (.pointer (some ⟨B4_2, 0, none⟩))) := hr.cell rfl
      have c1 : u9.cell? ⟨B4_3, 1, none⟩ = some (.int .i32 loc) := hr.cell rfl
      clear hr e0
      go_simp
      exact hK _ α _ (fun _ _ => rfl) rfl (step_same (st9) hL hcl rfl rfl hG)
    · intro L9 α a9 u9 K9 hL hcl hA hG hS h0 h1 hK
      replace hL : L9 5 = false := hL
      have q5 : a9.tmps[5]? = some (.pointer (some ⟨B1_1, 0, none⟩)) := (h0 5 (by kernel_rfl)).trans rfl
      have s5 := Rega.eval_of q5
      have e0 : R9 L9 α 4999 = row (B1_1) 30 #[.iface kT (.pointer (some ⟨kx, 0, none⟩)), .int .i32 kl] := rfl
      have hr := hG.rowAt 4999 (act_base 4999 rfl) e0
      have c0 : u9.cell? ⟨B1_1, 0, none⟩ = some (.iface kT (.pointer (some ⟨kx, 0, none⟩))) := hr.cell rfl
      have c1 : u9.cell? ⟨B1_1, 1, none⟩ = some (.int .i32 kl) := hr.cell rfl
      clear hr e0
      go_simp
      exact hK _ α _ (fun _ _ => rfl) rfl (step_same (st9) hL hcl rfl rfl hG)
    · intro L9 α a9 u9 K9 hL hcl hA hG hS h0 h1 hK
      replace hL : L9 6 = false := hL
      have q59 : a9.tmps[59]? = some (.agg #[.iface 40 (.pointer (some ⟨B4_4, 0, none⟩)), .int .i32 loc]) := hS 3 59 (by decide) rfl (by show 59 < 69; decide)
      have s59 := Rega.eval_of q59
      have q60 : a9.tmps[60]? = some (.agg #[.iface 247 (.pointer (some ⟨B4_2, 0, none⟩)), .int .i32 loc]) := hS 4 60 (by decide) rfl (by show 60 < 69; decide)
      have s60 := Rega.eval_of q60
      have q61 : a9.tmps[61]? = some (.agg #[.iface kT (.pointer (some ⟨kx, 0, none⟩)), .int .i32 kl]) := hS 5 61 (by decide) rfl (by show 61 < 69; decide)
      have s61 := Rega.eval_of q61
      go_simp
      exact hK _ (fun j => if j = 6 then u9.heap.size else α j) _ (fun j hj => if_neg (fun e => hj (by rw [e]))) rfl (step_alloc (st9) hL hcl rfl rfl (by decide) _ rfl hG)
    · intro L9 α a9 u9 K9 hL hcl hA hG hS h0 h1 hK
      replace hL : L9 7 = false := hL
      have q57 : a9.tmps[57]? = some (.pointer (some ⟨pb, 0, none⟩)) := hS 1 57 (by decide) rfl (by show 57 < 69; decide)
      have s57 := Rega.eval_of q57
      have q58 : a9.tmps[58]? = some (.agg #[.int .i32 loc]) := hS 2 58 (by decide) rfl (by show 58 < 69; decide)
      have s58 := Rega.eval_of q58
      have q62 : a9.tmps[62]? = some (.slice (some ⟨α 6, 0, none⟩) 3 3) := hS 6 62 (by decide) rfl (by show 62 < 69; decide)
      have s62 := Rega.eval_of q62
      go_simp
      have e0 : R9 L9 α 2999 = row (pb) 206 PC := rfl
      have e1 : R9 L9 α 6999 = ((mp, .map #[⟨.string ⟨#[95, 95, 115, 117, 112, 101, 114, 87, 114, 97, 112, 112, 101, 114]⟩, .agg #[.int .i32 0, .int .u32 0, .int .u32 2], 0⟩, ⟨.string ⟨#[95, 95, 115, 117, 112, 101, 114, 71, 101, 116]⟩, .agg #[.int .i32 0, .int .u32 0, .int .u32 3], 1⟩, ⟨.string ⟨#[95, 95, 112, 114, 105, 118, 97, 116, 101, 87, 114, 97, 112, 112, 101, 114]⟩, .agg #[.int .i32 0, .int .u32 0, .int .u32 4], 2⟩] 3) : Rw) := rfl
      have hM : ∀ i, i ∈ [2999, 6999] → act rWrap002Cnt 7 L9 i := by
        intro i hi
        simp only [List.mem_cons, List.not_mem_nil, or_false] at hi
        rcases hi with rfl | rfl
        · exact act_base 2999 rfl
        · exact act_base 6999 rfl
      have hP : Own w0 u9 [row (pb) 206 PC, ((mp, .map #[⟨.string ⟨#[95, 95, 115, 117, 112, 101, 114, 87, 114, 97, 112, 112, 101, 114]⟩, .agg #[.int .i32 0, .int .u32 0, .int .u32 2], 0⟩, ⟨.string ⟨#[95, 95, 115, 117, 112, 101, 114, 71, 101, 116]⟩, .agg #[.int .i32 0, .int .u32 0, .int .u32 3], 1⟩, ⟨.string ⟨#[95, 95, 112, 114, 105, 118, 97, 116, 101, 87, 114, 97, 112, 112, 101, 114]⟩, .agg #[.int .i32 0, .int .u32 0, .int .u32 4], 2⟩] 3) : Rw)] _ := (hG.pick [2999, 6999] (by decide) hM).conv (by
        show [R9 L9 α 2999, R9 L9 α 6999] = _
        rw [e0, e1])
      clear e0 e1 hM
      refine Calls.mono (callRW pb PC mp cr false false loc (α 6) 3 3 _ _ _ hP hD) ?_
      rintro e9 u1 ⟨b0, b1, rfl, hQ⟩
      obtain ⟨α', hα'⟩ : ∃ α' : Rega.Atoms, α' = (fun j => if j = 7 then b0 else if j = 1007 then b1 else α j) := ⟨_, rfl⟩
      have f0 : R9 (Rega.ran L9 7) α' 2999 = row (pb) 206 PC := rfl
      have f1 : R9 (Rega.ran L9 7) α' 6999 = ((mp, .map #[⟨.string ⟨#[95, 95, 115, 117, 112, 101, 114, 87, 114, 97, 112, 112, 101, 114]⟩, .agg #[.int .i32 0, .int .u32 0, .int .u32 2], 0⟩, ⟨.string ⟨#[95, 95, 115, 117, 112, 101, 114, 71, 101, 116]⟩, .agg #[.int .i32 0, .int .u32 0, .int .u32 3], 1⟩, ⟨.string ⟨#[95, 95, 112, 114, 105, 118, 97, 116, 101, 87, 114, 97, 112, 112, 101, 114]⟩, .agg #[.int .i32 0, .int .u32 0, .int .u32 4], 2⟩] 3) : Rw) := rfl
      have f2 : R9 (Rega.ran L9 7) α' 1007 = row (α' 1007) 223 #[.int .u32 0, .int .u32 2, .bool false, .bool false, .bool false] := rfl
      have f3 : R9 (Rega.ran L9 7) α' 7 = row (α' 7) 56 #[.iface 220 (.pointer (some ⟨α' 1007, 0, none⟩)), .int .i32 loc, .slice (some ⟨α' 6, 0, none⟩) 3 3, .int .i32 0, .int .u8 0, .int .u8 0, .bool false, .bool false] := rfl
      have hα : ∀ j, j % 1000 ≠ 7 → α' j = α j := fun j hj => by rw [hα']; simp only []; rw [if_neg (by omega), if_neg (by omega)]
      have hb0 : α' 7 = b0 := by rw [hα']; rfl
      have hb1 : α' 1007 = b1 := by rw [hα']; rfl
      have ha6 : α' 6 = α 6 := hα 6 (by decide)
      skip
      refine hK _ α' _ hα ?_ (step_call (st9) hL hcl hα [2999, 6999] [2999, 6999, 1007, 7] (by decide) (by decide) (by decide) (M := _) ?_ hG hQ)
      · show _ = (.agg #[.iface 52 (.pointer (some ⟨α' 7, 0, none⟩)), .int .i32 loc] : Value)
        simp only [hb0]
      · show [R9 (Rega.ran L9 7) α' 2999, R9 (Rega.ran L9 7) α' 6999, R9 (Rega.ran L9 7) α' 1007, R9 (Rega.ran L9 7) α' 7] = _
        rw [f0, f1, f2, f3]
        simp only [hb0, hb1, ha6]
        try rfl
    · intro L9 α a9 u9 K9 hL hcl hA hG hS h0 h1 hK
      replace hL : L9 8 = false := hL
      have q4 : a9.tmps[4]? = some (.pointer (some ⟨B1, 0, none⟩)) := (h0 4 (by kernel_rfl)).trans rfl
      have s4 := Rega.eval_of q4
      have e0 : R9 L9 α 5999 = row (B1) 28 #[.int .i32 loc] := rfl
      have hr := hG.rowAt 5999 (act_base 5999 rfl) e0
      have c0 : u9.cell? ⟨B1, 0, none⟩ = some (.int .i32 loc) := hr.cell rfl
      clear hr e0
      go_simp
      exact hK _ α _ (fun _ _ => rfl) rfl (step_same (st9) hL hcl rfl rfl hG)
    · intro L9 α a9 u9 K9 hL hcl hA hG hS h0 h1 hK
      replace hL : L9 9 = false := hL
      have q63 : a9.tmps[63]? = some (.agg #[.iface 52 (.pointer (some ⟨α 7, 0, none⟩)), .int .i32 loc]) := hS 7 63 (by decide) rfl (by show 63 < 69; decide)
      have s63 := Rega.eval_of q63
      have q64 : a9.tmps[64]? = some (.agg #[.int .i32 loc]) := hS 8 64 (by decide) rfl (by show 64 < 69; decide)
      have s64 := Rega.eval_of q64
      go_simp
      exact hK _ α _ (fun _ _ => rfl) rfl (step_same (st9) hL hcl rfl rfl hG)
    · intro L9 α a9 u9 K9 hL hcl hA hG hS h0 h1 hK
      replace hL : L9 10 = false := hL
      have q65 : a9.tmps[65]? = some (.agg #[.iface 52 (.pointer (some ⟨α 7, 0, none⟩)), .int .i32 loc, .string ⟨#[95]⟩, .int .i32 loc, .int .u8 0, .bool false, .bool false, .bool false]) := hS 9 65 (by decide) rfl (by show 65 < 69; decide)
      have s65 := Rega.eval_of q65
      go_simp
      exact hK _ (fun j => if j = 10 then u9.heap.size else α j) _ (fun j hj => if_neg (fun e => hj (by rw [e]))) rfl (step_alloc (st9) hL hcl rfl rfl (by decide) _ rfl hG)
    · intro L9 α a9 u9 K9 hL hcl hA hG hS h0 h1 hK
      replace hL : L9 11 = false := hL
      have q66 : a9.tmps[66]? = some (.pointer (some ⟨α 10, 0, none⟩)) := hS 10 66 (by decide) rfl (by show 66 < 69; decide)
      have s66 := Rega.eval_of q66
      go_simp
      exact hK _ α _ (fun _ _ => rfl) rfl (step_same (st9) hL hcl rfl rfl hG)
    · intro L9 α a9 u9 K9 hL hcl hA hG hS h0 h1 hK
      replace hL : L9 12 = false := hL
      have q56 : a9.tmps[56]? = some (.agg #[.int .i32 loc]) := hS 0 56 (by decide) rfl (by show 56 < 69; decide)
      have s56 := Rega.eval_of q56
      have q67 : a9.tmps[67]? = some (.iface 40 (.pointer (some ⟨α 10, 0, none⟩))) := hS 11 67 (by decide) rfl (by show 67 < 69; decide)
      have s67 := Rega.eval_of q67
      go_simp
      exact hK _ α _ (fun _ _ => rfl) rfl (step_same (st9) hL hcl rfl rfl hG)
    · intro L9 α a9 u9 K9 hL hcl hA hG hS h0 h1 hK
      replace hL : L9 13 = false := hL
      have q6 : a9.tmps[6]? = some (.pointer (some ⟨B1_2, 0, none⟩)) := (h0 6 (by kernel_rfl)).trans rfl
      have s6 := Rega.eval_of q6
      have q68 : a9.tmps[68]? = some (.agg #[.iface 40 (.pointer (some ⟨α 10, 0, none⟩)), .int .i32 loc]) := hS 12 68 (by decide) rfl (by show 68 < 69; decide)
      have s68 := Rega.eval_of q68
      have e0 : R9 L9 α 3999 = row (B1_2) 30 #[.nilIface, .int .i32 0] := by
        show rWrap002T3999 pb PC mp loc kT kx kl B1_2 B1_1 B1 B4_4 B4_3 B4_2 B4_1 L9 α = _
        unfold rWrap002T3999
        rw [if_neg (by rw [hL]; decide)]
      have hr := hG.rowAt 3999 (act_base 3999 rfl) e0
      have c0 : u9.cell? ⟨B1_2, 0, none⟩ = some (.nilIface) := hr.cell rfl
      have y0 : u9.frozen? ⟨B1_2, 0, none⟩ = false := hr.free (0)
      have c1 : u9.cell? ⟨B1_2, 1, none⟩ = some (.int .i32 0) := hr.cell rfl
      have y1 : u9.frozen? ⟨B1_2, 1, none⟩ = false := hr.free (1)
      clear hr
      have E0 := Lib.hid e0
      clear e0
      go_simp
      have e1 : R9 (Rega.ran L9 13) α 3999 = row (B1_2) 30 #[.iface 40 (.pointer (some ⟨α 10, 0, none⟩)), .int .i32 loc] := by
        show rWrap002T3999 pb PC mp loc kT kx kl B1_2 B1_1 B1 B4_4 B4_3 B4_2 B4_1 (Rega.ran L9 13) α = _
        unfold rWrap002T3999
        rw [if_pos (show Rega.ran L9 13 13 = true from rfl)]
      exact hK _ α _ (fun _ _ => rfl) rfl (step_sets (st9) hL hcl rfl 3999 rfl (act_base 3999 rfl) E0.out (0) [.iface 40 (.pointer (some ⟨α 10, 0, none⟩)), .int .i32 loc] (e1.trans rfl) hG)
  clear st9
  intro α u hG
  have e0 : R9 (fun k => decide (k < 14)) α 999 = row (B4_3) 30 #[.iface 247 (.pointer (some ⟨B4_2, 0, none⟩)), .int .i32 loc] := rfl
  have e1 : R9 (fun k => decide (k < 14)) α 1999 = row (B4_1) 30 #[.iface 40 (.pointer (some ⟨B4_4, 0, none⟩)), .int .i32 loc] := rfl
  have e2 : R9 (fun k => decide (k < 14)) α 2999 = row (pb) 206 PC := rfl
  have e3 : R9 (fun k => decide (k < 14)) α 3999 = row (B1_2) 30 #[.iface 40 (.pointer (some ⟨α 10, 0, none⟩)), .int .i32 loc] := by
    show rWrap002T3999 pb PC mp loc kT kx kl B1_2 B1_1 B1 B4_4 B4_3 B4_2 B4_1 (fun k => decide (k < 14)) α = _
    unfold rWrap002T3999
    rw [if_pos (by decide)]
  have e4 : R9 (fun k => decide (k < 14)) α 4999 = row (B1_1) 30 #[.iface kT (.pointer (some ⟨kx, 0, none⟩)), .int .i32 kl] := rfl
  have e5 : R9 (fun k => decide (k < 14)) α 5999 = row (B1) 28 #[.int .i32 loc] := rfl
  have e6 : R9 (fun k => decide (k < 14)) α 6999 = ((mp, .map #[⟨.string ⟨#[95, 95, 115, 117, 112, 101, 114, 87, 114, 97, 112, 112, 101, 114]⟩, .agg #[.int .i32 0, .int .u32 0, .int .u32 2], 0⟩, ⟨.string ⟨#[95, 95, 115, 117, 112, 101, 114, 71, 101, 116]⟩, .agg #[.int .i32 0, .int .u32 0, .int .u32 3], 1⟩, ⟨.string ⟨#[95, 95, 112, 114, 105, 118, 97, 116, 101, 87, 114, 97, 112, 112, 101, 114]⟩, .agg #[.int .i32 0, .int .u32 0, .int .u32 4], 2⟩] 3) : Rw) := rfl
  have e7 : R9 (fun k => decide (k < 14)) α 6 = row (α 6) 30 #[.iface 40 (.pointer (some ⟨B4_4, 0, none⟩)), .int .i32 loc, .iface 247 (.pointer (some ⟨B4_2, 0, none⟩)), .int .i32 loc, .iface kT (.pointer (some ⟨kx, 0, none⟩)), .int .i32 kl] := rfl
  have e8 : R9 (fun k => decide (k < 14)) α 7 = row (α 7) 56 #[.iface 220 (.pointer (some ⟨α 1007, 0, none⟩)), .int .i32 loc, .slice (some ⟨α 6, 0, none⟩) 3 3, .int .i32 0, .int .u8 0, .int .u8 0, .bool false, .bool false] := rfl
  have e9 : R9 (fun k => decide (k < 14)) α 1007 = row (α 1007) 223 #[.int .u32 0, .int .u32 2, .bool false, .bool false, .bool false] := rfl
  have e10 : R9 (fun k => decide (k < 14)) α 10 = row (α 10) 44 #[.iface 52 (.pointer (some ⟨α 7, 0, none⟩)), .int .i32 loc, .string ⟨#[95]⟩, .int .i32 loc, .int .u8 0, .bool false, .bool false, .bool false] := rfl
  have hO : Own w0 u [row (B4_3) 30 #[.iface 247 (.pointer (some ⟨B4_2, 0, none⟩)), .int .i32 loc], row (B4_1) 30 #[.iface 40 (.pointer (some ⟨B4_4, 0, none⟩)), .int .i32 loc], row (pb) 206 PC, row (B1_2) 30 #[.iface 40 (.pointer (some ⟨α 10, 0, none⟩)), .int .i32 loc], row (B1_1) 30 #[.iface kT (.pointer (some ⟨kx, 0, none⟩)), .int .i32 kl], row (B1) 28 #[.int .i32 loc], ((mp, .map #[⟨.string ⟨#[95, 95, 115, 117, 112, 101, 114, 87, 114, 97, 112, 112, 101, 114]⟩, .agg #[.int .i32 0, .int .u32 0, .int .u32 2], 0⟩, ⟨.string ⟨#[95, 95, 115, 117, 112, 101, 114, 71, 101, 116]⟩, .agg #[.int .i32 0, .int .u32 0, .int .u32 3], 1⟩, ⟨.string ⟨#[95, 95, 112, 114, 105, 118, 97, 116, 101, 87, 114, 97, 112, 112, 101, 114]⟩, .agg #[.int .i32 0, .int .u32 0, .int .u32 4], 2⟩] 3) : Rw), row (α 6) 30 #[.iface 40 (.pointer (some ⟨B4_4, 0, none⟩)), .int .i32 loc, .iface 247 (.pointer (some ⟨B4_2, 0, none⟩)), .int .i32 loc, .iface kT (.pointer (some ⟨kx, 0, none⟩)), .int .i32 kl], row (α 7) 56 #[.iface 220 (.pointer (some ⟨α 1007, 0, none⟩)), .int .i32 loc, .slice (some ⟨α 6, 0, none⟩) 3 3, .int .i32 0, .int .u8 0, .int .u8 0, .bool false, .bool false], row (α 1007) 223 #[.int .u32 0, .int .u32 2, .bool false, .bool false, .bool false], row (α 10) 44 #[.iface 52 (.pointer (some ⟨α 7, 0, none⟩)), .int .i32 loc, .string ⟨#[95]⟩, .int .i32 loc, .int .u8 0, .bool false, .bool false, .bool false]] X9_6 := (hG.list [999, 1999, 2999, 3999, 4999, 5999, 6999, 6, 7, 1007, 10] (by decide) (act_all (by decide))).conv (by
    show [R9 (fun k => decide (k < 14)) α 999, R9 (fun k => decide (k < 14)) α 1999, R9 (fun k => decide (k < 14)) α 2999, R9 (fun k => decide (k < 14)) α 3999, R9 (fun k => decide (k < 14)) α 4999, R9 (fun k => decide (k < 14)) α 5999, R9 (fun k => decide (k < 14)) α 6999, R9 (fun k => decide (k < 14)) α 6, R9 (fun k => decide (k < 14)) α 7, R9 (fun k => decide (k < 14)) α 1007, R9 (fun k => decide (k < 14)) α 10] = _
    rw [e0, e1, e2, e3, e4, e5, e6, e7, e8, e9, e10])
  clear hG e0 e1 e2 e3 e4 e5 e6 e7 e8 e9 e10 R9
  generalize hfr : Rega.frameAt _ _ _ _ _ = fr
  have hdf : fr = ⟨#[.pointer (some ⟨pb, 0, none⟩), .agg #[.int .i32 loc], .agg #[.iface kT (.pointer (some ⟨kx, 0, none⟩)), .int .i32 kl], undef, .pointer (some ⟨B1, 0, none⟩), .pointer (some ⟨B1_1, 0, none⟩), .pointer (some ⟨B1_2, 0, none⟩), .pointer (some ⟨B1_3, 0, none⟩), .pointer (some ⟨B4_1, 0, none⟩), .pointer (some ⟨B4_3, 0, none⟩), .pointer (some ⟨pb, 0, none⟩), .pointer (some ⟨pb, 0, none⟩), .pointer (some ⟨pb, 92, none⟩), .pointer (some ⟨pb, 97, none⟩), .pointer (some ⟨cr, 0, none⟩), .pointer (some ⟨cr, 0, none⟩), .agg #[.int .u32 0, .int .u32 1], .pointer (some ⟨pb, 0, none⟩), .agg #[.int .u32 0, .int .u32 1], .tuple #[], .agg #[.int .i32 loc], .agg #[.int .u32 0, .int .u32 1], .agg #[.int .u32 0, .int .u32 1, .bool false, .bool false, .bool false], .pointer (some ⟨B4, 0, none⟩), .iface 220 (.pointer (some ⟨B4, 0, none⟩)), .agg #[.iface 220 (.pointer (some ⟨B4, 0, none⟩)), .int .i32 loc], .agg #[.int .i32 loc], .agg #[], .pointer (some ⟨B4_2, 0, none⟩), .iface 247 (.pointer (some ⟨B4_2, 0, none⟩)), .agg #[.iface 247 (.pointer (some ⟨B4_2, 0, none⟩)), .int .i32 loc], .pointer (some ⟨pb, 0, none⟩), .pointer (some ⟨pb, 0, none⟩), .pointer (some ⟨pb, 92, none⟩), .pointer (some ⟨pb, 95, none⟩), .bool false, undef, undef, undef, undef, undef, undef, undef, undef, .pointer (some ⟨pb, 0, none⟩), .pointer (some ⟨pb, 0, none⟩), .pointer (some ⟨pb, 92, none⟩), .pointer (some ⟨pb, 96, none⟩), .bool false, .bool true, .agg #[.iface 220 (.pointer (some ⟨B4, 0, none⟩)), .int .i32 loc], .agg #[.int .i32 loc], .agg #[.iface 220 (.pointer (some ⟨B4, 0, none⟩)), .int .i32 loc, .string ⟨#[112, 114, 111, 116, 111, 116, 121, 112, 101]⟩, .int .i32 loc, .int .u8 0, .bool false, .bool false, .bool false], .pointer (some ⟨B4_4, 0, none⟩), .iface 40 (.pointer (some ⟨B4_4, 0, none⟩)), .pointer (some ⟨B4_1, 0, none⟩), .agg #[.int .i32 loc], .pointer (some ⟨pb, 0, none⟩), .agg #[.int .i32 loc], .agg #[.iface 40 (.pointer (some ⟨B4_4, 0, none⟩)), .int .i32 loc], .agg #[.iface 247 (.pointer (some ⟨B4_2, 0, none⟩)), .int .i32 loc], .agg #[.iface kT (.pointer (some ⟨kx, 0, none⟩)), .int .i32 kl], .slice (some ⟨α 6, 0, none⟩) 3 3, .agg #[.iface 52 (.pointer (some ⟨α 7, 0, none⟩)), .int .i32 loc], .agg #[.int .i32 loc], .agg #[.iface 52 (.pointer (some ⟨α 7, 0, none⟩)), .int .i32 loc, .string ⟨#[95]⟩, .int .i32 loc, .int .u8 0, .bool false, .bool false, .bool false], .pointer (some ⟨α 10, 0, none⟩), .iface 40 (.pointer (some ⟨α 10, 0, none⟩)), .agg #[.iface 40 (.pointer (some ⟨α 10, 0, none⟩)), .int .i32 loc]], []⟩ := by rw [← hfr]; kernel_rfl
  clear hfr
  subst hdf
  generalize α 6 = nd7 at hO ⊢
  generalize α 7 = nd8 at hO ⊢
  generalize α 10 = nd9 at hO ⊢
  generalize α 1007 = nd10 at hO ⊢
  clear α
  subst hX9_6
  have hN : Own w0 u [row (B4_3) 30 #[.iface 247 (.pointer (some ⟨B4_2, 0, none⟩)), .int .i32 loc], row (B4_1) 30 #[.iface 40 (.pointer (some ⟨B4_4, 0, none⟩)), .int .i32 loc], row (pb) 206 PC, row (B1_2) 30 #[.iface 40 (.pointer (some ⟨nd9, 0, none⟩)), .int .i32 loc], row (B1_1) 30 #[.iface kT (.pointer (some ⟨kx, 0, none⟩)), .int .i32 kl], row (B1) 28 #[.int .i32 loc], ((mp, .map #[⟨.string ⟨#[95, 95, 115, 117, 112, 101, 114, 87, 114, 97, 112, 112, 101, 114]⟩, .agg #[.int .i32 0, .int .u32 0, .int .u32 2], 0⟩, ⟨.string ⟨#[95, 95, 115, 117, 112, 101, 114, 71, 101, 116]⟩, .agg #[.int .i32 0, .int .u32 0, .int .u32 3], 1⟩, ⟨.string ⟨#[95, 95, 112, 114, 105, 118, 97, 116, 101, 87, 114, 97, 112, 112, 101, 114]⟩, .agg #[.int .i32 0, .int .u32 0, .int .u32 4], 2⟩] 3) : Rw), row (nd7) 30 #[.iface 40 (.pointer (some ⟨B4_4, 0, none⟩)), .int .i32 loc, .iface 247 (.pointer (some ⟨B4_2, 0, none⟩)), .int .i32 loc, .iface kT (.pointer (some ⟨kx, 0, none⟩)), .int .i32 kl], row (nd8) 56 #[.iface 220 (.pointer (some ⟨nd10, 0, none⟩)), .int .i32 loc, .slice (some ⟨nd7, 0, none⟩) 3 3, .int .i32 0, .int .u8 0, .int .u8 0, .bool false, .bool false], row (nd10) 223 #[.int .u32 0, .int .u32 2, .bool false, .bool false, .bool false], row (nd9) 44 #[.iface 52 (.pointer (some ⟨nd8, 0, none⟩)), .int .i32 loc, .string ⟨#[95]⟩, .int .i32 loc, .int .u8 0, .bool false, .bool false, .bool false], row (B4_4) 44 #[.iface 220 (.pointer (some ⟨B4, 0, none⟩)), .int .i32 loc, .string ⟨#[112, 114, 111, 116, 111, 116, 121, 112, 101]⟩, .int .i32 loc, .int .u8 0, .bool false, .bool false, .bool false], row (B4_2) 248 #[], row (B4) 223 #[.int .u32 0, .int .u32 1, .bool false, .bool false, .bool false], row (B1_3) 68 #[.int .u32 0, .int .u32 1], row (cr) 68 #[.int .u32 0, .int .u32 1]] X := hO.back HL.out HX.out [0, 2, 4, 6, 11] (by decide) (by decide)
  clear hO HL HX
  have hO := hN
  clear hN
  obtain ⟨ix9, hix9, hax9, hjx9⟩ := hO.ix
  have ix9_0 : ix9 B4_3 = 0 := hjx9 0 _ _ rfl
  have ix9_1 : ix9 B4_1 = 1 := hjx9 1 _ _ rfl
  have ix9_2 : ix9 pb = 2 := hjx9 2 _ _ rfl
  have ix9_3 : ix9 B1_2 = 3 := hjx9 3 _ _ rfl
  have ix9_4 : ix9 B1_1 = 4 := hjx9 4 _ _ rfl
  have ix9_5 : ix9 B1 = 5 := hjx9 5 _ _ rfl
  have ix9_6 : ix9 mp = 6 := hjx9 6 _ _ rfl
  have ix9_7 : ix9 nd7 = 7 := hjx9 7 _ _ rfl
  have ix9_8 : ix9 nd8 = 8 := hjx9 8 _ _ rfl
  have ix9_9 : ix9 nd10 = 9 := hjx9 9 _ _ rfl
  have ix9_10 : ix9 nd9 = 10 := hjx9 10 _ _ rfl
  have ix9_11 : ix9 B4_4 = 11 := hjx9 11 _ _ rfl
  have ix9_12 : ix9 B4_2 = 12 := hjx9 12 _ _ rfl
  have ix9_13 : ix9 B4 = 13 := hjx9 13 _ _ rfl
  have ix9_14 : ix9 B1_3 = 14 := hjx9 14 _ _ rfl
  have ix9_15 : ix9 cr = 15 := hjx9 15 _ _ rfl
  clear hjx9
  obtain ⟨c9_0_0, c9_0_1, lt9_0, y9_0, pl9_0⟩ := hO.k2 0 rfl
  obtain ⟨c9_1_0, c9_1_1, lt9_1, y9_1, pl9_1⟩ := hO.k2 1 rfl
  have c9_2_32 : u.cell? ⟨pb, 32, none⟩ = some (.bool false) := hO.cell 2 rfl (32) (hD.ts)
  have c9_2_95 : u.cell? ⟨pb, 95, none⟩ = some (.bool false) := hO.cell 2 rfl (95) (hD.rep)
  have c9_2_96 : u.cell? ⟨pb, 96, none⟩ = some (.bool false) := hO.cell 2 rfl (96) (hD.stat)
  have c9_2_97 : u.cell? ⟨pb, 97, none⟩ = some (.pointer (some ⟨cr, 0, none⟩)) := hO.cell 2 rfl (97) (hD.cls)
  have c9_2_117 : u.cell? ⟨pb, 117, none⟩ = some (.map (some mp)) := hO.cell 2 rfl (117) (hD.imp)
  have c9_2_350 : u.cell? ⟨pb, 350, none⟩ = some (.bool true) := hO.cell 2 rfl (350) (hD.dead)
  have lt9_2 : pb < u.heap.size := hO.lt 2 rfl
  have y9_2 : ∀ o, u.frozen? ⟨pb, o, none⟩ = false := hO.free 2 rfl
  obtain ⟨c9_3_0, c9_3_1, lt9_3, y9_3, pl9_3⟩ := hO.k2 3 rfl
  obtain ⟨c9_4_0, c9_4_1, lt9_4, y9_4, pl9_4⟩ := hO.k2 4 rfl
  obtain ⟨c9_5_0, lt9_5, y9_5, pl9_5⟩ := hO.k1 5 rfl
  obtain ⟨c9_7_0, c9_7_1, c9_7_2, c9_7_3, c9_7_4, c9_7_5, lt9_7, y9_7, pl9_7⟩ := hO.k6 7 rfl
  obtain ⟨c9_8_0, c9_8_1, c9_8_2, c9_8_3, c9_8_4, c9_8_5, c9_8_6, c9_8_7, lt9_8, y9_8, -⟩ := hO.k8 8 rfl
  obtain ⟨c9_9_0, c9_9_1, c9_9_2, c9_9_3, c9_9_4, lt9_9, y9_9, pl9_9⟩ := hO.k5 9 rfl
  obtain ⟨c9_10_0, c9_10_1, c9_10_2, c9_10_3, c9_10_4, c9_10_5, c9_10_6, c9_10_7, lt9_10, y9_10, pl9_10⟩ := hO.k8 10 rfl
  obtain ⟨c9_11_0, c9_11_1, c9_11_2, c9_11_3, c9_11_4, c9_11_5, c9_11_6, c9_11_7, lt9_11, y9_11, pl9_11⟩ := hO.k8 11 rfl
  obtain ⟨lt9_12, y9_12, -⟩ := hO.k0 12 rfl
  obtain ⟨c9_13_0, c9_13_1, c9_13_2, c9_13_3, c9_13_4, lt9_13, y9_13, pl9_13⟩ := hO.k5 13 rfl
  obtain ⟨c9_14_0, c9_14_1, lt9_14, y9_14, pl9_14⟩ := hO.k2 14 rfl
  obtain ⟨c9_15_0, c9_15_1, lt9_15, y9_15, pl9_15⟩ := hO.k2 15 rfl
  have HO := Lib.hid hO
  clear hO
  go_wp2_with (first | (with_reducible refine Own.stay (fn := Tryd.f36) ?_) | fail)
  try with_reducible refine Own.Stay.mk ?_
  have hO := HO.out
  clear HO hix9 hax9 ix9_0 ix9_1 ix9_2 ix9_3 ix9_4 ix9_5 ix9_6 ix9_7 ix9_8 ix9_9 ix9_10 ix9_11 ix9_12 ix9_13 ix9_14 ix9_15 ix9 c9_0_0 c9_0_1 lt9_0 y9_0 pl9_0 c9_1_0 c9_1_1 lt9_1 y9_1 pl9_1 c9_2_32 c9_2_95 c9_2_96 c9_2_97 c9_2_117 c9_2_350 lt9_2 y9_2 c9_3_0 c9_3_1 lt9_3 y9_3 pl9_3 c9_4_0 c9_4_1 lt9_4 y9_4 pl9_4 c9_5_0 lt9_5 y9_5 pl9_5 c9_7_0 c9_7_1 c9_7_2 c9_7_3 c9_7_4 c9_7_5 lt9_7 y9_7 pl9_7 c9_8_0 c9_8_1 c9_8_2 c9_8_3 c9_8_4 c9_8_5 c9_8_6 c9_8_7 lt9_8 y9_8 c9_9_0 c9_9_1 c9_9_2 c9_9_3 c9_9_4 lt9_9 y9_9 pl9_9 c9_10_0 c9_10_1 c9_10_2 c9_10_3 c9_10_4 c9_10_5 c9_10_6 c9_10_7 lt9_10 y9_10 pl9_10 c9_11_0 c9_11_1 c9_11_2 c9_11_3 c9_11_4 c9_11_5 c9_11_6 c9_11_7 lt9_11 y9_11 pl9_11 lt9_12 y9_12 c9_13_0 c9_13_1 c9_13_2 c9_13_3 c9_13_4 lt9_13 y9_13 pl9_13 c9_14_0 c9_14_1 lt9_14 y9_14 pl9_14 c9_15_0 c9_15_1 lt9_15 y9_15 pl9_15
  have z9_3_0 : u.cell? ⟨B1_2, 0, none⟩ = some (.iface 40 (.pointer (some ⟨nd9, 0, none⟩))) := hO.cell 3 rfl 0 rfl
  have z9_3_1 : u.cell? ⟨B1_2, 1, none⟩ = some (.int .i32 loc) := hO.cell 3 rfl 1 rfl
  refine bodyPost_ret (v := .agg #[.iface 40 (.pointer (some ⟨nd9, 0, none⟩)), .int .i32 loc]) ?_ rfl ⟨nd8, nd10, nd7, B4, B4_2, B4_4, nd9, rfl, hO.sub [2, 6, 15, 9, 8, 7, 13, 12, 11, 10] (by decide)⟩
  simp [results, Tryd.results36, go_sem, z9_3_0, z9_3_1]
end Go.Proofs.YtcbdjbjbikiaeaaDoor.Use
