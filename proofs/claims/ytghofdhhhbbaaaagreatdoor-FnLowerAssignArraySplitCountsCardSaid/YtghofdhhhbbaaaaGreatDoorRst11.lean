/- The rest pattern, alone: __objRest is called and the call assigned. No condition. -/
import Derived.Test.YtghofdhhhbbaaaaGreatDoorRsth
import Derived.Test.YtghofdhhhbbaaaaGreatDoorLiveG
import Derived.Test.YtghofdhhhbbaaaaGreatDoorAsg
import Derived.Test.YtghofdhhhbbaaaaGreatDoorIts
import Derived.Test.YtghofdhhhbbaaaaGreatDoorIfm
import Derived.Test.YtghofdhhhbbaaaaGreatDoorSla
import Derived.Test.YtghofdhhhbbaaaaGreatDoorLoop
import Derived.Test.YtghofdhhhbbaaaaGreatDoorMini
import Derived.Test.YtghofdhhhbbaaaaGreatDoorAppL
import Derived.Test.YtghofdhhhbbaaaaGreatDoorApp
import Derived.Test.YtghofdhhhbbaaaaGreatDoorOwnK
import Derived.Test.YtghofdhhhbbaaaaGreatDoorOwn
import Derived.Test.YtghofdhhhbbaaaaGreatDoorDeepCells
import Derived.Test.YtghofdhhhbbaaaaGreatDoorRows
import Derived.Test.YtghofdhhhbbaaaaGreatDoorLive
namespace Go.Proofs.YtghofdhhhbbaaaaGreatDoor.Use
open Go.ChangeShapes Go.WideShapes Go.ChangeAt Go.RowKit Go.Sort Own
set_option linter.unusedVariables false
def rrst011a1E (pb : Nat) (PC : Array Value) (sb : Nat) (c : Nat) (st : List Sy) (n : Nat) (src : Int) (mp : Nat) (es : Array MapEntry) (k : Nat) (ms : Nat) (MC : Array Value) (gb : Nat) (cg : Nat) (G : List Value) (m : Nat) (xp : Nat) (xa : Nat) (eb : Nat) (va : Nat) (wa : Int) (vn : Nat) (lv : Int) (vi : Nat) (li : Int) (B1_2 : Nat) (B1_1 : Nat) (B1 : Nat) : Nat → Rega.Atoms → Value
  | 0, α => .func (Fn.func 25) #[] #[.pointer (some ⟨eb, 0, none⟩)]
  | 1, α => .agg #[.iface 56 (.pointer (some ⟨vn, 0, none⟩)), .int .i32 lv]
  | 2, α => .pointer (some ⟨pb, 0, none⟩)
  | 3, α => .pointer (some ⟨B1, 1, none⟩)
  | 4, α => .agg #[.int .i32 lv]
  | 5, α => .agg #[.iface 56 (.pointer (some ⟨vi, 0, none⟩)), .int .i32 li]
  | 6, α => .pointer (some ⟨B1, 1, none⟩)
  | 7, α => .agg #[.int .i32 lv]
  | 8, α => .slice (some ⟨B1_2, 0, none⟩) 0 0
  | 9, α => .bool false
  | 10, α => .agg #[.slice (some ⟨B1_2, 0, none⟩) 0 0, .int .i32 0, .int .i32 0, .bool false, .bool false]
  | 11, α => .pointer (some ⟨α 11, 0, none⟩)
  | 12, α => .iface 205 (.pointer (some ⟨α 11, 0, none⟩))
  | 13, α => .agg #[.iface 205 (.pointer (some ⟨α 11, 0, none⟩)), .int .i32 lv]
  | 14, α => .slice (some ⟨α 14, 0, none⟩) 2 2
  | 15, α => .agg #[.iface 284 (.pointer (some ⟨α 15, 0, none⟩)), .int .i32 lv]
  | 16, α => .tuple #[]
  | _, _ => undef
def rrst011a1Anc : Nat → List Nat
  | 4 => [3]
  | 7 => [6]
  | 10 => [8, 9]
  | 11 => [8, 9, 10]
  | 12 => [8, 9, 10, 11]
  | 13 => [6, 7, 8, 9, 10, 11, 12]
  | 14 => [5, 6, 7, 8, 9, 10, 11, 12, 13]
  | 15 => [2, 3, 4, 5, 6, 7, 8, 9, 10, 11, 12, 13, 14]
  | 16 => [0, 1, 2, 3, 4, 5, 6, 7, 8, 9, 10, 11, 12, 13, 14, 15]
  | _ => []
def rrst011a1Trn : Nat → List Nat
  | 15 => [6999, 7999, 8999, 9999, 10999]
  | 16 => [5999]
  | _ => []
def rrst011a1Cnt : List (Nat × Nat) := [(11, 1), (14, 1), (15, 2)]
def rrst011a1T5999 (pb : Nat) (PC : Array Value) (sb : Nat) (c : Nat) (st : List Sy) (n : Nat) (src : Int) (mp : Nat) (es : Array MapEntry) (k : Nat) (ms : Nat) (MC : Array Value) (gb : Nat) (cg : Nat) (G : List Value) (m : Nat) (xp : Nat) (xa : Nat) (eb : Nat) (va : Nat) (wa : Int) (vn : Nat) (lv : Int) (vi : Nat) (li : Int) (B1_2 : Nat) (B1_1 : Nat) (B1 : Nat) (L9 : Nat → Bool) (α : Rega.Atoms) : Rw := if L9 16 = true then row (eb) 29 #[.iface 241 (.pointer (some ⟨α 16, 0, none⟩)), .int .i32 wa] else row (eb) 29 #[.iface 241 (.pointer (some ⟨va, 0, none⟩)), .int .i32 wa]
def rrst011a1T6999 (pb : Nat) (PC : Array Value) (sb : Nat) (c : Nat) (st : List Sy) (n : Nat) (src : Int) (mp : Nat) (es : Array MapEntry) (k : Nat) (ms : Nat) (MC : Array Value) (gb : Nat) (cg : Nat) (G : List Value) (m : Nat) (xp : Nat) (xa : Nat) (eb : Nat) (va : Nat) (wa : Int) (vn : Nat) (lv : Int) (vi : Nat) (li : Int) (B1_2 : Nat) (B1_1 : Nat) (B1 : Nat) (L9 : Nat → Bool) (α : Rega.Atoms) : Rw := if L9 15 = true then row (pb) 182 (PC.setIfInBounds 106 (.slice (some ⟨α 2015, 0, none⟩) (n + 1) (n + 1 + (α 3015)))) else row (pb) 182 PC
def rrst011a1T7999 (pb : Nat) (PC : Array Value) (sb : Nat) (c : Nat) (st : List Sy) (n : Nat) (src : Int) (mp : Nat) (es : Array MapEntry) (k : Nat) (ms : Nat) (MC : Array Value) (gb : Nat) (cg : Nat) (G : List Value) (m : Nat) (xp : Nat) (xa : Nat) (eb : Nat) (va : Nat) (wa : Int) (vn : Nat) (lv : Int) (vi : Nat) (li : Int) (B1_2 : Nat) (B1_1 : Nat) (B1 : Nat) (L9 : Nat → Bool) (α : Rega.Atoms) : Rw := if L9 15 = true then row (α 2015) 201 (full symZ (symL (bump (st ++ [syk ⟨#[95, 95, 111, 98, 106, 82, 101, 115, 116]⟩ 27]) n)) (α 3015)) else row (sb) 201 (full symZ (symL st) c)
def rrst011a1T8999 (pb : Nat) (PC : Array Value) (sb : Nat) (c : Nat) (st : List Sy) (n : Nat) (src : Int) (mp : Nat) (es : Array MapEntry) (k : Nat) (ms : Nat) (MC : Array Value) (gb : Nat) (cg : Nat) (G : List Value) (m : Nat) (xp : Nat) (xa : Nat) (eb : Nat) (va : Nat) (wa : Int) (vn : Nat) (lv : Int) (vi : Nat) (li : Int) (B1_2 : Nat) (B1_1 : Nat) (B1 : Nat) (L9 : Nat → Bool) (α : Rega.Atoms) : Rw := if L9 15 = true then ((mp, .map (es.push ⟨.string ⟨#[95, 95, 111, 98, 106, 82, 101, 115, 116]⟩, .agg #[.int .i32 lv, .int .u32 src, .int .u32 (n : Int)], k⟩) (k + 1)) : Rw) else ((mp, .map es k) : Rw)
def rrst011a1T9999 (pb : Nat) (PC : Array Value) (sb : Nat) (c : Nat) (st : List Sy) (n : Nat) (src : Int) (mp : Nat) (es : Array MapEntry) (k : Nat) (ms : Nat) (MC : Array Value) (gb : Nat) (cg : Nat) (G : List Value) (m : Nat) (xp : Nat) (xa : Nat) (eb : Nat) (va : Nat) (wa : Int) (vn : Nat) (lv : Int) (vi : Nat) (li : Int) (B1_2 : Nat) (B1_1 : Nat) (B1 : Nat) (L9 : Nat → Bool) (α : Rega.Atoms) : Rw := if L9 15 = true then row (ms) 194 (MC.setIfInBounds 5 (.slice (some ⟨α 4015, 0, none⟩) (m + 1) (m + 1 + (α 5015)))) else row (ms) 194 MC
def rrst011a1T10999 (pb : Nat) (PC : Array Value) (sb : Nat) (c : Nat) (st : List Sy) (n : Nat) (src : Int) (mp : Nat) (es : Array MapEntry) (k : Nat) (ms : Nat) (MC : Array Value) (gb : Nat) (cg : Nat) (G : List Value) (m : Nat) (xp : Nat) (xa : Nat) (eb : Nat) (va : Nat) (wa : Int) (vn : Nat) (lv : Int) (vi : Nat) (li : Int) (B1_2 : Nat) (B1_1 : Nat) (B1 : Nat) (L9 : Nat → Bool) (α : Rega.Atoms) : Rw := if L9 15 = true then row (α 4015) 58 (full refZ (G ++ [.int .u32 src, .int .u32 (n : Int)]) (α 5015)) else row (gb) 58 (full refZ G cg)
def rrst011a1R (pb : Nat) (PC : Array Value) (sb : Nat) (c : Nat) (st : List Sy) (n : Nat) (src : Int) (mp : Nat) (es : Array MapEntry) (k : Nat) (ms : Nat) (MC : Array Value) (gb : Nat) (cg : Nat) (G : List Value) (m : Nat) (xp : Nat) (xa : Nat) (eb : Nat) (va : Nat) (wa : Int) (vn : Nat) (lv : Int) (vi : Nat) (li : Int) (B1_2 : Nat) (B1_1 : Nat) (B1 : Nat) (L9 : Nat → Bool) (α : Rega.Atoms) (ix9 : Nat) : Rw := if ix9 = 999 then row (B1_2) 29 (full exZ [] 0) else if ix9 = 1999 then row (B1_1) 29 #[.iface 56 (.pointer (some ⟨vi, 0, none⟩)), .int .i32 li] else if ix9 = 2999 then row (B1) 29 #[.iface 56 (.pointer (some ⟨vn, 0, none⟩)), .int .i32 lv] else if ix9 = 3999 then row (xp) 22 #[.pointer (some ⟨pb, 0, none⟩)] else if ix9 = 4999 then row (xa) 210 #[.func (Fn.func 25) #[] #[.pointer (some ⟨eb, 0, none⟩)]] else if ix9 = 5999 then rrst011a1T5999 pb PC sb c st n src mp es k ms MC gb cg G m xp xa eb va wa vn lv vi li B1_2 B1_1 B1 L9 α else if ix9 = 6999 then rrst011a1T6999 pb PC sb c st n src mp es k ms MC gb cg G m xp xa eb va wa vn lv vi li B1_2 B1_1 B1 L9 α else if ix9 = 7999 then rrst011a1T7999 pb PC sb c st n src mp es k ms MC gb cg G m xp xa eb va wa vn lv vi li B1_2 B1_1 B1 L9 α else if ix9 = 8999 then rrst011a1T8999 pb PC sb c st n src mp es k ms MC gb cg G m xp xa eb va wa vn lv vi li B1_2 B1_1 B1 L9 α else if ix9 = 9999 then rrst011a1T9999 pb PC sb c st n src mp es k ms MC gb cg G m xp xa eb va wa vn lv vi li B1_2 B1_1 B1 L9 α else if ix9 = 10999 then rrst011a1T10999 pb PC sb c st n src mp es k ms MC gb cg G m xp xa eb va wa vn lv vi li B1_2 B1_1 B1 L9 α else if ix9 = 11 then row (α 11) 207 #[.slice (some ⟨B1_2, 0, none⟩) 0 0, .int .i32 0, .int .i32 0, .bool false, .bool false] else if ix9 = 14 then row (α 14) 29 #[.iface 56 (.pointer (some ⟨vi, 0, none⟩)), .int .i32 li, .iface 205 (.pointer (some ⟨α 11, 0, none⟩)), .int .i32 lv] else if ix9 = 15 then row (α 15) 288 #[.iface 56 (.pointer (some ⟨α 1015, 0, none⟩)), .int .i32 lv, .slice (some ⟨α 14, 0, none⟩) 2 2, .int .i32 0, .int .u8 0, .int .u8 0, .bool false, .bool false] else if ix9 = 1015 then row (α 1015) 60 #[.int .u32 src, .int .u32 (n : Int), .bool false, .bool false, .bool false] else (0, .map #[] 0)
theorem rrst011a1_he (pb : Nat) (PC : Array Value) (sb : Nat) (c : Nat) (st : List Sy) (n : Nat) (src : Int) (mp : Nat) (es : Array MapEntry) (k : Nat) (ms : Nat) (MC : Array Value) (gb : Nat) (cg : Nat) (G : List Value) (m : Nat) (xp : Nat) (xa : Nat) (eb : Nat) (va : Nat) (wa : Int) (vn : Nat) (lv : Int) (vi : Nat) (li : Int) (B1_2 : Nat) (B1_1 : Nat) (B1 : Nat) : ∀ kk α α', (∀ j, (j % 1000 = kk ∨ j % 1000 ∈ rrst011a1Anc kk) → α j = α' j) → rrst011a1E pb PC sb c st n src mp es k ms MC gb cg G m xp xa eb va wa vn lv vi li B1_2 B1_1 B1 kk α = rrst011a1E pb PC sb c st n src mp es k ms MC gb cg G m xp xa eb va wa vn lv vi li B1_2 B1_1 B1 kk α' := by
  intro kk α α' h
  match kk with
  | 0 => rfl
  | 1 => rfl
  | 2 => rfl
  | 3 => rfl
  | 4 => rfl
  | 5 => rfl
  | 6 => rfl
  | 7 => rfl
  | 8 => rfl
  | 9 => rfl
  | 10 => rfl
  | 11 => simp only [rrst011a1E, h 11 (Or.inl rfl)]
  | 12 => simp only [rrst011a1E, h 11 (Or.inr (by decide))]
  | 13 => simp only [rrst011a1E, h 11 (Or.inr (by decide))]
  | 14 => simp only [rrst011a1E, h 14 (Or.inl rfl)]
  | 15 => simp only [rrst011a1E, h 15 (Or.inl rfl)]
  | 16 => rfl
  | n + 17 => rfl
theorem rrst011a1_st (pb : Nat) (PC : Array Value) (sb : Nat) (c : Nat) (st : List Sy) (n : Nat) (src : Int) (mp : Nat) (es : Array MapEntry) (k : Nat) (ms : Nat) (MC : Array Value) (gb : Nat) (cg : Nat) (G : List Value) (m : Nat) (xp : Nat) (xa : Nat) (eb : Nat) (va : Nat) (wa : Int) (vn : Nat) (lv : Int) (vi : Nat) (li : Int) (B1_2 : Nat) (B1_1 : Nat) (B1 : Nat) : Stable rrst011a1Cnt 11 rrst011a1Anc rrst011a1Trn (rrst011a1R pb PC sb c st n src mp es k ms MC gb cg G m xp xa eb va wa vn lv vi li B1_2 B1_1 B1) := by
  intro k9 L9 α α' ix9 hk hcl hα hact ht
  have hp := act_places hact
  replace hp : ix9 ∈ [999, 1999, 2999, 3999, 4999, 5999, 6999, 7999, 8999, 9999, 10999, 11, 14, 15, 1015] := hp
  simp only [List.mem_cons, List.not_mem_nil, or_false] at hp
  rcases hp with rfl | rfl | rfl | rfl | rfl | rfl | rfl | rfl | rfl | rfl | rfl | rfl | rfl | rfl | rfl
  · rfl
  · rfl
  · rfl
  · rfl
  · rfl
  · show rrst011a1T5999 pb PC sb c st n src mp es k ms MC gb cg G m xp xa eb va wa vn lv vi li B1_2 B1_1 B1 (Rega.ran L9 k9) α' = rrst011a1T5999 pb PC sb c st n src mp es k ms MC gb cg G m xp xa eb va wa vn lv vi li B1_2 B1_1 B1 L9 α
    unfold rrst011a1T5999
    have n16 : 16 ≠ k9 := fun e => ht (by rw [← e]; decide)
    rw [ran_ne n16]
    by_cases e16 : L9 16 = true
    · first | rw [if_pos e16, if_pos e16] | rw [if_pos e16]
      try simp only [hα 16 (ne_ran hk e16)]
    first | rw [if_neg e16, if_neg e16] | rw [if_neg e16]
  · show rrst011a1T6999 pb PC sb c st n src mp es k ms MC gb cg G m xp xa eb va wa vn lv vi li B1_2 B1_1 B1 (Rega.ran L9 k9) α' = rrst011a1T6999 pb PC sb c st n src mp es k ms MC gb cg G m xp xa eb va wa vn lv vi li B1_2 B1_1 B1 L9 α
    unfold rrst011a1T6999
    have n15 : 15 ≠ k9 := fun e => ht (by rw [← e]; decide)
    rw [ran_ne n15]
    by_cases e15 : L9 15 = true
    · first | rw [if_pos e15, if_pos e15] | rw [if_pos e15]
      try simp only [hα 2015 (ne_ran hk e15), hα 3015 (ne_ran hk e15)]
    first | rw [if_neg e15, if_neg e15] | rw [if_neg e15]
  · show rrst011a1T7999 pb PC sb c st n src mp es k ms MC gb cg G m xp xa eb va wa vn lv vi li B1_2 B1_1 B1 (Rega.ran L9 k9) α' = rrst011a1T7999 pb PC sb c st n src mp es k ms MC gb cg G m xp xa eb va wa vn lv vi li B1_2 B1_1 B1 L9 α
    unfold rrst011a1T7999
    have n15 : 15 ≠ k9 := fun e => ht (by rw [← e]; decide)
    rw [ran_ne n15]
    by_cases e15 : L9 15 = true
    · first | rw [if_pos e15, if_pos e15] | rw [if_pos e15]
      try simp only [hα 2015 (ne_ran hk e15), hα 3015 (ne_ran hk e15)]
    first | rw [if_neg e15, if_neg e15] | rw [if_neg e15]
  · show rrst011a1T8999 pb PC sb c st n src mp es k ms MC gb cg G m xp xa eb va wa vn lv vi li B1_2 B1_1 B1 (Rega.ran L9 k9) α' = rrst011a1T8999 pb PC sb c st n src mp es k ms MC gb cg G m xp xa eb va wa vn lv vi li B1_2 B1_1 B1 L9 α
    unfold rrst011a1T8999
    have n15 : 15 ≠ k9 := fun e => ht (by rw [← e]; decide)
    rw [ran_ne n15]
  · show rrst011a1T9999 pb PC sb c st n src mp es k ms MC gb cg G m xp xa eb va wa vn lv vi li B1_2 B1_1 B1 (Rega.ran L9 k9) α' = rrst011a1T9999 pb PC sb c st n src mp es k ms MC gb cg G m xp xa eb va wa vn lv vi li B1_2 B1_1 B1 L9 α
    unfold rrst011a1T9999
    have n15 : 15 ≠ k9 := fun e => ht (by rw [← e]; decide)
    rw [ran_ne n15]
    by_cases e15 : L9 15 = true
    · first | rw [if_pos e15, if_pos e15] | rw [if_pos e15]
      try simp only [hα 4015 (ne_ran hk e15), hα 5015 (ne_ran hk e15)]
    first | rw [if_neg e15, if_neg e15] | rw [if_neg e15]
  · show rrst011a1T10999 pb PC sb c st n src mp es k ms MC gb cg G m xp xa eb va wa vn lv vi li B1_2 B1_1 B1 (Rega.ran L9 k9) α' = rrst011a1T10999 pb PC sb c st n src mp es k ms MC gb cg G m xp xa eb va wa vn lv vi li B1_2 B1_1 B1 L9 α
    unfold rrst011a1T10999
    have n15 : 15 ≠ k9 := fun e => ht (by rw [← e]; decide)
    rw [ran_ne n15]
    by_cases e15 : L9 15 = true
    · first | rw [if_pos e15, if_pos e15] | rw [if_pos e15]
      try simp only [hα 4015 (ne_ran hk e15), hα 5015 (ne_ran hk e15)]
    first | rw [if_neg e15, if_neg e15] | rw [if_neg e15]
  · have e0 : L9 11 = true := act_lt hact (by decide)
    show row (α' 11) 207 #[.slice (some ⟨B1_2, 0, none⟩) 0 0, .int .i32 0, .int .i32 0, .bool false, .bool false] = row (α 11) 207 #[.slice (some ⟨B1_2, 0, none⟩) 0 0, .int .i32 0, .int .i32 0, .bool false, .bool false]
    simp only [hα 11 (ne_ran hk e0)]
  · have e0 : L9 14 = true := act_lt hact (by decide)
    show row (α' 14) 29 #[.iface 56 (.pointer (some ⟨vi, 0, none⟩)), .int .i32 li, .iface 205 (.pointer (some ⟨α' 11, 0, none⟩)), .int .i32 lv] = row (α 14) 29 #[.iface 56 (.pointer (some ⟨vi, 0, none⟩)), .int .i32 li, .iface 205 (.pointer (some ⟨α 11, 0, none⟩)), .int .i32 lv]
    simp only [hα 11 (ne_ran hk (hcl 14 e0 11 (by decide))), hα 14 (ne_ran hk e0)]
  · have e0 : L9 15 = true := act_lt hact (by decide)
    show row (α' 15) 288 #[.iface 56 (.pointer (some ⟨α' 1015, 0, none⟩)), .int .i32 lv, .slice (some ⟨α' 14, 0, none⟩) 2 2, .int .i32 0, .int .u8 0, .int .u8 0, .bool false, .bool false] = row (α 15) 288 #[.iface 56 (.pointer (some ⟨α 1015, 0, none⟩)), .int .i32 lv, .slice (some ⟨α 14, 0, none⟩) 2 2, .int .i32 0, .int .u8 0, .int .u8 0, .bool false, .bool false]
    simp only [hα 14 (ne_ran hk (hcl 15 e0 14 (by decide))), hα 15 (ne_ran hk e0), hα 1015 (ne_ran hk e0)]
  · have e0 : L9 15 = true := act_lt hact (by decide)
    show row (α' 1015) 60 #[.int .u32 src, .int .u32 (n : Int), .bool false, .bool false, .bool false] = row (α 1015) 60 #[.int .u32 src, .int .u32 (n : Int), .bool false, .bool false, .bool false]
    simp only [hα 1015 (ne_ran hk e0)]
def rst011Post (pb : Nat) (PC : Array Value) (sb c : Nat) (st : List Sy) (n : Nat) (src : Int) (mp : Nat) (es : Array MapEntry) (k ms : Nat) (MC : Array Value) (gb cg : Nat) (G : List Value) (m xp xa xc eb va : Nat) (wa : Int) (pr pcp vn : Nat) (lv : Int) (vi : Nat) (li : Int) (w0 : World) (X : Nat → Obj → Prop) (e : Ending) (w' : World) : Prop :=
  ∃ xn : Nat, ∃ sb2 : Nat, ∃ c2 : Nat, ∃ gb2 : Nat, ∃ cg2 : Nat, e = .returned (.tuple #[]) ∧ Own w0 w' [row (xp) 22 #[.pointer (some ⟨pb, 0, none⟩)], row (xa) 210 #[.func (Fn.func 25) #[] #[.pointer (some ⟨eb, 0, none⟩)]], row (eb) 29 #[.iface 241 (.pointer (some ⟨xn, 0, none⟩)), .int .i32 wa], row (pb) 182 (PC.setIfInBounds 106 (.slice (some ⟨sb2, 0, none⟩) (n + 1) (n + 1 + c2))), row (sb2) 201 (full symZ (symL (bump (st ++ [syk ⟨#[95, 95, 111, 98, 106, 82, 101, 115, 116]⟩ 27]) n)) c2), ((mp, .map (es.push ⟨.string ⟨#[95, 95, 111, 98, 106, 82, 101, 115, 116]⟩, .agg #[.int .i32 lv, .int .u32 src, .int .u32 (n : Int)], k⟩) (k + 1)) : Rw), row (ms) 194 (MC.setIfInBounds 5 (.slice (some ⟨gb2, 0, none⟩) (m + 1) (m + 1 + cg2))), row (gb2) 58 (full refZ (G ++ [.int .u32 src, .int .u32 (n : Int)]) cg2)] X
set_option maxRecDepth 100000 in
set_option maxHeartbeats 2000000 in
theorem rst011 (pb : Nat) (PC : Array Value) (sb c : Nat) (st : List Sy) (n : Nat) (src : Int) (mp : Nat) (es : Array MapEntry) (k ms : Nat) (MC : Array Value) (gb cg : Nat) (G : List Value) (m xp xa xc eb va : Nat) (wa : Int) (pr pcp vn : Nat) (lv : Int) (vi : Nat) (li : Int) (w0 w : World) (X : Nat → Obj → Prop) (hO : Own w0 w [row (xp) 22 #[.pointer (some ⟨pb, 0, none⟩)], row (xa) 210 #[.func (Fn.func 25) #[] #[.pointer (some ⟨eb, 0, none⟩)]], row (eb) 29 #[.iface 241 (.pointer (some ⟨va, 0, none⟩)), .int .i32 wa], row (pb) 182 PC, row (sb) 201 (full symZ (symL st) c), ((mp, .map es k) : Rw), row (ms) 194 MC, row (gb) 58 (full refZ G cg)] X) (hk350 : PC[350]? = some (.bool false)) (hk32 : PC[32]? = some (.bool false)) (hk105 : PC[105]? = some (.pointer none)) (hk66 : PC[66]? = some (.int .u32 src)) (hk117 : PC[117]? = some (.map (some mp))) (hk187 : PC[187]? = some (.pointer (some ⟨ms, 0, none⟩))) (hk106 : PC[106]? = some (.slice (some ⟨sb, 0, none⟩) n (n + c))) (hn : st.length = n) (hnb : n ≤ 2000000) (hgen : MC[5]? = some (.slice (some ⟨gb, 0, none⟩) m (m + cg))) (hgl : G.length = m * 2) (hgm : m ≤ 2000000) (hno : Instr.findNow .string (.string ⟨#[95, 95, 111, 98, 106, 82, 101, 115, 116]⟩) es.toList 0 = some none) (hg0 : w0.cell? ⟨0, 0, none⟩ = some (.int .u32 4294967295)) (hg1 : w0.cell? ⟨0, 1, none⟩ = some (.int .u32 4294967295)) :
    Calls Tryz.prog 42 #[.slice (some ⟨pr, 0, none⟩) 0 pcp, .agg #[.iface 56 (.pointer (some ⟨vn, 0, none⟩)), .int .i32 lv], .agg #[.iface 56 (.pointer (some ⟨vi, 0, none⟩)), .int .i32 li], .slice none 0 0, .bool false, .pointer (some ⟨xc, 0, none⟩), .pointer (some ⟨xa, 0, none⟩), .pointer (some ⟨xp, 0, none⟩)] w (rst011Post pb PC sb c st n src mp es k ms MC gb cg G m xp xa xc eb va wa pr pcp vn lv vi li w0 X) := by
  go_enter Tryz.func42, Tryz.ntmps42
  obtain ⟨c9_0_0, lt9_0, y9_0, -⟩ := hO.k1 0 rfl
  obtain ⟨c9_1_0, lt9_1, y9_1, -⟩ := hO.k1 1 rfl
  obtain ⟨c9_2_0, c9_2_1, lt9_2, y9_2, -⟩ := hO.k2 2 rfl
  have HO := Lib.hid hO
  clear hO
  have hmk := makeEx0
  go_wp2_with (first | (with_reducible refine Own.stay (fn := Tryz.f42) ?_) | fail)
  try with_reducible refine Own.Stay.mk ?_
  have hO := HO.out
  clear HO c9_0_0 lt9_0 y9_0 c9_1_0 lt9_1 y9_1 c9_2_0 c9_2_1 lt9_2 y9_2
  generalize hW : World.alloc _ _ = W2
  have hN : Own w0 W2 [row (w.heap.size + 1 + 1) 29 (full exZ [] 0), row (w.heap.size + 1) 29 #[.iface 56 (.pointer (some ⟨vi, 0, none⟩)), .int .i32 li], row (w.heap.size) 29 #[.iface 56 (.pointer (some ⟨vn, 0, none⟩)), .int .i32 lv], row (xp) 22 #[.pointer (some ⟨pb, 0, none⟩)], row (xa) 210 #[.func (Fn.func 25) #[] #[.pointer (some ⟨eb, 0, none⟩)]], row (eb) 29 #[.iface 241 (.pointer (some ⟨va, 0, none⟩)), .int .i32 wa], row (pb) 182 PC, row (sb) 201 (full symZ (symL st) c), ((mp, .map es k) : Rw), row (ms) 194 MC, row (gb) 58 (full refZ G cg)] X := by
    rw [← hW]
    exact (((hO).alloc' _ (w.heap.size) (by simp)).alloc' _ (w.heap.size + 1) (by simp)).alloc' _ (w.heap.size + 1 + 1) (by simp)
  clear hW hO
  generalize w.heap.size + 1 + 1 = B1_2 at hN ⊢
  generalize w.heap.size + 1 = B1_1 at hN ⊢
  generalize w.heap.size = B1 at hN ⊢
  have hO := hN
  clear hN
  go_loopg [15, 16, 61] 0 (fun gf s15 s16 s61 wx => gf = 0 ∧ s61 = .int .i64 0 ∧ Own w0 wx [row (B1_2) 29 (full exZ [] 0), row (B1_1) 29 #[.iface 56 (.pointer (some ⟨vi, 0, none⟩)), .int .i32 li], row (B1) 29 #[.iface 56 (.pointer (some ⟨vn, 0, none⟩)), .int .i32 lv], row (xp) 22 #[.pointer (some ⟨pb, 0, none⟩)], row (xa) 210 #[.func (Fn.func 25) #[] #[.pointer (some ⟨eb, 0, none⟩)]], row (eb) 29 #[.iface 241 (.pointer (some ⟨va, 0, none⟩)), .int .i32 wa], row (pb) 182 PC, row (sb) 201 (full symZ (symL st) c), ((mp, .map es k) : Rw), row (ms) 194 MC, row (gb) 58 (full refZ G cg)] X)
  case atStart => exact ⟨rfl, rfl, hO⟩
  obtain ⟨rfl, rfl, hO⟩ := hrel
  obtain ⟨c9_1_0, c9_1_1, lt9_1, y9_1, -⟩ := hO.k2 1 rfl
  obtain ⟨c9_2_0, c9_2_1, lt9_2, y9_2, -⟩ := hO.k2 2 rfl
  obtain ⟨c9_3_0, lt9_3, y9_3, -⟩ := hO.k1 3 rfl
  obtain ⟨c9_4_0, lt9_4, y9_4, -⟩ := hO.k1 4 rfl
  obtain ⟨c9_5_0, c9_5_1, lt9_5, y9_5, -⟩ := hO.k2 5 rfl
  have HO := Lib.hid hO
  clear hO
  go_wp2_with (first | (with_reducible refine Own.stay (fn := Tryz.f42) ?_) | fail)
  try with_reducible refine Own.Stay.mk ?_
  have hO := HO.out
  clear HO c9_1_0 c9_1_1 lt9_1 y9_1 c9_2_0 c9_2_1 lt9_2 y9_2 c9_3_0 lt9_3 y9_3 c9_4_0 lt9_4 y9_4 c9_5_0 c9_5_1 lt9_5 y9_5
  have st9 := rrst011a1_st pb PC sb c st n src mp es k ms MC gb cg G m xp xa eb va wa vn lv vi li B1_2 B1_1 B1
  let R9 := rrst011a1R pb PC sb c st n src mp es k ms MC gb cg G m xp xa eb va wa vn lv vi li B1_2 B1_1 B1
  refine wp_region_own (e := rrst011a1E pb PC sb c st n src mp es k ms MC gb cg G m xp xa eb va wa vn lv vi li B1_2 B1_1 B1) (anc := rrst011a1Anc) (G := (fun L9 α u9 => OwnF w0 u9 (act rrst011a1Cnt 11 L9) (rrst011a1R pb PC sb c st n src mp es k ms MC gb cg G m xp xa eb va wa vn lv vi li B1_2 B1_1 B1 L9 α) X)) (by kernel_rfl) (by kernel_rfl) (by kernel_rfl) (by kernel_rfl) (rrst011a1_he pb PC sb c st n src mp es k ms MC gb cg G m xp xa eb va wa vn lv vi li B1_2 B1_1 B1) ?_ (RunsAll.all ?_) ?_
  · have hp : ∀ i, act rrst011a1Cnt 11 (fun _ => false) i → i ∈ [999, 1999, 2999, 3999, 4999, 5999, 6999, 7999, 8999, 9999, 10999] := by
      intro i hi
      have h9 : i % 1000 = 999 := by
        by_cases h : i % 1000 = 999
        · exact h
        · exact absurd (act_lt hi h) (by simp)
      unfold act at hi
      rw [if_pos h9] at hi
      simp only [List.mem_cons, List.not_mem_nil, or_false]
      omega
    refine hO.drew.family (fun i hi => ?_) (fun i j hi hj hij => ?_)
    · have := hp i hi
      simp only [List.mem_cons, List.not_mem_nil, or_false] at this
      rcases this with rfl | rfl | rfl | rfl | rfl | rfl | rfl | rfl | rfl | rfl | rfl <;> rfl
    · have h1 := hp i hi
      have h2 := hp j hj
      simp only [List.mem_cons, List.not_mem_nil, or_false] at h1 h2
      omega
  · refine ⟨?_, ?_, ?_, ?_, ?_, ?_, ?_, ?_, ?_, ?_, ?_, ?_, ?_, ?_, ?_, ?_, ?_, trivial⟩
    · intro L9 α a9 u9 K9 hL hcl hA hG hS h0 h1 hK
      replace hL : L9 0 = false := hL
      have q6 : a9.tmps[6]? = some (.pointer (some ⟨xa, 0, none⟩)) := (h0 6 (by kernel_rfl)).trans rfl
      have s6 := Rega.eval_of q6
      have e0 : R9 L9 α 4999 = row (xa) 210 #[.func (Fn.func 25) #[] #[.pointer (some ⟨eb, 0, none⟩)]] := rfl
      have hr := hG.rowAt 4999 (act_base 4999 rfl) e0
      have c0 : u9.cell? ⟨xa, 0, none⟩ = some (.func (Fn.func 25) #[] #[.pointer (some ⟨eb, 0, none⟩)]) := hr.cell rfl
      clear hr e0
      go_simp
      exact hK _ α _ (fun _ _ => rfl) rfl (step_same (st9) hL hcl rfl rfl hG)
    · intro L9 α a9 u9 K9 hL hcl hA hG hS h0 h1 hK
      replace hL : L9 1 = false := hL
      have q9 : a9.tmps[9]? = some (.pointer (some ⟨B1, 0, none⟩)) := (h0 9 (by kernel_rfl)).trans rfl
      have s9 := Rega.eval_of q9
      have e0 : R9 L9 α 2999 = row (B1) 29 #[.iface 56 (.pointer (some ⟨vn, 0, none⟩)), .int .i32 lv] := rfl
      have hr := hG.rowAt 2999 (act_base 2999 rfl) e0
      have c0 : u9.cell? ⟨B1, 0, none⟩ = some (.iface 56 (.pointer (some ⟨vn, 0, none⟩))) := hr.cell rfl
      have c1 : u9.cell? ⟨B1, 1, none⟩ = some (.int .i32 lv) := hr.cell rfl
      clear hr e0
      go_simp
      exact hK _ α _ (fun _ _ => rfl) rfl (step_same (st9) hL hcl rfl rfl hG)
    · intro L9 α a9 u9 K9 hL hcl hA hG hS h0 h1 hK
      replace hL : L9 2 = false := hL
      have q7 : a9.tmps[7]? = some (.pointer (some ⟨xp, 0, none⟩)) := (h0 7 (by kernel_rfl)).trans rfl
      have s7 := Rega.eval_of q7
      have e0 : R9 L9 α 3999 = row (xp) 22 #[.pointer (some ⟨pb, 0, none⟩)] := rfl
      have hr := hG.rowAt 3999 (act_base 3999 rfl) e0
      have c0 : u9.cell? ⟨xp, 0, none⟩ = some (.pointer (some ⟨pb, 0, none⟩)) := hr.cell rfl
      clear hr e0
      go_simp
      exact hK _ α _ (fun _ _ => rfl) rfl (step_same (st9) hL hcl rfl rfl hG)
    · intro L9 α a9 u9 K9 hL hcl hA hG hS h0 h1 hK
      replace hL : L9 3 = false := hL
      have q9 : a9.tmps[9]? = some (.pointer (some ⟨B1, 0, none⟩)) := (h0 9 (by kernel_rfl)).trans rfl
      have s9 := Rega.eval_of q9
      go_simp
      exact hK _ α _ (fun _ _ => rfl) rfl (step_same (st9) hL hcl rfl rfl hG)
    · intro L9 α a9 u9 K9 hL hcl hA hG hS h0 h1 hK
      replace hL : L9 4 = false := hL
      have q75 : a9.tmps[75]? = some (.pointer (some ⟨B1, 1, none⟩)) := hS 3 75 (by decide) rfl (by show 75 < 89; decide)
      have s75 := Rega.eval_of q75
      have e0 : R9 L9 α 2999 = row (B1) 29 #[.iface 56 (.pointer (some ⟨vn, 0, none⟩)), .int .i32 lv] := rfl
      have hr := hG.rowAt 2999 (act_base 2999 rfl) e0
      have c0 : u9.cell? ⟨B1, 1, none⟩ = some (.int .i32 lv) := hr.cell rfl
      clear hr e0
      go_simp
      exact hK _ α _ (fun _ _ => rfl) rfl (step_same (st9) hL hcl rfl rfl hG)
    · intro L9 α a9 u9 K9 hL hcl hA hG hS h0 h1 hK
      replace hL : L9 5 = false := hL
      have q10 : a9.tmps[10]? = some (.pointer (some ⟨B1_1, 0, none⟩)) := (h0 10 (by kernel_rfl)).trans rfl
      have s10 := Rega.eval_of q10
      have e0 : R9 L9 α 1999 = row (B1_1) 29 #[.iface 56 (.pointer (some ⟨vi, 0, none⟩)), .int .i32 li] := rfl
      have hr := hG.rowAt 1999 (act_base 1999 rfl) e0
      have c0 : u9.cell? ⟨B1_1, 0, none⟩ = some (.iface 56 (.pointer (some ⟨vi, 0, none⟩))) := hr.cell rfl
      have c1 : u9.cell? ⟨B1_1, 1, none⟩ = some (.int .i32 li) := hr.cell rfl
      clear hr e0
      go_simp
      exact hK _ α _ (fun _ _ => rfl) rfl (step_same (st9) hL hcl rfl rfl hG)
    · intro L9 α a9 u9 K9 hL hcl hA hG hS h0 h1 hK
      replace hL : L9 6 = false := hL
      have q9 : a9.tmps[9]? = some (.pointer (some ⟨B1, 0, none⟩)) := (h0 9 (by kernel_rfl)).trans rfl
      have s9 := Rega.eval_of q9
      go_simp
      exact hK _ α _ (fun _ _ => rfl) rfl (step_same (st9) hL hcl rfl rfl hG)
    · intro L9 α a9 u9 K9 hL hcl hA hG hS h0 h1 hK
      replace hL : L9 7 = false := hL
      have q78 : a9.tmps[78]? = some (.pointer (some ⟨B1, 1, none⟩)) := hS 6 78 (by decide) rfl (by show 78 < 89; decide)
      have s78 := Rega.eval_of q78
      have e0 : R9 L9 α 2999 = row (B1) 29 #[.iface 56 (.pointer (some ⟨vn, 0, none⟩)), .int .i32 lv] := rfl
      have hr := hG.rowAt 2999 (act_base 2999 rfl) e0
      have c0 : u9.cell? ⟨B1, 1, none⟩ = some (.int .i32 lv) := hr.cell rfl
      clear hr e0
      go_simp
      exact hK _ α _ (fun _ _ => rfl) rfl (step_same (st9) hL hcl rfl rfl hG)
    · intro L9 α a9 u9 K9 hL hcl hA hG hS h0 h1 hK
      replace hL : L9 8 = false := hL
      have q14 : a9.tmps[14]? = some (.slice (some ⟨B1_2, 0, none⟩) 0 0) := (h0 14 (by kernel_rfl)).trans rfl
      have s14 := Rega.eval_of q14
      go_simp
      exact hK _ α _ (fun _ _ => rfl) rfl (step_same (st9) hL hcl rfl rfl hG)
    · intro L9 α a9 u9 K9 hL hcl hA hG hS h0 h1 hK
      replace hL : L9 9 = false := hL
      have q4 : a9.tmps[4]? = some (.bool false) := (h0 4 (by kernel_rfl)).trans rfl
      have s4 := Rega.eval_of q4
      go_simp
      exact hK _ α _ (fun _ _ => rfl) rfl (step_same (st9) hL hcl rfl rfl hG)
    · intro L9 α a9 u9 K9 hL hcl hA hG hS h0 h1 hK
      replace hL : L9 10 = false := hL
      have q80 : a9.tmps[80]? = some (.slice (some ⟨B1_2, 0, none⟩) 0 0) := hS 8 80 (by decide) rfl (by show 80 < 89; decide)
      have s80 := Rega.eval_of q80
      have q81 : a9.tmps[81]? = some (.bool false) := hS 9 81 (by decide) rfl (by show 81 < 89; decide)
      have s81 := Rega.eval_of q81
      go_simp
      exact hK _ α _ (fun _ _ => rfl) rfl (step_same (st9) hL hcl rfl rfl hG)
    · intro L9 α a9 u9 K9 hL hcl hA hG hS h0 h1 hK
      replace hL : L9 11 = false := hL
      have q82 : a9.tmps[82]? = some (.agg #[.slice (some ⟨B1_2, 0, none⟩) 0 0, .int .i32 0, .int .i32 0, .bool false, .bool false]) := hS 10 82 (by decide) rfl (by show 82 < 89; decide)
      have s82 := Rega.eval_of q82
      go_simp
      exact hK _ (fun j => if j = 11 then u9.heap.size else α j) _ (fun j hj => if_neg (fun e => hj (by rw [e]))) rfl (step_alloc (st9) hL hcl rfl rfl (by decide) _ rfl hG)
    · intro L9 α a9 u9 K9 hL hcl hA hG hS h0 h1 hK
      replace hL : L9 12 = false := hL
      have q83 : a9.tmps[83]? = some (.pointer (some ⟨α 11, 0, none⟩)) := hS 11 83 (by decide) rfl (by show 83 < 89; decide)
      have s83 := Rega.eval_of q83
      go_simp
      exact hK _ α _ (fun _ _ => rfl) rfl (step_same (st9) hL hcl rfl rfl hG)
    · intro L9 α a9 u9 K9 hL hcl hA hG hS h0 h1 hK
      replace hL : L9 13 = false := hL
      have q79 : a9.tmps[79]? = some (.agg #[.int .i32 lv]) := hS 7 79 (by decide) rfl (by show 79 < 89; decide)
      have s79 := Rega.eval_of q79
      have q84 : a9.tmps[84]? = some (.iface 205 (.pointer (some ⟨α 11, 0, none⟩))) := hS 12 84 (by decide) rfl (by show 84 < 89; decide)
      have s84 := Rega.eval_of q84
      go_simp
      exact hK _ α _ (fun _ _ => rfl) rfl (step_same (st9) hL hcl rfl rfl hG)
    · intro L9 α a9 u9 K9 hL hcl hA hG hS h0 h1 hK
      replace hL : L9 14 = false := hL
      have q77 : a9.tmps[77]? = some (.agg #[.iface 56 (.pointer (some ⟨vi, 0, none⟩)), .int .i32 li]) := hS 5 77 (by decide) rfl (by show 77 < 89; decide)
      have s77 := Rega.eval_of q77
      have q85 : a9.tmps[85]? = some (.agg #[.iface 205 (.pointer (some ⟨α 11, 0, none⟩)), .int .i32 lv]) := hS 13 85 (by decide) rfl (by show 85 < 89; decide)
      have s85 := Rega.eval_of q85
      go_simp
      exact hK _ (fun j => if j = 14 then u9.heap.size else α j) _ (fun j hj => if_neg (fun e => hj (by rw [e]))) rfl (step_alloc (st9) hL hcl rfl rfl (by decide) _ rfl hG)
    · intro L9 α a9 u9 K9 hL hcl hA hG hS h0 h1 hK
      replace hL : L9 15 = false := hL
      have q74 : a9.tmps[74]? = some (.pointer (some ⟨pb, 0, none⟩)) := hS 2 74 (by decide) rfl (by show 74 < 89; decide)
      have s74 := Rega.eval_of q74
      have q76 : a9.tmps[76]? = some (.agg #[.int .i32 lv]) := hS 4 76 (by decide) rfl (by show 76 < 89; decide)
      have s76 := Rega.eval_of q76
      have q86 : a9.tmps[86]? = some (.slice (some ⟨α 14, 0, none⟩) 2 2) := hS 14 86 (by decide) rfl (by show 86 < 89; decide)
      have s86 := Rega.eval_of q86
      go_simp
      have e0 : R9 L9 α 6999 = row (pb) 182 PC := by
        show rrst011a1T6999 pb PC sb c st n src mp es k ms MC gb cg G m xp xa eb va wa vn lv vi li B1_2 B1_1 B1 L9 α = _
        unfold rrst011a1T6999
        rw [if_neg (by rw [hL]; decide)]
      have e1 : R9 L9 α 7999 = row (sb) 201 (full symZ (symL st) c) := by
        show rrst011a1T7999 pb PC sb c st n src mp es k ms MC gb cg G m xp xa eb va wa vn lv vi li B1_2 B1_1 B1 L9 α = _
        unfold rrst011a1T7999
        rw [if_neg (by rw [hL]; decide)]
      have e2 : R9 L9 α 8999 = ((mp, .map es k) : Rw) := by
        show rrst011a1T8999 pb PC sb c st n src mp es k ms MC gb cg G m xp xa eb va wa vn lv vi li B1_2 B1_1 B1 L9 α = _
        unfold rrst011a1T8999
        rw [if_neg (by rw [hL]; decide)]
      have e3 : R9 L9 α 9999 = row (ms) 194 MC := by
        show rrst011a1T9999 pb PC sb c st n src mp es k ms MC gb cg G m xp xa eb va wa vn lv vi li B1_2 B1_1 B1 L9 α = _
        unfold rrst011a1T9999
        rw [if_neg (by rw [hL]; decide)]
      have e4 : R9 L9 α 10999 = row (gb) 58 (full refZ G cg) := by
        show rrst011a1T10999 pb PC sb c st n src mp es k ms MC gb cg G m xp xa eb va wa vn lv vi li B1_2 B1_1 B1 L9 α = _
        unfold rrst011a1T10999
        rw [if_neg (by rw [hL]; decide)]
      have hM : ∀ i, i ∈ [6999, 7999, 8999, 9999, 10999] → act rrst011a1Cnt 11 L9 i := by
        intro i hi
        simp only [List.mem_cons, List.not_mem_nil, or_false] at hi
        rcases hi with rfl | rfl | rfl | rfl | rfl
        · exact act_base 6999 rfl
        · exact act_base 7999 rfl
        · exact act_base 8999 rfl
        · exact act_base 9999 rfl
        · exact act_base 10999 rfl
      have hP : Own w0 u9 [row (pb) 182 PC, row (sb) 201 (full symZ (symL st) c), ((mp, .map es k) : Rw), row (ms) 194 MC, row (gb) 58 (full refZ G cg)] _ := (hG.pick [6999, 7999, 8999, 9999, 10999] (by decide) hM).conv (by
        show [R9 L9 α 6999, R9 L9 α 7999, R9 L9 α 8999, R9 L9 α 9999, R9 L9 α 10999] = _
        rw [e0, e1, e2, e3, e4])
      clear e0 e1 e2 e3 e4 hM
      refine Calls.mono (callF1 pb PC sb c st n src mp es k ms MC gb cg G m lv ⟨#[95, 95, 111, 98, 106, 82, 101, 115, 116]⟩ (α 14) 2 2 _ _ _ hP hk350 hk32 hk105 hk66 hk117 hk187 hk106 hn hnb hgen hgl hgm hno hg0 hg1) ?_
      rintro e9 u1 ⟨b0, b1, b2, b3, b4, b5, rfl, hQ⟩
      obtain ⟨α', hα'⟩ : ∃ α' : Rega.Atoms, α' = (fun j => if j = 15 then b0 else if j = 1015 then b1 else if j = 2015 then b2 else if j = 3015 then b3 else if j = 4015 then b4 else if j = 5015 then b5 else α j) := ⟨_, rfl⟩
      have f0 : R9 (Rega.ran L9 15) α' 6999 = row (pb) 182 (PC.setIfInBounds 106 (.slice (some ⟨α' 2015, 0, none⟩) (n + 1) (n + 1 + (α' 3015)))) := by
        show rrst011a1T6999 pb PC sb c st n src mp es k ms MC gb cg G m xp xa eb va wa vn lv vi li B1_2 B1_1 B1 (Rega.ran L9 15) α' = _
        unfold rrst011a1T6999
        rw [if_pos (show Rega.ran L9 15 15 = true from rfl)]
      have f1 : R9 (Rega.ran L9 15) α' 7999 = row (α' 2015) 201 (full symZ (symL (bump (st ++ [syk ⟨#[95, 95, 111, 98, 106, 82, 101, 115, 116]⟩ 27]) n)) (α' 3015)) := by
        show rrst011a1T7999 pb PC sb c st n src mp es k ms MC gb cg G m xp xa eb va wa vn lv vi li B1_2 B1_1 B1 (Rega.ran L9 15) α' = _
        unfold rrst011a1T7999
        rw [if_pos (show Rega.ran L9 15 15 = true from rfl)]
      have f2 : R9 (Rega.ran L9 15) α' 8999 = ((mp, .map (es.push ⟨.string ⟨#[95, 95, 111, 98, 106, 82, 101, 115, 116]⟩, .agg #[.int .i32 lv, .int .u32 src, .int .u32 (n : Int)], k⟩) (k + 1)) : Rw) := by
        show rrst011a1T8999 pb PC sb c st n src mp es k ms MC gb cg G m xp xa eb va wa vn lv vi li B1_2 B1_1 B1 (Rega.ran L9 15) α' = _
        unfold rrst011a1T8999
        rw [if_pos (show Rega.ran L9 15 15 = true from rfl)]
      have f3 : R9 (Rega.ran L9 15) α' 9999 = row (ms) 194 (MC.setIfInBounds 5 (.slice (some ⟨α' 4015, 0, none⟩) (m + 1) (m + 1 + (α' 5015)))) := by
        show rrst011a1T9999 pb PC sb c st n src mp es k ms MC gb cg G m xp xa eb va wa vn lv vi li B1_2 B1_1 B1 (Rega.ran L9 15) α' = _
        unfold rrst011a1T9999
        rw [if_pos (show Rega.ran L9 15 15 = true from rfl)]
      have f4 : R9 (Rega.ran L9 15) α' 10999 = row (α' 4015) 58 (full refZ (G ++ [.int .u32 src, .int .u32 (n : Int)]) (α' 5015)) := by
        show rrst011a1T10999 pb PC sb c st n src mp es k ms MC gb cg G m xp xa eb va wa vn lv vi li B1_2 B1_1 B1 (Rega.ran L9 15) α' = _
        unfold rrst011a1T10999
        rw [if_pos (show Rega.ran L9 15 15 = true from rfl)]
      have f5 : R9 (Rega.ran L9 15) α' 1015 = row (α' 1015) 60 #[.int .u32 src, .int .u32 (n : Int), .bool false, .bool false, .bool false] := rfl
      have f6 : R9 (Rega.ran L9 15) α' 15 = row (α' 15) 288 #[.iface 56 (.pointer (some ⟨α' 1015, 0, none⟩)), .int .i32 lv, .slice (some ⟨α' 14, 0, none⟩) 2 2, .int .i32 0, .int .u8 0, .int .u8 0, .bool false, .bool false] := rfl
      have hα : ∀ j, j % 1000 ≠ 15 → α' j = α j := fun j hj => by rw [hα']; simp only []; rw [if_neg (by omega), if_neg (by omega), if_neg (by omega), if_neg (by omega), if_neg (by omega), if_neg (by omega)]
      have hb0 : α' 15 = b0 := by rw [hα']; rfl
      have hb1 : α' 1015 = b1 := by rw [hα']; rfl
      have hb2 : α' 2015 = b2 := by rw [hα']; rfl
      have hb3 : α' 3015 = b3 := by rw [hα']; rfl
      have hb4 : α' 4015 = b4 := by rw [hα']; rfl
      have hb5 : α' 5015 = b5 := by rw [hα']; rfl
      have ha14 : α' 14 = α 14 := hα 14 (by decide)
      skip
      refine hK _ α' _ hα ?_ (step_call (st9) hL hcl hα [6999, 7999, 8999, 9999, 10999] [6999, 7999, 8999, 9999, 10999, 1015, 15] (by decide) (by decide) (by decide) (M := _) ?_ hG hQ)
      · show _ = (.agg #[.iface 284 (.pointer (some ⟨α' 15, 0, none⟩)), .int .i32 lv] : Value)
        simp only [hb0]
      · show [R9 (Rega.ran L9 15) α' 6999, R9 (Rega.ran L9 15) α' 7999, R9 (Rega.ran L9 15) α' 8999, R9 (Rega.ran L9 15) α' 9999, R9 (Rega.ran L9 15) α' 10999, R9 (Rega.ran L9 15) α' 1015, R9 (Rega.ran L9 15) α' 15] = _
        rw [f0, f1, f2, f3, f4, f5, f6]
        simp only [hb0, hb1, hb2, hb3, hb4, hb5, ha14]
        try rfl
    · intro L9 α a9 u9 K9 hL hcl hA hG hS h0 h1 hK
      replace hL : L9 16 = false := hL
      have q72 : a9.tmps[72]? = some (.func (Fn.func 25) #[] #[.pointer (some ⟨eb, 0, none⟩)]) := hS 0 72 (by decide) rfl (by show 72 < 89; decide)
      have s72 := Rega.eval_of q72
      have q73 : a9.tmps[73]? = some (.agg #[.iface 56 (.pointer (some ⟨vn, 0, none⟩)), .int .i32 lv]) := hS 1 73 (by decide) rfl (by show 73 < 89; decide)
      have s73 := Rega.eval_of q73
      have q87 : a9.tmps[87]? = some (.agg #[.iface 284 (.pointer (some ⟨α 15, 0, none⟩)), .int .i32 lv]) := hS 15 87 (by decide) rfl (by show 87 < 89; decide)
      have s87 := Rega.eval_of q87
      go_simp
      have e0 : R9 L9 α 5999 = row (eb) 29 #[.iface 241 (.pointer (some ⟨va, 0, none⟩)), .int .i32 wa] := by
        show rrst011a1T5999 pb PC sb c st n src mp es k ms MC gb cg G m xp xa eb va wa vn lv vi li B1_2 B1_1 B1 L9 α = _
        unfold rrst011a1T5999
        rw [if_neg (by rw [hL]; decide)]
      have hM : ∀ i, i ∈ [5999] → act rrst011a1Cnt 11 L9 i := by
        intro i hi
        simp only [List.mem_cons, List.not_mem_nil, or_false] at hi
        subst hi
        exact act_base 5999 rfl
      have hP : Own w0 u9 [row (eb) 29 #[.iface 241 (.pointer (some ⟨va, 0, none⟩)), .int .i32 wa]] _ := (hG.pick [5999] (by decide) hM).conv (by
        show [R9 L9 α 5999] = _
        rw [e0])
      clear e0 hM
      refine Calls.mono (asg1 eb va wa 56 vn lv 284 (α 15) lv _ _ _ hP ) ?_
      rintro e9 u1 ⟨b0, rfl, hQ⟩
      obtain ⟨α', hα'⟩ : ∃ α' : Rega.Atoms, α' = (fun j => if j = 16 then b0 else α j) := ⟨_, rfl⟩
      have f0 : R9 (Rega.ran L9 16) α' 5999 = row (eb) 29 #[.iface 241 (.pointer (some ⟨α' 16, 0, none⟩)), .int .i32 wa] := by
        show rrst011a1T5999 pb PC sb c st n src mp es k ms MC gb cg G m xp xa eb va wa vn lv vi li B1_2 B1_1 B1 (Rega.ran L9 16) α' = _
        unfold rrst011a1T5999
        rw [if_pos (show Rega.ran L9 16 16 = true from rfl)]
      have hα : ∀ j, j % 1000 ≠ 16 → α' j = α j := fun j hj => by rw [hα']; simp only []; rw [if_neg (by omega)]
      have hb0 : α' 16 = b0 := by rw [hα']; rfl
      skip
      refine hK _ α' _ hα ?_ (step_call (st9) hL hcl hα [5999] [5999] (by decide) (by decide) (by decide) (M := _) ?_ hG hQ)
      · rfl
      · show [R9 (Rega.ran L9 16) α' 5999] = _
        rw [f0]
        simp only [hb0]
        try rfl
  clear st9
  intro α u hG
  have e0 : R9 (fun k => decide (k < 17)) α 999 = row (B1_2) 29 (full exZ [] 0) := rfl
  have e1 : R9 (fun k => decide (k < 17)) α 1999 = row (B1_1) 29 #[.iface 56 (.pointer (some ⟨vi, 0, none⟩)), .int .i32 li] := rfl
  have e2 : R9 (fun k => decide (k < 17)) α 2999 = row (B1) 29 #[.iface 56 (.pointer (some ⟨vn, 0, none⟩)), .int .i32 lv] := rfl
  have e3 : R9 (fun k => decide (k < 17)) α 3999 = row (xp) 22 #[.pointer (some ⟨pb, 0, none⟩)] := rfl
  have e4 : R9 (fun k => decide (k < 17)) α 4999 = row (xa) 210 #[.func (Fn.func 25) #[] #[.pointer (some ⟨eb, 0, none⟩)]] := rfl
  have e5 : R9 (fun k => decide (k < 17)) α 5999 = row (eb) 29 #[.iface 241 (.pointer (some ⟨α 16, 0, none⟩)), .int .i32 wa] := by
    show rrst011a1T5999 pb PC sb c st n src mp es k ms MC gb cg G m xp xa eb va wa vn lv vi li B1_2 B1_1 B1 (fun k => decide (k < 17)) α = _
    unfold rrst011a1T5999
    rw [if_pos (by decide)]
  have e6 : R9 (fun k => decide (k < 17)) α 6999 = row (pb) 182 (PC.setIfInBounds 106 (.slice (some ⟨α 2015, 0, none⟩) (n + 1) (n + 1 + (α 3015)))) := by
    show rrst011a1T6999 pb PC sb c st n src mp es k ms MC gb cg G m xp xa eb va wa vn lv vi li B1_2 B1_1 B1 (fun k => decide (k < 17)) α = _
    unfold rrst011a1T6999
    rw [if_pos (by decide)]
  have e7 : R9 (fun k => decide (k < 17)) α 7999 = row (α 2015) 201 (full symZ (symL (bump (st ++ [syk ⟨#[95, 95, 111, 98, 106, 82, 101, 115, 116]⟩ 27]) n)) (α 3015)) := by
    show rrst011a1T7999 pb PC sb c st n src mp es k ms MC gb cg G m xp xa eb va wa vn lv vi li B1_2 B1_1 B1 (fun k => decide (k < 17)) α = _
    unfold rrst011a1T7999
    rw [if_pos (by decide)]
  have e8 : R9 (fun k => decide (k < 17)) α 8999 = ((mp, .map (es.push ⟨.string ⟨#[95, 95, 111, 98, 106, 82, 101, 115, 116]⟩, .agg #[.int .i32 lv, .int .u32 src, .int .u32 (n : Int)], k⟩) (k + 1)) : Rw) := by
    show rrst011a1T8999 pb PC sb c st n src mp es k ms MC gb cg G m xp xa eb va wa vn lv vi li B1_2 B1_1 B1 (fun k => decide (k < 17)) α = _
    unfold rrst011a1T8999
    rw [if_pos (by decide)]
  have e9 : R9 (fun k => decide (k < 17)) α 9999 = row (ms) 194 (MC.setIfInBounds 5 (.slice (some ⟨α 4015, 0, none⟩) (m + 1) (m + 1 + (α 5015)))) := by
    show rrst011a1T9999 pb PC sb c st n src mp es k ms MC gb cg G m xp xa eb va wa vn lv vi li B1_2 B1_1 B1 (fun k => decide (k < 17)) α = _
    unfold rrst011a1T9999
    rw [if_pos (by decide)]
  have e10 : R9 (fun k => decide (k < 17)) α 10999 = row (α 4015) 58 (full refZ (G ++ [.int .u32 src, .int .u32 (n : Int)]) (α 5015)) := by
    show rrst011a1T10999 pb PC sb c st n src mp es k ms MC gb cg G m xp xa eb va wa vn lv vi li B1_2 B1_1 B1 (fun k => decide (k < 17)) α = _
    unfold rrst011a1T10999
    rw [if_pos (by decide)]
  have e11 : R9 (fun k => decide (k < 17)) α 11 = row (α 11) 207 #[.slice (some ⟨B1_2, 0, none⟩) 0 0, .int .i32 0, .int .i32 0, .bool false, .bool false] := rfl
  have e12 : R9 (fun k => decide (k < 17)) α 14 = row (α 14) 29 #[.iface 56 (.pointer (some ⟨vi, 0, none⟩)), .int .i32 li, .iface 205 (.pointer (some ⟨α 11, 0, none⟩)), .int .i32 lv] := rfl
  have e13 : R9 (fun k => decide (k < 17)) α 15 = row (α 15) 288 #[.iface 56 (.pointer (some ⟨α 1015, 0, none⟩)), .int .i32 lv, .slice (some ⟨α 14, 0, none⟩) 2 2, .int .i32 0, .int .u8 0, .int .u8 0, .bool false, .bool false] := rfl
  have e14 : R9 (fun k => decide (k < 17)) α 1015 = row (α 1015) 60 #[.int .u32 src, .int .u32 (n : Int), .bool false, .bool false, .bool false] := rfl
  have hO : Own w0 u [row (B1_2) 29 (full exZ [] 0), row (B1_1) 29 #[.iface 56 (.pointer (some ⟨vi, 0, none⟩)), .int .i32 li], row (B1) 29 #[.iface 56 (.pointer (some ⟨vn, 0, none⟩)), .int .i32 lv], row (xp) 22 #[.pointer (some ⟨pb, 0, none⟩)], row (xa) 210 #[.func (Fn.func 25) #[] #[.pointer (some ⟨eb, 0, none⟩)]], row (eb) 29 #[.iface 241 (.pointer (some ⟨α 16, 0, none⟩)), .int .i32 wa], row (pb) 182 (PC.setIfInBounds 106 (.slice (some ⟨α 2015, 0, none⟩) (n + 1) (n + 1 + (α 3015)))), row (α 2015) 201 (full symZ (symL (bump (st ++ [syk ⟨#[95, 95, 111, 98, 106, 82, 101, 115, 116]⟩ 27]) n)) (α 3015)), ((mp, .map (es.push ⟨.string ⟨#[95, 95, 111, 98, 106, 82, 101, 115, 116]⟩, .agg #[.int .i32 lv, .int .u32 src, .int .u32 (n : Int)], k⟩) (k + 1)) : Rw), row (ms) 194 (MC.setIfInBounds 5 (.slice (some ⟨α 4015, 0, none⟩) (m + 1) (m + 1 + (α 5015)))), row (α 4015) 58 (full refZ (G ++ [.int .u32 src, .int .u32 (n : Int)]) (α 5015)), row (α 11) 207 #[.slice (some ⟨B1_2, 0, none⟩) 0 0, .int .i32 0, .int .i32 0, .bool false, .bool false], row (α 14) 29 #[.iface 56 (.pointer (some ⟨vi, 0, none⟩)), .int .i32 li, .iface 205 (.pointer (some ⟨α 11, 0, none⟩)), .int .i32 lv], row (α 15) 288 #[.iface 56 (.pointer (some ⟨α 1015, 0, none⟩)), .int .i32 lv, .slice (some ⟨α 14, 0, none⟩) 2 2, .int .i32 0, .int .u8 0, .int .u8 0, .bool false, .bool false], row (α 1015) 60 #[.int .u32 src, .int .u32 (n : Int), .bool false, .bool false, .bool false]] X := (hG.list [999, 1999, 2999, 3999, 4999, 5999, 6999, 7999, 8999, 9999, 10999, 11, 14, 15, 1015] (by decide) (act_all (by decide))).conv (by
    show [R9 (fun k => decide (k < 17)) α 999, R9 (fun k => decide (k < 17)) α 1999, R9 (fun k => decide (k < 17)) α 2999, R9 (fun k => decide (k < 17)) α 3999, R9 (fun k => decide (k < 17)) α 4999, R9 (fun k => decide (k < 17)) α 5999, R9 (fun k => decide (k < 17)) α 6999, R9 (fun k => decide (k < 17)) α 7999, R9 (fun k => decide (k < 17)) α 8999, R9 (fun k => decide (k < 17)) α 9999, R9 (fun k => decide (k < 17)) α 10999, R9 (fun k => decide (k < 17)) α 11, R9 (fun k => decide (k < 17)) α 14, R9 (fun k => decide (k < 17)) α 15, R9 (fun k => decide (k < 17)) α 1015] = _
    rw [e0, e1, e2, e3, e4, e5, e6, e7, e8, e9, e10, e11, e12, e13, e14])
  clear hG e0 e1 e2 e3 e4 e5 e6 e7 e8 e9 e10 e11 e12 e13 e14 R9
  generalize hfr : Rega.frameAt _ _ _ _ _ = fr
  have hdf : fr = ⟨#[.slice (some ⟨pr, 0, none⟩) 0 pcp, .agg #[.iface 56 (.pointer (some ⟨vn, 0, none⟩)), .int .i32 lv], .agg #[.iface 56 (.pointer (some ⟨vi, 0, none⟩)), .int .i32 li], .slice none 0 0, .bool false, .pointer (some ⟨xc, 0, none⟩), .pointer (some ⟨xa, 0, none⟩), .pointer (some ⟨xp, 0, none⟩), undef, .pointer (some ⟨B1, 0, none⟩), .pointer (some ⟨B1_1, 0, none⟩), undef, undef, undef, .slice (some ⟨B1_2, 0, none⟩) 0 0, u15, u16, .slice (some ⟨pr, 0, none⟩) 0 pcp, .int .i64 0, .bool false, undef, undef, undef, undef, undef, undef, undef, undef, undef, undef, undef, undef, undef, undef, undef, undef, undef, undef, undef, undef, undef, undef, undef, undef, undef, undef, undef, undef, undef, undef, undef, undef, undef, undef, undef, undef, .slice none 0 0, .int .i64 0, .slice (some ⟨B1_2, 0, none⟩) 0 0, .slice none 0 0, .int .i64 0, .int .i64 0, .bool false, u63, u64, u65, u66, u67, u68, u69, u70, u71, .func (Fn.func 25) #[] #[.pointer (some ⟨eb, 0, none⟩)], .agg #[.iface 56 (.pointer (some ⟨vn, 0, none⟩)), .int .i32 lv], .pointer (some ⟨pb, 0, none⟩), .pointer (some ⟨B1, 1, none⟩), .agg #[.int .i32 lv], .agg #[.iface 56 (.pointer (some ⟨vi, 0, none⟩)), .int .i32 li], .pointer (some ⟨B1, 1, none⟩), .agg #[.int .i32 lv], .slice (some ⟨B1_2, 0, none⟩) 0 0, .bool false, .agg #[.slice (some ⟨B1_2, 0, none⟩) 0 0, .int .i32 0, .int .i32 0, .bool false, .bool false], .pointer (some ⟨α 11, 0, none⟩), .iface 205 (.pointer (some ⟨α 11, 0, none⟩)), .agg #[.iface 205 (.pointer (some ⟨α 11, 0, none⟩)), .int .i32 lv], .slice (some ⟨α 14, 0, none⟩) 2 2, .agg #[.iface 284 (.pointer (some ⟨α 15, 0, none⟩)), .int .i32 lv], .tuple #[]], []⟩ := by rw [← hfr]; kernel_rfl
  clear hfr
  subst hdf
  generalize α 11 = nd3 at hO ⊢
  generalize α 14 = nd4 at hO ⊢
  generalize α 15 = nd5 at hO ⊢
  generalize α 16 = nd6 at hO ⊢
  generalize α 1015 = nd7 at hO ⊢
  generalize α 2015 = nd8 at hO ⊢
  generalize α 3015 = nd9 at hO ⊢
  generalize α 4015 = nd10 at hO ⊢
  generalize α 5015 = nd11 at hO ⊢
  clear α
  obtain ⟨c9_1_0, c9_1_1, lt9_1, y9_1, -⟩ := hO.k2 1 rfl
  obtain ⟨c9_2_0, c9_2_1, lt9_2, y9_2, -⟩ := hO.k2 2 rfl
  obtain ⟨c9_3_0, lt9_3, y9_3, -⟩ := hO.k1 3 rfl
  obtain ⟨c9_4_0, lt9_4, y9_4, -⟩ := hO.k1 4 rfl
  obtain ⟨c9_5_0, c9_5_1, lt9_5, y9_5, -⟩ := hO.k2 5 rfl
  obtain ⟨c9_11_0, c9_11_1, c9_11_2, c9_11_3, c9_11_4, lt9_11, y9_11, -⟩ := hO.k5 11 rfl
  obtain ⟨c9_12_0, c9_12_1, c9_12_2, c9_12_3, lt9_12, y9_12, -⟩ := hO.k4 12 rfl
  obtain ⟨c9_13_0, c9_13_1, c9_13_2, c9_13_3, c9_13_4, c9_13_5, c9_13_6, c9_13_7, lt9_13, y9_13, -⟩ := hO.k8 13 rfl
  obtain ⟨c9_14_0, c9_14_1, c9_14_2, c9_14_3, c9_14_4, lt9_14, y9_14, -⟩ := hO.k5 14 rfl
  have HO := Lib.hid hO
  clear hO
  go_wp2_with (first | (with_reducible refine Own.stay (fn := Tryz.f42) ?_) | fail)
  try with_reducible refine Own.Stay.mk ?_
  have hO := HO.out
  clear HO c9_1_0 c9_1_1 lt9_1 y9_1 c9_2_0 c9_2_1 lt9_2 y9_2 c9_3_0 lt9_3 y9_3 c9_4_0 lt9_4 y9_4 c9_5_0 c9_5_1 lt9_5 y9_5 c9_11_0 c9_11_1 c9_11_2 c9_11_3 c9_11_4 lt9_11 y9_11 c9_12_0 c9_12_1 c9_12_2 c9_12_3 lt9_12 y9_12 c9_13_0 c9_13_1 c9_13_2 c9_13_3 c9_13_4 c9_13_5 c9_13_6 c9_13_7 lt9_13 y9_13 c9_14_0 c9_14_1 c9_14_2 c9_14_3 c9_14_4 lt9_14 y9_14
  refine bodyPost_ret (v := .tuple #[]) ?_ rfl ⟨nd6, nd8, nd9, nd10, nd11, rfl, hO.sub [3, 4, 5, 6, 7, 8, 9, 10] (by decide)⟩
  simp [results, Tryz.results42, go_sem]
end Go.Proofs.YtghofdhhhbbaaaaGreatDoor.Use
