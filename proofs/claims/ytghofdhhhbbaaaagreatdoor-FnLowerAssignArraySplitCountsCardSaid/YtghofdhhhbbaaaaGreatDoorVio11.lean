/- A visit of the object {...r}. No condition. -/
import Derived.Test.YtghofdhhhbbaaaaGreatDoorRst11
import Derived.Test.YtghofdhhhbbaaaaGreatDoorRsth
import Derived.Test.YtghofdhhhbbaaaaGreatDoorLiveG
import Derived.Test.YtghofdhhhbbaaaaGreatDoorAsg
import Derived.Test.YtghofdhhhbbaaaaGreatDoorIts
import Derived.Test.YtghofdhhhbbaaaaGreatDoorIfm
import Derived.Test.YtghofdhhhbbaaaaGreatDoorSla
import Derived.Test.YtghofdhhhbbaaaaGreatDoorLoop
import Derived.Test.YtghofdhhhbbaaaaGreatDoorMini
import Derived.Test.YtghofdhhhbbaaaaGreatDoorAppL
import Derived.Test.YtghofdhhhbbaaaaGreatDoorApp
import Derived.Test.YtghofdhhhbbaaaaGreatDoorOwnK
import Derived.Test.YtghofdhhhbbaaaaGreatDoorOwn
import Derived.Test.YtghofdhhhbbaaaaGreatDoorDeepCells
import Derived.Test.YtghofdhhhbbaaaaGreatDoorRows
import Derived.Test.YtghofdhhhbbaaaaGreatDoorLive
namespace Go.Proofs.YtghofdhhhbbaaaaGreatDoor.Use
open Go.ChangeShapes Go.WideShapes Go.ChangeAt Go.RowKit Go.Sort Own
set_option linter.unusedVariables false
def rvisO11a1E (pb : Nat) (PC : Array Value) (sb : Nat) (c : Nat) (st : List Sy) (n : Nat) (src : Int) (mp : Nat) (es : Array MapEntry) (k : Nat) (ms : Nat) (MC : Array Value) (gb : Nat) (cg : Nat) (G : List Value) (m : Nat) (xc : Nat) (eb : Nat) (va : Nat) (wa : Int) (vi : Nat) (li : Int) (xr : Nat) (xp : Nat) (xa : Nat) (ob : Nat) (lo : Int) (pr : Nat) (cp : Nat) (vb : Nat) (B1_1 : Nat) (B1 : Nat) : Nat → Rega.Atoms → Value
  | 0, α => .func (Fn.func 42) #[] #[.pointer (some ⟨xc, 0, none⟩), .pointer (some ⟨xa, 0, none⟩), .pointer (some ⟨xp, 0, none⟩)]
  | 1, α => .pointer (some ⟨ob, 0, none⟩)
  | 2, α => .pointer (some ⟨ob, 0, none⟩)
  | 3, α => .pointer (some ⟨ob, 0, none⟩)
  | 4, α => .slice (some ⟨pr, 0, none⟩) 1 (1 + cp)
  | 5, α => .int .i64 0
  | 6, α => .slice (some ⟨pr, 0, none⟩) 0 (1 + cp)
  | 7, α => .pointer (some ⟨pr, 0, none⟩)
  | 8, α => .pointer (some ⟨pr, 0, none⟩)
  | 9, α => .pointer (some ⟨pr, 3, none⟩)
  | 10, α => .agg #[.iface 56 (.pointer (some ⟨vb, 0, none⟩)), .int .i32 0]
  | 11, α => .agg #[.iface 56 (.pointer (some ⟨vi, 0, none⟩)), .int .i32 li]
  | 12, α => .slice none 0 0
  | 13, α => .pointer (some ⟨ob, 0, none⟩)
  | 14, α => .pointer (some ⟨ob, 0, none⟩)
  | 15, α => .pointer (some ⟨ob, 3, none⟩)
  | 16, α => .bool false
  | 17, α => .tuple #[]
  | _, _ => undef
def rvisO11a1Anc : Nat → List Nat
  | 2 => [1]
  | 3 => [1, 2]
  | 4 => [1, 2, 3]
  | 6 => [1, 2, 3, 4, 5]
  | 8 => [7]
  | 9 => [7, 8]
  | 10 => [7, 8, 9]
  | 14 => [13]
  | 15 => [13, 14]
  | 16 => [13, 14, 15]
  | 17 => [0, 1, 2, 3, 4, 5, 6, 7, 8, 9, 10, 11, 12, 13, 14, 15, 16]
  | _ => []
def rvisO11a1Trn : Nat → List Nat
  | 17 => [7999, 8999, 9999, 10999, 11999, 12999]
  | _ => []
def rvisO11a1Cnt : List (Nat × Nat) := []
def rvisO11a1T7999 (pb : Nat) (PC : Array Value) (sb : Nat) (c : Nat) (st : List Sy) (n : Nat) (src : Int) (mp : Nat) (es : Array MapEntry) (k : Nat) (ms : Nat) (MC : Array Value) (gb : Nat) (cg : Nat) (G : List Value) (m : Nat) (xc : Nat) (eb : Nat) (va : Nat) (wa : Int) (vi : Nat) (li : Int) (xr : Nat) (xp : Nat) (xa : Nat) (ob : Nat) (lo : Int) (pr : Nat) (cp : Nat) (vb : Nat) (B1_1 : Nat) (B1 : Nat) (L9 : Nat → Bool) (α : Rega.Atoms) : Rw := if L9 17 = true then row (eb) 29 #[.iface 241 (.pointer (some ⟨α 17, 0, none⟩)), .int .i32 wa] else row (eb) 29 #[.iface 241 (.pointer (some ⟨va, 0, none⟩)), .int .i32 wa]
def rvisO11a1T8999 (pb : Nat) (PC : Array Value) (sb : Nat) (c : Nat) (st : List Sy) (n : Nat) (src : Int) (mp : Nat) (es : Array MapEntry) (k : Nat) (ms : Nat) (MC : Array Value) (gb : Nat) (cg : Nat) (G : List Value) (m : Nat) (xc : Nat) (eb : Nat) (va : Nat) (wa : Int) (vi : Nat) (li : Int) (xr : Nat) (xp : Nat) (xa : Nat) (ob : Nat) (lo : Int) (pr : Nat) (cp : Nat) (vb : Nat) (B1_1 : Nat) (B1 : Nat) (L9 : Nat → Bool) (α : Rega.Atoms) : Rw := if L9 17 = true then row (pb) 182 (PC.setIfInBounds 106 (.slice (some ⟨α 1017, 0, none⟩) (n + 1) (n + 1 + (α 2017)))) else row (pb) 182 PC
def rvisO11a1T9999 (pb : Nat) (PC : Array Value) (sb : Nat) (c : Nat) (st : List Sy) (n : Nat) (src : Int) (mp : Nat) (es : Array MapEntry) (k : Nat) (ms : Nat) (MC : Array Value) (gb : Nat) (cg : Nat) (G : List Value) (m : Nat) (xc : Nat) (eb : Nat) (va : Nat) (wa : Int) (vi : Nat) (li : Int) (xr : Nat) (xp : Nat) (xa : Nat) (ob : Nat) (lo : Int) (pr : Nat) (cp : Nat) (vb : Nat) (B1_1 : Nat) (B1 : Nat) (L9 : Nat → Bool) (α : Rega.Atoms) : Rw := if L9 17 = true then row (α 1017) 201 (full symZ (symL (bump (st ++ [syk ⟨#[95, 95, 111, 98, 106, 82, 101, 115, 116]⟩ 27]) n)) (α 2017)) else row (sb) 201 (full symZ (symL st) c)
def rvisO11a1T10999 (pb : Nat) (PC : Array Value) (sb : Nat) (c : Nat) (st : List Sy) (n : Nat) (src : Int) (mp : Nat) (es : Array MapEntry) (k : Nat) (ms : Nat) (MC : Array Value) (gb : Nat) (cg : Nat) (G : List Value) (m : Nat) (xc : Nat) (eb : Nat) (va : Nat) (wa : Int) (vi : Nat) (li : Int) (xr : Nat) (xp : Nat) (xa : Nat) (ob : Nat) (lo : Int) (pr : Nat) (cp : Nat) (vb : Nat) (B1_1 : Nat) (B1 : Nat) (L9 : Nat → Bool) (α : Rega.Atoms) : Rw := if L9 17 = true then ((mp, .map (es.push ⟨.string ⟨#[95, 95, 111, 98, 106, 82, 101, 115, 116]⟩, .agg #[.int .i32 0, .int .u32 src, .int .u32 (n : Int)], k⟩) (k + 1)) : Rw) else ((mp, .map es k) : Rw)
def rvisO11a1T11999 (pb : Nat) (PC : Array Value) (sb : Nat) (c : Nat) (st : List Sy) (n : Nat) (src : Int) (mp : Nat) (es : Array MapEntry) (k : Nat) (ms : Nat) (MC : Array Value) (gb : Nat) (cg : Nat) (G : List Value) (m : Nat) (xc : Nat) (eb : Nat) (va : Nat) (wa : Int) (vi : Nat) (li : Int) (xr : Nat) (xp : Nat) (xa : Nat) (ob : Nat) (lo : Int) (pr : Nat) (cp : Nat) (vb : Nat) (B1_1 : Nat) (B1 : Nat) (L9 : Nat → Bool) (α : Rega.Atoms) : Rw := if L9 17 = true then row (ms) 194 (MC.setIfInBounds 5 (.slice (some ⟨α 3017, 0, none⟩) (m + 1) (m + 1 + (α 4017)))) else row (ms) 194 MC
def rvisO11a1T12999 (pb : Nat) (PC : Array Value) (sb : Nat) (c : Nat) (st : List Sy) (n : Nat) (src : Int) (mp : Nat) (es : Array MapEntry) (k : Nat) (ms : Nat) (MC : Array Value) (gb : Nat) (cg : Nat) (G : List Value) (m : Nat) (xc : Nat) (eb : Nat) (va : Nat) (wa : Int) (vi : Nat) (li : Int) (xr : Nat) (xp : Nat) (xa : Nat) (ob : Nat) (lo : Int) (pr : Nat) (cp : Nat) (vb : Nat) (B1_1 : Nat) (B1 : Nat) (L9 : Nat → Bool) (α : Rega.Atoms) : Rw := if L9 17 = true then row (α 3017) 58 (full refZ (G ++ [.int .u32 src, .int .u32 (n : Int)]) (α 4017)) else row (gb) 58 (full refZ G cg)
def rvisO11a1R (pb : Nat) (PC : Array Value) (sb : Nat) (c : Nat) (st : List Sy) (n : Nat) (src : Int) (mp : Nat) (es : Array MapEntry) (k : Nat) (ms : Nat) (MC : Array Value) (gb : Nat) (cg : Nat) (G : List Value) (m : Nat) (xc : Nat) (eb : Nat) (va : Nat) (wa : Int) (vi : Nat) (li : Int) (xr : Nat) (xp : Nat) (xa : Nat) (ob : Nat) (lo : Int) (pr : Nat) (cp : Nat) (vb : Nat) (B1_1 : Nat) (B1 : Nat) (L9 : Nat → Bool) (α : Rega.Atoms) (ix9 : Nat) : Rw := if ix9 = 999 then row (B1_1) 29 #[.iface 56 (.pointer (some ⟨vi, 0, none⟩)), .int .i32 li] else if ix9 = 1999 then row (B1) 29 #[.iface 202 (.pointer (some ⟨ob, 0, none⟩)), .int .i32 lo] else if ix9 = 2999 then row (xr) 251 #[.func (Fn.func 42) #[] #[.pointer (some ⟨xc, 0, none⟩), .pointer (some ⟨xa, 0, none⟩), .pointer (some ⟨xp, 0, none⟩)]] else if ix9 = 3999 then row (ob) 204 #[.slice (some ⟨pr, 0, none⟩) 1 (1 + cp), .int .i32 0, .int .i32 0, .bool false, .bool false] else if ix9 = 4999 then row (pr) 52 (full prZ [.pointer none, .nilIface, .int .i32 0, .iface 56 (.pointer (some ⟨vb, 0, none⟩)), .int .i32 0, .nilIface, .int .i32 0, .slice none 0 0, .int .i32 0, .int .i32 0, .int .u8 5, .int .u8 0] cp) else if ix9 = 5999 then row (xp) 22 #[.pointer (some ⟨pb, 0, none⟩)] else if ix9 = 6999 then row (xa) 210 #[.func (Fn.func 25) #[] #[.pointer (some ⟨eb, 0, none⟩)]] else if ix9 = 7999 then rvisO11a1T7999 pb PC sb c st n src mp es k ms MC gb cg G m xc eb va wa vi li xr xp xa ob lo pr cp vb B1_1 B1 L9 α else if ix9 = 8999 then rvisO11a1T8999 pb PC sb c st n src mp es k ms MC gb cg G m xc eb va wa vi li xr xp xa ob lo pr cp vb B1_1 B1 L9 α else if ix9 = 9999 then rvisO11a1T9999 pb PC sb c st n src mp es k ms MC gb cg G m xc eb va wa vi li xr xp xa ob lo pr cp vb B1_1 B1 L9 α else if ix9 = 10999 then rvisO11a1T10999 pb PC sb c st n src mp es k ms MC gb cg G m xc eb va wa vi li xr xp xa ob lo pr cp vb B1_1 B1 L9 α else if ix9 = 11999 then rvisO11a1T11999 pb PC sb c st n src mp es k ms MC gb cg G m xc eb va wa vi li xr xp xa ob lo pr cp vb B1_1 B1 L9 α else if ix9 = 12999 then rvisO11a1T12999 pb PC sb c st n src mp es k ms MC gb cg G m xc eb va wa vi li xr xp xa ob lo pr cp vb B1_1 B1 L9 α else (0, .map #[] 0)
theorem rvisO11a1_he (pb : Nat) (PC : Array Value) (sb : Nat) (c : Nat) (st : List Sy) (n : Nat) (src : Int) (mp : Nat) (es : Array MapEntry) (k : Nat) (ms : Nat) (MC : Array Value) (gb : Nat) (cg : Nat) (G : List Value) (m : Nat) (xc : Nat) (eb : Nat) (va : Nat) (wa : Int) (vi : Nat) (li : Int) (xr : Nat) (xp : Nat) (xa : Nat) (ob : Nat) (lo : Int) (pr : Nat) (cp : Nat) (vb : Nat) (B1_1 : Nat) (B1 : Nat) : ∀ kk α α', (∀ j, (j % 1000 = kk ∨ j % 1000 ∈ rvisO11a1Anc kk) → α j = α' j) → rvisO11a1E pb PC sb c st n src mp es k ms MC gb cg G m xc eb va wa vi li xr xp xa ob lo pr cp vb B1_1 B1 kk α = rvisO11a1E pb PC sb c st n src mp es k ms MC gb cg G m xc eb va wa vi li xr xp xa ob lo pr cp vb B1_1 B1 kk α' := by
  intro kk α α' h
  match kk with
  | 0 => rfl
  | 1 => rfl
  | 2 => rfl
  | 3 => rfl
  | 4 => rfl
  | 5 => rfl
  | 6 => rfl
  | 7 => rfl
  | 8 => rfl
  | 9 => rfl
  | 10 => rfl
  | 11 => rfl
  | 12 => rfl
  | 13 => rfl
  | 14 => rfl
  | 15 => rfl
  | 16 => rfl
  | 17 => rfl
  | n + 18 => rfl
theorem rvisO11a1_st (pb : Nat) (PC : Array Value) (sb : Nat) (c : Nat) (st : List Sy) (n : Nat) (src : Int) (mp : Nat) (es : Array MapEntry) (k : Nat) (ms : Nat) (MC : Array Value) (gb : Nat) (cg : Nat) (G : List Value) (m : Nat) (xc : Nat) (eb : Nat) (va : Nat) (wa : Int) (vi : Nat) (li : Int) (xr : Nat) (xp : Nat) (xa : Nat) (ob : Nat) (lo : Int) (pr : Nat) (cp : Nat) (vb : Nat) (B1_1 : Nat) (B1 : Nat) : Stable rvisO11a1Cnt 13 rvisO11a1Anc rvisO11a1Trn (rvisO11a1R pb PC sb c st n src mp es k ms MC gb cg G m xc eb va wa vi li xr xp xa ob lo pr cp vb B1_1 B1) := by
  intro k9 L9 α α' ix9 hk hcl hα hact ht
  have hp := act_places hact
  replace hp : ix9 ∈ [999, 1999, 2999, 3999, 4999, 5999, 6999, 7999, 8999, 9999, 10999, 11999, 12999] := hp
  simp only [List.mem_cons, List.not_mem_nil, or_false] at hp
  rcases hp with rfl | rfl | rfl | rfl | rfl | rfl | rfl | rfl | rfl | rfl | rfl | rfl | rfl
  · rfl
  · rfl
  · rfl
  · rfl
  · rfl
  · rfl
  · rfl
  · show rvisO11a1T7999 pb PC sb c st n src mp es k ms MC gb cg G m xc eb va wa vi li xr xp xa ob lo pr cp vb B1_1 B1 (Rega.ran L9 k9) α' = rvisO11a1T7999 pb PC sb c st n src mp es k ms MC gb cg G m xc eb va wa vi li xr xp xa ob lo pr cp vb B1_1 B1 L9 α
    unfold rvisO11a1T7999
    have n17 : 17 ≠ k9 := fun e => ht (by rw [← e]; decide)
    rw [ran_ne n17]
    by_cases e17 : L9 17 = true
    · first | rw [if_pos e17, if_pos e17] | rw [if_pos e17]
      try simp only [hα 17 (ne_ran hk e17)]
    first | rw [if_neg e17, if_neg e17] | rw [if_neg e17]
  · show rvisO11a1T8999 pb PC sb c st n src mp es k ms MC gb cg G m xc eb va wa vi li xr xp xa ob lo pr cp vb B1_1 B1 (Rega.ran L9 k9) α' = rvisO11a1T8999 pb PC sb c st n src mp es k ms MC gb cg G m xc eb va wa vi li xr xp xa ob lo pr cp vb B1_1 B1 L9 α
    unfold rvisO11a1T8999
    have n17 : 17 ≠ k9 := fun e => ht (by rw [← e]; decide)
    rw [ran_ne n17]
    by_cases e17 : L9 17 = true
    · first | rw [if_pos e17, if_pos e17] | rw [if_pos e17]
      try simp only [hα 1017 (ne_ran hk e17), hα 2017 (ne_ran hk e17)]
    first | rw [if_neg e17, if_neg e17] | rw [if_neg e17]
  · show rvisO11a1T9999 pb PC sb c st n src mp es k ms MC gb cg G m xc eb va wa vi li xr xp xa ob lo pr cp vb B1_1 B1 (Rega.ran L9 k9) α' = rvisO11a1T9999 pb PC sb c st n src mp es k ms MC gb cg G m xc eb va wa vi li xr xp xa ob lo pr cp vb B1_1 B1 L9 α
    unfold rvisO11a1T9999
    have n17 : 17 ≠ k9 := fun e => ht (by rw [← e]; decide)
    rw [ran_ne n17]
    by_cases e17 : L9 17 = true
    · first | rw [if_pos e17, if_pos e17] | rw [if_pos e17]
      try simp only [hα 1017 (ne_ran hk e17), hα 2017 (ne_ran hk e17)]
    first | rw [if_neg e17, if_neg e17] | rw [if_neg e17]
  · show rvisO11a1T10999 pb PC sb c st n src mp es k ms MC gb cg G m xc eb va wa vi li xr xp xa ob lo pr cp vb B1_1 B1 (Rega.ran L9 k9) α' = rvisO11a1T10999 pb PC sb c st n src mp es k ms MC gb cg G m xc eb va wa vi li xr xp xa ob lo pr cp vb B1_1 B1 L9 α
    unfold rvisO11a1T10999
    have n17 : 17 ≠ k9 := fun e => ht (by rw [← e]; decide)
    rw [ran_ne n17]
  · show rvisO11a1T11999 pb PC sb c st n src mp es k ms MC gb cg G m xc eb va wa vi li xr xp xa ob lo pr cp vb B1_1 B1 (Rega.ran L9 k9) α' = rvisO11a1T11999 pb PC sb c st n src mp es k ms MC gb cg G m xc eb va wa vi li xr xp xa ob lo pr cp vb B1_1 B1 L9 α
    unfold rvisO11a1T11999
    have n17 : 17 ≠ k9 := fun e => ht (by rw [← e]; decide)
    rw [ran_ne n17]
    by_cases e17 : L9 17 = true
    · first | rw [if_pos e17, if_pos e17] | rw [if_pos e17]
      try simp only [hα 3017 (ne_ran hk e17), hα 4017 (ne_ran hk e17)]
    first | rw [if_neg e17, if_neg e17] | rw [if_neg e17]
  · show rvisO11a1T12999 pb PC sb c st n src mp es k ms MC gb cg G m xc eb va wa vi li xr xp xa ob lo pr cp vb B1_1 B1 (Rega.ran L9 k9) α' = rvisO11a1T12999 pb PC sb c st n src mp es k ms MC gb cg G m xc eb va wa vi li xr xp xa ob lo pr cp vb B1_1 B1 L9 α
    unfold rvisO11a1T12999
    have n17 : 17 ≠ k9 := fun e => ht (by rw [← e]; decide)
    rw [ran_ne n17]
    by_cases e17 : L9 17 = true
    · first | rw [if_pos e17, if_pos e17] | rw [if_pos e17]
      try simp only [hα 3017 (ne_ran hk e17), hα 4017 (ne_ran hk e17)]
    first | rw [if_neg e17, if_neg e17] | rw [if_neg e17]
def visO11Post (pb : Nat) (PC : Array Value) (sb c : Nat) (st : List Sy) (n : Nat) (src : Int) (mp : Nat) (es : Array MapEntry) (k ms : Nat) (MC : Array Value) (gb cg : Nat) (G : List Value) (m xc eb va : Nat) (wa : Int) (vi : Nat) (li : Int) (xm xs xr xp xo xa ob : Nat) (lo : Int) (pr cp vb : Nat) (w0 : World) (X : Nat → Obj → Prop) (e : Ending) (w' : World) : Prop :=
  ∃ xn : Nat, ∃ sb2 : Nat, ∃ c2 : Nat, ∃ gb2 : Nat, ∃ cg2 : Nat, e = .returned (.tuple #[]) ∧ Own w0 w' [row (xr) 251 #[.func (Fn.func 42) #[] #[.pointer (some ⟨xc, 0, none⟩), .pointer (some ⟨xa, 0, none⟩), .pointer (some ⟨xp, 0, none⟩)]], row (ob) 204 #[.slice (some ⟨pr, 0, none⟩) 1 (1 + cp), .int .i32 0, .int .i32 0, .bool false, .bool false], row (pr) 52 (full prZ [.pointer none, .nilIface, .int .i32 0, .iface 56 (.pointer (some ⟨vb, 0, none⟩)), .int .i32 0, .nilIface, .int .i32 0, .slice none 0 0, .int .i32 0, .int .i32 0, .int .u8 5, .int .u8 0] cp), row (xp) 22 #[.pointer (some ⟨pb, 0, none⟩)], row (xa) 210 #[.func (Fn.func 25) #[] #[.pointer (some ⟨eb, 0, none⟩)]], row (eb) 29 #[.iface 241 (.pointer (some ⟨xn, 0, none⟩)), .int .i32 wa], row (pb) 182 (PC.setIfInBounds 106 (.slice (some ⟨sb2, 0, none⟩) (n + 1) (n + 1 + c2))), row (sb2) 201 (full symZ (symL (bump (st ++ [syk ⟨#[95, 95, 111, 98, 106, 82, 101, 115, 116]⟩ 27]) n)) c2), ((mp, .map (es.push ⟨.string ⟨#[95, 95, 111, 98, 106, 82, 101, 115, 116]⟩, .agg #[.int .i32 0, .int .u32 src, .int .u32 (n : Int)], k⟩) (k + 1)) : Rw), row (ms) 194 (MC.setIfInBounds 5 (.slice (some ⟨gb2, 0, none⟩) (m + 1) (m + 1 + cg2))), row (gb2) 58 (full refZ (G ++ [.int .u32 src, .int .u32 (n : Int)]) cg2)] X
set_option maxRecDepth 100000 in
set_option maxHeartbeats 2000000 in
theorem visO11 (pb : Nat) (PC : Array Value) (sb c : Nat) (st : List Sy) (n : Nat) (src : Int) (mp : Nat) (es : Array MapEntry) (k ms : Nat) (MC : Array Value) (gb cg : Nat) (G : List Value) (m xc eb va : Nat) (wa : Int) (vi : Nat) (li : Int) (xm xs xr xp xo xa ob : Nat) (lo : Int) (pr cp vb : Nat) (w0 w : World) (X : Nat → Obj → Prop) (hO : Own w0 w [row (xr) 251 #[.func (Fn.func 42) #[] #[.pointer (some ⟨xc, 0, none⟩), .pointer (some ⟨xa, 0, none⟩), .pointer (some ⟨xp, 0, none⟩)]], row (ob) 204 #[.slice (some ⟨pr, 0, none⟩) 1 (1 + cp), .int .i32 0, .int .i32 0, .bool false, .bool false], row (pr) 52 (full prZ [.pointer none, .nilIface, .int .i32 0, .iface 56 (.pointer (some ⟨vb, 0, none⟩)), .int .i32 0, .nilIface, .int .i32 0, .slice none 0 0, .int .i32 0, .int .i32 0, .int .u8 5, .int .u8 0] cp), row (xp) 22 #[.pointer (some ⟨pb, 0, none⟩)], row (xa) 210 #[.func (Fn.func 25) #[] #[.pointer (some ⟨eb, 0, none⟩)]], row (eb) 29 #[.iface 241 (.pointer (some ⟨va, 0, none⟩)), .int .i32 wa], row (pb) 182 PC, row (sb) 201 (full symZ (symL st) c), ((mp, .map es k) : Rw), row (ms) 194 MC, row (gb) 58 (full refZ G cg)] X) (hk350 : PC[350]? = some (.bool false)) (hk32 : PC[32]? = some (.bool false)) (hk105 : PC[105]? = some (.pointer none)) (hk66 : PC[66]? = some (.int .u32 src)) (hk117 : PC[117]? = some (.map (some mp))) (hk187 : PC[187]? = some (.pointer (some ⟨ms, 0, none⟩))) (hk106 : PC[106]? = some (.slice (some ⟨sb, 0, none⟩) n (n + c))) (hn : st.length = n) (hnb : n ≤ 2000000) (hgen : MC[5]? = some (.slice (some ⟨gb, 0, none⟩) m (m + cg))) (hgl : G.length = m * 2) (hgm : m ≤ 2000000) (hno : Instr.findNow .string (.string ⟨#[95, 95, 111, 98, 106, 82, 101, 115, 116]⟩) es.toList 0 = some none) (hg0 : w0.cell? ⟨0, 0, none⟩ = some (.int .u32 4294967295)) (hg1 : w0.cell? ⟨0, 1, none⟩ = some (.int .u32 4294967295)) :
    Calls Tryz.prog 45 #[.agg #[.iface 202 (.pointer (some ⟨ob, 0, none⟩)), .int .i32 lo], .agg #[.iface 56 (.pointer (some ⟨vi, 0, none⟩)), .int .i32 li], .slice none 0 0, .pointer (some ⟨xm, 0, none⟩), .pointer (some ⟨xs, 0, none⟩), .pointer (some ⟨xr, 0, none⟩), .pointer (some ⟨xp, 0, none⟩), .pointer (some ⟨xo, 0, none⟩), .pointer (some ⟨xa, 0, none⟩)] w (visO11Post pb PC sb c st n src mp es k ms MC gb cg G m xc eb va wa vi li xm xs xr xp xo xa ob lo pr cp vb w0 X) := by
  go_enter Tryz.func45, Tryz.ntmps45
  obtain ⟨ix9, hix9, hax9, hjx9⟩ := hO.ix
  have ix9_0 : ix9 xr = 0 := hjx9 0 _ _ rfl
  have ix9_1 : ix9 ob = 1 := hjx9 1 _ _ rfl
  have ix9_2 : ix9 pr = 2 := hjx9 2 _ _ rfl
  have ix9_3 : ix9 xp = 3 := hjx9 3 _ _ rfl
  have ix9_4 : ix9 xa = 4 := hjx9 4 _ _ rfl
  have ix9_5 : ix9 eb = 5 := hjx9 5 _ _ rfl
  have ix9_6 : ix9 pb = 6 := hjx9 6 _ _ rfl
  have ix9_7 : ix9 sb = 7 := hjx9 7 _ _ rfl
  have ix9_8 : ix9 mp = 8 := hjx9 8 _ _ rfl
  have ix9_9 : ix9 ms = 9 := hjx9 9 _ _ rfl
  have ix9_10 : ix9 gb = 10 := hjx9 10 _ _ rfl
  clear hjx9
  obtain ⟨c9_0_0, lt9_0, y9_0, -⟩ := hO.k1 0 rfl
  obtain ⟨c9_1_0, c9_1_1, c9_1_2, c9_1_3, c9_1_4, lt9_1, y9_1, -⟩ := hO.k5 1 rfl
  have c9_2_0 : w.cell? ⟨pr, 0, none⟩ = some (.pointer none) := hO.cell 2 rfl (0) ((full_at rfl))
  have c9_2_1 : w.cell? ⟨pr, 1, none⟩ = some (.nilIface) := hO.cell 2 rfl (1) ((full_at rfl))
  have c9_2_2 : w.cell? ⟨pr, 2, none⟩ = some (.int .i32 0) := hO.cell 2 rfl (2) ((full_at rfl))
  have c9_2_3 : w.cell? ⟨pr, 3, none⟩ = some (.iface 56 (.pointer (some ⟨vb, 0, none⟩))) := hO.cell 2 rfl (3) ((full_at rfl))
  have c9_2_4 : w.cell? ⟨pr, 4, none⟩ = some (.int .i32 0) := hO.cell 2 rfl (4) ((full_at rfl))
  have c9_2_5 : w.cell? ⟨pr, 5, none⟩ = some (.nilIface) := hO.cell 2 rfl (5) ((full_at rfl))
  have c9_2_6 : w.cell? ⟨pr, 6, none⟩ = some (.int .i32 0) := hO.cell 2 rfl (6) ((full_at rfl))
  have c9_2_7 : w.cell? ⟨pr, 7, none⟩ = some (.slice none 0 0) := hO.cell 2 rfl (7) ((full_at rfl))
  have c9_2_8 : w.cell? ⟨pr, 8, none⟩ = some (.int .i32 0) := hO.cell 2 rfl (8) ((full_at rfl))
  have c9_2_9 : w.cell? ⟨pr, 9, none⟩ = some (.int .i32 0) := hO.cell 2 rfl (9) ((full_at rfl))
  have c9_2_10 : w.cell? ⟨pr, 10, none⟩ = some (.int .u8 5) := hO.cell 2 rfl (10) ((full_at rfl))
  have c9_2_11 : w.cell? ⟨pr, 11, none⟩ = some (.int .u8 0) := hO.cell 2 rfl (11) ((full_at rfl))
  have lt9_2 : pr < w.heap.size := hO.lt 2 rfl
  have y9_2 : ∀ o, w.frozen? ⟨pr, o, none⟩ = false := hO.free 2 rfl
  obtain ⟨c9_3_0, lt9_3, y9_3, -⟩ := hO.k1 3 rfl
  obtain ⟨c9_4_0, lt9_4, y9_4, -⟩ := hO.k1 4 rfl
  obtain ⟨c9_5_0, c9_5_1, lt9_5, y9_5, -⟩ := hO.k2 5 rfl
  have c9_6_32 : w.cell? ⟨pb, 32, none⟩ = some (.bool false) := hO.cell 6 rfl (32) (hk32)
  have c9_6_66 : w.cell? ⟨pb, 66, none⟩ = some (.int .u32 src) := hO.cell 6 rfl (66) (hk66)
  have c9_6_105 : w.cell? ⟨pb, 105, none⟩ = some (.pointer none) := hO.cell 6 rfl (105) (hk105)
  have c9_6_106 : w.cell? ⟨pb, 106, none⟩ = some (.slice (some ⟨sb, 0, none⟩) n (n + c)) := hO.cell 6 rfl (106) (hk106)
  have c9_6_117 : w.cell? ⟨pb, 117, none⟩ = some (.map (some mp)) := hO.cell 6 rfl (117) (hk117)
  have c9_6_187 : w.cell? ⟨pb, 187, none⟩ = some (.pointer (some ⟨ms, 0, none⟩)) := hO.cell 6 rfl (187) (hk187)
  have c9_6_350 : w.cell? ⟨pb, 350, none⟩ = some (.bool false) := hO.cell 6 rfl (350) (hk350)
  have lt9_6 : pb < w.heap.size := hO.lt 6 rfl
  have y9_6 : ∀ o, w.frozen? ⟨pb, o, none⟩ = false := hO.free 6 rfl
  have c9_9_5 : w.cell? ⟨ms, 5, none⟩ = some (.slice (some ⟨gb, 0, none⟩) m (m + cg)) := hO.cell 9 rfl (5) (hgen)
  have lt9_9 : ms < w.heap.size := hO.lt 9 rfl
  have y9_9 : ∀ o, w.frozen? ⟨ms, o, none⟩ = false := hO.free 9 rfl
  have HO := Lib.hid hO
  clear hO
  go_wp2_with (first | (with_reducible refine Own.stay (fn := Tryz.f45) ?_) | fail)
  try with_reducible refine Own.Stay.mk ?_
  have hO := HO.out
  clear HO hix9 hax9 ix9_0 ix9_1 ix9_2 ix9_3 ix9_4 ix9_5 ix9_6 ix9_7 ix9_8 ix9_9 ix9_10 ix9 c9_0_0 lt9_0 y9_0 c9_1_0 c9_1_1 c9_1_2 c9_1_3 c9_1_4 lt9_1 y9_1 c9_2_0 c9_2_1 c9_2_2 c9_2_3 c9_2_4 c9_2_5 c9_2_6 c9_2_7 c9_2_8 c9_2_9 c9_2_10 c9_2_11 lt9_2 y9_2 c9_3_0 lt9_3 y9_3 c9_4_0 lt9_4 y9_4 c9_5_0 c9_5_1 lt9_5 y9_5 c9_6_32 c9_6_66 c9_6_105 c9_6_106 c9_6_117 c9_6_187 c9_6_350 lt9_6 y9_6 c9_9_5 lt9_9 y9_9
  generalize hW : World.alloc _ _ = W2
  have hN : Own w0 W2 [row (w.heap.size + 1) 29 #[.iface 56 (.pointer (some ⟨vi, 0, none⟩)), .int .i32 li], row (w.heap.size) 29 #[.iface 202 (.pointer (some ⟨ob, 0, none⟩)), .int .i32 lo], row (xr) 251 #[.func (Fn.func 42) #[] #[.pointer (some ⟨xc, 0, none⟩), .pointer (some ⟨xa, 0, none⟩), .pointer (some ⟨xp, 0, none⟩)]], row (ob) 204 #[.slice (some ⟨pr, 0, none⟩) 1 (1 + cp), .int .i32 0, .int .i32 0, .bool false, .bool false], row (pr) 52 (full prZ [.pointer none, .nilIface, .int .i32 0, .iface 56 (.pointer (some ⟨vb, 0, none⟩)), .int .i32 0, .nilIface, .int .i32 0, .slice none 0 0, .int .i32 0, .int .i32 0, .int .u8 5, .int .u8 0] cp), row (xp) 22 #[.pointer (some ⟨pb, 0, none⟩)], row (xa) 210 #[.func (Fn.func 25) #[] #[.pointer (some ⟨eb, 0, none⟩)]], row (eb) 29 #[.iface 241 (.pointer (some ⟨va, 0, none⟩)), .int .i32 wa], row (pb) 182 PC, row (sb) 201 (full symZ (symL st) c), ((mp, .map es k) : Rw), row (ms) 194 MC, row (gb) 58 (full refZ G cg)] X := by
    rw [← hW]
    exact ((hO).alloc' _ (w.heap.size) (by simp)).alloc' _ (w.heap.size + 1) (by simp)
  clear hW hO
  generalize w.heap.size + 1 = B1_1 at hN ⊢
  generalize w.heap.size = B1 at hN ⊢
  have hO := hN
  clear hN
  go_loopg [2, 92] 1 (fun gf s2 s92 wx => s2 = .slice none 0 0 ∧ s92 = .int .i64 0 ∧ Own w0 wx [row (B1_1) 29 #[.iface 56 (.pointer (some ⟨vi, 0, none⟩)), .int .i32 li], row (B1) 29 #[.iface 202 (.pointer (some ⟨ob, 0, none⟩)), .int .i32 lo], row (xr) 251 #[.func (Fn.func 42) #[] #[.pointer (some ⟨xc, 0, none⟩), .pointer (some ⟨xa, 0, none⟩), .pointer (some ⟨xp, 0, none⟩)]], row (ob) 204 #[.slice (some ⟨pr, 0, none⟩) 1 (1 + cp), .int .i32 0, .int .i32 0, .bool false, .bool false], row (pr) 52 (full prZ [.pointer none, .nilIface, .int .i32 0, .iface 56 (.pointer (some ⟨vb, 0, none⟩)), .int .i32 0, .nilIface, .int .i32 0, .slice none 0 0, .int .i32 0, .int .i32 0, .int .u8 5, .int .u8 0] cp), row (xp) 22 #[.pointer (some ⟨pb, 0, none⟩)], row (xa) 210 #[.func (Fn.func 25) #[] #[.pointer (some ⟨eb, 0, none⟩)]], row (eb) 29 #[.iface 241 (.pointer (some ⟨va, 0, none⟩)), .int .i32 wa], row (pb) 182 PC, row (sb) 201 (full symZ (symL st) c), ((mp, .map es k) : Rw), row (ms) 194 MC, row (gb) 58 (full refZ G cg)] X)
  case atStart => exact ⟨rfl, rfl, hO⟩
  obtain ⟨rfl, rfl, hO⟩ := hrel
  obtain ⟨ix9, hix9, hax9, hjx9⟩ := hO.ix
  have ix9_0 : ix9 B1_1 = 0 := hjx9 0 _ _ rfl
  have ix9_1 : ix9 B1 = 1 := hjx9 1 _ _ rfl
  have ix9_2 : ix9 xr = 2 := hjx9 2 _ _ rfl
  have ix9_3 : ix9 ob = 3 := hjx9 3 _ _ rfl
  have ix9_4 : ix9 pr = 4 := hjx9 4 _ _ rfl
  have ix9_5 : ix9 xp = 5 := hjx9 5 _ _ rfl
  have ix9_6 : ix9 xa = 6 := hjx9 6 _ _ rfl
  have ix9_7 : ix9 eb = 7 := hjx9 7 _ _ rfl
  have ix9_8 : ix9 pb = 8 := hjx9 8 _ _ rfl
  have ix9_9 : ix9 sb = 9 := hjx9 9 _ _ rfl
  have ix9_10 : ix9 mp = 10 := hjx9 10 _ _ rfl
  have ix9_11 : ix9 ms = 11 := hjx9 11 _ _ rfl
  have ix9_12 : ix9 gb = 12 := hjx9 12 _ _ rfl
  clear hjx9
  obtain ⟨c9_0_0, c9_0_1, lt9_0, y9_0, pl9_0⟩ := hO.k2 0 rfl
  obtain ⟨c9_1_0, c9_1_1, lt9_1, y9_1, pl9_1⟩ := hO.k2 1 rfl
  obtain ⟨c9_2_0, lt9_2, y9_2, -⟩ := hO.k1 2 rfl
  obtain ⟨c9_3_0, c9_3_1, c9_3_2, c9_3_3, c9_3_4, lt9_3, y9_3, -⟩ := hO.k5 3 rfl
  have c9_4_0 : wr.cell? ⟨pr, 0, none⟩ = some (.pointer none) := hO.cell 4 rfl (0) ((full_at rfl))
  have c9_4_1 : wr.cell? ⟨pr, 1, none⟩ = some (.nilIface) := hO.cell 4 rfl (1) ((full_at rfl))
  have c9_4_2 : wr.cell? ⟨pr, 2, none⟩ = some (.int .i32 0) := hO.cell 4 rfl (2) ((full_at rfl))
  have c9_4_3 : wr.cell? ⟨pr, 3, none⟩ = some (.iface 56 (.pointer (some ⟨vb, 0, none⟩))) := hO.cell 4 rfl (3) ((full_at rfl))
  have c9_4_4 : wr.cell? ⟨pr, 4, none⟩ = some (.int .i32 0) := hO.cell 4 rfl (4) ((full_at rfl))
  have c9_4_5 : wr.cell? ⟨pr, 5, none⟩ = some (.nilIface) := hO.cell 4 rfl (5) ((full_at rfl))
  have c9_4_6 : wr.cell? ⟨pr, 6, none⟩ = some (.int .i32 0) := hO.cell 4 rfl (6) ((full_at rfl))
  have c9_4_7 : wr.cell? ⟨pr, 7, none⟩ = some (.slice none 0 0) := hO.cell 4 rfl (7) ((full_at rfl))
  have c9_4_8 : wr.cell? ⟨pr, 8, none⟩ = some (.int .i32 0) := hO.cell 4 rfl (8) ((full_at rfl))
  have c9_4_9 : wr.cell? ⟨pr, 9, none⟩ = some (.int .i32 0) := hO.cell 4 rfl (9) ((full_at rfl))
  have c9_4_10 : wr.cell? ⟨pr, 10, none⟩ = some (.int .u8 5) := hO.cell 4 rfl (10) ((full_at rfl))
  have c9_4_11 : wr.cell? ⟨pr, 11, none⟩ = some (.int .u8 0) := hO.cell 4 rfl (11) ((full_at rfl))
  have lt9_4 : pr < wr.heap.size := hO.lt 4 rfl
  have y9_4 : ∀ o, wr.frozen? ⟨pr, o, none⟩ = false := hO.free 4 rfl
  obtain ⟨c9_5_0, lt9_5, y9_5, -⟩ := hO.k1 5 rfl
  obtain ⟨c9_6_0, lt9_6, y9_6, -⟩ := hO.k1 6 rfl
  obtain ⟨c9_7_0, c9_7_1, lt9_7, y9_7, pl9_7⟩ := hO.k2 7 rfl
  have c9_8_32 : wr.cell? ⟨pb, 32, none⟩ = some (.bool false) := hO.cell 8 rfl (32) (hk32)
  have c9_8_66 : wr.cell? ⟨pb, 66, none⟩ = some (.int .u32 src) := hO.cell 8 rfl (66) (hk66)
  have c9_8_105 : wr.cell? ⟨pb, 105, none⟩ = some (.pointer none) := hO.cell 8 rfl (105) (hk105)
  have c9_8_106 : wr.cell? ⟨pb, 106, none⟩ = some (.slice (some ⟨sb, 0, none⟩) n (n + c)) := hO.cell 8 rfl (106) (hk106)
  have c9_8_117 : wr.cell? ⟨pb, 117, none⟩ = some (.map (some mp)) := hO.cell 8 rfl (117) (hk117)
  have c9_8_187 : wr.cell? ⟨pb, 187, none⟩ = some (.pointer (some ⟨ms, 0, none⟩)) := hO.cell 8 rfl (187) (hk187)
  have c9_8_350 : wr.cell? ⟨pb, 350, none⟩ = some (.bool false) := hO.cell 8 rfl (350) (hk350)
  have lt9_8 : pb < wr.heap.size := hO.lt 8 rfl
  have y9_8 : ∀ o, wr.frozen? ⟨pb, o, none⟩ = false := hO.free 8 rfl
  have c9_11_5 : wr.cell? ⟨ms, 5, none⟩ = some (.slice (some ⟨gb, 0, none⟩) m (m + cg)) := hO.cell 11 rfl (5) (hgen)
  have lt9_11 : ms < wr.heap.size := hO.lt 11 rfl
  have y9_11 : ∀ o, wr.frozen? ⟨ms, o, none⟩ = false := hO.free 11 rfl
  have HO := Lib.hid hO
  clear hO
  go_wp2_with (first | (with_reducible refine Own.stay (fn := Tryz.f45) ?_) | fail)
  try with_reducible refine Own.Stay.mk ?_
  have hO := HO.out
  clear HO hix9 hax9 ix9_0 ix9_1 ix9_2 ix9_3 ix9_4 ix9_5 ix9_6 ix9_7 ix9_8 ix9_9 ix9_10 ix9_11 ix9_12 ix9 c9_0_0 c9_0_1 lt9_0 y9_0 pl9_0 c9_1_0 c9_1_1 lt9_1 y9_1 pl9_1 c9_2_0 lt9_2 y9_2 c9_3_0 c9_3_1 c9_3_2 c9_3_3 c9_3_4 lt9_3 y9_3 c9_4_0 c9_4_1 c9_4_2 c9_4_3 c9_4_4 c9_4_5 c9_4_6 c9_4_7 c9_4_8 c9_4_9 c9_4_10 c9_4_11 lt9_4 y9_4 c9_5_0 lt9_5 y9_5 c9_6_0 lt9_6 y9_6 c9_7_0 c9_7_1 lt9_7 y9_7 pl9_7 c9_8_32 c9_8_66 c9_8_105 c9_8_106 c9_8_117 c9_8_187 c9_8_350 lt9_8 y9_8 c9_11_5 lt9_11 y9_11
  have st9 := rvisO11a1_st pb PC sb c st n src mp es k ms MC gb cg G m xc eb va wa vi li xr xp xa ob lo pr cp vb B1_1 B1
  let R9 := rvisO11a1R pb PC sb c st n src mp es k ms MC gb cg G m xc eb va wa vi li xr xp xa ob lo pr cp vb B1_1 B1
  refine wp_region_own (e := rvisO11a1E pb PC sb c st n src mp es k ms MC gb cg G m xc eb va wa vi li xr xp xa ob lo pr cp vb B1_1 B1) (anc := rvisO11a1Anc) (G := (fun L9 α u9 => OwnF w0 u9 (act rvisO11a1Cnt 13 L9) (rvisO11a1R pb PC sb c st n src mp es k ms MC gb cg G m xc eb va wa vi li xr xp xa ob lo pr cp vb B1_1 B1 L9 α) X)) (by kernel_rfl) (by kernel_rfl) (by kernel_rfl) (by kernel_rfl) (rvisO11a1_he pb PC sb c st n src mp es k ms MC gb cg G m xc eb va wa vi li xr xp xa ob lo pr cp vb B1_1 B1) ?_ (RunsAll.all ?_) ?_
  · have hp : ∀ i, act rvisO11a1Cnt 13 (fun _ => false) i → i ∈ [999, 1999, 2999, 3999, 4999, 5999, 6999, 7999, 8999, 9999, 10999, 11999, 12999] := by
      intro i hi
      have h9 : i % 1000 = 999 := by
        by_cases h : i % 1000 = 999
        · exact h
        · exact absurd (act_lt hi h) (by simp)
      unfold act at hi
      rw [if_pos h9] at hi
      simp only [List.mem_cons, List.not_mem_nil, or_false]
      omega
    refine hO.drew.family (fun i hi => ?_) (fun i j hi hj hij => ?_)
    · have := hp i hi
      simp only [List.mem_cons, List.not_mem_nil, or_false] at this
      rcases this with rfl | rfl | rfl | rfl | rfl | rfl | rfl | rfl | rfl | rfl | rfl | rfl | rfl <;> rfl
    · have h1 := hp i hi
      have h2 := hp j hj
      simp only [List.mem_cons, List.not_mem_nil, or_false] at h1 h2
      omega
  · refine ⟨?_, ?_, ?_, ?_, ?_, ?_, ?_, ?_, ?_, ?_, ?_, ?_, ?_, ?_, ?_, ?_, ?_, ?_, trivial⟩
    · intro L9 α a9 u9 K9 hL hcl hA hG hS h0 h1 hK
      replace hL : L9 0 = false := hL
      have q5 : a9.tmps[5]? = some (.pointer (some ⟨xr, 0, none⟩)) := (h0 5 (by kernel_rfl)).trans rfl
      have s5 := Rega.eval_of q5
      have e0 : R9 L9 α 2999 = row (xr) 251 #[.func (Fn.func 42) #[] #[.pointer (some ⟨xc, 0, none⟩), .pointer (some ⟨xa, 0, none⟩), .pointer (some ⟨xp, 0, none⟩)]] := rfl
      have hr := hG.rowAt 2999 (act_base 2999 rfl) e0
      have c0 : u9.cell? ⟨xr, 0, none⟩ = some (.func (Fn.func 42) #[] #[.pointer (some ⟨xc, 0, none⟩), .pointer (some ⟨xa, 0, none⟩), .pointer (some ⟨xp, 0, none⟩)]) := hr.cell rfl
      clear hr e0
      go_simp
      exact hK _ α _ (fun _ _ => rfl) rfl (step_same (st9) hL hcl rfl rfl hG)
    · intro L9 α a9 u9 K9 hL hcl hA hG hS h0 h1 hK
      replace hL : L9 1 = false := hL
      have q15 : a9.tmps[15]? = some (.pointer (some ⟨ob, 0, none⟩)) := (h0 15 (by kernel_rfl)).trans rfl
      have s15 := Rega.eval_of q15
      go_simp
      exact hK _ α _ (fun _ _ => rfl) rfl (step_same (st9) hL hcl rfl rfl hG)
    · intro L9 α a9 u9 K9 hL hcl hA hG hS h0 h1 hK
      replace hL : L9 2 = false := hL
      have q107 : a9.tmps[107]? = some (.pointer (some ⟨ob, 0, none⟩)) := hS 1 107 (by decide) rfl (by show 107 < 176; decide)
      have s107 := Rega.eval_of q107
      go_simp
      exact hK _ α _ (fun _ _ => rfl) rfl (step_same (st9) hL hcl rfl rfl hG)
    · intro L9 α a9 u9 K9 hL hcl hA hG hS h0 h1 hK
      replace hL : L9 3 = false := hL
      have q108 : a9.tmps[108]? = some (.pointer (some ⟨ob, 0, none⟩)) := hS 2 108 (by decide) rfl (by show 108 < 176; decide)
      have s108 := Rega.eval_of q108
      go_simp
      exact hK _ α _ (fun _ _ => rfl) rfl (step_same (st9) hL hcl rfl rfl hG)
    · intro L9 α a9 u9 K9 hL hcl hA hG hS h0 h1 hK
      replace hL : L9 4 = false := hL
      have q109 : a9.tmps[109]? = some (.pointer (some ⟨ob, 0, none⟩)) := hS 3 109 (by decide) rfl (by show 109 < 176; decide)
      have s109 := Rega.eval_of q109
      have e0 : R9 L9 α 3999 = row (ob) 204 #[.slice (some ⟨pr, 0, none⟩) 1 (1 + cp), .int .i32 0, .int .i32 0, .bool false, .bool false] := rfl
      have hr := hG.rowAt 3999 (act_base 3999 rfl) e0
      have c0 : u9.cell? ⟨ob, 0, none⟩ = some (.slice (some ⟨pr, 0, none⟩) 1 (1 + cp)) := hr.cell rfl
      clear hr e0
      go_simp
      exact hK _ α _ (fun _ _ => rfl) rfl (step_same (st9) hL hcl rfl rfl hG)
    · intro L9 α a9 u9 K9 hL hcl hA hG hS h0 h1 hK
      replace hL : L9 5 = false := hL
      have q18 : a9.tmps[18]? = some (.int .i64 0) := (h0 18 (by kernel_rfl)).trans rfl
      have s18 := Rega.eval_of q18
      go_simp
      exact hK _ α _ (fun _ _ => rfl) rfl (step_same (st9) hL hcl rfl rfl hG)
    · intro L9 α a9 u9 K9 hL hcl hA hG hS h0 h1 hK
      replace hL : L9 6 = false := hL
      have q110 : a9.tmps[110]? = some (.slice (some ⟨pr, 0, none⟩) 1 (1 + cp)) := hS 4 110 (by decide) rfl (by show 110 < 176; decide)
      have s110 := Rega.eval_of q110
      have q111 : a9.tmps[111]? = some (.int .i64 0) := hS 5 111 (by decide) rfl (by show 111 < 176; decide)
      have s111 := Rega.eval_of q111
      simp only [Region.wanted, if_true]
      refine wp_slice 46 (Operand.tmp 110) none (some (Operand.tmp 111)) none rfl (.slice (some ⟨pr, 0, none⟩) 0 (1 + cp)) (by kernel_rfl) (by simp only [Option.map, Act.eval, s110, s111]; exact run_slice_to u9 (s := 12) (by kernel_rfl) (by kernel_rfl) (i := 0) (by omega)) ?_
      exact hK _ α _ (fun _ _ => rfl) rfl (step_same (st9) hL hcl rfl rfl hG)
    · intro L9 α a9 u9 K9 hL hcl hA hG hS h0 h1 hK
      replace hL : L9 7 = false := hL
      have q19 : a9.tmps[19]? = some (.pointer (some ⟨pr, 0, none⟩)) := (h0 19 (by kernel_rfl)).trans rfl
      have s19 := Rega.eval_of q19
      go_simp
      exact hK _ α _ (fun _ _ => rfl) rfl (step_same (st9) hL hcl rfl rfl hG)
    · intro L9 α a9 u9 K9 hL hcl hA hG hS h0 h1 hK
      replace hL : L9 8 = false := hL
      have q113 : a9.tmps[113]? = some (.pointer (some ⟨pr, 0, none⟩)) := hS 7 113 (by decide) rfl (by show 113 < 176; decide)
      have s113 := Rega.eval_of q113
      go_simp
      exact hK _ α _ (fun _ _ => rfl) rfl (step_same (st9) hL hcl rfl rfl hG)
    · intro L9 α a9 u9 K9 hL hcl hA hG hS h0 h1 hK
      replace hL : L9 9 = false := hL
      have q114 : a9.tmps[114]? = some (.pointer (some ⟨pr, 0, none⟩)) := hS 8 114 (by decide) rfl (by show 114 < 176; decide)
      have s114 := Rega.eval_of q114
      go_simp
      exact hK _ α _ (fun _ _ => rfl) rfl (step_same (st9) hL hcl rfl rfl hG)
    · intro L9 α a9 u9 K9 hL hcl hA hG hS h0 h1 hK
      replace hL : L9 10 = false := hL
      have q115 : a9.tmps[115]? = some (.pointer (some ⟨pr, 3, none⟩)) := hS 9 115 (by decide) rfl (by show 115 < 176; decide)
      have s115 := Rega.eval_of q115
      have e0 : R9 L9 α 4999 = row (pr) 52 (full prZ [.pointer none, .nilIface, .int .i32 0, .iface 56 (.pointer (some ⟨vb, 0, none⟩)), .int .i32 0, .nilIface, .int .i32 0, .slice none 0 0, .int .i32 0, .int .i32 0, .int .u8 5, .int .u8 0] cp) := rfl
      have hr := hG.rowAt 4999 (act_base 4999 rfl) e0
      have c0 : u9.cell? ⟨pr, 3, none⟩ = some (.iface 56 (.pointer (some ⟨vb, 0, none⟩))) := hr.cell ((full_at rfl))
      have c1 : u9.cell? ⟨pr, 4, none⟩ = some (.int .i32 0) := hr.cell ((full_at rfl))
      clear hr e0
      go_simp
      exact hK _ α _ (fun _ _ => rfl) rfl (step_same (st9) hL hcl rfl rfl hG)
    · intro L9 α a9 u9 K9 hL hcl hA hG hS h0 h1 hK
      replace hL : L9 11 = false := hL
      have q10 : a9.tmps[10]? = some (.pointer (some ⟨B1_1, 0, none⟩)) := (h0 10 (by kernel_rfl)).trans rfl
      have s10 := Rega.eval_of q10
      have e0 : R9 L9 α 999 = row (B1_1) 29 #[.iface 56 (.pointer (some ⟨vi, 0, none⟩)), .int .i32 li] := rfl
      have hr := hG.rowAt 999 (act_base 999 rfl) e0
      have c0 : u9.cell? ⟨B1_1, 0, none⟩ = some (.iface 56 (.pointer (some ⟨vi, 0, none⟩))) := hr.cell rfl
      have c1 : u9.cell? ⟨B1_1, 1, none⟩ = some (.int .i32 li) := hr.cell rfl
      clear hr e0
      go_simp
      exact hK _ α _ (fun _ _ => rfl) rfl (step_same (st9) hL hcl rfl rfl hG)
    · intro L9 α a9 u9 K9 hL hcl hA hG hS h0 h1 hK
      replace hL : L9 12 = false := hL
      have q2 : a9.tmps[2]? = some (.slice none 0 0) := (h0 2 (by kernel_rfl)).trans rfl
      have s2 := Rega.eval_of q2
      go_simp
      exact hK _ α _ (fun _ _ => rfl) rfl (step_same (st9) hL hcl rfl rfl hG)
    · intro L9 α a9 u9 K9 hL hcl hA hG hS h0 h1 hK
      replace hL : L9 13 = false := hL
      have q15 : a9.tmps[15]? = some (.pointer (some ⟨ob, 0, none⟩)) := (h0 15 (by kernel_rfl)).trans rfl
      have s15 := Rega.eval_of q15
      go_simp
      exact hK _ α _ (fun _ _ => rfl) rfl (step_same (st9) hL hcl rfl rfl hG)
    · intro L9 α a9 u9 K9 hL hcl hA hG hS h0 h1 hK
      replace hL : L9 14 = false := hL
      have q119 : a9.tmps[119]? = some (.pointer (some ⟨ob, 0, none⟩)) := hS 13 119 (by decide) rfl (by show 119 < 176; decide)
      have s119 := Rega.eval_of q119
      go_simp
      exact hK _ α _ (fun _ _ => rfl) rfl (step_same (st9) hL hcl rfl rfl hG)
    · intro L9 α a9 u9 K9 hL hcl hA hG hS h0 h1 hK
      replace hL : L9 15 = false := hL
      have q120 : a9.tmps[120]? = some (.pointer (some ⟨ob, 0, none⟩)) := hS 14 120 (by decide) rfl (by show 120 < 176; decide)
      have s120 := Rega.eval_of q120
      go_simp
      exact hK _ α _ (fun _ _ => rfl) rfl (step_same (st9) hL hcl rfl rfl hG)
    · intro L9 α a9 u9 K9 hL hcl hA hG hS h0 h1 hK
      replace hL : L9 16 = false := hL
      have q121 : a9.tmps[121]? = some (.pointer (some ⟨ob, 3, none⟩)) := hS 15 121 (by decide) rfl (by show 121 < 176; decide)
      have s121 := Rega.eval_of q121
      have e0 : R9 L9 α 3999 = row (ob) 204 #[.slice (some ⟨pr, 0, none⟩) 1 (1 + cp), .int .i32 0, .int .i32 0, .bool false, .bool false] := rfl
      have hr := hG.rowAt 3999 (act_base 3999 rfl) e0
      have c0 : u9.cell? ⟨ob, 3, none⟩ = some (.bool false) := hr.cell rfl
      clear hr e0
      go_simp
      exact hK _ α _ (fun _ _ => rfl) rfl (step_same (st9) hL hcl rfl rfl hG)
    · intro L9 α a9 u9 K9 hL hcl hA hG hS h0 h1 hK
      replace hL : L9 17 = false := hL
      have q106 : a9.tmps[106]? = some (.func (Fn.func 42) #[] #[.pointer (some ⟨xc, 0, none⟩), .pointer (some ⟨xa, 0, none⟩), .pointer (some ⟨xp, 0, none⟩)]) := hS 0 106 (by decide) rfl (by show 106 < 176; decide)
      have s106 := Rega.eval_of q106
      have q112 : a9.tmps[112]? = some (.slice (some ⟨pr, 0, none⟩) 0 (1 + cp)) := hS 6 112 (by decide) rfl (by show 112 < 176; decide)
      have s112 := Rega.eval_of q112
      have q116 : a9.tmps[116]? = some (.agg #[.iface 56 (.pointer (some ⟨vb, 0, none⟩)), .int .i32 0]) := hS 10 116 (by decide) rfl (by show 116 < 176; decide)
      have s116 := Rega.eval_of q116
      have q117 : a9.tmps[117]? = some (.agg #[.iface 56 (.pointer (some ⟨vi, 0, none⟩)), .int .i32 li]) := hS 11 117 (by decide) rfl (by show 117 < 176; decide)
      have s117 := Rega.eval_of q117
      have q118 : a9.tmps[118]? = some (.slice none 0 0) := hS 12 118 (by decide) rfl (by show 118 < 176; decide)
      have s118 := Rega.eval_of q118
      have q122 : a9.tmps[122]? = some (.bool false) := hS 16 122 (by decide) rfl (by show 122 < 176; decide)
      have s122 := Rega.eval_of q122
      go_simp
      have e0 : R9 L9 α 5999 = row (xp) 22 #[.pointer (some ⟨pb, 0, none⟩)] := rfl
      have e1 : R9 L9 α 6999 = row (xa) 210 #[.func (Fn.func 25) #[] #[.pointer (some ⟨eb, 0, none⟩)]] := rfl
      have e2 : R9 L9 α 7999 = row (eb) 29 #[.iface 241 (.pointer (some ⟨va, 0, none⟩)), .int .i32 wa] := by
        show rvisO11a1T7999 pb PC sb c st n src mp es k ms MC gb cg G m xc eb va wa vi li xr xp xa ob lo pr cp vb B1_1 B1 L9 α = _
        unfold rvisO11a1T7999
        rw [if_neg (by rw [hL]; decide)]
      have e3 : R9 L9 α 8999 = row (pb) 182 PC := by
        show rvisO11a1T8999 pb PC sb c st n src mp es k ms MC gb cg G m xc eb va wa vi li xr xp xa ob lo pr cp vb B1_1 B1 L9 α = _
        unfold rvisO11a1T8999
        rw [if_neg (by rw [hL]; decide)]
      have e4 : R9 L9 α 9999 = row (sb) 201 (full symZ (symL st) c) := by
        show rvisO11a1T9999 pb PC sb c st n src mp es k ms MC gb cg G m xc eb va wa vi li xr xp xa ob lo pr cp vb B1_1 B1 L9 α = _
        unfold rvisO11a1T9999
        rw [if_neg (by rw [hL]; decide)]
      have e5 : R9 L9 α 10999 = ((mp, .map es k) : Rw) := by
        show rvisO11a1T10999 pb PC sb c st n src mp es k ms MC gb cg G m xc eb va wa vi li xr xp xa ob lo pr cp vb B1_1 B1 L9 α = _
        unfold rvisO11a1T10999
        rw [if_neg (by rw [hL]; decide)]
      have e6 : R9 L9 α 11999 = row (ms) 194 MC := by
        show rvisO11a1T11999 pb PC sb c st n src mp es k ms MC gb cg G m xc eb va wa vi li xr xp xa ob lo pr cp vb B1_1 B1 L9 α = _
        unfold rvisO11a1T11999
        rw [if_neg (by rw [hL]; decide)]
      have e7 : R9 L9 α 12999 = row (gb) 58 (full refZ G cg) := by
        show rvisO11a1T12999 pb PC sb c st n src mp es k ms MC gb cg G m xc eb va wa vi li xr xp xa ob lo pr cp vb B1_1 B1 L9 α = _
        unfold rvisO11a1T12999
        rw [if_neg (by rw [hL]; decide)]
      have hM : ∀ i, i ∈ [5999, 6999, 7999, 8999, 9999, 10999, 11999, 12999] → act rvisO11a1Cnt 13 L9 i := by
        intro i hi
        simp only [List.mem_cons, List.not_mem_nil, or_false] at hi
        rcases hi with rfl | rfl | rfl | rfl | rfl | rfl | rfl | rfl
        · exact act_base 5999 rfl
        · exact act_base 6999 rfl
        · exact act_base 7999 rfl
        · exact act_base 8999 rfl
        · exact act_base 9999 rfl
        · exact act_base 10999 rfl
        · exact act_base 11999 rfl
        · exact act_base 12999 rfl
      have hP : Own w0 u9 [row (xp) 22 #[.pointer (some ⟨pb, 0, none⟩)], row (xa) 210 #[.func (Fn.func 25) #[] #[.pointer (some ⟨eb, 0, none⟩)]], row (eb) 29 #[.iface 241 (.pointer (some ⟨va, 0, none⟩)), .int .i32 wa], row (pb) 182 PC, row (sb) 201 (full symZ (symL st) c), ((mp, .map es k) : Rw), row (ms) 194 MC, row (gb) 58 (full refZ G cg)] _ := (hG.pick [5999, 6999, 7999, 8999, 9999, 10999, 11999, 12999] (by decide) hM).conv (by
        show [R9 L9 α 5999, R9 L9 α 6999, R9 L9 α 7999, R9 L9 α 8999, R9 L9 α 9999, R9 L9 α 10999, R9 L9 α 11999, R9 L9 α 12999] = _
        rw [e0, e1, e2, e3, e4, e5, e6, e7])
      clear e0 e1 e2 e3 e4 e5 e6 e7 hM
      refine Calls.mono (rst011 pb PC sb c st n src mp es k ms MC gb cg G m xp xa xc eb va wa pr (1 + cp) vb 0 vi li _ _ _ hP hk350 hk32 hk105 hk66 hk117 hk187 hk106 hn hnb hgen hgl hgm hno hg0 hg1) ?_
      rintro e9 u1 ⟨b0, b1, b2, b3, b4, rfl, hQ⟩
      obtain ⟨α', hα'⟩ : ∃ α' : Rega.Atoms, α' = (fun j => if j = 17 then b0 else if j = 1017 then b1 else if j = 2017 then b2 else if j = 3017 then b3 else if j = 4017 then b4 else α j) := ⟨_, rfl⟩
      have f0 : R9 (Rega.ran L9 17) α' 5999 = row (xp) 22 #[.pointer (some ⟨pb, 0, none⟩)] := rfl
      have f1 : R9 (Rega.ran L9 17) α' 6999 = row (xa) 210 #[.func (Fn.func 25) #[] #[.pointer (some ⟨eb, 0, none⟩)]] := rfl
      have f2 : R9 (Rega.ran L9 17) α' 7999 = row (eb) 29 #[.iface 241 (.pointer (some ⟨α' 17, 0, none⟩)), .int .i32 wa] := by
        show rvisO11a1T7999 pb PC sb c st n src mp es k ms MC gb cg G m xc eb va wa vi li xr xp xa ob lo pr cp vb B1_1 B1 (Rega.ran L9 17) α' = _
        unfold rvisO11a1T7999
        rw [if_pos (show Rega.ran L9 17 17 = true from rfl)]
      have f3 : R9 (Rega.ran L9 17) α' 8999 = row (pb) 182 (PC.setIfInBounds 106 (.slice (some ⟨α' 1017, 0, none⟩) (n + 1) (n + 1 + (α' 2017)))) := by
        show rvisO11a1T8999 pb PC sb c st n src mp es k ms MC gb cg G m xc eb va wa vi li xr xp xa ob lo pr cp vb B1_1 B1 (Rega.ran L9 17) α' = _
        unfold rvisO11a1T8999
        rw [if_pos (show Rega.ran L9 17 17 = true from rfl)]
      have f4 : R9 (Rega.ran L9 17) α' 9999 = row (α' 1017) 201 (full symZ (symL (bump (st ++ [syk ⟨#[95, 95, 111, 98, 106, 82, 101, 115, 116]⟩ 27]) n)) (α' 2017)) := by
        show rvisO11a1T9999 pb PC sb c st n src mp es k ms MC gb cg G m xc eb va wa vi li xr xp xa ob lo pr cp vb B1_1 B1 (Rega.ran L9 17) α' = _
        unfold rvisO11a1T9999
        rw [if_pos (show Rega.ran L9 17 17 = true from rfl)]
      have f5 : R9 (Rega.ran L9 17) α' 10999 = ((mp, .map (es.push ⟨.string ⟨#[95, 95, 111, 98, 106, 82, 101, 115, 116]⟩, .agg #[.int .i32 0, .int .u32 src, .int .u32 (n : Int)], k⟩) (k + 1)) : Rw) := by
        show rvisO11a1T10999 pb PC sb c st n src mp es k ms MC gb cg G m xc eb va wa vi li xr xp xa ob lo pr cp vb B1_1 B1 (Rega.ran L9 17) α' = _
        unfold rvisO11a1T10999
        rw [if_pos (show Rega.ran L9 17 17 = true from rfl)]
      have f6 : R9 (Rega.ran L9 17) α' 11999 = row (ms) 194 (MC.setIfInBounds 5 (.slice (some ⟨α' 3017, 0, none⟩) (m + 1) (m + 1 + (α' 4017)))) := by
        show rvisO11a1T11999 pb PC sb c st n src mp es k ms MC gb cg G m xc eb va wa vi li xr xp xa ob lo pr cp vb B1_1 B1 (Rega.ran L9 17) α' = _
        unfold rvisO11a1T11999
        rw [if_pos (show Rega.ran L9 17 17 = true from rfl)]
      have f7 : R9 (Rega.ran L9 17) α' 12999 = row (α' 3017) 58 (full refZ (G ++ [.int .u32 src, .int .u32 (n : Int)]) (α' 4017)) := by
        show rvisO11a1T12999 pb PC sb c st n src mp es k ms MC gb cg G m xc eb va wa vi li xr xp xa ob lo pr cp vb B1_1 B1 (Rega.ran L9 17) α' = _
        unfold rvisO11a1T12999
        rw [if_pos (show Rega.ran L9 17 17 = true from rfl)]
      have hα : ∀ j, j % 1000 ≠ 17 → α' j = α j := fun j hj => by rw [hα']; simp only []; rw [if_neg (by omega), if_neg (by omega), if_neg (by omega), if_neg (by omega), if_neg (by omega)]
      have hb0 : α' 17 = b0 := by rw [hα']; rfl
      have hb1 : α' 1017 = b1 := by rw [hα']; rfl
      have hb2 : α' 2017 = b2 := by rw [hα']; rfl
      have hb3 : α' 3017 = b3 := by rw [hα']; rfl
      have hb4 : α' 4017 = b4 := by rw [hα']; rfl
      skip
      refine hK _ α' _ hα ?_ (step_call (st9) hL hcl hα [5999, 6999, 7999, 8999, 9999, 10999, 11999, 12999] [5999, 6999, 7999, 8999, 9999, 10999, 11999, 12999] (by decide) (by decide) (by decide) (M := _) ?_ hG hQ)
      · rfl
      · show [R9 (Rega.ran L9 17) α' 5999, R9 (Rega.ran L9 17) α' 6999, R9 (Rega.ran L9 17) α' 7999, R9 (Rega.ran L9 17) α' 8999, R9 (Rega.ran L9 17) α' 9999, R9 (Rega.ran L9 17) α' 10999, R9 (Rega.ran L9 17) α' 11999, R9 (Rega.ran L9 17) α' 12999] = _
        rw [f0, f1, f2, f3, f4, f5, f6, f7]
        simp only [hb0, hb1, hb2, hb3, hb4]
        try rfl
  clear st9
  intro α u hG
  have e0 : R9 (fun k => decide (k < 18)) α 999 = row (B1_1) 29 #[.iface 56 (.pointer (some ⟨vi, 0, none⟩)), .int .i32 li] := rfl
  have e1 : R9 (fun k => decide (k < 18)) α 1999 = row (B1) 29 #[.iface 202 (.pointer (some ⟨ob, 0, none⟩)), .int .i32 lo] := rfl
  have e2 : R9 (fun k => decide (k < 18)) α 2999 = row (xr) 251 #[.func (Fn.func 42) #[] #[.pointer (some ⟨xc, 0, none⟩), .pointer (some ⟨xa, 0, none⟩), .pointer (some ⟨xp, 0, none⟩)]] := rfl
  have e3 : R9 (fun k => decide (k < 18)) α 3999 = row (ob) 204 #[.slice (some ⟨pr, 0, none⟩) 1 (1 + cp), .int .i32 0, .int .i32 0, .bool false, .bool false] := rfl
  have e4 : R9 (fun k => decide (k < 18)) α 4999 = row (pr) 52 (full prZ [.pointer none, .nilIface, .int .i32 0, .iface 56 (.pointer (some ⟨vb, 0, none⟩)), .int .i32 0, .nilIface, .int .i32 0, .slice none 0 0, .int .i32 0, .int .i32 0, .int .u8 5, .int .u8 0] cp) := rfl
  have e5 : R9 (fun k => decide (k < 18)) α 5999 = row (xp) 22 #[.pointer (some ⟨pb, 0, none⟩)] := rfl
  have e6 : R9 (fun k => decide (k < 18)) α 6999 = row (xa) 210 #[.func (Fn.func 25) #[] #[.pointer (some ⟨eb, 0, none⟩)]] := rfl
  have e7 : R9 (fun k => decide (k < 18)) α 7999 = row (eb) 29 #[.iface 241 (.pointer (some ⟨α 17, 0, none⟩)), .int .i32 wa] := by
    show rvisO11a1T7999 pb PC sb c st n src mp es k ms MC gb cg G m xc eb va wa vi li xr xp xa ob lo pr cp vb B1_1 B1 (fun k => decide (k < 18)) α = _
    unfold rvisO11a1T7999
    rw [if_pos (by decide)]
  have e8 : R9 (fun k => decide (k < 18)) α 8999 = row (pb) 182 (PC.setIfInBounds 106 (.slice (some ⟨α 1017, 0, none⟩) (n + 1) (n + 1 + (α 2017)))) := by
    show rvisO11a1T8999 pb PC sb c st n src mp es k ms MC gb cg G m xc eb va wa vi li xr xp xa ob lo pr cp vb B1_1 B1 (fun k => decide (k < 18)) α = _
    unfold rvisO11a1T8999
    rw [if_pos (by decide)]
  have e9 : R9 (fun k => decide (k < 18)) α 9999 = row (α 1017) 201 (full symZ (symL (bump (st ++ [syk ⟨#[95, 95, 111, 98, 106, 82, 101, 115, 116]⟩ 27]) n)) (α 2017)) := by
    show rvisO11a1T9999 pb PC sb c st n src mp es k ms MC gb cg G m xc eb va wa vi li xr xp xa ob lo pr cp vb B1_1 B1 (fun k => decide (k < 18)) α = _
    unfold rvisO11a1T9999
    rw [if_pos (by decide)]
  have e10 : R9 (fun k => decide (k < 18)) α 10999 = ((mp, .map (es.push ⟨.string ⟨#[95, 95, 111, 98, 106, 82, 101, 115, 116]⟩, .agg #[.int .i32 0, .int .u32 src, .int .u32 (n : Int)], k⟩) (k + 1)) : Rw) := by
    show rvisO11a1T10999 pb PC sb c st n src mp es k ms MC gb cg G m xc eb va wa vi li xr xp xa ob lo pr cp vb B1_1 B1 (fun k => decide (k < 18)) α = _
    unfold rvisO11a1T10999
    rw [if_pos (by decide)]
  have e11 : R9 (fun k => decide (k < 18)) α 11999 = row (ms) 194 (MC.setIfInBounds 5 (.slice (some ⟨α 3017, 0, none⟩) (m + 1) (m + 1 + (α 4017)))) := by
    show rvisO11a1T11999 pb PC sb c st n src mp es k ms MC gb cg G m xc eb va wa vi li xr xp xa ob lo pr cp vb B1_1 B1 (fun k => decide (k < 18)) α = _
    unfold rvisO11a1T11999
    rw [if_pos (by decide)]
  have e12 : R9 (fun k => decide (k < 18)) α 12999 = row (α 3017) 58 (full refZ (G ++ [.int .u32 src, .int .u32 (n : Int)]) (α 4017)) := by
    show rvisO11a1T12999 pb PC sb c st n src mp es k ms MC gb cg G m xc eb va wa vi li xr xp xa ob lo pr cp vb B1_1 B1 (fun k => decide (k < 18)) α = _
    unfold rvisO11a1T12999
    rw [if_pos (by decide)]
  have hO : Own w0 u [row (B1_1) 29 #[.iface 56 (.pointer (some ⟨vi, 0, none⟩)), .int .i32 li], row (B1) 29 #[.iface 202 (.pointer (some ⟨ob, 0, none⟩)), .int .i32 lo], row (xr) 251 #[.func (Fn.func 42) #[] #[.pointer (some ⟨xc, 0, none⟩), .pointer (some ⟨xa, 0, none⟩), .pointer (some ⟨xp, 0, none⟩)]], row (ob) 204 #[.slice (some ⟨pr, 0, none⟩) 1 (1 + cp), .int .i32 0, .int .i32 0, .bool false, .bool false], row (pr) 52 (full prZ [.pointer none, .nilIface, .int .i32 0, .iface 56 (.pointer (some ⟨vb, 0, none⟩)), .int .i32 0, .nilIface, .int .i32 0, .slice none 0 0, .int .i32 0, .int .i32 0, .int .u8 5, .int .u8 0] cp), row (xp) 22 #[.pointer (some ⟨pb, 0, none⟩)], row (xa) 210 #[.func (Fn.func 25) #[] #[.pointer (some ⟨eb, 0, none⟩)]], row (eb) 29 #[.iface 241 (.pointer (some ⟨α 17, 0, none⟩)), .int .i32 wa], row (pb) 182 (PC.setIfInBounds 106 (.slice (some ⟨α 1017, 0, none⟩) (n + 1) (n + 1 + (α 2017)))), row (α 1017) 201 (full symZ (symL (bump (st ++ [syk ⟨#[95, 95, 111, 98, 106, 82, 101, 115, 116]⟩ 27]) n)) (α 2017)), ((mp, .map (es.push ⟨.string ⟨#[95, 95, 111, 98, 106, 82, 101, 115, 116]⟩, .agg #[.int .i32 0, .int .u32 src, .int .u32 (n : Int)], k⟩) (k + 1)) : Rw), row (ms) 194 (MC.setIfInBounds 5 (.slice (some ⟨α 3017, 0, none⟩) (m + 1) (m + 1 + (α 4017)))), row (α 3017) 58 (full refZ (G ++ [.int .u32 src, .int .u32 (n : Int)]) (α 4017))] X := (hG.list [999, 1999, 2999, 3999, 4999, 5999, 6999, 7999, 8999, 9999, 10999, 11999, 12999] (by decide) (act_all (by decide))).conv (by
    show [R9 (fun k => decide (k < 18)) α 999, R9 (fun k => decide (k < 18)) α 1999, R9 (fun k => decide (k < 18)) α 2999, R9 (fun k => decide (k < 18)) α 3999, R9 (fun k => decide (k < 18)) α 4999, R9 (fun k => decide (k < 18)) α 5999, R9 (fun k => decide (k < 18)) α 6999, R9 (fun k => decide (k < 18)) α 7999, R9 (fun k => decide (k < 18)) α 8999, R9 (fun k => decide (k < 18)) α 9999, R9 (fun k => decide (k < 18)) α 10999, R9 (fun k => decide (k < 18)) α 11999, R9 (fun k => decide (k < 18)) α 12999] = _
    rw [e0, e1, e2, e3, e4, e5, e6, e7, e8, e9, e10, e11, e12])
  clear hG e0 e1 e2 e3 e4 e5 e6 e7 e8 e9 e10 e11 e12 R9
  generalize hfr : Rega.frameAt _ _ _ _ _ = fr
  have hdf : fr = ⟨#[.agg #[.iface 202 (.pointer (some ⟨ob, 0, none⟩)), .int .i32 lo], .agg #[.iface 56 (.pointer (some ⟨vi, 0, none⟩)), .int .i32 li], .slice none 0 0, .pointer (some ⟨xm, 0, none⟩), .pointer (some ⟨xs, 0, none⟩), .pointer (some ⟨xr, 0, none⟩), .pointer (some ⟨xp, 0, none⟩), .pointer (some ⟨xo, 0, none⟩), .pointer (some ⟨xa, 0, none⟩), .pointer (some ⟨B1, 0, none⟩), .pointer (some ⟨B1_1, 0, none⟩), undef, undef, undef, undef, .pointer (some ⟨ob, 0, none⟩), .int .i64 0, .bool true, .int .i64 0, .pointer (some ⟨pr, 0, none⟩), u20, u21, .pointer (some ⟨B1, 0, none⟩), .iface 202 (.pointer (some ⟨ob, 0, none⟩)), .tuple #[.pointer none, .bool false], .bool false, .pointer none, undef, undef, undef, undef, undef, undef, undef, undef, undef, undef, undef, undef, undef, undef, undef, undef, undef, undef, undef, undef, undef, undef, undef, undef, undef, undef, undef, undef, undef, undef, undef, undef, undef, undef, undef, undef, undef, undef, .tuple #[.pointer (some ⟨ob, 0, none⟩), .bool true], .bool true, .pointer (some ⟨ob, 0, none⟩), .pointer (some ⟨ob, 0, none⟩), .pointer (some ⟨ob, 0, none⟩), .pointer (some ⟨ob, 0, none⟩), .slice (some ⟨pr, 0, none⟩) 1 (1 + cp), .int .i64 1, .int .i64 0, .int .i64 0, .bool true, .bool true, .pointer (some ⟨ob, 0, none⟩), .pointer (some ⟨ob, 0, none⟩), .pointer (some ⟨ob, 0, none⟩), .slice (some ⟨pr, 0, none⟩) 1 (1 + cp), .int .i64 0, .pointer (some ⟨pr, 0, none⟩), .pointer (some ⟨pr, 10, none⟩), .int .u8 5, .bool true, .bool true, .pointer (some ⟨ob, 0, none⟩), .pointer (some ⟨ob, 0, none⟩), .pointer (some ⟨ob, 0, none⟩), .slice (some ⟨pr, 0, none⟩) 1 (1 + cp), .int .i64 1, .int .i64 0, .bool true, .int .i64 0, .pointer (some ⟨ob, 0, none⟩), .pointer (some ⟨ob, 0, none⟩), .pointer (some ⟨ob, 0, none⟩), .slice (some ⟨pr, 0, none⟩) 1 (1 + cp), .int .i64 0, .pointer (some ⟨pr, 0, none⟩), .pointer (some ⟨pr, 0, none⟩), .pointer (some ⟨pr, 0, none⟩), .pointer (some ⟨pr, 10, none⟩), .int .u8 5, .bool true, .func (Fn.func 42) #[] #[.pointer (some ⟨xc, 0, none⟩), .pointer (some ⟨xa, 0, none⟩), .pointer (some ⟨xp, 0, none⟩)], .pointer (some ⟨ob, 0, none⟩), .pointer (some ⟨ob, 0, none⟩), .pointer (some ⟨ob, 0, none⟩), .slice (some ⟨pr, 0, none⟩) 1 (1 + cp), .int .i64 0, .slice (some ⟨pr, 0, none⟩) 0 (1 + cp), .pointer (some ⟨pr, 0, none⟩), .pointer (some ⟨pr, 0, none⟩), .pointer (some ⟨pr, 3, none⟩), .agg #[.iface 56 (.pointer (some ⟨vb, 0, none⟩)), .int .i32 0], .agg #[.iface 56 (.pointer (some ⟨vi, 0, none⟩)), .int .i32 li], .slice none 0 0, .pointer (some ⟨ob, 0, none⟩), .pointer (some ⟨ob, 0, none⟩), .pointer (some ⟨ob, 3, none⟩), .bool false, .tuple #[], u124, u125, u126, u127, u128, u129, u130, u131, u132, u133, u134, u135, u136, u137, u138, u139, u140, u141, u142, u143, u144, u145, u146, u147, u148, u149, u150, u151, u152, u153, u154, u155, u156, u157, u158, u159, u160, u161, u162, u163, u164, u165, u166, u167, u168, u169, u170, u171, undef, undef, undef, undef], []⟩ := by rw [← hfr]; kernel_rfl
  clear hfr
  subst hdf
  generalize α 17 = nd3 at hO ⊢
  generalize α 1017 = nd4 at hO ⊢
  generalize α 2017 = nd5 at hO ⊢
  generalize α 3017 = nd6 at hO ⊢
  generalize α 4017 = nd7 at hO ⊢
  clear α
  obtain ⟨c9_0_0, c9_0_1, lt9_0, y9_0, -⟩ := hO.k2 0 rfl
  obtain ⟨c9_1_0, c9_1_1, lt9_1, y9_1, -⟩ := hO.k2 1 rfl
  obtain ⟨c9_2_0, lt9_2, y9_2, -⟩ := hO.k1 2 rfl
  obtain ⟨c9_3_0, c9_3_1, c9_3_2, c9_3_3, c9_3_4, lt9_3, y9_3, -⟩ := hO.k5 3 rfl
  obtain ⟨c9_5_0, lt9_5, y9_5, -⟩ := hO.k1 5 rfl
  obtain ⟨c9_6_0, lt9_6, y9_6, -⟩ := hO.k1 6 rfl
  obtain ⟨c9_7_0, c9_7_1, lt9_7, y9_7, -⟩ := hO.k2 7 rfl
  have HO := Lib.hid hO
  clear hO
  go_wp2_with (first | (with_reducible refine Own.stay (fn := Tryz.f45) ?_) | fail)
  try with_reducible refine Own.Stay.mk ?_
  have hO := HO.out
  clear HO c9_0_0 c9_0_1 lt9_0 y9_0 c9_1_0 c9_1_1 lt9_1 y9_1 c9_2_0 lt9_2 y9_2 c9_3_0 c9_3_1 c9_3_2 c9_3_3 c9_3_4 lt9_3 y9_3 c9_5_0 lt9_5 y9_5 c9_6_0 lt9_6 y9_6 c9_7_0 c9_7_1 lt9_7 y9_7
  refine bodyPost_ret (v := .tuple #[]) ?_ rfl ⟨nd3, nd4, nd5, nd6, nd7, rfl, hO.sub [2, 3, 4, 5, 6, 7, 8, 9, 10, 11, 12] (by decide)⟩
  simp [results, Tryz.results45, go_sem]
end Go.Proofs.YtghofdhhhbbaaaaGreatDoor.Use
