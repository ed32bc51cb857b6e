/- The visit of the pattern. No condition. -/
import Derived.Test.YtghofdhhhbbaaaaGreatDoorSpz
import Derived.Test.YtghofdhhhbbaaaaGreatDoorFndk
import Derived.Test.YtghofdhhhbbaaaaGreatDoorWdh
import Derived.Test.YtghofdhhhbbaaaaGreatDoorGtR00
import Derived.Test.YtghofdhhhbbaaaaGreatDoorLiveG
import Derived.Test.YtghofdhhhbbaaaaGreatDoorAsg
import Derived.Test.YtghofdhhhbbaaaaGreatDoorIts
import Derived.Test.YtghofdhhhbbaaaaGreatDoorIfm
import Derived.Test.YtghofdhhhbbaaaaGreatDoorSla
import Derived.Test.YtghofdhhhbbaaaaGreatDoorLoop
import Derived.Test.YtghofdhhhbbaaaaGreatDoorMini
import Derived.Test.YtghofdhhhbbaaaaGreatDoorAppL
import Derived.Test.YtghofdhhhbbaaaaGreatDoorApp
import Derived.Test.YtghofdhhhbbaaaaGreatDoorOwnK
import Derived.Test.YtghofdhhhbbaaaaGreatDoorOwn
import Derived.Test.YtghofdhhhbbaaaaGreatDoorDeepCells
import Derived.Test.YtghofdhhhbbaaaaGreatDoorRows
import Derived.Test.YtghofdhhhbbaaaaGreatDoorLive
namespace Go.Proofs.YtghofdhhhbbaaaaGreatDoor.Use
open Go.ChangeShapes Go.WideShapes Go.ChangeAt Go.RowKit Go.Sort Own
set_option linter.unusedVariables false
def rVAE (pb : Nat) (PC : Array Value) (sb : Nat) (c : Nat) (st : List Sy) (n : Nat) (src : Int) (i : Nat) (mp : Nat) (es : Array MapEntry) (k : Nat) (ms : Nat) (MC : Array Value) (ab : Nat) (ib : Nat) (ci : Nat) (IL : List Value) (mm : Nat) (tt : Nat) (ob : Nat) (pr : Nat) (cp : Nat) (vb : Nat) (xp : Nat) (xd : Nat) (xa : Nat) (xv : Nat) (xm : Nat) (xs : Nat) (xr : Nat) (xo : Nat) (xc : Nat) (eb : Nat) (mb : Nat) (wa : Int) (lo : Int) (vi : Nat) (li : Int) (B1_1 : Nat) (B1 : Nat) (B3 : Nat) : Nat → Rega.Atoms → Value
  | 0, α => .func (Fn.func 43) #[] #[.pointer (some ⟨xp, 0, none⟩), .pointer (some ⟨xd, 0, none⟩), .pointer (some ⟨xa, 0, none⟩), .pointer (some ⟨xv, 0, none⟩)]
  | 1, α => .pointer (some ⟨ab, 0, none⟩)
  | 2, α => .pointer (some ⟨ab, 0, none⟩)
  | 3, α => .pointer (some ⟨ab, 0, none⟩)
  | 4, α => .slice (some ⟨ib, 0, none⟩) (mm + 1 + tt) (mm + 1 + tt + ci)
  | 5, α => .int .i64 (mm : Int)
  | 6, α => .slice (some ⟨ib, 0, none⟩) mm (mm + 1 + tt + ci)
  | 7, α => .agg #[.iface 202 (.pointer (some ⟨ob, 0, none⟩)), .int .i32 0]
  | 8, α => .slice (some ⟨α 8, 0, none⟩) 0 0
  | 9, α => .pointer (some ⟨ab, 0, none⟩)
  | 10, α => .pointer (some ⟨ab, 0, none⟩)
  | 11, α => .pointer (some ⟨ab, 0, none⟩)
  | 12, α => .slice (some ⟨ib, 0, none⟩) (mm + 1 + tt) (mm + 1 + tt + ci)
  | 13, α => .int .i64 (mm : Int)
  | 14, α => .int .i64 ((mm : Int) + 1)
  | 15, α => .slice (some (aft ib (mm + 1) (mm + 1 + tt + ci) 2)) tt (tt + ci)
  | 16, α => .slice (some ⟨α 16, 0, none⟩) tt (tt + (α 1016))
  | 17, α => .agg #[.iface 56 (.pointer (some ⟨vi, 0, none⟩)), .int .i32 li]
  | 18, α => .pointer (some ⟨ab, 0, none⟩)
  | 19, α => .pointer (some ⟨ab, 0, none⟩)
  | 20, α => .pointer (some ⟨ab, 3, none⟩)
  | 21, α => .bool false
  | 22, α => .tuple #[]
  | _, _ => undef
def rVAAnc : Nat → List Nat
  | 2 => [1]
  | 3 => [1, 2]
  | 4 => [1, 2, 3]
  | 6 => [1, 2, 3, 4, 5]
  | 10 => [9]
  | 11 => [9, 10]
  | 12 => [9, 10, 11]
  | 14 => [13]
  | 15 => [9, 10, 11, 12, 13, 14]
  | 16 => [8, 9, 10, 11, 12, 13, 14, 15]
  | 19 => [18]
  | 20 => [18, 19]
  | 21 => [18, 19, 20]
  | 22 => [0, 1, 2, 3, 4, 5, 6, 7, 8, 9, 10, 11, 12, 13, 14, 15, 16, 17, 18, 19, 20, 21]
  | _ => []
def rVATrn : Nat → List Nat
  | 16 => [8]
  | 22 => [11999, 13999, 16999, 17999, 18999, 19999]
  | _ => []
def rVACnt : List (Nat × Nat) := [(8, 1), (22, 2)]
def rVAT11999 (pb : Nat) (PC : Array Value) (sb : Nat) (c : Nat) (st : List Sy) (n : Nat) (src : Int) (i : Nat) (mp : Nat) (es : Array MapEntry) (k : Nat) (ms : Nat) (MC : Array Value) (ab : Nat) (ib : Nat) (ci : Nat) (IL : List Value) (mm : Nat) (tt : Nat) (ob : Nat) (pr : Nat) (cp : Nat) (vb : Nat) (xp : Nat) (xd : Nat) (xa : Nat) (xv : Nat) (xm : Nat) (xs : Nat) (xr : Nat) (xo : Nat) (xc : Nat) (eb : Nat) (mb : Nat) (wa : Int) (lo : Int) (vi : Nat) (li : Int) (B1_1 : Nat) (B1 : Nat) (B3 : Nat) (L9 : Nat → Bool) (α : Rega.Atoms) : Rw := if L9 22 = true then row (eb) 29 #[.iface 241 (.pointer (some ⟨α 6022, 0, none⟩)), .int .i32 0] else row (eb) 29 #[.nilIface, .int .i32 wa]
def rVAT13999 (pb : Nat) (PC : Array Value) (sb : Nat) (c : Nat) (st : List Sy) (n : Nat) (src : Int) (i : Nat) (mp : Nat) (es : Array MapEntry) (k : Nat) (ms : Nat) (MC : Array Value) (ab : Nat) (ib : Nat) (ci : Nat) (IL : List Value) (mm : Nat) (tt : Nat) (ob : Nat) (pr : Nat) (cp : Nat) (vb : Nat) (xp : Nat) (xd : Nat) (xa : Nat) (xv : Nat) (xm : Nat) (xs : Nat) (xr : Nat) (xo : Nat) (xc : Nat) (eb : Nat) (mb : Nat) (wa : Int) (lo : Int) (vi : Nat) (li : Int) (B1_1 : Nat) (B1 : Nat) (B3 : Nat) (L9 : Nat → Bool) (α : Rega.Atoms) : Rw := if L9 22 = true then row (ib) 29 (full exZ (iW (xt tt) IL mm (α 7022) (α 8022)) ci) else row (ib) 29 (full exZ IL ci)
def rVAT16999 (pb : Nat) (PC : Array Value) (sb : Nat) (c : Nat) (st : List Sy) (n : Nat) (src : Int) (i : Nat) (mp : Nat) (es : Array MapEntry) (k : Nat) (ms : Nat) (MC : Array Value) (ab : Nat) (ib : Nat) (ci : Nat) (IL : List Value) (mm : Nat) (tt : Nat) (ob : Nat) (pr : Nat) (cp : Nat) (vb : Nat) (xp : Nat) (xd : Nat) (xa : Nat) (xv : Nat) (xm : Nat) (xs : Nat) (xr : Nat) (xo : Nat) (xc : Nat) (eb : Nat) (mb : Nat) (wa : Int) (lo : Int) (vi : Nat) (li : Int) (B1_1 : Nat) (B1 : Nat) (B3 : Nat) (L9 : Nat → Bool) (α : Rega.Atoms) : Rw := if L9 22 = true then row (pb) 182 (pcW PC i n (xt tt) (α 2022) (α 3022) (α 22) (α 4022)) else row (pb) 182 PC
def rVAT17999 (pb : Nat) (PC : Array Value) (sb : Nat) (c : Nat) (st : List Sy) (n : Nat) (src : Int) (i : Nat) (mp : Nat) (es : Array MapEntry) (k : Nat) (ms : Nat) (MC : Array Value) (ab : Nat) (ib : Nat) (ci : Nat) (IL : List Value) (mm : Nat) (tt : Nat) (ob : Nat) (pr : Nat) (cp : Nat) (vb : Nat) (xp : Nat) (xd : Nat) (xa : Nat) (xv : Nat) (xm : Nat) (xs : Nat) (xr : Nat) (xo : Nat) (xc : Nat) (eb : Nat) (mb : Nat) (wa : Int) (lo : Int) (vi : Nat) (li : Int) (B1_1 : Nat) (B1 : Nat) (B3 : Nat) (L9 : Nat → Bool) (α : Rega.Atoms) : Rw := if L9 22 = true then row (α 2022) 201 (full symZ (symL (stW (xt tt) i n st)) (α 3022)) else row (sb) 201 (full symZ (symL st) c)
def rVAT18999 (pb : Nat) (PC : Array Value) (sb : Nat) (c : Nat) (st : List Sy) (n : Nat) (src : Int) (i : Nat) (mp : Nat) (es : Array MapEntry) (k : Nat) (ms : Nat) (MC : Array Value) (ab : Nat) (ib : Nat) (ci : Nat) (IL : List Value) (mm : Nat) (tt : Nat) (ob : Nat) (pr : Nat) (cp : Nat) (vb : Nat) (xp : Nat) (xd : Nat) (xa : Nat) (xv : Nat) (xm : Nat) (xs : Nat) (xr : Nat) (xo : Nat) (xc : Nat) (eb : Nat) (mb : Nat) (wa : Int) (lo : Int) (vi : Nat) (li : Int) (B1_1 : Nat) (B1 : Nat) (B3 : Nat) (L9 : Nat → Bool) (α : Rega.Atoms) : Rw := if L9 22 = true then ((mp, .map (es.push ⟨.string ⟨#[95, 95, 111, 98, 106, 82, 101, 115, 116]⟩, .agg #[.int .i32 0, .int .u32 src, .int .u32 ((n + 1 + (xt tt) : Nat) : Int)], k⟩) (k + 1)) : Rw) else ((mp, .map es k) : Rw)
def rVAT19999 (pb : Nat) (PC : Array Value) (sb : Nat) (c : Nat) (st : List Sy) (n : Nat) (src : Int) (i : Nat) (mp : Nat) (es : Array MapEntry) (k : Nat) (ms : Nat) (MC : Array Value) (ab : Nat) (ib : Nat) (ci : Nat) (IL : List Value) (mm : Nat) (tt : Nat) (ob : Nat) (pr : Nat) (cp : Nat) (vb : Nat) (xp : Nat) (xd : Nat) (xa : Nat) (xv : Nat) (xm : Nat) (xs : Nat) (xr : Nat) (xo : Nat) (xc : Nat) (eb : Nat) (mb : Nat) (wa : Int) (lo : Int) (vi : Nat) (li : Int) (B1_1 : Nat) (B1 : Nat) (B3 : Nat) (L9 : Nat → Bool) (α : Rega.Atoms) : Rw := if L9 22 = true then row (ms) 194 (MC.setIfInBounds 5 (.slice (some ⟨α 1022, 0, none⟩) (2 + (xt tt)) (2 + (xt tt) + (α 5022)))) else row (ms) 194 MC
def rVAT8 (pb : Nat) (PC : Array Value) (sb : Nat) (c : Nat) (st : List Sy) (n : Nat) (src : Int) (i : Nat) (mp : Nat) (es : Array MapEntry) (k : Nat) (ms : Nat) (MC : Array Value) (ab : Nat) (ib : Nat) (ci : Nat) (IL : List Value) (mm : Nat) (tt : Nat) (ob : Nat) (pr : Nat) (cp : Nat) (vb : Nat) (xp : Nat) (xd : Nat) (xa : Nat) (xv : Nat) (xm : Nat) (xs : Nat) (xr : Nat) (xo : Nat) (xc : Nat) (eb : Nat) (mb : Nat) (wa : Int) (lo : Int) (vi : Nat) (li : Int) (B1_1 : Nat) (B1 : Nat) (B3 : Nat) (L9 : Nat → Bool) (α : Rega.Atoms) : Rw := if L9 16 = true then row (α 16) 29 (full exZ (IL.drop ((mm + 1) * 2)) (α 1016)) else row (α 8) 29 #[]
def rVAR (pb : Nat) (PC : Array Value) (sb : Nat) (c : Nat) (st : List Sy) (n : Nat) (src : Int) (i : Nat) (mp : Nat) (es : Array MapEntry) (k : Nat) (ms : Nat) (MC : Array Value) (ab : Nat) (ib : Nat) (ci : Nat) (IL : List Value) (mm : Nat) (tt : Nat) (ob : Nat) (pr : Nat) (cp : Nat) (vb : Nat) (xp : Nat) (xd : Nat) (xa : Nat) (xv : Nat) (xm : Nat) (xs : Nat) (xr : Nat) (xo : Nat) (xc : Nat) (eb : Nat) (mb : Nat) (wa : Int) (lo : Int) (vi : Nat) (li : Int) (B1_1 : Nat) (B1 : Nat) (B3 : Nat) (L9 : Nat → Bool) (α : Rega.Atoms) (ix9 : Nat) : Rw := if ix9 = 999 then row (B3) 29 #[.iface 202 (.pointer (some ⟨ob, 0, none⟩)), .int .i32 0] else if ix9 = 1999 then row (B1_1) 29 #[.iface 56 (.pointer (some ⟨vi, 0, none⟩)), .int .i32 li] else if ix9 = 2999 then row (B1) 29 #[.iface 205 (.pointer (some ⟨ab, 0, none⟩)), .int .i32 lo] else if ix9 = 3999 then row (xm) 246 #[.map (some mb)] else if ix9 = 4999 then row (xs) 254 #[.func (Fn.func 43) #[] #[.pointer (some ⟨xp, 0, none⟩), .pointer (some ⟨xd, 0, none⟩), .pointer (some ⟨xa, 0, none⟩), .pointer (some ⟨xv, 0, none⟩)]] else if ix9 = 5999 then row (xv) 247 #[.func (Fn.func 45) #[] #[.pointer (some ⟨xm, 0, none⟩), .pointer (some ⟨xs, 0, none⟩), .pointer (some ⟨xr, 0, none⟩), .pointer (some ⟨xp, 0, none⟩), .pointer (some ⟨xo, 0, none⟩), .pointer (some ⟨xa, 0, none⟩)]] else if ix9 = 6999 then row (xp) 22 #[.pointer (some ⟨pb, 0, none⟩)] else if ix9 = 7999 then row (xd) 214 #[.int .u8 0] else if ix9 = 8999 then row (xa) 210 #[.func (Fn.func 25) #[] #[.pointer (some ⟨eb, 0, none⟩)]] else if ix9 = 9999 then row (xr) 251 #[.func (Fn.func 42) #[] #[.pointer (some ⟨xc, 0, none⟩), .pointer (some ⟨xa, 0, none⟩), .pointer (some ⟨xp, 0, none⟩)]] else if ix9 = 10999 then ((mb, .map (imA [(202, ob), (205, ab)]) 2) : Rw) else if ix9 = 11999 then rVAT11999 pb PC sb c st n src i mp es k ms MC ab ib ci IL mm tt ob pr cp vb xp xd xa xv xm xs xr xo xc eb mb wa lo vi li B1_1 B1 B3 L9 α else if ix9 = 12999 then row (ab) 207 #[.slice (some ⟨ib, 0, none⟩) (mm + 1 + tt) (mm + 1 + tt + ci), .int .i32 0, .int .i32 0, .bool false, .bool false] else if ix9 = 13999 then rVAT13999 pb PC sb c st n src i mp es k ms MC ab ib ci IL mm tt ob pr cp vb xp xd xa xv xm xs xr xo xc eb mb wa lo vi li B1_1 B1 B3 L9 α else if ix9 = 14999 then row (ob) 204 #[.slice (some ⟨pr, 0, none⟩) 1 (1 + cp), .int .i32 0, .int .i32 0, .bool false, .bool false] else if ix9 = 15999 then row (pr) 52 (full prZ [.pointer none, .nilIface, .int .i32 0, .iface 56 (.pointer (some ⟨vb, 0, none⟩)), .int .i32 0, .nilIface, .int .i32 0, .slice none 0 0, .int .i32 0, .int .i32 0, .int .u8 5, .int .u8 0] cp) else if ix9 = 16999 then rVAT16999 pb PC sb c st n src i mp es k ms MC ab ib ci IL mm tt ob pr cp vb xp xd xa xv xm xs xr xo xc eb mb wa lo vi li B1_1 B1 B3 L9 α else if ix9 = 17999 then rVAT17999 pb PC sb c st n src i mp es k ms MC ab ib ci IL mm tt ob pr cp vb xp xd xa xv xm xs xr xo xc eb mb wa lo vi li B1_1 B1 B3 L9 α else if ix9 = 18999 then rVAT18999 pb PC sb c st n src i mp es k ms MC ab ib ci IL mm tt ob pr cp vb xp xd xa xv xm xs xr xo xc eb mb wa lo vi li B1_1 B1 B3 L9 α else if ix9 = 19999 then rVAT19999 pb PC sb c st n src i mp es k ms MC ab ib ci IL mm tt ob pr cp vb xp xd xa xv xm xs xr xo xc eb mb wa lo vi li B1_1 B1 B3 L9 α else if ix9 = 8 then rVAT8 pb PC sb c st n src i mp es k ms MC ab ib ci IL mm tt ob pr cp vb xp xd xa xv xm xs xr xo xc eb mb wa lo vi li B1_1 B1 B3 L9 α else if ix9 = 22 then row (α 22) 295 (full trfZ (qW (xt tt) src n) (α 4022)) else if ix9 = 1022 then row (α 1022) 58 (full refZ (gW (xt tt) src n) (α 5022)) else (0, .map #[] 0)
theorem rVA_he (pb : Nat) (PC : Array Value) (sb : Nat) (c : Nat) (st : List Sy) (n : Nat) (src : Int) (i : Nat) (mp : Nat) (es : Array MapEntry) (k : Nat) (ms : Nat) (MC : Array Value) (ab : Nat) (ib : Nat) (ci : Nat) (IL : List Value) (mm : Nat) (tt : Nat) (ob : Nat) (pr : Nat) (cp : Nat) (vb : Nat) (xp : Nat) (xd : Nat) (xa : Nat) (xv : Nat) (xm : Nat) (xs : Nat) (xr : Nat) (xo : Nat) (xc : Nat) (eb : Nat) (mb : Nat) (wa : Int) (lo : Int) (vi : Nat) (li : Int) (B1_1 : Nat) (B1 : Nat) (B3 : Nat) : ∀ kk α α', (∀ j, (j % 1000 = kk ∨ j % 1000 ∈ rVAAnc kk) → α j = α' j) → rVAE pb PC sb c st n src i mp es k ms MC ab ib ci IL mm tt ob pr cp vb xp xd xa xv xm xs xr xo xc eb mb wa lo vi li B1_1 B1 B3 kk α = rVAE pb PC sb c st n src i mp es k ms MC ab ib ci IL mm tt ob pr cp vb xp xd xa xv xm xs xr xo xc eb mb wa lo vi li B1_1 B1 B3 kk α' := by
  intro kk α α' h
  match kk with
  | 0 => rfl
  | 1 => rfl
  | 2 => rfl
  | 3 => rfl
  | 4 => rfl
  | 5 => rfl
  | 6 => rfl
  | 7 => rfl
  | 8 => simp only [rVAE, h 8 (Or.inl rfl)]
  | 9 => rfl
  | 10 => rfl
  | 11 => rfl
  | 12 => rfl
  | 13 => rfl
  | 14 => rfl
  | 15 => rfl
  | 16 => simp only [rVAE, h 16 (Or.inl rfl), h 1016 (Or.inl rfl)]
  | 17 => rfl
  | 18 => rfl
  | 19 => rfl
  | 20 => rfl
  | 21 => rfl
  | 22 => rfl
  | n + 23 => rfl
theorem rVA_st (pb : Nat) (PC : Array Value) (sb : Nat) (c : Nat) (st : List Sy) (n : Nat) (src : Int) (i : Nat) (mp : Nat) (es : Array MapEntry) (k : Nat) (ms : Nat) (MC : Array Value) (ab : Nat) (ib : Nat) (ci : Nat) (IL : List Value) (mm : Nat) (tt : Nat) (ob : Nat) (pr : Nat) (cp : Nat) (vb : Nat) (xp : Nat) (xd : Nat) (xa : Nat) (xv : Nat) (xm : Nat) (xs : Nat) (xr : Nat) (xo : Nat) (xc : Nat) (eb : Nat) (mb : Nat) (wa : Int) (lo : Int) (vi : Nat) (li : Int) (B1_1 : Nat) (B1 : Nat) (B3 : Nat) : Stable rVACnt 20 rVAAnc rVATrn (rVAR pb PC sb c st n src i mp es k ms MC ab ib ci IL mm tt ob pr cp vb xp xd xa xv xm xs xr xo xc eb mb wa lo vi li B1_1 B1 B3) := by
  intro k9 L9 α α' ix9 hk hcl hα hact ht
  have hp := act_places hact
  replace hp : ix9 ∈ [999, 1999, 2999, 3999, 4999, 5999, 6999, 7999, 8999, 9999, 10999, 11999, 12999, 13999, 14999, 15999, 16999, 17999, 18999, 19999, 8, 22, 1022] := hp
  simp only [List.mem_cons, List.not_mem_nil, or_false] at hp
  rcases hp with rfl | rfl | rfl | rfl | rfl | rfl | rfl | rfl | rfl | rfl | rfl | rfl | rfl | rfl | rfl | rfl | rfl | rfl | rfl | rfl | rfl | rfl | rfl
  · rfl
  · rfl
  · rfl
  · rfl
  · rfl
  · rfl
  · rfl
  · rfl
  · rfl
  · rfl
  · rfl
  · show rVAT11999 pb PC sb c st n src i mp es k ms MC ab ib ci IL mm tt ob pr cp vb xp xd xa xv xm xs xr xo xc eb mb wa lo vi li B1_1 B1 B3 (Rega.ran L9 k9) α' = rVAT11999 pb PC sb c st n src i mp es k ms MC ab ib ci IL mm tt ob pr cp vb xp xd xa xv xm xs xr xo xc eb mb wa lo vi li B1_1 B1 B3 L9 α
    unfold rVAT11999
    have n22 : 22 ≠ k9 := fun e => ht (by rw [← e]; decide)
    rw [ran_ne n22]
    by_cases e22 : L9 22 = true
    · first | rw [if_pos e22, if_pos e22] | rw [if_pos e22]
      try simp only [hα 6022 (ne_ran hk e22)]
    first | rw [if_neg e22, if_neg e22] | rw [if_neg e22]
  · rfl
  · show rVAT13999 pb PC sb c st n src i mp es k ms MC ab ib ci IL mm tt ob pr cp vb xp xd xa xv xm xs xr xo xc eb mb wa lo vi li B1_1 B1 B3 (Rega.ran L9 k9) α' = rVAT13999 pb PC sb c st n src i mp es k ms MC ab ib ci IL mm tt ob pr cp vb xp xd xa xv xm xs xr xo xc eb mb wa lo vi li B1_1 B1 B3 L9 α
    unfold rVAT13999
    have n22 : 22 ≠ k9 := fun e => ht (by rw [← e]; decide)
    rw [ran_ne n22]
    by_cases e22 : L9 22 = true
    · first | rw [if_pos e22, if_pos e22] | rw [if_pos e22]
      try simp only [hα 7022 (ne_ran hk e22), hα 8022 (ne_ran hk e22)]
    first | rw [if_neg e22, if_neg e22] | rw [if_neg e22]
  · rfl
  · rfl
  · show rVAT16999 pb PC sb c st n src i mp es k ms MC ab ib ci IL mm tt ob pr cp vb xp xd xa xv xm xs xr xo xc eb mb wa lo vi li B1_1 B1 B3 (Rega.ran L9 k9) α' = rVAT16999 pb PC sb c st n src i mp es k ms MC ab ib ci IL mm tt ob pr cp vb xp xd xa xv xm xs xr xo xc eb mb wa lo vi li B1_1 B1 B3 L9 α
    unfold rVAT16999
    have n22 : 22 ≠ k9 := fun e => ht (by rw [← e]; decide)
    rw [ran_ne n22]
    by_cases e22 : L9 22 = true
    · first | rw [if_pos e22, if_pos e22] | rw [if_pos e22]
      try simp only [hα 22 (ne_ran hk e22), hα 2022 (ne_ran hk e22), hα 3022 (ne_ran hk e22), hα 4022 (ne_ran hk e22)]
    first | rw [if_neg e22, if_neg e22] | rw [if_neg e22]
  · show rVAT17999 pb PC sb c st n src i mp es k ms MC ab ib ci IL mm tt ob pr cp vb xp xd xa xv xm xs xr xo xc eb mb wa lo vi li B1_1 B1 B3 (Rega.ran L9 k9) α' = rVAT17999 pb PC sb c st n src i mp es k ms MC ab ib ci IL mm tt ob pr cp vb xp xd xa xv xm xs xr xo xc eb mb wa lo vi li B1_1 B1 B3 L9 α
    unfold rVAT17999
    have n22 : 22 ≠ k9 := fun e => ht (by rw [← e]; decide)
    rw [ran_ne n22]
    by_cases e22 : L9 22 = true
    · first | rw [if_pos e22, if_pos e22] | rw [if_pos e22]
      try simp only [hα 2022 (ne_ran hk e22), hα 3022 (ne_ran hk e22)]
    first | rw [if_neg e22, if_neg e22] | rw [if_neg e22]
  · show rVAT18999 pb PC sb c st n src i mp es k ms MC ab ib ci IL mm tt ob pr cp vb xp xd xa xv xm xs xr xo xc eb mb wa lo vi li B1_1 B1 B3 (Rega.ran L9 k9) α' = rVAT18999 pb PC sb c st n src i mp es k ms MC ab ib ci IL mm tt ob pr cp vb xp xd xa xv xm xs xr xo xc eb mb wa lo vi li B1_1 B1 B3 L9 α
    unfold rVAT18999
    have n22 : 22 ≠ k9 := fun e => ht (by rw [← e]; decide)
    rw [ran_ne n22]
  · show rVAT19999 pb PC sb c st n src i mp es k ms MC ab ib ci IL mm tt ob pr cp vb xp xd xa xv xm xs xr xo xc eb mb wa lo vi li B1_1 B1 B3 (Rega.ran L9 k9) α' = rVAT19999 pb PC sb c st n src i mp es k ms MC ab ib ci IL mm tt ob pr cp vb xp xd xa xv xm xs xr xo xc eb mb wa lo vi li B1_1 B1 B3 L9 α
    unfold rVAT19999
    have n22 : 22 ≠ k9 := fun e => ht (by rw [← e]; decide)
    rw [ran_ne n22]
    by_cases e22 : L9 22 = true
    · first | rw [if_pos e22, if_pos e22] | rw [if_pos e22]
      try simp only [hα 1022 (ne_ran hk e22), hα 5022 (ne_ran hk e22)]
    first | rw [if_neg e22, if_neg e22] | rw [if_neg e22]
  · have e0 : L9 8 = true := act_lt hact (by decide)
    show rVAT8 pb PC sb c st n src i mp es k ms MC ab ib ci IL mm tt ob pr cp vb xp xd xa xv xm xs xr xo xc eb mb wa lo vi li B1_1 B1 B3 (Rega.ran L9 k9) α' = rVAT8 pb PC sb c st n src i mp es k ms MC ab ib ci IL mm tt ob pr cp vb xp xd xa xv xm xs xr xo xc eb mb wa lo vi li B1_1 B1 B3 L9 α
    unfold rVAT8
    have n16 : 16 ≠ k9 := fun e => ht (by rw [← e]; decide)
    rw [ran_ne n16]
    by_cases e16 : L9 16 = true
    · first | rw [if_pos e16, if_pos e16] | rw [if_pos e16]
      try simp only [hα 16 (ne_ran hk e16), hα 1016 (ne_ran hk e16)]
    first | rw [if_neg e16, if_neg e16] | rw [if_neg e16]
    try simp only [hα 8 (ne_ran hk e0)]
  · have e0 : L9 22 = true := act_lt hact (by decide)
    show row (α' 22) 295 (full trfZ (qW (xt tt) src n) (α' 4022)) = row (α 22) 295 (full trfZ (qW (xt tt) src n) (α 4022))
    simp only [hα 22 (ne_ran hk e0), hα 4022 (ne_ran hk e0)]
  · have e0 : L9 22 = true := act_lt hact (by decide)
    show row (α' 1022) 58 (full refZ (gW (xt tt) src n) (α' 5022)) = row (α 1022) 58 (full refZ (gW (xt tt) src n) (α 5022))
    simp only [hα 1022 (ne_ran hk e0), hα 5022 (ne_ran hk e0)]
def visAPost (pb : Nat) (PC : Array Value) (sb c : Nat) (st : List Sy) (n : Nat) (src : Int) (i mp : Nat) (es : Array MapEntry) (k ms : Nat) (MC : Array Value) (ab ib ci : Nat) (IL : List Value) (mm tt ob pr cp vb xp xd xa xv xm xs xr xo xc eb mb : Nat) (wa lo : Int) (vi : Nat) (li : Int) (w0 : World) (X : Nat → Obj → Prop) (e : Ending) (w' : World) : Prop :=
  ∃ sb2 : Nat, ∃ c2 : Nat, ∃ gb2 : Nat, ∃ cg2 : Nat, ∃ qb2 : Nat, ∃ cq2 : Nat, ∃ xn : Nat, ∃ b1 : Nat, ∃ b2 : Nat, e = .returned (.tuple #[]) ∧ Own w0 w' [row (eb) 29 #[.iface 241 (.pointer (some ⟨xn, 0, none⟩)), .int .i32 0], row (ab) 207 #[.slice (some ⟨ib, 0, none⟩) (mm + 1 + tt) (mm + 1 + tt + ci), .int .i32 0, .int .i32 0, .bool false, .bool false], row (ib) 29 (full exZ (iW (xt tt) IL mm b1 b2) ci), row (ob) 204 #[.slice (some ⟨pr, 0, none⟩) 1 (1 + cp), .int .i32 0, .int .i32 0, .bool false, .bool false], row (pr) 52 (full prZ [.pointer none, .nilIface, .int .i32 0, .iface 56 (.pointer (some ⟨vb, 0, none⟩)), .int .i32 0, .nilIface, .int .i32 0, .slice none 0 0, .int .i32 0, .int .i32 0, .int .u8 5, .int .u8 0] cp), row (pb) 182 (pcW PC i n (xt tt) sb2 c2 qb2 cq2), row (sb2) 201 (full symZ (symL (stW (xt tt) i n st)) c2), ((mp, .map (es.push ⟨.string ⟨#[95, 95, 111, 98, 106, 82, 101, 115, 116]⟩, .agg #[.int .i32 0, .int .u32 src, .int .u32 ((n + 1 + (xt tt) : Nat) : Int)], k⟩) (k + 1)) : Rw), row (ms) 194 (MC.setIfInBounds 5 (.slice (some ⟨gb2, 0, none⟩) (2 + (xt tt)) (2 + (xt tt) + cg2)))] X
set_option maxRecDepth 100000 in
set_option maxHeartbeats 4000000 in
theorem visA (pb : Nat) (PC : Array Value) (sb c : Nat) (st : List Sy) (n : Nat) (src : Int) (i mp : Nat) (es : Array MapEntry) (k ms : Nat) (MC : Array Value) (ab ib ci : Nat) (IL : List Value) (mm tt ob pr cp vb xp xd xa xv xm xs xr xo xc eb mb : Nat) (wa lo : Int) (vi : Nat) (li : Int) (w0 w : World) (X : Nat → Obj → Prop) (hO : Own w0 w [row (xm) 246 #[.map (some mb)], row (xs) 254 #[.func (Fn.func 43) #[] #[.pointer (some ⟨xp, 0, none⟩), .pointer (some ⟨xd, 0, none⟩), .pointer (some ⟨xa, 0, none⟩), .pointer (some ⟨xv, 0, none⟩)]], row (xv) 247 #[.func (Fn.func 45) #[] #[.pointer (some ⟨xm, 0, none⟩), .pointer (some ⟨xs, 0, none⟩), .pointer (some ⟨xr, 0, none⟩), .pointer (some ⟨xp, 0, none⟩), .pointer (some ⟨xo, 0, none⟩), .pointer (some ⟨xa, 0, none⟩)]], row (xp) 22 #[.pointer (some ⟨pb, 0, none⟩)], row (xd) 214 #[.int .u8 0], row (xa) 210 #[.func (Fn.func 25) #[] #[.pointer (some ⟨eb, 0, none⟩)]], row (xr) 251 #[.func (Fn.func 42) #[] #[.pointer (some ⟨xc, 0, none⟩), .pointer (some ⟨xa, 0, none⟩), .pointer (some ⟨xp, 0, none⟩)]], ((mb, .map (imA [(202, ob), (205, ab)]) 2) : Rw), row (eb) 29 #[.nilIface, .int .i32 wa], row (ab) 207 #[.slice (some ⟨ib, 0, none⟩) (mm + 1 + tt) (mm + 1 + tt + ci), .int .i32 0, .int .i32 0, .bool false, .bool false], row (ib) 29 (full exZ IL ci), row (ob) 204 #[.slice (some ⟨pr, 0, none⟩) 1 (1 + cp), .int .i32 0, .int .i32 0, .bool false, .bool false], row (pr) 52 (full prZ [.pointer none, .nilIface, .int .i32 0, .iface 56 (.pointer (some ⟨vb, 0, none⟩)), .int .i32 0, .nilIface, .int .i32 0, .slice none 0 0, .int .i32 0, .int .i32 0, .int .u8 5, .int .u8 0] cp), row (pb) 182 PC, row (sb) 201 (full symZ (symL st) c), ((mp, .map es k) : Rw), row (ms) 194 MC] X) (hk350 : PC[350]? = some (.bool false)) (hk32 : PC[32]? = some (.bool false)) (hk105 : PC[105]? = some (.pointer none)) (hk66 : PC[66]? = some (.int .u32 src)) (hk117 : PC[117]? = some (.map (some mp))) (hk187 : PC[187]? = some (.pointer (some ⟨ms, 0, none⟩))) (hk104 : PC[104]? = some (.pointer (some ⟨ms, 0, none⟩))) (hkind : MC[15]? = some (.int .u8 6)) (hk287 : PC[287]? = some (.int .i64 (i : Int))) (hk199 : PC[199]? = some (.slice none 0 0)) (hgen : MC[5]? = some (.slice none 0 0)) (hk106 : PC[106]? = some (.slice (some ⟨sb, 0, none⟩) n (n + c))) (hn : st.length = n) (hnb : n ≤ 1000000) (hi : i ≤ 1000) (hub : UcB st 1000) (hno : Instr.findNow .string (.string ⟨#[95, 95, 111, 98, 106, 82, 101, 115, 116]⟩) es.toList 0 = some none) (hg0 : w0.cell? ⟨0, 0, none⟩ = some (.int .u32 4294967295)) (hg1 : w0.cell? ⟨0, 1, none⟩ = some (.int .u32 4294967295)) (hI : ItP IL mm ob (mm + 1 + tt)) (hm4 : mm ≤ 4096) (ht4 : tt ≤ 4096) :
    Calls Tryz.prog 45 #[.agg #[.iface 205 (.pointer (some ⟨ab, 0, none⟩)), .int .i32 lo], .agg #[.iface 56 (.pointer (some ⟨vi, 0, none⟩)), .int .i32 li], .slice none 0 0, .pointer (some ⟨xm, 0, none⟩), .pointer (some ⟨xs, 0, none⟩), .pointer (some ⟨xr, 0, none⟩), .pointer (some ⟨xp, 0, none⟩), .pointer (some ⟨xo, 0, none⟩), .pointer (some ⟨xa, 0, none⟩)] w (visAPost pb PC sb c st n src i mp es k ms MC ab ib ci IL mm tt ob pr cp vb xp xd xa xv xm xs xr xo xc eb mb wa lo vi li w0 X) := by
  go_enter Tryz.func45, Tryz.ntmps45
  have HI := Lib.hid hI
  have hJ9 := Lib.hid hI.drop.1
  have HUB := Lib.hid hub
  clear hI hub
  have hm8 : (mm : Int) ≤ 4096 := by omega
  have ht8 : (tt : Int) ≤ 4096 := by omega
  have hm7 : (0 : Int) ≤ (mm : Int) := by omega
  have ht7 : (0 : Int) ≤ (tt : Int) := by omega
  obtain ⟨c9_0_0, lt9_0, y9_0, -⟩ := hO.k1 0 rfl
  obtain ⟨c9_1_0, lt9_1, y9_1, -⟩ := hO.k1 1 rfl
  obtain ⟨c9_2_0, lt9_2, y9_2, -⟩ := hO.k1 2 rfl
  obtain ⟨c9_3_0, lt9_3, y9_3, -⟩ := hO.k1 3 rfl
  obtain ⟨c9_4_0, lt9_4, y9_4, -⟩ := hO.k1 4 rfl
  obtain ⟨c9_5_0, lt9_5, y9_5, -⟩ := hO.k1 5 rfl
  obtain ⟨c9_6_0, lt9_6, y9_6, -⟩ := hO.k1 6 rfl
  obtain ⟨c9_8_0, c9_8_1, lt9_8, y9_8, -⟩ := hO.k2 8 rfl
  obtain ⟨c9_9_0, c9_9_1, c9_9_2, c9_9_3, c9_9_4, lt9_9, y9_9, -⟩ := hO.k5 9 rfl
  obtain ⟨c9_11_0, c9_11_1, c9_11_2, c9_11_3, c9_11_4, lt9_11, y9_11, -⟩ := hO.k5 11 rfl
  have HO := Lib.hid hO
  clear hO
  go_wp2_with (first | (with_reducible refine Own.stay (fn := Tryz.f45) ?_) | fail)
  try with_reducible refine Own.Stay.mk ?_
  have hO := HO.out
  clear HO c9_0_0 lt9_0 y9_0 c9_1_0 lt9_1 y9_1 c9_2_0 lt9_2 y9_2 c9_3_0 lt9_3 y9_3 c9_4_0 lt9_4 y9_4 c9_5_0 lt9_5 y9_5 c9_6_0 lt9_6 y9_6 c9_8_0 c9_8_1 lt9_8 y9_8 c9_9_0 c9_9_1 c9_9_2 c9_9_3 c9_9_4 lt9_9 y9_9 c9_11_0 c9_11_1 c9_11_2 c9_11_3 c9_11_4 lt9_11 y9_11
  generalize hW : World.alloc _ _ = W2
  have hN : Own w0 W2 [row (w.heap.size + 1) 29 #[.iface 56 (.pointer (some ⟨vi, 0, none⟩)), .int .i32 li], row (w.heap.size) 29 #[.iface 205 (.pointer (some ⟨ab, 0, none⟩)), .int .i32 lo], row (xm) 246 #[.map (some mb)], row (xs) 254 #[.func (Fn.func 43) #[] #[.pointer (some ⟨xp, 0, none⟩), .pointer (some ⟨xd, 0, none⟩), .pointer (some ⟨xa, 0, none⟩), .pointer (some ⟨xv, 0, none⟩)]], row (xv) 247 #[.func (Fn.func 45) #[] #[.pointer (some ⟨xm, 0, none⟩), .pointer (some ⟨xs, 0, none⟩), .pointer (some ⟨xr, 0, none⟩), .pointer (some ⟨xp, 0, none⟩), .pointer (some ⟨xo, 0, none⟩), .pointer (some ⟨xa, 0, none⟩)]], row (xp) 22 #[.pointer (some ⟨pb, 0, none⟩)], row (xd) 214 #[.int .u8 0], row (xa) 210 #[.func (Fn.func 25) #[] #[.pointer (some ⟨eb, 0, none⟩)]], row (xr) 251 #[.func (Fn.func 42) #[] #[.pointer (some ⟨xc, 0, none⟩), .pointer (some ⟨xa, 0, none⟩), .pointer (some ⟨xp, 0, none⟩)]], ((mb, .map (imA [(202, ob), (205, ab)]) 2) : Rw), row (eb) 29 #[.nilIface, .int .i32 wa], row (ab) 207 #[.slice (some ⟨ib, 0, none⟩) (mm + 1 + tt) (mm + 1 + tt + ci), .int .i32 0, .int .i32 0, .bool false, .bool false], row (ib) 29 (full exZ IL ci), row (ob) 204 #[.slice (some ⟨pr, 0, none⟩) 1 (1 + cp), .int .i32 0, .int .i32 0, .bool false, .bool false], row (pr) 52 (full prZ [.pointer none, .nilIface, .int .i32 0, .iface 56 (.pointer (some ⟨vb, 0, none⟩)), .int .i32 0, .nilIface, .int .i32 0, .slice none 0 0, .int .i32 0, .int .i32 0, .int .u8 5, .int .u8 0] cp), row (pb) 182 PC, row (sb) 201 (full symZ (symL st) c), ((mp, .map es k) : Rw), row (ms) 194 MC] X := by
    rw [← hW]
    exact ((hO).alloc' _ (w.heap.size) (by simp)).alloc' _ (w.heap.size + 1) (by simp)
  clear hW hO
  generalize w.heap.size + 1 = B1_1 at hN ⊢
  generalize w.heap.size = B1 at hN ⊢
  have hO := hN
  clear hN
  go_loopg [32] (mm + 1 + tt) (fun gf s32 wx => ∃ j : Nat, j ≤ mm ∧ j + gf = mm + 1 + tt ∧ s32 = .int .i64 (j : Int) ∧ Own w0 wx [row (B1_1) 29 #[.iface 56 (.pointer (some ⟨vi, 0, none⟩)), .int .i32 li], row (B1) 29 #[.iface 205 (.pointer (some ⟨ab, 0, none⟩)), .int .i32 lo], row (xm) 246 #[.map (some mb)], row (xs) 254 #[.func (Fn.func 43) #[] #[.pointer (some ⟨xp, 0, none⟩), .pointer (some ⟨xd, 0, none⟩), .pointer (some ⟨xa, 0, none⟩), .pointer (some ⟨xv, 0, none⟩)]], row (xv) 247 #[.func (Fn.func 45) #[] #[.pointer (some ⟨xm, 0, none⟩), .pointer (some ⟨xs, 0, none⟩), .pointer (some ⟨xr, 0, none⟩), .pointer (some ⟨xp, 0, none⟩), .pointer (some ⟨xo, 0, none⟩), .pointer (some ⟨xa, 0, none⟩)]], row (xp) 22 #[.pointer (some ⟨pb, 0, none⟩)], row (xd) 214 #[.int .u8 0], row (xa) 210 #[.func (Fn.func 25) #[] #[.pointer (some ⟨eb, 0, none⟩)]], row (xr) 251 #[.func (Fn.func 42) #[] #[.pointer (some ⟨xc, 0, none⟩), .pointer (some ⟨xa, 0, none⟩), .pointer (some ⟨xp, 0, none⟩)]], ((mb, .map (imA [(202, ob), (205, ab)]) 2) : Rw), row (eb) 29 #[.nilIface, .int .i32 wa], row (ab) 207 #[.slice (some ⟨ib, 0, none⟩) (mm + 1 + tt) (mm + 1 + tt + ci), .int .i32 0, .int .i32 0, .bool false, .bool false], row (ib) 29 (full exZ IL ci), row (ob) 204 #[.slice (some ⟨pr, 0, none⟩) 1 (1 + cp), .int .i32 0, .int .i32 0, .bool false, .bool false], row (pr) 52 (full prZ [.pointer none, .nilIface, .int .i32 0, .iface 56 (.pointer (some ⟨vb, 0, none⟩)), .int .i32 0, .nilIface, .int .i32 0, .slice none 0 0, .int .i32 0, .int .i32 0, .int .u8 5, .int .u8 0] cp), row (pb) 182 PC, row (sb) 201 (full symZ (symL st) c), ((mp, .map es k) : Rw), row (ms) 194 MC] X)
  case atStart => exact ⟨0, by omega, by omega, rfl, hO⟩
  obtain ⟨j, hjm, hjn, rfl, hO⟩ := hrel
  obtain ⟨gq, rfl⟩ : ∃ gq, gk = gq + 1 := ⟨gk - 1, by omega⟩
  by_cases him : j = mm
  · skip
    obtain rfl : mm = j := him.symm
    have hlt9 : (mm : Int) < (mm : Int) + 1 + (tt : Int) := by omega
    have hj8 : (0 : Int) ≤ (mm : Int) := by omega
    have hj7 : (mm : Int) ≤ 8193 := by omega
    obtain ⟨ix9, hix9, hax9, hjx9⟩ := hO.ix
    have ix9_0 : ix9 B1_1 = 0 := hjx9 0 _ _ rfl
    have ix9_1 : ix9 B1 = 1 := hjx9 1 _ _ rfl
    have ix9_2 : ix9 xm = 2 := hjx9 2 _ _ rfl
    have ix9_3 : ix9 xs = 3 := hjx9 3 _ _ rfl
    have ix9_4 : ix9 xv = 4 := hjx9 4 _ _ rfl
    have ix9_5 : ix9 xp = 5 := hjx9 5 _ _ rfl
    have ix9_6 : ix9 xd = 6 := hjx9 6 _ _ rfl
    have ix9_7 : ix9 xa = 7 := hjx9 7 _ _ rfl
    have ix9_8 : ix9 xr = 8 := hjx9 8 _ _ rfl
    have ix9_9 : ix9 mb = 9 := hjx9 9 _ _ rfl
    have ix9_10 : ix9 eb = 10 := hjx9 10 _ _ rfl
    have ix9_11 : ix9 ab = 11 := hjx9 11 _ _ rfl
    have ix9_12 : ix9 ib = 12 := hjx9 12 _ _ rfl
    have ix9_13 : ix9 ob = 13 := hjx9 13 _ _ rfl
    have ix9_14 : ix9 pr = 14 := hjx9 14 _ _ rfl
    have ix9_15 : ix9 pb = 15 := hjx9 15 _ _ rfl
    have ix9_16 : ix9 sb = 16 := hjx9 16 _ _ rfl
    have ix9_17 : ix9 mp = 17 := hjx9 17 _ _ rfl
    have ix9_18 : ix9 ms = 18 := hjx9 18 _ _ rfl
    clear hjx9
    obtain ⟨c9_0_0, c9_0_1, lt9_0, y9_0, pl9_0⟩ := hO.k2 0 rfl
    obtain ⟨c9_1_0, c9_1_1, lt9_1, y9_1, pl9_1⟩ := hO.k2 1 rfl
    obtain ⟨c9_2_0, lt9_2, y9_2, -⟩ := hO.k1 2 rfl
    obtain ⟨c9_3_0, lt9_3, y9_3, -⟩ := hO.k1 3 rfl
    obtain ⟨c9_4_0, lt9_4, y9_4, -⟩ := hO.k1 4 rfl
    obtain ⟨c9_5_0, lt9_5, y9_5, -⟩ := hO.k1 5 rfl
    obtain ⟨c9_6_0, lt9_6, y9_6, -⟩ := hO.k1 6 rfl
    obtain ⟨c9_7_0, lt9_7, y9_7, -⟩ := hO.k1 7 rfl
    obtain ⟨c9_8_0, lt9_8, y9_8, -⟩ := hO.k1 8 rfl
    obtain ⟨c9_10_0, c9_10_1, lt9_10, y9_10, pl9_10⟩ := hO.k2 10 rfl
    obtain ⟨c9_11_0, c9_11_1, c9_11_2, c9_11_3, c9_11_4, lt9_11, y9_11, -⟩ := hO.k5 11 rfl
    have pl9_12 : Base.plainAt wr (ib) = true := hO.plain 12 rfl
    have c9_12_mm_2 : wr.cell? ⟨ib, mm * 2, none⟩ = some (.iface 202 (.pointer (some ⟨ob, 0, none⟩))) := hO.cell 12 rfl (mm * 2) ((full_at HI.out.a0))
    have c9_12_mm_2_1 : wr.cell? ⟨ib, mm * 2 + 1, none⟩ = some (.int .i32 0) := hO.cell 12 rfl (mm * 2 + 1) ((full_at HI.out.a1))
    have lt9_12 : ib < wr.heap.size := hO.lt 12 rfl
    have y9_12 : ∀ o, wr.frozen? ⟨ib, o, none⟩ = false := hO.free 12 rfl
    obtain ⟨c9_13_0, c9_13_1, c9_13_2, c9_13_3, c9_13_4, lt9_13, y9_13, -⟩ := hO.k5 13 rfl
    have c9_14_0 : wr.cell? ⟨pr, 0, none⟩ = some (.pointer none) := hO.cell 14 rfl (0) ((full_at rfl))
    have c9_14_1 : wr.cell? ⟨pr, 1, none⟩ = some (.nilIface) := hO.cell 14 rfl (1) ((full_at rfl))
    have c9_14_2 : wr.cell? ⟨pr, 2, none⟩ = some (.int .i32 0) := hO.cell 14 rfl (2) ((full_at rfl))
    have c9_14_3 : wr.cell? ⟨pr, 3, none⟩ = some (.iface 56 (.pointer (some ⟨vb, 0, none⟩))) := hO.cell 14 rfl (3) ((full_at rfl))
    have c9_14_4 : wr.cell? ⟨pr, 4, none⟩ = some (.int .i32 0) := hO.cell 14 rfl (4) ((full_at rfl))
    have c9_14_5 : wr.cell? ⟨pr, 5, none⟩ = some (.nilIface) := hO.cell 14 rfl (5) ((full_at rfl))
    have c9_14_6 : wr.cell? ⟨pr, 6, none⟩ = some (.int .i32 0) := hO.cell 14 rfl (6) ((full_at rfl))
    have c9_14_7 : wr.cell? ⟨pr, 7, none⟩ = some (.slice none 0 0) := hO.cell 14 rfl (7) ((full_at rfl))
    have c9_14_8 : wr.cell? ⟨pr, 8, none⟩ = some (.int .i32 0) := hO.cell 14 rfl (8) ((full_at rfl))
    have c9_14_9 : wr.cell? ⟨pr, 9, none⟩ = some (.int .i32 0) := hO.cell 14 rfl (9) ((full_at rfl))
    have c9_14_10 : wr.cell? ⟨pr, 10, none⟩ = some (.int .u8 5) := hO.cell 14 rfl (10) ((full_at rfl))
    have c9_14_11 : wr.cell? ⟨pr, 11, none⟩ = some (.int .u8 0) := hO.cell 14 rfl (11) ((full_at rfl))
    have lt9_14 : pr < wr.heap.size := hO.lt 14 rfl
    have y9_14 : ∀ o, wr.frozen? ⟨pr, o, none⟩ = false := hO.free 14 rfl
    have c9_15_32 : wr.cell? ⟨pb, 32, none⟩ = some (.bool false) := hO.cell 15 rfl (32) (hk32)
    have c9_15_66 : wr.cell? ⟨pb, 66, none⟩ = some (.int .u32 src) := hO.cell 15 rfl (66) (hk66)
    have c9_15_104 : wr.cell? ⟨pb, 104, none⟩ = some (.pointer (some ⟨ms, 0, none⟩)) := hO.cell 15 rfl (104) (hk104)
    have c9_15_105 : wr.cell? ⟨pb, 105, none⟩ = some (.pointer none) := hO.cell 15 rfl (105) (hk105)
    have c9_15_106 : wr.cell? ⟨pb, 106, none⟩ = some (.slice (some ⟨sb, 0, none⟩) n (n + c)) := hO.cell 15 rfl (106) (hk106)
    have c9_15_117 : wr.cell? ⟨pb, 117, none⟩ = some (.map (some mp)) := hO.cell 15 rfl (117) (hk117)
    have c9_15_187 : wr.cell? ⟨pb, 187, none⟩ = some (.pointer (some ⟨ms, 0, none⟩)) := hO.cell 15 rfl (187) (hk187)
    have c9_15_199 : wr.cell? ⟨pb, 199, none⟩ = some (.slice none 0 0) := hO.cell 15 rfl (199) (hk199)
    have c9_15_287 : wr.cell? ⟨pb, 287, none⟩ = some (.int .i64 (i : Int)) := hO.cell 15 rfl (287) (hk287)
    have c9_15_350 : wr.cell? ⟨pb, 350, none⟩ = some (.bool false) := hO.cell 15 rfl (350) (hk350)
    have lt9_15 : pb < wr.heap.size := hO.lt 15 rfl
    have y9_15 : ∀ o, wr.frozen? ⟨pb, o, none⟩ = false := hO.free 15 rfl
    have c9_18_5 : wr.cell? ⟨ms, 5, none⟩ = some (.slice none 0 0) := hO.cell 18 rfl (5) (hgen)
    have c9_18_15 : wr.cell? ⟨ms, 15, none⟩ = some (.int .u8 6) := hO.cell 18 rfl (15) (hkind)
    have lt9_18 : ms < wr.heap.size := hO.lt 18 rfl
    have y9_18 : ∀ o, wr.frozen? ⟨ms, o, none⟩ = false := hO.free 18 rfl
    have HO := Lib.hid hO
    clear hO
    go_wp2_with (first | (with_reducible refine Own.stay (fn := Tryz.f45) ?_) | (at_lookup; refine wpList_lookup_im_yes (l := []) (ty := 202) (b := ob) (l2 := [(205, ab)]) rfl rfl Tryz.underlying246 ktO (Base.MapAt.alloc (HO.out.mapAt 9 rfl) _) rfl rfl rfl ?_))
    try with_reducible refine Own.Stay.mk ?_
    have hO := HO.out
    clear HO hix9 hax9 ix9_0 ix9_1 ix9_2 ix9_3 ix9_4 ix9_5 ix9_6 ix9_7 ix9_8 ix9_9 ix9_10 ix9_11 ix9_12 ix9_13 ix9_14 ix9_15 ix9_16 ix9_17 ix9_18 ix9 c9_0_0 c9_0_1 lt9_0 y9_0 pl9_0 c9_1_0 c9_1_1 lt9_1 y9_1 pl9_1 c9_2_0 lt9_2 y9_2 c9_3_0 lt9_3 y9_3 c9_4_0 lt9_4 y9_4 c9_5_0 lt9_5 y9_5 c9_6_0 lt9_6 y9_6 c9_7_0 lt9_7 y9_7 c9_8_0 lt9_8 y9_8 c9_10_0 c9_10_1 lt9_10 y9_10 pl9_10 c9_11_0 c9_11_1 c9_11_2 c9_11_3 c9_11_4 lt9_11 y9_11 pl9_12 c9_12_mm_2 c9_12_mm_2_1 lt9_12 y9_12 c9_13_0 c9_13_1 c9_13_2 c9_13_3 c9_13_4 lt9_13 y9_13 c9_14_0 c9_14_1 c9_14_2 c9_14_3 c9_14_4 c9_14_5 c9_14_6 c9_14_7 c9_14_8 c9_14_9 c9_14_10 c9_14_11 lt9_14 y9_14 c9_15_32 c9_15_66 c9_15_104 c9_15_105 c9_15_106 c9_15_117 c9_15_187 c9_15_199 c9_15_287 c9_15_350 lt9_15 y9_15 c9_18_5 c9_18_15 lt9_18 y9_18
    generalize hW : World.alloc _ _ = W4
    have hN : Own w0 W4 [row (wr.heap.size) 29 #[.iface 202 (.pointer (some ⟨ob, 0, none⟩)), .int .i32 0], row (B1_1) 29 #[.iface 56 (.pointer (some ⟨vi, 0, none⟩)), .int .i32 li], row (B1) 29 #[.iface 205 (.pointer (some ⟨ab, 0, none⟩)), .int .i32 lo], row (xm) 246 #[.map (some mb)], row (xs) 254 #[.func (Fn.func 43) #[] #[.pointer (some ⟨xp, 0, none⟩), .pointer (some ⟨xd, 0, none⟩), .pointer (some ⟨xa, 0, none⟩), .pointer (some ⟨xv, 0, none⟩)]], row (xv) 247 #[.func (Fn.func 45) #[] #[.pointer (some ⟨xm, 0, none⟩), .pointer (some ⟨xs, 0, none⟩), .pointer (some ⟨xr, 0, none⟩), .pointer (some ⟨xp, 0, none⟩), .pointer (some ⟨xo, 0, none⟩), .pointer (some ⟨xa, 0, none⟩)]], row (xp) 22 #[.pointer (some ⟨pb, 0, none⟩)], row (xd) 214 #[.int .u8 0], row (xa) 210 #[.func (Fn.func 25) #[] #[.pointer (some ⟨eb, 0, none⟩)]], row (xr) 251 #[.func (Fn.func 42) #[] #[.pointer (some ⟨xc, 0, none⟩), .pointer (some ⟨xa, 0, none⟩), .pointer (some ⟨xp, 0, none⟩)]], ((mb, .map (imA [(202, ob), (205, ab)]) 2) : Rw), row (eb) 29 #[.nilIface, .int .i32 wa], row (ab) 207 #[.slice (some ⟨ib, 0, none⟩) (mm + 1 + tt) (mm + 1 + tt + ci), .int .i32 0, .int .i32 0, .bool false, .bool false], row (ib) 29 (full exZ IL ci), row (ob) 204 #[.slice (some ⟨pr, 0, none⟩) 1 (1 + cp), .int .i32 0, .int .i32 0, .bool false, .bool false], row (pr) 52 (full prZ [.pointer none, .nilIface, .int .i32 0, .iface 56 (.pointer (some ⟨vb, 0, none⟩)), .int .i32 0, .nilIface, .int .i32 0, .slice none 0 0, .int .i32 0, .int .i32 0, .int .u8 5, .int .u8 0] cp), row (pb) 182 PC, row (sb) 201 (full symZ (symL st) c), ((mp, .map es k) : Rw), row (ms) 194 MC] X := by
      rw [← hW]
      exact (hO).alloc' _ (wr.heap.size) (by simp)
    clear hW hO
    generalize wr.heap.size = B3 at hN ⊢
    have hO := hN
    clear hN
    have st9 := rVA_st pb PC sb c st n src i mp es k ms MC ab ib ci IL mm tt ob pr cp vb xp xd xa xv xm xs xr xo xc eb mb wa lo vi li B1_1 B1 B3
    let R9 := rVAR pb PC sb c st n src i mp es k ms MC ab ib ci IL mm tt ob pr cp vb xp xd xa xv xm xs xr xo xc eb mb wa lo vi li B1_1 B1 B3
    refine wp_region_own (e := rVAE pb PC sb c st n src i mp es k ms MC ab ib ci IL mm tt ob pr cp vb xp xd xa xv xm xs xr xo xc eb mb wa lo vi li B1_1 B1 B3) (anc := rVAAnc) (G := (fun L9 α u9 => OwnF w0 u9 (act rVACnt 20 L9) (rVAR pb PC sb c st n src i mp es k ms MC ab ib ci IL mm tt ob pr cp vb xp xd xa xv xm xs xr xo xc eb mb wa lo vi li B1_1 B1 B3 L9 α) X)) (by kernel_rfl) (by kernel_rfl) (by kernel_rfl) (by kernel_rfl) (rVA_he pb PC sb c st n src i mp es k ms MC ab ib ci IL mm tt ob pr cp vb xp xd xa xv xm xs xr xo xc eb mb wa lo vi li B1_1 B1 B3) ?_ (RunsAll.all ?_) ?_
    · have hp : ∀ i, act rVACnt 20 (fun _ => false) i → i ∈ [999, 1999, 2999, 3999, 4999, 5999, 6999, 7999, 8999, 9999, 10999, 11999, 12999, 13999, 14999, 15999, 16999, 17999, 18999, 19999] := by
        intro i hi
        have h9 : i % 1000 = 999 := by
          by_cases h : i % 1000 = 999
          · exact h
          · exact absurd (act_lt hi h) (by simp)
        unfold act at hi
        rw [if_pos h9] at hi
        simp only [List.mem_cons, List.not_mem_nil, or_false]
        omega
      refine hO.drew.family (fun i hi => ?_) (fun i j hi hj hij => ?_)
      · have := hp i hi
        simp only [List.mem_cons, List.not_mem_nil, or_false] at this
        rcases this with rfl | rfl | rfl | rfl | rfl | rfl | rfl | rfl | rfl | rfl | rfl | rfl | rfl | rfl | rfl | rfl | rfl | rfl | rfl | rfl <;> rfl
      · have h1 := hp i hi
        have h2 := hp j hj
        simp only [List.mem_cons, List.not_mem_nil, or_false] at h1 h2
        omega
    · refine ⟨?_, ?_, ?_, ?_, ?_, ?_, ?_, ?_, ?_, ?_, ?_, ?_, ?_, ?_, ?_, ?_, ?_, ?_, ?_, ?_, ?_, ?_, ?_, trivial⟩
      · intro L9 α a9 u9 K9 hL hcl hA hG hS h0 h1 hK
        replace hL : L9 0 = false := hL
        have q4 : a9.tmps[4]? = some (.pointer (some ⟨xs, 0, none⟩)) := (h0 4 (by kernel_rfl)).trans rfl
        have s4 := Rega.eval_of q4
        have e0 : R9 L9 α 4999 = row (xs) 254 #[.func (Fn.func 43) #[] #[.pointer (some ⟨xp, 0, none⟩), .pointer (some ⟨xd, 0, none⟩), .pointer (some ⟨xa, 0, none⟩), .pointer (some ⟨xv, 0, none⟩)]] := rfl
        have hr := hG.rowAt 4999 (act_base 4999 rfl) e0
        have c0 : u9.cell? ⟨xs, 0, none⟩ = some (.func (Fn.func 43) #[] #[.pointer (some ⟨xp, 0, none⟩), .pointer (some ⟨xd, 0, none⟩), .pointer (some ⟨xa, 0, none⟩), .pointer (some ⟨xv, 0, none⟩)]) := hr.cell rfl
        clear hr e0
        go_simp
        exact hK _ α _ (fun _ _ => rfl) rfl (step_same (st9) hL hcl rfl rfl hG)
      · intro L9 α a9 u9 K9 hL hcl hA hG hS h0 h1 hK
        replace hL : L9 1 = false := hL
        have q12 : a9.tmps[12]? = some (.pointer (some ⟨ab, 0, none⟩)) := (h0 12 (by kernel_rfl)).trans rfl
        have s12 := Rega.eval_of q12
        go_simp
        exact hK _ α _ (fun _ _ => rfl) rfl (step_same (st9) hL hcl rfl rfl hG)
      · intro L9 α a9 u9 K9 hL hcl hA hG hS h0 h1 hK
        replace hL : L9 2 = false := hL
        have q42 : a9.tmps[42]? = some (.pointer (some ⟨ab, 0, none⟩)) := hS 1 42 (by decide) rfl (by show 42 < 176; decide)
        have s42 := Rega.eval_of q42
        go_simp
        exact hK _ α _ (fun _ _ => rfl) rfl (step_same (st9) hL hcl rfl rfl hG)
      · intro L9 α a9 u9 K9 hL hcl hA hG hS h0 h1 hK
        replace hL : L9 3 = false := hL
        have q43 : a9.tmps[43]? = some (.pointer (some ⟨ab, 0, none⟩)) := hS 2 43 (by decide) rfl (by show 43 < 176; decide)
        have s43 := Rega.eval_of q43
        go_simp
        exact hK _ α _ (fun _ _ => rfl) rfl (step_same (st9) hL hcl rfl rfl hG)
      · intro L9 α a9 u9 K9 hL hcl hA hG hS h0 h1 hK
        replace hL : L9 4 = false := hL
        have q44 : a9.tmps[44]? = some (.pointer (some ⟨ab, 0, none⟩)) := hS 3 44 (by decide) rfl (by show 44 < 176; decide)
        have s44 := Rega.eval_of q44
        have e0 : R9 L9 α 12999 = row (ab) 207 #[.slice (some ⟨ib, 0, none⟩) (mm + 1 + tt) (mm + 1 + tt + ci), .int .i32 0, .int .i32 0, .bool false, .bool false] := rfl
        have hr := hG.rowAt 12999 (act_base 12999 rfl) e0
        have c0 : u9.cell? ⟨ab, 0, none⟩ = some (.slice (some ⟨ib, 0, none⟩) (mm + 1 + tt) (mm + 1 + tt + ci)) := hr.cell rfl
        clear hr e0
        go_simp
        exact hK _ α _ (fun _ _ => rfl) rfl (step_same (st9) hL hcl rfl rfl hG)
      · intro L9 α a9 u9 K9 hL hcl hA hG hS h0 h1 hK
        replace hL : L9 5 = false := hL
        have q13 : a9.tmps[13]? = some (.int .i64 (mm : Int)) := (h0 13 (by kernel_rfl)).trans rfl
        have s13 := Rega.eval_of q13
        go_simp
        exact hK _ α _ (fun _ _ => rfl) rfl (step_same (st9) hL hcl rfl rfl hG)
      · intro L9 α a9 u9 K9 hL hcl hA hG hS h0 h1 hK
        replace hL : L9 6 = false := hL
        have q45 : a9.tmps[45]? = some (.slice (some ⟨ib, 0, none⟩) (mm + 1 + tt) (mm + 1 + tt + ci)) := hS 4 45 (by decide) rfl (by show 45 < 176; decide)
        have s45 := Rega.eval_of q45
        have q46 : a9.tmps[46]? = some (.int .i64 (mm : Int)) := hS 5 46 (by decide) rfl (by show 46 < 176; decide)
        have s46 := Rega.eval_of q46
        simp only [Region.wanted, if_true]
        refine wp_slice 45 (Operand.tmp 45) none (some (Operand.tmp 46)) none rfl (.slice (some ⟨ib, 0, none⟩) mm (mm + 1 + tt + ci)) (by kernel_rfl) (by simp only [Option.map, Act.eval, s45, s46]; exact run_slice_to u9 (s := 2) (by kernel_rfl) (by kernel_rfl) (i := mm) (by omega)) ?_
        exact hK _ α _ (fun _ _ => rfl) rfl (step_same (st9) hL hcl rfl rfl hG)
      · intro L9 α a9 u9 K9 hL hcl hA hG hS h0 h1 hK
        replace hL : L9 7 = false := hL
        have q14 : a9.tmps[14]? = some (.pointer (some ⟨B3, 0, none⟩)) := (h0 14 (by kernel_rfl)).trans rfl
        have s14 := Rega.eval_of q14
        have e0 : R9 L9 α 999 = row (B3) 29 #[.iface 202 (.pointer (some ⟨ob, 0, none⟩)), .int .i32 0] := rfl
        have hr := hG.rowAt 999 (act_base 999 rfl) e0
        have c0 : u9.cell? ⟨B3, 0, none⟩ = some (.iface 202 (.pointer (some ⟨ob, 0, none⟩))) := hr.cell rfl
        have c1 : u9.cell? ⟨B3, 1, none⟩ = some (.int .i32 0) := hr.cell rfl
        clear hr e0
        go_simp
        exact hK _ α _ (fun _ _ => rfl) rfl (step_same (st9) hL hcl rfl rfl hG)
      · intro L9 α a9 u9 K9 hL hcl hA hG hS h0 h1 hK
        replace hL : L9 8 = false := hL
        go_simp
        have e1 : R9 (Rega.ran L9 8) (fun j => if j = 8 then u9.heap.size else α j) 8 = row (u9.heap.size) 29 #[] := by
          show rVAT8 pb PC sb c st n src i mp es k ms MC ab ib ci IL mm tt ob pr cp vb xp xd xa xv xm xs xr xo xc eb mb wa lo vi li B1_1 B1 B3 (Rega.ran L9 8) (fun j => if j = 8 then u9.heap.size else α j) = _
          unfold rVAT8
          exact ((if_neg (fun e => (fun e => by have := hcl 16 e 8 (by decide); rw [hL] at this; cases this) ((ran_ne (by decide)).symm.trans e))).trans rfl)
        exact hK _ (fun j => if j = 8 then u9.heap.size else α j) _ (fun j hj => if_neg (fun e => hj (by rw [e]))) rfl (step_alloc (st9) hL hcl rfl rfl (by decide) _ e1 hG)
      · intro L9 α a9 u9 K9 hL hcl hA hG hS h0 h1 hK
        replace hL : L9 9 = false := hL
        have q12 : a9.tmps[12]? = some (.pointer (some ⟨ab, 0, none⟩)) := (h0 12 (by kernel_rfl)).trans rfl
        have s12 := Rega.eval_of q12
        go_simp
        exact hK _ α _ (fun _ _ => rfl) rfl (step_same (st9) hL hcl rfl rfl hG)
      · intro L9 α a9 u9 K9 hL hcl hA hG hS h0 h1 hK
        replace hL : L9 10 = false := hL
        have q50 : a9.tmps[50]? = some (.pointer (some ⟨ab, 0, none⟩)) := hS 9 50 (by decide) rfl (by show 50 < 176; decide)
        have s50 := Rega.eval_of q50
        go_simp
        exact hK _ α _ (fun _ _ => rfl) rfl (step_same (st9) hL hcl rfl rfl hG)
      · intro L9 α a9 u9 K9 hL hcl hA hG hS h0 h1 hK
        replace hL : L9 11 = false := hL
        have q51 : a9.tmps[51]? = some (.pointer (some ⟨ab, 0, none⟩)) := hS 10 51 (by decide) rfl (by show 51 < 176; decide)
        have s51 := Rega.eval_of q51
        go_simp
        exact hK _ α _ (fun _ _ => rfl) rfl (step_same (st9) hL hcl rfl rfl hG)
      · intro L9 α a9 u9 K9 hL hcl hA hG hS h0 h1 hK
        replace hL : L9 12 = false := hL
        have q52 : a9.tmps[52]? = some (.pointer (some ⟨ab, 0, none⟩)) := hS 11 52 (by decide) rfl (by show 52 < 176; decide)
        have s52 := Rega.eval_of q52
        have e0 : R9 L9 α 12999 = row (ab) 207 #[.slice (some ⟨ib, 0, none⟩) (mm + 1 + tt) (mm + 1 + tt + ci), .int .i32 0, .int .i32 0, .bool false, .bool false] := rfl
        have hr := hG.rowAt 12999 (act_base 12999 rfl) e0
        have c0 : u9.cell? ⟨ab, 0, none⟩ = some (.slice (some ⟨ib, 0, none⟩) (mm + 1 + tt) (mm + 1 + tt + ci)) := hr.cell rfl
        clear hr e0
        go_simp
        exact hK _ α _ (fun _ _ => rfl) rfl (step_same (st9) hL hcl rfl rfl hG)
      · intro L9 α a9 u9 K9 hL hcl hA hG hS h0 h1 hK
        replace hL : L9 13 = false := hL
        have q13 : a9.tmps[13]? = some (.int .i64 (mm : Int)) := (h0 13 (by kernel_rfl)).trans rfl
        have s13 := Rega.eval_of q13
        go_simp
        exact hK _ α _ (fun _ _ => rfl) rfl (step_same (st9) hL hcl rfl rfl hG)
      · intro L9 α a9 u9 K9 hL hcl hA hG hS h0 h1 hK
        replace hL : L9 14 = false := hL
        have q54 : a9.tmps[54]? = some (.int .i64 (mm : Int)) := hS 13 54 (by decide) rfl (by show 54 < 176; decide)
        have s54 := Rega.eval_of q54
        have hwr9 : IntKind.i64.wrap ((mm : Int) + 1) = ((mm : Int) + 1) := by rw [IntKind.wrap_i64]; omega
        go_simp
        exact hK _ α _ (fun _ _ => rfl) rfl (step_same (st9) hL hcl rfl rfl hG)
      · intro L9 α a9 u9 K9 hL hcl hA hG hS h0 h1 hK
        replace hL : L9 15 = false := hL
        have q53 : a9.tmps[53]? = some (.slice (some ⟨ib, 0, none⟩) (mm + 1 + tt) (mm + 1 + tt + ci)) := hS 12 53 (by decide) rfl (by show 53 < 176; decide)
        have s53 := Rega.eval_of q53
        have q55 : a9.tmps[55]? = some (.int .i64 ((mm : Int) + 1)) := hS 14 55 (by decide) rfl (by show 55 < 176; decide)
        have s55 := Rega.eval_of q55
        simp only [Region.wanted, if_true]
        refine wp_slice 45 (Operand.tmp 53) (some (Operand.tmp 55)) none none rfl (.slice (some (aft ib (mm + 1) (mm + 1 + tt + ci) 2)) tt (tt + ci)) (by kernel_rfl) (by simp only [Option.map, Act.eval, s53, s55]; exact run_slice_from u9 (s := 2) (by kernel_rfl) (by kernel_rfl) (i := mm + 1) (by omega) (by omega) (by omega) (by omega)) ?_
        exact hK _ α _ (fun _ _ => rfl) rfl (step_same (st9) hL hcl rfl rfl hG)
      · intro L9 α a9 u9 K9 hL hcl hA hG hS h0 h1 hK
        replace hL : L9 16 = false := hL
        have q49 : a9.tmps[49]? = some (.slice (some ⟨α 8, 0, none⟩) 0 0) := hS 8 49 (by decide) rfl (by show 49 < 176; decide)
        have s49 := Rega.eval_of q49
        have q56 : a9.tmps[56]? = some (.slice (some (aft ib (mm + 1) (mm + 1 + tt + ci) 2)) tt (tt + ci)) := hS 15 56 (by decide) rfl (by show 56 < 176; decide)
        have s56 := Rega.eval_of q56
        simp only [Region.wanted, if_true]
        have e0 : R9 L9 α 8 = row (α 8) 29 #[] := by
          show rVAT8 pb PC sb c st n src i mp es k ms MC ab ib ci IL mm tt ob pr cp vb xp xd xa xv xm xs xr xo xc eb mb wa lo vi li B1_1 B1 B3 L9 α = _
          unfold rVAT8
          rw [if_neg (by rw [hL]; decide)]
        have e1 : R9 L9 α 13999 = row (ib) 29 (full exZ IL ci) := by
          show rVAT13999 pb PC sb c st n src i mp es k ms MC ab ib ci IL mm tt ob pr cp vb xp xd xa xv xm xs xr xo xc eb mb wa lo vi li B1_1 B1 B3 L9 α = _
          unfold rVAT13999
          rw [if_neg (fun e => by have := hcl 22 e 16 (by decide); rw [hL] at this; cases this)]
        have hM : ∀ i, i ∈ [8, 13999] → act rVACnt 20 L9 i := by
          intro i hi
          simp only [List.mem_cons, List.not_mem_nil, or_false] at hi
          rcases hi with rfl | rfl
          · exact act_new 8 rfl (hA 8 (by decide))
          · exact act_base 13999 rfl
        have hP : Own w0 u9 [row (α 8) 29 (full exZ [] 0), row (ib) 29 (full exZ IL ci)] _ := (hG.pick [8, 13999] (by decide) hM).conv (by
          show [R9 L9 α 8, R9 L9 α 13999] = _
          rw [e0, e1, Own.full_nil])
        clear e0 e1 hM
        obtain ⟨i9, hi9, z1, z2, z3⟩ := info_parts infoEx
        refine wp_append_part0 (Operand.tmp 49) (Operand.tmp 56) 45 rfl 29 i9 (.agg exZ) 2 24 Tryz.underlying45 hi9 z1 z2 z3 rfl (by decide) hP s49 s56 (HI.out.drop.2) (aft_at HI.out.len (by omega)) (HI.out.drop.1.one HI.out.drop.2) (by first | decide | omega | (unfold maxLen; omega)) (by first | decide | omega | (unfold maxLen; omega)) ?_
        intro b0 b1 u1 hQ
        obtain ⟨α', hα'⟩ : ∃ α' : Rega.Atoms, α' = (fun j => if j = 16 then b0 else if j = 1016 then b1 else α j) := ⟨_, rfl⟩
        have f0 : R9 (Rega.ran L9 16) α' 8 = row (α' 16) 29 (full exZ (IL.drop ((mm + 1) * 2)) (α' 1016)) := by
          show rVAT8 pb PC sb c st n src i mp es k ms MC ab ib ci IL mm tt ob pr cp vb xp xd xa xv xm xs xr xo xc eb mb wa lo vi li B1_1 B1 B3 (Rega.ran L9 16) α' = _
          unfold rVAT8
          rw [if_pos (show Rega.ran L9 16 16 = true from rfl)]
        have f1 : R9 (Rega.ran L9 16) α' 13999 = row (ib) 29 (full exZ IL ci) := by
          show rVAT13999 pb PC sb c st n src i mp es k ms MC ab ib ci IL mm tt ob pr cp vb xp xd xa xv xm xs xr xo xc eb mb wa lo vi li B1_1 B1 B3 (Rega.ran L9 16) α' = _
          unfold rVAT13999
          rw [if_neg (fun e => (fun e => by have := hcl 22 e 16 (by decide); rw [hL] at this; cases this) ((ran_ne (by decide)).symm.trans e))]
        have hα : ∀ j, j % 1000 ≠ 16 → α' j = α j := fun j hj => by rw [hα']; simp only []; rw [if_neg (by omega), if_neg (by omega)]
        have hb0 : α' 16 = b0 := by rw [hα']; rfl
        have hb1 : α' 1016 = b1 := by rw [hα']; rfl
        refine hK _ α' _ hα ?_ (step_call (st9) hL hcl hα [8, 13999] [8, 13999] (by decide) (by decide) (by decide) (M := _) ?_ hG hQ)
        · show _ = (.slice (some ⟨α' 16, 0, none⟩) tt (tt + (α' 1016)) : Value)
          simp only [hb0, hb1]
        · show [R9 (Rega.ran L9 16) α' 8, R9 (Rega.ran L9 16) α' 13999] = _
          rw [f0, f1]
          simp only [hb0, hb1]
          try rfl
      · intro L9 α a9 u9 K9 hL hcl hA hG hS h0 h1 hK
        replace hL : L9 17 = false := hL
        have q10 : a9.tmps[10]? = some (.pointer (some ⟨B1_1, 0, none⟩)) := (h0 10 (by kernel_rfl)).trans rfl
        have s10 := Rega.eval_of q10
        have e0 : R9 L9 α 1999 = row (B1_1) 29 #[.iface 56 (.pointer (some ⟨vi, 0, none⟩)), .int .i32 li] := rfl
        have hr := hG.rowAt 1999 (act_base 1999 rfl) e0
        have c0 : u9.cell? ⟨B1_1, 0, none⟩ = some (.iface 56 (.pointer (some ⟨vi, 0, none⟩))) := hr.cell rfl
        have c1 : u9.cell? ⟨B1_1, 1, none⟩ = some (.int .i32 li) := hr.cell rfl
        clear hr e0
        go_simp
        exact hK _ α _ (fun _ _ => rfl) rfl (step_same (st9) hL hcl rfl rfl hG)
      · intro L9 α a9 u9 K9 hL hcl hA hG hS h0 h1 hK
        replace hL : L9 18 = false := hL
        have q12 : a9.tmps[12]? = some (.pointer (some ⟨ab, 0, none⟩)) := (h0 12 (by kernel_rfl)).trans rfl
        have s12 := Rega.eval_of q12
        go_simp
        exact hK _ α _ (fun _ _ => rfl) rfl (step_same (st9) hL hcl rfl rfl hG)
      · intro L9 α a9 u9 K9 hL hcl hA hG hS h0 h1 hK
        replace hL : L9 19 = false := hL
        have q59 : a9.tmps[59]? = some (.pointer (some ⟨ab, 0, none⟩)) := hS 18 59 (by decide) rfl (by show 59 < 176; decide)
        have s59 := Rega.eval_of q59
        go_simp
        exact hK _ α _ (fun _ _ => rfl) rfl (step_same (st9) hL hcl rfl rfl hG)
      · intro L9 α a9 u9 K9 hL hcl hA hG hS h0 h1 hK
        replace hL : L9 20 = false := hL
        have q60 : a9.tmps[60]? = some (.pointer (some ⟨ab, 0, none⟩)) := hS 19 60 (by decide) rfl (by show 60 < 176; decide)
        have s60 := Rega.eval_of q60
        go_simp
        exact hK _ α _ (fun _ _ => rfl) rfl (step_same (st9) hL hcl rfl rfl hG)
      · intro L9 α a9 u9 K9 hL hcl hA hG hS h0 h1 hK
        replace hL : L9 21 = false := hL
        have q61 : a9.tmps[61]? = some (.pointer (some ⟨ab, 3, none⟩)) := hS 20 61 (by decide) rfl (by show 61 < 176; decide)
        have s61 := Rega.eval_of q61
        have e0 : R9 L9 α 12999 = row (ab) 207 #[.slice (some ⟨ib, 0, none⟩) (mm + 1 + tt) (mm + 1 + tt + ci), .int .i32 0, .int .i32 0, .bool false, .bool false] := rfl
        have hr := hG.rowAt 12999 (act_base 12999 rfl) e0
        have c0 : u9.cell? ⟨ab, 3, none⟩ = some (.bool false) := hr.cell rfl
        clear hr e0
        go_simp
        exact hK _ α _ (fun _ _ => rfl) rfl (step_same (st9) hL hcl rfl rfl hG)
      · intro L9 α a9 u9 K9 hL hcl hA hG hS h0 h1 hK
        replace hL : L9 22 = false := hL
        have q41 : a9.tmps[41]? = some (.func (Fn.func 43) #[] #[.pointer (some ⟨xp, 0, none⟩), .pointer (some ⟨xd, 0, none⟩), .pointer (some ⟨xa, 0, none⟩), .pointer (some ⟨xv, 0, none⟩)]) := hS 0 41 (by decide) rfl (by show 41 < 176; decide)
        have s41 := Rega.eval_of q41
        have q47 : a9.tmps[47]? = some (.slice (some ⟨ib, 0, none⟩) mm (mm + 1 + tt + ci)) := hS 6 47 (by decide) rfl (by show 47 < 176; decide)
        have s47 := Rega.eval_of q47
        have q48 : a9.tmps[48]? = some (.agg #[.iface 202 (.pointer (some ⟨ob, 0, none⟩)), .int .i32 0]) := hS 7 48 (by decide) rfl (by show 48 < 176; decide)
        have s48 := Rega.eval_of q48
        have q57 : a9.tmps[57]? = some (.slice (some ⟨α 16, 0, none⟩) tt (tt + (α 1016))) := hS 16 57 (by decide) rfl (by show 57 < 176; decide)
        have s57 := Rega.eval_of q57
        have q58 : a9.tmps[58]? = some (.agg #[.iface 56 (.pointer (some ⟨vi, 0, none⟩)), .int .i32 li]) := hS 17 58 (by decide) rfl (by show 58 < 176; decide)
        have s58 := Rega.eval_of q58
        have q62 : a9.tmps[62]? = some (.bool false) := hS 21 62 (by decide) rfl (by show 62 < 176; decide)
        have s62 := Rega.eval_of q62
        go_simp
        have e0 : R9 L9 α 6999 = row (xp) 22 #[.pointer (some ⟨pb, 0, none⟩)] := rfl
        have e1 : R9 L9 α 7999 = row (xd) 214 #[.int .u8 0] := rfl
        have e2 : R9 L9 α 8999 = row (xa) 210 #[.func (Fn.func 25) #[] #[.pointer (some ⟨eb, 0, none⟩)]] := rfl
        have e3 : R9 L9 α 5999 = row (xv) 247 #[.func (Fn.func 45) #[] #[.pointer (some ⟨xm, 0, none⟩), .pointer (some ⟨xs, 0, none⟩), .pointer (some ⟨xr, 0, none⟩), .pointer (some ⟨xp, 0, none⟩), .pointer (some ⟨xo, 0, none⟩), .pointer (some ⟨xa, 0, none⟩)]] := rfl
        have e4 : R9 L9 α 3999 = row (xm) 246 #[.map (some mb)] := rfl
        have e5 : R9 L9 α 9999 = row (xr) 251 #[.func (Fn.func 42) #[] #[.pointer (some ⟨xc, 0, none⟩), .pointer (some ⟨xa, 0, none⟩), .pointer (some ⟨xp, 0, none⟩)]] := rfl
        have e6 : R9 L9 α 10999 = ((mb, .map (imA [(202, ob), (205, ab)]) 2) : Rw) := rfl
        have e7 : R9 L9 α 11999 = row (eb) 29 #[.nilIface, .int .i32 wa] := by
          show rVAT11999 pb PC sb c st n src i mp es k ms MC ab ib ci IL mm tt ob pr cp vb xp xd xa xv xm xs xr xo xc eb mb wa lo vi li B1_1 B1 B3 L9 α = _
          unfold rVAT11999
          rw [if_neg (by rw [hL]; decide)]
        have e8 : R9 L9 α 13999 = row (ib) 29 (full exZ IL ci) := by
          show rVAT13999 pb PC sb c st n src i mp es k ms MC ab ib ci IL mm tt ob pr cp vb xp xd xa xv xm xs xr xo xc eb mb wa lo vi li B1_1 B1 B3 L9 α = _
          unfold rVAT13999
          rw [if_neg (by rw [hL]; decide)]
        have e9 : R9 L9 α 8 = row (α 16) 29 (full exZ (IL.drop ((mm + 1) * 2)) (α 1016)) := by
          show rVAT8 pb PC sb c st n src i mp es k ms MC ab ib ci IL mm tt ob pr cp vb xp xd xa xv xm xs xr xo xc eb mb wa lo vi li B1_1 B1 B3 L9 α = _
          unfold rVAT8
          rw [if_pos (hA 16 (by decide))]
        have e10 : R9 L9 α 14999 = row (ob) 204 #[.slice (some ⟨pr, 0, none⟩) 1 (1 + cp), .int .i32 0, .int .i32 0, .bool false, .bool false] := rfl
        have e11 : R9 L9 α 15999 = row (pr) 52 (full prZ [.pointer none, .nilIface, .int .i32 0, .iface 56 (.pointer (some ⟨vb, 0, none⟩)), .int .i32 0, .nilIface, .int .i32 0, .slice none 0 0, .int .i32 0, .int .i32 0, .int .u8 5, .int .u8 0] cp) := rfl
        have e12 : R9 L9 α 16999 = row (pb) 182 PC := by
          show rVAT16999 pb PC sb c st n src i mp es k ms MC ab ib ci IL mm tt ob pr cp vb xp xd xa xv xm xs xr xo xc eb mb wa lo vi li B1_1 B1 B3 L9 α = _
          unfold rVAT16999
          rw [if_neg (by rw [hL]; decide)]
        have e13 : R9 L9 α 17999 = row (sb) 201 (full symZ (symL st) c) := by
          show rVAT17999 pb PC sb c st n src i mp es k ms MC ab ib ci IL mm tt ob pr cp vb xp xd xa xv xm xs xr xo xc eb mb wa lo vi li B1_1 B1 B3 L9 α = _
          unfold rVAT17999
          rw [if_neg (by rw [hL]; decide)]
        have e14 : R9 L9 α 18999 = ((mp, .map es k) : Rw) := by
          show rVAT18999 pb PC sb c st n src i mp es k ms MC ab ib ci IL mm tt ob pr cp vb xp xd xa xv xm xs xr xo xc eb mb wa lo vi li B1_1 B1 B3 L9 α = _
          unfold rVAT18999
          rw [if_neg (by rw [hL]; decide)]
        have e15 : R9 L9 α 19999 = row (ms) 194 MC := by
          show rVAT19999 pb PC sb c st n src i mp es k ms MC ab ib ci IL mm tt ob pr cp vb xp xd xa xv xm xs xr xo xc eb mb wa lo vi li B1_1 B1 B3 L9 α = _
          unfold rVAT19999
          rw [if_neg (by rw [hL]; decide)]
        have hM : ∀ i, i ∈ [6999, 7999, 8999, 5999, 3999, 9999, 10999, 11999, 13999, 8, 14999, 15999, 16999, 17999, 18999, 19999] → act rVACnt 20 L9 i := by
          intro i hi
          simp only [List.mem_cons, List.not_mem_nil, or_false] at hi
          rcases hi with rfl | rfl | rfl | rfl | rfl | rfl | rfl | rfl | rfl | rfl | rfl | rfl | rfl | rfl | rfl | rfl
          · exact act_base 6999 rfl
          · exact act_base 7999 rfl
          · exact act_base 8999 rfl
          · exact act_base 5999 rfl
          · exact act_base 3999 rfl
          · exact act_base 9999 rfl
          · exact act_base 10999 rfl
          · exact act_base 11999 rfl
          · exact act_base 13999 rfl
          · exact act_new 8 rfl (hA 8 (by decide))
          · exact act_base 14999 rfl
          · exact act_base 15999 rfl
          · exact act_base 16999 rfl
          · exact act_base 17999 rfl
          · exact act_base 18999 rfl
          · exact act_base 19999 rfl
        have hP : Own w0 u9 [row (xp) 22 #[.pointer (some ⟨pb, 0, none⟩)], row (xd) 214 #[.int .u8 0], row (xa) 210 #[.func (Fn.func 25) #[] #[.pointer (some ⟨eb, 0, none⟩)]], row (xv) 247 #[.func (Fn.func 45) #[] #[.pointer (some ⟨xm, 0, none⟩), .pointer (some ⟨xs, 0, none⟩), .pointer (some ⟨xr, 0, none⟩), .pointer (some ⟨xp, 0, none⟩), .pointer (some ⟨xo, 0, none⟩), .pointer (some ⟨xa, 0, none⟩)]], row (xm) 246 #[.map (some mb)], row (xr) 251 #[.func (Fn.func 42) #[] #[.pointer (some ⟨xc, 0, none⟩), .pointer (some ⟨xa, 0, none⟩), .pointer (some ⟨xp, 0, none⟩)]], ((mb, .map (imA [(202, ob), (205, ab)]) 2) : Rw), row (eb) 29 #[.nilIface, .int .i32 wa], row (ib) 29 (full exZ IL ci), row (α 16) 29 (full exZ (IL.drop ((mm + 1) * 2)) (α 1016)), row (ob) 204 #[.slice (some ⟨pr, 0, none⟩) 1 (1 + cp), .int .i32 0, .int .i32 0, .bool false, .bool false], row (pr) 52 (full prZ [.pointer none, .nilIface, .int .i32 0, .iface 56 (.pointer (some ⟨vb, 0, none⟩)), .int .i32 0, .nilIface, .int .i32 0, .slice none 0 0, .int .i32 0, .int .i32 0, .int .u8 5, .int .u8 0] cp), row (pb) 182 PC, row (sb) 201 (full symZ (symL st) c), ((mp, .map es k) : Rw), row (ms) 194 MC] _ := (hG.pick [6999, 7999, 8999, 5999, 3999, 9999, 10999, 11999, 13999, 8, 14999, 15999, 16999, 17999, 18999, 19999] (by decide) hM).conv (by
          show [R9 L9 α 6999, R9 L9 α 7999, R9 L9 α 8999, R9 L9 α 5999, R9 L9 α 3999, R9 L9 α 9999, R9 L9 α 10999, R9 L9 α 11999, R9 L9 α 13999, R9 L9 α 8, R9 L9 α 14999, R9 L9 α 15999, R9 L9 α 16999, R9 L9 α 17999, R9 L9 α 18999, R9 L9 α 19999] = _
          rw [e0, e1, e2, e3, e4, e5, e6, e7, e8, e9, e10, e11, e12, e13, e14, e15])
        clear e0 e1 e2 e3 e4 e5 e6 e7 e8 e9 e10 e11 e12 e13 e14 e15 hM
        refine Calls.mono (splitu pb PC sb c st n src i mp es k ms MC xp xd xa xv xm xs xr xo xc eb wa ab ib ci IL mm tt ob pr cp vb mb (α 16) (α 1016) (IL.drop ((mm + 1) * 2)) vi li _ _ _ hP hk350 hk32 hk105 hk66 hk117 hk187 hk104 hkind hk287 hk199 hgen hk106 hn hnb hi HUB.out hno hg0 hg1 HI.out.len HI.out.drop.1 HI.out.drop.2 hm4 ht4) ?_
        rintro e9 u1 ⟨b2, b3, b0, b4, b1, b5, b6, b7, b8, rfl, hQ⟩
        obtain ⟨α', hα'⟩ : ∃ α' : Rega.Atoms, α' = (fun j => if j = 22 then b0 else if j = 1022 then b1 else if j = 2022 then b2 else if j = 3022 then b3 else if j = 4022 then b4 else if j = 5022 then b5 else if j = 6022 then b6 else if j = 7022 then b7 else if j = 8022 then b8 else α j) := ⟨_, rfl⟩
        have f0 : R9 (Rega.ran L9 22) α' 6999 = row (xp) 22 #[.pointer (some ⟨pb, 0, none⟩)] := rfl
        have f1 : R9 (Rega.ran L9 22) α' 7999 = row (xd) 214 #[.int .u8 0] := rfl
        have f2 : R9 (Rega.ran L9 22) α' 8999 = row (xa) 210 #[.func (Fn.func 25) #[] #[.pointer (some ⟨eb, 0, none⟩)]] := rfl
        have f3 : R9 (Rega.ran L9 22) α' 5999 = row (xv) 247 #[.func (Fn.func 45) #[] #[.pointer (some ⟨xm, 0, none⟩), .pointer (some ⟨xs, 0, none⟩), .pointer (some ⟨xr, 0, none⟩), .pointer (some ⟨xp, 0, none⟩), .pointer (some ⟨xo, 0, none⟩), .pointer (some ⟨xa, 0, none⟩)]] := rfl
        have f4 : R9 (Rega.ran L9 22) α' 3999 = row (xm) 246 #[.map (some mb)] := rfl
        have f5 : R9 (Rega.ran L9 22) α' 9999 = row (xr) 251 #[.func (Fn.func 42) #[] #[.pointer (some ⟨xc, 0, none⟩), .pointer (some ⟨xa, 0, none⟩), .pointer (some ⟨xp, 0, none⟩)]] := rfl
        have f6 : R9 (Rega.ran L9 22) α' 10999 = ((mb, .map (imA [(202, ob), (205, ab)]) 2) : Rw) := rfl
        have f7 : R9 (Rega.ran L9 22) α' 11999 = row (eb) 29 #[.iface 241 (.pointer (some ⟨α' 6022, 0, none⟩)), .int .i32 0] := by
          show rVAT11999 pb PC sb c st n src i mp es k ms MC ab ib ci IL mm tt ob pr cp vb xp xd xa xv xm xs xr xo xc eb mb wa lo vi li B1_1 B1 B3 (Rega.ran L9 22) α' = _
          unfold rVAT11999
          rw [if_pos (show Rega.ran L9 22 22 = true from rfl)]
        have f8 : R9 (Rega.ran L9 22) α' 13999 = row (ib) 29 (full exZ (iW (xt tt) IL mm (α' 7022) (α' 8022)) ci) := by
          show rVAT13999 pb PC sb c st n src i mp es k ms MC ab ib ci IL mm tt ob pr cp vb xp xd xa xv xm xs xr xo xc eb mb wa lo vi li B1_1 B1 B3 (Rega.ran L9 22) α' = _
          unfold rVAT13999
          rw [if_pos (show Rega.ran L9 22 22 = true from rfl)]
        have f9 : R9 (Rega.ran L9 22) α' 8 = row (α' 16) 29 (full exZ (IL.drop ((mm + 1) * 2)) (α' 1016)) := by
          show rVAT8 pb PC sb c st n src i mp es k ms MC ab ib ci IL mm tt ob pr cp vb xp xd xa xv xm xs xr xo xc eb mb wa lo vi li B1_1 B1 B3 (Rega.ran L9 22) α' = _
          unfold rVAT8
          rw [if_pos ((ran_ne (by decide)).trans (hA 16 (by decide)))]
        have f10 : R9 (Rega.ran L9 22) α' 14999 = row (ob) 204 #[.slice (some ⟨pr, 0, none⟩) 1 (1 + cp), .int .i32 0, .int .i32 0, .bool false, .bool false] := rfl
        have f11 : R9 (Rega.ran L9 22) α' 15999 = row (pr) 52 (full prZ [.pointer none, .nilIface, .int .i32 0, .iface 56 (.pointer (some ⟨vb, 0, none⟩)), .int .i32 0, .nilIface, .int .i32 0, .slice none 0 0, .int .i32 0, .int .i32 0, .int .u8 5, .int .u8 0] cp) := rfl
        have f12 : R9 (Rega.ran L9 22) α' 16999 = row (pb) 182 (pcW PC i n (xt tt) (α' 2022) (α' 3022) (α' 22) (α' 4022)) := by
          show rVAT16999 pb PC sb c st n src i mp es k ms MC ab ib ci IL mm tt ob pr cp vb xp xd xa xv xm xs xr xo xc eb mb wa lo vi li B1_1 B1 B3 (Rega.ran L9 22) α' = _
          unfold rVAT16999
          rw [if_pos (show Rega.ran L9 22 22 = true from rfl)]
        have f13 : R9 (Rega.ran L9 22) α' 17999 = row (α' 2022) 201 (full symZ (symL (stW (xt tt) i n st)) (α' 3022)) := by
          show rVAT17999 pb PC sb c st n src i mp es k ms MC ab ib ci IL mm tt ob pr cp vb xp xd xa xv xm xs xr xo xc eb mb wa lo vi li B1_1 B1 B3 (Rega.ran L9 22) α' = _
          unfold rVAT17999
          rw [if_pos (show Rega.ran L9 22 22 = true from rfl)]
        have f14 : R9 (Rega.ran L9 22) α' 18999 = ((mp, .map (es.push ⟨.string ⟨#[95, 95, 111, 98, 106, 82, 101, 115, 116]⟩, .agg #[.int .i32 0, .int .u32 src, .int .u32 ((n + 1 + (xt tt) : Nat) : Int)], k⟩) (k + 1)) : Rw) := by
          show rVAT18999 pb PC sb c st n src i mp es k ms MC ab ib ci IL mm tt ob pr cp vb xp xd xa xv xm xs xr xo xc eb mb wa lo vi li B1_1 B1 B3 (Rega.ran L9 22) α' = _
          unfold rVAT18999
          rw [if_pos (show Rega.ran L9 22 22 = true from rfl)]
        have f15 : R9 (Rega.ran L9 22) α' 19999 = row (ms) 194 (MC.setIfInBounds 5 (.slice (some ⟨α' 1022, 0, none⟩) (2 + (xt tt)) (2 + (xt tt) + (α' 5022)))) := by
          show rVAT19999 pb PC sb c st n src i mp es k ms MC ab ib ci IL mm tt ob pr cp vb xp xd xa xv xm xs xr xo xc eb mb wa lo vi li B1_1 B1 B3 (Rega.ran L9 22) α' = _
          unfold rVAT19999
          rw [if_pos (show Rega.ran L9 22 22 = true from rfl)]
        have f16 : R9 (Rega.ran L9 22) α' 1022 = row (α' 1022) 58 (full refZ (gW (xt tt) src n) (α' 5022)) := rfl
        have f17 : R9 (Rega.ran L9 22) α' 22 = row (α' 22) 295 (full trfZ (qW (xt tt) src n) (α' 4022)) := rfl
        have hα : ∀ j, j % 1000 ≠ 22 → α' j = α j := fun j hj => by rw [hα']; simp only []; rw [if_neg (by omega), if_neg (by omega), if_neg (by omega), if_neg (by omega), if_neg (by omega), if_neg (by omega), if_neg (by omega), if_neg (by omega), if_neg (by omega)]
        have hb0 : α' 22 = b0 := by rw [hα']; rfl
        have hb1 : α' 1022 = b1 := by rw [hα']; rfl
        have hb2 : α' 2022 = b2 := by rw [hα']; rfl
        have hb3 : α' 3022 = b3 := by rw [hα']; rfl
        have hb4 : α' 4022 = b4 := by rw [hα']; rfl
        have hb5 : α' 5022 = b5 := by rw [hα']; rfl
        have hb6 : α' 6022 = b6 := by rw [hα']; rfl
        have hb7 : α' 7022 = b7 := by rw [hα']; rfl
        have hb8 : α' 8022 = b8 := by rw [hα']; rfl
        have ha16 : α' 16 = α 16 := hα 16 (by decide)
        have ha1016 : α' 1016 = α 1016 := hα 1016 (by decide)
        skip
        refine hK _ α' _ hα ?_ (step_call (st9) hL hcl hα [6999, 7999, 8999, 5999, 3999, 9999, 10999, 11999, 13999, 8, 14999, 15999, 16999, 17999, 18999, 19999] [6999, 7999, 8999, 5999, 3999, 9999, 10999, 11999, 13999, 8, 14999, 15999, 16999, 17999, 18999, 19999, 1022, 22] (by decide) (by decide) (by decide) (M := _) ?_ hG hQ)
        · rfl
        · show [R9 (Rega.ran L9 22) α' 6999, R9 (Rega.ran L9 22) α' 7999, R9 (Rega.ran L9 22) α' 8999, R9 (Rega.ran L9 22) α' 5999, R9 (Rega.ran L9 22) α' 3999, R9 (Rega.ran L9 22) α' 9999, R9 (Rega.ran L9 22) α' 10999, R9 (Rega.ran L9 22) α' 11999, R9 (Rega.ran L9 22) α' 13999, R9 (Rega.ran L9 22) α' 8, R9 (Rega.ran L9 22) α' 14999, R9 (Rega.ran L9 22) α' 15999, R9 (Rega.ran L9 22) α' 16999, R9 (Rega.ran L9 22) α' 17999, R9 (Rega.ran L9 22) α' 18999, R9 (Rega.ran L9 22) α' 19999, R9 (Rega.ran L9 22) α' 1022, R9 (Rega.ran L9 22) α' 22] = _
          rw [f0, f1, f2, f3, f4, f5, f6, f7, f8, f9, f10, f11, f12, f13, f14, f15, f16, f17]
          simp only [hb0, hb1, hb2, hb3, hb4, hb5, hb6, hb7, hb8, ha16, ha1016]
          try rfl
    clear st9
    intro α u hG
    have e0 : R9 (fun k => decide (k < 23)) α 999 = row (B3) 29 #[.iface 202 (.pointer (some ⟨ob, 0, none⟩)), .int .i32 0] := rfl
    have e1 : R9 (fun k => decide (k < 23)) α 1999 = row (B1_1) 29 #[.iface 56 (.pointer (some ⟨vi, 0, none⟩)), .int .i32 li] := rfl
    have e2 : R9 (fun k => decide (k < 23)) α 2999 = row (B1) 29 #[.iface 205 (.pointer (some ⟨ab, 0, none⟩)), .int .i32 lo] := rfl
    have e3 : R9 (fun k => decide (k < 23)) α 3999 = row (xm) 246 #[.map (some mb)] := rfl
    have e4 : R9 (fun k => decide (k < 23)) α 4999 = row (xs) 254 #[.func (Fn.func 43) #[] #[.pointer (some ⟨xp, 0, none⟩), .pointer (some ⟨xd, 0, none⟩), .pointer (some ⟨xa, 0, none⟩), .pointer (some ⟨xv, 0, none⟩)]] := rfl
    have e5 : R9 (fun k => decide (k < 23)) α 5999 = row (xv) 247 #[.func (Fn.func 45) #[] #[.pointer (some ⟨xm, 0, none⟩), .pointer (some ⟨xs, 0, none⟩), .pointer (some ⟨xr, 0, none⟩), .pointer (some ⟨xp, 0, none⟩), .pointer (some ⟨xo, 0, none⟩), .pointer (some ⟨xa, 0, none⟩)]] := rfl
    have e6 : R9 (fun k => decide (k < 23)) α 6999 = row (xp) 22 #[.pointer (some ⟨pb, 0, none⟩)] := rfl
    have e7 : R9 (fun k => decide (k < 23)) α 7999 = row (xd) 214 #[.int .u8 0] := rfl
    have e8 : R9 (fun k => decide (k < 23)) α 8999 = row (xa) 210 #[.func (Fn.func 25) #[] #[.pointer (some ⟨eb, 0, none⟩)]] := rfl
    have e9 : R9 (fun k => decide (k < 23)) α 9999 = row (xr) 251 #[.func (Fn.func 42) #[] #[.pointer (some ⟨xc, 0, none⟩), .pointer (some ⟨xa, 0, none⟩), .pointer (some ⟨xp, 0, none⟩)]] := rfl
    have e10 : R9 (fun k => decide (k < 23)) α 10999 = ((mb, .map (imA [(202, ob), (205, ab)]) 2) : Rw) := rfl
    have e11 : R9 (fun k => decide (k < 23)) α 11999 = row (eb) 29 #[.iface 241 (.pointer (some ⟨α 6022, 0, none⟩)), .int .i32 0] := by
      show rVAT11999 pb PC sb c st n src i mp es k ms MC ab ib ci IL mm tt ob pr cp vb xp xd xa xv xm xs xr xo xc eb mb wa lo vi li B1_1 B1 B3 (fun k => decide (k < 23)) α = _
      unfold rVAT11999
      rw [if_pos (by decide)]
    have e12 : R9 (fun k => decide (k < 23)) α 12999 = row (ab) 207 #[.slice (some ⟨ib, 0, none⟩) (mm + 1 + tt) (mm + 1 + tt + ci), .int .i32 0, .int .i32 0, .bool false, .bool false] := rfl
    have e13 : R9 (fun k => decide (k < 23)) α 13999 = row (ib) 29 (full exZ (iW (xt tt) IL mm (α 7022) (α 8022)) ci) := by
      show rVAT13999 pb PC sb c st n src i mp es k ms MC ab ib ci IL mm tt ob pr cp vb xp xd xa xv xm xs xr xo xc eb mb wa lo vi li B1_1 B1 B3 (fun k => decide (k < 23)) α = _
      unfold rVAT13999
      rw [if_pos (by decide)]
    have e14 : R9 (fun k => decide (k < 23)) α 14999 = row (ob) 204 #[.slice (some ⟨pr, 0, none⟩) 1 (1 + cp), .int .i32 0, .int .i32 0, .bool false, .bool false] := rfl
    have e15 : R9 (fun k => decide (k < 23)) α 15999 = row (pr) 52 (full prZ [.pointer none, .nilIface, .int .i32 0, .iface 56 (.pointer (some ⟨vb, 0, none⟩)), .int .i32 0, .nilIface, .int .i32 0, .slice none 0 0, .int .i32 0, .int .i32 0, .int .u8 5, .int .u8 0] cp) := rfl
    have e16 : R9 (fun k => decide (k < 23)) α 16999 = row (pb) 182 (pcW PC i n (xt tt) (α 2022) (α 3022) (α 22) (α 4022)) := by
      show rVAT16999 pb PC sb c st n src i mp es k ms MC ab ib ci IL mm tt ob pr cp vb xp xd xa xv xm xs xr xo xc eb mb wa lo vi li B1_1 B1 B3 (fun k => decide (k < 23)) α = _
      unfold rVAT16999
      rw [if_pos (by decide)]
    have e17 : R9 (fun k => decide (k < 23)) α 17999 = row (α 2022) 201 (full symZ (symL (stW (xt tt) i n st)) (α 3022)) := by
      show rVAT17999 pb PC sb c st n src i mp es k ms MC ab ib ci IL mm tt ob pr cp vb xp xd xa xv xm xs xr xo xc eb mb wa lo vi li B1_1 B1 B3 (fun k => decide (k < 23)) α = _
      unfold rVAT17999
      rw [if_pos (by decide)]
    have e18 : R9 (fun k => decide (k < 23)) α 18999 = ((mp, .map (es.push ⟨.string ⟨#[95, 95, 111, 98, 106, 82, 101, 115, 116]⟩, .agg #[.int .i32 0, .int .u32 src, .int .u32 ((n + 1 + (xt tt) : Nat) : Int)], k⟩) (k + 1)) : Rw) := by
      show rVAT18999 pb PC sb c st n src i mp es k ms MC ab ib ci IL mm tt ob pr cp vb xp xd xa xv xm xs xr xo xc eb mb wa lo vi li B1_1 B1 B3 (fun k => decide (k < 23)) α = _
      unfold rVAT18999
      rw [if_pos (by decide)]
    have e19 : R9 (fun k => decide (k < 23)) α 19999 = row (ms) 194 (MC.setIfInBounds 5 (.slice (some ⟨α 1022, 0, none⟩) (2 + (xt tt)) (2 + (xt tt) + (α 5022)))) := by
      show rVAT19999 pb PC sb c st n src i mp es k ms MC ab ib ci IL mm tt ob pr cp vb xp xd xa xv xm xs xr xo xc eb mb wa lo vi li B1_1 B1 B3 (fun k => decide (k < 23)) α = _
      unfold rVAT19999
      rw [if_pos (by decide)]
    have e20 : R9 (fun k => decide (k < 23)) α 8 = row (α 16) 29 (full exZ (IL.drop ((mm + 1) * 2)) (α 1016)) := by
      show rVAT8 pb PC sb c st n src i mp es k ms MC ab ib ci IL mm tt ob pr cp vb xp xd xa xv xm xs xr xo xc eb mb wa lo vi li B1_1 B1 B3 (fun k => decide (k < 23)) α = _
      unfold rVAT8
      rw [if_pos (by decide)]
    have e21 : R9 (fun k => decide (k < 23)) α 22 = row (α 22) 295 (full trfZ (qW (xt tt) src n) (α 4022)) := rfl
    have e22 : R9 (fun k => decide (k < 23)) α 1022 = row (α 1022) 58 (full refZ (gW (xt tt) src n) (α 5022)) := rfl
    have hO : Own w0 u [row (B3) 29 #[.iface 202 (.pointer (some ⟨ob, 0, none⟩)), .int .i32 0], row (B1_1) 29 #[.iface 56 (.pointer (some ⟨vi, 0, none⟩)), .int .i32 li], row (B1) 29 #[.iface 205 (.pointer (some ⟨ab, 0, none⟩)), .int .i32 lo], row (xm) 246 #[.map (some mb)], row (xs) 254 #[.func (Fn.func 43) #[] #[.pointer (some ⟨xp, 0, none⟩), .pointer (some ⟨xd, 0, none⟩), .pointer (some ⟨xa, 0, none⟩), .pointer (some ⟨xv, 0, none⟩)]], row (xv) 247 #[.func (Fn.func 45) #[] #[.pointer (some ⟨xm, 0, none⟩), .pointer (some ⟨xs, 0, none⟩), .pointer (some ⟨xr, 0, none⟩), .pointer (some ⟨xp, 0, none⟩), .pointer (some ⟨xo, 0, none⟩), .pointer (some ⟨xa, 0, none⟩)]], row (xp) 22 #[.pointer (some ⟨pb, 0, none⟩)], row (xd) 214 #[.int .u8 0], row (xa) 210 #[.func (Fn.func 25) #[] #[.pointer (some ⟨eb, 0, none⟩)]], row (xr) 251 #[.func (Fn.func 42) #[] #[.pointer (some ⟨xc, 0, none⟩), .pointer (some ⟨xa, 0, none⟩), .pointer (some ⟨xp, 0, none⟩)]], ((mb, .map (imA [(202, ob), (205, ab)]) 2) : Rw), row (eb) 29 #[.iface 241 (.pointer (some ⟨α 6022, 0, none⟩)), .int .i32 0], row (ab) 207 #[.slice (some ⟨ib, 0, none⟩) (mm + 1 + tt) (mm + 1 + tt + ci), .int .i32 0, .int .i32 0, .bool false, .bool false], row (ib) 29 (full exZ (iW (xt tt) IL mm (α 7022) (α 8022)) ci), row (ob) 204 #[.slice (some ⟨pr, 0, none⟩) 1 (1 + cp), .int .i32 0, .int .i32 0, .bool false, .bool false], row (pr) 52 (full prZ [.pointer none, .nilIface, .int .i32 0, .iface 56 (.pointer (some ⟨vb, 0, none⟩)), .int .i32 0, .nilIface, .int .i32 0, .slice none 0 0, .int .i32 0, .int .i32 0, .int .u8 5, .int .u8 0] cp), row (pb) 182 (pcW PC i n (xt tt) (α 2022) (α 3022) (α 22) (α 4022)), row (α 2022) 201 (full symZ (symL (stW (xt tt) i n st)) (α 3022)), ((mp, .map (es.push ⟨.string ⟨#[95, 95, 111, 98, 106, 82, 101, 115, 116]⟩, .agg #[.int .i32 0, .int .u32 src, .int .u32 ((n + 1 + (xt tt) : Nat) : Int)], k⟩) (k + 1)) : Rw), row (ms) 194 (MC.setIfInBounds 5 (.slice (some ⟨α 1022, 0, none⟩) (2 + (xt tt)) (2 + (xt tt) + (α 5022)))), row (α 16) 29 (full exZ (IL.drop ((mm + 1) * 2)) (α 1016)), row (α 22) 295 (full trfZ (qW (xt tt) src n) (α 4022)), row (α 1022) 58 (full refZ (gW (xt tt) src n) (α 5022))] X := (hG.list [999, 1999, 2999, 3999, 4999, 5999, 6999, 7999, 8999, 9999, 10999, 11999, 12999, 13999, 14999, 15999, 16999, 17999, 18999, 19999, 8, 22, 1022] (by decide) (act_all (by decide))).conv (by
      show [R9 (fun k => decide (k < 23)) α 999, R9 (fun k => decide (k < 23)) α 1999, R9 (fun k => decide (k < 23)) α 2999, R9 (fun k => decide (k < 23)) α 3999, R9 (fun k => decide (k < 23)) α 4999, R9 (fun k => decide (k < 23)) α 5999, R9 (fun k => decide (k < 23)) α 6999, R9 (fun k => decide (k < 23)) α 7999, R9 (fun k => decide (k < 23)) α 8999, R9 (fun k => decide (k < 23)) α 9999, R9 (fun k => decide (k < 23)) α 10999, R9 (fun k => decide (k < 23)) α 11999, R9 (fun k => decide (k < 23)) α 12999, R9 (fun k => decide (k < 23)) α 13999, R9 (fun k => decide (k < 23)) α 14999, R9 (fun k => decide (k < 23)) α 15999, R9 (fun k => decide (k < 23)) α 16999, R9 (fun k => decide (k < 23)) α 17999, R9 (fun k => decide (k < 23)) α 18999, R9 (fun k => decide (k < 23)) α 19999, R9 (fun k => decide (k < 23)) α 8, R9 (fun k => decide (k < 23)) α 22, R9 (fun k => decide (k < 23)) α 1022] = _
      rw [e0, e1, e2, e3, e4, e5, e6, e7, e8, e9, e10, e11, e12, e13, e14, e15, e16, e17, e18, e19, e20, e21, e22])
    clear hG e0 e1 e2 e3 e4 e5 e6 e7 e8 e9 e10 e11 e12 e13 e14 e15 e16 e17 e18 e19 e20 e21 e22 R9
    generalize hfr : Rega.frameAt _ _ _ _ _ = fr
    have hdf : fr = ⟨#[.agg #[.iface 205 (.pointer (some ⟨ab, 0, none⟩)), .int .i32 lo], .agg #[.iface 56 (.pointer (some ⟨vi, 0, none⟩)), .int .i32 li], .slice none 0 0, .pointer (some ⟨xm, 0, none⟩), .pointer (some ⟨xs, 0, none⟩), .pointer (some ⟨xr, 0, none⟩), .pointer (some ⟨xp, 0, none⟩), .pointer (some ⟨xo, 0, none⟩), .pointer (some ⟨xa, 0, none⟩), .pointer (some ⟨B1, 0, none⟩), .pointer (some ⟨B1_1, 0, none⟩), undef, .pointer (some ⟨ab, 0, none⟩), .int .i64 (mm : Int), .pointer (some ⟨B3, 0, none⟩), undef, undef, undef, undef, undef, undef, undef, .pointer (some ⟨B1, 0, none⟩), .iface 205 (.pointer (some ⟨ab, 0, none⟩)), .tuple #[.pointer (some ⟨ab, 0, none⟩), .bool true], .bool true, .pointer (some ⟨ab, 0, none⟩), .pointer (some ⟨ab, 0, none⟩), .pointer (some ⟨ab, 0, none⟩), .pointer (some ⟨ab, 0, none⟩), .slice (some ⟨ib, 0, none⟩) (mm + 1 + tt) (mm + 1 + tt + ci), .int .i64 ((mm : Int) + 1 + (tt : Int)), .int .i64 (mm : Int), .bool true, .int .i64 (mm : Int), .pointer (some ⟨ib, mm * 2, none⟩), .agg #[.iface 202 (.pointer (some ⟨ob, 0, none⟩)), .int .i32 0], .map (some mb), .pointer (some ⟨B3, 0, none⟩), .iface 202 (.pointer (some ⟨ob, 0, none⟩)), .bool true, .func (Fn.func 43) #[] #[.pointer (some ⟨xp, 0, none⟩), .pointer (some ⟨xd, 0, none⟩), .pointer (some ⟨xa, 0, none⟩), .pointer (some ⟨xv, 0, none⟩)], .pointer (some ⟨ab, 0, none⟩), .pointer (some ⟨ab, 0, none⟩), .pointer (some ⟨ab, 0, none⟩), .slice (some ⟨ib, 0, none⟩) (mm + 1 + tt) (mm + 1 + tt + ci), .int .i64 (mm : Int), .slice (some ⟨ib, 0, none⟩) mm (mm + 1 + tt + ci), .agg #[.iface 202 (.pointer (some ⟨ob, 0, none⟩)), .int .i32 0], .slice (some ⟨α 8, 0, none⟩) 0 0, .pointer (some ⟨ab, 0, none⟩), .pointer (some ⟨ab, 0, none⟩), .pointer (some ⟨ab, 0, none⟩), .slice (some ⟨ib, 0, none⟩) (mm + 1 + tt) (mm + 1 + tt + ci), .int .i64 (mm : Int), .int .i64 ((mm : Int) + 1), .slice (some (aft ib (mm + 1) (mm + 1 + tt + ci) 2)) tt (tt + ci), .slice (some ⟨α 16, 0, none⟩) tt (tt + (α 1016)), .agg #[.iface 56 (.pointer (some ⟨vi, 0, none⟩)), .int .i32 li], .pointer (some ⟨ab, 0, none⟩), .pointer (some ⟨ab, 0, none⟩), .pointer (some ⟨ab, 3, none⟩), .bool false, .tuple #[], u64, undef, undef, undef, undef, undef, undef, undef, undef, undef, undef, undef, undef, undef, undef, undef, undef, undef, undef, undef, undef, undef, undef, undef, undef, undef, undef, undef, undef, undef, undef, undef, undef, undef, undef, undef, undef, undef, undef, undef, undef, undef, undef, undef, undef, undef, undef, undef, undef, undef, undef, undef, undef, undef, undef, undef, undef, undef, undef, undef, undef, undef, undef, undef, undef, undef, undef, undef, undef, undef, undef, undef, undef, undef, undef, undef, undef, undef, undef, undef, undef, undef, undef, undef, undef, undef, undef, undef, undef, undef, undef, undef, undef, undef, undef, undef, undef, undef, undef, undef, undef, undef, undef, undef, undef, undef, undef, undef, undef, undef, undef, undef], []⟩ := by rw [← hfr]; kernel_rfl
    clear hfr
    subst hdf
    generalize α 8 = nd5 at hO ⊢
    generalize α 16 = nd6 at hO ⊢
    generalize α 22 = nd7 at hO ⊢
    generalize α 1016 = nd8 at hO ⊢
    generalize α 1022 = nd9 at hO ⊢
    generalize α 2022 = nd10 at hO ⊢
    generalize α 3022 = nd11 at hO ⊢
    generalize α 4022 = nd12 at hO ⊢
    generalize α 5022 = nd13 at hO ⊢
    generalize α 6022 = nd14 at hO ⊢
    generalize α 7022 = nd15 at hO ⊢
    generalize α 8022 = nd16 at hO ⊢
    clear α
    obtain ⟨c9_0_0, c9_0_1, lt9_0, y9_0, -⟩ := hO.k2 0 rfl
    obtain ⟨c9_1_0, c9_1_1, lt9_1, y9_1, -⟩ := hO.k2 1 rfl
    obtain ⟨c9_2_0, c9_2_1, lt9_2, y9_2, -⟩ := hO.k2 2 rfl
    obtain ⟨c9_3_0, lt9_3, y9_3, -⟩ := hO.k1 3 rfl
    obtain ⟨c9_4_0, lt9_4, y9_4, -⟩ := hO.k1 4 rfl
    obtain ⟨c9_5_0, lt9_5, y9_5, -⟩ := hO.k1 5 rfl
    obtain ⟨c9_6_0, lt9_6, y9_6, -⟩ := hO.k1 6 rfl
    obtain ⟨c9_7_0, lt9_7, y9_7, -⟩ := hO.k1 7 rfl
    obtain ⟨c9_8_0, lt9_8, y9_8, -⟩ := hO.k1 8 rfl
    obtain ⟨c9_9_0, lt9_9, y9_9, -⟩ := hO.k1 9 rfl
    obtain ⟨c9_11_0, c9_11_1, lt9_11, y9_11, -⟩ := hO.k2 11 rfl
    obtain ⟨c9_12_0, c9_12_1, c9_12_2, c9_12_3, c9_12_4, lt9_12, y9_12, -⟩ := hO.k5 12 rfl
    obtain ⟨c9_14_0, c9_14_1, c9_14_2, c9_14_3, c9_14_4, lt9_14, y9_14, -⟩ := hO.k5 14 rfl
    have HO := Lib.hid hO
    clear hO
    go_wp2_with (first | (with_reducible refine Own.stay (fn := Tryz.f45) ?_) | fail)
    try with_reducible refine Own.Stay.mk ?_
    have hO := HO.out
    clear HO c9_0_0 c9_0_1 lt9_0 y9_0 c9_1_0 c9_1_1 lt9_1 y9_1 c9_2_0 c9_2_1 lt9_2 y9_2 c9_3_0 lt9_3 y9_3 c9_4_0 lt9_4 y9_4 c9_5_0 lt9_5 y9_5 c9_6_0 lt9_6 y9_6 c9_7_0 lt9_7 y9_7 c9_8_0 lt9_8 y9_8 c9_9_0 lt9_9 y9_9 c9_11_0 c9_11_1 lt9_11 y9_11 c9_12_0 c9_12_1 c9_12_2 c9_12_3 c9_12_4 lt9_12 y9_12 c9_14_0 c9_14_1 c9_14_2 c9_14_3 c9_14_4 lt9_14 y9_14
    refine bodyPost_ret (v := .tuple #[]) ?_ rfl ⟨nd10, nd11, nd9, nd13, nd7, nd12, nd14, nd15, nd16, rfl, hO.sub [11, 12, 13, 14, 15, 16, 17, 18, 19] (by decide)⟩
    simp [results, Tryz.results45, go_sem]
  · skip
    have hlt : j < mm := by omega
    have hlt9 : (j : Int) < (mm : Int) + 1 + (tt : Int) := by omega
    have hj8 : (0 : Int) ≤ (j : Int) := by omega
    have hj7 : (j : Int) ≤ 8193 := by omega
    obtain ⟨vn, hv0, hv1⟩ := HI.out.id him (by omega)
    clear him
    obtain ⟨ix9, hix9, hax9, hjx9⟩ := hO.ix
    have ix9_0 : ix9 B1_1 = 0 := hjx9 0 _ _ rfl
    have ix9_1 : ix9 B1 = 1 := hjx9 1 _ _ rfl
    have ix9_2 : ix9 xm = 2 := hjx9 2 _ _ rfl
    have ix9_3 : ix9 xs = 3 := hjx9 3 _ _ rfl
    have ix9_4 : ix9 xv = 4 := hjx9 4 _ _ rfl
    have ix9_5 : ix9 xp = 5 := hjx9 5 _ _ rfl
    have ix9_6 : ix9 xd = 6 := hjx9 6 _ _ rfl
    have ix9_7 : ix9 xa = 7 := hjx9 7 _ _ rfl
    have ix9_8 : ix9 xr = 8 := hjx9 8 _ _ rfl
    have ix9_9 : ix9 mb = 9 := hjx9 9 _ _ rfl
    have ix9_10 : ix9 eb = 10 := hjx9 10 _ _ rfl
    have ix9_11 : ix9 ab = 11 := hjx9 11 _ _ rfl
    have ix9_12 : ix9 ib = 12 := hjx9 12 _ _ rfl
    have ix9_13 : ix9 ob = 13 := hjx9 13 _ _ rfl
    have ix9_14 : ix9 pr = 14 := hjx9 14 _ _ rfl
    have ix9_15 : ix9 pb = 15 := hjx9 15 _ _ rfl
    have ix9_16 : ix9 sb = 16 := hjx9 16 _ _ rfl
    have ix9_17 : ix9 mp = 17 := hjx9 17 _ _ rfl
    have ix9_18 : ix9 ms = 18 := hjx9 18 _ _ rfl
    clear hjx9
    obtain ⟨c9_0_0, c9_0_1, lt9_0, y9_0, pl9_0⟩ := hO.k2 0 rfl
    obtain ⟨c9_1_0, c9_1_1, lt9_1, y9_1, pl9_1⟩ := hO.k2 1 rfl
    obtain ⟨c9_2_0, lt9_2, y9_2, -⟩ := hO.k1 2 rfl
    obtain ⟨c9_3_0, lt9_3, y9_3, -⟩ := hO.k1 3 rfl
    obtain ⟨c9_4_0, lt9_4, y9_4, -⟩ := hO.k1 4 rfl
    obtain ⟨c9_5_0, lt9_5, y9_5, -⟩ := hO.k1 5 rfl
    obtain ⟨c9_6_0, lt9_6, y9_6, -⟩ := hO.k1 6 rfl
    obtain ⟨c9_7_0, lt9_7, y9_7, -⟩ := hO.k1 7 rfl
    obtain ⟨c9_8_0, lt9_8, y9_8, -⟩ := hO.k1 8 rfl
    obtain ⟨c9_10_0, c9_10_1, lt9_10, y9_10, pl9_10⟩ := hO.k2 10 rfl
    obtain ⟨c9_11_0, c9_11_1, c9_11_2, c9_11_3, c9_11_4, lt9_11, y9_11, -⟩ := hO.k5 11 rfl
    have pl9_12 : Base.plainAt wr (ib) = true := hO.plain 12 rfl
    have c9_12_j_2 : wr.cell? ⟨ib, j * 2, none⟩ = some (.iface 56 (.pointer (some ⟨vn, 0, none⟩))) := hO.cell 12 rfl (j * 2) ((full_at hv0))
    have c9_12_j_2_1 : wr.cell? ⟨ib, j * 2 + 1, none⟩ = some (.int .i32 0) := hO.cell 12 rfl (j * 2 + 1) ((full_at hv1))
    have lt9_12 : ib < wr.heap.size := hO.lt 12 rfl
    have y9_12 : ∀ o, wr.frozen? ⟨ib, o, none⟩ = false := hO.free 12 rfl
    obtain ⟨c9_13_0, c9_13_1, c9_13_2, c9_13_3, c9_13_4, lt9_13, y9_13, -⟩ := hO.k5 13 rfl
    have c9_14_0 : wr.cell? ⟨pr, 0, none⟩ = some (.pointer none) := hO.cell 14 rfl (0) ((full_at rfl))
    have c9_14_1 : wr.cell? ⟨pr, 1, none⟩ = some (.nilIface) := hO.cell 14 rfl (1) ((full_at rfl))
    have c9_14_2 : wr.cell? ⟨pr, 2, none⟩ = some (.int .i32 0) := hO.cell 14 rfl (2) ((full_at rfl))
    have c9_14_3 : wr.cell? ⟨pr, 3, none⟩ = some (.iface 56 (.pointer (some ⟨vb, 0, none⟩))) := hO.cell 14 rfl (3) ((full_at rfl))
    have c9_14_4 : wr.cell? ⟨pr, 4, none⟩ = some (.int .i32 0) := hO.cell 14 rfl (4) ((full_at rfl))
    have c9_14_5 : wr.cell? ⟨pr, 5, none⟩ = some (.nilIface) := hO.cell 14 rfl (5) ((full_at rfl))
    have c9_14_6 : wr.cell? ⟨pr, 6, none⟩ = some (.int .i32 0) := hO.cell 14 rfl (6) ((full_at rfl))
    have c9_14_7 : wr.cell? ⟨pr, 7, none⟩ = some (.slice none 0 0) := hO.cell 14 rfl (7) ((full_at rfl))
    have c9_14_8 : wr.cell? ⟨pr, 8, none⟩ = some (.int .i32 0) := hO.cell 14 rfl (8) ((full_at rfl))
    have c9_14_9 : wr.cell? ⟨pr, 9, none⟩ = some (.int .i32 0) := hO.cell 14 rfl (9) ((full_at rfl))
    have c9_14_10 : wr.cell? ⟨pr, 10, none⟩ = some (.int .u8 5) := hO.cell 14 rfl (10) ((full_at rfl))
    have c9_14_11 : wr.cell? ⟨pr, 11, none⟩ = some (.int .u8 0) := hO.cell 14 rfl (11) ((full_at rfl))
    have lt9_14 : pr < wr.heap.size := hO.lt 14 rfl
    have y9_14 : ∀ o, wr.frozen? ⟨pr, o, none⟩ = false := hO.free 14 rfl
    have c9_15_32 : wr.cell? ⟨pb, 32, none⟩ = some (.bool false) := hO.cell 15 rfl (32) (hk32)
    have c9_15_66 : wr.cell? ⟨pb, 66, none⟩ = some (.int .u32 src) := hO.cell 15 rfl (66) (hk66)
    have c9_15_104 : wr.cell? ⟨pb, 104, none⟩ = some (.pointer (some ⟨ms, 0, none⟩)) := hO.cell 15 rfl (104) (hk104)
    have c9_15_105 : wr.cell? ⟨pb, 105, none⟩ = some (.pointer none) := hO.cell 15 rfl (105) (hk105)
    have c9_15_106 : wr.cell? ⟨pb, 106, none⟩ = some (.slice (some ⟨sb, 0, none⟩) n (n + c)) := hO.cell 15 rfl (106) (hk106)
    have c9_15_117 : wr.cell? ⟨pb, 117, none⟩ = some (.map (some mp)) := hO.cell 15 rfl (117) (hk117)
    have c9_15_187 : wr.cell? ⟨pb, 187, none⟩ = some (.pointer (some ⟨ms, 0, none⟩)) := hO.cell 15 rfl (187) (hk187)
    have c9_15_199 : wr.cell? ⟨pb, 199, none⟩ = some (.slice none 0 0) := hO.cell 15 rfl (199) (hk199)
    have c9_15_287 : wr.cell? ⟨pb, 287, none⟩ = some (.int .i64 (i : Int)) := hO.cell 15 rfl (287) (hk287)
    have c9_15_350 : wr.cell? ⟨pb, 350, none⟩ = some (.bool false) := hO.cell 15 rfl (350) (hk350)
    have lt9_15 : pb < wr.heap.size := hO.lt 15 rfl
    have y9_15 : ∀ o, wr.frozen? ⟨pb, o, none⟩ = false := hO.free 15 rfl
    have c9_18_5 : wr.cell? ⟨ms, 5, none⟩ = some (.slice none 0 0) := hO.cell 18 rfl (5) (hgen)
    have c9_18_15 : wr.cell? ⟨ms, 15, none⟩ = some (.int .u8 6) := hO.cell 18 rfl (15) (hkind)
    have lt9_18 : ms < wr.heap.size := hO.lt 18 rfl
    have y9_18 : ∀ o, wr.frozen? ⟨ms, o, none⟩ = false := hO.free 18 rfl
    have HO := Lib.hid hO
    clear hO
    go_wp2_with (first | (with_reducible refine Own.stay (fn := Tryz.f45) ?_) | (at_lookup; refine wpList_lookup_im_no (l := [(202, ob), (205, ab)]) rfl rfl Tryz.underlying246 ktI (Base.MapAt.alloc (HO.out.mapAt 9 rfl) _) rfl rfl (.bool false) (Tryz.zeroValue4 _) rfl ?_))
    try with_reducible refine Own.Stay.mk ?_
    have hO := HO.out
    clear HO hix9 hax9 ix9_0 ix9_1 ix9_2 ix9_3 ix9_4 ix9_5 ix9_6 ix9_7 ix9_8 ix9_9 ix9_10 ix9_11 ix9_12 ix9_13 ix9_14 ix9_15 ix9_16 ix9_17 ix9_18 ix9 c9_0_0 c9_0_1 lt9_0 y9_0 pl9_0 c9_1_0 c9_1_1 lt9_1 y9_1 pl9_1 c9_2_0 lt9_2 y9_2 c9_3_0 lt9_3 y9_3 c9_4_0 lt9_4 y9_4 c9_5_0 lt9_5 y9_5 c9_6_0 lt9_6 y9_6 c9_7_0 lt9_7 y9_7 c9_8_0 lt9_8 y9_8 c9_10_0 c9_10_1 lt9_10 y9_10 pl9_10 c9_11_0 c9_11_1 c9_11_2 c9_11_3 c9_11_4 lt9_11 y9_11 pl9_12 c9_12_j_2 c9_12_j_2_1 lt9_12 y9_12 c9_13_0 c9_13_1 c9_13_2 c9_13_3 c9_13_4 lt9_13 y9_13 c9_14_0 c9_14_1 c9_14_2 c9_14_3 c9_14_4 c9_14_5 c9_14_6 c9_14_7 c9_14_8 c9_14_9 c9_14_10 c9_14_11 lt9_14 y9_14 c9_15_32 c9_15_66 c9_15_104 c9_15_105 c9_15_106 c9_15_117 c9_15_187 c9_15_199 c9_15_287 c9_15_350 lt9_15 y9_15 c9_18_5 c9_18_15 lt9_18 y9_18
    generalize hW : World.alloc _ _ = W18
    have hN : Own w0 W18 [row (wr.heap.size) 29 #[.iface 56 (.pointer (some ⟨vn, 0, none⟩)), .int .i32 0], row (B1_1) 29 #[.iface 56 (.pointer (some ⟨vi, 0, none⟩)), .int .i32 li], row (B1) 29 #[.iface 205 (.pointer (some ⟨ab, 0, none⟩)), .int .i32 lo], row (xm) 246 #[.map (some mb)], row (xs) 254 #[.func (Fn.func 43) #[] #[.pointer (some ⟨xp, 0, none⟩), .pointer (some ⟨xd, 0, none⟩), .pointer (some ⟨xa, 0, none⟩), .pointer (some ⟨xv, 0, none⟩)]], row (xv) 247 #[.func (Fn.func 45) #[] #[.pointer (some ⟨xm, 0, none⟩), .pointer (some ⟨xs, 0, none⟩), .pointer (some ⟨xr, 0, none⟩), .pointer (some ⟨xp, 0, none⟩), .pointer (some ⟨xo, 0, none⟩), .pointer (some ⟨xa, 0, none⟩)]], row (xp) 22 #[.pointer (some ⟨pb, 0, none⟩)], row (xd) 214 #[.int .u8 0], row (xa) 210 #[.func (Fn.func 25) #[] #[.pointer (some ⟨eb, 0, none⟩)]], row (xr) 251 #[.func (Fn.func 42) #[] #[.pointer (some ⟨xc, 0, none⟩), .pointer (some ⟨xa, 0, none⟩), .pointer (some ⟨xp, 0, none⟩)]], ((mb, .map (imA [(202, ob), (205, ab)]) 2) : Rw), row (eb) 29 #[.nilIface, .int .i32 wa], row (ab) 207 #[.slice (some ⟨ib, 0, none⟩) (mm + 1 + tt) (mm + 1 + tt + ci), .int .i32 0, .int .i32 0, .bool false, .bool false], row (ib) 29 (full exZ IL ci), row (ob) 204 #[.slice (some ⟨pr, 0, none⟩) 1 (1 + cp), .int .i32 0, .int .i32 0, .bool false, .bool false], row (pr) 52 (full prZ [.pointer none, .nilIface, .int .i32 0, .iface 56 (.pointer (some ⟨vb, 0, none⟩)), .int .i32 0, .nilIface, .int .i32 0, .slice none 0 0, .int .i32 0, .int .i32 0, .int .u8 5, .int .u8 0] cp), row (pb) 182 PC, row (sb) 201 (full symZ (symL st) c), ((mp, .map es k) : Rw), row (ms) 194 MC] X := by
      rw [← hW]
      exact (hO).alloc' _ (wr.heap.size) (by simp)
    clear hW hO
    generalize wr.heap.size = B17 at hN ⊢
    have hO := hN
    clear hN
    go_roundg gq
    case measure => omega
    case rel => exact ⟨j + 1, by omega, by omega, by first | rfl | simp, hO.sub [1, 2, 3, 4, 5, 6, 7, 8, 9, 10, 11, 12, 13, 14, 15, 16, 17, 18, 19] (by decide)⟩
end Go.Proofs.YtghofdhhhbbaaaaGreatDoor.Use
