/- The lowering of an exponent's assignment to obj.name, walked: the doors. No condition. -/
import Derived.Test.YtlgefnjkoklboaaDoorOwn
import Derived.Test.YtlgefnjkoklboaaDoorDeepCells
import Derived.Test.YtlgefnjkoklboaaDoorRows
import Derived.Test.YtlgefnjkoklboaaDoorUse
import Derived.Test.YtlgefnjkoklboaaDoorPow
import Derived.Test.YtlgefnjkoklboaaDoorNoPriv
import Derived.Test.YtlgefnjkoklboaaDoorPowFn
import Derived.Test.YtlgefnjkoklboaaDoorCapO
import Derived.Test.YtlgefnjkoklboaaDoorLowDotA
namespace Go.Proofs.YtlgefnjkoklboaaDoor.Use
open Go.ChangeShapes Go.WideShapes Go.ChangeAt Go.RowKit Go.Sort Own
set_option linter.unusedVariables false
def rLB1E (pb : Nat) (sb : Nat) (PC : Array Value) (C : Array Value) (mp : Nat) (ps : Int) (j : Nat) (i : Nat) (src : Int) (ib : Nat) (db : Nat) (tl : Int) (nm : ByteArray) (nl : Int) (eb : Nat) (ll : Int) (TR : Nat) (xr : Nat) (lr : Int) (o0 : Int) (o1 : Bool) (loc : Int) (B1_3 : Nat) (B1_2 : Nat) (B1_1 : Nat) (B1 : Nat) : Nat → Rega.Atoms → Value
  | 0, α => .pointer (some ⟨pb, 0, none⟩)
  | 1, α => .pointer (some ⟨eb, 0, none⟩)
  | 2, α => .pointer (some ⟨eb, 0, none⟩)
  | 3, α => .pointer (some ⟨eb, 0, none⟩)
  | 4, α => .agg #[.iface 81 (.pointer (some ⟨db, 0, none⟩)), .int .i32 ll]
  | 5, α => .tuple #[.agg #[.nilIface, .int .i32 0], .agg #[.int .i32 0], .pointer none]
  | 6, α => .tuple #[.agg #[.nilIface, .int .i32 0], .agg #[.int .i32 0], .pointer none]
  | 7, α => .agg #[.nilIface, .int .i32 0]
  | 8, α => .agg #[.int .i32 0]
  | 9, α => .pointer none
  | 10, α => .pointer (some ⟨α 10, 0, none⟩)
  | 11, α => .pointer (some ⟨α 11, 0, none⟩)
  | 12, α => undef
  | 13, α => undef
  | 14, α => .pointer none
  | _, _ => undef
def rLB1Anc : Nat → List Nat
  | 2 => [1]
  | 3 => [1, 2]
  | 4 => [1, 2, 3]
  | 5 => [0, 1, 2, 3, 4]
  | 6 => [0, 1, 2, 3, 4, 5]
  | 7 => [0, 1, 2, 3, 4, 5, 6]
  | 8 => [0, 1, 2, 3, 4, 5, 6]
  | 9 => [0, 1, 2, 3, 4, 5, 6]
  | 12 => [0, 1, 2, 3, 4, 5, 6, 7, 10, 11]
  | 13 => [0, 1, 2, 3, 4, 5, 6, 7, 8, 10, 11, 12]
  | 14 => [0, 1, 2, 3, 4, 5, 6, 7, 8, 9, 10, 11, 12, 13]
  | _ => []
def rLB1Trn : Nat → List Nat
  | 12 => [10]
  | 13 => [11]
  | _ => []
def rLB1Cnt : List (Nat × Nat) := [(10, 1), (11, 1)]
def rLB1T10 (pb : Nat) (sb : Nat) (PC : Array Value) (C : Array Value) (mp : Nat) (ps : Int) (j : Nat) (i : Nat) (src : Int) (ib : Nat) (db : Nat) (tl : Int) (nm : ByteArray) (nl : Int) (eb : Nat) (ll : Int) (TR : Nat) (xr : Nat) (lr : Int) (o0 : Int) (o1 : Bool) (loc : Int) (B1_3 : Nat) (B1_2 : Nat) (B1_1 : Nat) (B1 : Nat) (L9 : Nat → Bool) (α : Rega.Atoms) : Rw := if L9 12 = true then row (α 10) 34 #[.nilIface, .int .i32 0] else row (α 10) 34 #[.nilIface, .int .i32 0]
def rLB1T11 (pb : Nat) (sb : Nat) (PC : Array Value) (C : Array Value) (mp : Nat) (ps : Int) (j : Nat) (i : Nat) (src : Int) (ib : Nat) (db : Nat) (tl : Int) (nm : ByteArray) (nl : Int) (eb : Nat) (ll : Int) (TR : Nat) (xr : Nat) (lr : Int) (o0 : Int) (o1 : Bool) (loc : Int) (B1_3 : Nat) (B1_2 : Nat) (B1_1 : Nat) (B1 : Nat) (L9 : Nat → Bool) (α : Rega.Atoms) : Rw := if L9 13 = true then row (α 11) 32 #[.int .i32 0] else row (α 11) 32 #[.int .i32 0]
def rLB1R (pb : Nat) (sb : Nat) (PC : Array Value) (C : Array Value) (mp : Nat) (ps : Int) (j : Nat) (i : Nat) (src : Int) (ib : Nat) (db : Nat) (tl : Int) (nm : ByteArray) (nl : Int) (eb : Nat) (ll : Int) (TR : Nat) (xr : Nat) (lr : Int) (o0 : Int) (o1 : Bool) (loc : Int) (B1_3 : Nat) (B1_2 : Nat) (B1_1 : Nat) (B1 : Nat) (L9 : Nat → Bool) (α : Rega.Atoms) (ix9 : Nat) : Rw := if ix9 = 999 then row (B1_3) 34 #[.nilIface, .int .i32 0] else if ix9 = 1999 then row (B1_2) 41 #[.pointer (some ⟨eb, 0, none⟩)] else if ix9 = 2999 then row (B1_1) 32 #[.int .i32 loc] else if ix9 = 3999 then row (B1) 23 #[.pointer (some ⟨pb, 0, none⟩)] else if ix9 = 4999 then row (pb) 207 PC else if ix9 = 5999 then row (sb) 223 C else if ix9 = 6999 then (mp, .map #[⟨.string ⟨#[95, 95, 112, 111, 119]⟩, .agg #[.int .i32 0, .int .u32 ps, .int .u32 (j : Int)], 0⟩] 1) else if ix9 = 7999 then row (eb) 47 #[.iface 81 (.pointer (some ⟨db, 0, none⟩)), .int .i32 ll, .iface TR (.pointer (some ⟨xr, 0, none⟩)), .int .i32 lr, .int .u8 o0, .bool o1] else if ix9 = 8999 then row (db) 85 #[.iface 55 (.pointer (some ⟨ib, 0, none⟩)), .int .i32 tl, .string nm, .int .i32 nl, .int .u8 0, .bool false, .bool false, .bool false] else if ix9 = 9999 then row (ib) 214 #[.int .u32 src, .int .u32 (i : Int), .bool false, .bool false, .bool false] else if ix9 = 10 then rLB1T10 pb sb PC C mp ps j i src ib db tl nm nl eb ll TR xr lr o0 o1 loc B1_3 B1_2 B1_1 B1 L9 α else if ix9 = 11 then rLB1T11 pb sb PC C mp ps j i src ib db tl nm nl eb ll TR xr lr o0 o1 loc B1_3 B1_2 B1_1 B1 L9 α else (0, .map #[] 0)
theorem rLB1_he (pb : Nat) (sb : Nat) (PC : Array Value) (C : Array Value) (mp : Nat) (ps : Int) (j : Nat) (i : Nat) (src : Int) (ib : Nat) (db : Nat) (tl : Int) (nm : ByteArray) (nl : Int) (eb : Nat) (ll : Int) (TR : Nat) (xr : Nat) (lr : Int) (o0 : Int) (o1 : Bool) (loc : Int) (B1_3 : Nat) (B1_2 : Nat) (B1_1 : Nat) (B1 : Nat) : ∀ kk α α', (∀ j, (j % 1000 = kk ∨ j % 1000 ∈ rLB1Anc kk) → α j = α' j) → rLB1E pb sb PC C mp ps j i src ib db tl nm nl eb ll TR xr lr o0 o1 loc B1_3 B1_2 B1_1 B1 kk α = rLB1E pb sb PC C mp ps j i src ib db tl nm nl eb ll TR xr lr o0 o1 loc B1_3 B1_2 B1_1 B1 kk α' := by
  intro kk α α' h
  match kk with
  | 0 => rfl
  | 1 => rfl
  | 2 => rfl
  | 3 => rfl
  | 4 => rfl
  | 5 => rfl
  | 6 => rfl
  | 7 => rfl
  | 8 => rfl
  | 9 => rfl
  | 10 => simp only [rLB1E, h 10 (Or.inl rfl)]
  | 11 => simp only [rLB1E, h 11 (Or.inl rfl)]
  | 12 => rfl
  | 13 => rfl
  | 14 => rfl
  | n + 15 => rfl
theorem rLB1_st (pb : Nat) (sb : Nat) (PC : Array Value) (C : Array Value) (mp : Nat) (ps : Int) (j : Nat) (i : Nat) (src : Int) (ib : Nat) (db : Nat) (tl : Int) (nm : ByteArray) (nl : Int) (eb : Nat) (ll : Int) (TR : Nat) (xr : Nat) (lr : Int) (o0 : Int) (o1 : Bool) (loc : Int) (B1_3 : Nat) (B1_2 : Nat) (B1_1 : Nat) (B1 : Nat) : Stable rLB1Cnt 10 rLB1Anc rLB1Trn (rLB1R pb sb PC C mp ps j i src ib db tl nm nl eb ll TR xr lr o0 o1 loc B1_3 B1_2 B1_1 B1) := by
  intro k9 L9 α α' ix9 hk hcl hα hact ht
  have hp := act_places hact
  replace hp : ix9 ∈ [999, 1999, 2999, 3999, 4999, 5999, 6999, 7999, 8999, 9999, 10, 11] := hp
  simp only [List.mem_cons, List.not_mem_nil, or_false] at hp
  rcases hp with rfl | rfl | rfl | rfl | rfl | rfl | rfl | rfl | rfl | rfl | rfl | rfl
  · rfl
  · rfl
  · rfl
  · rfl
  · rfl
  · rfl
  · rfl
  · rfl
  · rfl
  · rfl
  · have e0 : L9 10 = true := act_lt hact (by decide)
    show rLB1T10 pb sb PC C mp ps j i src ib db tl nm nl eb ll TR xr lr o0 o1 loc B1_3 B1_2 B1_1 B1 (Rega.ran L9 k9) α' = rLB1T10 pb sb PC C mp ps j i src ib db tl nm nl eb ll TR xr lr o0 o1 loc B1_3 B1_2 B1_1 B1 L9 α
    unfold rLB1T10
    have n12 : 12 ≠ k9 := fun e => ht (by rw [← e]; decide)
    rw [ran_ne n12]
    by_cases e12 : L9 12 = true
    · first | rw [if_pos e12, if_pos e12] | rw [if_pos e12]
      try simp only [hα 10 (ne_ran hk (hcl 12 e12 10 (by decide)))]
    first | rw [if_neg e12, if_neg e12] | rw [if_neg e12]
    try simp only [hα 10 (ne_ran hk e0)]
  · have e0 : L9 11 = true := act_lt hact (by decide)
    show rLB1T11 pb sb PC C mp ps j i src ib db tl nm nl eb ll TR xr lr o0 o1 loc B1_3 B1_2 B1_1 B1 (Rega.ran L9 k9) α' = rLB1T11 pb sb PC C mp ps j i src ib db tl nm nl eb ll TR xr lr o0 o1 loc B1_3 B1_2 B1_1 B1 L9 α
    unfold rLB1T11
    have n13 : 13 ≠ k9 := fun e => ht (by rw [← e]; decide)
    rw [ran_ne n13]
    by_cases e13 : L9 13 = true
    · first | rw [if_pos e13, if_pos e13] | rw [if_pos e13]
      try simp only [hα 11 (ne_ran hk (hcl 13 e13 11 (by decide)))]
    first | rw [if_neg e13, if_neg e13] | rw [if_neg e13]
    try simp only [hα 11 (ne_ran hk e0)]
def rLB2E (pb : Nat) (sb : Nat) (PC : Array Value) (C : Array Value) (mp : Nat) (ps : Int) (j : Nat) (cj : Nat) (i : Nat) (c : Nat) (cz : Nat) (src : Int) (ib : Nat) (db : Nat) (tl : Int) (nm : ByteArray) (nl : Int) (eb : Nat) (ll : Int) (TR : Nat) (xr : Nat) (lr : Int) (o0 : Int) (o1 : Bool) (loc : Int) (B1_3 : Nat) (B1_2 : Nat) (B1_1 : Nat) (B1 : Nat) (nd3 : Nat) (nd4 : Nat) : Nat → Rega.Atoms → Value
  | 0, α => .pointer (some ⟨pb, 0, none⟩)
  | 1, α => .pointer (some ⟨eb, 0, none⟩)
  | 2, α => .pointer (some ⟨eb, 0, none⟩)
  | 3, α => .pointer (some ⟨eb, 0, none⟩)
  | 4, α => .agg #[.iface 81 (.pointer (some ⟨db, 0, none⟩)), .int .i32 ll]
  | 5, α => .func (Fn.func 48) #[] #[.pointer (some ⟨B1, 0, none⟩), .pointer (some ⟨B1_1, 0, none⟩), .pointer (some ⟨B1_2, 0, none⟩)]
  | 6, α => .agg #[.iface 41 (.pointer (some ⟨α 6, 0, none⟩)), .int .i32 ll]
  | 7, α => undef
  | _, _ => undef
def rLB2Anc : Nat → List Nat
  | 2 => [1]
  | 3 => [1, 2]
  | 4 => [1, 2, 3]
  | 6 => [0, 1, 2, 3, 4, 5]
  | 7 => [0, 1, 2, 3, 4, 5, 6]
  | _ => []
def rLB2Trn : Nat → List Nat
  | 6 => [5999]
  | 7 => [999]
  | _ => []
def rLB2Cnt : List (Nat × Nat) := [(6, 8)]
def rLB2T999 (pb : Nat) (sb : Nat) (PC : Array Value) (C : Array Value) (mp : Nat) (ps : Int) (j : Nat) (cj : Nat) (i : Nat) (c : Nat) (cz : Nat) (src : Int) (ib : Nat) (db : Nat) (tl : Int) (nm : ByteArray) (nl : Int) (eb : Nat) (ll : Int) (TR : Nat) (xr : Nat) (lr : Int) (o0 : Int) (o1 : Bool) (loc : Int) (B1_3 : Nat) (B1_2 : Nat) (B1_1 : Nat) (B1 : Nat) (nd3 : Nat) (nd4 : Nat) (L9 : Nat → Bool) (α : Rega.Atoms) : Rw := if L9 7 = true then row (B1_3) 34 #[.iface 41 (.pointer (some ⟨α 6, 0, none⟩)), .int .i32 ll] else row (B1_3) 34 #[.nilIface, .int .i32 0]
def rLB2T5999 (pb : Nat) (sb : Nat) (PC : Array Value) (C : Array Value) (mp : Nat) (ps : Int) (j : Nat) (cj : Nat) (i : Nat) (c : Nat) (cz : Nat) (src : Int) (ib : Nat) (db : Nat) (tl : Int) (nm : ByteArray) (nl : Int) (eb : Nat) (ll : Int) (TR : Nat) (xr : Nat) (lr : Int) (o0 : Int) (o1 : Bool) (loc : Int) (B1_3 : Nat) (B1_2 : Nat) (B1_1 : Nat) (B1 : Nat) (nd3 : Nat) (nd4 : Nat) (L9 : Nat → Bool) (α : Rega.Atoms) : Rw := if L9 6 = true then row (sb) 223 (bumped (bumped (bumped C i c) i cz) j cj) else row (sb) 223 C
def rLB2R (pb : Nat) (sb : Nat) (PC : Array Value) (C : Array Value) (mp : Nat) (ps : Int) (j : Nat) (cj : Nat) (i : Nat) (c : Nat) (cz : Nat) (src : Int) (ib : Nat) (db : Nat) (tl : Int) (nm : ByteArray) (nl : Int) (eb : Nat) (ll : Int) (TR : Nat) (xr : Nat) (lr : Int) (o0 : Int) (o1 : Bool) (loc : Int) (B1_3 : Nat) (B1_2 : Nat) (B1_1 : Nat) (B1 : Nat) (nd3 : Nat) (nd4 : Nat) (L9 : Nat → Bool) (α : Rega.Atoms) (ix9 : Nat) : Rw := if ix9 = 999 then rLB2T999 pb sb PC C mp ps j cj i c cz src ib db tl nm nl eb ll TR xr lr o0 o1 loc B1_3 B1_2 B1_1 B1 nd3 nd4 L9 α else if ix9 = 1999 then row (B1_2) 41 #[.pointer (some ⟨eb, 0, none⟩)] else if ix9 = 2999 then row (B1_1) 32 #[.int .i32 loc] else if ix9 = 3999 then row (B1) 23 #[.pointer (some ⟨pb, 0, none⟩)] else if ix9 = 4999 then row (pb) 207 PC else if ix9 = 5999 then rLB2T5999 pb sb PC C mp ps j cj i c cz src ib db tl nm nl eb ll TR xr lr o0 o1 loc B1_3 B1_2 B1_1 B1 nd3 nd4 L9 α else if ix9 = 6999 then (mp, .map #[⟨.string ⟨#[95, 95, 112, 111, 119]⟩, .agg #[.int .i32 0, .int .u32 ps, .int .u32 (j : Int)], 0⟩] 1) else if ix9 = 7999 then row (eb) 47 #[.iface 81 (.pointer (some ⟨db, 0, none⟩)), .int .i32 ll, .iface TR (.pointer (some ⟨xr, 0, none⟩)), .int .i32 lr, .int .u8 o0, .bool o1] else if ix9 = 8999 then row (db) 85 #[.iface 55 (.pointer (some ⟨ib, 0, none⟩)), .int .i32 tl, .string nm, .int .i32 nl, .int .u8 0, .bool false, .bool false, .bool false] else if ix9 = 9999 then row (ib) 214 #[.int .u32 src, .int .u32 (i : Int), .bool false, .bool false, .bool false] else if ix9 = 10999 then row (nd3) 34 #[.nilIface, .int .i32 0] else if ix9 = 11999 then row (nd4) 32 #[.int .i32 0] else if ix9 = 6 then row (α 6) 47 #[.iface 81 (.pointer (some ⟨α 4006, 0, none⟩)), .int .i32 ll, .iface 72 (.pointer (some ⟨α 1006, 0, none⟩)), .int .i32 loc, .int .u8 37, .bool false] else if ix9 = 1006 then row (α 1006) 77 #[.iface 55 (.pointer (some ⟨α 2006, 0, none⟩)), .int .i32 loc, .slice (some ⟨α 3006, 0, none⟩) 2 2, .int .i32 0, .int .u8 0, .int .u8 0, .bool false, .bool false] else if ix9 = 2006 then row (α 2006) 214 #[.int .u32 ps, .int .u32 (j : Int), .bool false, .bool false, .bool false] else if ix9 = 3006 then row (α 3006) 34 #[.iface 81 (.pointer (some ⟨α 5006, 0, none⟩)), .int .i32 ll, .iface TR (.pointer (some ⟨xr, 0, none⟩)), .int .i32 lr] else if ix9 = 4006 then row (α 4006) 85 #[.iface 55 (.pointer (some ⟨α 6006, 0, none⟩)), .int .i32 ll, .string nm, .int .i32 nl, .int .u8 0, .bool false, .bool false, .bool false] else if ix9 = 5006 then row (α 5006) 85 #[.iface 55 (.pointer (some ⟨α 7006, 0, none⟩)), .int .i32 ll, .string nm, .int .i32 nl, .int .u8 0, .bool false, .bool false, .bool false] else if ix9 = 6006 then row (α 6006) 214 #[.int .u32 src, .int .u32 (i : Int), .bool false, .bool false, .bool false] else if ix9 = 7006 then row (α 7006) 214 #[.int .u32 src, .int .u32 (i : Int), .bool false, .bool false, .bool false] else (0, .map #[] 0)
theorem rLB2_he (pb : Nat) (sb : Nat) (PC : Array Value) (C : Array Value) (mp : Nat) (ps : Int) (j : Nat) (cj : Nat) (i : Nat) (c : Nat) (cz : Nat) (src : Int) (ib : Nat) (db : Nat) (tl : Int) (nm : ByteArray) (nl : Int) (eb : Nat) (ll : Int) (TR : Nat) (xr : Nat) (lr : Int) (o0 : Int) (o1 : Bool) (loc : Int) (B1_3 : Nat) (B1_2 : Nat) (B1_1 : Nat) (B1 : Nat) (nd3 : Nat) (nd4 : Nat) : ∀ kk α α', (∀ j, (j % 1000 = kk ∨ j % 1000 ∈ rLB2Anc kk) → α j = α' j) → rLB2E pb sb PC C mp ps j cj i c cz src ib db tl nm nl eb ll TR xr lr o0 o1 loc B1_3 B1_2 B1_1 B1 nd3 nd4 kk α = rLB2E pb sb PC C mp ps j cj i c cz src ib db tl nm nl eb ll TR xr lr o0 o1 loc B1_3 B1_2 B1_1 B1 nd3 nd4 kk α' := by
  intro kk α α' h
  match kk with
  | 0 => rfl
  | 1 => rfl
  | 2 => rfl
  | 3 => rfl
  | 4 => rfl
  | 5 => rfl
  | 6 => simp only [rLB2E, h 6 (Or.inl rfl)]
  | 7 => rfl
  | n + 8 => rfl
theorem rLB2_st (pb : Nat) (sb : Nat) (PC : Array Value) (C : Array Value) (mp : Nat) (ps : Int) (j : Nat) (cj : Nat) (i : Nat) (c : Nat) (cz : Nat) (src : Int) (ib : Nat) (db : Nat) (tl : Int) (nm : ByteArray) (nl : Int) (eb : Nat) (ll : Int) (TR : Nat) (xr : Nat) (lr : Int) (o0 : Int) (o1 : Bool) (loc : Int) (B1_3 : Nat) (B1_2 : Nat) (B1_1 : Nat) (B1 : Nat) (nd3 : Nat) (nd4 : Nat) : Stable rLB2Cnt 12 rLB2Anc rLB2Trn (rLB2R pb sb PC C mp ps j cj i c cz src ib db tl nm nl eb ll TR xr lr o0 o1 loc B1_3 B1_2 B1_1 B1 nd3 nd4) := by
  intro k9 L9 α α' ix9 hk hcl hα hact ht
  have hp := act_places hact
  replace hp : ix9 ∈ [999, 1999, 2999, 3999, 4999, 5999, 6999, 7999, 8999, 9999, 10999, 11999, 6, 1006, 2006, 3006, 4006, 5006, 6006, 7006] := hp
  simp only [List.mem_cons, List.not_mem_nil, or_false] at hp
  rcases hp with rfl | rfl | rfl | rfl | rfl | rfl | rfl | rfl | rfl | rfl | rfl | rfl | rfl | rfl | rfl | rfl | rfl | rfl | rfl | rfl
  · show rLB2T999 pb sb PC C mp ps j cj i c cz src ib db tl nm nl eb ll TR xr lr o0 o1 loc B1_3 B1_2 B1_1 B1 nd3 nd4 (Rega.ran L9 k9) α' = rLB2T999 pb sb PC C mp ps j cj i c cz src ib db tl nm nl eb ll TR xr lr o0 o1 loc B1_3 B1_2 B1_1 B1 nd3 nd4 L9 α
    unfold rLB2T999
    have n7 : 7 ≠ k9 := fun e => ht (by rw [← e]; decide)
    rw [ran_ne n7]
    by_cases e7 : L9 7 = true
    · first | rw [if_pos e7, if_pos e7] | rw [if_pos e7]
      try simp only [hα 6 (ne_ran hk (hcl 7 e7 6 (by decide)))]
    first | rw [if_neg e7, if_neg e7] | rw [if_neg e7]
  · rfl
  · rfl
  · rfl
  · rfl
  · show rLB2T5999 pb sb PC C mp ps j cj i c cz src ib db tl nm nl eb ll TR xr lr o0 o1 loc B1_3 B1_2 B1_1 B1 nd3 nd4 (Rega.ran L9 k9) α' = rLB2T5999 pb sb PC C mp ps j cj i c cz src ib db tl nm nl eb ll TR xr lr o0 o1 loc B1_3 B1_2 B1_1 B1 nd3 nd4 L9 α
    unfold rLB2T5999
    have n6 : 6 ≠ k9 := fun e => ht (by rw [← e]; decide)
    rw [ran_ne n6]
  · rfl
  · rfl
  · rfl
  · rfl
  · rfl
  · rfl
  · have e0 : L9 6 = true := act_lt hact (by decide)
    show row (α' 6) 47 #[.iface 81 (.pointer (some ⟨α' 4006, 0, none⟩)), .int .i32 ll, .iface 72 (.pointer (some ⟨α' 1006, 0, none⟩)), .int .i32 loc, .int .u8 37, .bool false] = row (α 6) 47 #[.iface 81 (.pointer (some ⟨α 4006, 0, none⟩)), .int .i32 ll, .iface 72 (.pointer (some ⟨α 1006, 0, none⟩)), .int .i32 loc, .int .u8 37, .bool false]
    simp only [hα 6 (ne_ran hk e0), hα 1006 (ne_ran hk e0), hα 4006 (ne_ran hk e0)]
  · have e0 : L9 6 = true := act_lt hact (by decide)
    show row (α' 1006) 77 #[.iface 55 (.pointer (some ⟨α' 2006, 0, none⟩)), .int .i32 loc, .slice (some ⟨α' 3006, 0, none⟩) 2 2, .int .i32 0, .int .u8 0, .int .u8 0, .bool false, .bool false] = row (α 1006) 77 #[.iface 55 (.pointer (some ⟨α 2006, 0, none⟩)), .int .i32 loc, .slice (some ⟨α 3006, 0, none⟩) 2 2, .int .i32 0, .int .u8 0, .int .u8 0, .bool false, .bool false]
    simp only [hα 1006 (ne_ran hk e0), hα 2006 (ne_ran hk e0), hα 3006 (ne_ran hk e0)]
  · have e0 : L9 6 = true := act_lt hact (by decide)
    show row (α' 2006) 214 #[.int .u32 ps, .int .u32 (j : Int), .bool false, .bool false, .bool false] = row (α 2006) 214 #[.int .u32 ps, .int .u32 (j : Int), .bool false, .bool false, .bool false]
    simp only [hα 2006 (ne_ran hk e0)]
  · have e0 : L9 6 = true := act_lt hact (by decide)
    show row (α' 3006) 34 #[.iface 81 (.pointer (some ⟨α' 5006, 0, none⟩)), .int .i32 ll, .iface TR (.pointer (some ⟨xr, 0, none⟩)), .int .i32 lr] = row (α 3006) 34 #[.iface 81 (.pointer (some ⟨α 5006, 0, none⟩)), .int .i32 ll, .iface TR (.pointer (some ⟨xr, 0, none⟩)), .int .i32 lr]
    simp only [hα 3006 (ne_ran hk e0), hα 5006 (ne_ran hk e0)]
  · have e0 : L9 6 = true := act_lt hact (by decide)
    show row (α' 4006) 85 #[.iface 55 (.pointer (some ⟨α' 6006, 0, none⟩)), .int .i32 ll, .string nm, .int .i32 nl, .int .u8 0, .bool false, .bool false, .bool false] = row (α 4006) 85 #[.iface 55 (.pointer (some ⟨α 6006, 0, none⟩)), .int .i32 ll, .string nm, .int .i32 nl, .int .u8 0, .bool false, .bool false, .bool false]
    simp only [hα 4006 (ne_ran hk e0), hα 6006 (ne_ran hk e0)]
  · have e0 : L9 6 = true := act_lt hact (by decide)
    show row (α' 5006) 85 #[.iface 55 (.pointer (some ⟨α' 7006, 0, none⟩)), .int .i32 ll, .string nm, .int .i32 nl, .int .u8 0, .bool false, .bool false, .bool false] = row (α 5006) 85 #[.iface 55 (.pointer (some ⟨α 7006, 0, none⟩)), .int .i32 ll, .string nm, .int .i32 nl, .int .u8 0, .bool false, .bool false, .bool false]
    simp only [hα 5006 (ne_ran hk e0), hα 7006 (ne_ran hk e0)]
  · have e0 : L9 6 = true := act_lt hact (by decide)
    show row (α' 6006) 214 #[.int .u32 src, .int .u32 (i : Int), .bool false, .bool false, .bool false] = row (α 6006) 214 #[.int .u32 src, .int .u32 (i : Int), .bool false, .bool false, .bool false]
    simp only [hα 6006 (ne_ran hk e0)]
  · have e0 : L9 6 = true := act_lt hact (by decide)
    show row (α' 7006) 214 #[.int .u32 src, .int .u32 (i : Int), .bool false, .bool false, .bool false] = row (α 7006) 214 #[.int .u32 src, .int .u32 (i : Int), .bool false, .bool false, .bool false]
    simp only [hα 7006 (ne_ran hk e0)]
def low37dotPost (pb sb n cap : Nat) (PC C : Array Value) (mp : Nat) (ps : Int) (j cj i c cz : Nat) (src : Int) (ib db : Nat) (tl : Int) (nm : ByteArray) (nl : Int) (eb : Nat) (ll : Int) (TR xr : Nat) (lr o0 : Int) (o1 : Bool) (loc : Int) (w0 : World) (X : Nat → Obj → Prop) (e : Ending) (w' : World) : Prop :=
  ∃ ab : Nat, ∃ ca : Nat, ∃ b : Nat, ∃ sx : Nat, ∃ d1 : Nat, ∃ d2 : Nat, ∃ i1 : Nat, ∃ i2 : Nat, e = .returned (.agg #[.iface 41 (.pointer (some ⟨ab, 0, none⟩)), .int .i32 ll]) ∧ Own w0 w' [row (pb) 207 PC, row (sb) 223 (bumped (bumped (bumped C i c) i cz) j cj), (mp, .map #[⟨.string ⟨#[95, 95, 112, 111, 119]⟩, .agg #[.int .i32 0, .int .u32 ps, .int .u32 (j : Int)], 0⟩] 1), row (eb) 47 #[.iface 81 (.pointer (some ⟨db, 0, none⟩)), .int .i32 ll, .iface TR (.pointer (some ⟨xr, 0, none⟩)), .int .i32 lr, .int .u8 o0, .bool o1], row (db) 85 #[.iface 55 (.pointer (some ⟨ib, 0, none⟩)), .int .i32 tl, .string nm, .int .i32 nl, .int .u8 0, .bool false, .bool false, .bool false], row (ib) 214 #[.int .u32 src, .int .u32 (i : Int), .bool false, .bool false, .bool false], row (ab) 47 #[.iface 81 (.pointer (some ⟨d1, 0, none⟩)), .int .i32 ll, .iface 72 (.pointer (some ⟨ca, 0, none⟩)), .int .i32 loc, .int .u8 37, .bool false], row (ca) 77 #[.iface 55 (.pointer (some ⟨b, 0, none⟩)), .int .i32 loc, .slice (some ⟨sx, 0, none⟩) 2 2, .int .i32 0, .int .u8 0, .int .u8 0, .bool false, .bool false], row (b) 214 #[.int .u32 ps, .int .u32 (j : Int), .bool false, .bool false, .bool false], row (sx) 34 #[.iface 81 (.pointer (some ⟨d2, 0, none⟩)), .int .i32 ll, .iface TR (.pointer (some ⟨xr, 0, none⟩)), .int .i32 lr], row (d1) 85 #[.iface 55 (.pointer (some ⟨i1, 0, none⟩)), .int .i32 ll, .string nm, .int .i32 nl, .int .u8 0, .bool false, .bool false, .bool false], row (d2) 85 #[.iface 55 (.pointer (some ⟨i2, 0, none⟩)), .int .i32 ll, .string nm, .int .i32 nl, .int .u8 0, .bool false, .bool false, .bool false], row (i1) 214 #[.int .u32 src, .int .u32 (i : Int), .bool false, .bool false, .bool false], row (i2) 214 #[.int .u32 src, .int .u32 (i : Int), .bool false, .bool false, .bool false]] X
set_option maxRecDepth 100000 in
set_option maxHeartbeats 1000000 in
theorem low37dot (pb sb n cap : Nat) (PC C : Array Value) (mp : Nat) (ps : Int) (j cj i c cz : Nat) (src : Int) (ib db : Nat) (tl : Int) (nm : ByteArray) (nl : Int) (eb : Nat) (ll : Int) (TR xr : Nat) (lr o0 : Int) (o1 : Bool) (loc : Int) (w0 w : World) (X : Nat → Obj → Prop) (hO : Own w0 w [row (pb) 207 PC, row (sb) 223 C, (mp, .map #[⟨.string ⟨#[95, 95, 112, 111, 119]⟩, .agg #[.int .i32 0, .int .u32 ps, .int .u32 (j : Int)], 0⟩] 1), row (eb) 47 #[.iface 81 (.pointer (some ⟨db, 0, none⟩)), .int .i32 ll, .iface TR (.pointer (some ⟨xr, 0, none⟩)), .int .i32 lr, .int .u8 o0, .bool o1], row (db) 85 #[.iface 55 (.pointer (some ⟨ib, 0, none⟩)), .int .i32 tl, .string nm, .int .i32 nl, .int .u8 0, .bool false, .bool false, .bool false], row (ib) 214 #[.int .u32 src, .int .u32 (i : Int), .bool false, .bool false, .bool false]] X) (hR : Ready PC sb n cap) (hn : n ≤ 4294967295) (hi : i < n) (hc : C[i * 10 + 4]? = some (.int .u32 (c : Int))) (hcm : c < 4294967295) (hc2 : (bumped C i c)[i * 10 + 4]? = some (.int .u32 (cz : Int))) (hcm2 : cz < 4294967295) (hj : j < n) (hcj : (bumped (bumped C i c) i cz)[j * 10 + 4]? = some (.int .u32 (cj : Int))) (hcjm : cj < 4294967295) (hm : PC[117]? = some (.map (some mp))) :
    Calls Tryd.prog 37 #[.pointer (some ⟨pb, 0, none⟩), .agg #[.int .i32 loc], .pointer (some ⟨eb, 0, none⟩)] w (low37dotPost pb sb n cap PC C mp ps j cj i c cz src ib db tl nm nl eb ll TR xr lr o0 o1 loc w0 X) := by
  go_enter Tryd.func37, Tryd.ntmps37
  have c9_3_0 : w.cell? ⟨eb, 0, none⟩ = some (.iface 81 (.pointer (some ⟨db, 0, none⟩))) := hO.cell 3 rfl 0 rfl
  have c9_3_1 : w.cell? ⟨eb, 1, none⟩ = some (.int .i32 ll) := hO.cell 3 rfl 1 rfl
  have c9_3_2 : w.cell? ⟨eb, 2, none⟩ = some (.iface TR (.pointer (some ⟨xr, 0, none⟩))) := hO.cell 3 rfl 2 rfl
  have c9_3_3 : w.cell? ⟨eb, 3, none⟩ = some (.int .i32 lr) := hO.cell 3 rfl 3 rfl
  have c9_3_4 : w.cell? ⟨eb, 4, none⟩ = some (.int .u8 o0) := hO.cell 3 rfl 4 rfl
  have c9_3_5 : w.cell? ⟨eb, 5, none⟩ = some (.bool o1) := hO.cell 3 rfl 5 rfl
  have lt9_3 : eb < w.heap.size := hO.lt 3 rfl
  have y9_3 : ∀ o, w.frozen? ⟨eb, o, none⟩ = false := hO.free 3 rfl
  have c9_4_0 : w.cell? ⟨db, 0, none⟩ = some (.iface 55 (.pointer (some ⟨ib, 0, none⟩))) := hO.cell 4 rfl 0 rfl
  have c9_4_1 : w.cell? ⟨db, 1, none⟩ = some (.int .i32 tl) := hO.cell 4 rfl 1 rfl
  have c9_4_2 : w.cell? ⟨db, 2, none⟩ = some (.string nm) := hO.cell 4 rfl 2 rfl
  have c9_4_3 : w.cell? ⟨db, 3, none⟩ = some (.int .i32 nl) := hO.cell 4 rfl 3 rfl
  have c9_4_4 : w.cell? ⟨db, 4, none⟩ = some (.int .u8 0) := hO.cell 4 rfl 4 rfl
  have c9_4_5 : w.cell? ⟨db, 5, none⟩ = some (.bool false) := hO.cell 4 rfl 5 rfl
  have c9_4_6 : w.cell? ⟨db, 6, none⟩ = some (.bool false) := hO.cell 4 rfl 6 rfl
  have c9_4_7 : w.cell? ⟨db, 7, none⟩ = some (.bool false) := hO.cell 4 rfl 7 rfl
  have lt9_4 : db < w.heap.size := hO.lt 4 rfl
  have y9_4 : ∀ o, w.frozen? ⟨db, o, none⟩ = false := hO.free 4 rfl
  have c9_5_0 : w.cell? ⟨ib, 0, none⟩ = some (.int .u32 src) := hO.cell 5 rfl 0 rfl
  have c9_5_1 : w.cell? ⟨ib, 1, none⟩ = some (.int .u32 (i : Int)) := hO.cell 5 rfl 1 rfl
  have c9_5_2 : w.cell? ⟨ib, 2, none⟩ = some (.bool false) := hO.cell 5 rfl 2 rfl
  have c9_5_3 : w.cell? ⟨ib, 3, none⟩ = some (.bool false) := hO.cell 5 rfl 3 rfl
  have c9_5_4 : w.cell? ⟨ib, 4, none⟩ = some (.bool false) := hO.cell 5 rfl 4 rfl
  have lt9_5 : ib < w.heap.size := hO.lt 5 rfl
  have y9_5 : ∀ o, w.frozen? ⟨ib, o, none⟩ = false := hO.free 5 rfl
  have HO := Lib.hid hO
  clear hO
  go_wp2_with fail
  have hO := HO.out
  clear HO c9_3_0 c9_3_1 c9_3_2 c9_3_3 c9_3_4 c9_3_5 lt9_3 y9_3 c9_4_0 c9_4_1 c9_4_2 c9_4_3 c9_4_4 c9_4_5 c9_4_6 c9_4_7 lt9_4 y9_4 c9_5_0 c9_5_1 c9_5_2 c9_5_3 c9_5_4 lt9_5 y9_5
  generalize hW : World.alloc _ _ = W2
  have hN : Own w0 W2 [row (w.heap.size + 1 + 1 + 1) 34 #[.nilIface, .int .i32 0], row (w.heap.size + 1 + 1) 41 #[.pointer (some ⟨eb, 0, none⟩)], row (w.heap.size + 1) 32 #[.int .i32 loc], row (w.heap.size) 23 #[.pointer (some ⟨pb, 0, none⟩)], row (pb) 207 PC, row (sb) 223 C, (mp, .map #[⟨.string ⟨#[95, 95, 112, 111, 119]⟩, .agg #[.int .i32 0, .int .u32 ps, .int .u32 (j : Int)], 0⟩] 1), row (eb) 47 #[.iface 81 (.pointer (some ⟨db, 0, none⟩)), .int .i32 ll, .iface TR (.pointer (some ⟨xr, 0, none⟩)), .int .i32 lr, .int .u8 o0, .bool o1], row (db) 85 #[.iface 55 (.pointer (some ⟨ib, 0, none⟩)), .int .i32 tl, .string nm, .int .i32 nl, .int .u8 0, .bool false, .bool false, .bool false], row (ib) 214 #[.int .u32 src, .int .u32 (i : Int), .bool false, .bool false, .bool false]] X := by
    rw [← hW]
    exact ((((hO).alloc' _ (w.heap.size) (by simp)).alloc' _ (w.heap.size + 1) (by simp)).alloc' _ (w.heap.size + 1 + 1) (by simp)).alloc' _ (w.heap.size + 1 + 1 + 1) (by simp)
  clear hW hO
  generalize w.heap.size + 1 + 1 + 1 = B1_3 at hN ⊢
  generalize w.heap.size + 1 + 1 = B1_2 at hN ⊢
  generalize w.heap.size + 1 = B1_1 at hN ⊢
  generalize w.heap.size = B1 at hN ⊢
  have hO := hN
  clear hN
  refine wp_region_own (e := rLB1E pb sb PC C mp ps j i src ib db tl nm nl eb ll TR xr lr o0 o1 loc B1_3 B1_2 B1_1 B1) (anc := rLB1Anc) (G := (fun L9 α u9 => OwnF w0 u9 (act rLB1Cnt 10 L9) (rLB1R pb sb PC C mp ps j i src ib db tl nm nl eb ll TR xr lr o0 o1 loc B1_3 B1_2 B1_1 B1 L9 α) X)) (by kernel_rfl) (by kernel_rfl) (by kernel_rfl) (by kernel_rfl) (rLB1_he pb sb PC C mp ps j i src ib db tl nm nl eb ll TR xr lr o0 o1 loc B1_3 B1_2 B1_1 B1) ?_ (RunsAll.all ?_) ?_
  · have hp : ∀ i, act rLB1Cnt 10 (fun _ => false) i → i ∈ [999, 1999, 2999, 3999, 4999, 5999, 6999, 7999, 8999, 9999] := by
      intro i hi
      have h9 : i % 1000 = 999 := by
        by_cases h : i % 1000 = 999
        · exact h
        · exact absurd (act_lt hi h) (by simp)
      unfold act at hi
      rw [if_pos h9] at hi
      simp only [List.mem_cons, List.not_mem_nil, or_false]
      omega
    refine hO.drew.family (fun i hi => ?_) (fun i j hi hj hij => ?_)
    · have := hp i hi
      simp only [List.mem_cons, List.not_mem_nil, or_false] at this
      rcases this with rfl | rfl | rfl | rfl | rfl | rfl | rfl | rfl | rfl | rfl <;> rfl
    · have h1 := hp i hi
      have h2 := hp j hj
      simp only [List.mem_cons, List.not_mem_nil, or_false] at h1 h2
      omega
  · refine ⟨?_, ?_, ?_, ?_, ?_, ?_, ?_, ?_, ?_, ?_, ?_, ?_, ?_, ?_, ?_, trivial⟩
    · intro L9 α a9 u9 K9 hL hcl hA hG hS h0 hK
      replace hL : L9 0 = false := hL
      have q3 : a9.tmps[3]? = some (.pointer (some ⟨B1, 0, none⟩)) := (h0 3 (by kernel_rfl)).trans rfl
      have s3 := Rega.eval_of q3
      have e0 : rLB1R pb sb PC C mp ps j i src ib db tl nm nl eb ll TR xr lr o0 o1 loc B1_3 B1_2 B1_1 B1 L9 α 3999 = row (B1) 23 #[.pointer (some ⟨pb, 0, none⟩)] := rfl
      have hr := hG.rowAt 3999 (act_base 3999 rfl) e0
      have c0 : u9.cell? ⟨B1, 0, none⟩ = some (.pointer (some ⟨pb, 0, none⟩)) := hr.cell rfl
      clear hr e0
      go_simp
      exact hK _ α _ (fun _ _ => rfl) rfl (step_same (rLB1_st pb sb PC C mp ps j i src ib db tl nm nl eb ll TR xr lr o0 o1 loc B1_3 B1_2 B1_1 B1) hL hcl rfl rfl hG)
    · intro L9 α a9 u9 K9 hL hcl hA hG hS h0 hK
      replace hL : L9 1 = false := hL
      have q5 : a9.tmps[5]? = some (.pointer (some ⟨B1_2, 0, none⟩)) := (h0 5 (by kernel_rfl)).trans rfl
      have s5 := Rega.eval_of q5
      have e0 : rLB1R pb sb PC C mp ps j i src ib db tl nm nl eb ll TR xr lr o0 o1 loc B1_3 B1_2 B1_1 B1 L9 α 1999 = row (B1_2) 41 #[.pointer (some ⟨eb, 0, none⟩)] := rfl
      have hr := hG.rowAt 1999 (act_base 1999 rfl) e0
      have c0 : u9.cell? ⟨B1_2, 0, none⟩ = some (.pointer (some ⟨eb, 0, none⟩)) := hr.cell rfl
      clear hr e0
      go_simp
      exact hK _ α _ (fun _ _ => rfl) rfl (step_same (rLB1_st pb sb PC C mp ps j i src ib db tl nm nl eb ll TR xr lr o0 o1 loc B1_3 B1_2 B1_1 B1) hL hcl rfl rfl hG)
    · intro L9 α a9 u9 K9 hL hcl hA hG hS h0 hK
      replace hL : L9 2 = false := hL
      have q14 : a9.tmps[14]? = some (.pointer (some ⟨eb, 0, none⟩)) := hS 1 14 (by decide) rfl (by show 14 < 60; decide)
      have s14 := Rega.eval_of q14
      go_simp
      exact hK _ α _ (fun _ _ => rfl) rfl (step_same (rLB1_st pb sb PC C mp ps j i src ib db tl nm nl eb ll TR xr lr o0 o1 loc B1_3 B1_2 B1_1 B1) hL hcl rfl rfl hG)
    · intro L9 α a9 u9 K9 hL hcl hA hG hS h0 hK
      replace hL : L9 3 = false := hL
      have q15 : a9.tmps[15]? = some (.pointer (some ⟨eb, 0, none⟩)) := hS 2 15 (by decide) rfl (by show 15 < 60; decide)
      have s15 := Rega.eval_of q15
      go_simp
      exact hK _ α _ (fun _ _ => rfl) rfl (step_same (rLB1_st pb sb PC C mp ps j i src ib db tl nm nl eb ll TR xr lr o0 o1 loc B1_3 B1_2 B1_1 B1) hL hcl rfl rfl hG)
    · intro L9 α a9 u9 K9 hL hcl hA hG hS h0 hK
      replace hL : L9 4 = false := hL
      have q16 : a9.tmps[16]? = some (.pointer (some ⟨eb, 0, none⟩)) := hS 3 16 (by decide) rfl (by show 16 < 60; decide)
      have s16 := Rega.eval_of q16
      have e0 : rLB1R pb sb PC C mp ps j i src ib db tl nm nl eb ll TR xr lr o0 o1 loc B1_3 B1_2 B1_1 B1 L9 α 7999 = row (eb) 47 #[.iface 81 (.pointer (some ⟨db, 0, none⟩)), .int .i32 ll, .iface TR (.pointer (some ⟨xr, 0, none⟩)), .int .i32 lr, .int .u8 o0, .bool o1] := rfl
      have hr := hG.rowAt 7999 (act_base 7999 rfl) e0
      have c0 : u9.cell? ⟨eb, 0, none⟩ = some (.iface 81 (.pointer (some ⟨db, 0, none⟩))) := hr.cell rfl
      have c1 : u9.cell? ⟨eb, 1, none⟩ = some (.int .i32 ll) := hr.cell rfl
      clear hr e0
      go_simp
      exact hK _ α _ (fun _ _ => rfl) rfl (step_same (rLB1_st pb sb PC C mp ps j i src ib db tl nm nl eb ll TR xr lr o0 o1 loc B1_3 B1_2 B1_1 B1) hL hcl rfl rfl hG)
    · intro L9 α a9 u9 K9 hL hcl hA hG hS h0 hK
      replace hL : L9 5 = false := hL
      have q13 : a9.tmps[13]? = some (.pointer (some ⟨pb, 0, none⟩)) := hS 0 13 (by decide) rfl (by show 13 < 60; decide)
      have s13 := Rega.eval_of q13
      have q17 : a9.tmps[17]? = some (.agg #[.iface 81 (.pointer (some ⟨db, 0, none⟩)), .int .i32 ll]) := hS 4 17 (by decide) rfl (by show 17 < 60; decide)
      have s17 := Rega.eval_of q17
      go_simp
      refine Calls.mono (noPriv _ 81 db ll _ (by decide)) ?_
      rintro e9 u1 ⟨rfl, hb⟩
      exact hK _ α _ (fun _ _ => rfl) rfl (step_below (rLB1_st pb sb PC C mp ps j i src ib db tl nm nl eb ll TR xr lr o0 o1 loc B1_3 B1_2 B1_1 B1) hL hcl rfl rfl hG hb)
    · intro L9 α a9 u9 K9 hL hcl hA hG hS h0 hK
      replace hL : L9 6 = false := hL
      have q18 : a9.tmps[18]? = some (.tuple #[.agg #[.nilIface, .int .i32 0], .agg #[.int .i32 0], .pointer none]) := hS 5 18 (by decide) rfl (by show 18 < 60; decide)
      have s18 := Rega.eval_of q18
      go_simp
      exact hK _ α _ (fun _ _ => rfl) rfl (step_same (rLB1_st pb sb PC C mp ps j i src ib db tl nm nl eb ll TR xr lr o0 o1 loc B1_3 B1_2 B1_1 B1) hL hcl rfl rfl hG)
    · intro L9 α a9 u9 K9 hL hcl hA hG hS h0 hK
      replace hL : L9 7 = false := hL
      have q12 : a9.tmps[12]? = some (.tuple #[.agg #[.nilIface, .int .i32 0], .agg #[.int .i32 0], .pointer none]) := hS 6 12 (by decide) rfl (by show 12 < 60; decide)
      have s12 := Rega.eval_of q12
      go_simp
      exact hK _ α _ (fun _ _ => rfl) rfl (step_same (rLB1_st pb sb PC C mp ps j i src ib db tl nm nl eb ll TR xr lr o0 o1 loc B1_3 B1_2 B1_1 B1) hL hcl rfl rfl hG)
    · intro L9 α a9 u9 K9 hL hcl hA hG hS h0 hK
      replace hL : L9 8 = false := hL
      have q12 : a9.tmps[12]? = some (.tuple #[.agg #[.nilIface, .int .i32 0], .agg #[.int .i32 0], .pointer none]) := hS 6 12 (by decide) rfl (by show 12 < 60; decide)
      have s12 := Rega.eval_of q12
      go_simp
      exact hK _ α _ (fun _ _ => rfl) rfl (step_same (rLB1_st pb sb PC C mp ps j i src ib db tl nm nl eb ll TR xr lr o0 o1 loc B1_3 B1_2 B1_1 B1) hL hcl rfl rfl hG)
    · intro L9 α a9 u9 K9 hL hcl hA hG hS h0 hK
      replace hL : L9 9 = false := hL
      have q12 : a9.tmps[12]? = some (.tuple #[.agg #[.nilIface, .int .i32 0], .agg #[.int .i32 0], .pointer none]) := hS 6 12 (by decide) rfl (by show 12 < 60; decide)
      have s12 := Rega.eval_of q12
      go_simp
      exact hK _ α _ (fun _ _ => rfl) rfl (step_same (rLB1_st pb sb PC C mp ps j i src ib db tl nm nl eb ll TR xr lr o0 o1 loc B1_3 B1_2 B1_1 B1) hL hcl rfl rfl hG)
    · intro L9 α a9 u9 K9 hL hcl hA hG hS h0 hK
      replace hL : L9 10 = false := hL
      go_simp
      have e1 : rLB1R pb sb PC C mp ps j i src ib db tl nm nl eb ll TR xr lr o0 o1 loc B1_3 B1_2 B1_1 B1 (Rega.ran L9 10) (fun j => if j = 10 then u9.heap.size else α j) 10 = row (u9.heap.size) 34 #[.nilIface, .int .i32 0] := by
        show rLB1T10 pb sb PC C mp ps j i src ib db tl nm nl eb ll TR xr lr o0 o1 loc B1_3 B1_2 B1_1 B1 (Rega.ran L9 10) (fun j => if j = 10 then u9.heap.size else α j) = _
        unfold rLB1T10
        exact ((if_neg (fun e => (fun e => by have := hcl 12 e 10 (by decide); rw [hL] at this; cases this) ((ran_ne (by decide)).symm.trans e))).trans rfl)
      exact hK _ (fun j => if j = 10 then u9.heap.size else α j) _ (fun j hj => if_neg (fun e => hj (by rw [e]))) rfl (step_alloc (rLB1_st pb sb PC C mp ps j i src ib db tl nm nl eb ll TR xr lr o0 o1 loc B1_3 B1_2 B1_1 B1) hL hcl rfl rfl (by decide) _ e1 hG)
    · intro L9 α a9 u9 K9 hL hcl hA hG hS h0 hK
      replace hL : L9 11 = false := hL
      go_simp
      have e1 : rLB1R pb sb PC C mp ps j i src ib db tl nm nl eb ll TR xr lr o0 o1 loc B1_3 B1_2 B1_1 B1 (Rega.ran L9 11) (fun j => if j = 11 then u9.heap.size else α j) 11 = row (u9.heap.size) 32 #[.int .i32 0] := by
        show rLB1T11 pb sb PC C mp ps j i src ib db tl nm nl eb ll TR xr lr o0 o1 loc B1_3 B1_2 B1_1 B1 (Rega.ran L9 11) (fun j => if j = 11 then u9.heap.size else α j) = _
        unfold rLB1T11
        exact ((if_neg (fun e => (fun e => by have := hcl 13 e 11 (by decide); rw [hL] at this; cases this) ((ran_ne (by decide)).symm.trans e))).trans rfl)
      exact hK _ (fun j => if j = 11 then u9.heap.size else α j) _ (fun j hj => if_neg (fun e => hj (by rw [e]))) rfl (step_alloc (rLB1_st pb sb PC C mp ps j i src ib db tl nm nl eb ll TR xr lr o0 o1 loc B1_3 B1_2 B1_1 B1) hL hcl rfl rfl (by decide) _ e1 hG)
    · intro L9 α a9 u9 K9 hL hcl hA hG hS h0 hK
      replace hL : L9 12 = false := hL
      have q7 : a9.tmps[7]? = some (.pointer (some ⟨α 10, 0, none⟩)) := hS 10 7 (by decide) rfl (by show 7 < 60; decide)
      have s7 := Rega.eval_of q7
      have q19 : a9.tmps[19]? = some (.agg #[.nilIface, .int .i32 0]) := hS 7 19 (by decide) rfl (by show 19 < 60; decide)
      have s19 := Rega.eval_of q19
      have e0 : rLB1R pb sb PC C mp ps j i src ib db tl nm nl eb ll TR xr lr o0 o1 loc B1_3 B1_2 B1_1 B1 L9 α 10 = row (α 10) 34 #[.nilIface, .int .i32 0] := by
        show rLB1T10 pb sb PC C mp ps j i src ib db tl nm nl eb ll TR xr lr o0 o1 loc B1_3 B1_2 B1_1 B1 L9 α = _
        unfold rLB1T10
        rw [if_neg (by rw [hL]; decide)]
      have hr := hG.rowAt 10 (act_new 10 rfl (hA 10 (by decide))) e0
      have c0 : u9.cell? ⟨α 10, 0, none⟩ = some (.nilIface) := hr.cell rfl
      have y0 : u9.frozen? ⟨α 10, 0, none⟩ = false := hr.free 0
      have c1 : u9.cell? ⟨α 10, 1, none⟩ = some (.int .i32 0) := hr.cell rfl
      have y1 : u9.frozen? ⟨α 10, 1, none⟩ = false := hr.free 1
      clear hr
      have E0 := Lib.hid e0
      clear e0
      go_simp
      have e1 : rLB1R pb sb PC C mp ps j i src ib db tl nm nl eb ll TR xr lr o0 o1 loc B1_3 B1_2 B1_1 B1 (Rega.ran L9 12) α 10 = row (α 10) 34 #[.nilIface, .int .i32 0] := by
        show rLB1T10 pb sb PC C mp ps j i src ib db tl nm nl eb ll TR xr lr o0 o1 loc B1_3 B1_2 B1_1 B1 (Rega.ran L9 12) α = _
        unfold rLB1T10
        rw [if_pos (show Rega.ran L9 12 12 = true from rfl)]
      exact hK _ α _ (fun _ _ => rfl) rfl (step_sets (rLB1_st pb sb PC C mp ps j i src ib db tl nm nl eb ll TR xr lr o0 o1 loc B1_3 B1_2 B1_1 B1) hL hcl rfl 10 rfl (act_new 10 rfl (hA 10 (by decide))) E0.out 0 [.nilIface, .int .i32 0] (e1.trans rfl) hG)
    · intro L9 α a9 u9 K9 hL hcl hA hG hS h0 hK
      replace hL : L9 13 = false := hL
      have q8 : a9.tmps[8]? = some (.pointer (some ⟨α 11, 0, none⟩)) := hS 11 8 (by decide) rfl (by show 8 < 60; decide)
      have s8 := Rega.eval_of q8
      have q20 : a9.tmps[20]? = some (.agg #[.int .i32 0]) := hS 8 20 (by decide) rfl (by show 20 < 60; decide)
      have s20 := Rega.eval_of q20
      have e0 : rLB1R pb sb PC C mp ps j i src ib db tl nm nl eb ll TR xr lr o0 o1 loc B1_3 B1_2 B1_1 B1 L9 α 11 = row (α 11) 32 #[.int .i32 0] := by
        show rLB1T11 pb sb PC C mp ps j i src ib db tl nm nl eb ll TR xr lr o0 o1 loc B1_3 B1_2 B1_1 B1 L9 α = _
        unfold rLB1T11
        rw [if_neg (by rw [hL]; decide)]
      have hr := hG.rowAt 11 (act_new 11 rfl (hA 11 (by decide))) e0
      have c0 : u9.cell? ⟨α 11, 0, none⟩ = some (.int .i32 0) := hr.cell rfl
      have y0 : u9.frozen? ⟨α 11, 0, none⟩ = false := hr.free 0
      clear hr
      have E0 := Lib.hid e0
      clear e0
      go_simp
      have e1 : rLB1R pb sb PC C mp ps j i src ib db tl nm nl eb ll TR xr lr o0 o1 loc B1_3 B1_2 B1_1 B1 (Rega.ran L9 13) α 11 = row (α 11) 32 #[.int .i32 0] := by
        show rLB1T11 pb sb PC C mp ps j i src ib db tl nm nl eb ll TR xr lr o0 o1 loc B1_3 B1_2 B1_1 B1 (Rega.ran L9 13) α = _
        unfold rLB1T11
        rw [if_pos (show Rega.ran L9 13 13 = true from rfl)]
      exact hK _ α _ (fun _ _ => rfl) rfl (step_sets (rLB1_st pb sb PC C mp ps j i src ib db tl nm nl eb ll TR xr lr o0 o1 loc B1_3 B1_2 B1_1 B1) hL hcl rfl 11 rfl (act_new 11 rfl (hA 11 (by decide))) E0.out 0 [.int .i32 0] (e1.trans rfl) hG)
    · intro L9 α a9 u9 K9 hL hcl hA hG hS h0 hK
      replace hL : L9 14 = false := hL
      have q21 : a9.tmps[21]? = some (.pointer none) := hS 9 21 (by decide) rfl (by show 21 < 60; decide)
      have s21 := Rega.eval_of q21
      go_simp
      exact hK _ α _ (fun _ _ => rfl) rfl (step_same (rLB1_st pb sb PC C mp ps j i src ib db tl nm nl eb ll TR xr lr o0 o1 loc B1_3 B1_2 B1_1 B1) hL hcl rfl rfl hG)
  · intro α u hG
    have e0 : rLB1R pb sb PC C mp ps j i src ib db tl nm nl eb ll TR xr lr o0 o1 loc B1_3 B1_2 B1_1 B1 (fun k => decide (k < 15)) α 999 = row (B1_3) 34 #[.nilIface, .int .i32 0] := rfl
    have e1 : rLB1R pb sb PC C mp ps j i src ib db tl nm nl eb ll TR xr lr o0 o1 loc B1_3 B1_2 B1_1 B1 (fun k => decide (k < 15)) α 1999 = row (B1_2) 41 #[.pointer (some ⟨eb, 0, none⟩)] := rfl
    have e2 : rLB1R pb sb PC C mp ps j i src ib db tl nm nl eb ll TR xr lr o0 o1 loc B1_3 B1_2 B1_1 B1 (fun k => decide (k < 15)) α 2999 = row (B1_1) 32 #[.int .i32 loc] := rfl
    have e3 : rLB1R pb sb PC C mp ps j i src ib db tl nm nl eb ll TR xr lr o0 o1 loc B1_3 B1_2 B1_1 B1 (fun k => decide (k < 15)) α 3999 = row (B1) 23 #[.pointer (some ⟨pb, 0, none⟩)] := rfl
    have e4 : rLB1R pb sb PC C mp ps j i src ib db tl nm nl eb ll TR xr lr o0 o1 loc B1_3 B1_2 B1_1 B1 (fun k => decide (k < 15)) α 4999 = row (pb) 207 PC := rfl
    have e5 : rLB1R pb sb PC C mp ps j i src ib db tl nm nl eb ll TR xr lr o0 o1 loc B1_3 B1_2 B1_1 B1 (fun k => decide (k < 15)) α 5999 = row (sb) 223 C := rfl
    have e6 : rLB1R pb sb PC C mp ps j i src ib db tl nm nl eb ll TR xr lr o0 o1 loc B1_3 B1_2 B1_1 B1 (fun k => decide (k < 15)) α 6999 = (mp, .map #[⟨.string ⟨#[95, 95, 112, 111, 119]⟩, .agg #[.int .i32 0, .int .u32 ps, .int .u32 (j : Int)], 0⟩] 1) := rfl
    have e7 : rLB1R pb sb PC C mp ps j i src ib db tl nm nl eb ll TR xr lr o0 o1 loc B1_3 B1_2 B1_1 B1 (fun k => decide (k < 15)) α 7999 = row (eb) 47 #[.iface 81 (.pointer (some ⟨db, 0, none⟩)), .int .i32 ll, .iface TR (.pointer (some ⟨xr, 0, none⟩)), .int .i32 lr, .int .u8 o0, .bool o1] := rfl
    have e8 : rLB1R pb sb PC C mp ps j i src ib db tl nm nl eb ll TR xr lr o0 o1 loc B1_3 B1_2 B1_1 B1 (fun k => decide (k < 15)) α 8999 = row (db) 85 #[.iface 55 (.pointer (some ⟨ib, 0, none⟩)), .int .i32 tl, .string nm, .int .i32 nl, .int .u8 0, .bool false, .bool false, .bool false] := rfl
    have e9 : rLB1R pb sb PC C mp ps j i src ib db tl nm nl eb ll TR xr lr o0 o1 loc B1_3 B1_2 B1_1 B1 (fun k => decide (k < 15)) α 9999 = row (ib) 214 #[.int .u32 src, .int .u32 (i : Int), .bool false, .bool false, .bool false] := rfl
    have e10 : rLB1R pb sb PC C mp ps j i src ib db tl nm nl eb ll TR xr lr o0 o1 loc B1_3 B1_2 B1_1 B1 (fun k => decide (k < 15)) α 10 = row (α 10) 34 #[.nilIface, .int .i32 0] := by
      show rLB1T10 pb sb PC C mp ps j i src ib db tl nm nl eb ll TR xr lr o0 o1 loc B1_3 B1_2 B1_1 B1 (fun k => decide (k < 15)) α = _
      unfold rLB1T10
      rw [if_pos (by decide)]
    have e11 : rLB1R pb sb PC C mp ps j i src ib db tl nm nl eb ll TR xr lr o0 o1 loc B1_3 B1_2 B1_1 B1 (fun k => decide (k < 15)) α 11 = row (α 11) 32 #[.int .i32 0] := by
      show rLB1T11 pb sb PC C mp ps j i src ib db tl nm nl eb ll TR xr lr o0 o1 loc B1_3 B1_2 B1_1 B1 (fun k => decide (k < 15)) α = _
      unfold rLB1T11
      rw [if_pos (by decide)]
    have hO : Own w0 u [row (B1_3) 34 #[.nilIface, .int .i32 0], row (B1_2) 41 #[.pointer (some ⟨eb, 0, none⟩)], row (B1_1) 32 #[.int .i32 loc], row (B1) 23 #[.pointer (some ⟨pb, 0, none⟩)], row (pb) 207 PC, row (sb) 223 C, (mp, .map #[⟨.string ⟨#[95, 95, 112, 111, 119]⟩, .agg #[.int .i32 0, .int .u32 ps, .int .u32 (j : Int)], 0⟩] 1), row (eb) 47 #[.iface 81 (.pointer (some ⟨db, 0, none⟩)), .int .i32 ll, .iface TR (.pointer (some ⟨xr, 0, none⟩)), .int .i32 lr, .int .u8 o0, .bool o1], row (db) 85 #[.iface 55 (.pointer (some ⟨ib, 0, none⟩)), .int .i32 tl, .string nm, .int .i32 nl, .int .u8 0, .bool false, .bool false, .bool false], row (ib) 214 #[.int .u32 src, .int .u32 (i : Int), .bool false, .bool false, .bool false], row (α 10) 34 #[.nilIface, .int .i32 0], row (α 11) 32 #[.int .i32 0]] X := (hG.list [999, 1999, 2999, 3999, 4999, 5999, 6999, 7999, 8999, 9999, 10, 11] (by decide) (act_all (by decide))).conv (by
      show [rLB1R pb sb PC C mp ps j i src ib db tl nm nl eb ll TR xr lr o0 o1 loc B1_3 B1_2 B1_1 B1 (fun k => decide (k < 15)) α 999, rLB1R pb sb PC C mp ps j i src ib db tl nm nl eb ll TR xr lr o0 o1 loc B1_3 B1_2 B1_1 B1 (fun k => decide (k < 15)) α 1999, rLB1R pb sb PC C mp ps j i src ib db tl nm nl eb ll TR xr lr o0 o1 loc B1_3 B1_2 B1_1 B1 (fun k => decide (k < 15)) α 2999, rLB1R pb sb PC C mp ps j i src ib db tl nm nl eb ll TR xr lr o0 o1 loc B1_3 B1_2 B1_1 B1 (fun k => decide (k < 15)) α 3999, rLB1R pb sb PC C mp ps j i src ib db tl nm nl eb ll TR xr lr o0 o1 loc B1_3 B1_2 B1_1 B1 (fun k => decide (k < 15)) α 4999, rLB1R pb sb PC C mp ps j i src ib db tl nm nl eb ll TR xr lr o0 o1 loc B1_3 B1_2 B1_1 B1 (fun k => decide (k < 15)) α 5999, rLB1R pb sb PC C mp ps j i src ib db tl nm nl eb ll TR xr lr o0 o1 loc B1_3 B1_2 B1_1 B1 (fun k => decide (k < 15)) α 6999, rLB1R pb sb PC C mp ps j i src ib db tl nm nl eb ll TR xr lr o0 o1 loc B1_3 B1_2 B1_1 B1 (fun k => decide (k < 15)) α 7999, rLB1R pb sb PC C mp ps j i src ib db tl nm nl eb ll TR xr lr o0 o1 loc B1_3 B1_2 B1_1 B1 (fun k => decide (k < 15)) α 8999, rLB1R pb sb PC C mp ps j i src ib db tl nm nl eb ll TR xr lr o0 o1 loc B1_3 B1_2 B1_1 B1 (fun k => decide (k < 15)) α 9999, rLB1R pb sb PC C mp ps j i src ib db tl nm nl eb ll TR xr lr o0 o1 loc B1_3 B1_2 B1_1 B1 (fun k => decide (k < 15)) α 10, rLB1R pb sb PC C mp ps j i src ib db tl nm nl eb ll TR xr lr o0 o1 loc B1_3 B1_2 B1_1 B1 (fun k => decide (k < 15)) α 11] = _
      rw [e0, e1, e2, e3, e4, e5, e6, e7, e8, e9, e10, e11])
    clear hG e0 e1 e2 e3 e4 e5 e6 e7 e8 e9 e10 e11
    generalize hfr : Rega.frameAt _ _ _ _ _ = fr
    have hdf : fr = ⟨#[.pointer (some ⟨pb, 0, none⟩), .agg #[.int .i32 loc], .pointer (some ⟨eb, 0, none⟩), .pointer (some ⟨B1, 0, none⟩), .pointer (some ⟨B1_1, 0, none⟩), .pointer (some ⟨B1_2, 0, none⟩), .pointer (some ⟨B1_3, 0, none⟩), .pointer (some ⟨α 10, 0, none⟩), .pointer (some ⟨α 11, 0, none⟩), .pointer none, undef, undef, .tuple #[.agg #[.nilIface, .int .i32 0], .agg #[.int .i32 0], .pointer none], .pointer (some ⟨pb, 0, none⟩), .pointer (some ⟨eb, 0, none⟩), .pointer (some ⟨eb, 0, none⟩), .pointer (some ⟨eb, 0, none⟩), .agg #[.iface 81 (.pointer (some ⟨db, 0, none⟩)), .int .i32 ll], .tuple #[.agg #[.nilIface, .int .i32 0], .agg #[.int .i32 0], .pointer none], .agg #[.nilIface, .int .i32 0], .agg #[.int .i32 0], .pointer none, undef, undef, undef, undef, undef, undef, undef, undef, undef, undef, undef, undef, undef, undef, undef, undef, undef, undef, undef, undef, undef, undef, undef, undef, undef, undef, undef, undef, undef, undef, undef, undef, undef, undef, undef, undef, undef, undef], []⟩ := by rw [← hfr]; kernel_rfl
    clear hfr
    subst hdf
    generalize α 10 = nd3 at hO ⊢
    generalize α 11 = nd4 at hO ⊢
    clear α
    have c9_0_0 : u.cell? ⟨B1_3, 0, none⟩ = some (.nilIface) := hO.cell 0 rfl 0 rfl
    have c9_0_1 : u.cell? ⟨B1_3, 1, none⟩ = some (.int .i32 0) := hO.cell 0 rfl 1 rfl
    have lt9_0 : B1_3 < u.heap.size := hO.lt 0 rfl
    have y9_0 : ∀ o, u.frozen? ⟨B1_3, o, none⟩ = false := hO.free 0 rfl
    have c9_1_0 : u.cell? ⟨B1_2, 0, none⟩ = some (.pointer (some ⟨eb, 0, none⟩)) := hO.cell 1 rfl 0 rfl
    have lt9_1 : B1_2 < u.heap.size := hO.lt 1 rfl
    have y9_1 : ∀ o, u.frozen? ⟨B1_2, o, none⟩ = false := hO.free 1 rfl
    have c9_2_0 : u.cell? ⟨B1_1, 0, none⟩ = some (.int .i32 loc) := hO.cell 2 rfl 0 rfl
    have lt9_2 : B1_1 < u.heap.size := hO.lt 2 rfl
    have y9_2 : ∀ o, u.frozen? ⟨B1_1, o, none⟩ = false := hO.free 2 rfl
    have c9_3_0 : u.cell? ⟨B1, 0, none⟩ = some (.pointer (some ⟨pb, 0, none⟩)) := hO.cell 3 rfl 0 rfl
    have lt9_3 : B1 < u.heap.size := hO.lt 3 rfl
    have y9_3 : ∀ o, u.frozen? ⟨B1, o, none⟩ = false := hO.free 3 rfl
    have c9_7_0 : u.cell? ⟨eb, 0, none⟩ = some (.iface 81 (.pointer (some ⟨db, 0, none⟩))) := hO.cell 7 rfl 0 rfl
    have c9_7_1 : u.cell? ⟨eb, 1, none⟩ = some (.int .i32 ll) := hO.cell 7 rfl 1 rfl
    have c9_7_2 : u.cell? ⟨eb, 2, none⟩ = some (.iface TR (.pointer (some ⟨xr, 0, none⟩))) := hO.cell 7 rfl 2 rfl
    have c9_7_3 : u.cell? ⟨eb, 3, none⟩ = some (.int .i32 lr) := hO.cell 7 rfl 3 rfl
    have c9_7_4 : u.cell? ⟨eb, 4, none⟩ = some (.int .u8 o0) := hO.cell 7 rfl 4 rfl
    have c9_7_5 : u.cell? ⟨eb, 5, none⟩ = some (.bool o1) := hO.cell 7 rfl 5 rfl
    have lt9_7 : eb < u.heap.size := hO.lt 7 rfl
    have y9_7 : ∀ o, u.frozen? ⟨eb, o, none⟩ = false := hO.free 7 rfl
    have c9_8_0 : u.cell? ⟨db, 0, none⟩ = some (.iface 55 (.pointer (some ⟨ib, 0, none⟩))) := hO.cell 8 rfl 0 rfl
    have c9_8_1 : u.cell? ⟨db, 1, none⟩ = some (.int .i32 tl) := hO.cell 8 rfl 1 rfl
    have c9_8_2 : u.cell? ⟨db, 2, none⟩ = some (.string nm) := hO.cell 8 rfl 2 rfl
    have c9_8_3 : u.cell? ⟨db, 3, none⟩ = some (.int .i32 nl) := hO.cell 8 rfl 3 rfl
    have c9_8_4 : u.cell? ⟨db, 4, none⟩ = some (.int .u8 0) := hO.cell 8 rfl 4 rfl
    have c9_8_5 : u.cell? ⟨db, 5, none⟩ = some (.bool false) := hO.cell 8 rfl 5 rfl
    have c9_8_6 : u.cell? ⟨db, 6, none⟩ = some (.bool false) := hO.cell 8 rfl 6 rfl
    have c9_8_7 : u.cell? ⟨db, 7, none⟩ = some (.bool false) := hO.cell 8 rfl 7 rfl
    have lt9_8 : db < u.heap.size := hO.lt 8 rfl
    have y9_8 : ∀ o, u.frozen? ⟨db, o, none⟩ = false := hO.free 8 rfl
    have c9_9_0 : u.cell? ⟨ib, 0, none⟩ = some (.int .u32 src) := hO.cell 9 rfl 0 rfl
    have c9_9_1 : u.cell? ⟨ib, 1, none⟩ = some (.int .u32 (i : Int)) := hO.cell 9 rfl 1 rfl
    have c9_9_2 : u.cell? ⟨ib, 2, none⟩ = some (.bool false) := hO.cell 9 rfl 2 rfl
    have c9_9_3 : u.cell? ⟨ib, 3, none⟩ = some (.bool false) := hO.cell 9 rfl 3 rfl
    have c9_9_4 : u.cell? ⟨ib, 4, none⟩ = some (.bool false) := hO.cell 9 rfl 4 rfl
    have lt9_9 : ib < u.heap.size := hO.lt 9 rfl
    have y9_9 : ∀ o, u.frozen? ⟨ib, o, none⟩ = false := hO.free 9 rfl
    have c9_10_0 : u.cell? ⟨nd3, 0, none⟩ = some (.nilIface) := hO.cell 10 rfl 0 rfl
    have c9_10_1 : u.cell? ⟨nd3, 1, none⟩ = some (.int .i32 0) := hO.cell 10 rfl 1 rfl
    have lt9_10 : nd3 < u.heap.size := hO.lt 10 rfl
    have y9_10 : ∀ o, u.frozen? ⟨nd3, o, none⟩ = false := hO.free 10 rfl
    have c9_11_0 : u.cell? ⟨nd4, 0, none⟩ = some (.int .i32 0) := hO.cell 11 rfl 0 rfl
    have lt9_11 : nd4 < u.heap.size := hO.lt 11 rfl
    have y9_11 : ∀ o, u.frozen? ⟨nd4, o, none⟩ = false := hO.free 11 rfl
    have HO := Lib.hid hO
    clear hO
    go_wp2_with fail
    have hO := HO.out
    clear HO c9_0_0 c9_0_1 lt9_0 y9_0 c9_1_0 lt9_1 y9_1 c9_2_0 lt9_2 y9_2 c9_3_0 lt9_3 y9_3 c9_7_0 c9_7_1 c9_7_2 c9_7_3 c9_7_4 c9_7_5 lt9_7 y9_7 c9_8_0 c9_8_1 c9_8_2 c9_8_3 c9_8_4 c9_8_5 c9_8_6 c9_8_7 lt9_8 y9_8 c9_9_0 c9_9_1 c9_9_2 c9_9_3 c9_9_4 lt9_9 y9_9 c9_10_0 c9_10_1 lt9_10 y9_10 c9_11_0 lt9_11 y9_11
    refine wp_region_own (e := rLB2E pb sb PC C mp ps j cj i c cz src ib db tl nm nl eb ll TR xr lr o0 o1 loc B1_3 B1_2 B1_1 B1 nd3 nd4) (anc := rLB2Anc) (G := (fun L9 α u9 => OwnF w0 u9 (act rLB2Cnt 12 L9) (rLB2R pb sb PC C mp ps j cj i c cz src ib db tl nm nl eb ll TR xr lr o0 o1 loc B1_3 B1_2 B1_1 B1 nd3 nd4 L9 α) X)) (by kernel_rfl) (by kernel_rfl) (by kernel_rfl) (by kernel_rfl) (rLB2_he pb sb PC C mp ps j cj i c cz src ib db tl nm nl eb ll TR xr lr o0 o1 loc B1_3 B1_2 B1_1 B1 nd3 nd4) ?_ (RunsAll.all ?_) ?_
    · have hp : ∀ i, act rLB2Cnt 12 (fun _ => false) i → i ∈ [999, 1999, 2999, 3999, 4999, 5999, 6999, 7999, 8999, 9999, 10999, 11999] := by
        intro i hi
        have h9 : i % 1000 = 999 := by
          by_cases h : i % 1000 = 999
          · exact h
          · exact absurd (act_lt hi h) (by simp)
        unfold act at hi
        rw [if_pos h9] at hi
        simp only [List.mem_cons, List.not_mem_nil, or_false]
        omega
      refine hO.drew.family (fun i hi => ?_) (fun i j hi hj hij => ?_)
      · have := hp i hi
        simp only [List.mem_cons, List.not_mem_nil, or_false] at this
        rcases this with rfl | rfl | rfl | rfl | rfl | rfl | rfl | rfl | rfl | rfl | rfl | rfl <;> rfl
      · have h1 := hp i hi
        have h2 := hp j hj
        simp only [List.mem_cons, List.not_mem_nil, or_false] at h1 h2
        omega
    · refine ⟨?_, ?_, ?_, ?_, ?_, ?_, ?_, ?_, trivial⟩
      · intro L9 α a9 u9 K9 hL hcl hA hG hS h0 hK
        replace hL : L9 0 = false := hL
        have q3 : a9.tmps[3]? = some (.pointer (some ⟨B1, 0, none⟩)) := (h0 3 (by kernel_rfl)).trans rfl
        have s3 := Rega.eval_of q3
        have e0 : rLB2R pb sb PC C mp ps j cj i c cz src ib db tl nm nl eb ll TR xr lr o0 o1 loc B1_3 B1_2 B1_1 B1 nd3 nd4 L9 α 3999 = row (B1) 23 #[.pointer (some ⟨pb, 0, none⟩)] := rfl
        have hr := hG.rowAt 3999 (act_base 3999 rfl) e0
        have c0 : u9.cell? ⟨B1, 0, none⟩ = some (.pointer (some ⟨pb, 0, none⟩)) := hr.cell rfl
        clear hr e0
        go_simp
        exact hK _ α _ (fun _ _ => rfl) rfl (step_same (rLB2_st pb sb PC C mp ps j cj i c cz src ib db tl nm nl eb ll TR xr lr o0 o1 loc B1_3 B1_2 B1_1 B1 nd3 nd4) hL hcl rfl rfl hG)
      · intro L9 α a9 u9 K9 hL hcl hA hG hS h0 hK
        replace hL : L9 1 = false := hL
        have q5 : a9.tmps[5]? = some (.pointer (some ⟨B1_2, 0, none⟩)) := (h0 5 (by kernel_rfl)).trans rfl
        have s5 := Rega.eval_of q5
        have e0 : rLB2R pb sb PC C mp ps j cj i c cz src ib db tl nm nl eb ll TR xr lr o0 o1 loc B1_3 B1_2 B1_1 B1 nd3 nd4 L9 α 1999 = row (B1_2) 41 #[.pointer (some ⟨eb, 0, none⟩)] := rfl
        have hr := hG.rowAt 1999 (act_base 1999 rfl) e0
        have c0 : u9.cell? ⟨B1_2, 0, none⟩ = some (.pointer (some ⟨eb, 0, none⟩)) := hr.cell rfl
        clear hr e0
        go_simp
        exact hK _ α _ (fun _ _ => rfl) rfl (step_same (rLB2_st pb sb PC C mp ps j cj i c cz src ib db tl nm nl eb ll TR xr lr o0 o1 loc B1_3 B1_2 B1_1 B1 nd3 nd4) hL hcl rfl rfl hG)
      · intro L9 α a9 u9 K9 hL hcl hA hG hS h0 hK
        replace hL : L9 2 = false := hL
        have q54 : a9.tmps[54]? = some (.pointer (some ⟨eb, 0, none⟩)) := hS 1 54 (by decide) rfl (by show 54 < 60; decide)
        have s54 := Rega.eval_of q54
        go_simp
        exact hK _ α _ (fun _ _ => rfl) rfl (step_same (rLB2_st pb sb PC C mp ps j cj i c cz src ib db tl nm nl eb ll TR xr lr o0 o1 loc B1_3 B1_2 B1_1 B1 nd3 nd4) hL hcl rfl rfl hG)
      · intro L9 α a9 u9 K9 hL hcl hA hG hS h0 hK
        replace hL : L9 3 = false := hL
        have q55 : a9.tmps[55]? = some (.pointer (some ⟨eb, 0, none⟩)) := hS 2 55 (by decide) rfl (by show 55 < 60; decide)
        have s55 := Rega.eval_of q55
        go_simp
        exact hK _ α _ (fun _ _ => rfl) rfl (step_same (rLB2_st pb sb PC C mp ps j cj i c cz src ib db tl nm nl eb ll TR xr lr o0 o1 loc B1_3 B1_2 B1_1 B1 nd3 nd4) hL hcl rfl rfl hG)
      · intro L9 α a9 u9 K9 hL hcl hA hG hS h0 hK
        replace hL : L9 4 = false := hL
        have q56 : a9.tmps[56]? = some (.pointer (some ⟨eb, 0, none⟩)) := hS 3 56 (by decide) rfl (by show 56 < 60; decide)
        have s56 := Rega.eval_of q56
        have e0 : rLB2R pb sb PC C mp ps j cj i c cz src ib db tl nm nl eb ll TR xr lr o0 o1 loc B1_3 B1_2 B1_1 B1 nd3 nd4 L9 α 7999 = row (eb) 47 #[.iface 81 (.pointer (some ⟨db, 0, none⟩)), .int .i32 ll, .iface TR (.pointer (some ⟨xr, 0, none⟩)), .int .i32 lr, .int .u8 o0, .bool o1] := rfl
        have hr := hG.rowAt 7999 (act_base 7999 rfl) e0
        have c0 : u9.cell? ⟨eb, 0, none⟩ = some (.iface 81 (.pointer (some ⟨db, 0, none⟩))) := hr.cell rfl
        have c1 : u9.cell? ⟨eb, 1, none⟩ = some (.int .i32 ll) := hr.cell rfl
        clear hr e0
        go_simp
        exact hK _ α _ (fun _ _ => rfl) rfl (step_same (rLB2_st pb sb PC C mp ps j cj i c cz src ib db tl nm nl eb ll TR xr lr o0 o1 loc B1_3 B1_2 B1_1 B1 nd3 nd4) hL hcl rfl rfl hG)
      · intro L9 α a9 u9 K9 hL hcl hA hG hS h0 hK
        replace hL : L9 5 = false := hL
        have q3 : a9.tmps[3]? = some (.pointer (some ⟨B1, 0, none⟩)) := (h0 3 (by kernel_rfl)).trans rfl
        have s3 := Rega.eval_of q3
        have q4 : a9.tmps[4]? = some (.pointer (some ⟨B1_1, 0, none⟩)) := (h0 4 (by kernel_rfl)).trans rfl
        have s4 := Rega.eval_of q4
        have q5 : a9.tmps[5]? = some (.pointer (some ⟨B1_2, 0, none⟩)) := (h0 5 (by kernel_rfl)).trans rfl
        have s5 := Rega.eval_of q5
        go_simp
        exact hK _ α _ (fun _ _ => rfl) rfl (step_same (rLB2_st pb sb PC C mp ps j cj i c cz src ib db tl nm nl eb ll TR xr lr o0 o1 loc B1_3 B1_2 B1_1 B1 nd3 nd4) hL hcl rfl rfl hG)
      · intro L9 α a9 u9 K9 hL hcl hA hG hS h0 hK
        replace hL : L9 6 = false := hL
        have q53 : a9.tmps[53]? = some (.pointer (some ⟨pb, 0, none⟩)) := hS 0 53 (by decide) rfl (by show 53 < 60; decide)
        have s53 := Rega.eval_of q53
        have q57 : a9.tmps[57]? = some (.agg #[.iface 81 (.pointer (some ⟨db, 0, none⟩)), .int .i32 ll]) := hS 4 57 (by decide) rfl (by show 57 < 60; decide)
        have s57 := Rega.eval_of q57
        have q58 : a9.tmps[58]? = some (.func (Fn.func 48) #[] #[.pointer (some ⟨B1, 0, none⟩), .pointer (some ⟨B1_1, 0, none⟩), .pointer (some ⟨B1_2, 0, none⟩)]) := hS 5 58 (by decide) rfl (by show 58 < 60; decide)
        have s58 := Rega.eval_of q58
        go_simp
        have e0 : rLB2R pb sb PC C mp ps j cj i c cz src ib db tl nm nl eb ll TR xr lr o0 o1 loc B1_3 B1_2 B1_1 B1 nd3 nd4 L9 α 4999 = row (pb) 207 PC := rfl
        have e1 : rLB2R pb sb PC C mp ps j cj i c cz src ib db tl nm nl eb ll TR xr lr o0 o1 loc B1_3 B1_2 B1_1 B1 nd3 nd4 L9 α 5999 = row (sb) 223 C := by
          show rLB2T5999 pb sb PC C mp ps j cj i c cz src ib db tl nm nl eb ll TR xr lr o0 o1 loc B1_3 B1_2 B1_1 B1 nd3 nd4 L9 α = _
          unfold rLB2T5999
          rw [if_neg (by rw [hL]; decide)]
        have e2 : rLB2R pb sb PC C mp ps j cj i c cz src ib db tl nm nl eb ll TR xr lr o0 o1 loc B1_3 B1_2 B1_1 B1 nd3 nd4 L9 α 6999 = (mp, .map #[⟨.string ⟨#[95, 95, 112, 111, 119]⟩, .agg #[.int .i32 0, .int .u32 ps, .int .u32 (j : Int)], 0⟩] 1) := rfl
        have e3 : rLB2R pb sb PC C mp ps j cj i c cz src ib db tl nm nl eb ll TR xr lr o0 o1 loc B1_3 B1_2 B1_1 B1 nd3 nd4 L9 α 3999 = row (B1) 23 #[.pointer (some ⟨pb, 0, none⟩)] := rfl
        have e4 : rLB2R pb sb PC C mp ps j cj i c cz src ib db tl nm nl eb ll TR xr lr o0 o1 loc B1_3 B1_2 B1_1 B1 nd3 nd4 L9 α 2999 = row (B1_1) 32 #[.int .i32 loc] := rfl
        have e5 : rLB2R pb sb PC C mp ps j cj i c cz src ib db tl nm nl eb ll TR xr lr o0 o1 loc B1_3 B1_2 B1_1 B1 nd3 nd4 L9 α 1999 = row (B1_2) 41 #[.pointer (some ⟨eb, 0, none⟩)] := rfl
        have e6 : rLB2R pb sb PC C mp ps j cj i c cz src ib db tl nm nl eb ll TR xr lr o0 o1 loc B1_3 B1_2 B1_1 B1 nd3 nd4 L9 α 7999 = row (eb) 47 #[.iface 81 (.pointer (some ⟨db, 0, none⟩)), .int .i32 ll, .iface TR (.pointer (some ⟨xr, 0, none⟩)), .int .i32 lr, .int .u8 o0, .bool o1] := rfl
        have e7 : rLB2R pb sb PC C mp ps j cj i c cz src ib db tl nm nl eb ll TR xr lr o0 o1 loc B1_3 B1_2 B1_1 B1 nd3 nd4 L9 α 8999 = row (db) 85 #[.iface 55 (.pointer (some ⟨ib, 0, none⟩)), .int .i32 tl, .string nm, .int .i32 nl, .int .u8 0, .bool false, .bool false, .bool false] := rfl
        have e8 : rLB2R pb sb PC C mp ps j cj i c cz src ib db tl nm nl eb ll TR xr lr o0 o1 loc B1_3 B1_2 B1_1 B1 nd3 nd4 L9 α 9999 = row (ib) 214 #[.int .u32 src, .int .u32 (i : Int), .bool false, .bool false, .bool false] := rfl
        have hM : ∀ i, i ∈ [4999, 5999, 6999, 3999, 2999, 1999, 7999, 8999, 9999] → act rLB2Cnt 12 L9 i := by
          intro i hi
          simp only [List.mem_cons, List.not_mem_nil, or_false] at hi
          rcases hi with rfl | rfl | rfl | rfl | rfl | rfl | rfl | rfl | rfl
          · exact act_base 4999 rfl
          · exact act_base 5999 rfl
          · exact act_base 6999 rfl
          · exact act_base 3999 rfl
          · exact act_base 2999 rfl
          · exact act_base 1999 rfl
          · exact act_base 7999 rfl
          · exact act_base 8999 rfl
          · exact act_base 9999 rfl
        have hP : Own w0 u9 [row (pb) 207 PC, row (sb) 223 C, (mp, .map #[⟨.string ⟨#[95, 95, 112, 111, 119]⟩, .agg #[.int .i32 0, .int .u32 ps, .int .u32 (j : Int)], 0⟩] 1), row (B1) 23 #[.pointer (some ⟨pb, 0, none⟩)], row (B1_1) 32 #[.int .i32 loc], row (B1_2) 41 #[.pointer (some ⟨eb, 0, none⟩)], row (eb) 47 #[.iface 81 (.pointer (some ⟨db, 0, none⟩)), .int .i32 ll, .iface TR (.pointer (some ⟨xr, 0, none⟩)), .int .i32 lr, .int .u8 o0, .bool o1], row (db) 85 #[.iface 55 (.pointer (some ⟨ib, 0, none⟩)), .int .i32 tl, .string nm, .int .i32 nl, .int .u8 0, .bool false, .bool false, .bool false], row (ib) 214 #[.int .u32 src, .int .u32 (i : Int), .bool false, .bool false, .bool false]] _ := (hG.pick [4999, 5999, 6999, 3999, 2999, 1999, 7999, 8999, 9999] (by decide) hM).conv (by
          show [rLB2R pb sb PC C mp ps j cj i c cz src ib db tl nm nl eb ll TR xr lr o0 o1 loc B1_3 B1_2 B1_1 B1 nd3 nd4 L9 α 4999, rLB2R pb sb PC C mp ps j cj i c cz src ib db tl nm nl eb ll TR xr lr o0 o1 loc B1_3 B1_2 B1_1 B1 nd3 nd4 L9 α 5999, rLB2R pb sb PC C mp ps j cj i c cz src ib db tl nm nl eb ll TR xr lr o0 o1 loc B1_3 B1_2 B1_1 B1 nd3 nd4 L9 α 6999, rLB2R pb sb PC C mp ps j cj i c cz src ib db tl nm nl eb ll TR xr lr o0 o1 loc B1_3 B1_2 B1_1 B1 nd3 nd4 L9 α 3999, rLB2R pb sb PC C mp ps j cj i c cz src ib db tl nm nl eb ll TR xr lr o0 o1 loc B1_3 B1_2 B1_1 B1 nd3 nd4 L9 α 2999, rLB2R pb sb PC C mp ps j cj i c cz src ib db tl nm nl eb ll TR xr lr o0 o1 loc B1_3 B1_2 B1_1 B1 nd3 nd4 L9 α 1999, rLB2R pb sb PC C mp ps j cj i c cz src ib db tl nm nl eb ll TR xr lr o0 o1 loc B1_3 B1_2 B1_1 B1 nd3 nd4 L9 α 7999, rLB2R pb sb PC C mp ps j cj i c cz src ib db tl nm nl eb ll TR xr lr o0 o1 loc B1_3 B1_2 B1_1 B1 nd3 nd4 L9 α 8999, rLB2R pb sb PC C mp ps j cj i c cz src ib db tl nm nl eb ll TR xr lr o0 o1 loc B1_3 B1_2 B1_1 B1 nd3 nd4 L9 α 9999] = _
          rw [e0, e1, e2, e3, e4, e5, e6, e7, e8])
        clear e0 e1 e2 e3 e4 e5 e6 e7 e8 hM
        refine Calls.mono (lowExpDot pb sb n cap PC C mp ps j cj i c cz src ib db tl nm nl B1 B1_1 B1_2 eb ll TR xr lr o0 o1 loc _ _ _ hP hR hn hi hc hcm hc2 hcm2 hj hcj hcjm hm) ?_
        rintro e9 u1 ⟨b0, b1, b2, b3, b4, b5, b6, b7, rfl, hQ⟩
        obtain ⟨α', hα'⟩ : ∃ α' : Rega.Atoms, α' = (fun j => if j = 6 then b0 else if j = 1006 then b1 else if j = 2006 then b2 else if j = 3006 then b3 else if j = 4006 then b4 else if j = 5006 then b5 else if j = 6006 then b6 else if j = 7006 then b7 else α j) := ⟨_, rfl⟩
        have f0 : rLB2R pb sb PC C mp ps j cj i c cz src ib db tl nm nl eb ll TR xr lr o0 o1 loc B1_3 B1_2 B1_1 B1 nd3 nd4 (Rega.ran L9 6) α' 4999 = row (pb) 207 PC := rfl
        have f1 : rLB2R pb sb PC C mp ps j cj i c cz src ib db tl nm nl eb ll TR xr lr o0 o1 loc B1_3 B1_2 B1_1 B1 nd3 nd4 (Rega.ran L9 6) α' 5999 = row (sb) 223 (bumped (bumped (bumped C i c) i cz) j cj) := by
          show rLB2T5999 pb sb PC C mp ps j cj i c cz src ib db tl nm nl eb ll TR xr lr o0 o1 loc B1_3 B1_2 B1_1 B1 nd3 nd4 (Rega.ran L9 6) α' = _
          unfold rLB2T5999
          rw [if_pos (show Rega.ran L9 6 6 = true from rfl)]
        have f2 : rLB2R pb sb PC C mp ps j cj i c cz src ib db tl nm nl eb ll TR xr lr o0 o1 loc B1_3 B1_2 B1_1 B1 nd3 nd4 (Rega.ran L9 6) α' 6999 = (mp, .map #[⟨.string ⟨#[95, 95, 112, 111, 119]⟩, .agg #[.int .i32 0, .int .u32 ps, .int .u32 (j : Int)], 0⟩] 1) := rfl
        have f3 : rLB2R pb sb PC C mp ps j cj i c cz src ib db tl nm nl eb ll TR xr lr o0 o1 loc B1_3 B1_2 B1_1 B1 nd3 nd4 (Rega.ran L9 6) α' 3999 = row (B1) 23 #[.pointer (some ⟨pb, 0, none⟩)] := rfl
        have f4 : rLB2R pb sb PC C mp ps j cj i c cz src ib db tl nm nl eb ll TR xr lr o0 o1 loc B1_3 B1_2 B1_1 B1 nd3 nd4 (Rega.ran L9 6) α' 2999 = row (B1_1) 32 #[.int .i32 loc] := rfl
        have f5 : rLB2R pb sb PC C mp ps j cj i c cz src ib db tl nm nl eb ll TR xr lr o0 o1 loc B1_3 B1_2 B1_1 B1 nd3 nd4 (Rega.ran L9 6) α' 1999 = row (B1_2) 41 #[.pointer (some ⟨eb, 0, none⟩)] := rfl
        have f6 : rLB2R pb sb PC C mp ps j cj i c cz src ib db tl nm nl eb ll TR xr lr o0 o1 loc B1_3 B1_2 B1_1 B1 nd3 nd4 (Rega.ran L9 6) α' 7999 = row (eb) 47 #[.iface 81 (.pointer (some ⟨db, 0, none⟩)), .int .i32 ll, .iface TR (.pointer (some ⟨xr, 0, none⟩)), .int .i32 lr, .int .u8 o0, .bool o1] := rfl
        have f7 : rLB2R pb sb PC C mp ps j cj i c cz src ib db tl nm nl eb ll TR xr lr o0 o1 loc B1_3 B1_2 B1_1 B1 nd3 nd4 (Rega.ran L9 6) α' 8999 = row (db) 85 #[.iface 55 (.pointer (some ⟨ib, 0, none⟩)), .int .i32 tl, .string nm, .int .i32 nl, .int .u8 0, .bool false, .bool false, .bool false] := rfl
        have f8 : rLB2R pb sb PC C mp ps j cj i c cz src ib db tl nm nl eb ll TR xr lr o0 o1 loc B1_3 B1_2 B1_1 B1 nd3 nd4 (Rega.ran L9 6) α' 9999 = row (ib) 214 #[.int .u32 src, .int .u32 (i : Int), .bool false, .bool false, .bool false] := rfl
        have f9 : rLB2R pb sb PC C mp ps j cj i c cz src ib db tl nm nl eb ll TR xr lr o0 o1 loc B1_3 B1_2 B1_1 B1 nd3 nd4 (Rega.ran L9 6) α' 6 = row (α' 6) 47 #[.iface 81 (.pointer (some ⟨α' 4006, 0, none⟩)), .int .i32 ll, .iface 72 (.pointer (some ⟨α' 1006, 0, none⟩)), .int .i32 loc, .int .u8 37, .bool false] := rfl
        have f10 : rLB2R pb sb PC C mp ps j cj i c cz src ib db tl nm nl eb ll TR xr lr o0 o1 loc B1_3 B1_2 B1_1 B1 nd3 nd4 (Rega.ran L9 6) α' 1006 = row (α' 1006) 77 #[.iface 55 (.pointer (some ⟨α' 2006, 0, none⟩)), .int .i32 loc, .slice (some ⟨α' 3006, 0, none⟩) 2 2, .int .i32 0, .int .u8 0, .int .u8 0, .bool false, .bool false] := rfl
        have f11 : rLB2R pb sb PC C mp ps j cj i c cz src ib db tl nm nl eb ll TR xr lr o0 o1 loc B1_3 B1_2 B1_1 B1 nd3 nd4 (Rega.ran L9 6) α' 2006 = row (α' 2006) 214 #[.int .u32 ps, .int .u32 (j : Int), .bool false, .bool false, .bool false] := rfl
        have f12 : rLB2R pb sb PC C mp ps j cj i c cz src ib db tl nm nl eb ll TR xr lr o0 o1 loc B1_3 B1_2 B1_1 B1 nd3 nd4 (Rega.ran L9 6) α' 3006 = row (α' 3006) 34 #[.iface 81 (.pointer (some ⟨α' 5006, 0, none⟩)), .int .i32 ll, .iface TR (.pointer (some ⟨xr, 0, none⟩)), .int .i32 lr] := rfl
        have f13 : rLB2R pb sb PC C mp ps j cj i c cz src ib db tl nm nl eb ll TR xr lr o0 o1 loc B1_3 B1_2 B1_1 B1 nd3 nd4 (Rega.ran L9 6) α' 4006 = row (α' 4006) 85 #[.iface 55 (.pointer (some ⟨α' 6006, 0, none⟩)), .int .i32 ll, .string nm, .int .i32 nl, .int .u8 0, .bool false, .bool false, .bool false] := rfl
        have f14 : rLB2R pb sb PC C mp ps j cj i c cz src ib db tl nm nl eb ll TR xr lr o0 o1 loc B1_3 B1_2 B1_1 B1 nd3 nd4 (Rega.ran L9 6) α' 5006 = row (α' 5006) 85 #[.iface 55 (.pointer (some ⟨α' 7006, 0, none⟩)), .int .i32 ll, .string nm, .int .i32 nl, .int .u8 0, .bool false, .bool false, .bool false] := rfl
        have f15 : rLB2R pb sb PC C mp ps j cj i c cz src ib db tl nm nl eb ll TR xr lr o0 o1 loc B1_3 B1_2 B1_1 B1 nd3 nd4 (Rega.ran L9 6) α' 6006 = row (α' 6006) 214 #[.int .u32 src, .int .u32 (i : Int), .bool false, .bool false, .bool false] := rfl
        have f16 : rLB2R pb sb PC C mp ps j cj i c cz src ib db tl nm nl eb ll TR xr lr o0 o1 loc B1_3 B1_2 B1_1 B1 nd3 nd4 (Rega.ran L9 6) α' 7006 = row (α' 7006) 214 #[.int .u32 src, .int .u32 (i : Int), .bool false, .bool false, .bool false] := rfl
        have hα : ∀ j, j % 1000 ≠ 6 → α' j = α j := fun j hj => by rw [hα']; simp only []; rw [if_neg (by omega), if_neg (by omega), if_neg (by omega), if_neg (by omega), if_neg (by omega), if_neg (by omega), if_neg (by omega), if_neg (by omega)]
        have hb0 : α' 6 = b0 := by rw [hα']; rfl
        have hb1 : α' 1006 = b1 := by rw [hα']; rfl
        have hb2 : α' 2006 = b2 := by rw [hα']; rfl
        have hb3 : α' 3006 = b3 := by rw [hα']; rfl
        have hb4 : α' 4006 = b4 := by rw [hα']; rfl
        have hb5 : α' 5006 = b5 := by rw [hα']; rfl
        have hb6 : α' 6006 = b6 := by rw [hα']; rfl
        have hb7 : α' 7006 = b7 := by rw [hα']; rfl
        skip
        refine hK _ α' _ hα ?_ (step_call (rLB2_st pb sb PC C mp ps j cj i c cz src ib db tl nm nl eb ll TR xr lr o0 o1 loc B1_3 B1_2 B1_1 B1 nd3 nd4) hL hcl hα [4999, 5999, 6999, 3999, 2999, 1999, 7999, 8999, 9999] [4999, 5999, 6999, 3999, 2999, 1999, 7999, 8999, 9999, 6, 1006, 2006, 3006, 4006, 5006, 6006, 7006] (by decide) (by decide) (by decide) (M := _) ?_ hG hQ)
        · show _ = (.agg #[.iface 41 (.pointer (some ⟨α' 6, 0, none⟩)), .int .i32 ll] : Value)
          simp only [hb0]
        · show [rLB2R pb sb PC C mp ps j cj i c cz src ib db tl nm nl eb ll TR xr lr o0 o1 loc B1_3 B1_2 B1_1 B1 nd3 nd4 (Rega.ran L9 6) α' 4999, rLB2R pb sb PC C mp ps j cj i c cz src ib db tl nm nl eb ll TR xr lr o0 o1 loc B1_3 B1_2 B1_1 B1 nd3 nd4 (Rega.ran L9 6) α' 5999, rLB2R pb sb PC C mp ps j cj i c cz src ib db tl nm nl eb ll TR xr lr o0 o1 loc B1_3 B1_2 B1_1 B1 nd3 nd4 (Rega.ran L9 6) α' 6999, rLB2R pb sb PC C mp ps j cj i c cz src ib db tl nm nl eb ll TR xr lr o0 o1 loc B1_3 B1_2 B1_1 B1 nd3 nd4 (Rega.ran L9 6) α' 3999, rLB2R pb sb PC C mp ps j cj i c cz src ib db tl nm nl eb ll TR xr lr o0 o1 loc B1_3 B1_2 B1_1 B1 nd3 nd4 (Rega.ran L9 6) α' 2999, rLB2R pb sb PC C mp ps j cj i c cz src ib db tl nm nl eb ll TR xr lr o0 o1 loc B1_3 B1_2 B1_1 B1 nd3 nd4 (Rega.ran L9 6) α' 1999, rLB2R pb sb PC C mp ps j cj i c cz src ib db tl nm nl eb ll TR xr lr o0 o1 loc B1_3 B1_2 B1_1 B1 nd3 nd4 (Rega.ran L9 6) α' 7999, rLB2R pb sb PC C mp ps j cj i c cz src ib db tl nm nl eb ll TR xr lr o0 o1 loc B1_3 B1_2 B1_1 B1 nd3 nd4 (Rega.ran L9 6) α' 8999, rLB2R pb sb PC C mp ps j cj i c cz src ib db tl nm nl eb ll TR xr lr o0 o1 loc B1_3 B1_2 B1_1 B1 nd3 nd4 (Rega.ran L9 6) α' 9999, rLB2R pb sb PC C mp ps j cj i c cz src ib db tl nm nl eb ll TR xr lr o0 o1 loc B1_3 B1_2 B1_1 B1 nd3 nd4 (Rega.ran L9 6) α' 6, rLB2R pb sb PC C mp ps j cj i c cz src ib db tl nm nl eb ll TR xr lr o0 o1 loc B1_3 B1_2 B1_1 B1 nd3 nd4 (Rega.ran L9 6) α' 1006, rLB2R pb sb PC C mp ps j cj i c cz src ib db tl nm nl eb ll TR xr lr o0 o1 loc B1_3 B1_2 B1_1 B1 nd3 nd4 (Rega.ran L9 6) α' 2006, rLB2R pb sb PC C mp ps j cj i c cz src ib db tl nm nl eb ll TR xr lr o0 o1 loc B1_3 B1_2 B1_1 B1 nd3 nd4 (Rega.ran L9 6) α' 3006, rLB2R pb sb PC C mp ps j cj i c cz src ib db tl nm nl eb ll TR xr lr o0 o1 loc B1_3 B1_2 B1_1 B1 nd3 nd4 (Rega.ran L9 6) α' 4006, rLB2R pb sb PC C mp ps j cj i c cz src ib db tl nm nl eb ll TR xr lr o0 o1 loc B1_3 B1_2 B1_1 B1 nd3 nd4 (Rega.ran L9 6) α' 5006, rLB2R pb sb PC C mp ps j cj i c cz src ib db tl nm nl eb ll TR xr lr o0 o1 loc B1_3 B1_2 B1_1 B1 nd3 nd4 (Rega.ran L9 6) α' 6006, rLB2R pb sb PC C mp ps j cj i c cz src ib db tl nm nl eb ll TR xr lr o0 o1 loc B1_3 B1_2 B1_1 B1 nd3 nd4 (Rega.ran L9 6) α' 7006] = _
          rw [f0, f1, f2, f3, f4, f5, f6, f7, f8, f9, f10, f11, f12, f13, f14, f15, f16]
          simp only [hb0, hb1, hb2, hb3, hb4, hb5, hb6, hb7]
      · intro L9 α a9 u9 K9 hL hcl hA hG hS h0 hK
        replace hL : L9 7 = false := hL
        have q6 : a9.tmps[6]? = some (.pointer (some ⟨B1_3, 0, none⟩)) := (h0 6 (by kernel_rfl)).trans rfl
        have s6 := Rega.eval_of q6
        have q59 : a9.tmps[59]? = some (.agg #[.iface 41 (.pointer (some ⟨α 6, 0, none⟩)), .int .i32 ll]) := hS 6 59 (by decide) rfl (by show 59 < 60; decide)
        have s59 := Rega.eval_of q59
        have e0 : rLB2R pb sb PC C mp ps j cj i c cz src ib db tl nm nl eb ll TR xr lr o0 o1 loc B1_3 B1_2 B1_1 B1 nd3 nd4 L9 α 999 = row (B1_3) 34 #[.nilIface, .int .i32 0] := by
          show rLB2T999 pb sb PC C mp ps j cj i c cz src ib db tl nm nl eb ll TR xr lr o0 o1 loc B1_3 B1_2 B1_1 B1 nd3 nd4 L9 α = _
          unfold rLB2T999
          rw [if_neg (by rw [hL]; decide)]
        have hr := hG.rowAt 999 (act_base 999 rfl) e0
        have c0 : u9.cell? ⟨B1_3, 0, none⟩ = some (.nilIface) := hr.cell rfl
        have y0 : u9.frozen? ⟨B1_3, 0, none⟩ = false := hr.free 0
        have c1 : u9.cell? ⟨B1_3, 1, none⟩ = some (.int .i32 0) := hr.cell rfl
        have y1 : u9.frozen? ⟨B1_3, 1, none⟩ = false := hr.free 1
        clear hr
        have E0 := Lib.hid e0
        clear e0
        go_simp
        have e1 : rLB2R pb sb PC C mp ps j cj i c cz src ib db tl nm nl eb ll TR xr lr o0 o1 loc B1_3 B1_2 B1_1 B1 nd3 nd4 (Rega.ran L9 7) α 999 = row (B1_3) 34 #[.iface 41 (.pointer (some ⟨α 6, 0, none⟩)), .int .i32 ll] := by
          show rLB2T999 pb sb PC C mp ps j cj i c cz src ib db tl nm nl eb ll TR xr lr o0 o1 loc B1_3 B1_2 B1_1 B1 nd3 nd4 (Rega.ran L9 7) α = _
          unfold rLB2T999
          rw [if_pos (show Rega.ran L9 7 7 = true from rfl)]
        exact hK _ α _ (fun _ _ => rfl) rfl (step_sets (rLB2_st pb sb PC C mp ps j cj i c cz src ib db tl nm nl eb ll TR xr lr o0 o1 loc B1_3 B1_2 B1_1 B1 nd3 nd4) hL hcl rfl 999 rfl (act_base 999 rfl) E0.out 0 [.iface 41 (.pointer (some ⟨α 6, 0, none⟩)), .int .i32 ll] (e1.trans rfl) hG)
    · intro α u hG
      have e0 : rLB2R pb sb PC C mp ps j cj i c cz src ib db tl nm nl eb ll TR xr lr o0 o1 loc B1_3 B1_2 B1_1 B1 nd3 nd4 (fun k => decide (k < 8)) α 999 = row (B1_3) 34 #[.iface 41 (.pointer (some ⟨α 6, 0, none⟩)), .int .i32 ll] := by
        show rLB2T999 pb sb PC C mp ps j cj i c cz src ib db tl nm nl eb ll TR xr lr o0 o1 loc B1_3 B1_2 B1_1 B1 nd3 nd4 (fun k => decide (k < 8)) α = _
        unfold rLB2T999
        rw [if_pos (by decide)]
      have e1 : rLB2R pb sb PC C mp ps j cj i c cz src ib db tl nm nl eb ll TR xr lr o0 o1 loc B1_3 B1_2 B1_1 B1 nd3 nd4 (fun k => decide (k < 8)) α 1999 = row (B1_2) 41 #[.pointer (some ⟨eb, 0, none⟩)] := rfl
      have e2 : rLB2R pb sb PC C mp ps j cj i c cz src ib db tl nm nl eb ll TR xr lr o0 o1 loc B1_3 B1_2 B1_1 B1 nd3 nd4 (fun k => decide (k < 8)) α 2999 = row (B1_1) 32 #[.int .i32 loc] := rfl
      have e3 : rLB2R pb sb PC C mp ps j cj i c cz src ib db tl nm nl eb ll TR xr lr o0 o1 loc B1_3 B1_2 B1_1 B1 nd3 nd4 (fun k => decide (k < 8)) α 3999 = row (B1) 23 #[.pointer (some ⟨pb, 0, none⟩)] := rfl
      have e4 : rLB2R pb sb PC C mp ps j cj i c cz src ib db tl nm nl eb ll TR xr lr o0 o1 loc B1_3 B1_2 B1_1 B1 nd3 nd4 (fun k => decide (k < 8)) α 4999 = row (pb) 207 PC := rfl
      have e5 : rLB2R pb sb PC C mp ps j cj i c cz src ib db tl nm nl eb ll TR xr lr o0 o1 loc B1_3 B1_2 B1_1 B1 nd3 nd4 (fun k => decide (k < 8)) α 5999 = row (sb) 223 (bumped (bumped (bumped C i c) i cz) j cj) := by
        show rLB2T5999 pb sb PC C mp ps j cj i c cz src ib db tl nm nl eb ll TR xr lr o0 o1 loc B1_3 B1_2 B1_1 B1 nd3 nd4 (fun k => decide (k < 8)) α = _
        unfold rLB2T5999
        rw [if_pos (by decide)]
      have e6 : rLB2R pb sb PC C mp ps j cj i c cz src ib db tl nm nl eb ll TR xr lr o0 o1 loc B1_3 B1_2 B1_1 B1 nd3 nd4 (fun k => decide (k < 8)) α 6999 = (mp, .map #[⟨.string ⟨#[95, 95, 112, 111, 119]⟩, .agg #[.int .i32 0, .int .u32 ps, .int .u32 (j : Int)], 0⟩] 1) := rfl
      have e7 : rLB2R pb sb PC C mp ps j cj i c cz src ib db tl nm nl eb ll TR xr lr o0 o1 loc B1_3 B1_2 B1_1 B1 nd3 nd4 (fun k => decide (k < 8)) α 7999 = row (eb) 47 #[.iface 81 (.pointer (some ⟨db, 0, none⟩)), .int .i32 ll, .iface TR (.pointer (some ⟨xr, 0, none⟩)), .int .i32 lr, .int .u8 o0, .bool o1] := rfl
      have e8 : rLB2R pb sb PC C mp ps j cj i c cz src ib db tl nm nl eb ll TR xr lr o0 o1 loc B1_3 B1_2 B1_1 B1 nd3 nd4 (fun k => decide (k < 8)) α 8999 = row (db) 85 #[.iface 55 (.pointer (some ⟨ib, 0, none⟩)), .int .i32 tl, .string nm, .int .i32 nl, .int .u8 0, .bool false, .bool false, .bool false] := rfl
      have e9 : rLB2R pb sb PC C mp ps j cj i c cz src ib db tl nm nl eb ll TR xr lr o0 o1 loc B1_3 B1_2 B1_1 B1 nd3 nd4 (fun k => decide (k < 8)) α 9999 = row (ib) 214 #[.int .u32 src, .int .u32 (i : Int), .bool false, .bool false, .bool false] := rfl
      have e10 : rLB2R pb sb PC C mp ps j cj i c cz src ib db tl nm nl eb ll TR xr lr o0 o1 loc B1_3 B1_2 B1_1 B1 nd3 nd4 (fun k => decide (k < 8)) α 10999 = row (nd3) 34 #[.nilIface, .int .i32 0] := rfl
      have e11 : rLB2R pb sb PC C mp ps j cj i c cz src ib db tl nm nl eb ll TR xr lr o0 o1 loc B1_3 B1_2 B1_1 B1 nd3 nd4 (fun k => decide (k < 8)) α 11999 = row (nd4) 32 #[.int .i32 0] := rfl
      have e12 : rLB2R pb sb PC C mp ps j cj i c cz src ib db tl nm nl eb ll TR xr lr o0 o1 loc B1_3 B1_2 B1_1 B1 nd3 nd4 (fun k => decide (k < 8)) α 6 = row (α 6) 47 #[.iface 81 (.pointer (some ⟨α 4006, 0, none⟩)), .int .i32 ll, .iface 72 (.pointer (some ⟨α 1006, 0, none⟩)), .int .i32 loc, .int .u8 37, .bool false] := rfl
      have e13 : rLB2R pb sb PC C mp ps j cj i c cz src ib db tl nm nl eb ll TR xr lr o0 o1 loc B1_3 B1_2 B1_1 B1 nd3 nd4 (fun k => decide (k < 8)) α 1006 = row (α 1006) 77 #[.iface 55 (.pointer (some ⟨α 2006, 0, none⟩)), .int .i32 loc, .slice (some ⟨α 3006, 0, none⟩) 2 2, .int .i32 0, .int .u8 0, .int .u8 0, .bool false, .bool false] := rfl
      have e14 : rLB2R pb sb PC C mp ps j cj i c cz src ib db tl nm nl eb ll TR xr lr o0 o1 loc B1_3 B1_2 B1_1 B1 nd3 nd4 (fun k => decide (k < 8)) α 2006 = row (α 2006) 214 #[.int .u32 ps, .int .u32 (j : Int), .bool false, .bool false, .bool false] := rfl
      have e15 : rLB2R pb sb PC C mp ps j cj i c cz src ib db tl nm nl eb ll TR xr lr o0 o1 loc B1_3 B1_2 B1_1 B1 nd3 nd4 (fun k => decide (k < 8)) α 3006 = row (α 3006) 34 #[.iface 81 (.pointer (some ⟨α 5006, 0, none⟩)), .int .i32 ll, .iface TR (.pointer (some ⟨xr, 0, none⟩)), .int .i32 lr] := rfl
      have e16 : rLB2R pb sb PC C mp ps j cj i c cz src ib db tl nm nl eb ll TR xr lr o0 o1 loc B1_3 B1_2 B1_1 B1 nd3 nd4 (fun k => decide (k < 8)) α 4006 = row (α 4006) 85 #[.iface 55 (.pointer (some ⟨α 6006, 0, none⟩)), .int .i32 ll, .string nm, .int .i32 nl, .int .u8 0, .bool false, .bool false, .bool false] := rfl
      have e17 : rLB2R pb sb PC C mp ps j cj i c cz src ib db tl nm nl eb ll TR xr lr o0 o1 loc B1_3 B1_2 B1_1 B1 nd3 nd4 (fun k => decide (k < 8)) α 5006 = row (α 5006) 85 #[.iface 55 (.pointer (some ⟨α 7006, 0, none⟩)), .int .i32 ll, .string nm, .int .i32 nl, .int .u8 0, .bool false, .bool false, .bool false] := rfl
      have e18 : rLB2R pb sb PC C mp ps j cj i c cz src ib db tl nm nl eb ll TR xr lr o0 o1 loc B1_3 B1_2 B1_1 B1 nd3 nd4 (fun k => decide (k < 8)) α 6006 = row (α 6006) 214 #[.int .u32 src, .int .u32 (i : Int), .bool false, .bool false, .bool false] := rfl
      have e19 : rLB2R pb sb PC C mp ps j cj i c cz src ib db tl nm nl eb ll TR xr lr o0 o1 loc B1_3 B1_2 B1_1 B1 nd3 nd4 (fun k => decide (k < 8)) α 7006 = row (α 7006) 214 #[.int .u32 src, .int .u32 (i : Int), .bool false, .bool false, .bool false] := rfl
      have hO : Own w0 u [row (B1_3) 34 #[.iface 41 (.pointer (some ⟨α 6, 0, none⟩)), .int .i32 ll], row (B1_2) 41 #[.pointer (some ⟨eb, 0, none⟩)], row (B1_1) 32 #[.int .i32 loc], row (B1) 23 #[.pointer (some ⟨pb, 0, none⟩)], row (pb) 207 PC, row (sb) 223 (bumped (bumped (bumped C i c) i cz) j cj), (mp, .map #[⟨.string ⟨#[95, 95, 112, 111, 119]⟩, .agg #[.int .i32 0, .int .u32 ps, .int .u32 (j : Int)], 0⟩] 1), row (eb) 47 #[.iface 81 (.pointer (some ⟨db, 0, none⟩)), .int .i32 ll, .iface TR (.pointer (some ⟨xr, 0, none⟩)), .int .i32 lr, .int .u8 o0, .bool o1], row (db) 85 #[.iface 55 (.pointer (some ⟨ib, 0, none⟩)), .int .i32 tl, .string nm, .int .i32 nl, .int .u8 0, .bool false, .bool false, .bool false], row (ib) 214 #[.int .u32 src, .int .u32 (i : Int), .bool false, .bool false, .bool false], row (nd3) 34 #[.nilIface, .int .i32 0], row (nd4) 32 #[.int .i32 0], row (α 6) 47 #[.iface 81 (.pointer (some ⟨α 4006, 0, none⟩)), .int .i32 ll, .iface 72 (.pointer (some ⟨α 1006, 0, none⟩)), .int .i32 loc, .int .u8 37, .bool false], row (α 1006) 77 #[.iface 55 (.pointer (some ⟨α 2006, 0, none⟩)), .int .i32 loc, .slice (some ⟨α 3006, 0, none⟩) 2 2, .int .i32 0, .int .u8 0, .int .u8 0, .bool false, .bool false], row (α 2006) 214 #[.int .u32 ps, .int .u32 (j : Int), .bool false, .bool false, .bool false], row (α 3006) 34 #[.iface 81 (.pointer (some ⟨α 5006, 0, none⟩)), .int .i32 ll, .iface TR (.pointer (some ⟨xr, 0, none⟩)), .int .i32 lr], row (α 4006) 85 #[.iface 55 (.pointer (some ⟨α 6006, 0, none⟩)), .int .i32 ll, .string nm, .int .i32 nl, .int .u8 0, .bool false, .bool false, .bool false], row (α 5006) 85 #[.iface 55 (.pointer (some ⟨α 7006, 0, none⟩)), .int .i32 ll, .string nm, .int .i32 nl, .int .u8 0, .bool false, .bool false, .bool false], row (α 6006) 214 #[.int .u32 src, .int .u32 (i : Int), .bool false, .bool false, .bool false], row (α 7006) 214 #[.int .u32 src, .int .u32 (i : Int), .bool false, .bool false, .bool false]] X := (hG.list [999, 1999, 2999, 3999, 4999, 5999, 6999, 7999, 8999, 9999, 10999, 11999, 6, 1006, 2006, 3006, 4006, 5006, 6006, 7006] (by decide) (act_all (by decide))).conv (by
        show [rLB2R pb sb PC C mp ps j cj i c cz src ib db tl nm nl eb ll TR xr lr o0 o1 loc B1_3 B1_2 B1_1 B1 nd3 nd4 (fun k => decide (k < 8)) α 999, rLB2R pb sb PC C mp ps j cj i c cz src ib db tl nm nl eb ll TR xr lr o0 o1 loc B1_3 B1_2 B1_1 B1 nd3 nd4 (fun k => decide (k < 8)) α 1999, rLB2R pb sb PC C mp ps j cj i c cz src ib db tl nm nl eb ll TR xr lr o0 o1 loc B1_3 B1_2 B1_1 B1 nd3 nd4 (fun k => decide (k < 8)) α 2999, rLB2R pb sb PC C mp ps j cj i c cz src ib db tl nm nl eb ll TR xr lr o0 o1 loc B1_3 B1_2 B1_1 B1 nd3 nd4 (fun k => decide (k < 8)) α 3999, rLB2R pb sb PC C mp ps j cj i c cz src ib db tl nm nl eb ll TR xr lr o0 o1 loc B1_3 B1_2 B1_1 B1 nd3 nd4 (fun k => decide (k < 8)) α 4999, rLB2R pb sb PC C mp ps j cj i c cz src ib db tl nm nl eb ll TR xr lr o0 o1 loc B1_3 B1_2 B1_1 B1 nd3 nd4 (fun k => decide (k < 8)) α 5999, rLB2R pb sb PC C mp ps j cj i c cz src ib db tl nm nl eb ll TR xr lr o0 o1 loc B1_3 B1_2 B1_1 B1 nd3 nd4 (fun k => decide (k < 8)) α 6999, rLB2R pb sb PC C mp ps j cj i c cz src ib db tl nm nl eb ll TR xr lr o0 o1 loc B1_3 B1_2 B1_1 B1 nd3 nd4 (fun k => decide (k < 8)) α 7999, rLB2R pb sb PC C mp ps j cj i c cz src ib db tl nm nl eb ll TR xr lr o0 o1 loc B1_3 B1_2 B1_1 B1 nd3 nd4 (fun k => decide (k < 8)) α 8999, rLB2R pb sb PC C mp ps j cj i c cz src ib db tl nm nl eb ll TR xr lr o0 o1 loc B1_3 B1_2 B1_1 B1 nd3 nd4 (fun k => decide (k < 8)) α 9999, rLB2R pb sb PC C mp ps j cj i c cz src ib db tl nm nl eb ll TR xr lr o0 o1 loc B1_3 B1_2 B1_1 B1 nd3 nd4 (fun k => decide (k < 8)) α 10999, rLB2R pb sb PC C mp ps j cj i c cz src ib db tl nm nl eb ll TR xr lr o0 o1 loc B1_3 B1_2 B1_1 B1 nd3 nd4 (fun k => decide (k < 8)) α 11999, rLB2R pb sb PC C mp ps j cj i c cz src ib db tl nm nl eb ll TR xr lr o0 o1 loc B1_3 B1_2 B1_1 B1 nd3 nd4 (fun k => decide (k < 8)) α 6, rLB2R pb sb PC C mp ps j cj i c cz src ib db tl nm nl eb ll TR xr lr o0 o1 loc B1_3 B1_2 B1_1 B1 nd3 nd4 (fun k => decide (k < 8)) α 1006, rLB2R pb sb PC C mp ps j cj i c cz src ib db tl nm nl eb ll TR xr lr o0 o1 loc B1_3 B1_2 B1_1 B1 nd3 nd4 (fun k => decide (k < 8)) α 2006, rLB2R pb sb PC C mp ps j cj i c cz src ib db tl nm nl eb ll TR xr lr o0 o1 loc B1_3 B1_2 B1_1 B1 nd3 nd4 (fun k => decide (k < 8)) α 3006, rLB2R pb sb PC C mp ps j cj i c cz src ib db tl nm nl eb ll TR xr lr o0 o1 loc B1_3 B1_2 B1_1 B1 nd3 nd4 (fun k => decide (k < 8)) α 4006, rLB2R pb sb PC C mp ps j cj i c cz src ib db tl nm nl eb ll TR xr lr o0 o1 loc B1_3 B1_2 B1_1 B1 nd3 nd4 (fun k => decide (k < 8)) α 5006, rLB2R pb sb PC C mp ps j cj i c cz src ib db tl nm nl eb ll TR xr lr o0 o1 loc B1_3 B1_2 B1_1 B1 nd3 nd4 (fun k => decide (k < 8)) α 6006, rLB2R pb sb PC C mp ps j cj i c cz src ib db tl nm nl eb ll TR xr lr o0 o1 loc B1_3 B1_2 B1_1 B1 nd3 nd4 (fun k => decide (k < 8)) α 7006] = _
        rw [e0, e1, e2, e3, e4, e5, e6, e7, e8, e9, e10, e11, e12, e13, e14, e15, e16, e17, e18, e19])
      clear hG e0 e1 e2 e3 e4 e5 e6 e7 e8 e9 e10 e11 e12 e13 e14 e15 e16 e17 e18 e19
      generalize hfr : Rega.frameAt _ _ _ _ _ = fr
      have hdf : fr = ⟨#[.pointer (some ⟨pb, 0, none⟩), .agg #[.int .i32 loc], .pointer (some ⟨eb, 0, none⟩), .pointer (some ⟨B1, 0, none⟩), .pointer (some ⟨B1_1, 0, none⟩), .pointer (some ⟨B1_2, 0, none⟩), .pointer (some ⟨B1_3, 0, none⟩), .pointer (some ⟨nd3, 0, none⟩), .pointer (some ⟨nd4, 0, none⟩), .pointer none, undef, undef, .tuple #[.agg #[.nilIface, .int .i32 0], .agg #[.int .i32 0], .pointer none], .pointer (some ⟨pb, 0, none⟩), .pointer (some ⟨eb, 0, none⟩), .pointer (some ⟨eb, 0, none⟩), .pointer (some ⟨eb, 0, none⟩), .agg #[.iface 81 (.pointer (some ⟨db, 0, none⟩)), .int .i32 ll], .tuple #[.agg #[.nilIface, .int .i32 0], .agg #[.int .i32 0], .pointer none], .agg #[.nilIface, .int .i32 0], .agg #[.int .i32 0], .pointer none, .pointer none, .bool false, undef, undef, undef, undef, undef, undef, undef, undef, undef, undef, undef, undef, undef, undef, undef, undef, undef, undef, undef, undef, undef, undef, undef, undef, undef, undef, undef, undef, undef, .pointer (some ⟨pb, 0, none⟩), .pointer (some ⟨eb, 0, none⟩), .pointer (some ⟨eb, 0, none⟩), .pointer (some ⟨eb, 0, none⟩), .agg #[.iface 81 (.pointer (some ⟨db, 0, none⟩)), .int .i32 ll], .func (Fn.func 48) #[] #[.pointer (some ⟨B1, 0, none⟩), .pointer (some ⟨B1_1, 0, none⟩), .pointer (some ⟨B1_2, 0, none⟩)], .agg #[.iface 41 (.pointer (some ⟨α 6, 0, none⟩)), .int .i32 ll]], []⟩ := by rw [← hfr]; kernel_rfl
      clear hfr
      subst hdf
      generalize α 6 = nd5 at hO ⊢
      generalize α 1006 = nd6 at hO ⊢
      generalize α 2006 = nd7 at hO ⊢
      generalize α 3006 = nd8 at hO ⊢
      generalize α 4006 = nd9 at hO ⊢
      generalize α 5006 = nd10 at hO ⊢
      generalize α 6006 = nd11 at hO ⊢
      generalize α 7006 = nd12 at hO ⊢
      clear α
      have c9_0_0 : u.cell? ⟨B1_3, 0, none⟩ = some (.iface 41 (.pointer (some ⟨nd5, 0, none⟩))) := hO.cell 0 rfl 0 rfl
      have c9_0_1 : u.cell? ⟨B1_3, 1, none⟩ = some (.int .i32 ll) := hO.cell 0 rfl 1 rfl
      have lt9_0 : B1_3 < u.heap.size := hO.lt 0 rfl
      have y9_0 : ∀ o, u.frozen? ⟨B1_3, o, none⟩ = false := hO.free 0 rfl
      have c9_1_0 : u.cell? ⟨B1_2, 0, none⟩ = some (.pointer (some ⟨eb, 0, none⟩)) := hO.cell 1 rfl 0 rfl
      have lt9_1 : B1_2 < u.heap.size := hO.lt 1 rfl
      have y9_1 : ∀ o, u.frozen? ⟨B1_2, o, none⟩ = false := hO.free 1 rfl
      have c9_2_0 : u.cell? ⟨B1_1, 0, none⟩ = some (.int .i32 loc) := hO.cell 2 rfl 0 rfl
      have lt9_2 : B1_1 < u.heap.size := hO.lt 2 rfl
      have y9_2 : ∀ o, u.frozen? ⟨B1_1, o, none⟩ = false := hO.free 2 rfl
      have c9_3_0 : u.cell? ⟨B1, 0, none⟩ = some (.pointer (some ⟨pb, 0, none⟩)) := hO.cell 3 rfl 0 rfl
      have lt9_3 : B1 < u.heap.size := hO.lt 3 rfl
      have y9_3 : ∀ o, u.frozen? ⟨B1, o, none⟩ = false := hO.free 3 rfl
      have c9_7_0 : u.cell? ⟨eb, 0, none⟩ = some (.iface 81 (.pointer (some ⟨db, 0, none⟩))) := hO.cell 7 rfl 0 rfl
      have c9_7_1 : u.cell? ⟨eb, 1, none⟩ = some (.int .i32 ll) := hO.cell 7 rfl 1 rfl
      have c9_7_2 : u.cell? ⟨eb, 2, none⟩ = some (.iface TR (.pointer (some ⟨xr, 0, none⟩))) := hO.cell 7 rfl 2 rfl
      have c9_7_3 : u.cell? ⟨eb, 3, none⟩ = some (.int .i32 lr) := hO.cell 7 rfl 3 rfl
      have c9_7_4 : u.cell? ⟨eb, 4, none⟩ = some (.int .u8 o0) := hO.cell 7 rfl 4 rfl
      have c9_7_5 : u.cell? ⟨eb, 5, none⟩ = some (.bool o1) := hO.cell 7 rfl 5 rfl
      have lt9_7 : eb < u.heap.size := hO.lt 7 rfl
      have y9_7 : ∀ o, u.frozen? ⟨eb, o, none⟩ = false := hO.free 7 rfl
      have c9_8_0 : u.cell? ⟨db, 0, none⟩ = some (.iface 55 (.pointer (some ⟨ib, 0, none⟩))) := hO.cell 8 rfl 0 rfl
      have c9_8_1 : u.cell? ⟨db, 1, none⟩ = some (.int .i32 tl) := hO.cell 8 rfl 1 rfl
      have c9_8_2 : u.cell? ⟨db, 2, none⟩ = some (.string nm) := hO.cell 8 rfl 2 rfl
      have c9_8_3 : u.cell? ⟨db, 3, none⟩ = some (.int .i32 nl) := hO.cell 8 rfl 3 rfl
      have c9_8_4 : u.cell? ⟨db, 4, none⟩ = some (.int .u8 0) := hO.cell 8 rfl 4 rfl
      have c9_8_5 : u.cell? ⟨db, 5, none⟩ = some (.bool false) := hO.cell 8 rfl 5 rfl
      have c9_8_6 : u.cell? ⟨db, 6, none⟩ = some (.bool false) := hO.cell 8 rfl 6 rfl
      have c9_8_7 : u.cell? ⟨db, 7, none⟩ = some (.bool false) := hO.cell 8 rfl 7 rfl
      have lt9_8 : db < u.heap.size := hO.lt 8 rfl
      have y9_8 : ∀ o, u.frozen? ⟨db, o, none⟩ = false := hO.free 8 rfl
      have c9_9_0 : u.cell? ⟨ib, 0, none⟩ = some (.int .u32 src) := hO.cell 9 rfl 0 rfl
      have c9_9_1 : u.cell? ⟨ib, 1, none⟩ = some (.int .u32 (i : Int)) := hO.cell 9 rfl 1 rfl
      have c9_9_2 : u.cell? ⟨ib, 2, none⟩ = some (.bool false) := hO.cell 9 rfl 2 rfl
      have c9_9_3 : u.cell? ⟨ib, 3, none⟩ = some (.bool false) := hO.cell 9 rfl 3 rfl
      have c9_9_4 : u.cell? ⟨ib, 4, none⟩ = some (.bool false) := hO.cell 9 rfl 4 rfl
      have lt9_9 : ib < u.heap.size := hO.lt 9 rfl
      have y9_9 : ∀ o, u.frozen? ⟨ib, o, none⟩ = false := hO.free 9 rfl
      have c9_10_0 : u.cell? ⟨nd3, 0, none⟩ = some (.nilIface) := hO.cell 10 rfl 0 rfl
      have c9_10_1 : u.cell? ⟨nd3, 1, none⟩ = some (.int .i32 0) := hO.cell 10 rfl 1 rfl
      have lt9_10 : nd3 < u.heap.size := hO.lt 10 rfl
      have y9_10 : ∀ o, u.frozen? ⟨nd3, o, none⟩ = false := hO.free 10 rfl
      have c9_11_0 : u.cell? ⟨nd4, 0, none⟩ = some (.int .i32 0) := hO.cell 11 rfl 0 rfl
      have lt9_11 : nd4 < u.heap.size := hO.lt 11 rfl
      have y9_11 : ∀ o, u.frozen? ⟨nd4, o, none⟩ = false := hO.free 11 rfl
      have c9_12_0 : u.cell? ⟨nd5, 0, none⟩ = some (.iface 81 (.pointer (some ⟨nd9, 0, none⟩))) := hO.cell 12 rfl 0 rfl
      have c9_12_1 : u.cell? ⟨nd5, 1, none⟩ = some (.int .i32 ll) := hO.cell 12 rfl 1 rfl
      have c9_12_2 : u.cell? ⟨nd5, 2, none⟩ = some (.iface 72 (.pointer (some ⟨nd6, 0, none⟩))) := hO.cell 12 rfl 2 rfl
      have c9_12_3 : u.cell? ⟨nd5, 3, none⟩ = some (.int .i32 loc) := hO.cell 12 rfl 3 rfl
      have c9_12_4 : u.cell? ⟨nd5, 4, none⟩ = some (.int .u8 37) := hO.cell 12 rfl 4 rfl
      have c9_12_5 : u.cell? ⟨nd5, 5, none⟩ = some (.bool false) := hO.cell 12 rfl 5 rfl
      have lt9_12 : nd5 < u.heap.size := hO.lt 12 rfl
      have y9_12 : ∀ o, u.frozen? ⟨nd5, o, none⟩ = false := hO.free 12 rfl
      have c9_13_0 : u.cell? ⟨nd6, 0, none⟩ = some (.iface 55 (.pointer (some ⟨nd7, 0, none⟩))) := hO.cell 13 rfl 0 rfl
      have c9_13_1 : u.cell? ⟨nd6, 1, none⟩ = some (.int .i32 loc) := hO.cell 13 rfl 1 rfl
      have c9_13_2 : u.cell? ⟨nd6, 2, none⟩ = some (.slice (some ⟨nd8, 0, none⟩) 2 2) := hO.cell 13 rfl 2 rfl
      have c9_13_3 : u.cell? ⟨nd6, 3, none⟩ = some (.int .i32 0) := hO.cell 13 rfl 3 rfl
      have c9_13_4 : u.cell? ⟨nd6, 4, none⟩ = some (.int .u8 0) := hO.cell 13 rfl 4 rfl
      have c9_13_5 : u.cell? ⟨nd6, 5, none⟩ = some (.int .u8 0) := hO.cell 13 rfl 5 rfl
      have c9_13_6 : u.cell? ⟨nd6, 6, none⟩ = some (.bool false) := hO.cell 13 rfl 6 rfl
      have c9_13_7 : u.cell? ⟨nd6, 7, none⟩ = some (.bool false) := hO.cell 13 rfl 7 rfl
      have lt9_13 : nd6 < u.heap.size := hO.lt 13 rfl
      have y9_13 : ∀ o, u.frozen? ⟨nd6, o, none⟩ = false := hO.free 13 rfl
      have c9_14_0 : u.cell? ⟨nd7, 0, none⟩ = some (.int .u32 ps) := hO.cell 14 rfl 0 rfl
      have c9_14_1 : u.cell? ⟨nd7, 1, none⟩ = some (.int .u32 (j : Int)) := hO.cell 14 rfl 1 rfl
      have c9_14_2 : u.cell? ⟨nd7, 2, none⟩ = some (.bool false) := hO.cell 14 rfl 2 rfl
      have c9_14_3 : u.cell? ⟨nd7, 3, none⟩ = some (.bool false) := hO.cell 14 rfl 3 rfl
      have c9_14_4 : u.cell? ⟨nd7, 4, none⟩ = some (.bool false) := hO.cell 14 rfl 4 rfl
      have lt9_14 : nd7 < u.heap.size := hO.lt 14 rfl
      have y9_14 : ∀ o, u.frozen? ⟨nd7, o, none⟩ = false := hO.free 14 rfl
      have c9_15_0 : u.cell? ⟨nd8, 0, none⟩ = some (.iface 81 (.pointer (some ⟨nd10, 0, none⟩))) := hO.cell 15 rfl 0 rfl
      have c9_15_1 : u.cell? ⟨nd8, 1, none⟩ = some (.int .i32 ll) := hO.cell 15 rfl 1 rfl
      have c9_15_2 : u.cell? ⟨nd8, 2, none⟩ = some (.iface TR (.pointer (some ⟨xr, 0, none⟩))) := hO.cell 15 rfl 2 rfl
      have c9_15_3 : u.cell? ⟨nd8, 3, none⟩ = some (.int .i32 lr) := hO.cell 15 rfl 3 rfl
      have lt9_15 : nd8 < u.heap.size := hO.lt 15 rfl
      have y9_15 : ∀ o, u.frozen? ⟨nd8, o, none⟩ = false := hO.free 15 rfl
      have c9_16_0 : u.cell? ⟨nd9, 0, none⟩ = some (.iface 55 (.pointer (some ⟨nd11, 0, none⟩))) := hO.cell 16 rfl 0 rfl
      have c9_16_1 : u.cell? ⟨nd9, 1, none⟩ = some (.int .i32 ll) := hO.cell 16 rfl 1 rfl
      have c9_16_2 : u.cell? ⟨nd9, 2, none⟩ = some (.string nm) := hO.cell 16 rfl 2 rfl
      have c9_16_3 : u.cell? ⟨nd9, 3, none⟩ = some (.int .i32 nl) := hO.cell 16 rfl 3 rfl
      have c9_16_4 : u.cell? ⟨nd9, 4, none⟩ = some (.int .u8 0) := hO.cell 16 rfl 4 rfl
      have c9_16_5 : u.cell? ⟨nd9, 5, none⟩ = some (.bool false) := hO.cell 16 rfl 5 rfl
      have c9_16_6 : u.cell? ⟨nd9, 6, none⟩ = some (.bool false) := hO.cell 16 rfl 6 rfl
      have c9_16_7 : u.cell? ⟨nd9, 7, none⟩ = some (.bool false) := hO.cell 16 rfl 7 rfl
      have lt9_16 : nd9 < u.heap.size := hO.lt 16 rfl
      have y9_16 : ∀ o, u.frozen? ⟨nd9, o, none⟩ = false := hO.free 16 rfl
      have c9_17_0 : u.cell? ⟨nd10, 0, none⟩ = some (.iface 55 (.pointer (some ⟨nd12, 0, none⟩))) := hO.cell 17 rfl 0 rfl
      have c9_17_1 : u.cell? ⟨nd10, 1, none⟩ = some (.int .i32 ll) := hO.cell 17 rfl 1 rfl
      have c9_17_2 : u.cell? ⟨nd10, 2, none⟩ = some (.string nm) := hO.cell 17 rfl 2 rfl
      have c9_17_3 : u.cell? ⟨nd10, 3, none⟩ = some (.int .i32 nl) := hO.cell 17 rfl 3 rfl
      have c9_17_4 : u.cell? ⟨nd10, 4, none⟩ = some (.int .u8 0) := hO.cell 17 rfl 4 rfl
      have c9_17_5 : u.cell? ⟨nd10, 5, none⟩ = some (.bool false) := hO.cell 17 rfl 5 rfl
      have c9_17_6 : u.cell? ⟨nd10, 6, none⟩ = some (.bool false) := hO.cell 17 rfl 6 rfl
      have c9_17_7 : u.cell? ⟨nd10, 7, none⟩ = some (.bool false) := hO.cell 17 rfl 7 rfl
      have lt9_17 : nd10 < u.heap.size := hO.lt 17 rfl
      have y9_17 : ∀ o, u.frozen? ⟨nd10, o, none⟩ = false := hO.free 17 rfl
      have c9_18_0 : u.cell? ⟨nd11, 0, none⟩ = some (.int .u32 src) := hO.cell 18 rfl 0 rfl
      have c9_18_1 : u.cell? ⟨nd11, 1, none⟩ = some (.int .u32 (i : Int)) := hO.cell 18 rfl 1 rfl
      have c9_18_2 : u.cell? ⟨nd11, 2, none⟩ = some (.bool false) := hO.cell 18 rfl 2 rfl
      have c9_18_3 : u.cell? ⟨nd11, 3, none⟩ = some (.bool false) := hO.cell 18 rfl 3 rfl
      have c9_18_4 : u.cell? ⟨nd11, 4, none⟩ = some (.bool false) := hO.cell 18 rfl 4 rfl
      have lt9_18 : nd11 < u.heap.size := hO.lt 18 rfl
      have y9_18 : ∀ o, u.frozen? ⟨nd11, o, none⟩ = false := hO.free 18 rfl
      have c9_19_0 : u.cell? ⟨nd12, 0, none⟩ = some (.int .u32 src) := hO.cell 19 rfl 0 rfl
      have c9_19_1 : u.cell? ⟨nd12, 1, none⟩ = some (.int .u32 (i : Int)) := hO.cell 19 rfl 1 rfl
      have c9_19_2 : u.cell? ⟨nd12, 2, none⟩ = some (.bool false) := hO.cell 19 rfl 2 rfl
      have c9_19_3 : u.cell? ⟨nd12, 3, none⟩ = some (.bool false) := hO.cell 19 rfl 3 rfl
      have c9_19_4 : u.cell? ⟨nd12, 4, none⟩ = some (.bool false) := hO.cell 19 rfl 4 rfl
      have lt9_19 : nd12 < u.heap.size := hO.lt 19 rfl
      have y9_19 : ∀ o, u.frozen? ⟨nd12, o, none⟩ = false := hO.free 19 rfl
      have HO := Lib.hid hO
      clear hO
      go_wp2_with fail
      have hO := HO.out
      clear HO c9_0_0 c9_0_1 lt9_0 y9_0 c9_1_0 lt9_1 y9_1 c9_2_0 lt9_2 y9_2 c9_3_0 lt9_3 y9_3 c9_7_0 c9_7_1 c9_7_2 c9_7_3 c9_7_4 c9_7_5 lt9_7 y9_7 c9_8_0 c9_8_1 c9_8_2 c9_8_3 c9_8_4 c9_8_5 c9_8_6 c9_8_7 lt9_8 y9_8 c9_9_0 c9_9_1 c9_9_2 c9_9_3 c9_9_4 lt9_9 y9_9 c9_10_0 c9_10_1 lt9_10 y9_10 c9_11_0 lt9_11 y9_11 c9_12_0 c9_12_1 c9_12_2 c9_12_3 c9_12_4 c9_12_5 lt9_12 y9_12 c9_13_0 c9_13_1 c9_13_2 c9_13_3 c9_13_4 c9_13_5 c9_13_6 c9_13_7 lt9_13 y9_13 c9_14_0 c9_14_1 c9_14_2 c9_14_3 c9_14_4 lt9_14 y9_14 c9_15_0 c9_15_1 c9_15_2 c9_15_3 lt9_15 y9_15 c9_16_0 c9_16_1 c9_16_2 c9_16_3 c9_16_4 c9_16_5 c9_16_6 c9_16_7 lt9_16 y9_16 c9_17_0 c9_17_1 c9_17_2 c9_17_3 c9_17_4 c9_17_5 c9_17_6 c9_17_7 lt9_17 y9_17 c9_18_0 c9_18_1 c9_18_2 c9_18_3 c9_18_4 lt9_18 y9_18 c9_19_0 c9_19_1 c9_19_2 c9_19_3 c9_19_4 lt9_19 y9_19
      have z9_0_0 : u.cell? ⟨B1_3, 0, none⟩ = some (.iface 41 (.pointer (some ⟨nd5, 0, none⟩))) := hO.cell 0 rfl 0 rfl
      have z9_0_1 : u.cell? ⟨B1_3, 1, none⟩ = some (.int .i32 ll) := hO.cell 0 rfl 1 rfl
      refine bodyPost_ret (v := .agg #[.iface 41 (.pointer (some ⟨nd5, 0, none⟩)), .int .i32 ll]) ?_ rfl ⟨nd5, nd6, nd7, nd8, nd9, nd10, nd11, nd12, rfl, hO.sub [4, 5, 6, 7, 8, 9, 12, 13, 14, 15, 16, 17, 18, 19] (by decide)⟩
      simp [results, Tryd.results37, go_sem, z9_0_0, z9_0_1]
def low28dotPost (pb sb n cap : Nat) (PC C : Array Value) (mp : Nat) (ps : Int) (j cj i c cz : Nat) (src : Int) (ib db : Nat) (tl : Int) (nm : ByteArray) (nl : Int) (eb : Nat) (ll : Int) (TR xr : Nat) (lr o0 : Int) (o1 : Bool) (loc : Int) (w0 : World) (X : Nat → Obj → Prop) (e : Ending) (w' : World) : Prop :=
  ∃ ab : Nat, ∃ ca : Nat, ∃ b : Nat, ∃ sx : Nat, ∃ d1 : Nat, ∃ d2 : Nat, ∃ i1 : Nat, ∃ i2 : Nat, e = .returned (.agg #[.iface 41 (.pointer (some ⟨ab, 0, none⟩)), .int .i32 ll]) ∧ Own w0 w' [row (pb) 207 PC, row (sb) 223 (bumped (bumped (bumped C i c) i cz) j cj), (mp, .map #[⟨.string ⟨#[95, 95, 112, 111, 119]⟩, .agg #[.int .i32 0, .int .u32 ps, .int .u32 (j : Int)], 0⟩] 1), row (eb) 47 #[.iface 81 (.pointer (some ⟨db, 0, none⟩)), .int .i32 ll, .iface TR (.pointer (some ⟨xr, 0, none⟩)), .int .i32 lr, .int .u8 o0, .bool o1], row (db) 85 #[.iface 55 (.pointer (some ⟨ib, 0, none⟩)), .int .i32 tl, .string nm, .int .i32 nl, .int .u8 0, .bool false, .bool false, .bool false], row (ib) 214 #[.int .u32 src, .int .u32 (i : Int), .bool false, .bool false, .bool false], row (ab) 47 #[.iface 81 (.pointer (some ⟨d1, 0, none⟩)), .int .i32 ll, .iface 72 (.pointer (some ⟨ca, 0, none⟩)), .int .i32 loc, .int .u8 37, .bool false], row (ca) 77 #[.iface 55 (.pointer (some ⟨b, 0, none⟩)), .int .i32 loc, .slice (some ⟨sx, 0, none⟩) 2 2, .int .i32 0, .int .u8 0, .int .u8 0, .bool false, .bool false], row (b) 214 #[.int .u32 ps, .int .u32 (j : Int), .bool false, .bool false, .bool false], row (sx) 34 #[.iface 81 (.pointer (some ⟨d2, 0, none⟩)), .int .i32 ll, .iface TR (.pointer (some ⟨xr, 0, none⟩)), .int .i32 lr], row (d1) 85 #[.iface 55 (.pointer (some ⟨i1, 0, none⟩)), .int .i32 ll, .string nm, .int .i32 nl, .int .u8 0, .bool false, .bool false, .bool false], row (d2) 85 #[.iface 55 (.pointer (some ⟨i2, 0, none⟩)), .int .i32 ll, .string nm, .int .i32 nl, .int .u8 0, .bool false, .bool false, .bool false], row (i1) 214 #[.int .u32 src, .int .u32 (i : Int), .bool false, .bool false, .bool false], row (i2) 214 #[.int .u32 src, .int .u32 (i : Int), .bool false, .bool false, .bool false]] X
set_option maxRecDepth 100000 in
set_option maxHeartbeats 1000000 in
theorem low28dot (pb sb n cap : Nat) (PC C : Array Value) (mp : Nat) (ps : Int) (j cj i c cz : Nat) (src : Int) (ib db : Nat) (tl : Int) (nm : ByteArray) (nl : Int) (eb : Nat) (ll : Int) (TR xr : Nat) (lr o0 : Int) (o1 : Bool) (loc : Int) (w0 w : World) (X : Nat → Obj → Prop) (hO : Own w0 w [row (pb) 207 PC, row (sb) 223 C, (mp, .map #[⟨.string ⟨#[95, 95, 112, 111, 119]⟩, .agg #[.int .i32 0, .int .u32 ps, .int .u32 (j : Int)], 0⟩] 1), row (eb) 47 #[.iface 81 (.pointer (some ⟨db, 0, none⟩)), .int .i32 ll, .iface TR (.pointer (some ⟨xr, 0, none⟩)), .int .i32 lr, .int .u8 o0, .bool o1], row (db) 85 #[.iface 55 (.pointer (some ⟨ib, 0, none⟩)), .int .i32 tl, .string nm, .int .i32 nl, .int .u8 0, .bool false, .bool false, .bool false], row (ib) 214 #[.int .u32 src, .int .u32 (i : Int), .bool false, .bool false, .bool false]] X) (hR : Ready PC sb n cap) (hn : n ≤ 4294967295) (hi : i < n) (hc : C[i * 10 + 4]? = some (.int .u32 (c : Int))) (hcm : c < 4294967295) (hc2 : (bumped C i c)[i * 10 + 4]? = some (.int .u32 (cz : Int))) (hcm2 : cz < 4294967295) (hj : j < n) (hcj : (bumped (bumped C i c) i cz)[j * 10 + 4]? = some (.int .u32 (cj : Int))) (hcjm : cj < 4294967295) (hm : PC[117]? = some (.map (some mp))) :
    Calls Tryd.prog 28 #[.pointer (some ⟨pb, 0, none⟩), .agg #[.int .i32 loc], .pointer (some ⟨eb, 0, none⟩)] w (low28dotPost pb sb n cap PC C mp ps j cj i c cz src ib db tl nm nl eb ll TR xr lr o0 o1 loc w0 X) := by
  go_enter Tryd.func28, Tryd.ntmps28
  have c9_3_0 : w.cell? ⟨eb, 0, none⟩ = some (.iface 81 (.pointer (some ⟨db, 0, none⟩))) := hO.cell 3 rfl 0 rfl
  have c9_3_1 : w.cell? ⟨eb, 1, none⟩ = some (.int .i32 ll) := hO.cell 3 rfl 1 rfl
  have c9_3_2 : w.cell? ⟨eb, 2, none⟩ = some (.iface TR (.pointer (some ⟨xr, 0, none⟩))) := hO.cell 3 rfl 2 rfl
  have c9_3_3 : w.cell? ⟨eb, 3, none⟩ = some (.int .i32 lr) := hO.cell 3 rfl 3 rfl
  have c9_3_4 : w.cell? ⟨eb, 4, none⟩ = some (.int .u8 o0) := hO.cell 3 rfl 4 rfl
  have c9_3_5 : w.cell? ⟨eb, 5, none⟩ = some (.bool o1) := hO.cell 3 rfl 5 rfl
  have lt9_3 : eb < w.heap.size := hO.lt 3 rfl
  have y9_3 : ∀ o, w.frozen? ⟨eb, o, none⟩ = false := hO.free 3 rfl
  have c9_4_0 : w.cell? ⟨db, 0, none⟩ = some (.iface 55 (.pointer (some ⟨ib, 0, none⟩))) := hO.cell 4 rfl 0 rfl
  have c9_4_1 : w.cell? ⟨db, 1, none⟩ = some (.int .i32 tl) := hO.cell 4 rfl 1 rfl
  have c9_4_2 : w.cell? ⟨db, 2, none⟩ = some (.string nm) := hO.cell 4 rfl 2 rfl
  have c9_4_3 : w.cell? ⟨db, 3, none⟩ = some (.int .i32 nl) := hO.cell 4 rfl 3 rfl
  have c9_4_4 : w.cell? ⟨db, 4, none⟩ = some (.int .u8 0) := hO.cell 4 rfl 4 rfl
  have c9_4_5 : w.cell? ⟨db, 5, none⟩ = some (.bool false) := hO.cell 4 rfl 5 rfl
  have c9_4_6 : w.cell? ⟨db, 6, none⟩ = some (.bool false) := hO.cell 4 rfl 6 rfl
  have c9_4_7 : w.cell? ⟨db, 7, none⟩ = some (.bool false) := hO.cell 4 rfl 7 rfl
  have lt9_4 : db < w.heap.size := hO.lt 4 rfl
  have y9_4 : ∀ o, w.frozen? ⟨db, o, none⟩ = false := hO.free 4 rfl
  have c9_5_0 : w.cell? ⟨ib, 0, none⟩ = some (.int .u32 src) := hO.cell 5 rfl 0 rfl
  have c9_5_1 : w.cell? ⟨ib, 1, none⟩ = some (.int .u32 (i : Int)) := hO.cell 5 rfl 1 rfl
  have c9_5_2 : w.cell? ⟨ib, 2, none⟩ = some (.bool false) := hO.cell 5 rfl 2 rfl
  have c9_5_3 : w.cell? ⟨ib, 3, none⟩ = some (.bool false) := hO.cell 5 rfl 3 rfl
  have c9_5_4 : w.cell? ⟨ib, 4, none⟩ = some (.bool false) := hO.cell 5 rfl 4 rfl
  have lt9_5 : ib < w.heap.size := hO.lt 5 rfl
  have y9_5 : ∀ o, w.frozen? ⟨ib, o, none⟩ = false := hO.free 5 rfl
  have HO := Lib.hid hO
  clear hO
  go_wp2_with fail
  have hO := HO.out
  clear HO c9_3_0 c9_3_1 c9_3_2 c9_3_3 c9_3_4 c9_3_5 lt9_3 y9_3 c9_4_0 c9_4_1 c9_4_2 c9_4_3 c9_4_4 c9_4_5 c9_4_6 c9_4_7 lt9_4 y9_4 c9_5_0 c9_5_1 c9_5_2 c9_5_3 c9_5_4 lt9_5 y9_5
  generalize hW : World.alloc _ _ = W2
  have hN : Own w0 W2 [row (w.heap.size + 1) 34 #[.nilIface, .int .i32 0], row (w.heap.size) 32 #[.int .i32 loc], row (pb) 207 PC, row (sb) 223 C, (mp, .map #[⟨.string ⟨#[95, 95, 112, 111, 119]⟩, .agg #[.int .i32 0, .int .u32 ps, .int .u32 (j : Int)], 0⟩] 1), row (eb) 47 #[.iface 81 (.pointer (some ⟨db, 0, none⟩)), .int .i32 ll, .iface TR (.pointer (some ⟨xr, 0, none⟩)), .int .i32 lr, .int .u8 o0, .bool o1], row (db) 85 #[.iface 55 (.pointer (some ⟨ib, 0, none⟩)), .int .i32 tl, .string nm, .int .i32 nl, .int .u8 0, .bool false, .bool false, .bool false], row (ib) 214 #[.int .u32 src, .int .u32 (i : Int), .bool false, .bool false, .bool false]] X := by
    rw [← hW]
    exact ((hO).alloc' _ (w.heap.size) (by simp)).alloc' _ (w.heap.size + 1) (by simp)
  clear hW hO
  generalize w.heap.size + 1 = B1_1 at hN ⊢
  generalize w.heap.size = B1 at hN ⊢
  have hO := hN
  clear hN
  have hL := hO.apart
  have hX := hO.apartX
  have HL := Lib.hid hL
  have HX := Lib.hid hX
  clear hL hX
  have hP9 := hO.pick [2, 3, 4, 5, 6, 7] (by decide)
  have T9 := low37dot pb sb n cap PC C mp ps j cj i c cz src ib db tl nm nl eb ll TR xr lr o0 o1 loc _ _ _ hP9 hR hn hi hc hcm hc2 hcm2 hj hcj hcjm hm
  refine Calls.mono T9 ?_
  clear hP9 T9
  rintro e u3 ⟨nd4, nd5, nd6, nd7, nd8, nd9, nd10, nd11, rfl, hQ⟩
  have hN : Own w0 u3 [row (pb) 207 PC, row (sb) 223 (bumped (bumped (bumped C i c) i cz) j cj), (mp, .map #[⟨.string ⟨#[95, 95, 112, 111, 119]⟩, .agg #[.int .i32 0, .int .u32 ps, .int .u32 (j : Int)], 0⟩] 1), row (eb) 47 #[.iface 81 (.pointer (some ⟨db, 0, none⟩)), .int .i32 ll, .iface TR (.pointer (some ⟨xr, 0, none⟩)), .int .i32 lr, .int .u8 o0, .bool o1], row (db) 85 #[.iface 55 (.pointer (some ⟨ib, 0, none⟩)), .int .i32 tl, .string nm, .int .i32 nl, .int .u8 0, .bool false, .bool false, .bool false], row (ib) 214 #[.int .u32 src, .int .u32 (i : Int), .bool false, .bool false, .bool false], row (nd4) 47 #[.iface 81 (.pointer (some ⟨nd8, 0, none⟩)), .int .i32 ll, .iface 72 (.pointer (some ⟨nd5, 0, none⟩)), .int .i32 loc, .int .u8 37, .bool false], row (nd5) 77 #[.iface 55 (.pointer (some ⟨nd6, 0, none⟩)), .int .i32 loc, .slice (some ⟨nd7, 0, none⟩) 2 2, .int .i32 0, .int .u8 0, .int .u8 0, .bool false, .bool false], row (nd6) 214 #[.int .u32 ps, .int .u32 (j : Int), .bool false, .bool false, .bool false], row (nd7) 34 #[.iface 81 (.pointer (some ⟨nd9, 0, none⟩)), .int .i32 ll, .iface TR (.pointer (some ⟨xr, 0, none⟩)), .int .i32 lr], row (nd8) 85 #[.iface 55 (.pointer (some ⟨nd10, 0, none⟩)), .int .i32 ll, .string nm, .int .i32 nl, .int .u8 0, .bool false, .bool false, .bool false], row (nd9) 85 #[.iface 55 (.pointer (some ⟨nd11, 0, none⟩)), .int .i32 ll, .string nm, .int .i32 nl, .int .u8 0, .bool false, .bool false, .bool false], row (nd10) 214 #[.int .u32 src, .int .u32 (i : Int), .bool false, .bool false, .bool false], row (nd11) 214 #[.int .u32 src, .int .u32 (i : Int), .bool false, .bool false, .bool false], row (B1_1) 34 #[.nilIface, .int .i32 0], row (B1) 32 #[.int .i32 loc]] X := hQ.back HL.out HX.out [0, 1] (by decide) (by decide)
  clear hQ HL HX hO
  have hO := hN
  clear hN
  have c9_3_0 : u3.cell? ⟨eb, 0, none⟩ = some (.iface 81 (.pointer (some ⟨db, 0, none⟩))) := hO.cell 3 rfl 0 rfl
  have c9_3_1 : u3.cell? ⟨eb, 1, none⟩ = some (.int .i32 ll) := hO.cell 3 rfl 1 rfl
  have c9_3_2 : u3.cell? ⟨eb, 2, none⟩ = some (.iface TR (.pointer (some ⟨xr, 0, none⟩))) := hO.cell 3 rfl 2 rfl
  have c9_3_3 : u3.cell? ⟨eb, 3, none⟩ = some (.int .i32 lr) := hO.cell 3 rfl 3 rfl
  have c9_3_4 : u3.cell? ⟨eb, 4, none⟩ = some (.int .u8 o0) := hO.cell 3 rfl 4 rfl
  have c9_3_5 : u3.cell? ⟨eb, 5, none⟩ = some (.bool o1) := hO.cell 3 rfl 5 rfl
  have lt9_3 : eb < u3.heap.size := hO.lt 3 rfl
  have y9_3 : ∀ o, u3.frozen? ⟨eb, o, none⟩ = false := hO.free 3 rfl
  have c9_4_0 : u3.cell? ⟨db, 0, none⟩ = some (.iface 55 (.pointer (some ⟨ib, 0, none⟩))) := hO.cell 4 rfl 0 rfl
  have c9_4_1 : u3.cell? ⟨db, 1, none⟩ = some (.int .i32 tl) := hO.cell 4 rfl 1 rfl
  have c9_4_2 : u3.cell? ⟨db, 2, none⟩ = some (.string nm) := hO.cell 4 rfl 2 rfl
  have c9_4_3 : u3.cell? ⟨db, 3, none⟩ = some (.int .i32 nl) := hO.cell 4 rfl 3 rfl
  have c9_4_4 : u3.cell? ⟨db, 4, none⟩ = some (.int .u8 0) := hO.cell 4 rfl 4 rfl
  have c9_4_5 : u3.cell? ⟨db, 5, none⟩ = some (.bool false) := hO.cell 4 rfl 5 rfl
  have c9_4_6 : u3.cell? ⟨db, 6, none⟩ = some (.bool false) := hO.cell 4 rfl 6 rfl
  have c9_4_7 : u3.cell? ⟨db, 7, none⟩ = some (.bool false) := hO.cell 4 rfl 7 rfl
  have lt9_4 : db < u3.heap.size := hO.lt 4 rfl
  have y9_4 : ∀ o, u3.frozen? ⟨db, o, none⟩ = false := hO.free 4 rfl
  have c9_5_0 : u3.cell? ⟨ib, 0, none⟩ = some (.int .u32 src) := hO.cell 5 rfl 0 rfl
  have c9_5_1 : u3.cell? ⟨ib, 1, none⟩ = some (.int .u32 (i : Int)) := hO.cell 5 rfl 1 rfl
  have c9_5_2 : u3.cell? ⟨ib, 2, none⟩ = some (.bool false) := hO.cell 5 rfl 2 rfl
  have c9_5_3 : u3.cell? ⟨ib, 3, none⟩ = some (.bool false) := hO.cell 5 rfl 3 rfl
  have c9_5_4 : u3.cell? ⟨ib, 4, none⟩ = some (.bool false) := hO.cell 5 rfl 4 rfl
  have lt9_5 : ib < u3.heap.size := hO.lt 5 rfl
  have y9_5 : ∀ o, u3.frozen? ⟨ib, o, none⟩ = false := hO.free 5 rfl
  have c9_6_0 : u3.cell? ⟨nd4, 0, none⟩ = some (.iface 81 (.pointer (some ⟨nd8, 0, none⟩))) := hO.cell 6 rfl 0 rfl
  have c9_6_1 : u3.cell? ⟨nd4, 1, none⟩ = some (.int .i32 ll) := hO.cell 6 rfl 1 rfl
  have c9_6_2 : u3.cell? ⟨nd4, 2, none⟩ = some (.iface 72 (.pointer (some ⟨nd5, 0, none⟩))) := hO.cell 6 rfl 2 rfl
  have c9_6_3 : u3.cell? ⟨nd4, 3, none⟩ = some (.int .i32 loc) := hO.cell 6 rfl 3 rfl
  have c9_6_4 : u3.cell? ⟨nd4, 4, none⟩ = some (.int .u8 37) := hO.cell 6 rfl 4 rfl
  have c9_6_5 : u3.cell? ⟨nd4, 5, none⟩ = some (.bool false) := hO.cell 6 rfl 5 rfl
  have lt9_6 : nd4 < u3.heap.size := hO.lt 6 rfl
  have y9_6 : ∀ o, u3.frozen? ⟨nd4, o, none⟩ = false := hO.free 6 rfl
  have c9_7_0 : u3.cell? ⟨nd5, 0, none⟩ = some (.iface 55 (.pointer (some ⟨nd6, 0, none⟩))) := hO.cell 7 rfl 0 rfl
  have c9_7_1 : u3.cell? ⟨nd5, 1, none⟩ = some (.int .i32 loc) := hO.cell 7 rfl 1 rfl
  have c9_7_2 : u3.cell? ⟨nd5, 2, none⟩ = some (.slice (some ⟨nd7, 0, none⟩) 2 2) := hO.cell 7 rfl 2 rfl
  have c9_7_3 : u3.cell? ⟨nd5, 3, none⟩ = some (.int .i32 0) := hO.cell 7 rfl 3 rfl
  have c9_7_4 : u3.cell? ⟨nd5, 4, none⟩ = some (.int .u8 0) := hO.cell 7 rfl 4 rfl
  have c9_7_5 : u3.cell? ⟨nd5, 5, none⟩ = some (.int .u8 0) := hO.cell 7 rfl 5 rfl
  have c9_7_6 : u3.cell? ⟨nd5, 6, none⟩ = some (.bool false) := hO.cell 7 rfl 6 rfl
  have c9_7_7 : u3.cell? ⟨nd5, 7, none⟩ = some (.bool false) := hO.cell 7 rfl 7 rfl
  have lt9_7 : nd5 < u3.heap.size := hO.lt 7 rfl
  have y9_7 : ∀ o, u3.frozen? ⟨nd5, o, none⟩ = false := hO.free 7 rfl
  have c9_8_0 : u3.cell? ⟨nd6, 0, none⟩ = some (.int .u32 ps) := hO.cell 8 rfl 0 rfl
  have c9_8_1 : u3.cell? ⟨nd6, 1, none⟩ = some (.int .u32 (j : Int)) := hO.cell 8 rfl 1 rfl
  have c9_8_2 : u3.cell? ⟨nd6, 2, none⟩ = some (.bool false) := hO.cell 8 rfl 2 rfl
  have c9_8_3 : u3.cell? ⟨nd6, 3, none⟩ = some (.bool false) := hO.cell 8 rfl 3 rfl
  have c9_8_4 : u3.cell? ⟨nd6, 4, none⟩ = some (.bool false) := hO.cell 8 rfl 4 rfl
  have lt9_8 : nd6 < u3.heap.size := hO.lt 8 rfl
  have y9_8 : ∀ o, u3.frozen? ⟨nd6, o, none⟩ = false := hO.free 8 rfl
  have c9_9_0 : u3.cell? ⟨nd7, 0, none⟩ = some (.iface 81 (.pointer (some ⟨nd9, 0, none⟩))) := hO.cell 9 rfl 0 rfl
  have c9_9_1 : u3.cell? ⟨nd7, 1, none⟩ = some (.int .i32 ll) := hO.cell 9 rfl 1 rfl
  have c9_9_2 : u3.cell? ⟨nd7, 2, none⟩ = some (.iface TR (.pointer (some ⟨xr, 0, none⟩))) := hO.cell 9 rfl 2 rfl
  have c9_9_3 : u3.cell? ⟨nd7, 3, none⟩ = some (.int .i32 lr) := hO.cell 9 rfl 3 rfl
  have lt9_9 : nd7 < u3.heap.size := hO.lt 9 rfl
  have y9_9 : ∀ o, u3.frozen? ⟨nd7, o, none⟩ = false := hO.free 9 rfl
  have c9_10_0 : u3.cell? ⟨nd8, 0, none⟩ = some (.iface 55 (.pointer (some ⟨nd10, 0, none⟩))) := hO.cell 10 rfl 0 rfl
  have c9_10_1 : u3.cell? ⟨nd8, 1, none⟩ = some (.int .i32 ll) := hO.cell 10 rfl 1 rfl
  have c9_10_2 : u3.cell? ⟨nd8, 2, none⟩ = some (.string nm) := hO.cell 10 rfl 2 rfl
  have c9_10_3 : u3.cell? ⟨nd8, 3, none⟩ = some (.int .i32 nl) := hO.cell 10 rfl 3 rfl
  have c9_10_4 : u3.cell? ⟨nd8, 4, none⟩ = some (.int .u8 0) := hO.cell 10 rfl 4 rfl
  have c9_10_5 : u3.cell? ⟨nd8, 5, none⟩ = some (.bool false) := hO.cell 10 rfl 5 rfl
  have c9_10_6 : u3.cell? ⟨nd8, 6, none⟩ = some (.bool false) := hO.cell 10 rfl 6 rfl
  have c9_10_7 : u3.cell? ⟨nd8, 7, none⟩ = some (.bool false) := hO.cell 10 rfl 7 rfl
  have lt9_10 : nd8 < u3.heap.size := hO.lt 10 rfl
  have y9_10 : ∀ o, u3.frozen? ⟨nd8, o, none⟩ = false := hO.free 10 rfl
  have c9_11_0 : u3.cell? ⟨nd9, 0, none⟩ = some (.iface 55 (.pointer (some ⟨nd11, 0, none⟩))) := hO.cell 11 rfl 0 rfl
  have c9_11_1 : u3.cell? ⟨nd9, 1, none⟩ = some (.int .i32 ll) := hO.cell 11 rfl 1 rfl
  have c9_11_2 : u3.cell? ⟨nd9, 2, none⟩ = some (.string nm) := hO.cell 11 rfl 2 rfl
  have c9_11_3 : u3.cell? ⟨nd9, 3, none⟩ = some (.int .i32 nl) := hO.cell 11 rfl 3 rfl
  have c9_11_4 : u3.cell? ⟨nd9, 4, none⟩ = some (.int .u8 0) := hO.cell 11 rfl 4 rfl
  have c9_11_5 : u3.cell? ⟨nd9, 5, none⟩ = some (.bool false) := hO.cell 11 rfl 5 rfl
  have c9_11_6 : u3.cell? ⟨nd9, 6, none⟩ = some (.bool false) := hO.cell 11 rfl 6 rfl
  have c9_11_7 : u3.cell? ⟨nd9, 7, none⟩ = some (.bool false) := hO.cell 11 rfl 7 rfl
  have lt9_11 : nd9 < u3.heap.size := hO.lt 11 rfl
  have y9_11 : ∀ o, u3.frozen? ⟨nd9, o, none⟩ = false := hO.free 11 rfl
  have c9_12_0 : u3.cell? ⟨nd10, 0, none⟩ = some (.int .u32 src) := hO.cell 12 rfl 0 rfl
  have c9_12_1 : u3.cell? ⟨nd10, 1, none⟩ = some (.int .u32 (i : Int)) := hO.cell 12 rfl 1 rfl
  have c9_12_2 : u3.cell? ⟨nd10, 2, none⟩ = some (.bool false) := hO.cell 12 rfl 2 rfl
  have c9_12_3 : u3.cell? ⟨nd10, 3, none⟩ = some (.bool false) := hO.cell 12 rfl 3 rfl
  have c9_12_4 : u3.cell? ⟨nd10, 4, none⟩ = some (.bool false) := hO.cell 12 rfl 4 rfl
  have lt9_12 : nd10 < u3.heap.size := hO.lt 12 rfl
  have y9_12 : ∀ o, u3.frozen? ⟨nd10, o, none⟩ = false := hO.free 12 rfl
  have c9_13_0 : u3.cell? ⟨nd11, 0, none⟩ = some (.int .u32 src) := hO.cell 13 rfl 0 rfl
  have c9_13_1 : u3.cell? ⟨nd11, 1, none⟩ = some (.int .u32 (i : Int)) := hO.cell 13 rfl 1 rfl
  have c9_13_2 : u3.cell? ⟨nd11, 2, none⟩ = some (.bool false) := hO.cell 13 rfl 2 rfl
  have c9_13_3 : u3.cell? ⟨nd11, 3, none⟩ = some (.bool false) := hO.cell 13 rfl 3 rfl
  have c9_13_4 : u3.cell? ⟨nd11, 4, none⟩ = some (.bool false) := hO.cell 13 rfl 4 rfl
  have lt9_13 : nd11 < u3.heap.size := hO.lt 13 rfl
  have y9_13 : ∀ o, u3.frozen? ⟨nd11, o, none⟩ = false := hO.free 13 rfl
  have c9_14_0 : u3.cell? ⟨B1_1, 0, none⟩ = some (.nilIface) := hO.cell 14 rfl 0 rfl
  have c9_14_1 : u3.cell? ⟨B1_1, 1, none⟩ = some (.int .i32 0) := hO.cell 14 rfl 1 rfl
  have lt9_14 : B1_1 < u3.heap.size := hO.lt 14 rfl
  have y9_14 : ∀ o, u3.frozen? ⟨B1_1, o, none⟩ = false := hO.free 14 rfl
  have c9_15_0 : u3.cell? ⟨B1, 0, none⟩ = some (.int .i32 loc) := hO.cell 15 rfl 0 rfl
  have lt9_15 : B1 < u3.heap.size := hO.lt 15 rfl
  have y9_15 : ∀ o, u3.frozen? ⟨B1, o, none⟩ = false := hO.free 15 rfl
  have HO := Lib.hid hO
  clear hO
  go_wp2_with fail
  have hO := HO.out
  clear HO c9_3_0 c9_3_1 c9_3_2 c9_3_3 c9_3_4 c9_3_5 lt9_3 y9_3 c9_4_0 c9_4_1 c9_4_2 c9_4_3 c9_4_4 c9_4_5 c9_4_6 c9_4_7 lt9_4 y9_4 c9_5_0 c9_5_1 c9_5_2 c9_5_3 c9_5_4 lt9_5 y9_5 c9_6_0 c9_6_1 c9_6_2 c9_6_3 c9_6_4 c9_6_5 lt9_6 y9_6 c9_7_0 c9_7_1 c9_7_2 c9_7_3 c9_7_4 c9_7_5 c9_7_6 c9_7_7 lt9_7 y9_7 c9_8_0 c9_8_1 c9_8_2 c9_8_3 c9_8_4 lt9_8 y9_8 c9_9_0 c9_9_1 c9_9_2 c9_9_3 lt9_9 y9_9 c9_10_0 c9_10_1 c9_10_2 c9_10_3 c9_10_4 c9_10_5 c9_10_6 c9_10_7 lt9_10 y9_10 c9_11_0 c9_11_1 c9_11_2 c9_11_3 c9_11_4 c9_11_5 c9_11_6 c9_11_7 lt9_11 y9_11 c9_12_0 c9_12_1 c9_12_2 c9_12_3 c9_12_4 lt9_12 y9_12 c9_13_0 c9_13_1 c9_13_2 c9_13_3 c9_13_4 lt9_13 y9_13 c9_14_0 c9_14_1 lt9_14 y9_14 c9_15_0 lt9_15 y9_15
  generalize hW : World.setCell _ _ _ = W13
  have hN : Own w0 W13 [row (pb) 207 PC, row (sb) 223 (bumped (bumped (bumped C i c) i cz) j cj), (mp, .map #[⟨.string ⟨#[95, 95, 112, 111, 119]⟩, .agg #[.int .i32 0, .int .u32 ps, .int .u32 (j : Int)], 0⟩] 1), row (eb) 47 #[.iface 81 (.pointer (some ⟨db, 0, none⟩)), .int .i32 ll, .iface TR (.pointer (some ⟨xr, 0, none⟩)), .int .i32 lr, .int .u8 o0, .bool o1], row (db) 85 #[.iface 55 (.pointer (some ⟨ib, 0, none⟩)), .int .i32 tl, .string nm, .int .i32 nl, .int .u8 0, .bool false, .bool false, .bool false], row (ib) 214 #[.int .u32 src, .int .u32 (i : Int), .bool false, .bool false, .bool false], row (nd4) 47 #[.iface 81 (.pointer (some ⟨nd8, 0, none⟩)), .int .i32 ll, .iface 72 (.pointer (some ⟨nd5, 0, none⟩)), .int .i32 loc, .int .u8 37, .bool false], row (nd5) 77 #[.iface 55 (.pointer (some ⟨nd6, 0, none⟩)), .int .i32 loc, .slice (some ⟨nd7, 0, none⟩) 2 2, .int .i32 0, .int .u8 0, .int .u8 0, .bool false, .bool false], row (nd6) 214 #[.int .u32 ps, .int .u32 (j : Int), .bool false, .bool false, .bool false], row (nd7) 34 #[.iface 81 (.pointer (some ⟨nd9, 0, none⟩)), .int .i32 ll, .iface TR (.pointer (some ⟨xr, 0, none⟩)), .int .i32 lr], row (nd8) 85 #[.iface 55 (.pointer (some ⟨nd10, 0, none⟩)), .int .i32 ll, .string nm, .int .i32 nl, .int .u8 0, .bool false, .bool false, .bool false], row (nd9) 85 #[.iface 55 (.pointer (some ⟨nd11, 0, none⟩)), .int .i32 ll, .string nm, .int .i32 nl, .int .u8 0, .bool false, .bool false, .bool false], row (nd10) 214 #[.int .u32 src, .int .u32 (i : Int), .bool false, .bool false, .bool false], row (nd11) 214 #[.int .u32 src, .int .u32 (i : Int), .bool false, .bool false, .bool false], row (B1_1) 34 #[.iface 41 (.pointer (some ⟨nd4, 0, none⟩)), .int .i32 ll], row (B1) 32 #[.int .i32 loc]] X := by
    rw [← hW]
    exact ((hO).set 14 rfl 0 _).set 14 rfl 1 _
  clear hW hO
  have hO := hN
  clear hN
  have z9_14_0 : W13.cell? ⟨B1_1, 0, none⟩ = some (.iface 41 (.pointer (some ⟨nd4, 0, none⟩))) := hO.cell 14 rfl 0 rfl
  have z9_14_1 : W13.cell? ⟨B1_1, 1, none⟩ = some (.int .i32 ll) := hO.cell 14 rfl 1 rfl
  refine bodyPost_ret (v := .agg #[.iface 41 (.pointer (some ⟨nd4, 0, none⟩)), .int .i32 ll]) ?_ rfl ⟨nd4, nd5, nd6, nd7, nd8, nd9, nd10, nd11, rfl, hO.sub [0, 1, 2, 3, 4, 5, 6, 7, 8, 9, 10, 11, 12, 13] (by decide)⟩
  simp [results, Tryd.results28, go_sem, z9_14_0, z9_14_1]
end Go.Proofs.YtlgefnjkoklboaaDoor.Use
