/- x No condition. -/
import Derived.Test.YtlgefnjkoklboaaDoorOwn
import Derived.Test.YtlgefnjkoklboaaDoorDeepCells
import Derived.Test.YtlgefnjkoklboaaDoorRows
import Derived.Test.YtlgefnjkoklboaaDoorUse
import Derived.Test.YtlgefnjkoklboaaDoorPow
import Derived.Test.YtlgefnjkoklboaaDoorNoPriv
import Derived.Test.YtlgefnjkoklboaaDoorPowFn
import Derived.Test.YtlgefnjkoklboaaDoorCapO
namespace Go.Proofs.YtlgefnjkoklboaaDoor.Use
open Go.ChangeShapes Go.WideShapes Go.ChangeAt Go.RowKit Go.Sort Own
set_option linter.unusedVariables false
def rLD1E (pb : Nat) (sb : Nat) (PC : Array Value) (C : Array Value) (mp : Nat) (ps : Int) (j : Nat) (i : Nat) (src : Int) (ib : Nat) (db : Nat) (tl : Int) (nm : ByteArray) (nl : Int) (bp : Nat) (bl : Nat) (be : Nat) (eb : Nat) (ll : Int) (TR : Nat) (xr : Nat) (lr : Int) (o0 : Int) (o1 : Bool) (loc : Int) (B1_1 : Nat) (B1 : Nat) : Nat → Rega.Atoms → Value
  | 0, α => .pointer (some ⟨pb, 0, none⟩)
  | 1, α => .pointer (some ⟨B1, 1, none⟩)
  | 2, α => .agg #[.int .i32 ll]
  | 3, α => .pointer (some ⟨db, 0, none⟩)
  | 4, α => .pointer (some ⟨db, 0, none⟩)
  | 5, α => .pointer (some ⟨db, 0, none⟩)
  | 6, α => .agg #[.iface 55 (.pointer (some ⟨ib, 0, none⟩)), .int .i32 tl]
  | 7, α => .tuple #[.func (Fn.func 59) #[] #[.pointer (some ⟨α 7, 0, none⟩), .pointer (some ⟨α 3007, 0, none⟩), .pointer (some ⟨α 1007, 0, none⟩)], .func (Fn.func 50) #[] #[.pointer (some ⟨α 2007, 0, none⟩)]]
  | 8, α => .tuple #[.func (Fn.func 59) #[] #[.pointer (some ⟨α 7, 0, none⟩), .pointer (some ⟨α 3007, 0, none⟩), .pointer (some ⟨α 1007, 0, none⟩)], .func (Fn.func 50) #[] #[.pointer (some ⟨α 2007, 0, none⟩)]]
  | 9, α => .func (Fn.func 59) #[] #[.pointer (some ⟨α 7, 0, none⟩), .pointer (some ⟨α 3007, 0, none⟩), .pointer (some ⟨α 1007, 0, none⟩)]
  | 10, α => .func (Fn.func 50) #[] #[.pointer (some ⟨α 2007, 0, none⟩)]
  | 11, α => .func (Fn.func 59) #[] #[.pointer (some ⟨α 7, 0, none⟩), .pointer (some ⟨α 3007, 0, none⟩), .pointer (some ⟨α 1007, 0, none⟩)]
  | 12, α => .func (Fn.func 50) #[] #[.pointer (some ⟨α 2007, 0, none⟩)]
  | _, _ => undef
def rLD1Anc : Nat → List Nat
  | 2 => [1]
  | 4 => [3]
  | 5 => [3, 4]
  | 6 => [3, 4, 5]
  | 7 => [0, 1, 2, 3, 4, 5, 6]
  | 8 => [0, 1, 2, 3, 4, 5, 6, 7]
  | 9 => [0, 1, 2, 3, 4, 5, 6, 7, 8]
  | 10 => [0, 1, 2, 3, 4, 5, 6, 7, 8]
  | 11 => [0, 1, 2, 3, 4, 5, 6, 7, 8, 9]
  | 12 => [0, 1, 2, 3, 4, 5, 6, 7, 8, 9, 10, 11]
  | _ => []
def rLD1Trn : Nat → List Nat
  | _ => []
def rLD1Cnt : List (Nat × Nat) := [(7, 4)]
def rLD1R (pb : Nat) (sb : Nat) (PC : Array Value) (C : Array Value) (mp : Nat) (ps : Int) (j : Nat) (i : Nat) (src : Int) (ib : Nat) (db : Nat) (tl : Int) (nm : ByteArray) (nl : Int) (bp : Nat) (bl : Nat) (be : Nat) (eb : Nat) (ll : Int) (TR : Nat) (xr : Nat) (lr : Int) (o0 : Int) (o1 : Bool) (loc : Int) (B1_1 : Nat) (B1 : Nat) (L9 : Nat → Bool) (α : Rega.Atoms) (ix9 : Nat) : Rw := if ix9 = 999 then row (B1_1) 34 #[.nilIface, .int .i32 0] else if ix9 = 1999 then row (B1) 34 #[.iface 81 (.pointer (some ⟨db, 0, none⟩)), .int .i32 ll] else if ix9 = 2999 then row (pb) 207 PC else if ix9 = 3999 then row (sb) 223 C else if ix9 = 4999 then (mp, .map #[⟨.string ⟨#[95, 95, 112, 111, 119]⟩, .agg #[.int .i32 0, .int .u32 ps, .int .u32 (j : Int)], 0⟩] 1) else if ix9 = 5999 then row (bp) 23 #[.pointer (some ⟨pb, 0, none⟩)] else if ix9 = 6999 then row (bl) 32 #[.int .i32 loc] else if ix9 = 7999 then row (be) 41 #[.pointer (some ⟨eb, 0, none⟩)] else if ix9 = 8999 then row (eb) 47 #[.iface 81 (.pointer (some ⟨db, 0, none⟩)), .int .i32 ll, .iface TR (.pointer (some ⟨xr, 0, none⟩)), .int .i32 lr, .int .u8 o0, .bool o1] else if ix9 = 9999 then row (db) 85 #[.iface 55 (.pointer (some ⟨ib, 0, none⟩)), .int .i32 tl, .string nm, .int .i32 nl, .int .u8 0, .bool false, .bool false, .bool false] else if ix9 = 10999 then row (ib) 214 #[.int .u32 src, .int .u32 (i : Int), .bool false, .bool false, .bool false] else if ix9 = 7 then row (α 7) 23 #[.pointer (some ⟨pb, 0, none⟩)] else if ix9 = 1007 then row (α 1007) 32 #[.int .i32 ll] else if ix9 = 2007 then row (α 2007) 34 #[.iface 55 (.pointer (some ⟨ib, 0, none⟩)), .int .i32 tl] else if ix9 = 3007 then row (α 3007) 55 #[.pointer (some ⟨ib, 0, none⟩)] else (0, .map #[] 0)
theorem rLD1_he (pb : Nat) (sb : Nat) (PC : Array Value) (C : Array Value) (mp : Nat) (ps : Int) (j : Nat) (i : Nat) (src : Int) (ib : Nat) (db : Nat) (tl : Int) (nm : ByteArray) (nl : Int) (bp : Nat) (bl : Nat) (be : Nat) (eb : Nat) (ll : Int) (TR : Nat) (xr : Nat) (lr : Int) (o0 : Int) (o1 : Bool) (loc : Int) (B1_1 : Nat) (B1 : Nat) : ∀ kk α α', (∀ j, (j % 1000 = kk ∨ j % 1000 ∈ rLD1Anc kk) → α j = α' j) → rLD1E pb sb PC C mp ps j i src ib db tl nm nl bp bl be eb ll TR xr lr o0 o1 loc B1_1 B1 kk α = rLD1E pb sb PC C mp ps j i src ib db tl nm nl bp bl be eb ll TR xr lr o0 o1 loc B1_1 B1 kk α' := by
  intro kk α α' h
  match kk with
  | 0 => rfl
  | 1 => rfl
  | 2 => rfl
  | 3 => rfl
  | 4 => rfl
  | 5 => rfl
  | 6 => rfl
  | 7 => simp only [rLD1E, h 7 (Or.inl rfl), h 1007 (Or.inl rfl), h 2007 (Or.inl rfl), h 3007 (Or.inl rfl)]
  | 8 => simp only [rLD1E, h 7 (Or.inr (by decide)), h 1007 (Or.inr (by decide)), h 2007 (Or.inr (by decide)), h 3007 (Or.inr (by decide))]
  | 9 => simp only [rLD1E, h 7 (Or.inr (by decide)), h 1007 (Or.inr (by decide)), h 3007 (Or.inr (by decide))]
  | 10 => simp only [rLD1E, h 2007 (Or.inr (by decide))]
  | 11 => simp only [rLD1E, h 7 (Or.inr (by decide)), h 1007 (Or.inr (by decide)), h 3007 (Or.inr (by decide))]
  | 12 => simp only [rLD1E, h 2007 (Or.inr (by decide))]
  | n + 13 => rfl
theorem rLD1_st (pb : Nat) (sb : Nat) (PC : Array Value) (C : Array Value) (mp : Nat) (ps : Int) (j : Nat) (i : Nat) (src : Int) (ib : Nat) (db : Nat) (tl : Int) (nm : ByteArray) (nl : Int) (bp : Nat) (bl : Nat) (be : Nat) (eb : Nat) (ll : Int) (TR : Nat) (xr : Nat) (lr : Int) (o0 : Int) (o1 : Bool) (loc : Int) (B1_1 : Nat) (B1 : Nat) : Stable rLD1Cnt 11 rLD1Anc rLD1Trn (rLD1R pb sb PC C mp ps j i src ib db tl nm nl bp bl be eb ll TR xr lr o0 o1 loc B1_1 B1) := by
  intro k9 L9 α α' ix9 hk hcl hα hact ht
  have hp := act_places hact
  replace hp : ix9 ∈ [999, 1999, 2999, 3999, 4999, 5999, 6999, 7999, 8999, 9999, 10999, 7, 1007, 2007, 3007] := hp
  simp only [List.mem_cons, List.not_mem_nil, or_false] at hp
  rcases hp with rfl | rfl | rfl | rfl | rfl | rfl | rfl | rfl | rfl | rfl | rfl | rfl | rfl | rfl | rfl
  · rfl
  · rfl
  · rfl
  · rfl
  · rfl
  · rfl
  · rfl
  · rfl
  · rfl
  · rfl
  · rfl
  · have e0 : L9 7 = true := act_lt hact (by decide)
    show row (α' 7) 23 #[.pointer (some ⟨pb, 0, none⟩)] = row (α 7) 23 #[.pointer (some ⟨pb, 0, none⟩)]
    simp only [hα 7 (ne_ran hk e0)]
  · have e0 : L9 7 = true := act_lt hact (by decide)
    show row (α' 1007) 32 #[.int .i32 ll] = row (α 1007) 32 #[.int .i32 ll]
    simp only [hα 1007 (ne_ran hk e0)]
  · have e0 : L9 7 = true := act_lt hact (by decide)
    show row (α' 2007) 34 #[.iface 55 (.pointer (some ⟨ib, 0, none⟩)), .int .i32 tl] = row (α 2007) 34 #[.iface 55 (.pointer (some ⟨ib, 0, none⟩)), .int .i32 tl]
    simp only [hα 2007 (ne_ran hk e0)]
  · have e0 : L9 7 = true := act_lt hact (by decide)
    show row (α' 3007) 55 #[.pointer (some ⟨ib, 0, none⟩)] = row (α 3007) 55 #[.pointer (some ⟨ib, 0, none⟩)]
    simp only [hα 3007 (ne_ran hk e0)]
def rLD2E (pb : Nat) (sb : Nat) (PC : Array Value) (C : Array Value) (mp : Nat) (ps : Int) (j : Nat) (cj : Nat) (i : Nat) (c : Nat) (cz : Nat) (src : Int) (ib : Nat) (db : Nat) (tl : Int) (nm : ByteArray) (nl : Int) (bp : Nat) (bl : Nat) (be : Nat) (eb : Nat) (ll : Int) (TR : Nat) (xr : Nat) (lr : Int) (o0 : Int) (o1 : Bool) (loc : Int) (B1_1 : Nat) (B1 : Nat) (nd3 : Nat) (nd4 : Nat) (nd5 : Nat) (nd6 : Nat) : Nat → Rega.Atoms → Value
  | 0, α => .func (Fn.func 50) #[] #[.pointer (some ⟨nd5, 0, none⟩)]
  | 1, α => .func (Fn.func 48) #[] #[.pointer (some ⟨bp, 0, none⟩), .pointer (some ⟨bl, 0, none⟩), .pointer (some ⟨be, 0, none⟩)]
  | 2, α => .pointer (some ⟨B1, 1, none⟩)
  | 3, α => .agg #[.int .i32 ll]
  | 4, α => .func (Fn.func 59) #[] #[.pointer (some ⟨nd3, 0, none⟩), .pointer (some ⟨nd6, 0, none⟩), .pointer (some ⟨nd4, 0, none⟩)]
  | 5, α => .agg #[.iface 55 (.pointer (some ⟨α 5, 0, none⟩)), .int .i32 ll]
  | 6, α => .pointer (some ⟨db, 0, none⟩)
  | 7, α => .pointer (some ⟨db, 0, none⟩)
  | 8, α => .pointer (some ⟨db, 2, none⟩)
  | 9, α => .string nm
  | 10, α => .pointer (some ⟨db, 0, none⟩)
  | 11, α => .pointer (some ⟨db, 0, none⟩)
  | 12, α => .pointer (some ⟨db, 3, none⟩)
  | 13, α => .agg #[.int .i32 nl]
  | 14, α => .agg #[.iface 55 (.pointer (some ⟨α 5, 0, none⟩)), .int .i32 ll, .string nm, .int .i32 nl, .int .u8 0, .bool false, .bool false, .bool false]
  | 15, α => .pointer (some ⟨α 15, 0, none⟩)
  | 16, α => .iface 81 (.pointer (some ⟨α 15, 0, none⟩))
  | 17, α => .agg #[.iface 81 (.pointer (some ⟨α 15, 0, none⟩)), .int .i32 ll]
  | 18, α => .pointer (some ⟨B1, 1, none⟩)
  | 19, α => .agg #[.int .i32 ll]
  | 20, α => .func (Fn.func 59) #[] #[.pointer (some ⟨nd3, 0, none⟩), .pointer (some ⟨nd6, 0, none⟩), .pointer (some ⟨nd4, 0, none⟩)]
  | 21, α => .agg #[.iface 55 (.pointer (some ⟨α 21, 0, none⟩)), .int .i32 ll]
  | 22, α => .pointer (some ⟨db, 0, none⟩)
  | 23, α => .pointer (some ⟨db, 0, none⟩)
  | 24, α => .pointer (some ⟨db, 2, none⟩)
  | 25, α => .string nm
  | 26, α => .pointer (some ⟨db, 0, none⟩)
  | 27, α => .pointer (some ⟨db, 0, none⟩)
  | 28, α => .pointer (some ⟨db, 3, none⟩)
  | 29, α => .agg #[.int .i32 nl]
  | 30, α => .agg #[.iface 55 (.pointer (some ⟨α 21, 0, none⟩)), .int .i32 ll, .string nm, .int .i32 nl, .int .u8 0, .bool false, .bool false, .bool false]
  | 31, α => .pointer (some ⟨α 31, 0, none⟩)
  | 32, α => .iface 81 (.pointer (some ⟨α 31, 0, none⟩))
  | 33, α => .agg #[.iface 81 (.pointer (some ⟨α 31, 0, none⟩)), .int .i32 ll]
  | 34, α => .agg #[.iface 41 (.pointer (some ⟨α 34, 0, none⟩)), .int .i32 ll]
  | 35, α => .agg #[.iface 41 (.pointer (some ⟨α 34, 0, none⟩)), .int .i32 ll]
  | 36, α => undef
  | _, _ => undef
def rLD2Anc : Nat → List Nat
  | 3 => [2]
  | 5 => [4]
  | 7 => [6]
  | 8 => [6, 7]
  | 9 => [6, 7, 8]
  | 11 => [10]
  | 12 => [10, 11]
  | 13 => [10, 11, 12]
  | 14 => [4, 5, 6, 7, 8, 9, 10, 11, 12, 13]
  | 15 => [4, 5, 6, 7, 8, 9, 10, 11, 12, 13, 14]
  | 16 => [4, 5, 6, 7, 8, 9, 10, 11, 12, 13, 14, 15]
  | 17 => [2, 3, 4, 5, 6, 7, 8, 9, 10, 11, 12, 13, 14, 15, 16]
  | 19 => [18]
  | 21 => [4, 5, 20]
  | 23 => [22]
  | 24 => [22, 23]
  | 25 => [22, 23, 24]
  | 27 => [26]
  | 28 => [26, 27]
  | 29 => [26, 27, 28]
  | 30 => [4, 5, 20, 21, 22, 23, 24, 25, 26, 27, 28, 29]
  | 31 => [4, 5, 20, 21, 22, 23, 24, 25, 26, 27, 28, 29, 30]
  | 32 => [4, 5, 20, 21, 22, 23, 24, 25, 26, 27, 28, 29, 30, 31]
  | 33 => [4, 5, 18, 19, 20, 21, 22, 23, 24, 25, 26, 27, 28, 29, 30, 31, 32]
  | 34 => [1, 2, 3, 4, 5, 6, 7, 8, 9, 10, 11, 12, 13, 14, 15, 16, 17, 18, 19, 20, 21, 22, 23, 24, 25, 26, 27, 28, 29, 30, 31, 32, 33]
  | 35 => [0, 1, 2, 3, 4, 5, 6, 7, 8, 9, 10, 11, 12, 13, 14, 15, 16, 17, 18, 19, 20, 21, 22, 23, 24, 25, 26, 27, 28, 29, 30, 31, 32, 33, 34]
  | 36 => [0, 1, 2, 3, 4, 5, 6, 7, 8, 9, 10, 11, 12, 13, 14, 15, 16, 17, 18, 19, 20, 21, 22, 23, 24, 25, 26, 27, 28, 29, 30, 31, 32, 33, 34, 35]
  | _ => []
def rLD2Trn : Nat → List Nat
  | 5 => [3999]
  | 21 => [3999]
  | 34 => [3999]
  | 36 => [999]
  | _ => []
def rLD2Cnt : List (Nat × Nat) := [(5, 1), (15, 1), (21, 1), (31, 1), (34, 4)]
def rLD2T999 (pb : Nat) (sb : Nat) (PC : Array Value) (C : Array Value) (mp : Nat) (ps : Int) (j : Nat) (cj : Nat) (i : Nat) (c : Nat) (cz : Nat) (src : Int) (ib : Nat) (db : Nat) (tl : Int) (nm : ByteArray) (nl : Int) (bp : Nat) (bl : Nat) (be : Nat) (eb : Nat) (ll : Int) (TR : Nat) (xr : Nat) (lr : Int) (o0 : Int) (o1 : Bool) (loc : Int) (B1_1 : Nat) (B1 : Nat) (nd3 : Nat) (nd4 : Nat) (nd5 : Nat) (nd6 : Nat) (L9 : Nat → Bool) (α : Rega.Atoms) : Rw := if L9 36 = true then row (B1_1) 34 #[.iface 41 (.pointer (some ⟨α 34, 0, none⟩)), .int .i32 ll] else row (B1_1) 34 #[.nilIface, .int .i32 0]
def rLD2T3999 (pb : Nat) (sb : Nat) (PC : Array Value) (C : Array Value) (mp : Nat) (ps : Int) (j : Nat) (cj : Nat) (i : Nat) (c : Nat) (cz : Nat) (src : Int) (ib : Nat) (db : Nat) (tl : Int) (nm : ByteArray) (nl : Int) (bp : Nat) (bl : Nat) (be : Nat) (eb : Nat) (ll : Int) (TR : Nat) (xr : Nat) (lr : Int) (o0 : Int) (o1 : Bool) (loc : Int) (B1_1 : Nat) (B1 : Nat) (nd3 : Nat) (nd4 : Nat) (nd5 : Nat) (nd6 : Nat) (L9 : Nat → Bool) (α : Rega.Atoms) : Rw := if L9 34 = true then row (sb) 223 (bumped (bumped (bumped C i c) i cz) j cj) else if L9 21 = true then row (sb) 223 (bumped (bumped C i c) i cz) else if L9 5 = true then row (sb) 223 (bumped C i c) else row (sb) 223 C
def rLD2R (pb : Nat) (sb : Nat) (PC : Array Value) (C : Array Value) (mp : Nat) (ps : Int) (j : Nat) (cj : Nat) (i : Nat) (c : Nat) (cz : Nat) (src : Int) (ib : Nat) (db : Nat) (tl : Int) (nm : ByteArray) (nl : Int) (bp : Nat) (bl : Nat) (be : Nat) (eb : Nat) (ll : Int) (TR : Nat) (xr : Nat) (lr : Int) (o0 : Int) (o1 : Bool) (loc : Int) (B1_1 : Nat) (B1 : Nat) (nd3 : Nat) (nd4 : Nat) (nd5 : Nat) (nd6 : Nat) (L9 : Nat → Bool) (α : Rega.Atoms) (ix9 : Nat) : Rw := if ix9 = 999 then rLD2T999 pb sb PC C mp ps j cj i c cz src ib db tl nm nl bp bl be eb ll TR xr lr o0 o1 loc B1_1 B1 nd3 nd4 nd5 nd6 L9 α else if ix9 = 1999 then row (B1) 34 #[.iface 81 (.pointer (some ⟨db, 0, none⟩)), .int .i32 ll] else if ix9 = 2999 then row (pb) 207 PC else if ix9 = 3999 then rLD2T3999 pb sb PC C mp ps j cj i c cz src ib db tl nm nl bp bl be eb ll TR xr lr o0 o1 loc B1_1 B1 nd3 nd4 nd5 nd6 L9 α else if ix9 = 4999 then (mp, .map #[⟨.string ⟨#[95, 95, 112, 111, 119]⟩, .agg #[.int .i32 0, .int .u32 ps, .int .u32 (j : Int)], 0⟩] 1) else if ix9 = 5999 then row (bp) 23 #[.pointer (some ⟨pb, 0, none⟩)] else if ix9 = 6999 then row (bl) 32 #[.int .i32 loc] else if ix9 = 7999 then row (be) 41 #[.pointer (some ⟨eb, 0, none⟩)] else if ix9 = 8999 then row (eb) 47 #[.iface 81 (.pointer (some ⟨db, 0, none⟩)), .int .i32 ll, .iface TR (.pointer (some ⟨xr, 0, none⟩)), .int .i32 lr, .int .u8 o0, .bool o1] else if ix9 = 9999 then row (db) 85 #[.iface 55 (.pointer (some ⟨ib, 0, none⟩)), .int .i32 tl, .string nm, .int .i32 nl, .int .u8 0, .bool false, .bool false, .bool false] else if ix9 = 10999 then row (ib) 214 #[.int .u32 src, .int .u32 (i : Int), .bool false, .bool false, .bool false] else if ix9 = 11999 then row (nd3) 23 #[.pointer (some ⟨pb, 0, none⟩)] else if ix9 = 12999 then row (nd4) 32 #[.int .i32 ll] else if ix9 = 13999 then row (nd5) 34 #[.iface 55 (.pointer (some ⟨ib, 0, none⟩)), .int .i32 tl] else if ix9 = 14999 then row (nd6) 55 #[.pointer (some ⟨ib, 0, none⟩)] else if ix9 = 5 then row (α 5) 214 #[.int .u32 src, .int .u32 (i : Int), .bool false, .bool false, .bool false] else if ix9 = 15 then row (α 15) 85 #[.iface 55 (.pointer (some ⟨α 5, 0, none⟩)), .int .i32 ll, .string nm, .int .i32 nl, .int .u8 0, .bool false, .bool false, .bool false] else if ix9 = 21 then row (α 21) 214 #[.int .u32 src, .int .u32 (i : Int), .bool false, .bool false, .bool false] else if ix9 = 31 then row (α 31) 85 #[.iface 55 (.pointer (some ⟨α 21, 0, none⟩)), .int .i32 ll, .string nm, .int .i32 nl, .int .u8 0, .bool false, .bool false, .bool false] else if ix9 = 34 then row (α 34) 47 #[.iface 81 (.pointer (some ⟨α 15, 0, none⟩)), .int .i32 ll, .iface 72 (.pointer (some ⟨α 1034, 0, none⟩)), .int .i32 loc, .int .u8 37, .bool false] else if ix9 = 1034 then row (α 1034) 77 #[.iface 55 (.pointer (some ⟨α 2034, 0, none⟩)), .int .i32 loc, .slice (some ⟨α 3034, 0, none⟩) 2 2, .int .i32 0, .int .u8 0, .int .u8 0, .bool false, .bool false] else if ix9 = 2034 then row (α 2034) 214 #[.int .u32 ps, .int .u32 (j : Int), .bool false, .bool false, .bool false] else if ix9 = 3034 then row (α 3034) 34 #[.iface 81 (.pointer (some ⟨α 31, 0, none⟩)), .int .i32 ll, .iface TR (.pointer (some ⟨xr, 0, none⟩)), .int .i32 lr] else (0, .map #[] 0)
theorem rLD2_he (pb : Nat) (sb : Nat) (PC : Array Value) (C : Array Value) (mp : Nat) (ps : Int) (j : Nat) (cj : Nat) (i : Nat) (c : Nat) (cz : Nat) (src : Int) (ib : Nat) (db : Nat) (tl : Int) (nm : ByteArray) (nl : Int) (bp : Nat) (bl : Nat) (be : Nat) (eb : Nat) (ll : Int) (TR : Nat) (xr : Nat) (lr : Int) (o0 : Int) (o1 : Bool) (loc : Int) (B1_1 : Nat) (B1 : Nat) (nd3 : Nat) (nd4 : Nat) (nd5 : Nat) (nd6 : Nat) : ∀ kk α α', (∀ j, (j % 1000 = kk ∨ j % 1000 ∈ rLD2Anc kk) → α j = α' j) → rLD2E pb sb PC C mp ps j cj i c cz src ib db tl nm nl bp bl be eb ll TR xr lr o0 o1 loc B1_1 B1 nd3 nd4 nd5 nd6 kk α = rLD2E pb sb PC C mp ps j cj i c cz src ib db tl nm nl bp bl be eb ll TR xr lr o0 o1 loc B1_1 B1 nd3 nd4 nd5 nd6 kk α' := by
  intro kk α α' h
  match kk with
  | 0 => rfl
  | 1 => rfl
  | 2 => rfl
  | 3 => rfl
  | 4 => rfl
  | 5 => simp only [rLD2E, h 5 (Or.inl rfl)]
  | 6 => rfl
  | 7 => rfl
  | 8 => rfl
  | 9 => rfl
  | 10 => rfl
  | 11 => rfl
  | 12 => rfl
  | 13 => rfl
  | 14 => simp only [rLD2E, h 5 (Or.inr (by decide))]
  | 15 => simp only [rLD2E, h 15 (Or.inl rfl)]
  | 16 => simp only [rLD2E, h 15 (Or.inr (by decide))]
  | 17 => simp only [rLD2E, h 15 (Or.inr (by decide))]
  | 18 => rfl
  | 19 => rfl
  | 20 => rfl
  | 21 => simp only [rLD2E, h 21 (Or.inl rfl)]
  | 22 => rfl
  | 23 => rfl
  | 24 => rfl
  | 25 => rfl
  | 26 => rfl
  | 27 => rfl
  | 28 => rfl
  | 29 => rfl
  | 30 => simp only [rLD2E, h 21 (Or.inr (by decide))]
  | 31 => simp only [rLD2E, h 31 (Or.inl rfl)]
  | 32 => simp only [rLD2E, h 31 (Or.inr (by decide))]
  | 33 => simp only [rLD2E, h 31 (Or.inr (by decide))]
  | 34 => simp only [rLD2E, h 34 (Or.inl rfl)]
  | 35 => simp only [rLD2E, h 34 (Or.inr (by decide))]
  | 36 => rfl
  | n + 37 => rfl
theorem rLD2_st (pb : Nat) (sb : Nat) (PC : Array Value) (C : Array Value) (mp : Nat) (ps : Int) (j : Nat) (cj : Nat) (i : Nat) (c : Nat) (cz : Nat) (src : Int) (ib : Nat) (db : Nat) (tl : Int) (nm : ByteArray) (nl : Int) (bp : Nat) (bl : Nat) (be : Nat) (eb : Nat) (ll : Int) (TR : Nat) (xr : Nat) (lr : Int) (o0 : Int) (o1 : Bool) (loc : Int) (B1_1 : Nat) (B1 : Nat) (nd3 : Nat) (nd4 : Nat) (nd5 : Nat) (nd6 : Nat) : Stable rLD2Cnt 15 rLD2Anc rLD2Trn (rLD2R pb sb PC C mp ps j cj i c cz src ib db tl nm nl bp bl be eb ll TR xr lr o0 o1 loc B1_1 B1 nd3 nd4 nd5 nd6) := by
  intro k9 L9 α α' ix9 hk hcl hα hact ht
  have hp := act_places hact
  replace hp : ix9 ∈ [999, 1999, 2999, 3999, 4999, 5999, 6999, 7999, 8999, 9999, 10999, 11999, 12999, 13999, 14999, 5, 15, 21, 31, 34, 1034, 2034, 3034] := hp
  simp only [List.mem_cons, List.not_mem_nil, or_false] at hp
  rcases hp with rfl | rfl | rfl | rfl | rfl | rfl | rfl | rfl | rfl | rfl | rfl | rfl | rfl | rfl | rfl | rfl | rfl | rfl | rfl | rfl | rfl | rfl | rfl
  · show rLD2T999 pb sb PC C mp ps j cj i c cz src ib db tl nm nl bp bl be eb ll TR xr lr o0 o1 loc B1_1 B1 nd3 nd4 nd5 nd6 (Rega.ran L9 k9) α' = rLD2T999 pb sb PC C mp ps j cj i c cz src ib db tl nm nl bp bl be eb ll TR xr lr o0 o1 loc B1_1 B1 nd3 nd4 nd5 nd6 L9 α
    unfold rLD2T999
    have n36 : 36 ≠ k9 := fun e => ht (by rw [← e]; decide)
    rw [ran_ne n36]
    by_cases e36 : L9 36 = true
    · first | rw [if_pos e36, if_pos e36] | rw [if_pos e36]
      try simp only [hα 34 (ne_ran hk (hcl 36 e36 34 (by decide)))]
    first | rw [if_neg e36, if_neg e36] | rw [if_neg e36]
  · rfl
  · rfl
  · show rLD2T3999 pb sb PC C mp ps j cj i c cz src ib db tl nm nl bp bl be eb ll TR xr lr o0 o1 loc B1_1 B1 nd3 nd4 nd5 nd6 (Rega.ran L9 k9) α' = rLD2T3999 pb sb PC C mp ps j cj i c cz src ib db tl nm nl bp bl be eb ll TR xr lr o0 o1 loc B1_1 B1 nd3 nd4 nd5 nd6 L9 α
    unfold rLD2T3999
    have n5 : 5 ≠ k9 := fun e => ht (by rw [← e]; decide)
    have n21 : 21 ≠ k9 := fun e => ht (by rw [← e]; decide)
    have n34 : 34 ≠ k9 := fun e => ht (by rw [← e]; decide)
    rw [ran_ne n5, ran_ne n21, ran_ne n34]
  · rfl
  · rfl
  · rfl
  · rfl
  · rfl
  · rfl
  · rfl
  · rfl
  · rfl
  · rfl
  · rfl
  · have e0 : L9 5 = true := act_lt hact (by decide)
    show row (α' 5) 214 #[.int .u32 src, .int .u32 (i : Int), .bool false, .bool false, .bool false] = row (α 5) 214 #[.int .u32 src, .int .u32 (i : Int), .bool false, .bool false, .bool false]
    simp only [hα 5 (ne_ran hk e0)]
  · have e0 : L9 15 = true := act_lt hact (by decide)
    show row (α' 15) 85 #[.iface 55 (.pointer (some ⟨α' 5, 0, none⟩)), .int .i32 ll, .string nm, .int .i32 nl, .int .u8 0, .bool false, .bool false, .bool false] = row (α 15) 85 #[.iface 55 (.pointer (some ⟨α 5, 0, none⟩)), .int .i32 ll, .string nm, .int .i32 nl, .int .u8 0, .bool false, .bool false, .bool false]
    simp only [hα 5 (ne_ran hk (hcl 15 e0 5 (by decide))), hα 15 (ne_ran hk e0)]
  · have e0 : L9 21 = true := act_lt hact (by decide)
    show row (α' 21) 214 #[.int .u32 src, .int .u32 (i : Int), .bool false, .bool false, .bool false] = row (α 21) 214 #[.int .u32 src, .int .u32 (i : Int), .bool false, .bool false, .bool false]
    simp only [hα 21 (ne_ran hk e0)]
  · have e0 : L9 31 = true := act_lt hact (by decide)
    show row (α' 31) 85 #[.iface 55 (.pointer (some ⟨α' 21, 0, none⟩)), .int .i32 ll, .string nm, .int .i32 nl, .int .u8 0, .bool false, .bool false, .bool false] = row (α 31) 85 #[.iface 55 (.pointer (some ⟨α 21, 0, none⟩)), .int .i32 ll, .string nm, .int .i32 nl, .int .u8 0, .bool false, .bool false, .bool false]
    simp only [hα 21 (ne_ran hk (hcl 31 e0 21 (by decide))), hα 31 (ne_ran hk e0)]
  · have e0 : L9 34 = true := act_lt hact (by decide)
    show row (α' 34) 47 #[.iface 81 (.pointer (some ⟨α' 15, 0, none⟩)), .int .i32 ll, .iface 72 (.pointer (some ⟨α' 1034, 0, none⟩)), .int .i32 loc, .int .u8 37, .bool false] = row (α 34) 47 #[.iface 81 (.pointer (some ⟨α 15, 0, none⟩)), .int .i32 ll, .iface 72 (.pointer (some ⟨α 1034, 0, none⟩)), .int .i32 loc, .int .u8 37, .bool false]
    simp only [hα 15 (ne_ran hk (hcl 34 e0 15 (by decide))), hα 34 (ne_ran hk e0), hα 1034 (ne_ran hk e0)]
  · have e0 : L9 34 = true := act_lt hact (by decide)
    show row (α' 1034) 77 #[.iface 55 (.pointer (some ⟨α' 2034, 0, none⟩)), .int .i32 loc, .slice (some ⟨α' 3034, 0, none⟩) 2 2, .int .i32 0, .int .u8 0, .int .u8 0, .bool false, .bool false] = row (α 1034) 77 #[.iface 55 (.pointer (some ⟨α 2034, 0, none⟩)), .int .i32 loc, .slice (some ⟨α 3034, 0, none⟩) 2 2, .int .i32 0, .int .u8 0, .int .u8 0, .bool false, .bool false]
    simp only [hα 1034 (ne_ran hk e0), hα 2034 (ne_ran hk e0), hα 3034 (ne_ran hk e0)]
  · have e0 : L9 34 = true := act_lt hact (by decide)
    show row (α' 2034) 214 #[.int .u32 ps, .int .u32 (j : Int), .bool false, .bool false, .bool false] = row (α 2034) 214 #[.int .u32 ps, .int .u32 (j : Int), .bool false, .bool false, .bool false]
    simp only [hα 2034 (ne_ran hk e0)]
  · have e0 : L9 34 = true := act_lt hact (by decide)
    show row (α' 3034) 34 #[.iface 81 (.pointer (some ⟨α' 31, 0, none⟩)), .int .i32 ll, .iface TR (.pointer (some ⟨xr, 0, none⟩)), .int .i32 lr] = row (α 3034) 34 #[.iface 81 (.pointer (some ⟨α 31, 0, none⟩)), .int .i32 ll, .iface TR (.pointer (some ⟨xr, 0, none⟩)), .int .i32 lr]
    simp only [hα 31 (ne_ran hk (hcl 34 e0 31 (by decide))), hα 3034 (ne_ran hk e0)]
def lowExpDotPost (pb sb n cap : Nat) (PC C : Array Value) (mp : Nat) (ps : Int) (j cj i c cz : Nat) (src : Int) (ib db : Nat) (tl : Int) (nm : ByteArray) (nl : Int) (bp bl be eb : Nat) (ll : Int) (TR xr : Nat) (lr o0 : Int) (o1 : Bool) (loc : Int) (w0 : World) (X : Nat → Obj → Prop) (e : Ending) (w' : World) : Prop :=
  ∃ ab : Nat, ∃ ca : Nat, ∃ b : Nat, ∃ sx : Nat, ∃ d1 : Nat, ∃ d2 : Nat, ∃ i1 : Nat, ∃ i2 : Nat, e = .returned (.agg #[.iface 41 (.pointer (some ⟨ab, 0, none⟩)), .int .i32 ll]) ∧ Own w0 w' [row (pb) 207 PC, row (sb) 223 (bumped (bumped (bumped C i c) i cz) j cj), (mp, .map #[⟨.string ⟨#[95, 95, 112, 111, 119]⟩, .agg #[.int .i32 0, .int .u32 ps, .int .u32 (j : Int)], 0⟩] 1), row (bp) 23 #[.pointer (some ⟨pb, 0, none⟩)], row (bl) 32 #[.int .i32 loc], row (be) 41 #[.pointer (some ⟨eb, 0, none⟩)], row (eb) 47 #[.iface 81 (.pointer (some ⟨db, 0, none⟩)), .int .i32 ll, .iface TR (.pointer (some ⟨xr, 0, none⟩)), .int .i32 lr, .int .u8 o0, .bool o1], row (db) 85 #[.iface 55 (.pointer (some ⟨ib, 0, none⟩)), .int .i32 tl, .string nm, .int .i32 nl, .int .u8 0, .bool false, .bool false, .bool false], row (ib) 214 #[.int .u32 src, .int .u32 (i : Int), .bool false, .bool false, .bool false], row (ab) 47 #[.iface 81 (.pointer (some ⟨d1, 0, none⟩)), .int .i32 ll, .iface 72 (.pointer (some ⟨ca, 0, none⟩)), .int .i32 loc, .int .u8 37, .bool false], row (ca) 77 #[.iface 55 (.pointer (some ⟨b, 0, none⟩)), .int .i32 loc, .slice (some ⟨sx, 0, none⟩) 2 2, .int .i32 0, .int .u8 0, .int .u8 0, .bool false, .bool false], row (b) 214 #[.int .u32 ps, .int .u32 (j : Int), .bool false, .bool false, .bool false], row (sx) 34 #[.iface 81 (.pointer (some ⟨d2, 0, none⟩)), .int .i32 ll, .iface TR (.pointer (some ⟨xr, 0, none⟩)), .int .i32 lr], row (d1) 85 #[.iface 55 (.pointer (some ⟨i1, 0, none⟩)), .int .i32 ll, .string nm, .int .i32 nl, .int .u8 0, .bool false, .bool false, .bool false], row (d2) 85 #[.iface 55 (.pointer (some ⟨i2, 0, none⟩)), .int .i32 ll, .string nm, .int .i32 nl, .int .u8 0, .bool false, .bool false, .bool false], row (i1) 214 #[.int .u32 src, .int .u32 (i : Int), .bool false, .bool false, .bool false], row (i2) 214 #[.int .u32 src, .int .u32 (i : Int), .bool false, .bool false, .bool false]] X
set_option maxRecDepth 100000 in
set_option maxHeartbeats 1000000 in
theorem lowExpDot (pb sb n cap : Nat) (PC C : Array Value) (mp : Nat) (ps : Int) (j cj i c cz : Nat) (src : Int) (ib db : Nat) (tl : Int) (nm : ByteArray) (nl : Int) (bp bl be eb : Nat) (ll : Int) (TR xr : Nat) (lr o0 : Int) (o1 : Bool) (loc : Int) (w0 w : World) (X : Nat → Obj → Prop) (hO : Own w0 w [row (pb) 207 PC, row (sb) 223 C, (mp, .map #[⟨.string ⟨#[95, 95, 112, 111, 119]⟩, .agg #[.int .i32 0, .int .u32 ps, .int .u32 (j : Int)], 0⟩] 1), row (bp) 23 #[.pointer (some ⟨pb, 0, none⟩)], row (bl) 32 #[.int .i32 loc], row (be) 41 #[.pointer (some ⟨eb, 0, none⟩)], row (eb) 47 #[.iface 81 (.pointer (some ⟨db, 0, none⟩)), .int .i32 ll, .iface TR (.pointer (some ⟨xr, 0, none⟩)), .int .i32 lr, .int .u8 o0, .bool o1], row (db) 85 #[.iface 55 (.pointer (some ⟨ib, 0, none⟩)), .int .i32 tl, .string nm, .int .i32 nl, .int .u8 0, .bool false, .bool false, .bool false], row (ib) 214 #[.int .u32 src, .int .u32 (i : Int), .bool false, .bool false, .bool false]] X) (hR : Ready PC sb n cap) (hn : n ≤ 4294967295) (hi : i < n) (hc : C[i * 10 + 4]? = some (.int .u32 (c : Int))) (hcm : c < 4294967295) (hc2 : (bumped C i c)[i * 10 + 4]? = some (.int .u32 (cz : Int))) (hcm2 : cz < 4294967295) (hj : j < n) (hcj : (bumped (bumped C i c) i cz)[j * 10 + 4]? = some (.int .u32 (cj : Int))) (hcjm : cj < 4294967295) (hm : PC[117]? = some (.map (some mp))) :
    Calls Tryd.prog 44 #[.pointer (some ⟨pb, 0, none⟩), .agg #[.iface 81 (.pointer (some ⟨db, 0, none⟩)), .int .i32 ll], .func (Fn.func 48) #[] #[.pointer (some ⟨bp, 0, none⟩), .pointer (some ⟨bl, 0, none⟩), .pointer (some ⟨be, 0, none⟩)]] w (lowExpDotPost pb sb n cap PC C mp ps j cj i c cz src ib db tl nm nl bp bl be eb ll TR xr lr o0 o1 loc w0 X) := by
  go_enter Tryd.func44, Tryd.ntmps44
  have c9_3_0 : w.cell? ⟨bp, 0, none⟩ = some (.pointer (some ⟨pb, 0, none⟩)) := hO.cell 3 rfl 0 rfl
  have lt9_3 : bp < w.heap.size := hO.lt 3 rfl
  have y9_3 : ∀ o, w.frozen? ⟨bp, o, none⟩ = false := hO.free 3 rfl
  have c9_4_0 : w.cell? ⟨bl, 0, none⟩ = some (.int .i32 loc) := hO.cell 4 rfl 0 rfl
  have lt9_4 : bl < w.heap.size := hO.lt 4 rfl
  have y9_4 : ∀ o, w.frozen? ⟨bl, o, none⟩ = false := hO.free 4 rfl
  have c9_5_0 : w.cell? ⟨be, 0, none⟩ = some (.pointer (some ⟨eb, 0, none⟩)) := hO.cell 5 rfl 0 rfl
  have lt9_5 : be < w.heap.size := hO.lt 5 rfl
  have y9_5 : ∀ o, w.frozen? ⟨be, o, none⟩ = false := hO.free 5 rfl
  have c9_6_0 : w.cell? ⟨eb, 0, none⟩ = some (.iface 81 (.pointer (some ⟨db, 0, none⟩))) := hO.cell 6 rfl 0 rfl
  have c9_6_1 : w.cell? ⟨eb, 1, none⟩ = some (.int .i32 ll) := hO.cell 6 rfl 1 rfl
  have c9_6_2 : w.cell? ⟨eb, 2, none⟩ = some (.iface TR (.pointer (some ⟨xr, 0, none⟩))) := hO.cell 6 rfl 2 rfl
  have c9_6_3 : w.cell? ⟨eb, 3, none⟩ = some (.int .i32 lr) := hO.cell 6 rfl 3 rfl
  have c9_6_4 : w.cell? ⟨eb, 4, none⟩ = some (.int .u8 o0) := hO.cell 6 rfl 4 rfl
  have c9_6_5 : w.cell? ⟨eb, 5, none⟩ = some (.bool o1) := hO.cell 6 rfl 5 rfl
  have lt9_6 : eb < w.heap.size := hO.lt 6 rfl
  have y9_6 : ∀ o, w.frozen? ⟨eb, o, none⟩ = false := hO.free 6 rfl
  have c9_7_0 : w.cell? ⟨db, 0, none⟩ = some (.iface 55 (.pointer (some ⟨ib, 0, none⟩))) := hO.cell 7 rfl 0 rfl
  have c9_7_1 : w.cell? ⟨db, 1, none⟩ = some (.int .i32 tl) := hO.cell 7 rfl 1 rfl
  have c9_7_2 : w.cell? ⟨db, 2, none⟩ = some (.string nm) := hO.cell 7 rfl 2 rfl
  have c9_7_3 : w.cell? ⟨db, 3, none⟩ = some (.int .i32 nl) := hO.cell 7 rfl 3 rfl
  have c9_7_4 : w.cell? ⟨db, 4, none⟩ = some (.int .u8 0) := hO.cell 7 rfl 4 rfl
  have c9_7_5 : w.cell? ⟨db, 5, none⟩ = some (.bool false) := hO.cell 7 rfl 5 rfl
  have c9_7_6 : w.cell? ⟨db, 6, none⟩ = some (.bool false) := hO.cell 7 rfl 6 rfl
  have c9_7_7 : w.cell? ⟨db, 7, none⟩ = some (.bool false) := hO.cell 7 rfl 7 rfl
  have lt9_7 : db < w.heap.size := hO.lt 7 rfl
  have y9_7 : ∀ o, w.frozen? ⟨db, o, none⟩ = false := hO.free 7 rfl
  have c9_8_0 : w.cell? ⟨ib, 0, none⟩ = some (.int .u32 src) := hO.cell 8 rfl 0 rfl
  have c9_8_1 : w.cell? ⟨ib, 1, none⟩ = some (.int .u32 (i : Int)) := hO.cell 8 rfl 1 rfl
  have c9_8_2 : w.cell? ⟨ib, 2, none⟩ = some (.bool false) := hO.cell 8 rfl 2 rfl
  have c9_8_3 : w.cell? ⟨ib, 3, none⟩ = some (.bool false) := hO.cell 8 rfl 3 rfl
  have c9_8_4 : w.cell? ⟨ib, 4, none⟩ = some (.bool false) := hO.cell 8 rfl 4 rfl
  have lt9_8 : ib < w.heap.size := hO.lt 8 rfl
  have y9_8 : ∀ o, w.frozen? ⟨ib, o, none⟩ = false := hO.free 8 rfl
  have HO := Lib.hid hO
  clear hO
  go_wp2_with fail
  have hO := HO.out
  clear HO c9_3_0 lt9_3 y9_3 c9_4_0 lt9_4 y9_4 c9_5_0 lt9_5 y9_5 c9_6_0 c9_6_1 c9_6_2 c9_6_3 c9_6_4 c9_6_5 lt9_6 y9_6 c9_7_0 c9_7_1 c9_7_2 c9_7_3 c9_7_4 c9_7_5 c9_7_6 c9_7_7 lt9_7 y9_7 c9_8_0 c9_8_1 c9_8_2 c9_8_3 c9_8_4 lt9_8 y9_8
  generalize hW : World.alloc _ _ = W2
  have hN : Own w0 W2 [row (w.heap.size + 1) 34 #[.nilIface, .int .i32 0], row (w.heap.size) 34 #[.iface 81 (.pointer (some ⟨db, 0, none⟩)), .int .i32 ll], row (pb) 207 PC, row (sb) 223 C, (mp, .map #[⟨.string ⟨#[95, 95, 112, 111, 119]⟩, .agg #[.int .i32 0, .int .u32 ps, .int .u32 (j : Int)], 0⟩] 1), row (bp) 23 #[.pointer (some ⟨pb, 0, none⟩)], row (bl) 32 #[.int .i32 loc], row (be) 41 #[.pointer (some ⟨eb, 0, none⟩)], row (eb) 47 #[.iface 81 (.pointer (some ⟨db, 0, none⟩)), .int .i32 ll, .iface TR (.pointer (some ⟨xr, 0, none⟩)), .int .i32 lr, .int .u8 o0, .bool o1], row (db) 85 #[.iface 55 (.pointer (some ⟨ib, 0, none⟩)), .int .i32 tl, .string nm, .int .i32 nl, .int .u8 0, .bool false, .bool false, .bool false], row (ib) 214 #[.int .u32 src, .int .u32 (i : Int), .bool false, .bool false, .bool false]] X := by
    rw [← hW]
    exact ((hO).alloc' _ (w.heap.size) (by simp)).alloc' _ (w.heap.size + 1) (by simp)
  clear hW hO
  generalize w.heap.size + 1 = B1_1 at hN ⊢
  generalize w.heap.size = B1 at hN ⊢
  have hO := hN
  clear hN
  refine wp_region_own (e := rLD1E pb sb PC C mp ps j i src ib db tl nm nl bp bl be eb ll TR xr lr o0 o1 loc B1_1 B1) (anc := rLD1Anc) (G := (fun L9 α u9 => OwnF w0 u9 (act rLD1Cnt 11 L9) (rLD1R pb sb PC C mp ps j i src ib db tl nm nl bp bl be eb ll TR xr lr o0 o1 loc B1_1 B1 L9 α) X)) (by kernel_rfl) (by kernel_rfl) (by kernel_rfl) (by kernel_rfl) (rLD1_he pb sb PC C mp ps j i src ib db tl nm nl bp bl be eb ll TR xr lr o0 o1 loc B1_1 B1) ?_ (RunsAll.all ?_) ?_
  · have hp : ∀ i, act rLD1Cnt 11 (fun _ => false) i → i ∈ [999, 1999, 2999, 3999, 4999, 5999, 6999, 7999, 8999, 9999, 10999] := by
      intro i hi
      have h9 : i % 1000 = 999 := by
        by_cases h : i % 1000 = 999
        · exact h
        · exact absurd (act_lt hi h) (by simp)
      unfold act at hi
      rw [if_pos h9] at hi
      simp only [List.mem_cons, List.not_mem_nil, or_false]
      omega
    refine hO.drew.family (fun i hi => ?_) (fun i j hi hj hij => ?_)
    · have := hp i hi
      simp only [List.mem_cons, List.not_mem_nil, or_false] at this
      rcases this with rfl | rfl | rfl | rfl | rfl | rfl | rfl | rfl | rfl | rfl | rfl <;> rfl
    · have h1 := hp i hi
      have h2 := hp j hj
      simp only [List.mem_cons, List.not_mem_nil, or_false] at h1 h2
      omega
  · refine ⟨?_, ?_, ?_, ?_, ?_, ?_, ?_, ?_, ?_, ?_, ?_, ?_, ?_, trivial⟩
    · intro L9 α a9 u9 K9 hL hcl hA hG hS h0 hK
      replace hL : L9 0 = false := hL
      have q0 : a9.tmps[0]? = some (.pointer (some ⟨pb, 0, none⟩)) := (h0 0 (by kernel_rfl)).trans rfl
      have s0 := Rega.eval_of q0
      go_simp
      exact hK _ α _ (fun _ _ => rfl) rfl (step_same (rLD1_st pb sb PC C mp ps j i src ib db tl nm nl bp bl be eb ll TR xr lr o0 o1 loc B1_1 B1) hL hcl rfl rfl hG)
    · intro L9 α a9 u9 K9 hL hcl hA hG hS h0 hK
      replace hL : L9 1 = false := hL
      have q4 : a9.tmps[4]? = some (.pointer (some ⟨B1, 0, none⟩)) := (h0 4 (by kernel_rfl)).trans rfl
      have s4 := Rega.eval_of q4
      go_simp
      exact hK _ α _ (fun _ _ => rfl) rfl (step_same (rLD1_st pb sb PC C mp ps j i src ib db tl nm nl bp bl be eb ll TR xr lr o0 o1 loc B1_1 B1) hL hcl rfl rfl hG)
    · intro L9 α a9 u9 K9 hL hcl hA hG hS h0 hK
      replace hL : L9 2 = false := hL
      have q28 : a9.tmps[28]? = some (.pointer (some ⟨B1, 1, none⟩)) := hS 1 28 (by decide) rfl (by show 28 < 152; decide)
      have s28 := Rega.eval_of q28
      have e0 : rLD1R pb sb PC C mp ps j i src ib db tl nm nl bp bl be eb ll TR xr lr o0 o1 loc B1_1 B1 L9 α 1999 = row (B1) 34 #[.iface 81 (.pointer (some ⟨db, 0, none⟩)), .int .i32 ll] := rfl
      have hr := hG.rowAt 1999 (act_base 1999 rfl) e0
      have c0 : u9.cell? ⟨B1, 1, none⟩ = some (.int .i32 ll) := hr.cell rfl
      clear hr e0
      go_simp
      exact hK _ α _ (fun _ _ => rfl) rfl (step_same (rLD1_st pb sb PC C mp ps j i src ib db tl nm nl bp bl be eb ll TR xr lr o0 o1 loc B1_1 B1) hL hcl rfl rfl hG)
    · intro L9 α a9 u9 K9 hL hcl hA hG hS h0 hK
      replace hL : L9 3 = false := hL
      have q7 : a9.tmps[7]? = some (.pointer (some ⟨db, 0, none⟩)) := (h0 7 (by kernel_rfl)).trans rfl
      have s7 := Rega.eval_of q7
      go_simp
      exact hK _ α _ (fun _ _ => rfl) rfl (step_same (rLD1_st pb sb PC C mp ps j i src ib db tl nm nl bp bl be eb ll TR xr lr o0 o1 loc B1_1 B1) hL hcl rfl rfl hG)
    · intro L9 α a9 u9 K9 hL hcl hA hG hS h0 hK
      replace hL : L9 4 = false := hL
      have q30 : a9.tmps[30]? = some (.pointer (some ⟨db, 0, none⟩)) := hS 3 30 (by decide) rfl (by show 30 < 152; decide)
      have s30 := Rega.eval_of q30
      go_simp
      exact hK _ α _ (fun _ _ => rfl) rfl (step_same (rLD1_st pb sb PC C mp ps j i src ib db tl nm nl bp bl be eb ll TR xr lr o0 o1 loc B1_1 B1) hL hcl rfl rfl hG)
    · intro L9 α a9 u9 K9 hL hcl hA hG hS h0 hK
      replace hL : L9 5 = false := hL
      have q31 : a9.tmps[31]? = some (.pointer (some ⟨db, 0, none⟩)) := hS 4 31 (by decide) rfl (by show 31 < 152; decide)
      have s31 := Rega.eval_of q31
      go_simp
      exact hK _ α _ (fun _ _ => rfl) rfl (step_same (rLD1_st pb sb PC C mp ps j i src ib db tl nm nl bp bl be eb ll TR xr lr o0 o1 loc B1_1 B1) hL hcl rfl rfl hG)
    · intro L9 α a9 u9 K9 hL hcl hA hG hS h0 hK
      replace hL : L9 6 = false := hL
      have q32 : a9.tmps[32]? = some (.pointer (some ⟨db, 0, none⟩)) := hS 5 32 (by decide) rfl (by show 32 < 152; decide)
      have s32 := Rega.eval_of q32
      have e0 : rLD1R pb sb PC C mp ps j i src ib db tl nm nl bp bl be eb ll TR xr lr o0 o1 loc B1_1 B1 L9 α 9999 = row (db) 85 #[.iface 55 (.pointer (some ⟨ib, 0, none⟩)), .int .i32 tl, .string nm, .int .i32 nl, .int .u8 0, .bool false, .bool false, .bool false] := rfl
      have hr := hG.rowAt 9999 (act_base 9999 rfl) e0
      have c0 : u9.cell? ⟨db, 0, none⟩ = some (.iface 55 (.pointer (some ⟨ib, 0, none⟩))) := hr.cell rfl
      have c1 : u9.cell? ⟨db, 1, none⟩ = some (.int .i32 tl) := hr.cell rfl
      clear hr e0
      go_simp
      exact hK _ α _ (fun _ _ => rfl) rfl (step_same (rLD1_st pb sb PC C mp ps j i src ib db tl nm nl bp bl be eb ll TR xr lr o0 o1 loc B1_1 B1) hL hcl rfl rfl hG)
    · intro L9 α a9 u9 K9 hL hcl hA hG hS h0 hK
      replace hL : L9 7 = false := hL
      have q27 : a9.tmps[27]? = some (.pointer (some ⟨pb, 0, none⟩)) := hS 0 27 (by decide) rfl (by show 27 < 152; decide)
      have s27 := Rega.eval_of q27
      have q29 : a9.tmps[29]? = some (.agg #[.int .i32 ll]) := hS 2 29 (by decide) rfl (by show 29 < 152; decide)
      have s29 := Rega.eval_of q29
      have q33 : a9.tmps[33]? = some (.agg #[.iface 55 (.pointer (some ⟨ib, 0, none⟩)), .int .i32 tl]) := hS 6 33 (by decide) rfl (by show 33 < 152; decide)
      have s33 := Rega.eval_of q33
      go_simp
      have hM : ∀ i, i ∈ [] → act rLD1Cnt 11 L9 i := by intro i hi; simp at hi
      have hP : Own w0 u9 [] _ := hG.pick [] (by decide) (by simp)
      clear hM
      refine Calls.mono (capIdO pb ib ll tl _ _ _ hP ) ?_
      rintro e9 u1 ⟨b0, b1, b2, b3, rfl, hQ⟩
      obtain ⟨α', hα'⟩ : ∃ α' : Rega.Atoms, α' = (fun j => if j = 7 then b0 else if j = 1007 then b1 else if j = 2007 then b2 else if j = 3007 then b3 else α j) := ⟨_, rfl⟩
      have f0 : rLD1R pb sb PC C mp ps j i src ib db tl nm nl bp bl be eb ll TR xr lr o0 o1 loc B1_1 B1 (Rega.ran L9 7) α' 7 = row (α' 7) 23 #[.pointer (some ⟨pb, 0, none⟩)] := rfl
      have f1 : rLD1R pb sb PC C mp ps j i src ib db tl nm nl bp bl be eb ll TR xr lr o0 o1 loc B1_1 B1 (Rega.ran L9 7) α' 1007 = row (α' 1007) 32 #[.int .i32 ll] := rfl
      have f2 : rLD1R pb sb PC C mp ps j i src ib db tl nm nl bp bl be eb ll TR xr lr o0 o1 loc B1_1 B1 (Rega.ran L9 7) α' 2007 = row (α' 2007) 34 #[.iface 55 (.pointer (some ⟨ib, 0, none⟩)), .int .i32 tl] := rfl
      have f3 : rLD1R pb sb PC C mp ps j i src ib db tl nm nl bp bl be eb ll TR xr lr o0 o1 loc B1_1 B1 (Rega.ran L9 7) α' 3007 = row (α' 3007) 55 #[.pointer (some ⟨ib, 0, none⟩)] := rfl
      have hα : ∀ j, j % 1000 ≠ 7 → α' j = α j := fun j hj => by rw [hα']; simp only []; rw [if_neg (by omega), if_neg (by omega), if_neg (by omega), if_neg (by omega)]
      have hb0 : α' 7 = b0 := by rw [hα']; rfl
      have hb1 : α' 1007 = b1 := by rw [hα']; rfl
      have hb2 : α' 2007 = b2 := by rw [hα']; rfl
      have hb3 : α' 3007 = b3 := by rw [hα']; rfl
      skip
      refine hK _ α' _ hα ?_ (step_call (rLD1_st pb sb PC C mp ps j i src ib db tl nm nl bp bl be eb ll TR xr lr o0 o1 loc B1_1 B1) hL hcl hα [] [7, 1007, 2007, 3007] (by decide) (by decide) (by decide) (M := _) ?_ hG hQ)
      · show _ = (.tuple #[.func (Fn.func 59) #[] #[.pointer (some ⟨α' 7, 0, none⟩), .pointer (some ⟨α' 3007, 0, none⟩), .pointer (some ⟨α' 1007, 0, none⟩)], .func (Fn.func 50) #[] #[.pointer (some ⟨α' 2007, 0, none⟩)]] : Value)
        simp only [hb0, hb1, hb2, hb3]
      · show [rLD1R pb sb PC C mp ps j i src ib db tl nm nl bp bl be eb ll TR xr lr o0 o1 loc B1_1 B1 (Rega.ran L9 7) α' 7, rLD1R pb sb PC C mp ps j i src ib db tl nm nl bp bl be eb ll TR xr lr o0 o1 loc B1_1 B1 (Rega.ran L9 7) α' 1007, rLD1R pb sb PC C mp ps j i src ib db tl nm nl bp bl be eb ll TR xr lr o0 o1 loc B1_1 B1 (Rega.ran L9 7) α' 2007, rLD1R pb sb PC C mp ps j i src ib db tl nm nl bp bl be eb ll TR xr lr o0 o1 loc B1_1 B1 (Rega.ran L9 7) α' 3007] = _
        rw [f0, f1, f2, f3]
        simp only [hb0, hb1, hb2, hb3]
    · intro L9 α a9 u9 K9 hL hcl hA hG hS h0 hK
      replace hL : L9 8 = false := hL
      have q34 : a9.tmps[34]? = some (.tuple #[.func (Fn.func 59) #[] #[.pointer (some ⟨α 7, 0, none⟩), .pointer (some ⟨α 3007, 0, none⟩), .pointer (some ⟨α 1007, 0, none⟩)], .func (Fn.func 50) #[] #[.pointer (some ⟨α 2007, 0, none⟩)]]) := hS 7 34 (by decide) rfl (by show 34 < 152; decide)
      have s34 := Rega.eval_of q34
      go_simp
      exact hK _ α _ (fun _ _ => rfl) rfl (step_same (rLD1_st pb sb PC C mp ps j i src ib db tl nm nl bp bl be eb ll TR xr lr o0 o1 loc B1_1 B1) hL hcl rfl rfl hG)
    · intro L9 α a9 u9 K9 hL hcl hA hG hS h0 hK
      replace hL : L9 9 = false := hL
      have q26 : a9.tmps[26]? = some (.tuple #[.func (Fn.func 59) #[] #[.pointer (some ⟨α 7, 0, none⟩), .pointer (some ⟨α 3007, 0, none⟩), .pointer (some ⟨α 1007, 0, none⟩)], .func (Fn.func 50) #[] #[.pointer (some ⟨α 2007, 0, none⟩)]]) := hS 8 26 (by decide) rfl (by show 26 < 152; decide)
      have s26 := Rega.eval_of q26
      go_simp
      exact hK _ α _ (fun _ _ => rfl) rfl (step_same (rLD1_st pb sb PC C mp ps j i src ib db tl nm nl bp bl be eb ll TR xr lr o0 o1 loc B1_1 B1) hL hcl rfl rfl hG)
    · intro L9 α a9 u9 K9 hL hcl hA hG hS h0 hK
      replace hL : L9 10 = false := hL
      have q26 : a9.tmps[26]? = some (.tuple #[.func (Fn.func 59) #[] #[.pointer (some ⟨α 7, 0, none⟩), .pointer (some ⟨α 3007, 0, none⟩), .pointer (some ⟨α 1007, 0, none⟩)], .func (Fn.func 50) #[] #[.pointer (some ⟨α 2007, 0, none⟩)]]) := hS 8 26 (by decide) rfl (by show 26 < 152; decide)
      have s26 := Rega.eval_of q26
      go_simp
      exact hK _ α _ (fun _ _ => rfl) rfl (step_same (rLD1_st pb sb PC C mp ps j i src ib db tl nm nl bp bl be eb ll TR xr lr o0 o1 loc B1_1 B1) hL hcl rfl rfl hG)
    · intro L9 α a9 u9 K9 hL hcl hA hG hS h0 hK
      replace hL : L9 11 = false := hL
      have q35 : a9.tmps[35]? = some (.func (Fn.func 59) #[] #[.pointer (some ⟨α 7, 0, none⟩), .pointer (some ⟨α 3007, 0, none⟩), .pointer (some ⟨α 1007, 0, none⟩)]) := hS 9 35 (by decide) rfl (by show 35 < 152; decide)
      have s35 := Rega.eval_of q35
      go_simp
      exact hK _ α _ (fun _ _ => rfl) rfl (step_same (rLD1_st pb sb PC C mp ps j i src ib db tl nm nl bp bl be eb ll TR xr lr o0 o1 loc B1_1 B1) hL hcl rfl rfl hG)
    · intro L9 α a9 u9 K9 hL hcl hA hG hS h0 hK
      replace hL : L9 12 = false := hL
      have q36 : a9.tmps[36]? = some (.func (Fn.func 50) #[] #[.pointer (some ⟨α 2007, 0, none⟩)]) := hS 10 36 (by decide) rfl (by show 36 < 152; decide)
      have s36 := Rega.eval_of q36
      go_simp
      exact hK _ α _ (fun _ _ => rfl) rfl (step_same (rLD1_st pb sb PC C mp ps j i src ib db tl nm nl bp bl be eb ll TR xr lr o0 o1 loc B1_1 B1) hL hcl rfl rfl hG)
  · intro α u hG
    have e0 : rLD1R pb sb PC C mp ps j i src ib db tl nm nl bp bl be eb ll TR xr lr o0 o1 loc B1_1 B1 (fun k => decide (k < 13)) α 999 = row (B1_1) 34 #[.nilIface, .int .i32 0] := rfl
    have e1 : rLD1R pb sb PC C mp ps j i src ib db tl nm nl bp bl be eb ll TR xr lr o0 o1 loc B1_1 B1 (fun k => decide (k < 13)) α 1999 = row (B1) 34 #[.iface 81 (.pointer (some ⟨db, 0, none⟩)), .int .i32 ll] := rfl
    have e2 : rLD1R pb sb PC C mp ps j i src ib db tl nm nl bp bl be eb ll TR xr lr o0 o1 loc B1_1 B1 (fun k => decide (k < 13)) α 2999 = row (pb) 207 PC := rfl
    have e3 : rLD1R pb sb PC C mp ps j i src ib db tl nm nl bp bl be eb ll TR xr lr o0 o1 loc B1_1 B1 (fun k => decide (k < 13)) α 3999 = row (sb) 223 C := rfl
    have e4 : rLD1R pb sb PC C mp ps j i src ib db tl nm nl bp bl be eb ll TR xr lr o0 o1 loc B1_1 B1 (fun k => decide (k < 13)) α 4999 = (mp, .map #[⟨.string ⟨#[95, 95, 112, 111, 119]⟩, .agg #[.int .i32 0, .int .u32 ps, .int .u32 (j : Int)], 0⟩] 1) := rfl
    have e5 : rLD1R pb sb PC C mp ps j i src ib db tl nm nl bp bl be eb ll TR xr lr o0 o1 loc B1_1 B1 (fun k => decide (k < 13)) α 5999 = row (bp) 23 #[.pointer (some ⟨pb, 0, none⟩)] := rfl
    have e6 : rLD1R pb sb PC C mp ps j i src ib db tl nm nl bp bl be eb ll TR xr lr o0 o1 loc B1_1 B1 (fun k => decide (k < 13)) α 6999 = row (bl) 32 #[.int .i32 loc] := rfl
    have e7 : rLD1R pb sb PC C mp ps j i src ib db tl nm nl bp bl be eb ll TR xr lr o0 o1 loc B1_1 B1 (fun k => decide (k < 13)) α 7999 = row (be) 41 #[.pointer (some ⟨eb, 0, none⟩)] := rfl
    have e8 : rLD1R pb sb PC C mp ps j i src ib db tl nm nl bp bl be eb ll TR xr lr o0 o1 loc B1_1 B1 (fun k => decide (k < 13)) α 8999 = row (eb) 47 #[.iface 81 (.pointer (some ⟨db, 0, none⟩)), .int .i32 ll, .iface TR (.pointer (some ⟨xr, 0, none⟩)), .int .i32 lr, .int .u8 o0, .bool o1] := rfl
    have e9 : rLD1R pb sb PC C mp ps j i src ib db tl nm nl bp bl be eb ll TR xr lr o0 o1 loc B1_1 B1 (fun k => decide (k < 13)) α 9999 = row (db) 85 #[.iface 55 (.pointer (some ⟨ib, 0, none⟩)), .int .i32 tl, .string nm, .int .i32 nl, .int .u8 0, .bool false, .bool false, .bool false] := rfl
    have e10 : rLD1R pb sb PC C mp ps j i src ib db tl nm nl bp bl be eb ll TR xr lr o0 o1 loc B1_1 B1 (fun k => decide (k < 13)) α 10999 = row (ib) 214 #[.int .u32 src, .int .u32 (i : Int), .bool false, .bool false, .bool false] := rfl
    have e11 : rLD1R pb sb PC C mp ps j i src ib db tl nm nl bp bl be eb ll TR xr lr o0 o1 loc B1_1 B1 (fun k => decide (k < 13)) α 7 = row (α 7) 23 #[.pointer (some ⟨pb, 0, none⟩)] := rfl
    have e12 : rLD1R pb sb PC C mp ps j i src ib db tl nm nl bp bl be eb ll TR xr lr o0 o1 loc B1_1 B1 (fun k => decide (k < 13)) α 1007 = row (α 1007) 32 #[.int .i32 ll] := rfl
    have e13 : rLD1R pb sb PC C mp ps j i src ib db tl nm nl bp bl be eb ll TR xr lr o0 o1 loc B1_1 B1 (fun k => decide (k < 13)) α 2007 = row (α 2007) 34 #[.iface 55 (.pointer (some ⟨ib, 0, none⟩)), .int .i32 tl] := rfl
    have e14 : rLD1R pb sb PC C mp ps j i src ib db tl nm nl bp bl be eb ll TR xr lr o0 o1 loc B1_1 B1 (fun k => decide (k < 13)) α 3007 = row (α 3007) 55 #[.pointer (some ⟨ib, 0, none⟩)] := rfl
    have hO : Own w0 u [row (B1_1) 34 #[.nilIface, .int .i32 0], row (B1) 34 #[.iface 81 (.pointer (some ⟨db, 0, none⟩)), .int .i32 ll], row (pb) 207 PC, row (sb) 223 C, (mp, .map #[⟨.string ⟨#[95, 95, 112, 111, 119]⟩, .agg #[.int .i32 0, .int .u32 ps, .int .u32 (j : Int)], 0⟩] 1), row (bp) 23 #[.pointer (some ⟨pb, 0, none⟩)], row (bl) 32 #[.int .i32 loc], row (be) 41 #[.pointer (some ⟨eb, 0, none⟩)], row (eb) 47 #[.iface 81 (.pointer (some ⟨db, 0, none⟩)), .int .i32 ll, .iface TR (.pointer (some ⟨xr, 0, none⟩)), .int .i32 lr, .int .u8 o0, .bool o1], row (db) 85 #[.iface 55 (.pointer (some ⟨ib, 0, none⟩)), .int .i32 tl, .string nm, .int .i32 nl, .int .u8 0, .bool false, .bool false, .bool false], row (ib) 214 #[.int .u32 src, .int .u32 (i : Int), .bool false, .bool false, .bool false], row (α 7) 23 #[.pointer (some ⟨pb, 0, none⟩)], row (α 1007) 32 #[.int .i32 ll], row (α 2007) 34 #[.iface 55 (.pointer (some ⟨ib, 0, none⟩)), .int .i32 tl], row (α 3007) 55 #[.pointer (some ⟨ib, 0, none⟩)]] X := (hG.list [999, 1999, 2999, 3999, 4999, 5999, 6999, 7999, 8999, 9999, 10999, 7, 1007, 2007, 3007] (by decide) (act_all (by decide))).conv (by
      show [rLD1R pb sb PC C mp ps j i src ib db tl nm nl bp bl be eb ll TR xr lr o0 o1 loc B1_1 B1 (fun k => decide (k < 13)) α 999, rLD1R pb sb PC C mp ps j i src ib db tl nm nl bp bl be eb ll TR xr lr o0 o1 loc B1_1 B1 (fun k => decide (k < 13)) α 1999, rLD1R pb sb PC C mp ps j i src ib db tl nm nl bp bl be eb ll TR xr lr o0 o1 loc B1_1 B1 (fun k => decide (k < 13)) α 2999, rLD1R pb sb PC C mp ps j i src ib db tl nm nl bp bl be eb ll TR xr lr o0 o1 loc B1_1 B1 (fun k => decide (k < 13)) α 3999, rLD1R pb sb PC C mp ps j i src ib db tl nm nl bp bl be eb ll TR xr lr o0 o1 loc B1_1 B1 (fun k => decide (k < 13)) α 4999, rLD1R pb sb PC C mp ps j i src ib db tl nm nl bp bl be eb ll TR xr lr o0 o1 loc B1_1 B1 (fun k => decide (k < 13)) α 5999, rLD1R pb sb PC C mp ps j i src ib db tl nm nl bp bl be eb ll TR xr lr o0 o1 loc B1_1 B1 (fun k => decide (k < 13)) α 6999, rLD1R pb sb PC C mp ps j i src ib db tl nm nl bp bl be eb ll TR xr lr o0 o1 loc B1_1 B1 (fun k => decide (k < 13)) α 7999, rLD1R pb sb PC C mp ps j i src ib db tl nm nl bp bl be eb ll TR xr lr o0 o1 loc B1_1 B1 (fun k => decide (k < 13)) α 8999, rLD1R pb sb PC C mp ps j i src ib db tl nm nl bp bl be eb ll TR xr lr o0 o1 loc B1_1 B1 (fun k => decide (k < 13)) α 9999, rLD1R pb sb PC C mp ps j i src ib db tl nm nl bp bl be eb ll TR xr lr o0 o1 loc B1_1 B1 (fun k => decide (k < 13)) α 10999, rLD1R pb sb PC C mp ps j i src ib db tl nm nl bp bl be eb ll TR xr lr o0 o1 loc B1_1 B1 (fun k => decide (k < 13)) α 7, rLD1R pb sb PC C mp ps j i src ib db tl nm nl bp bl be eb ll TR xr lr o0 o1 loc B1_1 B1 (fun k => decide (k < 13)) α 1007, rLD1R pb sb PC C mp ps j i src ib db tl nm nl bp bl be eb ll TR xr lr o0 o1 loc B1_1 B1 (fun k => decide (k < 13)) α 2007, rLD1R pb sb PC C mp ps j i src ib db tl nm nl bp bl be eb ll TR xr lr o0 o1 loc B1_1 B1 (fun k => decide (k < 13)) α 3007] = _
      rw [e0, e1, e2, e3, e4, e5, e6, e7, e8, e9, e10, e11, e12, e13, e14])
    clear hG e0 e1 e2 e3 e4 e5 e6 e7 e8 e9 e10 e11 e12 e13 e14
    generalize hfr : Rega.frameAt _ _ _ _ _ = fr
    have hdf : fr = ⟨#[.pointer (some ⟨pb, 0, none⟩), .agg #[.iface 81 (.pointer (some ⟨db, 0, none⟩)), .int .i32 ll], .func (Fn.func 48) #[] #[.pointer (some ⟨bp, 0, none⟩), .pointer (some ⟨bl, 0, none⟩), .pointer (some ⟨be, 0, none⟩)], undef, .pointer (some ⟨B1, 0, none⟩), undef, .pointer (some ⟨B1_1, 0, none⟩), .pointer (some ⟨db, 0, none⟩), .func (Fn.func 59) #[] #[.pointer (some ⟨α 7, 0, none⟩), .pointer (some ⟨α 3007, 0, none⟩), .pointer (some ⟨α 1007, 0, none⟩)], .func (Fn.func 50) #[] #[.pointer (some ⟨α 2007, 0, none⟩)], undef, undef, undef, undef, undef, undef, .pointer (some ⟨B1, 0, none⟩), .iface 81 (.pointer (some ⟨db, 0, none⟩)), .tuple #[.pointer (some ⟨db, 0, none⟩), .bool true], .bool true, .pointer (some ⟨db, 0, none⟩), .pointer (some ⟨db, 0, none⟩), .pointer (some ⟨db, 0, none⟩), .pointer (some ⟨db, 4, none⟩), .int .u8 0, .bool true, .tuple #[.func (Fn.func 59) #[] #[.pointer (some ⟨α 7, 0, none⟩), .pointer (some ⟨α 3007, 0, none⟩), .pointer (some ⟨α 1007, 0, none⟩)], .func (Fn.func 50) #[] #[.pointer (some ⟨α 2007, 0, none⟩)]], .pointer (some ⟨pb, 0, none⟩), .pointer (some ⟨B1, 1, none⟩), .agg #[.int .i32 ll], .pointer (some ⟨db, 0, none⟩), .pointer (some ⟨db, 0, none⟩), .pointer (some ⟨db, 0, none⟩), .agg #[.iface 55 (.pointer (some ⟨ib, 0, none⟩)), .int .i32 tl], .tuple #[.func (Fn.func 59) #[] #[.pointer (some ⟨α 7, 0, none⟩), .pointer (some ⟨α 3007, 0, none⟩), .pointer (some ⟨α 1007, 0, none⟩)], .func (Fn.func 50) #[] #[.pointer (some ⟨α 2007, 0, none⟩)]], .func (Fn.func 59) #[] #[.pointer (some ⟨α 7, 0, none⟩), .pointer (some ⟨α 3007, 0, none⟩), .pointer (some ⟨α 1007, 0, none⟩)], .func (Fn.func 50) #[] #[.pointer (some ⟨α 2007, 0, none⟩)], undef, undef, undef, undef, undef, undef, undef, undef, undef, undef, undef, undef, undef, undef, undef, undef, undef, undef, undef, undef, undef, undef, undef, undef, undef, undef, undef, undef, undef, undef, undef, undef, undef, undef, undef, undef, undef, undef, undef, undef, undef, undef, undef, undef, undef, undef, undef, undef, undef, undef, undef, undef, undef, undef, undef, undef, undef, undef, undef, undef, undef, undef, undef, undef, undef, undef, undef, undef, undef, undef, undef, undef, undef, undef, undef, undef, undef, undef, undef, undef, undef, undef, undef, undef, undef, undef, undef, undef, undef, undef, undef, undef, undef, undef, undef, undef, undef, undef, undef, undef, undef, undef, undef, undef, undef, undef, undef, undef, undef, undef, undef, undef, undef, undef, undef], []⟩ := by rw [← hfr]; kernel_rfl
    clear hfr
    subst hdf
    generalize α 7 = nd3 at hO ⊢
    generalize α 1007 = nd4 at hO ⊢
    generalize α 2007 = nd5 at hO ⊢
    generalize α 3007 = nd6 at hO ⊢
    clear α
    have c9_0_0 : u.cell? ⟨B1_1, 0, none⟩ = some (.nilIface) := hO.cell 0 rfl 0 rfl
    have c9_0_1 : u.cell? ⟨B1_1, 1, none⟩ = some (.int .i32 0) := hO.cell 0 rfl 1 rfl
    have lt9_0 : B1_1 < u.heap.size := hO.lt 0 rfl
    have y9_0 : ∀ o, u.frozen? ⟨B1_1, o, none⟩ = false := hO.free 0 rfl
    have c9_1_0 : u.cell? ⟨B1, 0, none⟩ = some (.iface 81 (.pointer (some ⟨db, 0, none⟩))) := hO.cell 1 rfl 0 rfl
    have c9_1_1 : u.cell? ⟨B1, 1, none⟩ = some (.int .i32 ll) := hO.cell 1 rfl 1 rfl
    have lt9_1 : B1 < u.heap.size := hO.lt 1 rfl
    have y9_1 : ∀ o, u.frozen? ⟨B1, o, none⟩ = false := hO.free 1 rfl
    have c9_5_0 : u.cell? ⟨bp, 0, none⟩ = some (.pointer (some ⟨pb, 0, none⟩)) := hO.cell 5 rfl 0 rfl
    have lt9_5 : bp < u.heap.size := hO.lt 5 rfl
    have y9_5 : ∀ o, u.frozen? ⟨bp, o, none⟩ = false := hO.free 5 rfl
    have c9_6_0 : u.cell? ⟨bl, 0, none⟩ = some (.int .i32 loc) := hO.cell 6 rfl 0 rfl
    have lt9_6 : bl < u.heap.size := hO.lt 6 rfl
    have y9_6 : ∀ o, u.frozen? ⟨bl, o, none⟩ = false := hO.free 6 rfl
    have c9_7_0 : u.cell? ⟨be, 0, none⟩ = some (.pointer (some ⟨eb, 0, none⟩)) := hO.cell 7 rfl 0 rfl
    have lt9_7 : be < u.heap.size := hO.lt 7 rfl
    have y9_7 : ∀ o, u.frozen? ⟨be, o, none⟩ = false := hO.free 7 rfl
    have c9_8_0 : u.cell? ⟨eb, 0, none⟩ = some (.iface 81 (.pointer (some ⟨db, 0, none⟩))) := hO.cell 8 rfl 0 rfl
    have c9_8_1 : u.cell? ⟨eb, 1, none⟩ = some (.int .i32 ll) := hO.cell 8 rfl 1 rfl
    have c9_8_2 : u.cell? ⟨eb, 2, none⟩ = some (.iface TR (.pointer (some ⟨xr, 0, none⟩))) := hO.cell 8 rfl 2 rfl
    have c9_8_3 : u.cell? ⟨eb, 3, none⟩ = some (.int .i32 lr) := hO.cell 8 rfl 3 rfl
    have c9_8_4 : u.cell? ⟨eb, 4, none⟩ = some (.int .u8 o0) := hO.cell 8 rfl 4 rfl
    have c9_8_5 : u.cell? ⟨eb, 5, none⟩ = some (.bool o1) := hO.cell 8 rfl 5 rfl
    have lt9_8 : eb < u.heap.size := hO.lt 8 rfl
    have y9_8 : ∀ o, u.frozen? ⟨eb, o, none⟩ = false := hO.free 8 rfl
    have c9_9_0 : u.cell? ⟨db, 0, none⟩ = some (.iface 55 (.pointer (some ⟨ib, 0, none⟩))) := hO.cell 9 rfl 0 rfl
    have c9_9_1 : u.cell? ⟨db, 1, none⟩ = some (.int .i32 tl) := hO.cell 9 rfl 1 rfl
    have c9_9_2 : u.cell? ⟨db, 2, none⟩ = some (.string nm) := hO.cell 9 rfl 2 rfl
    have c9_9_3 : u.cell? ⟨db, 3, none⟩ = some (.int .i32 nl) := hO.cell 9 rfl 3 rfl
    have c9_9_4 : u.cell? ⟨db, 4, none⟩ = some (.int .u8 0) := hO.cell 9 rfl 4 rfl
    have c9_9_5 : u.cell? ⟨db, 5, none⟩ = some (.bool false) := hO.cell 9 rfl 5 rfl
    have c9_9_6 : u.cell? ⟨db, 6, none⟩ = some (.bool false) := hO.cell 9 rfl 6 rfl
    have c9_9_7 : u.cell? ⟨db, 7, none⟩ = some (.bool false) := hO.cell 9 rfl 7 rfl
    have lt9_9 : db < u.heap.size := hO.lt 9 rfl
    have y9_9 : ∀ o, u.frozen? ⟨db, o, none⟩ = false := hO.free 9 rfl
    have c9_10_0 : u.cell? ⟨ib, 0, none⟩ = some (.int .u32 src) := hO.cell 10 rfl 0 rfl
    have c9_10_1 : u.cell? ⟨ib, 1, none⟩ = some (.int .u32 (i : Int)) := hO.cell 10 rfl 1 rfl
    have c9_10_2 : u.cell? ⟨ib, 2, none⟩ = some (.bool false) := hO.cell 10 rfl 2 rfl
    have c9_10_3 : u.cell? ⟨ib, 3, none⟩ = some (.bool false) := hO.cell 10 rfl 3 rfl
    have c9_10_4 : u.cell? ⟨ib, 4, none⟩ = some (.bool false) := hO.cell 10 rfl 4 rfl
    have lt9_10 : ib < u.heap.size := hO.lt 10 rfl
    have y9_10 : ∀ o, u.frozen? ⟨ib, o, none⟩ = false := hO.free 10 rfl
    have c9_11_0 : u.cell? ⟨nd3, 0, none⟩ = some (.pointer (some ⟨pb, 0, none⟩)) := hO.cell 11 rfl 0 rfl
    have lt9_11 : nd3 < u.heap.size := hO.lt 11 rfl
    have y9_11 : ∀ o, u.frozen? ⟨nd3, o, none⟩ = false := hO.free 11 rfl
    have c9_12_0 : u.cell? ⟨nd4, 0, none⟩ = some (.int .i32 ll) := hO.cell 12 rfl 0 rfl
    have lt9_12 : nd4 < u.heap.size := hO.lt 12 rfl
    have y9_12 : ∀ o, u.frozen? ⟨nd4, o, none⟩ = false := hO.free 12 rfl
    have c9_13_0 : u.cell? ⟨nd5, 0, none⟩ = some (.iface 55 (.pointer (some ⟨ib, 0, none⟩))) := hO.cell 13 rfl 0 rfl
    have c9_13_1 : u.cell? ⟨nd5, 1, none⟩ = some (.int .i32 tl) := hO.cell 13 rfl 1 rfl
    have lt9_13 : nd5 < u.heap.size := hO.lt 13 rfl
    have y9_13 : ∀ o, u.frozen? ⟨nd5, o, none⟩ = false := hO.free 13 rfl
    have c9_14_0 : u.cell? ⟨nd6, 0, none⟩ = some (.pointer (some ⟨ib, 0, none⟩)) := hO.cell 14 rfl 0 rfl
    have lt9_14 : nd6 < u.heap.size := hO.lt 14 rfl
    have y9_14 : ∀ o, u.frozen? ⟨nd6, o, none⟩ = false := hO.free 14 rfl
    have HO := Lib.hid hO
    clear hO
    go_wp2_with fail
    have hO := HO.out
    clear HO c9_0_0 c9_0_1 lt9_0 y9_0 c9_1_0 c9_1_1 lt9_1 y9_1 c9_5_0 lt9_5 y9_5 c9_6_0 lt9_6 y9_6 c9_7_0 lt9_7 y9_7 c9_8_0 c9_8_1 c9_8_2 c9_8_3 c9_8_4 c9_8_5 lt9_8 y9_8 c9_9_0 c9_9_1 c9_9_2 c9_9_3 c9_9_4 c9_9_5 c9_9_6 c9_9_7 lt9_9 y9_9 c9_10_0 c9_10_1 c9_10_2 c9_10_3 c9_10_4 lt9_10 y9_10 c9_11_0 lt9_11 y9_11 c9_12_0 lt9_12 y9_12 c9_13_0 c9_13_1 lt9_13 y9_13 c9_14_0 lt9_14 y9_14
    refine wp_region_own (e := rLD2E pb sb PC C mp ps j cj i c cz src ib db tl nm nl bp bl be eb ll TR xr lr o0 o1 loc B1_1 B1 nd3 nd4 nd5 nd6) (anc := rLD2Anc) (G := (fun L9 α u9 => OwnF w0 u9 (act rLD2Cnt 15 L9) (rLD2R pb sb PC C mp ps j cj i c cz src ib db tl nm nl bp bl be eb ll TR xr lr o0 o1 loc B1_1 B1 nd3 nd4 nd5 nd6 L9 α) X)) (by kernel_rfl) (by kernel_rfl) (by kernel_rfl) (by kernel_rfl) (rLD2_he pb sb PC C mp ps j cj i c cz src ib db tl nm nl bp bl be eb ll TR xr lr o0 o1 loc B1_1 B1 nd3 nd4 nd5 nd6) ?_ (RunsAll.all ?_) ?_
    · have hp : ∀ i, act rLD2Cnt 15 (fun _ => false) i → i ∈ [999, 1999, 2999, 3999, 4999, 5999, 6999, 7999, 8999, 9999, 10999, 11999, 12999, 13999, 14999] := by
        intro i hi
        have h9 : i % 1000 = 999 := by
          by_cases h : i % 1000 = 999
          · exact h
          · exact absurd (act_lt hi h) (by simp)
        unfold act at hi
        rw [if_pos h9] at hi
        simp only [List.mem_cons, List.not_mem_nil, or_false]
        omega
      refine hO.drew.family (fun i hi => ?_) (fun i j hi hj hij => ?_)
      · have := hp i hi
        simp only [List.mem_cons, List.not_mem_nil, or_false] at this
        rcases this with rfl | rfl | rfl | rfl | rfl | rfl | rfl | rfl | rfl | rfl | rfl | rfl | rfl | rfl | rfl <;> rfl
      · have h1 := hp i hi
        have h2 := hp j hj
        simp only [List.mem_cons, List.not_mem_nil, or_false] at h1 h2
        omega
    · refine ⟨?_, ?_, ?_, ?_, ?_, ?_, ?_, ?_, ?_, ?_, ?_, ?_, ?_, ?_, ?_, ?_, ?_, ?_, ?_, ?_, ?_, ?_, ?_, ?_, ?_, ?_, ?_, ?_, ?_, ?_, ?_, ?_, ?_, ?_, ?_, ?_, ?_, trivial⟩
      · intro L9 α a9 u9 K9 hL hcl hA hG hS h0 hK
        replace hL : L9 0 = false := hL
        have q9 : a9.tmps[9]? = some (.func (Fn.func 50) #[] #[.pointer (some ⟨nd5, 0, none⟩)]) := (h0 9 (by kernel_rfl)).trans rfl
        have s9 := Rega.eval_of q9
        go_simp
        exact hK _ α _ (fun _ _ => rfl) rfl (step_same (rLD2_st pb sb PC C mp ps j cj i c cz src ib db tl nm nl bp bl be eb ll TR xr lr o0 o1 loc B1_1 B1 nd3 nd4 nd5 nd6) hL hcl rfl rfl hG)
      · intro L9 α a9 u9 K9 hL hcl hA hG hS h0 hK
        replace hL : L9 1 = false := hL
        have q2 : a9.tmps[2]? = some (.func (Fn.func 48) #[] #[.pointer (some ⟨bp, 0, none⟩), .pointer (some ⟨bl, 0, none⟩), .pointer (some ⟨be, 0, none⟩)]) := (h0 2 (by kernel_rfl)).trans rfl
        have s2 := Rega.eval_of q2
        go_simp
        exact hK _ α _ (fun _ _ => rfl) rfl (step_same (rLD2_st pb sb PC C mp ps j cj i c cz src ib db tl nm nl bp bl be eb ll TR xr lr o0 o1 loc B1_1 B1 nd3 nd4 nd5 nd6) hL hcl rfl rfl hG)
      · intro L9 α a9 u9 K9 hL hcl hA hG hS h0 hK
        replace hL : L9 2 = false := hL
        have q4 : a9.tmps[4]? = some (.pointer (some ⟨B1, 0, none⟩)) := (h0 4 (by kernel_rfl)).trans rfl
        have s4 := Rega.eval_of q4
        go_simp
        exact hK _ α _ (fun _ _ => rfl) rfl (step_same (rLD2_st pb sb PC C mp ps j cj i c cz src ib db tl nm nl bp bl be eb ll TR xr lr o0 o1 loc B1_1 B1 nd3 nd4 nd5 nd6) hL hcl rfl rfl hG)
      · intro L9 α a9 u9 K9 hL hcl hA hG hS h0 hK
        replace hL : L9 3 = false := hL
        have q39 : a9.tmps[39]? = some (.pointer (some ⟨B1, 1, none⟩)) := hS 2 39 (by decide) rfl (by show 39 < 152; decide)
        have s39 := Rega.eval_of q39
        have e0 : rLD2R pb sb PC C mp ps j cj i c cz src ib db tl nm nl bp bl be eb ll TR xr lr o0 o1 loc B1_1 B1 nd3 nd4 nd5 nd6 L9 α 1999 = row (B1) 34 #[.iface 81 (.pointer (some ⟨db, 0, none⟩)), .int .i32 ll] := rfl
        have hr := hG.rowAt 1999 (act_base 1999 rfl) e0
        have c0 : u9.cell? ⟨B1, 1, none⟩ = some (.int .i32 ll) := hr.cell rfl
        clear hr e0
        go_simp
        exact hK _ α _ (fun _ _ => rfl) rfl (step_same (rLD2_st pb sb PC C mp ps j cj i c cz src ib db tl nm nl bp bl be eb ll TR xr lr o0 o1 loc B1_1 B1 nd3 nd4 nd5 nd6) hL hcl rfl rfl hG)
      · intro L9 α a9 u9 K9 hL hcl hA hG hS h0 hK
        replace hL : L9 4 = false := hL
        have q8 : a9.tmps[8]? = some (.func (Fn.func 59) #[] #[.pointer (some ⟨nd3, 0, none⟩), .pointer (some ⟨nd6, 0, none⟩), .pointer (some ⟨nd4, 0, none⟩)]) := (h0 8 (by kernel_rfl)).trans rfl
        have s8 := Rega.eval_of q8
        go_simp
        exact hK _ α _ (fun _ _ => rfl) rfl (step_same (rLD2_st pb sb PC C mp ps j cj i c cz src ib db tl nm nl bp bl be eb ll TR xr lr o0 o1 loc B1_1 B1 nd3 nd4 nd5 nd6) hL hcl rfl rfl hG)
      · intro L9 α a9 u9 K9 hL hcl hA hG hS h0 hK
        replace hL : L9 5 = false := hL
        have q41 : a9.tmps[41]? = some (.func (Fn.func 59) #[] #[.pointer (some ⟨nd3, 0, none⟩), .pointer (some ⟨nd6, 0, none⟩), .pointer (some ⟨nd4, 0, none⟩)]) := hS 4 41 (by decide) rfl (by show 41 < 152; decide)
        have s41 := Rega.eval_of q41
        go_simp
        have e0 : rLD2R pb sb PC C mp ps j cj i c cz src ib db tl nm nl bp bl be eb ll TR xr lr o0 o1 loc B1_1 B1 nd3 nd4 nd5 nd6 L9 α 2999 = row (pb) 207 PC := rfl
        have e1 : rLD2R pb sb PC C mp ps j cj i c cz src ib db tl nm nl bp bl be eb ll TR xr lr o0 o1 loc B1_1 B1 nd3 nd4 nd5 nd6 L9 α 3999 = row (sb) 223 C := by
          show rLD2T3999 pb sb PC C mp ps j cj i c cz src ib db tl nm nl bp bl be eb ll TR xr lr o0 o1 loc B1_1 B1 nd3 nd4 nd5 nd6 L9 α = _
          unfold rLD2T3999
          rw [if_neg (fun e => by have := hcl 34 e 5 (by decide); rw [hL] at this; cases this), if_neg (fun e => by have := hcl 21 e 5 (by decide); rw [hL] at this; cases this), if_neg (by rw [hL]; decide)]
        have e2 : rLD2R pb sb PC C mp ps j cj i c cz src ib db tl nm nl bp bl be eb ll TR xr lr o0 o1 loc B1_1 B1 nd3 nd4 nd5 nd6 L9 α 11999 = row (nd3) 23 #[.pointer (some ⟨pb, 0, none⟩)] := rfl
        have e3 : rLD2R pb sb PC C mp ps j cj i c cz src ib db tl nm nl bp bl be eb ll TR xr lr o0 o1 loc B1_1 B1 nd3 nd4 nd5 nd6 L9 α 12999 = row (nd4) 32 #[.int .i32 ll] := rfl
        have e4 : rLD2R pb sb PC C mp ps j cj i c cz src ib db tl nm nl bp bl be eb ll TR xr lr o0 o1 loc B1_1 B1 nd3 nd4 nd5 nd6 L9 α 14999 = row (nd6) 55 #[.pointer (some ⟨ib, 0, none⟩)] := rfl
        have e5 : rLD2R pb sb PC C mp ps j cj i c cz src ib db tl nm nl bp bl be eb ll TR xr lr o0 o1 loc B1_1 B1 nd3 nd4 nd5 nd6 L9 α 10999 = row (ib) 214 #[.int .u32 src, .int .u32 (i : Int), .bool false, .bool false, .bool false] := rfl
        have hM : ∀ i, i ∈ [2999, 3999, 11999, 12999, 14999, 10999] → act rLD2Cnt 15 L9 i := by
          intro i hi
          simp only [List.mem_cons, List.not_mem_nil, or_false] at hi
          rcases hi with rfl | rfl | rfl | rfl | rfl | rfl
          · exact act_base 2999 rfl
          · exact act_base 3999 rfl
          · exact act_base 11999 rfl
          · exact act_base 12999 rfl
          · exact act_base 14999 rfl
          · exact act_base 10999 rfl
        have hP : Own w0 u9 [row (pb) 207 PC, row (sb) 223 C, row (nd3) 23 #[.pointer (some ⟨pb, 0, none⟩)], row (nd4) 32 #[.int .i32 ll], row (nd6) 55 #[.pointer (some ⟨ib, 0, none⟩)], row (ib) 214 #[.int .u32 src, .int .u32 (i : Int), .bool false, .bool false, .bool false]] _ := (hG.pick [2999, 3999, 11999, 12999, 14999, 10999] (by decide) hM).conv (by
          show [rLD2R pb sb PC C mp ps j cj i c cz src ib db tl nm nl bp bl be eb ll TR xr lr o0 o1 loc B1_1 B1 nd3 nd4 nd5 nd6 L9 α 2999, rLD2R pb sb PC C mp ps j cj i c cz src ib db tl nm nl bp bl be eb ll TR xr lr o0 o1 loc B1_1 B1 nd3 nd4 nd5 nd6 L9 α 3999, rLD2R pb sb PC C mp ps j cj i c cz src ib db tl nm nl bp bl be eb ll TR xr lr o0 o1 loc B1_1 B1 nd3 nd4 nd5 nd6 L9 α 11999, rLD2R pb sb PC C mp ps j cj i c cz src ib db tl nm nl bp bl be eb ll TR xr lr o0 o1 loc B1_1 B1 nd3 nd4 nd5 nd6 L9 α 12999, rLD2R pb sb PC C mp ps j cj i c cz src ib db tl nm nl bp bl be eb ll TR xr lr o0 o1 loc B1_1 B1 nd3 nd4 nd5 nd6 L9 α 14999, rLD2R pb sb PC C mp ps j cj i c cz src ib db tl nm nl bp bl be eb ll TR xr lr o0 o1 loc B1_1 B1 nd3 nd4 nd5 nd6 L9 α 10999] = _
          rw [e0, e1, e2, e3, e4, e5])
        clear e0 e1 e2 e3 e4 e5 hM
        refine Calls.mono (capGet pb sb n cap PC C i c src ib ll nd3 nd4 nd6 _ _ _ hP hR hn hi hc hcm) ?_
        rintro e9 u1 ⟨b0, rfl, hQ⟩
        obtain ⟨α', hα'⟩ : ∃ α' : Rega.Atoms, α' = (fun j => if j = 5 then b0 else α j) := ⟨_, rfl⟩
        have f0 : rLD2R pb sb PC C mp ps j cj i c cz src ib db tl nm nl bp bl be eb ll TR xr lr o0 o1 loc B1_1 B1 nd3 nd4 nd5 nd6 (Rega.ran L9 5) α' 2999 = row (pb) 207 PC := rfl
        have f1 : rLD2R pb sb PC C mp ps j cj i c cz src ib db tl nm nl bp bl be eb ll TR xr lr o0 o1 loc B1_1 B1 nd3 nd4 nd5 nd6 (Rega.ran L9 5) α' 3999 = row (sb) 223 (bumped C i c) := by
          show rLD2T3999 pb sb PC C mp ps j cj i c cz src ib db tl nm nl bp bl be eb ll TR xr lr o0 o1 loc B1_1 B1 nd3 nd4 nd5 nd6 (Rega.ran L9 5) α' = _
          unfold rLD2T3999
          rw [if_neg (fun e => (fun e => by have := hcl 34 e 5 (by decide); rw [hL] at this; cases this) ((ran_ne (by decide)).symm.trans e)), if_neg (fun e => (fun e => by have := hcl 21 e 5 (by decide); rw [hL] at this; cases this) ((ran_ne (by decide)).symm.trans e)), if_pos (show Rega.ran L9 5 5 = true from rfl)]
        have f2 : rLD2R pb sb PC C mp ps j cj i c cz src ib db tl nm nl bp bl be eb ll TR xr lr o0 o1 loc B1_1 B1 nd3 nd4 nd5 nd6 (Rega.ran L9 5) α' 11999 = row (nd3) 23 #[.pointer (some ⟨pb, 0, none⟩)] := rfl
        have f3 : rLD2R pb sb PC C mp ps j cj i c cz src ib db tl nm nl bp bl be eb ll TR xr lr o0 o1 loc B1_1 B1 nd3 nd4 nd5 nd6 (Rega.ran L9 5) α' 12999 = row (nd4) 32 #[.int .i32 ll] := rfl
        have f4 : rLD2R pb sb PC C mp ps j cj i c cz src ib db tl nm nl bp bl be eb ll TR xr lr o0 o1 loc B1_1 B1 nd3 nd4 nd5 nd6 (Rega.ran L9 5) α' 14999 = row (nd6) 55 #[.pointer (some ⟨ib, 0, none⟩)] := rfl
        have f5 : rLD2R pb sb PC C mp ps j cj i c cz src ib db tl nm nl bp bl be eb ll TR xr lr o0 o1 loc B1_1 B1 nd3 nd4 nd5 nd6 (Rega.ran L9 5) α' 10999 = row (ib) 214 #[.int .u32 src, .int .u32 (i : Int), .bool false, .bool false, .bool false] := rfl
        have f6 : rLD2R pb sb PC C mp ps j cj i c cz src ib db tl nm nl bp bl be eb ll TR xr lr o0 o1 loc B1_1 B1 nd3 nd4 nd5 nd6 (Rega.ran L9 5) α' 5 = row (α' 5) 214 #[.int .u32 src, .int .u32 (i : Int), .bool false, .bool false, .bool false] := rfl
        have hα : ∀ j, j % 1000 ≠ 5 → α' j = α j := fun j hj => by rw [hα']; simp only []; rw [if_neg (by omega)]
        have hb0 : α' 5 = b0 := by rw [hα']; rfl
        skip
        refine hK _ α' _ hα ?_ (step_call (rLD2_st pb sb PC C mp ps j cj i c cz src ib db tl nm nl bp bl be eb ll TR xr lr o0 o1 loc B1_1 B1 nd3 nd4 nd5 nd6) hL hcl hα [2999, 3999, 11999, 12999, 14999, 10999] [2999, 3999, 11999, 12999, 14999, 10999, 5] (by decide) (by decide) (by decide) (M := _) ?_ hG hQ)
        · show _ = (.agg #[.iface 55 (.pointer (some ⟨α' 5, 0, none⟩)), .int .i32 ll] : Value)
          simp only [hb0]
        · show [rLD2R pb sb PC C mp ps j cj i c cz src ib db tl nm nl bp bl be eb ll TR xr lr o0 o1 loc B1_1 B1 nd3 nd4 nd5 nd6 (Rega.ran L9 5) α' 2999, rLD2R pb sb PC C mp ps j cj i c cz src ib db tl nm nl bp bl be eb ll TR xr lr o0 o1 loc B1_1 B1 nd3 nd4 nd5 nd6 (Rega.ran L9 5) α' 3999, rLD2R pb sb PC C mp ps j cj i c cz src ib db tl nm nl bp bl be eb ll TR xr lr o0 o1 loc B1_1 B1 nd3 nd4 nd5 nd6 (Rega.ran L9 5) α' 11999, rLD2R pb sb PC C mp ps j cj i c cz src ib db tl nm nl bp bl be eb ll TR xr lr o0 o1 loc B1_1 B1 nd3 nd4 nd5 nd6 (Rega.ran L9 5) α' 12999, rLD2R pb sb PC C mp ps j cj i c cz src ib db tl nm nl bp bl be eb ll TR xr lr o0 o1 loc B1_1 B1 nd3 nd4 nd5 nd6 (Rega.ran L9 5) α' 14999, rLD2R pb sb PC C mp ps j cj i c cz src ib db tl nm nl bp bl be eb ll TR xr lr o0 o1 loc B1_1 B1 nd3 nd4 nd5 nd6 (Rega.ran L9 5) α' 10999, rLD2R pb sb PC C mp ps j cj i c cz src ib db tl nm nl bp bl be eb ll TR xr lr o0 o1 loc B1_1 B1 nd3 nd4 nd5 nd6 (Rega.ran L9 5) α' 5] = _
          rw [f0, f1, f2, f3, f4, f5, f6]
          simp only [hb0]
      · intro L9 α a9 u9 K9 hL hcl hA hG hS h0 hK
        replace hL : L9 6 = false := hL
        have q7 : a9.tmps[7]? = some (.pointer (some ⟨db, 0, none⟩)) := (h0 7 (by kernel_rfl)).trans rfl
        have s7 := Rega.eval_of q7
        go_simp
        exact hK _ α _ (fun _ _ => rfl) rfl (step_same (rLD2_st pb sb PC C mp ps j cj i c cz src ib db tl nm nl bp bl be eb ll TR xr lr o0 o1 loc B1_1 B1 nd3 nd4 nd5 nd6) hL hcl rfl rfl hG)
      · intro L9 α a9 u9 K9 hL hcl hA hG hS h0 hK
        replace hL : L9 7 = false := hL
        have q43 : a9.tmps[43]? = some (.pointer (some ⟨db, 0, none⟩)) := hS 6 43 (by decide) rfl (by show 43 < 152; decide)
        have s43 := Rega.eval_of q43
        go_simp
        exact hK _ α _ (fun _ _ => rfl) rfl (step_same (rLD2_st pb sb PC C mp ps j cj i c cz src ib db tl nm nl bp bl be eb ll TR xr lr o0 o1 loc B1_1 B1 nd3 nd4 nd5 nd6) hL hcl rfl rfl hG)
      · intro L9 α a9 u9 K9 hL hcl hA hG hS h0 hK
        replace hL : L9 8 = false := hL
        have q44 : a9.tmps[44]? = some (.pointer (some ⟨db, 0, none⟩)) := hS 7 44 (by decide) rfl (by show 44 < 152; decide)
        have s44 := Rega.eval_of q44
        go_simp
        exact hK _ α _ (fun _ _ => rfl) rfl (step_same (rLD2_st pb sb PC C mp ps j cj i c cz src ib db tl nm nl bp bl be eb ll TR xr lr o0 o1 loc B1_1 B1 nd3 nd4 nd5 nd6) hL hcl rfl rfl hG)
      · intro L9 α a9 u9 K9 hL hcl hA hG hS h0 hK
        replace hL : L9 9 = false := hL
        have q45 : a9.tmps[45]? = some (.pointer (some ⟨db, 2, none⟩)) := hS 8 45 (by decide) rfl (by show 45 < 152; decide)
        have s45 := Rega.eval_of q45
        have e0 : rLD2R pb sb PC C mp ps j cj i c cz src ib db tl nm nl bp bl be eb ll TR xr lr o0 o1 loc B1_1 B1 nd3 nd4 nd5 nd6 L9 α 9999 = row (db) 85 #[.iface 55 (.pointer (some ⟨ib, 0, none⟩)), .int .i32 tl, .string nm, .int .i32 nl, .int .u8 0, .bool false, .bool false, .bool false] := rfl
        have hr := hG.rowAt 9999 (act_base 9999 rfl) e0
        have c0 : u9.cell? ⟨db, 2, none⟩ = some (.string nm) := hr.cell rfl
        clear hr e0
        go_simp
        exact hK _ α _ (fun _ _ => rfl) rfl (step_same (rLD2_st pb sb PC C mp ps j cj i c cz src ib db tl nm nl bp bl be eb ll TR xr lr o0 o1 loc B1_1 B1 nd3 nd4 nd5 nd6) hL hcl rfl rfl hG)
      · intro L9 α a9 u9 K9 hL hcl hA hG hS h0 hK
        replace hL : L9 10 = false := hL
        have q7 : a9.tmps[7]? = some (.pointer (some ⟨db, 0, none⟩)) := (h0 7 (by kernel_rfl)).trans rfl
        have s7 := Rega.eval_of q7
        go_simp
        exact hK _ α _ (fun _ _ => rfl) rfl (step_same (rLD2_st pb sb PC C mp ps j cj i c cz src ib db tl nm nl bp bl be eb ll TR xr lr o0 o1 loc B1_1 B1 nd3 nd4 nd5 nd6) hL hcl rfl rfl hG)
      · intro L9 α a9 u9 K9 hL hcl hA hG hS h0 hK
        replace hL : L9 11 = false := hL
        have q47 : a9.tmps[47]? = some (.pointer (some ⟨db, 0, none⟩)) := hS 10 47 (by decide) rfl (by show 47 < 152; decide)
        have s47 := Rega.eval_of q47
        go_simp
        exact hK _ α _ (fun _ _ => rfl) rfl (step_same (rLD2_st pb sb PC C mp ps j cj i c cz src ib db tl nm nl bp bl be eb ll TR xr lr o0 o1 loc B1_1 B1 nd3 nd4 nd5 nd6) hL hcl rfl rfl hG)
      · intro L9 α a9 u9 K9 hL hcl hA hG hS h0 hK
        replace hL : L9 12 = false := hL
        have q48 : a9.tmps[48]? = some (.pointer (some ⟨db, 0, none⟩)) := hS 11 48 (by decide) rfl (by show 48 < 152; decide)
        have s48 := Rega.eval_of q48
        go_simp
        exact hK _ α _ (fun _ _ => rfl) rfl (step_same (rLD2_st pb sb PC C mp ps j cj i c cz src ib db tl nm nl bp bl be eb ll TR xr lr o0 o1 loc B1_1 B1 nd3 nd4 nd5 nd6) hL hcl rfl rfl hG)
      · intro L9 α a9 u9 K9 hL hcl hA hG hS h0 hK
        replace hL : L9 13 = false := hL
        have q49 : a9.tmps[49]? = some (.pointer (some ⟨db, 3, none⟩)) := hS 12 49 (by decide) rfl (by show 49 < 152; decide)
        have s49 := Rega.eval_of q49
        have e0 : rLD2R pb sb PC C mp ps j cj i c cz src ib db tl nm nl bp bl be eb ll TR xr lr o0 o1 loc B1_1 B1 nd3 nd4 nd5 nd6 L9 α 9999 = row (db) 85 #[.iface 55 (.pointer (some ⟨ib, 0, none⟩)), .int .i32 tl, .string nm, .int .i32 nl, .int .u8 0, .bool false, .bool false, .bool false] := rfl
        have hr := hG.rowAt 9999 (act_base 9999 rfl) e0
        have c0 : u9.cell? ⟨db, 3, none⟩ = some (.int .i32 nl) := hr.cell rfl
        clear hr e0
        go_simp
        exact hK _ α _ (fun _ _ => rfl) rfl (step_same (rLD2_st pb sb PC C mp ps j cj i c cz src ib db tl nm nl bp bl be eb ll TR xr lr o0 o1 loc B1_1 B1 nd3 nd4 nd5 nd6) hL hcl rfl rfl hG)
      · intro L9 α a9 u9 K9 hL hcl hA hG hS h0 hK
        replace hL : L9 14 = false := hL
        have q42 : a9.tmps[42]? = some (.agg #[.iface 55 (.pointer (some ⟨α 5, 0, none⟩)), .int .i32 ll]) := hS 5 42 (by decide) rfl (by show 42 < 152; decide)
        have s42 := Rega.eval_of q42
        have q46 : a9.tmps[46]? = some (.string nm) := hS 9 46 (by decide) rfl (by show 46 < 152; decide)
        have s46 := Rega.eval_of q46
        have q50 : a9.tmps[50]? = some (.agg #[.int .i32 nl]) := hS 13 50 (by decide) rfl (by show 50 < 152; decide)
        have s50 := Rega.eval_of q50
        go_simp
        exact hK _ α _ (fun _ _ => rfl) rfl (step_same (rLD2_st pb sb PC C mp ps j cj i c cz src ib db tl nm nl bp bl be eb ll TR xr lr o0 o1 loc B1_1 B1 nd3 nd4 nd5 nd6) hL hcl rfl rfl hG)
      · intro L9 α a9 u9 K9 hL hcl hA hG hS h0 hK
        replace hL : L9 15 = false := hL
        have q51 : a9.tmps[51]? = some (.agg #[.iface 55 (.pointer (some ⟨α 5, 0, none⟩)), .int .i32 ll, .string nm, .int .i32 nl, .int .u8 0, .bool false, .bool false, .bool false]) := hS 14 51 (by decide) rfl (by show 51 < 152; decide)
        have s51 := Rega.eval_of q51
        go_simp
        exact hK _ (fun j => if j = 15 then u9.heap.size else α j) _ (fun j hj => if_neg (fun e => hj (by rw [e]))) rfl (step_alloc (rLD2_st pb sb PC C mp ps j cj i c cz src ib db tl nm nl bp bl be eb ll TR xr lr o0 o1 loc B1_1 B1 nd3 nd4 nd5 nd6) hL hcl rfl rfl (by decide) _ rfl hG)
      · intro L9 α a9 u9 K9 hL hcl hA hG hS h0 hK
        replace hL : L9 16 = false := hL
        have q52 : a9.tmps[52]? = some (.pointer (some ⟨α 15, 0, none⟩)) := hS 15 52 (by decide) rfl (by show 52 < 152; decide)
        have s52 := Rega.eval_of q52
        go_simp
        exact hK _ α _ (fun _ _ => rfl) rfl (step_same (rLD2_st pb sb PC C mp ps j cj i c cz src ib db tl nm nl bp bl be eb ll TR xr lr o0 o1 loc B1_1 B1 nd3 nd4 nd5 nd6) hL hcl rfl rfl hG)
      · intro L9 α a9 u9 K9 hL hcl hA hG hS h0 hK
        replace hL : L9 17 = false := hL
        have q40 : a9.tmps[40]? = some (.agg #[.int .i32 ll]) := hS 3 40 (by decide) rfl (by show 40 < 152; decide)
        have s40 := Rega.eval_of q40
        have q53 : a9.tmps[53]? = some (.iface 81 (.pointer (some ⟨α 15, 0, none⟩))) := hS 16 53 (by decide) rfl (by show 53 < 152; decide)
        have s53 := Rega.eval_of q53
        go_simp
        exact hK _ α _ (fun _ _ => rfl) rfl (step_same (rLD2_st pb sb PC C mp ps j cj i c cz src ib db tl nm nl bp bl be eb ll TR xr lr o0 o1 loc B1_1 B1 nd3 nd4 nd5 nd6) hL hcl rfl rfl hG)
      · intro L9 α a9 u9 K9 hL hcl hA hG hS h0 hK
        replace hL : L9 18 = false := hL
        have q4 : a9.tmps[4]? = some (.pointer (some ⟨B1, 0, none⟩)) := (h0 4 (by kernel_rfl)).trans rfl
        have s4 := Rega.eval_of q4
        go_simp
        exact hK _ α _ (fun _ _ => rfl) rfl (step_same (rLD2_st pb sb PC C mp ps j cj i c cz src ib db tl nm nl bp bl be eb ll TR xr lr o0 o1 loc B1_1 B1 nd3 nd4 nd5 nd6) hL hcl rfl rfl hG)
      · intro L9 α a9 u9 K9 hL hcl hA hG hS h0 hK
        replace hL : L9 19 = false := hL
        have q55 : a9.tmps[55]? = some (.pointer (some ⟨B1, 1, none⟩)) := hS 18 55 (by decide) rfl (by show 55 < 152; decide)
        have s55 := Rega.eval_of q55
        have e0 : rLD2R pb sb PC C mp ps j cj i c cz src ib db tl nm nl bp bl be eb ll TR xr lr o0 o1 loc B1_1 B1 nd3 nd4 nd5 nd6 L9 α 1999 = row (B1) 34 #[.iface 81 (.pointer (some ⟨db, 0, none⟩)), .int .i32 ll] := rfl
        have hr := hG.rowAt 1999 (act_base 1999 rfl) e0
        have c0 : u9.cell? ⟨B1, 1, none⟩ = some (.int .i32 ll) := hr.cell rfl
        clear hr e0
        go_simp
        exact hK _ α _ (fun _ _ => rfl) rfl (step_same (rLD2_st pb sb PC C mp ps j cj i c cz src ib db tl nm nl bp bl be eb ll TR xr lr o0 o1 loc B1_1 B1 nd3 nd4 nd5 nd6) hL hcl rfl rfl hG)
      · intro L9 α a9 u9 K9 hL hcl hA hG hS h0 hK
        replace hL : L9 20 = false := hL
        have q8 : a9.tmps[8]? = some (.func (Fn.func 59) #[] #[.pointer (some ⟨nd3, 0, none⟩), .pointer (some ⟨nd6, 0, none⟩), .pointer (some ⟨nd4, 0, none⟩)]) := (h0 8 (by kernel_rfl)).trans rfl
        have s8 := Rega.eval_of q8
        go_simp
        exact hK _ α _ (fun _ _ => rfl) rfl (step_same (rLD2_st pb sb PC C mp ps j cj i c cz src ib db tl nm nl bp bl be eb ll TR xr lr o0 o1 loc B1_1 B1 nd3 nd4 nd5 nd6) hL hcl rfl rfl hG)
      · intro L9 α a9 u9 K9 hL hcl hA hG hS h0 hK
        replace hL : L9 21 = false := hL
        have q57 : a9.tmps[57]? = some (.func (Fn.func 59) #[] #[.pointer (some ⟨nd3, 0, none⟩), .pointer (some ⟨nd6, 0, none⟩), .pointer (some ⟨nd4, 0, none⟩)]) := hS 20 57 (by decide) rfl (by show 57 < 152; decide)
        have s57 := Rega.eval_of q57
        go_simp
        have e0 : rLD2R pb sb PC C mp ps j cj i c cz src ib db tl nm nl bp bl be eb ll TR xr lr o0 o1 loc B1_1 B1 nd3 nd4 nd5 nd6 L9 α 2999 = row (pb) 207 PC := rfl
        have e1 : rLD2R pb sb PC C mp ps j cj i c cz src ib db tl nm nl bp bl be eb ll TR xr lr o0 o1 loc B1_1 B1 nd3 nd4 nd5 nd6 L9 α 3999 = row (sb) 223 (bumped C i c) := by
          show rLD2T3999 pb sb PC C mp ps j cj i c cz src ib db tl nm nl bp bl be eb ll TR xr lr o0 o1 loc B1_1 B1 nd3 nd4 nd5 nd6 L9 α = _
          unfold rLD2T3999
          rw [if_neg (fun e => by have := hcl 34 e 21 (by decide); rw [hL] at this; cases this), if_neg (by rw [hL]; decide), if_pos (hA 5 (by decide))]
        have e2 : rLD2R pb sb PC C mp ps j cj i c cz src ib db tl nm nl bp bl be eb ll TR xr lr o0 o1 loc B1_1 B1 nd3 nd4 nd5 nd6 L9 α 11999 = row (nd3) 23 #[.pointer (some ⟨pb, 0, none⟩)] := rfl
        have e3 : rLD2R pb sb PC C mp ps j cj i c cz src ib db tl nm nl bp bl be eb ll TR xr lr o0 o1 loc B1_1 B1 nd3 nd4 nd5 nd6 L9 α 12999 = row (nd4) 32 #[.int .i32 ll] := rfl
        have e4 : rLD2R pb sb PC C mp ps j cj i c cz src ib db tl nm nl bp bl be eb ll TR xr lr o0 o1 loc B1_1 B1 nd3 nd4 nd5 nd6 L9 α 14999 = row (nd6) 55 #[.pointer (some ⟨ib, 0, none⟩)] := rfl
        have e5 : rLD2R pb sb PC C mp ps j cj i c cz src ib db tl nm nl bp bl be eb ll TR xr lr o0 o1 loc B1_1 B1 nd3 nd4 nd5 nd6 L9 α 10999 = row (ib) 214 #[.int .u32 src, .int .u32 (i : Int), .bool false, .bool false, .bool false] := rfl
        have hM : ∀ i, i ∈ [2999, 3999, 11999, 12999, 14999, 10999] → act rLD2Cnt 15 L9 i := by
          intro i hi
          simp only [List.mem_cons, List.not_mem_nil, or_false] at hi
          rcases hi with rfl | rfl | rfl | rfl | rfl | rfl
          · exact act_base 2999 rfl
          · exact act_base 3999 rfl
          · exact act_base 11999 rfl
          · exact act_base 12999 rfl
          · exact act_base 14999 rfl
          · exact act_base 10999 rfl
        have hP : Own w0 u9 [row (pb) 207 PC, row (sb) 223 (bumped C i c), row (nd3) 23 #[.pointer (some ⟨pb, 0, none⟩)], row (nd4) 32 #[.int .i32 ll], row (nd6) 55 #[.pointer (some ⟨ib, 0, none⟩)], row (ib) 214 #[.int .u32 src, .int .u32 (i : Int), .bool false, .bool false, .bool false]] _ := (hG.pick [2999, 3999, 11999, 12999, 14999, 10999] (by decide) hM).conv (by
          show [rLD2R pb sb PC C mp ps j cj i c cz src ib db tl nm nl bp bl be eb ll TR xr lr o0 o1 loc B1_1 B1 nd3 nd4 nd5 nd6 L9 α 2999, rLD2R pb sb PC C mp ps j cj i c cz src ib db tl nm nl bp bl be eb ll TR xr lr o0 o1 loc B1_1 B1 nd3 nd4 nd5 nd6 L9 α 3999, rLD2R pb sb PC C mp ps j cj i c cz src ib db tl nm nl bp bl be eb ll TR xr lr o0 o1 loc B1_1 B1 nd3 nd4 nd5 nd6 L9 α 11999, rLD2R pb sb PC C mp ps j cj i c cz src ib db tl nm nl bp bl be eb ll TR xr lr o0 o1 loc B1_1 B1 nd3 nd4 nd5 nd6 L9 α 12999, rLD2R pb sb PC C mp ps j cj i c cz src ib db tl nm nl bp bl be eb ll TR xr lr o0 o1 loc B1_1 B1 nd3 nd4 nd5 nd6 L9 α 14999, rLD2R pb sb PC C mp ps j cj i c cz src ib db tl nm nl bp bl be eb ll TR xr lr o0 o1 loc B1_1 B1 nd3 nd4 nd5 nd6 L9 α 10999] = _
          rw [e0, e1, e2, e3, e4, e5])
        clear e0 e1 e2 e3 e4 e5 hM
        refine Calls.mono (capGet pb sb n cap PC (bumped C i c) i cz src ib ll nd3 nd4 nd6 _ _ _ hP hR hn hi hc2 hcm2) ?_
        rintro e9 u1 ⟨b0, rfl, hQ⟩
        obtain ⟨α', hα'⟩ : ∃ α' : Rega.Atoms, α' = (fun j => if j = 21 then b0 else α j) := ⟨_, rfl⟩
        have f0 : rLD2R pb sb PC C mp ps j cj i c cz src ib db tl nm nl bp bl be eb ll TR xr lr o0 o1 loc B1_1 B1 nd3 nd4 nd5 nd6 (Rega.ran L9 21) α' 2999 = row (pb) 207 PC := rfl
        have f1 : rLD2R pb sb PC C mp ps j cj i c cz src ib db tl nm nl bp bl be eb ll TR xr lr o0 o1 loc B1_1 B1 nd3 nd4 nd5 nd6 (Rega.ran L9 21) α' 3999 = row (sb) 223 (bumped (bumped C i c) i cz) := by
          show rLD2T3999 pb sb PC C mp ps j cj i c cz src ib db tl nm nl bp bl be eb ll TR xr lr o0 o1 loc B1_1 B1 nd3 nd4 nd5 nd6 (Rega.ran L9 21) α' = _
          unfold rLD2T3999
          rw [if_neg (fun e => (fun e => by have := hcl 34 e 21 (by decide); rw [hL] at this; cases this) ((ran_ne (by decide)).symm.trans e)), if_pos (show Rega.ran L9 21 21 = true from rfl)]
        have f2 : rLD2R pb sb PC C mp ps j cj i c cz src ib db tl nm nl bp bl be eb ll TR xr lr o0 o1 loc B1_1 B1 nd3 nd4 nd5 nd6 (Rega.ran L9 21) α' 11999 = row (nd3) 23 #[.pointer (some ⟨pb, 0, none⟩)] := rfl
        have f3 : rLD2R pb sb PC C mp ps j cj i c cz src ib db tl nm nl bp bl be eb ll TR xr lr o0 o1 loc B1_1 B1 nd3 nd4 nd5 nd6 (Rega.ran L9 21) α' 12999 = row (nd4) 32 #[.int .i32 ll] := rfl
        have f4 : rLD2R pb sb PC C mp ps j cj i c cz src ib db tl nm nl bp bl be eb ll TR xr lr o0 o1 loc B1_1 B1 nd3 nd4 nd5 nd6 (Rega.ran L9 21) α' 14999 = row (nd6) 55 #[.pointer (some ⟨ib, 0, none⟩)] := rfl
        have f5 : rLD2R pb sb PC C mp ps j cj i c cz src ib db tl nm nl bp bl be eb ll TR xr lr o0 o1 loc B1_1 B1 nd3 nd4 nd5 nd6 (Rega.ran L9 21) α' 10999 = row (ib) 214 #[.int .u32 src, .int .u32 (i : Int), .bool false, .bool false, .bool false] := rfl
        have f6 : rLD2R pb sb PC C mp ps j cj i c cz src ib db tl nm nl bp bl be eb ll TR xr lr o0 o1 loc B1_1 B1 nd3 nd4 nd5 nd6 (Rega.ran L9 21) α' 21 = row (α' 21) 214 #[.int .u32 src, .int .u32 (i : Int), .bool false, .bool false, .bool false] := rfl
        have hα : ∀ j, j % 1000 ≠ 21 → α' j = α j := fun j hj => by rw [hα']; simp only []; rw [if_neg (by omega)]
        have hb0 : α' 21 = b0 := by rw [hα']; rfl
        skip
        refine hK _ α' _ hα ?_ (step_call (rLD2_st pb sb PC C mp ps j cj i c cz src ib db tl nm nl bp bl be eb ll TR xr lr o0 o1 loc B1_1 B1 nd3 nd4 nd5 nd6) hL hcl hα [2999, 3999, 11999, 12999, 14999, 10999] [2999, 3999, 11999, 12999, 14999, 10999, 21] (by decide) (by decide) (by decide) (M := _) ?_ hG hQ)
        · show _ = (.agg #[.iface 55 (.pointer (some ⟨α' 21, 0, none⟩)), .int .i32 ll] : Value)
          simp only [hb0]
        · show [rLD2R pb sb PC C mp ps j cj i c cz src ib db tl nm nl bp bl be eb ll TR xr lr o0 o1 loc B1_1 B1 nd3 nd4 nd5 nd6 (Rega.ran L9 21) α' 2999, rLD2R pb sb PC C mp ps j cj i c cz src ib db tl nm nl bp bl be eb ll TR xr lr o0 o1 loc B1_1 B1 nd3 nd4 nd5 nd6 (Rega.ran L9 21) α' 3999, rLD2R pb sb PC C mp ps j cj i c cz src ib db tl nm nl bp bl be eb ll TR xr lr o0 o1 loc B1_1 B1 nd3 nd4 nd5 nd6 (Rega.ran L9 21) α' 11999, rLD2R pb sb PC C mp ps j cj i c cz src ib db tl nm nl bp bl be eb ll TR xr lr o0 o1 loc B1_1 B1 nd3 nd4 nd5 nd6 (Rega.ran L9 21) α' 12999, rLD2R pb sb PC C mp ps j cj i c cz src ib db tl nm nl bp bl be eb ll TR xr lr o0 o1 loc B1_1 B1 nd3 nd4 nd5 nd6 (Rega.ran L9 21) α' 14999, rLD2R pb sb PC C mp ps j cj i c cz src ib db tl nm nl bp bl be eb ll TR xr lr o0 o1 loc B1_1 B1 nd3 nd4 nd5 nd6 (Rega.ran L9 21) α' 10999, rLD2R pb sb PC C mp ps j cj i c cz src ib db tl nm nl bp bl be eb ll TR xr lr o0 o1 loc B1_1 B1 nd3 nd4 nd5 nd6 (Rega.ran L9 21) α' 21] = _
          rw [f0, f1, f2, f3, f4, f5, f6]
          simp only [hb0]
      · intro L9 α a9 u9 K9 hL hcl hA hG hS h0 hK
        replace hL : L9 22 = false := hL
        have q7 : a9.tmps[7]? = some (.pointer (some ⟨db, 0, none⟩)) := (h0 7 (by kernel_rfl)).trans rfl
        have s7 := Rega.eval_of q7
        go_simp
        exact hK _ α _ (fun _ _ => rfl) rfl (step_same (rLD2_st pb sb PC C mp ps j cj i c cz src ib db tl nm nl bp bl be eb ll TR xr lr o0 o1 loc B1_1 B1 nd3 nd4 nd5 nd6) hL hcl rfl rfl hG)
      · intro L9 α a9 u9 K9 hL hcl hA hG hS h0 hK
        replace hL : L9 23 = false := hL
        have q59 : a9.tmps[59]? = some (.pointer (some ⟨db, 0, none⟩)) := hS 22 59 (by decide) rfl (by show 59 < 152; decide)
        have s59 := Rega.eval_of q59
        go_simp
        exact hK _ α _ (fun _ _ => rfl) rfl (step_same (rLD2_st pb sb PC C mp ps j cj i c cz src ib db tl nm nl bp bl be eb ll TR xr lr o0 o1 loc B1_1 B1 nd3 nd4 nd5 nd6) hL hcl rfl rfl hG)
      · intro L9 α a9 u9 K9 hL hcl hA hG hS h0 hK
        replace hL : L9 24 = false := hL
        have q60 : a9.tmps[60]? = some (.pointer (some ⟨db, 0, none⟩)) := hS 23 60 (by decide) rfl (by show 60 < 152; decide)
        have s60 := Rega.eval_of q60
        go_simp
        exact hK _ α _ (fun _ _ => rfl) rfl (step_same (rLD2_st pb sb PC C mp ps j cj i c cz src ib db tl nm nl bp bl be eb ll TR xr lr o0 o1 loc B1_1 B1 nd3 nd4 nd5 nd6) hL hcl rfl rfl hG)
      · intro L9 α a9 u9 K9 hL hcl hA hG hS h0 hK
        replace hL : L9 25 = false := hL
        have q61 : a9.tmps[61]? = some (.pointer (some ⟨db, 2, none⟩)) := hS 24 61 (by decide) rfl (by show 61 < 152; decide)
        have s61 := Rega.eval_of q61
        have e0 : rLD2R pb sb PC C mp ps j cj i c cz src ib db tl nm nl bp bl be eb ll TR xr lr o0 o1 loc B1_1 B1 nd3 nd4 nd5 nd6 L9 α 9999 = row (db) 85 #[.iface 55 (.pointer (some ⟨ib, 0, none⟩)), .int .i32 tl, .string nm, .int .i32 nl, .int .u8 0, .bool false, .bool false, .bool false] := rfl
        have hr := hG.rowAt 9999 (act_base 9999 rfl) e0
        have c0 : u9.cell? ⟨db, 2, none⟩ = some (.string nm) := hr.cell rfl
        clear hr e0
        go_simp
        exact hK _ α _ (fun _ _ => rfl) rfl (step_same (rLD2_st pb sb PC C mp ps j cj i c cz src ib db tl nm nl bp bl be eb ll TR xr lr o0 o1 loc B1_1 B1 nd3 nd4 nd5 nd6) hL hcl rfl rfl hG)
      · intro L9 α a9 u9 K9 hL hcl hA hG hS h0 hK
        replace hL : L9 26 = false := hL
        have q7 : a9.tmps[7]? = some (.pointer (some ⟨db, 0, none⟩)) := (h0 7 (by kernel_rfl)).trans rfl
        have s7 := Rega.eval_of q7
        go_simp
        exact hK _ α _ (fun _ _ => rfl) rfl (step_same (rLD2_st pb sb PC C mp ps j cj i c cz src ib db tl nm nl bp bl be eb ll TR xr lr o0 o1 loc B1_1 B1 nd3 nd4 nd5 nd6) hL hcl rfl rfl hG)
      · intro L9 α a9 u9 K9 hL hcl hA hG hS h0 hK
        replace hL : L9 27 = false := hL
        have q63 : a9.tmps[63]? = some (.pointer (some ⟨db, 0, none⟩)) := hS 26 63 (by decide) rfl (by show 63 < 152; decide)
        have s63 := Rega.eval_of q63
        go_simp
        exact hK _ α _ (fun _ _ => rfl) rfl (step_same (rLD2_st pb sb PC C mp ps j cj i c cz src ib db tl nm nl bp bl be eb ll TR xr lr o0 o1 loc B1_1 B1 nd3 nd4 nd5 nd6) hL hcl rfl rfl hG)
      · intro L9 α a9 u9 K9 hL hcl hA hG hS h0 hK
        replace hL : L9 28 = false := hL
        have q64 : a9.tmps[64]? = some (.pointer (some ⟨db, 0, none⟩)) := hS 27 64 (by decide) rfl (by show 64 < 152; decide)
        have s64 := Rega.eval_of q64
        go_simp
        exact hK _ α _ (fun _ _ => rfl) rfl (step_same (rLD2_st pb sb PC C mp ps j cj i c cz src ib db tl nm nl bp bl be eb ll TR xr lr o0 o1 loc B1_1 B1 nd3 nd4 nd5 nd6) hL hcl rfl rfl hG)
      · intro L9 α a9 u9 K9 hL hcl hA hG hS h0 hK
        replace hL : L9 29 = false := hL
        have q65 : a9.tmps[65]? = some (.pointer (some ⟨db, 3, none⟩)) := hS 28 65 (by decide) rfl (by show 65 < 152; decide)
        have s65 := Rega.eval_of q65
        have e0 : rLD2R pb sb PC C mp ps j cj i c cz src ib db tl nm nl bp bl be eb ll TR xr lr o0 o1 loc B1_1 B1 nd3 nd4 nd5 nd6 L9 α 9999 = row (db) 85 #[.iface 55 (.pointer (some ⟨ib, 0, none⟩)), .int .i32 tl, .string nm, .int .i32 nl, .int .u8 0, .bool false, .bool false, .bool false] := rfl
        have hr := hG.rowAt 9999 (act_base 9999 rfl) e0
        have c0 : u9.cell? ⟨db, 3, none⟩ = some (.int .i32 nl) := hr.cell rfl
        clear hr e0
        go_simp
        exact hK _ α _ (fun _ _ => rfl) rfl (step_same (rLD2_st pb sb PC C mp ps j cj i c cz src ib db tl nm nl bp bl be eb ll TR xr lr o0 o1 loc B1_1 B1 nd3 nd4 nd5 nd6) hL hcl rfl rfl hG)
      · intro L9 α a9 u9 K9 hL hcl hA hG hS h0 hK
        replace hL : L9 30 = false := hL
        have q58 : a9.tmps[58]? = some (.agg #[.iface 55 (.pointer (some ⟨α 21, 0, none⟩)), .int .i32 ll]) := hS 21 58 (by decide) rfl (by show 58 < 152; decide)
        have s58 := Rega.eval_of q58
        have q62 : a9.tmps[62]? = some (.string nm) := hS 25 62 (by decide) rfl (by show 62 < 152; decide)
        have s62 := Rega.eval_of q62
        have q66 : a9.tmps[66]? = some (.agg #[.int .i32 nl]) := hS 29 66 (by decide) rfl (by show 66 < 152; decide)
        have s66 := Rega.eval_of q66
        go_simp
        exact hK _ α _ (fun _ _ => rfl) rfl (step_same (rLD2_st pb sb PC C mp ps j cj i c cz src ib db tl nm nl bp bl be eb ll TR xr lr o0 o1 loc B1_1 B1 nd3 nd4 nd5 nd6) hL hcl rfl rfl hG)
      · intro L9 α a9 u9 K9 hL hcl hA hG hS h0 hK
        replace hL : L9 31 = false := hL
        have q67 : a9.tmps[67]? = some (.agg #[.iface 55 (.pointer (some ⟨α 21, 0, none⟩)), .int .i32 ll, .string nm, .int .i32 nl, .int .u8 0, .bool false, .bool false, .bool false]) := hS 30 67 (by decide) rfl (by show 67 < 152; decide)
        have s67 := Rega.eval_of q67
        go_simp
        exact hK _ (fun j => if j = 31 then u9.heap.size else α j) _ (fun j hj => if_neg (fun e => hj (by rw [e]))) rfl (step_alloc (rLD2_st pb sb PC C mp ps j cj i c cz src ib db tl nm nl bp bl be eb ll TR xr lr o0 o1 loc B1_1 B1 nd3 nd4 nd5 nd6) hL hcl rfl rfl (by decide) _ rfl hG)
      · intro L9 α a9 u9 K9 hL hcl hA hG hS h0 hK
        replace hL : L9 32 = false := hL
        have q68 : a9.tmps[68]? = some (.pointer (some ⟨α 31, 0, none⟩)) := hS 31 68 (by decide) rfl (by show 68 < 152; decide)
        have s68 := Rega.eval_of q68
        go_simp
        exact hK _ α _ (fun _ _ => rfl) rfl (step_same (rLD2_st pb sb PC C mp ps j cj i c cz src ib db tl nm nl bp bl be eb ll TR xr lr o0 o1 loc B1_1 B1 nd3 nd4 nd5 nd6) hL hcl rfl rfl hG)
      · intro L9 α a9 u9 K9 hL hcl hA hG hS h0 hK
        replace hL : L9 33 = false := hL
        have q56 : a9.tmps[56]? = some (.agg #[.int .i32 ll]) := hS 19 56 (by decide) rfl (by show 56 < 152; decide)
        have s56 := Rega.eval_of q56
        have q69 : a9.tmps[69]? = some (.iface 81 (.pointer (some ⟨α 31, 0, none⟩))) := hS 32 69 (by decide) rfl (by show 69 < 152; decide)
        have s69 := Rega.eval_of q69
        go_simp
        exact hK _ α _ (fun _ _ => rfl) rfl (step_same (rLD2_st pb sb PC C mp ps j cj i c cz src ib db tl nm nl bp bl be eb ll TR xr lr o0 o1 loc B1_1 B1 nd3 nd4 nd5 nd6) hL hcl rfl rfl hG)
      · intro L9 α a9 u9 K9 hL hcl hA hG hS h0 hK
        replace hL : L9 34 = false := hL
        have q38 : a9.tmps[38]? = some (.func (Fn.func 48) #[] #[.pointer (some ⟨bp, 0, none⟩), .pointer (some ⟨bl, 0, none⟩), .pointer (some ⟨be, 0, none⟩)]) := hS 1 38 (by decide) rfl (by show 38 < 152; decide)
        have s38 := Rega.eval_of q38
        have q54 : a9.tmps[54]? = some (.agg #[.iface 81 (.pointer (some ⟨α 15, 0, none⟩)), .int .i32 ll]) := hS 17 54 (by decide) rfl (by show 54 < 152; decide)
        have s54 := Rega.eval_of q54
        have q70 : a9.tmps[70]? = some (.agg #[.iface 81 (.pointer (some ⟨α 31, 0, none⟩)), .int .i32 ll]) := hS 33 70 (by decide) rfl (by show 70 < 152; decide)
        have s70 := Rega.eval_of q70
        go_simp
        have e0 : rLD2R pb sb PC C mp ps j cj i c cz src ib db tl nm nl bp bl be eb ll TR xr lr o0 o1 loc B1_1 B1 nd3 nd4 nd5 nd6 L9 α 2999 = row (pb) 207 PC := rfl
        have e1 : rLD2R pb sb PC C mp ps j cj i c cz src ib db tl nm nl bp bl be eb ll TR xr lr o0 o1 loc B1_1 B1 nd3 nd4 nd5 nd6 L9 α 3999 = row (sb) 223 (bumped (bumped C i c) i cz) := by
          show rLD2T3999 pb sb PC C mp ps j cj i c cz src ib db tl nm nl bp bl be eb ll TR xr lr o0 o1 loc B1_1 B1 nd3 nd4 nd5 nd6 L9 α = _
          unfold rLD2T3999
          rw [if_neg (by rw [hL]; decide), if_pos (hA 21 (by decide))]
        have e2 : rLD2R pb sb PC C mp ps j cj i c cz src ib db tl nm nl bp bl be eb ll TR xr lr o0 o1 loc B1_1 B1 nd3 nd4 nd5 nd6 L9 α 4999 = (mp, .map #[⟨.string ⟨#[95, 95, 112, 111, 119]⟩, .agg #[.int .i32 0, .int .u32 ps, .int .u32 (j : Int)], 0⟩] 1) := rfl
        have e3 : rLD2R pb sb PC C mp ps j cj i c cz src ib db tl nm nl bp bl be eb ll TR xr lr o0 o1 loc B1_1 B1 nd3 nd4 nd5 nd6 L9 α 5999 = row (bp) 23 #[.pointer (some ⟨pb, 0, none⟩)] := rfl
        have e4 : rLD2R pb sb PC C mp ps j cj i c cz src ib db tl nm nl bp bl be eb ll TR xr lr o0 o1 loc B1_1 B1 nd3 nd4 nd5 nd6 L9 α 6999 = row (bl) 32 #[.int .i32 loc] := rfl
        have e5 : rLD2R pb sb PC C mp ps j cj i c cz src ib db tl nm nl bp bl be eb ll TR xr lr o0 o1 loc B1_1 B1 nd3 nd4 nd5 nd6 L9 α 7999 = row (be) 41 #[.pointer (some ⟨eb, 0, none⟩)] := rfl
        have e6 : rLD2R pb sb PC C mp ps j cj i c cz src ib db tl nm nl bp bl be eb ll TR xr lr o0 o1 loc B1_1 B1 nd3 nd4 nd5 nd6 L9 α 8999 = row (eb) 47 #[.iface 81 (.pointer (some ⟨db, 0, none⟩)), .int .i32 ll, .iface TR (.pointer (some ⟨xr, 0, none⟩)), .int .i32 lr, .int .u8 o0, .bool o1] := rfl
        have hM : ∀ i, i ∈ [2999, 3999, 4999, 5999, 6999, 7999, 8999] → act rLD2Cnt 15 L9 i := by
          intro i hi
          simp only [List.mem_cons, List.not_mem_nil, or_false] at hi
          rcases hi with rfl | rfl | rfl | rfl | rfl | rfl | rfl
          · exact act_base 2999 rfl
          · exact act_base 3999 rfl
          · exact act_base 4999 rfl
          · exact act_base 5999 rfl
          · exact act_base 6999 rfl
          · exact act_base 7999 rfl
          · exact act_base 8999 rfl
        have hP : Own w0 u9 [row (pb) 207 PC, row (sb) 223 (bumped (bumped C i c) i cz), (mp, .map #[⟨.string ⟨#[95, 95, 112, 111, 119]⟩, .agg #[.int .i32 0, .int .u32 ps, .int .u32 (j : Int)], 0⟩] 1), row (bp) 23 #[.pointer (some ⟨pb, 0, none⟩)], row (bl) 32 #[.int .i32 loc], row (be) 41 #[.pointer (some ⟨eb, 0, none⟩)], row (eb) 47 #[.iface 81 (.pointer (some ⟨db, 0, none⟩)), .int .i32 ll, .iface TR (.pointer (some ⟨xr, 0, none⟩)), .int .i32 lr, .int .u8 o0, .bool o1]] _ := (hG.pick [2999, 3999, 4999, 5999, 6999, 7999, 8999] (by decide) hM).conv (by
          show [rLD2R pb sb PC C mp ps j cj i c cz src ib db tl nm nl bp bl be eb ll TR xr lr o0 o1 loc B1_1 B1 nd3 nd4 nd5 nd6 L9 α 2999, rLD2R pb sb PC C mp ps j cj i c cz src ib db tl nm nl bp bl be eb ll TR xr lr o0 o1 loc B1_1 B1 nd3 nd4 nd5 nd6 L9 α 3999, rLD2R pb sb PC C mp ps j cj i c cz src ib db tl nm nl bp bl be eb ll TR xr lr o0 o1 loc B1_1 B1 nd3 nd4 nd5 nd6 L9 α 4999, rLD2R pb sb PC C mp ps j cj i c cz src ib db tl nm nl bp bl be eb ll TR xr lr o0 o1 loc B1_1 B1 nd3 nd4 nd5 nd6 L9 α 5999, rLD2R pb sb PC C mp ps j cj i c cz src ib db tl nm nl bp bl be eb ll TR xr lr o0 o1 loc B1_1 B1 nd3 nd4 nd5 nd6 L9 α 6999, rLD2R pb sb PC C mp ps j cj i c cz src ib db tl nm nl bp bl be eb ll TR xr lr o0 o1 loc B1_1 B1 nd3 nd4 nd5 nd6 L9 α 7999, rLD2R pb sb PC C mp ps j cj i c cz src ib db tl nm nl bp bl be eb ll TR xr lr o0 o1 loc B1_1 B1 nd3 nd4 nd5 nd6 L9 α 8999] = _
          rw [e0, e1, e2, e3, e4, e5, e6])
        clear e0 e1 e2 e3 e4 e5 e6 hM
        refine Calls.mono (powFn pb sb n cap PC (bumped (bumped C i c) i cz) mp ps j cj bp bl be eb 81 db ll TR xr lr o0 o1 loc 81 (α 15) ll 81 (α 31) ll _ _ _ hP hR hn hj hcj hcjm hm) ?_
        rintro e9 u1 ⟨b0, b1, b2, b3, rfl, hQ⟩
        obtain ⟨α', hα'⟩ : ∃ α' : Rega.Atoms, α' = (fun j => if j = 34 then b0 else if j = 1034 then b1 else if j = 2034 then b2 else if j = 3034 then b3 else α j) := ⟨_, rfl⟩
        have f0 : rLD2R pb sb PC C mp ps j cj i c cz src ib db tl nm nl bp bl be eb ll TR xr lr o0 o1 loc B1_1 B1 nd3 nd4 nd5 nd6 (Rega.ran L9 34) α' 2999 = row (pb) 207 PC := rfl
        have f1 : rLD2R pb sb PC C mp ps j cj i c cz src ib db tl nm nl bp bl be eb ll TR xr lr o0 o1 loc B1_1 B1 nd3 nd4 nd5 nd6 (Rega.ran L9 34) α' 3999 = row (sb) 223 (bumped (bumped (bumped C i c) i cz) j cj) := by
          show rLD2T3999 pb sb PC C mp ps j cj i c cz src ib db tl nm nl bp bl be eb ll TR xr lr o0 o1 loc B1_1 B1 nd3 nd4 nd5 nd6 (Rega.ran L9 34) α' = _
          unfold rLD2T3999
          rw [if_pos (show Rega.ran L9 34 34 = true from rfl)]
        have f2 : rLD2R pb sb PC C mp ps j cj i c cz src ib db tl nm nl bp bl be eb ll TR xr lr o0 o1 loc B1_1 B1 nd3 nd4 nd5 nd6 (Rega.ran L9 34) α' 4999 = (mp, .map #[⟨.string ⟨#[95, 95, 112, 111, 119]⟩, .agg #[.int .i32 0, .int .u32 ps, .int .u32 (j : Int)], 0⟩] 1) := rfl
        have f3 : rLD2R pb sb PC C mp ps j cj i c cz src ib db tl nm nl bp bl be eb ll TR xr lr o0 o1 loc B1_1 B1 nd3 nd4 nd5 nd6 (Rega.ran L9 34) α' 5999 = row (bp) 23 #[.pointer (some ⟨pb, 0, none⟩)] := rfl
        have f4 : rLD2R pb sb PC C mp ps j cj i c cz src ib db tl nm nl bp bl be eb ll TR xr lr o0 o1 loc B1_1 B1 nd3 nd4 nd5 nd6 (Rega.ran L9 34) α' 6999 = row (bl) 32 #[.int .i32 loc] := rfl
        have f5 : rLD2R pb sb PC C mp ps j cj i c cz src ib db tl nm nl bp bl be eb ll TR xr lr o0 o1 loc B1_1 B1 nd3 nd4 nd5 nd6 (Rega.ran L9 34) α' 7999 = row (be) 41 #[.pointer (some ⟨eb, 0, none⟩)] := rfl
        have f6 : rLD2R pb sb PC C mp ps j cj i c cz src ib db tl nm nl bp bl be eb ll TR xr lr o0 o1 loc B1_1 B1 nd3 nd4 nd5 nd6 (Rega.ran L9 34) α' 8999 = row (eb) 47 #[.iface 81 (.pointer (some ⟨db, 0, none⟩)), .int .i32 ll, .iface TR (.pointer (some ⟨xr, 0, none⟩)), .int .i32 lr, .int .u8 o0, .bool o1] := rfl
        have f7 : rLD2R pb sb PC C mp ps j cj i c cz src ib db tl nm nl bp bl be eb ll TR xr lr o0 o1 loc B1_1 B1 nd3 nd4 nd5 nd6 (Rega.ran L9 34) α' 34 = row (α' 34) 47 #[.iface 81 (.pointer (some ⟨α' 15, 0, none⟩)), .int .i32 ll, .iface 72 (.pointer (some ⟨α' 1034, 0, none⟩)), .int .i32 loc, .int .u8 37, .bool false] := rfl
        have f8 : rLD2R pb sb PC C mp ps j cj i c cz src ib db tl nm nl bp bl be eb ll TR xr lr o0 o1 loc B1_1 B1 nd3 nd4 nd5 nd6 (Rega.ran L9 34) α' 1034 = row (α' 1034) 77 #[.iface 55 (.pointer (some ⟨α' 2034, 0, none⟩)), .int .i32 loc, .slice (some ⟨α' 3034, 0, none⟩) 2 2, .int .i32 0, .int .u8 0, .int .u8 0, .bool false, .bool false] := rfl
        have f9 : rLD2R pb sb PC C mp ps j cj i c cz src ib db tl nm nl bp bl be eb ll TR xr lr o0 o1 loc B1_1 B1 nd3 nd4 nd5 nd6 (Rega.ran L9 34) α' 2034 = row (α' 2034) 214 #[.int .u32 ps, .int .u32 (j : Int), .bool false, .bool false, .bool false] := rfl
        have f10 : rLD2R pb sb PC C mp ps j cj i c cz src ib db tl nm nl bp bl be eb ll TR xr lr o0 o1 loc B1_1 B1 nd3 nd4 nd5 nd6 (Rega.ran L9 34) α' 3034 = row (α' 3034) 34 #[.iface 81 (.pointer (some ⟨α' 31, 0, none⟩)), .int .i32 ll, .iface TR (.pointer (some ⟨xr, 0, none⟩)), .int .i32 lr] := rfl
        have hα : ∀ j, j % 1000 ≠ 34 → α' j = α j := fun j hj => by rw [hα']; simp only []; rw [if_neg (by omega), if_neg (by omega), if_neg (by omega), if_neg (by omega)]
        have hb0 : α' 34 = b0 := by rw [hα']; rfl
        have hb1 : α' 1034 = b1 := by rw [hα']; rfl
        have hb2 : α' 2034 = b2 := by rw [hα']; rfl
        have hb3 : α' 3034 = b3 := by rw [hα']; rfl
        have ha15 : α' 15 = α 15 := hα 15 (by decide)
        have ha31 : α' 31 = α 31 := hα 31 (by decide)
        skip
        refine hK _ α' _ hα ?_ (step_call (rLD2_st pb sb PC C mp ps j cj i c cz src ib db tl nm nl bp bl be eb ll TR xr lr o0 o1 loc B1_1 B1 nd3 nd4 nd5 nd6) hL hcl hα [2999, 3999, 4999, 5999, 6999, 7999, 8999] [2999, 3999, 4999, 5999, 6999, 7999, 8999, 34, 1034, 2034, 3034] (by decide) (by decide) (by decide) (M := _) ?_ hG hQ)
        · show _ = (.agg #[.iface 41 (.pointer (some ⟨α' 34, 0, none⟩)), .int .i32 ll] : Value)
          simp only [hb0]
        · show [rLD2R pb sb PC C mp ps j cj i c cz src ib db tl nm nl bp bl be eb ll TR xr lr o0 o1 loc B1_1 B1 nd3 nd4 nd5 nd6 (Rega.ran L9 34) α' 2999, rLD2R pb sb PC C mp ps j cj i c cz src ib db tl nm nl bp bl be eb ll TR xr lr o0 o1 loc B1_1 B1 nd3 nd4 nd5 nd6 (Rega.ran L9 34) α' 3999, rLD2R pb sb PC C mp ps j cj i c cz src ib db tl nm nl bp bl be eb ll TR xr lr o0 o1 loc B1_1 B1 nd3 nd4 nd5 nd6 (Rega.ran L9 34) α' 4999, rLD2R pb sb PC C mp ps j cj i c cz src ib db tl nm nl bp bl be eb ll TR xr lr o0 o1 loc B1_1 B1 nd3 nd4 nd5 nd6 (Rega.ran L9 34) α' 5999, rLD2R pb sb PC C mp ps j cj i c cz src ib db tl nm nl bp bl be eb ll TR xr lr o0 o1 loc B1_1 B1 nd3 nd4 nd5 nd6 (Rega.ran L9 34) α' 6999, rLD2R pb sb PC C mp ps j cj i c cz src ib db tl nm nl bp bl be eb ll TR xr lr o0 o1 loc B1_1 B1 nd3 nd4 nd5 nd6 (Rega.ran L9 34) α' 7999, rLD2R pb sb PC C mp ps j cj i c cz src ib db tl nm nl bp bl be eb ll TR xr lr o0 o1 loc B1_1 B1 nd3 nd4 nd5 nd6 (Rega.ran L9 34) α' 8999, rLD2R pb sb PC C mp ps j cj i c cz src ib db tl nm nl bp bl be eb ll TR xr lr o0 o1 loc B1_1 B1 nd3 nd4 nd5 nd6 (Rega.ran L9 34) α' 34, rLD2R pb sb PC C mp ps j cj i c cz src ib db tl nm nl bp bl be eb ll TR xr lr o0 o1 loc B1_1 B1 nd3 nd4 nd5 nd6 (Rega.ran L9 34) α' 1034, rLD2R pb sb PC C mp ps j cj i c cz src ib db tl nm nl bp bl be eb ll TR xr lr o0 o1 loc B1_1 B1 nd3 nd4 nd5 nd6 (Rega.ran L9 34) α' 2034, rLD2R pb sb PC C mp ps j cj i c cz src ib db tl nm nl bp bl be eb ll TR xr lr o0 o1 loc B1_1 B1 nd3 nd4 nd5 nd6 (Rega.ran L9 34) α' 3034] = _
          rw [f0, f1, f2, f3, f4, f5, f6, f7, f8, f9, f10]
          simp only [hb0, hb1, hb2, hb3, ha15, ha31]
      · intro L9 α a9 u9 K9 hL hcl hA hG hS h0 hK
        replace hL : L9 35 = false := hL
        have q37 : a9.tmps[37]? = some (.func (Fn.func 50) #[] #[.pointer (some ⟨nd5, 0, none⟩)]) := hS 0 37 (by decide) rfl (by show 37 < 152; decide)
        have s37 := Rega.eval_of q37
        have q71 : a9.tmps[71]? = some (.agg #[.iface 41 (.pointer (some ⟨α 34, 0, none⟩)), .int .i32 ll]) := hS 34 71 (by decide) rfl (by show 71 < 152; decide)
        have s71 := Rega.eval_of q71
        go_simp
        have hM : ∀ i, i ∈ [] → act rLD2Cnt 15 L9 i := by intro i hi; simp at hi
        have hP : Own w0 u9 [] _ := hG.pick [] (by decide) (by simp)
        clear hM
        refine Calls.mono (capWrap 41 (α 34) ll nd5 _ _ _ hP ) ?_
        rintro e9 u1 ⟨rfl, hQ⟩
        obtain ⟨α', hα'⟩ : ∃ α' : Rega.Atoms, α' = α := ⟨_, rfl⟩
        have hα : ∀ j, j % 1000 ≠ 35 → α' j = α j := fun j hj => by rw [hα']
        have ha34 : α' 34 = α 34 := hα 34 (by decide)
        skip
        refine hK _ α' _ hα ?_ (step_call (rLD2_st pb sb PC C mp ps j cj i c cz src ib db tl nm nl bp bl be eb ll TR xr lr o0 o1 loc B1_1 B1 nd3 nd4 nd5 nd6) hL hcl hα [] [] (by decide) (by decide) (by decide) (M := _) ?_ hG hQ)
        · show _ = (.agg #[.iface 41 (.pointer (some ⟨α' 34, 0, none⟩)), .int .i32 ll] : Value)
          simp only [ha34]
        · show [] = _
          rw []
      · intro L9 α a9 u9 K9 hL hcl hA hG hS h0 hK
        replace hL : L9 36 = false := hL
        have q6 : a9.tmps[6]? = some (.pointer (some ⟨B1_1, 0, none⟩)) := (h0 6 (by kernel_rfl)).trans rfl
        have s6 := Rega.eval_of q6
        have q72 : a9.tmps[72]? = some (.agg #[.iface 41 (.pointer (some ⟨α 34, 0, none⟩)), .int .i32 ll]) := hS 35 72 (by decide) rfl (by show 72 < 152; decide)
        have s72 := Rega.eval_of q72
        have e0 : rLD2R pb sb PC C mp ps j cj i c cz src ib db tl nm nl bp bl be eb ll TR xr lr o0 o1 loc B1_1 B1 nd3 nd4 nd5 nd6 L9 α 999 = row (B1_1) 34 #[.nilIface, .int .i32 0] := by
          show rLD2T999 pb sb PC C mp ps j cj i c cz src ib db tl nm nl bp bl be eb ll TR xr lr o0 o1 loc B1_1 B1 nd3 nd4 nd5 nd6 L9 α = _
          unfold rLD2T999
          rw [if_neg (by rw [hL]; decide)]
        have hr := hG.rowAt 999 (act_base 999 rfl) e0
        have c0 : u9.cell? ⟨B1_1, 0, none⟩ = some (.nilIface) := hr.cell rfl
        have y0 : u9.frozen? ⟨B1_1, 0, none⟩ = false := hr.free 0
        have c1 : u9.cell? ⟨B1_1, 1, none⟩ = some (.int .i32 0) := hr.cell rfl
        have y1 : u9.frozen? ⟨B1_1, 1, none⟩ = false := hr.free 1
        clear hr
        have E0 := Lib.hid e0
        clear e0
        go_simp
        have e1 : rLD2R pb sb PC C mp ps j cj i c cz src ib db tl nm nl bp bl be eb ll TR xr lr o0 o1 loc B1_1 B1 nd3 nd4 nd5 nd6 (Rega.ran L9 36) α 999 = row (B1_1) 34 #[.iface 41 (.pointer (some ⟨α 34, 0, none⟩)), .int .i32 ll] := by
          show rLD2T999 pb sb PC C mp ps j cj i c cz src ib db tl nm nl bp bl be eb ll TR xr lr o0 o1 loc B1_1 B1 nd3 nd4 nd5 nd6 (Rega.ran L9 36) α = _
          unfold rLD2T999
          rw [if_pos (show Rega.ran L9 36 36 = true from rfl)]
        exact hK _ α _ (fun _ _ => rfl) rfl (step_sets (rLD2_st pb sb PC C mp ps j cj i c cz src ib db tl nm nl bp bl be eb ll TR xr lr o0 o1 loc B1_1 B1 nd3 nd4 nd5 nd6) hL hcl rfl 999 rfl (act_base 999 rfl) E0.out 0 [.iface 41 (.pointer (some ⟨α 34, 0, none⟩)), .int .i32 ll] (e1.trans rfl) hG)
    · intro α u hG
      have e0 : rLD2R pb sb PC C mp ps j cj i c cz src ib db tl nm nl bp bl be eb ll TR xr lr o0 o1 loc B1_1 B1 nd3 nd4 nd5 nd6 (fun k => decide (k < 37)) α 999 = row (B1_1) 34 #[.iface 41 (.pointer (some ⟨α 34, 0, none⟩)), .int .i32 ll] := by
        show rLD2T999 pb sb PC C mp ps j cj i c cz src ib db tl nm nl bp bl be eb ll TR xr lr o0 o1 loc B1_1 B1 nd3 nd4 nd5 nd6 (fun k => decide (k < 37)) α = _
        unfold rLD2T999
        rw [if_pos (by decide)]
      have e1 : rLD2R pb sb PC C mp ps j cj i c cz src ib db tl nm nl bp bl be eb ll TR xr lr o0 o1 loc B1_1 B1 nd3 nd4 nd5 nd6 (fun k => decide (k < 37)) α 1999 = row (B1) 34 #[.iface 81 (.pointer (some ⟨db, 0, none⟩)), .int .i32 ll] := rfl
      have e2 : rLD2R pb sb PC C mp ps j cj i c cz src ib db tl nm nl bp bl be eb ll TR xr lr o0 o1 loc B1_1 B1 nd3 nd4 nd5 nd6 (fun k => decide (k < 37)) α 2999 = row (pb) 207 PC := rfl
      have e3 : rLD2R pb sb PC C mp ps j cj i c cz src ib db tl nm nl bp bl be eb ll TR xr lr o0 o1 loc B1_1 B1 nd3 nd4 nd5 nd6 (fun k => decide (k < 37)) α 3999 = row (sb) 223 (bumped (bumped (bumped C i c) i cz) j cj) := by
        show rLD2T3999 pb sb PC C mp ps j cj i c cz src ib db tl nm nl bp bl be eb ll TR xr lr o0 o1 loc B1_1 B1 nd3 nd4 nd5 nd6 (fun k => decide (k < 37)) α = _
        unfold rLD2T3999
        rw [if_pos (by decide)]
      have e4 : rLD2R pb sb PC C mp ps j cj i c cz src ib db tl nm nl bp bl be eb ll TR xr lr o0 o1 loc B1_1 B1 nd3 nd4 nd5 nd6 (fun k => decide (k < 37)) α 4999 = (mp, .map #[⟨.string ⟨#[95, 95, 112, 111, 119]⟩, .agg #[.int .i32 0, .int .u32 ps, .int .u32 (j : Int)], 0⟩] 1) := rfl
      have e5 : rLD2R pb sb PC C mp ps j cj i c cz src ib db tl nm nl bp bl be eb ll TR xr lr o0 o1 loc B1_1 B1 nd3 nd4 nd5 nd6 (fun k => decide (k < 37)) α 5999 = row (bp) 23 #[.pointer (some ⟨pb, 0, none⟩)] := rfl
      have e6 : rLD2R pb sb PC C mp ps j cj i c cz src ib db tl nm nl bp bl be eb ll TR xr lr o0 o1 loc B1_1 B1 nd3 nd4 nd5 nd6 (fun k => decide (k < 37)) α 6999 = row (bl) 32 #[.int .i32 loc] := rfl
      have e7 : rLD2R pb sb PC C mp ps j cj i c cz src ib db tl nm nl bp bl be eb ll TR xr lr o0 o1 loc B1_1 B1 nd3 nd4 nd5 nd6 (fun k => decide (k < 37)) α 7999 = row (be) 41 #[.pointer (some ⟨eb, 0, none⟩)] := rfl
      have e8 : rLD2R pb sb PC C mp ps j cj i c cz src ib db tl nm nl bp bl be eb ll TR xr lr o0 o1 loc B1_1 B1 nd3 nd4 nd5 nd6 (fun k => decide (k < 37)) α 8999 = row (eb) 47 #[.iface 81 (.pointer (some ⟨db, 0, none⟩)), .int .i32 ll, .iface TR (.pointer (some ⟨xr, 0, none⟩)), .int .i32 lr, .int .u8 o0, .bool o1] := rfl
      have e9 : rLD2R pb sb PC C mp ps j cj i c cz src ib db tl nm nl bp bl be eb ll TR xr lr o0 o1 loc B1_1 B1 nd3 nd4 nd5 nd6 (fun k => decide (k < 37)) α 9999 = row (db) 85 #[.iface 55 (.pointer (some ⟨ib, 0, none⟩)), .int .i32 tl, .string nm, .int .i32 nl, .int .u8 0, .bool false, .bool false, .bool false] := rfl
      have e10 : rLD2R pb sb PC C mp ps j cj i c cz src ib db tl nm nl bp bl be eb ll TR xr lr o0 o1 loc B1_1 B1 nd3 nd4 nd5 nd6 (fun k => decide (k < 37)) α 10999 = row (ib) 214 #[.int .u32 src, .int .u32 (i : Int), .bool false, .bool false, .bool false] := rfl
      have e11 : rLD2R pb sb PC C mp ps j cj i c cz src ib db tl nm nl bp bl be eb ll TR xr lr o0 o1 loc B1_1 B1 nd3 nd4 nd5 nd6 (fun k => decide (k < 37)) α 11999 = row (nd3) 23 #[.pointer (some ⟨pb, 0, none⟩)] := rfl
      have e12 : rLD2R pb sb PC C mp ps j cj i c cz src ib db tl nm nl bp bl be eb ll TR xr lr o0 o1 loc B1_1 B1 nd3 nd4 nd5 nd6 (fun k => decide (k < 37)) α 12999 = row (nd4) 32 #[.int .i32 ll] := rfl
      have e13 : rLD2R pb sb PC C mp ps j cj i c cz src ib db tl nm nl bp bl be eb ll TR xr lr o0 o1 loc B1_1 B1 nd3 nd4 nd5 nd6 (fun k => decide (k < 37)) α 13999 = row (nd5) 34 #[.iface 55 (.pointer (some ⟨ib, 0, none⟩)), .int .i32 tl] := rfl
      have e14 : rLD2R pb sb PC C mp ps j cj i c cz src ib db tl nm nl bp bl be eb ll TR xr lr o0 o1 loc B1_1 B1 nd3 nd4 nd5 nd6 (fun k => decide (k < 37)) α 14999 = row (nd6) 55 #[.pointer (some ⟨ib, 0, none⟩)] := rfl
      have e15 : rLD2R pb sb PC C mp ps j cj i c cz src ib db tl nm nl bp bl be eb ll TR xr lr o0 o1 loc B1_1 B1 nd3 nd4 nd5 nd6 (fun k => decide (k < 37)) α 5 = row (α 5) 214 #[.int .u32 src, .int .u32 (i : Int), .bool false, .bool false, .bool false] := rfl
      have e16 : rLD2R pb sb PC C mp ps j cj i c cz src ib db tl nm nl bp bl be eb ll TR xr lr o0 o1 loc B1_1 B1 nd3 nd4 nd5 nd6 (fun k => decide (k < 37)) α 15 = row (α 15) 85 #[.iface 55 (.pointer (some ⟨α 5, 0, none⟩)), .int .i32 ll, .string nm, .int .i32 nl, .int .u8 0, .bool false, .bool false, .bool false] := rfl
      have e17 : rLD2R pb sb PC C mp ps j cj i c cz src ib db tl nm nl bp bl be eb ll TR xr lr o0 o1 loc B1_1 B1 nd3 nd4 nd5 nd6 (fun k => decide (k < 37)) α 21 = row (α 21) 214 #[.int .u32 src, .int .u32 (i : Int), .bool false, .bool false, .bool false] := rfl
      have e18 : rLD2R pb sb PC C mp ps j cj i c cz src ib db tl nm nl bp bl be eb ll TR xr lr o0 o1 loc B1_1 B1 nd3 nd4 nd5 nd6 (fun k => decide (k < 37)) α 31 = row (α 31) 85 #[.iface 55 (.pointer (some ⟨α 21, 0, none⟩)), .int .i32 ll, .string nm, .int .i32 nl, .int .u8 0, .bool false, .bool false, .bool false] := rfl
      have e19 : rLD2R pb sb PC C mp ps j cj i c cz src ib db tl nm nl bp bl be eb ll TR xr lr o0 o1 loc B1_1 B1 nd3 nd4 nd5 nd6 (fun k => decide (k < 37)) α 34 = row (α 34) 47 #[.iface 81 (.pointer (some ⟨α 15, 0, none⟩)), .int .i32 ll, .iface 72 (.pointer (some ⟨α 1034, 0, none⟩)), .int .i32 loc, .int .u8 37, .bool false] := rfl
      have e20 : rLD2R pb sb PC C mp ps j cj i c cz src ib db tl nm nl bp bl be eb ll TR xr lr o0 o1 loc B1_1 B1 nd3 nd4 nd5 nd6 (fun k => decide (k < 37)) α 1034 = row (α 1034) 77 #[.iface 55 (.pointer (some ⟨α 2034, 0, none⟩)), .int .i32 loc, .slice (some ⟨α 3034, 0, none⟩) 2 2, .int .i32 0, .int .u8 0, .int .u8 0, .bool false, .bool false] := rfl
      have e21 : rLD2R pb sb PC C mp ps j cj i c cz src ib db tl nm nl bp bl be eb ll TR xr lr o0 o1 loc B1_1 B1 nd3 nd4 nd5 nd6 (fun k => decide (k < 37)) α 2034 = row (α 2034) 214 #[.int .u32 ps, .int .u32 (j : Int), .bool false, .bool false, .bool false] := rfl
      have e22 : rLD2R pb sb PC C mp ps j cj i c cz src ib db tl nm nl bp bl be eb ll TR xr lr o0 o1 loc B1_1 B1 nd3 nd4 nd5 nd6 (fun k => decide (k < 37)) α 3034 = row (α 3034) 34 #[.iface 81 (.pointer (some ⟨α 31, 0, none⟩)), .int .i32 ll, .iface TR (.pointer (some ⟨xr, 0, none⟩)), .int .i32 lr] := rfl
      have hO : Own w0 u [row (B1_1) 34 #[.iface 41 (.pointer (some ⟨α 34, 0, none⟩)), .int .i32 ll], row (B1) 34 #[.iface 81 (.pointer (some ⟨db, 0, none⟩)), .int .i32 ll], row (pb) 207 PC, row (sb) 223 (bumped (bumped (bumped C i c) i cz) j cj), (mp, .map #[⟨.string ⟨#[95, 95, 112, 111, 119]⟩, .agg #[.int .i32 0, .int .u32 ps, .int .u32 (j : Int)], 0⟩] 1), row (bp) 23 #[.pointer (some ⟨pb, 0, none⟩)], row (bl) 32 #[.int .i32 loc], row (be) 41 #[.pointer (some ⟨eb, 0, none⟩)], row (eb) 47 #[.iface 81 (.pointer (some ⟨db, 0, none⟩)), .int .i32 ll, .iface TR (.pointer (some ⟨xr, 0, none⟩)), .int .i32 lr, .int .u8 o0, .bool o1], row (db) 85 #[.iface 55 (.pointer (some ⟨ib, 0, none⟩)), .int .i32 tl, .string nm, .int .i32 nl, .int .u8 0, .bool false, .bool false, .bool false], row (ib) 214 #[.int .u32 src, .int .u32 (i : Int), .bool false, .bool false, .bool false], row (nd3) 23 #[.pointer (some ⟨pb, 0, none⟩)], row (nd4) 32 #[.int .i32 ll], row (nd5) 34 #[.iface 55 (.pointer (some ⟨ib, 0, none⟩)), .int .i32 tl], row (nd6) 55 #[.pointer (some ⟨ib, 0, none⟩)], row (α 5) 214 #[.int .u32 src, .int .u32 (i : Int), .bool false, .bool false, .bool false], row (α 15) 85 #[.iface 55 (.pointer (some ⟨α 5, 0, none⟩)), .int .i32 ll, .string nm, .int .i32 nl, .int .u8 0, .bool false, .bool false, .bool false], row (α 21) 214 #[.int .u32 src, .int .u32 (i : Int), .bool false, .bool false, .bool false], row (α 31) 85 #[.iface 55 (.pointer (some ⟨α 21, 0, none⟩)), .int .i32 ll, .string nm, .int .i32 nl, .int .u8 0, .bool false, .bool false, .bool false], row (α 34) 47 #[.iface 81 (.pointer (some ⟨α 15, 0, none⟩)), .int .i32 ll, .iface 72 (.pointer (some ⟨α 1034, 0, none⟩)), .int .i32 loc, .int .u8 37, .bool false], row (α 1034) 77 #[.iface 55 (.pointer (some ⟨α 2034, 0, none⟩)), .int .i32 loc, .slice (some ⟨α 3034, 0, none⟩) 2 2, .int .i32 0, .int .u8 0, .int .u8 0, .bool false, .bool false], row (α 2034) 214 #[.int .u32 ps, .int .u32 (j : Int), .bool false, .bool false, .bool false], row (α 3034) 34 #[.iface 81 (.pointer (some ⟨α 31, 0, none⟩)), .int .i32 ll, .iface TR (.pointer (some ⟨xr, 0, none⟩)), .int .i32 lr]] X := (hG.list [999, 1999, 2999, 3999, 4999, 5999, 6999, 7999, 8999, 9999, 10999, 11999, 12999, 13999, 14999, 5, 15, 21, 31, 34, 1034, 2034, 3034] (by decide) (act_all (by decide))).conv (by
        show [rLD2R pb sb PC C mp ps j cj i c cz src ib db tl nm nl bp bl be eb ll TR xr lr o0 o1 loc B1_1 B1 nd3 nd4 nd5 nd6 (fun k => decide (k < 37)) α 999, rLD2R pb sb PC C mp ps j cj i c cz src ib db tl nm nl bp bl be eb ll TR xr lr o0 o1 loc B1_1 B1 nd3 nd4 nd5 nd6 (fun k => decide (k < 37)) α 1999, rLD2R pb sb PC C mp ps j cj i c cz src ib db tl nm nl bp bl be eb ll TR xr lr o0 o1 loc B1_1 B1 nd3 nd4 nd5 nd6 (fun k => decide (k < 37)) α 2999, rLD2R pb sb PC C mp ps j cj i c cz src ib db tl nm nl bp bl be eb ll TR xr lr o0 o1 loc B1_1 B1 nd3 nd4 nd5 nd6 (fun k => decide (k < 37)) α 3999, rLD2R pb sb PC C mp ps j cj i c cz src ib db tl nm nl bp bl be eb ll TR xr lr o0 o1 loc B1_1 B1 nd3 nd4 nd5 nd6 (fun k => decide (k < 37)) α 4999, rLD2R pb sb PC C mp ps j cj i c cz src ib db tl nm nl bp bl be eb ll TR xr lr o0 o1 loc B1_1 B1 nd3 nd4 nd5 nd6 (fun k => decide (k < 37)) α 5999, rLD2R pb sb PC C mp ps j cj i c cz src ib db tl nm nl bp bl be eb ll TR xr lr o0 o1 loc B1_1 B1 nd3 nd4 nd5 nd6 (fun k => decide (k < 37)) α 6999, rLD2R pb sb PC C mp ps j cj i c cz src ib db tl nm nl bp bl be eb ll TR xr lr o0 o1 loc B1_1 B1 nd3 nd4 nd5 nd6 (fun k => decide (k < 37)) α 7999, rLD2R pb sb PC C mp ps j cj i c cz src ib db tl nm nl bp bl be eb ll TR xr lr o0 o1 loc B1_1 B1 nd3 nd4 nd5 nd6 (fun k => decide (k < 37)) α 8999, rLD2R pb sb PC C mp ps j cj i c cz src ib db tl nm nl bp bl be eb ll TR xr lr o0 o1 loc B1_1 B1 nd3 nd4 nd5 nd6 (fun k => decide (k < 37)) α 9999, rLD2R pb sb PC C mp ps j cj i c cz src ib db tl nm nl bp bl be eb ll TR xr lr o0 o1 loc B1_1 B1 nd3 nd4 nd5 nd6 (fun k => decide (k < 37)) α 10999, rLD2R pb sb PC C mp ps j cj i c cz src ib db tl nm nl bp bl be eb ll TR xr lr o0 o1 loc B1_1 B1 nd3 nd4 nd5 nd6 (fun k => decide (k < 37)) α 11999, rLD2R pb sb PC C mp ps j cj i c cz src ib db tl nm nl bp bl be eb ll TR xr lr o0 o1 loc B1_1 B1 nd3 nd4 nd5 nd6 (fun k => decide (k < 37)) α 12999, rLD2R pb sb PC C mp ps j cj i c cz src ib db tl nm nl bp bl be eb ll TR xr lr o0 o1 loc B1_1 B1 nd3 nd4 nd5 nd6 (fun k => decide (k < 37)) α 13999, rLD2R pb sb PC C mp ps j cj i c cz src ib db tl nm nl bp bl be eb ll TR xr lr o0 o1 loc B1_1 B1 nd3 nd4 nd5 nd6 (fun k => decide (k < 37)) α 14999, rLD2R pb sb PC C mp ps j cj i c cz src ib db tl nm nl bp bl be eb ll TR xr lr o0 o1 loc B1_1 B1 nd3 nd4 nd5 nd6 (fun k => decide (k < 37)) α 5, rLD2R pb sb PC C mp ps j cj i c cz src ib db tl nm nl bp bl be eb ll TR xr lr o0 o1 loc B1_1 B1 nd3 nd4 nd5 nd6 (fun k => decide (k < 37)) α 15, rLD2R pb sb PC C mp ps j cj i c cz src ib db tl nm nl bp bl be eb ll TR xr lr o0 o1 loc B1_1 B1 nd3 nd4 nd5 nd6 (fun k => decide (k < 37)) α 21, rLD2R pb sb PC C mp ps j cj i c cz src ib db tl nm nl bp bl be eb ll TR xr lr o0 o1 loc B1_1 B1 nd3 nd4 nd5 nd6 (fun k => decide (k < 37)) α 31, rLD2R pb sb PC C mp ps j cj i c cz src ib db tl nm nl bp bl be eb ll TR xr lr o0 o1 loc B1_1 B1 nd3 nd4 nd5 nd6 (fun k => decide (k < 37)) α 34, rLD2R pb sb PC C mp ps j cj i c cz src ib db tl nm nl bp bl be eb ll TR xr lr o0 o1 loc B1_1 B1 nd3 nd4 nd5 nd6 (fun k => decide (k < 37)) α 1034, rLD2R pb sb PC C mp ps j cj i c cz src ib db tl nm nl bp bl be eb ll TR xr lr o0 o1 loc B1_1 B1 nd3 nd4 nd5 nd6 (fun k => decide (k < 37)) α 2034, rLD2R pb sb PC C mp ps j cj i c cz src ib db tl nm nl bp bl be eb ll TR xr lr o0 o1 loc B1_1 B1 nd3 nd4 nd5 nd6 (fun k => decide (k < 37)) α 3034] = _
        rw [e0, e1, e2, e3, e4, e5, e6, e7, e8, e9, e10, e11, e12, e13, e14, e15, e16, e17, e18, e19, e20, e21, e22])
      clear hG e0 e1 e2 e3 e4 e5 e6 e7 e8 e9 e10 e11 e12 e13 e14 e15 e16 e17 e18 e19 e20 e21 e22
      generalize hfr : Rega.frameAt _ _ _ _ _ = fr
      have hdf : fr = ⟨#[.pointer (some ⟨pb, 0, none⟩), .agg #[.iface 81 (.pointer (some ⟨db, 0, none⟩)), .int .i32 ll], .func (Fn.func 48) #[] #[.pointer (some ⟨bp, 0, none⟩), .pointer (some ⟨bl, 0, none⟩), .pointer (some ⟨be, 0, none⟩)], undef, .pointer (some ⟨B1, 0, none⟩), undef, .pointer (some ⟨B1_1, 0, none⟩), .pointer (some ⟨db, 0, none⟩), .func (Fn.func 59) #[] #[.pointer (some ⟨nd3, 0, none⟩), .pointer (some ⟨nd6, 0, none⟩), .pointer (some ⟨nd4, 0, none⟩)], .func (Fn.func 50) #[] #[.pointer (some ⟨nd5, 0, none⟩)], undef, undef, undef, undef, undef, undef, .pointer (some ⟨B1, 0, none⟩), .iface 81 (.pointer (some ⟨db, 0, none⟩)), .tuple #[.pointer (some ⟨db, 0, none⟩), .bool true], .bool true, .pointer (some ⟨db, 0, none⟩), .pointer (some ⟨db, 0, none⟩), .pointer (some ⟨db, 0, none⟩), .pointer (some ⟨db, 4, none⟩), .int .u8 0, .bool true, .tuple #[.func (Fn.func 59) #[] #[.pointer (some ⟨nd3, 0, none⟩), .pointer (some ⟨nd6, 0, none⟩), .pointer (some ⟨nd4, 0, none⟩)], .func (Fn.func 50) #[] #[.pointer (some ⟨nd5, 0, none⟩)]], .pointer (some ⟨pb, 0, none⟩), .pointer (some ⟨B1, 1, none⟩), .agg #[.int .i32 ll], .pointer (some ⟨db, 0, none⟩), .pointer (some ⟨db, 0, none⟩), .pointer (some ⟨db, 0, none⟩), .agg #[.iface 55 (.pointer (some ⟨ib, 0, none⟩)), .int .i32 tl], .tuple #[.func (Fn.func 59) #[] #[.pointer (some ⟨nd3, 0, none⟩), .pointer (some ⟨nd6, 0, none⟩), .pointer (some ⟨nd4, 0, none⟩)], .func (Fn.func 50) #[] #[.pointer (some ⟨nd5, 0, none⟩)]], .func (Fn.func 59) #[] #[.pointer (some ⟨nd3, 0, none⟩), .pointer (some ⟨nd6, 0, none⟩), .pointer (some ⟨nd4, 0, none⟩)], .func (Fn.func 50) #[] #[.pointer (some ⟨nd5, 0, none⟩)], .func (Fn.func 50) #[] #[.pointer (some ⟨nd5, 0, none⟩)], .func (Fn.func 48) #[] #[.pointer (some ⟨bp, 0, none⟩), .pointer (some ⟨bl, 0, none⟩), .pointer (some ⟨be, 0, none⟩)], .pointer (some ⟨B1, 1, none⟩), .agg #[.int .i32 ll], .func (Fn.func 59) #[] #[.pointer (some ⟨nd3, 0, none⟩), .pointer (some ⟨nd6, 0, none⟩), .pointer (some ⟨nd4, 0, none⟩)], .agg #[.iface 55 (.pointer (some ⟨α 5, 0, none⟩)), .int .i32 ll], .pointer (some ⟨db, 0, none⟩), .pointer (some ⟨db, 0, none⟩), .pointer (some ⟨db, 2, none⟩), .string nm, .pointer (some ⟨db, 0, none⟩), .pointer (some ⟨db, 0, none⟩), .pointer (some ⟨db, 3, none⟩), .agg #[.int .i32 nl], .agg #[.iface 55 (.pointer (some ⟨α 5, 0, none⟩)), .int .i32 ll, .string nm, .int .i32 nl, .int .u8 0, .bool false, .bool false, .bool false], .pointer (some ⟨α 15, 0, none⟩), .iface 81 (.pointer (some ⟨α 15, 0, none⟩)), .agg #[.iface 81 (.pointer (some ⟨α 15, 0, none⟩)), .int .i32 ll], .pointer (some ⟨B1, 1, none⟩), .agg #[.int .i32 ll], .func (Fn.func 59) #[] #[.pointer (some ⟨nd3, 0, none⟩), .pointer (some ⟨nd6, 0, none⟩), .pointer (some ⟨nd4, 0, none⟩)], .agg #[.iface 55 (.pointer (some ⟨α 21, 0, none⟩)), .int .i32 ll], .pointer (some ⟨db, 0, none⟩), .pointer (some ⟨db, 0, none⟩), .pointer (some ⟨db, 2, none⟩), .string nm, .pointer (some ⟨db, 0, none⟩), .pointer (some ⟨db, 0, none⟩), .pointer (some ⟨db, 3, none⟩), .agg #[.int .i32 nl], .agg #[.iface 55 (.pointer (some ⟨α 21, 0, none⟩)), .int .i32 ll, .string nm, .int .i32 nl, .int .u8 0, .bool false, .bool false, .bool false], .pointer (some ⟨α 31, 0, none⟩), .iface 81 (.pointer (some ⟨α 31, 0, none⟩)), .agg #[.iface 81 (.pointer (some ⟨α 31, 0, none⟩)), .int .i32 ll], .agg #[.iface 41 (.pointer (some ⟨α 34, 0, none⟩)), .int .i32 ll], .agg #[.iface 41 (.pointer (some ⟨α 34, 0, none⟩)), .int .i32 ll], undef, undef, undef, undef, undef, undef, undef, undef, undef, undef, undef, undef, undef, undef, undef, undef, undef, undef, undef, undef, undef, undef, undef, undef, undef, undef, undef, undef, undef, undef, undef, undef, undef, undef, undef, undef, undef, undef, undef, undef, undef, undef, undef, undef, undef, undef, undef, undef, undef, undef, undef, undef, undef, undef, undef, undef, undef, undef, undef, undef, undef, undef, undef, undef, undef, undef, undef, undef, undef, undef, undef, undef, undef, undef, undef, undef, undef, undef, undef], []⟩ := by rw [← hfr]; kernel_rfl
      clear hfr
      subst hdf
      generalize α 5 = nd7 at hO ⊢
      generalize α 15 = nd8 at hO ⊢
      generalize α 21 = nd9 at hO ⊢
      generalize α 31 = nd10 at hO ⊢
      generalize α 34 = nd11 at hO ⊢
      generalize α 1034 = nd12 at hO ⊢
      generalize α 2034 = nd13 at hO ⊢
      generalize α 3034 = nd14 at hO ⊢
      clear α
      have c9_0_0 : u.cell? ⟨B1_1, 0, none⟩ = some (.iface 41 (.pointer (some ⟨nd11, 0, none⟩))) := hO.cell 0 rfl 0 rfl
      have c9_0_1 : u.cell? ⟨B1_1, 1, none⟩ = some (.int .i32 ll) := hO.cell 0 rfl 1 rfl
      have lt9_0 : B1_1 < u.heap.size := hO.lt 0 rfl
      have y9_0 : ∀ o, u.frozen? ⟨B1_1, o, none⟩ = false := hO.free 0 rfl
      have c9_1_0 : u.cell? ⟨B1, 0, none⟩ = some (.iface 81 (.pointer (some ⟨db, 0, none⟩))) := hO.cell 1 rfl 0 rfl
      have c9_1_1 : u.cell? ⟨B1, 1, none⟩ = some (.int .i32 ll) := hO.cell 1 rfl 1 rfl
      have lt9_1 : B1 < u.heap.size := hO.lt 1 rfl
      have y9_1 : ∀ o, u.frozen? ⟨B1, o, none⟩ = false := hO.free 1 rfl
      have c9_5_0 : u.cell? ⟨bp, 0, none⟩ = some (.pointer (some ⟨pb, 0, none⟩)) := hO.cell 5 rfl 0 rfl
      have lt9_5 : bp < u.heap.size := hO.lt 5 rfl
      have y9_5 : ∀ o, u.frozen? ⟨bp, o, none⟩ = false := hO.free 5 rfl
      have c9_6_0 : u.cell? ⟨bl, 0, none⟩ = some (.int .i32 loc) := hO.cell 6 rfl 0 rfl
      have lt9_6 : bl < u.heap.size := hO.lt 6 rfl
      have y9_6 : ∀ o, u.frozen? ⟨bl, o, none⟩ = false := hO.free 6 rfl
      have c9_7_0 : u.cell? ⟨be, 0, none⟩ = some (.pointer (some ⟨eb, 0, none⟩)) := hO.cell 7 rfl 0 rfl
      have lt9_7 : be < u.heap.size := hO.lt 7 rfl
      have y9_7 : ∀ o, u.frozen? ⟨be, o, none⟩ = false := hO.free 7 rfl
      have c9_8_0 : u.cell? ⟨eb, 0, none⟩ = some (.iface 81 (.pointer (some ⟨db, 0, none⟩))) := hO.cell 8 rfl 0 rfl
      have c9_8_1 : u.cell? ⟨eb, 1, none⟩ = some (.int .i32 ll) := hO.cell 8 rfl 1 rfl
      have c9_8_2 : u.cell? ⟨eb, 2, none⟩ = some (.iface TR (.pointer (some ⟨xr, 0, none⟩))) := hO.cell 8 rfl 2 rfl
      have c9_8_3 : u.cell? ⟨eb, 3, none⟩ = some (.int .i32 lr) := hO.cell 8 rfl 3 rfl
      have c9_8_4 : u.cell? ⟨eb, 4, none⟩ = some (.int .u8 o0) := hO.cell 8 rfl 4 rfl
      have c9_8_5 : u.cell? ⟨eb, 5, none⟩ = some (.bool o1) := hO.cell 8 rfl 5 rfl
      have lt9_8 : eb < u.heap.size := hO.lt 8 rfl
      have y9_8 : ∀ o, u.frozen? ⟨eb, o, none⟩ = false := hO.free 8 rfl
      have c9_9_0 : u.cell? ⟨db, 0, none⟩ = some (.iface 55 (.pointer (some ⟨ib, 0, none⟩))) := hO.cell 9 rfl 0 rfl
      have c9_9_1 : u.cell? ⟨db, 1, none⟩ = some (.int .i32 tl) := hO.cell 9 rfl 1 rfl
      have c9_9_2 : u.cell? ⟨db, 2, none⟩ = some (.string nm) := hO.cell 9 rfl 2 rfl
      have c9_9_3 : u.cell? ⟨db, 3, none⟩ = some (.int .i32 nl) := hO.cell 9 rfl 3 rfl
      have c9_9_4 : u.cell? ⟨db, 4, none⟩ = some (.int .u8 0) := hO.cell 9 rfl 4 rfl
      have c9_9_5 : u.cell? ⟨db, 5, none⟩ = some (.bool false) := hO.cell 9 rfl 5 rfl
      have c9_9_6 : u.cell? ⟨db, 6, none⟩ = some (.bool false) := hO.cell 9 rfl 6 rfl
      have c9_9_7 : u.cell? ⟨db, 7, none⟩ = some (.bool false) := hO.cell 9 rfl 7 rfl
      have lt9_9 : db < u.heap.size := hO.lt 9 rfl
      have y9_9 : ∀ o, u.frozen? ⟨db, o, none⟩ = false := hO.free 9 rfl
      have c9_10_0 : u.cell? ⟨ib, 0, none⟩ = some (.int .u32 src) := hO.cell 10 rfl 0 rfl
      have c9_10_1 : u.cell? ⟨ib, 1, none⟩ = some (.int .u32 (i : Int)) := hO.cell 10 rfl 1 rfl
      have c9_10_2 : u.cell? ⟨ib, 2, none⟩ = some (.bool false) := hO.cell 10 rfl 2 rfl
      have c9_10_3 : u.cell? ⟨ib, 3, none⟩ = some (.bool false) := hO.cell 10 rfl 3 rfl
      have c9_10_4 : u.cell? ⟨ib, 4, none⟩ = some (.bool false) := hO.cell 10 rfl 4 rfl
      have lt9_10 : ib < u.heap.size := hO.lt 10 rfl
      have y9_10 : ∀ o, u.frozen? ⟨ib, o, none⟩ = false := hO.free 10 rfl
      have c9_11_0 : u.cell? ⟨nd3, 0, none⟩ = some (.pointer (some ⟨pb, 0, none⟩)) := hO.cell 11 rfl 0 rfl
      have lt9_11 : nd3 < u.heap.size := hO.lt 11 rfl
      have y9_11 : ∀ o, u.frozen? ⟨nd3, o, none⟩ = false := hO.free 11 rfl
      have c9_12_0 : u.cell? ⟨nd4, 0, none⟩ = some (.int .i32 ll) := hO.cell 12 rfl 0 rfl
      have lt9_12 : nd4 < u.heap.size := hO.lt 12 rfl
      have y9_12 : ∀ o, u.frozen? ⟨nd4, o, none⟩ = false := hO.free 12 rfl
      have c9_13_0 : u.cell? ⟨nd5, 0, none⟩ = some (.iface 55 (.pointer (some ⟨ib, 0, none⟩))) := hO.cell 13 rfl 0 rfl
      have c9_13_1 : u.cell? ⟨nd5, 1, none⟩ = some (.int .i32 tl) := hO.cell 13 rfl 1 rfl
      have lt9_13 : nd5 < u.heap.size := hO.lt 13 rfl
      have y9_13 : ∀ o, u.frozen? ⟨nd5, o, none⟩ = false := hO.free 13 rfl
      have c9_14_0 : u.cell? ⟨nd6, 0, none⟩ = some (.pointer (some ⟨ib, 0, none⟩)) := hO.cell 14 rfl 0 rfl
      have lt9_14 : nd6 < u.heap.size := hO.lt 14 rfl
      have y9_14 : ∀ o, u.frozen? ⟨nd6, o, none⟩ = false := hO.free 14 rfl
      have c9_15_0 : u.cell? ⟨nd7, 0, none⟩ = some (.int .u32 src) := hO.cell 15 rfl 0 rfl
      have c9_15_1 : u.cell? ⟨nd7, 1, none⟩ = some (.int .u32 (i : Int)) := hO.cell 15 rfl 1 rfl
      have c9_15_2 : u.cell? ⟨nd7, 2, none⟩ = some (.bool false) := hO.cell 15 rfl 2 rfl
      have c9_15_3 : u.cell? ⟨nd7, 3, none⟩ = some (.bool false) := hO.cell 15 rfl 3 rfl
      have c9_15_4 : u.cell? ⟨nd7, 4, none⟩ = some (.bool false) := hO.cell 15 rfl 4 rfl
      have lt9_15 : nd7 < u.heap.size := hO.lt 15 rfl
      have y9_15 : ∀ o, u.frozen? ⟨nd7, o, none⟩ = false := hO.free 15 rfl
      have c9_16_0 : u.cell? ⟨nd8, 0, none⟩ = some (.iface 55 (.pointer (some ⟨nd7, 0, none⟩))) := hO.cell 16 rfl 0 rfl
      have c9_16_1 : u.cell? ⟨nd8, 1, none⟩ = some (.int .i32 ll) := hO.cell 16 rfl 1 rfl
      have c9_16_2 : u.cell? ⟨nd8, 2, none⟩ = some (.string nm) := hO.cell 16 rfl 2 rfl
      have c9_16_3 : u.cell? ⟨nd8, 3, none⟩ = some (.int .i32 nl) := hO.cell 16 rfl 3 rfl
      have c9_16_4 : u.cell? ⟨nd8, 4, none⟩ = some (.int .u8 0) := hO.cell 16 rfl 4 rfl
      have c9_16_5 : u.cell? ⟨nd8, 5, none⟩ = some (.bool false) := hO.cell 16 rfl 5 rfl
      have c9_16_6 : u.cell? ⟨nd8, 6, none⟩ = some (.bool false) := hO.cell 16 rfl 6 rfl
      have c9_16_7 : u.cell? ⟨nd8, 7, none⟩ = some (.bool false) := hO.cell 16 rfl 7 rfl
      have lt9_16 : nd8 < u.heap.size := hO.lt 16 rfl
      have y9_16 : ∀ o, u.frozen? ⟨nd8, o, none⟩ = false := hO.free 16 rfl
      have c9_17_0 : u.cell? ⟨nd9, 0, none⟩ = some (.int .u32 src) := hO.cell 17 rfl 0 rfl
      have c9_17_1 : u.cell? ⟨nd9, 1, none⟩ = some (.int .u32 (i : Int)) := hO.cell 17 rfl 1 rfl
      have c9_17_2 : u.cell? ⟨nd9, 2, none⟩ = some (.bool false) := hO.cell 17 rfl 2 rfl
      have c9_17_3 : u.cell? ⟨nd9, 3, none⟩ = some (.bool false) := hO.cell 17 rfl 3 rfl
      have c9_17_4 : u.cell? ⟨nd9, 4, none⟩ = some (.bool false) := hO.cell 17 rfl 4 rfl
      have lt9_17 : nd9 < u.heap.size := hO.lt 17 rfl
      have y9_17 : ∀ o, u.frozen? ⟨nd9, o, none⟩ = false := hO.free 17 rfl
      have c9_18_0 : u.cell? ⟨nd10, 0, none⟩ = some (.iface 55 (.pointer (some ⟨nd9, 0, none⟩))) := hO.cell 18 rfl 0 rfl
      have c9_18_1 : u.cell? ⟨nd10, 1, none⟩ = some (.int .i32 ll) := hO.cell 18 rfl 1 rfl
      have c9_18_2 : u.cell? ⟨nd10, 2, none⟩ = some (.string nm) := hO.cell 18 rfl 2 rfl
      have c9_18_3 : u.cell? ⟨nd10, 3, none⟩ = some (.int .i32 nl) := hO.cell 18 rfl 3 rfl
      have c9_18_4 : u.cell? ⟨nd10, 4, none⟩ = some (.int .u8 0) := hO.cell 18 rfl 4 rfl
      have c9_18_5 : u.cell? ⟨nd10, 5, none⟩ = some (.bool false) := hO.cell 18 rfl 5 rfl
      have c9_18_6 : u.cell? ⟨nd10, 6, none⟩ = some (.bool false) := hO.cell 18 rfl 6 rfl
      have c9_18_7 : u.cell? ⟨nd10, 7, none⟩ = some (.bool false) := hO.cell 18 rfl 7 rfl
      have lt9_18 : nd10 < u.heap.size := hO.lt 18 rfl
      have y9_18 : ∀ o, u.frozen? ⟨nd10, o, none⟩ = false := hO.free 18 rfl
      have c9_19_0 : u.cell? ⟨nd11, 0, none⟩ = some (.iface 81 (.pointer (some ⟨nd8, 0, none⟩))) := hO.cell 19 rfl 0 rfl
      have c9_19_1 : u.cell? ⟨nd11, 1, none⟩ = some (.int .i32 ll) := hO.cell 19 rfl 1 rfl
      have c9_19_2 : u.cell? ⟨nd11, 2, none⟩ = some (.iface 72 (.pointer (some ⟨nd12, 0, none⟩))) := hO.cell 19 rfl 2 rfl
      have c9_19_3 : u.cell? ⟨nd11, 3, none⟩ = some (.int .i32 loc) := hO.cell 19 rfl 3 rfl
      have c9_19_4 : u.cell? ⟨nd11, 4, none⟩ = some (.int .u8 37) := hO.cell 19 rfl 4 rfl
      have c9_19_5 : u.cell? ⟨nd11, 5, none⟩ = some (.bool false) := hO.cell 19 rfl 5 rfl
      have lt9_19 : nd11 < u.heap.size := hO.lt 19 rfl
      have y9_19 : ∀ o, u.frozen? ⟨nd11, o, none⟩ = false := hO.free 19 rfl
      have c9_20_0 : u.cell? ⟨nd12, 0, none⟩ = some (.iface 55 (.pointer (some ⟨nd13, 0, none⟩))) := hO.cell 20 rfl 0 rfl
      have c9_20_1 : u.cell? ⟨nd12, 1, none⟩ = some (.int .i32 loc) := hO.cell 20 rfl 1 rfl
      have c9_20_2 : u.cell? ⟨nd12, 2, none⟩ = some (.slice (some ⟨nd14, 0, none⟩) 2 2) := hO.cell 20 rfl 2 rfl
      have c9_20_3 : u.cell? ⟨nd12, 3, none⟩ = some (.int .i32 0) := hO.cell 20 rfl 3 rfl
      have c9_20_4 : u.cell? ⟨nd12, 4, none⟩ = some (.int .u8 0) := hO.cell 20 rfl 4 rfl
      have c9_20_5 : u.cell? ⟨nd12, 5, none⟩ = some (.int .u8 0) := hO.cell 20 rfl 5 rfl
      have c9_20_6 : u.cell? ⟨nd12, 6, none⟩ = some (.bool false) := hO.cell 20 rfl 6 rfl
      have c9_20_7 : u.cell? ⟨nd12, 7, none⟩ = some (.bool false) := hO.cell 20 rfl 7 rfl
      have lt9_20 : nd12 < u.heap.size := hO.lt 20 rfl
      have y9_20 : ∀ o, u.frozen? ⟨nd12, o, none⟩ = false := hO.free 20 rfl
      have c9_21_0 : u.cell? ⟨nd13, 0, none⟩ = some (.int .u32 ps) := hO.cell 21 rfl 0 rfl
      have c9_21_1 : u.cell? ⟨nd13, 1, none⟩ = some (.int .u32 (j : Int)) := hO.cell 21 rfl 1 rfl
      have c9_21_2 : u.cell? ⟨nd13, 2, none⟩ = some (.bool false) := hO.cell 21 rfl 2 rfl
      have c9_21_3 : u.cell? ⟨nd13, 3, none⟩ = some (.bool false) := hO.cell 21 rfl 3 rfl
      have c9_21_4 : u.cell? ⟨nd13, 4, none⟩ = some (.bool false) := hO.cell 21 rfl 4 rfl
      have lt9_21 : nd13 < u.heap.size := hO.lt 21 rfl
      have y9_21 : ∀ o, u.frozen? ⟨nd13, o, none⟩ = false := hO.free 21 rfl
      have c9_22_0 : u.cell? ⟨nd14, 0, none⟩ = some (.iface 81 (.pointer (some ⟨nd10, 0, none⟩))) := hO.cell 22 rfl 0 rfl
      have c9_22_1 : u.cell? ⟨nd14, 1, none⟩ = some (.int .i32 ll) := hO.cell 22 rfl 1 rfl
      have c9_22_2 : u.cell? ⟨nd14, 2, none⟩ = some (.iface TR (.pointer (some ⟨xr, 0, none⟩))) := hO.cell 22 rfl 2 rfl
      have c9_22_3 : u.cell? ⟨nd14, 3, none⟩ = some (.int .i32 lr) := hO.cell 22 rfl 3 rfl
      have lt9_22 : nd14 < u.heap.size := hO.lt 22 rfl
      have y9_22 : ∀ o, u.frozen? ⟨nd14, o, none⟩ = false := hO.free 22 rfl
      have HO := Lib.hid hO
      clear hO
      go_wp2_with fail
      have hO := HO.out
      clear HO c9_0_0 c9_0_1 lt9_0 y9_0 c9_1_0 c9_1_1 lt9_1 y9_1 c9_5_0 lt9_5 y9_5 c9_6_0 lt9_6 y9_6 c9_7_0 lt9_7 y9_7 c9_8_0 c9_8_1 c9_8_2 c9_8_3 c9_8_4 c9_8_5 lt9_8 y9_8 c9_9_0 c9_9_1 c9_9_2 c9_9_3 c9_9_4 c9_9_5 c9_9_6 c9_9_7 lt9_9 y9_9 c9_10_0 c9_10_1 c9_10_2 c9_10_3 c9_10_4 lt9_10 y9_10 c9_11_0 lt9_11 y9_11 c9_12_0 lt9_12 y9_12 c9_13_0 c9_13_1 lt9_13 y9_13 c9_14_0 lt9_14 y9_14 c9_15_0 c9_15_1 c9_15_2 c9_15_3 c9_15_4 lt9_15 y9_15 c9_16_0 c9_16_1 c9_16_2 c9_16_3 c9_16_4 c9_16_5 c9_16_6 c9_16_7 lt9_16 y9_16 c9_17_0 c9_17_1 c9_17_2 c9_17_3 c9_17_4 lt9_17 y9_17 c9_18_0 c9_18_1 c9_18_2 c9_18_3 c9_18_4 c9_18_5 c9_18_6 c9_18_7 lt9_18 y9_18 c9_19_0 c9_19_1 c9_19_2 c9_19_3 c9_19_4 c9_19_5 lt9_19 y9_19 c9_20_0 c9_20_1 c9_20_2 c9_20_3 c9_20_4 c9_20_5 c9_20_6 c9_20_7 lt9_20 y9_20 c9_21_0 c9_21_1 c9_21_2 c9_21_3 c9_21_4 lt9_21 y9_21 c9_22_0 c9_22_1 c9_22_2 c9_22_3 lt9_22 y9_22
      have z9_0_0 : u.cell? ⟨B1_1, 0, none⟩ = some (.iface 41 (.pointer (some ⟨nd11, 0, none⟩))) := hO.cell 0 rfl 0 rfl
      have z9_0_1 : u.cell? ⟨B1_1, 1, none⟩ = some (.int .i32 ll) := hO.cell 0 rfl 1 rfl
      refine bodyPost_ret (v := .agg #[.iface 41 (.pointer (some ⟨nd11, 0, none⟩)), .int .i32 ll]) ?_ rfl ⟨nd11, nd12, nd13, nd14, nd8, nd10, nd7, nd9, rfl, hO.sub [2, 3, 4, 5, 6, 7, 8, 9, 10, 19, 20, 21, 22, 16, 18, 15, 17] (by decide)⟩
      simp [results, Tryd.results44, go_sem, z9_0_0, z9_0_1]
end Go.Proofs.YtlgefnjkoklboaaDoor.Use
