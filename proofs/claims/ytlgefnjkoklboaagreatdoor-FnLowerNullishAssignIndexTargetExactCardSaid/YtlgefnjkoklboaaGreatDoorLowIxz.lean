/- An assignment over an index, walked. No condition. -/
import Derived.Test.YtlgefnjkoklboaaGreatDoorOwn
import Derived.Test.YtlgefnjkoklboaaGreatDoorDeepCells
import Derived.Test.YtlgefnjkoklboaaGreatDoorRows
import Derived.Test.YtlgefnjkoklboaaGreatDoorUse
import Derived.Test.YtlgefnjkoklboaaGreatDoorKitz
import Derived.Test.YtlgefnjkoklboaaGreatDoorLawKitz
import Derived.Test.YtlgefnjkoklboaaGreatDoorCapz
import Derived.Test.YtlgefnjkoklboaaGreatDoorNullFnz
namespace Go.Proofs.YtlgefnjkoklboaaGreatDoor.Use
open Go.ChangeShapes Go.WideShapes Go.ChangeAt Go.RowKit Go.Sort Own
set_option linter.unusedVariables false
def rLI1E (pb : Nat) (sb : Nat) (PC : Array Value) (C : Array Value) (i : Nat) (src : Int) (ib : Nat) (xb : Nat) (tl : Int) (kb : Nat) (kl : Int) (kv : Nat) (bp : Nat) (bl : Nat) (be : Nat) (eb : Nat) (ll : Int) (TR : Nat) (xr : Nat) (lr : Int) (o0 : Int) (o1 : Bool) (loc : Int) (B1_1 : Nat) (B1 : Nat) : Nat → Rega.Atoms → Value
  | 0, α => .pointer (some ⟨pb, 0, none⟩)
  | 1, α => .pointer (some ⟨B1, 1, none⟩)
  | 2, α => .agg #[.int .i32 ll]
  | 3, α => .pointer (some ⟨xb, 0, none⟩)
  | 4, α => .pointer (some ⟨xb, 0, none⟩)
  | 5, α => .pointer (some ⟨xb, 0, none⟩)
  | 6, α => .agg #[.iface 52 (.pointer (some ⟨ib, 0, none⟩)), .int .i32 tl]
  | 7, α => .tuple #[.func (Fn.func 39) #[] #[.pointer (some ⟨α 7, 0, none⟩), .pointer (some ⟨α 3007, 0, none⟩), .pointer (some ⟨α 1007, 0, none⟩)], .func (Fn.func 30) #[] #[.pointer (some ⟨α 2007, 0, none⟩)]]
  | 8, α => .tuple #[.func (Fn.func 39) #[] #[.pointer (some ⟨α 7, 0, none⟩), .pointer (some ⟨α 3007, 0, none⟩), .pointer (some ⟨α 1007, 0, none⟩)], .func (Fn.func 30) #[] #[.pointer (some ⟨α 2007, 0, none⟩)]]
  | 9, α => .func (Fn.func 39) #[] #[.pointer (some ⟨α 7, 0, none⟩), .pointer (some ⟨α 3007, 0, none⟩), .pointer (some ⟨α 1007, 0, none⟩)]
  | 10, α => .func (Fn.func 30) #[] #[.pointer (some ⟨α 2007, 0, none⟩)]
  | 11, α => .func (Fn.func 39) #[] #[.pointer (some ⟨α 7, 0, none⟩), .pointer (some ⟨α 3007, 0, none⟩), .pointer (some ⟨α 1007, 0, none⟩)]
  | 12, α => .func (Fn.func 30) #[] #[.pointer (some ⟨α 2007, 0, none⟩)]
  | _, _ => undef
def rLI1Anc : Nat → List Nat
  | 2 => [1]
  | 4 => [3]
  | 5 => [3, 4]
  | 6 => [3, 4, 5]
  | 7 => [0, 1, 2, 3, 4, 5, 6]
  | 8 => [0, 1, 2, 3, 4, 5, 6, 7]
  | 9 => [0, 1, 2, 3, 4, 5, 6, 7, 8]
  | 10 => [0, 1, 2, 3, 4, 5, 6, 7, 8]
  | 11 => [0, 1, 2, 3, 4, 5, 6, 7, 8, 9]
  | 12 => [0, 1, 2, 3, 4, 5, 6, 7, 8, 9, 10, 11]
  | _ => []
def rLI1Trn : Nat → List Nat
  | _ => []
def rLI1Cnt : List (Nat × Nat) := [(7, 4)]
def rLI1R (pb : Nat) (sb : Nat) (PC : Array Value) (C : Array Value) (i : Nat) (src : Int) (ib : Nat) (xb : Nat) (tl : Int) (kb : Nat) (kl : Int) (kv : Nat) (bp : Nat) (bl : Nat) (be : Nat) (eb : Nat) (ll : Int) (TR : Nat) (xr : Nat) (lr : Int) (o0 : Int) (o1 : Bool) (loc : Int) (B1_1 : Nat) (B1 : Nat) (L9 : Nat → Bool) (α : Rega.Atoms) (ix9 : Nat) : Rw := if ix9 = 999 then row (B1_1) 34 #[.nilIface, .int .i32 0] else if ix9 = 1999 then row (B1) 34 #[.iface 38 (.pointer (some ⟨xb, 0, none⟩)), .int .i32 ll] else if ix9 = 2999 then row (pb) 178 PC else if ix9 = 3999 then row (sb) 196 C else if ix9 = 4999 then row (bp) 25 #[.pointer (some ⟨pb, 0, none⟩)] else if ix9 = 5999 then row (bl) 32 #[.int .i32 loc] else if ix9 = 6999 then row (be) 42 #[.pointer (some ⟨eb, 0, none⟩)] else if ix9 = 7999 then row (eb) 45 #[.iface 38 (.pointer (some ⟨xb, 0, none⟩)), .int .i32 ll, .iface TR (.pointer (some ⟨xr, 0, none⟩)), .int .i32 lr, .int .u8 o0, .bool o1] else if ix9 = 8999 then row (xb) 56 #[.iface 52 (.pointer (some ⟨ib, 0, none⟩)), .int .i32 tl, .iface 40 (.pointer (some ⟨kb, 0, none⟩)), .int .i32 kl, .int .i32 0, .int .u8 0, .bool false, .bool false, .bool false] else if ix9 = 9999 then row (ib) 180 #[.int .u32 src, .int .u32 (i : Int), .bool false, .bool false, .bool false] else if ix9 = 10999 then row (kb) 182 #[.float .f64 kv] else if ix9 = 7 then row (α 7) 25 #[.pointer (some ⟨pb, 0, none⟩)] else if ix9 = 1007 then row (α 1007) 32 #[.int .i32 ll] else if ix9 = 2007 then row (α 2007) 34 #[.iface 52 (.pointer (some ⟨ib, 0, none⟩)), .int .i32 tl] else if ix9 = 3007 then row (α 3007) 52 #[.pointer (some ⟨ib, 0, none⟩)] else (0, .map #[] 0)
theorem rLI1_he (pb : Nat) (sb : Nat) (PC : Array Value) (C : Array Value) (i : Nat) (src : Int) (ib : Nat) (xb : Nat) (tl : Int) (kb : Nat) (kl : Int) (kv : Nat) (bp : Nat) (bl : Nat) (be : Nat) (eb : Nat) (ll : Int) (TR : Nat) (xr : Nat) (lr : Int) (o0 : Int) (o1 : Bool) (loc : Int) (B1_1 : Nat) (B1 : Nat) : ∀ kk α α', (∀ j, (j % 1000 = kk ∨ j % 1000 ∈ rLI1Anc kk) → α j = α' j) → rLI1E pb sb PC C i src ib xb tl kb kl kv bp bl be eb ll TR xr lr o0 o1 loc B1_1 B1 kk α = rLI1E pb sb PC C i src ib xb tl kb kl kv bp bl be eb ll TR xr lr o0 o1 loc B1_1 B1 kk α' := by
  intro kk α α' h
  match kk with
  | 0 => rfl
  | 1 => rfl
  | 2 => rfl
  | 3 => rfl
  | 4 => rfl
  | 5 => rfl
  | 6 => rfl
  | 7 => simp only [rLI1E, h 7 (Or.inl rfl), h 1007 (Or.inl rfl), h 2007 (Or.inl rfl), h 3007 (Or.inl rfl)]
  | 8 => simp only [rLI1E, h 7 (Or.inr (by decide)), h 1007 (Or.inr (by decide)), h 2007 (Or.inr (by decide)), h 3007 (Or.inr (by decide))]
  | 9 => simp only [rLI1E, h 7 (Or.inr (by decide)), h 1007 (Or.inr (by decide)), h 3007 (Or.inr (by decide))]
  | 10 => simp only [rLI1E, h 2007 (Or.inr (by decide))]
  | 11 => simp only [rLI1E, h 7 (Or.inr (by decide)), h 1007 (Or.inr (by decide)), h 3007 (Or.inr (by decide))]
  | 12 => simp only [rLI1E, h 2007 (Or.inr (by decide))]
  | n + 13 => rfl
theorem rLI1_st (pb : Nat) (sb : Nat) (PC : Array Value) (C : Array Value) (i : Nat) (src : Int) (ib : Nat) (xb : Nat) (tl : Int) (kb : Nat) (kl : Int) (kv : Nat) (bp : Nat) (bl : Nat) (be : Nat) (eb : Nat) (ll : Int) (TR : Nat) (xr : Nat) (lr : Int) (o0 : Int) (o1 : Bool) (loc : Int) (B1_1 : Nat) (B1 : Nat) : Stable rLI1Cnt 11 rLI1Anc rLI1Trn (rLI1R pb sb PC C i src ib xb tl kb kl kv bp bl be eb ll TR xr lr o0 o1 loc B1_1 B1) := by
  intro k9 L9 α α' ix9 hk hcl hα hact ht
  have hp := act_places hact
  replace hp : ix9 ∈ [999, 1999, 2999, 3999, 4999, 5999, 6999, 7999, 8999, 9999, 10999, 7, 1007, 2007, 3007] := hp
  simp only [List.mem_cons, List.not_mem_nil, or_false] at hp
  rcases hp with rfl | rfl | rfl | rfl | rfl | rfl | rfl | rfl | rfl | rfl | rfl | rfl | rfl | rfl | rfl
  · rfl
  · rfl
  · rfl
  · rfl
  · rfl
  · rfl
  · rfl
  · rfl
  · rfl
  · rfl
  · rfl
  · have e0 : L9 7 = true := act_lt hact (by decide)
    show row (α' 7) 25 #[.pointer (some ⟨pb, 0, none⟩)] = row (α 7) 25 #[.pointer (some ⟨pb, 0, none⟩)]
    simp only [hα 7 (ne_ran hk e0)]
  · have e0 : L9 7 = true := act_lt hact (by decide)
    show row (α' 1007) 32 #[.int .i32 ll] = row (α 1007) 32 #[.int .i32 ll]
    simp only [hα 1007 (ne_ran hk e0)]
  · have e0 : L9 7 = true := act_lt hact (by decide)
    show row (α' 2007) 34 #[.iface 52 (.pointer (some ⟨ib, 0, none⟩)), .int .i32 tl] = row (α 2007) 34 #[.iface 52 (.pointer (some ⟨ib, 0, none⟩)), .int .i32 tl]
    simp only [hα 2007 (ne_ran hk e0)]
  · have e0 : L9 7 = true := act_lt hact (by decide)
    show row (α' 3007) 52 #[.pointer (some ⟨ib, 0, none⟩)] = row (α 3007) 52 #[.pointer (some ⟨ib, 0, none⟩)]
    simp only [hα 3007 (ne_ran hk e0)]
def rLI2E (pb : Nat) (sb : Nat) (PC : Array Value) (C : Array Value) (i : Nat) (src : Int) (ib : Nat) (xb : Nat) (tl : Int) (kb : Nat) (kl : Int) (kv : Nat) (bp : Nat) (bl : Nat) (be : Nat) (eb : Nat) (ll : Int) (TR : Nat) (xr : Nat) (lr : Int) (o0 : Int) (o1 : Bool) (loc : Int) (B1_1 : Nat) (B1 : Nat) (nd3 : Nat) (nd4 : Nat) (nd5 : Nat) (nd6 : Nat) : Nat → Rega.Atoms → Value
  | 0, α => .pointer (some ⟨pb, 0, none⟩)
  | 1, α => .pointer (some ⟨B1, 1, none⟩)
  | 2, α => .agg #[.int .i32 ll]
  | 3, α => .pointer (some ⟨xb, 0, none⟩)
  | 4, α => .pointer (some ⟨xb, 0, none⟩)
  | 5, α => .pointer (some ⟨xb, 2, none⟩)
  | 6, α => .agg #[.iface 40 (.pointer (some ⟨kb, 0, none⟩)), .int .i32 kl]
  | 7, α => .tuple #[.func (Fn.func 35) #[] #[.pointer (some ⟨α 7, 0, none⟩), .pointer (some ⟨α 2007, 0, none⟩)], .func (Fn.func 30) #[] #[.pointer (some ⟨α 1007, 0, none⟩)]]
  | 8, α => .tuple #[.func (Fn.func 35) #[] #[.pointer (some ⟨α 7, 0, none⟩), .pointer (some ⟨α 2007, 0, none⟩)], .func (Fn.func 30) #[] #[.pointer (some ⟨α 1007, 0, none⟩)]]
  | 9, α => .func (Fn.func 35) #[] #[.pointer (some ⟨α 7, 0, none⟩), .pointer (some ⟨α 2007, 0, none⟩)]
  | 10, α => .func (Fn.func 30) #[] #[.pointer (some ⟨α 1007, 0, none⟩)]
  | 11, α => .func (Fn.func 35) #[] #[.pointer (some ⟨α 7, 0, none⟩), .pointer (some ⟨α 2007, 0, none⟩)]
  | 12, α => .func (Fn.func 30) #[] #[.pointer (some ⟨α 1007, 0, none⟩)]
  | _, _ => undef
def rLI2Anc : Nat → List Nat
  | 2 => [1]
  | 4 => [3]
  | 5 => [3, 4]
  | 6 => [3, 4, 5]
  | 7 => [0, 1, 2, 3, 4, 5, 6]
  | 8 => [0, 1, 2, 3, 4, 5, 6, 7]
  | 9 => [0, 1, 2, 3, 4, 5, 6, 7, 8]
  | 10 => [0, 1, 2, 3, 4, 5, 6, 7, 8]
  | 11 => [0, 1, 2, 3, 4, 5, 6, 7, 8, 9]
  | 12 => [0, 1, 2, 3, 4, 5, 6, 7, 8, 9, 10, 11]
  | _ => []
def rLI2Trn : Nat → List Nat
  | _ => []
def rLI2Cnt : List (Nat × Nat) := [(7, 3)]
def rLI2R (pb : Nat) (sb : Nat) (PC : Array Value) (C : Array Value) (i : Nat) (src : Int) (ib : Nat) (xb : Nat) (tl : Int) (kb : Nat) (kl : Int) (kv : Nat) (bp : Nat) (bl : Nat) (be : Nat) (eb : Nat) (ll : Int) (TR : Nat) (xr : Nat) (lr : Int) (o0 : Int) (o1 : Bool) (loc : Int) (B1_1 : Nat) (B1 : Nat) (nd3 : Nat) (nd4 : Nat) (nd5 : Nat) (nd6 : Nat) (L9 : Nat → Bool) (α : Rega.Atoms) (ix9 : Nat) : Rw := if ix9 = 999 then row (B1_1) 34 #[.nilIface, .int .i32 0] else if ix9 = 1999 then row (B1) 34 #[.iface 38 (.pointer (some ⟨xb, 0, none⟩)), .int .i32 ll] else if ix9 = 2999 then row (pb) 178 PC else if ix9 = 3999 then row (sb) 196 C else if ix9 = 4999 then row (bp) 25 #[.pointer (some ⟨pb, 0, none⟩)] else if ix9 = 5999 then row (bl) 32 #[.int .i32 loc] else if ix9 = 6999 then row (be) 42 #[.pointer (some ⟨eb, 0, none⟩)] else if ix9 = 7999 then row (eb) 45 #[.iface 38 (.pointer (some ⟨xb, 0, none⟩)), .int .i32 ll, .iface TR (.pointer (some ⟨xr, 0, none⟩)), .int .i32 lr, .int .u8 o0, .bool o1] else if ix9 = 8999 then row (xb) 56 #[.iface 52 (.pointer (some ⟨ib, 0, none⟩)), .int .i32 tl, .iface 40 (.pointer (some ⟨kb, 0, none⟩)), .int .i32 kl, .int .i32 0, .int .u8 0, .bool false, .bool false, .bool false] else if ix9 = 9999 then row (ib) 180 #[.int .u32 src, .int .u32 (i : Int), .bool false, .bool false, .bool false] else if ix9 = 10999 then row (kb) 182 #[.float .f64 kv] else if ix9 = 11999 then row (nd3) 25 #[.pointer (some ⟨pb, 0, none⟩)] else if ix9 = 12999 then row (nd4) 32 #[.int .i32 ll] else if ix9 = 13999 then row (nd5) 34 #[.iface 52 (.pointer (some ⟨ib, 0, none⟩)), .int .i32 tl] else if ix9 = 14999 then row (nd6) 52 #[.pointer (some ⟨ib, 0, none⟩)] else if ix9 = 7 then row (α 7) 32 #[.int .i32 ll] else if ix9 = 1007 then row (α 1007) 34 #[.iface 40 (.pointer (some ⟨kb, 0, none⟩)), .int .i32 kl] else if ix9 = 2007 then row (α 2007) 40 #[.pointer (some ⟨kb, 0, none⟩)] else (0, .map #[] 0)
theorem rLI2_he (pb : Nat) (sb : Nat) (PC : Array Value) (C : Array Value) (i : Nat) (src : Int) (ib : Nat) (xb : Nat) (tl : Int) (kb : Nat) (kl : Int) (kv : Nat) (bp : Nat) (bl : Nat) (be : Nat) (eb : Nat) (ll : Int) (TR : Nat) (xr : Nat) (lr : Int) (o0 : Int) (o1 : Bool) (loc : Int) (B1_1 : Nat) (B1 : Nat) (nd3 : Nat) (nd4 : Nat) (nd5 : Nat) (nd6 : Nat) : ∀ kk α α', (∀ j, (j % 1000 = kk ∨ j % 1000 ∈ rLI2Anc kk) → α j = α' j) → rLI2E pb sb PC C i src ib xb tl kb kl kv bp bl be eb ll TR xr lr o0 o1 loc B1_1 B1 nd3 nd4 nd5 nd6 kk α = rLI2E pb sb PC C i src ib xb tl kb kl kv bp bl be eb ll TR xr lr o0 o1 loc B1_1 B1 nd3 nd4 nd5 nd6 kk α' := by
  intro kk α α' h
  match kk with
  | 0 => rfl
  | 1 => rfl
  | 2 => rfl
  | 3 => rfl
  | 4 => rfl
  | 5 => rfl
  | 6 => rfl
  | 7 => simp only [rLI2E, h 7 (Or.inl rfl), h 1007 (Or.inl rfl), h 2007 (Or.inl rfl)]
  | 8 => simp only [rLI2E, h 7 (Or.inr (by decide)), h 1007 (Or.inr (by decide)), h 2007 (Or.inr (by decide))]
  | 9 => simp only [rLI2E, h 7 (Or.inr (by decide)), h 2007 (Or.inr (by decide))]
  | 10 => simp only [rLI2E, h 1007 (Or.inr (by decide))]
  | 11 => simp only [rLI2E, h 7 (Or.inr (by decide)), h 2007 (Or.inr (by decide))]
  | 12 => simp only [rLI2E, h 1007 (Or.inr (by decide))]
  | n + 13 => rfl
theorem rLI2_st (pb : Nat) (sb : Nat) (PC : Array Value) (C : Array Value) (i : Nat) (src : Int) (ib : Nat) (xb : Nat) (tl : Int) (kb : Nat) (kl : Int) (kv : Nat) (bp : Nat) (bl : Nat) (be : Nat) (eb : Nat) (ll : Int) (TR : Nat) (xr : Nat) (lr : Int) (o0 : Int) (o1 : Bool) (loc : Int) (B1_1 : Nat) (B1 : Nat) (nd3 : Nat) (nd4 : Nat) (nd5 : Nat) (nd6 : Nat) : Stable rLI2Cnt 15 rLI2Anc rLI2Trn (rLI2R pb sb PC C i src ib xb tl kb kl kv bp bl be eb ll TR xr lr o0 o1 loc B1_1 B1 nd3 nd4 nd5 nd6) := by
  intro k9 L9 α α' ix9 hk hcl hα hact ht
  have hp := act_places hact
  replace hp : ix9 ∈ [999, 1999, 2999, 3999, 4999, 5999, 6999, 7999, 8999, 9999, 10999, 11999, 12999, 13999, 14999, 7, 1007, 2007] := hp
  simp only [List.mem_cons, List.not_mem_nil, or_false] at hp
  rcases hp with rfl | rfl | rfl | rfl | rfl | rfl | rfl | rfl | rfl | rfl | rfl | rfl | rfl | rfl | rfl | rfl | rfl | rfl
  · rfl
  · rfl
  · rfl
  · rfl
  · rfl
  · rfl
  · rfl
  · rfl
  · rfl
  · rfl
  · rfl
  · rfl
  · rfl
  · rfl
  · rfl
  · have e0 : L9 7 = true := act_lt hact (by decide)
    show row (α' 7) 32 #[.int .i32 ll] = row (α 7) 32 #[.int .i32 ll]
    simp only [hα 7 (ne_ran hk e0)]
  · have e0 : L9 7 = true := act_lt hact (by decide)
    show row (α' 1007) 34 #[.iface 40 (.pointer (some ⟨kb, 0, none⟩)), .int .i32 kl] = row (α 1007) 34 #[.iface 40 (.pointer (some ⟨kb, 0, none⟩)), .int .i32 kl]
    simp only [hα 1007 (ne_ran hk e0)]
  · have e0 : L9 7 = true := act_lt hact (by decide)
    show row (α' 2007) 40 #[.pointer (some ⟨kb, 0, none⟩)] = row (α 2007) 40 #[.pointer (some ⟨kb, 0, none⟩)]
    simp only [hα 2007 (ne_ran hk e0)]
def rLI3E (pb : Nat) (sb : Nat) (PC : Array Value) (C : Array Value) (i : Nat) (c : Nat) (cz : Nat) (src : Int) (ib : Nat) (xb : Nat) (tl : Int) (kb : Nat) (kl : Int) (kv : Nat) (bp : Nat) (bl : Nat) (be : Nat) (eb : Nat) (ll : Int) (TR : Nat) (xr : Nat) (lr : Int) (o0 : Int) (o1 : Bool) (loc : Int) (B1_1 : Nat) (B1 : Nat) (nd3 : Nat) (nd4 : Nat) (nd5 : Nat) (nd6 : Nat) (nd7 : Nat) (nd8 : Nat) (nd9 : Nat) : Nat → Rega.Atoms → Value
  | 0, α => .func (Fn.func 30) #[] #[.pointer (some ⟨nd5, 0, none⟩)]
  | 1, α => .func (Fn.func 30) #[] #[.pointer (some ⟨nd8, 0, none⟩)]
  | 2, α => .func (Fn.func 27) #[] #[.pointer (some ⟨bp, 0, none⟩), .pointer (some ⟨bl, 0, none⟩), .pointer (some ⟨be, 0, none⟩)]
  | 3, α => .pointer (some ⟨B1, 1, none⟩)
  | 4, α => .agg #[.int .i32 ll]
  | 5, α => .func (Fn.func 39) #[] #[.pointer (some ⟨nd3, 0, none⟩), .pointer (some ⟨nd6, 0, none⟩), .pointer (some ⟨nd4, 0, none⟩)]
  | 6, α => .agg #[.iface 52 (.pointer (some ⟨α 6, 0, none⟩)), .int .i32 ll]
  | 7, α => .func (Fn.func 35) #[] #[.pointer (some ⟨nd7, 0, none⟩), .pointer (some ⟨nd9, 0, none⟩)]
  | 8, α => .agg #[.iface 40 (.pointer (some ⟨α 8, 0, none⟩)), .int .i32 ll]
  | 9, α => .agg #[.iface 52 (.pointer (some ⟨α 6, 0, none⟩)), .int .i32 ll, .iface 40 (.pointer (some ⟨α 8, 0, none⟩)), .int .i32 ll, .int .i32 0, .int .u8 0, .bool false, .bool false, .bool false]
  | 10, α => .pointer (some ⟨α 10, 0, none⟩)
  | 11, α => .iface 38 (.pointer (some ⟨α 10, 0, none⟩))
  | 12, α => .agg #[.iface 38 (.pointer (some ⟨α 10, 0, none⟩)), .int .i32 ll]
  | 13, α => .pointer (some ⟨B1, 1, none⟩)
  | 14, α => .agg #[.int .i32 ll]
  | 15, α => .func (Fn.func 39) #[] #[.pointer (some ⟨nd3, 0, none⟩), .pointer (some ⟨nd6, 0, none⟩), .pointer (some ⟨nd4, 0, none⟩)]
  | 16, α => .agg #[.iface 52 (.pointer (some ⟨α 16, 0, none⟩)), .int .i32 ll]
  | 17, α => .func (Fn.func 35) #[] #[.pointer (some ⟨nd7, 0, none⟩), .pointer (some ⟨nd9, 0, none⟩)]
  | 18, α => .agg #[.iface 40 (.pointer (some ⟨α 18, 0, none⟩)), .int .i32 ll]
  | 19, α => .agg #[.iface 52 (.pointer (some ⟨α 16, 0, none⟩)), .int .i32 ll, .iface 40 (.pointer (some ⟨α 18, 0, none⟩)), .int .i32 ll, .int .i32 0, .int .u8 0, .bool false, .bool false, .bool false]
  | 20, α => .pointer (some ⟨α 20, 0, none⟩)
  | 21, α => .iface 38 (.pointer (some ⟨α 20, 0, none⟩))
  | 22, α => .agg #[.iface 38 (.pointer (some ⟨α 20, 0, none⟩)), .int .i32 ll]
  | 23, α => .agg #[.iface 42 (.pointer (some ⟨α 23, 0, none⟩)), .int .i32 loc]
  | 24, α => .agg #[.iface 42 (.pointer (some ⟨α 23, 0, none⟩)), .int .i32 loc]
  | 25, α => .agg #[.iface 42 (.pointer (some ⟨α 23, 0, none⟩)), .int .i32 loc]
  | 26, α => undef
  | _, _ => undef
def rLI3Anc : Nat → List Nat
  | 4 => [3]
  | 6 => [5]
  | 8 => [5, 6, 7]
  | 9 => [5, 6, 7, 8]
  | 10 => [5, 6, 7, 8, 9]
  | 11 => [5, 6, 7, 8, 9, 10]
  | 12 => [3, 4, 5, 6, 7, 8, 9, 10, 11]
  | 14 => [13]
  | 16 => [5, 6, 7, 8, 15]
  | 18 => [5, 6, 7, 8, 15, 16, 17]
  | 19 => [5, 6, 7, 8, 15, 16, 17, 18]
  | 20 => [5, 6, 7, 8, 15, 16, 17, 18, 19]
  | 21 => [5, 6, 7, 8, 15, 16, 17, 18, 19, 20]
  | 22 => [5, 6, 7, 8, 13, 14, 15, 16, 17, 18, 19, 20, 21]
  | 23 => [2, 3, 4, 5, 6, 7, 8, 9, 10, 11, 12, 13, 14, 15, 16, 17, 18, 19, 20, 21, 22]
  | 24 => [1, 2, 3, 4, 5, 6, 7, 8, 9, 10, 11, 12, 13, 14, 15, 16, 17, 18, 19, 20, 21, 22, 23]
  | 25 => [0, 1, 2, 3, 4, 5, 6, 7, 8, 9, 10, 11, 12, 13, 14, 15, 16, 17, 18, 19, 20, 21, 22, 23, 24]
  | 26 => [0, 1, 2, 3, 4, 5, 6, 7, 8, 9, 10, 11, 12, 13, 14, 15, 16, 17, 18, 19, 20, 21, 22, 23, 24, 25]
  | _ => []
def rLI3Trn : Nat → List Nat
  | 6 => [3999]
  | 16 => [3999]
  | 26 => [999]
  | _ => []
def rLI3Cnt : List (Nat × Nat) := [(6, 1), (8, 1), (10, 1), (16, 1), (18, 1), (20, 1), (23, 2)]
def rLI3T999 (pb : Nat) (sb : Nat) (PC : Array Value) (C : Array Value) (i : Nat) (c : Nat) (cz : Nat) (src : Int) (ib : Nat) (xb : Nat) (tl : Int) (kb : Nat) (kl : Int) (kv : Nat) (bp : Nat) (bl : Nat) (be : Nat) (eb : Nat) (ll : Int) (TR : Nat) (xr : Nat) (lr : Int) (o0 : Int) (o1 : Bool) (loc : Int) (B1_1 : Nat) (B1 : Nat) (nd3 : Nat) (nd4 : Nat) (nd5 : Nat) (nd6 : Nat) (nd7 : Nat) (nd8 : Nat) (nd9 : Nat) (L9 : Nat → Bool) (α : Rega.Atoms) : Rw := if L9 26 = true then row (B1_1) 34 #[.iface 42 (.pointer (some ⟨α 23, 0, none⟩)), .int .i32 loc] else row (B1_1) 34 #[.nilIface, .int .i32 0]
def rLI3T3999 (pb : Nat) (sb : Nat) (PC : Array Value) (C : Array Value) (i : Nat) (c : Nat) (cz : Nat) (src : Int) (ib : Nat) (xb : Nat) (tl : Int) (kb : Nat) (kl : Int) (kv : Nat) (bp : Nat) (bl : Nat) (be : Nat) (eb : Nat) (ll : Int) (TR : Nat) (xr : Nat) (lr : Int) (o0 : Int) (o1 : Bool) (loc : Int) (B1_1 : Nat) (B1 : Nat) (nd3 : Nat) (nd4 : Nat) (nd5 : Nat) (nd6 : Nat) (nd7 : Nat) (nd8 : Nat) (nd9 : Nat) (L9 : Nat → Bool) (α : Rega.Atoms) : Rw := if L9 16 = true then row (sb) 196 (bumped (bumped C i c) i cz) else if L9 6 = true then row (sb) 196 (bumped C i c) else row (sb) 196 C
def rLI3R (pb : Nat) (sb : Nat) (PC : Array Value) (C : Array Value) (i : Nat) (c : Nat) (cz : Nat) (src : Int) (ib : Nat) (xb : Nat) (tl : Int) (kb : Nat) (kl : Int) (kv : Nat) (bp : Nat) (bl : Nat) (be : Nat) (eb : Nat) (ll : Int) (TR : Nat) (xr : Nat) (lr : Int) (o0 : Int) (o1 : Bool) (loc : Int) (B1_1 : Nat) (B1 : Nat) (nd3 : Nat) (nd4 : Nat) (nd5 : Nat) (nd6 : Nat) (nd7 : Nat) (nd8 : Nat) (nd9 : Nat) (L9 : Nat → Bool) (α : Rega.Atoms) (ix9 : Nat) : Rw := if ix9 = 999 then rLI3T999 pb sb PC C i c cz src ib xb tl kb kl kv bp bl be eb ll TR xr lr o0 o1 loc B1_1 B1 nd3 nd4 nd5 nd6 nd7 nd8 nd9 L9 α else if ix9 = 1999 then row (B1) 34 #[.iface 38 (.pointer (some ⟨xb, 0, none⟩)), .int .i32 ll] else if ix9 = 2999 then row (pb) 178 PC else if ix9 = 3999 then rLI3T3999 pb sb PC C i c cz src ib xb tl kb kl kv bp bl be eb ll TR xr lr o0 o1 loc B1_1 B1 nd3 nd4 nd5 nd6 nd7 nd8 nd9 L9 α else if ix9 = 4999 then row (bp) 25 #[.pointer (some ⟨pb, 0, none⟩)] else if ix9 = 5999 then row (bl) 32 #[.int .i32 loc] else if ix9 = 6999 then row (be) 42 #[.pointer (some ⟨eb, 0, none⟩)] else if ix9 = 7999 then row (eb) 45 #[.iface 38 (.pointer (some ⟨xb, 0, none⟩)), .int .i32 ll, .iface TR (.pointer (some ⟨xr, 0, none⟩)), .int .i32 lr, .int .u8 o0, .bool o1] else if ix9 = 8999 then row (xb) 56 #[.iface 52 (.pointer (some ⟨ib, 0, none⟩)), .int .i32 tl, .iface 40 (.pointer (some ⟨kb, 0, none⟩)), .int .i32 kl, .int .i32 0, .int .u8 0, .bool false, .bool false, .bool false] else if ix9 = 9999 then row (ib) 180 #[.int .u32 src, .int .u32 (i : Int), .bool false, .bool false, .bool false] else if ix9 = 10999 then row (kb) 182 #[.float .f64 kv] else if ix9 = 11999 then row (nd3) 25 #[.pointer (some ⟨pb, 0, none⟩)] else if ix9 = 12999 then row (nd4) 32 #[.int .i32 ll] else if ix9 = 13999 then row (nd5) 34 #[.iface 52 (.pointer (some ⟨ib, 0, none⟩)), .int .i32 tl] else if ix9 = 14999 then row (nd6) 52 #[.pointer (some ⟨ib, 0, none⟩)] else if ix9 = 15999 then row (nd7) 32 #[.int .i32 ll] else if ix9 = 16999 then row (nd8) 34 #[.iface 40 (.pointer (some ⟨kb, 0, none⟩)), .int .i32 kl] else if ix9 = 17999 then row (nd9) 40 #[.pointer (some ⟨kb, 0, none⟩)] else if ix9 = 6 then row (α 6) 180 #[.int .u32 src, .int .u32 (i : Int), .bool false, .bool false, .bool false] else if ix9 = 8 then row (α 8) 182 #[.float .f64 kv] else if ix9 = 10 then row (α 10) 56 #[.iface 52 (.pointer (some ⟨α 6, 0, none⟩)), .int .i32 ll, .iface 40 (.pointer (some ⟨α 8, 0, none⟩)), .int .i32 ll, .int .i32 0, .int .u8 0, .bool false, .bool false, .bool false] else if ix9 = 16 then row (α 16) 180 #[.int .u32 src, .int .u32 (i : Int), .bool false, .bool false, .bool false] else if ix9 = 18 then row (α 18) 182 #[.float .f64 kv] else if ix9 = 20 then row (α 20) 56 #[.iface 52 (.pointer (some ⟨α 16, 0, none⟩)), .int .i32 ll, .iface 40 (.pointer (some ⟨α 18, 0, none⟩)), .int .i32 ll, .int .i32 0, .int .u8 0, .bool false, .bool false, .bool false] else if ix9 = 23 then row (α 23) 45 #[.iface 38 (.pointer (some ⟨α 10, 0, none⟩)), .int .i32 ll, .iface 42 (.pointer (some ⟨α 1023, 0, none⟩)), .int .i32 ll, .int .u8 30, .bool false] else if ix9 = 1023 then row (α 1023) 45 #[.iface 38 (.pointer (some ⟨α 20, 0, none⟩)), .int .i32 ll, .iface TR (.pointer (some ⟨xr, 0, none⟩)), .int .i32 lr, .int .u8 37, .bool false] else (0, .map #[] 0)
theorem rLI3_he (pb : Nat) (sb : Nat) (PC : Array Value) (C : Array Value) (i : Nat) (c : Nat) (cz : Nat) (src : Int) (ib : Nat) (xb : Nat) (tl : Int) (kb : Nat) (kl : Int) (kv : Nat) (bp : Nat) (bl : Nat) (be : Nat) (eb : Nat) (ll : Int) (TR : Nat) (xr : Nat) (lr : Int) (o0 : Int) (o1 : Bool) (loc : Int) (B1_1 : Nat) (B1 : Nat) (nd3 : Nat) (nd4 : Nat) (nd5 : Nat) (nd6 : Nat) (nd7 : Nat) (nd8 : Nat) (nd9 : Nat) : ∀ kk α α', (∀ j, (j % 1000 = kk ∨ j % 1000 ∈ rLI3Anc kk) → α j = α' j) → rLI3E pb sb PC C i c cz src ib xb tl kb kl kv bp bl be eb ll TR xr lr o0 o1 loc B1_1 B1 nd3 nd4 nd5 nd6 nd7 nd8 nd9 kk α = rLI3E pb sb PC C i c cz src ib xb tl kb kl kv bp bl be eb ll TR xr lr o0 o1 loc B1_1 B1 nd3 nd4 nd5 nd6 nd7 nd8 nd9 kk α' := by
  intro kk α α' h
  match kk with
  | 0 => rfl
  | 1 => rfl
  | 2 => rfl
  | 3 => rfl
  | 4 => rfl
  | 5 => rfl
  | 6 => simp only [rLI3E, h 6 (Or.inl rfl)]
  | 7 => rfl
  | 8 => simp only [rLI3E, h 8 (Or.inl rfl)]
  | 9 => simp only [rLI3E, h 6 (Or.inr (by decide)), h 8 (Or.inr (by decide))]
  | 10 => simp only [rLI3E, h 10 (Or.inl rfl)]
  | 11 => simp only [rLI3E, h 10 (Or.inr (by decide))]
  | 12 => simp only [rLI3E, h 10 (Or.inr (by decide))]
  | 13 => rfl
  | 14 => rfl
  | 15 => rfl
  | 16 => simp only [rLI3E, h 16 (Or.inl rfl)]
  | 17 => rfl
  | 18 => simp only [rLI3E, h 18 (Or.inl rfl)]
  | 19 => simp only [rLI3E, h 16 (Or.inr (by decide)), h 18 (Or.inr (by decide))]
  | 20 => simp only [rLI3E, h 20 (Or.inl rfl)]
  | 21 => simp only [rLI3E, h 20 (Or.inr (by decide))]
  | 22 => simp only [rLI3E, h 20 (Or.inr (by decide))]
  | 23 => simp only [rLI3E, h 23 (Or.inl rfl)]
  | 24 => simp only [rLI3E, h 23 (Or.inr (by decide))]
  | 25 => simp only [rLI3E, h 23 (Or.inr (by decide))]
  | 26 => rfl
  | n + 27 => rfl
theorem rLI3_st (pb : Nat) (sb : Nat) (PC : Array Value) (C : Array Value) (i : Nat) (c : Nat) (cz : Nat) (src : Int) (ib : Nat) (xb : Nat) (tl : Int) (kb : Nat) (kl : Int) (kv : Nat) (bp : Nat) (bl : Nat) (be : Nat) (eb : Nat) (ll : Int) (TR : Nat) (xr : Nat) (lr : Int) (o0 : Int) (o1 : Bool) (loc : Int) (B1_1 : Nat) (B1 : Nat) (nd3 : Nat) (nd4 : Nat) (nd5 : Nat) (nd6 : Nat) (nd7 : Nat) (nd8 : Nat) (nd9 : Nat) : Stable rLI3Cnt 18 rLI3Anc rLI3Trn (rLI3R pb sb PC C i c cz src ib xb tl kb kl kv bp bl be eb ll TR xr lr o0 o1 loc B1_1 B1 nd3 nd4 nd5 nd6 nd7 nd8 nd9) := by
  intro k9 L9 α α' ix9 hk hcl hα hact ht
  have hp := act_places hact
  replace hp : ix9 ∈ [999, 1999, 2999, 3999, 4999, 5999, 6999, 7999, 8999, 9999, 10999, 11999, 12999, 13999, 14999, 15999, 16999, 17999, 6, 8, 10, 16, 18, 20, 23, 1023] := hp
  simp only [List.mem_cons, List.not_mem_nil, or_false] at hp
  rcases hp with rfl | rfl | rfl | rfl | rfl | rfl | rfl | rfl | rfl | rfl | rfl | rfl | rfl | rfl | rfl | rfl | rfl | rfl | rfl | rfl | rfl | rfl | rfl | rfl | rfl | rfl
  · show rLI3T999 pb sb PC C i c cz src ib xb tl kb kl kv bp bl be eb ll TR xr lr o0 o1 loc B1_1 B1 nd3 nd4 nd5 nd6 nd7 nd8 nd9 (Rega.ran L9 k9) α' = rLI3T999 pb sb PC C i c cz src ib xb tl kb kl kv bp bl be eb ll TR xr lr o0 o1 loc B1_1 B1 nd3 nd4 nd5 nd6 nd7 nd8 nd9 L9 α
    unfold rLI3T999
    have n26 : 26 ≠ k9 := fun e => ht (by rw [← e]; decide)
    rw [ran_ne n26]
    by_cases e26 : L9 26 = true
    · first | rw [if_pos e26, if_pos e26] | rw [if_pos e26]
      try simp only [hα 23 (ne_ran hk (hcl 26 e26 23 (by decide)))]
    first | rw [if_neg e26, if_neg e26] | rw [if_neg e26]
  · rfl
  · rfl
  · show rLI3T3999 pb sb PC C i c cz src ib xb tl kb kl kv bp bl be eb ll TR xr lr o0 o1 loc B1_1 B1 nd3 nd4 nd5 nd6 nd7 nd8 nd9 (Rega.ran L9 k9) α' = rLI3T3999 pb sb PC C i c cz src ib xb tl kb kl kv bp bl be eb ll TR xr lr o0 o1 loc B1_1 B1 nd3 nd4 nd5 nd6 nd7 nd8 nd9 L9 α
    unfold rLI3T3999
    have n6 : 6 ≠ k9 := fun e => ht (by rw [← e]; decide)
    have n16 : 16 ≠ k9 := fun e => ht (by rw [← e]; decide)
    rw [ran_ne n6, ran_ne n16]
  · rfl
  · rfl
  · rfl
  · rfl
  · rfl
  · rfl
  · rfl
  · rfl
  · rfl
  · rfl
  · rfl
  · rfl
  · rfl
  · rfl
  · have e0 : L9 6 = true := act_lt hact (by decide)
    show row (α' 6) 180 #[.int .u32 src, .int .u32 (i : Int), .bool false, .bool false, .bool false] = row (α 6) 180 #[.int .u32 src, .int .u32 (i : Int), .bool false, .bool false, .bool false]
    simp only [hα 6 (ne_ran hk e0)]
  · have e0 : L9 8 = true := act_lt hact (by decide)
    show row (α' 8) 182 #[.float .f64 kv] = row (α 8) 182 #[.float .f64 kv]
    simp only [hα 8 (ne_ran hk e0)]
  · have e0 : L9 10 = true := act_lt hact (by decide)
    show row (α' 10) 56 #[.iface 52 (.pointer (some ⟨α' 6, 0, none⟩)), .int .i32 ll, .iface 40 (.pointer (some ⟨α' 8, 0, none⟩)), .int .i32 ll, .int .i32 0, .int .u8 0, .bool false, .bool false, .bool false] = row (α 10) 56 #[.iface 52 (.pointer (some ⟨α 6, 0, none⟩)), .int .i32 ll, .iface 40 (.pointer (some ⟨α 8, 0, none⟩)), .int .i32 ll, .int .i32 0, .int .u8 0, .bool false, .bool false, .bool false]
    simp only [hα 6 (ne_ran hk (hcl 10 e0 6 (by decide))), hα 8 (ne_ran hk (hcl 10 e0 8 (by decide))), hα 10 (ne_ran hk e0)]
  · have e0 : L9 16 = true := act_lt hact (by decide)
    show row (α' 16) 180 #[.int .u32 src, .int .u32 (i : Int), .bool false, .bool false, .bool false] = row (α 16) 180 #[.int .u32 src, .int .u32 (i : Int), .bool false, .bool false, .bool false]
    simp only [hα 16 (ne_ran hk e0)]
  · have e0 : L9 18 = true := act_lt hact (by decide)
    show row (α' 18) 182 #[.float .f64 kv] = row (α 18) 182 #[.float .f64 kv]
    simp only [hα 18 (ne_ran hk e0)]
  · have e0 : L9 20 = true := act_lt hact (by decide)
    show row (α' 20) 56 #[.iface 52 (.pointer (some ⟨α' 16, 0, none⟩)), .int .i32 ll, .iface 40 (.pointer (some ⟨α' 18, 0, none⟩)), .int .i32 ll, .int .i32 0, .int .u8 0, .bool false, .bool false, .bool false] = row (α 20) 56 #[.iface 52 (.pointer (some ⟨α 16, 0, none⟩)), .int .i32 ll, .iface 40 (.pointer (some ⟨α 18, 0, none⟩)), .int .i32 ll, .int .i32 0, .int .u8 0, .bool false, .bool false, .bool false]
    simp only [hα 16 (ne_ran hk (hcl 20 e0 16 (by decide))), hα 18 (ne_ran hk (hcl 20 e0 18 (by decide))), hα 20 (ne_ran hk e0)]
  · have e0 : L9 23 = true := act_lt hact (by decide)
    show row (α' 23) 45 #[.iface 38 (.pointer (some ⟨α' 10, 0, none⟩)), .int .i32 ll, .iface 42 (.pointer (some ⟨α' 1023, 0, none⟩)), .int .i32 ll, .int .u8 30, .bool false] = row (α 23) 45 #[.iface 38 (.pointer (some ⟨α 10, 0, none⟩)), .int .i32 ll, .iface 42 (.pointer (some ⟨α 1023, 0, none⟩)), .int .i32 ll, .int .u8 30, .bool false]
    simp only [hα 10 (ne_ran hk (hcl 23 e0 10 (by decide))), hα 23 (ne_ran hk e0), hα 1023 (ne_ran hk e0)]
  · have e0 : L9 23 = true := act_lt hact (by decide)
    show row (α' 1023) 45 #[.iface 38 (.pointer (some ⟨α' 20, 0, none⟩)), .int .i32 ll, .iface TR (.pointer (some ⟨xr, 0, none⟩)), .int .i32 lr, .int .u8 37, .bool false] = row (α 1023) 45 #[.iface 38 (.pointer (some ⟨α 20, 0, none⟩)), .int .i32 ll, .iface TR (.pointer (some ⟨xr, 0, none⟩)), .int .i32 lr, .int .u8 37, .bool false]
    simp only [hα 20 (ne_ran hk (hcl 23 e0 20 (by decide))), hα 1023 (ne_ran hk e0)]
def lowIxPost (pb sb n cap : Nat) (PC C : Array Value) (x : Int) (i c cz : Nat) (src : Int) (ib xb : Nat) (tl : Int) (kb : Nat) (kl : Int) (kv bp bl be eb : Nat) (ll : Int) (TR xr : Nat) (lr o0 : Int) (o1 : Bool) (loc : Int) (w0 : World) (X : Nat → Obj → Prop) (e : Ending) (w' : World) : Prop :=
  ∃ ab : Nat, ∃ cb : Nat, ∃ d1 : Nat, ∃ d2 : Nat, ∃ i1 : Nat, ∃ k1 : Nat, ∃ i2 : Nat, ∃ k2 : Nat, e = .returned (.agg #[.iface 42 (.pointer (some ⟨ab, 0, none⟩)), .int .i32 loc]) ∧ Own w0 w' [row (pb) 178 PC, row (sb) 196 (bumped (bumped C i c) i cz), row (bp) 25 #[.pointer (some ⟨pb, 0, none⟩)], row (bl) 32 #[.int .i32 loc], row (be) 42 #[.pointer (some ⟨eb, 0, none⟩)], row (eb) 45 #[.iface 38 (.pointer (some ⟨xb, 0, none⟩)), .int .i32 ll, .iface TR (.pointer (some ⟨xr, 0, none⟩)), .int .i32 lr, .int .u8 o0, .bool o1], row (xb) 56 #[.iface 52 (.pointer (some ⟨ib, 0, none⟩)), .int .i32 tl, .iface 40 (.pointer (some ⟨kb, 0, none⟩)), .int .i32 kl, .int .i32 0, .int .u8 0, .bool false, .bool false, .bool false], row (ib) 180 #[.int .u32 src, .int .u32 (i : Int), .bool false, .bool false, .bool false], row (kb) 182 #[.float .f64 kv], row (ab) 45 #[.iface 38 (.pointer (some ⟨d1, 0, none⟩)), .int .i32 ll, .iface 42 (.pointer (some ⟨cb, 0, none⟩)), .int .i32 ll, .int .u8 30, .bool false], row (cb) 45 #[.iface 38 (.pointer (some ⟨d2, 0, none⟩)), .int .i32 ll, .iface TR (.pointer (some ⟨xr, 0, none⟩)), .int .i32 lr, .int .u8 37, .bool false], row (d1) 56 #[.iface 52 (.pointer (some ⟨i1, 0, none⟩)), .int .i32 ll, .iface 40 (.pointer (some ⟨k1, 0, none⟩)), .int .i32 ll, .int .i32 0, .int .u8 0, .bool false, .bool false, .bool false], row (d2) 56 #[.iface 52 (.pointer (some ⟨i2, 0, none⟩)), .int .i32 ll, .iface 40 (.pointer (some ⟨k2, 0, none⟩)), .int .i32 ll, .int .i32 0, .int .u8 0, .bool false, .bool false, .bool false], row (i1) 180 #[.int .u32 src, .int .u32 (i : Int), .bool false, .bool false, .bool false], row (k1) 182 #[.float .f64 kv], row (i2) 180 #[.int .u32 src, .int .u32 (i : Int), .bool false, .bool false, .bool false], row (k2) 182 #[.float .f64 kv]] X
set_option maxRecDepth 100000 in
set_option maxHeartbeats 1000000 in
theorem lowIx (pb sb n cap : Nat) (PC C : Array Value) (x : Int) (i c cz : Nat) (src : Int) (ib xb : Nat) (tl : Int) (kb : Nat) (kl : Int) (kv bp bl be eb : Nat) (ll : Int) (TR xr : Nat) (lr o0 : Int) (o1 : Bool) (loc : Int) (w0 w : World) (X : Nat → Obj → Prop) (hO : Own w0 w [row (pb) 178 PC, row (sb) 196 C, row (bp) 25 #[.pointer (some ⟨pb, 0, none⟩)], row (bl) 32 #[.int .i32 loc], row (be) 42 #[.pointer (some ⟨eb, 0, none⟩)], row (eb) 45 #[.iface 38 (.pointer (some ⟨xb, 0, none⟩)), .int .i32 ll, .iface TR (.pointer (some ⟨xr, 0, none⟩)), .int .i32 lr, .int .u8 o0, .bool o1], row (xb) 56 #[.iface 52 (.pointer (some ⟨ib, 0, none⟩)), .int .i32 tl, .iface 40 (.pointer (some ⟨kb, 0, none⟩)), .int .i32 kl, .int .i32 0, .int .u8 0, .bool false, .bool false, .bool false], row (ib) 180 #[.int .u32 src, .int .u32 (i : Int), .bool false, .bool false, .bool false], row (kb) 182 #[.float .f64 kv]] X) (hR : Ready PC sb n cap) (hn : n ≤ 4294967295) (hi : i < n) (hc : C[i * 10 + 4]? = some (.int .u32 (c : Int))) (hcm : c < 4294967295) (hcz : (bumped C i c)[i * 10 + 4]? = some (.int .u32 (cz : Int))) (hczm : cz < 4294967295) (hx : PC[23]? = some (.int .u64 x)) (hx1 : (bits BinOp.and IntKind.u64 x 4398046511104 != 0) = false) :
    Calls Tryz.prog 26 #[.pointer (some ⟨pb, 0, none⟩), .agg #[.iface 38 (.pointer (some ⟨xb, 0, none⟩)), .int .i32 ll], .func (Fn.func 27) #[] #[.pointer (some ⟨bp, 0, none⟩), .pointer (some ⟨bl, 0, none⟩), .pointer (some ⟨be, 0, none⟩)]] w (lowIxPost pb sb n cap PC C x i c cz src ib xb tl kb kl kv bp bl be eb ll TR xr lr o0 o1 loc w0 X) := by
  go_enter Tryz.func26, Tryz.ntmps26
  have c9_2_0 : w.cell? ⟨bp, 0, none⟩ = some (.pointer (some ⟨pb, 0, none⟩)) := hO.cell 2 rfl 0 rfl
  have lt9_2 : bp < w.heap.size := hO.lt 2 rfl
  have y9_2 : ∀ o, w.frozen? ⟨bp, o, none⟩ = false := hO.free 2 rfl
  have c9_3_0 : w.cell? ⟨bl, 0, none⟩ = some (.int .i32 loc) := hO.cell 3 rfl 0 rfl
  have lt9_3 : bl < w.heap.size := hO.lt 3 rfl
  have y9_3 : ∀ o, w.frozen? ⟨bl, o, none⟩ = false := hO.free 3 rfl
  have c9_4_0 : w.cell? ⟨be, 0, none⟩ = some (.pointer (some ⟨eb, 0, none⟩)) := hO.cell 4 rfl 0 rfl
  have lt9_4 : be < w.heap.size := hO.lt 4 rfl
  have y9_4 : ∀ o, w.frozen? ⟨be, o, none⟩ = false := hO.free 4 rfl
  have c9_5_0 : w.cell? ⟨eb, 0, none⟩ = some (.iface 38 (.pointer (some ⟨xb, 0, none⟩))) := hO.cell 5 rfl 0 rfl
  have c9_5_1 : w.cell? ⟨eb, 1, none⟩ = some (.int .i32 ll) := hO.cell 5 rfl 1 rfl
  have c9_5_2 : w.cell? ⟨eb, 2, none⟩ = some (.iface TR (.pointer (some ⟨xr, 0, none⟩))) := hO.cell 5 rfl 2 rfl
  have c9_5_3 : w.cell? ⟨eb, 3, none⟩ = some (.int .i32 lr) := hO.cell 5 rfl 3 rfl
  have c9_5_4 : w.cell? ⟨eb, 4, none⟩ = some (.int .u8 o0) := hO.cell 5 rfl 4 rfl
  have c9_5_5 : w.cell? ⟨eb, 5, none⟩ = some (.bool o1) := hO.cell 5 rfl 5 rfl
  have lt9_5 : eb < w.heap.size := hO.lt 5 rfl
  have y9_5 : ∀ o, w.frozen? ⟨eb, o, none⟩ = false := hO.free 5 rfl
  have c9_6_0 : w.cell? ⟨xb, 0, none⟩ = some (.iface 52 (.pointer (some ⟨ib, 0, none⟩))) := hO.cell 6 rfl 0 rfl
  have c9_6_1 : w.cell? ⟨xb, 1, none⟩ = some (.int .i32 tl) := hO.cell 6 rfl 1 rfl
  have c9_6_2 : w.cell? ⟨xb, 2, none⟩ = some (.iface 40 (.pointer (some ⟨kb, 0, none⟩))) := hO.cell 6 rfl 2 rfl
  have c9_6_3 : w.cell? ⟨xb, 3, none⟩ = some (.int .i32 kl) := hO.cell 6 rfl 3 rfl
  have c9_6_4 : w.cell? ⟨xb, 4, none⟩ = some (.int .i32 0) := hO.cell 6 rfl 4 rfl
  have c9_6_5 : w.cell? ⟨xb, 5, none⟩ = some (.int .u8 0) := hO.cell 6 rfl 5 rfl
  have c9_6_6 : w.cell? ⟨xb, 6, none⟩ = some (.bool false) := hO.cell 6 rfl 6 rfl
  have c9_6_7 : w.cell? ⟨xb, 7, none⟩ = some (.bool false) := hO.cell 6 rfl 7 rfl
  have c9_6_8 : w.cell? ⟨xb, 8, none⟩ = some (.bool false) := hO.cell 6 rfl 8 rfl
  have lt9_6 : xb < w.heap.size := hO.lt 6 rfl
  have y9_6 : ∀ o, w.frozen? ⟨xb, o, none⟩ = false := hO.free 6 rfl
  have c9_7_0 : w.cell? ⟨ib, 0, none⟩ = some (.int .u32 src) := hO.cell 7 rfl 0 rfl
  have c9_7_1 : w.cell? ⟨ib, 1, none⟩ = some (.int .u32 (i : Int)) := hO.cell 7 rfl 1 rfl
  have c9_7_2 : w.cell? ⟨ib, 2, none⟩ = some (.bool false) := hO.cell 7 rfl 2 rfl
  have c9_7_3 : w.cell? ⟨ib, 3, none⟩ = some (.bool false) := hO.cell 7 rfl 3 rfl
  have c9_7_4 : w.cell? ⟨ib, 4, none⟩ = some (.bool false) := hO.cell 7 rfl 4 rfl
  have lt9_7 : ib < w.heap.size := hO.lt 7 rfl
  have y9_7 : ∀ o, w.frozen? ⟨ib, o, none⟩ = false := hO.free 7 rfl
  have c9_8_0 : w.cell? ⟨kb, 0, none⟩ = some (.float .f64 kv) := hO.cell 8 rfl 0 rfl
  have lt9_8 : kb < w.heap.size := hO.lt 8 rfl
  have y9_8 : ∀ o, w.frozen? ⟨kb, o, none⟩ = false := hO.free 8 rfl
  have HO := Lib.hid hO
  clear hO
  go_wp2_with fail
  have hO := HO.out
  clear HO c9_2_0 lt9_2 y9_2 c9_3_0 lt9_3 y9_3 c9_4_0 lt9_4 y9_4 c9_5_0 c9_5_1 c9_5_2 c9_5_3 c9_5_4 c9_5_5 lt9_5 y9_5 c9_6_0 c9_6_1 c9_6_2 c9_6_3 c9_6_4 c9_6_5 c9_6_6 c9_6_7 c9_6_8 lt9_6 y9_6 c9_7_0 c9_7_1 c9_7_2 c9_7_3 c9_7_4 lt9_7 y9_7 c9_8_0 lt9_8 y9_8
  generalize hW : World.alloc _ _ = W2
  have hN : Own w0 W2 [row (w.heap.size + 1) 34 #[.nilIface, .int .i32 0], row (w.heap.size) 34 #[.iface 38 (.pointer (some ⟨xb, 0, none⟩)), .int .i32 ll], row (pb) 178 PC, row (sb) 196 C, row (bp) 25 #[.pointer (some ⟨pb, 0, none⟩)], row (bl) 32 #[.int .i32 loc], row (be) 42 #[.pointer (some ⟨eb, 0, none⟩)], row (eb) 45 #[.iface 38 (.pointer (some ⟨xb, 0, none⟩)), .int .i32 ll, .iface TR (.pointer (some ⟨xr, 0, none⟩)), .int .i32 lr, .int .u8 o0, .bool o1], row (xb) 56 #[.iface 52 (.pointer (some ⟨ib, 0, none⟩)), .int .i32 tl, .iface 40 (.pointer (some ⟨kb, 0, none⟩)), .int .i32 kl, .int .i32 0, .int .u8 0, .bool false, .bool false, .bool false], row (ib) 180 #[.int .u32 src, .int .u32 (i : Int), .bool false, .bool false, .bool false], row (kb) 182 #[.float .f64 kv]] X := by
    rw [← hW]
    exact ((hO).alloc' _ (w.heap.size) (by simp)).alloc' _ (w.heap.size + 1) (by simp)
  clear hW hO
  generalize w.heap.size + 1 = B1_1 at hN ⊢
  generalize w.heap.size = B1 at hN ⊢
  have hO := hN
  clear hN
  refine wp_region_own (e := rLI1E pb sb PC C i src ib xb tl kb kl kv bp bl be eb ll TR xr lr o0 o1 loc B1_1 B1) (anc := rLI1Anc) (G := (fun L9 α u9 => OwnF w0 u9 (act rLI1Cnt 11 L9) (rLI1R pb sb PC C i src ib xb tl kb kl kv bp bl be eb ll TR xr lr o0 o1 loc B1_1 B1 L9 α) X)) (by kernel_rfl) (by kernel_rfl) (by kernel_rfl) (by kernel_rfl) (rLI1_he pb sb PC C i src ib xb tl kb kl kv bp bl be eb ll TR xr lr o0 o1 loc B1_1 B1) ?_ (RunsAll.all ?_) ?_
  · have hp : ∀ i, act rLI1Cnt 11 (fun _ => false) i → i ∈ [999, 1999, 2999, 3999, 4999, 5999, 6999, 7999, 8999, 9999, 10999] := by
      intro i hi
      have h9 : i % 1000 = 999 := by
        by_cases h : i % 1000 = 999
        · exact h
        · exact absurd (act_lt hi h) (by simp)
      unfold act at hi
      rw [if_pos h9] at hi
      simp only [List.mem_cons, List.not_mem_nil, or_false]
      omega
    refine hO.drew.family (fun i hi => ?_) (fun i j hi hj hij => ?_)
    · have := hp i hi
      simp only [List.mem_cons, List.not_mem_nil, or_false] at this
      rcases this with rfl | rfl | rfl | rfl | rfl | rfl | rfl | rfl | rfl | rfl | rfl <;> rfl
    · have h1 := hp i hi
      have h2 := hp j hj
      simp only [List.mem_cons, List.not_mem_nil, or_false] at h1 h2
      omega
  · refine ⟨?_, ?_, ?_, ?_, ?_, ?_, ?_, ?_, ?_, ?_, ?_, ?_, ?_, trivial⟩
    · intro L9 α a9 u9 K9 hL hcl hA hG hS h0 hK
      replace hL : L9 0 = false := hL
      have q0 : a9.tmps[0]? = some (.pointer (some ⟨pb, 0, none⟩)) := (h0 0 (by kernel_rfl)).trans rfl
      have s0 := Rega.eval_of q0
      go_simp
      exact hK _ α _ (fun _ _ => rfl) rfl (step_same (rLI1_st pb sb PC C i src ib xb tl kb kl kv bp bl be eb ll TR xr lr o0 o1 loc B1_1 B1) hL hcl rfl rfl hG)
    · intro L9 α a9 u9 K9 hL hcl hA hG hS h0 hK
      replace hL : L9 1 = false := hL
      have q4 : a9.tmps[4]? = some (.pointer (some ⟨B1, 0, none⟩)) := (h0 4 (by kernel_rfl)).trans rfl
      have s4 := Rega.eval_of q4
      go_simp
      exact hK _ α _ (fun _ _ => rfl) rfl (step_same (rLI1_st pb sb PC C i src ib xb tl kb kl kv bp bl be eb ll TR xr lr o0 o1 loc B1_1 B1) hL hcl rfl rfl hG)
    · intro L9 α a9 u9 K9 hL hcl hA hG hS h0 hK
      replace hL : L9 2 = false := hL
      have q83 : a9.tmps[83]? = some (.pointer (some ⟨B1, 1, none⟩)) := hS 1 83 (by decide) rfl (by show 83 < 152; decide)
      have s83 := Rega.eval_of q83
      have e0 : rLI1R pb sb PC C i src ib xb tl kb kl kv bp bl be eb ll TR xr lr o0 o1 loc B1_1 B1 L9 α 1999 = row (B1) 34 #[.iface 38 (.pointer (some ⟨xb, 0, none⟩)), .int .i32 ll] := rfl
      have hr := hG.rowAt 1999 (act_base 1999 rfl) e0
      have c0 : u9.cell? ⟨B1, 1, none⟩ = some (.int .i32 ll) := hr.cell rfl
      clear hr e0
      go_simp
      exact hK _ α _ (fun _ _ => rfl) rfl (step_same (rLI1_st pb sb PC C i src ib xb tl kb kl kv bp bl be eb ll TR xr lr o0 o1 loc B1_1 B1) hL hcl rfl rfl hG)
    · intro L9 α a9 u9 K9 hL hcl hA hG hS h0 hK
      replace hL : L9 3 = false := hL
      have q10 : a9.tmps[10]? = some (.pointer (some ⟨xb, 0, none⟩)) := (h0 10 (by kernel_rfl)).trans rfl
      have s10 := Rega.eval_of q10
      go_simp
      exact hK _ α _ (fun _ _ => rfl) rfl (step_same (rLI1_st pb sb PC C i src ib xb tl kb kl kv bp bl be eb ll TR xr lr o0 o1 loc B1_1 B1) hL hcl rfl rfl hG)
    · intro L9 α a9 u9 K9 hL hcl hA hG hS h0 hK
      replace hL : L9 4 = false := hL
      have q85 : a9.tmps[85]? = some (.pointer (some ⟨xb, 0, none⟩)) := hS 3 85 (by decide) rfl (by show 85 < 152; decide)
      have s85 := Rega.eval_of q85
      go_simp
      exact hK _ α _ (fun _ _ => rfl) rfl (step_same (rLI1_st pb sb PC C i src ib xb tl kb kl kv bp bl be eb ll TR xr lr o0 o1 loc B1_1 B1) hL hcl rfl rfl hG)
    · intro L9 α a9 u9 K9 hL hcl hA hG hS h0 hK
      replace hL : L9 5 = false := hL
      have q86 : a9.tmps[86]? = some (.pointer (some ⟨xb, 0, none⟩)) := hS 4 86 (by decide) rfl (by show 86 < 152; decide)
      have s86 := Rega.eval_of q86
      go_simp
      exact hK _ α _ (fun _ _ => rfl) rfl (step_same (rLI1_st pb sb PC C i src ib xb tl kb kl kv bp bl be eb ll TR xr lr o0 o1 loc B1_1 B1) hL hcl rfl rfl hG)
    · intro L9 α a9 u9 K9 hL hcl hA hG hS h0 hK
      replace hL : L9 6 = false := hL
      have q87 : a9.tmps[87]? = some (.pointer (some ⟨xb, 0, none⟩)) := hS 5 87 (by decide) rfl (by show 87 < 152; decide)
      have s87 := Rega.eval_of q87
      have e0 : rLI1R pb sb PC C i src ib xb tl kb kl kv bp bl be eb ll TR xr lr o0 o1 loc B1_1 B1 L9 α 8999 = row (xb) 56 #[.iface 52 (.pointer (some ⟨ib, 0, none⟩)), .int .i32 tl, .iface 40 (.pointer (some ⟨kb, 0, none⟩)), .int .i32 kl, .int .i32 0, .int .u8 0, .bool false, .bool false, .bool false] := rfl
      have hr := hG.rowAt 8999 (act_base 8999 rfl) e0
      have c0 : u9.cell? ⟨xb, 0, none⟩ = some (.iface 52 (.pointer (some ⟨ib, 0, none⟩))) := hr.cell rfl
      have c1 : u9.cell? ⟨xb, 1, none⟩ = some (.int .i32 tl) := hr.cell rfl
      clear hr e0
      go_simp
      exact hK _ α _ (fun _ _ => rfl) rfl (step_same (rLI1_st pb sb PC C i src ib xb tl kb kl kv bp bl be eb ll TR xr lr o0 o1 loc B1_1 B1) hL hcl rfl rfl hG)
    · intro L9 α a9 u9 K9 hL hcl hA hG hS h0 hK
      replace hL : L9 7 = false := hL
      have q82 : a9.tmps[82]? = some (.pointer (some ⟨pb, 0, none⟩)) := hS 0 82 (by decide) rfl (by show 82 < 152; decide)
      have s82 := Rega.eval_of q82
      have q84 : a9.tmps[84]? = some (.agg #[.int .i32 ll]) := hS 2 84 (by decide) rfl (by show 84 < 152; decide)
      have s84 := Rega.eval_of q84
      have q88 : a9.tmps[88]? = some (.agg #[.iface 52 (.pointer (some ⟨ib, 0, none⟩)), .int .i32 tl]) := hS 6 88 (by decide) rfl (by show 88 < 152; decide)
      have s88 := Rega.eval_of q88
      go_simp
      have hM : ∀ i, i ∈ [] → act rLI1Cnt 11 L9 i := by intro i hi; simp at hi
      have hP : Own w0 u9 [] _ := hG.pick [] (by decide) (by simp)
      clear hM
      refine Calls.mono (capIdO pb ib ll tl _ _ _ hP ) ?_
      rintro e9 u1 ⟨b0, b1, b2, b3, rfl, hQ⟩
      obtain ⟨α', hα'⟩ : ∃ α' : Rega.Atoms, α' = (fun j => if j = 7 then b0 else if j = 1007 then b1 else if j = 2007 then b2 else if j = 3007 then b3 else α j) := ⟨_, rfl⟩
      have f0 : rLI1R pb sb PC C i src ib xb tl kb kl kv bp bl be eb ll TR xr lr o0 o1 loc B1_1 B1 (Rega.ran L9 7) α' 7 = row (α' 7) 25 #[.pointer (some ⟨pb, 0, none⟩)] := rfl
      have f1 : rLI1R pb sb PC C i src ib xb tl kb kl kv bp bl be eb ll TR xr lr o0 o1 loc B1_1 B1 (Rega.ran L9 7) α' 1007 = row (α' 1007) 32 #[.int .i32 ll] := rfl
      have f2 : rLI1R pb sb PC C i src ib xb tl kb kl kv bp bl be eb ll TR xr lr o0 o1 loc B1_1 B1 (Rega.ran L9 7) α' 2007 = row (α' 2007) 34 #[.iface 52 (.pointer (some ⟨ib, 0, none⟩)), .int .i32 tl] := rfl
      have f3 : rLI1R pb sb PC C i src ib xb tl kb kl kv bp bl be eb ll TR xr lr o0 o1 loc B1_1 B1 (Rega.ran L9 7) α' 3007 = row (α' 3007) 52 #[.pointer (some ⟨ib, 0, none⟩)] := rfl
      have hα : ∀ j, j % 1000 ≠ 7 → α' j = α j := fun j hj => by rw [hα']; simp only []; rw [if_neg (by omega), if_neg (by omega), if_neg (by omega), if_neg (by omega)]
      have hb0 : α' 7 = b0 := by rw [hα']; rfl
      have hb1 : α' 1007 = b1 := by rw [hα']; rfl
      have hb2 : α' 2007 = b2 := by rw [hα']; rfl
      have hb3 : α' 3007 = b3 := by rw [hα']; rfl
      skip
      refine hK _ α' _ hα ?_ (step_call (rLI1_st pb sb PC C i src ib xb tl kb kl kv bp bl be eb ll TR xr lr o0 o1 loc B1_1 B1) hL hcl hα [] [7, 1007, 2007, 3007] (by decide) (by decide) (by decide) (M := _) ?_ hG hQ)
      · show _ = (.tuple #[.func (Fn.func 39) #[] #[.pointer (some ⟨α' 7, 0, none⟩), .pointer (some ⟨α' 3007, 0, none⟩), .pointer (some ⟨α' 1007, 0, none⟩)], .func (Fn.func 30) #[] #[.pointer (some ⟨α' 2007, 0, none⟩)]] : Value)
        simp only [hb0, hb1, hb2, hb3]
      · show [rLI1R pb sb PC C i src ib xb tl kb kl kv bp bl be eb ll TR xr lr o0 o1 loc B1_1 B1 (Rega.ran L9 7) α' 7, rLI1R pb sb PC C i src ib xb tl kb kl kv bp bl be eb ll TR xr lr o0 o1 loc B1_1 B1 (Rega.ran L9 7) α' 1007, rLI1R pb sb PC C i src ib xb tl kb kl kv bp bl be eb ll TR xr lr o0 o1 loc B1_1 B1 (Rega.ran L9 7) α' 2007, rLI1R pb sb PC C i src ib xb tl kb kl kv bp bl be eb ll TR xr lr o0 o1 loc B1_1 B1 (Rega.ran L9 7) α' 3007] = _
        rw [f0, f1, f2, f3]
        simp only [hb0, hb1, hb2, hb3]
    · intro L9 α a9 u9 K9 hL hcl hA hG hS h0 hK
      replace hL : L9 8 = false := hL
      have q89 : a9.tmps[89]? = some (.tuple #[.func (Fn.func 39) #[] #[.pointer (some ⟨α 7, 0, none⟩), .pointer (some ⟨α 3007, 0, none⟩), .pointer (some ⟨α 1007, 0, none⟩)], .func (Fn.func 30) #[] #[.pointer (some ⟨α 2007, 0, none⟩)]]) := hS 7 89 (by decide) rfl (by show 89 < 152; decide)
      have s89 := Rega.eval_of q89
      go_simp
      exact hK _ α _ (fun _ _ => rfl) rfl (step_same (rLI1_st pb sb PC C i src ib xb tl kb kl kv bp bl be eb ll TR xr lr o0 o1 loc B1_1 B1) hL hcl rfl rfl hG)
    · intro L9 α a9 u9 K9 hL hcl hA hG hS h0 hK
      replace hL : L9 9 = false := hL
      have q81 : a9.tmps[81]? = some (.tuple #[.func (Fn.func 39) #[] #[.pointer (some ⟨α 7, 0, none⟩), .pointer (some ⟨α 3007, 0, none⟩), .pointer (some ⟨α 1007, 0, none⟩)], .func (Fn.func 30) #[] #[.pointer (some ⟨α 2007, 0, none⟩)]]) := hS 8 81 (by decide) rfl (by show 81 < 152; decide)
      have s81 := Rega.eval_of q81
      go_simp
      exact hK _ α _ (fun _ _ => rfl) rfl (step_same (rLI1_st pb sb PC C i src ib xb tl kb kl kv bp bl be eb ll TR xr lr o0 o1 loc B1_1 B1) hL hcl rfl rfl hG)
    · intro L9 α a9 u9 K9 hL hcl hA hG hS h0 hK
      replace hL : L9 10 = false := hL
      have q81 : a9.tmps[81]? = some (.tuple #[.func (Fn.func 39) #[] #[.pointer (some ⟨α 7, 0, none⟩), .pointer (some ⟨α 3007, 0, none⟩), .pointer (some ⟨α 1007, 0, none⟩)], .func (Fn.func 30) #[] #[.pointer (some ⟨α 2007, 0, none⟩)]]) := hS 8 81 (by decide) rfl (by show 81 < 152; decide)
      have s81 := Rega.eval_of q81
      go_simp
      exact hK _ α _ (fun _ _ => rfl) rfl (step_same (rLI1_st pb sb PC C i src ib xb tl kb kl kv bp bl be eb ll TR xr lr o0 o1 loc B1_1 B1) hL hcl rfl rfl hG)
    · intro L9 α a9 u9 K9 hL hcl hA hG hS h0 hK
      replace hL : L9 11 = false := hL
      have q90 : a9.tmps[90]? = some (.func (Fn.func 39) #[] #[.pointer (some ⟨α 7, 0, none⟩), .pointer (some ⟨α 3007, 0, none⟩), .pointer (some ⟨α 1007, 0, none⟩)]) := hS 9 90 (by decide) rfl (by show 90 < 152; decide)
      have s90 := Rega.eval_of q90
      go_simp
      exact hK _ α _ (fun _ _ => rfl) rfl (step_same (rLI1_st pb sb PC C i src ib xb tl kb kl kv bp bl be eb ll TR xr lr o0 o1 loc B1_1 B1) hL hcl rfl rfl hG)
    · intro L9 α a9 u9 K9 hL hcl hA hG hS h0 hK
      replace hL : L9 12 = false := hL
      have q91 : a9.tmps[91]? = some (.func (Fn.func 30) #[] #[.pointer (some ⟨α 2007, 0, none⟩)]) := hS 10 91 (by decide) rfl (by show 91 < 152; decide)
      have s91 := Rega.eval_of q91
      go_simp
      exact hK _ α _ (fun _ _ => rfl) rfl (step_same (rLI1_st pb sb PC C i src ib xb tl kb kl kv bp bl be eb ll TR xr lr o0 o1 loc B1_1 B1) hL hcl rfl rfl hG)
  · intro α u hG
    have e0 : rLI1R pb sb PC C i src ib xb tl kb kl kv bp bl be eb ll TR xr lr o0 o1 loc B1_1 B1 (fun k => decide (k < 13)) α 999 = row (B1_1) 34 #[.nilIface, .int .i32 0] := rfl
    have e1 : rLI1R pb sb PC C i src ib xb tl kb kl kv bp bl be eb ll TR xr lr o0 o1 loc B1_1 B1 (fun k => decide (k < 13)) α 1999 = row (B1) 34 #[.iface 38 (.pointer (some ⟨xb, 0, none⟩)), .int .i32 ll] := rfl
    have e2 : rLI1R pb sb PC C i src ib xb tl kb kl kv bp bl be eb ll TR xr lr o0 o1 loc B1_1 B1 (fun k => decide (k < 13)) α 2999 = row (pb) 178 PC := rfl
    have e3 : rLI1R pb sb PC C i src ib xb tl kb kl kv bp bl be eb ll TR xr lr o0 o1 loc B1_1 B1 (fun k => decide (k < 13)) α 3999 = row (sb) 196 C := rfl
    have e4 : rLI1R pb sb PC C i src ib xb tl kb kl kv bp bl be eb ll TR xr lr o0 o1 loc B1_1 B1 (fun k => decide (k < 13)) α 4999 = row (bp) 25 #[.pointer (some ⟨pb, 0, none⟩)] := rfl
    have e5 : rLI1R pb sb PC C i src ib xb tl kb kl kv bp bl be eb ll TR xr lr o0 o1 loc B1_1 B1 (fun k => decide (k < 13)) α 5999 = row (bl) 32 #[.int .i32 loc] := rfl
    have e6 : rLI1R pb sb PC C i src ib xb tl kb kl kv bp bl be eb ll TR xr lr o0 o1 loc B1_1 B1 (fun k => decide (k < 13)) α 6999 = row (be) 42 #[.pointer (some ⟨eb, 0, none⟩)] := rfl
    have e7 : rLI1R pb sb PC C i src ib xb tl kb kl kv bp bl be eb ll TR xr lr o0 o1 loc B1_1 B1 (fun k => decide (k < 13)) α 7999 = row (eb) 45 #[.iface 38 (.pointer (some ⟨xb, 0, none⟩)), .int .i32 ll, .iface TR (.pointer (some ⟨xr, 0, none⟩)), .int .i32 lr, .int .u8 o0, .bool o1] := rfl
    have e8 : rLI1R pb sb PC C i src ib xb tl kb kl kv bp bl be eb ll TR xr lr o0 o1 loc B1_1 B1 (fun k => decide (k < 13)) α 8999 = row (xb) 56 #[.iface 52 (.pointer (some ⟨ib, 0, none⟩)), .int .i32 tl, .iface 40 (.pointer (some ⟨kb, 0, none⟩)), .int .i32 kl, .int .i32 0, .int .u8 0, .bool false, .bool false, .bool false] := rfl
    have e9 : rLI1R pb sb PC C i src ib xb tl kb kl kv bp bl be eb ll TR xr lr o0 o1 loc B1_1 B1 (fun k => decide (k < 13)) α 9999 = row (ib) 180 #[.int .u32 src, .int .u32 (i : Int), .bool false, .bool false, .bool false] := rfl
    have e10 : rLI1R pb sb PC C i src ib xb tl kb kl kv bp bl be eb ll TR xr lr o0 o1 loc B1_1 B1 (fun k => decide (k < 13)) α 10999 = row (kb) 182 #[.float .f64 kv] := rfl
    have e11 : rLI1R pb sb PC C i src ib xb tl kb kl kv bp bl be eb ll TR xr lr o0 o1 loc B1_1 B1 (fun k => decide (k < 13)) α 7 = row (α 7) 25 #[.pointer (some ⟨pb, 0, none⟩)] := rfl
    have e12 : rLI1R pb sb PC C i src ib xb tl kb kl kv bp bl be eb ll TR xr lr o0 o1 loc B1_1 B1 (fun k => decide (k < 13)) α 1007 = row (α 1007) 32 #[.int .i32 ll] := rfl
    have e13 : rLI1R pb sb PC C i src ib xb tl kb kl kv bp bl be eb ll TR xr lr o0 o1 loc B1_1 B1 (fun k => decide (k < 13)) α 2007 = row (α 2007) 34 #[.iface 52 (.pointer (some ⟨ib, 0, none⟩)), .int .i32 tl] := rfl
    have e14 : rLI1R pb sb PC C i src ib xb tl kb kl kv bp bl be eb ll TR xr lr o0 o1 loc B1_1 B1 (fun k => decide (k < 13)) α 3007 = row (α 3007) 52 #[.pointer (some ⟨ib, 0, none⟩)] := rfl
    have hO : Own w0 u [row (B1_1) 34 #[.nilIface, .int .i32 0], row (B1) 34 #[.iface 38 (.pointer (some ⟨xb, 0, none⟩)), .int .i32 ll], row (pb) 178 PC, row (sb) 196 C, row (bp) 25 #[.pointer (some ⟨pb, 0, none⟩)], row (bl) 32 #[.int .i32 loc], row (be) 42 #[.pointer (some ⟨eb, 0, none⟩)], row (eb) 45 #[.iface 38 (.pointer (some ⟨xb, 0, none⟩)), .int .i32 ll, .iface TR (.pointer (some ⟨xr, 0, none⟩)), .int .i32 lr, .int .u8 o0, .bool o1], row (xb) 56 #[.iface 52 (.pointer (some ⟨ib, 0, none⟩)), .int .i32 tl, .iface 40 (.pointer (some ⟨kb, 0, none⟩)), .int .i32 kl, .int .i32 0, .int .u8 0, .bool false, .bool false, .bool false], row (ib) 180 #[.int .u32 src, .int .u32 (i : Int), .bool false, .bool false, .bool false], row (kb) 182 #[.float .f64 kv], row (α 7) 25 #[.pointer (some ⟨pb, 0, none⟩)], row (α 1007) 32 #[.int .i32 ll], row (α 2007) 34 #[.iface 52 (.pointer (some ⟨ib, 0, none⟩)), .int .i32 tl], row (α 3007) 52 #[.pointer (some ⟨ib, 0, none⟩)]] X := (hG.list [999, 1999, 2999, 3999, 4999, 5999, 6999, 7999, 8999, 9999, 10999, 7, 1007, 2007, 3007] (by decide) (act_all (by decide))).conv (by
      show [rLI1R pb sb PC C i src ib xb tl kb kl kv bp bl be eb ll TR xr lr o0 o1 loc B1_1 B1 (fun k => decide (k < 13)) α 999, rLI1R pb sb PC C i src ib xb tl kb kl kv bp bl be eb ll TR xr lr o0 o1 loc B1_1 B1 (fun k => decide (k < 13)) α 1999, rLI1R pb sb PC C i src ib xb tl kb kl kv bp bl be eb ll TR xr lr o0 o1 loc B1_1 B1 (fun k => decide (k < 13)) α 2999, rLI1R pb sb PC C i src ib xb tl kb kl kv bp bl be eb ll TR xr lr o0 o1 loc B1_1 B1 (fun k => decide (k < 13)) α 3999, rLI1R pb sb PC C i src ib xb tl kb kl kv bp bl be eb ll TR xr lr o0 o1 loc B1_1 B1 (fun k => decide (k < 13)) α 4999, rLI1R pb sb PC C i src ib xb tl kb kl kv bp bl be eb ll TR xr lr o0 o1 loc B1_1 B1 (fun k => decide (k < 13)) α 5999, rLI1R pb sb PC C i src ib xb tl kb kl kv bp bl be eb ll TR xr lr o0 o1 loc B1_1 B1 (fun k => decide (k < 13)) α 6999, rLI1R pb sb PC C i src ib xb tl kb kl kv bp bl be eb ll TR xr lr o0 o1 loc B1_1 B1 (fun k => decide (k < 13)) α 7999, rLI1R pb sb PC C i src ib xb tl kb kl kv bp bl be eb ll TR xr lr o0 o1 loc B1_1 B1 (fun k => decide (k < 13)) α 8999, rLI1R pb sb PC C i src ib xb tl kb kl kv bp bl be eb ll TR xr lr o0 o1 loc B1_1 B1 (fun k => decide (k < 13)) α 9999, rLI1R pb sb PC C i src ib xb tl kb kl kv bp bl be eb ll TR xr lr o0 o1 loc B1_1 B1 (fun k => decide (k < 13)) α 10999, rLI1R pb sb PC C i src ib xb tl kb kl kv bp bl be eb ll TR xr lr o0 o1 loc B1_1 B1 (fun k => decide (k < 13)) α 7, rLI1R pb sb PC C i src ib xb tl kb kl kv bp bl be eb ll TR xr lr o0 o1 loc B1_1 B1 (fun k => decide (k < 13)) α 1007, rLI1R pb sb PC C i src ib xb tl kb kl kv bp bl be eb ll TR xr lr o0 o1 loc B1_1 B1 (fun k => decide (k < 13)) α 2007, rLI1R pb sb PC C i src ib xb tl kb kl kv bp bl be eb ll TR xr lr o0 o1 loc B1_1 B1 (fun k => decide (k < 13)) α 3007] = _
      rw [e0, e1, e2, e3, e4, e5, e6, e7, e8, e9, e10, e11, e12, e13, e14])
    clear hG e0 e1 e2 e3 e4 e5 e6 e7 e8 e9 e10 e11 e12 e13 e14
    generalize hfr : Rega.frameAt _ _ _ _ _ = fr
    have hdf : fr = ⟨#[.pointer (some ⟨pb, 0, none⟩), .agg #[.iface 38 (.pointer (some ⟨xb, 0, none⟩)), .int .i32 ll], .func (Fn.func 27) #[] #[.pointer (some ⟨bp, 0, none⟩), .pointer (some ⟨bl, 0, none⟩), .pointer (some ⟨be, 0, none⟩)], undef, .pointer (some ⟨B1, 0, none⟩), undef, .pointer (some ⟨B1_1, 0, none⟩), undef, undef, undef, .pointer (some ⟨xb, 0, none⟩), .func (Fn.func 39) #[] #[.pointer (some ⟨α 7, 0, none⟩), .pointer (some ⟨α 3007, 0, none⟩), .pointer (some ⟨α 1007, 0, none⟩)], .func (Fn.func 30) #[] #[.pointer (some ⟨α 2007, 0, none⟩)], undef, undef, undef, .pointer (some ⟨B1, 0, none⟩), .iface 38 (.pointer (some ⟨xb, 0, none⟩)), .tuple #[.pointer none, .bool false], .bool false, .pointer none, undef, undef, undef, undef, undef, undef, undef, undef, undef, undef, undef, undef, undef, undef, undef, undef, undef, undef, undef, undef, undef, undef, undef, undef, undef, undef, undef, undef, undef, undef, undef, undef, undef, undef, undef, undef, undef, undef, undef, undef, undef, undef, undef, undef, undef, undef, undef, undef, undef, undef, undef, undef, .tuple #[.pointer (some ⟨xb, 0, none⟩), .bool true], .bool true, .pointer (some ⟨xb, 0, none⟩), .pointer (some ⟨xb, 0, none⟩), .pointer (some ⟨xb, 0, none⟩), .pointer (some ⟨xb, 5, none⟩), .int .u8 0, .bool true, .tuple #[.func (Fn.func 39) #[] #[.pointer (some ⟨α 7, 0, none⟩), .pointer (some ⟨α 3007, 0, none⟩), .pointer (some ⟨α 1007, 0, none⟩)], .func (Fn.func 30) #[] #[.pointer (some ⟨α 2007, 0, none⟩)]], .pointer (some ⟨pb, 0, none⟩), .pointer (some ⟨B1, 1, none⟩), .agg #[.int .i32 ll], .pointer (some ⟨xb, 0, none⟩), .pointer (some ⟨xb, 0, none⟩), .pointer (some ⟨xb, 0, none⟩), .agg #[.iface 52 (.pointer (some ⟨ib, 0, none⟩)), .int .i32 tl], .tuple #[.func (Fn.func 39) #[] #[.pointer (some ⟨α 7, 0, none⟩), .pointer (some ⟨α 3007, 0, none⟩), .pointer (some ⟨α 1007, 0, none⟩)], .func (Fn.func 30) #[] #[.pointer (some ⟨α 2007, 0, none⟩)]], .func (Fn.func 39) #[] #[.pointer (some ⟨α 7, 0, none⟩), .pointer (some ⟨α 3007, 0, none⟩), .pointer (some ⟨α 1007, 0, none⟩)], .func (Fn.func 30) #[] #[.pointer (some ⟨α 2007, 0, none⟩)], undef, undef, undef, undef, undef, undef, undef, undef, undef, undef, undef, undef, undef, undef, undef, undef, undef, undef, undef, undef, undef, undef, undef, undef, undef, undef, undef, undef, undef, undef, undef, undef, undef, undef, undef, undef, undef, undef, undef, undef, undef, undef, undef, undef, undef, undef, undef, undef, undef, undef, undef, undef, undef, undef, undef, undef, undef, undef, undef, undef], []⟩ := by rw [← hfr]; kernel_rfl
    clear hfr
    subst hdf
    generalize α 7 = nd3 at hO ⊢
    generalize α 1007 = nd4 at hO ⊢
    generalize α 2007 = nd5 at hO ⊢
    generalize α 3007 = nd6 at hO ⊢
    clear α
    have c9_0_0 : u.cell? ⟨B1_1, 0, none⟩ = some (.nilIface) := hO.cell 0 rfl 0 rfl
    have c9_0_1 : u.cell? ⟨B1_1, 1, none⟩ = some (.int .i32 0) := hO.cell 0 rfl 1 rfl
    have lt9_0 : B1_1 < u.heap.size := hO.lt 0 rfl
    have y9_0 : ∀ o, u.frozen? ⟨B1_1, o, none⟩ = false := hO.free 0 rfl
    have c9_1_0 : u.cell? ⟨B1, 0, none⟩ = some (.iface 38 (.pointer (some ⟨xb, 0, none⟩))) := hO.cell 1 rfl 0 rfl
    have c9_1_1 : u.cell? ⟨B1, 1, none⟩ = some (.int .i32 ll) := hO.cell 1 rfl 1 rfl
    have lt9_1 : B1 < u.heap.size := hO.lt 1 rfl
    have y9_1 : ∀ o, u.frozen? ⟨B1, o, none⟩ = false := hO.free 1 rfl
    have c9_4_0 : u.cell? ⟨bp, 0, none⟩ = some (.pointer (some ⟨pb, 0, none⟩)) := hO.cell 4 rfl 0 rfl
    have lt9_4 : bp < u.heap.size := hO.lt 4 rfl
    have y9_4 : ∀ o, u.frozen? ⟨bp, o, none⟩ = false := hO.free 4 rfl
    have c9_5_0 : u.cell? ⟨bl, 0, none⟩ = some (.int .i32 loc) := hO.cell 5 rfl 0 rfl
    have lt9_5 : bl < u.heap.size := hO.lt 5 rfl
    have y9_5 : ∀ o, u.frozen? ⟨bl, o, none⟩ = false := hO.free 5 rfl
    have c9_6_0 : u.cell? ⟨be, 0, none⟩ = some (.pointer (some ⟨eb, 0, none⟩)) := hO.cell 6 rfl 0 rfl
    have lt9_6 : be < u.heap.size := hO.lt 6 rfl
    have y9_6 : ∀ o, u.frozen? ⟨be, o, none⟩ = false := hO.free 6 rfl
    have c9_7_0 : u.cell? ⟨eb, 0, none⟩ = some (.iface 38 (.pointer (some ⟨xb, 0, none⟩))) := hO.cell 7 rfl 0 rfl
    have c9_7_1 : u.cell? ⟨eb, 1, none⟩ = some (.int .i32 ll) := hO.cell 7 rfl 1 rfl
    have c9_7_2 : u.cell? ⟨eb, 2, none⟩ = some (.iface TR (.pointer (some ⟨xr, 0, none⟩))) := hO.cell 7 rfl 2 rfl
    have c9_7_3 : u.cell? ⟨eb, 3, none⟩ = some (.int .i32 lr) := hO.cell 7 rfl 3 rfl
    have c9_7_4 : u.cell? ⟨eb, 4, none⟩ = some (.int .u8 o0) := hO.cell 7 rfl 4 rfl
    have c9_7_5 : u.cell? ⟨eb, 5, none⟩ = some (.bool o1) := hO.cell 7 rfl 5 rfl
    have lt9_7 : eb < u.heap.size := hO.lt 7 rfl
    have y9_7 : ∀ o, u.frozen? ⟨eb, o, none⟩ = false := hO.free 7 rfl
    have c9_8_0 : u.cell? ⟨xb, 0, none⟩ = some (.iface 52 (.pointer (some ⟨ib, 0, none⟩))) := hO.cell 8 rfl 0 rfl
    have c9_8_1 : u.cell? ⟨xb, 1, none⟩ = some (.int .i32 tl) := hO.cell 8 rfl 1 rfl
    have c9_8_2 : u.cell? ⟨xb, 2, none⟩ = some (.iface 40 (.pointer (some ⟨kb, 0, none⟩))) := hO.cell 8 rfl 2 rfl
    have c9_8_3 : u.cell? ⟨xb, 3, none⟩ = some (.int .i32 kl) := hO.cell 8 rfl 3 rfl
    have c9_8_4 : u.cell? ⟨xb, 4, none⟩ = some (.int .i32 0) := hO.cell 8 rfl 4 rfl
    have c9_8_5 : u.cell? ⟨xb, 5, none⟩ = some (.int .u8 0) := hO.cell 8 rfl 5 rfl
    have c9_8_6 : u.cell? ⟨xb, 6, none⟩ = some (.bool false) := hO.cell 8 rfl 6 rfl
    have c9_8_7 : u.cell? ⟨xb, 7, none⟩ = some (.bool false) := hO.cell 8 rfl 7 rfl
    have c9_8_8 : u.cell? ⟨xb, 8, none⟩ = some (.bool false) := hO.cell 8 rfl 8 rfl
    have lt9_8 : xb < u.heap.size := hO.lt 8 rfl
    have y9_8 : ∀ o, u.frozen? ⟨xb, o, none⟩ = false := hO.free 8 rfl
    have c9_9_0 : u.cell? ⟨ib, 0, none⟩ = some (.int .u32 src) := hO.cell 9 rfl 0 rfl
    have c9_9_1 : u.cell? ⟨ib, 1, none⟩ = some (.int .u32 (i : Int)) := hO.cell 9 rfl 1 rfl
    have c9_9_2 : u.cell? ⟨ib, 2, none⟩ = some (.bool false) := hO.cell 9 rfl 2 rfl
    have c9_9_3 : u.cell? ⟨ib, 3, none⟩ = some (.bool false) := hO.cell 9 rfl 3 rfl
    have c9_9_4 : u.cell? ⟨ib, 4, none⟩ = some (.bool false) := hO.cell 9 rfl 4 rfl
    have lt9_9 : ib < u.heap.size := hO.lt 9 rfl
    have y9_9 : ∀ o, u.frozen? ⟨ib, o, none⟩ = false := hO.free 9 rfl
    have c9_10_0 : u.cell? ⟨kb, 0, none⟩ = some (.float .f64 kv) := hO.cell 10 rfl 0 rfl
    have lt9_10 : kb < u.heap.size := hO.lt 10 rfl
    have y9_10 : ∀ o, u.frozen? ⟨kb, o, none⟩ = false := hO.free 10 rfl
    have c9_11_0 : u.cell? ⟨nd3, 0, none⟩ = some (.pointer (some ⟨pb, 0, none⟩)) := hO.cell 11 rfl 0 rfl
    have lt9_11 : nd3 < u.heap.size := hO.lt 11 rfl
    have y9_11 : ∀ o, u.frozen? ⟨nd3, o, none⟩ = false := hO.free 11 rfl
    have c9_12_0 : u.cell? ⟨nd4, 0, none⟩ = some (.int .i32 ll) := hO.cell 12 rfl 0 rfl
    have lt9_12 : nd4 < u.heap.size := hO.lt 12 rfl
    have y9_12 : ∀ o, u.frozen? ⟨nd4, o, none⟩ = false := hO.free 12 rfl
    have c9_13_0 : u.cell? ⟨nd5, 0, none⟩ = some (.iface 52 (.pointer (some ⟨ib, 0, none⟩))) := hO.cell 13 rfl 0 rfl
    have c9_13_1 : u.cell? ⟨nd5, 1, none⟩ = some (.int .i32 tl) := hO.cell 13 rfl 1 rfl
    have lt9_13 : nd5 < u.heap.size := hO.lt 13 rfl
    have y9_13 : ∀ o, u.frozen? ⟨nd5, o, none⟩ = false := hO.free 13 rfl
    have c9_14_0 : u.cell? ⟨nd6, 0, none⟩ = some (.pointer (some ⟨ib, 0, none⟩)) := hO.cell 14 rfl 0 rfl
    have lt9_14 : nd6 < u.heap.size := hO.lt 14 rfl
    have y9_14 : ∀ o, u.frozen? ⟨nd6, o, none⟩ = false := hO.free 14 rfl
    have HO := Lib.hid hO
    clear hO
    go_wp2_with fail
    have hO := HO.out
    clear HO c9_0_0 c9_0_1 lt9_0 y9_0 c9_1_0 c9_1_1 lt9_1 y9_1 c9_4_0 lt9_4 y9_4 c9_5_0 lt9_5 y9_5 c9_6_0 lt9_6 y9_6 c9_7_0 c9_7_1 c9_7_2 c9_7_3 c9_7_4 c9_7_5 lt9_7 y9_7 c9_8_0 c9_8_1 c9_8_2 c9_8_3 c9_8_4 c9_8_5 c9_8_6 c9_8_7 c9_8_8 lt9_8 y9_8 c9_9_0 c9_9_1 c9_9_2 c9_9_3 c9_9_4 lt9_9 y9_9 c9_10_0 lt9_10 y9_10 c9_11_0 lt9_11 y9_11 c9_12_0 lt9_12 y9_12 c9_13_0 c9_13_1 lt9_13 y9_13 c9_14_0 lt9_14 y9_14
    refine wp_region_own (e := rLI2E pb sb PC C i src ib xb tl kb kl kv bp bl be eb ll TR xr lr o0 o1 loc B1_1 B1 nd3 nd4 nd5 nd6) (anc := rLI2Anc) (G := (fun L9 α u9 => OwnF w0 u9 (act rLI2Cnt 15 L9) (rLI2R pb sb PC C i src ib xb tl kb kl kv bp bl be eb ll TR xr lr o0 o1 loc B1_1 B1 nd3 nd4 nd5 nd6 L9 α) X)) (by kernel_rfl) (by kernel_rfl) (by kernel_rfl) (by kernel_rfl) (rLI2_he pb sb PC C i src ib xb tl kb kl kv bp bl be eb ll TR xr lr o0 o1 loc B1_1 B1 nd3 nd4 nd5 nd6) ?_ (RunsAll.all ?_) ?_
    · have hp : ∀ i, act rLI2Cnt 15 (fun _ => false) i → i ∈ [999, 1999, 2999, 3999, 4999, 5999, 6999, 7999, 8999, 9999, 10999, 11999, 12999, 13999, 14999] := by
        intro i hi
        have h9 : i % 1000 = 999 := by
          by_cases h : i % 1000 = 999
          · exact h
          · exact absurd (act_lt hi h) (by simp)
        unfold act at hi
        rw [if_pos h9] at hi
        simp only [List.mem_cons, List.not_mem_nil, or_false]
        omega
      refine hO.drew.family (fun i hi => ?_) (fun i j hi hj hij => ?_)
      · have := hp i hi
        simp only [List.mem_cons, List.not_mem_nil, or_false] at this
        rcases this with rfl | rfl | rfl | rfl | rfl | rfl | rfl | rfl | rfl | rfl | rfl | rfl | rfl | rfl | rfl <;> rfl
      · have h1 := hp i hi
        have h2 := hp j hj
        simp only [List.mem_cons, List.not_mem_nil, or_false] at h1 h2
        omega
    · refine ⟨?_, ?_, ?_, ?_, ?_, ?_, ?_, ?_, ?_, ?_, ?_, ?_, ?_, trivial⟩
      · intro L9 α a9 u9 K9 hL hcl hA hG hS h0 hK
        replace hL : L9 0 = false := hL
        have q0 : a9.tmps[0]? = some (.pointer (some ⟨pb, 0, none⟩)) := (h0 0 (by kernel_rfl)).trans rfl
        have s0 := Rega.eval_of q0
        go_simp
        exact hK _ α _ (fun _ _ => rfl) rfl (step_same (rLI2_st pb sb PC C i src ib xb tl kb kl kv bp bl be eb ll TR xr lr o0 o1 loc B1_1 B1 nd3 nd4 nd5 nd6) hL hcl rfl rfl hG)
      · intro L9 α a9 u9 K9 hL hcl hA hG hS h0 hK
        replace hL : L9 1 = false := hL
        have q4 : a9.tmps[4]? = some (.pointer (some ⟨B1, 0, none⟩)) := (h0 4 (by kernel_rfl)).trans rfl
        have s4 := Rega.eval_of q4
        go_simp
        exact hK _ α _ (fun _ _ => rfl) rfl (step_same (rLI2_st pb sb PC C i src ib xb tl kb kl kv bp bl be eb ll TR xr lr o0 o1 loc B1_1 B1 nd3 nd4 nd5 nd6) hL hcl rfl rfl hG)
      · intro L9 α a9 u9 K9 hL hcl hA hG hS h0 hK
        replace hL : L9 2 = false := hL
        have q94 : a9.tmps[94]? = some (.pointer (some ⟨B1, 1, none⟩)) := hS 1 94 (by decide) rfl (by show 94 < 152; decide)
        have s94 := Rega.eval_of q94
        have e0 : rLI2R pb sb PC C i src ib xb tl kb kl kv bp bl be eb ll TR xr lr o0 o1 loc B1_1 B1 nd3 nd4 nd5 nd6 L9 α 1999 = row (B1) 34 #[.iface 38 (.pointer (some ⟨xb, 0, none⟩)), .int .i32 ll] := rfl
        have hr := hG.rowAt 1999 (act_base 1999 rfl) e0
        have c0 : u9.cell? ⟨B1, 1, none⟩ = some (.int .i32 ll) := hr.cell rfl
        clear hr e0
        go_simp
        exact hK _ α _ (fun _ _ => rfl) rfl (step_same (rLI2_st pb sb PC C i src ib xb tl kb kl kv bp bl be eb ll TR xr lr o0 o1 loc B1_1 B1 nd3 nd4 nd5 nd6) hL hcl rfl rfl hG)
      · intro L9 α a9 u9 K9 hL hcl hA hG hS h0 hK
        replace hL : L9 3 = false := hL
        have q10 : a9.tmps[10]? = some (.pointer (some ⟨xb, 0, none⟩)) := (h0 10 (by kernel_rfl)).trans rfl
        have s10 := Rega.eval_of q10
        go_simp
        exact hK _ α _ (fun _ _ => rfl) rfl (step_same (rLI2_st pb sb PC C i src ib xb tl kb kl kv bp bl be eb ll TR xr lr o0 o1 loc B1_1 B1 nd3 nd4 nd5 nd6) hL hcl rfl rfl hG)
      · intro L9 α a9 u9 K9 hL hcl hA hG hS h0 hK
        replace hL : L9 4 = false := hL
        have q96 : a9.tmps[96]? = some (.pointer (some ⟨xb, 0, none⟩)) := hS 3 96 (by decide) rfl (by show 96 < 152; decide)
        have s96 := Rega.eval_of q96
        go_simp
        exact hK _ α _ (fun _ _ => rfl) rfl (step_same (rLI2_st pb sb PC C i src ib xb tl kb kl kv bp bl be eb ll TR xr lr o0 o1 loc B1_1 B1 nd3 nd4 nd5 nd6) hL hcl rfl rfl hG)
      · intro L9 α a9 u9 K9 hL hcl hA hG hS h0 hK
        replace hL : L9 5 = false := hL
        have q97 : a9.tmps[97]? = some (.pointer (some ⟨xb, 0, none⟩)) := hS 4 97 (by decide) rfl (by show 97 < 152; decide)
        have s97 := Rega.eval_of q97
        go_simp
        exact hK _ α _ (fun _ _ => rfl) rfl (step_same (rLI2_st pb sb PC C i src ib xb tl kb kl kv bp bl be eb ll TR xr lr o0 o1 loc B1_1 B1 nd3 nd4 nd5 nd6) hL hcl rfl rfl hG)
      · intro L9 α a9 u9 K9 hL hcl hA hG hS h0 hK
        replace hL : L9 6 = false := hL
        have q98 : a9.tmps[98]? = some (.pointer (some ⟨xb, 2, none⟩)) := hS 5 98 (by decide) rfl (by show 98 < 152; decide)
        have s98 := Rega.eval_of q98
        have e0 : rLI2R pb sb PC C i src ib xb tl kb kl kv bp bl be eb ll TR xr lr o0 o1 loc B1_1 B1 nd3 nd4 nd5 nd6 L9 α 8999 = row (xb) 56 #[.iface 52 (.pointer (some ⟨ib, 0, none⟩)), .int .i32 tl, .iface 40 (.pointer (some ⟨kb, 0, none⟩)), .int .i32 kl, .int .i32 0, .int .u8 0, .bool false, .bool false, .bool false] := rfl
        have hr := hG.rowAt 8999 (act_base 8999 rfl) e0
        have c0 : u9.cell? ⟨xb, 2, none⟩ = some (.iface 40 (.pointer (some ⟨kb, 0, none⟩))) := hr.cell rfl
        have c1 : u9.cell? ⟨xb, 3, none⟩ = some (.int .i32 kl) := hr.cell rfl
        clear hr e0
        go_simp
        exact hK _ α _ (fun _ _ => rfl) rfl (step_same (rLI2_st pb sb PC C i src ib xb tl kb kl kv bp bl be eb ll TR xr lr o0 o1 loc B1_1 B1 nd3 nd4 nd5 nd6) hL hcl rfl rfl hG)
      · intro L9 α a9 u9 K9 hL hcl hA hG hS h0 hK
        replace hL : L9 7 = false := hL
        have q93 : a9.tmps[93]? = some (.pointer (some ⟨pb, 0, none⟩)) := hS 0 93 (by decide) rfl (by show 93 < 152; decide)
        have s93 := Rega.eval_of q93
        have q95 : a9.tmps[95]? = some (.agg #[.int .i32 ll]) := hS 2 95 (by decide) rfl (by show 95 < 152; decide)
        have s95 := Rega.eval_of q95
        have q99 : a9.tmps[99]? = some (.agg #[.iface 40 (.pointer (some ⟨kb, 0, none⟩)), .int .i32 kl]) := hS 6 99 (by decide) rfl (by show 99 < 152; decide)
        have s99 := Rega.eval_of q99
        go_simp
        have hM : ∀ i, i ∈ [] → act rLI2Cnt 15 L9 i := by intro i hi; simp at hi
        have hP : Own w0 u9 [] _ := hG.pick [] (by decide) (by simp)
        clear hM
        refine Calls.mono (capNumO pb kb ll kl _ _ _ hP ) ?_
        rintro e9 u1 ⟨b0, b1, b2, rfl, hQ⟩
        obtain ⟨α', hα'⟩ : ∃ α' : Rega.Atoms, α' = (fun j => if j = 7 then b0 else if j = 1007 then b1 else if j = 2007 then b2 else α j) := ⟨_, rfl⟩
        have f0 : rLI2R pb sb PC C i src ib xb tl kb kl kv bp bl be eb ll TR xr lr o0 o1 loc B1_1 B1 nd3 nd4 nd5 nd6 (Rega.ran L9 7) α' 7 = row (α' 7) 32 #[.int .i32 ll] := rfl
        have f1 : rLI2R pb sb PC C i src ib xb tl kb kl kv bp bl be eb ll TR xr lr o0 o1 loc B1_1 B1 nd3 nd4 nd5 nd6 (Rega.ran L9 7) α' 1007 = row (α' 1007) 34 #[.iface 40 (.pointer (some ⟨kb, 0, none⟩)), .int .i32 kl] := rfl
        have f2 : rLI2R pb sb PC C i src ib xb tl kb kl kv bp bl be eb ll TR xr lr o0 o1 loc B1_1 B1 nd3 nd4 nd5 nd6 (Rega.ran L9 7) α' 2007 = row (α' 2007) 40 #[.pointer (some ⟨kb, 0, none⟩)] := rfl
        have hα : ∀ j, j % 1000 ≠ 7 → α' j = α j := fun j hj => by rw [hα']; simp only []; rw [if_neg (by omega), if_neg (by omega), if_neg (by omega)]
        have hb0 : α' 7 = b0 := by rw [hα']; rfl
        have hb1 : α' 1007 = b1 := by rw [hα']; rfl
        have hb2 : α' 2007 = b2 := by rw [hα']; rfl
        skip
        refine hK _ α' _ hα ?_ (step_call (rLI2_st pb sb PC C i src ib xb tl kb kl kv bp bl be eb ll TR xr lr o0 o1 loc B1_1 B1 nd3 nd4 nd5 nd6) hL hcl hα [] [7, 1007, 2007] (by decide) (by decide) (by decide) (M := _) ?_ hG hQ)
        · show _ = (.tuple #[.func (Fn.func 35) #[] #[.pointer (some ⟨α' 7, 0, none⟩), .pointer (some ⟨α' 2007, 0, none⟩)], .func (Fn.func 30) #[] #[.pointer (some ⟨α' 1007, 0, none⟩)]] : Value)
          simp only [hb0, hb1, hb2]
        · show [rLI2R pb sb PC C i src ib xb tl kb kl kv bp bl be eb ll TR xr lr o0 o1 loc B1_1 B1 nd3 nd4 nd5 nd6 (Rega.ran L9 7) α' 7, rLI2R pb sb PC C i src ib xb tl kb kl kv bp bl be eb ll TR xr lr o0 o1 loc B1_1 B1 nd3 nd4 nd5 nd6 (Rega.ran L9 7) α' 1007, rLI2R pb sb PC C i src ib xb tl kb kl kv bp bl be eb ll TR xr lr o0 o1 loc B1_1 B1 nd3 nd4 nd5 nd6 (Rega.ran L9 7) α' 2007] = _
          rw [f0, f1, f2]
          simp only [hb0, hb1, hb2]
      · intro L9 α a9 u9 K9 hL hcl hA hG hS h0 hK
        replace hL : L9 8 = false := hL
        have q100 : a9.tmps[100]? = some (.tuple #[.func (Fn.func 35) #[] #[.pointer (some ⟨α 7, 0, none⟩), .pointer (some ⟨α 2007, 0, none⟩)], .func (Fn.func 30) #[] #[.pointer (some ⟨α 1007, 0, none⟩)]]) := hS 7 100 (by decide) rfl (by show 100 < 152; decide)
        have s100 := Rega.eval_of q100
        go_simp
        exact hK _ α _ (fun _ _ => rfl) rfl (step_same (rLI2_st pb sb PC C i src ib xb tl kb kl kv bp bl be eb ll TR xr lr o0 o1 loc B1_1 B1 nd3 nd4 nd5 nd6) hL hcl rfl rfl hG)
      · intro L9 α a9 u9 K9 hL hcl hA hG hS h0 hK
        replace hL : L9 9 = false := hL
        have q92 : a9.tmps[92]? = some (.tuple #[.func (Fn.func 35) #[] #[.pointer (some ⟨α 7, 0, none⟩), .pointer (some ⟨α 2007, 0, none⟩)], .func (Fn.func 30) #[] #[.pointer (some ⟨α 1007, 0, none⟩)]]) := hS 8 92 (by decide) rfl (by show 92 < 152; decide)
        have s92 := Rega.eval_of q92
        go_simp
        exact hK _ α _ (fun _ _ => rfl) rfl (step_same (rLI2_st pb sb PC C i src ib xb tl kb kl kv bp bl be eb ll TR xr lr o0 o1 loc B1_1 B1 nd3 nd4 nd5 nd6) hL hcl rfl rfl hG)
      · intro L9 α a9 u9 K9 hL hcl hA hG hS h0 hK
        replace hL : L9 10 = false := hL
        have q92 : a9.tmps[92]? = some (.tuple #[.func (Fn.func 35) #[] #[.pointer (some ⟨α 7, 0, none⟩), .pointer (some ⟨α 2007, 0, none⟩)], .func (Fn.func 30) #[] #[.pointer (some ⟨α 1007, 0, none⟩)]]) := hS 8 92 (by decide) rfl (by show 92 < 152; decide)
        have s92 := Rega.eval_of q92
        go_simp
        exact hK _ α _ (fun _ _ => rfl) rfl (step_same (rLI2_st pb sb PC C i src ib xb tl kb kl kv bp bl be eb ll TR xr lr o0 o1 loc B1_1 B1 nd3 nd4 nd5 nd6) hL hcl rfl rfl hG)
      · intro L9 α a9 u9 K9 hL hcl hA hG hS h0 hK
        replace hL : L9 11 = false := hL
        have q101 : a9.tmps[101]? = some (.func (Fn.func 35) #[] #[.pointer (some ⟨α 7, 0, none⟩), .pointer (some ⟨α 2007, 0, none⟩)]) := hS 9 101 (by decide) rfl (by show 101 < 152; decide)
        have s101 := Rega.eval_of q101
        go_simp
        exact hK _ α _ (fun _ _ => rfl) rfl (step_same (rLI2_st pb sb PC C i src ib xb tl kb kl kv bp bl be eb ll TR xr lr o0 o1 loc B1_1 B1 nd3 nd4 nd5 nd6) hL hcl rfl rfl hG)
      · intro L9 α a9 u9 K9 hL hcl hA hG hS h0 hK
        replace hL : L9 12 = false := hL
        have q102 : a9.tmps[102]? = some (.func (Fn.func 30) #[] #[.pointer (some ⟨α 1007, 0, none⟩)]) := hS 10 102 (by decide) rfl (by show 102 < 152; decide)
        have s102 := Rega.eval_of q102
        go_simp
        exact hK _ α _ (fun _ _ => rfl) rfl (step_same (rLI2_st pb sb PC C i src ib xb tl kb kl kv bp bl be eb ll TR xr lr o0 o1 loc B1_1 B1 nd3 nd4 nd5 nd6) hL hcl rfl rfl hG)
    · intro α u hG
      have e0 : rLI2R pb sb PC C i src ib xb tl kb kl kv bp bl be eb ll TR xr lr o0 o1 loc B1_1 B1 nd3 nd4 nd5 nd6 (fun k => decide (k < 13)) α 999 = row (B1_1) 34 #[.nilIface, .int .i32 0] := rfl
      have e1 : rLI2R pb sb PC C i src ib xb tl kb kl kv bp bl be eb ll TR xr lr o0 o1 loc B1_1 B1 nd3 nd4 nd5 nd6 (fun k => decide (k < 13)) α 1999 = row (B1) 34 #[.iface 38 (.pointer (some ⟨xb, 0, none⟩)), .int .i32 ll] := rfl
      have e2 : rLI2R pb sb PC C i src ib xb tl kb kl kv bp bl be eb ll TR xr lr o0 o1 loc B1_1 B1 nd3 nd4 nd5 nd6 (fun k => decide (k < 13)) α 2999 = row (pb) 178 PC := rfl
      have e3 : rLI2R pb sb PC C i src ib xb tl kb kl kv bp bl be eb ll TR xr lr o0 o1 loc B1_1 B1 nd3 nd4 nd5 nd6 (fun k => decide (k < 13)) α 3999 = row (sb) 196 C := rfl
      have e4 : rLI2R pb sb PC C i src ib xb tl kb kl kv bp bl be eb ll TR xr lr o0 o1 loc B1_1 B1 nd3 nd4 nd5 nd6 (fun k => decide (k < 13)) α 4999 = row (bp) 25 #[.pointer (some ⟨pb, 0, none⟩)] := rfl
      have e5 : rLI2R pb sb PC C i src ib xb tl kb kl kv bp bl be eb ll TR xr lr o0 o1 loc B1_1 B1 nd3 nd4 nd5 nd6 (fun k => decide (k < 13)) α 5999 = row (bl) 32 #[.int .i32 loc] := rfl
      have e6 : rLI2R pb sb PC C i src ib xb tl kb kl kv bp bl be eb ll TR xr lr o0 o1 loc B1_1 B1 nd3 nd4 nd5 nd6 (fun k => decide (k < 13)) α 6999 = row (be) 42 #[.pointer (some ⟨eb, 0, none⟩)] := rfl
      have e7 : rLI2R pb sb PC C i src ib xb tl kb kl kv bp bl be eb ll TR xr lr o0 o1 loc B1_1 B1 nd3 nd4 nd5 nd6 (fun k => decide (k < 13)) α 7999 = row (eb) 45 #[.iface 38 (.pointer (some ⟨xb, 0, none⟩)), .int .i32 ll, .iface TR (.pointer (some ⟨xr, 0, none⟩)), .int .i32 lr, .int .u8 o0, .bool o1] := rfl
      have e8 : rLI2R pb sb PC C i src ib xb tl kb kl kv bp bl be eb ll TR xr lr o0 o1 loc B1_1 B1 nd3 nd4 nd5 nd6 (fun k => decide (k < 13)) α 8999 = row (xb) 56 #[.iface 52 (.pointer (some ⟨ib, 0, none⟩)), .int .i32 tl, .iface 40 (.pointer (some ⟨kb, 0, none⟩)), .int .i32 kl, .int .i32 0, .int .u8 0, .bool false, .bool false, .bool false] := rfl
      have e9 : rLI2R pb sb PC C i src ib xb tl kb kl kv bp bl be eb ll TR xr lr o0 o1 loc B1_1 B1 nd3 nd4 nd5 nd6 (fun k => decide (k < 13)) α 9999 = row (ib) 180 #[.int .u32 src, .int .u32 (i : Int), .bool false, .bool false, .bool false] := rfl
      have e10 : rLI2R pb sb PC C i src ib xb tl kb kl kv bp bl be eb ll TR xr lr o0 o1 loc B1_1 B1 nd3 nd4 nd5 nd6 (fun k => decide (k < 13)) α 10999 = row (kb) 182 #[.float .f64 kv] := rfl
      have e11 : rLI2R pb sb PC C i src ib xb tl kb kl kv bp bl be eb ll TR xr lr o0 o1 loc B1_1 B1 nd3 nd4 nd5 nd6 (fun k => decide (k < 13)) α 11999 = row (nd3) 25 #[.pointer (some ⟨pb, 0, none⟩)] := rfl
      have e12 : rLI2R pb sb PC C i src ib xb tl kb kl kv bp bl be eb ll TR xr lr o0 o1 loc B1_1 B1 nd3 nd4 nd5 nd6 (fun k => decide (k < 13)) α 12999 = row (nd4) 32 #[.int .i32 ll] := rfl
      have e13 : rLI2R pb sb PC C i src ib xb tl kb kl kv bp bl be eb ll TR xr lr o0 o1 loc B1_1 B1 nd3 nd4 nd5 nd6 (fun k => decide (k < 13)) α 13999 = row (nd5) 34 #[.iface 52 (.pointer (some ⟨ib, 0, none⟩)), .int .i32 tl] := rfl
      have e14 : rLI2R pb sb PC C i src ib xb tl kb kl kv bp bl be eb ll TR xr lr o0 o1 loc B1_1 B1 nd3 nd4 nd5 nd6 (fun k => decide (k < 13)) α 14999 = row (nd6) 52 #[.pointer (some ⟨ib, 0, none⟩)] := rfl
      have e15 : rLI2R pb sb PC C i src ib xb tl kb kl kv bp bl be eb ll TR xr lr o0 o1 loc B1_1 B1 nd3 nd4 nd5 nd6 (fun k => decide (k < 13)) α 7 = row (α 7) 32 #[.int .i32 ll] := rfl
      have e16 : rLI2R pb sb PC C i src ib xb tl kb kl kv bp bl be eb ll TR xr lr o0 o1 loc B1_1 B1 nd3 nd4 nd5 nd6 (fun k => decide (k < 13)) α 1007 = row (α 1007) 34 #[.iface 40 (.pointer (some ⟨kb, 0, none⟩)), .int .i32 kl] := rfl
      have e17 : rLI2R pb sb PC C i src ib xb tl kb kl kv bp bl be eb ll TR xr lr o0 o1 loc B1_1 B1 nd3 nd4 nd5 nd6 (fun k => decide (k < 13)) α 2007 = row (α 2007) 40 #[.pointer (some ⟨kb, 0, none⟩)] := rfl
      have hO : Own w0 u [row (B1_1) 34 #[.nilIface, .int .i32 0], row (B1) 34 #[.iface 38 (.pointer (some ⟨xb, 0, none⟩)), .int .i32 ll], row (pb) 178 PC, row (sb) 196 C, row (bp) 25 #[.pointer (some ⟨pb, 0, none⟩)], row (bl) 32 #[.int .i32 loc], row (be) 42 #[.pointer (some ⟨eb, 0, none⟩)], row (eb) 45 #[.iface 38 (.pointer (some ⟨xb, 0, none⟩)), .int .i32 ll, .iface TR (.pointer (some ⟨xr, 0, none⟩)), .int .i32 lr, .int .u8 o0, .bool o1], row (xb) 56 #[.iface 52 (.pointer (some ⟨ib, 0, none⟩)), .int .i32 tl, .iface 40 (.pointer (some ⟨kb, 0, none⟩)), .int .i32 kl, .int .i32 0, .int .u8 0, .bool false, .bool false, .bool false], row (ib) 180 #[.int .u32 src, .int .u32 (i : Int), .bool false, .bool false, .bool false], row (kb) 182 #[.float .f64 kv], row (nd3) 25 #[.pointer (some ⟨pb, 0, none⟩)], row (nd4) 32 #[.int .i32 ll], row (nd5) 34 #[.iface 52 (.pointer (some ⟨ib, 0, none⟩)), .int .i32 tl], row (nd6) 52 #[.pointer (some ⟨ib, 0, none⟩)], row (α 7) 32 #[.int .i32 ll], row (α 1007) 34 #[.iface 40 (.pointer (some ⟨kb, 0, none⟩)), .int .i32 kl], row (α 2007) 40 #[.pointer (some ⟨kb, 0, none⟩)]] X := (hG.list [999, 1999, 2999, 3999, 4999, 5999, 6999, 7999, 8999, 9999, 10999, 11999, 12999, 13999, 14999, 7, 1007, 2007] (by decide) (act_all (by decide))).conv (by
        show [rLI2R pb sb PC C i src ib xb tl kb kl kv bp bl be eb ll TR xr lr o0 o1 loc B1_1 B1 nd3 nd4 nd5 nd6 (fun k => decide (k < 13)) α 999, rLI2R pb sb PC C i src ib xb tl kb kl kv bp bl be eb ll TR xr lr o0 o1 loc B1_1 B1 nd3 nd4 nd5 nd6 (fun k => decide (k < 13)) α 1999, rLI2R pb sb PC C i src ib xb tl kb kl kv bp bl be eb ll TR xr lr o0 o1 loc B1_1 B1 nd3 nd4 nd5 nd6 (fun k => decide (k < 13)) α 2999, rLI2R pb sb PC C i src ib xb tl kb kl kv bp bl be eb ll TR xr lr o0 o1 loc B1_1 B1 nd3 nd4 nd5 nd6 (fun k => decide (k < 13)) α 3999, rLI2R pb sb PC C i src ib xb tl kb kl kv bp bl be eb ll TR xr lr o0 o1 loc B1_1 B1 nd3 nd4 nd5 nd6 (fun k => decide (k < 13)) α 4999, rLI2R pb sb PC C i src ib xb tl kb kl kv bp bl be eb ll TR xr lr o0 o1 loc B1_1 B1 nd3 nd4 nd5 nd6 (fun k => decide (k < 13)) α 5999, rLI2R pb sb PC C i src ib xb tl kb kl kv bp bl be eb ll TR xr lr o0 o1 loc B1_1 B1 nd3 nd4 nd5 nd6 (fun k => decide (k < 13)) α 6999, rLI2R pb sb PC C i src ib xb tl kb kl kv bp bl be eb ll TR xr lr o0 o1 loc B1_1 B1 nd3 nd4 nd5 nd6 (fun k => decide (k < 13)) α 7999, rLI2R pb sb PC C i src ib xb tl kb kl kv bp bl be eb ll TR xr lr o0 o1 loc B1_1 B1 nd3 nd4 nd5 nd6 (fun k => decide (k < 13)) α 8999, rLI2R pb sb PC C i src ib xb tl kb kl kv bp bl be eb ll TR xr lr o0 o1 loc B1_1 B1 nd3 nd4 nd5 nd6 (fun k => decide (k < 13)) α 9999, rLI2R pb sb PC C i src ib xb tl kb kl kv bp bl be eb ll TR xr lr o0 o1 loc B1_1 B1 nd3 nd4 nd5 nd6 (fun k => decide (k < 13)) α 10999, rLI2R pb sb PC C i src ib xb tl kb kl kv bp bl be eb ll TR xr lr o0 o1 loc B1_1 B1 nd3 nd4 nd5 nd6 (fun k => decide (k < 13)) α 11999, rLI2R pb sb PC C i src ib xb tl kb kl kv bp bl be eb ll TR xr lr o0 o1 loc B1_1 B1 nd3 nd4 nd5 nd6 (fun k => decide (k < 13)) α 12999, rLI2R pb sb PC C i src ib xb tl kb kl kv bp bl be eb ll TR xr lr o0 o1 loc B1_1 B1 nd3 nd4 nd5 nd6 (fun k => decide (k < 13)) α 13999, rLI2R pb sb PC C i src ib xb tl kb kl kv bp bl be eb ll TR xr lr o0 o1 loc B1_1 B1 nd3 nd4 nd5 nd6 (fun k => decide (k < 13)) α 14999, rLI2R pb sb PC C i src ib xb tl kb kl kv bp bl be eb ll TR xr lr o0 o1 loc B1_1 B1 nd3 nd4 nd5 nd6 (fun k => decide (k < 13)) α 7, rLI2R pb sb PC C i src ib xb tl kb kl kv bp bl be eb ll TR xr lr o0 o1 loc B1_1 B1 nd3 nd4 nd5 nd6 (fun k => decide (k < 13)) α 1007, rLI2R pb sb PC C i src ib xb tl kb kl kv bp bl be eb ll TR xr lr o0 o1 loc B1_1 B1 nd3 nd4 nd5 nd6 (fun k => decide (k < 13)) α 2007] = _
        rw [e0, e1, e2, e3, e4, e5, e6, e7, e8, e9, e10, e11, e12, e13, e14, e15, e16, e17])
      clear hG e0 e1 e2 e3 e4 e5 e6 e7 e8 e9 e10 e11 e12 e13 e14 e15 e16 e17
      generalize hfr : Rega.frameAt _ _ _ _ _ = fr
      have hdf : fr = ⟨#[.pointer (some ⟨pb, 0, none⟩), .agg #[.iface 38 (.pointer (some ⟨xb, 0, none⟩)), .int .i32 ll], .func (Fn.func 27) #[] #[.pointer (some ⟨bp, 0, none⟩), .pointer (some ⟨bl, 0, none⟩), .pointer (some ⟨be, 0, none⟩)], undef, .pointer (some ⟨B1, 0, none⟩), undef, .pointer (some ⟨B1_1, 0, none⟩), undef, undef, undef, .pointer (some ⟨xb, 0, none⟩), .func (Fn.func 39) #[] #[.pointer (some ⟨nd3, 0, none⟩), .pointer (some ⟨nd6, 0, none⟩), .pointer (some ⟨nd4, 0, none⟩)], .func (Fn.func 30) #[] #[.pointer (some ⟨nd5, 0, none⟩)], .func (Fn.func 35) #[] #[.pointer (some ⟨α 7, 0, none⟩), .pointer (some ⟨α 2007, 0, none⟩)], .func (Fn.func 30) #[] #[.pointer (some ⟨α 1007, 0, none⟩)], undef, .pointer (some ⟨B1, 0, none⟩), .iface 38 (.pointer (some ⟨xb, 0, none⟩)), .tuple #[.pointer none, .bool false], .bool false, .pointer none, undef, undef, undef, undef, undef, undef, undef, undef, undef, undef, undef, undef, undef, undef, undef, undef, undef, undef, undef, undef, undef, undef, undef, undef, undef, undef, undef, undef, undef, undef, undef, undef, undef, undef, undef, undef, undef, undef, undef, undef, undef, undef, undef, undef, undef, undef, undef, undef, undef, undef, undef, undef, .tuple #[.pointer (some ⟨xb, 0, none⟩), .bool true], .bool true, .pointer (some ⟨xb, 0, none⟩), .pointer (some ⟨xb, 0, none⟩), .pointer (some ⟨xb, 0, none⟩), .pointer (some ⟨xb, 5, none⟩), .int .u8 0, .bool true, .tuple #[.func (Fn.func 39) #[] #[.pointer (some ⟨nd3, 0, none⟩), .pointer (some ⟨nd6, 0, none⟩), .pointer (some ⟨nd4, 0, none⟩)], .func (Fn.func 30) #[] #[.pointer (some ⟨nd5, 0, none⟩)]], .pointer (some ⟨pb, 0, none⟩), .pointer (some ⟨B1, 1, none⟩), .agg #[.int .i32 ll], .pointer (some ⟨xb, 0, none⟩), .pointer (some ⟨xb, 0, none⟩), .pointer (some ⟨xb, 0, none⟩), .agg #[.iface 52 (.pointer (some ⟨ib, 0, none⟩)), .int .i32 tl], .tuple #[.func (Fn.func 39) #[] #[.pointer (some ⟨nd3, 0, none⟩), .pointer (some ⟨nd6, 0, none⟩), .pointer (some ⟨nd4, 0, none⟩)], .func (Fn.func 30) #[] #[.pointer (some ⟨nd5, 0, none⟩)]], .func (Fn.func 39) #[] #[.pointer (some ⟨nd3, 0, none⟩), .pointer (some ⟨nd6, 0, none⟩), .pointer (some ⟨nd4, 0, none⟩)], .func (Fn.func 30) #[] #[.pointer (some ⟨nd5, 0, none⟩)], .tuple #[.func (Fn.func 35) #[] #[.pointer (some ⟨α 7, 0, none⟩), .pointer (some ⟨α 2007, 0, none⟩)], .func (Fn.func 30) #[] #[.pointer (some ⟨α 1007, 0, none⟩)]], .pointer (some ⟨pb, 0, none⟩), .pointer (some ⟨B1, 1, none⟩), .agg #[.int .i32 ll], .pointer (some ⟨xb, 0, none⟩), .pointer (some ⟨xb, 0, none⟩), .pointer (some ⟨xb, 2, none⟩), .agg #[.iface 40 (.pointer (some ⟨kb, 0, none⟩)), .int .i32 kl], .tuple #[.func (Fn.func 35) #[] #[.pointer (some ⟨α 7, 0, none⟩), .pointer (some ⟨α 2007, 0, none⟩)], .func (Fn.func 30) #[] #[.pointer (some ⟨α 1007, 0, none⟩)]], .func (Fn.func 35) #[] #[.pointer (some ⟨α 7, 0, none⟩), .pointer (some ⟨α 2007, 0, none⟩)], .func (Fn.func 30) #[] #[.pointer (some ⟨α 1007, 0, none⟩)], undef, undef, undef, undef, undef, undef, undef, undef, undef, undef, undef, undef, undef, undef, undef, undef, undef, undef, undef, undef, undef, undef, undef, undef, undef, undef, undef, undef, undef, undef, undef, undef, undef, undef, undef, undef, undef, undef, undef, undef, undef, undef, undef, undef, undef, undef, undef, undef, undef], []⟩ := by rw [← hfr]; kernel_rfl
      clear hfr
      subst hdf
      generalize α 7 = nd7 at hO ⊢
      generalize α 1007 = nd8 at hO ⊢
      generalize α 2007 = nd9 at hO ⊢
      clear α
      have c9_0_0 : u.cell? ⟨B1_1, 0, none⟩ = some (.nilIface) := hO.cell 0 rfl 0 rfl
      have c9_0_1 : u.cell? ⟨B1_1, 1, none⟩ = some (.int .i32 0) := hO.cell 0 rfl 1 rfl
      have lt9_0 : B1_1 < u.heap.size := hO.lt 0 rfl
      have y9_0 : ∀ o, u.frozen? ⟨B1_1, o, none⟩ = false := hO.free 0 rfl
      have c9_1_0 : u.cell? ⟨B1, 0, none⟩ = some (.iface 38 (.pointer (some ⟨xb, 0, none⟩))) := hO.cell 1 rfl 0 rfl
      have c9_1_1 : u.cell? ⟨B1, 1, none⟩ = some (.int .i32 ll) := hO.cell 1 rfl 1 rfl
      have lt9_1 : B1 < u.heap.size := hO.lt 1 rfl
      have y9_1 : ∀ o, u.frozen? ⟨B1, o, none⟩ = false := hO.free 1 rfl
      have c9_4_0 : u.cell? ⟨bp, 0, none⟩ = some (.pointer (some ⟨pb, 0, none⟩)) := hO.cell 4 rfl 0 rfl
      have lt9_4 : bp < u.heap.size := hO.lt 4 rfl
      have y9_4 : ∀ o, u.frozen? ⟨bp, o, none⟩ = false := hO.free 4 rfl
      have c9_5_0 : u.cell? ⟨bl, 0, none⟩ = some (.int .i32 loc) := hO.cell 5 rfl 0 rfl
      have lt9_5 : bl < u.heap.size := hO.lt 5 rfl
      have y9_5 : ∀ o, u.frozen? ⟨bl, o, none⟩ = false := hO.free 5 rfl
      have c9_6_0 : u.cell? ⟨be, 0, none⟩ = some (.pointer (some ⟨eb, 0, none⟩)) := hO.cell 6 rfl 0 rfl
      have lt9_6 : be < u.heap.size := hO.lt 6 rfl
      have y9_6 : ∀ o, u.frozen? ⟨be, o, none⟩ = false := hO.free 6 rfl
      have c9_7_0 : u.cell? ⟨eb, 0, none⟩ = some (.iface 38 (.pointer (some ⟨xb, 0, none⟩))) := hO.cell 7 rfl 0 rfl
      have c9_7_1 : u.cell? ⟨eb, 1, none⟩ = some (.int .i32 ll) := hO.cell 7 rfl 1 rfl
      have c9_7_2 : u.cell? ⟨eb, 2, none⟩ = some (.iface TR (.pointer (some ⟨xr, 0, none⟩))) := hO.cell 7 rfl 2 rfl
      have c9_7_3 : u.cell? ⟨eb, 3, none⟩ = some (.int .i32 lr) := hO.cell 7 rfl 3 rfl
      have c9_7_4 : u.cell? ⟨eb, 4, none⟩ = some (.int .u8 o0) := hO.cell 7 rfl 4 rfl
      have c9_7_5 : u.cell? ⟨eb, 5, none⟩ = some (.bool o1) := hO.cell 7 rfl 5 rfl
      have lt9_7 : eb < u.heap.size := hO.lt 7 rfl
      have y9_7 : ∀ o, u.frozen? ⟨eb, o, none⟩ = false := hO.free 7 rfl
      have c9_8_0 : u.cell? ⟨xb, 0, none⟩ = some (.iface 52 (.pointer (some ⟨ib, 0, none⟩))) := hO.cell 8 rfl 0 rfl
      have c9_8_1 : u.cell? ⟨xb, 1, none⟩ = some (.int .i32 tl) := hO.cell 8 rfl 1 rfl
      have c9_8_2 : u.cell? ⟨xb, 2, none⟩ = some (.iface 40 (.pointer (some ⟨kb, 0, none⟩))) := hO.cell 8 rfl 2 rfl
      have c9_8_3 : u.cell? ⟨xb, 3, none⟩ = some (.int .i32 kl) := hO.cell 8 rfl 3 rfl
      have c9_8_4 : u.cell? ⟨xb, 4, none⟩ = some (.int .i32 0) := hO.cell 8 rfl 4 rfl
      have c9_8_5 : u.cell? ⟨xb, 5, none⟩ = some (.int .u8 0) := hO.cell 8 rfl 5 rfl
      have c9_8_6 : u.cell? ⟨xb, 6, none⟩ = some (.bool false) := hO.cell 8 rfl 6 rfl
      have c9_8_7 : u.cell? ⟨xb, 7, none⟩ = some (.bool false) := hO.cell 8 rfl 7 rfl
      have c9_8_8 : u.cell? ⟨xb, 8, none⟩ = some (.bool false) := hO.cell 8 rfl 8 rfl
      have lt9_8 : xb < u.heap.size := hO.lt 8 rfl
      have y9_8 : ∀ o, u.frozen? ⟨xb, o, none⟩ = false := hO.free 8 rfl
      have c9_9_0 : u.cell? ⟨ib, 0, none⟩ = some (.int .u32 src) := hO.cell 9 rfl 0 rfl
      have c9_9_1 : u.cell? ⟨ib, 1, none⟩ = some (.int .u32 (i : Int)) := hO.cell 9 rfl 1 rfl
      have c9_9_2 : u.cell? ⟨ib, 2, none⟩ = some (.bool false) := hO.cell 9 rfl 2 rfl
      have c9_9_3 : u.cell? ⟨ib, 3, none⟩ = some (.bool false) := hO.cell 9 rfl 3 rfl
      have c9_9_4 : u.cell? ⟨ib, 4, none⟩ = some (.bool false) := hO.cell 9 rfl 4 rfl
      have lt9_9 : ib < u.heap.size := hO.lt 9 rfl
      have y9_9 : ∀ o, u.frozen? ⟨ib, o, none⟩ = false := hO.free 9 rfl
      have c9_10_0 : u.cell? ⟨kb, 0, none⟩ = some (.float .f64 kv) := hO.cell 10 rfl 0 rfl
      have lt9_10 : kb < u.heap.size := hO.lt 10 rfl
      have y9_10 : ∀ o, u.frozen? ⟨kb, o, none⟩ = false := hO.free 10 rfl
      have c9_11_0 : u.cell? ⟨nd3, 0, none⟩ = some (.pointer (some ⟨pb, 0, none⟩)) := hO.cell 11 rfl 0 rfl
      have lt9_11 : nd3 < u.heap.size := hO.lt 11 rfl
      have y9_11 : ∀ o, u.frozen? ⟨nd3, o, none⟩ = false := hO.free 11 rfl
      have c9_12_0 : u.cell? ⟨nd4, 0, none⟩ = some (.int .i32 ll) := hO.cell 12 rfl 0 rfl
      have lt9_12 : nd4 < u.heap.size := hO.lt 12 rfl
      have y9_12 : ∀ o, u.frozen? ⟨nd4, o, none⟩ = false := hO.free 12 rfl
      have c9_13_0 : u.cell? ⟨nd5, 0, none⟩ = some (.iface 52 (.pointer (some ⟨ib, 0, none⟩))) := hO.cell 13 rfl 0 rfl
      have c9_13_1 : u.cell? ⟨nd5, 1, none⟩ = some (.int .i32 tl) := hO.cell 13 rfl 1 rfl
      have lt9_13 : nd5 < u.heap.size := hO.lt 13 rfl
      have y9_13 : ∀ o, u.frozen? ⟨nd5, o, none⟩ = false := hO.free 13 rfl
      have c9_14_0 : u.cell? ⟨nd6, 0, none⟩ = some (.pointer (some ⟨ib, 0, none⟩)) := hO.cell 14 rfl 0 rfl
      have lt9_14 : nd6 < u.heap.size := hO.lt 14 rfl
      have y9_14 : ∀ o, u.frozen? ⟨nd6, o, none⟩ = false := hO.free 14 rfl
      have c9_15_0 : u.cell? ⟨nd7, 0, none⟩ = some (.int .i32 ll) := hO.cell 15 rfl 0 rfl
      have lt9_15 : nd7 < u.heap.size := hO.lt 15 rfl
      have y9_15 : ∀ o, u.frozen? ⟨nd7, o, none⟩ = false := hO.free 15 rfl
      have c9_16_0 : u.cell? ⟨nd8, 0, none⟩ = some (.iface 40 (.pointer (some ⟨kb, 0, none⟩))) := hO.cell 16 rfl 0 rfl
      have c9_16_1 : u.cell? ⟨nd8, 1, none⟩ = some (.int .i32 kl) := hO.cell 16 rfl 1 rfl
      have lt9_16 : nd8 < u.heap.size := hO.lt 16 rfl
      have y9_16 : ∀ o, u.frozen? ⟨nd8, o, none⟩ = false := hO.free 16 rfl
      have c9_17_0 : u.cell? ⟨nd9, 0, none⟩ = some (.pointer (some ⟨kb, 0, none⟩)) := hO.cell 17 rfl 0 rfl
      have lt9_17 : nd9 < u.heap.size := hO.lt 17 rfl
      have y9_17 : ∀ o, u.frozen? ⟨nd9, o, none⟩ = false := hO.free 17 rfl
      have HO := Lib.hid hO
      clear hO
      go_wp2_with fail
      have hO := HO.out
      clear HO c9_0_0 c9_0_1 lt9_0 y9_0 c9_1_0 c9_1_1 lt9_1 y9_1 c9_4_0 lt9_4 y9_4 c9_5_0 lt9_5 y9_5 c9_6_0 lt9_6 y9_6 c9_7_0 c9_7_1 c9_7_2 c9_7_3 c9_7_4 c9_7_5 lt9_7 y9_7 c9_8_0 c9_8_1 c9_8_2 c9_8_3 c9_8_4 c9_8_5 c9_8_6 c9_8_7 c9_8_8 lt9_8 y9_8 c9_9_0 c9_9_1 c9_9_2 c9_9_3 c9_9_4 lt9_9 y9_9 c9_10_0 lt9_10 y9_10 c9_11_0 lt9_11 y9_11 c9_12_0 lt9_12 y9_12 c9_13_0 c9_13_1 lt9_13 y9_13 c9_14_0 lt9_14 y9_14 c9_15_0 lt9_15 y9_15 c9_16_0 c9_16_1 lt9_16 y9_16 c9_17_0 lt9_17 y9_17
      refine wp_region_own (e := rLI3E pb sb PC C i c cz src ib xb tl kb kl kv bp bl be eb ll TR xr lr o0 o1 loc B1_1 B1 nd3 nd4 nd5 nd6 nd7 nd8 nd9) (anc := rLI3Anc) (G := (fun L9 α u9 => OwnF w0 u9 (act rLI3Cnt 18 L9) (rLI3R pb sb PC C i c cz src ib xb tl kb kl kv bp bl be eb ll TR xr lr o0 o1 loc B1_1 B1 nd3 nd4 nd5 nd6 nd7 nd8 nd9 L9 α) X)) (by kernel_rfl) (by kernel_rfl) (by kernel_rfl) (by kernel_rfl) (rLI3_he pb sb PC C i c cz src ib xb tl kb kl kv bp bl be eb ll TR xr lr o0 o1 loc B1_1 B1 nd3 nd4 nd5 nd6 nd7 nd8 nd9) ?_ (RunsAll.all ?_) ?_
      · have hp : ∀ i, act rLI3Cnt 18 (fun _ => false) i → i ∈ [999, 1999, 2999, 3999, 4999, 5999, 6999, 7999, 8999, 9999, 10999, 11999, 12999, 13999, 14999, 15999, 16999, 17999] := by
          intro i hi
          have h9 : i % 1000 = 999 := by
            by_cases h : i % 1000 = 999
            · exact h
            · exact absurd (act_lt hi h) (by simp)
          unfold act at hi
          rw [if_pos h9] at hi
          simp only [List.mem_cons, List.not_mem_nil, or_false]
          omega
        refine hO.drew.family (fun i hi => ?_) (fun i j hi hj hij => ?_)
        · have := hp i hi
          simp only [List.mem_cons, List.not_mem_nil, or_false] at this
          rcases this with rfl | rfl | rfl | rfl | rfl | rfl | rfl | rfl | rfl | rfl | rfl | rfl | rfl | rfl | rfl | rfl | rfl | rfl <;> rfl
        · have h1 := hp i hi
          have h2 := hp j hj
          simp only [List.mem_cons, List.not_mem_nil, or_false] at h1 h2
          omega
      · refine ⟨?_, ?_, ?_, ?_, ?_, ?_, ?_, ?_, ?_, ?_, ?_, ?_, ?_, ?_, ?_, ?_, ?_, ?_, ?_, ?_, ?_, ?_, ?_, ?_, ?_, ?_, ?_, trivial⟩
        · intro L9 α a9 u9 K9 hL hcl hA hG hS h0 hK
          replace hL : L9 0 = false := hL
          have q12 : a9.tmps[12]? = some (.func (Fn.func 30) #[] #[.pointer (some ⟨nd5, 0, none⟩)]) := (h0 12 (by kernel_rfl)).trans rfl
          have s12 := Rega.eval_of q12
          go_simp
          exact hK _ α _ (fun _ _ => rfl) rfl (step_same (rLI3_st pb sb PC C i c cz src ib xb tl kb kl kv bp bl be eb ll TR xr lr o0 o1 loc B1_1 B1 nd3 nd4 nd5 nd6 nd7 nd8 nd9) hL hcl rfl rfl hG)
        · intro L9 α a9 u9 K9 hL hcl hA hG hS h0 hK
          replace hL : L9 1 = false := hL
          have q14 : a9.tmps[14]? = some (.func (Fn.func 30) #[] #[.pointer (some ⟨nd8, 0, none⟩)]) := (h0 14 (by kernel_rfl)).trans rfl
          have s14 := Rega.eval_of q14
          go_simp
          exact hK _ α _ (fun _ _ => rfl) rfl (step_same (rLI3_st pb sb PC C i c cz src ib xb tl kb kl kv bp bl be eb ll TR xr lr o0 o1 loc B1_1 B1 nd3 nd4 nd5 nd6 nd7 nd8 nd9) hL hcl rfl rfl hG)
        · intro L9 α a9 u9 K9 hL hcl hA hG hS h0 hK
          replace hL : L9 2 = false := hL
          have q2 : a9.tmps[2]? = some (.func (Fn.func 27) #[] #[.pointer (some ⟨bp, 0, none⟩), .pointer (some ⟨bl, 0, none⟩), .pointer (some ⟨be, 0, none⟩)]) := (h0 2 (by kernel_rfl)).trans rfl
          have s2 := Rega.eval_of q2
          go_simp
          exact hK _ α _ (fun _ _ => rfl) rfl (step_same (rLI3_st pb sb PC C i c cz src ib xb tl kb kl kv bp bl be eb ll TR xr lr o0 o1 loc B1_1 B1 nd3 nd4 nd5 nd6 nd7 nd8 nd9) hL hcl rfl rfl hG)
        · intro L9 α a9 u9 K9 hL hcl hA hG hS h0 hK
          replace hL : L9 3 = false := hL
          have q4 : a9.tmps[4]? = some (.pointer (some ⟨B1, 0, none⟩)) := (h0 4 (by kernel_rfl)).trans rfl
          have s4 := Rega.eval_of q4
          go_simp
          exact hK _ α _ (fun _ _ => rfl) rfl (step_same (rLI3_st pb sb PC C i c cz src ib xb tl kb kl kv bp bl be eb ll TR xr lr o0 o1 loc B1_1 B1 nd3 nd4 nd5 nd6 nd7 nd8 nd9) hL hcl rfl rfl hG)
        · intro L9 α a9 u9 K9 hL hcl hA hG hS h0 hK
          replace hL : L9 4 = false := hL
          have q106 : a9.tmps[106]? = some (.pointer (some ⟨B1, 1, none⟩)) := hS 3 106 (by decide) rfl (by show 106 < 152; decide)
          have s106 := Rega.eval_of q106
          have e0 : rLI3R pb sb PC C i c cz src ib xb tl kb kl kv bp bl be eb ll TR xr lr o0 o1 loc B1_1 B1 nd3 nd4 nd5 nd6 nd7 nd8 nd9 L9 α 1999 = row (B1) 34 #[.iface 38 (.pointer (some ⟨xb, 0, none⟩)), .int .i32 ll] := rfl
          have hr := hG.rowAt 1999 (act_base 1999 rfl) e0
          have c0 : u9.cell? ⟨B1, 1, none⟩ = some (.int .i32 ll) := hr.cell rfl
          clear hr e0
          go_simp
          exact hK _ α _ (fun _ _ => rfl) rfl (step_same (rLI3_st pb sb PC C i c cz src ib xb tl kb kl kv bp bl be eb ll TR xr lr o0 o1 loc B1_1 B1 nd3 nd4 nd5 nd6 nd7 nd8 nd9) hL hcl rfl rfl hG)
        · intro L9 α a9 u9 K9 hL hcl hA hG hS h0 hK
          replace hL : L9 5 = false := hL
          have q11 : a9.tmps[11]? = some (.func (Fn.func 39) #[] #[.pointer (some ⟨nd3, 0, none⟩), .pointer (some ⟨nd6, 0, none⟩), .pointer (some ⟨nd4, 0, none⟩)]) := (h0 11 (by kernel_rfl)).trans rfl
          have s11 := Rega.eval_of q11
          go_simp
          exact hK _ α _ (fun _ _ => rfl) rfl (step_same (rLI3_st pb sb PC C i c cz src ib xb tl kb kl kv bp bl be eb ll TR xr lr o0 o1 loc B1_1 B1 nd3 nd4 nd5 nd6 nd7 nd8 nd9) hL hcl rfl rfl hG)
        · intro L9 α a9 u9 K9 hL hcl hA hG hS h0 hK
          replace hL : L9 6 = false := hL
          have q108 : a9.tmps[108]? = some (.func (Fn.func 39) #[] #[.pointer (some ⟨nd3, 0, none⟩), .pointer (some ⟨nd6, 0, none⟩), .pointer (some ⟨nd4, 0, none⟩)]) := hS 5 108 (by decide) rfl (by show 108 < 152; decide)
          have s108 := Rega.eval_of q108
          go_simp
          have e0 : rLI3R pb sb PC C i c cz src ib xb tl kb kl kv bp bl be eb ll TR xr lr o0 o1 loc B1_1 B1 nd3 nd4 nd5 nd6 nd7 nd8 nd9 L9 α 2999 = row (pb) 178 PC := rfl
          have e1 : rLI3R pb sb PC C i c cz src ib xb tl kb kl kv bp bl be eb ll TR xr lr o0 o1 loc B1_1 B1 nd3 nd4 nd5 nd6 nd7 nd8 nd9 L9 α 3999 = row (sb) 196 C := by
            show rLI3T3999 pb sb PC C i c cz src ib xb tl kb kl kv bp bl be eb ll TR xr lr o0 o1 loc B1_1 B1 nd3 nd4 nd5 nd6 nd7 nd8 nd9 L9 α = _
            unfold rLI3T3999
            rw [if_neg (fun e => by have := hcl 16 e 6 (by decide); rw [hL] at this; cases this), if_neg (by rw [hL]; decide)]
          have e2 : rLI3R pb sb PC C i c cz src ib xb tl kb kl kv bp bl be eb ll TR xr lr o0 o1 loc B1_1 B1 nd3 nd4 nd5 nd6 nd7 nd8 nd9 L9 α 11999 = row (nd3) 25 #[.pointer (some ⟨pb, 0, none⟩)] := rfl
          have e3 : rLI3R pb sb PC C i c cz src ib xb tl kb kl kv bp bl be eb ll TR xr lr o0 o1 loc B1_1 B1 nd3 nd4 nd5 nd6 nd7 nd8 nd9 L9 α 12999 = row (nd4) 32 #[.int .i32 ll] := rfl
          have e4 : rLI3R pb sb PC C i c cz src ib xb tl kb kl kv bp bl be eb ll TR xr lr o0 o1 loc B1_1 B1 nd3 nd4 nd5 nd6 nd7 nd8 nd9 L9 α 14999 = row (nd6) 52 #[.pointer (some ⟨ib, 0, none⟩)] := rfl
          have e5 : rLI3R pb sb PC C i c cz src ib xb tl kb kl kv bp bl be eb ll TR xr lr o0 o1 loc B1_1 B1 nd3 nd4 nd5 nd6 nd7 nd8 nd9 L9 α 9999 = row (ib) 180 #[.int .u32 src, .int .u32 (i : Int), .bool false, .bool false, .bool false] := rfl
          have hM : ∀ i, i ∈ [2999, 3999, 11999, 12999, 14999, 9999] → act rLI3Cnt 18 L9 i := by
            intro i hi
            simp only [List.mem_cons, List.not_mem_nil, or_false] at hi
            rcases hi with rfl | rfl | rfl | rfl | rfl | rfl
            · exact act_base 2999 rfl
            · exact act_base 3999 rfl
            · exact act_base 11999 rfl
            · exact act_base 12999 rfl
            · exact act_base 14999 rfl
            · exact act_base 9999 rfl
          have hP : Own w0 u9 [row (pb) 178 PC, row (sb) 196 C, row (nd3) 25 #[.pointer (some ⟨pb, 0, none⟩)], row (nd4) 32 #[.int .i32 ll], row (nd6) 52 #[.pointer (some ⟨ib, 0, none⟩)], row (ib) 180 #[.int .u32 src, .int .u32 (i : Int), .bool false, .bool false, .bool false]] _ := (hG.pick [2999, 3999, 11999, 12999, 14999, 9999] (by decide) hM).conv (by
            show [rLI3R pb sb PC C i c cz src ib xb tl kb kl kv bp bl be eb ll TR xr lr o0 o1 loc B1_1 B1 nd3 nd4 nd5 nd6 nd7 nd8 nd9 L9 α 2999, rLI3R pb sb PC C i c cz src ib xb tl kb kl kv bp bl be eb ll TR xr lr o0 o1 loc B1_1 B1 nd3 nd4 nd5 nd6 nd7 nd8 nd9 L9 α 3999, rLI3R pb sb PC C i c cz src ib xb tl kb kl kv bp bl be eb ll TR xr lr o0 o1 loc B1_1 B1 nd3 nd4 nd5 nd6 nd7 nd8 nd9 L9 α 11999, rLI3R pb sb PC C i c cz src ib xb tl kb kl kv bp bl be eb ll TR xr lr o0 o1 loc B1_1 B1 nd3 nd4 nd5 nd6 nd7 nd8 nd9 L9 α 12999, rLI3R pb sb PC C i c cz src ib xb tl kb kl kv bp bl be eb ll TR xr lr o0 o1 loc B1_1 B1 nd3 nd4 nd5 nd6 nd7 nd8 nd9 L9 α 14999, rLI3R pb sb PC C i c cz src ib xb tl kb kl kv bp bl be eb ll TR xr lr o0 o1 loc B1_1 B1 nd3 nd4 nd5 nd6 nd7 nd8 nd9 L9 α 9999] = _
            rw [e0, e1, e2, e3, e4, e5])
          clear e0 e1 e2 e3 e4 e5 hM
          refine Calls.mono (capGet pb sb n cap PC C i c src ib ll nd3 nd4 nd6 _ _ _ hP hR hn hi hc hcm) ?_
          rintro e9 u1 ⟨b0, rfl, hQ⟩
          obtain ⟨α', hα'⟩ : ∃ α' : Rega.Atoms, α' = (fun j => if j = 6 then b0 else α j) := ⟨_, rfl⟩
          have f0 : rLI3R pb sb PC C i c cz src ib xb tl kb kl kv bp bl be eb ll TR xr lr o0 o1 loc B1_1 B1 nd3 nd4 nd5 nd6 nd7 nd8 nd9 (Rega.ran L9 6) α' 2999 = row (pb) 178 PC := rfl
          have f1 : rLI3R pb sb PC C i c cz src ib xb tl kb kl kv bp bl be eb ll TR xr lr o0 o1 loc B1_1 B1 nd3 nd4 nd5 nd6 nd7 nd8 nd9 (Rega.ran L9 6) α' 3999 = row (sb) 196 (bumped C i c) := by
            show rLI3T3999 pb sb PC C i c cz src ib xb tl kb kl kv bp bl be eb ll TR xr lr o0 o1 loc B1_1 B1 nd3 nd4 nd5 nd6 nd7 nd8 nd9 (Rega.ran L9 6) α' = _
            unfold rLI3T3999
            rw [if_neg (fun e => (fun e => by have := hcl 16 e 6 (by decide); rw [hL] at this; cases this) ((ran_ne (by decide)).symm.trans e)), if_pos (show Rega.ran L9 6 6 = true from rfl)]
          have f2 : rLI3R pb sb PC C i c cz src ib xb tl kb kl kv bp bl be eb ll TR xr lr o0 o1 loc B1_1 B1 nd3 nd4 nd5 nd6 nd7 nd8 nd9 (Rega.ran L9 6) α' 11999 = row (nd3) 25 #[.pointer (some ⟨pb, 0, none⟩)] := rfl
          have f3 : rLI3R pb sb PC C i c cz src ib xb tl kb kl kv bp bl be eb ll TR xr lr o0 o1 loc B1_1 B1 nd3 nd4 nd5 nd6 nd7 nd8 nd9 (Rega.ran L9 6) α' 12999 = row (nd4) 32 #[.int .i32 ll] := rfl
          have f4 : rLI3R pb sb PC C i c cz src ib xb tl kb kl kv bp bl be eb ll TR xr lr o0 o1 loc B1_1 B1 nd3 nd4 nd5 nd6 nd7 nd8 nd9 (Rega.ran L9 6) α' 14999 = row (nd6) 52 #[.pointer (some ⟨ib, 0, none⟩)] := rfl
          have f5 : rLI3R pb sb PC C i c cz src ib xb tl kb kl kv bp bl be eb ll TR xr lr o0 o1 loc B1_1 B1 nd3 nd4 nd5 nd6 nd7 nd8 nd9 (Rega.ran L9 6) α' 9999 = row (ib) 180 #[.int .u32 src, .int .u32 (i : Int), .bool false, .bool false, .bool false] := rfl
          have f6 : rLI3R pb sb PC C i c cz src ib xb tl kb kl kv bp bl be eb ll TR xr lr o0 o1 loc B1_1 B1 nd3 nd4 nd5 nd6 nd7 nd8 nd9 (Rega.ran L9 6) α' 6 = row (α' 6) 180 #[.int .u32 src, .int .u32 (i : Int), .bool false, .bool false, .bool false] := rfl
          have hα : ∀ j, j % 1000 ≠ 6 → α' j = α j := fun j hj => by rw [hα']; simp only []; rw [if_neg (by omega)]
          have hb0 : α' 6 = b0 := by rw [hα']; rfl
          skip
          refine hK _ α' _ hα ?_ (step_call (rLI3_st pb sb PC C i c cz src ib xb tl kb kl kv bp bl be eb ll TR xr lr o0 o1 loc B1_1 B1 nd3 nd4 nd5 nd6 nd7 nd8 nd9) hL hcl hα [2999, 3999, 11999, 12999, 14999, 9999] [2999, 3999, 11999, 12999, 14999, 9999, 6] (by decide) (by decide) (by decide) (M := _) ?_ hG hQ)
          · show _ = (.agg #[.iface 52 (.pointer (some ⟨α' 6, 0, none⟩)), .int .i32 ll] : Value)
            simp only [hb0]
          · show [rLI3R pb sb PC C i c cz src ib xb tl kb kl kv bp bl be eb ll TR xr lr o0 o1 loc B1_1 B1 nd3 nd4 nd5 nd6 nd7 nd8 nd9 (Rega.ran L9 6) α' 2999, rLI3R pb sb PC C i c cz src ib xb tl kb kl kv bp bl be eb ll TR xr lr o0 o1 loc B1_1 B1 nd3 nd4 nd5 nd6 nd7 nd8 nd9 (Rega.ran L9 6) α' 3999, rLI3R pb sb PC C i c cz src ib xb tl kb kl kv bp bl be eb ll TR xr lr o0 o1 loc B1_1 B1 nd3 nd4 nd5 nd6 nd7 nd8 nd9 (Rega.ran L9 6) α' 11999, rLI3R pb sb PC C i c cz src ib xb tl kb kl kv bp bl be eb ll TR xr lr o0 o1 loc B1_1 B1 nd3 nd4 nd5 nd6 nd7 nd8 nd9 (Rega.ran L9 6) α' 12999, rLI3R pb sb PC C i c cz src ib xb tl kb kl kv bp bl be eb ll TR xr lr o0 o1 loc B1_1 B1 nd3 nd4 nd5 nd6 nd7 nd8 nd9 (Rega.ran L9 6) α' 14999, rLI3R pb sb PC C i c cz src ib xb tl kb kl kv bp bl be eb ll TR xr lr o0 o1 loc B1_1 B1 nd3 nd4 nd5 nd6 nd7 nd8 nd9 (Rega.ran L9 6) α' 9999, rLI3R pb sb PC C i c cz src ib xb tl kb kl kv bp bl be eb ll TR xr lr o0 o1 loc B1_1 B1 nd3 nd4 nd5 nd6 nd7 nd8 nd9 (Rega.ran L9 6) α' 6] = _
            rw [f0, f1, f2, f3, f4, f5, f6]
            simp only [hb0]
        · intro L9 α a9 u9 K9 hL hcl hA hG hS h0 hK
          replace hL : L9 7 = false := hL
          have q13 : a9.tmps[13]? = some (.func (Fn.func 35) #[] #[.pointer (some ⟨nd7, 0, none⟩), .pointer (some ⟨nd9, 0, none⟩)]) := (h0 13 (by kernel_rfl)).trans rfl
          have s13 := Rega.eval_of q13
          go_simp
          exact hK _ α _ (fun _ _ => rfl) rfl (step_same (rLI3_st pb sb PC C i c cz src ib xb tl kb kl kv bp bl be eb ll TR xr lr o0 o1 loc B1_1 B1 nd3 nd4 nd5 nd6 nd7 nd8 nd9) hL hcl rfl rfl hG)
        · intro L9 α a9 u9 K9 hL hcl hA hG hS h0 hK
          replace hL : L9 8 = false := hL
          have q110 : a9.tmps[110]? = some (.func (Fn.func 35) #[] #[.pointer (some ⟨nd7, 0, none⟩), .pointer (some ⟨nd9, 0, none⟩)]) := hS 7 110 (by decide) rfl (by show 110 < 152; decide)
          have s110 := Rega.eval_of q110
          go_simp
          have e0 : rLI3R pb sb PC C i c cz src ib xb tl kb kl kv bp bl be eb ll TR xr lr o0 o1 loc B1_1 B1 nd3 nd4 nd5 nd6 nd7 nd8 nd9 L9 α 15999 = row (nd7) 32 #[.int .i32 ll] := rfl
          have e1 : rLI3R pb sb PC C i c cz src ib xb tl kb kl kv bp bl be eb ll TR xr lr o0 o1 loc B1_1 B1 nd3 nd4 nd5 nd6 nd7 nd8 nd9 L9 α 17999 = row (nd9) 40 #[.pointer (some ⟨kb, 0, none⟩)] := rfl
          have e2 : rLI3R pb sb PC C i c cz src ib xb tl kb kl kv bp bl be eb ll TR xr lr o0 o1 loc B1_1 B1 nd3 nd4 nd5 nd6 nd7 nd8 nd9 L9 α 10999 = row (kb) 182 #[.float .f64 kv] := rfl
          have hM : ∀ i, i ∈ [15999, 17999, 10999] → act rLI3Cnt 18 L9 i := by
            intro i hi
            simp only [List.mem_cons, List.not_mem_nil, or_false] at hi
            rcases hi with rfl | rfl | rfl
            · exact act_base 15999 rfl
            · exact act_base 17999 rfl
            · exact act_base 10999 rfl
          have hP : Own w0 u9 [row (nd7) 32 #[.int .i32 ll], row (nd9) 40 #[.pointer (some ⟨kb, 0, none⟩)], row (kb) 182 #[.float .f64 kv]] _ := (hG.pick [15999, 17999, 10999] (by decide) hM).conv (by
            show [rLI3R pb sb PC C i c cz src ib xb tl kb kl kv bp bl be eb ll TR xr lr o0 o1 loc B1_1 B1 nd3 nd4 nd5 nd6 nd7 nd8 nd9 L9 α 15999, rLI3R pb sb PC C i c cz src ib xb tl kb kl kv bp bl be eb ll TR xr lr o0 o1 loc B1_1 B1 nd3 nd4 nd5 nd6 nd7 nd8 nd9 L9 α 17999, rLI3R pb sb PC C i c cz src ib xb tl kb kl kv bp bl be eb ll TR xr lr o0 o1 loc B1_1 B1 nd3 nd4 nd5 nd6 nd7 nd8 nd9 L9 α 10999] = _
            rw [e0, e1, e2])
          clear e0 e1 e2 hM
          refine Calls.mono (capGetN kv kb ll nd7 nd9 _ _ _ hP ) ?_
          rintro e9 u1 ⟨b0, rfl, hQ⟩
          obtain ⟨α', hα'⟩ : ∃ α' : Rega.Atoms, α' = (fun j => if j = 8 then b0 else α j) := ⟨_, rfl⟩
          have f0 : rLI3R pb sb PC C i c cz src ib xb tl kb kl kv bp bl be eb ll TR xr lr o0 o1 loc B1_1 B1 nd3 nd4 nd5 nd6 nd7 nd8 nd9 (Rega.ran L9 8) α' 15999 = row (nd7) 32 #[.int .i32 ll] := rfl
          have f1 : rLI3R pb sb PC C i c cz src ib xb tl kb kl kv bp bl be eb ll TR xr lr o0 o1 loc B1_1 B1 nd3 nd4 nd5 nd6 nd7 nd8 nd9 (Rega.ran L9 8) α' 17999 = row (nd9) 40 #[.pointer (some ⟨kb, 0, none⟩)] := rfl
          have f2 : rLI3R pb sb PC C i c cz src ib xb tl kb kl kv bp bl be eb ll TR xr lr o0 o1 loc B1_1 B1 nd3 nd4 nd5 nd6 nd7 nd8 nd9 (Rega.ran L9 8) α' 10999 = row (kb) 182 #[.float .f64 kv] := rfl
          have f3 : rLI3R pb sb PC C i c cz src ib xb tl kb kl kv bp bl be eb ll TR xr lr o0 o1 loc B1_1 B1 nd3 nd4 nd5 nd6 nd7 nd8 nd9 (Rega.ran L9 8) α' 8 = row (α' 8) 182 #[.float .f64 kv] := rfl
          have hα : ∀ j, j % 1000 ≠ 8 → α' j = α j := fun j hj => by rw [hα']; simp only []; rw [if_neg (by omega)]
          have hb0 : α' 8 = b0 := by rw [hα']; rfl
          skip
          refine hK _ α' _ hα ?_ (step_call (rLI3_st pb sb PC C i c cz src ib xb tl kb kl kv bp bl be eb ll TR xr lr o0 o1 loc B1_1 B1 nd3 nd4 nd5 nd6 nd7 nd8 nd9) hL hcl hα [15999, 17999, 10999] [15999, 17999, 10999, 8] (by decide) (by decide) (by decide) (M := _) ?_ hG hQ)
          · show _ = (.agg #[.iface 40 (.pointer (some ⟨α' 8, 0, none⟩)), .int .i32 ll] : Value)
            simp only [hb0]
          · show [rLI3R pb sb PC C i c cz src ib xb tl kb kl kv bp bl be eb ll TR xr lr o0 o1 loc B1_1 B1 nd3 nd4 nd5 nd6 nd7 nd8 nd9 (Rega.ran L9 8) α' 15999, rLI3R pb sb PC C i c cz src ib xb tl kb kl kv bp bl be eb ll TR xr lr o0 o1 loc B1_1 B1 nd3 nd4 nd5 nd6 nd7 nd8 nd9 (Rega.ran L9 8) α' 17999, rLI3R pb sb PC C i c cz src ib xb tl kb kl kv bp bl be eb ll TR xr lr o0 o1 loc B1_1 B1 nd3 nd4 nd5 nd6 nd7 nd8 nd9 (Rega.ran L9 8) α' 10999, rLI3R pb sb PC C i c cz src ib xb tl kb kl kv bp bl be eb ll TR xr lr o0 o1 loc B1_1 B1 nd3 nd4 nd5 nd6 nd7 nd8 nd9 (Rega.ran L9 8) α' 8] = _
            rw [f0, f1, f2, f3]
            simp only [hb0]
        · intro L9 α a9 u9 K9 hL hcl hA hG hS h0 hK
          replace hL : L9 9 = false := hL
          have q109 : a9.tmps[109]? = some (.agg #[.iface 52 (.pointer (some ⟨α 6, 0, none⟩)), .int .i32 ll]) := hS 6 109 (by decide) rfl (by show 109 < 152; decide)
          have s109 := Rega.eval_of q109
          have q111 : a9.tmps[111]? = some (.agg #[.iface 40 (.pointer (some ⟨α 8, 0, none⟩)), .int .i32 ll]) := hS 8 111 (by decide) rfl (by show 111 < 152; decide)
          have s111 := Rega.eval_of q111
          go_simp
          exact hK _ α _ (fun _ _ => rfl) rfl (step_same (rLI3_st pb sb PC C i c cz src ib xb tl kb kl kv bp bl be eb ll TR xr lr o0 o1 loc B1_1 B1 nd3 nd4 nd5 nd6 nd7 nd8 nd9) hL hcl rfl rfl hG)
        · intro L9 α a9 u9 K9 hL hcl hA hG hS h0 hK
          replace hL : L9 10 = false := hL
          have q112 : a9.tmps[112]? = some (.agg #[.iface 52 (.pointer (some ⟨α 6, 0, none⟩)), .int .i32 ll, .iface 40 (.pointer (some ⟨α 8, 0, none⟩)), .int .i32 ll, .int .i32 0, .int .u8 0, .bool false, .bool false, .bool false]) := hS 9 112 (by decide) rfl (by show 112 < 152; decide)
          have s112 := Rega.eval_of q112
          go_simp
          exact hK _ (fun j => if j = 10 then u9.heap.size else α j) _ (fun j hj => if_neg (fun e => hj (by rw [e]))) rfl (step_alloc (rLI3_st pb sb PC C i c cz src ib xb tl kb kl kv bp bl be eb ll TR xr lr o0 o1 loc B1_1 B1 nd3 nd4 nd5 nd6 nd7 nd8 nd9) hL hcl rfl rfl (by decide) _ rfl hG)
        · intro L9 α a9 u9 K9 hL hcl hA hG hS h0 hK
          replace hL : L9 11 = false := hL
          have q113 : a9.tmps[113]? = some (.pointer (some ⟨α 10, 0, none⟩)) := hS 10 113 (by decide) rfl (by show 113 < 152; decide)
          have s113 := Rega.eval_of q113
          go_simp
          exact hK _ α _ (fun _ _ => rfl) rfl (step_same (rLI3_st pb sb PC C i c cz src ib xb tl kb kl kv bp bl be eb ll TR xr lr o0 o1 loc B1_1 B1 nd3 nd4 nd5 nd6 nd7 nd8 nd9) hL hcl rfl rfl hG)
        · intro L9 α a9 u9 K9 hL hcl hA hG hS h0 hK
          replace hL : L9 12 = false := hL
          have q107 : a9.tmps[107]? = some (.agg #[.int .i32 ll]) := hS 4 107 (by decide) rfl (by show 107 < 152; decide)
          have s107 := Rega.eval_of q107
          have q114 : a9.tmps[114]? = some (.iface 38 (.pointer (some ⟨α 10, 0, none⟩))) := hS 11 114 (by decide) rfl (by show 114 < 152; decide)
          have s114 := Rega.eval_of q114
          go_simp
          exact hK _ α _ (fun _ _ => rfl) rfl (step_same (rLI3_st pb sb PC C i c cz src ib xb tl kb kl kv bp bl be eb ll TR xr lr o0 o1 loc B1_1 B1 nd3 nd4 nd5 nd6 nd7 nd8 nd9) hL hcl rfl rfl hG)
        · intro L9 α a9 u9 K9 hL hcl hA hG hS h0 hK
          replace hL : L9 13 = false := hL
          have q4 : a9.tmps[4]? = some (.pointer (some ⟨B1, 0, none⟩)) := (h0 4 (by kernel_rfl)).trans rfl
          have s4 := Rega.eval_of q4
          go_simp
          exact hK _ α _ (fun _ _ => rfl) rfl (step_same (rLI3_st pb sb PC C i c cz src ib xb tl kb kl kv bp bl be eb ll TR xr lr o0 o1 loc B1_1 B1 nd3 nd4 nd5 nd6 nd7 nd8 nd9) hL hcl rfl rfl hG)
        · intro L9 α a9 u9 K9 hL hcl hA hG hS h0 hK
          replace hL : L9 14 = false := hL
          have q116 : a9.tmps[116]? = some (.pointer (some ⟨B1, 1, none⟩)) := hS 13 116 (by decide) rfl (by show 116 < 152; decide)
          have s116 := Rega.eval_of q116
          have e0 : rLI3R pb sb PC C i c cz src ib xb tl kb kl kv bp bl be eb ll TR xr lr o0 o1 loc B1_1 B1 nd3 nd4 nd5 nd6 nd7 nd8 nd9 L9 α 1999 = row (B1) 34 #[.iface 38 (.pointer (some ⟨xb, 0, none⟩)), .int .i32 ll] := rfl
          have hr := hG.rowAt 1999 (act_base 1999 rfl) e0
          have c0 : u9.cell? ⟨B1, 1, none⟩ = some (.int .i32 ll) := hr.cell rfl
          clear hr e0
          go_simp
          exact hK _ α _ (fun _ _ => rfl) rfl (step_same (rLI3_st pb sb PC C i c cz src ib xb tl kb kl kv bp bl be eb ll TR xr lr o0 o1 loc B1_1 B1 nd3 nd4 nd5 nd6 nd7 nd8 nd9) hL hcl rfl rfl hG)
        · intro L9 α a9 u9 K9 hL hcl hA hG hS h0 hK
          replace hL : L9 15 = false := hL
          have q11 : a9.tmps[11]? = some (.func (Fn.func 39) #[] #[.pointer (some ⟨nd3, 0, none⟩), .pointer (some ⟨nd6, 0, none⟩), .pointer (some ⟨nd4, 0, none⟩)]) := (h0 11 (by kernel_rfl)).trans rfl
          have s11 := Rega.eval_of q11
          go_simp
          exact hK _ α _ (fun _ _ => rfl) rfl (step_same (rLI3_st pb sb PC C i c cz src ib xb tl kb kl kv bp bl be eb ll TR xr lr o0 o1 loc B1_1 B1 nd3 nd4 nd5 nd6 nd7 nd8 nd9) hL hcl rfl rfl hG)
        · intro L9 α a9 u9 K9 hL hcl hA hG hS h0 hK
          replace hL : L9 16 = false := hL
          have q118 : a9.tmps[118]? = some (.func (Fn.func 39) #[] #[.pointer (some ⟨nd3, 0, none⟩), .pointer (some ⟨nd6, 0, none⟩), .pointer (some ⟨nd4, 0, none⟩)]) := hS 15 118 (by decide) rfl (by show 118 < 152; decide)
          have s118 := Rega.eval_of q118
          go_simp
          have e0 : rLI3R pb sb PC C i c cz src ib xb tl kb kl kv bp bl be eb ll TR xr lr o0 o1 loc B1_1 B1 nd3 nd4 nd5 nd6 nd7 nd8 nd9 L9 α 2999 = row (pb) 178 PC := rfl
          have e1 : rLI3R pb sb PC C i c cz src ib xb tl kb kl kv bp bl be eb ll TR xr lr o0 o1 loc B1_1 B1 nd3 nd4 nd5 nd6 nd7 nd8 nd9 L9 α 3999 = row (sb) 196 (bumped C i c) := by
            show rLI3T3999 pb sb PC C i c cz src ib xb tl kb kl kv bp bl be eb ll TR xr lr o0 o1 loc B1_1 B1 nd3 nd4 nd5 nd6 nd7 nd8 nd9 L9 α = _
            unfold rLI3T3999
            rw [if_neg (by rw [hL]; decide), if_pos (hA 6 (by decide))]
          have e2 : rLI3R pb sb PC C i c cz src ib xb tl kb kl kv bp bl be eb ll TR xr lr o0 o1 loc B1_1 B1 nd3 nd4 nd5 nd6 nd7 nd8 nd9 L9 α 11999 = row (nd3) 25 #[.pointer (some ⟨pb, 0, none⟩)] := rfl
          have e3 : rLI3R pb sb PC C i c cz src ib xb tl kb kl kv bp bl be eb ll TR xr lr o0 o1 loc B1_1 B1 nd3 nd4 nd5 nd6 nd7 nd8 nd9 L9 α 12999 = row (nd4) 32 #[.int .i32 ll] := rfl
          have e4 : rLI3R pb sb PC C i c cz src ib xb tl kb kl kv bp bl be eb ll TR xr lr o0 o1 loc B1_1 B1 nd3 nd4 nd5 nd6 nd7 nd8 nd9 L9 α 14999 = row (nd6) 52 #[.pointer (some ⟨ib, 0, none⟩)] := rfl
          have e5 : rLI3R pb sb PC C i c cz src ib xb tl kb kl kv bp bl be eb ll TR xr lr o0 o1 loc B1_1 B1 nd3 nd4 nd5 nd6 nd7 nd8 nd9 L9 α 9999 = row (ib) 180 #[.int .u32 src, .int .u32 (i : Int), .bool false, .bool false, .bool false] := rfl
          have hM : ∀ i, i ∈ [2999, 3999, 11999, 12999, 14999, 9999] → act rLI3Cnt 18 L9 i := by
            intro i hi
            simp only [List.mem_cons, List.not_mem_nil, or_false] at hi
            rcases hi with rfl | rfl | rfl | rfl | rfl | rfl
            · exact act_base 2999 rfl
            · exact act_base 3999 rfl
            · exact act_base 11999 rfl
            · exact act_base 12999 rfl
            · exact act_base 14999 rfl
            · exact act_base 9999 rfl
          have hP : Own w0 u9 [row (pb) 178 PC, row (sb) 196 (bumped C i c), row (nd3) 25 #[.pointer (some ⟨pb, 0, none⟩)], row (nd4) 32 #[.int .i32 ll], row (nd6) 52 #[.pointer (some ⟨ib, 0, none⟩)], row (ib) 180 #[.int .u32 src, .int .u32 (i : Int), .bool false, .bool false, .bool false]] _ := (hG.pick [2999, 3999, 11999, 12999, 14999, 9999] (by decide) hM).conv (by
            show [rLI3R pb sb PC C i c cz src ib xb tl kb kl kv bp bl be eb ll TR xr lr o0 o1 loc B1_1 B1 nd3 nd4 nd5 nd6 nd7 nd8 nd9 L9 α 2999, rLI3R pb sb PC C i c cz src ib xb tl kb kl kv bp bl be eb ll TR xr lr o0 o1 loc B1_1 B1 nd3 nd4 nd5 nd6 nd7 nd8 nd9 L9 α 3999, rLI3R pb sb PC C i c cz src ib xb tl kb kl kv bp bl be eb ll TR xr lr o0 o1 loc B1_1 B1 nd3 nd4 nd5 nd6 nd7 nd8 nd9 L9 α 11999, rLI3R pb sb PC C i c cz src ib xb tl kb kl kv bp bl be eb ll TR xr lr o0 o1 loc B1_1 B1 nd3 nd4 nd5 nd6 nd7 nd8 nd9 L9 α 12999, rLI3R pb sb PC C i c cz src ib xb tl kb kl kv bp bl be eb ll TR xr lr o0 o1 loc B1_1 B1 nd3 nd4 nd5 nd6 nd7 nd8 nd9 L9 α 14999, rLI3R pb sb PC C i c cz src ib xb tl kb kl kv bp bl be eb ll TR xr lr o0 o1 loc B1_1 B1 nd3 nd4 nd5 nd6 nd7 nd8 nd9 L9 α 9999] = _
            rw [e0, e1, e2, e3, e4, e5])
          clear e0 e1 e2 e3 e4 e5 hM
          refine Calls.mono (capGet pb sb n cap PC (bumped C i c) i cz src ib ll nd3 nd4 nd6 _ _ _ hP hR hn hi hcz hczm) ?_
          rintro e9 u1 ⟨b0, rfl, hQ⟩
          obtain ⟨α', hα'⟩ : ∃ α' : Rega.Atoms, α' = (fun j => if j = 16 then b0 else α j) := ⟨_, rfl⟩
          have f0 : rLI3R pb sb PC C i c cz src ib xb tl kb kl kv bp bl be eb ll TR xr lr o0 o1 loc B1_1 B1 nd3 nd4 nd5 nd6 nd7 nd8 nd9 (Rega.ran L9 16) α' 2999 = row (pb) 178 PC := rfl
          have f1 : rLI3R pb sb PC C i c cz src ib xb tl kb kl kv bp bl be eb ll TR xr lr o0 o1 loc B1_1 B1 nd3 nd4 nd5 nd6 nd7 nd8 nd9 (Rega.ran L9 16) α' 3999 = row (sb) 196 (bumped (bumped C i c) i cz) := by
            show rLI3T3999 pb sb PC C i c cz src ib xb tl kb kl kv bp bl be eb ll TR xr lr o0 o1 loc B1_1 B1 nd3 nd4 nd5 nd6 nd7 nd8 nd9 (Rega.ran L9 16) α' = _
            unfold rLI3T3999
            rw [if_pos (show Rega.ran L9 16 16 = true from rfl)]
          have f2 : rLI3R pb sb PC C i c cz src ib xb tl kb kl kv bp bl be eb ll TR xr lr o0 o1 loc B1_1 B1 nd3 nd4 nd5 nd6 nd7 nd8 nd9 (Rega.ran L9 16) α' 11999 = row (nd3) 25 #[.pointer (some ⟨pb, 0, none⟩)] := rfl
          have f3 : rLI3R pb sb PC C i c cz src ib xb tl kb kl kv bp bl be eb ll TR xr lr o0 o1 loc B1_1 B1 nd3 nd4 nd5 nd6 nd7 nd8 nd9 (Rega.ran L9 16) α' 12999 = row (nd4) 32 #[.int .i32 ll] := rfl
          have f4 : rLI3R pb sb PC C i c cz src ib xb tl kb kl kv bp bl be eb ll TR xr lr o0 o1 loc B1_1 B1 nd3 nd4 nd5 nd6 nd7 nd8 nd9 (Rega.ran L9 16) α' 14999 = row (nd6) 52 #[.pointer (some ⟨ib, 0, none⟩)] := rfl
          have f5 : rLI3R pb sb PC C i c cz src ib xb tl kb kl kv bp bl be eb ll TR xr lr o0 o1 loc B1_1 B1 nd3 nd4 nd5 nd6 nd7 nd8 nd9 (Rega.ran L9 16) α' 9999 = row (ib) 180 #[.int .u32 src, .int .u32 (i : Int), .bool false, .bool false, .bool false] := rfl
          have f6 : rLI3R pb sb PC C i c cz src ib xb tl kb kl kv bp bl be eb ll TR xr lr o0 o1 loc B1_1 B1 nd3 nd4 nd5 nd6 nd7 nd8 nd9 (Rega.ran L9 16) α' 16 = row (α' 16) 180 #[.int .u32 src, .int .u32 (i : Int), .bool false, .bool false, .bool false] := rfl
          have hα : ∀ j, j % 1000 ≠ 16 → α' j = α j := fun j hj => by rw [hα']; simp only []; rw [if_neg (by omega)]
          have hb0 : α' 16 = b0 := by rw [hα']; rfl
          skip
          refine hK _ α' _ hα ?_ (step_call (rLI3_st pb sb PC C i c cz src ib xb tl kb kl kv bp bl be eb ll TR xr lr o0 o1 loc B1_1 B1 nd3 nd4 nd5 nd6 nd7 nd8 nd9) hL hcl hα [2999, 3999, 11999, 12999, 14999, 9999] [2999, 3999, 11999, 12999, 14999, 9999, 16] (by decide) (by decide) (by decide) (M := _) ?_ hG hQ)
          · show _ = (.agg #[.iface 52 (.pointer (some ⟨α' 16, 0, none⟩)), .int .i32 ll] : Value)
            simp only [hb0]
          · show [rLI3R pb sb PC C i c cz src ib xb tl kb kl kv bp bl be eb ll TR xr lr o0 o1 loc B1_1 B1 nd3 nd4 nd5 nd6 nd7 nd8 nd9 (Rega.ran L9 16) α' 2999, rLI3R pb sb PC C i c cz src ib xb tl kb kl kv bp bl be eb ll TR xr lr o0 o1 loc B1_1 B1 nd3 nd4 nd5 nd6 nd7 nd8 nd9 (Rega.ran L9 16) α' 3999, rLI3R pb sb PC C i c cz src ib xb tl kb kl kv bp bl be eb ll TR xr lr o0 o1 loc B1_1 B1 nd3 nd4 nd5 nd6 nd7 nd8 nd9 (Rega.ran L9 16) α' 11999, rLI3R pb sb PC C i c cz src ib xb tl kb kl kv bp bl be eb ll TR xr lr o0 o1 loc B1_1 B1 nd3 nd4 nd5 nd6 nd7 nd8 nd9 (Rega.ran L9 16) α' 12999, rLI3R pb sb PC C i c cz src ib xb tl kb kl kv bp bl be eb ll TR xr lr o0 o1 loc B1_1 B1 nd3 nd4 nd5 nd6 nd7 nd8 nd9 (Rega.ran L9 16) α' 14999, rLI3R pb sb PC C i c cz src ib xb tl kb kl kv bp bl be eb ll TR xr lr o0 o1 loc B1_1 B1 nd3 nd4 nd5 nd6 nd7 nd8 nd9 (Rega.ran L9 16) α' 9999, rLI3R pb sb PC C i c cz src ib xb tl kb kl kv bp bl be eb ll TR xr lr o0 o1 loc B1_1 B1 nd3 nd4 nd5 nd6 nd7 nd8 nd9 (Rega.ran L9 16) α' 16] = _
            rw [f0, f1, f2, f3, f4, f5, f6]
            simp only [hb0]
        · intro L9 α a9 u9 K9 hL hcl hA hG hS h0 hK
          replace hL : L9 17 = false := hL
          have q13 : a9.tmps[13]? = some (.func (Fn.func 35) #[] #[.pointer (some ⟨nd7, 0, none⟩), .pointer (some ⟨nd9, 0, none⟩)]) := (h0 13 (by kernel_rfl)).trans rfl
          have s13 := Rega.eval_of q13
          go_simp
          exact hK _ α _ (fun _ _ => rfl) rfl (step_same (rLI3_st pb sb PC C i c cz src ib xb tl kb kl kv bp bl be eb ll TR xr lr o0 o1 loc B1_1 B1 nd3 nd4 nd5 nd6 nd7 nd8 nd9) hL hcl rfl rfl hG)
        · intro L9 α a9 u9 K9 hL hcl hA hG hS h0 hK
          replace hL : L9 18 = false := hL
          have q120 : a9.tmps[120]? = some (.func (Fn.func 35) #[] #[.pointer (some ⟨nd7, 0, none⟩), .pointer (some ⟨nd9, 0, none⟩)]) := hS 17 120 (by decide) rfl (by show 120 < 152; decide)
          have s120 := Rega.eval_of q120
          go_simp
          have e0 : rLI3R pb sb PC C i c cz src ib xb tl kb kl kv bp bl be eb ll TR xr lr o0 o1 loc B1_1 B1 nd3 nd4 nd5 nd6 nd7 nd8 nd9 L9 α 15999 = row (nd7) 32 #[.int .i32 ll] := rfl
          have e1 : rLI3R pb sb PC C i c cz src ib xb tl kb kl kv bp bl be eb ll TR xr lr o0 o1 loc B1_1 B1 nd3 nd4 nd5 nd6 nd7 nd8 nd9 L9 α 17999 = row (nd9) 40 #[.pointer (some ⟨kb, 0, none⟩)] := rfl
          have e2 : rLI3R pb sb PC C i c cz src ib xb tl kb kl kv bp bl be eb ll TR xr lr o0 o1 loc B1_1 B1 nd3 nd4 nd5 nd6 nd7 nd8 nd9 L9 α 10999 = row (kb) 182 #[.float .f64 kv] := rfl
          have hM : ∀ i, i ∈ [15999, 17999, 10999] → act rLI3Cnt 18 L9 i := by
            intro i hi
            simp only [List.mem_cons, List.not_mem_nil, or_false] at hi
            rcases hi with rfl | rfl | rfl
            · exact act_base 15999 rfl
            · exact act_base 17999 rfl
            · exact act_base 10999 rfl
          have hP : Own w0 u9 [row (nd7) 32 #[.int .i32 ll], row (nd9) 40 #[.pointer (some ⟨kb, 0, none⟩)], row (kb) 182 #[.float .f64 kv]] _ := (hG.pick [15999, 17999, 10999] (by decide) hM).conv (by
            show [rLI3R pb sb PC C i c cz src ib xb tl kb kl kv bp bl be eb ll TR xr lr o0 o1 loc B1_1 B1 nd3 nd4 nd5 nd6 nd7 nd8 nd9 L9 α 15999, rLI3R pb sb PC C i c cz src ib xb tl kb kl kv bp bl be eb ll TR xr lr o0 o1 loc B1_1 B1 nd3 nd4 nd5 nd6 nd7 nd8 nd9 L9 α 17999, rLI3R pb sb PC C i c cz src ib xb tl kb kl kv bp bl be eb ll TR xr lr o0 o1 loc B1_1 B1 nd3 nd4 nd5 nd6 nd7 nd8 nd9 L9 α 10999] = _
            rw [e0, e1, e2])
          clear e0 e1 e2 hM
          refine Calls.mono (capGetN kv kb ll nd7 nd9 _ _ _ hP ) ?_
          rintro e9 u1 ⟨b0, rfl, hQ⟩
          obtain ⟨α', hα'⟩ : ∃ α' : Rega.Atoms, α' = (fun j => if j = 18 then b0 else α j) := ⟨_, rfl⟩
          have f0 : rLI3R pb sb PC C i c cz src ib xb tl kb kl kv bp bl be eb ll TR xr lr o0 o1 loc B1_1 B1 nd3 nd4 nd5 nd6 nd7 nd8 nd9 (Rega.ran L9 18) α' 15999 = row (nd7) 32 #[.int .i32 ll] := rfl
          have f1 : rLI3R pb sb PC C i c cz src ib xb tl kb kl kv bp bl be eb ll TR xr lr o0 o1 loc B1_1 B1 nd3 nd4 nd5 nd6 nd7 nd8 nd9 (Rega.ran L9 18) α' 17999 = row (nd9) 40 #[.pointer (some ⟨kb, 0, none⟩)] := rfl
          have f2 : rLI3R pb sb PC C i c cz src ib xb tl kb kl kv bp bl be eb ll TR xr lr o0 o1 loc B1_1 B1 nd3 nd4 nd5 nd6 nd7 nd8 nd9 (Rega.ran L9 18) α' 10999 = row (kb) 182 #[.float .f64 kv] := rfl
          have f3 : rLI3R pb sb PC C i c cz src ib xb tl kb kl kv bp bl be eb ll TR xr lr o0 o1 loc B1_1 B1 nd3 nd4 nd5 nd6 nd7 nd8 nd9 (Rega.ran L9 18) α' 18 = row (α' 18) 182 #[.float .f64 kv] := rfl
          have hα : ∀ j, j % 1000 ≠ 18 → α' j = α j := fun j hj => by rw [hα']; simp only []; rw [if_neg (by omega)]
          have hb0 : α' 18 = b0 := by rw [hα']; rfl
          skip
          refine hK _ α' _ hα ?_ (step_call (rLI3_st pb sb PC C i c cz src ib xb tl kb kl kv bp bl be eb ll TR xr lr o0 o1 loc B1_1 B1 nd3 nd4 nd5 nd6 nd7 nd8 nd9) hL hcl hα [15999, 17999, 10999] [15999, 17999, 10999, 18] (by decide) (by decide) (by decide) (M := _) ?_ hG hQ)
          · show _ = (.agg #[.iface 40 (.pointer (some ⟨α' 18, 0, none⟩)), .int .i32 ll] : Value)
            simp only [hb0]
          · show [rLI3R pb sb PC C i c cz src ib xb tl kb kl kv bp bl be eb ll TR xr lr o0 o1 loc B1_1 B1 nd3 nd4 nd5 nd6 nd7 nd8 nd9 (Rega.ran L9 18) α' 15999, rLI3R pb sb PC C i c cz src ib xb tl kb kl kv bp bl be eb ll TR xr lr o0 o1 loc B1_1 B1 nd3 nd4 nd5 nd6 nd7 nd8 nd9 (Rega.ran L9 18) α' 17999, rLI3R pb sb PC C i c cz src ib xb tl kb kl kv bp bl be eb ll TR xr lr o0 o1 loc B1_1 B1 nd3 nd4 nd5 nd6 nd7 nd8 nd9 (Rega.ran L9 18) α' 10999, rLI3R pb sb PC C i c cz src ib xb tl kb kl kv bp bl be eb ll TR xr lr o0 o1 loc B1_1 B1 nd3 nd4 nd5 nd6 nd7 nd8 nd9 (Rega.ran L9 18) α' 18] = _
            rw [f0, f1, f2, f3]
            simp only [hb0]
        · intro L9 α a9 u9 K9 hL hcl hA hG hS h0 hK
          replace hL : L9 19 = false := hL
          have q119 : a9.tmps[119]? = some (.agg #[.iface 52 (.pointer (some ⟨α 16, 0, none⟩)), .int .i32 ll]) := hS 16 119 (by decide) rfl (by show 119 < 152; decide)
          have s119 := Rega.eval_of q119
          have q121 : a9.tmps[121]? = some (.agg #[.iface 40 (.pointer (some ⟨α 18, 0, none⟩)), .int .i32 ll]) := hS 18 121 (by decide) rfl (by show 121 < 152; decide)
          have s121 := Rega.eval_of q121
          go_simp
          exact hK _ α _ (fun _ _ => rfl) rfl (step_same (rLI3_st pb sb PC C i c cz src ib xb tl kb kl kv bp bl be eb ll TR xr lr o0 o1 loc B1_1 B1 nd3 nd4 nd5 nd6 nd7 nd8 nd9) hL hcl rfl rfl hG)
        · intro L9 α a9 u9 K9 hL hcl hA hG hS h0 hK
          replace hL : L9 20 = false := hL
          have q122 : a9.tmps[122]? = some (.agg #[.iface 52 (.pointer (some ⟨α 16, 0, none⟩)), .int .i32 ll, .iface 40 (.pointer (some ⟨α 18, 0, none⟩)), .int .i32 ll, .int .i32 0, .int .u8 0, .bool false, .bool false, .bool false]) := hS 19 122 (by decide) rfl (by show 122 < 152; decide)
          have s122 := Rega.eval_of q122
          go_simp
          exact hK _ (fun j => if j = 20 then u9.heap.size else α j) _ (fun j hj => if_neg (fun e => hj (by rw [e]))) rfl (step_alloc (rLI3_st pb sb PC C i c cz src ib xb tl kb kl kv bp bl be eb ll TR xr lr o0 o1 loc B1_1 B1 nd3 nd4 nd5 nd6 nd7 nd8 nd9) hL hcl rfl rfl (by decide) _ rfl hG)
        · intro L9 α a9 u9 K9 hL hcl hA hG hS h0 hK
          replace hL : L9 21 = false := hL
          have q123 : a9.tmps[123]? = some (.pointer (some ⟨α 20, 0, none⟩)) := hS 20 123 (by decide) rfl (by show 123 < 152; decide)
          have s123 := Rega.eval_of q123
          go_simp
          exact hK _ α _ (fun _ _ => rfl) rfl (step_same (rLI3_st pb sb PC C i c cz src ib xb tl kb kl kv bp bl be eb ll TR xr lr o0 o1 loc B1_1 B1 nd3 nd4 nd5 nd6 nd7 nd8 nd9) hL hcl rfl rfl hG)
        · intro L9 α a9 u9 K9 hL hcl hA hG hS h0 hK
          replace hL : L9 22 = false := hL
          have q117 : a9.tmps[117]? = some (.agg #[.int .i32 ll]) := hS 14 117 (by decide) rfl (by show 117 < 152; decide)
          have s117 := Rega.eval_of q117
          have q124 : a9.tmps[124]? = some (.iface 38 (.pointer (some ⟨α 20, 0, none⟩))) := hS 21 124 (by decide) rfl (by show 124 < 152; decide)
          have s124 := Rega.eval_of q124
          go_simp
          exact hK _ α _ (fun _ _ => rfl) rfl (step_same (rLI3_st pb sb PC C i c cz src ib xb tl kb kl kv bp bl be eb ll TR xr lr o0 o1 loc B1_1 B1 nd3 nd4 nd5 nd6 nd7 nd8 nd9) hL hcl rfl rfl hG)
        · intro L9 α a9 u9 K9 hL hcl hA hG hS h0 hK
          replace hL : L9 23 = false := hL
          have q105 : a9.tmps[105]? = some (.func (Fn.func 27) #[] #[.pointer (some ⟨bp, 0, none⟩), .pointer (some ⟨bl, 0, none⟩), .pointer (some ⟨be, 0, none⟩)]) := hS 2 105 (by decide) rfl (by show 105 < 152; decide)
          have s105 := Rega.eval_of q105
          have q115 : a9.tmps[115]? = some (.agg #[.iface 38 (.pointer (some ⟨α 10, 0, none⟩)), .int .i32 ll]) := hS 12 115 (by decide) rfl (by show 115 < 152; decide)
          have s115 := Rega.eval_of q115
          have q125 : a9.tmps[125]? = some (.agg #[.iface 38 (.pointer (some ⟨α 20, 0, none⟩)), .int .i32 ll]) := hS 22 125 (by decide) rfl (by show 125 < 152; decide)
          have s125 := Rega.eval_of q125
          go_simp
          have e0 : rLI3R pb sb PC C i c cz src ib xb tl kb kl kv bp bl be eb ll TR xr lr o0 o1 loc B1_1 B1 nd3 nd4 nd5 nd6 nd7 nd8 nd9 L9 α 2999 = row (pb) 178 PC := rfl
          have e1 : rLI3R pb sb PC C i c cz src ib xb tl kb kl kv bp bl be eb ll TR xr lr o0 o1 loc B1_1 B1 nd3 nd4 nd5 nd6 nd7 nd8 nd9 L9 α 4999 = row (bp) 25 #[.pointer (some ⟨pb, 0, none⟩)] := rfl
          have e2 : rLI3R pb sb PC C i c cz src ib xb tl kb kl kv bp bl be eb ll TR xr lr o0 o1 loc B1_1 B1 nd3 nd4 nd5 nd6 nd7 nd8 nd9 L9 α 5999 = row (bl) 32 #[.int .i32 loc] := rfl
          have e3 : rLI3R pb sb PC C i c cz src ib xb tl kb kl kv bp bl be eb ll TR xr lr o0 o1 loc B1_1 B1 nd3 nd4 nd5 nd6 nd7 nd8 nd9 L9 α 6999 = row (be) 42 #[.pointer (some ⟨eb, 0, none⟩)] := rfl
          have e4 : rLI3R pb sb PC C i c cz src ib xb tl kb kl kv bp bl be eb ll TR xr lr o0 o1 loc B1_1 B1 nd3 nd4 nd5 nd6 nd7 nd8 nd9 L9 α 7999 = row (eb) 45 #[.iface 38 (.pointer (some ⟨xb, 0, none⟩)), .int .i32 ll, .iface TR (.pointer (some ⟨xr, 0, none⟩)), .int .i32 lr, .int .u8 o0, .bool o1] := rfl
          have hM : ∀ i, i ∈ [2999, 4999, 5999, 6999, 7999] → act rLI3Cnt 18 L9 i := by
            intro i hi
            simp only [List.mem_cons, List.not_mem_nil, or_false] at hi
            rcases hi with rfl | rfl | rfl | rfl | rfl
            · exact act_base 2999 rfl
            · exact act_base 4999 rfl
            · exact act_base 5999 rfl
            · exact act_base 6999 rfl
            · exact act_base 7999 rfl
          have hP : Own w0 u9 [row (pb) 178 PC, row (bp) 25 #[.pointer (some ⟨pb, 0, none⟩)], row (bl) 32 #[.int .i32 loc], row (be) 42 #[.pointer (some ⟨eb, 0, none⟩)], row (eb) 45 #[.iface 38 (.pointer (some ⟨xb, 0, none⟩)), .int .i32 ll, .iface TR (.pointer (some ⟨xr, 0, none⟩)), .int .i32 lr, .int .u8 o0, .bool o1]] _ := (hG.pick [2999, 4999, 5999, 6999, 7999] (by decide) hM).conv (by
            show [rLI3R pb sb PC C i c cz src ib xb tl kb kl kv bp bl be eb ll TR xr lr o0 o1 loc B1_1 B1 nd3 nd4 nd5 nd6 nd7 nd8 nd9 L9 α 2999, rLI3R pb sb PC C i c cz src ib xb tl kb kl kv bp bl be eb ll TR xr lr o0 o1 loc B1_1 B1 nd3 nd4 nd5 nd6 nd7 nd8 nd9 L9 α 4999, rLI3R pb sb PC C i c cz src ib xb tl kb kl kv bp bl be eb ll TR xr lr o0 o1 loc B1_1 B1 nd3 nd4 nd5 nd6 nd7 nd8 nd9 L9 α 5999, rLI3R pb sb PC C i c cz src ib xb tl kb kl kv bp bl be eb ll TR xr lr o0 o1 loc B1_1 B1 nd3 nd4 nd5 nd6 nd7 nd8 nd9 L9 α 6999, rLI3R pb sb PC C i c cz src ib xb tl kb kl kv bp bl be eb ll TR xr lr o0 o1 loc B1_1 B1 nd3 nd4 nd5 nd6 nd7 nd8 nd9 L9 α 7999] = _
            rw [e0, e1, e2, e3, e4])
          clear e0 e1 e2 e3 e4 hM
          refine Calls.mono (nullFn pb PC x bp bl be eb 38 xb ll TR xr lr o0 o1 loc 38 (α 10) ll 38 (α 20) ll _ _ _ hP hx hx1) ?_
          rintro e9 u1 ⟨b0, b1, rfl, hQ⟩
          obtain ⟨α', hα'⟩ : ∃ α' : Rega.Atoms, α' = (fun j => if j = 23 then b0 else if j = 1023 then b1 else α j) := ⟨_, rfl⟩
          have f0 : rLI3R pb sb PC C i c cz src ib xb tl kb kl kv bp bl be eb ll TR xr lr o0 o1 loc B1_1 B1 nd3 nd4 nd5 nd6 nd7 nd8 nd9 (Rega.ran L9 23) α' 2999 = row (pb) 178 PC := rfl
          have f1 : rLI3R pb sb PC C i c cz src ib xb tl kb kl kv bp bl be eb ll TR xr lr o0 o1 loc B1_1 B1 nd3 nd4 nd5 nd6 nd7 nd8 nd9 (Rega.ran L9 23) α' 4999 = row (bp) 25 #[.pointer (some ⟨pb, 0, none⟩)] := rfl
          have f2 : rLI3R pb sb PC C i c cz src ib xb tl kb kl kv bp bl be eb ll TR xr lr o0 o1 loc B1_1 B1 nd3 nd4 nd5 nd6 nd7 nd8 nd9 (Rega.ran L9 23) α' 5999 = row (bl) 32 #[.int .i32 loc] := rfl
          have f3 : rLI3R pb sb PC C i c cz src ib xb tl kb kl kv bp bl be eb ll TR xr lr o0 o1 loc B1_1 B1 nd3 nd4 nd5 nd6 nd7 nd8 nd9 (Rega.ran L9 23) α' 6999 = row (be) 42 #[.pointer (some ⟨eb, 0, none⟩)] := rfl
          have f4 : rLI3R pb sb PC C i c cz src ib xb tl kb kl kv bp bl be eb ll TR xr lr o0 o1 loc B1_1 B1 nd3 nd4 nd5 nd6 nd7 nd8 nd9 (Rega.ran L9 23) α' 7999 = row (eb) 45 #[.iface 38 (.pointer (some ⟨xb, 0, none⟩)), .int .i32 ll, .iface TR (.pointer (some ⟨xr, 0, none⟩)), .int .i32 lr, .int .u8 o0, .bool o1] := rfl
          have f5 : rLI3R pb sb PC C i c cz src ib xb tl kb kl kv bp bl be eb ll TR xr lr o0 o1 loc B1_1 B1 nd3 nd4 nd5 nd6 nd7 nd8 nd9 (Rega.ran L9 23) α' 23 = row (α' 23) 45 #[.iface 38 (.pointer (some ⟨α' 10, 0, none⟩)), .int .i32 ll, .iface 42 (.pointer (some ⟨α' 1023, 0, none⟩)), .int .i32 ll, .int .u8 30, .bool false] := rfl
          have f6 : rLI3R pb sb PC C i c cz src ib xb tl kb kl kv bp bl be eb ll TR xr lr o0 o1 loc B1_1 B1 nd3 nd4 nd5 nd6 nd7 nd8 nd9 (Rega.ran L9 23) α' 1023 = row (α' 1023) 45 #[.iface 38 (.pointer (some ⟨α' 20, 0, none⟩)), .int .i32 ll, .iface TR (.pointer (some ⟨xr, 0, none⟩)), .int .i32 lr, .int .u8 37, .bool false] := rfl
          have hα : ∀ j, j % 1000 ≠ 23 → α' j = α j := fun j hj => by rw [hα']; simp only []; rw [if_neg (by omega), if_neg (by omega)]
          have hb0 : α' 23 = b0 := by rw [hα']; rfl
          have hb1 : α' 1023 = b1 := by rw [hα']; rfl
          have ha10 : α' 10 = α 10 := hα 10 (by decide)
          have ha20 : α' 20 = α 20 := hα 20 (by decide)
          skip
          refine hK _ α' _ hα ?_ (step_call (rLI3_st pb sb PC C i c cz src ib xb tl kb kl kv bp bl be eb ll TR xr lr o0 o1 loc B1_1 B1 nd3 nd4 nd5 nd6 nd7 nd8 nd9) hL hcl hα [2999, 4999, 5999, 6999, 7999] [2999, 4999, 5999, 6999, 7999, 23, 1023] (by decide) (by decide) (by decide) (M := _) ?_ hG hQ)
          · show _ = (.agg #[.iface 42 (.pointer (some ⟨α' 23, 0, none⟩)), .int .i32 loc] : Value)
            simp only [hb0]
          · show [rLI3R pb sb PC C i c cz src ib xb tl kb kl kv bp bl be eb ll TR xr lr o0 o1 loc B1_1 B1 nd3 nd4 nd5 nd6 nd7 nd8 nd9 (Rega.ran L9 23) α' 2999, rLI3R pb sb PC C i c cz src ib xb tl kb kl kv bp bl be eb ll TR xr lr o0 o1 loc B1_1 B1 nd3 nd4 nd5 nd6 nd7 nd8 nd9 (Rega.ran L9 23) α' 4999, rLI3R pb sb PC C i c cz src ib xb tl kb kl kv bp bl be eb ll TR xr lr o0 o1 loc B1_1 B1 nd3 nd4 nd5 nd6 nd7 nd8 nd9 (Rega.ran L9 23) α' 5999, rLI3R pb sb PC C i c cz src ib xb tl kb kl kv bp bl be eb ll TR xr lr o0 o1 loc B1_1 B1 nd3 nd4 nd5 nd6 nd7 nd8 nd9 (Rega.ran L9 23) α' 6999, rLI3R pb sb PC C i c cz src ib xb tl kb kl kv bp bl be eb ll TR xr lr o0 o1 loc B1_1 B1 nd3 nd4 nd5 nd6 nd7 nd8 nd9 (Rega.ran L9 23) α' 7999, rLI3R pb sb PC C i c cz src ib xb tl kb kl kv bp bl be eb ll TR xr lr o0 o1 loc B1_1 B1 nd3 nd4 nd5 nd6 nd7 nd8 nd9 (Rega.ran L9 23) α' 23, rLI3R pb sb PC C i c cz src ib xb tl kb kl kv bp bl be eb ll TR xr lr o0 o1 loc B1_1 B1 nd3 nd4 nd5 nd6 nd7 nd8 nd9 (Rega.ran L9 23) α' 1023] = _
            rw [f0, f1, f2, f3, f4, f5, f6]
            simp only [hb0, hb1, ha10, ha20]
        · intro L9 α a9 u9 K9 hL hcl hA hG hS h0 hK
          replace hL : L9 24 = false := hL
          have q104 : a9.tmps[104]? = some (.func (Fn.func 30) #[] #[.pointer (some ⟨nd8, 0, none⟩)]) := hS 1 104 (by decide) rfl (by show 104 < 152; decide)
          have s104 := Rega.eval_of q104
          have q126 : a9.tmps[126]? = some (.agg #[.iface 42 (.pointer (some ⟨α 23, 0, none⟩)), .int .i32 loc]) := hS 23 126 (by decide) rfl (by show 126 < 152; decide)
          have s126 := Rega.eval_of q126
          go_simp
          have hM : ∀ i, i ∈ [] → act rLI3Cnt 18 L9 i := by intro i hi; simp at hi
          have hP : Own w0 u9 [] _ := hG.pick [] (by decide) (by simp)
          clear hM
          refine Calls.mono (capWrap 42 (α 23) loc nd8 _ _ _ hP ) ?_
          rintro e9 u1 ⟨rfl, hQ⟩
          obtain ⟨α', hα'⟩ : ∃ α' : Rega.Atoms, α' = α := ⟨_, rfl⟩
          have hα : ∀ j, j % 1000 ≠ 24 → α' j = α j := fun j hj => by rw [hα']
          have ha23 : α' 23 = α 23 := hα 23 (by decide)
          skip
          refine hK _ α' _ hα ?_ (step_call (rLI3_st pb sb PC C i c cz src ib xb tl kb kl kv bp bl be eb ll TR xr lr o0 o1 loc B1_1 B1 nd3 nd4 nd5 nd6 nd7 nd8 nd9) hL hcl hα [] [] (by decide) (by decide) (by decide) (M := _) ?_ hG hQ)
          · show _ = (.agg #[.iface 42 (.pointer (some ⟨α' 23, 0, none⟩)), .int .i32 loc] : Value)
            simp only [ha23]
          · show [] = _
            rw []
        · intro L9 α a9 u9 K9 hL hcl hA hG hS h0 hK
          replace hL : L9 25 = false := hL
          have q103 : a9.tmps[103]? = some (.func (Fn.func 30) #[] #[.pointer (some ⟨nd5, 0, none⟩)]) := hS 0 103 (by decide) rfl (by show 103 < 152; decide)
          have s103 := Rega.eval_of q103
          have q127 : a9.tmps[127]? = some (.agg #[.iface 42 (.pointer (some ⟨α 23, 0, none⟩)), .int .i32 loc]) := hS 24 127 (by decide) rfl (by show 127 < 152; decide)
          have s127 := Rega.eval_of q127
          go_simp
          have hM : ∀ i, i ∈ [] → act rLI3Cnt 18 L9 i := by intro i hi; simp at hi
          have hP : Own w0 u9 [] _ := hG.pick [] (by decide) (by simp)
          clear hM
          refine Calls.mono (capWrap 42 (α 23) loc nd5 _ _ _ hP ) ?_
          rintro e9 u1 ⟨rfl, hQ⟩
          obtain ⟨α', hα'⟩ : ∃ α' : Rega.Atoms, α' = α := ⟨_, rfl⟩
          have hα : ∀ j, j % 1000 ≠ 25 → α' j = α j := fun j hj => by rw [hα']
          have ha23 : α' 23 = α 23 := hα 23 (by decide)
          skip
          refine hK _ α' _ hα ?_ (step_call (rLI3_st pb sb PC C i c cz src ib xb tl kb kl kv bp bl be eb ll TR xr lr o0 o1 loc B1_1 B1 nd3 nd4 nd5 nd6 nd7 nd8 nd9) hL hcl hα [] [] (by decide) (by decide) (by decide) (M := _) ?_ hG hQ)
          · show _ = (.agg #[.iface 42 (.pointer (some ⟨α' 23, 0, none⟩)), .int .i32 loc] : Value)
            simp only [ha23]
          · show [] = _
            rw []
        · intro L9 α a9 u9 K9 hL hcl hA hG hS h0 hK
          replace hL : L9 26 = false := hL
          have q6 : a9.tmps[6]? = some (.pointer (some ⟨B1_1, 0, none⟩)) := (h0 6 (by kernel_rfl)).trans rfl
          have s6 := Rega.eval_of q6
          have q128 : a9.tmps[128]? = some (.agg #[.iface 42 (.pointer (some ⟨α 23, 0, none⟩)), .int .i32 loc]) := hS 25 128 (by decide) rfl (by show 128 < 152; decide)
          have s128 := Rega.eval_of q128
          have e0 : rLI3R pb sb PC C i c cz src ib xb tl kb kl kv bp bl be eb ll TR xr lr o0 o1 loc B1_1 B1 nd3 nd4 nd5 nd6 nd7 nd8 nd9 L9 α 999 = row (B1_1) 34 #[.nilIface, .int .i32 0] := by
            show rLI3T999 pb sb PC C i c cz src ib xb tl kb kl kv bp bl be eb ll TR xr lr o0 o1 loc B1_1 B1 nd3 nd4 nd5 nd6 nd7 nd8 nd9 L9 α = _
            unfold rLI3T999
            rw [if_neg (by rw [hL]; decide)]
          have hr := hG.rowAt 999 (act_base 999 rfl) e0
          have c0 : u9.cell? ⟨B1_1, 0, none⟩ = some (.nilIface) := hr.cell rfl
          have y0 : u9.frozen? ⟨B1_1, 0, none⟩ = false := hr.free 0
          have c1 : u9.cell? ⟨B1_1, 1, none⟩ = some (.int .i32 0) := hr.cell rfl
          have y1 : u9.frozen? ⟨B1_1, 1, none⟩ = false := hr.free 1
          clear hr
          have E0 := Lib.hid e0
          clear e0
          go_simp
          have e1 : rLI3R pb sb PC C i c cz src ib xb tl kb kl kv bp bl be eb ll TR xr lr o0 o1 loc B1_1 B1 nd3 nd4 nd5 nd6 nd7 nd8 nd9 (Rega.ran L9 26) α 999 = row (B1_1) 34 #[.iface 42 (.pointer (some ⟨α 23, 0, none⟩)), .int .i32 loc] := by
            show rLI3T999 pb sb PC C i c cz src ib xb tl kb kl kv bp bl be eb ll TR xr lr o0 o1 loc B1_1 B1 nd3 nd4 nd5 nd6 nd7 nd8 nd9 (Rega.ran L9 26) α = _
            unfold rLI3T999
            rw [if_pos (show Rega.ran L9 26 26 = true from rfl)]
          exact hK _ α _ (fun _ _ => rfl) rfl (step_sets (rLI3_st pb sb PC C i c cz src ib xb tl kb kl kv bp bl be eb ll TR xr lr o0 o1 loc B1_1 B1 nd3 nd4 nd5 nd6 nd7 nd8 nd9) hL hcl rfl 999 rfl (act_base 999 rfl) E0.out 0 [.iface 42 (.pointer (some ⟨α 23, 0, none⟩)), .int .i32 loc] (e1.trans rfl) hG)
      · intro α u hG
        have e0 : rLI3R pb sb PC C i c cz src ib xb tl kb kl kv bp bl be eb ll TR xr lr o0 o1 loc B1_1 B1 nd3 nd4 nd5 nd6 nd7 nd8 nd9 (fun k => decide (k < 27)) α 999 = row (B1_1) 34 #[.iface 42 (.pointer (some ⟨α 23, 0, none⟩)), .int .i32 loc] := by
          show rLI3T999 pb sb PC C i c cz src ib xb tl kb kl kv bp bl be eb ll TR xr lr o0 o1 loc B1_1 B1 nd3 nd4 nd5 nd6 nd7 nd8 nd9 (fun k => decide (k < 27)) α = _
          unfold rLI3T999
          rw [if_pos (by decide)]
        have e1 : rLI3R pb sb PC C i c cz src ib xb tl kb kl kv bp bl be eb ll TR xr lr o0 o1 loc B1_1 B1 nd3 nd4 nd5 nd6 nd7 nd8 nd9 (fun k => decide (k < 27)) α 1999 = row (B1) 34 #[.iface 38 (.pointer (some ⟨xb, 0, none⟩)), .int .i32 ll] := rfl
        have e2 : rLI3R pb sb PC C i c cz src ib xb tl kb kl kv bp bl be eb ll TR xr lr o0 o1 loc B1_1 B1 nd3 nd4 nd5 nd6 nd7 nd8 nd9 (fun k => decide (k < 27)) α 2999 = row (pb) 178 PC := rfl
        have e3 : rLI3R pb sb PC C i c cz src ib xb tl kb kl kv bp bl be eb ll TR xr lr o0 o1 loc B1_1 B1 nd3 nd4 nd5 nd6 nd7 nd8 nd9 (fun k => decide (k < 27)) α 3999 = row (sb) 196 (bumped (bumped C i c) i cz) := by
          show rLI3T3999 pb sb PC C i c cz src ib xb tl kb kl kv bp bl be eb ll TR xr lr o0 o1 loc B1_1 B1 nd3 nd4 nd5 nd6 nd7 nd8 nd9 (fun k => decide (k < 27)) α = _
          unfold rLI3T3999
          rw [if_pos (by decide)]
        have e4 : rLI3R pb sb PC C i c cz src ib xb tl kb kl kv bp bl be eb ll TR xr lr o0 o1 loc B1_1 B1 nd3 nd4 nd5 nd6 nd7 nd8 nd9 (fun k => decide (k < 27)) α 4999 = row (bp) 25 #[.pointer (some ⟨pb, 0, none⟩)] := rfl
        have e5 : rLI3R pb sb PC C i c cz src ib xb tl kb kl kv bp bl be eb ll TR xr lr o0 o1 loc B1_1 B1 nd3 nd4 nd5 nd6 nd7 nd8 nd9 (fun k => decide (k < 27)) α 5999 = row (bl) 32 #[.int .i32 loc] := rfl
        have e6 : rLI3R pb sb PC C i c cz src ib xb tl kb kl kv bp bl be eb ll TR xr lr o0 o1 loc B1_1 B1 nd3 nd4 nd5 nd6 nd7 nd8 nd9 (fun k => decide (k < 27)) α 6999 = row (be) 42 #[.pointer (some ⟨eb, 0, none⟩)] := rfl
        have e7 : rLI3R pb sb PC C i c cz src ib xb tl kb kl kv bp bl be eb ll TR xr lr o0 o1 loc B1_1 B1 nd3 nd4 nd5 nd6 nd7 nd8 nd9 (fun k => decide (k < 27)) α 7999 = row (eb) 45 #[.iface 38 (.pointer (some ⟨xb, 0, none⟩)), .int .i32 ll, .iface TR (.pointer (some ⟨xr, 0, none⟩)), .int .i32 lr, .int .u8 o0, .bool o1] := rfl
        have e8 : rLI3R pb sb PC C i c cz src ib xb tl kb kl kv bp bl be eb ll TR xr lr o0 o1 loc B1_1 B1 nd3 nd4 nd5 nd6 nd7 nd8 nd9 (fun k => decide (k < 27)) α 8999 = row (xb) 56 #[.iface 52 (.pointer (some ⟨ib, 0, none⟩)), .int .i32 tl, .iface 40 (.pointer (some ⟨kb, 0, none⟩)), .int .i32 kl, .int .i32 0, .int .u8 0, .bool false, .bool false, .bool false] := rfl
        have e9 : rLI3R pb sb PC C i c cz src ib xb tl kb kl kv bp bl be eb ll TR xr lr o0 o1 loc B1_1 B1 nd3 nd4 nd5 nd6 nd7 nd8 nd9 (fun k => decide (k < 27)) α 9999 = row (ib) 180 #[.int .u32 src, .int .u32 (i : Int), .bool false, .bool false, .bool false] := rfl
        have e10 : rLI3R pb sb PC C i c cz src ib xb tl kb kl kv bp bl be eb ll TR xr lr o0 o1 loc B1_1 B1 nd3 nd4 nd5 nd6 nd7 nd8 nd9 (fun k => decide (k < 27)) α 10999 = row (kb) 182 #[.float .f64 kv] := rfl
        have e11 : rLI3R pb sb PC C i c cz src ib xb tl kb kl kv bp bl be eb ll TR xr lr o0 o1 loc B1_1 B1 nd3 nd4 nd5 nd6 nd7 nd8 nd9 (fun k => decide (k < 27)) α 11999 = row (nd3) 25 #[.pointer (some ⟨pb, 0, none⟩)] := rfl
        have e12 : rLI3R pb sb PC C i c cz src ib xb tl kb kl kv bp bl be eb ll TR xr lr o0 o1 loc B1_1 B1 nd3 nd4 nd5 nd6 nd7 nd8 nd9 (fun k => decide (k < 27)) α 12999 = row (nd4) 32 #[.int .i32 ll] := rfl
        have e13 : rLI3R pb sb PC C i c cz src ib xb tl kb kl kv bp bl be eb ll TR xr lr o0 o1 loc B1_1 B1 nd3 nd4 nd5 nd6 nd7 nd8 nd9 (fun k => decide (k < 27)) α 13999 = row (nd5) 34 #[.iface 52 (.pointer (some ⟨ib, 0, none⟩)), .int .i32 tl] := rfl
        have e14 : rLI3R pb sb PC C i c cz src ib xb tl kb kl kv bp bl be eb ll TR xr lr o0 o1 loc B1_1 B1 nd3 nd4 nd5 nd6 nd7 nd8 nd9 (fun k => decide (k < 27)) α 14999 = row (nd6) 52 #[.pointer (some ⟨ib, 0, none⟩)] := rfl
        have e15 : rLI3R pb sb PC C i c cz src ib xb tl kb kl kv bp bl be eb ll TR xr lr o0 o1 loc B1_1 B1 nd3 nd4 nd5 nd6 nd7 nd8 nd9 (fun k => decide (k < 27)) α 15999 = row (nd7) 32 #[.int .i32 ll] := rfl
        have e16 : rLI3R pb sb PC C i c cz src ib xb tl kb kl kv bp bl be eb ll TR xr lr o0 o1 loc B1_1 B1 nd3 nd4 nd5 nd6 nd7 nd8 nd9 (fun k => decide (k < 27)) α 16999 = row (nd8) 34 #[.iface 40 (.pointer (some ⟨kb, 0, none⟩)), .int .i32 kl] := rfl
        have e17 : rLI3R pb sb PC C i c cz src ib xb tl kb kl kv bp bl be eb ll TR xr lr o0 o1 loc B1_1 B1 nd3 nd4 nd5 nd6 nd7 nd8 nd9 (fun k => decide (k < 27)) α 17999 = row (nd9) 40 #[.pointer (some ⟨kb, 0, none⟩)] := rfl
        have e18 : rLI3R pb sb PC C i c cz src ib xb tl kb kl kv bp bl be eb ll TR xr lr o0 o1 loc B1_1 B1 nd3 nd4 nd5 nd6 nd7 nd8 nd9 (fun k => decide (k < 27)) α 6 = row (α 6) 180 #[.int .u32 src, .int .u32 (i : Int), .bool false, .bool false, .bool false] := rfl
        have e19 : rLI3R pb sb PC C i c cz src ib xb tl kb kl kv bp bl be eb ll TR xr lr o0 o1 loc B1_1 B1 nd3 nd4 nd5 nd6 nd7 nd8 nd9 (fun k => decide (k < 27)) α 8 = row (α 8) 182 #[.float .f64 kv] := rfl
        have e20 : rLI3R pb sb PC C i c cz src ib xb tl kb kl kv bp bl be eb ll TR xr lr o0 o1 loc B1_1 B1 nd3 nd4 nd5 nd6 nd7 nd8 nd9 (fun k => decide (k < 27)) α 10 = row (α 10) 56 #[.iface 52 (.pointer (some ⟨α 6, 0, none⟩)), .int .i32 ll, .iface 40 (.pointer (some ⟨α 8, 0, none⟩)), .int .i32 ll, .int .i32 0, .int .u8 0, .bool false, .bool false, .bool false] := rfl
        have e21 : rLI3R pb sb PC C i c cz src ib xb tl kb kl kv bp bl be eb ll TR xr lr o0 o1 loc B1_1 B1 nd3 nd4 nd5 nd6 nd7 nd8 nd9 (fun k => decide (k < 27)) α 16 = row (α 16) 180 #[.int .u32 src, .int .u32 (i : Int), .bool false, .bool false, .bool false] := rfl
        have e22 : rLI3R pb sb PC C i c cz src ib xb tl kb kl kv bp bl be eb ll TR xr lr o0 o1 loc B1_1 B1 nd3 nd4 nd5 nd6 nd7 nd8 nd9 (fun k => decide (k < 27)) α 18 = row (α 18) 182 #[.float .f64 kv] := rfl
        have e23 : rLI3R pb sb PC C i c cz src ib xb tl kb kl kv bp bl be eb ll TR xr lr o0 o1 loc B1_1 B1 nd3 nd4 nd5 nd6 nd7 nd8 nd9 (fun k => decide (k < 27)) α 20 = row (α 20) 56 #[.iface 52 (.pointer (some ⟨α 16, 0, none⟩)), .int .i32 ll, .iface 40 (.pointer (some ⟨α 18, 0, none⟩)), .int .i32 ll, .int .i32 0, .int .u8 0, .bool false, .bool false, .bool false] := rfl
        have e24 : rLI3R pb sb PC C i c cz src ib xb tl kb kl kv bp bl be eb ll TR xr lr o0 o1 loc B1_1 B1 nd3 nd4 nd5 nd6 nd7 nd8 nd9 (fun k => decide (k < 27)) α 23 = row (α 23) 45 #[.iface 38 (.pointer (some ⟨α 10, 0, none⟩)), .int .i32 ll, .iface 42 (.pointer (some ⟨α 1023, 0, none⟩)), .int .i32 ll, .int .u8 30, .bool false] := rfl
        have e25 : rLI3R pb sb PC C i c cz src ib xb tl kb kl kv bp bl be eb ll TR xr lr o0 o1 loc B1_1 B1 nd3 nd4 nd5 nd6 nd7 nd8 nd9 (fun k => decide (k < 27)) α 1023 = row (α 1023) 45 #[.iface 38 (.pointer (some ⟨α 20, 0, none⟩)), .int .i32 ll, .iface TR (.pointer (some ⟨xr, 0, none⟩)), .int .i32 lr, .int .u8 37, .bool false] := rfl
        have hO : Own w0 u [row (B1_1) 34 #[.iface 42 (.pointer (some ⟨α 23, 0, none⟩)), .int .i32 loc], row (B1) 34 #[.iface 38 (.pointer (some ⟨xb, 0, none⟩)), .int .i32 ll], row (pb) 178 PC, row (sb) 196 (bumped (bumped C i c) i cz), row (bp) 25 #[.pointer (some ⟨pb, 0, none⟩)], row (bl) 32 #[.int .i32 loc], row (be) 42 #[.pointer (some ⟨eb, 0, none⟩)], row (eb) 45 #[.iface 38 (.pointer (some ⟨xb, 0, none⟩)), .int .i32 ll, .iface TR (.pointer (some ⟨xr, 0, none⟩)), .int .i32 lr, .int .u8 o0, .bool o1], row (xb) 56 #[.iface 52 (.pointer (some ⟨ib, 0, none⟩)), .int .i32 tl, .iface 40 (.pointer (some ⟨kb, 0, none⟩)), .int .i32 kl, .int .i32 0, .int .u8 0, .bool false, .bool false, .bool false], row (ib) 180 #[.int .u32 src, .int .u32 (i : Int), .bool false, .bool false, .bool false], row (kb) 182 #[.float .f64 kv], row (nd3) 25 #[.pointer (some ⟨pb, 0, none⟩)], row (nd4) 32 #[.int .i32 ll], row (nd5) 34 #[.iface 52 (.pointer (some ⟨ib, 0, none⟩)), .int .i32 tl], row (nd6) 52 #[.pointer (some ⟨ib, 0, none⟩)], row (nd7) 32 #[.int .i32 ll], row (nd8) 34 #[.iface 40 (.pointer (some ⟨kb, 0, none⟩)), .int .i32 kl], row (nd9) 40 #[.pointer (some ⟨kb, 0, none⟩)], row (α 6) 180 #[.int .u32 src, .int .u32 (i : Int), .bool false, .bool false, .bool false], row (α 8) 182 #[.float .f64 kv], row (α 10) 56 #[.iface 52 (.pointer (some ⟨α 6, 0, none⟩)), .int .i32 ll, .iface 40 (.pointer (some ⟨α 8, 0, none⟩)), .int .i32 ll, .int .i32 0, .int .u8 0, .bool false, .bool false, .bool false], row (α 16) 180 #[.int .u32 src, .int .u32 (i : Int), .bool false, .bool false, .bool false], row (α 18) 182 #[.float .f64 kv], row (α 20) 56 #[.iface 52 (.pointer (some ⟨α 16, 0, none⟩)), .int .i32 ll, .iface 40 (.pointer (some ⟨α 18, 0, none⟩)), .int .i32 ll, .int .i32 0, .int .u8 0, .bool false, .bool false, .bool false], row (α 23) 45 #[.iface 38 (.pointer (some ⟨α 10, 0, none⟩)), .int .i32 ll, .iface 42 (.pointer (some ⟨α 1023, 0, none⟩)), .int .i32 ll, .int .u8 30, .bool false], row (α 1023) 45 #[.iface 38 (.pointer (some ⟨α 20, 0, none⟩)), .int .i32 ll, .iface TR (.pointer (some ⟨xr, 0, none⟩)), .int .i32 lr, .int .u8 37, .bool false]] X := (hG.list [999, 1999, 2999, 3999, 4999, 5999, 6999, 7999, 8999, 9999, 10999, 11999, 12999, 13999, 14999, 15999, 16999, 17999, 6, 8, 10, 16, 18, 20, 23, 1023] (by decide) (act_all (by decide))).conv (by
          show [rLI3R pb sb PC C i c cz src ib xb tl kb kl kv bp bl be eb ll TR xr lr o0 o1 loc B1_1 B1 nd3 nd4 nd5 nd6 nd7 nd8 nd9 (fun k => decide (k < 27)) α 999, rLI3R pb sb PC C i c cz src ib xb tl kb kl kv bp bl be eb ll TR xr lr o0 o1 loc B1_1 B1 nd3 nd4 nd5 nd6 nd7 nd8 nd9 (fun k => decide (k < 27)) α 1999, rLI3R pb sb PC C i c cz src ib xb tl kb kl kv bp bl be eb ll TR xr lr o0 o1 loc B1_1 B1 nd3 nd4 nd5 nd6 nd7 nd8 nd9 (fun k => decide (k < 27)) α 2999, rLI3R pb sb PC C i c cz src ib xb tl kb kl kv bp bl be eb ll TR xr lr o0 o1 loc B1_1 B1 nd3 nd4 nd5 nd6 nd7 nd8 nd9 (fun k => decide (k < 27)) α 3999, rLI3R pb sb PC C i c cz src ib xb tl kb kl kv bp bl be eb ll TR xr lr o0 o1 loc B1_1 B1 nd3 nd4 nd5 nd6 nd7 nd8 nd9 (fun k => decide (k < 27)) α 4999, rLI3R pb sb PC C i c cz src ib xb tl kb kl kv bp bl be eb ll TR xr lr o0 o1 loc B1_1 B1 nd3 nd4 nd5 nd6 nd7 nd8 nd9 (fun k => decide (k < 27)) α 5999, rLI3R pb sb PC C i c cz src ib xb tl kb kl kv bp bl be eb ll TR xr lr o0 o1 loc B1_1 B1 nd3 nd4 nd5 nd6 nd7 nd8 nd9 (fun k => decide (k < 27)) α 6999, rLI3R pb sb PC C i c cz src ib xb tl kb kl kv bp bl be eb ll TR xr lr o0 o1 loc B1_1 B1 nd3 nd4 nd5 nd6 nd7 nd8 nd9 (fun k => decide (k < 27)) α 7999, rLI3R pb sb PC C i c cz src ib xb tl kb kl kv bp bl be eb ll TR xr lr o0 o1 loc B1_1 B1 nd3 nd4 nd5 nd6 nd7 nd8 nd9 (fun k => decide (k < 27)) α 8999, rLI3R pb sb PC C i c cz src ib xb tl kb kl kv bp bl be eb ll TR xr lr o0 o1 loc B1_1 B1 nd3 nd4 nd5 nd6 nd7 nd8 nd9 (fun k => decide (k < 27)) α 9999, rLI3R pb sb PC C i c cz src ib xb tl kb kl kv bp bl be eb ll TR xr lr o0 o1 loc B1_1 B1 nd3 nd4 nd5 nd6 nd7 nd8 nd9 (fun k => decide (k < 27)) α 10999, rLI3R pb sb PC C i c cz src ib xb tl kb kl kv bp bl be eb ll TR xr lr o0 o1 loc B1_1 B1 nd3 nd4 nd5 nd6 nd7 nd8 nd9 (fun k => decide (k < 27)) α 11999, rLI3R pb sb PC C i c cz src ib xb tl kb kl kv bp bl be eb ll TR xr lr o0 o1 loc B1_1 B1 nd3 nd4 nd5 nd6 nd7 nd8 nd9 (fun k => decide (k < 27)) α 12999, rLI3R pb sb PC C i c cz src ib xb tl kb kl kv bp bl be eb ll TR xr lr o0 o1 loc B1_1 B1 nd3 nd4 nd5 nd6 nd7 nd8 nd9 (fun k => decide (k < 27)) α 13999, rLI3R pb sb PC C i c cz src ib xb tl kb kl kv bp bl be eb ll TR xr lr o0 o1 loc B1_1 B1 nd3 nd4 nd5 nd6 nd7 nd8 nd9 (fun k => decide (k < 27)) α 14999, rLI3R pb sb PC C i c cz src ib xb tl kb kl kv bp bl be eb ll TR xr lr o0 o1 loc B1_1 B1 nd3 nd4 nd5 nd6 nd7 nd8 nd9 (fun k => decide (k < 27)) α 15999, rLI3R pb sb PC C i c cz src ib xb tl kb kl kv bp bl be eb ll TR xr lr o0 o1 loc B1_1 B1 nd3 nd4 nd5 nd6 nd7 nd8 nd9 (fun k => decide (k < 27)) α 16999, rLI3R pb sb PC C i c cz src ib xb tl kb kl kv bp bl be eb ll TR xr lr o0 o1 loc B1_1 B1 nd3 nd4 nd5 nd6 nd7 nd8 nd9 (fun k => decide (k < 27)) α 17999, rLI3R pb sb PC C i c cz src ib xb tl kb kl kv bp bl be eb ll TR xr lr o0 o1 loc B1_1 B1 nd3 nd4 nd5 nd6 nd7 nd8 nd9 (fun k => decide (k < 27)) α 6, rLI3R pb sb PC C i c cz src ib xb tl kb kl kv bp bl be eb ll TR xr lr o0 o1 loc B1_1 B1 nd3 nd4 nd5 nd6 nd7 nd8 nd9 (fun k => decide (k < 27)) α 8, rLI3R pb sb PC C i c cz src ib xb tl kb kl kv bp bl be eb ll TR xr lr o0 o1 loc B1_1 B1 nd3 nd4 nd5 nd6 nd7 nd8 nd9 (fun k => decide (k < 27)) α 10, rLI3R pb sb PC C i c cz src ib xb tl kb kl kv bp bl be eb ll TR xr lr o0 o1 loc B1_1 B1 nd3 nd4 nd5 nd6 nd7 nd8 nd9 (fun k => decide (k < 27)) α 16, rLI3R pb sb PC C i c cz src ib xb tl kb kl kv bp bl be eb ll TR xr lr o0 o1 loc B1_1 B1 nd3 nd4 nd5 nd6 nd7 nd8 nd9 (fun k => decide (k < 27)) α 18, rLI3R pb sb PC C i c cz src ib xb tl kb kl kv bp bl be eb ll TR xr lr o0 o1 loc B1_1 B1 nd3 nd4 nd5 nd6 nd7 nd8 nd9 (fun k => decide (k < 27)) α 20, rLI3R pb sb PC C i c cz src ib xb tl kb kl kv bp bl be eb ll TR xr lr o0 o1 loc B1_1 B1 nd3 nd4 nd5 nd6 nd7 nd8 nd9 (fun k => decide (k < 27)) α 23, rLI3R pb sb PC C i c cz src ib xb tl kb kl kv bp bl be eb ll TR xr lr o0 o1 loc B1_1 B1 nd3 nd4 nd5 nd6 nd7 nd8 nd9 (fun k => decide (k < 27)) α 1023] = _
          rw [e0, e1, e2, e3, e4, e5, e6, e7, e8, e9, e10, e11, e12, e13, e14, e15, e16, e17, e18, e19, e20, e21, e22, e23, e24, e25])
        clear hG e0 e1 e2 e3 e4 e5 e6 e7 e8 e9 e10 e11 e12 e13 e14 e15 e16 e17 e18 e19 e20 e21 e22 e23 e24 e25
        generalize hfr : Rega.frameAt _ _ _ _ _ = fr
        have hdf : fr = ⟨#[.pointer (some ⟨pb, 0, none⟩), .agg #[.iface 38 (.pointer (some ⟨xb, 0, none⟩)), .int .i32 ll], .func (Fn.func 27) #[] #[.pointer (some ⟨bp, 0, none⟩), .pointer (some ⟨bl, 0, none⟩), .pointer (some ⟨be, 0, none⟩)], undef, .pointer (some ⟨B1, 0, none⟩), undef, .pointer (some ⟨B1_1, 0, none⟩), undef, undef, undef, .pointer (some ⟨xb, 0, none⟩), .func (Fn.func 39) #[] #[.pointer (some ⟨nd3, 0, none⟩), .pointer (some ⟨nd6, 0, none⟩), .pointer (some ⟨nd4, 0, none⟩)], .func (Fn.func 30) #[] #[.pointer (some ⟨nd5, 0, none⟩)], .func (Fn.func 35) #[] #[.pointer (some ⟨nd7, 0, none⟩), .pointer (some ⟨nd9, 0, none⟩)], .func (Fn.func 30) #[] #[.pointer (some ⟨nd8, 0, none⟩)], undef, .pointer (some ⟨B1, 0, none⟩), .iface 38 (.pointer (some ⟨xb, 0, none⟩)), .tuple #[.pointer none, .bool false], .bool false, .pointer none, undef, undef, undef, undef, undef, undef, undef, undef, undef, undef, undef, undef, undef, undef, undef, undef, undef, undef, undef, undef, undef, undef, undef, undef, undef, undef, undef, undef, undef, undef, undef, undef, undef, undef, undef, undef, undef, undef, undef, undef, undef, undef, undef, undef, undef, undef, undef, undef, undef, undef, undef, undef, .tuple #[.pointer (some ⟨xb, 0, none⟩), .bool true], .bool true, .pointer (some ⟨xb, 0, none⟩), .pointer (some ⟨xb, 0, none⟩), .pointer (some ⟨xb, 0, none⟩), .pointer (some ⟨xb, 5, none⟩), .int .u8 0, .bool true, .tuple #[.func (Fn.func 39) #[] #[.pointer (some ⟨nd3, 0, none⟩), .pointer (some ⟨nd6, 0, none⟩), .pointer (some ⟨nd4, 0, none⟩)], .func (Fn.func 30) #[] #[.pointer (some ⟨nd5, 0, none⟩)]], .pointer (some ⟨pb, 0, none⟩), .pointer (some ⟨B1, 1, none⟩), .agg #[.int .i32 ll], .pointer (some ⟨xb, 0, none⟩), .pointer (some ⟨xb, 0, none⟩), .pointer (some ⟨xb, 0, none⟩), .agg #[.iface 52 (.pointer (some ⟨ib, 0, none⟩)), .int .i32 tl], .tuple #[.func (Fn.func 39) #[] #[.pointer (some ⟨nd3, 0, none⟩), .pointer (some ⟨nd6, 0, none⟩), .pointer (some ⟨nd4, 0, none⟩)], .func (Fn.func 30) #[] #[.pointer (some ⟨nd5, 0, none⟩)]], .func (Fn.func 39) #[] #[.pointer (some ⟨nd3, 0, none⟩), .pointer (some ⟨nd6, 0, none⟩), .pointer (some ⟨nd4, 0, none⟩)], .func (Fn.func 30) #[] #[.pointer (some ⟨nd5, 0, none⟩)], .tuple #[.func (Fn.func 35) #[] #[.pointer (some ⟨nd7, 0, none⟩), .pointer (some ⟨nd9, 0, none⟩)], .func (Fn.func 30) #[] #[.pointer (some ⟨nd8, 0, none⟩)]], .pointer (some ⟨pb, 0, none⟩), .pointer (some ⟨B1, 1, none⟩), .agg #[.int .i32 ll], .pointer (some ⟨xb, 0, none⟩), .pointer (some ⟨xb, 0, none⟩), .pointer (some ⟨xb, 2, none⟩), .agg #[.iface 40 (.pointer (some ⟨kb, 0, none⟩)), .int .i32 kl], .tuple #[.func (Fn.func 35) #[] #[.pointer (some ⟨nd7, 0, none⟩), .pointer (some ⟨nd9, 0, none⟩)], .func (Fn.func 30) #[] #[.pointer (some ⟨nd8, 0, none⟩)]], .func (Fn.func 35) #[] #[.pointer (some ⟨nd7, 0, none⟩), .pointer (some ⟨nd9, 0, none⟩)], .func (Fn.func 30) #[] #[.pointer (some ⟨nd8, 0, none⟩)], .func (Fn.func 30) #[] #[.pointer (some ⟨nd5, 0, none⟩)], .func (Fn.func 30) #[] #[.pointer (some ⟨nd8, 0, none⟩)], .func (Fn.func 27) #[] #[.pointer (some ⟨bp, 0, none⟩), .pointer (some ⟨bl, 0, none⟩), .pointer (some ⟨be, 0, none⟩)], .pointer (some ⟨B1, 1, none⟩), .agg #[.int .i32 ll], .func (Fn.func 39) #[] #[.pointer (some ⟨nd3, 0, none⟩), .pointer (some ⟨nd6, 0, none⟩), .pointer (some ⟨nd4, 0, none⟩)], .agg #[.iface 52 (.pointer (some ⟨α 6, 0, none⟩)), .int .i32 ll], .func (Fn.func 35) #[] #[.pointer (some ⟨nd7, 0, none⟩), .pointer (some ⟨nd9, 0, none⟩)], .agg #[.iface 40 (.pointer (some ⟨α 8, 0, none⟩)), .int .i32 ll], .agg #[.iface 52 (.pointer (some ⟨α 6, 0, none⟩)), .int .i32 ll, .iface 40 (.pointer (some ⟨α 8, 0, none⟩)), .int .i32 ll, .int .i32 0, .int .u8 0, .bool false, .bool false, .bool false], .pointer (some ⟨α 10, 0, none⟩), .iface 38 (.pointer (some ⟨α 10, 0, none⟩)), .agg #[.iface 38 (.pointer (some ⟨α 10, 0, none⟩)), .int .i32 ll], .pointer (some ⟨B1, 1, none⟩), .agg #[.int .i32 ll], .func (Fn.func 39) #[] #[.pointer (some ⟨nd3, 0, none⟩), .pointer (some ⟨nd6, 0, none⟩), .pointer (some ⟨nd4, 0, none⟩)], .agg #[.iface 52 (.pointer (some ⟨α 16, 0, none⟩)), .int .i32 ll], .func (Fn.func 35) #[] #[.pointer (some ⟨nd7, 0, none⟩), .pointer (some ⟨nd9, 0, none⟩)], .agg #[.iface 40 (.pointer (some ⟨α 18, 0, none⟩)), .int .i32 ll], .agg #[.iface 52 (.pointer (some ⟨α 16, 0, none⟩)), .int .i32 ll, .iface 40 (.pointer (some ⟨α 18, 0, none⟩)), .int .i32 ll, .int .i32 0, .int .u8 0, .bool false, .bool false, .bool false], .pointer (some ⟨α 20, 0, none⟩), .iface 38 (.pointer (some ⟨α 20, 0, none⟩)), .agg #[.iface 38 (.pointer (some ⟨α 20, 0, none⟩)), .int .i32 ll], .agg #[.iface 42 (.pointer (some ⟨α 23, 0, none⟩)), .int .i32 loc], .agg #[.iface 42 (.pointer (some ⟨α 23, 0, none⟩)), .int .i32 loc], .agg #[.iface 42 (.pointer (some ⟨α 23, 0, none⟩)), .int .i32 loc], undef, undef, undef, undef, undef, undef, undef, undef, undef, undef, undef, undef, undef, undef, undef, undef, undef, undef, undef, undef, undef, undef, undef], []⟩ := by rw [← hfr]; kernel_rfl
        clear hfr
        subst hdf
        generalize α 6 = nd10 at hO ⊢
        generalize α 8 = nd11 at hO ⊢
        generalize α 10 = nd12 at hO ⊢
        generalize α 16 = nd13 at hO ⊢
        generalize α 18 = nd14 at hO ⊢
        generalize α 20 = nd15 at hO ⊢
        generalize α 23 = nd16 at hO ⊢
        generalize α 1023 = nd17 at hO ⊢
        clear α
        have c9_0_0 : u.cell? ⟨B1_1, 0, none⟩ = some (.iface 42 (.pointer (some ⟨nd16, 0, none⟩))) := hO.cell 0 rfl 0 rfl
        have c9_0_1 : u.cell? ⟨B1_1, 1, none⟩ = some (.int .i32 loc) := hO.cell 0 rfl 1 rfl
        have lt9_0 : B1_1 < u.heap.size := hO.lt 0 rfl
        have y9_0 : ∀ o, u.frozen? ⟨B1_1, o, none⟩ = false := hO.free 0 rfl
        have c9_1_0 : u.cell? ⟨B1, 0, none⟩ = some (.iface 38 (.pointer (some ⟨xb, 0, none⟩))) := hO.cell 1 rfl 0 rfl
        have c9_1_1 : u.cell? ⟨B1, 1, none⟩ = some (.int .i32 ll) := hO.cell 1 rfl 1 rfl
        have lt9_1 : B1 < u.heap.size := hO.lt 1 rfl
        have y9_1 : ∀ o, u.frozen? ⟨B1, o, none⟩ = false := hO.free 1 rfl
        have c9_4_0 : u.cell? ⟨bp, 0, none⟩ = some (.pointer (some ⟨pb, 0, none⟩)) := hO.cell 4 rfl 0 rfl
        have lt9_4 : bp < u.heap.size := hO.lt 4 rfl
        have y9_4 : ∀ o, u.frozen? ⟨bp, o, none⟩ = false := hO.free 4 rfl
        have c9_5_0 : u.cell? ⟨bl, 0, none⟩ = some (.int .i32 loc) := hO.cell 5 rfl 0 rfl
        have lt9_5 : bl < u.heap.size := hO.lt 5 rfl
        have y9_5 : ∀ o, u.frozen? ⟨bl, o, none⟩ = false := hO.free 5 rfl
        have c9_6_0 : u.cell? ⟨be, 0, none⟩ = some (.pointer (some ⟨eb, 0, none⟩)) := hO.cell 6 rfl 0 rfl
        have lt9_6 : be < u.heap.size := hO.lt 6 rfl
        have y9_6 : ∀ o, u.frozen? ⟨be, o, none⟩ = false := hO.free 6 rfl
        have c9_7_0 : u.cell? ⟨eb, 0, none⟩ = some (.iface 38 (.pointer (some ⟨xb, 0, none⟩))) := hO.cell 7 rfl 0 rfl
        have c9_7_1 : u.cell? ⟨eb, 1, none⟩ = some (.int .i32 ll) := hO.cell 7 rfl 1 rfl
        have c9_7_2 : u.cell? ⟨eb, 2, none⟩ = some (.iface TR (.pointer (some ⟨xr, 0, none⟩))) := hO.cell 7 rfl 2 rfl
        have c9_7_3 : u.cell? ⟨eb, 3, none⟩ = some (.int .i32 lr) := hO.cell 7 rfl 3 rfl
        have c9_7_4 : u.cell? ⟨eb, 4, none⟩ = some (.int .u8 o0) := hO.cell 7 rfl 4 rfl
        have c9_7_5 : u.cell? ⟨eb, 5, none⟩ = some (.bool o1) := hO.cell 7 rfl 5 rfl
        have lt9_7 : eb < u.heap.size := hO.lt 7 rfl
        have y9_7 : ∀ o, u.frozen? ⟨eb, o, none⟩ = false := hO.free 7 rfl
        have c9_8_0 : u.cell? ⟨xb, 0, none⟩ = some (.iface 52 (.pointer (some ⟨ib, 0, none⟩))) := hO.cell 8 rfl 0 rfl
        have c9_8_1 : u.cell? ⟨xb, 1, none⟩ = some (.int .i32 tl) := hO.cell 8 rfl 1 rfl
        have c9_8_2 : u.cell? ⟨xb, 2, none⟩ = some (.iface 40 (.pointer (some ⟨kb, 0, none⟩))) := hO.cell 8 rfl 2 rfl
        have c9_8_3 : u.cell? ⟨xb, 3, none⟩ = some (.int .i32 kl) := hO.cell 8 rfl 3 rfl
        have c9_8_4 : u.cell? ⟨xb, 4, none⟩ = some (.int .i32 0) := hO.cell 8 rfl 4 rfl
        have c9_8_5 : u.cell? ⟨xb, 5, none⟩ = some (.int .u8 0) := hO.cell 8 rfl 5 rfl
        have c9_8_6 : u.cell? ⟨xb, 6, none⟩ = some (.bool false) := hO.cell 8 rfl 6 rfl
        have c9_8_7 : u.cell? ⟨xb, 7, none⟩ = some (.bool false) := hO.cell 8 rfl 7 rfl
        have c9_8_8 : u.cell? ⟨xb, 8, none⟩ = some (.bool false) := hO.cell 8 rfl 8 rfl
        have lt9_8 : xb < u.heap.size := hO.lt 8 rfl
        have y9_8 : ∀ o, u.frozen? ⟨xb, o, none⟩ = false := hO.free 8 rfl
        have c9_9_0 : u.cell? ⟨ib, 0, none⟩ = some (.int .u32 src) := hO.cell 9 rfl 0 rfl
        have c9_9_1 : u.cell? ⟨ib, 1, none⟩ = some (.int .u32 (i : Int)) := hO.cell 9 rfl 1 rfl
        have c9_9_2 : u.cell? ⟨ib, 2, none⟩ = some (.bool false) := hO.cell 9 rfl 2 rfl
        have c9_9_3 : u.cell? ⟨ib, 3, none⟩ = some (.bool false) := hO.cell 9 rfl 3 rfl
        have c9_9_4 : u.cell? ⟨ib, 4, none⟩ = some (.bool false) := hO.cell 9 rfl 4 rfl
        have lt9_9 : ib < u.heap.size := hO.lt 9 rfl
        have y9_9 : ∀ o, u.frozen? ⟨ib, o, none⟩ = false := hO.free 9 rfl
        have c9_10_0 : u.cell? ⟨kb, 0, none⟩ = some (.float .f64 kv) := hO.cell 10 rfl 0 rfl
        have lt9_10 : kb < u.heap.size := hO.lt 10 rfl
        have y9_10 : ∀ o, u.frozen? ⟨kb, o, none⟩ = false := hO.free 10 rfl
        have c9_11_0 : u.cell? ⟨nd3, 0, none⟩ = some (.pointer (some ⟨pb, 0, none⟩)) := hO.cell 11 rfl 0 rfl
        have lt9_11 : nd3 < u.heap.size := hO.lt 11 rfl
        have y9_11 : ∀ o, u.frozen? ⟨nd3, o, none⟩ = false := hO.free 11 rfl
        have c9_12_0 : u.cell? ⟨nd4, 0, none⟩ = some (.int .i32 ll) := hO.cell 12 rfl 0 rfl
        have lt9_12 : nd4 < u.heap.size := hO.lt 12 rfl
        have y9_12 : ∀ o, u.frozen? ⟨nd4, o, none⟩ = false := hO.free 12 rfl
        have c9_13_0 : u.cell? ⟨nd5, 0, none⟩ = some (.iface 52 (.pointer (some ⟨ib, 0, none⟩))) := hO.cell 13 rfl 0 rfl
        have c9_13_1 : u.cell? ⟨nd5, 1, none⟩ = some (.int .i32 tl) := hO.cell 13 rfl 1 rfl
        have lt9_13 : nd5 < u.heap.size := hO.lt 13 rfl
        have y9_13 : ∀ o, u.frozen? ⟨nd5, o, none⟩ = false := hO.free 13 rfl
        have c9_14_0 : u.cell? ⟨nd6, 0, none⟩ = some (.pointer (some ⟨ib, 0, none⟩)) := hO.cell 14 rfl 0 rfl
        have lt9_14 : nd6 < u.heap.size := hO.lt 14 rfl
        have y9_14 : ∀ o, u.frozen? ⟨nd6, o, none⟩ = false := hO.free 14 rfl
        have c9_15_0 : u.cell? ⟨nd7, 0, none⟩ = some (.int .i32 ll) := hO.cell 15 rfl 0 rfl
        have lt9_15 : nd7 < u.heap.size := hO.lt 15 rfl
        have y9_15 : ∀ o, u.frozen? ⟨nd7, o, none⟩ = false := hO.free 15 rfl
        have c9_16_0 : u.cell? ⟨nd8, 0, none⟩ = some (.iface 40 (.pointer (some ⟨kb, 0, none⟩))) := hO.cell 16 rfl 0 rfl
        have c9_16_1 : u.cell? ⟨nd8, 1, none⟩ = some (.int .i32 kl) := hO.cell 16 rfl 1 rfl
        have lt9_16 : nd8 < u.heap.size := hO.lt 16 rfl
        have y9_16 : ∀ o, u.frozen? ⟨nd8, o, none⟩ = false := hO.free 16 rfl
        have c9_17_0 : u.cell? ⟨nd9, 0, none⟩ = some (.pointer (some ⟨kb, 0, none⟩)) := hO.cell 17 rfl 0 rfl
        have lt9_17 : nd9 < u.heap.size := hO.lt 17 rfl
        have y9_17 : ∀ o, u.frozen? ⟨nd9, o, none⟩ = false := hO.free 17 rfl
        have c9_18_0 : u.cell? ⟨nd10, 0, none⟩ = some (.int .u32 src) := hO.cell 18 rfl 0 rfl
        have c9_18_1 : u.cell? ⟨nd10, 1, none⟩ = some (.int .u32 (i : Int)) := hO.cell 18 rfl 1 rfl
        have c9_18_2 : u.cell? ⟨nd10, 2, none⟩ = some (.bool false) := hO.cell 18 rfl 2 rfl
        have c9_18_3 : u.cell? ⟨nd10, 3, none⟩ = some (.bool false) := hO.cell 18 rfl 3 rfl
        have c9_18_4 : u.cell? ⟨nd10, 4, none⟩ = some (.bool false) := hO.cell 18 rfl 4 rfl
        have lt9_18 : nd10 < u.heap.size := hO.lt 18 rfl
        have y9_18 : ∀ o, u.frozen? ⟨nd10, o, none⟩ = false := hO.free 18 rfl
        have c9_19_0 : u.cell? ⟨nd11, 0, none⟩ = some (.float .f64 kv) := hO.cell 19 rfl 0 rfl
        have lt9_19 : nd11 < u.heap.size := hO.lt 19 rfl
        have y9_19 : ∀ o, u.frozen? ⟨nd11, o, none⟩ = false := hO.free 19 rfl
        have c9_20_0 : u.cell? ⟨nd12, 0, none⟩ = some (.iface 52 (.pointer (some ⟨nd10, 0, none⟩))) := hO.cell 20 rfl 0 rfl
        have c9_20_1 : u.cell? ⟨nd12, 1, none⟩ = some (.int .i32 ll) := hO.cell 20 rfl 1 rfl
        have c9_20_2 : u.cell? ⟨nd12, 2, none⟩ = some (.iface 40 (.pointer (some ⟨nd11, 0, none⟩))) := hO.cell 20 rfl 2 rfl
        have c9_20_3 : u.cell? ⟨nd12, 3, none⟩ = some (.int .i32 ll) := hO.cell 20 rfl 3 rfl
        have c9_20_4 : u.cell? ⟨nd12, 4, none⟩ = some (.int .i32 0) := hO.cell 20 rfl 4 rfl
        have c9_20_5 : u.cell? ⟨nd12, 5, none⟩ = some (.int .u8 0) := hO.cell 20 rfl 5 rfl
        have c9_20_6 : u.cell? ⟨nd12, 6, none⟩ = some (.bool false) := hO.cell 20 rfl 6 rfl
        have c9_20_7 : u.cell? ⟨nd12, 7, none⟩ = some (.bool false) := hO.cell 20 rfl 7 rfl
        have c9_20_8 : u.cell? ⟨nd12, 8, none⟩ = some (.bool false) := hO.cell 20 rfl 8 rfl
        have lt9_20 : nd12 < u.heap.size := hO.lt 20 rfl
        have y9_20 : ∀ o, u.frozen? ⟨nd12, o, none⟩ = false := hO.free 20 rfl
        have c9_21_0 : u.cell? ⟨nd13, 0, none⟩ = some (.int .u32 src) := hO.cell 21 rfl 0 rfl
        have c9_21_1 : u.cell? ⟨nd13, 1, none⟩ = some (.int .u32 (i : Int)) := hO.cell 21 rfl 1 rfl
        have c9_21_2 : u.cell? ⟨nd13, 2, none⟩ = some (.bool false) := hO.cell 21 rfl 2 rfl
        have c9_21_3 : u.cell? ⟨nd13, 3, none⟩ = some (.bool false) := hO.cell 21 rfl 3 rfl
        have c9_21_4 : u.cell? ⟨nd13, 4, none⟩ = some (.bool false) := hO.cell 21 rfl 4 rfl
        have lt9_21 : nd13 < u.heap.size := hO.lt 21 rfl
        have y9_21 : ∀ o, u.frozen? ⟨nd13, o, none⟩ = false := hO.free 21 rfl
        have c9_22_0 : u.cell? ⟨nd14, 0, none⟩ = some (.float .f64 kv) := hO.cell 22 rfl 0 rfl
        have lt9_22 : nd14 < u.heap.size := hO.lt 22 rfl
        have y9_22 : ∀ o, u.frozen? ⟨nd14, o, none⟩ = false := hO.free 22 rfl
        have c9_23_0 : u.cell? ⟨nd15, 0, none⟩ = some (.iface 52 (.pointer (some ⟨nd13, 0, none⟩))) := hO.cell 23 rfl 0 rfl
        have c9_23_1 : u.cell? ⟨nd15, 1, none⟩ = some (.int .i32 ll) := hO.cell 23 rfl 1 rfl
        have c9_23_2 : u.cell? ⟨nd15, 2, none⟩ = some (.iface 40 (.pointer (some ⟨nd14, 0, none⟩))) := hO.cell 23 rfl 2 rfl
        have c9_23_3 : u.cell? ⟨nd15, 3, none⟩ = some (.int .i32 ll) := hO.cell 23 rfl 3 rfl
        have c9_23_4 : u.cell? ⟨nd15, 4, none⟩ = some (.int .i32 0) := hO.cell 23 rfl 4 rfl
        have c9_23_5 : u.cell? ⟨nd15, 5, none⟩ = some (.int .u8 0) := hO.cell 23 rfl 5 rfl
        have c9_23_6 : u.cell? ⟨nd15, 6, none⟩ = some (.bool false) := hO.cell 23 rfl 6 rfl
        have c9_23_7 : u.cell? ⟨nd15, 7, none⟩ = some (.bool false) := hO.cell 23 rfl 7 rfl
        have c9_23_8 : u.cell? ⟨nd15, 8, none⟩ = some (.bool false) := hO.cell 23 rfl 8 rfl
        have lt9_23 : nd15 < u.heap.size := hO.lt 23 rfl
        have y9_23 : ∀ o, u.frozen? ⟨nd15, o, none⟩ = false := hO.free 23 rfl
        have c9_24_0 : u.cell? ⟨nd16, 0, none⟩ = some (.iface 38 (.pointer (some ⟨nd12, 0, none⟩))) := hO.cell 24 rfl 0 rfl
        have c9_24_1 : u.cell? ⟨nd16, 1, none⟩ = some (.int .i32 ll) := hO.cell 24 rfl 1 rfl
        have c9_24_2 : u.cell? ⟨nd16, 2, none⟩ = some (.iface 42 (.pointer (some ⟨nd17, 0, none⟩))) := hO.cell 24 rfl 2 rfl
        have c9_24_3 : u.cell? ⟨nd16, 3, none⟩ = some (.int .i32 ll) := hO.cell 24 rfl 3 rfl
        have c9_24_4 : u.cell? ⟨nd16, 4, none⟩ = some (.int .u8 30) := hO.cell 24 rfl 4 rfl
        have c9_24_5 : u.cell? ⟨nd16, 5, none⟩ = some (.bool false) := hO.cell 24 rfl 5 rfl
        have lt9_24 : nd16 < u.heap.size := hO.lt 24 rfl
        have y9_24 : ∀ o, u.frozen? ⟨nd16, o, none⟩ = false := hO.free 24 rfl
        have c9_25_0 : u.cell? ⟨nd17, 0, none⟩ = some (.iface 38 (.pointer (some ⟨nd15, 0, none⟩))) := hO.cell 25 rfl 0 rfl
        have c9_25_1 : u.cell? ⟨nd17, 1, none⟩ = some (.int .i32 ll) := hO.cell 25 rfl 1 rfl
        have c9_25_2 : u.cell? ⟨nd17, 2, none⟩ = some (.iface TR (.pointer (some ⟨xr, 0, none⟩))) := hO.cell 25 rfl 2 rfl
        have c9_25_3 : u.cell? ⟨nd17, 3, none⟩ = some (.int .i32 lr) := hO.cell 25 rfl 3 rfl
        have c9_25_4 : u.cell? ⟨nd17, 4, none⟩ = some (.int .u8 37) := hO.cell 25 rfl 4 rfl
        have c9_25_5 : u.cell? ⟨nd17, 5, none⟩ = some (.bool false) := hO.cell 25 rfl 5 rfl
        have lt9_25 : nd17 < u.heap.size := hO.lt 25 rfl
        have y9_25 : ∀ o, u.frozen? ⟨nd17, o, none⟩ = false := hO.free 25 rfl
        have HO := Lib.hid hO
        clear hO
        go_wp2_with fail
        have hO := HO.out
        clear HO c9_0_0 c9_0_1 lt9_0 y9_0 c9_1_0 c9_1_1 lt9_1 y9_1 c9_4_0 lt9_4 y9_4 c9_5_0 lt9_5 y9_5 c9_6_0 lt9_6 y9_6 c9_7_0 c9_7_1 c9_7_2 c9_7_3 c9_7_4 c9_7_5 lt9_7 y9_7 c9_8_0 c9_8_1 c9_8_2 c9_8_3 c9_8_4 c9_8_5 c9_8_6 c9_8_7 c9_8_8 lt9_8 y9_8 c9_9_0 c9_9_1 c9_9_2 c9_9_3 c9_9_4 lt9_9 y9_9 c9_10_0 lt9_10 y9_10 c9_11_0 lt9_11 y9_11 c9_12_0 lt9_12 y9_12 c9_13_0 c9_13_1 lt9_13 y9_13 c9_14_0 lt9_14 y9_14 c9_15_0 lt9_15 y9_15 c9_16_0 c9_16_1 lt9_16 y9_16 c9_17_0 lt9_17 y9_17 c9_18_0 c9_18_1 c9_18_2 c9_18_3 c9_18_4 lt9_18 y9_18 c9_19_0 lt9_19 y9_19 c9_20_0 c9_20_1 c9_20_2 c9_20_3 c9_20_4 c9_20_5 c9_20_6 c9_20_7 c9_20_8 lt9_20 y9_20 c9_21_0 c9_21_1 c9_21_2 c9_21_3 c9_21_4 lt9_21 y9_21 c9_22_0 lt9_22 y9_22 c9_23_0 c9_23_1 c9_23_2 c9_23_3 c9_23_4 c9_23_5 c9_23_6 c9_23_7 c9_23_8 lt9_23 y9_23 c9_24_0 c9_24_1 c9_24_2 c9_24_3 c9_24_4 c9_24_5 lt9_24 y9_24 c9_25_0 c9_25_1 c9_25_2 c9_25_3 c9_25_4 c9_25_5 lt9_25 y9_25
        have z9_0_0 : u.cell? ⟨B1_1, 0, none⟩ = some (.iface 42 (.pointer (some ⟨nd16, 0, none⟩))) := hO.cell 0 rfl 0 rfl
        have z9_0_1 : u.cell? ⟨B1_1, 1, none⟩ = some (.int .i32 loc) := hO.cell 0 rfl 1 rfl
        refine bodyPost_ret (v := .agg #[.iface 42 (.pointer (some ⟨nd16, 0, none⟩)), .int .i32 loc]) ?_ rfl ⟨nd16, nd17, nd12, nd15, nd10, nd11, nd13, nd14, rfl, hO.sub [2, 3, 4, 5, 6, 7, 8, 9, 10, 24, 25, 20, 23, 18, 19, 21, 22] (by decide)⟩
        simp [results, Tryz.results26, go_sem, z9_0_0, z9_0_1]
end Go.Proofs.YtlgefnjkoklboaaGreatDoor.Use
