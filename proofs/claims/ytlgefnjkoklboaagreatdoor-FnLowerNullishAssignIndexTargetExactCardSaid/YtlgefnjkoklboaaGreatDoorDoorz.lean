/- The doors of a nullish assignment over an index. No condition. -/
import Derived.Test.YtlgefnjkoklboaaGreatDoorOwn
import Derived.Test.YtlgefnjkoklboaaGreatDoorDeepCells
import Derived.Test.YtlgefnjkoklboaaGreatDoorRows
import Derived.Test.YtlgefnjkoklboaaGreatDoorUse
import Derived.Test.YtlgefnjkoklboaaGreatDoorKitz
import Derived.Test.YtlgefnjkoklboaaGreatDoorLawKitz
import Derived.Test.YtlgefnjkoklboaaGreatDoorCapz
import Derived.Test.YtlgefnjkoklboaaGreatDoorNullFnz
import Derived.Test.YtlgefnjkoklboaaGreatDoorLowIxz
namespace Go.Proofs.YtlgefnjkoklboaaGreatDoor.Use
open Go.ChangeShapes Go.WideShapes Go.ChangeAt Go.RowKit Go.Sort Own
set_option linter.unusedVariables false
def rLN1E (pb : Nat) (sb : Nat) (PC : Array Value) (C : Array Value) (i : Nat) (src : Int) (ib : Nat) (xb : Nat) (tl : Int) (kb : Nat) (kl : Int) (kv : Nat) (eb : Nat) (ll : Int) (TR : Nat) (xr : Nat) (lr : Int) (o0 : Int) (o1 : Bool) (loc : Int) (B1_3 : Nat) (B1_2 : Nat) (B1_1 : Nat) (B1 : Nat) : Nat → Rega.Atoms → Value
  | 0, α => .pointer (some ⟨pb, 0, none⟩)
  | 1, α => .pointer (some ⟨eb, 0, none⟩)
  | 2, α => .pointer (some ⟨eb, 0, none⟩)
  | 3, α => .pointer (some ⟨eb, 0, none⟩)
  | 4, α => .agg #[.iface 38 (.pointer (some ⟨xb, 0, none⟩)), .int .i32 ll]
  | 5, α => .tuple #[.agg #[.nilIface, .int .i32 0], .agg #[.int .i32 0], .pointer none]
  | 6, α => .tuple #[.agg #[.nilIface, .int .i32 0], .agg #[.int .i32 0], .pointer none]
  | 7, α => .agg #[.nilIface, .int .i32 0]
  | 8, α => .agg #[.int .i32 0]
  | 9, α => .pointer none
  | 10, α => .pointer (some ⟨α 10, 0, none⟩)
  | 11, α => .pointer (some ⟨α 11, 0, none⟩)
  | 12, α => undef
  | 13, α => undef
  | 14, α => .pointer none
  | _, _ => undef
def rLN1Anc : Nat → List Nat
  | 2 => [1]
  | 3 => [1, 2]
  | 4 => [1, 2, 3]
  | 5 => [0, 1, 2, 3, 4]
  | 6 => [0, 1, 2, 3, 4, 5]
  | 7 => [0, 1, 2, 3, 4, 5, 6]
  | 8 => [0, 1, 2, 3, 4, 5, 6]
  | 9 => [0, 1, 2, 3, 4, 5, 6]
  | 12 => [0, 1, 2, 3, 4, 5, 6, 7, 10, 11]
  | 13 => [0, 1, 2, 3, 4, 5, 6, 7, 8, 10, 11, 12]
  | 14 => [0, 1, 2, 3, 4, 5, 6, 7, 8, 9, 10, 11, 12, 13]
  | _ => []
def rLN1Trn : Nat → List Nat
  | 12 => [10]
  | 13 => [11]
  | _ => []
def rLN1Cnt : List (Nat × Nat) := [(10, 1), (11, 1)]
def rLN1T10 (pb : Nat) (sb : Nat) (PC : Array Value) (C : Array Value) (i : Nat) (src : Int) (ib : Nat) (xb : Nat) (tl : Int) (kb : Nat) (kl : Int) (kv : Nat) (eb : Nat) (ll : Int) (TR : Nat) (xr : Nat) (lr : Int) (o0 : Int) (o1 : Bool) (loc : Int) (B1_3 : Nat) (B1_2 : Nat) (B1_1 : Nat) (B1 : Nat) (L9 : Nat → Bool) (α : Rega.Atoms) : Rw := if L9 12 = true then row (α 10) 34 #[.nilIface, .int .i32 0] else row (α 10) 34 #[.nilIface, .int .i32 0]
def rLN1T11 (pb : Nat) (sb : Nat) (PC : Array Value) (C : Array Value) (i : Nat) (src : Int) (ib : Nat) (xb : Nat) (tl : Int) (kb : Nat) (kl : Int) (kv : Nat) (eb : Nat) (ll : Int) (TR : Nat) (xr : Nat) (lr : Int) (o0 : Int) (o1 : Bool) (loc : Int) (B1_3 : Nat) (B1_2 : Nat) (B1_1 : Nat) (B1 : Nat) (L9 : Nat → Bool) (α : Rega.Atoms) : Rw := if L9 13 = true then row (α 11) 32 #[.int .i32 0] else row (α 11) 32 #[.int .i32 0]
def rLN1R (pb : Nat) (sb : Nat) (PC : Array Value) (C : Array Value) (i : Nat) (src : Int) (ib : Nat) (xb : Nat) (tl : Int) (kb : Nat) (kl : Int) (kv : Nat) (eb : Nat) (ll : Int) (TR : Nat) (xr : Nat) (lr : Int) (o0 : Int) (o1 : Bool) (loc : Int) (B1_3 : Nat) (B1_2 : Nat) (B1_1 : Nat) (B1 : Nat) (L9 : Nat → Bool) (α : Rega.Atoms) (ix9 : Nat) : Rw := if ix9 = 999 then row (B1_3) 34 #[.nilIface, .int .i32 0] else if ix9 = 1999 then row (B1_2) 42 #[.pointer (some ⟨eb, 0, none⟩)] else if ix9 = 2999 then row (B1_1) 32 #[.int .i32 loc] else if ix9 = 3999 then row (B1) 25 #[.pointer (some ⟨pb, 0, none⟩)] else if ix9 = 4999 then row (pb) 178 PC else if ix9 = 5999 then row (sb) 196 C else if ix9 = 6999 then row (eb) 45 #[.iface 38 (.pointer (some ⟨xb, 0, none⟩)), .int .i32 ll, .iface TR (.pointer (some ⟨xr, 0, none⟩)), .int .i32 lr, .int .u8 o0, .bool o1] else if ix9 = 7999 then row (xb) 56 #[.iface 52 (.pointer (some ⟨ib, 0, none⟩)), .int .i32 tl, .iface 40 (.pointer (some ⟨kb, 0, none⟩)), .int .i32 kl, .int .i32 0, .int .u8 0, .bool false, .bool false, .bool false] else if ix9 = 8999 then row (ib) 180 #[.int .u32 src, .int .u32 (i : Int), .bool false, .bool false, .bool false] else if ix9 = 9999 then row (kb) 182 #[.float .f64 kv] else if ix9 = 10 then rLN1T10 pb sb PC C i src ib xb tl kb kl kv eb ll TR xr lr o0 o1 loc B1_3 B1_2 B1_1 B1 L9 α else if ix9 = 11 then rLN1T11 pb sb PC C i src ib xb tl kb kl kv eb ll TR xr lr o0 o1 loc B1_3 B1_2 B1_1 B1 L9 α else (0, .map #[] 0)
theorem rLN1_he (pb : Nat) (sb : Nat) (PC : Array Value) (C : Array Value) (i : Nat) (src : Int) (ib : Nat) (xb : Nat) (tl : Int) (kb : Nat) (kl : Int) (kv : Nat) (eb : Nat) (ll : Int) (TR : Nat) (xr : Nat) (lr : Int) (o0 : Int) (o1 : Bool) (loc : Int) (B1_3 : Nat) (B1_2 : Nat) (B1_1 : Nat) (B1 : Nat) : ∀ kk α α', (∀ j, (j % 1000 = kk ∨ j % 1000 ∈ rLN1Anc kk) → α j = α' j) → rLN1E pb sb PC C i src ib xb tl kb kl kv eb ll TR xr lr o0 o1 loc B1_3 B1_2 B1_1 B1 kk α = rLN1E pb sb PC C i src ib xb tl kb kl kv eb ll TR xr lr o0 o1 loc B1_3 B1_2 B1_1 B1 kk α' := by
  intro kk α α' h
  match kk with
  | 0 => rfl
  | 1 => rfl
  | 2 => rfl
  | 3 => rfl
  | 4 => rfl
  | 5 => rfl
  | 6 => rfl
  | 7 => rfl
  | 8 => rfl
  | 9 => rfl
  | 10 => simp only [rLN1E, h 10 (Or.inl rfl)]
  | 11 => simp only [rLN1E, h 11 (Or.inl rfl)]
  | 12 => rfl
  | 13 => rfl
  | 14 => rfl
  | n + 15 => rfl
theorem rLN1_st (pb : Nat) (sb : Nat) (PC : Array Value) (C : Array Value) (i : Nat) (src : Int) (ib : Nat) (xb : Nat) (tl : Int) (kb : Nat) (kl : Int) (kv : Nat) (eb : Nat) (ll : Int) (TR : Nat) (xr : Nat) (lr : Int) (o0 : Int) (o1 : Bool) (loc : Int) (B1_3 : Nat) (B1_2 : Nat) (B1_1 : Nat) (B1 : Nat) : Stable rLN1Cnt 10 rLN1Anc rLN1Trn (rLN1R pb sb PC C i src ib xb tl kb kl kv eb ll TR xr lr o0 o1 loc B1_3 B1_2 B1_1 B1) := by
  intro k9 L9 α α' ix9 hk hcl hα hact ht
  have hp := act_places hact
  replace hp : ix9 ∈ [999, 1999, 2999, 3999, 4999, 5999, 6999, 7999, 8999, 9999, 10, 11] := hp
  simp only [List.mem_cons, List.not_mem_nil, or_false] at hp
  rcases hp with rfl | rfl | rfl | rfl | rfl | rfl | rfl | rfl | rfl | rfl | rfl | rfl
  · rfl
  · rfl
  · rfl
  · rfl
  · rfl
  · rfl
  · rfl
  · rfl
  · rfl
  · rfl
  · have e0 : L9 10 = true := act_lt hact (by decide)
    show rLN1T10 pb sb PC C i src ib xb tl kb kl kv eb ll TR xr lr o0 o1 loc B1_3 B1_2 B1_1 B1 (Rega.ran L9 k9) α' = rLN1T10 pb sb PC C i src ib xb tl kb kl kv eb ll TR xr lr o0 o1 loc B1_3 B1_2 B1_1 B1 L9 α
    unfold rLN1T10
    have n12 : 12 ≠ k9 := fun e => ht (by rw [← e]; decide)
    rw [ran_ne n12]
    by_cases e12 : L9 12 = true
    · first | rw [if_pos e12, if_pos e12] | rw [if_pos e12]
      try simp only [hα 10 (ne_ran hk (hcl 12 e12 10 (by decide)))]
    first | rw [if_neg e12, if_neg e12] | rw [if_neg e12]
    try simp only [hα 10 (ne_ran hk e0)]
  · have e0 : L9 11 = true := act_lt hact (by decide)
    show rLN1T11 pb sb PC C i src ib xb tl kb kl kv eb ll TR xr lr o0 o1 loc B1_3 B1_2 B1_1 B1 (Rega.ran L9 k9) α' = rLN1T11 pb sb PC C i src ib xb tl kb kl kv eb ll TR xr lr o0 o1 loc B1_3 B1_2 B1_1 B1 L9 α
    unfold rLN1T11
    have n13 : 13 ≠ k9 := fun e => ht (by rw [← e]; decide)
    rw [ran_ne n13]
    by_cases e13 : L9 13 = true
    · first | rw [if_pos e13, if_pos e13] | rw [if_pos e13]
      try simp only [hα 11 (ne_ran hk (hcl 13 e13 11 (by decide)))]
    first | rw [if_neg e13, if_neg e13] | rw [if_neg e13]
    try simp only [hα 11 (ne_ran hk e0)]
def rLN2E (pb : Nat) (sb : Nat) (PC : Array Value) (C : Array Value) (i : Nat) (c : Nat) (cz : Nat) (src : Int) (ib : Nat) (xb : Nat) (tl : Int) (kb : Nat) (kl : Int) (kv : Nat) (eb : Nat) (ll : Int) (TR : Nat) (xr : Nat) (lr : Int) (o0 : Int) (o1 : Bool) (loc : Int) (B1_3 : Nat) (B1_2 : Nat) (B1_1 : Nat) (B1 : Nat) (nd3 : Nat) (nd4 : Nat) : Nat → Rega.Atoms → Value
  | 0, α => .pointer (some ⟨pb, 0, none⟩)
  | 1, α => .pointer (some ⟨eb, 0, none⟩)
  | 2, α => .pointer (some ⟨eb, 0, none⟩)
  | 3, α => .pointer (some ⟨eb, 0, none⟩)
  | 4, α => .agg #[.iface 38 (.pointer (some ⟨xb, 0, none⟩)), .int .i32 ll]
  | 5, α => .func (Fn.func 27) #[] #[.pointer (some ⟨B1, 0, none⟩), .pointer (some ⟨B1_1, 0, none⟩), .pointer (some ⟨B1_2, 0, none⟩)]
  | 6, α => .agg #[.iface 42 (.pointer (some ⟨α 6, 0, none⟩)), .int .i32 loc]
  | 7, α => undef
  | 8, α => .bool true
  | _, _ => undef
def rLN2Anc : Nat → List Nat
  | 2 => [1]
  | 3 => [1, 2]
  | 4 => [1, 2, 3]
  | 6 => [0, 1, 2, 3, 4, 5]
  | 7 => [0, 1, 2, 3, 4, 5, 6]
  | 8 => [0, 1, 2, 3, 4, 5, 6, 7]
  | _ => []
def rLN2Trn : Nat → List Nat
  | 6 => [5999]
  | 7 => [999]
  | _ => []
def rLN2Cnt : List (Nat × Nat) := [(6, 8)]
def rLN2T999 (pb : Nat) (sb : Nat) (PC : Array Value) (C : Array Value) (i : Nat) (c : Nat) (cz : Nat) (src : Int) (ib : Nat) (xb : Nat) (tl : Int) (kb : Nat) (kl : Int) (kv : Nat) (eb : Nat) (ll : Int) (TR : Nat) (xr : Nat) (lr : Int) (o0 : Int) (o1 : Bool) (loc : Int) (B1_3 : Nat) (B1_2 : Nat) (B1_1 : Nat) (B1 : Nat) (nd3 : Nat) (nd4 : Nat) (L9 : Nat → Bool) (α : Rega.Atoms) : Rw := if L9 7 = true then row (B1_3) 34 #[.iface 42 (.pointer (some ⟨α 6, 0, none⟩)), .int .i32 loc] else row (B1_3) 34 #[.nilIface, .int .i32 0]
def rLN2T5999 (pb : Nat) (sb : Nat) (PC : Array Value) (C : Array Value) (i : Nat) (c : Nat) (cz : Nat) (src : Int) (ib : Nat) (xb : Nat) (tl : Int) (kb : Nat) (kl : Int) (kv : Nat) (eb : Nat) (ll : Int) (TR : Nat) (xr : Nat) (lr : Int) (o0 : Int) (o1 : Bool) (loc : Int) (B1_3 : Nat) (B1_2 : Nat) (B1_1 : Nat) (B1 : Nat) (nd3 : Nat) (nd4 : Nat) (L9 : Nat → Bool) (α : Rega.Atoms) : Rw := if L9 6 = true then row (sb) 196 (bumped (bumped C i c) i cz) else row (sb) 196 C
def rLN2R (pb : Nat) (sb : Nat) (PC : Array Value) (C : Array Value) (i : Nat) (c : Nat) (cz : Nat) (src : Int) (ib : Nat) (xb : Nat) (tl : Int) (kb : Nat) (kl : Int) (kv : Nat) (eb : Nat) (ll : Int) (TR : Nat) (xr : Nat) (lr : Int) (o0 : Int) (o1 : Bool) (loc : Int) (B1_3 : Nat) (B1_2 : Nat) (B1_1 : Nat) (B1 : Nat) (nd3 : Nat) (nd4 : Nat) (L9 : Nat → Bool) (α : Rega.Atoms) (ix9 : Nat) : Rw := if ix9 = 999 then rLN2T999 pb sb PC C i c cz src ib xb tl kb kl kv eb ll TR xr lr o0 o1 loc B1_3 B1_2 B1_1 B1 nd3 nd4 L9 α else if ix9 = 1999 then row (B1_2) 42 #[.pointer (some ⟨eb, 0, none⟩)] else if ix9 = 2999 then row (B1_1) 32 #[.int .i32 loc] else if ix9 = 3999 then row (B1) 25 #[.pointer (some ⟨pb, 0, none⟩)] else if ix9 = 4999 then row (pb) 178 PC else if ix9 = 5999 then rLN2T5999 pb sb PC C i c cz src ib xb tl kb kl kv eb ll TR xr lr o0 o1 loc B1_3 B1_2 B1_1 B1 nd3 nd4 L9 α else if ix9 = 6999 then row (eb) 45 #[.iface 38 (.pointer (some ⟨xb, 0, none⟩)), .int .i32 ll, .iface TR (.pointer (some ⟨xr, 0, none⟩)), .int .i32 lr, .int .u8 o0, .bool o1] else if ix9 = 7999 then row (xb) 56 #[.iface 52 (.pointer (some ⟨ib, 0, none⟩)), .int .i32 tl, .iface 40 (.pointer (some ⟨kb, 0, none⟩)), .int .i32 kl, .int .i32 0, .int .u8 0, .bool false, .bool false, .bool false] else if ix9 = 8999 then row (ib) 180 #[.int .u32 src, .int .u32 (i : Int), .bool false, .bool false, .bool false] else if ix9 = 9999 then row (kb) 182 #[.float .f64 kv] else if ix9 = 10999 then row (nd3) 34 #[.nilIface, .int .i32 0] else if ix9 = 11999 then row (nd4) 32 #[.int .i32 0] else if ix9 = 6 then row (α 6) 45 #[.iface 38 (.pointer (some ⟨α 2006, 0, none⟩)), .int .i32 ll, .iface 42 (.pointer (some ⟨α 1006, 0, none⟩)), .int .i32 ll, .int .u8 30, .bool false] else if ix9 = 1006 then row (α 1006) 45 #[.iface 38 (.pointer (some ⟨α 3006, 0, none⟩)), .int .i32 ll, .iface TR (.pointer (some ⟨xr, 0, none⟩)), .int .i32 lr, .int .u8 37, .bool false] else if ix9 = 2006 then row (α 2006) 56 #[.iface 52 (.pointer (some ⟨α 4006, 0, none⟩)), .int .i32 ll, .iface 40 (.pointer (some ⟨α 5006, 0, none⟩)), .int .i32 ll, .int .i32 0, .int .u8 0, .bool false, .bool false, .bool false] else if ix9 = 3006 then row (α 3006) 56 #[.iface 52 (.pointer (some ⟨α 6006, 0, none⟩)), .int .i32 ll, .iface 40 (.pointer (some ⟨α 7006, 0, none⟩)), .int .i32 ll, .int .i32 0, .int .u8 0, .bool false, .bool false, .bool false] else if ix9 = 4006 then row (α 4006) 180 #[.int .u32 src, .int .u32 (i : Int), .bool false, .bool false, .bool false] else if ix9 = 5006 then row (α 5006) 182 #[.float .f64 kv] else if ix9 = 6006 then row (α 6006) 180 #[.int .u32 src, .int .u32 (i : Int), .bool false, .bool false, .bool false] else if ix9 = 7006 then row (α 7006) 182 #[.float .f64 kv] else (0, .map #[] 0)
theorem rLN2_he (pb : Nat) (sb : Nat) (PC : Array Value) (C : Array Value) (i : Nat) (c : Nat) (cz : Nat) (src : Int) (ib : Nat) (xb : Nat) (tl : Int) (kb : Nat) (kl : Int) (kv : Nat) (eb : Nat) (ll : Int) (TR : Nat) (xr : Nat) (lr : Int) (o0 : Int) (o1 : Bool) (loc : Int) (B1_3 : Nat) (B1_2 : Nat) (B1_1 : Nat) (B1 : Nat) (nd3 : Nat) (nd4 : Nat) : ∀ kk α α', (∀ j, (j % 1000 = kk ∨ j % 1000 ∈ rLN2Anc kk) → α j = α' j) → rLN2E pb sb PC C i c cz src ib xb tl kb kl kv eb ll TR xr lr o0 o1 loc B1_3 B1_2 B1_1 B1 nd3 nd4 kk α = rLN2E pb sb PC C i c cz src ib xb tl kb kl kv eb ll TR xr lr o0 o1 loc B1_3 B1_2 B1_1 B1 nd3 nd4 kk α' := by
  intro kk α α' h
  match kk with
  | 0 => rfl
  | 1 => rfl
  | 2 => rfl
  | 3 => rfl
  | 4 => rfl
  | 5 => rfl
  | 6 => simp only [rLN2E, h 6 (Or.inl rfl)]
  | 7 => rfl
  | 8 => rfl
  | n + 9 => rfl
theorem rLN2_st (pb : Nat) (sb : Nat) (PC : Array Value) (C : Array Value) (i : Nat) (c : Nat) (cz : Nat) (src : Int) (ib : Nat) (xb : Nat) (tl : Int) (kb : Nat) (kl : Int) (kv : Nat) (eb : Nat) (ll : Int) (TR : Nat) (xr : Nat) (lr : Int) (o0 : Int) (o1 : Bool) (loc : Int) (B1_3 : Nat) (B1_2 : Nat) (B1_1 : Nat) (B1 : Nat) (nd3 : Nat) (nd4 : Nat) : Stable rLN2Cnt 12 rLN2Anc rLN2Trn (rLN2R pb sb PC C i c cz src ib xb tl kb kl kv eb ll TR xr lr o0 o1 loc B1_3 B1_2 B1_1 B1 nd3 nd4) := by
  intro k9 L9 α α' ix9 hk hcl hα hact ht
  have hp := act_places hact
  replace hp : ix9 ∈ [999, 1999, 2999, 3999, 4999, 5999, 6999, 7999, 8999, 9999, 10999, 11999, 6, 1006, 2006, 3006, 4006, 5006, 6006, 7006] := hp
  simp only [List.mem_cons, List.not_mem_nil, or_false] at hp
  rcases hp with rfl | rfl | rfl | rfl | rfl | rfl | rfl | rfl | rfl | rfl | rfl | rfl | rfl | rfl | rfl | rfl | rfl | rfl | rfl | rfl
  · show rLN2T999 pb sb PC C i c cz src ib xb tl kb kl kv eb ll TR xr lr o0 o1 loc B1_3 B1_2 B1_1 B1 nd3 nd4 (Rega.ran L9 k9) α' = rLN2T999 pb sb PC C i c cz src ib xb tl kb kl kv eb ll TR xr lr o0 o1 loc B1_3 B1_2 B1_1 B1 nd3 nd4 L9 α
    unfold rLN2T999
    have n7 : 7 ≠ k9 := fun e => ht (by rw [← e]; decide)
    rw [ran_ne n7]
    by_cases e7 : L9 7 = true
    · first | rw [if_pos e7, if_pos e7] | rw [if_pos e7]
      try simp only [hα 6 (ne_ran hk (hcl 7 e7 6 (by decide)))]
    first | rw [if_neg e7, if_neg e7] | rw [if_neg e7]
  · rfl
  · rfl
  · rfl
  · rfl
  · show rLN2T5999 pb sb PC C i c cz src ib xb tl kb kl kv eb ll TR xr lr o0 o1 loc B1_3 B1_2 B1_1 B1 nd3 nd4 (Rega.ran L9 k9) α' = rLN2T5999 pb sb PC C i c cz src ib xb tl kb kl kv eb ll TR xr lr o0 o1 loc B1_3 B1_2 B1_1 B1 nd3 nd4 L9 α
    unfold rLN2T5999
    have n6 : 6 ≠ k9 := fun e => ht (by rw [← e]; decide)
    rw [ran_ne n6]
  · rfl
  · rfl
  · rfl
  · rfl
  · rfl
  · rfl
  · have e0 : L9 6 = true := act_lt hact (by decide)
    show row (α' 6) 45 #[.iface 38 (.pointer (some ⟨α' 2006, 0, none⟩)), .int .i32 ll, .iface 42 (.pointer (some ⟨α' 1006, 0, none⟩)), .int .i32 ll, .int .u8 30, .bool false] = row (α 6) 45 #[.iface 38 (.pointer (some ⟨α 2006, 0, none⟩)), .int .i32 ll, .iface 42 (.pointer (some ⟨α 1006, 0, none⟩)), .int .i32 ll, .int .u8 30, .bool false]
    simp only [hα 6 (ne_ran hk e0), hα 1006 (ne_ran hk e0), hα 2006 (ne_ran hk e0)]
  · have e0 : L9 6 = true := act_lt hact (by decide)
    show row (α' 1006) 45 #[.iface 38 (.pointer (some ⟨α' 3006, 0, none⟩)), .int .i32 ll, .iface TR (.pointer (some ⟨xr, 0, none⟩)), .int .i32 lr, .int .u8 37, .bool false] = row (α 1006) 45 #[.iface 38 (.pointer (some ⟨α 3006, 0, none⟩)), .int .i32 ll, .iface TR (.pointer (some ⟨xr, 0, none⟩)), .int .i32 lr, .int .u8 37, .bool false]
    simp only [hα 1006 (ne_ran hk e0), hα 3006 (ne_ran hk e0)]
  · have e0 : L9 6 = true := act_lt hact (by decide)
    show row (α' 2006) 56 #[.iface 52 (.pointer (some ⟨α' 4006, 0, none⟩)), .int .i32 ll, .iface 40 (.pointer (some ⟨α' 5006, 0, none⟩)), .int .i32 ll, .int .i32 0, .int .u8 0, .bool false, .bool false, .bool false] = row (α 2006) 56 #[.iface 52 (.pointer (some ⟨α 4006, 0, none⟩)), .int .i32 ll, .iface 40 (.pointer (some ⟨α 5006, 0, none⟩)), .int .i32 ll, .int .i32 0, .int .u8 0, .bool false, .bool false, .bool false]
    simp only [hα 2006 (ne_ran hk e0), hα 4006 (ne_ran hk e0), hα 5006 (ne_ran hk e0)]
  · have e0 : L9 6 = true := act_lt hact (by decide)
    show row (α' 3006) 56 #[.iface 52 (.pointer (some ⟨α' 6006, 0, none⟩)), .int .i32 ll, .iface 40 (.pointer (some ⟨α' 7006, 0, none⟩)), .int .i32 ll, .int .i32 0, .int .u8 0, .bool false, .bool false, .bool false] = row (α 3006) 56 #[.iface 52 (.pointer (some ⟨α 6006, 0, none⟩)), .int .i32 ll, .iface 40 (.pointer (some ⟨α 7006, 0, none⟩)), .int .i32 ll, .int .i32 0, .int .u8 0, .bool false, .bool false, .bool false]
    simp only [hα 3006 (ne_ran hk e0), hα 6006 (ne_ran hk e0), hα 7006 (ne_ran hk e0)]
  · have e0 : L9 6 = true := act_lt hact (by decide)
    show row (α' 4006) 180 #[.int .u32 src, .int .u32 (i : Int), .bool false, .bool false, .bool false] = row (α 4006) 180 #[.int .u32 src, .int .u32 (i : Int), .bool false, .bool false, .bool false]
    simp only [hα 4006 (ne_ran hk e0)]
  · have e0 : L9 6 = true := act_lt hact (by decide)
    show row (α' 5006) 182 #[.float .f64 kv] = row (α 5006) 182 #[.float .f64 kv]
    simp only [hα 5006 (ne_ran hk e0)]
  · have e0 : L9 6 = true := act_lt hact (by decide)
    show row (α' 6006) 180 #[.int .u32 src, .int .u32 (i : Int), .bool false, .bool false, .bool false] = row (α 6006) 180 #[.int .u32 src, .int .u32 (i : Int), .bool false, .bool false, .bool false]
    simp only [hα 6006 (ne_ran hk e0)]
  · have e0 : L9 6 = true := act_lt hact (by decide)
    show row (α' 7006) 182 #[.float .f64 kv] = row (α 7006) 182 #[.float .f64 kv]
    simp only [hα 7006 (ne_ran hk e0)]
def lowNaPost (pb sb n cap : Nat) (PC C : Array Value) (x : Int) (i c cz : Nat) (src : Int) (ib xb : Nat) (tl : Int) (kb : Nat) (kl : Int) (kv eb : Nat) (ll : Int) (TR xr : Nat) (lr o0 : Int) (o1 : Bool) (loc : Int) (w0 : World) (X : Nat → Obj → Prop) (e : Ending) (w' : World) : Prop :=
  ∃ ab : Nat, ∃ cb : Nat, ∃ d1 : Nat, ∃ d2 : Nat, ∃ i1 : Nat, ∃ k1 : Nat, ∃ i2 : Nat, ∃ k2 : Nat, e = .returned (.tuple #[.agg #[.iface 42 (.pointer (some ⟨ab, 0, none⟩)), .int .i32 loc], .bool true]) ∧ Own w0 w' [row (pb) 178 PC, row (sb) 196 (bumped (bumped C i c) i cz), row (eb) 45 #[.iface 38 (.pointer (some ⟨xb, 0, none⟩)), .int .i32 ll, .iface TR (.pointer (some ⟨xr, 0, none⟩)), .int .i32 lr, .int .u8 o0, .bool o1], row (xb) 56 #[.iface 52 (.pointer (some ⟨ib, 0, none⟩)), .int .i32 tl, .iface 40 (.pointer (some ⟨kb, 0, none⟩)), .int .i32 kl, .int .i32 0, .int .u8 0, .bool false, .bool false, .bool false], row (ib) 180 #[.int .u32 src, .int .u32 (i : Int), .bool false, .bool false, .bool false], row (kb) 182 #[.float .f64 kv], row (ab) 45 #[.iface 38 (.pointer (some ⟨d1, 0, none⟩)), .int .i32 ll, .iface 42 (.pointer (some ⟨cb, 0, none⟩)), .int .i32 ll, .int .u8 30, .bool false], row (cb) 45 #[.iface 38 (.pointer (some ⟨d2, 0, none⟩)), .int .i32 ll, .iface TR (.pointer (some ⟨xr, 0, none⟩)), .int .i32 lr, .int .u8 37, .bool false], row (d1) 56 #[.iface 52 (.pointer (some ⟨i1, 0, none⟩)), .int .i32 ll, .iface 40 (.pointer (some ⟨k1, 0, none⟩)), .int .i32 ll, .int .i32 0, .int .u8 0, .bool false, .bool false, .bool false], row (d2) 56 #[.iface 52 (.pointer (some ⟨i2, 0, none⟩)), .int .i32 ll, .iface 40 (.pointer (some ⟨k2, 0, none⟩)), .int .i32 ll, .int .i32 0, .int .u8 0, .bool false, .bool false, .bool false], row (i1) 180 #[.int .u32 src, .int .u32 (i : Int), .bool false, .bool false, .bool false], row (k1) 182 #[.float .f64 kv], row (i2) 180 #[.int .u32 src, .int .u32 (i : Int), .bool false, .bool false, .bool false], row (k2) 182 #[.float .f64 kv]] X
set_option maxRecDepth 100000 in
set_option maxHeartbeats 1000000 in
theorem lowNa (pb sb n cap : Nat) (PC C : Array Value) (x : Int) (i c cz : Nat) (src : Int) (ib xb : Nat) (tl : Int) (kb : Nat) (kl : Int) (kv eb : Nat) (ll : Int) (TR xr : Nat) (lr o0 : Int) (o1 : Bool) (loc : Int) (w0 w : World) (X : Nat → Obj → Prop) (hO : Own w0 w [row (pb) 178 PC, row (sb) 196 C, row (eb) 45 #[.iface 38 (.pointer (some ⟨xb, 0, none⟩)), .int .i32 ll, .iface TR (.pointer (some ⟨xr, 0, none⟩)), .int .i32 lr, .int .u8 o0, .bool o1], row (xb) 56 #[.iface 52 (.pointer (some ⟨ib, 0, none⟩)), .int .i32 tl, .iface 40 (.pointer (some ⟨kb, 0, none⟩)), .int .i32 kl, .int .i32 0, .int .u8 0, .bool false, .bool false, .bool false], row (ib) 180 #[.int .u32 src, .int .u32 (i : Int), .bool false, .bool false, .bool false], row (kb) 182 #[.float .f64 kv]] X) (hR : Ready PC sb n cap) (hn : n ≤ 4294967295) (hi : i < n) (hc : C[i * 10 + 4]? = some (.int .u32 (c : Int))) (hcm : c < 4294967295) (hcz : (bumped C i c)[i * 10 + 4]? = some (.int .u32 (cz : Int))) (hczm : cz < 4294967295) (hx : PC[23]? = some (.int .u64 x)) (hx1 : (bits BinOp.and IntKind.u64 x 4398046511104 != 0) = false) (hx2 : (bits BinOp.and IntKind.u64 x 137438953472 != 0) = true) :
    Calls Tryz.prog 17 #[.pointer (some ⟨pb, 0, none⟩), .agg #[.int .i32 loc], .pointer (some ⟨eb, 0, none⟩)] w (lowNaPost pb sb n cap PC C x i c cz src ib xb tl kb kl kv eb ll TR xr lr o0 o1 loc w0 X) := by
  go_enter Tryz.func17, Tryz.ntmps17
  have c9_0_23 : w.cell? ⟨pb, 23, none⟩ = some (.int .u64 x) := hO.cell 0 rfl 23 (hx)
  have lt9_0 : pb < w.heap.size := hO.lt 0 rfl
  have y9_0 : ∀ o, w.frozen? ⟨pb, o, none⟩ = false := hO.free 0 rfl
  have c9_2_0 : w.cell? ⟨eb, 0, none⟩ = some (.iface 38 (.pointer (some ⟨xb, 0, none⟩))) := hO.cell 2 rfl 0 rfl
  have c9_2_1 : w.cell? ⟨eb, 1, none⟩ = some (.int .i32 ll) := hO.cell 2 rfl 1 rfl
  have c9_2_2 : w.cell? ⟨eb, 2, none⟩ = some (.iface TR (.pointer (some ⟨xr, 0, none⟩))) := hO.cell 2 rfl 2 rfl
  have c9_2_3 : w.cell? ⟨eb, 3, none⟩ = some (.int .i32 lr) := hO.cell 2 rfl 3 rfl
  have c9_2_4 : w.cell? ⟨eb, 4, none⟩ = some (.int .u8 o0) := hO.cell 2 rfl 4 rfl
  have c9_2_5 : w.cell? ⟨eb, 5, none⟩ = some (.bool o1) := hO.cell 2 rfl 5 rfl
  have lt9_2 : eb < w.heap.size := hO.lt 2 rfl
  have y9_2 : ∀ o, w.frozen? ⟨eb, o, none⟩ = false := hO.free 2 rfl
  have c9_3_0 : w.cell? ⟨xb, 0, none⟩ = some (.iface 52 (.pointer (some ⟨ib, 0, none⟩))) := hO.cell 3 rfl 0 rfl
  have c9_3_1 : w.cell? ⟨xb, 1, none⟩ = some (.int .i32 tl) := hO.cell 3 rfl 1 rfl
  have c9_3_2 : w.cell? ⟨xb, 2, none⟩ = some (.iface 40 (.pointer (some ⟨kb, 0, none⟩))) := hO.cell 3 rfl 2 rfl
  have c9_3_3 : w.cell? ⟨xb, 3, none⟩ = some (.int .i32 kl) := hO.cell 3 rfl 3 rfl
  have c9_3_4 : w.cell? ⟨xb, 4, none⟩ = some (.int .i32 0) := hO.cell 3 rfl 4 rfl
  have c9_3_5 : w.cell? ⟨xb, 5, none⟩ = some (.int .u8 0) := hO.cell 3 rfl 5 rfl
  have c9_3_6 : w.cell? ⟨xb, 6, none⟩ = some (.bool false) := hO.cell 3 rfl 6 rfl
  have c9_3_7 : w.cell? ⟨xb, 7, none⟩ = some (.bool false) := hO.cell 3 rfl 7 rfl
  have c9_3_8 : w.cell? ⟨xb, 8, none⟩ = some (.bool false) := hO.cell 3 rfl 8 rfl
  have lt9_3 : xb < w.heap.size := hO.lt 3 rfl
  have y9_3 : ∀ o, w.frozen? ⟨xb, o, none⟩ = false := hO.free 3 rfl
  have c9_4_0 : w.cell? ⟨ib, 0, none⟩ = some (.int .u32 src) := hO.cell 4 rfl 0 rfl
  have c9_4_1 : w.cell? ⟨ib, 1, none⟩ = some (.int .u32 (i : Int)) := hO.cell 4 rfl 1 rfl
  have c9_4_2 : w.cell? ⟨ib, 2, none⟩ = some (.bool false) := hO.cell 4 rfl 2 rfl
  have c9_4_3 : w.cell? ⟨ib, 3, none⟩ = some (.bool false) := hO.cell 4 rfl 3 rfl
  have c9_4_4 : w.cell? ⟨ib, 4, none⟩ = some (.bool false) := hO.cell 4 rfl 4 rfl
  have lt9_4 : ib < w.heap.size := hO.lt 4 rfl
  have y9_4 : ∀ o, w.frozen? ⟨ib, o, none⟩ = false := hO.free 4 rfl
  have c9_5_0 : w.cell? ⟨kb, 0, none⟩ = some (.float .f64 kv) := hO.cell 5 rfl 0 rfl
  have lt9_5 : kb < w.heap.size := hO.lt 5 rfl
  have y9_5 : ∀ o, w.frozen? ⟨kb, o, none⟩ = false := hO.free 5 rfl
  have HO := Lib.hid hO
  clear hO
  go_wp2_with (go_at_call 21; go_in)
  have hO := HO.out
  clear HO c9_0_23 lt9_0 y9_0 c9_2_0 c9_2_1 c9_2_2 c9_2_3 c9_2_4 c9_2_5 lt9_2 y9_2 c9_3_0 c9_3_1 c9_3_2 c9_3_3 c9_3_4 c9_3_5 c9_3_6 c9_3_7 c9_3_8 lt9_3 y9_3 c9_4_0 c9_4_1 c9_4_2 c9_4_3 c9_4_4 lt9_4 y9_4 c9_5_0 lt9_5 y9_5
  generalize hW : World.alloc _ _ = W2
  have hN : Own w0 W2 [row (w.heap.size + 1 + 1 + 1) 34 #[.nilIface, .int .i32 0], row (w.heap.size + 1 + 1) 42 #[.pointer (some ⟨eb, 0, none⟩)], row (w.heap.size + 1) 32 #[.int .i32 loc], row (w.heap.size) 25 #[.pointer (some ⟨pb, 0, none⟩)], row (pb) 178 PC, row (sb) 196 C, row (eb) 45 #[.iface 38 (.pointer (some ⟨xb, 0, none⟩)), .int .i32 ll, .iface TR (.pointer (some ⟨xr, 0, none⟩)), .int .i32 lr, .int .u8 o0, .bool o1], row (xb) 56 #[.iface 52 (.pointer (some ⟨ib, 0, none⟩)), .int .i32 tl, .iface 40 (.pointer (some ⟨kb, 0, none⟩)), .int .i32 kl, .int .i32 0, .int .u8 0, .bool false, .bool false, .bool false], row (ib) 180 #[.int .u32 src, .int .u32 (i : Int), .bool false, .bool false, .bool false], row (kb) 182 #[.float .f64 kv]] X := by
    rw [← hW]
    exact ((((hO).alloc' _ (w.heap.size) (by simp)).alloc' _ (w.heap.size + 1) (by simp)).alloc' _ (w.heap.size + 1 + 1) (by simp)).alloc' _ (w.heap.size + 1 + 1 + 1) (by simp)
  clear hW hO
  generalize w.heap.size + 1 + 1 + 1 = B1_3 at hN ⊢
  generalize w.heap.size + 1 + 1 = B1_2 at hN ⊢
  generalize w.heap.size + 1 = B1_1 at hN ⊢
  generalize w.heap.size = B1 at hN ⊢
  have hO := hN
  clear hN
  refine wp_region_own (e := rLN1E pb sb PC C i src ib xb tl kb kl kv eb ll TR xr lr o0 o1 loc B1_3 B1_2 B1_1 B1) (anc := rLN1Anc) (G := (fun L9 α u9 => OwnF w0 u9 (act rLN1Cnt 10 L9) (rLN1R pb sb PC C i src ib xb tl kb kl kv eb ll TR xr lr o0 o1 loc B1_3 B1_2 B1_1 B1 L9 α) X)) (by kernel_rfl) (by kernel_rfl) (by kernel_rfl) (by kernel_rfl) (rLN1_he pb sb PC C i src ib xb tl kb kl kv eb ll TR xr lr o0 o1 loc B1_3 B1_2 B1_1 B1) ?_ (RunsAll.all ?_) ?_
  · have hp : ∀ i, act rLN1Cnt 10 (fun _ => false) i → i ∈ [999, 1999, 2999, 3999, 4999, 5999, 6999, 7999, 8999, 9999] := by
      intro i hi
      have h9 : i % 1000 = 999 := by
        by_cases h : i % 1000 = 999
        · exact h
        · exact absurd (act_lt hi h) (by simp)
      unfold act at hi
      rw [if_pos h9] at hi
      simp only [List.mem_cons, List.not_mem_nil, or_false]
      omega
    refine hO.drew.family (fun i hi => ?_) (fun i j hi hj hij => ?_)
    · have := hp i hi
      simp only [List.mem_cons, List.not_mem_nil, or_false] at this
      rcases this with rfl | rfl | rfl | rfl | rfl | rfl | rfl | rfl | rfl | rfl <;> rfl
    · have h1 := hp i hi
      have h2 := hp j hj
      simp only [List.mem_cons, List.not_mem_nil, or_false] at h1 h2
      omega
  · refine ⟨?_, ?_, ?_, ?_, ?_, ?_, ?_, ?_, ?_, ?_, ?_, ?_, ?_, ?_, ?_, trivial⟩
    · intro L9 α a9 u9 K9 hL hcl hA hG hS h0 hK
      replace hL : L9 0 = false := hL
      have q3 : a9.tmps[3]? = some (.pointer (some ⟨B1, 0, none⟩)) := (h0 3 (by kernel_rfl)).trans rfl
      have s3 := Rega.eval_of q3
      have e0 : rLN1R pb sb PC C i src ib xb tl kb kl kv eb ll TR xr lr o0 o1 loc B1_3 B1_2 B1_1 B1 L9 α 3999 = row (B1) 25 #[.pointer (some ⟨pb, 0, none⟩)] := rfl
      have hr := hG.rowAt 3999 (act_base 3999 rfl) e0
      have c0 : u9.cell? ⟨B1, 0, none⟩ = some (.pointer (some ⟨pb, 0, none⟩)) := hr.cell rfl
      clear hr e0
      go_simp
      exact hK _ α _ (fun _ _ => rfl) rfl (step_same (rLN1_st pb sb PC C i src ib xb tl kb kl kv eb ll TR xr lr o0 o1 loc B1_3 B1_2 B1_1 B1) hL hcl rfl rfl hG)
    · intro L9 α a9 u9 K9 hL hcl hA hG hS h0 hK
      replace hL : L9 1 = false := hL
      have q5 : a9.tmps[5]? = some (.pointer (some ⟨B1_2, 0, none⟩)) := (h0 5 (by kernel_rfl)).trans rfl
      have s5 := Rega.eval_of q5
      have e0 : rLN1R pb sb PC C i src ib xb tl kb kl kv eb ll TR xr lr o0 o1 loc B1_3 B1_2 B1_1 B1 L9 α 1999 = row (B1_2) 42 #[.pointer (some ⟨eb, 0, none⟩)] := rfl
      have hr := hG.rowAt 1999 (act_base 1999 rfl) e0
      have c0 : u9.cell? ⟨B1_2, 0, none⟩ = some (.pointer (some ⟨eb, 0, none⟩)) := hr.cell rfl
      clear hr e0
      go_simp
      exact hK _ α _ (fun _ _ => rfl) rfl (step_same (rLN1_st pb sb PC C i src ib xb tl kb kl kv eb ll TR xr lr o0 o1 loc B1_3 B1_2 B1_1 B1) hL hcl rfl rfl hG)
    · intro L9 α a9 u9 K9 hL hcl hA hG hS h0 hK
      replace hL : L9 2 = false := hL
      have q19 : a9.tmps[19]? = some (.pointer (some ⟨eb, 0, none⟩)) := hS 1 19 (by decide) rfl (by show 19 < 111; decide)
      have s19 := Rega.eval_of q19
      go_simp
      exact hK _ α _ (fun _ _ => rfl) rfl (step_same (rLN1_st pb sb PC C i src ib xb tl kb kl kv eb ll TR xr lr o0 o1 loc B1_3 B1_2 B1_1 B1) hL hcl rfl rfl hG)
    · intro L9 α a9 u9 K9 hL hcl hA hG hS h0 hK
      replace hL : L9 3 = false := hL
      have q20 : a9.tmps[20]? = some (.pointer (some ⟨eb, 0, none⟩)) := hS 2 20 (by decide) rfl (by show 20 < 111; decide)
      have s20 := Rega.eval_of q20
      go_simp
      exact hK _ α _ (fun _ _ => rfl) rfl (step_same (rLN1_st pb sb PC C i src ib xb tl kb kl kv eb ll TR xr lr o0 o1 loc B1_3 B1_2 B1_1 B1) hL hcl rfl rfl hG)
    · intro L9 α a9 u9 K9 hL hcl hA hG hS h0 hK
      replace hL : L9 4 = false := hL
      have q21 : a9.tmps[21]? = some (.pointer (some ⟨eb, 0, none⟩)) := hS 3 21 (by decide) rfl (by show 21 < 111; decide)
      have s21 := Rega.eval_of q21
      have e0 : rLN1R pb sb PC C i src ib xb tl kb kl kv eb ll TR xr lr o0 o1 loc B1_3 B1_2 B1_1 B1 L9 α 6999 = row (eb) 45 #[.iface 38 (.pointer (some ⟨xb, 0, none⟩)), .int .i32 ll, .iface TR (.pointer (some ⟨xr, 0, none⟩)), .int .i32 lr, .int .u8 o0, .bool o1] := rfl
      have hr := hG.rowAt 6999 (act_base 6999 rfl) e0
      have c0 : u9.cell? ⟨eb, 0, none⟩ = some (.iface 38 (.pointer (some ⟨xb, 0, none⟩))) := hr.cell rfl
      have c1 : u9.cell? ⟨eb, 1, none⟩ = some (.int .i32 ll) := hr.cell rfl
      clear hr e0
      go_simp
      exact hK _ α _ (fun _ _ => rfl) rfl (step_same (rLN1_st pb sb PC C i src ib xb tl kb kl kv eb ll TR xr lr o0 o1 loc B1_3 B1_2 B1_1 B1) hL hcl rfl rfl hG)
    · intro L9 α a9 u9 K9 hL hcl hA hG hS h0 hK
      replace hL : L9 5 = false := hL
      have q18 : a9.tmps[18]? = some (.pointer (some ⟨pb, 0, none⟩)) := hS 0 18 (by decide) rfl (by show 18 < 111; decide)
      have s18 := Rega.eval_of q18
      have q22 : a9.tmps[22]? = some (.agg #[.iface 38 (.pointer (some ⟨xb, 0, none⟩)), .int .i32 ll]) := hS 4 22 (by decide) rfl (by show 22 < 111; decide)
      have s22 := Rega.eval_of q22
      go_simp
      have e0 : rLN1R pb sb PC C i src ib xb tl kb kl kv eb ll TR xr lr o0 o1 loc B1_3 B1_2 B1_1 B1 L9 α 7999 = row (xb) 56 #[.iface 52 (.pointer (some ⟨ib, 0, none⟩)), .int .i32 tl, .iface 40 (.pointer (some ⟨kb, 0, none⟩)), .int .i32 kl, .int .i32 0, .int .u8 0, .bool false, .bool false, .bool false] := rfl
      have hM : ∀ i, i ∈ [7999] → act rLN1Cnt 10 L9 i := by
        intro i hi
        simp only [List.mem_cons, List.not_mem_nil, or_false] at hi
        subst hi
        exact act_base 7999 rfl
      have hP : Own w0 u9 [row (xb) 56 #[.iface 52 (.pointer (some ⟨ib, 0, none⟩)), .int .i32 tl, .iface 40 (.pointer (some ⟨kb, 0, none⟩)), .int .i32 kl, .int .i32 0, .int .u8 0, .bool false, .bool false, .bool false]] _ := (hG.pick [7999] (by decide) hM).conv (by
        show [rLN1R pb sb PC C i src ib xb tl kb kl kv eb ll TR xr lr o0 o1 loc B1_3 B1_2 B1_1 B1 L9 α 7999] = _
        rw [e0])
      clear e0 hM
      refine Calls.mono (noPrivO (.pointer (some ⟨pb, 0, none⟩)) xb ib tl kb kl ll _ _ _ hP ) ?_
      rintro e9 u1 ⟨rfl, hQ⟩
      obtain ⟨α', hα'⟩ : ∃ α' : Rega.Atoms, α' = α := ⟨_, rfl⟩
      have f0 : rLN1R pb sb PC C i src ib xb tl kb kl kv eb ll TR xr lr o0 o1 loc B1_3 B1_2 B1_1 B1 (Rega.ran L9 5) α' 7999 = row (xb) 56 #[.iface 52 (.pointer (some ⟨ib, 0, none⟩)), .int .i32 tl, .iface 40 (.pointer (some ⟨kb, 0, none⟩)), .int .i32 kl, .int .i32 0, .int .u8 0, .bool false, .bool false, .bool false] := rfl
      have hα : ∀ j, j % 1000 ≠ 5 → α' j = α j := fun j hj => by rw [hα']
      skip
      refine hK _ α' _ hα ?_ (step_call (rLN1_st pb sb PC C i src ib xb tl kb kl kv eb ll TR xr lr o0 o1 loc B1_3 B1_2 B1_1 B1) hL hcl hα [7999] [7999] (by decide) (by decide) (by decide) (M := _) ?_ hG hQ)
      · rfl
      · show [rLN1R pb sb PC C i src ib xb tl kb kl kv eb ll TR xr lr o0 o1 loc B1_3 B1_2 B1_1 B1 (Rega.ran L9 5) α' 7999] = _
        rw [f0]
    · intro L9 α a9 u9 K9 hL hcl hA hG hS h0 hK
      replace hL : L9 6 = false := hL
      have q23 : a9.tmps[23]? = some (.tuple #[.agg #[.nilIface, .int .i32 0], .agg #[.int .i32 0], .pointer none]) := hS 5 23 (by decide) rfl (by show 23 < 111; decide)
      have s23 := Rega.eval_of q23
      go_simp
      exact hK _ α _ (fun _ _ => rfl) rfl (step_same (rLN1_st pb sb PC C i src ib xb tl kb kl kv eb ll TR xr lr o0 o1 loc B1_3 B1_2 B1_1 B1) hL hcl rfl rfl hG)
    · intro L9 α a9 u9 K9 hL hcl hA hG hS h0 hK
      replace hL : L9 7 = false := hL
      have q17 : a9.tmps[17]? = some (.tuple #[.agg #[.nilIface, .int .i32 0], .agg #[.int .i32 0], .pointer none]) := hS 6 17 (by decide) rfl (by show 17 < 111; decide)
      have s17 := Rega.eval_of q17
      go_simp
      exact hK _ α _ (fun _ _ => rfl) rfl (step_same (rLN1_st pb sb PC C i src ib xb tl kb kl kv eb ll TR xr lr o0 o1 loc B1_3 B1_2 B1_1 B1) hL hcl rfl rfl hG)
    · intro L9 α a9 u9 K9 hL hcl hA hG hS h0 hK
      replace hL : L9 8 = false := hL
      have q17 : a9.tmps[17]? = some (.tuple #[.agg #[.nilIface, .int .i32 0], .agg #[.int .i32 0], .pointer none]) := hS 6 17 (by decide) rfl (by show 17 < 111; decide)
      have s17 := Rega.eval_of q17
      go_simp
      exact hK _ α _ (fun _ _ => rfl) rfl (step_same (rLN1_st pb sb PC C i src ib xb tl kb kl kv eb ll TR xr lr o0 o1 loc B1_3 B1_2 B1_1 B1) hL hcl rfl rfl hG)
    · intro L9 α a9 u9 K9 hL hcl hA hG hS h0 hK
      replace hL : L9 9 = false := hL
      have q17 : a9.tmps[17]? = some (.tuple #[.agg #[.nilIface, .int .i32 0], .agg #[.int .i32 0], .pointer none]) := hS 6 17 (by decide) rfl (by show 17 < 111; decide)
      have s17 := Rega.eval_of q17
      go_simp
      exact hK _ α _ (fun _ _ => rfl) rfl (step_same (rLN1_st pb sb PC C i src ib xb tl kb kl kv eb ll TR xr lr o0 o1 loc B1_3 B1_2 B1_1 B1) hL hcl rfl rfl hG)
    · intro L9 α a9 u9 K9 hL hcl hA hG hS h0 hK
      replace hL : L9 10 = false := hL
      go_simp
      have e1 : rLN1R pb sb PC C i src ib xb tl kb kl kv eb ll TR xr lr o0 o1 loc B1_3 B1_2 B1_1 B1 (Rega.ran L9 10) (fun j => if j = 10 then u9.heap.size else α j) 10 = row (u9.heap.size) 34 #[.nilIface, .int .i32 0] := by
        show rLN1T10 pb sb PC C i src ib xb tl kb kl kv eb ll TR xr lr o0 o1 loc B1_3 B1_2 B1_1 B1 (Rega.ran L9 10) (fun j => if j = 10 then u9.heap.size else α j) = _
        unfold rLN1T10
        exact ((if_neg (fun e => (fun e => by have := hcl 12 e 10 (by decide); rw [hL] at this; cases this) ((ran_ne (by decide)).symm.trans e))).trans rfl)
      exact hK _ (fun j => if j = 10 then u9.heap.size else α j) _ (fun j hj => if_neg (fun e => hj (by rw [e]))) rfl (step_alloc (rLN1_st pb sb PC C i src ib xb tl kb kl kv eb ll TR xr lr o0 o1 loc B1_3 B1_2 B1_1 B1) hL hcl rfl rfl (by decide) _ e1 hG)
    · intro L9 α a9 u9 K9 hL hcl hA hG hS h0 hK
      replace hL : L9 11 = false := hL
      go_simp
      have e1 : rLN1R pb sb PC C i src ib xb tl kb kl kv eb ll TR xr lr o0 o1 loc B1_3 B1_2 B1_1 B1 (Rega.ran L9 11) (fun j => if j = 11 then u9.heap.size else α j) 11 = row (u9.heap.size) 32 #[.int .i32 0] := by
        show rLN1T11 pb sb PC C i src ib xb tl kb kl kv eb ll TR xr lr o0 o1 loc B1_3 B1_2 B1_1 B1 (Rega.ran L9 11) (fun j => if j = 11 then u9.heap.size else α j) = _
        unfold rLN1T11
        exact ((if_neg (fun e => (fun e => by have := hcl 13 e 11 (by decide); rw [hL] at this; cases this) ((ran_ne (by decide)).symm.trans e))).trans rfl)
      exact hK _ (fun j => if j = 11 then u9.heap.size else α j) _ (fun j hj => if_neg (fun e => hj (by rw [e]))) rfl (step_alloc (rLN1_st pb sb PC C i src ib xb tl kb kl kv eb ll TR xr lr o0 o1 loc B1_3 B1_2 B1_1 B1) hL hcl rfl rfl (by decide) _ e1 hG)
    · intro L9 α a9 u9 K9 hL hcl hA hG hS h0 hK
      replace hL : L9 12 = false := hL
      have q8 : a9.tmps[8]? = some (.pointer (some ⟨α 10, 0, none⟩)) := hS 10 8 (by decide) rfl (by show 8 < 111; decide)
      have s8 := Rega.eval_of q8
      have q24 : a9.tmps[24]? = some (.agg #[.nilIface, .int .i32 0]) := hS 7 24 (by decide) rfl (by show 24 < 111; decide)
      have s24 := Rega.eval_of q24
      have e0 : rLN1R pb sb PC C i src ib xb tl kb kl kv eb ll TR xr lr o0 o1 loc B1_3 B1_2 B1_1 B1 L9 α 10 = row (α 10) 34 #[.nilIface, .int .i32 0] := by
        show rLN1T10 pb sb PC C i src ib xb tl kb kl kv eb ll TR xr lr o0 o1 loc B1_3 B1_2 B1_1 B1 L9 α = _
        unfold rLN1T10
        rw [if_neg (by rw [hL]; decide)]
      have hr := hG.rowAt 10 (act_new 10 rfl (hA 10 (by decide))) e0
      have c0 : u9.cell? ⟨α 10, 0, none⟩ = some (.nilIface) := hr.cell rfl
      have y0 : u9.frozen? ⟨α 10, 0, none⟩ = false := hr.free 0
      have c1 : u9.cell? ⟨α 10, 1, none⟩ = some (.int .i32 0) := hr.cell rfl
      have y1 : u9.frozen? ⟨α 10, 1, none⟩ = false := hr.free 1
      clear hr
      have E0 := Lib.hid e0
      clear e0
      go_simp
      have e1 : rLN1R pb sb PC C i src ib xb tl kb kl kv eb ll TR xr lr o0 o1 loc B1_3 B1_2 B1_1 B1 (Rega.ran L9 12) α 10 = row (α 10) 34 #[.nilIface, .int .i32 0] := by
        show rLN1T10 pb sb PC C i src ib xb tl kb kl kv eb ll TR xr lr o0 o1 loc B1_3 B1_2 B1_1 B1 (Rega.ran L9 12) α = _
        unfold rLN1T10
        rw [if_pos (show Rega.ran L9 12 12 = true from rfl)]
      exact hK _ α _ (fun _ _ => rfl) rfl (step_sets (rLN1_st pb sb PC C i src ib xb tl kb kl kv eb ll TR xr lr o0 o1 loc B1_3 B1_2 B1_1 B1) hL hcl rfl 10 rfl (act_new 10 rfl (hA 10 (by decide))) E0.out 0 [.nilIface, .int .i32 0] (e1.trans rfl) hG)
    · intro L9 α a9 u9 K9 hL hcl hA hG hS h0 hK
      replace hL : L9 13 = false := hL
      have q9 : a9.tmps[9]? = some (.pointer (some ⟨α 11, 0, none⟩)) := hS 11 9 (by decide) rfl (by show 9 < 111; decide)
      have s9 := Rega.eval_of q9
      have q25 : a9.tmps[25]? = some (.agg #[.int .i32 0]) := hS 8 25 (by decide) rfl (by show 25 < 111; decide)
      have s25 := Rega.eval_of q25
      have e0 : rLN1R pb sb PC C i src ib xb tl kb kl kv eb ll TR xr lr o0 o1 loc B1_3 B1_2 B1_1 B1 L9 α 11 = row (α 11) 32 #[.int .i32 0] := by
        show rLN1T11 pb sb PC C i src ib xb tl kb kl kv eb ll TR xr lr o0 o1 loc B1_3 B1_2 B1_1 B1 L9 α = _
        unfold rLN1T11
        rw [if_neg (by rw [hL]; decide)]
      have hr := hG.rowAt 11 (act_new 11 rfl (hA 11 (by decide))) e0
      have c0 : u9.cell? ⟨α 11, 0, none⟩ = some (.int .i32 0) := hr.cell rfl
      have y0 : u9.frozen? ⟨α 11, 0, none⟩ = false := hr.free 0
      clear hr
      have E0 := Lib.hid e0
      clear e0
      go_simp
      have e1 : rLN1R pb sb PC C i src ib xb tl kb kl kv eb ll TR xr lr o0 o1 loc B1_3 B1_2 B1_1 B1 (Rega.ran L9 13) α 11 = row (α 11) 32 #[.int .i32 0] := by
        show rLN1T11 pb sb PC C i src ib xb tl kb kl kv eb ll TR xr lr o0 o1 loc B1_3 B1_2 B1_1 B1 (Rega.ran L9 13) α = _
        unfold rLN1T11
        rw [if_pos (show Rega.ran L9 13 13 = true from rfl)]
      exact hK _ α _ (fun _ _ => rfl) rfl (step_sets (rLN1_st pb sb PC C i src ib xb tl kb kl kv eb ll TR xr lr o0 o1 loc B1_3 B1_2 B1_1 B1) hL hcl rfl 11 rfl (act_new 11 rfl (hA 11 (by decide))) E0.out 0 [.int .i32 0] (e1.trans rfl) hG)
    · intro L9 α a9 u9 K9 hL hcl hA hG hS h0 hK
      replace hL : L9 14 = false := hL
      have q26 : a9.tmps[26]? = some (.pointer none) := hS 9 26 (by decide) rfl (by show 26 < 111; decide)
      have s26 := Rega.eval_of q26
      go_simp
      exact hK _ α _ (fun _ _ => rfl) rfl (step_same (rLN1_st pb sb PC C i src ib xb tl kb kl kv eb ll TR xr lr o0 o1 loc B1_3 B1_2 B1_1 B1) hL hcl rfl rfl hG)
  · intro α u hG
    have e0 : rLN1R pb sb PC C i src ib xb tl kb kl kv eb ll TR xr lr o0 o1 loc B1_3 B1_2 B1_1 B1 (fun k => decide (k < 15)) α 999 = row (B1_3) 34 #[.nilIface, .int .i32 0] := rfl
    have e1 : rLN1R pb sb PC C i src ib xb tl kb kl kv eb ll TR xr lr o0 o1 loc B1_3 B1_2 B1_1 B1 (fun k => decide (k < 15)) α 1999 = row (B1_2) 42 #[.pointer (some ⟨eb, 0, none⟩)] := rfl
    have e2 : rLN1R pb sb PC C i src ib xb tl kb kl kv eb ll TR xr lr o0 o1 loc B1_3 B1_2 B1_1 B1 (fun k => decide (k < 15)) α 2999 = row (B1_1) 32 #[.int .i32 loc] := rfl
    have e3 : rLN1R pb sb PC C i src ib xb tl kb kl kv eb ll TR xr lr o0 o1 loc B1_3 B1_2 B1_1 B1 (fun k => decide (k < 15)) α 3999 = row (B1) 25 #[.pointer (some ⟨pb, 0, none⟩)] := rfl
    have e4 : rLN1R pb sb PC C i src ib xb tl kb kl kv eb ll TR xr lr o0 o1 loc B1_3 B1_2 B1_1 B1 (fun k => decide (k < 15)) α 4999 = row (pb) 178 PC := rfl
    have e5 : rLN1R pb sb PC C i src ib xb tl kb kl kv eb ll TR xr lr o0 o1 loc B1_3 B1_2 B1_1 B1 (fun k => decide (k < 15)) α 5999 = row (sb) 196 C := rfl
    have e6 : rLN1R pb sb PC C i src ib xb tl kb kl kv eb ll TR xr lr o0 o1 loc B1_3 B1_2 B1_1 B1 (fun k => decide (k < 15)) α 6999 = row (eb) 45 #[.iface 38 (.pointer (some ⟨xb, 0, none⟩)), .int .i32 ll, .iface TR (.pointer (some ⟨xr, 0, none⟩)), .int .i32 lr, .int .u8 o0, .bool o1] := rfl
    have e7 : rLN1R pb sb PC C i src ib xb tl kb kl kv eb ll TR xr lr o0 o1 loc B1_3 B1_2 B1_1 B1 (fun k => decide (k < 15)) α 7999 = row (xb) 56 #[.iface 52 (.pointer (some ⟨ib, 0, none⟩)), .int .i32 tl, .iface 40 (.pointer (some ⟨kb, 0, none⟩)), .int .i32 kl, .int .i32 0, .int .u8 0, .bool false, .bool false, .bool false] := rfl
    have e8 : rLN1R pb sb PC C i src ib xb tl kb kl kv eb ll TR xr lr o0 o1 loc B1_3 B1_2 B1_1 B1 (fun k => decide (k < 15)) α 8999 = row (ib) 180 #[.int .u32 src, .int .u32 (i : Int), .bool false, .bool false, .bool false] := rfl
    have e9 : rLN1R pb sb PC C i src ib xb tl kb kl kv eb ll TR xr lr o0 o1 loc B1_3 B1_2 B1_1 B1 (fun k => decide (k < 15)) α 9999 = row (kb) 182 #[.float .f64 kv] := rfl
    have e10 : rLN1R pb sb PC C i src ib xb tl kb kl kv eb ll TR xr lr o0 o1 loc B1_3 B1_2 B1_1 B1 (fun k => decide (k < 15)) α 10 = row (α 10) 34 #[.nilIface, .int .i32 0] := by
      show rLN1T10 pb sb PC C i src ib xb tl kb kl kv eb ll TR xr lr o0 o1 loc B1_3 B1_2 B1_1 B1 (fun k => decide (k < 15)) α = _
      unfold rLN1T10
      rw [if_pos (by decide)]
    have e11 : rLN1R pb sb PC C i src ib xb tl kb kl kv eb ll TR xr lr o0 o1 loc B1_3 B1_2 B1_1 B1 (fun k => decide (k < 15)) α 11 = row (α 11) 32 #[.int .i32 0] := by
      show rLN1T11 pb sb PC C i src ib xb tl kb kl kv eb ll TR xr lr o0 o1 loc B1_3 B1_2 B1_1 B1 (fun k => decide (k < 15)) α = _
      unfold rLN1T11
      rw [if_pos (by decide)]
    have hO : Own w0 u [row (B1_3) 34 #[.nilIface, .int .i32 0], row (B1_2) 42 #[.pointer (some ⟨eb, 0, none⟩)], row (B1_1) 32 #[.int .i32 loc], row (B1) 25 #[.pointer (some ⟨pb, 0, none⟩)], row (pb) 178 PC, row (sb) 196 C, row (eb) 45 #[.iface 38 (.pointer (some ⟨xb, 0, none⟩)), .int .i32 ll, .iface TR (.pointer (some ⟨xr, 0, none⟩)), .int .i32 lr, .int .u8 o0, .bool o1], row (xb) 56 #[.iface 52 (.pointer (some ⟨ib, 0, none⟩)), .int .i32 tl, .iface 40 (.pointer (some ⟨kb, 0, none⟩)), .int .i32 kl, .int .i32 0, .int .u8 0, .bool false, .bool false, .bool false], row (ib) 180 #[.int .u32 src, .int .u32 (i : Int), .bool false, .bool false, .bool false], row (kb) 182 #[.float .f64 kv], row (α 10) 34 #[.nilIface, .int .i32 0], row (α 11) 32 #[.int .i32 0]] X := (hG.list [999, 1999, 2999, 3999, 4999, 5999, 6999, 7999, 8999, 9999, 10, 11] (by decide) (act_all (by decide))).conv (by
      show [rLN1R pb sb PC C i src ib xb tl kb kl kv eb ll TR xr lr o0 o1 loc B1_3 B1_2 B1_1 B1 (fun k => decide (k < 15)) α 999, rLN1R pb sb PC C i src ib xb tl kb kl kv eb ll TR xr lr o0 o1 loc B1_3 B1_2 B1_1 B1 (fun k => decide (k < 15)) α 1999, rLN1R pb sb PC C i src ib xb tl kb kl kv eb ll TR xr lr o0 o1 loc B1_3 B1_2 B1_1 B1 (fun k => decide (k < 15)) α 2999, rLN1R pb sb PC C i src ib xb tl kb kl kv eb ll TR xr lr o0 o1 loc B1_3 B1_2 B1_1 B1 (fun k => decide (k < 15)) α 3999, rLN1R pb sb PC C i src ib xb tl kb kl kv eb ll TR xr lr o0 o1 loc B1_3 B1_2 B1_1 B1 (fun k => decide (k < 15)) α 4999, rLN1R pb sb PC C i src ib xb tl kb kl kv eb ll TR xr lr o0 o1 loc B1_3 B1_2 B1_1 B1 (fun k => decide (k < 15)) α 5999, rLN1R pb sb PC C i src ib xb tl kb kl kv eb ll TR xr lr o0 o1 loc B1_3 B1_2 B1_1 B1 (fun k => decide (k < 15)) α 6999, rLN1R pb sb PC C i src ib xb tl kb kl kv eb ll TR xr lr o0 o1 loc B1_3 B1_2 B1_1 B1 (fun k => decide (k < 15)) α 7999, rLN1R pb sb PC C i src ib xb tl kb kl kv eb ll TR xr lr o0 o1 loc B1_3 B1_2 B1_1 B1 (fun k => decide (k < 15)) α 8999, rLN1R pb sb PC C i src ib xb tl kb kl kv eb ll TR xr lr o0 o1 loc B1_3 B1_2 B1_1 B1 (fun k => decide (k < 15)) α 9999, rLN1R pb sb PC C i src ib xb tl kb kl kv eb ll TR xr lr o0 o1 loc B1_3 B1_2 B1_1 B1 (fun k => decide (k < 15)) α 10, rLN1R pb sb PC C i src ib xb tl kb kl kv eb ll TR xr lr o0 o1 loc B1_3 B1_2 B1_1 B1 (fun k => decide (k < 15)) α 11] = _
      rw [e0, e1, e2, e3, e4, e5, e6, e7, e8, e9, e10, e11])
    clear hG e0 e1 e2 e3 e4 e5 e6 e7 e8 e9 e10 e11
    generalize hfr : Rega.frameAt _ _ _ _ _ = fr
    have hdf : fr = ⟨#[.pointer (some ⟨pb, 0, none⟩), .agg #[.int .i32 loc], .pointer (some ⟨eb, 0, none⟩), .pointer (some ⟨B1, 0, none⟩), .pointer (some ⟨B1_1, 0, none⟩), .pointer (some ⟨B1_2, 0, none⟩), .pointer (some ⟨B1_3, 0, none⟩), .bool false, .pointer (some ⟨α 10, 0, none⟩), .pointer (some ⟨α 11, 0, none⟩), .pointer none, undef, undef, undef, undef, undef, undef, .tuple #[.agg #[.nilIface, .int .i32 0], .agg #[.int .i32 0], .pointer none], .pointer (some ⟨pb, 0, none⟩), .pointer (some ⟨eb, 0, none⟩), .pointer (some ⟨eb, 0, none⟩), .pointer (some ⟨eb, 0, none⟩), .agg #[.iface 38 (.pointer (some ⟨xb, 0, none⟩)), .int .i32 ll], .tuple #[.agg #[.nilIface, .int .i32 0], .agg #[.int .i32 0], .pointer none], .agg #[.nilIface, .int .i32 0], .agg #[.int .i32 0], .pointer none, undef, undef, undef, undef, undef, undef, undef, undef, undef, undef, undef, undef, undef, undef, undef, undef, undef, undef, undef, undef, undef, undef, undef, undef, undef, undef, undef, undef, undef, undef, undef, undef, undef, undef, undef, undef, undef, undef, undef, undef, undef, undef, undef, undef, undef, undef, undef, undef, undef, undef, undef, undef, undef, undef, undef, undef, undef, undef, undef, undef, undef, undef, undef, undef, undef, undef, undef, undef, undef, undef, undef, undef, undef, undef, undef, undef, undef, undef, undef, undef, undef, undef, undef, undef], []⟩ := by rw [← hfr]; kernel_rfl
    clear hfr
    subst hdf
    generalize α 10 = nd3 at hO ⊢
    generalize α 11 = nd4 at hO ⊢
    clear α
    have c9_0_0 : u.cell? ⟨B1_3, 0, none⟩ = some (.nilIface) := hO.cell 0 rfl 0 rfl
    have c9_0_1 : u.cell? ⟨B1_3, 1, none⟩ = some (.int .i32 0) := hO.cell 0 rfl 1 rfl
    have lt9_0 : B1_3 < u.heap.size := hO.lt 0 rfl
    have y9_0 : ∀ o, u.frozen? ⟨B1_3, o, none⟩ = false := hO.free 0 rfl
    have c9_1_0 : u.cell? ⟨B1_2, 0, none⟩ = some (.pointer (some ⟨eb, 0, none⟩)) := hO.cell 1 rfl 0 rfl
    have lt9_1 : B1_2 < u.heap.size := hO.lt 1 rfl
    have y9_1 : ∀ o, u.frozen? ⟨B1_2, o, none⟩ = false := hO.free 1 rfl
    have c9_2_0 : u.cell? ⟨B1_1, 0, none⟩ = some (.int .i32 loc) := hO.cell 2 rfl 0 rfl
    have lt9_2 : B1_1 < u.heap.size := hO.lt 2 rfl
    have y9_2 : ∀ o, u.frozen? ⟨B1_1, o, none⟩ = false := hO.free 2 rfl
    have c9_3_0 : u.cell? ⟨B1, 0, none⟩ = some (.pointer (some ⟨pb, 0, none⟩)) := hO.cell 3 rfl 0 rfl
    have lt9_3 : B1 < u.heap.size := hO.lt 3 rfl
    have y9_3 : ∀ o, u.frozen? ⟨B1, o, none⟩ = false := hO.free 3 rfl
    have c9_4_23 : u.cell? ⟨pb, 23, none⟩ = some (.int .u64 x) := hO.cell 4 rfl 23 (hx)
    have lt9_4 : pb < u.heap.size := hO.lt 4 rfl
    have y9_4 : ∀ o, u.frozen? ⟨pb, o, none⟩ = false := hO.free 4 rfl
    have c9_6_0 : u.cell? ⟨eb, 0, none⟩ = some (.iface 38 (.pointer (some ⟨xb, 0, none⟩))) := hO.cell 6 rfl 0 rfl
    have c9_6_1 : u.cell? ⟨eb, 1, none⟩ = some (.int .i32 ll) := hO.cell 6 rfl 1 rfl
    have c9_6_2 : u.cell? ⟨eb, 2, none⟩ = some (.iface TR (.pointer (some ⟨xr, 0, none⟩))) := hO.cell 6 rfl 2 rfl
    have c9_6_3 : u.cell? ⟨eb, 3, none⟩ = some (.int .i32 lr) := hO.cell 6 rfl 3 rfl
    have c9_6_4 : u.cell? ⟨eb, 4, none⟩ = some (.int .u8 o0) := hO.cell 6 rfl 4 rfl
    have c9_6_5 : u.cell? ⟨eb, 5, none⟩ = some (.bool o1) := hO.cell 6 rfl 5 rfl
    have lt9_6 : eb < u.heap.size := hO.lt 6 rfl
    have y9_6 : ∀ o, u.frozen? ⟨eb, o, none⟩ = false := hO.free 6 rfl
    have c9_7_0 : u.cell? ⟨xb, 0, none⟩ = some (.iface 52 (.pointer (some ⟨ib, 0, none⟩))) := hO.cell 7 rfl 0 rfl
    have c9_7_1 : u.cell? ⟨xb, 1, none⟩ = some (.int .i32 tl) := hO.cell 7 rfl 1 rfl
    have c9_7_2 : u.cell? ⟨xb, 2, none⟩ = some (.iface 40 (.pointer (some ⟨kb, 0, none⟩))) := hO.cell 7 rfl 2 rfl
    have c9_7_3 : u.cell? ⟨xb, 3, none⟩ = some (.int .i32 kl) := hO.cell 7 rfl 3 rfl
    have c9_7_4 : u.cell? ⟨xb, 4, none⟩ = some (.int .i32 0) := hO.cell 7 rfl 4 rfl
    have c9_7_5 : u.cell? ⟨xb, 5, none⟩ = some (.int .u8 0) := hO.cell 7 rfl 5 rfl
    have c9_7_6 : u.cell? ⟨xb, 6, none⟩ = some (.bool false) := hO.cell 7 rfl 6 rfl
    have c9_7_7 : u.cell? ⟨xb, 7, none⟩ = some (.bool false) := hO.cell 7 rfl 7 rfl
    have c9_7_8 : u.cell? ⟨xb, 8, none⟩ = some (.bool false) := hO.cell 7 rfl 8 rfl
    have lt9_7 : xb < u.heap.size := hO.lt 7 rfl
    have y9_7 : ∀ o, u.frozen? ⟨xb, o, none⟩ = false := hO.free 7 rfl
    have c9_8_0 : u.cell? ⟨ib, 0, none⟩ = some (.int .u32 src) := hO.cell 8 rfl 0 rfl
    have c9_8_1 : u.cell? ⟨ib, 1, none⟩ = some (.int .u32 (i : Int)) := hO.cell 8 rfl 1 rfl
    have c9_8_2 : u.cell? ⟨ib, 2, none⟩ = some (.bool false) := hO.cell 8 rfl 2 rfl
    have c9_8_3 : u.cell? ⟨ib, 3, none⟩ = some (.bool false) := hO.cell 8 rfl 3 rfl
    have c9_8_4 : u.cell? ⟨ib, 4, none⟩ = some (.bool false) := hO.cell 8 rfl 4 rfl
    have lt9_8 : ib < u.heap.size := hO.lt 8 rfl
    have y9_8 : ∀ o, u.frozen? ⟨ib, o, none⟩ = false := hO.free 8 rfl
    have c9_9_0 : u.cell? ⟨kb, 0, none⟩ = some (.float .f64 kv) := hO.cell 9 rfl 0 rfl
    have lt9_9 : kb < u.heap.size := hO.lt 9 rfl
    have y9_9 : ∀ o, u.frozen? ⟨kb, o, none⟩ = false := hO.free 9 rfl
    have c9_10_0 : u.cell? ⟨nd3, 0, none⟩ = some (.nilIface) := hO.cell 10 rfl 0 rfl
    have c9_10_1 : u.cell? ⟨nd3, 1, none⟩ = some (.int .i32 0) := hO.cell 10 rfl 1 rfl
    have lt9_10 : nd3 < u.heap.size := hO.lt 10 rfl
    have y9_10 : ∀ o, u.frozen? ⟨nd3, o, none⟩ = false := hO.free 10 rfl
    have c9_11_0 : u.cell? ⟨nd4, 0, none⟩ = some (.int .i32 0) := hO.cell 11 rfl 0 rfl
    have lt9_11 : nd4 < u.heap.size := hO.lt 11 rfl
    have y9_11 : ∀ o, u.frozen? ⟨nd4, o, none⟩ = false := hO.free 11 rfl
    have HO := Lib.hid hO
    clear hO
    go_wp2_with (go_at_call 21; go_in)
    have hO := HO.out
    clear HO c9_0_0 c9_0_1 lt9_0 y9_0 c9_1_0 lt9_1 y9_1 c9_2_0 lt9_2 y9_2 c9_3_0 lt9_3 y9_3 c9_4_23 lt9_4 y9_4 c9_6_0 c9_6_1 c9_6_2 c9_6_3 c9_6_4 c9_6_5 lt9_6 y9_6 c9_7_0 c9_7_1 c9_7_2 c9_7_3 c9_7_4 c9_7_5 c9_7_6 c9_7_7 c9_7_8 lt9_7 y9_7 c9_8_0 c9_8_1 c9_8_2 c9_8_3 c9_8_4 lt9_8 y9_8 c9_9_0 lt9_9 y9_9 c9_10_0 c9_10_1 lt9_10 y9_10 c9_11_0 lt9_11 y9_11
    refine wp_region_own (e := rLN2E pb sb PC C i c cz src ib xb tl kb kl kv eb ll TR xr lr o0 o1 loc B1_3 B1_2 B1_1 B1 nd3 nd4) (anc := rLN2Anc) (G := (fun L9 α u9 => OwnF w0 u9 (act rLN2Cnt 12 L9) (rLN2R pb sb PC C i c cz src ib xb tl kb kl kv eb ll TR xr lr o0 o1 loc B1_3 B1_2 B1_1 B1 nd3 nd4 L9 α) X)) (by kernel_rfl) (by kernel_rfl) (by kernel_rfl) (by kernel_rfl) (rLN2_he pb sb PC C i c cz src ib xb tl kb kl kv eb ll TR xr lr o0 o1 loc B1_3 B1_2 B1_1 B1 nd3 nd4) ?_ (RunsAll.all ?_) ?_
    · have hp : ∀ i, act rLN2Cnt 12 (fun _ => false) i → i ∈ [999, 1999, 2999, 3999, 4999, 5999, 6999, 7999, 8999, 9999, 10999, 11999] := by
        intro i hi
        have h9 : i % 1000 = 999 := by
          by_cases h : i % 1000 = 999
          · exact h
          · exact absurd (act_lt hi h) (by simp)
        unfold act at hi
        rw [if_pos h9] at hi
        simp only [List.mem_cons, List.not_mem_nil, or_false]
        omega
      refine hO.drew.family (fun i hi => ?_) (fun i j hi hj hij => ?_)
      · have := hp i hi
        simp only [List.mem_cons, List.not_mem_nil, or_false] at this
        rcases this with rfl | rfl | rfl | rfl | rfl | rfl | rfl | rfl | rfl | rfl | rfl | rfl <;> rfl
      · have h1 := hp i hi
        have h2 := hp j hj
        simp only [List.mem_cons, List.not_mem_nil, or_false] at h1 h2
        omega
    · refine ⟨?_, ?_, ?_, ?_, ?_, ?_, ?_, ?_, ?_, trivial⟩
      · intro L9 α a9 u9 K9 hL hcl hA hG hS h0 hK
        replace hL : L9 0 = false := hL
        have q3 : a9.tmps[3]? = some (.pointer (some ⟨B1, 0, none⟩)) := (h0 3 (by kernel_rfl)).trans rfl
        have s3 := Rega.eval_of q3
        have e0 : rLN2R pb sb PC C i c cz src ib xb tl kb kl kv eb ll TR xr lr o0 o1 loc B1_3 B1_2 B1_1 B1 nd3 nd4 L9 α 3999 = row (B1) 25 #[.pointer (some ⟨pb, 0, none⟩)] := rfl
        have hr := hG.rowAt 3999 (act_base 3999 rfl) e0
        have c0 : u9.cell? ⟨B1, 0, none⟩ = some (.pointer (some ⟨pb, 0, none⟩)) := hr.cell rfl
        clear hr e0
        go_simp
        exact hK _ α _ (fun _ _ => rfl) rfl (step_same (rLN2_st pb sb PC C i c cz src ib xb tl kb kl kv eb ll TR xr lr o0 o1 loc B1_3 B1_2 B1_1 B1 nd3 nd4) hL hcl rfl rfl hG)
      · intro L9 α a9 u9 K9 hL hcl hA hG hS h0 hK
        replace hL : L9 1 = false := hL
        have q5 : a9.tmps[5]? = some (.pointer (some ⟨B1_2, 0, none⟩)) := (h0 5 (by kernel_rfl)).trans rfl
        have s5 := Rega.eval_of q5
        have e0 : rLN2R pb sb PC C i c cz src ib xb tl kb kl kv eb ll TR xr lr o0 o1 loc B1_3 B1_2 B1_1 B1 nd3 nd4 L9 α 1999 = row (B1_2) 42 #[.pointer (some ⟨eb, 0, none⟩)] := rfl
        have hr := hG.rowAt 1999 (act_base 1999 rfl) e0
        have c0 : u9.cell? ⟨B1_2, 0, none⟩ = some (.pointer (some ⟨eb, 0, none⟩)) := hr.cell rfl
        clear hr e0
        go_simp
        exact hK _ α _ (fun _ _ => rfl) rfl (step_same (rLN2_st pb sb PC C i c cz src ib xb tl kb kl kv eb ll TR xr lr o0 o1 loc B1_3 B1_2 B1_1 B1 nd3 nd4) hL hcl rfl rfl hG)
      · intro L9 α a9 u9 K9 hL hcl hA hG hS h0 hK
        replace hL : L9 2 = false := hL
        have q104 : a9.tmps[104]? = some (.pointer (some ⟨eb, 0, none⟩)) := hS 1 104 (by decide) rfl (by show 104 < 111; decide)
        have s104 := Rega.eval_of q104
        go_simp
        exact hK _ α _ (fun _ _ => rfl) rfl (step_same (rLN2_st pb sb PC C i c cz src ib xb tl kb kl kv eb ll TR xr lr o0 o1 loc B1_3 B1_2 B1_1 B1 nd3 nd4) hL hcl rfl rfl hG)
      · intro L9 α a9 u9 K9 hL hcl hA hG hS h0 hK
        replace hL : L9 3 = false := hL
        have q105 : a9.tmps[105]? = some (.pointer (some ⟨eb, 0, none⟩)) := hS 2 105 (by decide) rfl (by show 105 < 111; decide)
        have s105 := Rega.eval_of q105
        go_simp
        exact hK _ α _ (fun _ _ => rfl) rfl (step_same (rLN2_st pb sb PC C i c cz src ib xb tl kb kl kv eb ll TR xr lr o0 o1 loc B1_3 B1_2 B1_1 B1 nd3 nd4) hL hcl rfl rfl hG)
      · intro L9 α a9 u9 K9 hL hcl hA hG hS h0 hK
        replace hL : L9 4 = false := hL
        have q106 : a9.tmps[106]? = some (.pointer (some ⟨eb, 0, none⟩)) := hS 3 106 (by decide) rfl (by show 106 < 111; decide)
        have s106 := Rega.eval_of q106
        have e0 : rLN2R pb sb PC C i c cz src ib xb tl kb kl kv eb ll TR xr lr o0 o1 loc B1_3 B1_2 B1_1 B1 nd3 nd4 L9 α 6999 = row (eb) 45 #[.iface 38 (.pointer (some ⟨xb, 0, none⟩)), .int .i32 ll, .iface TR (.pointer (some ⟨xr, 0, none⟩)), .int .i32 lr, .int .u8 o0, .bool o1] := rfl
        have hr := hG.rowAt 6999 (act_base 6999 rfl) e0
        have c0 : u9.cell? ⟨eb, 0, none⟩ = some (.iface 38 (.pointer (some ⟨xb, 0, none⟩))) := hr.cell rfl
        have c1 : u9.cell? ⟨eb, 1, none⟩ = some (.int .i32 ll) := hr.cell rfl
        clear hr e0
        go_simp
        exact hK _ α _ (fun _ _ => rfl) rfl (step_same (rLN2_st pb sb PC C i c cz src ib xb tl kb kl kv eb ll TR xr lr o0 o1 loc B1_3 B1_2 B1_1 B1 nd3 nd4) hL hcl rfl rfl hG)
      · intro L9 α a9 u9 K9 hL hcl hA hG hS h0 hK
        replace hL : L9 5 = false := hL
        have q3 : a9.tmps[3]? = some (.pointer (some ⟨B1, 0, none⟩)) := (h0 3 (by kernel_rfl)).trans rfl
        have s3 := Rega.eval_of q3
        have q4 : a9.tmps[4]? = some (.pointer (some ⟨B1_1, 0, none⟩)) := (h0 4 (by kernel_rfl)).trans rfl
        have s4 := Rega.eval_of q4
        have q5 : a9.tmps[5]? = some (.pointer (some ⟨B1_2, 0, none⟩)) := (h0 5 (by kernel_rfl)).trans rfl
        have s5 := Rega.eval_of q5
        go_simp
        exact hK _ α _ (fun _ _ => rfl) rfl (step_same (rLN2_st pb sb PC C i c cz src ib xb tl kb kl kv eb ll TR xr lr o0 o1 loc B1_3 B1_2 B1_1 B1 nd3 nd4) hL hcl rfl rfl hG)
      · intro L9 α a9 u9 K9 hL hcl hA hG hS h0 hK
        replace hL : L9 6 = false := hL
        have q103 : a9.tmps[103]? = some (.pointer (some ⟨pb, 0, none⟩)) := hS 0 103 (by decide) rfl (by show 103 < 111; decide)
        have s103 := Rega.eval_of q103
        have q107 : a9.tmps[107]? = some (.agg #[.iface 38 (.pointer (some ⟨xb, 0, none⟩)), .int .i32 ll]) := hS 4 107 (by decide) rfl (by show 107 < 111; decide)
        have s107 := Rega.eval_of q107
        have q108 : a9.tmps[108]? = some (.func (Fn.func 27) #[] #[.pointer (some ⟨B1, 0, none⟩), .pointer (some ⟨B1_1, 0, none⟩), .pointer (some ⟨B1_2, 0, none⟩)]) := hS 5 108 (by decide) rfl (by show 108 < 111; decide)
        have s108 := Rega.eval_of q108
        go_simp
        have e0 : rLN2R pb sb PC C i c cz src ib xb tl kb kl kv eb ll TR xr lr o0 o1 loc B1_3 B1_2 B1_1 B1 nd3 nd4 L9 α 4999 = row (pb) 178 PC := rfl
        have e1 : rLN2R pb sb PC C i c cz src ib xb tl kb kl kv eb ll TR xr lr o0 o1 loc B1_3 B1_2 B1_1 B1 nd3 nd4 L9 α 5999 = row (sb) 196 C := by
          show rLN2T5999 pb sb PC C i c cz src ib xb tl kb kl kv eb ll TR xr lr o0 o1 loc B1_3 B1_2 B1_1 B1 nd3 nd4 L9 α = _
          unfold rLN2T5999
          rw [if_neg (by rw [hL]; decide)]
        have e2 : rLN2R pb sb PC C i c cz src ib xb tl kb kl kv eb ll TR xr lr o0 o1 loc B1_3 B1_2 B1_1 B1 nd3 nd4 L9 α 3999 = row (B1) 25 #[.pointer (some ⟨pb, 0, none⟩)] := rfl
        have e3 : rLN2R pb sb PC C i c cz src ib xb tl kb kl kv eb ll TR xr lr o0 o1 loc B1_3 B1_2 B1_1 B1 nd3 nd4 L9 α 2999 = row (B1_1) 32 #[.int .i32 loc] := rfl
        have e4 : rLN2R pb sb PC C i c cz src ib xb tl kb kl kv eb ll TR xr lr o0 o1 loc B1_3 B1_2 B1_1 B1 nd3 nd4 L9 α 1999 = row (B1_2) 42 #[.pointer (some ⟨eb, 0, none⟩)] := rfl
        have e5 : rLN2R pb sb PC C i c cz src ib xb tl kb kl kv eb ll TR xr lr o0 o1 loc B1_3 B1_2 B1_1 B1 nd3 nd4 L9 α 6999 = row (eb) 45 #[.iface 38 (.pointer (some ⟨xb, 0, none⟩)), .int .i32 ll, .iface TR (.pointer (some ⟨xr, 0, none⟩)), .int .i32 lr, .int .u8 o0, .bool o1] := rfl
        have e6 : rLN2R pb sb PC C i c cz src ib xb tl kb kl kv eb ll TR xr lr o0 o1 loc B1_3 B1_2 B1_1 B1 nd3 nd4 L9 α 7999 = row (xb) 56 #[.iface 52 (.pointer (some ⟨ib, 0, none⟩)), .int .i32 tl, .iface 40 (.pointer (some ⟨kb, 0, none⟩)), .int .i32 kl, .int .i32 0, .int .u8 0, .bool false, .bool false, .bool false] := rfl
        have e7 : rLN2R pb sb PC C i c cz src ib xb tl kb kl kv eb ll TR xr lr o0 o1 loc B1_3 B1_2 B1_1 B1 nd3 nd4 L9 α 8999 = row (ib) 180 #[.int .u32 src, .int .u32 (i : Int), .bool false, .bool false, .bool false] := rfl
        have e8 : rLN2R pb sb PC C i c cz src ib xb tl kb kl kv eb ll TR xr lr o0 o1 loc B1_3 B1_2 B1_1 B1 nd3 nd4 L9 α 9999 = row (kb) 182 #[.float .f64 kv] := rfl
        have hM : ∀ i, i ∈ [4999, 5999, 3999, 2999, 1999, 6999, 7999, 8999, 9999] → act rLN2Cnt 12 L9 i := by
          intro i hi
          simp only [List.mem_cons, List.not_mem_nil, or_false] at hi
          rcases hi with rfl | rfl | rfl | rfl | rfl | rfl | rfl | rfl | rfl
          · exact act_base 4999 rfl
          · exact act_base 5999 rfl
          · exact act_base 3999 rfl
          · exact act_base 2999 rfl
          · exact act_base 1999 rfl
          · exact act_base 6999 rfl
          · exact act_base 7999 rfl
          · exact act_base 8999 rfl
          · exact act_base 9999 rfl
        have hP : Own w0 u9 [row (pb) 178 PC, row (sb) 196 C, row (B1) 25 #[.pointer (some ⟨pb, 0, none⟩)], row (B1_1) 32 #[.int .i32 loc], row (B1_2) 42 #[.pointer (some ⟨eb, 0, none⟩)], row (eb) 45 #[.iface 38 (.pointer (some ⟨xb, 0, none⟩)), .int .i32 ll, .iface TR (.pointer (some ⟨xr, 0, none⟩)), .int .i32 lr, .int .u8 o0, .bool o1], row (xb) 56 #[.iface 52 (.pointer (some ⟨ib, 0, none⟩)), .int .i32 tl, .iface 40 (.pointer (some ⟨kb, 0, none⟩)), .int .i32 kl, .int .i32 0, .int .u8 0, .bool false, .bool false, .bool false], row (ib) 180 #[.int .u32 src, .int .u32 (i : Int), .bool false, .bool false, .bool false], row (kb) 182 #[.float .f64 kv]] _ := (hG.pick [4999, 5999, 3999, 2999, 1999, 6999, 7999, 8999, 9999] (by decide) hM).conv (by
          show [rLN2R pb sb PC C i c cz src ib xb tl kb kl kv eb ll TR xr lr o0 o1 loc B1_3 B1_2 B1_1 B1 nd3 nd4 L9 α 4999, rLN2R pb sb PC C i c cz src ib xb tl kb kl kv eb ll TR xr lr o0 o1 loc B1_3 B1_2 B1_1 B1 nd3 nd4 L9 α 5999, rLN2R pb sb PC C i c cz src ib xb tl kb kl kv eb ll TR xr lr o0 o1 loc B1_3 B1_2 B1_1 B1 nd3 nd4 L9 α 3999, rLN2R pb sb PC C i c cz src ib xb tl kb kl kv eb ll TR xr lr o0 o1 loc B1_3 B1_2 B1_1 B1 nd3 nd4 L9 α 2999, rLN2R pb sb PC C i c cz src ib xb tl kb kl kv eb ll TR xr lr o0 o1 loc B1_3 B1_2 B1_1 B1 nd3 nd4 L9 α 1999, rLN2R pb sb PC C i c cz src ib xb tl kb kl kv eb ll TR xr lr o0 o1 loc B1_3 B1_2 B1_1 B1 nd3 nd4 L9 α 6999, rLN2R pb sb PC C i c cz src ib xb tl kb kl kv eb ll TR xr lr o0 o1 loc B1_3 B1_2 B1_1 B1 nd3 nd4 L9 α 7999, rLN2R pb sb PC C i c cz src ib xb tl kb kl kv eb ll TR xr lr o0 o1 loc B1_3 B1_2 B1_1 B1 nd3 nd4 L9 α 8999, rLN2R pb sb PC C i c cz src ib xb tl kb kl kv eb ll TR xr lr o0 o1 loc B1_3 B1_2 B1_1 B1 nd3 nd4 L9 α 9999] = _
          rw [e0, e1, e2, e3, e4, e5, e6, e7, e8])
        clear e0 e1 e2 e3 e4 e5 e6 e7 e8 hM
        refine Calls.mono (lowIx pb sb n cap PC C x i c cz src ib xb tl kb kl kv B1 B1_1 B1_2 eb ll TR xr lr o0 o1 loc _ _ _ hP hR hn hi hc hcm hcz hczm hx hx1) ?_
        rintro e9 u1 ⟨b0, b1, b2, b3, b4, b5, b6, b7, rfl, hQ⟩
        obtain ⟨α', hα'⟩ : ∃ α' : Rega.Atoms, α' = (fun j => if j = 6 then b0 else if j = 1006 then b1 else if j = 2006 then b2 else if j = 3006 then b3 else if j = 4006 then b4 else if j = 5006 then b5 else if j = 6006 then b6 else if j = 7006 then b7 else α j) := ⟨_, rfl⟩
        have f0 : rLN2R pb sb PC C i c cz src ib xb tl kb kl kv eb ll TR xr lr o0 o1 loc B1_3 B1_2 B1_1 B1 nd3 nd4 (Rega.ran L9 6) α' 4999 = row (pb) 178 PC := rfl
        have f1 : rLN2R pb sb PC C i c cz src ib xb tl kb kl kv eb ll TR xr lr o0 o1 loc B1_3 B1_2 B1_1 B1 nd3 nd4 (Rega.ran L9 6) α' 5999 = row (sb) 196 (bumped (bumped C i c) i cz) := by
          show rLN2T5999 pb sb PC C i c cz src ib xb tl kb kl kv eb ll TR xr lr o0 o1 loc B1_3 B1_2 B1_1 B1 nd3 nd4 (Rega.ran L9 6) α' = _
          unfold rLN2T5999
          rw [if_pos (show Rega.ran L9 6 6 = true from rfl)]
        have f2 : rLN2R pb sb PC C i c cz src ib xb tl kb kl kv eb ll TR xr lr o0 o1 loc B1_3 B1_2 B1_1 B1 nd3 nd4 (Rega.ran L9 6) α' 3999 = row (B1) 25 #[.pointer (some ⟨pb, 0, none⟩)] := rfl
        have f3 : rLN2R pb sb PC C i c cz src ib xb tl kb kl kv eb ll TR xr lr o0 o1 loc B1_3 B1_2 B1_1 B1 nd3 nd4 (Rega.ran L9 6) α' 2999 = row (B1_1) 32 #[.int .i32 loc] := rfl
        have f4 : rLN2R pb sb PC C i c cz src ib xb tl kb kl kv eb ll TR xr lr o0 o1 loc B1_3 B1_2 B1_1 B1 nd3 nd4 (Rega.ran L9 6) α' 1999 = row (B1_2) 42 #[.pointer (some ⟨eb, 0, none⟩)] := rfl
        have f5 : rLN2R pb sb PC C i c cz src ib xb tl kb kl kv eb ll TR xr lr o0 o1 loc B1_3 B1_2 B1_1 B1 nd3 nd4 (Rega.ran L9 6) α' 6999 = row (eb) 45 #[.iface 38 (.pointer (some ⟨xb, 0, none⟩)), .int .i32 ll, .iface TR (.pointer (some ⟨xr, 0, none⟩)), .int .i32 lr, .int .u8 o0, .bool o1] := rfl
        have f6 : rLN2R pb sb PC C i c cz src ib xb tl kb kl kv eb ll TR xr lr o0 o1 loc B1_3 B1_2 B1_1 B1 nd3 nd4 (Rega.ran L9 6) α' 7999 = row (xb) 56 #[.iface 52 (.pointer (some ⟨ib, 0, none⟩)), .int .i32 tl, .iface 40 (.pointer (some ⟨kb, 0, none⟩)), .int .i32 kl, .int .i32 0, .int .u8 0, .bool false, .bool false, .bool false] := rfl
        have f7 : rLN2R pb sb PC C i c cz src ib xb tl kb kl kv eb ll TR xr lr o0 o1 loc B1_3 B1_2 B1_1 B1 nd3 nd4 (Rega.ran L9 6) α' 8999 = row (ib) 180 #[.int .u32 src, .int .u32 (i : Int), .bool false, .bool false, .bool false] := rfl
        have f8 : rLN2R pb sb PC C i c cz src ib xb tl kb kl kv eb ll TR xr lr o0 o1 loc B1_3 B1_2 B1_1 B1 nd3 nd4 (Rega.ran L9 6) α' 9999 = row (kb) 182 #[.float .f64 kv] := rfl
        have f9 : rLN2R pb sb PC C i c cz src ib xb tl kb kl kv eb ll TR xr lr o0 o1 loc B1_3 B1_2 B1_1 B1 nd3 nd4 (Rega.ran L9 6) α' 6 = row (α' 6) 45 #[.iface 38 (.pointer (some ⟨α' 2006, 0, none⟩)), .int .i32 ll, .iface 42 (.pointer (some ⟨α' 1006, 0, none⟩)), .int .i32 ll, .int .u8 30, .bool false] := rfl
        have f10 : rLN2R pb sb PC C i c cz src ib xb tl kb kl kv eb ll TR xr lr o0 o1 loc B1_3 B1_2 B1_1 B1 nd3 nd4 (Rega.ran L9 6) α' 1006 = row (α' 1006) 45 #[.iface 38 (.pointer (some ⟨α' 3006, 0, none⟩)), .int .i32 ll, .iface TR (.pointer (some ⟨xr, 0, none⟩)), .int .i32 lr, .int .u8 37, .bool false] := rfl
        have f11 : rLN2R pb sb PC C i c cz src ib xb tl kb kl kv eb ll TR xr lr o0 o1 loc B1_3 B1_2 B1_1 B1 nd3 nd4 (Rega.ran L9 6) α' 2006 = row (α' 2006) 56 #[.iface 52 (.pointer (some ⟨α' 4006, 0, none⟩)), .int .i32 ll, .iface 40 (.pointer (some ⟨α' 5006, 0, none⟩)), .int .i32 ll, .int .i32 0, .int .u8 0, .bool false, .bool false, .bool false] := rfl
        have f12 : rLN2R pb sb PC C i c cz src ib xb tl kb kl kv eb ll TR xr lr o0 o1 loc B1_3 B1_2 B1_1 B1 nd3 nd4 (Rega.ran L9 6) α' 3006 = row (α' 3006) 56 #[.iface 52 (.pointer (some ⟨α' 6006, 0, none⟩)), .int .i32 ll, .iface 40 (.pointer (some ⟨α' 7006, 0, none⟩)), .int .i32 ll, .int .i32 0, .int .u8 0, .bool false, .bool false, .bool false] := rfl
        have f13 : rLN2R pb sb PC C i c cz src ib xb tl kb kl kv eb ll TR xr lr o0 o1 loc B1_3 B1_2 B1_1 B1 nd3 nd4 (Rega.ran L9 6) α' 4006 = row (α' 4006) 180 #[.int .u32 src, .int .u32 (i : Int), .bool false, .bool false, .bool false] := rfl
        have f14 : rLN2R pb sb PC C i c cz src ib xb tl kb kl kv eb ll TR xr lr o0 o1 loc B1_3 B1_2 B1_1 B1 nd3 nd4 (Rega.ran L9 6) α' 5006 = row (α' 5006) 182 #[.float .f64 kv] := rfl
        have f15 : rLN2R pb sb PC C i c cz src ib xb tl kb kl kv eb ll TR xr lr o0 o1 loc B1_3 B1_2 B1_1 B1 nd3 nd4 (Rega.ran L9 6) α' 6006 = row (α' 6006) 180 #[.int .u32 src, .int .u32 (i : Int), .bool false, .bool false, .bool false] := rfl
        have f16 : rLN2R pb sb PC C i c cz src ib xb tl kb kl kv eb ll TR xr lr o0 o1 loc B1_3 B1_2 B1_1 B1 nd3 nd4 (Rega.ran L9 6) α' 7006 = row (α' 7006) 182 #[.float .f64 kv] := rfl
        have hα : ∀ j, j % 1000 ≠ 6 → α' j = α j := fun j hj => by rw [hα']; simp only []; rw [if_neg (by omega), if_neg (by omega), if_neg (by omega), if_neg (by omega), if_neg (by omega), if_neg (by omega), if_neg (by omega), if_neg (by omega)]
        have hb0 : α' 6 = b0 := by rw [hα']; rfl
        have hb1 : α' 1006 = b1 := by rw [hα']; rfl
        have hb2 : α' 2006 = b2 := by rw [hα']; rfl
        have hb3 : α' 3006 = b3 := by rw [hα']; rfl
        have hb4 : α' 4006 = b4 := by rw [hα']; rfl
        have hb5 : α' 5006 = b5 := by rw [hα']; rfl
        have hb6 : α' 6006 = b6 := by rw [hα']; rfl
        have hb7 : α' 7006 = b7 := by rw [hα']; rfl
        skip
        refine hK _ α' _ hα ?_ (step_call (rLN2_st pb sb PC C i c cz src ib xb tl kb kl kv eb ll TR xr lr o0 o1 loc B1_3 B1_2 B1_1 B1 nd3 nd4) hL hcl hα [4999, 5999, 3999, 2999, 1999, 6999, 7999, 8999, 9999] [4999, 5999, 3999, 2999, 1999, 6999, 7999, 8999, 9999, 6, 1006, 2006, 3006, 4006, 5006, 6006, 7006] (by decide) (by decide) (by decide) (M := _) ?_ hG hQ)
        · show _ = (.agg #[.iface 42 (.pointer (some ⟨α' 6, 0, none⟩)), .int .i32 loc] : Value)
          simp only [hb0]
        · show [rLN2R pb sb PC C i c cz src ib xb tl kb kl kv eb ll TR xr lr o0 o1 loc B1_3 B1_2 B1_1 B1 nd3 nd4 (Rega.ran L9 6) α' 4999, rLN2R pb sb PC C i c cz src ib xb tl kb kl kv eb ll TR xr lr o0 o1 loc B1_3 B1_2 B1_1 B1 nd3 nd4 (Rega.ran L9 6) α' 5999, rLN2R pb sb PC C i c cz src ib xb tl kb kl kv eb ll TR xr lr o0 o1 loc B1_3 B1_2 B1_1 B1 nd3 nd4 (Rega.ran L9 6) α' 3999, rLN2R pb sb PC C i c cz src ib xb tl kb kl kv eb ll TR xr lr o0 o1 loc B1_3 B1_2 B1_1 B1 nd3 nd4 (Rega.ran L9 6) α' 2999, rLN2R pb sb PC C i c cz src ib xb tl kb kl kv eb ll TR xr lr o0 o1 loc B1_3 B1_2 B1_1 B1 nd3 nd4 (Rega.ran L9 6) α' 1999, rLN2R pb sb PC C i c cz src ib xb tl kb kl kv eb ll TR xr lr o0 o1 loc B1_3 B1_2 B1_1 B1 nd3 nd4 (Rega.ran L9 6) α' 6999, rLN2R pb sb PC C i c cz src ib xb tl kb kl kv eb ll TR xr lr o0 o1 loc B1_3 B1_2 B1_1 B1 nd3 nd4 (Rega.ran L9 6) α' 7999, rLN2R pb sb PC C i c cz src ib xb tl kb kl kv eb ll TR xr lr o0 o1 loc B1_3 B1_2 B1_1 B1 nd3 nd4 (Rega.ran L9 6) α' 8999, rLN2R pb sb PC C i c cz src ib xb tl kb kl kv eb ll TR xr lr o0 o1 loc B1_3 B1_2 B1_1 B1 nd3 nd4 (Rega.ran L9 6) α' 9999, rLN2R pb sb PC C i c cz src ib xb tl kb kl kv eb ll TR xr lr o0 o1 loc B1_3 B1_2 B1_1 B1 nd3 nd4 (Rega.ran L9 6) α' 6, rLN2R pb sb PC C i c cz src ib xb tl kb kl kv eb ll TR xr lr o0 o1 loc B1_3 B1_2 B1_1 B1 nd3 nd4 (Rega.ran L9 6) α' 1006, rLN2R pb sb PC C i c cz src ib xb tl kb kl kv eb ll TR xr lr o0 o1 loc B1_3 B1_2 B1_1 B1 nd3 nd4 (Rega.ran L9 6) α' 2006, rLN2R pb sb PC C i c cz src ib xb tl kb kl kv eb ll TR xr lr o0 o1 loc B1_3 B1_2 B1_1 B1 nd3 nd4 (Rega.ran L9 6) α' 3006, rLN2R pb sb PC C i c cz src ib xb tl kb kl kv eb ll TR xr lr o0 o1 loc B1_3 B1_2 B1_1 B1 nd3 nd4 (Rega.ran L9 6) α' 4006, rLN2R pb sb PC C i c cz src ib xb tl kb kl kv eb ll TR xr lr o0 o1 loc B1_3 B1_2 B1_1 B1 nd3 nd4 (Rega.ran L9 6) α' 5006, rLN2R pb sb PC C i c cz src ib xb tl kb kl kv eb ll TR xr lr o0 o1 loc B1_3 B1_2 B1_1 B1 nd3 nd4 (Rega.ran L9 6) α' 6006, rLN2R pb sb PC C i c cz src ib xb tl kb kl kv eb ll TR xr lr o0 o1 loc B1_3 B1_2 B1_1 B1 nd3 nd4 (Rega.ran L9 6) α' 7006] = _
          rw [f0, f1, f2, f3, f4, f5, f6, f7, f8, f9, f10, f11, f12, f13, f14, f15, f16]
          simp only [hb0, hb1, hb2, hb3, hb4, hb5, hb6, hb7]
      · intro L9 α a9 u9 K9 hL hcl hA hG hS h0 hK
        replace hL : L9 7 = false := hL
        have q6 : a9.tmps[6]? = some (.pointer (some ⟨B1_3, 0, none⟩)) := (h0 6 (by kernel_rfl)).trans rfl
        have s6 := Rega.eval_of q6
        have q109 : a9.tmps[109]? = some (.agg #[.iface 42 (.pointer (some ⟨α 6, 0, none⟩)), .int .i32 loc]) := hS 6 109 (by decide) rfl (by show 109 < 111; decide)
        have s109 := Rega.eval_of q109
        have e0 : rLN2R pb sb PC C i c cz src ib xb tl kb kl kv eb ll TR xr lr o0 o1 loc B1_3 B1_2 B1_1 B1 nd3 nd4 L9 α 999 = row (B1_3) 34 #[.nilIface, .int .i32 0] := by
          show rLN2T999 pb sb PC C i c cz src ib xb tl kb kl kv eb ll TR xr lr o0 o1 loc B1_3 B1_2 B1_1 B1 nd3 nd4 L9 α = _
          unfold rLN2T999
          rw [if_neg (by rw [hL]; decide)]
        have hr := hG.rowAt 999 (act_base 999 rfl) e0
        have c0 : u9.cell? ⟨B1_3, 0, none⟩ = some (.nilIface) := hr.cell rfl
        have y0 : u9.frozen? ⟨B1_3, 0, none⟩ = false := hr.free 0
        have c1 : u9.cell? ⟨B1_3, 1, none⟩ = some (.int .i32 0) := hr.cell rfl
        have y1 : u9.frozen? ⟨B1_3, 1, none⟩ = false := hr.free 1
        clear hr
        have E0 := Lib.hid e0
        clear e0
        go_simp
        have e1 : rLN2R pb sb PC C i c cz src ib xb tl kb kl kv eb ll TR xr lr o0 o1 loc B1_3 B1_2 B1_1 B1 nd3 nd4 (Rega.ran L9 7) α 999 = row (B1_3) 34 #[.iface 42 (.pointer (some ⟨α 6, 0, none⟩)), .int .i32 loc] := by
          show rLN2T999 pb sb PC C i c cz src ib xb tl kb kl kv eb ll TR xr lr o0 o1 loc B1_3 B1_2 B1_1 B1 nd3 nd4 (Rega.ran L9 7) α = _
          unfold rLN2T999
          rw [if_pos (show Rega.ran L9 7 7 = true from rfl)]
        exact hK _ α _ (fun _ _ => rfl) rfl (step_sets (rLN2_st pb sb PC C i c cz src ib xb tl kb kl kv eb ll TR xr lr o0 o1 loc B1_3 B1_2 B1_1 B1 nd3 nd4) hL hcl rfl 999 rfl (act_base 999 rfl) E0.out 0 [.iface 42 (.pointer (some ⟨α 6, 0, none⟩)), .int .i32 loc] (e1.trans rfl) hG)
      · intro L9 α a9 u9 K9 hL hcl hA hG hS h0 hK
        replace hL : L9 8 = false := hL
        go_simp
        exact hK _ α _ (fun _ _ => rfl) rfl (step_same (rLN2_st pb sb PC C i c cz src ib xb tl kb kl kv eb ll TR xr lr o0 o1 loc B1_3 B1_2 B1_1 B1 nd3 nd4) hL hcl rfl rfl hG)
    · intro α u hG
      have e0 : rLN2R pb sb PC C i c cz src ib xb tl kb kl kv eb ll TR xr lr o0 o1 loc B1_3 B1_2 B1_1 B1 nd3 nd4 (fun k => decide (k < 9)) α 999 = row (B1_3) 34 #[.iface 42 (.pointer (some ⟨α 6, 0, none⟩)), .int .i32 loc] := by
        show rLN2T999 pb sb PC C i c cz src ib xb tl kb kl kv eb ll TR xr lr o0 o1 loc B1_3 B1_2 B1_1 B1 nd3 nd4 (fun k => decide (k < 9)) α = _
        unfold rLN2T999
        rw [if_pos (by decide)]
      have e1 : rLN2R pb sb PC C i c cz src ib xb tl kb kl kv eb ll TR xr lr o0 o1 loc B1_3 B1_2 B1_1 B1 nd3 nd4 (fun k => decide (k < 9)) α 1999 = row (B1_2) 42 #[.pointer (some ⟨eb, 0, none⟩)] := rfl
      have e2 : rLN2R pb sb PC C i c cz src ib xb tl kb kl kv eb ll TR xr lr o0 o1 loc B1_3 B1_2 B1_1 B1 nd3 nd4 (fun k => decide (k < 9)) α 2999 = row (B1_1) 32 #[.int .i32 loc] := rfl
      have e3 : rLN2R pb sb PC C i c cz src ib xb tl kb kl kv eb ll TR xr lr o0 o1 loc B1_3 B1_2 B1_1 B1 nd3 nd4 (fun k => decide (k < 9)) α 3999 = row (B1) 25 #[.pointer (some ⟨pb, 0, none⟩)] := rfl
      have e4 : rLN2R pb sb PC C i c cz src ib xb tl kb kl kv eb ll TR xr lr o0 o1 loc B1_3 B1_2 B1_1 B1 nd3 nd4 (fun k => decide (k < 9)) α 4999 = row (pb) 178 PC := rfl
      have e5 : rLN2R pb sb PC C i c cz src ib xb tl kb kl kv eb ll TR xr lr o0 o1 loc B1_3 B1_2 B1_1 B1 nd3 nd4 (fun k => decide (k < 9)) α 5999 = row (sb) 196 (bumped (bumped C i c) i cz) := by
        show rLN2T5999 pb sb PC C i c cz src ib xb tl kb kl kv eb ll TR xr lr o0 o1 loc B1_3 B1_2 B1_1 B1 nd3 nd4 (fun k => decide (k < 9)) α = _
        unfold rLN2T5999
        rw [if_pos (by decide)]
      have e6 : rLN2R pb sb PC C i c cz src ib xb tl kb kl kv eb ll TR xr lr o0 o1 loc B1_3 B1_2 B1_1 B1 nd3 nd4 (fun k => decide (k < 9)) α 6999 = row (eb) 45 #[.iface 38 (.pointer (some ⟨xb, 0, none⟩)), .int .i32 ll, .iface TR (.pointer (some ⟨xr, 0, none⟩)), .int .i32 lr, .int .u8 o0, .bool o1] := rfl
      have e7 : rLN2R pb sb PC C i c cz src ib xb tl kb kl kv eb ll TR xr lr o0 o1 loc B1_3 B1_2 B1_1 B1 nd3 nd4 (fun k => decide (k < 9)) α 7999 = row (xb) 56 #[.iface 52 (.pointer (some ⟨ib, 0, none⟩)), .int .i32 tl, .iface 40 (.pointer (some ⟨kb, 0, none⟩)), .int .i32 kl, .int .i32 0, .int .u8 0, .bool false, .bool false, .bool false] := rfl
      have e8 : rLN2R pb sb PC C i c cz src ib xb tl kb kl kv eb ll TR xr lr o0 o1 loc B1_3 B1_2 B1_1 B1 nd3 nd4 (fun k => decide (k < 9)) α 8999 = row (ib) 180 #[.int .u32 src, .int .u32 (i : Int), .bool false, .bool false, .bool false] := rfl
      have e9 : rLN2R pb sb PC C i c cz src ib xb tl kb kl kv eb ll TR xr lr o0 o1 loc B1_3 B1_2 B1_1 B1 nd3 nd4 (fun k => decide (k < 9)) α 9999 = row (kb) 182 #[.float .f64 kv] := rfl
      have e10 : rLN2R pb sb PC C i c cz src ib xb tl kb kl kv eb ll TR xr lr o0 o1 loc B1_3 B1_2 B1_1 B1 nd3 nd4 (fun k => decide (k < 9)) α 10999 = row (nd3) 34 #[.nilIface, .int .i32 0] := rfl
      have e11 : rLN2R pb sb PC C i c cz src ib xb tl kb kl kv eb ll TR xr lr o0 o1 loc B1_3 B1_2 B1_1 B1 nd3 nd4 (fun k => decide (k < 9)) α 11999 = row (nd4) 32 #[.int .i32 0] := rfl
      have e12 : rLN2R pb sb PC C i c cz src ib xb tl kb kl kv eb ll TR xr lr o0 o1 loc B1_3 B1_2 B1_1 B1 nd3 nd4 (fun k => decide (k < 9)) α 6 = row (α 6) 45 #[.iface 38 (.pointer (some ⟨α 2006, 0, none⟩)), .int .i32 ll, .iface 42 (.pointer (some ⟨α 1006, 0, none⟩)), .int .i32 ll, .int .u8 30, .bool false] := rfl
      have e13 : rLN2R pb sb PC C i c cz src ib xb tl kb kl kv eb ll TR xr lr o0 o1 loc B1_3 B1_2 B1_1 B1 nd3 nd4 (fun k => decide (k < 9)) α 1006 = row (α 1006) 45 #[.iface 38 (.pointer (some ⟨α 3006, 0, none⟩)), .int .i32 ll, .iface TR (.pointer (some ⟨xr, 0, none⟩)), .int .i32 lr, .int .u8 37, .bool false] := rfl
      have e14 : rLN2R pb sb PC C i c cz src ib xb tl kb kl kv eb ll TR xr lr o0 o1 loc B1_3 B1_2 B1_1 B1 nd3 nd4 (fun k => decide (k < 9)) α 2006 = row (α 2006) 56 #[.iface 52 (.pointer (some ⟨α 4006, 0, none⟩)), .int .i32 ll, .iface 40 (.pointer (some ⟨α 5006, 0, none⟩)), .int .i32 ll, .int .i32 0, .int .u8 0, .bool false, .bool false, .bool false] := rfl
      have e15 : rLN2R pb sb PC C i c cz src ib xb tl kb kl kv eb ll TR xr lr o0 o1 loc B1_3 B1_2 B1_1 B1 nd3 nd4 (fun k => decide (k < 9)) α 3006 = row (α 3006) 56 #[.iface 52 (.pointer (some ⟨α 6006, 0, none⟩)), .int .i32 ll, .iface 40 (.pointer (some ⟨α 7006, 0, none⟩)), .int .i32 ll, .int .i32 0, .int .u8 0, .bool false, .bool false, .bool false] := rfl
      have e16 : rLN2R pb sb PC C i c cz src ib xb tl kb kl kv eb ll TR xr lr o0 o1 loc B1_3 B1_2 B1_1 B1 nd3 nd4 (fun k => decide (k < 9)) α 4006 = row (α 4006) 180 #[.int .u32 src, .int .u32 (i : Int), .bool false, .bool false, .bool false] := rfl
      have e17 : rLN2R pb sb PC C i c cz src ib xb tl kb kl kv eb ll TR xr lr o0 o1 loc B1_3 B1_2 B1_1 B1 nd3 nd4 (fun k => decide (k < 9)) α 5006 = row (α 5006) 182 #[.float .f64 kv] := rfl
      have e18 : rLN2R pb sb PC C i c cz src ib xb tl kb kl kv eb ll TR xr lr o0 o1 loc B1_3 B1_2 B1_1 B1 nd3 nd4 (fun k => decide (k < 9)) α 6006 = row (α 6006) 180 #[.int .u32 src, .int .u32 (i : Int), .bool false, .bool false, .bool false] := rfl
      have e19 : rLN2R pb sb PC C i c cz src ib xb tl kb kl kv eb ll TR xr lr o0 o1 loc B1_3 B1_2 B1_1 B1 nd3 nd4 (fun k => decide (k < 9)) α 7006 = row (α 7006) 182 #[.float .f64 kv] := rfl
      have hO : Own w0 u [row (B1_3) 34 #[.iface 42 (.pointer (some ⟨α 6, 0, none⟩)), .int .i32 loc], row (B1_2) 42 #[.pointer (some ⟨eb, 0, none⟩)], row (B1_1) 32 #[.int .i32 loc], row (B1) 25 #[.pointer (some ⟨pb, 0, none⟩)], row (pb) 178 PC, row (sb) 196 (bumped (bumped C i c) i cz), row (eb) 45 #[.iface 38 (.pointer (some ⟨xb, 0, none⟩)), .int .i32 ll, .iface TR (.pointer (some ⟨xr, 0, none⟩)), .int .i32 lr, .int .u8 o0, .bool o1], row (xb) 56 #[.iface 52 (.pointer (some ⟨ib, 0, none⟩)), .int .i32 tl, .iface 40 (.pointer (some ⟨kb, 0, none⟩)), .int .i32 kl, .int .i32 0, .int .u8 0, .bool false, .bool false, .bool false], row (ib) 180 #[.int .u32 src, .int .u32 (i : Int), .bool false, .bool false, .bool false], row (kb) 182 #[.float .f64 kv], row (nd3) 34 #[.nilIface, .int .i32 0], row (nd4) 32 #[.int .i32 0], row (α 6) 45 #[.iface 38 (.pointer (some ⟨α 2006, 0, none⟩)), .int .i32 ll, .iface 42 (.pointer (some ⟨α 1006, 0, none⟩)), .int .i32 ll, .int .u8 30, .bool false], row (α 1006) 45 #[.iface 38 (.pointer (some ⟨α 3006, 0, none⟩)), .int .i32 ll, .iface TR (.pointer (some ⟨xr, 0, none⟩)), .int .i32 lr, .int .u8 37, .bool false], row (α 2006) 56 #[.iface 52 (.pointer (some ⟨α 4006, 0, none⟩)), .int .i32 ll, .iface 40 (.pointer (some ⟨α 5006, 0, none⟩)), .int .i32 ll, .int .i32 0, .int .u8 0, .bool false, .bool false, .bool false], row (α 3006) 56 #[.iface 52 (.pointer (some ⟨α 6006, 0, none⟩)), .int .i32 ll, .iface 40 (.pointer (some ⟨α 7006, 0, none⟩)), .int .i32 ll, .int .i32 0, .int .u8 0, .bool false, .bool false, .bool false], row (α 4006) 180 #[.int .u32 src, .int .u32 (i : Int), .bool false, .bool false, .bool false], row (α 5006) 182 #[.float .f64 kv], row (α 6006) 180 #[.int .u32 src, .int .u32 (i : Int), .bool false, .bool false, .bool false], row (α 7006) 182 #[.float .f64 kv]] X := (hG.list [999, 1999, 2999, 3999, 4999, 5999, 6999, 7999, 8999, 9999, 10999, 11999, 6, 1006, 2006, 3006, 4006, 5006, 6006, 7006] (by decide) (act_all (by decide))).conv (by
        show [rLN2R pb sb PC C i c cz src ib xb tl kb kl kv eb ll TR xr lr o0 o1 loc B1_3 B1_2 B1_1 B1 nd3 nd4 (fun k => decide (k < 9)) α 999, rLN2R pb sb PC C i c cz src ib xb tl kb kl kv eb ll TR xr lr o0 o1 loc B1_3 B1_2 B1_1 B1 nd3 nd4 (fun k => decide (k < 9)) α 1999, rLN2R pb sb PC C i c cz src ib xb tl kb kl kv eb ll TR xr lr o0 o1 loc B1_3 B1_2 B1_1 B1 nd3 nd4 (fun k => decide (k < 9)) α 2999, rLN2R pb sb PC C i c cz src ib xb tl kb kl kv eb ll TR xr lr o0 o1 loc B1_3 B1_2 B1_1 B1 nd3 nd4 (fun k => decide (k < 9)) α 3999, rLN2R pb sb PC C i c cz src ib xb tl kb kl kv eb ll TR xr lr o0 o1 loc B1_3 B1_2 B1_1 B1 nd3 nd4 (fun k => decide (k < 9)) α 4999, rLN2R pb sb PC C i c cz src ib xb tl kb kl kv eb ll TR xr lr o0 o1 loc B1_3 B1_2 B1_1 B1 nd3 nd4 (fun k => decide (k < 9)) α 5999, rLN2R pb sb PC C i c cz src ib xb tl kb kl kv eb ll TR xr lr o0 o1 loc B1_3 B1_2 B1_1 B1 nd3 nd4 (fun k => decide (k < 9)) α 6999, rLN2R pb sb PC C i c cz src ib xb tl kb kl kv eb ll TR xr lr o0 o1 loc B1_3 B1_2 B1_1 B1 nd3 nd4 (fun k => decide (k < 9)) α 7999, rLN2R pb sb PC C i c cz src ib xb tl kb kl kv eb ll TR xr lr o0 o1 loc B1_3 B1_2 B1_1 B1 nd3 nd4 (fun k => decide (k < 9)) α 8999, rLN2R pb sb PC C i c cz src ib xb tl kb kl kv eb ll TR xr lr o0 o1 loc B1_3 B1_2 B1_1 B1 nd3 nd4 (fun k => decide (k < 9)) α 9999, rLN2R pb sb PC C i c cz src ib xb tl kb kl kv eb ll TR xr lr o0 o1 loc B1_3 B1_2 B1_1 B1 nd3 nd4 (fun k => decide (k < 9)) α 10999, rLN2R pb sb PC C i c cz src ib xb tl kb kl kv eb ll TR xr lr o0 o1 loc B1_3 B1_2 B1_1 B1 nd3 nd4 (fun k => decide (k < 9)) α 11999, rLN2R pb sb PC C i c cz src ib xb tl kb kl kv eb ll TR xr lr o0 o1 loc B1_3 B1_2 B1_1 B1 nd3 nd4 (fun k => decide (k < 9)) α 6, rLN2R pb sb PC C i c cz src ib xb tl kb kl kv eb ll TR xr lr o0 o1 loc B1_3 B1_2 B1_1 B1 nd3 nd4 (fun k => decide (k < 9)) α 1006, rLN2R pb sb PC C i c cz src ib xb tl kb kl kv eb ll TR xr lr o0 o1 loc B1_3 B1_2 B1_1 B1 nd3 nd4 (fun k => decide (k < 9)) α 2006, rLN2R pb sb PC C i c cz src ib xb tl kb kl kv eb ll TR xr lr o0 o1 loc B1_3 B1_2 B1_1 B1 nd3 nd4 (fun k => decide (k < 9)) α 3006, rLN2R pb sb PC C i c cz src ib xb tl kb kl kv eb ll TR xr lr o0 o1 loc B1_3 B1_2 B1_1 B1 nd3 nd4 (fun k => decide (k < 9)) α 4006, rLN2R pb sb PC C i c cz src ib xb tl kb kl kv eb ll TR xr lr o0 o1 loc B1_3 B1_2 B1_1 B1 nd3 nd4 (fun k => decide (k < 9)) α 5006, rLN2R pb sb PC C i c cz src ib xb tl kb kl kv eb ll TR xr lr o0 o1 loc B1_3 B1_2 B1_1 B1 nd3 nd4 (fun k => decide (k < 9)) α 6006, rLN2R pb sb PC C i c cz src ib xb tl kb kl kv eb ll TR xr lr o0 o1 loc B1_3 B1_2 B1_1 B1 nd3 nd4 (fun k => decide (k < 9)) α 7006] = _
        rw [e0, e1, e2, e3, e4, e5, e6, e7, e8, e9, e10, e11, e12, e13, e14, e15, e16, e17, e18, e19])
      clear hG e0 e1 e2 e3 e4 e5 e6 e7 e8 e9 e10 e11 e12 e13 e14 e15 e16 e17 e18 e19
      generalize hfr : Rega.frameAt _ _ _ _ _ = fr
      have hdf : fr = ⟨#[.pointer (some ⟨pb, 0, none⟩), .agg #[.int .i32 loc], .pointer (some ⟨eb, 0, none⟩), .pointer (some ⟨B1, 0, none⟩), .pointer (some ⟨B1_1, 0, none⟩), .pointer (some ⟨B1_2, 0, none⟩), .pointer (some ⟨B1_3, 0, none⟩), .bool true, .pointer (some ⟨nd3, 0, none⟩), .pointer (some ⟨nd4, 0, none⟩), .pointer none, undef, undef, undef, undef, undef, undef, .tuple #[.agg #[.nilIface, .int .i32 0], .agg #[.int .i32 0], .pointer none], .pointer (some ⟨pb, 0, none⟩), .pointer (some ⟨eb, 0, none⟩), .pointer (some ⟨eb, 0, none⟩), .pointer (some ⟨eb, 0, none⟩), .agg #[.iface 38 (.pointer (some ⟨xb, 0, none⟩)), .int .i32 ll], .tuple #[.agg #[.nilIface, .int .i32 0], .agg #[.int .i32 0], .pointer none], .agg #[.nilIface, .int .i32 0], .agg #[.int .i32 0], .pointer none, .pointer none, .bool false, undef, undef, undef, undef, undef, undef, undef, undef, undef, undef, undef, undef, undef, undef, undef, undef, undef, undef, undef, undef, undef, undef, undef, undef, undef, undef, undef, undef, undef, undef, undef, undef, undef, undef, undef, undef, undef, undef, undef, undef, undef, undef, undef, undef, undef, undef, undef, undef, undef, undef, undef, undef, undef, undef, undef, undef, undef, undef, undef, undef, undef, undef, undef, undef, undef, undef, undef, .pointer (some ⟨pb, 0, none⟩), .pointer (some ⟨pb, 0, none⟩), .pointer (some ⟨pb, 0, none⟩), .pointer (some ⟨pb, 18, none⟩), .pointer (some ⟨pb, 23, none⟩), .int .u64 x, .bool true, .pointer (some ⟨pb, 0, none⟩), .pointer (some ⟨eb, 0, none⟩), .pointer (some ⟨eb, 0, none⟩), .pointer (some ⟨eb, 0, none⟩), .agg #[.iface 38 (.pointer (some ⟨xb, 0, none⟩)), .int .i32 ll], .func (Fn.func 27) #[] #[.pointer (some ⟨B1, 0, none⟩), .pointer (some ⟨B1_1, 0, none⟩), .pointer (some ⟨B1_2, 0, none⟩)], .agg #[.iface 42 (.pointer (some ⟨α 6, 0, none⟩)), .int .i32 loc], undef], []⟩ := by rw [← hfr]; kernel_rfl
      clear hfr
      subst hdf
      generalize α 6 = nd5 at hO ⊢
      generalize α 1006 = nd6 at hO ⊢
      generalize α 2006 = nd7 at hO ⊢
      generalize α 3006 = nd8 at hO ⊢
      generalize α 4006 = nd9 at hO ⊢
      generalize α 5006 = nd10 at hO ⊢
      generalize α 6006 = nd11 at hO ⊢
      generalize α 7006 = nd12 at hO ⊢
      clear α
      have c9_0_0 : u.cell? ⟨B1_3, 0, none⟩ = some (.iface 42 (.pointer (some ⟨nd5, 0, none⟩))) := hO.cell 0 rfl 0 rfl
      have c9_0_1 : u.cell? ⟨B1_3, 1, none⟩ = some (.int .i32 loc) := hO.cell 0 rfl 1 rfl
      have lt9_0 : B1_3 < u.heap.size := hO.lt 0 rfl
      have y9_0 : ∀ o, u.frozen? ⟨B1_3, o, none⟩ = false := hO.free 0 rfl
      have c9_1_0 : u.cell? ⟨B1_2, 0, none⟩ = some (.pointer (some ⟨eb, 0, none⟩)) := hO.cell 1 rfl 0 rfl
      have lt9_1 : B1_2 < u.heap.size := hO.lt 1 rfl
      have y9_1 : ∀ o, u.frozen? ⟨B1_2, o, none⟩ = false := hO.free 1 rfl
      have c9_2_0 : u.cell? ⟨B1_1, 0, none⟩ = some (.int .i32 loc) := hO.cell 2 rfl 0 rfl
      have lt9_2 : B1_1 < u.heap.size := hO.lt 2 rfl
      have y9_2 : ∀ o, u.frozen? ⟨B1_1, o, none⟩ = false := hO.free 2 rfl
      have c9_3_0 : u.cell? ⟨B1, 0, none⟩ = some (.pointer (some ⟨pb, 0, none⟩)) := hO.cell 3 rfl 0 rfl
      have lt9_3 : B1 < u.heap.size := hO.lt 3 rfl
      have y9_3 : ∀ o, u.frozen? ⟨B1, o, none⟩ = false := hO.free 3 rfl
      have c9_4_23 : u.cell? ⟨pb, 23, none⟩ = some (.int .u64 x) := hO.cell 4 rfl 23 (hx)
      have lt9_4 : pb < u.heap.size := hO.lt 4 rfl
      have y9_4 : ∀ o, u.frozen? ⟨pb, o, none⟩ = false := hO.free 4 rfl
      have c9_6_0 : u.cell? ⟨eb, 0, none⟩ = some (.iface 38 (.pointer (some ⟨xb, 0, none⟩))) := hO.cell 6 rfl 0 rfl
      have c9_6_1 : u.cell? ⟨eb, 1, none⟩ = some (.int .i32 ll) := hO.cell 6 rfl 1 rfl
      have c9_6_2 : u.cell? ⟨eb, 2, none⟩ = some (.iface TR (.pointer (some ⟨xr, 0, none⟩))) := hO.cell 6 rfl 2 rfl
      have c9_6_3 : u.cell? ⟨eb, 3, none⟩ = some (.int .i32 lr) := hO.cell 6 rfl 3 rfl
      have c9_6_4 : u.cell? ⟨eb, 4, none⟩ = some (.int .u8 o0) := hO.cell 6 rfl 4 rfl
      have c9_6_5 : u.cell? ⟨eb, 5, none⟩ = some (.bool o1) := hO.cell 6 rfl 5 rfl
      have lt9_6 : eb < u.heap.size := hO.lt 6 rfl
      have y9_6 : ∀ o, u.frozen? ⟨eb, o, none⟩ = false := hO.free 6 rfl
      have c9_7_0 : u.cell? ⟨xb, 0, none⟩ = some (.iface 52 (.pointer (some ⟨ib, 0, none⟩))) := hO.cell 7 rfl 0 rfl
      have c9_7_1 : u.cell? ⟨xb, 1, none⟩ = some (.int .i32 tl) := hO.cell 7 rfl 1 rfl
      have c9_7_2 : u.cell? ⟨xb, 2, none⟩ = some (.iface 40 (.pointer (some ⟨kb, 0, none⟩))) := hO.cell 7 rfl 2 rfl
      have c9_7_3 : u.cell? ⟨xb, 3, none⟩ = some (.int .i32 kl) := hO.cell 7 rfl 3 rfl
      have c9_7_4 : u.cell? ⟨xb, 4, none⟩ = some (.int .i32 0) := hO.cell 7 rfl 4 rfl
      have c9_7_5 : u.cell? ⟨xb, 5, none⟩ = some (.int .u8 0) := hO.cell 7 rfl 5 rfl
      have c9_7_6 : u.cell? ⟨xb, 6, none⟩ = some (.bool false) := hO.cell 7 rfl 6 rfl
      have c9_7_7 : u.cell? ⟨xb, 7, none⟩ = some (.bool false) := hO.cell 7 rfl 7 rfl
      have c9_7_8 : u.cell? ⟨xb, 8, none⟩ = some (.bool false) := hO.cell 7 rfl 8 rfl
      have lt9_7 : xb < u.heap.size := hO.lt 7 rfl
      have y9_7 : ∀ o, u.frozen? ⟨xb, o, none⟩ = false := hO.free 7 rfl
      have c9_8_0 : u.cell? ⟨ib, 0, none⟩ = some (.int .u32 src) := hO.cell 8 rfl 0 rfl
      have c9_8_1 : u.cell? ⟨ib, 1, none⟩ = some (.int .u32 (i : Int)) := hO.cell 8 rfl 1 rfl
      have c9_8_2 : u.cell? ⟨ib, 2, none⟩ = some (.bool false) := hO.cell 8 rfl 2 rfl
      have c9_8_3 : u.cell? ⟨ib, 3, none⟩ = some (.bool false) := hO.cell 8 rfl 3 rfl
      have c9_8_4 : u.cell? ⟨ib, 4, none⟩ = some (.bool false) := hO.cell 8 rfl 4 rfl
      have lt9_8 : ib < u.heap.size := hO.lt 8 rfl
      have y9_8 : ∀ o, u.frozen? ⟨ib, o, none⟩ = false := hO.free 8 rfl
      have c9_9_0 : u.cell? ⟨kb, 0, none⟩ = some (.float .f64 kv) := hO.cell 9 rfl 0 rfl
      have lt9_9 : kb < u.heap.size := hO.lt 9 rfl
      have y9_9 : ∀ o, u.frozen? ⟨kb, o, none⟩ = false := hO.free 9 rfl
      have c9_10_0 : u.cell? ⟨nd3, 0, none⟩ = some (.nilIface) := hO.cell 10 rfl 0 rfl
      have c9_10_1 : u.cell? ⟨nd3, 1, none⟩ = some (.int .i32 0) := hO.cell 10 rfl 1 rfl
      have lt9_10 : nd3 < u.heap.size := hO.lt 10 rfl
      have y9_10 : ∀ o, u.frozen? ⟨nd3, o, none⟩ = false := hO.free 10 rfl
      have c9_11_0 : u.cell? ⟨nd4, 0, none⟩ = some (.int .i32 0) := hO.cell 11 rfl 0 rfl
      have lt9_11 : nd4 < u.heap.size := hO.lt 11 rfl
      have y9_11 : ∀ o, u.frozen? ⟨nd4, o, none⟩ = false := hO.free 11 rfl
      have c9_12_0 : u.cell? ⟨nd5, 0, none⟩ = some (.iface 38 (.pointer (some ⟨nd7, 0, none⟩))) := hO.cell 12 rfl 0 rfl
      have c9_12_1 : u.cell? ⟨nd5, 1, none⟩ = some (.int .i32 ll) := hO.cell 12 rfl 1 rfl
      have c9_12_2 : u.cell? ⟨nd5, 2, none⟩ = some (.iface 42 (.pointer (some ⟨nd6, 0, none⟩))) := hO.cell 12 rfl 2 rfl
      have c9_12_3 : u.cell? ⟨nd5, 3, none⟩ = some (.int .i32 ll) := hO.cell 12 rfl 3 rfl
      have c9_12_4 : u.cell? ⟨nd5, 4, none⟩ = some (.int .u8 30) := hO.cell 12 rfl 4 rfl
      have c9_12_5 : u.cell? ⟨nd5, 5, none⟩ = some (.bool false) := hO.cell 12 rfl 5 rfl
      have lt9_12 : nd5 < u.heap.size := hO.lt 12 rfl
      have y9_12 : ∀ o, u.frozen? ⟨nd5, o, none⟩ = false := hO.free 12 rfl
      have c9_13_0 : u.cell? ⟨nd6, 0, none⟩ = some (.iface 38 (.pointer (some ⟨nd8, 0, none⟩))) := hO.cell 13 rfl 0 rfl
      have c9_13_1 : u.cell? ⟨nd6, 1, none⟩ = some (.int .i32 ll) := hO.cell 13 rfl 1 rfl
      have c9_13_2 : u.cell? ⟨nd6, 2, none⟩ = some (.iface TR (.pointer (some ⟨xr, 0, none⟩))) := hO.cell 13 rfl 2 rfl
      have c9_13_3 : u.cell? ⟨nd6, 3, none⟩ = some (.int .i32 lr) := hO.cell 13 rfl 3 rfl
      have c9_13_4 : u.cell? ⟨nd6, 4, none⟩ = some (.int .u8 37) := hO.cell 13 rfl 4 rfl
      have c9_13_5 : u.cell? ⟨nd6, 5, none⟩ = some (.bool false) := hO.cell 13 rfl 5 rfl
      have lt9_13 : nd6 < u.heap.size := hO.lt 13 rfl
      have y9_13 : ∀ o, u.frozen? ⟨nd6, o, none⟩ = false := hO.free 13 rfl
      have c9_14_0 : u.cell? ⟨nd7, 0, none⟩ = some (.iface 52 (.pointer (some ⟨nd9, 0, none⟩))) := hO.cell 14 rfl 0 rfl
      have c9_14_1 : u.cell? ⟨nd7, 1, none⟩ = some (.int .i32 ll) := hO.cell 14 rfl 1 rfl
      have c9_14_2 : u.cell? ⟨nd7, 2, none⟩ = some (.iface 40 (.pointer (some ⟨nd10, 0, none⟩))) := hO.cell 14 rfl 2 rfl
      have c9_14_3 : u.cell? ⟨nd7, 3, none⟩ = some (.int .i32 ll) := hO.cell 14 rfl 3 rfl
      have c9_14_4 : u.cell? ⟨nd7, 4, none⟩ = some (.int .i32 0) := hO.cell 14 rfl 4 rfl
      have c9_14_5 : u.cell? ⟨nd7, 5, none⟩ = some (.int .u8 0) := hO.cell 14 rfl 5 rfl
      have c9_14_6 : u.cell? ⟨nd7, 6, none⟩ = some (.bool false) := hO.cell 14 rfl 6 rfl
      have c9_14_7 : u.cell? ⟨nd7, 7, none⟩ = some (.bool false) := hO.cell 14 rfl 7 rfl
      have c9_14_8 : u.cell? ⟨nd7, 8, none⟩ = some (.bool false) := hO.cell 14 rfl 8 rfl
      have lt9_14 : nd7 < u.heap.size := hO.lt 14 rfl
      have y9_14 : ∀ o, u.frozen? ⟨nd7, o, none⟩ = false := hO.free 14 rfl
      have c9_15_0 : u.cell? ⟨nd8, 0, none⟩ = some (.iface 52 (.pointer (some ⟨nd11, 0, none⟩))) := hO.cell 15 rfl 0 rfl
      have c9_15_1 : u.cell? ⟨nd8, 1, none⟩ = some (.int .i32 ll) := hO.cell 15 rfl 1 rfl
      have c9_15_2 : u.cell? ⟨nd8, 2, none⟩ = some (.iface 40 (.pointer (some ⟨nd12, 0, none⟩))) := hO.cell 15 rfl 2 rfl
      have c9_15_3 : u.cell? ⟨nd8, 3, none⟩ = some (.int .i32 ll) := hO.cell 15 rfl 3 rfl
      have c9_15_4 : u.cell? ⟨nd8, 4, none⟩ = some (.int .i32 0) := hO.cell 15 rfl 4 rfl
      have c9_15_5 : u.cell? ⟨nd8, 5, none⟩ = some (.int .u8 0) := hO.cell 15 rfl 5 rfl
      have c9_15_6 : u.cell? ⟨nd8, 6, none⟩ = some (.bool false) := hO.cell 15 rfl 6 rfl
      have c9_15_7 : u.cell? ⟨nd8, 7, none⟩ = some (.bool false) := hO.cell 15 rfl 7 rfl
      have c9_15_8 : u.cell? ⟨nd8, 8, none⟩ = some (.bool false) := hO.cell 15 rfl 8 rfl
      have lt9_15 : nd8 < u.heap.size := hO.lt 15 rfl
      have y9_15 : ∀ o, u.frozen? ⟨nd8, o, none⟩ = false := hO.free 15 rfl
      have c9_16_0 : u.cell? ⟨nd9, 0, none⟩ = some (.int .u32 src) := hO.cell 16 rfl 0 rfl
      have c9_16_1 : u.cell? ⟨nd9, 1, none⟩ = some (.int .u32 (i : Int)) := hO.cell 16 rfl 1 rfl
      have c9_16_2 : u.cell? ⟨nd9, 2, none⟩ = some (.bool false) := hO.cell 16 rfl 2 rfl
      have c9_16_3 : u.cell? ⟨nd9, 3, none⟩ = some (.bool false) := hO.cell 16 rfl 3 rfl
      have c9_16_4 : u.cell? ⟨nd9, 4, none⟩ = some (.bool false) := hO.cell 16 rfl 4 rfl
      have lt9_16 : nd9 < u.heap.size := hO.lt 16 rfl
      have y9_16 : ∀ o, u.frozen? ⟨nd9, o, none⟩ = false := hO.free 16 rfl
      have c9_17_0 : u.cell? ⟨nd10, 0, none⟩ = some (.float .f64 kv) := hO.cell 17 rfl 0 rfl
      have lt9_17 : nd10 < u.heap.size := hO.lt 17 rfl
      have y9_17 : ∀ o, u.frozen? ⟨nd10, o, none⟩ = false := hO.free 17 rfl
      have c9_18_0 : u.cell? ⟨nd11, 0, none⟩ = some (.int .u32 src) := hO.cell 18 rfl 0 rfl
      have c9_18_1 : u.cell? ⟨nd11, 1, none⟩ = some (.int .u32 (i : Int)) := hO.cell 18 rfl 1 rfl
      have c9_18_2 : u.cell? ⟨nd11, 2, none⟩ = some (.bool false) := hO.cell 18 rfl 2 rfl
      have c9_18_3 : u.cell? ⟨nd11, 3, none⟩ = some (.bool false) := hO.cell 18 rfl 3 rfl
      have c9_18_4 : u.cell? ⟨nd11, 4, none⟩ = some (.bool false) := hO.cell 18 rfl 4 rfl
      have lt9_18 : nd11 < u.heap.size := hO.lt 18 rfl
      have y9_18 : ∀ o, u.frozen? ⟨nd11, o, none⟩ = false := hO.free 18 rfl
      have c9_19_0 : u.cell? ⟨nd12, 0, none⟩ = some (.float .f64 kv) := hO.cell 19 rfl 0 rfl
      have lt9_19 : nd12 < u.heap.size := hO.lt 19 rfl
      have y9_19 : ∀ o, u.frozen? ⟨nd12, o, none⟩ = false := hO.free 19 rfl
      have HO := Lib.hid hO
      clear hO
      go_wp2_with (go_at_call 21; go_in)
      have hO := HO.out
      clear HO c9_0_0 c9_0_1 lt9_0 y9_0 c9_1_0 lt9_1 y9_1 c9_2_0 lt9_2 y9_2 c9_3_0 lt9_3 y9_3 c9_4_23 lt9_4 y9_4 c9_6_0 c9_6_1 c9_6_2 c9_6_3 c9_6_4 c9_6_5 lt9_6 y9_6 c9_7_0 c9_7_1 c9_7_2 c9_7_3 c9_7_4 c9_7_5 c9_7_6 c9_7_7 c9_7_8 lt9_7 y9_7 c9_8_0 c9_8_1 c9_8_2 c9_8_3 c9_8_4 lt9_8 y9_8 c9_9_0 lt9_9 y9_9 c9_10_0 c9_10_1 lt9_10 y9_10 c9_11_0 lt9_11 y9_11 c9_12_0 c9_12_1 c9_12_2 c9_12_3 c9_12_4 c9_12_5 lt9_12 y9_12 c9_13_0 c9_13_1 c9_13_2 c9_13_3 c9_13_4 c9_13_5 lt9_13 y9_13 c9_14_0 c9_14_1 c9_14_2 c9_14_3 c9_14_4 c9_14_5 c9_14_6 c9_14_7 c9_14_8 lt9_14 y9_14 c9_15_0 c9_15_1 c9_15_2 c9_15_3 c9_15_4 c9_15_5 c9_15_6 c9_15_7 c9_15_8 lt9_15 y9_15 c9_16_0 c9_16_1 c9_16_2 c9_16_3 c9_16_4 lt9_16 y9_16 c9_17_0 lt9_17 y9_17 c9_18_0 c9_18_1 c9_18_2 c9_18_3 c9_18_4 lt9_18 y9_18 c9_19_0 lt9_19 y9_19
      have z9_0_0 : u.cell? ⟨B1_3, 0, none⟩ = some (.iface 42 (.pointer (some ⟨nd5, 0, none⟩))) := hO.cell 0 rfl 0 rfl
      have z9_0_1 : u.cell? ⟨B1_3, 1, none⟩ = some (.int .i32 loc) := hO.cell 0 rfl 1 rfl
      refine bodyPost_ret (v := .tuple #[.agg #[.iface 42 (.pointer (some ⟨nd5, 0, none⟩)), .int .i32 loc], .bool true]) ?_ rfl ⟨nd5, nd6, nd7, nd8, nd9, nd10, nd11, nd12, rfl, hO.sub [4, 5, 6, 7, 8, 9, 12, 13, 14, 15, 16, 17, 18, 19] (by decide)⟩
      simp [results, Tryz.results17, go_sem, z9_0_0, z9_0_1]
def rLO1E (pb : Nat) (PC : Array Value) (ib : Nat) (xb : Nat) (tl : Int) (kb : Nat) (kl : Int) (eb : Nat) (ll : Int) (TR : Nat) (xr : Nat) (lr : Int) (o0 : Int) (o1 : Bool) (loc : Int) (B1_3 : Nat) (B1_2 : Nat) (B1_1 : Nat) (B1 : Nat) : Nat → Rega.Atoms → Value
  | 0, α => .pointer (some ⟨pb, 0, none⟩)
  | 1, α => .pointer (some ⟨eb, 0, none⟩)
  | 2, α => .pointer (some ⟨eb, 0, none⟩)
  | 3, α => .pointer (some ⟨eb, 0, none⟩)
  | 4, α => .agg #[.iface 38 (.pointer (some ⟨xb, 0, none⟩)), .int .i32 ll]
  | 5, α => .tuple #[.agg #[.nilIface, .int .i32 0], .agg #[.int .i32 0], .pointer none]
  | 6, α => .tuple #[.agg #[.nilIface, .int .i32 0], .agg #[.int .i32 0], .pointer none]
  | 7, α => .agg #[.nilIface, .int .i32 0]
  | 8, α => .agg #[.int .i32 0]
  | 9, α => .pointer none
  | 10, α => .pointer (some ⟨α 10, 0, none⟩)
  | 11, α => .pointer (some ⟨α 11, 0, none⟩)
  | 12, α => undef
  | 13, α => undef
  | 14, α => .pointer none
  | _, _ => undef
def rLO1Anc : Nat → List Nat
  | 2 => [1]
  | 3 => [1, 2]
  | 4 => [1, 2, 3]
  | 5 => [0, 1, 2, 3, 4]
  | 6 => [0, 1, 2, 3, 4, 5]
  | 7 => [0, 1, 2, 3, 4, 5, 6]
  | 8 => [0, 1, 2, 3, 4, 5, 6]
  | 9 => [0, 1, 2, 3, 4, 5, 6]
  | 12 => [0, 1, 2, 3, 4, 5, 6, 7, 10, 11]
  | 13 => [0, 1, 2, 3, 4, 5, 6, 7, 8, 10, 11, 12]
  | 14 => [0, 1, 2, 3, 4, 5, 6, 7, 8, 9, 10, 11, 12, 13]
  | _ => []
def rLO1Trn : Nat → List Nat
  | 12 => [10]
  | 13 => [11]
  | _ => []
def rLO1Cnt : List (Nat × Nat) := [(10, 1), (11, 1)]
def rLO1T10 (pb : Nat) (PC : Array Value) (ib : Nat) (xb : Nat) (tl : Int) (kb : Nat) (kl : Int) (eb : Nat) (ll : Int) (TR : Nat) (xr : Nat) (lr : Int) (o0 : Int) (o1 : Bool) (loc : Int) (B1_3 : Nat) (B1_2 : Nat) (B1_1 : Nat) (B1 : Nat) (L9 : Nat → Bool) (α : Rega.Atoms) : Rw := if L9 12 = true then row (α 10) 34 #[.nilIface, .int .i32 0] else row (α 10) 34 #[.nilIface, .int .i32 0]
def rLO1T11 (pb : Nat) (PC : Array Value) (ib : Nat) (xb : Nat) (tl : Int) (kb : Nat) (kl : Int) (eb : Nat) (ll : Int) (TR : Nat) (xr : Nat) (lr : Int) (o0 : Int) (o1 : Bool) (loc : Int) (B1_3 : Nat) (B1_2 : Nat) (B1_1 : Nat) (B1 : Nat) (L9 : Nat → Bool) (α : Rega.Atoms) : Rw := if L9 13 = true then row (α 11) 32 #[.int .i32 0] else row (α 11) 32 #[.int .i32 0]
def rLO1R (pb : Nat) (PC : Array Value) (ib : Nat) (xb : Nat) (tl : Int) (kb : Nat) (kl : Int) (eb : Nat) (ll : Int) (TR : Nat) (xr : Nat) (lr : Int) (o0 : Int) (o1 : Bool) (loc : Int) (B1_3 : Nat) (B1_2 : Nat) (B1_1 : Nat) (B1 : Nat) (L9 : Nat → Bool) (α : Rega.Atoms) (ix9 : Nat) : Rw := if ix9 = 999 then row (B1_3) 34 #[.nilIface, .int .i32 0] else if ix9 = 1999 then row (B1_2) 42 #[.pointer (some ⟨eb, 0, none⟩)] else if ix9 = 2999 then row (B1_1) 32 #[.int .i32 loc] else if ix9 = 3999 then row (B1) 25 #[.pointer (some ⟨pb, 0, none⟩)] else if ix9 = 4999 then row (pb) 178 PC else if ix9 = 5999 then row (eb) 45 #[.iface 38 (.pointer (some ⟨xb, 0, none⟩)), .int .i32 ll, .iface TR (.pointer (some ⟨xr, 0, none⟩)), .int .i32 lr, .int .u8 o0, .bool o1] else if ix9 = 6999 then row (xb) 56 #[.iface 52 (.pointer (some ⟨ib, 0, none⟩)), .int .i32 tl, .iface 40 (.pointer (some ⟨kb, 0, none⟩)), .int .i32 kl, .int .i32 0, .int .u8 0, .bool false, .bool false, .bool false] else if ix9 = 10 then rLO1T10 pb PC ib xb tl kb kl eb ll TR xr lr o0 o1 loc B1_3 B1_2 B1_1 B1 L9 α else if ix9 = 11 then rLO1T11 pb PC ib xb tl kb kl eb ll TR xr lr o0 o1 loc B1_3 B1_2 B1_1 B1 L9 α else (0, .map #[] 0)
theorem rLO1_he (pb : Nat) (PC : Array Value) (ib : Nat) (xb : Nat) (tl : Int) (kb : Nat) (kl : Int) (eb : Nat) (ll : Int) (TR : Nat) (xr : Nat) (lr : Int) (o0 : Int) (o1 : Bool) (loc : Int) (B1_3 : Nat) (B1_2 : Nat) (B1_1 : Nat) (B1 : Nat) : ∀ kk α α', (∀ j, (j % 1000 = kk ∨ j % 1000 ∈ rLO1Anc kk) → α j = α' j) → rLO1E pb PC ib xb tl kb kl eb ll TR xr lr o0 o1 loc B1_3 B1_2 B1_1 B1 kk α = rLO1E pb PC ib xb tl kb kl eb ll TR xr lr o0 o1 loc B1_3 B1_2 B1_1 B1 kk α' := by
  intro kk α α' h
  match kk with
  | 0 => rfl
  | 1 => rfl
  | 2 => rfl
  | 3 => rfl
  | 4 => rfl
  | 5 => rfl
  | 6 => rfl
  | 7 => rfl
  | 8 => rfl
  | 9 => rfl
  | 10 => simp only [rLO1E, h 10 (Or.inl rfl)]
  | 11 => simp only [rLO1E, h 11 (Or.inl rfl)]
  | 12 => rfl
  | 13 => rfl
  | 14 => rfl
  | n + 15 => rfl
theorem rLO1_st (pb : Nat) (PC : Array Value) (ib : Nat) (xb : Nat) (tl : Int) (kb : Nat) (kl : Int) (eb : Nat) (ll : Int) (TR : Nat) (xr : Nat) (lr : Int) (o0 : Int) (o1 : Bool) (loc : Int) (B1_3 : Nat) (B1_2 : Nat) (B1_1 : Nat) (B1 : Nat) : Stable rLO1Cnt 7 rLO1Anc rLO1Trn (rLO1R pb PC ib xb tl kb kl eb ll TR xr lr o0 o1 loc B1_3 B1_2 B1_1 B1) := by
  intro k9 L9 α α' ix9 hk hcl hα hact ht
  have hp := act_places hact
  replace hp : ix9 ∈ [999, 1999, 2999, 3999, 4999, 5999, 6999, 10, 11] := hp
  simp only [List.mem_cons, List.not_mem_nil, or_false] at hp
  rcases hp with rfl | rfl | rfl | rfl | rfl | rfl | rfl | rfl | rfl
  · rfl
  · rfl
  · rfl
  · rfl
  · rfl
  · rfl
  · rfl
  · have e0 : L9 10 = true := act_lt hact (by decide)
    show rLO1T10 pb PC ib xb tl kb kl eb ll TR xr lr o0 o1 loc B1_3 B1_2 B1_1 B1 (Rega.ran L9 k9) α' = rLO1T10 pb PC ib xb tl kb kl eb ll TR xr lr o0 o1 loc B1_3 B1_2 B1_1 B1 L9 α
    unfold rLO1T10
    have n12 : 12 ≠ k9 := fun e => ht (by rw [← e]; decide)
    rw [ran_ne n12]
    by_cases e12 : L9 12 = true
    · first | rw [if_pos e12, if_pos e12] | rw [if_pos e12]
      try simp only [hα 10 (ne_ran hk (hcl 12 e12 10 (by decide)))]
    first | rw [if_neg e12, if_neg e12] | rw [if_neg e12]
    try simp only [hα 10 (ne_ran hk e0)]
  · have e0 : L9 11 = true := act_lt hact (by decide)
    show rLO1T11 pb PC ib xb tl kb kl eb ll TR xr lr o0 o1 loc B1_3 B1_2 B1_1 B1 (Rega.ran L9 k9) α' = rLO1T11 pb PC ib xb tl kb kl eb ll TR xr lr o0 o1 loc B1_3 B1_2 B1_1 B1 L9 α
    unfold rLO1T11
    have n13 : 13 ≠ k9 := fun e => ht (by rw [← e]; decide)
    rw [ran_ne n13]
    by_cases e13 : L9 13 = true
    · first | rw [if_pos e13, if_pos e13] | rw [if_pos e13]
      try simp only [hα 11 (ne_ran hk (hcl 13 e13 11 (by decide)))]
    first | rw [if_neg e13, if_neg e13] | rw [if_neg e13]
    try simp only [hα 11 (ne_ran hk e0)]
def lowNoPost (pb : Nat) (PC : Array Value) (x : Int) (ib xb : Nat) (tl : Int) (kb : Nat) (kl : Int) (eb : Nat) (ll : Int) (TR xr : Nat) (lr o0 : Int) (o1 : Bool) (loc : Int) (w0 : World) (X : Nat → Obj → Prop) (e : Ending) (w' : World) : Prop :=
  e = .returned (.tuple #[.agg #[.nilIface, .int .i32 0], .bool false]) ∧ Own w0 w' [row (pb) 178 PC, row (eb) 45 #[.iface 38 (.pointer (some ⟨xb, 0, none⟩)), .int .i32 ll, .iface TR (.pointer (some ⟨xr, 0, none⟩)), .int .i32 lr, .int .u8 o0, .bool o1], row (xb) 56 #[.iface 52 (.pointer (some ⟨ib, 0, none⟩)), .int .i32 tl, .iface 40 (.pointer (some ⟨kb, 0, none⟩)), .int .i32 kl, .int .i32 0, .int .u8 0, .bool false, .bool false, .bool false]] X
set_option maxRecDepth 100000 in
set_option maxHeartbeats 1000000 in
theorem lowNo (pb : Nat) (PC : Array Value) (x : Int) (ib xb : Nat) (tl : Int) (kb : Nat) (kl : Int) (eb : Nat) (ll : Int) (TR xr : Nat) (lr o0 : Int) (o1 : Bool) (loc : Int) (w0 w : World) (X : Nat → Obj → Prop) (hO : Own w0 w [row (pb) 178 PC, row (eb) 45 #[.iface 38 (.pointer (some ⟨xb, 0, none⟩)), .int .i32 ll, .iface TR (.pointer (some ⟨xr, 0, none⟩)), .int .i32 lr, .int .u8 o0, .bool o1], row (xb) 56 #[.iface 52 (.pointer (some ⟨ib, 0, none⟩)), .int .i32 tl, .iface 40 (.pointer (some ⟨kb, 0, none⟩)), .int .i32 kl, .int .i32 0, .int .u8 0, .bool false, .bool false, .bool false]] X) (hx : PC[23]? = some (.int .u64 x)) (hx2 : (bits BinOp.and IntKind.u64 x 137438953472 != 0) = false) :
    Calls Tryz.prog 17 #[.pointer (some ⟨pb, 0, none⟩), .agg #[.int .i32 loc], .pointer (some ⟨eb, 0, none⟩)] w (lowNoPost pb PC x ib xb tl kb kl eb ll TR xr lr o0 o1 loc w0 X) := by
  go_enter Tryz.func17, Tryz.ntmps17
  have c9_0_23 : w.cell? ⟨pb, 23, none⟩ = some (.int .u64 x) := hO.cell 0 rfl 23 (hx)
  have lt9_0 : pb < w.heap.size := hO.lt 0 rfl
  have y9_0 : ∀ o, w.frozen? ⟨pb, o, none⟩ = false := hO.free 0 rfl
  have c9_1_0 : w.cell? ⟨eb, 0, none⟩ = some (.iface 38 (.pointer (some ⟨xb, 0, none⟩))) := hO.cell 1 rfl 0 rfl
  have c9_1_1 : w.cell? ⟨eb, 1, none⟩ = some (.int .i32 ll) := hO.cell 1 rfl 1 rfl
  have c9_1_2 : w.cell? ⟨eb, 2, none⟩ = some (.iface TR (.pointer (some ⟨xr, 0, none⟩))) := hO.cell 1 rfl 2 rfl
  have c9_1_3 : w.cell? ⟨eb, 3, none⟩ = some (.int .i32 lr) := hO.cell 1 rfl 3 rfl
  have c9_1_4 : w.cell? ⟨eb, 4, none⟩ = some (.int .u8 o0) := hO.cell 1 rfl 4 rfl
  have c9_1_5 : w.cell? ⟨eb, 5, none⟩ = some (.bool o1) := hO.cell 1 rfl 5 rfl
  have lt9_1 : eb < w.heap.size := hO.lt 1 rfl
  have y9_1 : ∀ o, w.frozen? ⟨eb, o, none⟩ = false := hO.free 1 rfl
  have c9_2_0 : w.cell? ⟨xb, 0, none⟩ = some (.iface 52 (.pointer (some ⟨ib, 0, none⟩))) := hO.cell 2 rfl 0 rfl
  have c9_2_1 : w.cell? ⟨xb, 1, none⟩ = some (.int .i32 tl) := hO.cell 2 rfl 1 rfl
  have c9_2_2 : w.cell? ⟨xb, 2, none⟩ = some (.iface 40 (.pointer (some ⟨kb, 0, none⟩))) := hO.cell 2 rfl 2 rfl
  have c9_2_3 : w.cell? ⟨xb, 3, none⟩ = some (.int .i32 kl) := hO.cell 2 rfl 3 rfl
  have c9_2_4 : w.cell? ⟨xb, 4, none⟩ = some (.int .i32 0) := hO.cell 2 rfl 4 rfl
  have c9_2_5 : w.cell? ⟨xb, 5, none⟩ = some (.int .u8 0) := hO.cell 2 rfl 5 rfl
  have c9_2_6 : w.cell? ⟨xb, 6, none⟩ = some (.bool false) := hO.cell 2 rfl 6 rfl
  have c9_2_7 : w.cell? ⟨xb, 7, none⟩ = some (.bool false) := hO.cell 2 rfl 7 rfl
  have c9_2_8 : w.cell? ⟨xb, 8, none⟩ = some (.bool false) := hO.cell 2 rfl 8 rfl
  have lt9_2 : xb < w.heap.size := hO.lt 2 rfl
  have y9_2 : ∀ o, w.frozen? ⟨xb, o, none⟩ = false := hO.free 2 rfl
  have HO := Lib.hid hO
  clear hO
  go_wp2_with (go_at_call 21; go_in)
  have hO := HO.out
  clear HO c9_0_23 lt9_0 y9_0 c9_1_0 c9_1_1 c9_1_2 c9_1_3 c9_1_4 c9_1_5 lt9_1 y9_1 c9_2_0 c9_2_1 c9_2_2 c9_2_3 c9_2_4 c9_2_5 c9_2_6 c9_2_7 c9_2_8 lt9_2 y9_2
  generalize hW : World.alloc _ _ = W2
  have hN : Own w0 W2 [row (w.heap.size + 1 + 1 + 1) 34 #[.nilIface, .int .i32 0], row (w.heap.size + 1 + 1) 42 #[.pointer (some ⟨eb, 0, none⟩)], row (w.heap.size + 1) 32 #[.int .i32 loc], row (w.heap.size) 25 #[.pointer (some ⟨pb, 0, none⟩)], row (pb) 178 PC, row (eb) 45 #[.iface 38 (.pointer (some ⟨xb, 0, none⟩)), .int .i32 ll, .iface TR (.pointer (some ⟨xr, 0, none⟩)), .int .i32 lr, .int .u8 o0, .bool o1], row (xb) 56 #[.iface 52 (.pointer (some ⟨ib, 0, none⟩)), .int .i32 tl, .iface 40 (.pointer (some ⟨kb, 0, none⟩)), .int .i32 kl, .int .i32 0, .int .u8 0, .bool false, .bool false, .bool false]] X := by
    rw [← hW]
    exact ((((hO).alloc' _ (w.heap.size) (by simp)).alloc' _ (w.heap.size + 1) (by simp)).alloc' _ (w.heap.size + 1 + 1) (by simp)).alloc' _ (w.heap.size + 1 + 1 + 1) (by simp)
  clear hW hO
  generalize w.heap.size + 1 + 1 + 1 = B1_3 at hN ⊢
  generalize w.heap.size + 1 + 1 = B1_2 at hN ⊢
  generalize w.heap.size + 1 = B1_1 at hN ⊢
  generalize w.heap.size = B1 at hN ⊢
  have hO := hN
  clear hN
  refine wp_region_own (e := rLO1E pb PC ib xb tl kb kl eb ll TR xr lr o0 o1 loc B1_3 B1_2 B1_1 B1) (anc := rLO1Anc) (G := (fun L9 α u9 => OwnF w0 u9 (act rLO1Cnt 7 L9) (rLO1R pb PC ib xb tl kb kl eb ll TR xr lr o0 o1 loc B1_3 B1_2 B1_1 B1 L9 α) X)) (by kernel_rfl) (by kernel_rfl) (by kernel_rfl) (by kernel_rfl) (rLO1_he pb PC ib xb tl kb kl eb ll TR xr lr o0 o1 loc B1_3 B1_2 B1_1 B1) ?_ (RunsAll.all ?_) ?_
  · have hp : ∀ i, act rLO1Cnt 7 (fun _ => false) i → i ∈ [999, 1999, 2999, 3999, 4999, 5999, 6999] := by
      intro i hi
      have h9 : i % 1000 = 999 := by
        by_cases h : i % 1000 = 999
        · exact h
        · exact absurd (act_lt hi h) (by simp)
      unfold act at hi
      rw [if_pos h9] at hi
      simp only [List.mem_cons, List.not_mem_nil, or_false]
      omega
    refine hO.drew.family (fun i hi => ?_) (fun i j hi hj hij => ?_)
    · have := hp i hi
      simp only [List.mem_cons, List.not_mem_nil, or_false] at this
      rcases this with rfl | rfl | rfl | rfl | rfl | rfl | rfl <;> rfl
    · have h1 := hp i hi
      have h2 := hp j hj
      simp only [List.mem_cons, List.not_mem_nil, or_false] at h1 h2
      omega
  · refine ⟨?_, ?_, ?_, ?_, ?_, ?_, ?_, ?_, ?_, ?_, ?_, ?_, ?_, ?_, ?_, trivial⟩
    · intro L9 α a9 u9 K9 hL hcl hA hG hS h0 hK
      replace hL : L9 0 = false := hL
      have q3 : a9.tmps[3]? = some (.pointer (some ⟨B1, 0, none⟩)) := (h0 3 (by kernel_rfl)).trans rfl
      have s3 := Rega.eval_of q3
      have e0 : rLO1R pb PC ib xb tl kb kl eb ll TR xr lr o0 o1 loc B1_3 B1_2 B1_1 B1 L9 α 3999 = row (B1) 25 #[.pointer (some ⟨pb, 0, none⟩)] := rfl
      have hr := hG.rowAt 3999 (act_base 3999 rfl) e0
      have c0 : u9.cell? ⟨B1, 0, none⟩ = some (.pointer (some ⟨pb, 0, none⟩)) := hr.cell rfl
      clear hr e0
      go_simp
      exact hK _ α _ (fun _ _ => rfl) rfl (step_same (rLO1_st pb PC ib xb tl kb kl eb ll TR xr lr o0 o1 loc B1_3 B1_2 B1_1 B1) hL hcl rfl rfl hG)
    · intro L9 α a9 u9 K9 hL hcl hA hG hS h0 hK
      replace hL : L9 1 = false := hL
      have q5 : a9.tmps[5]? = some (.pointer (some ⟨B1_2, 0, none⟩)) := (h0 5 (by kernel_rfl)).trans rfl
      have s5 := Rega.eval_of q5
      have e0 : rLO1R pb PC ib xb tl kb kl eb ll TR xr lr o0 o1 loc B1_3 B1_2 B1_1 B1 L9 α 1999 = row (B1_2) 42 #[.pointer (some ⟨eb, 0, none⟩)] := rfl
      have hr := hG.rowAt 1999 (act_base 1999 rfl) e0
      have c0 : u9.cell? ⟨B1_2, 0, none⟩ = some (.pointer (some ⟨eb, 0, none⟩)) := hr.cell rfl
      clear hr e0
      go_simp
      exact hK _ α _ (fun _ _ => rfl) rfl (step_same (rLO1_st pb PC ib xb tl kb kl eb ll TR xr lr o0 o1 loc B1_3 B1_2 B1_1 B1) hL hcl rfl rfl hG)
    · intro L9 α a9 u9 K9 hL hcl hA hG hS h0 hK
      replace hL : L9 2 = false := hL
      have q19 : a9.tmps[19]? = some (.pointer (some ⟨eb, 0, none⟩)) := hS 1 19 (by decide) rfl (by show 19 < 111; decide)
      have s19 := Rega.eval_of q19
      go_simp
      exact hK _ α _ (fun _ _ => rfl) rfl (step_same (rLO1_st pb PC ib xb tl kb kl eb ll TR xr lr o0 o1 loc B1_3 B1_2 B1_1 B1) hL hcl rfl rfl hG)
    · intro L9 α a9 u9 K9 hL hcl hA hG hS h0 hK
      replace hL : L9 3 = false := hL
      have q20 : a9.tmps[20]? = some (.pointer (some ⟨eb, 0, none⟩)) := hS 2 20 (by decide) rfl (by show 20 < 111; decide)
      have s20 := Rega.eval_of q20
      go_simp
      exact hK _ α _ (fun _ _ => rfl) rfl (step_same (rLO1_st pb PC ib xb tl kb kl eb ll TR xr lr o0 o1 loc B1_3 B1_2 B1_1 B1) hL hcl rfl rfl hG)
    · intro L9 α a9 u9 K9 hL hcl hA hG hS h0 hK
      replace hL : L9 4 = false := hL
      have q21 : a9.tmps[21]? = some (.pointer (some ⟨eb, 0, none⟩)) := hS 3 21 (by decide) rfl (by show 21 < 111; decide)
      have s21 := Rega.eval_of q21
      have e0 : rLO1R pb PC ib xb tl kb kl eb ll TR xr lr o0 o1 loc B1_3 B1_2 B1_1 B1 L9 α 5999 = row (eb) 45 #[.iface 38 (.pointer (some ⟨xb, 0, none⟩)), .int .i32 ll, .iface TR (.pointer (some ⟨xr, 0, none⟩)), .int .i32 lr, .int .u8 o0, .bool o1] := rfl
      have hr := hG.rowAt 5999 (act_base 5999 rfl) e0
      have c0 : u9.cell? ⟨eb, 0, none⟩ = some (.iface 38 (.pointer (some ⟨xb, 0, none⟩))) := hr.cell rfl
      have c1 : u9.cell? ⟨eb, 1, none⟩ = some (.int .i32 ll) := hr.cell rfl
      clear hr e0
      go_simp
      exact hK _ α _ (fun _ _ => rfl) rfl (step_same (rLO1_st pb PC ib xb tl kb kl eb ll TR xr lr o0 o1 loc B1_3 B1_2 B1_1 B1) hL hcl rfl rfl hG)
    · intro L9 α a9 u9 K9 hL hcl hA hG hS h0 hK
      replace hL : L9 5 = false := hL
      have q18 : a9.tmps[18]? = some (.pointer (some ⟨pb, 0, none⟩)) := hS 0 18 (by decide) rfl (by show 18 < 111; decide)
      have s18 := Rega.eval_of q18
      have q22 : a9.tmps[22]? = some (.agg #[.iface 38 (.pointer (some ⟨xb, 0, none⟩)), .int .i32 ll]) := hS 4 22 (by decide) rfl (by show 22 < 111; decide)
      have s22 := Rega.eval_of q22
      go_simp
      have e0 : rLO1R pb PC ib xb tl kb kl eb ll TR xr lr o0 o1 loc B1_3 B1_2 B1_1 B1 L9 α 6999 = row (xb) 56 #[.iface 52 (.pointer (some ⟨ib, 0, none⟩)), .int .i32 tl, .iface 40 (.pointer (some ⟨kb, 0, none⟩)), .int .i32 kl, .int .i32 0, .int .u8 0, .bool false, .bool false, .bool false] := rfl
      have hM : ∀ i, i ∈ [6999] → act rLO1Cnt 7 L9 i := by
        intro i hi
        simp only [List.mem_cons, List.not_mem_nil, or_false] at hi
        subst hi
        exact act_base 6999 rfl
      have hP : Own w0 u9 [row (xb) 56 #[.iface 52 (.pointer (some ⟨ib, 0, none⟩)), .int .i32 tl, .iface 40 (.pointer (some ⟨kb, 0, none⟩)), .int .i32 kl, .int .i32 0, .int .u8 0, .bool false, .bool false, .bool false]] _ := (hG.pick [6999] (by decide) hM).conv (by
        show [rLO1R pb PC ib xb tl kb kl eb ll TR xr lr o0 o1 loc B1_3 B1_2 B1_1 B1 L9 α 6999] = _
        rw [e0])
      clear e0 hM
      refine Calls.mono (noPrivO (.pointer (some ⟨pb, 0, none⟩)) xb ib tl kb kl ll _ _ _ hP ) ?_
      rintro e9 u1 ⟨rfl, hQ⟩
      obtain ⟨α', hα'⟩ : ∃ α' : Rega.Atoms, α' = α := ⟨_, rfl⟩
      have f0 : rLO1R pb PC ib xb tl kb kl eb ll TR xr lr o0 o1 loc B1_3 B1_2 B1_1 B1 (Rega.ran L9 5) α' 6999 = row (xb) 56 #[.iface 52 (.pointer (some ⟨ib, 0, none⟩)), .int .i32 tl, .iface 40 (.pointer (some ⟨kb, 0, none⟩)), .int .i32 kl, .int .i32 0, .int .u8 0, .bool false, .bool false, .bool false] := rfl
      have hα : ∀ j, j % 1000 ≠ 5 → α' j = α j := fun j hj => by rw [hα']
      skip
      refine hK _ α' _ hα ?_ (step_call (rLO1_st pb PC ib xb tl kb kl eb ll TR xr lr o0 o1 loc B1_3 B1_2 B1_1 B1) hL hcl hα [6999] [6999] (by decide) (by decide) (by decide) (M := _) ?_ hG hQ)
      · rfl
      · show [rLO1R pb PC ib xb tl kb kl eb ll TR xr lr o0 o1 loc B1_3 B1_2 B1_1 B1 (Rega.ran L9 5) α' 6999] = _
        rw [f0]
    · intro L9 α a9 u9 K9 hL hcl hA hG hS h0 hK
      replace hL : L9 6 = false := hL
      have q23 : a9.tmps[23]? = some (.tuple #[.agg #[.nilIface, .int .i32 0], .agg #[.int .i32 0], .pointer none]) := hS 5 23 (by decide) rfl (by show 23 < 111; decide)
      have s23 := Rega.eval_of q23
      go_simp
      exact hK _ α _ (fun _ _ => rfl) rfl (step_same (rLO1_st pb PC ib xb tl kb kl eb ll TR xr lr o0 o1 loc B1_3 B1_2 B1_1 B1) hL hcl rfl rfl hG)
    · intro L9 α a9 u9 K9 hL hcl hA hG hS h0 hK
      replace hL : L9 7 = false := hL
      have q17 : a9.tmps[17]? = some (.tuple #[.agg #[.nilIface, .int .i32 0], .agg #[.int .i32 0], .pointer none]) := hS 6 17 (by decide) rfl (by show 17 < 111; decide)
      have s17 := Rega.eval_of q17
      go_simp
      exact hK _ α _ (fun _ _ => rfl) rfl (step_same (rLO1_st pb PC ib xb tl kb kl eb ll TR xr lr o0 o1 loc B1_3 B1_2 B1_1 B1) hL hcl rfl rfl hG)
    · intro L9 α a9 u9 K9 hL hcl hA hG hS h0 hK
      replace hL : L9 8 = false := hL
      have q17 : a9.tmps[17]? = some (.tuple #[.agg #[.nilIface, .int .i32 0], .agg #[.int .i32 0], .pointer none]) := hS 6 17 (by decide) rfl (by show 17 < 111; decide)
      have s17 := Rega.eval_of q17
      go_simp
      exact hK _ α _ (fun _ _ => rfl) rfl (step_same (rLO1_st pb PC ib xb tl kb kl eb ll TR xr lr o0 o1 loc B1_3 B1_2 B1_1 B1) hL hcl rfl rfl hG)
    · intro L9 α a9 u9 K9 hL hcl hA hG hS h0 hK
      replace hL : L9 9 = false := hL
      have q17 : a9.tmps[17]? = some (.tuple #[.agg #[.nilIface, .int .i32 0], .agg #[.int .i32 0], .pointer none]) := hS 6 17 (by decide) rfl (by show 17 < 111; decide)
      have s17 := Rega.eval_of q17
      go_simp
      exact hK _ α _ (fun _ _ => rfl) rfl (step_same (rLO1_st pb PC ib xb tl kb kl eb ll TR xr lr o0 o1 loc B1_3 B1_2 B1_1 B1) hL hcl rfl rfl hG)
    · intro L9 α a9 u9 K9 hL hcl hA hG hS h0 hK
      replace hL : L9 10 = false := hL
      go_simp
      have e1 : rLO1R pb PC ib xb tl kb kl eb ll TR xr lr o0 o1 loc B1_3 B1_2 B1_1 B1 (Rega.ran L9 10) (fun j => if j = 10 then u9.heap.size else α j) 10 = row (u9.heap.size) 34 #[.nilIface, .int .i32 0] := by
        show rLO1T10 pb PC ib xb tl kb kl eb ll TR xr lr o0 o1 loc B1_3 B1_2 B1_1 B1 (Rega.ran L9 10) (fun j => if j = 10 then u9.heap.size else α j) = _
        unfold rLO1T10
        exact ((if_neg (fun e => (fun e => by have := hcl 12 e 10 (by decide); rw [hL] at this; cases this) ((ran_ne (by decide)).symm.trans e))).trans rfl)
      exact hK _ (fun j => if j = 10 then u9.heap.size else α j) _ (fun j hj => if_neg (fun e => hj (by rw [e]))) rfl (step_alloc (rLO1_st pb PC ib xb tl kb kl eb ll TR xr lr o0 o1 loc B1_3 B1_2 B1_1 B1) hL hcl rfl rfl (by decide) _ e1 hG)
    · intro L9 α a9 u9 K9 hL hcl hA hG hS h0 hK
      replace hL : L9 11 = false := hL
      go_simp
      have e1 : rLO1R pb PC ib xb tl kb kl eb ll TR xr lr o0 o1 loc B1_3 B1_2 B1_1 B1 (Rega.ran L9 11) (fun j => if j = 11 then u9.heap.size else α j) 11 = row (u9.heap.size) 32 #[.int .i32 0] := by
        show rLO1T11 pb PC ib xb tl kb kl eb ll TR xr lr o0 o1 loc B1_3 B1_2 B1_1 B1 (Rega.ran L9 11) (fun j => if j = 11 then u9.heap.size else α j) = _
        unfold rLO1T11
        exact ((if_neg (fun e => (fun e => by have := hcl 13 e 11 (by decide); rw [hL] at this; cases this) ((ran_ne (by decide)).symm.trans e))).trans rfl)
      exact hK _ (fun j => if j = 11 then u9.heap.size else α j) _ (fun j hj => if_neg (fun e => hj (by rw [e]))) rfl (step_alloc (rLO1_st pb PC ib xb tl kb kl eb ll TR xr lr o0 o1 loc B1_3 B1_2 B1_1 B1) hL hcl rfl rfl (by decide) _ e1 hG)
    · intro L9 α a9 u9 K9 hL hcl hA hG hS h0 hK
      replace hL : L9 12 = false := hL
      have q8 : a9.tmps[8]? = some (.pointer (some ⟨α 10, 0, none⟩)) := hS 10 8 (by decide) rfl (by show 8 < 111; decide)
      have s8 := Rega.eval_of q8
      have q24 : a9.tmps[24]? = some (.agg #[.nilIface, .int .i32 0]) := hS 7 24 (by decide) rfl (by show 24 < 111; decide)
      have s24 := Rega.eval_of q24
      have e0 : rLO1R pb PC ib xb tl kb kl eb ll TR xr lr o0 o1 loc B1_3 B1_2 B1_1 B1 L9 α 10 = row (α 10) 34 #[.nilIface, .int .i32 0] := by
        show rLO1T10 pb PC ib xb tl kb kl eb ll TR xr lr o0 o1 loc B1_3 B1_2 B1_1 B1 L9 α = _
        unfold rLO1T10
        rw [if_neg (by rw [hL]; decide)]
      have hr := hG.rowAt 10 (act_new 10 rfl (hA 10 (by decide))) e0
      have c0 : u9.cell? ⟨α 10, 0, none⟩ = some (.nilIface) := hr.cell rfl
      have y0 : u9.frozen? ⟨α 10, 0, none⟩ = false := hr.free 0
      have c1 : u9.cell? ⟨α 10, 1, none⟩ = some (.int .i32 0) := hr.cell rfl
      have y1 : u9.frozen? ⟨α 10, 1, none⟩ = false := hr.free 1
      clear hr
      have E0 := Lib.hid e0
      clear e0
      go_simp
      have e1 : rLO1R pb PC ib xb tl kb kl eb ll TR xr lr o0 o1 loc B1_3 B1_2 B1_1 B1 (Rega.ran L9 12) α 10 = row (α 10) 34 #[.nilIface, .int .i32 0] := by
        show rLO1T10 pb PC ib xb tl kb kl eb ll TR xr lr o0 o1 loc B1_3 B1_2 B1_1 B1 (Rega.ran L9 12) α = _
        unfold rLO1T10
        rw [if_pos (show Rega.ran L9 12 12 = true from rfl)]
      exact hK _ α _ (fun _ _ => rfl) rfl (step_sets (rLO1_st pb PC ib xb tl kb kl eb ll TR xr lr o0 o1 loc B1_3 B1_2 B1_1 B1) hL hcl rfl 10 rfl (act_new 10 rfl (hA 10 (by decide))) E0.out 0 [.nilIface, .int .i32 0] (e1.trans rfl) hG)
    · intro L9 α a9 u9 K9 hL hcl hA hG hS h0 hK
      replace hL : L9 13 = false := hL
      have q9 : a9.tmps[9]? = some (.pointer (some ⟨α 11, 0, none⟩)) := hS 11 9 (by decide) rfl (by show 9 < 111; decide)
      have s9 := Rega.eval_of q9
      have q25 : a9.tmps[25]? = some (.agg #[.int .i32 0]) := hS 8 25 (by decide) rfl (by show 25 < 111; decide)
      have s25 := Rega.eval_of q25
      have e0 : rLO1R pb PC ib xb tl kb kl eb ll TR xr lr o0 o1 loc B1_3 B1_2 B1_1 B1 L9 α 11 = row (α 11) 32 #[.int .i32 0] := by
        show rLO1T11 pb PC ib xb tl kb kl eb ll TR xr lr o0 o1 loc B1_3 B1_2 B1_1 B1 L9 α = _
        unfold rLO1T11
        rw [if_neg (by rw [hL]; decide)]
      have hr := hG.rowAt 11 (act_new 11 rfl (hA 11 (by decide))) e0
      have c0 : u9.cell? ⟨α 11, 0, none⟩ = some (.int .i32 0) := hr.cell rfl
      have y0 : u9.frozen? ⟨α 11, 0, none⟩ = false := hr.free 0
      clear hr
      have E0 := Lib.hid e0
      clear e0
      go_simp
      have e1 : rLO1R pb PC ib xb tl kb kl eb ll TR xr lr o0 o1 loc B1_3 B1_2 B1_1 B1 (Rega.ran L9 13) α 11 = row (α 11) 32 #[.int .i32 0] := by
        show rLO1T11 pb PC ib xb tl kb kl eb ll TR xr lr o0 o1 loc B1_3 B1_2 B1_1 B1 (Rega.ran L9 13) α = _
        unfold rLO1T11
        rw [if_pos (show Rega.ran L9 13 13 = true from rfl)]
      exact hK _ α _ (fun _ _ => rfl) rfl (step_sets (rLO1_st pb PC ib xb tl kb kl eb ll TR xr lr o0 o1 loc B1_3 B1_2 B1_1 B1) hL hcl rfl 11 rfl (act_new 11 rfl (hA 11 (by decide))) E0.out 0 [.int .i32 0] (e1.trans rfl) hG)
    · intro L9 α a9 u9 K9 hL hcl hA hG hS h0 hK
      replace hL : L9 14 = false := hL
      have q26 : a9.tmps[26]? = some (.pointer none) := hS 9 26 (by decide) rfl (by show 26 < 111; decide)
      have s26 := Rega.eval_of q26
      go_simp
      exact hK _ α _ (fun _ _ => rfl) rfl (step_same (rLO1_st pb PC ib xb tl kb kl eb ll TR xr lr o0 o1 loc B1_3 B1_2 B1_1 B1) hL hcl rfl rfl hG)
  · intro α u hG
    have e0 : rLO1R pb PC ib xb tl kb kl eb ll TR xr lr o0 o1 loc B1_3 B1_2 B1_1 B1 (fun k => decide (k < 15)) α 999 = row (B1_3) 34 #[.nilIface, .int .i32 0] := rfl
    have e1 : rLO1R pb PC ib xb tl kb kl eb ll TR xr lr o0 o1 loc B1_3 B1_2 B1_1 B1 (fun k => decide (k < 15)) α 1999 = row (B1_2) 42 #[.pointer (some ⟨eb, 0, none⟩)] := rfl
    have e2 : rLO1R pb PC ib xb tl kb kl eb ll TR xr lr o0 o1 loc B1_3 B1_2 B1_1 B1 (fun k => decide (k < 15)) α 2999 = row (B1_1) 32 #[.int .i32 loc] := rfl
    have e3 : rLO1R pb PC ib xb tl kb kl eb ll TR xr lr o0 o1 loc B1_3 B1_2 B1_1 B1 (fun k => decide (k < 15)) α 3999 = row (B1) 25 #[.pointer (some ⟨pb, 0, none⟩)] := rfl
    have e4 : rLO1R pb PC ib xb tl kb kl eb ll TR xr lr o0 o1 loc B1_3 B1_2 B1_1 B1 (fun k => decide (k < 15)) α 4999 = row (pb) 178 PC := rfl
    have e5 : rLO1R pb PC ib xb tl kb kl eb ll TR xr lr o0 o1 loc B1_3 B1_2 B1_1 B1 (fun k => decide (k < 15)) α 5999 = row (eb) 45 #[.iface 38 (.pointer (some ⟨xb, 0, none⟩)), .int .i32 ll, .iface TR (.pointer (some ⟨xr, 0, none⟩)), .int .i32 lr, .int .u8 o0, .bool o1] := rfl
    have e6 : rLO1R pb PC ib xb tl kb kl eb ll TR xr lr o0 o1 loc B1_3 B1_2 B1_1 B1 (fun k => decide (k < 15)) α 6999 = row (xb) 56 #[.iface 52 (.pointer (some ⟨ib, 0, none⟩)), .int .i32 tl, .iface 40 (.pointer (some ⟨kb, 0, none⟩)), .int .i32 kl, .int .i32 0, .int .u8 0, .bool false, .bool false, .bool false] := rfl
    have e7 : rLO1R pb PC ib xb tl kb kl eb ll TR xr lr o0 o1 loc B1_3 B1_2 B1_1 B1 (fun k => decide (k < 15)) α 10 = row (α 10) 34 #[.nilIface, .int .i32 0] := by
      show rLO1T10 pb PC ib xb tl kb kl eb ll TR xr lr o0 o1 loc B1_3 B1_2 B1_1 B1 (fun k => decide (k < 15)) α = _
      unfold rLO1T10
      rw [if_pos (by decide)]
    have e8 : rLO1R pb PC ib xb tl kb kl eb ll TR xr lr o0 o1 loc B1_3 B1_2 B1_1 B1 (fun k => decide (k < 15)) α 11 = row (α 11) 32 #[.int .i32 0] := by
      show rLO1T11 pb PC ib xb tl kb kl eb ll TR xr lr o0 o1 loc B1_3 B1_2 B1_1 B1 (fun k => decide (k < 15)) α = _
      unfold rLO1T11
      rw [if_pos (by decide)]
    have hO : Own w0 u [row (B1_3) 34 #[.nilIface, .int .i32 0], row (B1_2) 42 #[.pointer (some ⟨eb, 0, none⟩)], row (B1_1) 32 #[.int .i32 loc], row (B1) 25 #[.pointer (some ⟨pb, 0, none⟩)], row (pb) 178 PC, row (eb) 45 #[.iface 38 (.pointer (some ⟨xb, 0, none⟩)), .int .i32 ll, .iface TR (.pointer (some ⟨xr, 0, none⟩)), .int .i32 lr, .int .u8 o0, .bool o1], row (xb) 56 #[.iface 52 (.pointer (some ⟨ib, 0, none⟩)), .int .i32 tl, .iface 40 (.pointer (some ⟨kb, 0, none⟩)), .int .i32 kl, .int .i32 0, .int .u8 0, .bool false, .bool false, .bool false], row (α 10) 34 #[.nilIface, .int .i32 0], row (α 11) 32 #[.int .i32 0]] X := (hG.list [999, 1999, 2999, 3999, 4999, 5999, 6999, 10, 11] (by decide) (act_all (by decide))).conv (by
      show [rLO1R pb PC ib xb tl kb kl eb ll TR xr lr o0 o1 loc B1_3 B1_2 B1_1 B1 (fun k => decide (k < 15)) α 999, rLO1R pb PC ib xb tl kb kl eb ll TR xr lr o0 o1 loc B1_3 B1_2 B1_1 B1 (fun k => decide (k < 15)) α 1999, rLO1R pb PC ib xb tl kb kl eb ll TR xr lr o0 o1 loc B1_3 B1_2 B1_1 B1 (fun k => decide (k < 15)) α 2999, rLO1R pb PC ib xb tl kb kl eb ll TR xr lr o0 o1 loc B1_3 B1_2 B1_1 B1 (fun k => decide (k < 15)) α 3999, rLO1R pb PC ib xb tl kb kl eb ll TR xr lr o0 o1 loc B1_3 B1_2 B1_1 B1 (fun k => decide (k < 15)) α 4999, rLO1R pb PC ib xb tl kb kl eb ll TR xr lr o0 o1 loc B1_3 B1_2 B1_1 B1 (fun k => decide (k < 15)) α 5999, rLO1R pb PC ib xb tl kb kl eb ll TR xr lr o0 o1 loc B1_3 B1_2 B1_1 B1 (fun k => decide (k < 15)) α 6999, rLO1R pb PC ib xb tl kb kl eb ll TR xr lr o0 o1 loc B1_3 B1_2 B1_1 B1 (fun k => decide (k < 15)) α 10, rLO1R pb PC ib xb tl kb kl eb ll TR xr lr o0 o1 loc B1_3 B1_2 B1_1 B1 (fun k => decide (k < 15)) α 11] = _
      rw [e0, e1, e2, e3, e4, e5, e6, e7, e8])
    clear hG e0 e1 e2 e3 e4 e5 e6 e7 e8
    generalize hfr : Rega.frameAt _ _ _ _ _ = fr
    have hdf : fr = ⟨#[.pointer (some ⟨pb, 0, none⟩), .agg #[.int .i32 loc], .pointer (some ⟨eb, 0, none⟩), .pointer (some ⟨B1, 0, none⟩), .pointer (some ⟨B1_1, 0, none⟩), .pointer (some ⟨B1_2, 0, none⟩), .pointer (some ⟨B1_3, 0, none⟩), .bool false, .pointer (some ⟨α 10, 0, none⟩), .pointer (some ⟨α 11, 0, none⟩), .pointer none, undef, undef, undef, undef, undef, undef, .tuple #[.agg #[.nilIface, .int .i32 0], .agg #[.int .i32 0], .pointer none], .pointer (some ⟨pb, 0, none⟩), .pointer (some ⟨eb, 0, none⟩), .pointer (some ⟨eb, 0, none⟩), .pointer (some ⟨eb, 0, none⟩), .agg #[.iface 38 (.pointer (some ⟨xb, 0, none⟩)), .int .i32 ll], .tuple #[.agg #[.nilIface, .int .i32 0], .agg #[.int .i32 0], .pointer none], .agg #[.nilIface, .int .i32 0], .agg #[.int .i32 0], .pointer none, undef, undef, undef, undef, undef, undef, undef, undef, undef, undef, undef, undef, undef, undef, undef, undef, undef, undef, undef, undef, undef, undef, undef, undef, undef, undef, undef, undef, undef, undef, undef, undef, undef, undef, undef, undef, undef, undef, undef, undef, undef, undef, undef, undef, undef, undef, undef, undef, undef, undef, undef, undef, undef, undef, undef, undef, undef, undef, undef, undef, undef, undef, undef, undef, undef, undef, undef, undef, undef, undef, undef, undef, undef, undef, undef, undef, undef, undef, undef, undef, undef, undef, undef, undef], []⟩ := by rw [← hfr]; kernel_rfl
    clear hfr
    subst hdf
    generalize α 10 = nd3 at hO ⊢
    generalize α 11 = nd4 at hO ⊢
    clear α
    have c9_0_0 : u.cell? ⟨B1_3, 0, none⟩ = some (.nilIface) := hO.cell 0 rfl 0 rfl
    have c9_0_1 : u.cell? ⟨B1_3, 1, none⟩ = some (.int .i32 0) := hO.cell 0 rfl 1 rfl
    have lt9_0 : B1_3 < u.heap.size := hO.lt 0 rfl
    have y9_0 : ∀ o, u.frozen? ⟨B1_3, o, none⟩ = false := hO.free 0 rfl
    have c9_1_0 : u.cell? ⟨B1_2, 0, none⟩ = some (.pointer (some ⟨eb, 0, none⟩)) := hO.cell 1 rfl 0 rfl
    have lt9_1 : B1_2 < u.heap.size := hO.lt 1 rfl
    have y9_1 : ∀ o, u.frozen? ⟨B1_2, o, none⟩ = false := hO.free 1 rfl
    have c9_2_0 : u.cell? ⟨B1_1, 0, none⟩ = some (.int .i32 loc) := hO.cell 2 rfl 0 rfl
    have lt9_2 : B1_1 < u.heap.size := hO.lt 2 rfl
    have y9_2 : ∀ o, u.frozen? ⟨B1_1, o, none⟩ = false := hO.free 2 rfl
    have c9_3_0 : u.cell? ⟨B1, 0, none⟩ = some (.pointer (some ⟨pb, 0, none⟩)) := hO.cell 3 rfl 0 rfl
    have lt9_3 : B1 < u.heap.size := hO.lt 3 rfl
    have y9_3 : ∀ o, u.frozen? ⟨B1, o, none⟩ = false := hO.free 3 rfl
    have c9_4_23 : u.cell? ⟨pb, 23, none⟩ = some (.int .u64 x) := hO.cell 4 rfl 23 (hx)
    have lt9_4 : pb < u.heap.size := hO.lt 4 rfl
    have y9_4 : ∀ o, u.frozen? ⟨pb, o, none⟩ = false := hO.free 4 rfl
    have c9_5_0 : u.cell? ⟨eb, 0, none⟩ = some (.iface 38 (.pointer (some ⟨xb, 0, none⟩))) := hO.cell 5 rfl 0 rfl
    have c9_5_1 : u.cell? ⟨eb, 1, none⟩ = some (.int .i32 ll) := hO.cell 5 rfl 1 rfl
    have c9_5_2 : u.cell? ⟨eb, 2, none⟩ = some (.iface TR (.pointer (some ⟨xr, 0, none⟩))) := hO.cell 5 rfl 2 rfl
    have c9_5_3 : u.cell? ⟨eb, 3, none⟩ = some (.int .i32 lr) := hO.cell 5 rfl 3 rfl
    have c9_5_4 : u.cell? ⟨eb, 4, none⟩ = some (.int .u8 o0) := hO.cell 5 rfl 4 rfl
    have c9_5_5 : u.cell? ⟨eb, 5, none⟩ = some (.bool o1) := hO.cell 5 rfl 5 rfl
    have lt9_5 : eb < u.heap.size := hO.lt 5 rfl
    have y9_5 : ∀ o, u.frozen? ⟨eb, o, none⟩ = false := hO.free 5 rfl
    have c9_6_0 : u.cell? ⟨xb, 0, none⟩ = some (.iface 52 (.pointer (some ⟨ib, 0, none⟩))) := hO.cell 6 rfl 0 rfl
    have c9_6_1 : u.cell? ⟨xb, 1, none⟩ = some (.int .i32 tl) := hO.cell 6 rfl 1 rfl
    have c9_6_2 : u.cell? ⟨xb, 2, none⟩ = some (.iface 40 (.pointer (some ⟨kb, 0, none⟩))) := hO.cell 6 rfl 2 rfl
    have c9_6_3 : u.cell? ⟨xb, 3, none⟩ = some (.int .i32 kl) := hO.cell 6 rfl 3 rfl
    have c9_6_4 : u.cell? ⟨xb, 4, none⟩ = some (.int .i32 0) := hO.cell 6 rfl 4 rfl
    have c9_6_5 : u.cell? ⟨xb, 5, none⟩ = some (.int .u8 0) := hO.cell 6 rfl 5 rfl
    have c9_6_6 : u.cell? ⟨xb, 6, none⟩ = some (.bool false) := hO.cell 6 rfl 6 rfl
    have c9_6_7 : u.cell? ⟨xb, 7, none⟩ = some (.bool false) := hO.cell 6 rfl 7 rfl
    have c9_6_8 : u.cell? ⟨xb, 8, none⟩ = some (.bool false) := hO.cell 6 rfl 8 rfl
    have lt9_6 : xb < u.heap.size := hO.lt 6 rfl
    have y9_6 : ∀ o, u.frozen? ⟨xb, o, none⟩ = false := hO.free 6 rfl
    have c9_7_0 : u.cell? ⟨nd3, 0, none⟩ = some (.nilIface) := hO.cell 7 rfl 0 rfl
    have c9_7_1 : u.cell? ⟨nd3, 1, none⟩ = some (.int .i32 0) := hO.cell 7 rfl 1 rfl
    have lt9_7 : nd3 < u.heap.size := hO.lt 7 rfl
    have y9_7 : ∀ o, u.frozen? ⟨nd3, o, none⟩ = false := hO.free 7 rfl
    have c9_8_0 : u.cell? ⟨nd4, 0, none⟩ = some (.int .i32 0) := hO.cell 8 rfl 0 rfl
    have lt9_8 : nd4 < u.heap.size := hO.lt 8 rfl
    have y9_8 : ∀ o, u.frozen? ⟨nd4, o, none⟩ = false := hO.free 8 rfl
    have HO := Lib.hid hO
    clear hO
    go_wp2_with (go_at_call 21; go_in)
    have hO := HO.out
    clear HO c9_0_0 c9_0_1 lt9_0 y9_0 c9_1_0 lt9_1 y9_1 c9_2_0 lt9_2 y9_2 c9_3_0 lt9_3 y9_3 c9_4_23 lt9_4 y9_4 c9_5_0 c9_5_1 c9_5_2 c9_5_3 c9_5_4 c9_5_5 lt9_5 y9_5 c9_6_0 c9_6_1 c9_6_2 c9_6_3 c9_6_4 c9_6_5 c9_6_6 c9_6_7 c9_6_8 lt9_6 y9_6 c9_7_0 c9_7_1 lt9_7 y9_7 c9_8_0 lt9_8 y9_8
    generalize hW : World.setCell _ _ _ = W6
    have hN : Own w0 W6 [row (B1_3) 34 #[.nilIface, .int .i32 0], row (B1_2) 42 #[.pointer (some ⟨eb, 0, none⟩)], row (B1_1) 32 #[.int .i32 loc], row (B1) 25 #[.pointer (some ⟨pb, 0, none⟩)], row (pb) 178 PC, row (eb) 45 #[.iface 38 (.pointer (some ⟨xb, 0, none⟩)), .int .i32 ll, .iface TR (.pointer (some ⟨xr, 0, none⟩)), .int .i32 lr, .int .u8 o0, .bool o1], row (xb) 56 #[.iface 52 (.pointer (some ⟨ib, 0, none⟩)), .int .i32 tl, .iface 40 (.pointer (some ⟨kb, 0, none⟩)), .int .i32 kl, .int .i32 0, .int .u8 0, .bool false, .bool false, .bool false], row (nd3) 34 #[.nilIface, .int .i32 0], row (nd4) 32 #[.int .i32 0]] X := by
      rw [← hW]
      exact ((hO).set 0 rfl 0 _).set 0 rfl 1 _
    clear hW hO
    have hO := hN
    clear hN
    have z9_0_0 : W6.cell? ⟨B1_3, 0, none⟩ = some (.nilIface) := hO.cell 0 rfl 0 rfl
    have z9_0_1 : W6.cell? ⟨B1_3, 1, none⟩ = some (.int .i32 0) := hO.cell 0 rfl 1 rfl
    refine bodyPost_ret (v := .tuple #[.agg #[.nilIface, .int .i32 0], .bool false]) ?_ rfl ⟨rfl, hO.sub [4, 5, 6] (by decide)⟩
    simp [results, Tryz.results17, go_sem, z9_0_0, z9_0_1]
def doorNaPost (pb sb n cap : Nat) (PC C : Array Value) (x : Int) (i c cz : Nat) (src : Int) (ib xb : Nat) (tl : Int) (kb : Nat) (kl : Int) (kv eb : Nat) (ll : Int) (TR xr : Nat) (lr o0 : Int) (o1 : Bool) (loc : Int) (w0 : World) (X : Nat → Obj → Prop) (e : Ending) (w' : World) : Prop :=
  ∃ ab : Nat, ∃ cb : Nat, ∃ d1 : Nat, ∃ d2 : Nat, ∃ i1 : Nat, ∃ k1 : Nat, ∃ i2 : Nat, ∃ k2 : Nat, e = .returned (.tuple #[.agg #[.iface 42 (.pointer (some ⟨ab, 0, none⟩)), .int .i32 loc], .bool true]) ∧ Own w0 w' [row (pb) 178 PC, row (sb) 196 (bumped (bumped C i c) i cz), row (eb) 45 #[.iface 38 (.pointer (some ⟨xb, 0, none⟩)), .int .i32 ll, .iface TR (.pointer (some ⟨xr, 0, none⟩)), .int .i32 lr, .int .u8 o0, .bool o1], row (xb) 56 #[.iface 52 (.pointer (some ⟨ib, 0, none⟩)), .int .i32 tl, .iface 40 (.pointer (some ⟨kb, 0, none⟩)), .int .i32 kl, .int .i32 0, .int .u8 0, .bool false, .bool false, .bool false], row (ib) 180 #[.int .u32 src, .int .u32 (i : Int), .bool false, .bool false, .bool false], row (kb) 182 #[.float .f64 kv], row (ab) 45 #[.iface 38 (.pointer (some ⟨d1, 0, none⟩)), .int .i32 ll, .iface 42 (.pointer (some ⟨cb, 0, none⟩)), .int .i32 ll, .int .u8 30, .bool false], row (cb) 45 #[.iface 38 (.pointer (some ⟨d2, 0, none⟩)), .int .i32 ll, .iface TR (.pointer (some ⟨xr, 0, none⟩)), .int .i32 lr, .int .u8 37, .bool false], row (d1) 56 #[.iface 52 (.pointer (some ⟨i1, 0, none⟩)), .int .i32 ll, .iface 40 (.pointer (some ⟨k1, 0, none⟩)), .int .i32 ll, .int .i32 0, .int .u8 0, .bool false, .bool false, .bool false], row (d2) 56 #[.iface 52 (.pointer (some ⟨i2, 0, none⟩)), .int .i32 ll, .iface 40 (.pointer (some ⟨k2, 0, none⟩)), .int .i32 ll, .int .i32 0, .int .u8 0, .bool false, .bool false, .bool false], row (i1) 180 #[.int .u32 src, .int .u32 (i : Int), .bool false, .bool false, .bool false], row (k1) 182 #[.float .f64 kv], row (i2) 180 #[.int .u32 src, .int .u32 (i : Int), .bool false, .bool false, .bool false], row (k2) 182 #[.float .f64 kv]] X
set_option maxRecDepth 100000 in
set_option maxHeartbeats 1000000 in
theorem doorNa (pb sb n cap : Nat) (PC C : Array Value) (x : Int) (i c cz : Nat) (src : Int) (ib xb : Nat) (tl : Int) (kb : Nat) (kl : Int) (kv eb : Nat) (ll : Int) (TR xr : Nat) (lr o0 : Int) (o1 : Bool) (loc : Int) (w0 w : World) (X : Nat → Obj → Prop) (hO : Own w0 w [row (pb) 178 PC, row (sb) 196 C, row (eb) 45 #[.iface 38 (.pointer (some ⟨xb, 0, none⟩)), .int .i32 ll, .iface TR (.pointer (some ⟨xr, 0, none⟩)), .int .i32 lr, .int .u8 o0, .bool o1], row (xb) 56 #[.iface 52 (.pointer (some ⟨ib, 0, none⟩)), .int .i32 tl, .iface 40 (.pointer (some ⟨kb, 0, none⟩)), .int .i32 kl, .int .i32 0, .int .u8 0, .bool false, .bool false, .bool false], row (ib) 180 #[.int .u32 src, .int .u32 (i : Int), .bool false, .bool false, .bool false], row (kb) 182 #[.float .f64 kv]] X) (hR : Ready PC sb n cap) (hn : n ≤ 4294967295) (hi : i < n) (hc : C[i * 10 + 4]? = some (.int .u32 (c : Int))) (hcm : c < 4294967295) (hcz : (bumped C i c)[i * 10 + 4]? = some (.int .u32 (cz : Int))) (hczm : cz < 4294967295) (hx : PC[23]? = some (.int .u64 x)) (hx1 : (bits BinOp.and IntKind.u64 x 4398046511104 != 0) = false) (hx2 : (bits BinOp.and IntKind.u64 x 137438953472 != 0) = true) :
    Calls Tryz.prog 10 #[.pointer (some ⟨pb, 0, none⟩), .agg #[.int .i32 loc], .pointer (some ⟨eb, 0, none⟩)] w (doorNaPost pb sb n cap PC C x i c cz src ib xb tl kb kl kv eb ll TR xr lr o0 o1 loc w0 X) := by
  go_enter Tryz.func10, Tryz.ntmps10
  have c9_2_0 : w.cell? ⟨eb, 0, none⟩ = some (.iface 38 (.pointer (some ⟨xb, 0, none⟩))) := hO.cell 2 rfl 0 rfl
  have c9_2_1 : w.cell? ⟨eb, 1, none⟩ = some (.int .i32 ll) := hO.cell 2 rfl 1 rfl
  have c9_2_2 : w.cell? ⟨eb, 2, none⟩ = some (.iface TR (.pointer (some ⟨xr, 0, none⟩))) := hO.cell 2 rfl 2 rfl
  have c9_2_3 : w.cell? ⟨eb, 3, none⟩ = some (.int .i32 lr) := hO.cell 2 rfl 3 rfl
  have c9_2_4 : w.cell? ⟨eb, 4, none⟩ = some (.int .u8 o0) := hO.cell 2 rfl 4 rfl
  have c9_2_5 : w.cell? ⟨eb, 5, none⟩ = some (.bool o1) := hO.cell 2 rfl 5 rfl
  have lt9_2 : eb < w.heap.size := hO.lt 2 rfl
  have y9_2 : ∀ o, w.frozen? ⟨eb, o, none⟩ = false := hO.free 2 rfl
  have c9_3_0 : w.cell? ⟨xb, 0, none⟩ = some (.iface 52 (.pointer (some ⟨ib, 0, none⟩))) := hO.cell 3 rfl 0 rfl
  have c9_3_1 : w.cell? ⟨xb, 1, none⟩ = some (.int .i32 tl) := hO.cell 3 rfl 1 rfl
  have c9_3_2 : w.cell? ⟨xb, 2, none⟩ = some (.iface 40 (.pointer (some ⟨kb, 0, none⟩))) := hO.cell 3 rfl 2 rfl
  have c9_3_3 : w.cell? ⟨xb, 3, none⟩ = some (.int .i32 kl) := hO.cell 3 rfl 3 rfl
  have c9_3_4 : w.cell? ⟨xb, 4, none⟩ = some (.int .i32 0) := hO.cell 3 rfl 4 rfl
  have c9_3_5 : w.cell? ⟨xb, 5, none⟩ = some (.int .u8 0) := hO.cell 3 rfl 5 rfl
  have c9_3_6 : w.cell? ⟨xb, 6, none⟩ = some (.bool false) := hO.cell 3 rfl 6 rfl
  have c9_3_7 : w.cell? ⟨xb, 7, none⟩ = some (.bool false) := hO.cell 3 rfl 7 rfl
  have c9_3_8 : w.cell? ⟨xb, 8, none⟩ = some (.bool false) := hO.cell 3 rfl 8 rfl
  have lt9_3 : xb < w.heap.size := hO.lt 3 rfl
  have y9_3 : ∀ o, w.frozen? ⟨xb, o, none⟩ = false := hO.free 3 rfl
  have c9_4_0 : w.cell? ⟨ib, 0, none⟩ = some (.int .u32 src) := hO.cell 4 rfl 0 rfl
  have c9_4_1 : w.cell? ⟨ib, 1, none⟩ = some (.int .u32 (i : Int)) := hO.cell 4 rfl 1 rfl
  have c9_4_2 : w.cell? ⟨ib, 2, none⟩ = some (.bool false) := hO.cell 4 rfl 2 rfl
  have c9_4_3 : w.cell? ⟨ib, 3, none⟩ = some (.bool false) := hO.cell 4 rfl 3 rfl
  have c9_4_4 : w.cell? ⟨ib, 4, none⟩ = some (.bool false) := hO.cell 4 rfl 4 rfl
  have lt9_4 : ib < w.heap.size := hO.lt 4 rfl
  have y9_4 : ∀ o, w.frozen? ⟨ib, o, none⟩ = false := hO.free 4 rfl
  have c9_5_0 : w.cell? ⟨kb, 0, none⟩ = some (.float .f64 kv) := hO.cell 5 rfl 0 rfl
  have lt9_5 : kb < w.heap.size := hO.lt 5 rfl
  have y9_5 : ∀ o, w.frozen? ⟨kb, o, none⟩ = false := hO.free 5 rfl
  have HO := Lib.hid hO
  clear hO
  go_wp2_with fail
  have hO := HO.out
  clear HO c9_2_0 c9_2_1 c9_2_2 c9_2_3 c9_2_4 c9_2_5 lt9_2 y9_2 c9_3_0 c9_3_1 c9_3_2 c9_3_3 c9_3_4 c9_3_5 c9_3_6 c9_3_7 c9_3_8 lt9_3 y9_3 c9_4_0 c9_4_1 c9_4_2 c9_4_3 c9_4_4 lt9_4 y9_4 c9_5_0 lt9_5 y9_5
  generalize hW : World.alloc _ _ = W2
  have hN : Own w0 W2 [row (w.heap.size + 1) 34 #[.nilIface, .int .i32 0], row (w.heap.size) 32 #[.int .i32 loc], row (pb) 178 PC, row (sb) 196 C, row (eb) 45 #[.iface 38 (.pointer (some ⟨xb, 0, none⟩)), .int .i32 ll, .iface TR (.pointer (some ⟨xr, 0, none⟩)), .int .i32 lr, .int .u8 o0, .bool o1], row (xb) 56 #[.iface 52 (.pointer (some ⟨ib, 0, none⟩)), .int .i32 tl, .iface 40 (.pointer (some ⟨kb, 0, none⟩)), .int .i32 kl, .int .i32 0, .int .u8 0, .bool false, .bool false, .bool false], row (ib) 180 #[.int .u32 src, .int .u32 (i : Int), .bool false, .bool false, .bool false], row (kb) 182 #[.float .f64 kv]] X := by
    rw [← hW]
    exact ((hO).alloc' _ (w.heap.size) (by simp)).alloc' _ (w.heap.size + 1) (by simp)
  clear hW hO
  generalize w.heap.size + 1 = B1_1 at hN ⊢
  generalize w.heap.size = B1 at hN ⊢
  have hO := hN
  clear hN
  have hL := hO.apart
  have hX := hO.apartX
  have HL := Lib.hid hL
  have HX := Lib.hid hX
  clear hL hX
  have hP9 := hO.pick [2, 3, 4, 5, 6, 7] (by decide)
  have T9 := lowNa pb sb n cap PC C x i c cz src ib xb tl kb kl kv eb ll TR xr lr o0 o1 loc _ _ _ hP9 hR hn hi hc hcm hcz hczm hx hx1 hx2
  refine Calls.mono T9 ?_
  clear hP9 T9
  rintro e u3 ⟨nd4, nd5, nd6, nd7, nd8, nd9, nd10, nd11, rfl, hQ⟩
  have hN : Own w0 u3 [row (pb) 178 PC, row (sb) 196 (bumped (bumped C i c) i cz), row (eb) 45 #[.iface 38 (.pointer (some ⟨xb, 0, none⟩)), .int .i32 ll, .iface TR (.pointer (some ⟨xr, 0, none⟩)), .int .i32 lr, .int .u8 o0, .bool o1], row (xb) 56 #[.iface 52 (.pointer (some ⟨ib, 0, none⟩)), .int .i32 tl, .iface 40 (.pointer (some ⟨kb, 0, none⟩)), .int .i32 kl, .int .i32 0, .int .u8 0, .bool false, .bool false, .bool false], row (ib) 180 #[.int .u32 src, .int .u32 (i : Int), .bool false, .bool false, .bool false], row (kb) 182 #[.float .f64 kv], row (nd4) 45 #[.iface 38 (.pointer (some ⟨nd6, 0, none⟩)), .int .i32 ll, .iface 42 (.pointer (some ⟨nd5, 0, none⟩)), .int .i32 ll, .int .u8 30, .bool false], row (nd5) 45 #[.iface 38 (.pointer (some ⟨nd7, 0, none⟩)), .int .i32 ll, .iface TR (.pointer (some ⟨xr, 0, none⟩)), .int .i32 lr, .int .u8 37, .bool false], row (nd6) 56 #[.iface 52 (.pointer (some ⟨nd8, 0, none⟩)), .int .i32 ll, .iface 40 (.pointer (some ⟨nd9, 0, none⟩)), .int .i32 ll, .int .i32 0, .int .u8 0, .bool false, .bool false, .bool false], row (nd7) 56 #[.iface 52 (.pointer (some ⟨nd10, 0, none⟩)), .int .i32 ll, .iface 40 (.pointer (some ⟨nd11, 0, none⟩)), .int .i32 ll, .int .i32 0, .int .u8 0, .bool false, .bool false, .bool false], row (nd8) 180 #[.int .u32 src, .int .u32 (i : Int), .bool false, .bool false, .bool false], row (nd9) 182 #[.float .f64 kv], row (nd10) 180 #[.int .u32 src, .int .u32 (i : Int), .bool false, .bool false, .bool false], row (nd11) 182 #[.float .f64 kv], row (B1_1) 34 #[.nilIface, .int .i32 0], row (B1) 32 #[.int .i32 loc]] X := hQ.back HL.out HX.out [0, 1] (by decide) (by decide)
  clear hQ HL HX hO
  have hO := hN
  clear hN
  have c9_2_0 : u3.cell? ⟨eb, 0, none⟩ = some (.iface 38 (.pointer (some ⟨xb, 0, none⟩))) := hO.cell 2 rfl 0 rfl
  have c9_2_1 : u3.cell? ⟨eb, 1, none⟩ = some (.int .i32 ll) := hO.cell 2 rfl 1 rfl
  have c9_2_2 : u3.cell? ⟨eb, 2, none⟩ = some (.iface TR (.pointer (some ⟨xr, 0, none⟩))) := hO.cell 2 rfl 2 rfl
  have c9_2_3 : u3.cell? ⟨eb, 3, none⟩ = some (.int .i32 lr) := hO.cell 2 rfl 3 rfl
  have c9_2_4 : u3.cell? ⟨eb, 4, none⟩ = some (.int .u8 o0) := hO.cell 2 rfl 4 rfl
  have c9_2_5 : u3.cell? ⟨eb, 5, none⟩ = some (.bool o1) := hO.cell 2 rfl 5 rfl
  have lt9_2 : eb < u3.heap.size := hO.lt 2 rfl
  have y9_2 : ∀ o, u3.frozen? ⟨eb, o, none⟩ = false := hO.free 2 rfl
  have c9_3_0 : u3.cell? ⟨xb, 0, none⟩ = some (.iface 52 (.pointer (some ⟨ib, 0, none⟩))) := hO.cell 3 rfl 0 rfl
  have c9_3_1 : u3.cell? ⟨xb, 1, none⟩ = some (.int .i32 tl) := hO.cell 3 rfl 1 rfl
  have c9_3_2 : u3.cell? ⟨xb, 2, none⟩ = some (.iface 40 (.pointer (some ⟨kb, 0, none⟩))) := hO.cell 3 rfl 2 rfl
  have c9_3_3 : u3.cell? ⟨xb, 3, none⟩ = some (.int .i32 kl) := hO.cell 3 rfl 3 rfl
  have c9_3_4 : u3.cell? ⟨xb, 4, none⟩ = some (.int .i32 0) := hO.cell 3 rfl 4 rfl
  have c9_3_5 : u3.cell? ⟨xb, 5, none⟩ = some (.int .u8 0) := hO.cell 3 rfl 5 rfl
  have c9_3_6 : u3.cell? ⟨xb, 6, none⟩ = some (.bool false) := hO.cell 3 rfl 6 rfl
  have c9_3_7 : u3.cell? ⟨xb, 7, none⟩ = some (.bool false) := hO.cell 3 rfl 7 rfl
  have c9_3_8 : u3.cell? ⟨xb, 8, none⟩ = some (.bool false) := hO.cell 3 rfl 8 rfl
  have lt9_3 : xb < u3.heap.size := hO.lt 3 rfl
  have y9_3 : ∀ o, u3.frozen? ⟨xb, o, none⟩ = false := hO.free 3 rfl
  have c9_4_0 : u3.cell? ⟨ib, 0, none⟩ = some (.int .u32 src) := hO.cell 4 rfl 0 rfl
  have c9_4_1 : u3.cell? ⟨ib, 1, none⟩ = some (.int .u32 (i : Int)) := hO.cell 4 rfl 1 rfl
  have c9_4_2 : u3.cell? ⟨ib, 2, none⟩ = some (.bool false) := hO.cell 4 rfl 2 rfl
  have c9_4_3 : u3.cell? ⟨ib, 3, none⟩ = some (.bool false) := hO.cell 4 rfl 3 rfl
  have c9_4_4 : u3.cell? ⟨ib, 4, none⟩ = some (.bool false) := hO.cell 4 rfl 4 rfl
  have lt9_4 : ib < u3.heap.size := hO.lt 4 rfl
  have y9_4 : ∀ o, u3.frozen? ⟨ib, o, none⟩ = false := hO.free 4 rfl
  have c9_5_0 : u3.cell? ⟨kb, 0, none⟩ = some (.float .f64 kv) := hO.cell 5 rfl 0 rfl
  have lt9_5 : kb < u3.heap.size := hO.lt 5 rfl
  have y9_5 : ∀ o, u3.frozen? ⟨kb, o, none⟩ = false := hO.free 5 rfl
  have c9_6_0 : u3.cell? ⟨nd4, 0, none⟩ = some (.iface 38 (.pointer (some ⟨nd6, 0, none⟩))) := hO.cell 6 rfl 0 rfl
  have c9_6_1 : u3.cell? ⟨nd4, 1, none⟩ = some (.int .i32 ll) := hO.cell 6 rfl 1 rfl
  have c9_6_2 : u3.cell? ⟨nd4, 2, none⟩ = some (.iface 42 (.pointer (some ⟨nd5, 0, none⟩))) := hO.cell 6 rfl 2 rfl
  have c9_6_3 : u3.cell? ⟨nd4, 3, none⟩ = some (.int .i32 ll) := hO.cell 6 rfl 3 rfl
  have c9_6_4 : u3.cell? ⟨nd4, 4, none⟩ = some (.int .u8 30) := hO.cell 6 rfl 4 rfl
  have c9_6_5 : u3.cell? ⟨nd4, 5, none⟩ = some (.bool false) := hO.cell 6 rfl 5 rfl
  have lt9_6 : nd4 < u3.heap.size := hO.lt 6 rfl
  have y9_6 : ∀ o, u3.frozen? ⟨nd4, o, none⟩ = false := hO.free 6 rfl
  have c9_7_0 : u3.cell? ⟨nd5, 0, none⟩ = some (.iface 38 (.pointer (some ⟨nd7, 0, none⟩))) := hO.cell 7 rfl 0 rfl
  have c9_7_1 : u3.cell? ⟨nd5, 1, none⟩ = some (.int .i32 ll) := hO.cell 7 rfl 1 rfl
  have c9_7_2 : u3.cell? ⟨nd5, 2, none⟩ = some (.iface TR (.pointer (some ⟨xr, 0, none⟩))) := hO.cell 7 rfl 2 rfl
  have c9_7_3 : u3.cell? ⟨nd5, 3, none⟩ = some (.int .i32 lr) := hO.cell 7 rfl 3 rfl
  have c9_7_4 : u3.cell? ⟨nd5, 4, none⟩ = some (.int .u8 37) := hO.cell 7 rfl 4 rfl
  have c9_7_5 : u3.cell? ⟨nd5, 5, none⟩ = some (.bool false) := hO.cell 7 rfl 5 rfl
  have lt9_7 : nd5 < u3.heap.size := hO.lt 7 rfl
  have y9_7 : ∀ o, u3.frozen? ⟨nd5, o, none⟩ = false := hO.free 7 rfl
  have c9_8_0 : u3.cell? ⟨nd6, 0, none⟩ = some (.iface 52 (.pointer (some ⟨nd8, 0, none⟩))) := hO.cell 8 rfl 0 rfl
  have c9_8_1 : u3.cell? ⟨nd6, 1, none⟩ = some (.int .i32 ll) := hO.cell 8 rfl 1 rfl
  have c9_8_2 : u3.cell? ⟨nd6, 2, none⟩ = some (.iface 40 (.pointer (some ⟨nd9, 0, none⟩))) := hO.cell 8 rfl 2 rfl
  have c9_8_3 : u3.cell? ⟨nd6, 3, none⟩ = some (.int .i32 ll) := hO.cell 8 rfl 3 rfl
  have c9_8_4 : u3.cell? ⟨nd6, 4, none⟩ = some (.int .i32 0) := hO.cell 8 rfl 4 rfl
  have c9_8_5 : u3.cell? ⟨nd6, 5, none⟩ = some (.int .u8 0) := hO.cell 8 rfl 5 rfl
  have c9_8_6 : u3.cell? ⟨nd6, 6, none⟩ = some (.bool false) := hO.cell 8 rfl 6 rfl
  have c9_8_7 : u3.cell? ⟨nd6, 7, none⟩ = some (.bool false) := hO.cell 8 rfl 7 rfl
  have c9_8_8 : u3.cell? ⟨nd6, 8, none⟩ = some (.bool false) := hO.cell 8 rfl 8 rfl
  have lt9_8 : nd6 < u3.heap.size := hO.lt 8 rfl
  have y9_8 : ∀ o, u3.frozen? ⟨nd6, o, none⟩ = false := hO.free 8 rfl
  have c9_9_0 : u3.cell? ⟨nd7, 0, none⟩ = some (.iface 52 (.pointer (some ⟨nd10, 0, none⟩))) := hO.cell 9 rfl 0 rfl
  have c9_9_1 : u3.cell? ⟨nd7, 1, none⟩ = some (.int .i32 ll) := hO.cell 9 rfl 1 rfl
  have c9_9_2 : u3.cell? ⟨nd7, 2, none⟩ = some (.iface 40 (.pointer (some ⟨nd11, 0, none⟩))) := hO.cell 9 rfl 2 rfl
  have c9_9_3 : u3.cell? ⟨nd7, 3, none⟩ = some (.int .i32 ll) := hO.cell 9 rfl 3 rfl
  have c9_9_4 : u3.cell? ⟨nd7, 4, none⟩ = some (.int .i32 0) := hO.cell 9 rfl 4 rfl
  have c9_9_5 : u3.cell? ⟨nd7, 5, none⟩ = some (.int .u8 0) := hO.cell 9 rfl 5 rfl
  have c9_9_6 : u3.cell? ⟨nd7, 6, none⟩ = some (.bool false) := hO.cell 9 rfl 6 rfl
  have c9_9_7 : u3.cell? ⟨nd7, 7, none⟩ = some (.bool false) := hO.cell 9 rfl 7 rfl
  have c9_9_8 : u3.cell? ⟨nd7, 8, none⟩ = some (.bool false) := hO.cell 9 rfl 8 rfl
  have lt9_9 : nd7 < u3.heap.size := hO.lt 9 rfl
  have y9_9 : ∀ o, u3.frozen? ⟨nd7, o, none⟩ = false := hO.free 9 rfl
  have c9_10_0 : u3.cell? ⟨nd8, 0, none⟩ = some (.int .u32 src) := hO.cell 10 rfl 0 rfl
  have c9_10_1 : u3.cell? ⟨nd8, 1, none⟩ = some (.int .u32 (i : Int)) := hO.cell 10 rfl 1 rfl
  have c9_10_2 : u3.cell? ⟨nd8, 2, none⟩ = some (.bool false) := hO.cell 10 rfl 2 rfl
  have c9_10_3 : u3.cell? ⟨nd8, 3, none⟩ = some (.bool false) := hO.cell 10 rfl 3 rfl
  have c9_10_4 : u3.cell? ⟨nd8, 4, none⟩ = some (.bool false) := hO.cell 10 rfl 4 rfl
  have lt9_10 : nd8 < u3.heap.size := hO.lt 10 rfl
  have y9_10 : ∀ o, u3.frozen? ⟨nd8, o, none⟩ = false := hO.free 10 rfl
  have c9_11_0 : u3.cell? ⟨nd9, 0, none⟩ = some (.float .f64 kv) := hO.cell 11 rfl 0 rfl
  have lt9_11 : nd9 < u3.heap.size := hO.lt 11 rfl
  have y9_11 : ∀ o, u3.frozen? ⟨nd9, o, none⟩ = false := hO.free 11 rfl
  have c9_12_0 : u3.cell? ⟨nd10, 0, none⟩ = some (.int .u32 src) := hO.cell 12 rfl 0 rfl
  have c9_12_1 : u3.cell? ⟨nd10, 1, none⟩ = some (.int .u32 (i : Int)) := hO.cell 12 rfl 1 rfl
  have c9_12_2 : u3.cell? ⟨nd10, 2, none⟩ = some (.bool false) := hO.cell 12 rfl 2 rfl
  have c9_12_3 : u3.cell? ⟨nd10, 3, none⟩ = some (.bool false) := hO.cell 12 rfl 3 rfl
  have c9_12_4 : u3.cell? ⟨nd10, 4, none⟩ = some (.bool false) := hO.cell 12 rfl 4 rfl
  have lt9_12 : nd10 < u3.heap.size := hO.lt 12 rfl
  have y9_12 : ∀ o, u3.frozen? ⟨nd10, o, none⟩ = false := hO.free 12 rfl
  have c9_13_0 : u3.cell? ⟨nd11, 0, none⟩ = some (.float .f64 kv) := hO.cell 13 rfl 0 rfl
  have lt9_13 : nd11 < u3.heap.size := hO.lt 13 rfl
  have y9_13 : ∀ o, u3.frozen? ⟨nd11, o, none⟩ = false := hO.free 13 rfl
  have c9_14_0 : u3.cell? ⟨B1_1, 0, none⟩ = some (.nilIface) := hO.cell 14 rfl 0 rfl
  have c9_14_1 : u3.cell? ⟨B1_1, 1, none⟩ = some (.int .i32 0) := hO.cell 14 rfl 1 rfl
  have lt9_14 : B1_1 < u3.heap.size := hO.lt 14 rfl
  have y9_14 : ∀ o, u3.frozen? ⟨B1_1, o, none⟩ = false := hO.free 14 rfl
  have c9_15_0 : u3.cell? ⟨B1, 0, none⟩ = some (.int .i32 loc) := hO.cell 15 rfl 0 rfl
  have lt9_15 : B1 < u3.heap.size := hO.lt 15 rfl
  have y9_15 : ∀ o, u3.frozen? ⟨B1, o, none⟩ = false := hO.free 15 rfl
  have HO := Lib.hid hO
  clear hO
  go_wp2_with fail
  have hO := HO.out
  clear HO c9_2_0 c9_2_1 c9_2_2 c9_2_3 c9_2_4 c9_2_5 lt9_2 y9_2 c9_3_0 c9_3_1 c9_3_2 c9_3_3 c9_3_4 c9_3_5 c9_3_6 c9_3_7 c9_3_8 lt9_3 y9_3 c9_4_0 c9_4_1 c9_4_2 c9_4_3 c9_4_4 lt9_4 y9_4 c9_5_0 lt9_5 y9_5 c9_6_0 c9_6_1 c9_6_2 c9_6_3 c9_6_4 c9_6_5 lt9_6 y9_6 c9_7_0 c9_7_1 c9_7_2 c9_7_3 c9_7_4 c9_7_5 lt9_7 y9_7 c9_8_0 c9_8_1 c9_8_2 c9_8_3 c9_8_4 c9_8_5 c9_8_6 c9_8_7 c9_8_8 lt9_8 y9_8 c9_9_0 c9_9_1 c9_9_2 c9_9_3 c9_9_4 c9_9_5 c9_9_6 c9_9_7 c9_9_8 lt9_9 y9_9 c9_10_0 c9_10_1 c9_10_2 c9_10_3 c9_10_4 lt9_10 y9_10 c9_11_0 lt9_11 y9_11 c9_12_0 c9_12_1 c9_12_2 c9_12_3 c9_12_4 lt9_12 y9_12 c9_13_0 lt9_13 y9_13 c9_14_0 c9_14_1 lt9_14 y9_14 c9_15_0 lt9_15 y9_15
  generalize hW : World.setCell _ _ _ = W13
  have hN : Own w0 W13 [row (pb) 178 PC, row (sb) 196 (bumped (bumped C i c) i cz), row (eb) 45 #[.iface 38 (.pointer (some ⟨xb, 0, none⟩)), .int .i32 ll, .iface TR (.pointer (some ⟨xr, 0, none⟩)), .int .i32 lr, .int .u8 o0, .bool o1], row (xb) 56 #[.iface 52 (.pointer (some ⟨ib, 0, none⟩)), .int .i32 tl, .iface 40 (.pointer (some ⟨kb, 0, none⟩)), .int .i32 kl, .int .i32 0, .int .u8 0, .bool false, .bool false, .bool false], row (ib) 180 #[.int .u32 src, .int .u32 (i : Int), .bool false, .bool false, .bool false], row (kb) 182 #[.float .f64 kv], row (nd4) 45 #[.iface 38 (.pointer (some ⟨nd6, 0, none⟩)), .int .i32 ll, .iface 42 (.pointer (some ⟨nd5, 0, none⟩)), .int .i32 ll, .int .u8 30, .bool false], row (nd5) 45 #[.iface 38 (.pointer (some ⟨nd7, 0, none⟩)), .int .i32 ll, .iface TR (.pointer (some ⟨xr, 0, none⟩)), .int .i32 lr, .int .u8 37, .bool false], row (nd6) 56 #[.iface 52 (.pointer (some ⟨nd8, 0, none⟩)), .int .i32 ll, .iface 40 (.pointer (some ⟨nd9, 0, none⟩)), .int .i32 ll, .int .i32 0, .int .u8 0, .bool false, .bool false, .bool false], row (nd7) 56 #[.iface 52 (.pointer (some ⟨nd10, 0, none⟩)), .int .i32 ll, .iface 40 (.pointer (some ⟨nd11, 0, none⟩)), .int .i32 ll, .int .i32 0, .int .u8 0, .bool false, .bool false, .bool false], row (nd8) 180 #[.int .u32 src, .int .u32 (i : Int), .bool false, .bool false, .bool false], row (nd9) 182 #[.float .f64 kv], row (nd10) 180 #[.int .u32 src, .int .u32 (i : Int), .bool false, .bool false, .bool false], row (nd11) 182 #[.float .f64 kv], row (B1_1) 34 #[.iface 42 (.pointer (some ⟨nd4, 0, none⟩)), .int .i32 loc], row (B1) 32 #[.int .i32 loc]] X := by
    rw [← hW]
    exact ((hO).set 14 rfl 0 _).set 14 rfl 1 _
  clear hW hO
  have hO := hN
  clear hN
  have z9_14_0 : W13.cell? ⟨B1_1, 0, none⟩ = some (.iface 42 (.pointer (some ⟨nd4, 0, none⟩))) := hO.cell 14 rfl 0 rfl
  have z9_14_1 : W13.cell? ⟨B1_1, 1, none⟩ = some (.int .i32 loc) := hO.cell 14 rfl 1 rfl
  refine bodyPost_ret (v := .tuple #[.agg #[.iface 42 (.pointer (some ⟨nd4, 0, none⟩)), .int .i32 loc], .bool true]) ?_ rfl ⟨nd4, nd5, nd6, nd7, nd8, nd9, nd10, nd11, rfl, hO.sub [0, 1, 2, 3, 4, 5, 6, 7, 8, 9, 10, 11, 12, 13] (by decide)⟩
  simp [results, Tryz.results10, go_sem, z9_14_0, z9_14_1]
def doorNoPost (pb : Nat) (PC : Array Value) (x : Int) (ib xb : Nat) (tl : Int) (kb : Nat) (kl : Int) (eb : Nat) (ll : Int) (TR xr : Nat) (lr o0 : Int) (o1 : Bool) (loc : Int) (w0 : World) (X : Nat → Obj → Prop) (e : Ending) (w' : World) : Prop :=
  e = .returned (.tuple #[.agg #[.nilIface, .int .i32 0], .bool false]) ∧ Own w0 w' [row (pb) 178 PC, row (eb) 45 #[.iface 38 (.pointer (some ⟨xb, 0, none⟩)), .int .i32 ll, .iface TR (.pointer (some ⟨xr, 0, none⟩)), .int .i32 lr, .int .u8 o0, .bool o1], row (xb) 56 #[.iface 52 (.pointer (some ⟨ib, 0, none⟩)), .int .i32 tl, .iface 40 (.pointer (some ⟨kb, 0, none⟩)), .int .i32 kl, .int .i32 0, .int .u8 0, .bool false, .bool false, .bool false]] X
set_option maxRecDepth 100000 in
set_option maxHeartbeats 1000000 in
theorem doorNo (pb : Nat) (PC : Array Value) (x : Int) (ib xb : Nat) (tl : Int) (kb : Nat) (kl : Int) (eb : Nat) (ll : Int) (TR xr : Nat) (lr o0 : Int) (o1 : Bool) (loc : Int) (w0 w : World) (X : Nat → Obj → Prop) (hO : Own w0 w [row (pb) 178 PC, row (eb) 45 #[.iface 38 (.pointer (some ⟨xb, 0, none⟩)), .int .i32 ll, .iface TR (.pointer (some ⟨xr, 0, none⟩)), .int .i32 lr, .int .u8 o0, .bool o1], row (xb) 56 #[.iface 52 (.pointer (some ⟨ib, 0, none⟩)), .int .i32 tl, .iface 40 (.pointer (some ⟨kb, 0, none⟩)), .int .i32 kl, .int .i32 0, .int .u8 0, .bool false, .bool false, .bool false]] X) (hx : PC[23]? = some (.int .u64 x)) (hx2 : (bits BinOp.and IntKind.u64 x 137438953472 != 0) = false) :
    Calls Tryz.prog 10 #[.pointer (some ⟨pb, 0, none⟩), .agg #[.int .i32 loc], .pointer (some ⟨eb, 0, none⟩)] w (doorNoPost pb PC x ib xb tl kb kl eb ll TR xr lr o0 o1 loc w0 X) := by
  go_enter Tryz.func10, Tryz.ntmps10
  have c9_1_0 : w.cell? ⟨eb, 0, none⟩ = some (.iface 38 (.pointer (some ⟨xb, 0, none⟩))) := hO.cell 1 rfl 0 rfl
  have c9_1_1 : w.cell? ⟨eb, 1, none⟩ = some (.int .i32 ll) := hO.cell 1 rfl 1 rfl
  have c9_1_2 : w.cell? ⟨eb, 2, none⟩ = some (.iface TR (.pointer (some ⟨xr, 0, none⟩))) := hO.cell 1 rfl 2 rfl
  have c9_1_3 : w.cell? ⟨eb, 3, none⟩ = some (.int .i32 lr) := hO.cell 1 rfl 3 rfl
  have c9_1_4 : w.cell? ⟨eb, 4, none⟩ = some (.int .u8 o0) := hO.cell 1 rfl 4 rfl
  have c9_1_5 : w.cell? ⟨eb, 5, none⟩ = some (.bool o1) := hO.cell 1 rfl 5 rfl
  have lt9_1 : eb < w.heap.size := hO.lt 1 rfl
  have y9_1 : ∀ o, w.frozen? ⟨eb, o, none⟩ = false := hO.free 1 rfl
  have c9_2_0 : w.cell? ⟨xb, 0, none⟩ = some (.iface 52 (.pointer (some ⟨ib, 0, none⟩))) := hO.cell 2 rfl 0 rfl
  have c9_2_1 : w.cell? ⟨xb, 1, none⟩ = some (.int .i32 tl) := hO.cell 2 rfl 1 rfl
  have c9_2_2 : w.cell? ⟨xb, 2, none⟩ = some (.iface 40 (.pointer (some ⟨kb, 0, none⟩))) := hO.cell 2 rfl 2 rfl
  have c9_2_3 : w.cell? ⟨xb, 3, none⟩ = some (.int .i32 kl) := hO.cell 2 rfl 3 rfl
  have c9_2_4 : w.cell? ⟨xb, 4, none⟩ = some (.int .i32 0) := hO.cell 2 rfl 4 rfl
  have c9_2_5 : w.cell? ⟨xb, 5, none⟩ = some (.int .u8 0) := hO.cell 2 rfl 5 rfl
  have c9_2_6 : w.cell? ⟨xb, 6, none⟩ = some (.bool false) := hO.cell 2 rfl 6 rfl
  have c9_2_7 : w.cell? ⟨xb, 7, none⟩ = some (.bool false) := hO.cell 2 rfl 7 rfl
  have c9_2_8 : w.cell? ⟨xb, 8, none⟩ = some (.bool false) := hO.cell 2 rfl 8 rfl
  have lt9_2 : xb < w.heap.size := hO.lt 2 rfl
  have y9_2 : ∀ o, w.frozen? ⟨xb, o, none⟩ = false := hO.free 2 rfl
  have HO := Lib.hid hO
  clear hO
  go_wp2_with fail
  have hO := HO.out
  clear HO c9_1_0 c9_1_1 c9_1_2 c9_1_3 c9_1_4 c9_1_5 lt9_1 y9_1 c9_2_0 c9_2_1 c9_2_2 c9_2_3 c9_2_4 c9_2_5 c9_2_6 c9_2_7 c9_2_8 lt9_2 y9_2
  generalize hW : World.alloc _ _ = W2
  have hN : Own w0 W2 [row (w.heap.size + 1) 34 #[.nilIface, .int .i32 0], row (w.heap.size) 32 #[.int .i32 loc], row (pb) 178 PC, row (eb) 45 #[.iface 38 (.pointer (some ⟨xb, 0, none⟩)), .int .i32 ll, .iface TR (.pointer (some ⟨xr, 0, none⟩)), .int .i32 lr, .int .u8 o0, .bool o1], row (xb) 56 #[.iface 52 (.pointer (some ⟨ib, 0, none⟩)), .int .i32 tl, .iface 40 (.pointer (some ⟨kb, 0, none⟩)), .int .i32 kl, .int .i32 0, .int .u8 0, .bool false, .bool false, .bool false]] X := by
    rw [← hW]
    exact ((hO).alloc' _ (w.heap.size) (by simp)).alloc' _ (w.heap.size + 1) (by simp)
  clear hW hO
  generalize w.heap.size + 1 = B1_1 at hN ⊢
  generalize w.heap.size = B1 at hN ⊢
  have hO := hN
  clear hN
  have hL := hO.apart
  have hX := hO.apartX
  have HL := Lib.hid hL
  have HX := Lib.hid hX
  clear hL hX
  have hP9 := hO.pick [2, 3, 4] (by decide)
  have T9 := lowNo pb PC x ib xb tl kb kl eb ll TR xr lr o0 o1 loc _ _ _ hP9 hx hx2
  refine Calls.mono T9 ?_
  clear hP9 T9
  rintro e u3 ⟨rfl, hQ⟩
  have hN : Own w0 u3 [row (pb) 178 PC, row (eb) 45 #[.iface 38 (.pointer (some ⟨xb, 0, none⟩)), .int .i32 ll, .iface TR (.pointer (some ⟨xr, 0, none⟩)), .int .i32 lr, .int .u8 o0, .bool o1], row (xb) 56 #[.iface 52 (.pointer (some ⟨ib, 0, none⟩)), .int .i32 tl, .iface 40 (.pointer (some ⟨kb, 0, none⟩)), .int .i32 kl, .int .i32 0, .int .u8 0, .bool false, .bool false, .bool false], row (B1_1) 34 #[.nilIface, .int .i32 0], row (B1) 32 #[.int .i32 loc]] X := hQ.back HL.out HX.out [0, 1] (by decide) (by decide)
  clear hQ HL HX hO
  have hO := hN
  clear hN
  have c9_1_0 : u3.cell? ⟨eb, 0, none⟩ = some (.iface 38 (.pointer (some ⟨xb, 0, none⟩))) := hO.cell 1 rfl 0 rfl
  have c9_1_1 : u3.cell? ⟨eb, 1, none⟩ = some (.int .i32 ll) := hO.cell 1 rfl 1 rfl
  have c9_1_2 : u3.cell? ⟨eb, 2, none⟩ = some (.iface TR (.pointer (some ⟨xr, 0, none⟩))) := hO.cell 1 rfl 2 rfl
  have c9_1_3 : u3.cell? ⟨eb, 3, none⟩ = some (.int .i32 lr) := hO.cell 1 rfl 3 rfl
  have c9_1_4 : u3.cell? ⟨eb, 4, none⟩ = some (.int .u8 o0) := hO.cell 1 rfl 4 rfl
  have c9_1_5 : u3.cell? ⟨eb, 5, none⟩ = some (.bool o1) := hO.cell 1 rfl 5 rfl
  have lt9_1 : eb < u3.heap.size := hO.lt 1 rfl
  have y9_1 : ∀ o, u3.frozen? ⟨eb, o, none⟩ = false := hO.free 1 rfl
  have c9_2_0 : u3.cell? ⟨xb, 0, none⟩ = some (.iface 52 (.pointer (some ⟨ib, 0, none⟩))) := hO.cell 2 rfl 0 rfl
  have c9_2_1 : u3.cell? ⟨xb, 1, none⟩ = some (.int .i32 tl) := hO.cell 2 rfl 1 rfl
  have c9_2_2 : u3.cell? ⟨xb, 2, none⟩ = some (.iface 40 (.pointer (some ⟨kb, 0, none⟩))) := hO.cell 2 rfl 2 rfl
  have c9_2_3 : u3.cell? ⟨xb, 3, none⟩ = some (.int .i32 kl) := hO.cell 2 rfl 3 rfl
  have c9_2_4 : u3.cell? ⟨xb, 4, none⟩ = some (.int .i32 0) := hO.cell 2 rfl 4 rfl
  have c9_2_5 : u3.cell? ⟨xb, 5, none⟩ = some (.int .u8 0) := hO.cell 2 rfl 5 rfl
  have c9_2_6 : u3.cell? ⟨xb, 6, none⟩ = some (.bool false) := hO.cell 2 rfl 6 rfl
  have c9_2_7 : u3.cell? ⟨xb, 7, none⟩ = some (.bool false) := hO.cell 2 rfl 7 rfl
  have c9_2_8 : u3.cell? ⟨xb, 8, none⟩ = some (.bool false) := hO.cell 2 rfl 8 rfl
  have lt9_2 : xb < u3.heap.size := hO.lt 2 rfl
  have y9_2 : ∀ o, u3.frozen? ⟨xb, o, none⟩ = false := hO.free 2 rfl
  have c9_3_0 : u3.cell? ⟨B1_1, 0, none⟩ = some (.nilIface) := hO.cell 3 rfl 0 rfl
  have c9_3_1 : u3.cell? ⟨B1_1, 1, none⟩ = some (.int .i32 0) := hO.cell 3 rfl 1 rfl
  have lt9_3 : B1_1 < u3.heap.size := hO.lt 3 rfl
  have y9_3 : ∀ o, u3.frozen? ⟨B1_1, o, none⟩ = false := hO.free 3 rfl
  have c9_4_0 : u3.cell? ⟨B1, 0, none⟩ = some (.int .i32 loc) := hO.cell 4 rfl 0 rfl
  have lt9_4 : B1 < u3.heap.size := hO.lt 4 rfl
  have y9_4 : ∀ o, u3.frozen? ⟨B1, o, none⟩ = false := hO.free 4 rfl
  have HO := Lib.hid hO
  clear hO
  go_wp2_with fail
  have hO := HO.out
  clear HO c9_1_0 c9_1_1 c9_1_2 c9_1_3 c9_1_4 c9_1_5 lt9_1 y9_1 c9_2_0 c9_2_1 c9_2_2 c9_2_3 c9_2_4 c9_2_5 c9_2_6 c9_2_7 c9_2_8 lt9_2 y9_2 c9_3_0 c9_3_1 lt9_3 y9_3 c9_4_0 lt9_4 y9_4
  generalize hW : World.setCell _ _ _ = W5
  have hN : Own w0 W5 [row (pb) 178 PC, row (eb) 45 #[.iface 38 (.pointer (some ⟨xb, 0, none⟩)), .int .i32 ll, .iface TR (.pointer (some ⟨xr, 0, none⟩)), .int .i32 lr, .int .u8 o0, .bool o1], row (xb) 56 #[.iface 52 (.pointer (some ⟨ib, 0, none⟩)), .int .i32 tl, .iface 40 (.pointer (some ⟨kb, 0, none⟩)), .int .i32 kl, .int .i32 0, .int .u8 0, .bool false, .bool false, .bool false], row (B1_1) 34 #[.nilIface, .int .i32 0], row (B1) 32 #[.int .i32 loc]] X := by
    rw [← hW]
    exact ((hO).set 3 rfl 0 _).set 3 rfl 1 _
  clear hW hO
  have hO := hN
  clear hN
  have z9_3_0 : W5.cell? ⟨B1_1, 0, none⟩ = some (.nilIface) := hO.cell 3 rfl 0 rfl
  have z9_3_1 : W5.cell? ⟨B1_1, 1, none⟩ = some (.int .i32 0) := hO.cell 3 rfl 1 rfl
  refine bodyPost_ret (v := .tuple #[.agg #[.nilIface, .int .i32 0], .bool false]) ?_ rfl ⟨rfl, hO.sub [0, 1, 2] (by decide)⟩
  simp [results, Tryz.results10, go_sem, z9_3_0, z9_3_1]
end Go.Proofs.YtlgefnjkoklboaaGreatDoor.Use
