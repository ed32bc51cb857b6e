/- The lowering of an exponent's assignment to an identifier, walked. No condition. -/
import Derived.Test.YtlgefnjkoklboaaDoorOwn
import Derived.Test.YtlgefnjkoklboaaDoorDeepCells
import Derived.Test.YtlgefnjkoklboaaDoorRows
import Derived.Test.YtlgefnjkoklboaaDoorUse
import Derived.Test.YtlgefnjkoklboaaDoorPow
import Derived.Test.YtlgefnjkoklboaaDoorNoPriv
import Derived.Test.YtlgefnjkoklboaaDoorPowFn
namespace Go.Proofs.YtlgefnjkoklboaaDoor.Use
open Go.ChangeShapes Go.WideShapes Go.ChangeAt Go.RowKit Go.Sort Own
set_option linter.unusedVariables false
def rLEE (pb : Nat) (sb : Nat) (PC : Array Value) (C : Array Value) (mp : Nat) (ps : Int) (j : Nat) (cj : Nat) (i : Nat) (c : Nat) (src : Int) (ib : Nat) (bp : Nat) (bl : Nat) (be : Nat) (eb : Nat) (ll : Int) (TR : Nat) (xr : Nat) (lr : Int) (o0 : Int) (o1 : Bool) (loc : Int) (B1 : Nat) : Nat → Rega.Atoms → Value
  | 0, α => .func (Fn.func 48) #[] #[.pointer (some ⟨bp, 0, none⟩), .pointer (some ⟨bl, 0, none⟩), .pointer (some ⟨be, 0, none⟩)]
  | 1, α => .pointer (some ⟨B1, 1, none⟩)
  | 2, α => .agg #[.int .i32 ll]
  | 3, α => .pointer (some ⟨ib, 0, none⟩)
  | 4, α => .pointer (some ⟨ib, 0, none⟩)
  | 5, α => .pointer (some ⟨ib, 0, none⟩)
  | 6, α => .agg #[.int .u32 src, .int .u32 (i : Int)]
  | 7, α => .agg #[.int .u32 src, .int .u32 (i : Int), .bool false, .bool false, .bool false]
  | 8, α => .pointer (some ⟨α 8, 0, none⟩)
  | 9, α => .iface 55 (.pointer (some ⟨α 8, 0, none⟩))
  | 10, α => .agg #[.iface 55 (.pointer (some ⟨α 8, 0, none⟩)), .int .i32 ll]
  | 11, α => .agg #[.iface 55 (.pointer (some ⟨ib, 0, none⟩)), .int .i32 ll]
  | 12, α => .agg #[.iface 41 (.pointer (some ⟨α 12, 0, none⟩)), .int .i32 ll]
  | 13, α => undef
  | _, _ => undef
def rLEAnc : Nat → List Nat
  | 2 => [1]
  | 4 => [3]
  | 5 => [3, 4]
  | 6 => [3, 4, 5]
  | 7 => [3, 4, 5, 6]
  | 8 => [3, 4, 5, 6, 7]
  | 9 => [3, 4, 5, 6, 7, 8]
  | 10 => [1, 2, 3, 4, 5, 6, 7, 8, 9]
  | 12 => [0, 1, 2, 3, 4, 5, 6, 7, 8, 9, 10, 11]
  | 13 => [0, 1, 2, 3, 4, 5, 6, 7, 8, 9, 10, 11, 12]
  | _ => []
def rLETrn : Nat → List Nat
  | 12 => [1999]
  | 13 => [2999]
  | _ => []
def rLECnt : List (Nat × Nat) := [(8, 1), (12, 4)]
def rLET1999 (pb : Nat) (sb : Nat) (PC : Array Value) (C : Array Value) (mp : Nat) (ps : Int) (j : Nat) (cj : Nat) (i : Nat) (c : Nat) (src : Int) (ib : Nat) (bp : Nat) (bl : Nat) (be : Nat) (eb : Nat) (ll : Int) (TR : Nat) (xr : Nat) (lr : Int) (o0 : Int) (o1 : Bool) (loc : Int) (B1 : Nat) (L9 : Nat → Bool) (α : Rega.Atoms) : Rw := if L9 12 = true then row (sb) 223 (bumped (bumped C i c) j cj) else row (sb) 223 (bumped C i c)
def rLET2999 (pb : Nat) (sb : Nat) (PC : Array Value) (C : Array Value) (mp : Nat) (ps : Int) (j : Nat) (cj : Nat) (i : Nat) (c : Nat) (src : Int) (ib : Nat) (bp : Nat) (bl : Nat) (be : Nat) (eb : Nat) (ll : Int) (TR : Nat) (xr : Nat) (lr : Int) (o0 : Int) (o1 : Bool) (loc : Int) (B1 : Nat) (L9 : Nat → Bool) (α : Rega.Atoms) : Rw := if L9 13 = true then row (B1 + 1) 34 #[.iface 41 (.pointer (some ⟨α 12, 0, none⟩)), .int .i32 ll] else row (B1 + 1) 34 #[.nilIface, .int .i32 0]
def rLER (pb : Nat) (sb : Nat) (PC : Array Value) (C : Array Value) (mp : Nat) (ps : Int) (j : Nat) (cj : Nat) (i : Nat) (c : Nat) (src : Int) (ib : Nat) (bp : Nat) (bl : Nat) (be : Nat) (eb : Nat) (ll : Int) (TR : Nat) (xr : Nat) (lr : Int) (o0 : Int) (o1 : Bool) (loc : Int) (B1 : Nat) (L9 : Nat → Bool) (α : Rega.Atoms) (ix9 : Nat) : Rw := if ix9 = 999 then row (pb) 207 PC else if ix9 = 1999 then rLET1999 pb sb PC C mp ps j cj i c src ib bp bl be eb ll TR xr lr o0 o1 loc B1 L9 α else if ix9 = 2999 then rLET2999 pb sb PC C mp ps j cj i c src ib bp bl be eb ll TR xr lr o0 o1 loc B1 L9 α else if ix9 = 3999 then row (B1) 34 #[.iface 55 (.pointer (some ⟨ib, 0, none⟩)), .int .i32 ll] else if ix9 = 4999 then (mp, .map #[⟨.string ⟨#[95, 95, 112, 111, 119]⟩, .agg #[.int .i32 0, .int .u32 ps, .int .u32 (j : Int)], 0⟩] 1) else if ix9 = 5999 then row (bp) 23 #[.pointer (some ⟨pb, 0, none⟩)] else if ix9 = 6999 then row (bl) 32 #[.int .i32 loc] else if ix9 = 7999 then row (be) 41 #[.pointer (some ⟨eb, 0, none⟩)] else if ix9 = 8999 then row (eb) 47 #[.iface 55 (.pointer (some ⟨ib, 0, none⟩)), .int .i32 ll, .iface TR (.pointer (some ⟨xr, 0, none⟩)), .int .i32 lr, .int .u8 o0, .bool o1] else if ix9 = 9999 then row (ib) 214 #[.int .u32 src, .int .u32 (i : Int), .bool false, .bool false, .bool false] else if ix9 = 8 then row (α 8) 214 #[.int .u32 src, .int .u32 (i : Int), .bool false, .bool false, .bool false] else if ix9 = 12 then row (α 12) 47 #[.iface 55 (.pointer (some ⟨α 8, 0, none⟩)), .int .i32 ll, .iface 72 (.pointer (some ⟨α 1012, 0, none⟩)), .int .i32 loc, .int .u8 37, .bool false] else if ix9 = 1012 then row (α 1012) 77 #[.iface 55 (.pointer (some ⟨α 2012, 0, none⟩)), .int .i32 loc, .slice (some ⟨α 3012, 0, none⟩) 2 2, .int .i32 0, .int .u8 0, .int .u8 0, .bool false, .bool false] else if ix9 = 2012 then row (α 2012) 214 #[.int .u32 ps, .int .u32 (j : Int), .bool false, .bool false, .bool false] else if ix9 = 3012 then row (α 3012) 34 #[.iface 55 (.pointer (some ⟨ib, 0, none⟩)), .int .i32 ll, .iface TR (.pointer (some ⟨xr, 0, none⟩)), .int .i32 lr] else (0, .map #[] 0)
theorem rLE_he (pb : Nat) (sb : Nat) (PC : Array Value) (C : Array Value) (mp : Nat) (ps : Int) (j : Nat) (cj : Nat) (i : Nat) (c : Nat) (src : Int) (ib : Nat) (bp : Nat) (bl : Nat) (be : Nat) (eb : Nat) (ll : Int) (TR : Nat) (xr : Nat) (lr : Int) (o0 : Int) (o1 : Bool) (loc : Int) (B1 : Nat) : ∀ kk α α', (∀ j, (j % 1000 = kk ∨ j % 1000 ∈ rLEAnc kk) → α j = α' j) → rLEE pb sb PC C mp ps j cj i c src ib bp bl be eb ll TR xr lr o0 o1 loc B1 kk α = rLEE pb sb PC C mp ps j cj i c src ib bp bl be eb ll TR xr lr o0 o1 loc B1 kk α' := by
  intro kk α α' h
  match kk with
  | 0 => rfl
  | 1 => rfl
  | 2 => rfl
  | 3 => rfl
  | 4 => rfl
  | 5 => rfl
  | 6 => rfl
  | 7 => rfl
  | 8 => simp only [rLEE, h 8 (Or.inl rfl)]
  | 9 => simp only [rLEE, h 8 (Or.inr (by decide))]
  | 10 => simp only [rLEE, h 8 (Or.inr (by decide))]
  | 11 => rfl
  | 12 => simp only [rLEE, h 12 (Or.inl rfl)]
  | 13 => rfl
  | n + 14 => rfl
theorem rLE_st (pb : Nat) (sb : Nat) (PC : Array Value) (C : Array Value) (mp : Nat) (ps : Int) (j : Nat) (cj : Nat) (i : Nat) (c : Nat) (src : Int) (ib : Nat) (bp : Nat) (bl : Nat) (be : Nat) (eb : Nat) (ll : Int) (TR : Nat) (xr : Nat) (lr : Int) (o0 : Int) (o1 : Bool) (loc : Int) (B1 : Nat) : Stable rLECnt 10 rLEAnc rLETrn (rLER pb sb PC C mp ps j cj i c src ib bp bl be eb ll TR xr lr o0 o1 loc B1) := by
  intro k9 L9 α α' ix9 hk hcl hα hact ht
  have hp := act_places hact
  replace hp : ix9 ∈ [999, 1999, 2999, 3999, 4999, 5999, 6999, 7999, 8999, 9999, 8, 12, 1012, 2012, 3012] := hp
  simp only [List.mem_cons, List.not_mem_nil, or_false] at hp
  rcases hp with rfl | rfl | rfl | rfl | rfl | rfl | rfl | rfl | rfl | rfl | rfl | rfl | rfl | rfl | rfl
  · rfl
  · show rLET1999 pb sb PC C mp ps j cj i c src ib bp bl be eb ll TR xr lr o0 o1 loc B1 (Rega.ran L9 k9) α' = rLET1999 pb sb PC C mp ps j cj i c src ib bp bl be eb ll TR xr lr o0 o1 loc B1 L9 α
    unfold rLET1999
    have n12 : 12 ≠ k9 := fun e => ht (by rw [← e]; decide)
    rw [ran_ne n12]
  · show rLET2999 pb sb PC C mp ps j cj i c src ib bp bl be eb ll TR xr lr o0 o1 loc B1 (Rega.ran L9 k9) α' = rLET2999 pb sb PC C mp ps j cj i c src ib bp bl be eb ll TR xr lr o0 o1 loc B1 L9 α
    unfold rLET2999
    have n13 : 13 ≠ k9 := fun e => ht (by rw [← e]; decide)
    rw [ran_ne n13]
    by_cases e13 : L9 13 = true
    · first | rw [if_pos e13, if_pos e13] | rw [if_pos e13]
      try simp only [hα 12 (ne_ran hk (hcl 13 e13 12 (by decide)))]
    first | rw [if_neg e13, if_neg e13] | rw [if_neg e13]
  · rfl
  · rfl
  · rfl
  · rfl
  · rfl
  · rfl
  · rfl
  · have e0 : L9 8 = true := act_lt hact (by decide)
    show row (α' 8) 214 #[.int .u32 src, .int .u32 (i : Int), .bool false, .bool false, .bool false] = row (α 8) 214 #[.int .u32 src, .int .u32 (i : Int), .bool false, .bool false, .bool false]
    simp only [hα 8 (ne_ran hk e0)]
  · have e0 : L9 12 = true := act_lt hact (by decide)
    show row (α' 12) 47 #[.iface 55 (.pointer (some ⟨α' 8, 0, none⟩)), .int .i32 ll, .iface 72 (.pointer (some ⟨α' 1012, 0, none⟩)), .int .i32 loc, .int .u8 37, .bool false] = row (α 12) 47 #[.iface 55 (.pointer (some ⟨α 8, 0, none⟩)), .int .i32 ll, .iface 72 (.pointer (some ⟨α 1012, 0, none⟩)), .int .i32 loc, .int .u8 37, .bool false]
    simp only [hα 8 (ne_ran hk (hcl 12 e0 8 (by decide))), hα 12 (ne_ran hk e0), hα 1012 (ne_ran hk e0)]
  · have e0 : L9 12 = true := act_lt hact (by decide)
    show row (α' 1012) 77 #[.iface 55 (.pointer (some ⟨α' 2012, 0, none⟩)), .int .i32 loc, .slice (some ⟨α' 3012, 0, none⟩) 2 2, .int .i32 0, .int .u8 0, .int .u8 0, .bool false, .bool false] = row (α 1012) 77 #[.iface 55 (.pointer (some ⟨α 2012, 0, none⟩)), .int .i32 loc, .slice (some ⟨α 3012, 0, none⟩) 2 2, .int .i32 0, .int .u8 0, .int .u8 0, .bool false, .bool false]
    simp only [hα 1012 (ne_ran hk e0), hα 2012 (ne_ran hk e0), hα 3012 (ne_ran hk e0)]
  · have e0 : L9 12 = true := act_lt hact (by decide)
    show row (α' 2012) 214 #[.int .u32 ps, .int .u32 (j : Int), .bool false, .bool false, .bool false] = row (α 2012) 214 #[.int .u32 ps, .int .u32 (j : Int), .bool false, .bool false, .bool false]
    simp only [hα 2012 (ne_ran hk e0)]
  · have e0 : L9 12 = true := act_lt hact (by decide)
    show row (α' 3012) 34 #[.iface 55 (.pointer (some ⟨ib, 0, none⟩)), .int .i32 ll, .iface TR (.pointer (some ⟨xr, 0, none⟩)), .int .i32 lr] = row (α 3012) 34 #[.iface 55 (.pointer (some ⟨ib, 0, none⟩)), .int .i32 ll, .iface TR (.pointer (some ⟨xr, 0, none⟩)), .int .i32 lr]
    simp only [hα 3012 (ne_ran hk e0)]
def lowExpIdPost (pb sb n cap : Nat) (PC C : Array Value) (mp : Nat) (ps : Int) (j cj i c : Nat) (src : Int) (ib bp bl be eb : Nat) (ll : Int) (TR xr : Nat) (lr o0 : Int) (o1 : Bool) (loc : Int) (w0 : World) (X : Nat → Obj → Prop) (e : Ending) (w' : World) : Prop :=
  ∃ ab : Nat, ∃ ca : Nat, ∃ b : Nat, ∃ sx : Nat, ∃ b1 : Nat, e = .returned (.agg #[.iface 41 (.pointer (some ⟨ab, 0, none⟩)), .int .i32 ll]) ∧ Own w0 w' [row (pb) 207 PC, row (sb) 223 (bumped (bumped C i c) j cj), (mp, .map #[⟨.string ⟨#[95, 95, 112, 111, 119]⟩, .agg #[.int .i32 0, .int .u32 ps, .int .u32 (j : Int)], 0⟩] 1), row (bp) 23 #[.pointer (some ⟨pb, 0, none⟩)], row (bl) 32 #[.int .i32 loc], row (be) 41 #[.pointer (some ⟨eb, 0, none⟩)], row (eb) 47 #[.iface 55 (.pointer (some ⟨ib, 0, none⟩)), .int .i32 ll, .iface TR (.pointer (some ⟨xr, 0, none⟩)), .int .i32 lr, .int .u8 o0, .bool o1], row (ib) 214 #[.int .u32 src, .int .u32 (i : Int), .bool false, .bool false, .bool false], row (ab) 47 #[.iface 55 (.pointer (some ⟨b1, 0, none⟩)), .int .i32 ll, .iface 72 (.pointer (some ⟨ca, 0, none⟩)), .int .i32 loc, .int .u8 37, .bool false], row (ca) 77 #[.iface 55 (.pointer (some ⟨b, 0, none⟩)), .int .i32 loc, .slice (some ⟨sx, 0, none⟩) 2 2, .int .i32 0, .int .u8 0, .int .u8 0, .bool false, .bool false], row (b) 214 #[.int .u32 ps, .int .u32 (j : Int), .bool false, .bool false, .bool false], row (sx) 34 #[.iface 55 (.pointer (some ⟨ib, 0, none⟩)), .int .i32 ll, .iface TR (.pointer (some ⟨xr, 0, none⟩)), .int .i32 lr], row (b1) 214 #[.int .u32 src, .int .u32 (i : Int), .bool false, .bool false, .bool false]] X
set_option maxRecDepth 100000 in
set_option maxHeartbeats 1000000 in
theorem lowExpId (pb sb n cap : Nat) (PC C : Array Value) (mp : Nat) (ps : Int) (j cj i c : Nat) (src : Int) (ib bp bl be eb : Nat) (ll : Int) (TR xr : Nat) (lr o0 : Int) (o1 : Bool) (loc : Int) (w0 w : World) (X : Nat → Obj → Prop) (hO : Own w0 w [row (pb) 207 PC, row (sb) 223 C, (mp, .map #[⟨.string ⟨#[95, 95, 112, 111, 119]⟩, .agg #[.int .i32 0, .int .u32 ps, .int .u32 (j : Int)], 0⟩] 1), row (bp) 23 #[.pointer (some ⟨pb, 0, none⟩)], row (bl) 32 #[.int .i32 loc], row (be) 41 #[.pointer (some ⟨eb, 0, none⟩)], row (eb) 47 #[.iface 55 (.pointer (some ⟨ib, 0, none⟩)), .int .i32 ll, .iface TR (.pointer (some ⟨xr, 0, none⟩)), .int .i32 lr, .int .u8 o0, .bool o1], row (ib) 214 #[.int .u32 src, .int .u32 (i : Int), .bool false, .bool false, .bool false]] X) (hR : Ready PC sb n cap) (hn : n ≤ 4294967295) (hi : i < n) (hc : C[i * 10 + 4]? = some (.int .u32 (c : Int))) (hcm : c < 4294967295) (hj : j < n) (hcj : (bumped C i c)[j * 10 + 4]? = some (.int .u32 (cj : Int))) (hcjm : cj < 4294967295) (hm : PC[117]? = some (.map (some mp))) :
    Calls Tryd.prog 44 #[.pointer (some ⟨pb, 0, none⟩), .agg #[.iface 55 (.pointer (some ⟨ib, 0, none⟩)), .int .i32 ll], .func (Fn.func 48) #[] #[.pointer (some ⟨bp, 0, none⟩), .pointer (some ⟨bl, 0, none⟩), .pointer (some ⟨be, 0, none⟩)]] w (lowExpIdPost pb sb n cap PC C mp ps j cj i c src ib bp bl be eb ll TR xr lr o0 o1 loc w0 X) := by
  go_enter Tryd.func44, Tryd.ntmps44
  have c9_3_0 : w.cell? ⟨bp, 0, none⟩ = some (.pointer (some ⟨pb, 0, none⟩)) := hO.cell 3 rfl 0 rfl
  have lt9_3 : bp < w.heap.size := hO.lt 3 rfl
  have y9_3 : ∀ o, w.frozen? ⟨bp, o, none⟩ = false := hO.free 3 rfl
  have c9_4_0 : w.cell? ⟨bl, 0, none⟩ = some (.int .i32 loc) := hO.cell 4 rfl 0 rfl
  have lt9_4 : bl < w.heap.size := hO.lt 4 rfl
  have y9_4 : ∀ o, w.frozen? ⟨bl, o, none⟩ = false := hO.free 4 rfl
  have c9_5_0 : w.cell? ⟨be, 0, none⟩ = some (.pointer (some ⟨eb, 0, none⟩)) := hO.cell 5 rfl 0 rfl
  have lt9_5 : be < w.heap.size := hO.lt 5 rfl
  have y9_5 : ∀ o, w.frozen? ⟨be, o, none⟩ = false := hO.free 5 rfl
  have c9_6_0 : w.cell? ⟨eb, 0, none⟩ = some (.iface 55 (.pointer (some ⟨ib, 0, none⟩))) := hO.cell 6 rfl 0 rfl
  have c9_6_1 : w.cell? ⟨eb, 1, none⟩ = some (.int .i32 ll) := hO.cell 6 rfl 1 rfl
  have c9_6_2 : w.cell? ⟨eb, 2, none⟩ = some (.iface TR (.pointer (some ⟨xr, 0, none⟩))) := hO.cell 6 rfl 2 rfl
  have c9_6_3 : w.cell? ⟨eb, 3, none⟩ = some (.int .i32 lr) := hO.cell 6 rfl 3 rfl
  have c9_6_4 : w.cell? ⟨eb, 4, none⟩ = some (.int .u8 o0) := hO.cell 6 rfl 4 rfl
  have c9_6_5 : w.cell? ⟨eb, 5, none⟩ = some (.bool o1) := hO.cell 6 rfl 5 rfl
  have lt9_6 : eb < w.heap.size := hO.lt 6 rfl
  have y9_6 : ∀ o, w.frozen? ⟨eb, o, none⟩ = false := hO.free 6 rfl
  have c9_7_0 : w.cell? ⟨ib, 0, none⟩ = some (.int .u32 src) := hO.cell 7 rfl 0 rfl
  have c9_7_1 : w.cell? ⟨ib, 1, none⟩ = some (.int .u32 (i : Int)) := hO.cell 7 rfl 1 rfl
  have c9_7_2 : w.cell? ⟨ib, 2, none⟩ = some (.bool false) := hO.cell 7 rfl 2 rfl
  have c9_7_3 : w.cell? ⟨ib, 3, none⟩ = some (.bool false) := hO.cell 7 rfl 3 rfl
  have c9_7_4 : w.cell? ⟨ib, 4, none⟩ = some (.bool false) := hO.cell 7 rfl 4 rfl
  have lt9_7 : ib < w.heap.size := hO.lt 7 rfl
  have y9_7 : ∀ o, w.frozen? ⟨ib, o, none⟩ = false := hO.free 7 rfl
  have HO := Lib.hid hO
  clear hO
  go_wp2_with fail
  have hO := HO.out
  clear HO c9_3_0 lt9_3 y9_3 c9_4_0 lt9_4 y9_4 c9_5_0 lt9_5 y9_5 c9_6_0 c9_6_1 c9_6_2 c9_6_3 c9_6_4 c9_6_5 lt9_6 y9_6 c9_7_0 c9_7_1 c9_7_2 c9_7_3 c9_7_4 lt9_7 y9_7
  generalize hW : World.alloc _ _ = W2
  have hN : Own w0 W2 [row (w.heap.size + 1) 34 #[.nilIface, .int .i32 0], row (w.heap.size) 34 #[.iface 55 (.pointer (some ⟨ib, 0, none⟩)), .int .i32 ll], row (pb) 207 PC, row (sb) 223 C, (mp, .map #[⟨.string ⟨#[95, 95, 112, 111, 119]⟩, .agg #[.int .i32 0, .int .u32 ps, .int .u32 (j : Int)], 0⟩] 1), row (bp) 23 #[.pointer (some ⟨pb, 0, none⟩)], row (bl) 32 #[.int .i32 loc], row (be) 41 #[.pointer (some ⟨eb, 0, none⟩)], row (eb) 47 #[.iface 55 (.pointer (some ⟨ib, 0, none⟩)), .int .i32 ll, .iface TR (.pointer (some ⟨xr, 0, none⟩)), .int .i32 lr, .int .u8 o0, .bool o1], row (ib) 214 #[.int .u32 src, .int .u32 (i : Int), .bool false, .bool false, .bool false]] X := by
    rw [← hW]
    exact ((hO).alloc' _ (w.heap.size) (by simp)).alloc' _ (w.heap.size + 1) (by simp)
  clear hW hO
  obtain ⟨B1, hB⟩ : ∃ n, n = w.heap.size := ⟨_, rfl⟩
  rw [← hB] at hN
  try rw [← hB]
  clear hB
  have hO := hN
  clear hN
  have hL := hO.apart
  have hX := hO.apartX
  have HL := Lib.hid hL
  have HX := Lib.hid hX
  clear hL hX
  refine Calls.mono (usage pb sb n cap PC C i c src _ _ _ (hO.pick [2, 3] (by decide)) hR hn hi hc hcm) ?_
  rintro e u3 ⟨rfl, hQ⟩
  have hN : Own w0 u3 [row (pb) 207 PC, row (sb) 223 (bumped C i c), row (B1 + 1) 34 #[.nilIface, .int .i32 0], row (B1) 34 #[.iface 55 (.pointer (some ⟨ib, 0, none⟩)), .int .i32 ll], (mp, .map #[⟨.string ⟨#[95, 95, 112, 111, 119]⟩, .agg #[.int .i32 0, .int .u32 ps, .int .u32 (j : Int)], 0⟩] 1), row (bp) 23 #[.pointer (some ⟨pb, 0, none⟩)], row (bl) 32 #[.int .i32 loc], row (be) 41 #[.pointer (some ⟨eb, 0, none⟩)], row (eb) 47 #[.iface 55 (.pointer (some ⟨ib, 0, none⟩)), .int .i32 ll, .iface TR (.pointer (some ⟨xr, 0, none⟩)), .int .i32 lr, .int .u8 o0, .bool o1], row (ib) 214 #[.int .u32 src, .int .u32 (i : Int), .bool false, .bool false, .bool false]] X := hQ.back HL.out HX.out [0, 1, 4, 5, 6, 7, 8, 9] (by decide) (by decide)
  clear hQ HL HX hO
  have hO := hN
  clear hN
  have c9_2_0 : u3.cell? ⟨B1 + 1, 0, none⟩ = some (.nilIface) := hO.cell 2 rfl 0 rfl
  have c9_2_1 : u3.cell? ⟨B1 + 1, 1, none⟩ = some (.int .i32 0) := hO.cell 2 rfl 1 rfl
  have lt9_2 : B1 + 1 < u3.heap.size := hO.lt 2 rfl
  have y9_2 : ∀ o, u3.frozen? ⟨B1 + 1, o, none⟩ = false := hO.free 2 rfl
  have c9_3_0 : u3.cell? ⟨B1, 0, none⟩ = some (.iface 55 (.pointer (some ⟨ib, 0, none⟩))) := hO.cell 3 rfl 0 rfl
  have c9_3_1 : u3.cell? ⟨B1, 1, none⟩ = some (.int .i32 ll) := hO.cell 3 rfl 1 rfl
  have lt9_3 : B1 < u3.heap.size := hO.lt 3 rfl
  have y9_3 : ∀ o, u3.frozen? ⟨B1, o, none⟩ = false := hO.free 3 rfl
  have c9_5_0 : u3.cell? ⟨bp, 0, none⟩ = some (.pointer (some ⟨pb, 0, none⟩)) := hO.cell 5 rfl 0 rfl
  have lt9_5 : bp < u3.heap.size := hO.lt 5 rfl
  have y9_5 : ∀ o, u3.frozen? ⟨bp, o, none⟩ = false := hO.free 5 rfl
  have c9_6_0 : u3.cell? ⟨bl, 0, none⟩ = some (.int .i32 loc) := hO.cell 6 rfl 0 rfl
  have lt9_6 : bl < u3.heap.size := hO.lt 6 rfl
  have y9_6 : ∀ o, u3.frozen? ⟨bl, o, none⟩ = false := hO.free 6 rfl
  have c9_7_0 : u3.cell? ⟨be, 0, none⟩ = some (.pointer (some ⟨eb, 0, none⟩)) := hO.cell 7 rfl 0 rfl
  have lt9_7 : be < u3.heap.size := hO.lt 7 rfl
  have y9_7 : ∀ o, u3.frozen? ⟨be, o, none⟩ = false := hO.free 7 rfl
  have c9_8_0 : u3.cell? ⟨eb, 0, none⟩ = some (.iface 55 (.pointer (some ⟨ib, 0, none⟩))) := hO.cell 8 rfl 0 rfl
  have c9_8_1 : u3.cell? ⟨eb, 1, none⟩ = some (.int .i32 ll) := hO.cell 8 rfl 1 rfl
  have c9_8_2 : u3.cell? ⟨eb, 2, none⟩ = some (.iface TR (.pointer (some ⟨xr, 0, none⟩))) := hO.cell 8 rfl 2 rfl
  have c9_8_3 : u3.cell? ⟨eb, 3, none⟩ = some (.int .i32 lr) := hO.cell 8 rfl 3 rfl
  have c9_8_4 : u3.cell? ⟨eb, 4, none⟩ = some (.int .u8 o0) := hO.cell 8 rfl 4 rfl
  have c9_8_5 : u3.cell? ⟨eb, 5, none⟩ = some (.bool o1) := hO.cell 8 rfl 5 rfl
  have lt9_8 : eb < u3.heap.size := hO.lt 8 rfl
  have y9_8 : ∀ o, u3.frozen? ⟨eb, o, none⟩ = false := hO.free 8 rfl
  have c9_9_0 : u3.cell? ⟨ib, 0, none⟩ = some (.int .u32 src) := hO.cell 9 rfl 0 rfl
  have c9_9_1 : u3.cell? ⟨ib, 1, none⟩ = some (.int .u32 (i : Int)) := hO.cell 9 rfl 1 rfl
  have c9_9_2 : u3.cell? ⟨ib, 2, none⟩ = some (.bool false) := hO.cell 9 rfl 2 rfl
  have c9_9_3 : u3.cell? ⟨ib, 3, none⟩ = some (.bool false) := hO.cell 9 rfl 3 rfl
  have c9_9_4 : u3.cell? ⟨ib, 4, none⟩ = some (.bool false) := hO.cell 9 rfl 4 rfl
  have lt9_9 : ib < u3.heap.size := hO.lt 9 rfl
  have y9_9 : ∀ o, u3.frozen? ⟨ib, o, none⟩ = false := hO.free 9 rfl
  have HO := Lib.hid hO
  clear hO
  go_wp2_with fail
  have hO := HO.out
  clear HO c9_2_0 c9_2_1 lt9_2 y9_2 c9_3_0 c9_3_1 lt9_3 y9_3 c9_5_0 lt9_5 y9_5 c9_6_0 lt9_6 y9_6 c9_7_0 lt9_7 y9_7 c9_8_0 c9_8_1 c9_8_2 c9_8_3 c9_8_4 c9_8_5 lt9_8 y9_8 c9_9_0 c9_9_1 c9_9_2 c9_9_3 c9_9_4 lt9_9 y9_9
  refine wp_region_own (e := rLEE pb sb PC C mp ps j cj i c src ib bp bl be eb ll TR xr lr o0 o1 loc B1) (anc := rLEAnc) (G := (fun L9 α u9 => OwnF w0 u9 (act rLECnt 10 L9) (rLER pb sb PC C mp ps j cj i c src ib bp bl be eb ll TR xr lr o0 o1 loc B1 L9 α) X)) (by kernel_rfl) (by kernel_rfl) (by kernel_rfl) (by kernel_rfl) (rLE_he pb sb PC C mp ps j cj i c src ib bp bl be eb ll TR xr lr o0 o1 loc B1) ?_ (RunsAll.all ?_) ?_
  · have hp : ∀ i, act rLECnt 10 (fun _ => false) i → i ∈ [999, 1999, 2999, 3999, 4999, 5999, 6999, 7999, 8999, 9999] := by
      intro i hi
      have h9 : i % 1000 = 999 := by
        by_cases h : i % 1000 = 999
        · exact h
        · exact absurd (act_lt hi h) (by simp)
      unfold act at hi
      rw [if_pos h9] at hi
      simp only [List.mem_cons, List.not_mem_nil, or_false]
      omega
    refine hO.drew.family (fun i hi => ?_) (fun i j hi hj hij => ?_)
    · have := hp i hi
      simp only [List.mem_cons, List.not_mem_nil, or_false] at this
      rcases this with rfl | rfl | rfl | rfl | rfl | rfl | rfl | rfl | rfl | rfl <;> rfl
    · have h1 := hp i hi
      have h2 := hp j hj
      simp only [List.mem_cons, List.not_mem_nil, or_false] at h1 h2
      omega
  · refine ⟨?_, ?_, ?_, ?_, ?_, ?_, ?_, ?_, ?_, ?_, ?_, ?_, ?_, ?_, trivial⟩
    · intro L9 α a9 u9 K9 hL hcl hA hG hS h0 hK
      replace hL : L9 0 = false := hL
      have q2 : a9.tmps[2]? = some (.func (Fn.func 48) #[] #[.pointer (some ⟨bp, 0, none⟩), .pointer (some ⟨bl, 0, none⟩), .pointer (some ⟨be, 0, none⟩)]) := (h0 2 (by kernel_rfl)).trans rfl
      have s2 := Rega.eval_of q2
      go_simp
      exact hK _ α _ (fun _ _ => rfl) rfl (step_same (rLE_st pb sb PC C mp ps j cj i c src ib bp bl be eb ll TR xr lr o0 o1 loc B1) hL hcl rfl rfl hG)
    · intro L9 α a9 u9 K9 hL hcl hA hG hS h0 hK
      replace hL : L9 1 = false := hL
      have q4 : a9.tmps[4]? = some (.pointer (some ⟨B1, 0, none⟩)) := (h0 4 (by kernel_rfl)).trans rfl
      have s4 := Rega.eval_of q4
      go_simp
      exact hK _ α _ (fun _ _ => rfl) rfl (step_same (rLE_st pb sb PC C mp ps j cj i c src ib bp bl be eb ll TR xr lr o0 o1 loc B1) hL hcl rfl rfl hG)
    · intro L9 α a9 u9 K9 hL hcl hA hG hS h0 hK
      replace hL : L9 2 = false := hL
      have q139 : a9.tmps[139]? = some (.pointer (some ⟨B1, 1, none⟩)) := hS 1 139 (by decide) rfl (by show 139 < 152; decide)
      have s139 := Rega.eval_of q139
      have e0 : rLER pb sb PC C mp ps j cj i c src ib bp bl be eb ll TR xr lr o0 o1 loc B1 L9 α 3999 = row (B1) 34 #[.iface 55 (.pointer (some ⟨ib, 0, none⟩)), .int .i32 ll] := rfl
      have hr := hG.rowAt 3999 (act_base 3999 rfl) e0
      have c0 : u9.cell? ⟨B1, 1, none⟩ = some (.int .i32 ll) := hr.cell rfl
      clear hr e0
      go_simp
      exact hK _ α _ (fun _ _ => rfl) rfl (step_same (rLE_st pb sb PC C mp ps j cj i c src ib bp bl be eb ll TR xr lr o0 o1 loc B1) hL hcl rfl rfl hG)
    · intro L9 α a9 u9 K9 hL hcl hA hG hS h0 hK
      replace hL : L9 3 = false := hL
      have q15 : a9.tmps[15]? = some (.pointer (some ⟨ib, 0, none⟩)) := (h0 15 (by kernel_rfl)).trans rfl
      have s15 := Rega.eval_of q15
      go_simp
      exact hK _ α _ (fun _ _ => rfl) rfl (step_same (rLE_st pb sb PC C mp ps j cj i c src ib bp bl be eb ll TR xr lr o0 o1 loc B1) hL hcl rfl rfl hG)
    · intro L9 α a9 u9 K9 hL hcl hA hG hS h0 hK
      replace hL : L9 4 = false := hL
      have q141 : a9.tmps[141]? = some (.pointer (some ⟨ib, 0, none⟩)) := hS 3 141 (by decide) rfl (by show 141 < 152; decide)
      have s141 := Rega.eval_of q141
      go_simp
      exact hK _ α _ (fun _ _ => rfl) rfl (step_same (rLE_st pb sb PC C mp ps j cj i c src ib bp bl be eb ll TR xr lr o0 o1 loc B1) hL hcl rfl rfl hG)
    · intro L9 α a9 u9 K9 hL hcl hA hG hS h0 hK
      replace hL : L9 5 = false := hL
      have q142 : a9.tmps[142]? = some (.pointer (some ⟨ib, 0, none⟩)) := hS 4 142 (by decide) rfl (by show 142 < 152; decide)
      have s142 := Rega.eval_of q142
      go_simp
      exact hK _ α _ (fun _ _ => rfl) rfl (step_same (rLE_st pb sb PC C mp ps j cj i c src ib bp bl be eb ll TR xr lr o0 o1 loc B1) hL hcl rfl rfl hG)
    · intro L9 α a9 u9 K9 hL hcl hA hG hS h0 hK
      replace hL : L9 6 = false := hL
      have q143 : a9.tmps[143]? = some (.pointer (some ⟨ib, 0, none⟩)) := hS 5 143 (by decide) rfl (by show 143 < 152; decide)
      have s143 := Rega.eval_of q143
      have e0 : rLER pb sb PC C mp ps j cj i c src ib bp bl be eb ll TR xr lr o0 o1 loc B1 L9 α 9999 = row (ib) 214 #[.int .u32 src, .int .u32 (i : Int), .bool false, .bool false, .bool false] := rfl
      have hr := hG.rowAt 9999 (act_base 9999 rfl) e0
      have c0 : u9.cell? ⟨ib, 0, none⟩ = some (.int .u32 src) := hr.cell rfl
      have c1 : u9.cell? ⟨ib, 1, none⟩ = some (.int .u32 (i : Int)) := hr.cell rfl
      clear hr e0
      go_simp
      exact hK _ α _ (fun _ _ => rfl) rfl (step_same (rLE_st pb sb PC C mp ps j cj i c src ib bp bl be eb ll TR xr lr o0 o1 loc B1) hL hcl rfl rfl hG)
    · intro L9 α a9 u9 K9 hL hcl hA hG hS h0 hK
      replace hL : L9 7 = false := hL
      have q144 : a9.tmps[144]? = some (.agg #[.int .u32 src, .int .u32 (i : Int)]) := hS 6 144 (by decide) rfl (by show 144 < 152; decide)
      have s144 := Rega.eval_of q144
      go_simp
      exact hK _ α _ (fun _ _ => rfl) rfl (step_same (rLE_st pb sb PC C mp ps j cj i c src ib bp bl be eb ll TR xr lr o0 o1 loc B1) hL hcl rfl rfl hG)
    · intro L9 α a9 u9 K9 hL hcl hA hG hS h0 hK
      replace hL : L9 8 = false := hL
      have q145 : a9.tmps[145]? = some (.agg #[.int .u32 src, .int .u32 (i : Int), .bool false, .bool false, .bool false]) := hS 7 145 (by decide) rfl (by show 145 < 152; decide)
      have s145 := Rega.eval_of q145
      go_simp
      exact hK _ (fun j => if j = 8 then u9.heap.size else α j) _ (fun j hj => if_neg (fun e => hj (by rw [e]))) rfl (step_alloc (rLE_st pb sb PC C mp ps j cj i c src ib bp bl be eb ll TR xr lr o0 o1 loc B1) hL hcl rfl rfl (by decide) _ rfl hG)
    · intro L9 α a9 u9 K9 hL hcl hA hG hS h0 hK
      replace hL : L9 9 = false := hL
      have q146 : a9.tmps[146]? = some (.pointer (some ⟨α 8, 0, none⟩)) := hS 8 146 (by decide) rfl (by show 146 < 152; decide)
      have s146 := Rega.eval_of q146
      go_simp
      exact hK _ α _ (fun _ _ => rfl) rfl (step_same (rLE_st pb sb PC C mp ps j cj i c src ib bp bl be eb ll TR xr lr o0 o1 loc B1) hL hcl rfl rfl hG)
    · intro L9 α a9 u9 K9 hL hcl hA hG hS h0 hK
      replace hL : L9 10 = false := hL
      have q140 : a9.tmps[140]? = some (.agg #[.int .i32 ll]) := hS 2 140 (by decide) rfl (by show 140 < 152; decide)
      have s140 := Rega.eval_of q140
      have q147 : a9.tmps[147]? = some (.iface 55 (.pointer (some ⟨α 8, 0, none⟩))) := hS 9 147 (by decide) rfl (by show 147 < 152; decide)
      have s147 := Rega.eval_of q147
      go_simp
      exact hK _ α _ (fun _ _ => rfl) rfl (step_same (rLE_st pb sb PC C mp ps j cj i c src ib bp bl be eb ll TR xr lr o0 o1 loc B1) hL hcl rfl rfl hG)
    · intro L9 α a9 u9 K9 hL hcl hA hG hS h0 hK
      replace hL : L9 11 = false := hL
      have q4 : a9.tmps[4]? = some (.pointer (some ⟨B1, 0, none⟩)) := (h0 4 (by kernel_rfl)).trans rfl
      have s4 := Rega.eval_of q4
      have e0 : rLER pb sb PC C mp ps j cj i c src ib bp bl be eb ll TR xr lr o0 o1 loc B1 L9 α 3999 = row (B1) 34 #[.iface 55 (.pointer (some ⟨ib, 0, none⟩)), .int .i32 ll] := rfl
      have hr := hG.rowAt 3999 (act_base 3999 rfl) e0
      have c0 : u9.cell? ⟨B1, 0, none⟩ = some (.iface 55 (.pointer (some ⟨ib, 0, none⟩))) := hr.cell rfl
      have c1 : u9.cell? ⟨B1, 1, none⟩ = some (.int .i32 ll) := hr.cell rfl
      clear hr e0
      go_simp
      exact hK _ α _ (fun _ _ => rfl) rfl (step_same (rLE_st pb sb PC C mp ps j cj i c src ib bp bl be eb ll TR xr lr o0 o1 loc B1) hL hcl rfl rfl hG)
    · intro L9 α a9 u9 K9 hL hcl hA hG hS h0 hK
      replace hL : L9 12 = false := hL
      have q138 : a9.tmps[138]? = some (.func (Fn.func 48) #[] #[.pointer (some ⟨bp, 0, none⟩), .pointer (some ⟨bl, 0, none⟩), .pointer (some ⟨be, 0, none⟩)]) := hS 0 138 (by decide) rfl (by show 138 < 152; decide)
      have s138 := Rega.eval_of q138
      have q148 : a9.tmps[148]? = some (.agg #[.iface 55 (.pointer (some ⟨α 8, 0, none⟩)), .int .i32 ll]) := hS 10 148 (by decide) rfl (by show 148 < 152; decide)
      have s148 := Rega.eval_of q148
      have q149 : a9.tmps[149]? = some (.agg #[.iface 55 (.pointer (some ⟨ib, 0, none⟩)), .int .i32 ll]) := hS 11 149 (by decide) rfl (by show 149 < 152; decide)
      have s149 := Rega.eval_of q149
      go_simp
      have e0 : rLER pb sb PC C mp ps j cj i c src ib bp bl be eb ll TR xr lr o0 o1 loc B1 L9 α 999 = row (pb) 207 PC := rfl
      have e1 : rLER pb sb PC C mp ps j cj i c src ib bp bl be eb ll TR xr lr o0 o1 loc B1 L9 α 1999 = row (sb) 223 (bumped C i c) := by
        show rLET1999 pb sb PC C mp ps j cj i c src ib bp bl be eb ll TR xr lr o0 o1 loc B1 L9 α = _
        unfold rLET1999
        rw [if_neg (by rw [hL]; decide)]
      have e2 : rLER pb sb PC C mp ps j cj i c src ib bp bl be eb ll TR xr lr o0 o1 loc B1 L9 α 4999 = (mp, .map #[⟨.string ⟨#[95, 95, 112, 111, 119]⟩, .agg #[.int .i32 0, .int .u32 ps, .int .u32 (j : Int)], 0⟩] 1) := rfl
      have e3 : rLER pb sb PC C mp ps j cj i c src ib bp bl be eb ll TR xr lr o0 o1 loc B1 L9 α 5999 = row (bp) 23 #[.pointer (some ⟨pb, 0, none⟩)] := rfl
      have e4 : rLER pb sb PC C mp ps j cj i c src ib bp bl be eb ll TR xr lr o0 o1 loc B1 L9 α 6999 = row (bl) 32 #[.int .i32 loc] := rfl
      have e5 : rLER pb sb PC C mp ps j cj i c src ib bp bl be eb ll TR xr lr o0 o1 loc B1 L9 α 7999 = row (be) 41 #[.pointer (some ⟨eb, 0, none⟩)] := rfl
      have e6 : rLER pb sb PC C mp ps j cj i c src ib bp bl be eb ll TR xr lr o0 o1 loc B1 L9 α 8999 = row (eb) 47 #[.iface 55 (.pointer (some ⟨ib, 0, none⟩)), .int .i32 ll, .iface TR (.pointer (some ⟨xr, 0, none⟩)), .int .i32 lr, .int .u8 o0, .bool o1] := rfl
      have hM : ∀ i, i ∈ [999, 1999, 4999, 5999, 6999, 7999, 8999] → act rLECnt 10 L9 i := by
        intro i hi
        simp only [List.mem_cons, List.not_mem_nil, or_false] at hi
        rcases hi with rfl | rfl | rfl | rfl | rfl | rfl | rfl
        · exact act_base 999 rfl
        · exact act_base 1999 rfl
        · exact act_base 4999 rfl
        · exact act_base 5999 rfl
        · exact act_base 6999 rfl
        · exact act_base 7999 rfl
        · exact act_base 8999 rfl
      have hP : Own w0 u9 [row (pb) 207 PC, row (sb) 223 (bumped C i c), (mp, .map #[⟨.string ⟨#[95, 95, 112, 111, 119]⟩, .agg #[.int .i32 0, .int .u32 ps, .int .u32 (j : Int)], 0⟩] 1), row (bp) 23 #[.pointer (some ⟨pb, 0, none⟩)], row (bl) 32 #[.int .i32 loc], row (be) 41 #[.pointer (some ⟨eb, 0, none⟩)], row (eb) 47 #[.iface 55 (.pointer (some ⟨ib, 0, none⟩)), .int .i32 ll, .iface TR (.pointer (some ⟨xr, 0, none⟩)), .int .i32 lr, .int .u8 o0, .bool o1]] _ := (hG.pick [999, 1999, 4999, 5999, 6999, 7999, 8999] (by decide) hM).conv (by
        show [rLER pb sb PC C mp ps j cj i c src ib bp bl be eb ll TR xr lr o0 o1 loc B1 L9 α 999, rLER pb sb PC C mp ps j cj i c src ib bp bl be eb ll TR xr lr o0 o1 loc B1 L9 α 1999, rLER pb sb PC C mp ps j cj i c src ib bp bl be eb ll TR xr lr o0 o1 loc B1 L9 α 4999, rLER pb sb PC C mp ps j cj i c src ib bp bl be eb ll TR xr lr o0 o1 loc B1 L9 α 5999, rLER pb sb PC C mp ps j cj i c src ib bp bl be eb ll TR xr lr o0 o1 loc B1 L9 α 6999, rLER pb sb PC C mp ps j cj i c src ib bp bl be eb ll TR xr lr o0 o1 loc B1 L9 α 7999, rLER pb sb PC C mp ps j cj i c src ib bp bl be eb ll TR xr lr o0 o1 loc B1 L9 α 8999] = _
        rw [e0, e1, e2, e3, e4, e5, e6])
      clear e0 e1 e2 e3 e4 e5 e6 hM
      refine Calls.mono (powFn pb sb n cap PC (bumped C i c) mp ps j cj bp bl be eb 55 ib ll TR xr lr o0 o1 loc 55 (α 8) ll 55 ib ll _ _ _ hP hR hn hj hcj hcjm hm) ?_
      rintro e9 u1 ⟨b0, b1, b2, b3, rfl, hQ⟩
      obtain ⟨α', hα'⟩ : ∃ α' : Rega.Atoms, α' = (fun j => if j = 12 then b0 else if j = 1012 then b1 else if j = 2012 then b2 else if j = 3012 then b3 else α j) := ⟨_, rfl⟩
      have f0 : rLER pb sb PC C mp ps j cj i c src ib bp bl be eb ll TR xr lr o0 o1 loc B1 (Rega.ran L9 12) α' 999 = row (pb) 207 PC := rfl
      have f1 : rLER pb sb PC C mp ps j cj i c src ib bp bl be eb ll TR xr lr o0 o1 loc B1 (Rega.ran L9 12) α' 1999 = row (sb) 223 (bumped (bumped C i c) j cj) := by
        show rLET1999 pb sb PC C mp ps j cj i c src ib bp bl be eb ll TR xr lr o0 o1 loc B1 (Rega.ran L9 12) α' = _
        unfold rLET1999
        rw [if_pos (show Rega.ran L9 12 12 = true from rfl)]
      have f2 : rLER pb sb PC C mp ps j cj i c src ib bp bl be eb ll TR xr lr o0 o1 loc B1 (Rega.ran L9 12) α' 4999 = (mp, .map #[⟨.string ⟨#[95, 95, 112, 111, 119]⟩, .agg #[.int .i32 0, .int .u32 ps, .int .u32 (j : Int)], 0⟩] 1) := rfl
      have f3 : rLER pb sb PC C mp ps j cj i c src ib bp bl be eb ll TR xr lr o0 o1 loc B1 (Rega.ran L9 12) α' 5999 = row (bp) 23 #[.pointer (some ⟨pb, 0, none⟩)] := rfl
      have f4 : rLER pb sb PC C mp ps j cj i c src ib bp bl be eb ll TR xr lr o0 o1 loc B1 (Rega.ran L9 12) α' 6999 = row (bl) 32 #[.int .i32 loc] := rfl
      have f5 : rLER pb sb PC C mp ps j cj i c src ib bp bl be eb ll TR xr lr o0 o1 loc B1 (Rega.ran L9 12) α' 7999 = row (be) 41 #[.pointer (some ⟨eb, 0, none⟩)] := rfl
      have f6 : rLER pb sb PC C mp ps j cj i c src ib bp bl be eb ll TR xr lr o0 o1 loc B1 (Rega.ran L9 12) α' 8999 = row (eb) 47 #[.iface 55 (.pointer (some ⟨ib, 0, none⟩)), .int .i32 ll, .iface TR (.pointer (some ⟨xr, 0, none⟩)), .int .i32 lr, .int .u8 o0, .bool o1] := rfl
      have f7 : rLER pb sb PC C mp ps j cj i c src ib bp bl be eb ll TR xr lr o0 o1 loc B1 (Rega.ran L9 12) α' 12 = row (α' 12) 47 #[.iface 55 (.pointer (some ⟨α' 8, 0, none⟩)), .int .i32 ll, .iface 72 (.pointer (some ⟨α' 1012, 0, none⟩)), .int .i32 loc, .int .u8 37, .bool false] := rfl
      have f8 : rLER pb sb PC C mp ps j cj i c src ib bp bl be eb ll TR xr lr o0 o1 loc B1 (Rega.ran L9 12) α' 1012 = row (α' 1012) 77 #[.iface 55 (.pointer (some ⟨α' 2012, 0, none⟩)), .int .i32 loc, .slice (some ⟨α' 3012, 0, none⟩) 2 2, .int .i32 0, .int .u8 0, .int .u8 0, .bool false, .bool false] := rfl
      have f9 : rLER pb sb PC C mp ps j cj i c src ib bp bl be eb ll TR xr lr o0 o1 loc B1 (Rega.ran L9 12) α' 2012 = row (α' 2012) 214 #[.int .u32 ps, .int .u32 (j : Int), .bool false, .bool false, .bool false] := rfl
      have f10 : rLER pb sb PC C mp ps j cj i c src ib bp bl be eb ll TR xr lr o0 o1 loc B1 (Rega.ran L9 12) α' 3012 = row (α' 3012) 34 #[.iface 55 (.pointer (some ⟨ib, 0, none⟩)), .int .i32 ll, .iface TR (.pointer (some ⟨xr, 0, none⟩)), .int .i32 lr] := rfl
      have hα : ∀ j, j % 1000 ≠ 12 → α' j = α j := fun j hj => by rw [hα']; simp only []; rw [if_neg (by omega), if_neg (by omega), if_neg (by omega), if_neg (by omega)]
      have hb0 : α' 12 = b0 := by rw [hα']; rfl
      have hb1 : α' 1012 = b1 := by rw [hα']; rfl
      have hb2 : α' 2012 = b2 := by rw [hα']; rfl
      have hb3 : α' 3012 = b3 := by rw [hα']; rfl
      have ha8 : α' 8 = α 8 := hα 8 (by decide)
      skip
      refine hK _ α' _ hα ?_ (step_call (rLE_st pb sb PC C mp ps j cj i c src ib bp bl be eb ll TR xr lr o0 o1 loc B1) hL hcl hα [999, 1999, 4999, 5999, 6999, 7999, 8999] [999, 1999, 4999, 5999, 6999, 7999, 8999, 12, 1012, 2012, 3012] (by decide) (by decide) (by decide) (M := _) ?_ hG hQ)
      · show _ = (.agg #[.iface 41 (.pointer (some ⟨α' 12, 0, none⟩)), .int .i32 ll] : Value)
        simp only [hb0]
      · show [rLER pb sb PC C mp ps j cj i c src ib bp bl be eb ll TR xr lr o0 o1 loc B1 (Rega.ran L9 12) α' 999, rLER pb sb PC C mp ps j cj i c src ib bp bl be eb ll TR xr lr o0 o1 loc B1 (Rega.ran L9 12) α' 1999, rLER pb sb PC C mp ps j cj i c src ib bp bl be eb ll TR xr lr o0 o1 loc B1 (Rega.ran L9 12) α' 4999, rLER pb sb PC C mp ps j cj i c src ib bp bl be eb ll TR xr lr o0 o1 loc B1 (Rega.ran L9 12) α' 5999, rLER pb sb PC C mp ps j cj i c src ib bp bl be eb ll TR xr lr o0 o1 loc B1 (Rega.ran L9 12) α' 6999, rLER pb sb PC C mp ps j cj i c src ib bp bl be eb ll TR xr lr o0 o1 loc B1 (Rega.ran L9 12) α' 7999, rLER pb sb PC C mp ps j cj i c src ib bp bl be eb ll TR xr lr o0 o1 loc B1 (Rega.ran L9 12) α' 8999, rLER pb sb PC C mp ps j cj i c src ib bp bl be eb ll TR xr lr o0 o1 loc B1 (Rega.ran L9 12) α' 12, rLER pb sb PC C mp ps j cj i c src ib bp bl be eb ll TR xr lr o0 o1 loc B1 (Rega.ran L9 12) α' 1012, rLER pb sb PC C mp ps j cj i c src ib bp bl be eb ll TR xr lr o0 o1 loc B1 (Rega.ran L9 12) α' 2012, rLER pb sb PC C mp ps j cj i c src ib bp bl be eb ll TR xr lr o0 o1 loc B1 (Rega.ran L9 12) α' 3012] = _
        rw [f0, f1, f2, f3, f4, f5, f6, f7, f8, f9, f10]
        simp only [hb0, hb1, hb2, hb3, ha8]
    · intro L9 α a9 u9 K9 hL hcl hA hG hS h0 hK
      replace hL : L9 13 = false := hL
      have q6 : a9.tmps[6]? = some (.pointer (some ⟨B1 + 1, 0, none⟩)) := (h0 6 (by kernel_rfl)).trans rfl
      have s6 := Rega.eval_of q6
      have q150 : a9.tmps[150]? = some (.agg #[.iface 41 (.pointer (some ⟨α 12, 0, none⟩)), .int .i32 ll]) := hS 12 150 (by decide) rfl (by show 150 < 152; decide)
      have s150 := Rega.eval_of q150
      have e0 : rLER pb sb PC C mp ps j cj i c src ib bp bl be eb ll TR xr lr o0 o1 loc B1 L9 α 2999 = row (B1 + 1) 34 #[.nilIface, .int .i32 0] := by
        show rLET2999 pb sb PC C mp ps j cj i c src ib bp bl be eb ll TR xr lr o0 o1 loc B1 L9 α = _
        unfold rLET2999
        rw [if_neg (by rw [hL]; decide)]
      have hr := hG.rowAt 2999 (act_base 2999 rfl) e0
      have c0 : u9.cell? ⟨B1 + 1, 0, none⟩ = some (.nilIface) := hr.cell rfl
      have y0 : u9.frozen? ⟨B1 + 1, 0, none⟩ = false := hr.free 0
      have c1 : u9.cell? ⟨B1 + 1, 1, none⟩ = some (.int .i32 0) := hr.cell rfl
      have y1 : u9.frozen? ⟨B1 + 1, 1, none⟩ = false := hr.free 1
      clear hr
      have E0 := Lib.hid e0
      clear e0
      go_simp
      have e1 : rLER pb sb PC C mp ps j cj i c src ib bp bl be eb ll TR xr lr o0 o1 loc B1 (Rega.ran L9 13) α 2999 = row (B1 + 1) 34 #[.iface 41 (.pointer (some ⟨α 12, 0, none⟩)), .int .i32 ll] := by
        show rLET2999 pb sb PC C mp ps j cj i c src ib bp bl be eb ll TR xr lr o0 o1 loc B1 (Rega.ran L9 13) α = _
        unfold rLET2999
        rw [if_pos (show Rega.ran L9 13 13 = true from rfl)]
      exact hK _ α _ (fun _ _ => rfl) rfl (step_sets (rLE_st pb sb PC C mp ps j cj i c src ib bp bl be eb ll TR xr lr o0 o1 loc B1) hL hcl rfl 2999 rfl (act_base 2999 rfl) E0.out 0 [.iface 41 (.pointer (some ⟨α 12, 0, none⟩)), .int .i32 ll] (e1.trans rfl) hG)
  · intro α u hG
    have e0 : rLER pb sb PC C mp ps j cj i c src ib bp bl be eb ll TR xr lr o0 o1 loc B1 (fun k => decide (k < 14)) α 999 = row (pb) 207 PC := rfl
    have e1 : rLER pb sb PC C mp ps j cj i c src ib bp bl be eb ll TR xr lr o0 o1 loc B1 (fun k => decide (k < 14)) α 1999 = row (sb) 223 (bumped (bumped C i c) j cj) := by
      show rLET1999 pb sb PC C mp ps j cj i c src ib bp bl be eb ll TR xr lr o0 o1 loc B1 (fun k => decide (k < 14)) α = _
      unfold rLET1999
      rw [if_pos (by decide)]
    have e2 : rLER pb sb PC C mp ps j cj i c src ib bp bl be eb ll TR xr lr o0 o1 loc B1 (fun k => decide (k < 14)) α 2999 = row (B1 + 1) 34 #[.iface 41 (.pointer (some ⟨α 12, 0, none⟩)), .int .i32 ll] := by
      show rLET2999 pb sb PC C mp ps j cj i c src ib bp bl be eb ll TR xr lr o0 o1 loc B1 (fun k => decide (k < 14)) α = _
      unfold rLET2999
      rw [if_pos (by decide)]
    have e3 : rLER pb sb PC C mp ps j cj i c src ib bp bl be eb ll TR xr lr o0 o1 loc B1 (fun k => decide (k < 14)) α 3999 = row (B1) 34 #[.iface 55 (.pointer (some ⟨ib, 0, none⟩)), .int .i32 ll] := rfl
    have e4 : rLER pb sb PC C mp ps j cj i c src ib bp bl be eb ll TR xr lr o0 o1 loc B1 (fun k => decide (k < 14)) α 4999 = (mp, .map #[⟨.string ⟨#[95, 95, 112, 111, 119]⟩, .agg #[.int .i32 0, .int .u32 ps, .int .u32 (j : Int)], 0⟩] 1) := rfl
    have e5 : rLER pb sb PC C mp ps j cj i c src ib bp bl be eb ll TR xr lr o0 o1 loc B1 (fun k => decide (k < 14)) α 5999 = row (bp) 23 #[.pointer (some ⟨pb, 0, none⟩)] := rfl
    have e6 : rLER pb sb PC C mp ps j cj i c src ib bp bl be eb ll TR xr lr o0 o1 loc B1 (fun k => decide (k < 14)) α 6999 = row (bl) 32 #[.int .i32 loc] := rfl
    have e7 : rLER pb sb PC C mp ps j cj i c src ib bp bl be eb ll TR xr lr o0 o1 loc B1 (fun k => decide (k < 14)) α 7999 = row (be) 41 #[.pointer (some ⟨eb, 0, none⟩)] := rfl
    have e8 : rLER pb sb PC C mp ps j cj i c src ib bp bl be eb ll TR xr lr o0 o1 loc B1 (fun k => decide (k < 14)) α 8999 = row (eb) 47 #[.iface 55 (.pointer (some ⟨ib, 0, none⟩)), .int .i32 ll, .iface TR (.pointer (some ⟨xr, 0, none⟩)), .int .i32 lr, .int .u8 o0, .bool o1] := rfl
    have e9 : rLER pb sb PC C mp ps j cj i c src ib bp bl be eb ll TR xr lr o0 o1 loc B1 (fun k => decide (k < 14)) α 9999 = row (ib) 214 #[.int .u32 src, .int .u32 (i : Int), .bool false, .bool false, .bool false] := rfl
    have e10 : rLER pb sb PC C mp ps j cj i c src ib bp bl be eb ll TR xr lr o0 o1 loc B1 (fun k => decide (k < 14)) α 8 = row (α 8) 214 #[.int .u32 src, .int .u32 (i : Int), .bool false, .bool false, .bool false] := rfl
    have e11 : rLER pb sb PC C mp ps j cj i c src ib bp bl be eb ll TR xr lr o0 o1 loc B1 (fun k => decide (k < 14)) α 12 = row (α 12) 47 #[.iface 55 (.pointer (some ⟨α 8, 0, none⟩)), .int .i32 ll, .iface 72 (.pointer (some ⟨α 1012, 0, none⟩)), .int .i32 loc, .int .u8 37, .bool false] := rfl
    have e12 : rLER pb sb PC C mp ps j cj i c src ib bp bl be eb ll TR xr lr o0 o1 loc B1 (fun k => decide (k < 14)) α 1012 = row (α 1012) 77 #[.iface 55 (.pointer (some ⟨α 2012, 0, none⟩)), .int .i32 loc, .slice (some ⟨α 3012, 0, none⟩) 2 2, .int .i32 0, .int .u8 0, .int .u8 0, .bool false, .bool false] := rfl
    have e13 : rLER pb sb PC C mp ps j cj i c src ib bp bl be eb ll TR xr lr o0 o1 loc B1 (fun k => decide (k < 14)) α 2012 = row (α 2012) 214 #[.int .u32 ps, .int .u32 (j : Int), .bool false, .bool false, .bool false] := rfl
    have e14 : rLER pb sb PC C mp ps j cj i c src ib bp bl be eb ll TR xr lr o0 o1 loc B1 (fun k => decide (k < 14)) α 3012 = row (α 3012) 34 #[.iface 55 (.pointer (some ⟨ib, 0, none⟩)), .int .i32 ll, .iface TR (.pointer (some ⟨xr, 0, none⟩)), .int .i32 lr] := rfl
    have hO : Own w0 u [row (pb) 207 PC, row (sb) 223 (bumped (bumped C i c) j cj), row (B1 + 1) 34 #[.iface 41 (.pointer (some ⟨α 12, 0, none⟩)), .int .i32 ll], row (B1) 34 #[.iface 55 (.pointer (some ⟨ib, 0, none⟩)), .int .i32 ll], (mp, .map #[⟨.string ⟨#[95, 95, 112, 111, 119]⟩, .agg #[.int .i32 0, .int .u32 ps, .int .u32 (j : Int)], 0⟩] 1), row (bp) 23 #[.pointer (some ⟨pb, 0, none⟩)], row (bl) 32 #[.int .i32 loc], row (be) 41 #[.pointer (some ⟨eb, 0, none⟩)], row (eb) 47 #[.iface 55 (.pointer (some ⟨ib, 0, none⟩)), .int .i32 ll, .iface TR (.pointer (some ⟨xr, 0, none⟩)), .int .i32 lr, .int .u8 o0, .bool o1], row (ib) 214 #[.int .u32 src, .int .u32 (i : Int), .bool false, .bool false, .bool false], row (α 8) 214 #[.int .u32 src, .int .u32 (i : Int), .bool false, .bool false, .bool false], row (α 12) 47 #[.iface 55 (.pointer (some ⟨α 8, 0, none⟩)), .int .i32 ll, .iface 72 (.pointer (some ⟨α 1012, 0, none⟩)), .int .i32 loc, .int .u8 37, .bool false], row (α 1012) 77 #[.iface 55 (.pointer (some ⟨α 2012, 0, none⟩)), .int .i32 loc, .slice (some ⟨α 3012, 0, none⟩) 2 2, .int .i32 0, .int .u8 0, .int .u8 0, .bool false, .bool false], row (α 2012) 214 #[.int .u32 ps, .int .u32 (j : Int), .bool false, .bool false, .bool false], row (α 3012) 34 #[.iface 55 (.pointer (some ⟨ib, 0, none⟩)), .int .i32 ll, .iface TR (.pointer (some ⟨xr, 0, none⟩)), .int .i32 lr]] X := (hG.list [999, 1999, 2999, 3999, 4999, 5999, 6999, 7999, 8999, 9999, 8, 12, 1012, 2012, 3012] (by decide) (act_all (by decide))).conv (by
      show [rLER pb sb PC C mp ps j cj i c src ib bp bl be eb ll TR xr lr o0 o1 loc B1 (fun k => decide (k < 14)) α 999, rLER pb sb PC C mp ps j cj i c src ib bp bl be eb ll TR xr lr o0 o1 loc B1 (fun k => decide (k < 14)) α 1999, rLER pb sb PC C mp ps j cj i c src ib bp bl be eb ll TR xr lr o0 o1 loc B1 (fun k => decide (k < 14)) α 2999, rLER pb sb PC C mp ps j cj i c src ib bp bl be eb ll TR xr lr o0 o1 loc B1 (fun k => decide (k < 14)) α 3999, rLER pb sb PC C mp ps j cj i c src ib bp bl be eb ll TR xr lr o0 o1 loc B1 (fun k => decide (k < 14)) α 4999, rLER pb sb PC C mp ps j cj i c src ib bp bl be eb ll TR xr lr o0 o1 loc B1 (fun k => decide (k < 14)) α 5999, rLER pb sb PC C mp ps j cj i c src ib bp bl be eb ll TR xr lr o0 o1 loc B1 (fun k => decide (k < 14)) α 6999, rLER pb sb PC C mp ps j cj i c src ib bp bl be eb ll TR xr lr o0 o1 loc B1 (fun k => decide (k < 14)) α 7999, rLER pb sb PC C mp ps j cj i c src ib bp bl be eb ll TR xr lr o0 o1 loc B1 (fun k => decide (k < 14)) α 8999, rLER pb sb PC C mp ps j cj i c src ib bp bl be eb ll TR xr lr o0 o1 loc B1 (fun k => decide (k < 14)) α 9999, rLER pb sb PC C mp ps j cj i c src ib bp bl be eb ll TR xr lr o0 o1 loc B1 (fun k => decide (k < 14)) α 8, rLER pb sb PC C mp ps j cj i c src ib bp bl be eb ll TR xr lr o0 o1 loc B1 (fun k => decide (k < 14)) α 12, rLER pb sb PC C mp ps j cj i c src ib bp bl be eb ll TR xr lr o0 o1 loc B1 (fun k => decide (k < 14)) α 1012, rLER pb sb PC C mp ps j cj i c src ib bp bl be eb ll TR xr lr o0 o1 loc B1 (fun k => decide (k < 14)) α 2012, rLER pb sb PC C mp ps j cj i c src ib bp bl be eb ll TR xr lr o0 o1 loc B1 (fun k => decide (k < 14)) α 3012] = _
      rw [e0, e1, e2, e3, e4, e5, e6, e7, e8, e9, e10, e11, e12, e13, e14])
    clear hG e0 e1 e2 e3 e4 e5 e6 e7 e8 e9 e10 e11 e12 e13 e14
    generalize hfr : Rega.frameAt _ _ _ _ _ = fr
    have hdf : fr = ⟨#[.pointer (some ⟨pb, 0, none⟩), .agg #[.iface 55 (.pointer (some ⟨ib, 0, none⟩)), .int .i32 ll], .func (Fn.func 48) #[] #[.pointer (some ⟨bp, 0, none⟩), .pointer (some ⟨bl, 0, none⟩), .pointer (some ⟨be, 0, none⟩)], undef, .pointer (some ⟨B1, 0, none⟩), undef, .pointer (some ⟨B1 + 1, 0, none⟩), undef, undef, undef, undef, undef, undef, undef, undef, .pointer (some ⟨ib, 0, none⟩), .pointer (some ⟨B1, 0, none⟩), .iface 55 (.pointer (some ⟨ib, 0, none⟩)), .tuple #[.pointer none, .bool false], .bool false, .pointer none, undef, undef, undef, undef, undef, undef, undef, undef, undef, undef, undef, undef, undef, undef, undef, undef, undef, undef, undef, undef, undef, undef, undef, undef, undef, undef, undef, undef, undef, undef, undef, undef, undef, undef, undef, undef, undef, undef, undef, undef, undef, undef, undef, undef, undef, undef, undef, undef, undef, undef, undef, undef, .tuple #[.pointer none, .bool false], .bool false, .pointer none, undef, undef, undef, undef, undef, undef, undef, undef, undef, undef, undef, undef, undef, undef, undef, undef, undef, undef, undef, undef, undef, undef, undef, undef, undef, undef, undef, undef, undef, undef, undef, undef, undef, undef, undef, undef, undef, undef, undef, undef, undef, undef, undef, undef, undef, undef, undef, undef, undef, undef, undef, undef, undef, .tuple #[.pointer (some ⟨ib, 0, none⟩), .bool true], .bool true, .pointer (some ⟨ib, 0, none⟩), .pointer (some ⟨pb, 0, none⟩), .pointer (some ⟨ib, 0, none⟩), .pointer (some ⟨ib, 0, none⟩), .pointer (some ⟨ib, 0, none⟩), .agg #[.int .u32 src, .int .u32 (i : Int)], .tuple #[], .func (Fn.func 48) #[] #[.pointer (some ⟨bp, 0, none⟩), .pointer (some ⟨bl, 0, none⟩), .pointer (some ⟨be, 0, none⟩)], .pointer (some ⟨B1, 1, none⟩), .agg #[.int .i32 ll], .pointer (some ⟨ib, 0, none⟩), .pointer (some ⟨ib, 0, none⟩), .pointer (some ⟨ib, 0, none⟩), .agg #[.int .u32 src, .int .u32 (i : Int)], .agg #[.int .u32 src, .int .u32 (i : Int), .bool false, .bool false, .bool false], .pointer (some ⟨α 8, 0, none⟩), .iface 55 (.pointer (some ⟨α 8, 0, none⟩)), .agg #[.iface 55 (.pointer (some ⟨α 8, 0, none⟩)), .int .i32 ll], .agg #[.iface 55 (.pointer (some ⟨ib, 0, none⟩)), .int .i32 ll], .agg #[.iface 41 (.pointer (some ⟨α 12, 0, none⟩)), .int .i32 ll], undef], []⟩ := by rw [← hfr]; kernel_rfl
    clear hfr
    subst hdf
    generalize α 8 = nd4 at hO ⊢
    generalize α 12 = nd5 at hO ⊢
    generalize α 1012 = nd6 at hO ⊢
    generalize α 2012 = nd7 at hO ⊢
    generalize α 3012 = nd8 at hO ⊢
    clear α
    have c9_2_0 : u.cell? ⟨B1 + 1, 0, none⟩ = some (.iface 41 (.pointer (some ⟨nd5, 0, none⟩))) := hO.cell 2 rfl 0 rfl
    have c9_2_1 : u.cell? ⟨B1 + 1, 1, none⟩ = some (.int .i32 ll) := hO.cell 2 rfl 1 rfl
    have lt9_2 : B1 + 1 < u.heap.size := hO.lt 2 rfl
    have y9_2 : ∀ o, u.frozen? ⟨B1 + 1, o, none⟩ = false := hO.free 2 rfl
    have c9_3_0 : u.cell? ⟨B1, 0, none⟩ = some (.iface 55 (.pointer (some ⟨ib, 0, none⟩))) := hO.cell 3 rfl 0 rfl
    have c9_3_1 : u.cell? ⟨B1, 1, none⟩ = some (.int .i32 ll) := hO.cell 3 rfl 1 rfl
    have lt9_3 : B1 < u.heap.size := hO.lt 3 rfl
    have y9_3 : ∀ o, u.frozen? ⟨B1, o, none⟩ = false := hO.free 3 rfl
    have c9_5_0 : u.cell? ⟨bp, 0, none⟩ = some (.pointer (some ⟨pb, 0, none⟩)) := hO.cell 5 rfl 0 rfl
    have lt9_5 : bp < u.heap.size := hO.lt 5 rfl
    have y9_5 : ∀ o, u.frozen? ⟨bp, o, none⟩ = false := hO.free 5 rfl
    have c9_6_0 : u.cell? ⟨bl, 0, none⟩ = some (.int .i32 loc) := hO.cell 6 rfl 0 rfl
    have lt9_6 : bl < u.heap.size := hO.lt 6 rfl
    have y9_6 : ∀ o, u.frozen? ⟨bl, o, none⟩ = false := hO.free 6 rfl
    have c9_7_0 : u.cell? ⟨be, 0, none⟩ = some (.pointer (some ⟨eb, 0, none⟩)) := hO.cell 7 rfl 0 rfl
    have lt9_7 : be < u.heap.size := hO.lt 7 rfl
    have y9_7 : ∀ o, u.frozen? ⟨be, o, none⟩ = false := hO.free 7 rfl
    have c9_8_0 : u.cell? ⟨eb, 0, none⟩ = some (.iface 55 (.pointer (some ⟨ib, 0, none⟩))) := hO.cell 8 rfl 0 rfl
    have c9_8_1 : u.cell? ⟨eb, 1, none⟩ = some (.int .i32 ll) := hO.cell 8 rfl 1 rfl
    have c9_8_2 : u.cell? ⟨eb, 2, none⟩ = some (.iface TR (.pointer (some ⟨xr, 0, none⟩))) := hO.cell 8 rfl 2 rfl
    have c9_8_3 : u.cell? ⟨eb, 3, none⟩ = some (.int .i32 lr) := hO.cell 8 rfl 3 rfl
    have c9_8_4 : u.cell? ⟨eb, 4, none⟩ = some (.int .u8 o0) := hO.cell 8 rfl 4 rfl
    have c9_8_5 : u.cell? ⟨eb, 5, none⟩ = some (.bool o1) := hO.cell 8 rfl 5 rfl
    have lt9_8 : eb < u.heap.size := hO.lt 8 rfl
    have y9_8 : ∀ o, u.frozen? ⟨eb, o, none⟩ = false := hO.free 8 rfl
    have c9_9_0 : u.cell? ⟨ib, 0, none⟩ = some (.int .u32 src) := hO.cell 9 rfl 0 rfl
    have c9_9_1 : u.cell? ⟨ib, 1, none⟩ = some (.int .u32 (i : Int)) := hO.cell 9 rfl 1 rfl
    have c9_9_2 : u.cell? ⟨ib, 2, none⟩ = some (.bool false) := hO.cell 9 rfl 2 rfl
    have c9_9_3 : u.cell? ⟨ib, 3, none⟩ = some (.bool false) := hO.cell 9 rfl 3 rfl
    have c9_9_4 : u.cell? ⟨ib, 4, none⟩ = some (.bool false) := hO.cell 9 rfl 4 rfl
    have lt9_9 : ib < u.heap.size := hO.lt 9 rfl
    have y9_9 : ∀ o, u.frozen? ⟨ib, o, none⟩ = false := hO.free 9 rfl
    have c9_10_0 : u.cell? ⟨nd4, 0, none⟩ = some (.int .u32 src) := hO.cell 10 rfl 0 rfl
    have c9_10_1 : u.cell? ⟨nd4, 1, none⟩ = some (.int .u32 (i : Int)) := hO.cell 10 rfl 1 rfl
    have c9_10_2 : u.cell? ⟨nd4, 2, none⟩ = some (.bool false) := hO.cell 10 rfl 2 rfl
    have c9_10_3 : u.cell? ⟨nd4, 3, none⟩ = some (.bool false) := hO.cell 10 rfl 3 rfl
    have c9_10_4 : u.cell? ⟨nd4, 4, none⟩ = some (.bool false) := hO.cell 10 rfl 4 rfl
    have lt9_10 : nd4 < u.heap.size := hO.lt 10 rfl
    have y9_10 : ∀ o, u.frozen? ⟨nd4, o, none⟩ = false := hO.free 10 rfl
    have c9_11_0 : u.cell? ⟨nd5, 0, none⟩ = some (.iface 55 (.pointer (some ⟨nd4, 0, none⟩))) := hO.cell 11 rfl 0 rfl
    have c9_11_1 : u.cell? ⟨nd5, 1, none⟩ = some (.int .i32 ll) := hO.cell 11 rfl 1 rfl
    have c9_11_2 : u.cell? ⟨nd5, 2, none⟩ = some (.iface 72 (.pointer (some ⟨nd6, 0, none⟩))) := hO.cell 11 rfl 2 rfl
    have c9_11_3 : u.cell? ⟨nd5, 3, none⟩ = some (.int .i32 loc) := hO.cell 11 rfl 3 rfl
    have c9_11_4 : u.cell? ⟨nd5, 4, none⟩ = some (.int .u8 37) := hO.cell 11 rfl 4 rfl
    have c9_11_5 : u.cell? ⟨nd5, 5, none⟩ = some (.bool false) := hO.cell 11 rfl 5 rfl
    have lt9_11 : nd5 < u.heap.size := hO.lt 11 rfl
    have y9_11 : ∀ o, u.frozen? ⟨nd5, o, none⟩ = false := hO.free 11 rfl
    have c9_12_0 : u.cell? ⟨nd6, 0, none⟩ = some (.iface 55 (.pointer (some ⟨nd7, 0, none⟩))) := hO.cell 12 rfl 0 rfl
    have c9_12_1 : u.cell? ⟨nd6, 1, none⟩ = some (.int .i32 loc) := hO.cell 12 rfl 1 rfl
    have c9_12_2 : u.cell? ⟨nd6, 2, none⟩ = some (.slice (some ⟨nd8, 0, none⟩) 2 2) := hO.cell 12 rfl 2 rfl
    have c9_12_3 : u.cell? ⟨nd6, 3, none⟩ = some (.int .i32 0) := hO.cell 12 rfl 3 rfl
    have c9_12_4 : u.cell? ⟨nd6, 4, none⟩ = some (.int .u8 0) := hO.cell 12 rfl 4 rfl
    have c9_12_5 : u.cell? ⟨nd6, 5, none⟩ = some (.int .u8 0) := hO.cell 12 rfl 5 rfl
    have c9_12_6 : u.cell? ⟨nd6, 6, none⟩ = some (.bool false) := hO.cell 12 rfl 6 rfl
    have c9_12_7 : u.cell? ⟨nd6, 7, none⟩ = some (.bool false) := hO.cell 12 rfl 7 rfl
    have lt9_12 : nd6 < u.heap.size := hO.lt 12 rfl
    have y9_12 : ∀ o, u.frozen? ⟨nd6, o, none⟩ = false := hO.free 12 rfl
    have c9_13_0 : u.cell? ⟨nd7, 0, none⟩ = some (.int .u32 ps) := hO.cell 13 rfl 0 rfl
    have c9_13_1 : u.cell? ⟨nd7, 1, none⟩ = some (.int .u32 (j : Int)) := hO.cell 13 rfl 1 rfl
    have c9_13_2 : u.cell? ⟨nd7, 2, none⟩ = some (.bool false) := hO.cell 13 rfl 2 rfl
    have c9_13_3 : u.cell? ⟨nd7, 3, none⟩ = some (.bool false) := hO.cell 13 rfl 3 rfl
    have c9_13_4 : u.cell? ⟨nd7, 4, none⟩ = some (.bool false) := hO.cell 13 rfl 4 rfl
    have lt9_13 : nd7 < u.heap.size := hO.lt 13 rfl
    have y9_13 : ∀ o, u.frozen? ⟨nd7, o, none⟩ = false := hO.free 13 rfl
    have c9_14_0 : u.cell? ⟨nd8, 0, none⟩ = some (.iface 55 (.pointer (some ⟨ib, 0, none⟩))) := hO.cell 14 rfl 0 rfl
    have c9_14_1 : u.cell? ⟨nd8, 1, none⟩ = some (.int .i32 ll) := hO.cell 14 rfl 1 rfl
    have c9_14_2 : u.cell? ⟨nd8, 2, none⟩ = some (.iface TR (.pointer (some ⟨xr, 0, none⟩))) := hO.cell 14 rfl 2 rfl
    have c9_14_3 : u.cell? ⟨nd8, 3, none⟩ = some (.int .i32 lr) := hO.cell 14 rfl 3 rfl
    have lt9_14 : nd8 < u.heap.size := hO.lt 14 rfl
    have y9_14 : ∀ o, u.frozen? ⟨nd8, o, none⟩ = false := hO.free 14 rfl
    have HO := Lib.hid hO
    clear hO
    go_wp2_with fail
    have hO := HO.out
    clear HO c9_2_0 c9_2_1 lt9_2 y9_2 c9_3_0 c9_3_1 lt9_3 y9_3 c9_5_0 lt9_5 y9_5 c9_6_0 lt9_6 y9_6 c9_7_0 lt9_7 y9_7 c9_8_0 c9_8_1 c9_8_2 c9_8_3 c9_8_4 c9_8_5 lt9_8 y9_8 c9_9_0 c9_9_1 c9_9_2 c9_9_3 c9_9_4 lt9_9 y9_9 c9_10_0 c9_10_1 c9_10_2 c9_10_3 c9_10_4 lt9_10 y9_10 c9_11_0 c9_11_1 c9_11_2 c9_11_3 c9_11_4 c9_11_5 lt9_11 y9_11 c9_12_0 c9_12_1 c9_12_2 c9_12_3 c9_12_4 c9_12_5 c9_12_6 c9_12_7 lt9_12 y9_12 c9_13_0 c9_13_1 c9_13_2 c9_13_3 c9_13_4 lt9_13 y9_13 c9_14_0 c9_14_1 c9_14_2 c9_14_3 lt9_14 y9_14
    have z9_2_0 : u.cell? ⟨B1 + 1, 0, none⟩ = some (.iface 41 (.pointer (some ⟨nd5, 0, none⟩))) := hO.cell 2 rfl 0 rfl
    have z9_2_1 : u.cell? ⟨B1 + 1, 1, none⟩ = some (.int .i32 ll) := hO.cell 2 rfl 1 rfl
    refine bodyPost_ret (v := .agg #[.iface 41 (.pointer (some ⟨nd5, 0, none⟩)), .int .i32 ll]) ?_ rfl ⟨nd5, nd6, nd7, nd8, nd4, rfl, hO.sub [0, 1, 4, 5, 6, 7, 8, 9, 11, 12, 13, 14, 10] (by decide)⟩
    simp [results, Tryd.results44, go_sem, z9_2_0, z9_2_1]
def rLAE (pb : Nat) (sb : Nat) (PC : Array Value) (C : Array Value) (mp : Nat) (ps : Int) (j : Nat) (i : Nat) (src : Int) (ib : Nat) (eb : Nat) (ll : Int) (TR : Nat) (xr : Nat) (lr : Int) (o0 : Int) (o1 : Bool) (loc : Int) (B1 : Nat) : Nat → Rega.Atoms → Value
  | 0, α => .pointer (some ⟨pb, 0, none⟩)
  | 1, α => .pointer (some ⟨eb, 0, none⟩)
  | 2, α => .pointer (some ⟨eb, 0, none⟩)
  | 3, α => .pointer (some ⟨eb, 0, none⟩)
  | 4, α => .agg #[.iface 55 (.pointer (some ⟨ib, 0, none⟩)), .int .i32 ll]
  | 5, α => .tuple #[.agg #[.nilIface, .int .i32 0], .agg #[.int .i32 0], .pointer none]
  | 6, α => .tuple #[.agg #[.nilIface, .int .i32 0], .agg #[.int .i32 0], .pointer none]
  | 7, α => .agg #[.nilIface, .int .i32 0]
  | 8, α => .agg #[.int .i32 0]
  | 9, α => .pointer none
  | 10, α => .pointer (some ⟨α 10, 0, none⟩)
  | 11, α => .pointer (some ⟨α 11, 0, none⟩)
  | 12, α => undef
  | 13, α => undef
  | 14, α => .pointer none
  | _, _ => undef
def rLAAnc : Nat → List Nat
  | 2 => [1]
  | 3 => [1, 2]
  | 4 => [1, 2, 3]
  | 5 => [0, 1, 2, 3, 4]
  | 6 => [0, 1, 2, 3, 4, 5]
  | 7 => [0, 1, 2, 3, 4, 5, 6]
  | 8 => [0, 1, 2, 3, 4, 5, 6]
  | 9 => [0, 1, 2, 3, 4, 5, 6]
  | 12 => [0, 1, 2, 3, 4, 5, 6, 7, 10, 11]
  | 13 => [0, 1, 2, 3, 4, 5, 6, 7, 8, 10, 11, 12]
  | 14 => [0, 1, 2, 3, 4, 5, 6, 7, 8, 9, 10, 11, 12, 13]
  | _ => []
def rLATrn : Nat → List Nat
  | 12 => [10]
  | 13 => [11]
  | _ => []
def rLACnt : List (Nat × Nat) := [(10, 1), (11, 1)]
def rLAT10 (pb : Nat) (sb : Nat) (PC : Array Value) (C : Array Value) (mp : Nat) (ps : Int) (j : Nat) (i : Nat) (src : Int) (ib : Nat) (eb : Nat) (ll : Int) (TR : Nat) (xr : Nat) (lr : Int) (o0 : Int) (o1 : Bool) (loc : Int) (B1 : Nat) (L9 : Nat → Bool) (α : Rega.Atoms) : Rw := if L9 12 = true then row (α 10) 34 #[.nilIface, .int .i32 0] else row (α 10) 34 #[.nilIface, .int .i32 0]
def rLAT11 (pb : Nat) (sb : Nat) (PC : Array Value) (C : Array Value) (mp : Nat) (ps : Int) (j : Nat) (i : Nat) (src : Int) (ib : Nat) (eb : Nat) (ll : Int) (TR : Nat) (xr : Nat) (lr : Int) (o0 : Int) (o1 : Bool) (loc : Int) (B1 : Nat) (L9 : Nat → Bool) (α : Rega.Atoms) : Rw := if L9 13 = true then row (α 11) 32 #[.int .i32 0] else row (α 11) 32 #[.int .i32 0]
def rLAR (pb : Nat) (sb : Nat) (PC : Array Value) (C : Array Value) (mp : Nat) (ps : Int) (j : Nat) (i : Nat) (src : Int) (ib : Nat) (eb : Nat) (ll : Int) (TR : Nat) (xr : Nat) (lr : Int) (o0 : Int) (o1 : Bool) (loc : Int) (B1 : Nat) (L9 : Nat → Bool) (α : Rega.Atoms) (ix9 : Nat) : Rw := if ix9 = 999 then row (B1 + 1 + 1 + 1) 34 #[.nilIface, .int .i32 0] else if ix9 = 1999 then row (B1 + 1 + 1) 41 #[.pointer (some ⟨eb, 0, none⟩)] else if ix9 = 2999 then row (B1 + 1) 32 #[.int .i32 loc] else if ix9 = 3999 then row (B1) 23 #[.pointer (some ⟨pb, 0, none⟩)] else if ix9 = 4999 then row (pb) 207 PC else if ix9 = 5999 then row (sb) 223 C else if ix9 = 6999 then (mp, .map #[⟨.string ⟨#[95, 95, 112, 111, 119]⟩, .agg #[.int .i32 0, .int .u32 ps, .int .u32 (j : Int)], 0⟩] 1) else if ix9 = 7999 then row (eb) 47 #[.iface 55 (.pointer (some ⟨ib, 0, none⟩)), .int .i32 ll, .iface TR (.pointer (some ⟨xr, 0, none⟩)), .int .i32 lr, .int .u8 o0, .bool o1] else if ix9 = 8999 then row (ib) 214 #[.int .u32 src, .int .u32 (i : Int), .bool false, .bool false, .bool false] else if ix9 = 10 then rLAT10 pb sb PC C mp ps j i src ib eb ll TR xr lr o0 o1 loc B1 L9 α else if ix9 = 11 then rLAT11 pb sb PC C mp ps j i src ib eb ll TR xr lr o0 o1 loc B1 L9 α else (0, .map #[] 0)
theorem rLA_he (pb : Nat) (sb : Nat) (PC : Array Value) (C : Array Value) (mp : Nat) (ps : Int) (j : Nat) (i : Nat) (src : Int) (ib : Nat) (eb : Nat) (ll : Int) (TR : Nat) (xr : Nat) (lr : Int) (o0 : Int) (o1 : Bool) (loc : Int) (B1 : Nat) : ∀ kk α α', (∀ j, (j % 1000 = kk ∨ j % 1000 ∈ rLAAnc kk) → α j = α' j) → rLAE pb sb PC C mp ps j i src ib eb ll TR xr lr o0 o1 loc B1 kk α = rLAE pb sb PC C mp ps j i src ib eb ll TR xr lr o0 o1 loc B1 kk α' := by
  intro kk α α' h
  match kk with
  | 0 => rfl
  | 1 => rfl
  | 2 => rfl
  | 3 => rfl
  | 4 => rfl
  | 5 => rfl
  | 6 => rfl
  | 7 => rfl
  | 8 => rfl
  | 9 => rfl
  | 10 => simp only [rLAE, h 10 (Or.inl rfl)]
  | 11 => simp only [rLAE, h 11 (Or.inl rfl)]
  | 12 => rfl
  | 13 => rfl
  | 14 => rfl
  | n + 15 => rfl
theorem rLA_st (pb : Nat) (sb : Nat) (PC : Array Value) (C : Array Value) (mp : Nat) (ps : Int) (j : Nat) (i : Nat) (src : Int) (ib : Nat) (eb : Nat) (ll : Int) (TR : Nat) (xr : Nat) (lr : Int) (o0 : Int) (o1 : Bool) (loc : Int) (B1 : Nat) : Stable rLACnt 9 rLAAnc rLATrn (rLAR pb sb PC C mp ps j i src ib eb ll TR xr lr o0 o1 loc B1) := by
  intro k9 L9 α α' ix9 hk hcl hα hact ht
  have hp := act_places hact
  replace hp : ix9 ∈ [999, 1999, 2999, 3999, 4999, 5999, 6999, 7999, 8999, 10, 11] := hp
  simp only [List.mem_cons, List.not_mem_nil, or_false] at hp
  rcases hp with rfl | rfl | rfl | rfl | rfl | rfl | rfl | rfl | rfl | rfl | rfl
  · rfl
  · rfl
  · rfl
  · rfl
  · rfl
  · rfl
  · rfl
  · rfl
  · rfl
  · have e0 : L9 10 = true := act_lt hact (by decide)
    show rLAT10 pb sb PC C mp ps j i src ib eb ll TR xr lr o0 o1 loc B1 (Rega.ran L9 k9) α' = rLAT10 pb sb PC C mp ps j i src ib eb ll TR xr lr o0 o1 loc B1 L9 α
    unfold rLAT10
    have n12 : 12 ≠ k9 := fun e => ht (by rw [← e]; decide)
    rw [ran_ne n12]
    by_cases e12 : L9 12 = true
    · first | rw [if_pos e12, if_pos e12] | rw [if_pos e12]
      try simp only [hα 10 (ne_ran hk (hcl 12 e12 10 (by decide)))]
    first | rw [if_neg e12, if_neg e12] | rw [if_neg e12]
    try simp only [hα 10 (ne_ran hk e0)]
  · have e0 : L9 11 = true := act_lt hact (by decide)
    show rLAT11 pb sb PC C mp ps j i src ib eb ll TR xr lr o0 o1 loc B1 (Rega.ran L9 k9) α' = rLAT11 pb sb PC C mp ps j i src ib eb ll TR xr lr o0 o1 loc B1 L9 α
    unfold rLAT11
    have n13 : 13 ≠ k9 := fun e => ht (by rw [← e]; decide)
    rw [ran_ne n13]
    by_cases e13 : L9 13 = true
    · first | rw [if_pos e13, if_pos e13] | rw [if_pos e13]
      try simp only [hα 11 (ne_ran hk (hcl 13 e13 11 (by decide)))]
    first | rw [if_neg e13, if_neg e13] | rw [if_neg e13]
    try simp only [hα 11 (ne_ran hk e0)]
def rLBE (pb : Nat) (sb : Nat) (PC : Array Value) (C : Array Value) (mp : Nat) (ps : Int) (j : Nat) (cj : Nat) (i : Nat) (c : Nat) (src : Int) (ib : Nat) (eb : Nat) (ll : Int) (TR : Nat) (xr : Nat) (lr : Int) (o0 : Int) (o1 : Bool) (loc : Int) (B1 : Nat) (nd3 : Nat) (nd4 : Nat) : Nat → Rega.Atoms → Value
  | 0, α => .pointer (some ⟨pb, 0, none⟩)
  | 1, α => .pointer (some ⟨eb, 0, none⟩)
  | 2, α => .pointer (some ⟨eb, 0, none⟩)
  | 3, α => .pointer (some ⟨eb, 0, none⟩)
  | 4, α => .agg #[.iface 55 (.pointer (some ⟨ib, 0, none⟩)), .int .i32 ll]
  | 5, α => .func (Fn.func 48) #[] #[.pointer (some ⟨B1, 0, none⟩), .pointer (some ⟨B1 + 1, 0, none⟩), .pointer (some ⟨B1 + 1 + 1, 0, none⟩)]
  | 6, α => .agg #[.iface 41 (.pointer (some ⟨α 6, 0, none⟩)), .int .i32 ll]
  | 7, α => undef
  | _, _ => undef
def rLBAnc : Nat → List Nat
  | 2 => [1]
  | 3 => [1, 2]
  | 4 => [1, 2, 3]
  | 6 => [0, 1, 2, 3, 4, 5]
  | 7 => [0, 1, 2, 3, 4, 5, 6]
  | _ => []
def rLBTrn : Nat → List Nat
  | 6 => [5999]
  | 7 => [999]
  | _ => []
def rLBCnt : List (Nat × Nat) := [(6, 5)]
def rLBT999 (pb : Nat) (sb : Nat) (PC : Array Value) (C : Array Value) (mp : Nat) (ps : Int) (j : Nat) (cj : Nat) (i : Nat) (c : Nat) (src : Int) (ib : Nat) (eb : Nat) (ll : Int) (TR : Nat) (xr : Nat) (lr : Int) (o0 : Int) (o1 : Bool) (loc : Int) (B1 : Nat) (nd3 : Nat) (nd4 : Nat) (L9 : Nat → Bool) (α : Rega.Atoms) : Rw := if L9 7 = true then row (B1 + 1 + 1 + 1) 34 #[.iface 41 (.pointer (some ⟨α 6, 0, none⟩)), .int .i32 ll] else row (B1 + 1 + 1 + 1) 34 #[.nilIface, .int .i32 0]
def rLBT5999 (pb : Nat) (sb : Nat) (PC : Array Value) (C : Array Value) (mp : Nat) (ps : Int) (j : Nat) (cj : Nat) (i : Nat) (c : Nat) (src : Int) (ib : Nat) (eb : Nat) (ll : Int) (TR : Nat) (xr : Nat) (lr : Int) (o0 : Int) (o1 : Bool) (loc : Int) (B1 : Nat) (nd3 : Nat) (nd4 : Nat) (L9 : Nat → Bool) (α : Rega.Atoms) : Rw := if L9 6 = true then row (sb) 223 (bumped (bumped C i c) j cj) else row (sb) 223 C
def rLBR (pb : Nat) (sb : Nat) (PC : Array Value) (C : Array Value) (mp : Nat) (ps : Int) (j : Nat) (cj : Nat) (i : Nat) (c : Nat) (src : Int) (ib : Nat) (eb : Nat) (ll : Int) (TR : Nat) (xr : Nat) (lr : Int) (o0 : Int) (o1 : Bool) (loc : Int) (B1 : Nat) (nd3 : Nat) (nd4 : Nat) (L9 : Nat → Bool) (α : Rega.Atoms) (ix9 : Nat) : Rw := if ix9 = 999 then rLBT999 pb sb PC C mp ps j cj i c src ib eb ll TR xr lr o0 o1 loc B1 nd3 nd4 L9 α else if ix9 = 1999 then row (B1 + 1 + 1) 41 #[.pointer (some ⟨eb, 0, none⟩)] else if ix9 = 2999 then row (B1 + 1) 32 #[.int .i32 loc] else if ix9 = 3999 then row (B1) 23 #[.pointer (some ⟨pb, 0, none⟩)] else if ix9 = 4999 then row (pb) 207 PC else if ix9 = 5999 then rLBT5999 pb sb PC C mp ps j cj i c src ib eb ll TR xr lr o0 o1 loc B1 nd3 nd4 L9 α else if ix9 = 6999 then (mp, .map #[⟨.string ⟨#[95, 95, 112, 111, 119]⟩, .agg #[.int .i32 0, .int .u32 ps, .int .u32 (j : Int)], 0⟩] 1) else if ix9 = 7999 then row (eb) 47 #[.iface 55 (.pointer (some ⟨ib, 0, none⟩)), .int .i32 ll, .iface TR (.pointer (some ⟨xr, 0, none⟩)), .int .i32 lr, .int .u8 o0, .bool o1] else if ix9 = 8999 then row (ib) 214 #[.int .u32 src, .int .u32 (i : Int), .bool false, .bool false, .bool false] else if ix9 = 9999 then row (nd3) 34 #[.nilIface, .int .i32 0] else if ix9 = 10999 then row (nd4) 32 #[.int .i32 0] else if ix9 = 6 then row (α 6) 47 #[.iface 55 (.pointer (some ⟨α 4006, 0, none⟩)), .int .i32 ll, .iface 72 (.pointer (some ⟨α 1006, 0, none⟩)), .int .i32 loc, .int .u8 37, .bool false] else if ix9 = 1006 then row (α 1006) 77 #[.iface 55 (.pointer (some ⟨α 2006, 0, none⟩)), .int .i32 loc, .slice (some ⟨α 3006, 0, none⟩) 2 2, .int .i32 0, .int .u8 0, .int .u8 0, .bool false, .bool false] else if ix9 = 2006 then row (α 2006) 214 #[.int .u32 ps, .int .u32 (j : Int), .bool false, .bool false, .bool false] else if ix9 = 3006 then row (α 3006) 34 #[.iface 55 (.pointer (some ⟨ib, 0, none⟩)), .int .i32 ll, .iface TR (.pointer (some ⟨xr, 0, none⟩)), .int .i32 lr] else if ix9 = 4006 then row (α 4006) 214 #[.int .u32 src, .int .u32 (i : Int), .bool false, .bool false, .bool false] else (0, .map #[] 0)
theorem rLB_he (pb : Nat) (sb : Nat) (PC : Array Value) (C : Array Value) (mp : Nat) (ps : Int) (j : Nat) (cj : Nat) (i : Nat) (c : Nat) (src : Int) (ib : Nat) (eb : Nat) (ll : Int) (TR : Nat) (xr : Nat) (lr : Int) (o0 : Int) (o1 : Bool) (loc : Int) (B1 : Nat) (nd3 : Nat) (nd4 : Nat) : ∀ kk α α', (∀ j, (j % 1000 = kk ∨ j % 1000 ∈ rLBAnc kk) → α j = α' j) → rLBE pb sb PC C mp ps j cj i c src ib eb ll TR xr lr o0 o1 loc B1 nd3 nd4 kk α = rLBE pb sb PC C mp ps j cj i c src ib eb ll TR xr lr o0 o1 loc B1 nd3 nd4 kk α' := by
  intro kk α α' h
  match kk with
  | 0 => rfl
  | 1 => rfl
  | 2 => rfl
  | 3 => rfl
  | 4 => rfl
  | 5 => rfl
  | 6 => simp only [rLBE, h 6 (Or.inl rfl)]
  | 7 => rfl
  | n + 8 => rfl
theorem rLB_st (pb : Nat) (sb : Nat) (PC : Array Value) (C : Array Value) (mp : Nat) (ps : Int) (j : Nat) (cj : Nat) (i : Nat) (c : Nat) (src : Int) (ib : Nat) (eb : Nat) (ll : Int) (TR : Nat) (xr : Nat) (lr : Int) (o0 : Int) (o1 : Bool) (loc : Int) (B1 : Nat) (nd3 : Nat) (nd4 : Nat) : Stable rLBCnt 11 rLBAnc rLBTrn (rLBR pb sb PC C mp ps j cj i c src ib eb ll TR xr lr o0 o1 loc B1 nd3 nd4) := by
  intro k9 L9 α α' ix9 hk hcl hα hact ht
  have hp := act_places hact
  replace hp : ix9 ∈ [999, 1999, 2999, 3999, 4999, 5999, 6999, 7999, 8999, 9999, 10999, 6, 1006, 2006, 3006, 4006] := hp
  simp only [List.mem_cons, List.not_mem_nil, or_false] at hp
  rcases hp with rfl | rfl | rfl | rfl | rfl | rfl | rfl | rfl | rfl | rfl | rfl | rfl | rfl | rfl | rfl | rfl
  · show rLBT999 pb sb PC C mp ps j cj i c src ib eb ll TR xr lr o0 o1 loc B1 nd3 nd4 (Rega.ran L9 k9) α' = rLBT999 pb sb PC C mp ps j cj i c src ib eb ll TR xr lr o0 o1 loc B1 nd3 nd4 L9 α
    unfold rLBT999
    have n7 : 7 ≠ k9 := fun e => ht (by rw [← e]; decide)
    rw [ran_ne n7]
    by_cases e7 : L9 7 = true
    · first | rw [if_pos e7, if_pos e7] | rw [if_pos e7]
      try simp only [hα 6 (ne_ran hk (hcl 7 e7 6 (by decide)))]
    first | rw [if_neg e7, if_neg e7] | rw [if_neg e7]
  · rfl
  · rfl
  · rfl
  · rfl
  · show rLBT5999 pb sb PC C mp ps j cj i c src ib eb ll TR xr lr o0 o1 loc B1 nd3 nd4 (Rega.ran L9 k9) α' = rLBT5999 pb sb PC C mp ps j cj i c src ib eb ll TR xr lr o0 o1 loc B1 nd3 nd4 L9 α
    unfold rLBT5999
    have n6 : 6 ≠ k9 := fun e => ht (by rw [← e]; decide)
    rw [ran_ne n6]
  · rfl
  · rfl
  · rfl
  · rfl
  · rfl
  · have e0 : L9 6 = true := act_lt hact (by decide)
    show row (α' 6) 47 #[.iface 55 (.pointer (some ⟨α' 4006, 0, none⟩)), .int .i32 ll, .iface 72 (.pointer (some ⟨α' 1006, 0, none⟩)), .int .i32 loc, .int .u8 37, .bool false] = row (α 6) 47 #[.iface 55 (.pointer (some ⟨α 4006, 0, none⟩)), .int .i32 ll, .iface 72 (.pointer (some ⟨α 1006, 0, none⟩)), .int .i32 loc, .int .u8 37, .bool false]
    simp only [hα 6 (ne_ran hk e0), hα 1006 (ne_ran hk e0), hα 4006 (ne_ran hk e0)]
  · have e0 : L9 6 = true := act_lt hact (by decide)
    show row (α' 1006) 77 #[.iface 55 (.pointer (some ⟨α' 2006, 0, none⟩)), .int .i32 loc, .slice (some ⟨α' 3006, 0, none⟩) 2 2, .int .i32 0, .int .u8 0, .int .u8 0, .bool false, .bool false] = row (α 1006) 77 #[.iface 55 (.pointer (some ⟨α 2006, 0, none⟩)), .int .i32 loc, .slice (some ⟨α 3006, 0, none⟩) 2 2, .int .i32 0, .int .u8 0, .int .u8 0, .bool false, .bool false]
    simp only [hα 1006 (ne_ran hk e0), hα 2006 (ne_ran hk e0), hα 3006 (ne_ran hk e0)]
  · have e0 : L9 6 = true := act_lt hact (by decide)
    show row (α' 2006) 214 #[.int .u32 ps, .int .u32 (j : Int), .bool false, .bool false, .bool false] = row (α 2006) 214 #[.int .u32 ps, .int .u32 (j : Int), .bool false, .bool false, .bool false]
    simp only [hα 2006 (ne_ran hk e0)]
  · have e0 : L9 6 = true := act_lt hact (by decide)
    show row (α' 3006) 34 #[.iface 55 (.pointer (some ⟨ib, 0, none⟩)), .int .i32 ll, .iface TR (.pointer (some ⟨xr, 0, none⟩)), .int .i32 lr] = row (α 3006) 34 #[.iface 55 (.pointer (some ⟨ib, 0, none⟩)), .int .i32 ll, .iface TR (.pointer (some ⟨xr, 0, none⟩)), .int .i32 lr]
    simp only [hα 3006 (ne_ran hk e0)]
  · have e0 : L9 6 = true := act_lt hact (by decide)
    show row (α' 4006) 214 #[.int .u32 src, .int .u32 (i : Int), .bool false, .bool false, .bool false] = row (α 4006) 214 #[.int .u32 src, .int .u32 (i : Int), .bool false, .bool false, .bool false]
    simp only [hα 4006 (ne_ran hk e0)]
def low37Post (pb sb n cap : Nat) (PC C : Array Value) (mp : Nat) (ps : Int) (j cj i c : Nat) (src : Int) (ib eb : Nat) (ll : Int) (TR xr : Nat) (lr o0 : Int) (o1 : Bool) (loc : Int) (w0 : World) (X : Nat → Obj → Prop) (e : Ending) (w' : World) : Prop :=
  ∃ ab : Nat, ∃ ca : Nat, ∃ b : Nat, ∃ sx : Nat, ∃ b1 : Nat, e = .returned (.agg #[.iface 41 (.pointer (some ⟨ab, 0, none⟩)), .int .i32 ll]) ∧ Own w0 w' [row (pb) 207 PC, row (sb) 223 (bumped (bumped C i c) j cj), (mp, .map #[⟨.string ⟨#[95, 95, 112, 111, 119]⟩, .agg #[.int .i32 0, .int .u32 ps, .int .u32 (j : Int)], 0⟩] 1), row (eb) 47 #[.iface 55 (.pointer (some ⟨ib, 0, none⟩)), .int .i32 ll, .iface TR (.pointer (some ⟨xr, 0, none⟩)), .int .i32 lr, .int .u8 o0, .bool o1], row (ib) 214 #[.int .u32 src, .int .u32 (i : Int), .bool false, .bool false, .bool false], row (ab) 47 #[.iface 55 (.pointer (some ⟨b1, 0, none⟩)), .int .i32 ll, .iface 72 (.pointer (some ⟨ca, 0, none⟩)), .int .i32 loc, .int .u8 37, .bool false], row (ca) 77 #[.iface 55 (.pointer (some ⟨b, 0, none⟩)), .int .i32 loc, .slice (some ⟨sx, 0, none⟩) 2 2, .int .i32 0, .int .u8 0, .int .u8 0, .bool false, .bool false], row (b) 214 #[.int .u32 ps, .int .u32 (j : Int), .bool false, .bool false, .bool false], row (sx) 34 #[.iface 55 (.pointer (some ⟨ib, 0, none⟩)), .int .i32 ll, .iface TR (.pointer (some ⟨xr, 0, none⟩)), .int .i32 lr], row (b1) 214 #[.int .u32 src, .int .u32 (i : Int), .bool false, .bool false, .bool false]] X
set_option maxRecDepth 100000 in
set_option maxHeartbeats 1000000 in
theorem low37 (pb sb n cap : Nat) (PC C : Array Value) (mp : Nat) (ps : Int) (j cj i c : Nat) (src : Int) (ib eb : Nat) (ll : Int) (TR xr : Nat) (lr o0 : Int) (o1 : Bool) (loc : Int) (w0 w : World) (X : Nat → Obj → Prop) (hO : Own w0 w [row (pb) 207 PC, row (sb) 223 C, (mp, .map #[⟨.string ⟨#[95, 95, 112, 111, 119]⟩, .agg #[.int .i32 0, .int .u32 ps, .int .u32 (j : Int)], 0⟩] 1), row (eb) 47 #[.iface 55 (.pointer (some ⟨ib, 0, none⟩)), .int .i32 ll, .iface TR (.pointer (some ⟨xr, 0, none⟩)), .int .i32 lr, .int .u8 o0, .bool o1], row (ib) 214 #[.int .u32 src, .int .u32 (i : Int), .bool false, .bool false, .bool false]] X) (hR : Ready PC sb n cap) (hn : n ≤ 4294967295) (hi : i < n) (hc : C[i * 10 + 4]? = some (.int .u32 (c : Int))) (hcm : c < 4294967295) (hj : j < n) (hcj : (bumped C i c)[j * 10 + 4]? = some (.int .u32 (cj : Int))) (hcjm : cj < 4294967295) (hm : PC[117]? = some (.map (some mp))) :
    Calls Tryd.prog 37 #[.pointer (some ⟨pb, 0, none⟩), .agg #[.int .i32 loc], .pointer (some ⟨eb, 0, none⟩)] w (low37Post pb sb n cap PC C mp ps j cj i c src ib eb ll TR xr lr o0 o1 loc w0 X) := by
  go_enter Tryd.func37, Tryd.ntmps37
  have c9_3_0 : w.cell? ⟨eb, 0, none⟩ = some (.iface 55 (.pointer (some ⟨ib, 0, none⟩))) := hO.cell 3 rfl 0 rfl
  have c9_3_1 : w.cell? ⟨eb, 1, none⟩ = some (.int .i32 ll) := hO.cell 3 rfl 1 rfl
  have c9_3_2 : w.cell? ⟨eb, 2, none⟩ = some (.iface TR (.pointer (some ⟨xr, 0, none⟩))) := hO.cell 3 rfl 2 rfl
  have c9_3_3 : w.cell? ⟨eb, 3, none⟩ = some (.int .i32 lr) := hO.cell 3 rfl 3 rfl
  have c9_3_4 : w.cell? ⟨eb, 4, none⟩ = some (.int .u8 o0) := hO.cell 3 rfl 4 rfl
  have c9_3_5 : w.cell? ⟨eb, 5, none⟩ = some (.bool o1) := hO.cell 3 rfl 5 rfl
  have lt9_3 : eb < w.heap.size := hO.lt 3 rfl
  have y9_3 : ∀ o, w.frozen? ⟨eb, o, none⟩ = false := hO.free 3 rfl
  have c9_4_0 : w.cell? ⟨ib, 0, none⟩ = some (.int .u32 src) := hO.cell 4 rfl 0 rfl
  have c9_4_1 : w.cell? ⟨ib, 1, none⟩ = some (.int .u32 (i : Int)) := hO.cell 4 rfl 1 rfl
  have c9_4_2 : w.cell? ⟨ib, 2, none⟩ = some (.bool false) := hO.cell 4 rfl 2 rfl
  have c9_4_3 : w.cell? ⟨ib, 3, none⟩ = some (.bool false) := hO.cell 4 rfl 3 rfl
  have c9_4_4 : w.cell? ⟨ib, 4, none⟩ = some (.bool false) := hO.cell 4 rfl 4 rfl
  have lt9_4 : ib < w.heap.size := hO.lt 4 rfl
  have y9_4 : ∀ o, w.frozen? ⟨ib, o, none⟩ = false := hO.free 4 rfl
  have HO := Lib.hid hO
  clear hO
  go_wp2_with fail
  have hO := HO.out
  clear HO c9_3_0 c9_3_1 c9_3_2 c9_3_3 c9_3_4 c9_3_5 lt9_3 y9_3 c9_4_0 c9_4_1 c9_4_2 c9_4_3 c9_4_4 lt9_4 y9_4
  generalize hW : World.alloc _ _ = W2
  have hN : Own w0 W2 [row (w.heap.size + 1 + 1 + 1) 34 #[.nilIface, .int .i32 0], row (w.heap.size + 1 + 1) 41 #[.pointer (some ⟨eb, 0, none⟩)], row (w.heap.size + 1) 32 #[.int .i32 loc], row (w.heap.size) 23 #[.pointer (some ⟨pb, 0, none⟩)], row (pb) 207 PC, row (sb) 223 C, (mp, .map #[⟨.string ⟨#[95, 95, 112, 111, 119]⟩, .agg #[.int .i32 0, .int .u32 ps, .int .u32 (j : Int)], 0⟩] 1), row (eb) 47 #[.iface 55 (.pointer (some ⟨ib, 0, none⟩)), .int .i32 ll, .iface TR (.pointer (some ⟨xr, 0, none⟩)), .int .i32 lr, .int .u8 o0, .bool o1], row (ib) 214 #[.int .u32 src, .int .u32 (i : Int), .bool false, .bool false, .bool false]] X := by
    rw [← hW]
    exact ((((hO).alloc' _ (w.heap.size) (by simp)).alloc' _ (w.heap.size + 1) (by simp)).alloc' _ (w.heap.size + 1 + 1) (by simp)).alloc' _ (w.heap.size + 1 + 1 + 1) (by simp)
  clear hW hO
  obtain ⟨B1, hB⟩ : ∃ n, n = w.heap.size := ⟨_, rfl⟩
  rw [← hB] at hN
  try rw [← hB]
  clear hB
  have hO := hN
  clear hN
  refine wp_region_own (e := rLAE pb sb PC C mp ps j i src ib eb ll TR xr lr o0 o1 loc B1) (anc := rLAAnc) (G := (fun L9 α u9 => OwnF w0 u9 (act rLACnt 9 L9) (rLAR pb sb PC C mp ps j i src ib eb ll TR xr lr o0 o1 loc B1 L9 α) X)) (by kernel_rfl) (by kernel_rfl) (by kernel_rfl) (by kernel_rfl) (rLA_he pb sb PC C mp ps j i src ib eb ll TR xr lr o0 o1 loc B1) ?_ (RunsAll.all ?_) ?_
  · have hp : ∀ i, act rLACnt 9 (fun _ => false) i → i ∈ [999, 1999, 2999, 3999, 4999, 5999, 6999, 7999, 8999] := by
      intro i hi
      have h9 : i % 1000 = 999 := by
        by_cases h : i % 1000 = 999
        · exact h
        · exact absurd (act_lt hi h) (by simp)
      unfold act at hi
      rw [if_pos h9] at hi
      simp only [List.mem_cons, List.not_mem_nil, or_false]
      omega
    refine hO.drew.family (fun i hi => ?_) (fun i j hi hj hij => ?_)
    · have := hp i hi
      simp only [List.mem_cons, List.not_mem_nil, or_false] at this
      rcases this with rfl | rfl | rfl | rfl | rfl | rfl | rfl | rfl | rfl <;> rfl
    · have h1 := hp i hi
      have h2 := hp j hj
      simp only [List.mem_cons, List.not_mem_nil, or_false] at h1 h2
      omega
  · refine ⟨?_, ?_, ?_, ?_, ?_, ?_, ?_, ?_, ?_, ?_, ?_, ?_, ?_, ?_, ?_, trivial⟩
    · intro L9 α a9 u9 K9 hL hcl hA hG hS h0 hK
      replace hL : L9 0 = false := hL
      have q3 : a9.tmps[3]? = some (.pointer (some ⟨B1, 0, none⟩)) := (h0 3 (by kernel_rfl)).trans rfl
      have s3 := Rega.eval_of q3
      have e0 : rLAR pb sb PC C mp ps j i src ib eb ll TR xr lr o0 o1 loc B1 L9 α 3999 = row (B1) 23 #[.pointer (some ⟨pb, 0, none⟩)] := rfl
      have hr := hG.rowAt 3999 (act_base 3999 rfl) e0
      have c0 : u9.cell? ⟨B1, 0, none⟩ = some (.pointer (some ⟨pb, 0, none⟩)) := hr.cell rfl
      clear hr e0
      go_simp
      exact hK _ α _ (fun _ _ => rfl) rfl (step_same (rLA_st pb sb PC C mp ps j i src ib eb ll TR xr lr o0 o1 loc B1) hL hcl rfl rfl hG)
    · intro L9 α a9 u9 K9 hL hcl hA hG hS h0 hK
      replace hL : L9 1 = false := hL
      have q5 : a9.tmps[5]? = some (.pointer (some ⟨B1 + 1 + 1, 0, none⟩)) := (h0 5 (by kernel_rfl)).trans rfl
      have s5 := Rega.eval_of q5
      have e0 : rLAR pb sb PC C mp ps j i src ib eb ll TR xr lr o0 o1 loc B1 L9 α 1999 = row (B1 + 1 + 1) 41 #[.pointer (some ⟨eb, 0, none⟩)] := rfl
      have hr := hG.rowAt 1999 (act_base 1999 rfl) e0
      have c0 : u9.cell? ⟨B1 + 1 + 1, 0, none⟩ = some (.pointer (some ⟨eb, 0, none⟩)) := hr.cell rfl
      clear hr e0
      go_simp
      exact hK _ α _ (fun _ _ => rfl) rfl (step_same (rLA_st pb sb PC C mp ps j i src ib eb ll TR xr lr o0 o1 loc B1) hL hcl rfl rfl hG)
    · intro L9 α a9 u9 K9 hL hcl hA hG hS h0 hK
      replace hL : L9 2 = false := hL
      have q14 : a9.tmps[14]? = some (.pointer (some ⟨eb, 0, none⟩)) := hS 1 14 (by decide) rfl (by show 14 < 60; decide)
      have s14 := Rega.eval_of q14
      go_simp
      exact hK _ α _ (fun _ _ => rfl) rfl (step_same (rLA_st pb sb PC C mp ps j i src ib eb ll TR xr lr o0 o1 loc B1) hL hcl rfl rfl hG)
    · intro L9 α a9 u9 K9 hL hcl hA hG hS h0 hK
      replace hL : L9 3 = false := hL
      have q15 : a9.tmps[15]? = some (.pointer (some ⟨eb, 0, none⟩)) := hS 2 15 (by decide) rfl (by show 15 < 60; decide)
      have s15 := Rega.eval_of q15
      go_simp
      exact hK _ α _ (fun _ _ => rfl) rfl (step_same (rLA_st pb sb PC C mp ps j i src ib eb ll TR xr lr o0 o1 loc B1) hL hcl rfl rfl hG)
    · intro L9 α a9 u9 K9 hL hcl hA hG hS h0 hK
      replace hL : L9 4 = false := hL
      have q16 : a9.tmps[16]? = some (.pointer (some ⟨eb, 0, none⟩)) := hS 3 16 (by decide) rfl (by show 16 < 60; decide)
      have s16 := Rega.eval_of q16
      have e0 : rLAR pb sb PC C mp ps j i src ib eb ll TR xr lr o0 o1 loc B1 L9 α 7999 = row (eb) 47 #[.iface 55 (.pointer (some ⟨ib, 0, none⟩)), .int .i32 ll, .iface TR (.pointer (some ⟨xr, 0, none⟩)), .int .i32 lr, .int .u8 o0, .bool o1] := rfl
      have hr := hG.rowAt 7999 (act_base 7999 rfl) e0
      have c0 : u9.cell? ⟨eb, 0, none⟩ = some (.iface 55 (.pointer (some ⟨ib, 0, none⟩))) := hr.cell rfl
      have c1 : u9.cell? ⟨eb, 1, none⟩ = some (.int .i32 ll) := hr.cell rfl
      clear hr e0
      go_simp
      exact hK _ α _ (fun _ _ => rfl) rfl (step_same (rLA_st pb sb PC C mp ps j i src ib eb ll TR xr lr o0 o1 loc B1) hL hcl rfl rfl hG)
    · intro L9 α a9 u9 K9 hL hcl hA hG hS h0 hK
      replace hL : L9 5 = false := hL
      have q13 : a9.tmps[13]? = some (.pointer (some ⟨pb, 0, none⟩)) := hS 0 13 (by decide) rfl (by show 13 < 60; decide)
      have s13 := Rega.eval_of q13
      have q17 : a9.tmps[17]? = some (.agg #[.iface 55 (.pointer (some ⟨ib, 0, none⟩)), .int .i32 ll]) := hS 4 17 (by decide) rfl (by show 17 < 60; decide)
      have s17 := Rega.eval_of q17
      go_simp
      refine Calls.mono (noPriv _ 55 ib ll _ (by decide)) ?_
      rintro e9 u1 ⟨rfl, hb⟩
      exact hK _ α _ (fun _ _ => rfl) rfl (step_below (rLA_st pb sb PC C mp ps j i src ib eb ll TR xr lr o0 o1 loc B1) hL hcl rfl rfl hG hb)
    · intro L9 α a9 u9 K9 hL hcl hA hG hS h0 hK
      replace hL : L9 6 = false := hL
      have q18 : a9.tmps[18]? = some (.tuple #[.agg #[.nilIface, .int .i32 0], .agg #[.int .i32 0], .pointer none]) := hS 5 18 (by decide) rfl (by show 18 < 60; decide)
      have s18 := Rega.eval_of q18
      go_simp
      exact hK _ α _ (fun _ _ => rfl) rfl (step_same (rLA_st pb sb PC C mp ps j i src ib eb ll TR xr lr o0 o1 loc B1) hL hcl rfl rfl hG)
    · intro L9 α a9 u9 K9 hL hcl hA hG hS h0 hK
      replace hL : L9 7 = false := hL
      have q12 : a9.tmps[12]? = some (.tuple #[.agg #[.nilIface, .int .i32 0], .agg #[.int .i32 0], .pointer none]) := hS 6 12 (by decide) rfl (by show 12 < 60; decide)
      have s12 := Rega.eval_of q12
      go_simp
      exact hK _ α _ (fun _ _ => rfl) rfl (step_same (rLA_st pb sb PC C mp ps j i src ib eb ll TR xr lr o0 o1 loc B1) hL hcl rfl rfl hG)
    · intro L9 α a9 u9 K9 hL hcl hA hG hS h0 hK
      replace hL : L9 8 = false := hL
      have q12 : a9.tmps[12]? = some (.tuple #[.agg #[.nilIface, .int .i32 0], .agg #[.int .i32 0], .pointer none]) := hS 6 12 (by decide) rfl (by show 12 < 60; decide)
      have s12 := Rega.eval_of q12
      go_simp
      exact hK _ α _ (fun _ _ => rfl) rfl (step_same (rLA_st pb sb PC C mp ps j i src ib eb ll TR xr lr o0 o1 loc B1) hL hcl rfl rfl hG)
    · intro L9 α a9 u9 K9 hL hcl hA hG hS h0 hK
      replace hL : L9 9 = false := hL
      have q12 : a9.tmps[12]? = some (.tuple #[.agg #[.nilIface, .int .i32 0], .agg #[.int .i32 0], .pointer none]) := hS 6 12 (by decide) rfl (by show 12 < 60; decide)
      have s12 := Rega.eval_of q12
      go_simp
      exact hK _ α _ (fun _ _ => rfl) rfl (step_same (rLA_st pb sb PC C mp ps j i src ib eb ll TR xr lr o0 o1 loc B1) hL hcl rfl rfl hG)
    · intro L9 α a9 u9 K9 hL hcl hA hG hS h0 hK
      replace hL : L9 10 = false := hL
      go_simp
      have e1 : rLAR pb sb PC C mp ps j i src ib eb ll TR xr lr o0 o1 loc B1 (Rega.ran L9 10) (fun j => if j = 10 then u9.heap.size else α j) 10 = row (u9.heap.size) 34 #[.nilIface, .int .i32 0] := by
        show rLAT10 pb sb PC C mp ps j i src ib eb ll TR xr lr o0 o1 loc B1 (Rega.ran L9 10) (fun j => if j = 10 then u9.heap.size else α j) = _
        unfold rLAT10
        exact ((if_neg (fun e => (fun e => by have := hcl 12 e 10 (by decide); rw [hL] at this; cases this) ((ran_ne (by decide)).symm.trans e))).trans rfl)
      exact hK _ (fun j => if j = 10 then u9.heap.size else α j) _ (fun j hj => if_neg (fun e => hj (by rw [e]))) rfl (step_alloc (rLA_st pb sb PC C mp ps j i src ib eb ll TR xr lr o0 o1 loc B1) hL hcl rfl rfl (by decide) _ e1 hG)
    · intro L9 α a9 u9 K9 hL hcl hA hG hS h0 hK
      replace hL : L9 11 = false := hL
      go_simp
      have e1 : rLAR pb sb PC C mp ps j i src ib eb ll TR xr lr o0 o1 loc B1 (Rega.ran L9 11) (fun j => if j = 11 then u9.heap.size else α j) 11 = row (u9.heap.size) 32 #[.int .i32 0] := by
        show rLAT11 pb sb PC C mp ps j i src ib eb ll TR xr lr o0 o1 loc B1 (Rega.ran L9 11) (fun j => if j = 11 then u9.heap.size else α j) = _
        unfold rLAT11
        exact ((if_neg (fun e => (fun e => by have := hcl 13 e 11 (by decide); rw [hL] at this; cases this) ((ran_ne (by decide)).symm.trans e))).trans rfl)
      exact hK _ (fun j => if j = 11 then u9.heap.size else α j) _ (fun j hj => if_neg (fun e => hj (by rw [e]))) rfl (step_alloc (rLA_st pb sb PC C mp ps j i src ib eb ll TR xr lr o0 o1 loc B1) hL hcl rfl rfl (by decide) _ e1 hG)
    · intro L9 α a9 u9 K9 hL hcl hA hG hS h0 hK
      replace hL : L9 12 = false := hL
      have q7 : a9.tmps[7]? = some (.pointer (some ⟨α 10, 0, none⟩)) := hS 10 7 (by decide) rfl (by show 7 < 60; decide)
      have s7 := Rega.eval_of q7
      have q19 : a9.tmps[19]? = some (.agg #[.nilIface, .int .i32 0]) := hS 7 19 (by decide) rfl (by show 19 < 60; decide)
      have s19 := Rega.eval_of q19
      have e0 : rLAR pb sb PC C mp ps j i src ib eb ll TR xr lr o0 o1 loc B1 L9 α 10 = row (α 10) 34 #[.nilIface, .int .i32 0] := by
        show rLAT10 pb sb PC C mp ps j i src ib eb ll TR xr lr o0 o1 loc B1 L9 α = _
        unfold rLAT10
        rw [if_neg (by rw [hL]; decide)]
      have hr := hG.rowAt 10 (act_new 10 rfl (hA 10 (by decide))) e0
      have c0 : u9.cell? ⟨α 10, 0, none⟩ = some (.nilIface) := hr.cell rfl
      have y0 : u9.frozen? ⟨α 10, 0, none⟩ = false := hr.free 0
      have c1 : u9.cell? ⟨α 10, 1, none⟩ = some (.int .i32 0) := hr.cell rfl
      have y1 : u9.frozen? ⟨α 10, 1, none⟩ = false := hr.free 1
      clear hr
      have E0 := Lib.hid e0
      clear e0
      go_simp
      have e1 : rLAR pb sb PC C mp ps j i src ib eb ll TR xr lr o0 o1 loc B1 (Rega.ran L9 12) α 10 = row (α 10) 34 #[.nilIface, .int .i32 0] := by
        show rLAT10 pb sb PC C mp ps j i src ib eb ll TR xr lr o0 o1 loc B1 (Rega.ran L9 12) α = _
        unfold rLAT10
        rw [if_pos (show Rega.ran L9 12 12 = true from rfl)]
      exact hK _ α _ (fun _ _ => rfl) rfl (step_sets (rLA_st pb sb PC C mp ps j i src ib eb ll TR xr lr o0 o1 loc B1) hL hcl rfl 10 rfl (act_new 10 rfl (hA 10 (by decide))) E0.out 0 [.nilIface, .int .i32 0] (e1.trans rfl) hG)
    · intro L9 α a9 u9 K9 hL hcl hA hG hS h0 hK
      replace hL : L9 13 = false := hL
      have q8 : a9.tmps[8]? = some (.pointer (some ⟨α 11, 0, none⟩)) := hS 11 8 (by decide) rfl (by show 8 < 60; decide)
      have s8 := Rega.eval_of q8
      have q20 : a9.tmps[20]? = some (.agg #[.int .i32 0]) := hS 8 20 (by decide) rfl (by show 20 < 60; decide)
      have s20 := Rega.eval_of q20
      have e0 : rLAR pb sb PC C mp ps j i src ib eb ll TR xr lr o0 o1 loc B1 L9 α 11 = row (α 11) 32 #[.int .i32 0] := by
        show rLAT11 pb sb PC C mp ps j i src ib eb ll TR xr lr o0 o1 loc B1 L9 α = _
        unfold rLAT11
        rw [if_neg (by rw [hL]; decide)]
      have hr := hG.rowAt 11 (act_new 11 rfl (hA 11 (by decide))) e0
      have c0 : u9.cell? ⟨α 11, 0, none⟩ = some (.int .i32 0) := hr.cell rfl
      have y0 : u9.frozen? ⟨α 11, 0, none⟩ = false := hr.free 0
      clear hr
      have E0 := Lib.hid e0
      clear e0
      go_simp
      have e1 : rLAR pb sb PC C mp ps j i src ib eb ll TR xr lr o0 o1 loc B1 (Rega.ran L9 13) α 11 = row (α 11) 32 #[.int .i32 0] := by
        show rLAT11 pb sb PC C mp ps j i src ib eb ll TR xr lr o0 o1 loc B1 (Rega.ran L9 13) α = _
        unfold rLAT11
        rw [if_pos (show Rega.ran L9 13 13 = true from rfl)]
      exact hK _ α _ (fun _ _ => rfl) rfl (step_sets (rLA_st pb sb PC C mp ps j i src ib eb ll TR xr lr o0 o1 loc B1) hL hcl rfl 11 rfl (act_new 11 rfl (hA 11 (by decide))) E0.out 0 [.int .i32 0] (e1.trans rfl) hG)
    · intro L9 α a9 u9 K9 hL hcl hA hG hS h0 hK
      replace hL : L9 14 = false := hL
      have q21 : a9.tmps[21]? = some (.pointer none) := hS 9 21 (by decide) rfl (by show 21 < 60; decide)
      have s21 := Rega.eval_of q21
      go_simp
      exact hK _ α _ (fun _ _ => rfl) rfl (step_same (rLA_st pb sb PC C mp ps j i src ib eb ll TR xr lr o0 o1 loc B1) hL hcl rfl rfl hG)
  · intro α u hG
    have e0 : rLAR pb sb PC C mp ps j i src ib eb ll TR xr lr o0 o1 loc B1 (fun k => decide (k < 15)) α 999 = row (B1 + 1 + 1 + 1) 34 #[.nilIface, .int .i32 0] := rfl
    have e1 : rLAR pb sb PC C mp ps j i src ib eb ll TR xr lr o0 o1 loc B1 (fun k => decide (k < 15)) α 1999 = row (B1 + 1 + 1) 41 #[.pointer (some ⟨eb, 0, none⟩)] := rfl
    have e2 : rLAR pb sb PC C mp ps j i src ib eb ll TR xr lr o0 o1 loc B1 (fun k => decide (k < 15)) α 2999 = row (B1 + 1) 32 #[.int .i32 loc] := rfl
    have e3 : rLAR pb sb PC C mp ps j i src ib eb ll TR xr lr o0 o1 loc B1 (fun k => decide (k < 15)) α 3999 = row (B1) 23 #[.pointer (some ⟨pb, 0, none⟩)] := rfl
    have e4 : rLAR pb sb PC C mp ps j i src ib eb ll TR xr lr o0 o1 loc B1 (fun k => decide (k < 15)) α 4999 = row (pb) 207 PC := rfl
    have e5 : rLAR pb sb PC C mp ps j i src ib eb ll TR xr lr o0 o1 loc B1 (fun k => decide (k < 15)) α 5999 = row (sb) 223 C := rfl
    have e6 : rLAR pb sb PC C mp ps j i src ib eb ll TR xr lr o0 o1 loc B1 (fun k => decide (k < 15)) α 6999 = (mp, .map #[⟨.string ⟨#[95, 95, 112, 111, 119]⟩, .agg #[.int .i32 0, .int .u32 ps, .int .u32 (j : Int)], 0⟩] 1) := rfl
    have e7 : rLAR pb sb PC C mp ps j i src ib eb ll TR xr lr o0 o1 loc B1 (fun k => decide (k < 15)) α 7999 = row (eb) 47 #[.iface 55 (.pointer (some ⟨ib, 0, none⟩)), .int .i32 ll, .iface TR (.pointer (some ⟨xr, 0, none⟩)), .int .i32 lr, .int .u8 o0, .bool o1] := rfl
    have e8 : rLAR pb sb PC C mp ps j i src ib eb ll TR xr lr o0 o1 loc B1 (fun k => decide (k < 15)) α 8999 = row (ib) 214 #[.int .u32 src, .int .u32 (i : Int), .bool false, .bool false, .bool false] := rfl
    have e9 : rLAR pb sb PC C mp ps j i src ib eb ll TR xr lr o0 o1 loc B1 (fun k => decide (k < 15)) α 10 = row (α 10) 34 #[.nilIface, .int .i32 0] := by
      show rLAT10 pb sb PC C mp ps j i src ib eb ll TR xr lr o0 o1 loc B1 (fun k => decide (k < 15)) α = _
      unfold rLAT10
      rw [if_pos (by decide)]
    have e10 : rLAR pb sb PC C mp ps j i src ib eb ll TR xr lr o0 o1 loc B1 (fun k => decide (k < 15)) α 11 = row (α 11) 32 #[.int .i32 0] := by
      show rLAT11 pb sb PC C mp ps j i src ib eb ll TR xr lr o0 o1 loc B1 (fun k => decide (k < 15)) α = _
      unfold rLAT11
      rw [if_pos (by decide)]
    have hO : Own w0 u [row (B1 + 1 + 1 + 1) 34 #[.nilIface, .int .i32 0], row (B1 + 1 + 1) 41 #[.pointer (some ⟨eb, 0, none⟩)], row (B1 + 1) 32 #[.int .i32 loc], row (B1) 23 #[.pointer (some ⟨pb, 0, none⟩)], row (pb) 207 PC, row (sb) 223 C, (mp, .map #[⟨.string ⟨#[95, 95, 112, 111, 119]⟩, .agg #[.int .i32 0, .int .u32 ps, .int .u32 (j : Int)], 0⟩] 1), row (eb) 47 #[.iface 55 (.pointer (some ⟨ib, 0, none⟩)), .int .i32 ll, .iface TR (.pointer (some ⟨xr, 0, none⟩)), .int .i32 lr, .int .u8 o0, .bool o1], row (ib) 214 #[.int .u32 src, .int .u32 (i : Int), .bool false, .bool false, .bool false], row (α 10) 34 #[.nilIface, .int .i32 0], row (α 11) 32 #[.int .i32 0]] X := (hG.list [999, 1999, 2999, 3999, 4999, 5999, 6999, 7999, 8999, 10, 11] (by decide) (act_all (by decide))).conv (by
      show [rLAR pb sb PC C mp ps j i src ib eb ll TR xr lr o0 o1 loc B1 (fun k => decide (k < 15)) α 999, rLAR pb sb PC C mp ps j i src ib eb ll TR xr lr o0 o1 loc B1 (fun k => decide (k < 15)) α 1999, rLAR pb sb PC C mp ps j i src ib eb ll TR xr lr o0 o1 loc B1 (fun k => decide (k < 15)) α 2999, rLAR pb sb PC C mp ps j i src ib eb ll TR xr lr o0 o1 loc B1 (fun k => decide (k < 15)) α 3999, rLAR pb sb PC C mp ps j i src ib eb ll TR xr lr o0 o1 loc B1 (fun k => decide (k < 15)) α 4999, rLAR pb sb PC C mp ps j i src ib eb ll TR xr lr o0 o1 loc B1 (fun k => decide (k < 15)) α 5999, rLAR pb sb PC C mp ps j i src ib eb ll TR xr lr o0 o1 loc B1 (fun k => decide (k < 15)) α 6999, rLAR pb sb PC C mp ps j i src ib eb ll TR xr lr o0 o1 loc B1 (fun k => decide (k < 15)) α 7999, rLAR pb sb PC C mp ps j i src ib eb ll TR xr lr o0 o1 loc B1 (fun k => decide (k < 15)) α 8999, rLAR pb sb PC C mp ps j i src ib eb ll TR xr lr o0 o1 loc B1 (fun k => decide (k < 15)) α 10, rLAR pb sb PC C mp ps j i src ib eb ll TR xr lr o0 o1 loc B1 (fun k => decide (k < 15)) α 11] = _
      rw [e0, e1, e2, e3, e4, e5, e6, e7, e8, e9, e10])
    clear hG e0 e1 e2 e3 e4 e5 e6 e7 e8 e9 e10
    generalize hfr : Rega.frameAt _ _ _ _ _ = fr
    have hdf : fr = ⟨#[.pointer (some ⟨pb, 0, none⟩), .agg #[.int .i32 loc], .pointer (some ⟨eb, 0, none⟩), .pointer (some ⟨B1, 0, none⟩), .pointer (some ⟨B1 + 1, 0, none⟩), .pointer (some ⟨B1 + 1 + 1, 0, none⟩), .pointer (some ⟨B1 + 1 + 1 + 1, 0, none⟩), .pointer (some ⟨α 10, 0, none⟩), .pointer (some ⟨α 11, 0, none⟩), .pointer none, undef, undef, .tuple #[.agg #[.nilIface, .int .i32 0], .agg #[.int .i32 0], .pointer none], .pointer (some ⟨pb, 0, none⟩), .pointer (some ⟨eb, 0, none⟩), .pointer (some ⟨eb, 0, none⟩), .pointer (some ⟨eb, 0, none⟩), .agg #[.iface 55 (.pointer (some ⟨ib, 0, none⟩)), .int .i32 ll], .tuple #[.agg #[.nilIface, .int .i32 0], .agg #[.int .i32 0], .pointer none], .agg #[.nilIface, .int .i32 0], .agg #[.int .i32 0], .pointer none, undef, undef, undef, undef, undef, undef, undef, undef, undef, undef, undef, undef, undef, undef, undef, undef, undef, undef, undef, undef, undef, undef, undef, undef, undef, undef, undef, undef, undef, undef, undef, undef, undef, undef, undef, undef, undef, undef], []⟩ := by rw [← hfr]; kernel_rfl
    clear hfr
    subst hdf
    generalize α 10 = nd3 at hO ⊢
    generalize α 11 = nd4 at hO ⊢
    clear α
    have c9_0_0 : u.cell? ⟨B1 + 1 + 1 + 1, 0, none⟩ = some (.nilIface) := hO.cell 0 rfl 0 rfl
    have c9_0_1 : u.cell? ⟨B1 + 1 + 1 + 1, 1, none⟩ = some (.int .i32 0) := hO.cell 0 rfl 1 rfl
    have lt9_0 : B1 + 1 + 1 + 1 < u.heap.size := hO.lt 0 rfl
    have y9_0 : ∀ o, u.frozen? ⟨B1 + 1 + 1 + 1, o, none⟩ = false := hO.free 0 rfl
    have c9_1_0 : u.cell? ⟨B1 + 1 + 1, 0, none⟩ = some (.pointer (some ⟨eb, 0, none⟩)) := hO.cell 1 rfl 0 rfl
    have lt9_1 : B1 + 1 + 1 < u.heap.size := hO.lt 1 rfl
    have y9_1 : ∀ o, u.frozen? ⟨B1 + 1 + 1, o, none⟩ = false := hO.free 1 rfl
    have c9_2_0 : u.cell? ⟨B1 + 1, 0, none⟩ = some (.int .i32 loc) := hO.cell 2 rfl 0 rfl
    have lt9_2 : B1 + 1 < u.heap.size := hO.lt 2 rfl
    have y9_2 : ∀ o, u.frozen? ⟨B1 + 1, o, none⟩ = false := hO.free 2 rfl
    have c9_3_0 : u.cell? ⟨B1, 0, none⟩ = some (.pointer (some ⟨pb, 0, none⟩)) := hO.cell 3 rfl 0 rfl
    have lt9_3 : B1 < u.heap.size := hO.lt 3 rfl
    have y9_3 : ∀ o, u.frozen? ⟨B1, o, none⟩ = false := hO.free 3 rfl
    have c9_7_0 : u.cell? ⟨eb, 0, none⟩ = some (.iface 55 (.pointer (some ⟨ib, 0, none⟩))) := hO.cell 7 rfl 0 rfl
    have c9_7_1 : u.cell? ⟨eb, 1, none⟩ = some (.int .i32 ll) := hO.cell 7 rfl 1 rfl
    have c9_7_2 : u.cell? ⟨eb, 2, none⟩ = some (.iface TR (.pointer (some ⟨xr, 0, none⟩))) := hO.cell 7 rfl 2 rfl
    have c9_7_3 : u.cell? ⟨eb, 3, none⟩ = some (.int .i32 lr) := hO.cell 7 rfl 3 rfl
    have c9_7_4 : u.cell? ⟨eb, 4, none⟩ = some (.int .u8 o0) := hO.cell 7 rfl 4 rfl
    have c9_7_5 : u.cell? ⟨eb, 5, none⟩ = some (.bool o1) := hO.cell 7 rfl 5 rfl
    have lt9_7 : eb < u.heap.size := hO.lt 7 rfl
    have y9_7 : ∀ o, u.frozen? ⟨eb, o, none⟩ = false := hO.free 7 rfl
    have c9_8_0 : u.cell? ⟨ib, 0, none⟩ = some (.int .u32 src) := hO.cell 8 rfl 0 rfl
    have c9_8_1 : u.cell? ⟨ib, 1, none⟩ = some (.int .u32 (i : Int)) := hO.cell 8 rfl 1 rfl
    have c9_8_2 : u.cell? ⟨ib, 2, none⟩ = some (.bool false) := hO.cell 8 rfl 2 rfl
    have c9_8_3 : u.cell? ⟨ib, 3, none⟩ = some (.bool false) := hO.cell 8 rfl 3 rfl
    have c9_8_4 : u.cell? ⟨ib, 4, none⟩ = some (.bool false) := hO.cell 8 rfl 4 rfl
    have lt9_8 : ib < u.heap.size := hO.lt 8 rfl
    have y9_8 : ∀ o, u.frozen? ⟨ib, o, none⟩ = false := hO.free 8 rfl
    have c9_9_0 : u.cell? ⟨nd3, 0, none⟩ = some (.nilIface) := hO.cell 9 rfl 0 rfl
    have c9_9_1 : u.cell? ⟨nd3, 1, none⟩ = some (.int .i32 0) := hO.cell 9 rfl 1 rfl
    have lt9_9 : nd3 < u.heap.size := hO.lt 9 rfl
    have y9_9 : ∀ o, u.frozen? ⟨nd3, o, none⟩ = false := hO.free 9 rfl
    have c9_10_0 : u.cell? ⟨nd4, 0, none⟩ = some (.int .i32 0) := hO.cell 10 rfl 0 rfl
    have lt9_10 : nd4 < u.heap.size := hO.lt 10 rfl
    have y9_10 : ∀ o, u.frozen? ⟨nd4, o, none⟩ = false := hO.free 10 rfl
    have HO := Lib.hid hO
    clear hO
    go_wp2_with fail
    have hO := HO.out
    clear HO c9_0_0 c9_0_1 lt9_0 y9_0 c9_1_0 lt9_1 y9_1 c9_2_0 lt9_2 y9_2 c9_3_0 lt9_3 y9_3 c9_7_0 c9_7_1 c9_7_2 c9_7_3 c9_7_4 c9_7_5 lt9_7 y9_7 c9_8_0 c9_8_1 c9_8_2 c9_8_3 c9_8_4 lt9_8 y9_8 c9_9_0 c9_9_1 lt9_9 y9_9 c9_10_0 lt9_10 y9_10
    refine wp_region_own (e := rLBE pb sb PC C mp ps j cj i c src ib eb ll TR xr lr o0 o1 loc B1 nd3 nd4) (anc := rLBAnc) (G := (fun L9 α u9 => OwnF w0 u9 (act rLBCnt 11 L9) (rLBR pb sb PC C mp ps j cj i c src ib eb ll TR xr lr o0 o1 loc B1 nd3 nd4 L9 α) X)) (by kernel_rfl) (by kernel_rfl) (by kernel_rfl) (by kernel_rfl) (rLB_he pb sb PC C mp ps j cj i c src ib eb ll TR xr lr o0 o1 loc B1 nd3 nd4) ?_ (RunsAll.all ?_) ?_
    · have hp : ∀ i, act rLBCnt 11 (fun _ => false) i → i ∈ [999, 1999, 2999, 3999, 4999, 5999, 6999, 7999, 8999, 9999, 10999] := by
        intro i hi
        have h9 : i % 1000 = 999 := by
          by_cases h : i % 1000 = 999
          · exact h
          · exact absurd (act_lt hi h) (by simp)
        unfold act at hi
        rw [if_pos h9] at hi
        simp only [List.mem_cons, List.not_mem_nil, or_false]
        omega
      refine hO.drew.family (fun i hi => ?_) (fun i j hi hj hij => ?_)
      · have := hp i hi
        simp only [List.mem_cons, List.not_mem_nil, or_false] at this
        rcases this with rfl | rfl | rfl | rfl | rfl | rfl | rfl | rfl | rfl | rfl | rfl <;> rfl
      · have h1 := hp i hi
        have h2 := hp j hj
        simp only [List.mem_cons, List.not_mem_nil, or_false] at h1 h2
        omega
    · refine ⟨?_, ?_, ?_, ?_, ?_, ?_, ?_, ?_, trivial⟩
      · intro L9 α a9 u9 K9 hL hcl hA hG hS h0 hK
        replace hL : L9 0 = false := hL
        have q3 : a9.tmps[3]? = some (.pointer (some ⟨B1, 0, none⟩)) := (h0 3 (by kernel_rfl)).trans rfl
        have s3 := Rega.eval_of q3
        have e0 : rLBR pb sb PC C mp ps j cj i c src ib eb ll TR xr lr o0 o1 loc B1 nd3 nd4 L9 α 3999 = row (B1) 23 #[.pointer (some ⟨pb, 0, none⟩)] := rfl
        have hr := hG.rowAt 3999 (act_base 3999 rfl) e0
        have c0 : u9.cell? ⟨B1, 0, none⟩ = some (.pointer (some ⟨pb, 0, none⟩)) := hr.cell rfl
        clear hr e0
        go_simp
        exact hK _ α _ (fun _ _ => rfl) rfl (step_same (rLB_st pb sb PC C mp ps j cj i c src ib eb ll TR xr lr o0 o1 loc B1 nd3 nd4) hL hcl rfl rfl hG)
      · intro L9 α a9 u9 K9 hL hcl hA hG hS h0 hK
        replace hL : L9 1 = false := hL
        have q5 : a9.tmps[5]? = some (.pointer (some ⟨B1 + 1 + 1, 0, none⟩)) := (h0 5 (by kernel_rfl)).trans rfl
        have s5 := Rega.eval_of q5
        have e0 : rLBR pb sb PC C mp ps j cj i c src ib eb ll TR xr lr o0 o1 loc B1 nd3 nd4 L9 α 1999 = row (B1 + 1 + 1) 41 #[.pointer (some ⟨eb, 0, none⟩)] := rfl
        have hr := hG.rowAt 1999 (act_base 1999 rfl) e0
        have c0 : u9.cell? ⟨B1 + 1 + 1, 0, none⟩ = some (.pointer (some ⟨eb, 0, none⟩)) := hr.cell rfl
        clear hr e0
        go_simp
        exact hK _ α _ (fun _ _ => rfl) rfl (step_same (rLB_st pb sb PC C mp ps j cj i c src ib eb ll TR xr lr o0 o1 loc B1 nd3 nd4) hL hcl rfl rfl hG)
      · intro L9 α a9 u9 K9 hL hcl hA hG hS h0 hK
        replace hL : L9 2 = false := hL
        have q54 : a9.tmps[54]? = some (.pointer (some ⟨eb, 0, none⟩)) := hS 1 54 (by decide) rfl (by show 54 < 60; decide)
        have s54 := Rega.eval_of q54
        go_simp
        exact hK _ α _ (fun _ _ => rfl) rfl (step_same (rLB_st pb sb PC C mp ps j cj i c src ib eb ll TR xr lr o0 o1 loc B1 nd3 nd4) hL hcl rfl rfl hG)
      · intro L9 α a9 u9 K9 hL hcl hA hG hS h0 hK
        replace hL : L9 3 = false := hL
        have q55 : a9.tmps[55]? = some (.pointer (some ⟨eb, 0, none⟩)) := hS 2 55 (by decide) rfl (by show 55 < 60; decide)
        have s55 := Rega.eval_of q55
        go_simp
        exact hK _ α _ (fun _ _ => rfl) rfl (step_same (rLB_st pb sb PC C mp ps j cj i c src ib eb ll TR xr lr o0 o1 loc B1 nd3 nd4) hL hcl rfl rfl hG)
      · intro L9 α a9 u9 K9 hL hcl hA hG hS h0 hK
        replace hL : L9 4 = false := hL
        have q56 : a9.tmps[56]? = some (.pointer (some ⟨eb, 0, none⟩)) := hS 3 56 (by decide) rfl (by show 56 < 60; decide)
        have s56 := Rega.eval_of q56
        have e0 : rLBR pb sb PC C mp ps j cj i c src ib eb ll TR xr lr o0 o1 loc B1 nd3 nd4 L9 α 7999 = row (eb) 47 #[.iface 55 (.pointer (some ⟨ib, 0, none⟩)), .int .i32 ll, .iface TR (.pointer (some ⟨xr, 0, none⟩)), .int .i32 lr, .int .u8 o0, .bool o1] := rfl
        have hr := hG.rowAt 7999 (act_base 7999 rfl) e0
        have c0 : u9.cell? ⟨eb, 0, none⟩ = some (.iface 55 (.pointer (some ⟨ib, 0, none⟩))) := hr.cell rfl
        have c1 : u9.cell? ⟨eb, 1, none⟩ = some (.int .i32 ll) := hr.cell rfl
        clear hr e0
        go_simp
        exact hK _ α _ (fun _ _ => rfl) rfl (step_same (rLB_st pb sb PC C mp ps j cj i c src ib eb ll TR xr lr o0 o1 loc B1 nd3 nd4) hL hcl rfl rfl hG)
      · intro L9 α a9 u9 K9 hL hcl hA hG hS h0 hK
        replace hL : L9 5 = false := hL
        have q3 : a9.tmps[3]? = some (.pointer (some ⟨B1, 0, none⟩)) := (h0 3 (by kernel_rfl)).trans rfl
        have s3 := Rega.eval_of q3
        have q4 : a9.tmps[4]? = some (.pointer (some ⟨B1 + 1, 0, none⟩)) := (h0 4 (by kernel_rfl)).trans rfl
        have s4 := Rega.eval_of q4
        have q5 : a9.tmps[5]? = some (.pointer (some ⟨B1 + 1 + 1, 0, none⟩)) := (h0 5 (by kernel_rfl)).trans rfl
        have s5 := Rega.eval_of q5
        go_simp
        exact hK _ α _ (fun _ _ => rfl) rfl (step_same (rLB_st pb sb PC C mp ps j cj i c src ib eb ll TR xr lr o0 o1 loc B1 nd3 nd4) hL hcl rfl rfl hG)
      · intro L9 α a9 u9 K9 hL hcl hA hG hS h0 hK
        replace hL : L9 6 = false := hL
        have q53 : a9.tmps[53]? = some (.pointer (some ⟨pb, 0, none⟩)) := hS 0 53 (by decide) rfl (by show 53 < 60; decide)
        have s53 := Rega.eval_of q53
        have q57 : a9.tmps[57]? = some (.agg #[.iface 55 (.pointer (some ⟨ib, 0, none⟩)), .int .i32 ll]) := hS 4 57 (by decide) rfl (by show 57 < 60; decide)
        have s57 := Rega.eval_of q57
        have q58 : a9.tmps[58]? = some (.func (Fn.func 48) #[] #[.pointer (some ⟨B1, 0, none⟩), .pointer (some ⟨B1 + 1, 0, none⟩), .pointer (some ⟨B1 + 1 + 1, 0, none⟩)]) := hS 5 58 (by decide) rfl (by show 58 < 60; decide)
        have s58 := Rega.eval_of q58
        go_simp
        have e0 : rLBR pb sb PC C mp ps j cj i c src ib eb ll TR xr lr o0 o1 loc B1 nd3 nd4 L9 α 4999 = row (pb) 207 PC := rfl
        have e1 : rLBR pb sb PC C mp ps j cj i c src ib eb ll TR xr lr o0 o1 loc B1 nd3 nd4 L9 α 5999 = row (sb) 223 C := by
          show rLBT5999 pb sb PC C mp ps j cj i c src ib eb ll TR xr lr o0 o1 loc B1 nd3 nd4 L9 α = _
          unfold rLBT5999
          rw [if_neg (by rw [hL]; decide)]
        have e2 : rLBR pb sb PC C mp ps j cj i c src ib eb ll TR xr lr o0 o1 loc B1 nd3 nd4 L9 α 6999 = (mp, .map #[⟨.string ⟨#[95, 95, 112, 111, 119]⟩, .agg #[.int .i32 0, .int .u32 ps, .int .u32 (j : Int)], 0⟩] 1) := rfl
        have e3 : rLBR pb sb PC C mp ps j cj i c src ib eb ll TR xr lr o0 o1 loc B1 nd3 nd4 L9 α 3999 = row (B1) 23 #[.pointer (some ⟨pb, 0, none⟩)] := rfl
        have e4 : rLBR pb sb PC C mp ps j cj i c src ib eb ll TR xr lr o0 o1 loc B1 nd3 nd4 L9 α 2999 = row (B1 + 1) 32 #[.int .i32 loc] := rfl
        have e5 : rLBR pb sb PC C mp ps j cj i c src ib eb ll TR xr lr o0 o1 loc B1 nd3 nd4 L9 α 1999 = row (B1 + 1 + 1) 41 #[.pointer (some ⟨eb, 0, none⟩)] := rfl
        have e6 : rLBR pb sb PC C mp ps j cj i c src ib eb ll TR xr lr o0 o1 loc B1 nd3 nd4 L9 α 7999 = row (eb) 47 #[.iface 55 (.pointer (some ⟨ib, 0, none⟩)), .int .i32 ll, .iface TR (.pointer (some ⟨xr, 0, none⟩)), .int .i32 lr, .int .u8 o0, .bool o1] := rfl
        have e7 : rLBR pb sb PC C mp ps j cj i c src ib eb ll TR xr lr o0 o1 loc B1 nd3 nd4 L9 α 8999 = row (ib) 214 #[.int .u32 src, .int .u32 (i : Int), .bool false, .bool false, .bool false] := rfl
        have hM : ∀ i, i ∈ [4999, 5999, 6999, 3999, 2999, 1999, 7999, 8999] → act rLBCnt 11 L9 i := by
          intro i hi
          simp only [List.mem_cons, List.not_mem_nil, or_false] at hi
          rcases hi with rfl | rfl | rfl | rfl | rfl | rfl | rfl | rfl
          · exact act_base 4999 rfl
          · exact act_base 5999 rfl
          · exact act_base 6999 rfl
          · exact act_base 3999 rfl
          · exact act_base 2999 rfl
          · exact act_base 1999 rfl
          · exact act_base 7999 rfl
          · exact act_base 8999 rfl
        have hP : Own w0 u9 [row (pb) 207 PC, row (sb) 223 C, (mp, .map #[⟨.string ⟨#[95, 95, 112, 111, 119]⟩, .agg #[.int .i32 0, .int .u32 ps, .int .u32 (j : Int)], 0⟩] 1), row (B1) 23 #[.pointer (some ⟨pb, 0, none⟩)], row (B1 + 1) 32 #[.int .i32 loc], row (B1 + 1 + 1) 41 #[.pointer (some ⟨eb, 0, none⟩)], row (eb) 47 #[.iface 55 (.pointer (some ⟨ib, 0, none⟩)), .int .i32 ll, .iface TR (.pointer (some ⟨xr, 0, none⟩)), .int .i32 lr, .int .u8 o0, .bool o1], row (ib) 214 #[.int .u32 src, .int .u32 (i : Int), .bool false, .bool false, .bool false]] _ := (hG.pick [4999, 5999, 6999, 3999, 2999, 1999, 7999, 8999] (by decide) hM).conv (by
          show [rLBR pb sb PC C mp ps j cj i c src ib eb ll TR xr lr o0 o1 loc B1 nd3 nd4 L9 α 4999, rLBR pb sb PC C mp ps j cj i c src ib eb ll TR xr lr o0 o1 loc B1 nd3 nd4 L9 α 5999, rLBR pb sb PC C mp ps j cj i c src ib eb ll TR xr lr o0 o1 loc B1 nd3 nd4 L9 α 6999, rLBR pb sb PC C mp ps j cj i c src ib eb ll TR xr lr o0 o1 loc B1 nd3 nd4 L9 α 3999, rLBR pb sb PC C mp ps j cj i c src ib eb ll TR xr lr o0 o1 loc B1 nd3 nd4 L9 α 2999, rLBR pb sb PC C mp ps j cj i c src ib eb ll TR xr lr o0 o1 loc B1 nd3 nd4 L9 α 1999, rLBR pb sb PC C mp ps j cj i c src ib eb ll TR xr lr o0 o1 loc B1 nd3 nd4 L9 α 7999, rLBR pb sb PC C mp ps j cj i c src ib eb ll TR xr lr o0 o1 loc B1 nd3 nd4 L9 α 8999] = _
          rw [e0, e1, e2, e3, e4, e5, e6, e7])
        clear e0 e1 e2 e3 e4 e5 e6 e7 hM
        refine Calls.mono (lowExpId pb sb n cap PC C mp ps j cj i c src ib B1 (B1 + 1) (B1 + 1 + 1) eb ll TR xr lr o0 o1 loc _ _ _ hP hR hn hi hc hcm hj hcj hcjm hm) ?_
        rintro e9 u1 ⟨b0, b1, b2, b3, b4, rfl, hQ⟩
        obtain ⟨α', hα'⟩ : ∃ α' : Rega.Atoms, α' = (fun j => if j = 6 then b0 else if j = 1006 then b1 else if j = 2006 then b2 else if j = 3006 then b3 else if j = 4006 then b4 else α j) := ⟨_, rfl⟩
        have f0 : rLBR pb sb PC C mp ps j cj i c src ib eb ll TR xr lr o0 o1 loc B1 nd3 nd4 (Rega.ran L9 6) α' 4999 = row (pb) 207 PC := rfl
        have f1 : rLBR pb sb PC C mp ps j cj i c src ib eb ll TR xr lr o0 o1 loc B1 nd3 nd4 (Rega.ran L9 6) α' 5999 = row (sb) 223 (bumped (bumped C i c) j cj) := by
          show rLBT5999 pb sb PC C mp ps j cj i c src ib eb ll TR xr lr o0 o1 loc B1 nd3 nd4 (Rega.ran L9 6) α' = _
          unfold rLBT5999
          rw [if_pos (show Rega.ran L9 6 6 = true from rfl)]
        have f2 : rLBR pb sb PC C mp ps j cj i c src ib eb ll TR xr lr o0 o1 loc B1 nd3 nd4 (Rega.ran L9 6) α' 6999 = (mp, .map #[⟨.string ⟨#[95, 95, 112, 111, 119]⟩, .agg #[.int .i32 0, .int .u32 ps, .int .u32 (j : Int)], 0⟩] 1) := rfl
        have f3 : rLBR pb sb PC C mp ps j cj i c src ib eb ll TR xr lr o0 o1 loc B1 nd3 nd4 (Rega.ran L9 6) α' 3999 = row (B1) 23 #[.pointer (some ⟨pb, 0, none⟩)] := rfl
        have f4 : rLBR pb sb PC C mp ps j cj i c src ib eb ll TR xr lr o0 o1 loc B1 nd3 nd4 (Rega.ran L9 6) α' 2999 = row (B1 + 1) 32 #[.int .i32 loc] := rfl
        have f5 : rLBR pb sb PC C mp ps j cj i c src ib eb ll TR xr lr o0 o1 loc B1 nd3 nd4 (Rega.ran L9 6) α' 1999 = row (B1 + 1 + 1) 41 #[.pointer (some ⟨eb, 0, none⟩)] := rfl
        have f6 : rLBR pb sb PC C mp ps j cj i c src ib eb ll TR xr lr o0 o1 loc B1 nd3 nd4 (Rega.ran L9 6) α' 7999 = row (eb) 47 #[.iface 55 (.pointer (some ⟨ib, 0, none⟩)), .int .i32 ll, .iface TR (.pointer (some ⟨xr, 0, none⟩)), .int .i32 lr, .int .u8 o0, .bool o1] := rfl
        have f7 : rLBR pb sb PC C mp ps j cj i c src ib eb ll TR xr lr o0 o1 loc B1 nd3 nd4 (Rega.ran L9 6) α' 8999 = row (ib) 214 #[.int .u32 src, .int .u32 (i : Int), .bool false, .bool false, .bool false] := rfl
        have f8 : rLBR pb sb PC C mp ps j cj i c src ib eb ll TR xr lr o0 o1 loc B1 nd3 nd4 (Rega.ran L9 6) α' 6 = row (α' 6) 47 #[.iface 55 (.pointer (some ⟨α' 4006, 0, none⟩)), .int .i32 ll, .iface 72 (.pointer (some ⟨α' 1006, 0, none⟩)), .int .i32 loc, .int .u8 37, .bool false] := rfl
        have f9 : rLBR pb sb PC C mp ps j cj i c src ib eb ll TR xr lr o0 o1 loc B1 nd3 nd4 (Rega.ran L9 6) α' 1006 = row (α' 1006) 77 #[.iface 55 (.pointer (some ⟨α' 2006, 0, none⟩)), .int .i32 loc, .slice (some ⟨α' 3006, 0, none⟩) 2 2, .int .i32 0, .int .u8 0, .int .u8 0, .bool false, .bool false] := rfl
        have f10 : rLBR pb sb PC C mp ps j cj i c src ib eb ll TR xr lr o0 o1 loc B1 nd3 nd4 (Rega.ran L9 6) α' 2006 = row (α' 2006) 214 #[.int .u32 ps, .int .u32 (j : Int), .bool false, .bool false, .bool false] := rfl
        have f11 : rLBR pb sb PC C mp ps j cj i c src ib eb ll TR xr lr o0 o1 loc B1 nd3 nd4 (Rega.ran L9 6) α' 3006 = row (α' 3006) 34 #[.iface 55 (.pointer (some ⟨ib, 0, none⟩)), .int .i32 ll, .iface TR (.pointer (some ⟨xr, 0, none⟩)), .int .i32 lr] := rfl
        have f12 : rLBR pb sb PC C mp ps j cj i c src ib eb ll TR xr lr o0 o1 loc B1 nd3 nd4 (Rega.ran L9 6) α' 4006 = row (α' 4006) 214 #[.int .u32 src, .int .u32 (i : Int), .bool false, .bool false, .bool false] := rfl
        have hα : ∀ j, j % 1000 ≠ 6 → α' j = α j := fun j hj => by rw [hα']; simp only []; rw [if_neg (by omega), if_neg (by omega), if_neg (by omega), if_neg (by omega), if_neg (by omega)]
        have hb0 : α' 6 = b0 := by rw [hα']; rfl
        have hb1 : α' 1006 = b1 := by rw [hα']; rfl
        have hb2 : α' 2006 = b2 := by rw [hα']; rfl
        have hb3 : α' 3006 = b3 := by rw [hα']; rfl
        have hb4 : α' 4006 = b4 := by rw [hα']; rfl
        skip
        refine hK _ α' _ hα ?_ (step_call (rLB_st pb sb PC C mp ps j cj i c src ib eb ll TR xr lr o0 o1 loc B1 nd3 nd4) hL hcl hα [4999, 5999, 6999, 3999, 2999, 1999, 7999, 8999] [4999, 5999, 6999, 3999, 2999, 1999, 7999, 8999, 6, 1006, 2006, 3006, 4006] (by decide) (by decide) (by decide) (M := _) ?_ hG hQ)
        · show _ = (.agg #[.iface 41 (.pointer (some ⟨α' 6, 0, none⟩)), .int .i32 ll] : Value)
          simp only [hb0]
        · show [rLBR pb sb PC C mp ps j cj i c src ib eb ll TR xr lr o0 o1 loc B1 nd3 nd4 (Rega.ran L9 6) α' 4999, rLBR pb sb PC C mp ps j cj i c src ib eb ll TR xr lr o0 o1 loc B1 nd3 nd4 (Rega.ran L9 6) α' 5999, rLBR pb sb PC C mp ps j cj i c src ib eb ll TR xr lr o0 o1 loc B1 nd3 nd4 (Rega.ran L9 6) α' 6999, rLBR pb sb PC C mp ps j cj i c src ib eb ll TR xr lr o0 o1 loc B1 nd3 nd4 (Rega.ran L9 6) α' 3999, rLBR pb sb PC C mp ps j cj i c src ib eb ll TR xr lr o0 o1 loc B1 nd3 nd4 (Rega.ran L9 6) α' 2999, rLBR pb sb PC C mp ps j cj i c src ib eb ll TR xr lr o0 o1 loc B1 nd3 nd4 (Rega.ran L9 6) α' 1999, rLBR pb sb PC C mp ps j cj i c src ib eb ll TR xr lr o0 o1 loc B1 nd3 nd4 (Rega.ran L9 6) α' 7999, rLBR pb sb PC C mp ps j cj i c src ib eb ll TR xr lr o0 o1 loc B1 nd3 nd4 (Rega.ran L9 6) α' 8999, rLBR pb sb PC C mp ps j cj i c src ib eb ll TR xr lr o0 o1 loc B1 nd3 nd4 (Rega.ran L9 6) α' 6, rLBR pb sb PC C mp ps j cj i c src ib eb ll TR xr lr o0 o1 loc B1 nd3 nd4 (Rega.ran L9 6) α' 1006, rLBR pb sb PC C mp ps j cj i c src ib eb ll TR xr lr o0 o1 loc B1 nd3 nd4 (Rega.ran L9 6) α' 2006, rLBR pb sb PC C mp ps j cj i c src ib eb ll TR xr lr o0 o1 loc B1 nd3 nd4 (Rega.ran L9 6) α' 3006, rLBR pb sb PC C mp ps j cj i c src ib eb ll TR xr lr o0 o1 loc B1 nd3 nd4 (Rega.ran L9 6) α' 4006] = _
          rw [f0, f1, f2, f3, f4, f5, f6, f7, f8, f9, f10, f11, f12]
          simp only [hb0, hb1, hb2, hb3, hb4]
      · intro L9 α a9 u9 K9 hL hcl hA hG hS h0 hK
        replace hL : L9 7 = false := hL
        have q6 : a9.tmps[6]? = some (.pointer (some ⟨B1 + 1 + 1 + 1, 0, none⟩)) := (h0 6 (by kernel_rfl)).trans rfl
        have s6 := Rega.eval_of q6
        have q59 : a9.tmps[59]? = some (.agg #[.iface 41 (.pointer (some ⟨α 6, 0, none⟩)), .int .i32 ll]) := hS 6 59 (by decide) rfl (by show 59 < 60; decide)
        have s59 := Rega.eval_of q59
        have e0 : rLBR pb sb PC C mp ps j cj i c src ib eb ll TR xr lr o0 o1 loc B1 nd3 nd4 L9 α 999 = row (B1 + 1 + 1 + 1) 34 #[.nilIface, .int .i32 0] := by
          show rLBT999 pb sb PC C mp ps j cj i c src ib eb ll TR xr lr o0 o1 loc B1 nd3 nd4 L9 α = _
          unfold rLBT999
          rw [if_neg (by rw [hL]; decide)]
        have hr := hG.rowAt 999 (act_base 999 rfl) e0
        have c0 : u9.cell? ⟨B1 + 1 + 1 + 1, 0, none⟩ = some (.nilIface) := hr.cell rfl
        have y0 : u9.frozen? ⟨B1 + 1 + 1 + 1, 0, none⟩ = false := hr.free 0
        have c1 : u9.cell? ⟨B1 + 1 + 1 + 1, 1, none⟩ = some (.int .i32 0) := hr.cell rfl
        have y1 : u9.frozen? ⟨B1 + 1 + 1 + 1, 1, none⟩ = false := hr.free 1
        clear hr
        have E0 := Lib.hid e0
        clear e0
        go_simp
        have e1 : rLBR pb sb PC C mp ps j cj i c src ib eb ll TR xr lr o0 o1 loc B1 nd3 nd4 (Rega.ran L9 7) α 999 = row (B1 + 1 + 1 + 1) 34 #[.iface 41 (.pointer (some ⟨α 6, 0, none⟩)), .int .i32 ll] := by
          show rLBT999 pb sb PC C mp ps j cj i c src ib eb ll TR xr lr o0 o1 loc B1 nd3 nd4 (Rega.ran L9 7) α = _
          unfold rLBT999
          rw [if_pos (show Rega.ran L9 7 7 = true from rfl)]
        exact hK _ α _ (fun _ _ => rfl) rfl (step_sets (rLB_st pb sb PC C mp ps j cj i c src ib eb ll TR xr lr o0 o1 loc B1 nd3 nd4) hL hcl rfl 999 rfl (act_base 999 rfl) E0.out 0 [.iface 41 (.pointer (some ⟨α 6, 0, none⟩)), .int .i32 ll] (e1.trans rfl) hG)
    · intro α u hG
      have e0 : rLBR pb sb PC C mp ps j cj i c src ib eb ll TR xr lr o0 o1 loc B1 nd3 nd4 (fun k => decide (k < 8)) α 999 = row (B1 + 1 + 1 + 1) 34 #[.iface 41 (.pointer (some ⟨α 6, 0, none⟩)), .int .i32 ll] := by
        show rLBT999 pb sb PC C mp ps j cj i c src ib eb ll TR xr lr o0 o1 loc B1 nd3 nd4 (fun k => decide (k < 8)) α = _
        unfold rLBT999
        rw [if_pos (by decide)]
      have e1 : rLBR pb sb PC C mp ps j cj i c src ib eb ll TR xr lr o0 o1 loc B1 nd3 nd4 (fun k => decide (k < 8)) α 1999 = row (B1 + 1 + 1) 41 #[.pointer (some ⟨eb, 0, none⟩)] := rfl
      have e2 : rLBR pb sb PC C mp ps j cj i c src ib eb ll TR xr lr o0 o1 loc B1 nd3 nd4 (fun k => decide (k < 8)) α 2999 = row (B1 + 1) 32 #[.int .i32 loc] := rfl
      have e3 : rLBR pb sb PC C mp ps j cj i c src ib eb ll TR xr lr o0 o1 loc B1 nd3 nd4 (fun k => decide (k < 8)) α 3999 = row (B1) 23 #[.pointer (some ⟨pb, 0, none⟩)] := rfl
      have e4 : rLBR pb sb PC C mp ps j cj i c src ib eb ll TR xr lr o0 o1 loc B1 nd3 nd4 (fun k => decide (k < 8)) α 4999 = row (pb) 207 PC := rfl
      have e5 : rLBR pb sb PC C mp ps j cj i c src ib eb ll TR xr lr o0 o1 loc B1 nd3 nd4 (fun k => decide (k < 8)) α 5999 = row (sb) 223 (bumped (bumped C i c) j cj) := by
        show rLBT5999 pb sb PC C mp ps j cj i c src ib eb ll TR xr lr o0 o1 loc B1 nd3 nd4 (fun k => decide (k < 8)) α = _
        unfold rLBT5999
        rw [if_pos (by decide)]
      have e6 : rLBR pb sb PC C mp ps j cj i c src ib eb ll TR xr lr o0 o1 loc B1 nd3 nd4 (fun k => decide (k < 8)) α 6999 = (mp, .map #[⟨.string ⟨#[95, 95, 112, 111, 119]⟩, .agg #[.int .i32 0, .int .u32 ps, .int .u32 (j : Int)], 0⟩] 1) := rfl
      have e7 : rLBR pb sb PC C mp ps j cj i c src ib eb ll TR xr lr o0 o1 loc B1 nd3 nd4 (fun k => decide (k < 8)) α 7999 = row (eb) 47 #[.iface 55 (.pointer (some ⟨ib, 0, none⟩)), .int .i32 ll, .iface TR (.pointer (some ⟨xr, 0, none⟩)), .int .i32 lr, .int .u8 o0, .bool o1] := rfl
      have e8 : rLBR pb sb PC C mp ps j cj i c src ib eb ll TR xr lr o0 o1 loc B1 nd3 nd4 (fun k => decide (k < 8)) α 8999 = row (ib) 214 #[.int .u32 src, .int .u32 (i : Int), .bool false, .bool false, .bool false] := rfl
      have e9 : rLBR pb sb PC C mp ps j cj i c src ib eb ll TR xr lr o0 o1 loc B1 nd3 nd4 (fun k => decide (k < 8)) α 9999 = row (nd3) 34 #[.nilIface, .int .i32 0] := rfl
      have e10 : rLBR pb sb PC C mp ps j cj i c src ib eb ll TR xr lr o0 o1 loc B1 nd3 nd4 (fun k => decide (k < 8)) α 10999 = row (nd4) 32 #[.int .i32 0] := rfl
      have e11 : rLBR pb sb PC C mp ps j cj i c src ib eb ll TR xr lr o0 o1 loc B1 nd3 nd4 (fun k => decide (k < 8)) α 6 = row (α 6) 47 #[.iface 55 (.pointer (some ⟨α 4006, 0, none⟩)), .int .i32 ll, .iface 72 (.pointer (some ⟨α 1006, 0, none⟩)), .int .i32 loc, .int .u8 37, .bool false] := rfl
      have e12 : rLBR pb sb PC C mp ps j cj i c src ib eb ll TR xr lr o0 o1 loc B1 nd3 nd4 (fun k => decide (k < 8)) α 1006 = row (α 1006) 77 #[.iface 55 (.pointer (some ⟨α 2006, 0, none⟩)), .int .i32 loc, .slice (some ⟨α 3006, 0, none⟩) 2 2, .int .i32 0, .int .u8 0, .int .u8 0, .bool false, .bool false] := rfl
      have e13 : rLBR pb sb PC C mp ps j cj i c src ib eb ll TR xr lr o0 o1 loc B1 nd3 nd4 (fun k => decide (k < 8)) α 2006 = row (α 2006) 214 #[.int .u32 ps, .int .u32 (j : Int), .bool false, .bool false, .bool false] := rfl
      have e14 : rLBR pb sb PC C mp ps j cj i c src ib eb ll TR xr lr o0 o1 loc B1 nd3 nd4 (fun k => decide (k < 8)) α 3006 = row (α 3006) 34 #[.iface 55 (.pointer (some ⟨ib, 0, none⟩)), .int .i32 ll, .iface TR (.pointer (some ⟨xr, 0, none⟩)), .int .i32 lr] := rfl
      have e15 : rLBR pb sb PC C mp ps j cj i c src ib eb ll TR xr lr o0 o1 loc B1 nd3 nd4 (fun k => decide (k < 8)) α 4006 = row (α 4006) 214 #[.int .u32 src, .int .u32 (i : Int), .bool false, .bool false, .bool false] := rfl
      have hO : Own w0 u [row (B1 + 1 + 1 + 1) 34 #[.iface 41 (.pointer (some ⟨α 6, 0, none⟩)), .int .i32 ll], row (B1 + 1 + 1) 41 #[.pointer (some ⟨eb, 0, none⟩)], row (B1 + 1) 32 #[.int .i32 loc], row (B1) 23 #[.pointer (some ⟨pb, 0, none⟩)], row (pb) 207 PC, row (sb) 223 (bumped (bumped C i c) j cj), (mp, .map #[⟨.string ⟨#[95, 95, 112, 111, 119]⟩, .agg #[.int .i32 0, .int .u32 ps, .int .u32 (j : Int)], 0⟩] 1), row (eb) 47 #[.iface 55 (.pointer (some ⟨ib, 0, none⟩)), .int .i32 ll, .iface TR (.pointer (some ⟨xr, 0, none⟩)), .int .i32 lr, .int .u8 o0, .bool o1], row (ib) 214 #[.int .u32 src, .int .u32 (i : Int), .bool false, .bool false, .bool false], row (nd3) 34 #[.nilIface, .int .i32 0], row (nd4) 32 #[.int .i32 0], row (α 6) 47 #[.iface 55 (.pointer (some ⟨α 4006, 0, none⟩)), .int .i32 ll, .iface 72 (.pointer (some ⟨α 1006, 0, none⟩)), .int .i32 loc, .int .u8 37, .bool false], row (α 1006) 77 #[.iface 55 (.pointer (some ⟨α 2006, 0, none⟩)), .int .i32 loc, .slice (some ⟨α 3006, 0, none⟩) 2 2, .int .i32 0, .int .u8 0, .int .u8 0, .bool false, .bool false], row (α 2006) 214 #[.int .u32 ps, .int .u32 (j : Int), .bool false, .bool false, .bool false], row (α 3006) 34 #[.iface 55 (.pointer (some ⟨ib, 0, none⟩)), .int .i32 ll, .iface TR (.pointer (some ⟨xr, 0, none⟩)), .int .i32 lr], row (α 4006) 214 #[.int .u32 src, .int .u32 (i : Int), .bool false, .bool false, .bool false]] X := (hG.list [999, 1999, 2999, 3999, 4999, 5999, 6999, 7999, 8999, 9999, 10999, 6, 1006, 2006, 3006, 4006] (by decide) (act_all (by decide))).conv (by
        show [rLBR pb sb PC C mp ps j cj i c src ib eb ll TR xr lr o0 o1 loc B1 nd3 nd4 (fun k => decide (k < 8)) α 999, rLBR pb sb PC C mp ps j cj i c src ib eb ll TR xr lr o0 o1 loc B1 nd3 nd4 (fun k => decide (k < 8)) α 1999, rLBR pb sb PC C mp ps j cj i c src ib eb ll TR xr lr o0 o1 loc B1 nd3 nd4 (fun k => decide (k < 8)) α 2999, rLBR pb sb PC C mp ps j cj i c src ib eb ll TR xr lr o0 o1 loc B1 nd3 nd4 (fun k => decide (k < 8)) α 3999, rLBR pb sb PC C mp ps j cj i c src ib eb ll TR xr lr o0 o1 loc B1 nd3 nd4 (fun k => decide (k < 8)) α 4999, rLBR pb sb PC C mp ps j cj i c src ib eb ll TR xr lr o0 o1 loc B1 nd3 nd4 (fun k => decide (k < 8)) α 5999, rLBR pb sb PC C mp ps j cj i c src ib eb ll TR xr lr o0 o1 loc B1 nd3 nd4 (fun k => decide (k < 8)) α 6999, rLBR pb sb PC C mp ps j cj i c src ib eb ll TR xr lr o0 o1 loc B1 nd3 nd4 (fun k => decide (k < 8)) α 7999, rLBR pb sb PC C mp ps j cj i c src ib eb ll TR xr lr o0 o1 loc B1 nd3 nd4 (fun k => decide (k < 8)) α 8999, rLBR pb sb PC C mp ps j cj i c src ib eb ll TR xr lr o0 o1 loc B1 nd3 nd4 (fun k => decide (k < 8)) α 9999, rLBR pb sb PC C mp ps j cj i c src ib eb ll TR xr lr o0 o1 loc B1 nd3 nd4 (fun k => decide (k < 8)) α 10999, rLBR pb sb PC C mp ps j cj i c src ib eb ll TR xr lr o0 o1 loc B1 nd3 nd4 (fun k => decide (k < 8)) α 6, rLBR pb sb PC C mp ps j cj i c src ib eb ll TR xr lr o0 o1 loc B1 nd3 nd4 (fun k => decide (k < 8)) α 1006, rLBR pb sb PC C mp ps j cj i c src ib eb ll TR xr lr o0 o1 loc B1 nd3 nd4 (fun k => decide (k < 8)) α 2006, rLBR pb sb PC C mp ps j cj i c src ib eb ll TR xr lr o0 o1 loc B1 nd3 nd4 (fun k => decide (k < 8)) α 3006, rLBR pb sb PC C mp ps j cj i c src ib eb ll TR xr lr o0 o1 loc B1 nd3 nd4 (fun k => decide (k < 8)) α 4006] = _
        rw [e0, e1, e2, e3, e4, e5, e6, e7, e8, e9, e10, e11, e12, e13, e14, e15])
      clear hG e0 e1 e2 e3 e4 e5 e6 e7 e8 e9 e10 e11 e12 e13 e14 e15
      generalize hfr : Rega.frameAt _ _ _ _ _ = fr
      have hdf : fr = ⟨#[.pointer (some ⟨pb, 0, none⟩), .agg #[.int .i32 loc], .pointer (some ⟨eb, 0, none⟩), .pointer (some ⟨B1, 0, none⟩), .pointer (some ⟨B1 + 1, 0, none⟩), .pointer (some ⟨B1 + 1 + 1, 0, none⟩), .pointer (some ⟨B1 + 1 + 1 + 1, 0, none⟩), .pointer (some ⟨nd3, 0, none⟩), .pointer (some ⟨nd4, 0, none⟩), .pointer none, undef, undef, .tuple #[.agg #[.nilIface, .int .i32 0], .agg #[.int .i32 0], .pointer none], .pointer (some ⟨pb, 0, none⟩), .pointer (some ⟨eb, 0, none⟩), .pointer (some ⟨eb, 0, none⟩), .pointer (some ⟨eb, 0, none⟩), .agg #[.iface 55 (.pointer (some ⟨ib, 0, none⟩)), .int .i32 ll], .tuple #[.agg #[.nilIface, .int .i32 0], .agg #[.int .i32 0], .pointer none], .agg #[.nilIface, .int .i32 0], .agg #[.int .i32 0], .pointer none, .pointer none, .bool false, undef, undef, undef, undef, undef, undef, undef, undef, undef, undef, undef, undef, undef, undef, undef, undef, undef, undef, undef, undef, undef, undef, undef, undef, undef, undef, undef, undef, undef, .pointer (some ⟨pb, 0, none⟩), .pointer (some ⟨eb, 0, none⟩), .pointer (some ⟨eb, 0, none⟩), .pointer (some ⟨eb, 0, none⟩), .agg #[.iface 55 (.pointer (some ⟨ib, 0, none⟩)), .int .i32 ll], .func (Fn.func 48) #[] #[.pointer (some ⟨B1, 0, none⟩), .pointer (some ⟨B1 + 1, 0, none⟩), .pointer (some ⟨B1 + 1 + 1, 0, none⟩)], .agg #[.iface 41 (.pointer (some ⟨α 6, 0, none⟩)), .int .i32 ll]], []⟩ := by rw [← hfr]; kernel_rfl
      clear hfr
      subst hdf
      generalize α 6 = nd5 at hO ⊢
      generalize α 1006 = nd6 at hO ⊢
      generalize α 2006 = nd7 at hO ⊢
      generalize α 3006 = nd8 at hO ⊢
      generalize α 4006 = nd9 at hO ⊢
      clear α
      have c9_0_0 : u.cell? ⟨B1 + 1 + 1 + 1, 0, none⟩ = some (.iface 41 (.pointer (some ⟨nd5, 0, none⟩))) := hO.cell 0 rfl 0 rfl
      have c9_0_1 : u.cell? ⟨B1 + 1 + 1 + 1, 1, none⟩ = some (.int .i32 ll) := hO.cell 0 rfl 1 rfl
      have lt9_0 : B1 + 1 + 1 + 1 < u.heap.size := hO.lt 0 rfl
      have y9_0 : ∀ o, u.frozen? ⟨B1 + 1 + 1 + 1, o, none⟩ = false := hO.free 0 rfl
      have c9_1_0 : u.cell? ⟨B1 + 1 + 1, 0, none⟩ = some (.pointer (some ⟨eb, 0, none⟩)) := hO.cell 1 rfl 0 rfl
      have lt9_1 : B1 + 1 + 1 < u.heap.size := hO.lt 1 rfl
      have y9_1 : ∀ o, u.frozen? ⟨B1 + 1 + 1, o, none⟩ = false := hO.free 1 rfl
      have c9_2_0 : u.cell? ⟨B1 + 1, 0, none⟩ = some (.int .i32 loc) := hO.cell 2 rfl 0 rfl
      have lt9_2 : B1 + 1 < u.heap.size := hO.lt 2 rfl
      have y9_2 : ∀ o, u.frozen? ⟨B1 + 1, o, none⟩ = false := hO.free 2 rfl
      have c9_3_0 : u.cell? ⟨B1, 0, none⟩ = some (.pointer (some ⟨pb, 0, none⟩)) := hO.cell 3 rfl 0 rfl
      have lt9_3 : B1 < u.heap.size := hO.lt 3 rfl
      have y9_3 : ∀ o, u.frozen? ⟨B1, o, none⟩ = false := hO.free 3 rfl
      have c9_7_0 : u.cell? ⟨eb, 0, none⟩ = some (.iface 55 (.pointer (some ⟨ib, 0, none⟩))) := hO.cell 7 rfl 0 rfl
      have c9_7_1 : u.cell? ⟨eb, 1, none⟩ = some (.int .i32 ll) := hO.cell 7 rfl 1 rfl
      have c9_7_2 : u.cell? ⟨eb, 2, none⟩ = some (.iface TR (.pointer (some ⟨xr, 0, none⟩))) := hO.cell 7 rfl 2 rfl
      have c9_7_3 : u.cell? ⟨eb, 3, none⟩ = some (.int .i32 lr) := hO.cell 7 rfl 3 rfl
      have c9_7_4 : u.cell? ⟨eb, 4, none⟩ = some (.int .u8 o0) := hO.cell 7 rfl 4 rfl
      have c9_7_5 : u.cell? ⟨eb, 5, none⟩ = some (.bool o1) := hO.cell 7 rfl 5 rfl
      have lt9_7 : eb < u.heap.size := hO.lt 7 rfl
      have y9_7 : ∀ o, u.frozen? ⟨eb, o, none⟩ = false := hO.free 7 rfl
      have c9_8_0 : u.cell? ⟨ib, 0, none⟩ = some (.int .u32 src) := hO.cell 8 rfl 0 rfl
      have c9_8_1 : u.cell? ⟨ib, 1, none⟩ = some (.int .u32 (i : Int)) := hO.cell 8 rfl 1 rfl
      have c9_8_2 : u.cell? ⟨ib, 2, none⟩ = some (.bool false) := hO.cell 8 rfl 2 rfl
      have c9_8_3 : u.cell? ⟨ib, 3, none⟩ = some (.bool false) := hO.cell 8 rfl 3 rfl
      have c9_8_4 : u.cell? ⟨ib, 4, none⟩ = some (.bool false) := hO.cell 8 rfl 4 rfl
      have lt9_8 : ib < u.heap.size := hO.lt 8 rfl
      have y9_8 : ∀ o, u.frozen? ⟨ib, o, none⟩ = false := hO.free 8 rfl
      have c9_9_0 : u.cell? ⟨nd3, 0, none⟩ = some (.nilIface) := hO.cell 9 rfl 0 rfl
      have c9_9_1 : u.cell? ⟨nd3, 1, none⟩ = some (.int .i32 0) := hO.cell 9 rfl 1 rfl
      have lt9_9 : nd3 < u.heap.size := hO.lt 9 rfl
      have y9_9 : ∀ o, u.frozen? ⟨nd3, o, none⟩ = false := hO.free 9 rfl
      have c9_10_0 : u.cell? ⟨nd4, 0, none⟩ = some (.int .i32 0) := hO.cell 10 rfl 0 rfl
      have lt9_10 : nd4 < u.heap.size := hO.lt 10 rfl
      have y9_10 : ∀ o, u.frozen? ⟨nd4, o, none⟩ = false := hO.free 10 rfl
      have c9_11_0 : u.cell? ⟨nd5, 0, none⟩ = some (.iface 55 (.pointer (some ⟨nd9, 0, none⟩))) := hO.cell 11 rfl 0 rfl
      have c9_11_1 : u.cell? ⟨nd5, 1, none⟩ = some (.int .i32 ll) := hO.cell 11 rfl 1 rfl
      have c9_11_2 : u.cell? ⟨nd5, 2, none⟩ = some (.iface 72 (.pointer (some ⟨nd6, 0, none⟩))) := hO.cell 11 rfl 2 rfl
      have c9_11_3 : u.cell? ⟨nd5, 3, none⟩ = some (.int .i32 loc) := hO.cell 11 rfl 3 rfl
      have c9_11_4 : u.cell? ⟨nd5, 4, none⟩ = some (.int .u8 37) := hO.cell 11 rfl 4 rfl
      have c9_11_5 : u.cell? ⟨nd5, 5, none⟩ = some (.bool false) := hO.cell 11 rfl 5 rfl
      have lt9_11 : nd5 < u.heap.size := hO.lt 11 rfl
      have y9_11 : ∀ o, u.frozen? ⟨nd5, o, none⟩ = false := hO.free 11 rfl
      have c9_12_0 : u.cell? ⟨nd6, 0, none⟩ = some (.iface 55 (.pointer (some ⟨nd7, 0, none⟩))) := hO.cell 12 rfl 0 rfl
      have c9_12_1 : u.cell? ⟨nd6, 1, none⟩ = some (.int .i32 loc) := hO.cell 12 rfl 1 rfl
      have c9_12_2 : u.cell? ⟨nd6, 2, none⟩ = some (.slice (some ⟨nd8, 0, none⟩) 2 2) := hO.cell 12 rfl 2 rfl
      have c9_12_3 : u.cell? ⟨nd6, 3, none⟩ = some (.int .i32 0) := hO.cell 12 rfl 3 rfl
      have c9_12_4 : u.cell? ⟨nd6, 4, none⟩ = some (.int .u8 0) := hO.cell 12 rfl 4 rfl
      have c9_12_5 : u.cell? ⟨nd6, 5, none⟩ = some (.int .u8 0) := hO.cell 12 rfl 5 rfl
      have c9_12_6 : u.cell? ⟨nd6, 6, none⟩ = some (.bool false) := hO.cell 12 rfl 6 rfl
      have c9_12_7 : u.cell? ⟨nd6, 7, none⟩ = some (.bool false) := hO.cell 12 rfl 7 rfl
      have lt9_12 : nd6 < u.heap.size := hO.lt 12 rfl
      have y9_12 : ∀ o, u.frozen? ⟨nd6, o, none⟩ = false := hO.free 12 rfl
      have c9_13_0 : u.cell? ⟨nd7, 0, none⟩ = some (.int .u32 ps) := hO.cell 13 rfl 0 rfl
      have c9_13_1 : u.cell? ⟨nd7, 1, none⟩ = some (.int .u32 (j : Int)) := hO.cell 13 rfl 1 rfl
      have c9_13_2 : u.cell? ⟨nd7, 2, none⟩ = some (.bool false) := hO.cell 13 rfl 2 rfl
      have c9_13_3 : u.cell? ⟨nd7, 3, none⟩ = some (.bool false) := hO.cell 13 rfl 3 rfl
      have c9_13_4 : u.cell? ⟨nd7, 4, none⟩ = some (.bool false) := hO.cell 13 rfl 4 rfl
      have lt9_13 : nd7 < u.heap.size := hO.lt 13 rfl
      have y9_13 : ∀ o, u.frozen? ⟨nd7, o, none⟩ = false := hO.free 13 rfl
      have c9_14_0 : u.cell? ⟨nd8, 0, none⟩ = some (.iface 55 (.pointer (some ⟨ib, 0, none⟩))) := hO.cell 14 rfl 0 rfl
      have c9_14_1 : u.cell? ⟨nd8, 1, none⟩ = some (.int .i32 ll) := hO.cell 14 rfl 1 rfl
      have c9_14_2 : u.cell? ⟨nd8, 2, none⟩ = some (.iface TR (.pointer (some ⟨xr, 0, none⟩))) := hO.cell 14 rfl 2 rfl
      have c9_14_3 : u.cell? ⟨nd8, 3, none⟩ = some (.int .i32 lr) := hO.cell 14 rfl 3 rfl
      have lt9_14 : nd8 < u.heap.size := hO.lt 14 rfl
      have y9_14 : ∀ o, u.frozen? ⟨nd8, o, none⟩ = false := hO.free 14 rfl
      have c9_15_0 : u.cell? ⟨nd9, 0, none⟩ = some (.int .u32 src) := hO.cell 15 rfl 0 rfl
      have c9_15_1 : u.cell? ⟨nd9, 1, none⟩ = some (.int .u32 (i : Int)) := hO.cell 15 rfl 1 rfl
      have c9_15_2 : u.cell? ⟨nd9, 2, none⟩ = some (.bool false) := hO.cell 15 rfl 2 rfl
      have c9_15_3 : u.cell? ⟨nd9, 3, none⟩ = some (.bool false) := hO.cell 15 rfl 3 rfl
      have c9_15_4 : u.cell? ⟨nd9, 4, none⟩ = some (.bool false) := hO.cell 15 rfl 4 rfl
      have lt9_15 : nd9 < u.heap.size := hO.lt 15 rfl
      have y9_15 : ∀ o, u.frozen? ⟨nd9, o, none⟩ = false := hO.free 15 rfl
      have HO := Lib.hid hO
      clear hO
      go_wp2_with fail
      have hO := HO.out
      clear HO c9_0_0 c9_0_1 lt9_0 y9_0 c9_1_0 lt9_1 y9_1 c9_2_0 lt9_2 y9_2 c9_3_0 lt9_3 y9_3 c9_7_0 c9_7_1 c9_7_2 c9_7_3 c9_7_4 c9_7_5 lt9_7 y9_7 c9_8_0 c9_8_1 c9_8_2 c9_8_3 c9_8_4 lt9_8 y9_8 c9_9_0 c9_9_1 lt9_9 y9_9 c9_10_0 lt9_10 y9_10 c9_11_0 c9_11_1 c9_11_2 c9_11_3 c9_11_4 c9_11_5 lt9_11 y9_11 c9_12_0 c9_12_1 c9_12_2 c9_12_3 c9_12_4 c9_12_5 c9_12_6 c9_12_7 lt9_12 y9_12 c9_13_0 c9_13_1 c9_13_2 c9_13_3 c9_13_4 lt9_13 y9_13 c9_14_0 c9_14_1 c9_14_2 c9_14_3 lt9_14 y9_14 c9_15_0 c9_15_1 c9_15_2 c9_15_3 c9_15_4 lt9_15 y9_15
      have z9_0_0 : u.cell? ⟨B1 + 1 + 1 + 1, 0, none⟩ = some (.iface 41 (.pointer (some ⟨nd5, 0, none⟩))) := hO.cell 0 rfl 0 rfl
      have z9_0_1 : u.cell? ⟨B1 + 1 + 1 + 1, 1, none⟩ = some (.int .i32 ll) := hO.cell 0 rfl 1 rfl
      refine bodyPost_ret (v := .agg #[.iface 41 (.pointer (some ⟨nd5, 0, none⟩)), .int .i32 ll]) ?_ rfl ⟨nd5, nd6, nd7, nd8, nd9, rfl, hO.sub [4, 5, 6, 7, 8, 11, 12, 13, 14, 15] (by decide)⟩
      simp [results, Tryd.results37, go_sem, z9_0_0, z9_0_1]
def low28Post (pb sb n cap : Nat) (PC C : Array Value) (mp : Nat) (ps : Int) (j cj i c : Nat) (src : Int) (ib eb : Nat) (ll : Int) (TR xr : Nat) (lr o0 : Int) (o1 : Bool) (loc : Int) (w0 : World) (X : Nat → Obj → Prop) (e : Ending) (w' : World) : Prop :=
  ∃ ab : Nat, ∃ ca : Nat, ∃ b : Nat, ∃ sx : Nat, ∃ b1 : Nat, e = .returned (.agg #[.iface 41 (.pointer (some ⟨ab, 0, none⟩)), .int .i32 ll]) ∧ Own w0 w' [row (pb) 207 PC, row (sb) 223 (bumped (bumped C i c) j cj), (mp, .map #[⟨.string ⟨#[95, 95, 112, 111, 119]⟩, .agg #[.int .i32 0, .int .u32 ps, .int .u32 (j : Int)], 0⟩] 1), row (eb) 47 #[.iface 55 (.pointer (some ⟨ib, 0, none⟩)), .int .i32 ll, .iface TR (.pointer (some ⟨xr, 0, none⟩)), .int .i32 lr, .int .u8 o0, .bool o1], row (ib) 214 #[.int .u32 src, .int .u32 (i : Int), .bool false, .bool false, .bool false], row (ab) 47 #[.iface 55 (.pointer (some ⟨b1, 0, none⟩)), .int .i32 ll, .iface 72 (.pointer (some ⟨ca, 0, none⟩)), .int .i32 loc, .int .u8 37, .bool false], row (ca) 77 #[.iface 55 (.pointer (some ⟨b, 0, none⟩)), .int .i32 loc, .slice (some ⟨sx, 0, none⟩) 2 2, .int .i32 0, .int .u8 0, .int .u8 0, .bool false, .bool false], row (b) 214 #[.int .u32 ps, .int .u32 (j : Int), .bool false, .bool false, .bool false], row (sx) 34 #[.iface 55 (.pointer (some ⟨ib, 0, none⟩)), .int .i32 ll, .iface TR (.pointer (some ⟨xr, 0, none⟩)), .int .i32 lr], row (b1) 214 #[.int .u32 src, .int .u32 (i : Int), .bool false, .bool false, .bool false]] X
set_option maxRecDepth 100000 in
set_option maxHeartbeats 1000000 in
theorem low28 (pb sb n cap : Nat) (PC C : Array Value) (mp : Nat) (ps : Int) (j cj i c : Nat) (src : Int) (ib eb : Nat) (ll : Int) (TR xr : Nat) (lr o0 : Int) (o1 : Bool) (loc : Int) (w0 w : World) (X : Nat → Obj → Prop) (hO : Own w0 w [row (pb) 207 PC, row (sb) 223 C, (mp, .map #[⟨.string ⟨#[95, 95, 112, 111, 119]⟩, .agg #[.int .i32 0, .int .u32 ps, .int .u32 (j : Int)], 0⟩] 1), row (eb) 47 #[.iface 55 (.pointer (some ⟨ib, 0, none⟩)), .int .i32 ll, .iface TR (.pointer (some ⟨xr, 0, none⟩)), .int .i32 lr, .int .u8 o0, .bool o1], row (ib) 214 #[.int .u32 src, .int .u32 (i : Int), .bool false, .bool false, .bool false]] X) (hR : Ready PC sb n cap) (hn : n ≤ 4294967295) (hi : i < n) (hc : C[i * 10 + 4]? = some (.int .u32 (c : Int))) (hcm : c < 4294967295) (hj : j < n) (hcj : (bumped C i c)[j * 10 + 4]? = some (.int .u32 (cj : Int))) (hcjm : cj < 4294967295) (hm : PC[117]? = some (.map (some mp))) :
    Calls Tryd.prog 28 #[.pointer (some ⟨pb, 0, none⟩), .agg #[.int .i32 loc], .pointer (some ⟨eb, 0, none⟩)] w (low28Post pb sb n cap PC C mp ps j cj i c src ib eb ll TR xr lr o0 o1 loc w0 X) := by
  go_enter Tryd.func28, Tryd.ntmps28
  have c9_3_0 : w.cell? ⟨eb, 0, none⟩ = some (.iface 55 (.pointer (some ⟨ib, 0, none⟩))) := hO.cell 3 rfl 0 rfl
  have c9_3_1 : w.cell? ⟨eb, 1, none⟩ = some (.int .i32 ll) := hO.cell 3 rfl 1 rfl
  have c9_3_2 : w.cell? ⟨eb, 2, none⟩ = some (.iface TR (.pointer (some ⟨xr, 0, none⟩))) := hO.cell 3 rfl 2 rfl
  have c9_3_3 : w.cell? ⟨eb, 3, none⟩ = some (.int .i32 lr) := hO.cell 3 rfl 3 rfl
  have c9_3_4 : w.cell? ⟨eb, 4, none⟩ = some (.int .u8 o0) := hO.cell 3 rfl 4 rfl
  have c9_3_5 : w.cell? ⟨eb, 5, none⟩ = some (.bool o1) := hO.cell 3 rfl 5 rfl
  have lt9_3 : eb < w.heap.size := hO.lt 3 rfl
  have y9_3 : ∀ o, w.frozen? ⟨eb, o, none⟩ = false := hO.free 3 rfl
  have c9_4_0 : w.cell? ⟨ib, 0, none⟩ = some (.int .u32 src) := hO.cell 4 rfl 0 rfl
  have c9_4_1 : w.cell? ⟨ib, 1, none⟩ = some (.int .u32 (i : Int)) := hO.cell 4 rfl 1 rfl
  have c9_4_2 : w.cell? ⟨ib, 2, none⟩ = some (.bool false) := hO.cell 4 rfl 2 rfl
  have c9_4_3 : w.cell? ⟨ib, 3, none⟩ = some (.bool false) := hO.cell 4 rfl 3 rfl
  have c9_4_4 : w.cell? ⟨ib, 4, none⟩ = some (.bool false) := hO.cell 4 rfl 4 rfl
  have lt9_4 : ib < w.heap.size := hO.lt 4 rfl
  have y9_4 : ∀ o, w.frozen? ⟨ib, o, none⟩ = false := hO.free 4 rfl
  have HO := Lib.hid hO
  clear hO
  go_wp2_with fail
  have hO := HO.out
  clear HO c9_3_0 c9_3_1 c9_3_2 c9_3_3 c9_3_4 c9_3_5 lt9_3 y9_3 c9_4_0 c9_4_1 c9_4_2 c9_4_3 c9_4_4 lt9_4 y9_4
  generalize hW : World.alloc _ _ = W2
  have hN : Own w0 W2 [row (w.heap.size + 1) 34 #[.nilIface, .int .i32 0], row (w.heap.size) 32 #[.int .i32 loc], row (pb) 207 PC, row (sb) 223 C, (mp, .map #[⟨.string ⟨#[95, 95, 112, 111, 119]⟩, .agg #[.int .i32 0, .int .u32 ps, .int .u32 (j : Int)], 0⟩] 1), row (eb) 47 #[.iface 55 (.pointer (some ⟨ib, 0, none⟩)), .int .i32 ll, .iface TR (.pointer (some ⟨xr, 0, none⟩)), .int .i32 lr, .int .u8 o0, .bool o1], row (ib) 214 #[.int .u32 src, .int .u32 (i : Int), .bool false, .bool false, .bool false]] X := by
    rw [← hW]
    exact ((hO).alloc' _ (w.heap.size) (by simp)).alloc' _ (w.heap.size + 1) (by simp)
  clear hW hO
  obtain ⟨B1, hB⟩ : ∃ n, n = w.heap.size := ⟨_, rfl⟩
  rw [← hB] at hN
  try rw [← hB]
  clear hB
  have hO := hN
  clear hN
  have hL := hO.apart
  have hX := hO.apartX
  have HL := Lib.hid hL
  have HX := Lib.hid hX
  clear hL hX
  refine Calls.mono (low37 pb sb n cap PC C mp ps j cj i c src ib eb ll TR xr lr o0 o1 loc _ _ _ (hO.pick [2, 3, 4, 5, 6] (by decide)) hR hn hi hc hcm hj hcj hcjm hm) ?_
  rintro e u3 ⟨nd4, nd5, nd6, nd7, nd8, rfl, hQ⟩
  have hN : Own w0 u3 [row (pb) 207 PC, row (sb) 223 (bumped (bumped C i c) j cj), (mp, .map #[⟨.string ⟨#[95, 95, 112, 111, 119]⟩, .agg #[.int .i32 0, .int .u32 ps, .int .u32 (j : Int)], 0⟩] 1), row (eb) 47 #[.iface 55 (.pointer (some ⟨ib, 0, none⟩)), .int .i32 ll, .iface TR (.pointer (some ⟨xr, 0, none⟩)), .int .i32 lr, .int .u8 o0, .bool o1], row (ib) 214 #[.int .u32 src, .int .u32 (i : Int), .bool false, .bool false, .bool false], row (nd4) 47 #[.iface 55 (.pointer (some ⟨nd8, 0, none⟩)), .int .i32 ll, .iface 72 (.pointer (some ⟨nd5, 0, none⟩)), .int .i32 loc, .int .u8 37, .bool false], row (nd5) 77 #[.iface 55 (.pointer (some ⟨nd6, 0, none⟩)), .int .i32 loc, .slice (some ⟨nd7, 0, none⟩) 2 2, .int .i32 0, .int .u8 0, .int .u8 0, .bool false, .bool false], row (nd6) 214 #[.int .u32 ps, .int .u32 (j : Int), .bool false, .bool false, .bool false], row (nd7) 34 #[.iface 55 (.pointer (some ⟨ib, 0, none⟩)), .int .i32 ll, .iface TR (.pointer (some ⟨xr, 0, none⟩)), .int .i32 lr], row (nd8) 214 #[.int .u32 src, .int .u32 (i : Int), .bool false, .bool false, .bool false], row (B1 + 1) 34 #[.nilIface, .int .i32 0], row (B1) 32 #[.int .i32 loc]] X := hQ.back HL.out HX.out [0, 1] (by decide) (by decide)
  clear hQ HL HX hO
  have hO := hN
  clear hN
  have c9_3_0 : u3.cell? ⟨eb, 0, none⟩ = some (.iface 55 (.pointer (some ⟨ib, 0, none⟩))) := hO.cell 3 rfl 0 rfl
  have c9_3_1 : u3.cell? ⟨eb, 1, none⟩ = some (.int .i32 ll) := hO.cell 3 rfl 1 rfl
  have c9_3_2 : u3.cell? ⟨eb, 2, none⟩ = some (.iface TR (.pointer (some ⟨xr, 0, none⟩))) := hO.cell 3 rfl 2 rfl
  have c9_3_3 : u3.cell? ⟨eb, 3, none⟩ = some (.int .i32 lr) := hO.cell 3 rfl 3 rfl
  have c9_3_4 : u3.cell? ⟨eb, 4, none⟩ = some (.int .u8 o0) := hO.cell 3 rfl 4 rfl
  have c9_3_5 : u3.cell? ⟨eb, 5, none⟩ = some (.bool o1) := hO.cell 3 rfl 5 rfl
  have lt9_3 : eb < u3.heap.size := hO.lt 3 rfl
  have y9_3 : ∀ o, u3.frozen? ⟨eb, o, none⟩ = false := hO.free 3 rfl
  have c9_4_0 : u3.cell? ⟨ib, 0, none⟩ = some (.int .u32 src) := hO.cell 4 rfl 0 rfl
  have c9_4_1 : u3.cell? ⟨ib, 1, none⟩ = some (.int .u32 (i : Int)) := hO.cell 4 rfl 1 rfl
  have c9_4_2 : u3.cell? ⟨ib, 2, none⟩ = some (.bool false) := hO.cell 4 rfl 2 rfl
  have c9_4_3 : u3.cell? ⟨ib, 3, none⟩ = some (.bool false) := hO.cell 4 rfl 3 rfl
  have c9_4_4 : u3.cell? ⟨ib, 4, none⟩ = some (.bool false) := hO.cell 4 rfl 4 rfl
  have lt9_4 : ib < u3.heap.size := hO.lt 4 rfl
  have y9_4 : ∀ o, u3.frozen? ⟨ib, o, none⟩ = false := hO.free 4 rfl
  have c9_5_0 : u3.cell? ⟨nd4, 0, none⟩ = some (.iface 55 (.pointer (some ⟨nd8, 0, none⟩))) := hO.cell 5 rfl 0 rfl
  have c9_5_1 : u3.cell? ⟨nd4, 1, none⟩ = some (.int .i32 ll) := hO.cell 5 rfl 1 rfl
  have c9_5_2 : u3.cell? ⟨nd4, 2, none⟩ = some (.iface 72 (.pointer (some ⟨nd5, 0, none⟩))) := hO.cell 5 rfl 2 rfl
  have c9_5_3 : u3.cell? ⟨nd4, 3, none⟩ = some (.int .i32 loc) := hO.cell 5 rfl 3 rfl
  have c9_5_4 : u3.cell? ⟨nd4, 4, none⟩ = some (.int .u8 37) := hO.cell 5 rfl 4 rfl
  have c9_5_5 : u3.cell? ⟨nd4, 5, none⟩ = some (.bool false) := hO.cell 5 rfl 5 rfl
  have lt9_5 : nd4 < u3.heap.size := hO.lt 5 rfl
  have y9_5 : ∀ o, u3.frozen? ⟨nd4, o, none⟩ = false := hO.free 5 rfl
  have c9_6_0 : u3.cell? ⟨nd5, 0, none⟩ = some (.iface 55 (.pointer (some ⟨nd6, 0, none⟩))) := hO.cell 6 rfl 0 rfl
  have c9_6_1 : u3.cell? ⟨nd5, 1, none⟩ = some (.int .i32 loc) := hO.cell 6 rfl 1 rfl
  have c9_6_2 : u3.cell? ⟨nd5, 2, none⟩ = some (.slice (some ⟨nd7, 0, none⟩) 2 2) := hO.cell 6 rfl 2 rfl
  have c9_6_3 : u3.cell? ⟨nd5, 3, none⟩ = some (.int .i32 0) := hO.cell 6 rfl 3 rfl
  have c9_6_4 : u3.cell? ⟨nd5, 4, none⟩ = some (.int .u8 0) := hO.cell 6 rfl 4 rfl
  have c9_6_5 : u3.cell? ⟨nd5, 5, none⟩ = some (.int .u8 0) := hO.cell 6 rfl 5 rfl
  have c9_6_6 : u3.cell? ⟨nd5, 6, none⟩ = some (.bool false) := hO.cell 6 rfl 6 rfl
  have c9_6_7 : u3.cell? ⟨nd5, 7, none⟩ = some (.bool false) := hO.cell 6 rfl 7 rfl
  have lt9_6 : nd5 < u3.heap.size := hO.lt 6 rfl
  have y9_6 : ∀ o, u3.frozen? ⟨nd5, o, none⟩ = false := hO.free 6 rfl
  have c9_7_0 : u3.cell? ⟨nd6, 0, none⟩ = some (.int .u32 ps) := hO.cell 7 rfl 0 rfl
  have c9_7_1 : u3.cell? ⟨nd6, 1, none⟩ = some (.int .u32 (j : Int)) := hO.cell 7 rfl 1 rfl
  have c9_7_2 : u3.cell? ⟨nd6, 2, none⟩ = some (.bool false) := hO.cell 7 rfl 2 rfl
  have c9_7_3 : u3.cell? ⟨nd6, 3, none⟩ = some (.bool false) := hO.cell 7 rfl 3 rfl
  have c9_7_4 : u3.cell? ⟨nd6, 4, none⟩ = some (.bool false) := hO.cell 7 rfl 4 rfl
  have lt9_7 : nd6 < u3.heap.size := hO.lt 7 rfl
  have y9_7 : ∀ o, u3.frozen? ⟨nd6, o, none⟩ = false := hO.free 7 rfl
  have c9_8_0 : u3.cell? ⟨nd7, 0, none⟩ = some (.iface 55 (.pointer (some ⟨ib, 0, none⟩))) := hO.cell 8 rfl 0 rfl
  have c9_8_1 : u3.cell? ⟨nd7, 1, none⟩ = some (.int .i32 ll) := hO.cell 8 rfl 1 rfl
  have c9_8_2 : u3.cell? ⟨nd7, 2, none⟩ = some (.iface TR (.pointer (some ⟨xr, 0, none⟩))) := hO.cell 8 rfl 2 rfl
  have c9_8_3 : u3.cell? ⟨nd7, 3, none⟩ = some (.int .i32 lr) := hO.cell 8 rfl 3 rfl
  have lt9_8 : nd7 < u3.heap.size := hO.lt 8 rfl
  have y9_8 : ∀ o, u3.frozen? ⟨nd7, o, none⟩ = false := hO.free 8 rfl
  have c9_9_0 : u3.cell? ⟨nd8, 0, none⟩ = some (.int .u32 src) := hO.cell 9 rfl 0 rfl
  have c9_9_1 : u3.cell? ⟨nd8, 1, none⟩ = some (.int .u32 (i : Int)) := hO.cell 9 rfl 1 rfl
  have c9_9_2 : u3.cell? ⟨nd8, 2, none⟩ = some (.bool false) := hO.cell 9 rfl 2 rfl
  have c9_9_3 : u3.cell? ⟨nd8, 3, none⟩ = some (.bool false) := hO.cell 9 rfl 3 rfl
  have c9_9_4 : u3.cell? ⟨nd8, 4, none⟩ = some (.bool false) := hO.cell 9 rfl 4 rfl
  have lt9_9 : nd8 < u3.heap.size := hO.lt 9 rfl
  have y9_9 : ∀ o, u3.frozen? ⟨nd8, o, none⟩ = false := hO.free 9 rfl
  have c9_10_0 : u3.cell? ⟨B1 + 1, 0, none⟩ = some (.nilIface) := hO.cell 10 rfl 0 rfl
  have c9_10_1 : u3.cell? ⟨B1 + 1, 1, none⟩ = some (.int .i32 0) := hO.cell 10 rfl 1 rfl
  have lt9_10 : B1 + 1 < u3.heap.size := hO.lt 10 rfl
  have y9_10 : ∀ o, u3.frozen? ⟨B1 + 1, o, none⟩ = false := hO.free 10 rfl
  have c9_11_0 : u3.cell? ⟨B1, 0, none⟩ = some (.int .i32 loc) := hO.cell 11 rfl 0 rfl
  have lt9_11 : B1 < u3.heap.size := hO.lt 11 rfl
  have y9_11 : ∀ o, u3.frozen? ⟨B1, o, none⟩ = false := hO.free 11 rfl
  have HO := Lib.hid hO
  clear hO
  go_wp2_with fail
  have hO := HO.out
  clear HO c9_3_0 c9_3_1 c9_3_2 c9_3_3 c9_3_4 c9_3_5 lt9_3 y9_3 c9_4_0 c9_4_1 c9_4_2 c9_4_3 c9_4_4 lt9_4 y9_4 c9_5_0 c9_5_1 c9_5_2 c9_5_3 c9_5_4 c9_5_5 lt9_5 y9_5 c9_6_0 c9_6_1 c9_6_2 c9_6_3 c9_6_4 c9_6_5 c9_6_6 c9_6_7 lt9_6 y9_6 c9_7_0 c9_7_1 c9_7_2 c9_7_3 c9_7_4 lt9_7 y9_7 c9_8_0 c9_8_1 c9_8_2 c9_8_3 lt9_8 y9_8 c9_9_0 c9_9_1 c9_9_2 c9_9_3 c9_9_4 lt9_9 y9_9 c9_10_0 c9_10_1 lt9_10 y9_10 c9_11_0 lt9_11 y9_11
  generalize hW : World.setCell _ _ _ = W10
  have hN : Own w0 W10 [row (pb) 207 PC, row (sb) 223 (bumped (bumped C i c) j cj), (mp, .map #[⟨.string ⟨#[95, 95, 112, 111, 119]⟩, .agg #[.int .i32 0, .int .u32 ps, .int .u32 (j : Int)], 0⟩] 1), row (eb) 47 #[.iface 55 (.pointer (some ⟨ib, 0, none⟩)), .int .i32 ll, .iface TR (.pointer (some ⟨xr, 0, none⟩)), .int .i32 lr, .int .u8 o0, .bool o1], row (ib) 214 #[.int .u32 src, .int .u32 (i : Int), .bool false, .bool false, .bool false], row (nd4) 47 #[.iface 55 (.pointer (some ⟨nd8, 0, none⟩)), .int .i32 ll, .iface 72 (.pointer (some ⟨nd5, 0, none⟩)), .int .i32 loc, .int .u8 37, .bool false], row (nd5) 77 #[.iface 55 (.pointer (some ⟨nd6, 0, none⟩)), .int .i32 loc, .slice (some ⟨nd7, 0, none⟩) 2 2, .int .i32 0, .int .u8 0, .int .u8 0, .bool false, .bool false], row (nd6) 214 #[.int .u32 ps, .int .u32 (j : Int), .bool false, .bool false, .bool false], row (nd7) 34 #[.iface 55 (.pointer (some ⟨ib, 0, none⟩)), .int .i32 ll, .iface TR (.pointer (some ⟨xr, 0, none⟩)), .int .i32 lr], row (nd8) 214 #[.int .u32 src, .int .u32 (i : Int), .bool false, .bool false, .bool false], row (B1 + 1) 34 #[.iface 41 (.pointer (some ⟨nd4, 0, none⟩)), .int .i32 ll], row (B1) 32 #[.int .i32 loc]] X := by
    rw [← hW]
    exact ((hO).set 10 rfl 0 _).set 10 rfl 1 _
  clear hW hO
  have hO := hN
  clear hN
  have z9_10_0 : W10.cell? ⟨B1 + 1, 0, none⟩ = some (.iface 41 (.pointer (some ⟨nd4, 0, none⟩))) := hO.cell 10 rfl 0 rfl
  have z9_10_1 : W10.cell? ⟨B1 + 1, 1, none⟩ = some (.int .i32 ll) := hO.cell 10 rfl 1 rfl
  refine bodyPost_ret (v := .agg #[.iface 41 (.pointer (some ⟨nd4, 0, none⟩)), .int .i32 ll]) ?_ rfl ⟨nd4, nd5, nd6, nd7, nd8, rfl, hO.sub [0, 1, 2, 3, 4, 5, 6, 7, 8, 9] (by decide)⟩
  simp [results, Tryd.results28, go_sem, z9_10_0, z9_10_1]
end Go.Proofs.YtlgefnjkoklboaaDoor.Use
