/- The callback of the lowering of an exponent's assignment, walked. No condition. -/
import Derived.Test.YtlgefnjkoklboaaDoorOwn
import Derived.Test.YtlgefnjkoklboaaDoorDeepCells
import Derived.Test.YtlgefnjkoklboaaDoorRows
import Derived.Test.YtlgefnjkoklboaaDoorUse
import Derived.Test.YtlgefnjkoklboaaDoorPow
import Derived.Test.YtlgefnjkoklboaaDoorNoPriv
namespace Go.Proofs.YtlgefnjkoklboaaDoor.Use
open Go.ChangeShapes Go.WideShapes Go.ChangeAt Go.RowKit Go.Sort Own
set_option linter.unusedVariables false
def assignOPost (T1 x1 : Nat) (l1 : Int) (T2 x2 : Nat) (l2 : Int) (w0 : World) (X : Nat → Obj → Prop) (e : Ending) (w' : World) : Prop :=
  ∃ ab : Nat, e = .returned (.agg #[.iface 41 (.pointer (some ⟨ab, 0, none⟩)), .int .i32 l1]) ∧ Own w0 w' [row (ab) 47 #[.iface T1 (.pointer (some ⟨x1, 0, none⟩)), .int .i32 l1, .iface T2 (.pointer (some ⟨x2, 0, none⟩)), .int .i32 l2, .int .u8 37, .bool false]] X
set_option maxRecDepth 100000 in
set_option maxHeartbeats 1000000 in
theorem assignO (T1 x1 : Nat) (l1 : Int) (T2 x2 : Nat) (l2 : Int) (w0 w : World) (X : Nat → Obj → Prop) (hO : Own w0 w [] X)  :
    Calls Tryd.prog 46 #[.agg #[.iface T1 (.pointer (some ⟨x1, 0, none⟩)), .int .i32 l1], .agg #[.iface T2 (.pointer (some ⟨x2, 0, none⟩)), .int .i32 l2]] w (assignOPost T1 x1 l1 T2 x2 l2 w0 X) := by
  go_enter Tryd.func46, Tryd.ntmps46
  go_wp2_with fail
  generalize hW : World.alloc _ _ = W2
  have hN : Own w0 W2 [row (w.heap.size + 1 + 1 + 1) 47 #[.iface T1 (.pointer (some ⟨x1, 0, none⟩)), .int .i32 l1, .iface T2 (.pointer (some ⟨x2, 0, none⟩)), .int .i32 l2, .int .u8 37, .bool false], row (w.heap.size + 1 + 1) 34 #[.iface 41 (.pointer (some ⟨w.heap.size + 1 + 1 + 1, 0, none⟩)), .int .i32 l1], row (w.heap.size + 1) 34 #[.iface T2 (.pointer (some ⟨x2, 0, none⟩)), .int .i32 l2], row (w.heap.size) 34 #[.iface T1 (.pointer (some ⟨x1, 0, none⟩)), .int .i32 l1]] X := by
    rw [← hW]
    exact ((((hO).alloc' _ (w.heap.size) (by simp)).alloc' _ (w.heap.size + 1) (by simp)).alloc' _ (w.heap.size + 1 + 1) (by simp)).alloc' _ (w.heap.size + 1 + 1 + 1) (by simp)
  clear hW hO
  obtain ⟨B1, hB⟩ : ∃ n, n = w.heap.size := ⟨_, rfl⟩
  rw [← hB] at hN
  try rw [← hB]
  clear hB
  have hO := hN
  clear hN
  have z9_1_0 : W2.cell? ⟨B1 + 1 + 1, 0, none⟩ = some (.iface 41 (.pointer (some ⟨B1 + 1 + 1 + 1, 0, none⟩))) := hO.cell 1 rfl 0 rfl
  have z9_1_1 : W2.cell? ⟨B1 + 1 + 1, 1, none⟩ = some (.int .i32 l1) := hO.cell 1 rfl 1 rfl
  refine bodyPost_ret (v := .agg #[.iface 41 (.pointer (some ⟨B1 + 1 + 1 + 1, 0, none⟩)), .int .i32 l1]) ?_ rfl ⟨B1 + 1 + 1 + 1, rfl, hO.sub [0] (by decide)⟩
  simp [results, Tryd.results46, go_sem, z9_1_0, z9_1_1]
def rPFE (pb : Nat) (sb : Nat) (PC : Array Value) (C : Array Value) (mp : Nat) (ps : Int) (j : Nat) (cj : Nat) (bp : Nat) (bl : Nat) (be : Nat) (eb : Nat) (TL : Nat) (xl : Nat) (ll : Int) (TR : Nat) (xr : Nat) (lr : Int) (o0 : Int) (o1 : Bool) (loc : Int) (T1 : Nat) (x1 : Nat) (l1 : Int) (T2 : Nat) (x2 : Nat) (l2 : Int) (B1 : Nat) : Nat → Rega.Atoms → Value
  | 0, α => .agg #[.iface T1 (.pointer (some ⟨x1, 0, none⟩)), .int .i32 l1]
  | 1, α => .pointer (some ⟨pb, 0, none⟩)
  | 2, α => .agg #[.int .i32 loc]
  | 3, α => .agg #[.iface T2 (.pointer (some ⟨x2, 0, none⟩)), .int .i32 l2]
  | 4, α => .pointer (some ⟨eb, 0, none⟩)
  | 5, α => .pointer (some ⟨eb, 0, none⟩)
  | 6, α => .pointer (some ⟨eb, 2, none⟩)
  | 7, α => .agg #[.iface TR (.pointer (some ⟨xr, 0, none⟩)), .int .i32 lr]
  | 8, α => .slice (some ⟨α 8, 0, none⟩) 2 2
  | 9, α => .agg #[.iface 72 (.pointer (some ⟨α 9, 0, none⟩)), .int .i32 loc]
  | 10, α => .agg #[.iface 41 (.pointer (some ⟨α 10, 0, none⟩)), .int .i32 l1]
  | 11, α => undef
  | _, _ => undef
def rPFAnc : Nat → List Nat
  | 5 => [4]
  | 6 => [4, 5]
  | 7 => [4, 5, 6]
  | 8 => [3, 4, 5, 6, 7]
  | 9 => [1, 2, 3, 4, 5, 6, 7, 8]
  | 10 => [0, 1, 2, 3, 4, 5, 6, 7, 8, 9]
  | 11 => [0, 1, 2, 3, 4, 5, 6, 7, 8, 9, 10]
  | _ => []
def rPFTrn : Nat → List Nat
  | 9 => [4999]
  | 11 => [999]
  | _ => []
def rPFCnt : List (Nat × Nat) := [(8, 1), (9, 2), (10, 1)]
def rPFT999 (pb : Nat) (sb : Nat) (PC : Array Value) (C : Array Value) (mp : Nat) (ps : Int) (j : Nat) (cj : Nat) (bp : Nat) (bl : Nat) (be : Nat) (eb : Nat) (TL : Nat) (xl : Nat) (ll : Int) (TR : Nat) (xr : Nat) (lr : Int) (o0 : Int) (o1 : Bool) (loc : Int) (T1 : Nat) (x1 : Nat) (l1 : Int) (T2 : Nat) (x2 : Nat) (l2 : Int) (B1 : Nat) (L9 : Nat → Bool) (α : Rega.Atoms) : Rw := if L9 11 = true then row (B1 + 1 + 1) 34 #[.iface 41 (.pointer (some ⟨α 10, 0, none⟩)), .int .i32 l1] else row (B1 + 1 + 1) 34 #[.nilIface, .int .i32 0]
def rPFT4999 (pb : Nat) (sb : Nat) (PC : Array Value) (C : Array Value) (mp : Nat) (ps : Int) (j : Nat) (cj : Nat) (bp : Nat) (bl : Nat) (be : Nat) (eb : Nat) (TL : Nat) (xl : Nat) (ll : Int) (TR : Nat) (xr : Nat) (lr : Int) (o0 : Int) (o1 : Bool) (loc : Int) (T1 : Nat) (x1 : Nat) (l1 : Int) (T2 : Nat) (x2 : Nat) (l2 : Int) (B1 : Nat) (L9 : Nat → Bool) (α : Rega.Atoms) : Rw := if L9 9 = true then row (sb) 223 (bumped C j cj) else row (sb) 223 C
def rPFR (pb : Nat) (sb : Nat) (PC : Array Value) (C : Array Value) (mp : Nat) (ps : Int) (j : Nat) (cj : Nat) (bp : Nat) (bl : Nat) (be : Nat) (eb : Nat) (TL : Nat) (xl : Nat) (ll : Int) (TR : Nat) (xr : Nat) (lr : Int) (o0 : Int) (o1 : Bool) (loc : Int) (T1 : Nat) (x1 : Nat) (l1 : Int) (T2 : Nat) (x2 : Nat) (l2 : Int) (B1 : Nat) (L9 : Nat → Bool) (α : Rega.Atoms) (ix9 : Nat) : Rw := if ix9 = 999 then rPFT999 pb sb PC C mp ps j cj bp bl be eb TL xl ll TR xr lr o0 o1 loc T1 x1 l1 T2 x2 l2 B1 L9 α else if ix9 = 1999 then row (B1 + 1) 34 #[.iface T2 (.pointer (some ⟨x2, 0, none⟩)), .int .i32 l2] else if ix9 = 2999 then row (B1) 34 #[.iface T1 (.pointer (some ⟨x1, 0, none⟩)), .int .i32 l1] else if ix9 = 3999 then row (pb) 207 PC else if ix9 = 4999 then rPFT4999 pb sb PC C mp ps j cj bp bl be eb TL xl ll TR xr lr o0 o1 loc T1 x1 l1 T2 x2 l2 B1 L9 α else if ix9 = 5999 then (mp, .map #[⟨.string ⟨#[95, 95, 112, 111, 119]⟩, .agg #[.int .i32 0, .int .u32 ps, .int .u32 (j : Int)], 0⟩] 1) else if ix9 = 6999 then row (bp) 23 #[.pointer (some ⟨pb, 0, none⟩)] else if ix9 = 7999 then row (bl) 32 #[.int .i32 loc] else if ix9 = 8999 then row (be) 41 #[.pointer (some ⟨eb, 0, none⟩)] else if ix9 = 9999 then row (eb) 47 #[.iface TL (.pointer (some ⟨xl, 0, none⟩)), .int .i32 ll, .iface TR (.pointer (some ⟨xr, 0, none⟩)), .int .i32 lr, .int .u8 o0, .bool o1] else if ix9 = 8 then row (α 8) 34 #[.iface T2 (.pointer (some ⟨x2, 0, none⟩)), .int .i32 l2, .iface TR (.pointer (some ⟨xr, 0, none⟩)), .int .i32 lr] else if ix9 = 9 then row (α 9) 77 #[.iface 55 (.pointer (some ⟨α 1009, 0, none⟩)), .int .i32 loc, .slice (some ⟨α 8, 0, none⟩) 2 2, .int .i32 0, .int .u8 0, .int .u8 0, .bool false, .bool false] else if ix9 = 1009 then row (α 1009) 214 #[.int .u32 ps, .int .u32 (j : Int), .bool false, .bool false, .bool false] else if ix9 = 10 then row (α 10) 47 #[.iface T1 (.pointer (some ⟨x1, 0, none⟩)), .int .i32 l1, .iface 72 (.pointer (some ⟨α 9, 0, none⟩)), .int .i32 loc, .int .u8 37, .bool false] else (0, .map #[] 0)
theorem rPF_he (pb : Nat) (sb : Nat) (PC : Array Value) (C : Array Value) (mp : Nat) (ps : Int) (j : Nat) (cj : Nat) (bp : Nat) (bl : Nat) (be : Nat) (eb : Nat) (TL : Nat) (xl : Nat) (ll : Int) (TR : Nat) (xr : Nat) (lr : Int) (o0 : Int) (o1 : Bool) (loc : Int) (T1 : Nat) (x1 : Nat) (l1 : Int) (T2 : Nat) (x2 : Nat) (l2 : Int) (B1 : Nat) : ∀ kk α α', (∀ j, (j % 1000 = kk ∨ j % 1000 ∈ rPFAnc kk) → α j = α' j) → rPFE pb sb PC C mp ps j cj bp bl be eb TL xl ll TR xr lr o0 o1 loc T1 x1 l1 T2 x2 l2 B1 kk α = rPFE pb sb PC C mp ps j cj bp bl be eb TL xl ll TR xr lr o0 o1 loc T1 x1 l1 T2 x2 l2 B1 kk α' := by
  intro kk α α' h
  match kk with
  | 0 => rfl
  | 1 => rfl
  | 2 => rfl
  | 3 => rfl
  | 4 => rfl
  | 5 => rfl
  | 6 => rfl
  | 7 => rfl
  | 8 => simp only [rPFE, h 8 (Or.inl rfl)]
  | 9 => simp only [rPFE, h 9 (Or.inl rfl)]
  | 10 => simp only [rPFE, h 10 (Or.inl rfl)]
  | 11 => rfl
  | n + 12 => rfl
theorem rPF_st (pb : Nat) (sb : Nat) (PC : Array Value) (C : Array Value) (mp : Nat) (ps : Int) (j : Nat) (cj : Nat) (bp : Nat) (bl : Nat) (be : Nat) (eb : Nat) (TL : Nat) (xl : Nat) (ll : Int) (TR : Nat) (xr : Nat) (lr : Int) (o0 : Int) (o1 : Bool) (loc : Int) (T1 : Nat) (x1 : Nat) (l1 : Int) (T2 : Nat) (x2 : Nat) (l2 : Int) (B1 : Nat) : Stable rPFCnt 10 rPFAnc rPFTrn (rPFR pb sb PC C mp ps j cj bp bl be eb TL xl ll TR xr lr o0 o1 loc T1 x1 l1 T2 x2 l2 B1) := by
  intro k9 L9 α α' ix9 hk hcl hα hact ht
  have hp := act_places hact
  replace hp : ix9 ∈ [999, 1999, 2999, 3999, 4999, 5999, 6999, 7999, 8999, 9999, 8, 9, 1009, 10] := hp
  simp only [List.mem_cons, List.not_mem_nil, or_false] at hp
  rcases hp with rfl | rfl | rfl | rfl | rfl | rfl | rfl | rfl | rfl | rfl | rfl | rfl | rfl | rfl
  · show rPFT999 pb sb PC C mp ps j cj bp bl be eb TL xl ll TR xr lr o0 o1 loc T1 x1 l1 T2 x2 l2 B1 (Rega.ran L9 k9) α' = rPFT999 pb sb PC C mp ps j cj bp bl be eb TL xl ll TR xr lr o0 o1 loc T1 x1 l1 T2 x2 l2 B1 L9 α
    unfold rPFT999
    have n11 : 11 ≠ k9 := fun e => ht (by rw [← e]; decide)
    rw [ran_ne n11]
    by_cases e11 : L9 11 = true
    · first | rw [if_pos e11, if_pos e11] | rw [if_pos e11]
      try simp only [hα 10 (ne_ran hk (hcl 11 e11 10 (by decide)))]
    first | rw [if_neg e11, if_neg e11] | rw [if_neg e11]
  · rfl
  · rfl
  · rfl
  · show rPFT4999 pb sb PC C mp ps j cj bp bl be eb TL xl ll TR xr lr o0 o1 loc T1 x1 l1 T2 x2 l2 B1 (Rega.ran L9 k9) α' = rPFT4999 pb sb PC C mp ps j cj bp bl be eb TL xl ll TR xr lr o0 o1 loc T1 x1 l1 T2 x2 l2 B1 L9 α
    unfold rPFT4999
    have n9 : 9 ≠ k9 := fun e => ht (by rw [← e]; decide)
    rw [ran_ne n9]
  · rfl
  · rfl
  · rfl
  · rfl
  · rfl
  · have e0 : L9 8 = true := act_lt hact (by decide)
    show row (α' 8) 34 #[.iface T2 (.pointer (some ⟨x2, 0, none⟩)), .int .i32 l2, .iface TR (.pointer (some ⟨xr, 0, none⟩)), .int .i32 lr] = row (α 8) 34 #[.iface T2 (.pointer (some ⟨x2, 0, none⟩)), .int .i32 l2, .iface TR (.pointer (some ⟨xr, 0, none⟩)), .int .i32 lr]
    simp only [hα 8 (ne_ran hk e0)]
  · have e0 : L9 9 = true := act_lt hact (by decide)
    show row (α' 9) 77 #[.iface 55 (.pointer (some ⟨α' 1009, 0, none⟩)), .int .i32 loc, .slice (some ⟨α' 8, 0, none⟩) 2 2, .int .i32 0, .int .u8 0, .int .u8 0, .bool false, .bool false] = row (α 9) 77 #[.iface 55 (.pointer (some ⟨α 1009, 0, none⟩)), .int .i32 loc, .slice (some ⟨α 8, 0, none⟩) 2 2, .int .i32 0, .int .u8 0, .int .u8 0, .bool false, .bool false]
    simp only [hα 8 (ne_ran hk (hcl 9 e0 8 (by decide))), hα 9 (ne_ran hk e0), hα 1009 (ne_ran hk e0)]
  · have e0 : L9 9 = true := act_lt hact (by decide)
    show row (α' 1009) 214 #[.int .u32 ps, .int .u32 (j : Int), .bool false, .bool false, .bool false] = row (α 1009) 214 #[.int .u32 ps, .int .u32 (j : Int), .bool false, .bool false, .bool false]
    simp only [hα 1009 (ne_ran hk e0)]
  · have e0 : L9 10 = true := act_lt hact (by decide)
    show row (α' 10) 47 #[.iface T1 (.pointer (some ⟨x1, 0, none⟩)), .int .i32 l1, .iface 72 (.pointer (some ⟨α' 9, 0, none⟩)), .int .i32 loc, .int .u8 37, .bool false] = row (α 10) 47 #[.iface T1 (.pointer (some ⟨x1, 0, none⟩)), .int .i32 l1, .iface 72 (.pointer (some ⟨α 9, 0, none⟩)), .int .i32 loc, .int .u8 37, .bool false]
    simp only [hα 9 (ne_ran hk (hcl 10 e0 9 (by decide))), hα 10 (ne_ran hk e0)]
def powFnPost (pb sb n cap : Nat) (PC C : Array Value) (mp : Nat) (ps : Int) (j cj bp bl be eb TL xl : Nat) (ll : Int) (TR xr : Nat) (lr o0 : Int) (o1 : Bool) (loc : Int) (T1 x1 : Nat) (l1 : Int) (T2 x2 : Nat) (l2 : Int) (w0 : World) (X : Nat → Obj → Prop) (e : Ending) (w' : World) : Prop :=
  ∃ ab : Nat, ∃ ca : Nat, ∃ b : Nat, ∃ sx : Nat, e = .returned (.agg #[.iface 41 (.pointer (some ⟨ab, 0, none⟩)), .int .i32 l1]) ∧ Own w0 w' [row (pb) 207 PC, row (sb) 223 (bumped C j cj), (mp, .map #[⟨.string ⟨#[95, 95, 112, 111, 119]⟩, .agg #[.int .i32 0, .int .u32 ps, .int .u32 (j : Int)], 0⟩] 1), row (bp) 23 #[.pointer (some ⟨pb, 0, none⟩)], row (bl) 32 #[.int .i32 loc], row (be) 41 #[.pointer (some ⟨eb, 0, none⟩)], row (eb) 47 #[.iface TL (.pointer (some ⟨xl, 0, none⟩)), .int .i32 ll, .iface TR (.pointer (some ⟨xr, 0, none⟩)), .int .i32 lr, .int .u8 o0, .bool o1], row (ab) 47 #[.iface T1 (.pointer (some ⟨x1, 0, none⟩)), .int .i32 l1, .iface 72 (.pointer (some ⟨ca, 0, none⟩)), .int .i32 loc, .int .u8 37, .bool false], row (ca) 77 #[.iface 55 (.pointer (some ⟨b, 0, none⟩)), .int .i32 loc, .slice (some ⟨sx, 0, none⟩) 2 2, .int .i32 0, .int .u8 0, .int .u8 0, .bool false, .bool false], row (b) 214 #[.int .u32 ps, .int .u32 (j : Int), .bool false, .bool false, .bool false], row (sx) 34 #[.iface T2 (.pointer (some ⟨x2, 0, none⟩)), .int .i32 l2, .iface TR (.pointer (some ⟨xr, 0, none⟩)), .int .i32 lr]] X
set_option maxRecDepth 100000 in
set_option maxHeartbeats 1000000 in
theorem powFn (pb sb n cap : Nat) (PC C : Array Value) (mp : Nat) (ps : Int) (j cj bp bl be eb TL xl : Nat) (ll : Int) (TR xr : Nat) (lr o0 : Int) (o1 : Bool) (loc : Int) (T1 x1 : Nat) (l1 : Int) (T2 x2 : Nat) (l2 : Int) (w0 w : World) (X : Nat → Obj → Prop) (hO : Own w0 w [row (pb) 207 PC, row (sb) 223 C, (mp, .map #[⟨.string ⟨#[95, 95, 112, 111, 119]⟩, .agg #[.int .i32 0, .int .u32 ps, .int .u32 (j : Int)], 0⟩] 1), row (bp) 23 #[.pointer (some ⟨pb, 0, none⟩)], row (bl) 32 #[.int .i32 loc], row (be) 41 #[.pointer (some ⟨eb, 0, none⟩)], row (eb) 47 #[.iface TL (.pointer (some ⟨xl, 0, none⟩)), .int .i32 ll, .iface TR (.pointer (some ⟨xr, 0, none⟩)), .int .i32 lr, .int .u8 o0, .bool o1]] X) (hR : Ready PC sb n cap) (hn : n ≤ 4294967295) (hj : j < n) (hcj : C[j * 10 + 4]? = some (.int .u32 (cj : Int))) (hcjm : cj < 4294967295) (hm : PC[117]? = some (.map (some mp))) :
    Calls Tryd.prog 48 #[.agg #[.iface T1 (.pointer (some ⟨x1, 0, none⟩)), .int .i32 l1], .agg #[.iface T2 (.pointer (some ⟨x2, 0, none⟩)), .int .i32 l2], .pointer (some ⟨bp, 0, none⟩), .pointer (some ⟨bl, 0, none⟩), .pointer (some ⟨be, 0, none⟩)] w (powFnPost pb sb n cap PC C mp ps j cj bp bl be eb TL xl ll TR xr lr o0 o1 loc T1 x1 l1 T2 x2 l2 w0 X) := by
  go_enter Tryd.func48, Tryd.ntmps48
  have c9_3_0 : w.cell? ⟨bp, 0, none⟩ = some (.pointer (some ⟨pb, 0, none⟩)) := hO.cell 3 rfl 0 rfl
  have lt9_3 : bp < w.heap.size := hO.lt 3 rfl
  have y9_3 : ∀ o, w.frozen? ⟨bp, o, none⟩ = false := hO.free 3 rfl
  have c9_4_0 : w.cell? ⟨bl, 0, none⟩ = some (.int .i32 loc) := hO.cell 4 rfl 0 rfl
  have lt9_4 : bl < w.heap.size := hO.lt 4 rfl
  have y9_4 : ∀ o, w.frozen? ⟨bl, o, none⟩ = false := hO.free 4 rfl
  have c9_5_0 : w.cell? ⟨be, 0, none⟩ = some (.pointer (some ⟨eb, 0, none⟩)) := hO.cell 5 rfl 0 rfl
  have lt9_5 : be < w.heap.size := hO.lt 5 rfl
  have y9_5 : ∀ o, w.frozen? ⟨be, o, none⟩ = false := hO.free 5 rfl
  have c9_6_0 : w.cell? ⟨eb, 0, none⟩ = some (.iface TL (.pointer (some ⟨xl, 0, none⟩))) := hO.cell 6 rfl 0 rfl
  have c9_6_1 : w.cell? ⟨eb, 1, none⟩ = some (.int .i32 ll) := hO.cell 6 rfl 1 rfl
  have c9_6_2 : w.cell? ⟨eb, 2, none⟩ = some (.iface TR (.pointer (some ⟨xr, 0, none⟩))) := hO.cell 6 rfl 2 rfl
  have c9_6_3 : w.cell? ⟨eb, 3, none⟩ = some (.int .i32 lr) := hO.cell 6 rfl 3 rfl
  have c9_6_4 : w.cell? ⟨eb, 4, none⟩ = some (.int .u8 o0) := hO.cell 6 rfl 4 rfl
  have c9_6_5 : w.cell? ⟨eb, 5, none⟩ = some (.bool o1) := hO.cell 6 rfl 5 rfl
  have lt9_6 : eb < w.heap.size := hO.lt 6 rfl
  have y9_6 : ∀ o, w.frozen? ⟨eb, o, none⟩ = false := hO.free 6 rfl
  have HO := Lib.hid hO
  clear hO
  go_wp2_with fail
  have hO := HO.out
  clear HO c9_3_0 lt9_3 y9_3 c9_4_0 lt9_4 y9_4 c9_5_0 lt9_5 y9_5 c9_6_0 c9_6_1 c9_6_2 c9_6_3 c9_6_4 c9_6_5 lt9_6 y9_6
  generalize hW : World.alloc _ _ = W2
  have hN : Own w0 W2 [row (w.heap.size + 1 + 1) 34 #[.nilIface, .int .i32 0], row (w.heap.size + 1) 34 #[.iface T2 (.pointer (some ⟨x2, 0, none⟩)), .int .i32 l2], row (w.heap.size) 34 #[.iface T1 (.pointer (some ⟨x1, 0, none⟩)), .int .i32 l1], row (pb) 207 PC, row (sb) 223 C, (mp, .map #[⟨.string ⟨#[95, 95, 112, 111, 119]⟩, .agg #[.int .i32 0, .int .u32 ps, .int .u32 (j : Int)], 0⟩] 1), row (bp) 23 #[.pointer (some ⟨pb, 0, none⟩)], row (bl) 32 #[.int .i32 loc], row (be) 41 #[.pointer (some ⟨eb, 0, none⟩)], row (eb) 47 #[.iface TL (.pointer (some ⟨xl, 0, none⟩)), .int .i32 ll, .iface TR (.pointer (some ⟨xr, 0, none⟩)), .int .i32 lr, .int .u8 o0, .bool o1]] X := by
    rw [← hW]
    exact (((hO).alloc' _ (w.heap.size) (by simp)).alloc' _ (w.heap.size + 1) (by simp)).alloc' _ (w.heap.size + 1 + 1) (by simp)
  clear hW hO
  obtain ⟨B1, hB⟩ : ∃ n, n = w.heap.size := ⟨_, rfl⟩
  rw [← hB] at hN
  try rw [← hB]
  clear hB
  have hO := hN
  clear hN
  refine wp_region_own (e := rPFE pb sb PC C mp ps j cj bp bl be eb TL xl ll TR xr lr o0 o1 loc T1 x1 l1 T2 x2 l2 B1) (anc := rPFAnc) (G := (fun L9 α u9 => OwnF w0 u9 (act rPFCnt 10 L9) (rPFR pb sb PC C mp ps j cj bp bl be eb TL xl ll TR xr lr o0 o1 loc T1 x1 l1 T2 x2 l2 B1 L9 α) X)) (by kernel_rfl) (by kernel_rfl) (by kernel_rfl) (by kernel_rfl) (rPF_he pb sb PC C mp ps j cj bp bl be eb TL xl ll TR xr lr o0 o1 loc T1 x1 l1 T2 x2 l2 B1) ?_ (RunsAll.all ?_) ?_
  · have hp : ∀ i, act rPFCnt 10 (fun _ => false) i → i ∈ [999, 1999, 2999, 3999, 4999, 5999, 6999, 7999, 8999, 9999] := by
      intro i hi
      have h9 : i % 1000 = 999 := by
        by_cases h : i % 1000 = 999
        · exact h
        · exact absurd (act_lt hi h) (by simp)
      unfold act at hi
      rw [if_pos h9] at hi
      simp only [List.mem_cons, List.not_mem_nil, or_false]
      omega
    refine hO.drew.family (fun i hi => ?_) (fun i j hi hj hij => ?_)
    · have := hp i hi
      simp only [List.mem_cons, List.not_mem_nil, or_false] at this
      rcases this with rfl | rfl | rfl | rfl | rfl | rfl | rfl | rfl | rfl | rfl <;> rfl
    · have h1 := hp i hi
      have h2 := hp j hj
      simp only [List.mem_cons, List.not_mem_nil, or_false] at h1 h2
      omega
  · refine ⟨?_, ?_, ?_, ?_, ?_, ?_, ?_, ?_, ?_, ?_, ?_, ?_, trivial⟩
    · intro L9 α a9 u9 K9 hL hcl hA hG hS h0 hK
      replace hL : L9 0 = false := hL
      have q5 : a9.tmps[5]? = some (.pointer (some ⟨B1, 0, none⟩)) := (h0 5 (by kernel_rfl)).trans rfl
      have s5 := Rega.eval_of q5
      have e0 : rPFR pb sb PC C mp ps j cj bp bl be eb TL xl ll TR xr lr o0 o1 loc T1 x1 l1 T2 x2 l2 B1 L9 α 2999 = row (B1) 34 #[.iface T1 (.pointer (some ⟨x1, 0, none⟩)), .int .i32 l1] := rfl
      have hr := hG.rowAt 2999 (act_base 2999 rfl) e0
      have c0 : u9.cell? ⟨B1, 0, none⟩ = some (.iface T1 (.pointer (some ⟨x1, 0, none⟩))) := hr.cell rfl
      have c1 : u9.cell? ⟨B1, 1, none⟩ = some (.int .i32 l1) := hr.cell rfl
      clear hr e0
      go_simp
      exact hK _ α _ (fun _ _ => rfl) rfl (step_same (rPF_st pb sb PC C mp ps j cj bp bl be eb TL xl ll TR xr lr o0 o1 loc T1 x1 l1 T2 x2 l2 B1) hL hcl rfl rfl hG)
    · intro L9 α a9 u9 K9 hL hcl hA hG hS h0 hK
      replace hL : L9 1 = false := hL
      have q2 : a9.tmps[2]? = some (.pointer (some ⟨bp, 0, none⟩)) := (h0 2 (by kernel_rfl)).trans rfl
      have s2 := Rega.eval_of q2
      have e0 : rPFR pb sb PC C mp ps j cj bp bl be eb TL xl ll TR xr lr o0 o1 loc T1 x1 l1 T2 x2 l2 B1 L9 α 6999 = row (bp) 23 #[.pointer (some ⟨pb, 0, none⟩)] := rfl
      have hr := hG.rowAt 6999 (act_base 6999 rfl) e0
      have c0 : u9.cell? ⟨bp, 0, none⟩ = some (.pointer (some ⟨pb, 0, none⟩)) := hr.cell rfl
      clear hr e0
      go_simp
      exact hK _ α _ (fun _ _ => rfl) rfl (step_same (rPF_st pb sb PC C mp ps j cj bp bl be eb TL xl ll TR xr lr o0 o1 loc T1 x1 l1 T2 x2 l2 B1) hL hcl rfl rfl hG)
    · intro L9 α a9 u9 K9 hL hcl hA hG hS h0 hK
      replace hL : L9 2 = false := hL
      have q3 : a9.tmps[3]? = some (.pointer (some ⟨bl, 0, none⟩)) := (h0 3 (by kernel_rfl)).trans rfl
      have s3 := Rega.eval_of q3
      have e0 : rPFR pb sb PC C mp ps j cj bp bl be eb TL xl ll TR xr lr o0 o1 loc T1 x1 l1 T2 x2 l2 B1 L9 α 7999 = row (bl) 32 #[.int .i32 loc] := rfl
      have hr := hG.rowAt 7999 (act_base 7999 rfl) e0
      have c0 : u9.cell? ⟨bl, 0, none⟩ = some (.int .i32 loc) := hr.cell rfl
      clear hr e0
      go_simp
      exact hK _ α _ (fun _ _ => rfl) rfl (step_same (rPF_st pb sb PC C mp ps j cj bp bl be eb TL xl ll TR xr lr o0 o1 loc T1 x1 l1 T2 x2 l2 B1) hL hcl rfl rfl hG)
    · intro L9 α a9 u9 K9 hL hcl hA hG hS h0 hK
      replace hL : L9 3 = false := hL
      have q6 : a9.tmps[6]? = some (.pointer (some ⟨B1 + 1, 0, none⟩)) := (h0 6 (by kernel_rfl)).trans rfl
      have s6 := Rega.eval_of q6
      have e0 : rPFR pb sb PC C mp ps j cj bp bl be eb TL xl ll TR xr lr o0 o1 loc T1 x1 l1 T2 x2 l2 B1 L9 α 1999 = row (B1 + 1) 34 #[.iface T2 (.pointer (some ⟨x2, 0, none⟩)), .int .i32 l2] := rfl
      have hr := hG.rowAt 1999 (act_base 1999 rfl) e0
      have c0 : u9.cell? ⟨B1 + 1, 0, none⟩ = some (.iface T2 (.pointer (some ⟨x2, 0, none⟩))) := hr.cell rfl
      have c1 : u9.cell? ⟨B1 + 1, 1, none⟩ = some (.int .i32 l2) := hr.cell rfl
      clear hr e0
      go_simp
      exact hK _ α _ (fun _ _ => rfl) rfl (step_same (rPF_st pb sb PC C mp ps j cj bp bl be eb TL xl ll TR xr lr o0 o1 loc T1 x1 l1 T2 x2 l2 B1) hL hcl rfl rfl hG)
    · intro L9 α a9 u9 K9 hL hcl hA hG hS h0 hK
      replace hL : L9 4 = false := hL
      have q4 : a9.tmps[4]? = some (.pointer (some ⟨be, 0, none⟩)) := (h0 4 (by kernel_rfl)).trans rfl
      have s4 := Rega.eval_of q4
      have e0 : rPFR pb sb PC C mp ps j cj bp bl be eb TL xl ll TR xr lr o0 o1 loc T1 x1 l1 T2 x2 l2 B1 L9 α 8999 = row (be) 41 #[.pointer (some ⟨eb, 0, none⟩)] := rfl
      have hr := hG.rowAt 8999 (act_base 8999 rfl) e0
      have c0 : u9.cell? ⟨be, 0, none⟩ = some (.pointer (some ⟨eb, 0, none⟩)) := hr.cell rfl
      clear hr e0
      go_simp
      exact hK _ α _ (fun _ _ => rfl) rfl (step_same (rPF_st pb sb PC C mp ps j cj bp bl be eb TL xl ll TR xr lr o0 o1 loc T1 x1 l1 T2 x2 l2 B1) hL hcl rfl rfl hG)
    · intro L9 α a9 u9 K9 hL hcl hA hG hS h0 hK
      replace hL : L9 5 = false := hL
      have q12 : a9.tmps[12]? = some (.pointer (some ⟨eb, 0, none⟩)) := hS 4 12 (by decide) rfl (by show 12 < 19; decide)
      have s12 := Rega.eval_of q12
      go_simp
      exact hK _ α _ (fun _ _ => rfl) rfl (step_same (rPF_st pb sb PC C mp ps j cj bp bl be eb TL xl ll TR xr lr o0 o1 loc T1 x1 l1 T2 x2 l2 B1) hL hcl rfl rfl hG)
    · intro L9 α a9 u9 K9 hL hcl hA hG hS h0 hK
      replace hL : L9 6 = false := hL
      have q13 : a9.tmps[13]? = some (.pointer (some ⟨eb, 0, none⟩)) := hS 5 13 (by decide) rfl (by show 13 < 19; decide)
      have s13 := Rega.eval_of q13
      go_simp
      exact hK _ α _ (fun _ _ => rfl) rfl (step_same (rPF_st pb sb PC C mp ps j cj bp bl be eb TL xl ll TR xr lr o0 o1 loc T1 x1 l1 T2 x2 l2 B1) hL hcl rfl rfl hG)
    · intro L9 α a9 u9 K9 hL hcl hA hG hS h0 hK
      replace hL : L9 7 = false := hL
      have q14 : a9.tmps[14]? = some (.pointer (some ⟨eb, 2, none⟩)) := hS 6 14 (by decide) rfl (by show 14 < 19; decide)
      have s14 := Rega.eval_of q14
      have e0 : rPFR pb sb PC C mp ps j cj bp bl be eb TL xl ll TR xr lr o0 o1 loc T1 x1 l1 T2 x2 l2 B1 L9 α 9999 = row (eb) 47 #[.iface TL (.pointer (some ⟨xl, 0, none⟩)), .int .i32 ll, .iface TR (.pointer (some ⟨xr, 0, none⟩)), .int .i32 lr, .int .u8 o0, .bool o1] := rfl
      have hr := hG.rowAt 9999 (act_base 9999 rfl) e0
      have c0 : u9.cell? ⟨eb, 2, none⟩ = some (.iface TR (.pointer (some ⟨xr, 0, none⟩))) := hr.cell rfl
      have c1 : u9.cell? ⟨eb, 3, none⟩ = some (.int .i32 lr) := hr.cell rfl
      clear hr e0
      go_simp
      exact hK _ α _ (fun _ _ => rfl) rfl (step_same (rPF_st pb sb PC C mp ps j cj bp bl be eb TL xl ll TR xr lr o0 o1 loc T1 x1 l1 T2 x2 l2 B1) hL hcl rfl rfl hG)
    · intro L9 α a9 u9 K9 hL hcl hA hG hS h0 hK
      replace hL : L9 8 = false := hL
      have q11 : a9.tmps[11]? = some (.agg #[.iface T2 (.pointer (some ⟨x2, 0, none⟩)), .int .i32 l2]) := hS 3 11 (by decide) rfl (by show 11 < 19; decide)
      have s11 := Rega.eval_of q11
      have q15 : a9.tmps[15]? = some (.agg #[.iface TR (.pointer (some ⟨xr, 0, none⟩)), .int .i32 lr]) := hS 7 15 (by decide) rfl (by show 15 < 19; decide)
      have s15 := Rega.eval_of q15
      go_simp
      exact hK _ (fun j => if j = 8 then u9.heap.size else α j) _ (fun j hj => if_neg (fun e => hj (by rw [e]))) rfl (step_alloc (rPF_st pb sb PC C mp ps j cj bp bl be eb TL xl ll TR xr lr o0 o1 loc T1 x1 l1 T2 x2 l2 B1) hL hcl rfl rfl (by decide) _ rfl hG)
    · intro L9 α a9 u9 K9 hL hcl hA hG hS h0 hK
      replace hL : L9 9 = false := hL
      have q9 : a9.tmps[9]? = some (.pointer (some ⟨pb, 0, none⟩)) := hS 1 9 (by decide) rfl (by show 9 < 19; decide)
      have s9 := Rega.eval_of q9
      have q10 : a9.tmps[10]? = some (.agg #[.int .i32 loc]) := hS 2 10 (by decide) rfl (by show 10 < 19; decide)
      have s10 := Rega.eval_of q10
      have q16 : a9.tmps[16]? = some (.slice (some ⟨α 8, 0, none⟩) 2 2) := hS 8 16 (by decide) rfl (by show 16 < 19; decide)
      have s16 := Rega.eval_of q16
      go_simp
      have e0 : rPFR pb sb PC C mp ps j cj bp bl be eb TL xl ll TR xr lr o0 o1 loc T1 x1 l1 T2 x2 l2 B1 L9 α 3999 = row (pb) 207 PC := rfl
      have e1 : rPFR pb sb PC C mp ps j cj bp bl be eb TL xl ll TR xr lr o0 o1 loc T1 x1 l1 T2 x2 l2 B1 L9 α 4999 = row (sb) 223 C := by
        show rPFT4999 pb sb PC C mp ps j cj bp bl be eb TL xl ll TR xr lr o0 o1 loc T1 x1 l1 T2 x2 l2 B1 L9 α = _
        unfold rPFT4999
        rw [if_neg (by rw [hL]; decide)]
      have e2 : rPFR pb sb PC C mp ps j cj bp bl be eb TL xl ll TR xr lr o0 o1 loc T1 x1 l1 T2 x2 l2 B1 L9 α 5999 = (mp, .map #[⟨.string ⟨#[95, 95, 112, 111, 119]⟩, .agg #[.int .i32 0, .int .u32 ps, .int .u32 (j : Int)], 0⟩] 1) := rfl
      have hM : ∀ i, i ∈ [3999, 4999, 5999] → act rPFCnt 10 L9 i := by
        intro i hi
        simp only [List.mem_cons, List.not_mem_nil, or_false] at hi
        rcases hi with rfl | rfl | rfl
        · exact act_base 3999 rfl
        · exact act_base 4999 rfl
        · exact act_base 5999 rfl
      have hP : Own w0 u9 [row (pb) 207 PC, row (sb) 223 C, (mp, .map #[⟨.string ⟨#[95, 95, 112, 111, 119]⟩, .agg #[.int .i32 0, .int .u32 ps, .int .u32 (j : Int)], 0⟩] 1)] _ := (hG.pick [3999, 4999, 5999] (by decide) hM).conv (by
        show [rPFR pb sb PC C mp ps j cj bp bl be eb TL xl ll TR xr lr o0 o1 loc T1 x1 l1 T2 x2 l2 B1 L9 α 3999, rPFR pb sb PC C mp ps j cj bp bl be eb TL xl ll TR xr lr o0 o1 loc T1 x1 l1 T2 x2 l2 B1 L9 α 4999, rPFR pb sb PC C mp ps j cj bp bl be eb TL xl ll TR xr lr o0 o1 loc T1 x1 l1 T2 x2 l2 B1 L9 α 5999] = _
        rw [e0, e1, e2])
      clear e0 e1 e2 hM
      refine Calls.mono (callPow pb sb n cap PC C mp j cj ps loc (α 8) 2 2 _ _ _ hP hR hn hj hcj hcjm hm) ?_
      rintro e9 u1 ⟨b0, b1, rfl, hQ⟩
      obtain ⟨α', hα'⟩ : ∃ α' : Rega.Atoms, α' = (fun j => if j = 9 then b0 else if j = 1009 then b1 else α j) := ⟨_, rfl⟩
      have f0 : rPFR pb sb PC C mp ps j cj bp bl be eb TL xl ll TR xr lr o0 o1 loc T1 x1 l1 T2 x2 l2 B1 (Rega.ran L9 9) α' 3999 = row (pb) 207 PC := rfl
      have f1 : rPFR pb sb PC C mp ps j cj bp bl be eb TL xl ll TR xr lr o0 o1 loc T1 x1 l1 T2 x2 l2 B1 (Rega.ran L9 9) α' 4999 = row (sb) 223 (bumped C j cj) := by
        show rPFT4999 pb sb PC C mp ps j cj bp bl be eb TL xl ll TR xr lr o0 o1 loc T1 x1 l1 T2 x2 l2 B1 (Rega.ran L9 9) α' = _
        unfold rPFT4999
        rw [if_pos (show Rega.ran L9 9 9 = true from rfl)]
      have f2 : rPFR pb sb PC C mp ps j cj bp bl be eb TL xl ll TR xr lr o0 o1 loc T1 x1 l1 T2 x2 l2 B1 (Rega.ran L9 9) α' 5999 = (mp, .map #[⟨.string ⟨#[95, 95, 112, 111, 119]⟩, .agg #[.int .i32 0, .int .u32 ps, .int .u32 (j : Int)], 0⟩] 1) := rfl
      have f3 : rPFR pb sb PC C mp ps j cj bp bl be eb TL xl ll TR xr lr o0 o1 loc T1 x1 l1 T2 x2 l2 B1 (Rega.ran L9 9) α' 1009 = row (α' 1009) 214 #[.int .u32 ps, .int .u32 (j : Int), .bool false, .bool false, .bool false] := rfl
      have f4 : rPFR pb sb PC C mp ps j cj bp bl be eb TL xl ll TR xr lr o0 o1 loc T1 x1 l1 T2 x2 l2 B1 (Rega.ran L9 9) α' 9 = row (α' 9) 77 #[.iface 55 (.pointer (some ⟨α' 1009, 0, none⟩)), .int .i32 loc, .slice (some ⟨α' 8, 0, none⟩) 2 2, .int .i32 0, .int .u8 0, .int .u8 0, .bool false, .bool false] := rfl
      have hα : ∀ j, j % 1000 ≠ 9 → α' j = α j := fun j hj => by rw [hα']; simp only []; rw [if_neg (by omega), if_neg (by omega)]
      have hb0 : α' 9 = b0 := by rw [hα']; rfl
      have hb1 : α' 1009 = b1 := by rw [hα']; rfl
      have ha8 : α' 8 = α 8 := hα 8 (by decide)
      skip
      refine hK _ α' _ hα ?_ (step_call (rPF_st pb sb PC C mp ps j cj bp bl be eb TL xl ll TR xr lr o0 o1 loc T1 x1 l1 T2 x2 l2 B1) hL hcl hα [3999, 4999, 5999] [3999, 4999, 5999, 1009, 9] (by decide) (by decide) (by decide) (M := _) ?_ hG hQ)
      · show _ = (.agg #[.iface 72 (.pointer (some ⟨α' 9, 0, none⟩)), .int .i32 loc] : Value)
        simp only [hb0]
      · show [rPFR pb sb PC C mp ps j cj bp bl be eb TL xl ll TR xr lr o0 o1 loc T1 x1 l1 T2 x2 l2 B1 (Rega.ran L9 9) α' 3999, rPFR pb sb PC C mp ps j cj bp bl be eb TL xl ll TR xr lr o0 o1 loc T1 x1 l1 T2 x2 l2 B1 (Rega.ran L9 9) α' 4999, rPFR pb sb PC C mp ps j cj bp bl be eb TL xl ll TR xr lr o0 o1 loc T1 x1 l1 T2 x2 l2 B1 (Rega.ran L9 9) α' 5999, rPFR pb sb PC C mp ps j cj bp bl be eb TL xl ll TR xr lr o0 o1 loc T1 x1 l1 T2 x2 l2 B1 (Rega.ran L9 9) α' 1009, rPFR pb sb PC C mp ps j cj bp bl be eb TL xl ll TR xr lr o0 o1 loc T1 x1 l1 T2 x2 l2 B1 (Rega.ran L9 9) α' 9] = _
        rw [f0, f1, f2, f3, f4]
        simp only [hb0, hb1, ha8]
    · intro L9 α a9 u9 K9 hL hcl hA hG hS h0 hK
      replace hL : L9 10 = false := hL
      have q8 : a9.tmps[8]? = some (.agg #[.iface T1 (.pointer (some ⟨x1, 0, none⟩)), .int .i32 l1]) := hS 0 8 (by decide) rfl (by show 8 < 19; decide)
      have s8 := Rega.eval_of q8
      have q17 : a9.tmps[17]? = some (.agg #[.iface 72 (.pointer (some ⟨α 9, 0, none⟩)), .int .i32 loc]) := hS 9 17 (by decide) rfl (by show 17 < 19; decide)
      have s17 := Rega.eval_of q17
      go_simp
      have hM : ∀ i, i ∈ [] → act rPFCnt 10 L9 i := by intro i hi; simp at hi
      have hP : Own w0 u9 [] _ := hG.pick [] (by decide) (by simp)
      clear hM
      refine Calls.mono (assignO T1 x1 l1 72 (α 9) loc _ _ _ hP ) ?_
      rintro e9 u1 ⟨b0, rfl, hQ⟩
      obtain ⟨α', hα'⟩ : ∃ α' : Rega.Atoms, α' = (fun j => if j = 10 then b0 else α j) := ⟨_, rfl⟩
      have f0 : rPFR pb sb PC C mp ps j cj bp bl be eb TL xl ll TR xr lr o0 o1 loc T1 x1 l1 T2 x2 l2 B1 (Rega.ran L9 10) α' 10 = row (α' 10) 47 #[.iface T1 (.pointer (some ⟨x1, 0, none⟩)), .int .i32 l1, .iface 72 (.pointer (some ⟨α' 9, 0, none⟩)), .int .i32 loc, .int .u8 37, .bool false] := rfl
      have hα : ∀ j, j % 1000 ≠ 10 → α' j = α j := fun j hj => by rw [hα']; simp only []; rw [if_neg (by omega)]
      have hb0 : α' 10 = b0 := by rw [hα']; rfl
      have ha9 : α' 9 = α 9 := hα 9 (by decide)
      skip
      refine hK _ α' _ hα ?_ (step_call (rPF_st pb sb PC C mp ps j cj bp bl be eb TL xl ll TR xr lr o0 o1 loc T1 x1 l1 T2 x2 l2 B1) hL hcl hα [] [10] (by decide) (by decide) (by decide) (M := _) ?_ hG hQ)
      · show _ = (.agg #[.iface 41 (.pointer (some ⟨α' 10, 0, none⟩)), .int .i32 l1] : Value)
        simp only [hb0]
      · show [rPFR pb sb PC C mp ps j cj bp bl be eb TL xl ll TR xr lr o0 o1 loc T1 x1 l1 T2 x2 l2 B1 (Rega.ran L9 10) α' 10] = _
        rw [f0]
        simp only [hb0, ha9]
    · intro L9 α a9 u9 K9 hL hcl hA hG hS h0 hK
      replace hL : L9 11 = false := hL
      have q7 : a9.tmps[7]? = some (.pointer (some ⟨B1 + 1 + 1, 0, none⟩)) := (h0 7 (by kernel_rfl)).trans rfl
      have s7 := Rega.eval_of q7
      have q18 : a9.tmps[18]? = some (.agg #[.iface 41 (.pointer (some ⟨α 10, 0, none⟩)), .int .i32 l1]) := hS 10 18 (by decide) rfl (by show 18 < 19; decide)
      have s18 := Rega.eval_of q18
      have e0 : rPFR pb sb PC C mp ps j cj bp bl be eb TL xl ll TR xr lr o0 o1 loc T1 x1 l1 T2 x2 l2 B1 L9 α 999 = row (B1 + 1 + 1) 34 #[.nilIface, .int .i32 0] := by
        show rPFT999 pb sb PC C mp ps j cj bp bl be eb TL xl ll TR xr lr o0 o1 loc T1 x1 l1 T2 x2 l2 B1 L9 α = _
        unfold rPFT999
        rw [if_neg (by rw [hL]; decide)]
      have hr := hG.rowAt 999 (act_base 999 rfl) e0
      have c0 : u9.cell? ⟨B1 + 1 + 1, 0, none⟩ = some (.nilIface) := hr.cell rfl
      have y0 : u9.frozen? ⟨B1 + 1 + 1, 0, none⟩ = false := hr.free 0
      have c1 : u9.cell? ⟨B1 + 1 + 1, 1, none⟩ = some (.int .i32 0) := hr.cell rfl
      have y1 : u9.frozen? ⟨B1 + 1 + 1, 1, none⟩ = false := hr.free 1
      clear hr
      have E0 := Lib.hid e0
      clear e0
      go_simp
      have e1 : rPFR pb sb PC C mp ps j cj bp bl be eb TL xl ll TR xr lr o0 o1 loc T1 x1 l1 T2 x2 l2 B1 (Rega.ran L9 11) α 999 = row (B1 + 1 + 1) 34 #[.iface 41 (.pointer (some ⟨α 10, 0, none⟩)), .int .i32 l1] := by
        show rPFT999 pb sb PC C mp ps j cj bp bl be eb TL xl ll TR xr lr o0 o1 loc T1 x1 l1 T2 x2 l2 B1 (Rega.ran L9 11) α = _
        unfold rPFT999
        rw [if_pos (show Rega.ran L9 11 11 = true from rfl)]
      exact hK _ α _ (fun _ _ => rfl) rfl (step_sets (rPF_st pb sb PC C mp ps j cj bp bl be eb TL xl ll TR xr lr o0 o1 loc T1 x1 l1 T2 x2 l2 B1) hL hcl rfl 999 rfl (act_base 999 rfl) E0.out 0 [.iface 41 (.pointer (some ⟨α 10, 0, none⟩)), .int .i32 l1] (e1.trans rfl) hG)
  · intro α u hG
    have e0 : rPFR pb sb PC C mp ps j cj bp bl be eb TL xl ll TR xr lr o0 o1 loc T1 x1 l1 T2 x2 l2 B1 (fun k => decide (k < 12)) α 999 = row (B1 + 1 + 1) 34 #[.iface 41 (.pointer (some ⟨α 10, 0, none⟩)), .int .i32 l1] := by
      show rPFT999 pb sb PC C mp ps j cj bp bl be eb TL xl ll TR xr lr o0 o1 loc T1 x1 l1 T2 x2 l2 B1 (fun k => decide (k < 12)) α = _
      unfold rPFT999
      rw [if_pos (by decide)]
    have e1 : rPFR pb sb PC C mp ps j cj bp bl be eb TL xl ll TR xr lr o0 o1 loc T1 x1 l1 T2 x2 l2 B1 (fun k => decide (k < 12)) α 1999 = row (B1 + 1) 34 #[.iface T2 (.pointer (some ⟨x2, 0, none⟩)), .int .i32 l2] := rfl
    have e2 : rPFR pb sb PC C mp ps j cj bp bl be eb TL xl ll TR xr lr o0 o1 loc T1 x1 l1 T2 x2 l2 B1 (fun k => decide (k < 12)) α 2999 = row (B1) 34 #[.iface T1 (.pointer (some ⟨x1, 0, none⟩)), .int .i32 l1] := rfl
    have e3 : rPFR pb sb PC C mp ps j cj bp bl be eb TL xl ll TR xr lr o0 o1 loc T1 x1 l1 T2 x2 l2 B1 (fun k => decide (k < 12)) α 3999 = row (pb) 207 PC := rfl
    have e4 : rPFR pb sb PC C mp ps j cj bp bl be eb TL xl ll TR xr lr o0 o1 loc T1 x1 l1 T2 x2 l2 B1 (fun k => decide (k < 12)) α 4999 = row (sb) 223 (bumped C j cj) := by
      show rPFT4999 pb sb PC C mp ps j cj bp bl be eb TL xl ll TR xr lr o0 o1 loc T1 x1 l1 T2 x2 l2 B1 (fun k => decide (k < 12)) α = _
      unfold rPFT4999
      rw [if_pos (by decide)]
    have e5 : rPFR pb sb PC C mp ps j cj bp bl be eb TL xl ll TR xr lr o0 o1 loc T1 x1 l1 T2 x2 l2 B1 (fun k => decide (k < 12)) α 5999 = (mp, .map #[⟨.string ⟨#[95, 95, 112, 111, 119]⟩, .agg #[.int .i32 0, .int .u32 ps, .int .u32 (j : Int)], 0⟩] 1) := rfl
    have e6 : rPFR pb sb PC C mp ps j cj bp bl be eb TL xl ll TR xr lr o0 o1 loc T1 x1 l1 T2 x2 l2 B1 (fun k => decide (k < 12)) α 6999 = row (bp) 23 #[.pointer (some ⟨pb, 0, none⟩)] := rfl
    have e7 : rPFR pb sb PC C mp ps j cj bp bl be eb TL xl ll TR xr lr o0 o1 loc T1 x1 l1 T2 x2 l2 B1 (fun k => decide (k < 12)) α 7999 = row (bl) 32 #[.int .i32 loc] := rfl
    have e8 : rPFR pb sb PC C mp ps j cj bp bl be eb TL xl ll TR xr lr o0 o1 loc T1 x1 l1 T2 x2 l2 B1 (fun k => decide (k < 12)) α 8999 = row (be) 41 #[.pointer (some ⟨eb, 0, none⟩)] := rfl
    have e9 : rPFR pb sb PC C mp ps j cj bp bl be eb TL xl ll TR xr lr o0 o1 loc T1 x1 l1 T2 x2 l2 B1 (fun k => decide (k < 12)) α 9999 = row (eb) 47 #[.iface TL (.pointer (some ⟨xl, 0, none⟩)), .int .i32 ll, .iface TR (.pointer (some ⟨xr, 0, none⟩)), .int .i32 lr, .int .u8 o0, .bool o1] := rfl
    have e10 : rPFR pb sb PC C mp ps j cj bp bl be eb TL xl ll TR xr lr o0 o1 loc T1 x1 l1 T2 x2 l2 B1 (fun k => decide (k < 12)) α 8 = row (α 8) 34 #[.iface T2 (.pointer (some ⟨x2, 0, none⟩)), .int .i32 l2, .iface TR (.pointer (some ⟨xr, 0, none⟩)), .int .i32 lr] := rfl
    have e11 : rPFR pb sb PC C mp ps j cj bp bl be eb TL xl ll TR xr lr o0 o1 loc T1 x1 l1 T2 x2 l2 B1 (fun k => decide (k < 12)) α 9 = row (α 9) 77 #[.iface 55 (.pointer (some ⟨α 1009, 0, none⟩)), .int .i32 loc, .slice (some ⟨α 8, 0, none⟩) 2 2, .int .i32 0, .int .u8 0, .int .u8 0, .bool false, .bool false] := rfl
    have e12 : rPFR pb sb PC C mp ps j cj bp bl be eb TL xl ll TR xr lr o0 o1 loc T1 x1 l1 T2 x2 l2 B1 (fun k => decide (k < 12)) α 1009 = row (α 1009) 214 #[.int .u32 ps, .int .u32 (j : Int), .bool false, .bool false, .bool false] := rfl
    have e13 : rPFR pb sb PC C mp ps j cj bp bl be eb TL xl ll TR xr lr o0 o1 loc T1 x1 l1 T2 x2 l2 B1 (fun k => decide (k < 12)) α 10 = row (α 10) 47 #[.iface T1 (.pointer (some ⟨x1, 0, none⟩)), .int .i32 l1, .iface 72 (.pointer (some ⟨α 9, 0, none⟩)), .int .i32 loc, .int .u8 37, .bool false] := rfl
    have hO : Own w0 u [row (B1 + 1 + 1) 34 #[.iface 41 (.pointer (some ⟨α 10, 0, none⟩)), .int .i32 l1], row (B1 + 1) 34 #[.iface T2 (.pointer (some ⟨x2, 0, none⟩)), .int .i32 l2], row (B1) 34 #[.iface T1 (.pointer (some ⟨x1, 0, none⟩)), .int .i32 l1], row (pb) 207 PC, row (sb) 223 (bumped C j cj), (mp, .map #[⟨.string ⟨#[95, 95, 112, 111, 119]⟩, .agg #[.int .i32 0, .int .u32 ps, .int .u32 (j : Int)], 0⟩] 1), row (bp) 23 #[.pointer (some ⟨pb, 0, none⟩)], row (bl) 32 #[.int .i32 loc], row (be) 41 #[.pointer (some ⟨eb, 0, none⟩)], row (eb) 47 #[.iface TL (.pointer (some ⟨xl, 0, none⟩)), .int .i32 ll, .iface TR (.pointer (some ⟨xr, 0, none⟩)), .int .i32 lr, .int .u8 o0, .bool o1], row (α 8) 34 #[.iface T2 (.pointer (some ⟨x2, 0, none⟩)), .int .i32 l2, .iface TR (.pointer (some ⟨xr, 0, none⟩)), .int .i32 lr], row (α 9) 77 #[.iface 55 (.pointer (some ⟨α 1009, 0, none⟩)), .int .i32 loc, .slice (some ⟨α 8, 0, none⟩) 2 2, .int .i32 0, .int .u8 0, .int .u8 0, .bool false, .bool false], row (α 1009) 214 #[.int .u32 ps, .int .u32 (j : Int), .bool false, .bool false, .bool false], row (α 10) 47 #[.iface T1 (.pointer (some ⟨x1, 0, none⟩)), .int .i32 l1, .iface 72 (.pointer (some ⟨α 9, 0, none⟩)), .int .i32 loc, .int .u8 37, .bool false]] X := (hG.list [999, 1999, 2999, 3999, 4999, 5999, 6999, 7999, 8999, 9999, 8, 9, 1009, 10] (by decide) (act_all (by decide))).conv (by
      show [rPFR pb sb PC C mp ps j cj bp bl be eb TL xl ll TR xr lr o0 o1 loc T1 x1 l1 T2 x2 l2 B1 (fun k => decide (k < 12)) α 999, rPFR pb sb PC C mp ps j cj bp bl be eb TL xl ll TR xr lr o0 o1 loc T1 x1 l1 T2 x2 l2 B1 (fun k => decide (k < 12)) α 1999, rPFR pb sb PC C mp ps j cj bp bl be eb TL xl ll TR xr lr o0 o1 loc T1 x1 l1 T2 x2 l2 B1 (fun k => decide (k < 12)) α 2999, rPFR pb sb PC C mp ps j cj bp bl be eb TL xl ll TR xr lr o0 o1 loc T1 x1 l1 T2 x2 l2 B1 (fun k => decide (k < 12)) α 3999, rPFR pb sb PC C mp ps j cj bp bl be eb TL xl ll TR xr lr o0 o1 loc T1 x1 l1 T2 x2 l2 B1 (fun k => decide (k < 12)) α 4999, rPFR pb sb PC C mp ps j cj bp bl be eb TL xl ll TR xr lr o0 o1 loc T1 x1 l1 T2 x2 l2 B1 (fun k => decide (k < 12)) α 5999, rPFR pb sb PC C mp ps j cj bp bl be eb TL xl ll TR xr lr o0 o1 loc T1 x1 l1 T2 x2 l2 B1 (fun k => decide (k < 12)) α 6999, rPFR pb sb PC C mp ps j cj bp bl be eb TL xl ll TR xr lr o0 o1 loc T1 x1 l1 T2 x2 l2 B1 (fun k => decide (k < 12)) α 7999, rPFR pb sb PC C mp ps j cj bp bl be eb TL xl ll TR xr lr o0 o1 loc T1 x1 l1 T2 x2 l2 B1 (fun k => decide (k < 12)) α 8999, rPFR pb sb PC C mp ps j cj bp bl be eb TL xl ll TR xr lr o0 o1 loc T1 x1 l1 T2 x2 l2 B1 (fun k => decide (k < 12)) α 9999, rPFR pb sb PC C mp ps j cj bp bl be eb TL xl ll TR xr lr o0 o1 loc T1 x1 l1 T2 x2 l2 B1 (fun k => decide (k < 12)) α 8, rPFR pb sb PC C mp ps j cj bp bl be eb TL xl ll TR xr lr o0 o1 loc T1 x1 l1 T2 x2 l2 B1 (fun k => decide (k < 12)) α 9, rPFR pb sb PC C mp ps j cj bp bl be eb TL xl ll TR xr lr o0 o1 loc T1 x1 l1 T2 x2 l2 B1 (fun k => decide (k < 12)) α 1009, rPFR pb sb PC C mp ps j cj bp bl be eb TL xl ll TR xr lr o0 o1 loc T1 x1 l1 T2 x2 l2 B1 (fun k => decide (k < 12)) α 10] = _
      rw [e0, e1, e2, e3, e4, e5, e6, e7, e8, e9, e10, e11, e12, e13])
    clear hG e0 e1 e2 e3 e4 e5 e6 e7 e8 e9 e10 e11 e12 e13
    generalize hfr : Rega.frameAt _ _ _ _ _ = fr
    have hdf : fr = ⟨#[.agg #[.iface T1 (.pointer (some ⟨x1, 0, none⟩)), .int .i32 l1], .agg #[.iface T2 (.pointer (some ⟨x2, 0, none⟩)), .int .i32 l2], .pointer (some ⟨bp, 0, none⟩), .pointer (some ⟨bl, 0, none⟩), .pointer (some ⟨be, 0, none⟩), .pointer (some ⟨B1, 0, none⟩), .pointer (some ⟨B1 + 1, 0, none⟩), .pointer (some ⟨B1 + 1 + 1, 0, none⟩), .agg #[.iface T1 (.pointer (some ⟨x1, 0, none⟩)), .int .i32 l1], .pointer (some ⟨pb, 0, none⟩), .agg #[.int .i32 loc], .agg #[.iface T2 (.pointer (some ⟨x2, 0, none⟩)), .int .i32 l2], .pointer (some ⟨eb, 0, none⟩), .pointer (some ⟨eb, 0, none⟩), .pointer (some ⟨eb, 2, none⟩), .agg #[.iface TR (.pointer (some ⟨xr, 0, none⟩)), .int .i32 lr], .slice (some ⟨α 8, 0, none⟩) 2 2, .agg #[.iface 72 (.pointer (some ⟨α 9, 0, none⟩)), .int .i32 loc], .agg #[.iface 41 (.pointer (some ⟨α 10, 0, none⟩)), .int .i32 l1]], []⟩ := by rw [← hfr]; kernel_rfl
    clear hfr
    subst hdf
    generalize α 8 = nd3 at hO ⊢
    generalize α 9 = nd4 at hO ⊢
    generalize α 1009 = nd5 at hO ⊢
    generalize α 10 = nd6 at hO ⊢
    clear α
    have c9_0_0 : u.cell? ⟨B1 + 1 + 1, 0, none⟩ = some (.iface 41 (.pointer (some ⟨nd6, 0, none⟩))) := hO.cell 0 rfl 0 rfl
    have c9_0_1 : u.cell? ⟨B1 + 1 + 1, 1, none⟩ = some (.int .i32 l1) := hO.cell 0 rfl 1 rfl
    have lt9_0 : B1 + 1 + 1 < u.heap.size := hO.lt 0 rfl
    have y9_0 : ∀ o, u.frozen? ⟨B1 + 1 + 1, o, none⟩ = false := hO.free 0 rfl
    have c9_1_0 : u.cell? ⟨B1 + 1, 0, none⟩ = some (.iface T2 (.pointer (some ⟨x2, 0, none⟩))) := hO.cell 1 rfl 0 rfl
    have c9_1_1 : u.cell? ⟨B1 + 1, 1, none⟩ = some (.int .i32 l2) := hO.cell 1 rfl 1 rfl
    have lt9_1 : B1 + 1 < u.heap.size := hO.lt 1 rfl
    have y9_1 : ∀ o, u.frozen? ⟨B1 + 1, o, none⟩ = false := hO.free 1 rfl
    have c9_2_0 : u.cell? ⟨B1, 0, none⟩ = some (.iface T1 (.pointer (some ⟨x1, 0, none⟩))) := hO.cell 2 rfl 0 rfl
    have c9_2_1 : u.cell? ⟨B1, 1, none⟩ = some (.int .i32 l1) := hO.cell 2 rfl 1 rfl
    have lt9_2 : B1 < u.heap.size := hO.lt 2 rfl
    have y9_2 : ∀ o, u.frozen? ⟨B1, o, none⟩ = false := hO.free 2 rfl
    have c9_6_0 : u.cell? ⟨bp, 0, none⟩ = some (.pointer (some ⟨pb, 0, none⟩)) := hO.cell 6 rfl 0 rfl
    have lt9_6 : bp < u.heap.size := hO.lt 6 rfl
    have y9_6 : ∀ o, u.frozen? ⟨bp, o, none⟩ = false := hO.free 6 rfl
    have c9_7_0 : u.cell? ⟨bl, 0, none⟩ = some (.int .i32 loc) := hO.cell 7 rfl 0 rfl
    have lt9_7 : bl < u.heap.size := hO.lt 7 rfl
    have y9_7 : ∀ o, u.frozen? ⟨bl, o, none⟩ = false := hO.free 7 rfl
    have c9_8_0 : u.cell? ⟨be, 0, none⟩ = some (.pointer (some ⟨eb, 0, none⟩)) := hO.cell 8 rfl 0 rfl
    have lt9_8 : be < u.heap.size := hO.lt 8 rfl
    have y9_8 : ∀ o, u.frozen? ⟨be, o, none⟩ = false := hO.free 8 rfl
    have c9_9_0 : u.cell? ⟨eb, 0, none⟩ = some (.iface TL (.pointer (some ⟨xl, 0, none⟩))) := hO.cell 9 rfl 0 rfl
    have c9_9_1 : u.cell? ⟨eb, 1, none⟩ = some (.int .i32 ll) := hO.cell 9 rfl 1 rfl
    have c9_9_2 : u.cell? ⟨eb, 2, none⟩ = some (.iface TR (.pointer (some ⟨xr, 0, none⟩))) := hO.cell 9 rfl 2 rfl
    have c9_9_3 : u.cell? ⟨eb, 3, none⟩ = some (.int .i32 lr) := hO.cell 9 rfl 3 rfl
    have c9_9_4 : u.cell? ⟨eb, 4, none⟩ = some (.int .u8 o0) := hO.cell 9 rfl 4 rfl
    have c9_9_5 : u.cell? ⟨eb, 5, none⟩ = some (.bool o1) := hO.cell 9 rfl 5 rfl
    have lt9_9 : eb < u.heap.size := hO.lt 9 rfl
    have y9_9 : ∀ o, u.frozen? ⟨eb, o, none⟩ = false := hO.free 9 rfl
    have c9_10_0 : u.cell? ⟨nd3, 0, none⟩ = some (.iface T2 (.pointer (some ⟨x2, 0, none⟩))) := hO.cell 10 rfl 0 rfl
    have c9_10_1 : u.cell? ⟨nd3, 1, none⟩ = some (.int .i32 l2) := hO.cell 10 rfl 1 rfl
    have c9_10_2 : u.cell? ⟨nd3, 2, none⟩ = some (.iface TR (.pointer (some ⟨xr, 0, none⟩))) := hO.cell 10 rfl 2 rfl
    have c9_10_3 : u.cell? ⟨nd3, 3, none⟩ = some (.int .i32 lr) := hO.cell 10 rfl 3 rfl
    have lt9_10 : nd3 < u.heap.size := hO.lt 10 rfl
    have y9_10 : ∀ o, u.frozen? ⟨nd3, o, none⟩ = false := hO.free 10 rfl
    have c9_11_0 : u.cell? ⟨nd4, 0, none⟩ = some (.iface 55 (.pointer (some ⟨nd5, 0, none⟩))) := hO.cell 11 rfl 0 rfl
    have c9_11_1 : u.cell? ⟨nd4, 1, none⟩ = some (.int .i32 loc) := hO.cell 11 rfl 1 rfl
    have c9_11_2 : u.cell? ⟨nd4, 2, none⟩ = some (.slice (some ⟨nd3, 0, none⟩) 2 2) := hO.cell 11 rfl 2 rfl
    have c9_11_3 : u.cell? ⟨nd4, 3, none⟩ = some (.int .i32 0) := hO.cell 11 rfl 3 rfl
    have c9_11_4 : u.cell? ⟨nd4, 4, none⟩ = some (.int .u8 0) := hO.cell 11 rfl 4 rfl
    have c9_11_5 : u.cell? ⟨nd4, 5, none⟩ = some (.int .u8 0) := hO.cell 11 rfl 5 rfl
    have c9_11_6 : u.cell? ⟨nd4, 6, none⟩ = some (.bool false) := hO.cell 11 rfl 6 rfl
    have c9_11_7 : u.cell? ⟨nd4, 7, none⟩ = some (.bool false) := hO.cell 11 rfl 7 rfl
    have lt9_11 : nd4 < u.heap.size := hO.lt 11 rfl
    have y9_11 : ∀ o, u.frozen? ⟨nd4, o, none⟩ = false := hO.free 11 rfl
    have c9_12_0 : u.cell? ⟨nd5, 0, none⟩ = some (.int .u32 ps) := hO.cell 12 rfl 0 rfl
    have c9_12_1 : u.cell? ⟨nd5, 1, none⟩ = some (.int .u32 (j : Int)) := hO.cell 12 rfl 1 rfl
    have c9_12_2 : u.cell? ⟨nd5, 2, none⟩ = some (.bool false) := hO.cell 12 rfl 2 rfl
    have c9_12_3 : u.cell? ⟨nd5, 3, none⟩ = some (.bool false) := hO.cell 12 rfl 3 rfl
    have c9_12_4 : u.cell? ⟨nd5, 4, none⟩ = some (.bool false) := hO.cell 12 rfl 4 rfl
    have lt9_12 : nd5 < u.heap.size := hO.lt 12 rfl
    have y9_12 : ∀ o, u.frozen? ⟨nd5, o, none⟩ = false := hO.free 12 rfl
    have c9_13_0 : u.cell? ⟨nd6, 0, none⟩ = some (.iface T1 (.pointer (some ⟨x1, 0, none⟩))) := hO.cell 13 rfl 0 rfl
    have c9_13_1 : u.cell? ⟨nd6, 1, none⟩ = some (.int .i32 l1) := hO.cell 13 rfl 1 rfl
    have c9_13_2 : u.cell? ⟨nd6, 2, none⟩ = some (.iface 72 (.pointer (some ⟨nd4, 0, none⟩))) := hO.cell 13 rfl 2 rfl
    have c9_13_3 : u.cell? ⟨nd6, 3, none⟩ = some (.int .i32 loc) := hO.cell 13 rfl 3 rfl
    have c9_13_4 : u.cell? ⟨nd6, 4, none⟩ = some (.int .u8 37) := hO.cell 13 rfl 4 rfl
    have c9_13_5 : u.cell? ⟨nd6, 5, none⟩ = some (.bool false) := hO.cell 13 rfl 5 rfl
    have lt9_13 : nd6 < u.heap.size := hO.lt 13 rfl
    have y9_13 : ∀ o, u.frozen? ⟨nd6, o, none⟩ = false := hO.free 13 rfl
    have HO := Lib.hid hO
    clear hO
    go_wp2_with fail
    have hO := HO.out
    clear HO c9_0_0 c9_0_1 lt9_0 y9_0 c9_1_0 c9_1_1 lt9_1 y9_1 c9_2_0 c9_2_1 lt9_2 y9_2 c9_6_0 lt9_6 y9_6 c9_7_0 lt9_7 y9_7 c9_8_0 lt9_8 y9_8 c9_9_0 c9_9_1 c9_9_2 c9_9_3 c9_9_4 c9_9_5 lt9_9 y9_9 c9_10_0 c9_10_1 c9_10_2 c9_10_3 lt9_10 y9_10 c9_11_0 c9_11_1 c9_11_2 c9_11_3 c9_11_4 c9_11_5 c9_11_6 c9_11_7 lt9_11 y9_11 c9_12_0 c9_12_1 c9_12_2 c9_12_3 c9_12_4 lt9_12 y9_12 c9_13_0 c9_13_1 c9_13_2 c9_13_3 c9_13_4 c9_13_5 lt9_13 y9_13
    have z9_0_0 : u.cell? ⟨B1 + 1 + 1, 0, none⟩ = some (.iface 41 (.pointer (some ⟨nd6, 0, none⟩))) := hO.cell 0 rfl 0 rfl
    have z9_0_1 : u.cell? ⟨B1 + 1 + 1, 1, none⟩ = some (.int .i32 l1) := hO.cell 0 rfl 1 rfl
    refine bodyPost_ret (v := .agg #[.iface 41 (.pointer (some ⟨nd6, 0, none⟩)), .int .i32 l1]) ?_ rfl ⟨nd6, nd4, nd5, nd3, rfl, hO.sub [3, 4, 5, 6, 7, 8, 9, 13, 11, 12, 10] (by decide)⟩
    simp [results, Tryd.results48, go_sem, z9_0_0, z9_0_1]
end Go.Proofs.YtlgefnjkoklboaaDoor.Use
