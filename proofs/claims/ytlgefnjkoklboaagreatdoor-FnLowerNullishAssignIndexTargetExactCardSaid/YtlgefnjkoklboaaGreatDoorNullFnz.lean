/- The callback of a nullish assignment, walked. No condition. -/
import Derived.Test.YtlgefnjkoklboaaGreatDoorOwn
import Derived.Test.YtlgefnjkoklboaaGreatDoorDeepCells
import Derived.Test.YtlgefnjkoklboaaGreatDoorRows
import Derived.Test.YtlgefnjkoklboaaGreatDoorUse
import Derived.Test.YtlgefnjkoklboaaGreatDoorKitz
import Derived.Test.YtlgefnjkoklboaaGreatDoorLawKitz
import Derived.Test.YtlgefnjkoklboaaGreatDoorCapz
namespace Go.Proofs.YtlgefnjkoklboaaGreatDoor.Use
open Go.ChangeShapes Go.WideShapes Go.ChangeAt Go.RowKit Go.Sort Own
set_option linter.unusedVariables false
def rNF1E (pb : Nat) (PC : Array Value) (bp : Nat) (bl : Nat) (be : Nat) (eb : Nat) (TL : Nat) (xl : Nat) (ll : Int) (TR : Nat) (xr : Nat) (lr : Int) (o0 : Int) (o1 : Bool) (loc : Int) (T1 : Nat) (x1 : Nat) (l1 : Int) (T2 : Nat) (x2 : Nat) (l2 : Int) (B1_2 : Nat) (B1_1 : Nat) (B1 : Nat) : Nat → Rega.Atoms → Value
  | 0, α => .agg #[.int .i32 loc]
  | 1, α => .agg #[.iface T1 (.pointer (some ⟨x1, 0, none⟩)), .int .i32 l1]
  | 2, α => .agg #[.iface T2 (.pointer (some ⟨x2, 0, none⟩)), .int .i32 l2]
  | 3, α => .pointer (some ⟨eb, 0, none⟩)
  | 4, α => .pointer (some ⟨eb, 0, none⟩)
  | 5, α => .pointer (some ⟨eb, 2, none⟩)
  | 6, α => .agg #[.iface TR (.pointer (some ⟨xr, 0, none⟩)), .int .i32 lr]
  | 7, α => .agg #[.iface 42 (.pointer (some ⟨α 7, 0, none⟩)), .int .i32 l2]
  | 8, α => .agg #[.iface T1 (.pointer (some ⟨x1, 0, none⟩)), .int .i32 l1, .iface 42 (.pointer (some ⟨α 7, 0, none⟩)), .int .i32 l2, .int .u8 30, .bool false]
  | 9, α => .pointer (some ⟨α 9, 0, none⟩)
  | 10, α => .iface 42 (.pointer (some ⟨α 9, 0, none⟩))
  | 11, α => .agg #[.iface 42 (.pointer (some ⟨α 9, 0, none⟩)), .int .i32 loc]
  | 12, α => undef
  | _, _ => undef
def rNF1Anc : Nat → List Nat
  | 4 => [3]
  | 5 => [3, 4]
  | 6 => [3, 4, 5]
  | 7 => [2, 3, 4, 5, 6]
  | 8 => [1, 2, 3, 4, 5, 6, 7]
  | 9 => [1, 2, 3, 4, 5, 6, 7, 8]
  | 10 => [1, 2, 3, 4, 5, 6, 7, 8, 9]
  | 11 => [0, 1, 2, 3, 4, 5, 6, 7, 8, 9, 10]
  | 12 => [0, 1, 2, 3, 4, 5, 6, 7, 8, 9, 10, 11]
  | _ => []
def rNF1Trn : Nat → List Nat
  | 12 => [999]
  | _ => []
def rNF1Cnt : List (Nat × Nat) := [(7, 1), (9, 1)]
def rNF1T999 (pb : Nat) (PC : Array Value) (bp : Nat) (bl : Nat) (be : Nat) (eb : Nat) (TL : Nat) (xl : Nat) (ll : Int) (TR : Nat) (xr : Nat) (lr : Int) (o0 : Int) (o1 : Bool) (loc : Int) (T1 : Nat) (x1 : Nat) (l1 : Int) (T2 : Nat) (x2 : Nat) (l2 : Int) (B1_2 : Nat) (B1_1 : Nat) (B1 : Nat) (L9 : Nat → Bool) (α : Rega.Atoms) : Rw := if L9 12 = true then row (B1_2) 34 #[.iface 42 (.pointer (some ⟨α 9, 0, none⟩)), .int .i32 loc] else row (B1_2) 34 #[.nilIface, .int .i32 0]
def rNF1R (pb : Nat) (PC : Array Value) (bp : Nat) (bl : Nat) (be : Nat) (eb : Nat) (TL : Nat) (xl : Nat) (ll : Int) (TR : Nat) (xr : Nat) (lr : Int) (o0 : Int) (o1 : Bool) (loc : Int) (T1 : Nat) (x1 : Nat) (l1 : Int) (T2 : Nat) (x2 : Nat) (l2 : Int) (B1_2 : Nat) (B1_1 : Nat) (B1 : Nat) (L9 : Nat → Bool) (α : Rega.Atoms) (ix9 : Nat) : Rw := if ix9 = 999 then rNF1T999 pb PC bp bl be eb TL xl ll TR xr lr o0 o1 loc T1 x1 l1 T2 x2 l2 B1_2 B1_1 B1 L9 α else if ix9 = 1999 then row (B1_1) 34 #[.iface T2 (.pointer (some ⟨x2, 0, none⟩)), .int .i32 l2] else if ix9 = 2999 then row (B1) 34 #[.iface T1 (.pointer (some ⟨x1, 0, none⟩)), .int .i32 l1] else if ix9 = 3999 then row (pb) 178 PC else if ix9 = 4999 then row (bp) 25 #[.pointer (some ⟨pb, 0, none⟩)] else if ix9 = 5999 then row (bl) 32 #[.int .i32 loc] else if ix9 = 6999 then row (be) 42 #[.pointer (some ⟨eb, 0, none⟩)] else if ix9 = 7999 then row (eb) 45 #[.iface TL (.pointer (some ⟨xl, 0, none⟩)), .int .i32 ll, .iface TR (.pointer (some ⟨xr, 0, none⟩)), .int .i32 lr, .int .u8 o0, .bool o1] else if ix9 = 7 then row (α 7) 45 #[.iface T2 (.pointer (some ⟨x2, 0, none⟩)), .int .i32 l2, .iface TR (.pointer (some ⟨xr, 0, none⟩)), .int .i32 lr, .int .u8 37, .bool false] else if ix9 = 9 then row (α 9) 45 #[.iface T1 (.pointer (some ⟨x1, 0, none⟩)), .int .i32 l1, .iface 42 (.pointer (some ⟨α 7, 0, none⟩)), .int .i32 l2, .int .u8 30, .bool false] else (0, .map #[] 0)
theorem rNF1_he (pb : Nat) (PC : Array Value) (bp : Nat) (bl : Nat) (be : Nat) (eb : Nat) (TL : Nat) (xl : Nat) (ll : Int) (TR : Nat) (xr : Nat) (lr : Int) (o0 : Int) (o1 : Bool) (loc : Int) (T1 : Nat) (x1 : Nat) (l1 : Int) (T2 : Nat) (x2 : Nat) (l2 : Int) (B1_2 : Nat) (B1_1 : Nat) (B1 : Nat) : ∀ kk α α', (∀ j, (j % 1000 = kk ∨ j % 1000 ∈ rNF1Anc kk) → α j = α' j) → rNF1E pb PC bp bl be eb TL xl ll TR xr lr o0 o1 loc T1 x1 l1 T2 x2 l2 B1_2 B1_1 B1 kk α = rNF1E pb PC bp bl be eb TL xl ll TR xr lr o0 o1 loc T1 x1 l1 T2 x2 l2 B1_2 B1_1 B1 kk α' := by
  intro kk α α' h
  match kk with
  | 0 => rfl
  | 1 => rfl
  | 2 => rfl
  | 3 => rfl
  | 4 => rfl
  | 5 => rfl
  | 6 => rfl
  | 7 => simp only [rNF1E, h 7 (Or.inl rfl)]
  | 8 => simp only [rNF1E, h 7 (Or.inr (by decide))]
  | 9 => simp only [rNF1E, h 9 (Or.inl rfl)]
  | 10 => simp only [rNF1E, h 9 (Or.inr (by decide))]
  | 11 => simp only [rNF1E, h 9 (Or.inr (by decide))]
  | 12 => rfl
  | n + 13 => rfl
theorem rNF1_st (pb : Nat) (PC : Array Value) (bp : Nat) (bl : Nat) (be : Nat) (eb : Nat) (TL : Nat) (xl : Nat) (ll : Int) (TR : Nat) (xr : Nat) (lr : Int) (o0 : Int) (o1 : Bool) (loc : Int) (T1 : Nat) (x1 : Nat) (l1 : Int) (T2 : Nat) (x2 : Nat) (l2 : Int) (B1_2 : Nat) (B1_1 : Nat) (B1 : Nat) : Stable rNF1Cnt 8 rNF1Anc rNF1Trn (rNF1R pb PC bp bl be eb TL xl ll TR xr lr o0 o1 loc T1 x1 l1 T2 x2 l2 B1_2 B1_1 B1) := by
  intro k9 L9 α α' ix9 hk hcl hα hact ht
  have hp := act_places hact
  replace hp : ix9 ∈ [999, 1999, 2999, 3999, 4999, 5999, 6999, 7999, 7, 9] := hp
  simp only [List.mem_cons, List.not_mem_nil, or_false] at hp
  rcases hp with rfl | rfl | rfl | rfl | rfl | rfl | rfl | rfl | rfl | rfl
  · show rNF1T999 pb PC bp bl be eb TL xl ll TR xr lr o0 o1 loc T1 x1 l1 T2 x2 l2 B1_2 B1_1 B1 (Rega.ran L9 k9) α' = rNF1T999 pb PC bp bl be eb TL xl ll TR xr lr o0 o1 loc T1 x1 l1 T2 x2 l2 B1_2 B1_1 B1 L9 α
    unfold rNF1T999
    have n12 : 12 ≠ k9 := fun e => ht (by rw [← e]; decide)
    rw [ran_ne n12]
    by_cases e12 : L9 12 = true
    · first | rw [if_pos e12, if_pos e12] | rw [if_pos e12]
      try simp only [hα 9 (ne_ran hk (hcl 12 e12 9 (by decide)))]
    first | rw [if_neg e12, if_neg e12] | rw [if_neg e12]
  · rfl
  · rfl
  · rfl
  · rfl
  · rfl
  · rfl
  · rfl
  · have e0 : L9 7 = true := act_lt hact (by decide)
    show row (α' 7) 45 #[.iface T2 (.pointer (some ⟨x2, 0, none⟩)), .int .i32 l2, .iface TR (.pointer (some ⟨xr, 0, none⟩)), .int .i32 lr, .int .u8 37, .bool false] = row (α 7) 45 #[.iface T2 (.pointer (some ⟨x2, 0, none⟩)), .int .i32 l2, .iface TR (.pointer (some ⟨xr, 0, none⟩)), .int .i32 lr, .int .u8 37, .bool false]
    simp only [hα 7 (ne_ran hk e0)]
  · have e0 : L9 9 = true := act_lt hact (by decide)
    show row (α' 9) 45 #[.iface T1 (.pointer (some ⟨x1, 0, none⟩)), .int .i32 l1, .iface 42 (.pointer (some ⟨α' 7, 0, none⟩)), .int .i32 l2, .int .u8 30, .bool false] = row (α 9) 45 #[.iface T1 (.pointer (some ⟨x1, 0, none⟩)), .int .i32 l1, .iface 42 (.pointer (some ⟨α 7, 0, none⟩)), .int .i32 l2, .int .u8 30, .bool false]
    simp only [hα 7 (ne_ran hk (hcl 9 e0 7 (by decide))), hα 9 (ne_ran hk e0)]
def nullFnPost (pb : Nat) (PC : Array Value) (x : Int) (bp bl be eb TL xl : Nat) (ll : Int) (TR xr : Nat) (lr o0 : Int) (o1 : Bool) (loc : Int) (T1 x1 : Nat) (l1 : Int) (T2 x2 : Nat) (l2 : Int) (w0 : World) (X : Nat → Obj → Prop) (e : Ending) (w' : World) : Prop :=
  ∃ ab : Nat, ∃ cb : Nat, e = .returned (.agg #[.iface 42 (.pointer (some ⟨ab, 0, none⟩)), .int .i32 loc]) ∧ Own w0 w' [row (pb) 178 PC, row (bp) 25 #[.pointer (some ⟨pb, 0, none⟩)], row (bl) 32 #[.int .i32 loc], row (be) 42 #[.pointer (some ⟨eb, 0, none⟩)], row (eb) 45 #[.iface TL (.pointer (some ⟨xl, 0, none⟩)), .int .i32 ll, .iface TR (.pointer (some ⟨xr, 0, none⟩)), .int .i32 lr, .int .u8 o0, .bool o1], row (ab) 45 #[.iface T1 (.pointer (some ⟨x1, 0, none⟩)), .int .i32 l1, .iface 42 (.pointer (some ⟨cb, 0, none⟩)), .int .i32 l2, .int .u8 30, .bool false], row (cb) 45 #[.iface T2 (.pointer (some ⟨x2, 0, none⟩)), .int .i32 l2, .iface TR (.pointer (some ⟨xr, 0, none⟩)), .int .i32 lr, .int .u8 37, .bool false]] X
set_option maxRecDepth 100000 in
set_option maxHeartbeats 1000000 in
theorem nullFn (pb : Nat) (PC : Array Value) (x : Int) (bp bl be eb TL xl : Nat) (ll : Int) (TR xr : Nat) (lr o0 : Int) (o1 : Bool) (loc : Int) (T1 x1 : Nat) (l1 : Int) (T2 x2 : Nat) (l2 : Int) (w0 w : World) (X : Nat → Obj → Prop) (hO : Own w0 w [row (pb) 178 PC, row (bp) 25 #[.pointer (some ⟨pb, 0, none⟩)], row (bl) 32 #[.int .i32 loc], row (be) 42 #[.pointer (some ⟨eb, 0, none⟩)], row (eb) 45 #[.iface TL (.pointer (some ⟨xl, 0, none⟩)), .int .i32 ll, .iface TR (.pointer (some ⟨xr, 0, none⟩)), .int .i32 lr, .int .u8 o0, .bool o1]] X) (hx : PC[23]? = some (.int .u64 x)) (hx1 : (bits BinOp.and IntKind.u64 x 4398046511104 != 0) = false) :
    Calls Tryz.prog 27 #[.agg #[.iface T1 (.pointer (some ⟨x1, 0, none⟩)), .int .i32 l1], .agg #[.iface T2 (.pointer (some ⟨x2, 0, none⟩)), .int .i32 l2], .pointer (some ⟨bp, 0, none⟩), .pointer (some ⟨bl, 0, none⟩), .pointer (some ⟨be, 0, none⟩)] w (nullFnPost pb PC x bp bl be eb TL xl ll TR xr lr o0 o1 loc T1 x1 l1 T2 x2 l2 w0 X) := by
  go_enter Tryz.func27, Tryz.ntmps27
  have c9_0_23 : w.cell? ⟨pb, 23, none⟩ = some (.int .u64 x) := hO.cell 0 rfl 23 (hx)
  have lt9_0 : pb < w.heap.size := hO.lt 0 rfl
  have y9_0 : ∀ o, w.frozen? ⟨pb, o, none⟩ = false := hO.free 0 rfl
  have c9_1_0 : w.cell? ⟨bp, 0, none⟩ = some (.pointer (some ⟨pb, 0, none⟩)) := hO.cell 1 rfl 0 rfl
  have lt9_1 : bp < w.heap.size := hO.lt 1 rfl
  have y9_1 : ∀ o, w.frozen? ⟨bp, o, none⟩ = false := hO.free 1 rfl
  have c9_2_0 : w.cell? ⟨bl, 0, none⟩ = some (.int .i32 loc) := hO.cell 2 rfl 0 rfl
  have lt9_2 : bl < w.heap.size := hO.lt 2 rfl
  have y9_2 : ∀ o, w.frozen? ⟨bl, o, none⟩ = false := hO.free 2 rfl
  have c9_3_0 : w.cell? ⟨be, 0, none⟩ = some (.pointer (some ⟨eb, 0, none⟩)) := hO.cell 3 rfl 0 rfl
  have lt9_3 : be < w.heap.size := hO.lt 3 rfl
  have y9_3 : ∀ o, w.frozen? ⟨be, o, none⟩ = false := hO.free 3 rfl
  have c9_4_0 : w.cell? ⟨eb, 0, none⟩ = some (.iface TL (.pointer (some ⟨xl, 0, none⟩))) := hO.cell 4 rfl 0 rfl
  have c9_4_1 : w.cell? ⟨eb, 1, none⟩ = some (.int .i32 ll) := hO.cell 4 rfl 1 rfl
  have c9_4_2 : w.cell? ⟨eb, 2, none⟩ = some (.iface TR (.pointer (some ⟨xr, 0, none⟩))) := hO.cell 4 rfl 2 rfl
  have c9_4_3 : w.cell? ⟨eb, 3, none⟩ = some (.int .i32 lr) := hO.cell 4 rfl 3 rfl
  have c9_4_4 : w.cell? ⟨eb, 4, none⟩ = some (.int .u8 o0) := hO.cell 4 rfl 4 rfl
  have c9_4_5 : w.cell? ⟨eb, 5, none⟩ = some (.bool o1) := hO.cell 4 rfl 5 rfl
  have lt9_4 : eb < w.heap.size := hO.lt 4 rfl
  have y9_4 : ∀ o, w.frozen? ⟨eb, o, none⟩ = false := hO.free 4 rfl
  have HO := Lib.hid hO
  clear hO
  go_wp2_with (go_at_call 21; go_in)
  have hO := HO.out
  clear HO c9_0_23 lt9_0 y9_0 c9_1_0 lt9_1 y9_1 c9_2_0 lt9_2 y9_2 c9_3_0 lt9_3 y9_3 c9_4_0 c9_4_1 c9_4_2 c9_4_3 c9_4_4 c9_4_5 lt9_4 y9_4
  generalize hW : World.alloc _ _ = W2
  have hN : Own w0 W2 [row (w.heap.size + 1 + 1) 34 #[.nilIface, .int .i32 0], row (w.heap.size + 1) 34 #[.iface T2 (.pointer (some ⟨x2, 0, none⟩)), .int .i32 l2], row (w.heap.size) 34 #[.iface T1 (.pointer (some ⟨x1, 0, none⟩)), .int .i32 l1], row (pb) 178 PC, row (bp) 25 #[.pointer (some ⟨pb, 0, none⟩)], row (bl) 32 #[.int .i32 loc], row (be) 42 #[.pointer (some ⟨eb, 0, none⟩)], row (eb) 45 #[.iface TL (.pointer (some ⟨xl, 0, none⟩)), .int .i32 ll, .iface TR (.pointer (some ⟨xr, 0, none⟩)), .int .i32 lr, .int .u8 o0, .bool o1]] X := by
    rw [← hW]
    exact (((hO).alloc' _ (w.heap.size) (by simp)).alloc' _ (w.heap.size + 1) (by simp)).alloc' _ (w.heap.size + 1 + 1) (by simp)
  clear hW hO
  generalize w.heap.size + 1 + 1 = B1_2 at hN ⊢
  generalize w.heap.size + 1 = B1_1 at hN ⊢
  generalize w.heap.size = B1 at hN ⊢
  have hO := hN
  clear hN
  refine wp_region_own (e := rNF1E pb PC bp bl be eb TL xl ll TR xr lr o0 o1 loc T1 x1 l1 T2 x2 l2 B1_2 B1_1 B1) (anc := rNF1Anc) (G := (fun L9 α u9 => OwnF w0 u9 (act rNF1Cnt 8 L9) (rNF1R pb PC bp bl be eb TL xl ll TR xr lr o0 o1 loc T1 x1 l1 T2 x2 l2 B1_2 B1_1 B1 L9 α) X)) (by kernel_rfl) (by kernel_rfl) (by kernel_rfl) (by kernel_rfl) (rNF1_he pb PC bp bl be eb TL xl ll TR xr lr o0 o1 loc T1 x1 l1 T2 x2 l2 B1_2 B1_1 B1) ?_ (RunsAll.all ?_) ?_
  · have hp : ∀ i, act rNF1Cnt 8 (fun _ => false) i → i ∈ [999, 1999, 2999, 3999, 4999, 5999, 6999, 7999] := by
      intro i hi
      have h9 : i % 1000 = 999 := by
        by_cases h : i % 1000 = 999
        · exact h
        · exact absurd (act_lt hi h) (by simp)
      unfold act at hi
      rw [if_pos h9] at hi
      simp only [List.mem_cons, List.not_mem_nil, or_false]
      omega
    refine hO.drew.family (fun i hi => ?_) (fun i j hi hj hij => ?_)
    · have := hp i hi
      simp only [List.mem_cons, List.not_mem_nil, or_false] at this
      rcases this with rfl | rfl | rfl | rfl | rfl | rfl | rfl | rfl <;> rfl
    · have h1 := hp i hi
      have h2 := hp j hj
      simp only [List.mem_cons, List.not_mem_nil, or_false] at h1 h2
      omega
  · refine ⟨?_, ?_, ?_, ?_, ?_, ?_, ?_, ?_, ?_, ?_, ?_, ?_, ?_, trivial⟩
    · intro L9 α a9 u9 K9 hL hcl hA hG hS h0 hK
      replace hL : L9 0 = false := hL
      have q3 : a9.tmps[3]? = some (.pointer (some ⟨bl, 0, none⟩)) := (h0 3 (by kernel_rfl)).trans rfl
      have s3 := Rega.eval_of q3
      have e0 : rNF1R pb PC bp bl be eb TL xl ll TR xr lr o0 o1 loc T1 x1 l1 T2 x2 l2 B1_2 B1_1 B1 L9 α 5999 = row (bl) 32 #[.int .i32 loc] := rfl
      have hr := hG.rowAt 5999 (act_base 5999 rfl) e0
      have c0 : u9.cell? ⟨bl, 0, none⟩ = some (.int .i32 loc) := hr.cell rfl
      clear hr e0
      go_simp
      exact hK _ α _ (fun _ _ => rfl) rfl (step_same (rNF1_st pb PC bp bl be eb TL xl ll TR xr lr o0 o1 loc T1 x1 l1 T2 x2 l2 B1_2 B1_1 B1) hL hcl rfl rfl hG)
    · intro L9 α a9 u9 K9 hL hcl hA hG hS h0 hK
      replace hL : L9 1 = false := hL
      have q5 : a9.tmps[5]? = some (.pointer (some ⟨B1, 0, none⟩)) := (h0 5 (by kernel_rfl)).trans rfl
      have s5 := Rega.eval_of q5
      have e0 : rNF1R pb PC bp bl be eb TL xl ll TR xr lr o0 o1 loc T1 x1 l1 T2 x2 l2 B1_2 B1_1 B1 L9 α 2999 = row (B1) 34 #[.iface T1 (.pointer (some ⟨x1, 0, none⟩)), .int .i32 l1] := rfl
      have hr := hG.rowAt 2999 (act_base 2999 rfl) e0
      have c0 : u9.cell? ⟨B1, 0, none⟩ = some (.iface T1 (.pointer (some ⟨x1, 0, none⟩))) := hr.cell rfl
      have c1 : u9.cell? ⟨B1, 1, none⟩ = some (.int .i32 l1) := hr.cell rfl
      clear hr e0
      go_simp
      exact hK _ α _ (fun _ _ => rfl) rfl (step_same (rNF1_st pb PC bp bl be eb TL xl ll TR xr lr o0 o1 loc T1 x1 l1 T2 x2 l2 B1_2 B1_1 B1) hL hcl rfl rfl hG)
    · intro L9 α a9 u9 K9 hL hcl hA hG hS h0 hK
      replace hL : L9 2 = false := hL
      have q6 : a9.tmps[6]? = some (.pointer (some ⟨B1_1, 0, none⟩)) := (h0 6 (by kernel_rfl)).trans rfl
      have s6 := Rega.eval_of q6
      have e0 : rNF1R pb PC bp bl be eb TL xl ll TR xr lr o0 o1 loc T1 x1 l1 T2 x2 l2 B1_2 B1_1 B1 L9 α 1999 = row (B1_1) 34 #[.iface T2 (.pointer (some ⟨x2, 0, none⟩)), .int .i32 l2] := rfl
      have hr := hG.rowAt 1999 (act_base 1999 rfl) e0
      have c0 : u9.cell? ⟨B1_1, 0, none⟩ = some (.iface T2 (.pointer (some ⟨x2, 0, none⟩))) := hr.cell rfl
      have c1 : u9.cell? ⟨B1_1, 1, none⟩ = some (.int .i32 l2) := hr.cell rfl
      clear hr e0
      go_simp
      exact hK _ α _ (fun _ _ => rfl) rfl (step_same (rNF1_st pb PC bp bl be eb TL xl ll TR xr lr o0 o1 loc T1 x1 l1 T2 x2 l2 B1_2 B1_1 B1) hL hcl rfl rfl hG)
    · intro L9 α a9 u9 K9 hL hcl hA hG hS h0 hK
      replace hL : L9 3 = false := hL
      have q4 : a9.tmps[4]? = some (.pointer (some ⟨be, 0, none⟩)) := (h0 4 (by kernel_rfl)).trans rfl
      have s4 := Rega.eval_of q4
      have e0 : rNF1R pb PC bp bl be eb TL xl ll TR xr lr o0 o1 loc T1 x1 l1 T2 x2 l2 B1_2 B1_1 B1 L9 α 6999 = row (be) 42 #[.pointer (some ⟨eb, 0, none⟩)] := rfl
      have hr := hG.rowAt 6999 (act_base 6999 rfl) e0
      have c0 : u9.cell? ⟨be, 0, none⟩ = some (.pointer (some ⟨eb, 0, none⟩)) := hr.cell rfl
      clear hr e0
      go_simp
      exact hK _ α _ (fun _ _ => rfl) rfl (step_same (rNF1_st pb PC bp bl be eb TL xl ll TR xr lr o0 o1 loc T1 x1 l1 T2 x2 l2 B1_2 B1_1 B1) hL hcl rfl rfl hG)
    · intro L9 α a9 u9 K9 hL hcl hA hG hS h0 hK
      replace hL : L9 4 = false := hL
      have q28 : a9.tmps[28]? = some (.pointer (some ⟨eb, 0, none⟩)) := hS 3 28 (by decide) rfl (by show 28 < 37; decide)
      have s28 := Rega.eval_of q28
      go_simp
      exact hK _ α _ (fun _ _ => rfl) rfl (step_same (rNF1_st pb PC bp bl be eb TL xl ll TR xr lr o0 o1 loc T1 x1 l1 T2 x2 l2 B1_2 B1_1 B1) hL hcl rfl rfl hG)
    · intro L9 α a9 u9 K9 hL hcl hA hG hS h0 hK
      replace hL : L9 5 = false := hL
      have q29 : a9.tmps[29]? = some (.pointer (some ⟨eb, 0, none⟩)) := hS 4 29 (by decide) rfl (by show 29 < 37; decide)
      have s29 := Rega.eval_of q29
      go_simp
      exact hK _ α _ (fun _ _ => rfl) rfl (step_same (rNF1_st pb PC bp bl be eb TL xl ll TR xr lr o0 o1 loc T1 x1 l1 T2 x2 l2 B1_2 B1_1 B1) hL hcl rfl rfl hG)
    · intro L9 α a9 u9 K9 hL hcl hA hG hS h0 hK
      replace hL : L9 6 = false := hL
      have q30 : a9.tmps[30]? = some (.pointer (some ⟨eb, 2, none⟩)) := hS 5 30 (by decide) rfl (by show 30 < 37; decide)
      have s30 := Rega.eval_of q30
      have e0 : rNF1R pb PC bp bl be eb TL xl ll TR xr lr o0 o1 loc T1 x1 l1 T2 x2 l2 B1_2 B1_1 B1 L9 α 7999 = row (eb) 45 #[.iface TL (.pointer (some ⟨xl, 0, none⟩)), .int .i32 ll, .iface TR (.pointer (some ⟨xr, 0, none⟩)), .int .i32 lr, .int .u8 o0, .bool o1] := rfl
      have hr := hG.rowAt 7999 (act_base 7999 rfl) e0
      have c0 : u9.cell? ⟨eb, 2, none⟩ = some (.iface TR (.pointer (some ⟨xr, 0, none⟩))) := hr.cell rfl
      have c1 : u9.cell? ⟨eb, 3, none⟩ = some (.int .i32 lr) := hr.cell rfl
      clear hr e0
      go_simp
      exact hK _ α _ (fun _ _ => rfl) rfl (step_same (rNF1_st pb PC bp bl be eb TL xl ll TR xr lr o0 o1 loc T1 x1 l1 T2 x2 l2 B1_2 B1_1 B1) hL hcl rfl rfl hG)
    · intro L9 α a9 u9 K9 hL hcl hA hG hS h0 hK
      replace hL : L9 7 = false := hL
      have q27 : a9.tmps[27]? = some (.agg #[.iface T2 (.pointer (some ⟨x2, 0, none⟩)), .int .i32 l2]) := hS 2 27 (by decide) rfl (by show 27 < 37; decide)
      have s27 := Rega.eval_of q27
      have q31 : a9.tmps[31]? = some (.agg #[.iface TR (.pointer (some ⟨xr, 0, none⟩)), .int .i32 lr]) := hS 6 31 (by decide) rfl (by show 31 < 37; decide)
      have s31 := Rega.eval_of q31
      go_simp
      have hM : ∀ i, i ∈ [] → act rNF1Cnt 8 L9 i := by intro i hi; simp at hi
      have hP : Own w0 u9 [] _ := hG.pick [] (by decide) (by simp)
      clear hM
      refine Calls.mono (assignO T2 x2 l2 TR xr lr _ _ _ hP ) ?_
      rintro e9 u1 ⟨b0, rfl, hQ⟩
      obtain ⟨α', hα'⟩ : ∃ α' : Rega.Atoms, α' = (fun j => if j = 7 then b0 else α j) := ⟨_, rfl⟩
      have f0 : rNF1R pb PC bp bl be eb TL xl ll TR xr lr o0 o1 loc T1 x1 l1 T2 x2 l2 B1_2 B1_1 B1 (Rega.ran L9 7) α' 7 = row (α' 7) 45 #[.iface T2 (.pointer (some ⟨x2, 0, none⟩)), .int .i32 l2, .iface TR (.pointer (some ⟨xr, 0, none⟩)), .int .i32 lr, .int .u8 37, .bool false] := rfl
      have hα : ∀ j, j % 1000 ≠ 7 → α' j = α j := fun j hj => by rw [hα']; simp only []; rw [if_neg (by omega)]
      have hb0 : α' 7 = b0 := by rw [hα']; rfl
      skip
      refine hK _ α' _ hα ?_ (step_call (rNF1_st pb PC bp bl be eb TL xl ll TR xr lr o0 o1 loc T1 x1 l1 T2 x2 l2 B1_2 B1_1 B1) hL hcl hα [] [7] (by decide) (by decide) (by decide) (M := _) ?_ hG hQ)
      · show _ = (.agg #[.iface 42 (.pointer (some ⟨α' 7, 0, none⟩)), .int .i32 l2] : Value)
        simp only [hb0]
      · show [rNF1R pb PC bp bl be eb TL xl ll TR xr lr o0 o1 loc T1 x1 l1 T2 x2 l2 B1_2 B1_1 B1 (Rega.ran L9 7) α' 7] = _
        rw [f0]
        simp only [hb0]
    · intro L9 α a9 u9 K9 hL hcl hA hG hS h0 hK
      replace hL : L9 8 = false := hL
      have q26 : a9.tmps[26]? = some (.agg #[.iface T1 (.pointer (some ⟨x1, 0, none⟩)), .int .i32 l1]) := hS 1 26 (by decide) rfl (by show 26 < 37; decide)
      have s26 := Rega.eval_of q26
      have q32 : a9.tmps[32]? = some (.agg #[.iface 42 (.pointer (some ⟨α 7, 0, none⟩)), .int .i32 l2]) := hS 7 32 (by decide) rfl (by show 32 < 37; decide)
      have s32 := Rega.eval_of q32
      go_simp
      exact hK _ α _ (fun _ _ => rfl) rfl (step_same (rNF1_st pb PC bp bl be eb TL xl ll TR xr lr o0 o1 loc T1 x1 l1 T2 x2 l2 B1_2 B1_1 B1) hL hcl rfl rfl hG)
    · intro L9 α a9 u9 K9 hL hcl hA hG hS h0 hK
      replace hL : L9 9 = false := hL
      have q33 : a9.tmps[33]? = some (.agg #[.iface T1 (.pointer (some ⟨x1, 0, none⟩)), .int .i32 l1, .iface 42 (.pointer (some ⟨α 7, 0, none⟩)), .int .i32 l2, .int .u8 30, .bool false]) := hS 8 33 (by decide) rfl (by show 33 < 37; decide)
      have s33 := Rega.eval_of q33
      go_simp
      exact hK _ (fun j => if j = 9 then u9.heap.size else α j) _ (fun j hj => if_neg (fun e => hj (by rw [e]))) rfl (step_alloc (rNF1_st pb PC bp bl be eb TL xl ll TR xr lr o0 o1 loc T1 x1 l1 T2 x2 l2 B1_2 B1_1 B1) hL hcl rfl rfl (by decide) _ rfl hG)
    · intro L9 α a9 u9 K9 hL hcl hA hG hS h0 hK
      replace hL : L9 10 = false := hL
      have q34 : a9.tmps[34]? = some (.pointer (some ⟨α 9, 0, none⟩)) := hS 9 34 (by decide) rfl (by show 34 < 37; decide)
      have s34 := Rega.eval_of q34
      go_simp
      exact hK _ α _ (fun _ _ => rfl) rfl (step_same (rNF1_st pb PC bp bl be eb TL xl ll TR xr lr o0 o1 loc T1 x1 l1 T2 x2 l2 B1_2 B1_1 B1) hL hcl rfl rfl hG)
    · intro L9 α a9 u9 K9 hL hcl hA hG hS h0 hK
      replace hL : L9 11 = false := hL
      have q25 : a9.tmps[25]? = some (.agg #[.int .i32 loc]) := hS 0 25 (by decide) rfl (by show 25 < 37; decide)
      have s25 := Rega.eval_of q25
      have q35 : a9.tmps[35]? = some (.iface 42 (.pointer (some ⟨α 9, 0, none⟩))) := hS 10 35 (by decide) rfl (by show 35 < 37; decide)
      have s35 := Rega.eval_of q35
      go_simp
      exact hK _ α _ (fun _ _ => rfl) rfl (step_same (rNF1_st pb PC bp bl be eb TL xl ll TR xr lr o0 o1 loc T1 x1 l1 T2 x2 l2 B1_2 B1_1 B1) hL hcl rfl rfl hG)
    · intro L9 α a9 u9 K9 hL hcl hA hG hS h0 hK
      replace hL : L9 12 = false := hL
      have q7 : a9.tmps[7]? = some (.pointer (some ⟨B1_2, 0, none⟩)) := (h0 7 (by kernel_rfl)).trans rfl
      have s7 := Rega.eval_of q7
      have q36 : a9.tmps[36]? = some (.agg #[.iface 42 (.pointer (some ⟨α 9, 0, none⟩)), .int .i32 loc]) := hS 11 36 (by decide) rfl (by show 36 < 37; decide)
      have s36 := Rega.eval_of q36
      have e0 : rNF1R pb PC bp bl be eb TL xl ll TR xr lr o0 o1 loc T1 x1 l1 T2 x2 l2 B1_2 B1_1 B1 L9 α 999 = row (B1_2) 34 #[.nilIface, .int .i32 0] := by
        show rNF1T999 pb PC bp bl be eb TL xl ll TR xr lr o0 o1 loc T1 x1 l1 T2 x2 l2 B1_2 B1_1 B1 L9 α = _
        unfold rNF1T999
        rw [if_neg (by rw [hL]; decide)]
      have hr := hG.rowAt 999 (act_base 999 rfl) e0
      have c0 : u9.cell? ⟨B1_2, 0, none⟩ = some (.nilIface) := hr.cell rfl
      have y0 : u9.frozen? ⟨B1_2, 0, none⟩ = false := hr.free 0
      have c1 : u9.cell? ⟨B1_2, 1, none⟩ = some (.int .i32 0) := hr.cell rfl
      have y1 : u9.frozen? ⟨B1_2, 1, none⟩ = false := hr.free 1
      clear hr
      have E0 := Lib.hid e0
      clear e0
      go_simp
      have e1 : rNF1R pb PC bp bl be eb TL xl ll TR xr lr o0 o1 loc T1 x1 l1 T2 x2 l2 B1_2 B1_1 B1 (Rega.ran L9 12) α 999 = row (B1_2) 34 #[.iface 42 (.pointer (some ⟨α 9, 0, none⟩)), .int .i32 loc] := by
        show rNF1T999 pb PC bp bl be eb TL xl ll TR xr lr o0 o1 loc T1 x1 l1 T2 x2 l2 B1_2 B1_1 B1 (Rega.ran L9 12) α = _
        unfold rNF1T999
        rw [if_pos (show Rega.ran L9 12 12 = true from rfl)]
      exact hK _ α _ (fun _ _ => rfl) rfl (step_sets (rNF1_st pb PC bp bl be eb TL xl ll TR xr lr o0 o1 loc T1 x1 l1 T2 x2 l2 B1_2 B1_1 B1) hL hcl rfl 999 rfl (act_base 999 rfl) E0.out 0 [.iface 42 (.pointer (some ⟨α 9, 0, none⟩)), .int .i32 loc] (e1.trans rfl) hG)
  · intro α u hG
    have e0 : rNF1R pb PC bp bl be eb TL xl ll TR xr lr o0 o1 loc T1 x1 l1 T2 x2 l2 B1_2 B1_1 B1 (fun k => decide (k < 13)) α 999 = row (B1_2) 34 #[.iface 42 (.pointer (some ⟨α 9, 0, none⟩)), .int .i32 loc] := by
      show rNF1T999 pb PC bp bl be eb TL xl ll TR xr lr o0 o1 loc T1 x1 l1 T2 x2 l2 B1_2 B1_1 B1 (fun k => decide (k < 13)) α = _
      unfold rNF1T999
      rw [if_pos (by decide)]
    have e1 : rNF1R pb PC bp bl be eb TL xl ll TR xr lr o0 o1 loc T1 x1 l1 T2 x2 l2 B1_2 B1_1 B1 (fun k => decide (k < 13)) α 1999 = row (B1_1) 34 #[.iface T2 (.pointer (some ⟨x2, 0, none⟩)), .int .i32 l2] := rfl
    have e2 : rNF1R pb PC bp bl be eb TL xl ll TR xr lr o0 o1 loc T1 x1 l1 T2 x2 l2 B1_2 B1_1 B1 (fun k => decide (k < 13)) α 2999 = row (B1) 34 #[.iface T1 (.pointer (some ⟨x1, 0, none⟩)), .int .i32 l1] := rfl
    have e3 : rNF1R pb PC bp bl be eb TL xl ll TR xr lr o0 o1 loc T1 x1 l1 T2 x2 l2 B1_2 B1_1 B1 (fun k => decide (k < 13)) α 3999 = row (pb) 178 PC := rfl
    have e4 : rNF1R pb PC bp bl be eb TL xl ll TR xr lr o0 o1 loc T1 x1 l1 T2 x2 l2 B1_2 B1_1 B1 (fun k => decide (k < 13)) α 4999 = row (bp) 25 #[.pointer (some ⟨pb, 0, none⟩)] := rfl
    have e5 : rNF1R pb PC bp bl be eb TL xl ll TR xr lr o0 o1 loc T1 x1 l1 T2 x2 l2 B1_2 B1_1 B1 (fun k => decide (k < 13)) α 5999 = row (bl) 32 #[.int .i32 loc] := rfl
    have e6 : rNF1R pb PC bp bl be eb TL xl ll TR xr lr o0 o1 loc T1 x1 l1 T2 x2 l2 B1_2 B1_1 B1 (fun k => decide (k < 13)) α 6999 = row (be) 42 #[.pointer (some ⟨eb, 0, none⟩)] := rfl
    have e7 : rNF1R pb PC bp bl be eb TL xl ll TR xr lr o0 o1 loc T1 x1 l1 T2 x2 l2 B1_2 B1_1 B1 (fun k => decide (k < 13)) α 7999 = row (eb) 45 #[.iface TL (.pointer (some ⟨xl, 0, none⟩)), .int .i32 ll, .iface TR (.pointer (some ⟨xr, 0, none⟩)), .int .i32 lr, .int .u8 o0, .bool o1] := rfl
    have e8 : rNF1R pb PC bp bl be eb TL xl ll TR xr lr o0 o1 loc T1 x1 l1 T2 x2 l2 B1_2 B1_1 B1 (fun k => decide (k < 13)) α 7 = row (α 7) 45 #[.iface T2 (.pointer (some ⟨x2, 0, none⟩)), .int .i32 l2, .iface TR (.pointer (some ⟨xr, 0, none⟩)), .int .i32 lr, .int .u8 37, .bool false] := rfl
    have e9 : rNF1R pb PC bp bl be eb TL xl ll TR xr lr o0 o1 loc T1 x1 l1 T2 x2 l2 B1_2 B1_1 B1 (fun k => decide (k < 13)) α 9 = row (α 9) 45 #[.iface T1 (.pointer (some ⟨x1, 0, none⟩)), .int .i32 l1, .iface 42 (.pointer (some ⟨α 7, 0, none⟩)), .int .i32 l2, .int .u8 30, .bool false] := rfl
    have hO : Own w0 u [row (B1_2) 34 #[.iface 42 (.pointer (some ⟨α 9, 0, none⟩)), .int .i32 loc], row (B1_1) 34 #[.iface T2 (.pointer (some ⟨x2, 0, none⟩)), .int .i32 l2], row (B1) 34 #[.iface T1 (.pointer (some ⟨x1, 0, none⟩)), .int .i32 l1], row (pb) 178 PC, row (bp) 25 #[.pointer (some ⟨pb, 0, none⟩)], row (bl) 32 #[.int .i32 loc], row (be) 42 #[.pointer (some ⟨eb, 0, none⟩)], row (eb) 45 #[.iface TL (.pointer (some ⟨xl, 0, none⟩)), .int .i32 ll, .iface TR (.pointer (some ⟨xr, 0, none⟩)), .int .i32 lr, .int .u8 o0, .bool o1], row (α 7) 45 #[.iface T2 (.pointer (some ⟨x2, 0, none⟩)), .int .i32 l2, .iface TR (.pointer (some ⟨xr, 0, none⟩)), .int .i32 lr, .int .u8 37, .bool false], row (α 9) 45 #[.iface T1 (.pointer (some ⟨x1, 0, none⟩)), .int .i32 l1, .iface 42 (.pointer (some ⟨α 7, 0, none⟩)), .int .i32 l2, .int .u8 30, .bool false]] X := (hG.list [999, 1999, 2999, 3999, 4999, 5999, 6999, 7999, 7, 9] (by decide) (act_all (by decide))).conv (by
      show [rNF1R pb PC bp bl be eb TL xl ll TR xr lr o0 o1 loc T1 x1 l1 T2 x2 l2 B1_2 B1_1 B1 (fun k => decide (k < 13)) α 999, rNF1R pb PC bp bl be eb TL xl ll TR xr lr o0 o1 loc T1 x1 l1 T2 x2 l2 B1_2 B1_1 B1 (fun k => decide (k < 13)) α 1999, rNF1R pb PC bp bl be eb TL xl ll TR xr lr o0 o1 loc T1 x1 l1 T2 x2 l2 B1_2 B1_1 B1 (fun k => decide (k < 13)) α 2999, rNF1R pb PC bp bl be eb TL xl ll TR xr lr o0 o1 loc T1 x1 l1 T2 x2 l2 B1_2 B1_1 B1 (fun k => decide (k < 13)) α 3999, rNF1R pb PC bp bl be eb TL xl ll TR xr lr o0 o1 loc T1 x1 l1 T2 x2 l2 B1_2 B1_1 B1 (fun k => decide (k < 13)) α 4999, rNF1R pb PC bp bl be eb TL xl ll TR xr lr o0 o1 loc T1 x1 l1 T2 x2 l2 B1_2 B1_1 B1 (fun k => decide (k < 13)) α 5999, rNF1R pb PC bp bl be eb TL xl ll TR xr lr o0 o1 loc T1 x1 l1 T2 x2 l2 B1_2 B1_1 B1 (fun k => decide (k < 13)) α 6999, rNF1R pb PC bp bl be eb TL xl ll TR xr lr o0 o1 loc T1 x1 l1 T2 x2 l2 B1_2 B1_1 B1 (fun k => decide (k < 13)) α 7999, rNF1R pb PC bp bl be eb TL xl ll TR xr lr o0 o1 loc T1 x1 l1 T2 x2 l2 B1_2 B1_1 B1 (fun k => decide (k < 13)) α 7, rNF1R pb PC bp bl be eb TL xl ll TR xr lr o0 o1 loc T1 x1 l1 T2 x2 l2 B1_2 B1_1 B1 (fun k => decide (k < 13)) α 9] = _
      rw [e0, e1, e2, e3, e4, e5, e6, e7, e8, e9])
    clear hG e0 e1 e2 e3 e4 e5 e6 e7 e8 e9
    generalize hfr : Rega.frameAt _ _ _ _ _ = fr
    have hdf : fr = ⟨#[.agg #[.iface T1 (.pointer (some ⟨x1, 0, none⟩)), .int .i32 l1], .agg #[.iface T2 (.pointer (some ⟨x2, 0, none⟩)), .int .i32 l2], .pointer (some ⟨bp, 0, none⟩), .pointer (some ⟨bl, 0, none⟩), .pointer (some ⟨be, 0, none⟩), .pointer (some ⟨B1, 0, none⟩), .pointer (some ⟨B1_1, 0, none⟩), .pointer (some ⟨B1_2, 0, none⟩), .pointer (some ⟨pb, 0, none⟩), .pointer (some ⟨pb, 0, none⟩), .pointer (some ⟨pb, 0, none⟩), .pointer (some ⟨pb, 18, none⟩), .pointer (some ⟨pb, 23, none⟩), .int .u64 x, .bool false, undef, undef, undef, undef, undef, undef, undef, undef, undef, undef, .agg #[.int .i32 loc], .agg #[.iface T1 (.pointer (some ⟨x1, 0, none⟩)), .int .i32 l1], .agg #[.iface T2 (.pointer (some ⟨x2, 0, none⟩)), .int .i32 l2], .pointer (some ⟨eb, 0, none⟩), .pointer (some ⟨eb, 0, none⟩), .pointer (some ⟨eb, 2, none⟩), .agg #[.iface TR (.pointer (some ⟨xr, 0, none⟩)), .int .i32 lr], .agg #[.iface 42 (.pointer (some ⟨α 7, 0, none⟩)), .int .i32 l2], .agg #[.iface T1 (.pointer (some ⟨x1, 0, none⟩)), .int .i32 l1, .iface 42 (.pointer (some ⟨α 7, 0, none⟩)), .int .i32 l2, .int .u8 30, .bool false], .pointer (some ⟨α 9, 0, none⟩), .iface 42 (.pointer (some ⟨α 9, 0, none⟩)), .agg #[.iface 42 (.pointer (some ⟨α 9, 0, none⟩)), .int .i32 loc]], []⟩ := by rw [← hfr]; kernel_rfl
    clear hfr
    subst hdf
    generalize α 7 = nd3 at hO ⊢
    generalize α 9 = nd4 at hO ⊢
    clear α
    have c9_0_0 : u.cell? ⟨B1_2, 0, none⟩ = some (.iface 42 (.pointer (some ⟨nd4, 0, none⟩))) := hO.cell 0 rfl 0 rfl
    have c9_0_1 : u.cell? ⟨B1_2, 1, none⟩ = some (.int .i32 loc) := hO.cell 0 rfl 1 rfl
    have lt9_0 : B1_2 < u.heap.size := hO.lt 0 rfl
    have y9_0 : ∀ o, u.frozen? ⟨B1_2, o, none⟩ = false := hO.free 0 rfl
    have c9_1_0 : u.cell? ⟨B1_1, 0, none⟩ = some (.iface T2 (.pointer (some ⟨x2, 0, none⟩))) := hO.cell 1 rfl 0 rfl
    have c9_1_1 : u.cell? ⟨B1_1, 1, none⟩ = some (.int .i32 l2) := hO.cell 1 rfl 1 rfl
    have lt9_1 : B1_1 < u.heap.size := hO.lt 1 rfl
    have y9_1 : ∀ o, u.frozen? ⟨B1_1, o, none⟩ = false := hO.free 1 rfl
    have c9_2_0 : u.cell? ⟨B1, 0, none⟩ = some (.iface T1 (.pointer (some ⟨x1, 0, none⟩))) := hO.cell 2 rfl 0 rfl
    have c9_2_1 : u.cell? ⟨B1, 1, none⟩ = some (.int .i32 l1) := hO.cell 2 rfl 1 rfl
    have lt9_2 : B1 < u.heap.size := hO.lt 2 rfl
    have y9_2 : ∀ o, u.frozen? ⟨B1, o, none⟩ = false := hO.free 2 rfl
    have c9_3_23 : u.cell? ⟨pb, 23, none⟩ = some (.int .u64 x) := hO.cell 3 rfl 23 (hx)
    have lt9_3 : pb < u.heap.size := hO.lt 3 rfl
    have y9_3 : ∀ o, u.frozen? ⟨pb, o, none⟩ = false := hO.free 3 rfl
    have c9_4_0 : u.cell? ⟨bp, 0, none⟩ = some (.pointer (some ⟨pb, 0, none⟩)) := hO.cell 4 rfl 0 rfl
    have lt9_4 : bp < u.heap.size := hO.lt 4 rfl
    have y9_4 : ∀ o, u.frozen? ⟨bp, o, none⟩ = false := hO.free 4 rfl
    have c9_5_0 : u.cell? ⟨bl, 0, none⟩ = some (.int .i32 loc) := hO.cell 5 rfl 0 rfl
    have lt9_5 : bl < u.heap.size := hO.lt 5 rfl
    have y9_5 : ∀ o, u.frozen? ⟨bl, o, none⟩ = false := hO.free 5 rfl
    have c9_6_0 : u.cell? ⟨be, 0, none⟩ = some (.pointer (some ⟨eb, 0, none⟩)) := hO.cell 6 rfl 0 rfl
    have lt9_6 : be < u.heap.size := hO.lt 6 rfl
    have y9_6 : ∀ o, u.frozen? ⟨be, o, none⟩ = false := hO.free 6 rfl
    have c9_7_0 : u.cell? ⟨eb, 0, none⟩ = some (.iface TL (.pointer (some ⟨xl, 0, none⟩))) := hO.cell 7 rfl 0 rfl
    have c9_7_1 : u.cell? ⟨eb, 1, none⟩ = some (.int .i32 ll) := hO.cell 7 rfl 1 rfl
    have c9_7_2 : u.cell? ⟨eb, 2, none⟩ = some (.iface TR (.pointer (some ⟨xr, 0, none⟩))) := hO.cell 7 rfl 2 rfl
    have c9_7_3 : u.cell? ⟨eb, 3, none⟩ = some (.int .i32 lr) := hO.cell 7 rfl 3 rfl
    have c9_7_4 : u.cell? ⟨eb, 4, none⟩ = some (.int .u8 o0) := hO.cell 7 rfl 4 rfl
    have c9_7_5 : u.cell? ⟨eb, 5, none⟩ = some (.bool o1) := hO.cell 7 rfl 5 rfl
    have lt9_7 : eb < u.heap.size := hO.lt 7 rfl
    have y9_7 : ∀ o, u.frozen? ⟨eb, o, none⟩ = false := hO.free 7 rfl
    have c9_8_0 : u.cell? ⟨nd3, 0, none⟩ = some (.iface T2 (.pointer (some ⟨x2, 0, none⟩))) := hO.cell 8 rfl 0 rfl
    have c9_8_1 : u.cell? ⟨nd3, 1, none⟩ = some (.int .i32 l2) := hO.cell 8 rfl 1 rfl
    have c9_8_2 : u.cell? ⟨nd3, 2, none⟩ = some (.iface TR (.pointer (some ⟨xr, 0, none⟩))) := hO.cell 8 rfl 2 rfl
    have c9_8_3 : u.cell? ⟨nd3, 3, none⟩ = some (.int .i32 lr) := hO.cell 8 rfl 3 rfl
    have c9_8_4 : u.cell? ⟨nd3, 4, none⟩ = some (.int .u8 37) := hO.cell 8 rfl 4 rfl
    have c9_8_5 : u.cell? ⟨nd3, 5, none⟩ = some (.bool false) := hO.cell 8 rfl 5 rfl
    have lt9_8 : nd3 < u.heap.size := hO.lt 8 rfl
    have y9_8 : ∀ o, u.frozen? ⟨nd3, o, none⟩ = false := hO.free 8 rfl
    have c9_9_0 : u.cell? ⟨nd4, 0, none⟩ = some (.iface T1 (.pointer (some ⟨x1, 0, none⟩))) := hO.cell 9 rfl 0 rfl
    have c9_9_1 : u.cell? ⟨nd4, 1, none⟩ = some (.int .i32 l1) := hO.cell 9 rfl 1 rfl
    have c9_9_2 : u.cell? ⟨nd4, 2, none⟩ = some (.iface 42 (.pointer (some ⟨nd3, 0, none⟩))) := hO.cell 9 rfl 2 rfl
    have c9_9_3 : u.cell? ⟨nd4, 3, none⟩ = some (.int .i32 l2) := hO.cell 9 rfl 3 rfl
    have c9_9_4 : u.cell? ⟨nd4, 4, none⟩ = some (.int .u8 30) := hO.cell 9 rfl 4 rfl
    have c9_9_5 : u.cell? ⟨nd4, 5, none⟩ = some (.bool false) := hO.cell 9 rfl 5 rfl
    have lt9_9 : nd4 < u.heap.size := hO.lt 9 rfl
    have y9_9 : ∀ o, u.frozen? ⟨nd4, o, none⟩ = false := hO.free 9 rfl
    have HO := Lib.hid hO
    clear hO
    go_wp2_with (go_at_call 21; go_in)
    have hO := HO.out
    clear HO c9_0_0 c9_0_1 lt9_0 y9_0 c9_1_0 c9_1_1 lt9_1 y9_1 c9_2_0 c9_2_1 lt9_2 y9_2 c9_3_23 lt9_3 y9_3 c9_4_0 lt9_4 y9_4 c9_5_0 lt9_5 y9_5 c9_6_0 lt9_6 y9_6 c9_7_0 c9_7_1 c9_7_2 c9_7_3 c9_7_4 c9_7_5 lt9_7 y9_7 c9_8_0 c9_8_1 c9_8_2 c9_8_3 c9_8_4 c9_8_5 lt9_8 y9_8 c9_9_0 c9_9_1 c9_9_2 c9_9_3 c9_9_4 c9_9_5 lt9_9 y9_9
    have z9_0_0 : u.cell? ⟨B1_2, 0, none⟩ = some (.iface 42 (.pointer (some ⟨nd4, 0, none⟩))) := hO.cell 0 rfl 0 rfl
    have z9_0_1 : u.cell? ⟨B1_2, 1, none⟩ = some (.int .i32 loc) := hO.cell 0 rfl 1 rfl
    refine bodyPost_ret (v := .agg #[.iface 42 (.pointer (some ⟨nd4, 0, none⟩)), .int .i32 loc]) ?_ rfl ⟨nd4, nd3, rfl, hO.sub [3, 4, 5, 6, 7, 9, 8] (by decide)⟩
    simp [results, Tryz.results27, go_sem, z9_0_0, z9_0_1]
end Go.Proofs.YtlgefnjkoklboaaGreatDoor.Use
