/- The runtime helper of an exponent, its import and its call, walked. No condition. -/
import Derived.Test.YtlgefnjkoklboaaDoorOwn
import Derived.Test.YtlgefnjkoklboaaDoorDeepCells
import Derived.Test.YtlgefnjkoklboaaDoorRows
import Derived.Test.YtlgefnjkoklboaaDoorUse
namespace Go.Proofs.YtlgefnjkoklboaaDoor.Use
open Go.ChangeShapes Go.WideShapes Go.ChangeAt Go.RowKit Go.Sort Own
set_option linter.unusedVariables false
/-- What recordUsage reads of a parser's cells. -/
structure Ready (PC : Array Value) (sb n cap : Nat) : Prop where
  dead : PC[350]? = some (.bool false)
  part : PC[105]? = some (.pointer none)
  ts : PC[32]? = some (.bool false)
  syms : PC[106]? = some (.slice (some ⟨sb, 0, none⟩) n cap)
/-- The counts, symbol i counted once more. -/
def bumped (C : Array Value) (i c : Nat) : Array Value := C.setIfInBounds (i * 10 + 4) (.int .u32 ((c + 1 : Nat) : Int))
theorem kept_own {w0 w w' : World} {L : List Rw} {X : Nat → Obj → Prop} (h : Own w0 w L X) (i : Nat) {b : Nat} {o o' : Obj} (hi : L[i]? = some (b, o)) (hk : Base.KeptBut [b] w w') (hb : w'.heap[b]? = some o') : Own w0 w' (L.set i (b, o')) X :=
  h.turn i hi hk.size hk.os hk.tape hk.output hb (fun k hk1 hk2 => hk.block k hk2 (by simpa using hk1))
def usagePost (pb sb n cap : Nat) (PC C : Array Value) (i c : Nat) (src : Int) (w0 : World) (X : Nat → Obj → Prop) (e : Ending) (w' : World) : Prop :=
  e = .returned (.tuple #[]) ∧ Own w0 w' [row (pb) 207 PC, row (sb) 223 (bumped C i c)] X
set_option maxRecDepth 100000 in
theorem usage (pb sb n cap : Nat) (PC C : Array Value) (i c : Nat) (src : Int) (w0 w : World) (X : Nat → Obj → Prop) (hO : Own w0 w [row (pb) 207 PC, row (sb) 223 C] X) (hR : Ready PC sb n cap) (hn : n ≤ 4294967295) (hi : i < n) (hc : C[i * 10 + 4]? = some (.int .u32 (c : Int))) (hcm : c < 4294967295) :
    Calls Tryd.prog 60 #[.pointer (some ⟨pb, 0, none⟩), .agg #[.int .u32 src, .int .u32 (i : Int)]] w (usagePost pb sb n cap PC C i c src w0 X) := by
  refine Calls.mono (recordUsage pb sb n cap i c src C w ⟨hO.cell 0 rfl 350 hR.dead, hO.cell 0 rfl 105 hR.part, hO.cell 0 rfl 32 hR.ts, hO.cell 0 rfl 106 hR.syms⟩ hi hn (hO.ne 0 1 rfl rfl (by decide)) (hO.rowAt 1 rfl) hc hcm) ?_
  rintro e w' ⟨rfl, hk, hr⟩
  exact ⟨rfl, kept_own hO 1 rfl hk hr⟩

def importPowPost (pb sb n cap : Nat) (PC C : Array Value) (mp i c : Nat) (src loc : Int) (w0 : World) (X : Nat → Obj → Prop) (e : Ending) (w' : World) : Prop :=
  ∃ b : Nat, e = .returned (.agg #[.iface 55 (.pointer (some ⟨b, 0, none⟩)), .int .i32 loc]) ∧ Own w0 w' [row (pb) 207 PC, row (sb) 223 (bumped C i c), (mp, .map #[⟨.string ⟨#[95, 95, 112, 111, 119]⟩, .agg #[.int .i32 0, .int .u32 src, .int .u32 (i : Int)], 0⟩] 1), row (b) 214 #[.int .u32 src, .int .u32 (i : Int), .bool false, .bool false, .bool false]] X
set_option maxRecDepth 100000 in
set_option maxHeartbeats 1000000 in
theorem importPow (pb sb n cap : Nat) (PC C : Array Value) (mp i c : Nat) (src loc : Int) (w0 w : World) (X : Nat → Obj → Prop) (hO : Own w0 w [row (pb) 207 PC, row (sb) 223 C, (mp, .map #[⟨.string ⟨#[95, 95, 112, 111, 119]⟩, .agg #[.int .i32 0, .int .u32 src, .int .u32 (i : Int)], 0⟩] 1)] X) (hR : Ready PC sb n cap) (hn : n ≤ 4294967295) (hi : i < n) (hc : C[i * 10 + 4]? = some (.int .u32 (c : Int))) (hcm : c < 4294967295) (hm : PC[117]? = some (.map (some mp))) :
    Calls Tryd.prog 67 #[.pointer (some ⟨pb, 0, none⟩), .agg #[.int .i32 loc], .string ⟨#[95, 95, 112, 111, 119]⟩] w (importPowPost pb sb n cap PC C mp i c src loc w0 X) := by
  go_enter Tryd.func67, Tryd.ntmps67
  have c9_0_117 : w.cell? ⟨pb, 117, none⟩ = some (.map (some mp)) := hO.cell 0 rfl 117 (hm)
  have lt9_0 : pb < w.heap.size := hO.lt 0 rfl
  have y9_0 : ∀ o, w.frozen? ⟨pb, o, none⟩ = false := hO.free 0 rfl
  have HO := Lib.hid hO
  clear hO
  go_wp2_with (at_lookup; refine wpList_lookup_yes rfl _ _ 124 true rfl 9 123 (by kernel_rfl) (by kernel_rfl) (((HO.out.mapAt 2 rfl).alloc _).alloc _) rfl _ rfl 0 (.agg #[.int .i32 0, .int .u32 src, .int .u32 (i : Int)]) (by kernel_rfl) ?_)
  have hO := HO.out
  clear HO c9_0_117 lt9_0 y9_0
  generalize hW : World.alloc _ _ = W2
  have hN : Own w0 W2 [row (w.heap.size + 1 + 1) 123 #[.int .i32 0, .int .u32 src, .int .u32 (i : Int)], row (w.heap.size + 1) 34 #[.nilIface, .int .i32 0], row (w.heap.size) 32 #[.int .i32 loc], row (pb) 207 PC, row (sb) 223 C, (mp, .map #[⟨.string ⟨#[95, 95, 112, 111, 119]⟩, .agg #[.int .i32 0, .int .u32 src, .int .u32 (i : Int)], 0⟩] 1)] X := by
    rw [← hW]
    exact (((hO).alloc' _ (w.heap.size) (by simp)).alloc' _ (w.heap.size + 1) (by simp)).alloc' _ (w.heap.size + 1 + 1) (by simp)
  clear hW hO
  obtain ⟨B1, hB⟩ : ∃ n, n = w.heap.size := ⟨_, rfl⟩
  rw [← hB] at hN
  try rw [← hB]
  clear hB
  have hO := hN
  clear hN
  have hL := hO.apart
  have hX := hO.apartX
  have HL := Lib.hid hL
  have HX := Lib.hid hX
  clear hL hX
  refine Calls.mono (usage pb sb n cap PC C i c src _ _ _ (hO.pick [3, 4] (by decide)) hR hn hi hc hcm) ?_
  rintro e u3 ⟨rfl, hQ⟩
  have hN : Own w0 u3 [row (pb) 207 PC, row (sb) 223 (bumped C i c), row (B1 + 1 + 1) 123 #[.int .i32 0, .int .u32 src, .int .u32 (i : Int)], row (B1 + 1) 34 #[.nilIface, .int .i32 0], row (B1) 32 #[.int .i32 loc], (mp, .map #[⟨.string ⟨#[95, 95, 112, 111, 119]⟩, .agg #[.int .i32 0, .int .u32 src, .int .u32 (i : Int)], 0⟩] 1)] X := hQ.back HL.out HX.out [0, 1, 2, 5] (by decide) (by decide)
  clear hQ HL HX hO
  have hO := hN
  clear hN
  have c9_2_0 : u3.cell? ⟨B1 + 1 + 1, 0, none⟩ = some (.int .i32 0) := hO.cell 2 rfl 0 rfl
  have c9_2_1 : u3.cell? ⟨B1 + 1 + 1, 1, none⟩ = some (.int .u32 src) := hO.cell 2 rfl 1 rfl
  have c9_2_2 : u3.cell? ⟨B1 + 1 + 1, 2, none⟩ = some (.int .u32 (i : Int)) := hO.cell 2 rfl 2 rfl
  have lt9_2 : B1 + 1 + 1 < u3.heap.size := hO.lt 2 rfl
  have y9_2 : ∀ o, u3.frozen? ⟨B1 + 1 + 1, o, none⟩ = false := hO.free 2 rfl
  have c9_3_0 : u3.cell? ⟨B1 + 1, 0, none⟩ = some (.nilIface) := hO.cell 3 rfl 0 rfl
  have c9_3_1 : u3.cell? ⟨B1 + 1, 1, none⟩ = some (.int .i32 0) := hO.cell 3 rfl 1 rfl
  have lt9_3 : B1 + 1 < u3.heap.size := hO.lt 3 rfl
  have y9_3 : ∀ o, u3.frozen? ⟨B1 + 1, o, none⟩ = false := hO.free 3 rfl
  have c9_4_0 : u3.cell? ⟨B1, 0, none⟩ = some (.int .i32 loc) := hO.cell 4 rfl 0 rfl
  have lt9_4 : B1 < u3.heap.size := hO.lt 4 rfl
  have y9_4 : ∀ o, u3.frozen? ⟨B1, o, none⟩ = false := hO.free 4 rfl
  have HO := Lib.hid hO
  clear hO
  go_wp2_with fail
  have hO := HO.out
  clear HO c9_2_0 c9_2_1 c9_2_2 lt9_2 y9_2 c9_3_0 c9_3_1 lt9_3 y9_3 c9_4_0 lt9_4 y9_4
  generalize hW : World.alloc _ _ = W5
  have hN : Own w0 W5 [row (u3.heap.size) 214 #[.int .u32 src, .int .u32 (i : Int), .bool false, .bool false, .bool false], row (pb) 207 PC, row (sb) 223 (bumped C i c), row (B1 + 1 + 1) 123 #[.int .i32 0, .int .u32 src, .int .u32 (i : Int)], row (B1 + 1) 34 #[.iface 55 (.pointer (some ⟨u3.heap.size, 0, none⟩)), .int .i32 loc], row (B1) 32 #[.int .i32 loc], (mp, .map #[⟨.string ⟨#[95, 95, 112, 111, 119]⟩, .agg #[.int .i32 0, .int .u32 src, .int .u32 (i : Int)], 0⟩] 1)] X := by
    rw [← hW]
    exact (((hO).set 3 rfl 0 _).set 3 rfl 1 _).alloc' _ (u3.heap.size) (by simp)
  clear hW hO
  obtain ⟨B4, hB⟩ : ∃ n, n = u3.heap.size := ⟨_, rfl⟩
  rw [← hB] at hN
  try rw [← hB]
  clear hB
  have hO := hN
  clear hN
  have z9_4_0 : W5.cell? ⟨B1 + 1, 0, none⟩ = some (.iface 55 (.pointer (some ⟨B4, 0, none⟩))) := hO.cell 4 rfl 0 rfl
  have z9_4_1 : W5.cell? ⟨B1 + 1, 1, none⟩ = some (.int .i32 loc) := hO.cell 4 rfl 1 rfl
  refine bodyPost_ret (v := .agg #[.iface 55 (.pointer (some ⟨B4, 0, none⟩)), .int .i32 loc]) ?_ rfl ⟨B4, rfl, hO.sub [1, 2, 6, 0] (by decide)⟩
  simp [results, Tryd.results67, go_sem, z9_4_0, z9_4_1]
def rCPE (pb : Nat) (sb : Nat) (PC : Array Value) (C : Array Value) (mp : Nat) (i : Nat) (c : Nat) (src : Int) (loc : Int) (sx : Nat) (ln : Nat) (cp : Nat) (B1 : Nat) : Nat → Rega.Atoms → Value
  | 0, α => .agg #[.int .i32 loc]
  | 1, α => .pointer (some ⟨pb, 0, none⟩)
  | 2, α => .agg #[.int .i32 loc]
  | 3, α => .string ⟨#[95, 95, 112, 111, 119]⟩
  | 4, α => .agg #[.iface 55 (.pointer (some ⟨α 4, 0, none⟩)), .int .i32 loc]
  | 5, α => .slice (some ⟨sx, 0, none⟩) ln cp
  | 6, α => .agg #[.iface 55 (.pointer (some ⟨α 4, 0, none⟩)), .int .i32 loc, .slice (some ⟨sx, 0, none⟩) ln cp, .int .i32 0, .int .u8 0, .int .u8 0, .bool false, .bool false]
  | 7, α => .pointer (some ⟨α 7, 0, none⟩)
  | 8, α => .iface 72 (.pointer (some ⟨α 7, 0, none⟩))
  | 9, α => .agg #[.iface 72 (.pointer (some ⟨α 7, 0, none⟩)), .int .i32 loc]
  | 10, α => undef
  | _, _ => undef
def rCPAnc : Nat → List Nat
  | 4 => [1, 2, 3]
  | 6 => [1, 2, 3, 4, 5]
  | 7 => [1, 2, 3, 4, 5, 6]
  | 8 => [1, 2, 3, 4, 5, 6, 7]
  | 9 => [0, 1, 2, 3, 4, 5, 6, 7, 8]
  | 10 => [0, 1, 2, 3, 4, 5, 6, 7, 8, 9]
  | _ => []
def rCPTrn : Nat → List Nat
  | 4 => [3999]
  | 10 => [999]
  | _ => []
def rCPCnt : List (Nat × Nat) := [(4, 1), (7, 1)]
def rCPT999 (pb : Nat) (sb : Nat) (PC : Array Value) (C : Array Value) (mp : Nat) (i : Nat) (c : Nat) (src : Int) (loc : Int) (sx : Nat) (ln : Nat) (cp : Nat) (B1 : Nat) (L9 : Nat → Bool) (α : Rega.Atoms) : Rw := if L9 10 = true then row (B1 + 1) 34 #[.iface 72 (.pointer (some ⟨α 7, 0, none⟩)), .int .i32 loc] else row (B1 + 1) 34 #[.nilIface, .int .i32 0]
def rCPT3999 (pb : Nat) (sb : Nat) (PC : Array Value) (C : Array Value) (mp : Nat) (i : Nat) (c : Nat) (src : Int) (loc : Int) (sx : Nat) (ln : Nat) (cp : Nat) (B1 : Nat) (L9 : Nat → Bool) (α : Rega.Atoms) : Rw := if L9 4 = true then row (sb) 223 (bumped C i c) else row (sb) 223 C
def rCPR (pb : Nat) (sb : Nat) (PC : Array Value) (C : Array Value) (mp : Nat) (i : Nat) (c : Nat) (src : Int) (loc : Int) (sx : Nat) (ln : Nat) (cp : Nat) (B1 : Nat) (L9 : Nat → Bool) (α : Rega.Atoms) (ix9 : Nat) : Rw := if ix9 = 999 then rCPT999 pb sb PC C mp i c src loc sx ln cp B1 L9 α else if ix9 = 1999 then row (B1) 32 #[.int .i32 loc] else if ix9 = 2999 then row (pb) 207 PC else if ix9 = 3999 then rCPT3999 pb sb PC C mp i c src loc sx ln cp B1 L9 α else if ix9 = 4999 then (mp, .map #[⟨.string ⟨#[95, 95, 112, 111, 119]⟩, .agg #[.int .i32 0, .int .u32 src, .int .u32 (i : Int)], 0⟩] 1) else if ix9 = 4 then row (α 4) 214 #[.int .u32 src, .int .u32 (i : Int), .bool false, .bool false, .bool false] else if ix9 = 7 then row (α 7) 77 #[.iface 55 (.pointer (some ⟨α 4, 0, none⟩)), .int .i32 loc, .slice (some ⟨sx, 0, none⟩) ln cp, .int .i32 0, .int .u8 0, .int .u8 0, .bool false, .bool false] else (0, .map #[] 0)
theorem rCP_he (pb : Nat) (sb : Nat) (PC : Array Value) (C : Array Value) (mp : Nat) (i : Nat) (c : Nat) (src : Int) (loc : Int) (sx : Nat) (ln : Nat) (cp : Nat) (B1 : Nat) : ∀ kk α α', (∀ j, (j % 1000 = kk ∨ j % 1000 ∈ rCPAnc kk) → α j = α' j) → rCPE pb sb PC C mp i c src loc sx ln cp B1 kk α = rCPE pb sb PC C mp i c src loc sx ln cp B1 kk α' := by
  intro kk α α' h
  match kk with
  | 0 => rfl
  | 1 => rfl
  | 2 => rfl
  | 3 => rfl
  | 4 => simp only [rCPE, h 4 (Or.inl rfl)]
  | 5 => rfl
  | 6 => simp only [rCPE, h 4 (Or.inr (by decide))]
  | 7 => simp only [rCPE, h 7 (Or.inl rfl)]
  | 8 => simp only [rCPE, h 7 (Or.inr (by decide))]
  | 9 => simp only [rCPE, h 7 (Or.inr (by decide))]
  | 10 => rfl
  | n + 11 => rfl
theorem rCP_st (pb : Nat) (sb : Nat) (PC : Array Value) (C : Array Value) (mp : Nat) (i : Nat) (c : Nat) (src : Int) (loc : Int) (sx : Nat) (ln : Nat) (cp : Nat) (B1 : Nat) : Stable rCPCnt 5 rCPAnc rCPTrn (rCPR pb sb PC C mp i c src loc sx ln cp B1) := by
  intro k9 L9 α α' ix9 hk hcl hα hact ht
  have hp := act_places hact
  replace hp : ix9 ∈ [999, 1999, 2999, 3999, 4999, 4, 7] := hp
  simp only [List.mem_cons, List.not_mem_nil, or_false] at hp
  rcases hp with rfl | rfl | rfl | rfl | rfl | rfl | rfl
  · show rCPT999 pb sb PC C mp i c src loc sx ln cp B1 (Rega.ran L9 k9) α' = rCPT999 pb sb PC C mp i c src loc sx ln cp B1 L9 α
    unfold rCPT999
    have n10 : 10 ≠ k9 := fun e => ht (by rw [← e]; decide)
    rw [ran_ne n10]
    by_cases e10 : L9 10 = true
    · first | rw [if_pos e10, if_pos e10] | rw [if_pos e10]
      try simp only [hα 7 (ne_ran hk (hcl 10 e10 7 (by decide)))]
    first | rw [if_neg e10, if_neg e10] | rw [if_neg e10]
  · rfl
  · rfl
  · show rCPT3999 pb sb PC C mp i c src loc sx ln cp B1 (Rega.ran L9 k9) α' = rCPT3999 pb sb PC C mp i c src loc sx ln cp B1 L9 α
    unfold rCPT3999
    have n4 : 4 ≠ k9 := fun e => ht (by rw [← e]; decide)
    rw [ran_ne n4]
  · rfl
  · have e0 : L9 4 = true := act_lt hact (by decide)
    show row (α' 4) 214 #[.int .u32 src, .int .u32 (i : Int), .bool false, .bool false, .bool false] = row (α 4) 214 #[.int .u32 src, .int .u32 (i : Int), .bool false, .bool false, .bool false]
    simp only [hα 4 (ne_ran hk e0)]
  · have e0 : L9 7 = true := act_lt hact (by decide)
    show row (α' 7) 77 #[.iface 55 (.pointer (some ⟨α' 4, 0, none⟩)), .int .i32 loc, .slice (some ⟨sx, 0, none⟩) ln cp, .int .i32 0, .int .u8 0, .int .u8 0, .bool false, .bool false] = row (α 7) 77 #[.iface 55 (.pointer (some ⟨α 4, 0, none⟩)), .int .i32 loc, .slice (some ⟨sx, 0, none⟩) ln cp, .int .i32 0, .int .u8 0, .int .u8 0, .bool false, .bool false]
    simp only [hα 4 (ne_ran hk (hcl 7 e0 4 (by decide))), hα 7 (ne_ran hk e0)]
def callPowPost (pb sb n cap : Nat) (PC C : Array Value) (mp i c : Nat) (src loc : Int) (sx ln cp : Nat) (w0 : World) (X : Nat → Obj → Prop) (e : Ending) (w' : World) : Prop :=
  ∃ ca : Nat, ∃ b : Nat, e = .returned (.agg #[.iface 72 (.pointer (some ⟨ca, 0, none⟩)), .int .i32 loc]) ∧ Own w0 w' [row (pb) 207 PC, row (sb) 223 (bumped C i c), (mp, .map #[⟨.string ⟨#[95, 95, 112, 111, 119]⟩, .agg #[.int .i32 0, .int .u32 src, .int .u32 (i : Int)], 0⟩] 1), row (b) 214 #[.int .u32 src, .int .u32 (i : Int), .bool false, .bool false, .bool false], row (ca) 77 #[.iface 55 (.pointer (some ⟨b, 0, none⟩)), .int .i32 loc, .slice (some ⟨sx, 0, none⟩) ln cp, .int .i32 0, .int .u8 0, .int .u8 0, .bool false, .bool false]] X
set_option maxRecDepth 100000 in
set_option maxHeartbeats 1000000 in
theorem callPow (pb sb n cap : Nat) (PC C : Array Value) (mp i c : Nat) (src loc : Int) (sx ln cp : Nat) (w0 w : World) (X : Nat → Obj → Prop) (hO : Own w0 w [row (pb) 207 PC, row (sb) 223 C, (mp, .map #[⟨.string ⟨#[95, 95, 112, 111, 119]⟩, .agg #[.int .i32 0, .int .u32 src, .int .u32 (i : Int)], 0⟩] 1)] X) (hR : Ready PC sb n cap) (hn : n ≤ 4294967295) (hi : i < n) (hc : C[i * 10 + 4]? = some (.int .u32 (c : Int))) (hcm : c < 4294967295) (hm : PC[117]? = some (.map (some mp))) :
    Calls Tryd.prog 47 #[.pointer (some ⟨pb, 0, none⟩), .agg #[.int .i32 loc], .string ⟨#[95, 95, 112, 111, 119]⟩, .slice (some ⟨sx, 0, none⟩) ln cp] w (callPowPost pb sb n cap PC C mp i c src loc sx ln cp w0 X) := by
  go_enter Tryd.func47, Tryd.ntmps47
  go_wp2_with fail
  generalize hW : World.alloc _ _ = W2
  have hN : Own w0 W2 [row (w.heap.size + 1) 34 #[.nilIface, .int .i32 0], row (w.heap.size) 32 #[.int .i32 loc], row (pb) 207 PC, row (sb) 223 C, (mp, .map #[⟨.string ⟨#[95, 95, 112, 111, 119]⟩, .agg #[.int .i32 0, .int .u32 src, .int .u32 (i : Int)], 0⟩] 1)] X := by
    rw [← hW]
    exact ((hO).alloc' _ (w.heap.size) (by simp)).alloc' _ (w.heap.size + 1) (by simp)
  clear hW hO
  obtain ⟨B1, hB⟩ : ∃ n, n = w.heap.size := ⟨_, rfl⟩
  rw [← hB] at hN
  try rw [← hB]
  clear hB
  have hO := hN
  clear hN
  refine wp_region_own (e := rCPE pb sb PC C mp i c src loc sx ln cp B1) (anc := rCPAnc) (G := (fun L9 α u9 => OwnF w0 u9 (act rCPCnt 5 L9) (rCPR pb sb PC C mp i c src loc sx ln cp B1 L9 α) X)) (by kernel_rfl) (by kernel_rfl) (by kernel_rfl) (by kernel_rfl) (rCP_he pb sb PC C mp i c src loc sx ln cp B1) ?_ (RunsAll.all ?_) ?_
  · have hp : ∀ i, act rCPCnt 5 (fun _ => false) i → i ∈ [999, 1999, 2999, 3999, 4999] := by
      intro i hi
      have h9 : i % 1000 = 999 := by
        by_cases h : i % 1000 = 999
        · exact h
        · exact absurd (act_lt hi h) (by simp)
      unfold act at hi
      rw [if_pos h9] at hi
      simp only [List.mem_cons, List.not_mem_nil, or_false]
      omega
    refine hO.drew.family (fun i hi => ?_) (fun i j hi hj hij => ?_)
    · have := hp i hi
      simp only [List.mem_cons, List.not_mem_nil, or_false] at this
      rcases this with rfl | rfl | rfl | rfl | rfl <;> rfl
    · have h1 := hp i hi
      have h2 := hp j hj
      simp only [List.mem_cons, List.not_mem_nil, or_false] at h1 h2
      omega
  · refine ⟨?_, ?_, ?_, ?_, ?_, ?_, ?_, ?_, ?_, ?_, ?_, trivial⟩
    · intro L9 α a9 u9 K9 hL hcl hA hG hS h0 hK
      replace hL : L9 0 = false := hL
      have q5 : a9.tmps[5]? = some (.pointer (some ⟨B1, 0, none⟩)) := (h0 5 (by kernel_rfl)).trans rfl
      have s5 := Rega.eval_of q5
      have e0 : rCPR pb sb PC C mp i c src loc sx ln cp B1 L9 α 1999 = row (B1) 32 #[.int .i32 loc] := rfl
      have hr := hG.rowAt 1999 (act_base 1999 rfl) e0
      have c0 : u9.cell? ⟨B1, 0, none⟩ = some (.int .i32 loc) := hr.cell rfl
      clear hr e0
      go_simp
      exact hK _ α _ (fun _ _ => rfl) rfl (step_same (rCP_st pb sb PC C mp i c src loc sx ln cp B1) hL hcl rfl rfl hG)
    · intro L9 α a9 u9 K9 hL hcl hA hG hS h0 hK
      replace hL : L9 1 = false := hL
      have q0 : a9.tmps[0]? = some (.pointer (some ⟨pb, 0, none⟩)) := (h0 0 (by kernel_rfl)).trans rfl
      have s0 := Rega.eval_of q0
      go_simp
      exact hK _ α _ (fun _ _ => rfl) rfl (step_same (rCP_st pb sb PC C mp i c src loc sx ln cp B1) hL hcl rfl rfl hG)
    · intro L9 α a9 u9 K9 hL hcl hA hG hS h0 hK
      replace hL : L9 2 = false := hL
      have q5 : a9.tmps[5]? = some (.pointer (some ⟨B1, 0, none⟩)) := (h0 5 (by kernel_rfl)).trans rfl
      have s5 := Rega.eval_of q5
      have e0 : rCPR pb sb PC C mp i c src loc sx ln cp B1 L9 α 1999 = row (B1) 32 #[.int .i32 loc] := rfl
      have hr := hG.rowAt 1999 (act_base 1999 rfl) e0
      have c0 : u9.cell? ⟨B1, 0, none⟩ = some (.int .i32 loc) := hr.cell rfl
      clear hr e0
      go_simp
      exact hK _ α _ (fun _ _ => rfl) rfl (step_same (rCP_st pb sb PC C mp i c src loc sx ln cp B1) hL hcl rfl rfl hG)
    · intro L9 α a9 u9 K9 hL hcl hA hG hS h0 hK
      replace hL : L9 3 = false := hL
      have q2 : a9.tmps[2]? = some (.string ⟨#[95, 95, 112, 111, 119]⟩) := (h0 2 (by kernel_rfl)).trans rfl
      have s2 := Rega.eval_of q2
      go_simp
      exact hK _ α _ (fun _ _ => rfl) rfl (step_same (rCP_st pb sb PC C mp i c src loc sx ln cp B1) hL hcl rfl rfl hG)
    · intro L9 α a9 u9 K9 hL hcl hA hG hS h0 hK
      replace hL : L9 4 = false := hL
      have q10 : a9.tmps[10]? = some (.pointer (some ⟨pb, 0, none⟩)) := hS 1 10 (by decide) rfl (by show 10 < 19; decide)
      have s10 := Rega.eval_of q10
      have q11 : a9.tmps[11]? = some (.agg #[.int .i32 loc]) := hS 2 11 (by decide) rfl (by show 11 < 19; decide)
      have s11 := Rega.eval_of q11
      have q12 : a9.tmps[12]? = some (.string ⟨#[95, 95, 112, 111, 119]⟩) := hS 3 12 (by decide) rfl (by show 12 < 19; decide)
      have s12 := Rega.eval_of q12
      go_simp
      have e0 : rCPR pb sb PC C mp i c src loc sx ln cp B1 L9 α 2999 = row (pb) 207 PC := rfl
      have e1 : rCPR pb sb PC C mp i c src loc sx ln cp B1 L9 α 3999 = row (sb) 223 C := by
        show rCPT3999 pb sb PC C mp i c src loc sx ln cp B1 L9 α = _
        unfold rCPT3999
        rw [if_neg (by rw [hL]; decide)]
      have e2 : rCPR pb sb PC C mp i c src loc sx ln cp B1 L9 α 4999 = (mp, .map #[⟨.string ⟨#[95, 95, 112, 111, 119]⟩, .agg #[.int .i32 0, .int .u32 src, .int .u32 (i : Int)], 0⟩] 1) := rfl
      have hM : ∀ i, i ∈ [2999, 3999, 4999] → act rCPCnt 5 L9 i := by
        intro i hi
        simp only [List.mem_cons, List.not_mem_nil, or_false] at hi
        rcases hi with rfl | rfl | rfl
        · exact act_base 2999 rfl
        · exact act_base 3999 rfl
        · exact act_base 4999 rfl
      have hP : Own w0 u9 [row (pb) 207 PC, row (sb) 223 C, (mp, .map #[⟨.string ⟨#[95, 95, 112, 111, 119]⟩, .agg #[.int .i32 0, .int .u32 src, .int .u32 (i : Int)], 0⟩] 1)] _ := (hG.pick [2999, 3999, 4999] (by decide) hM).conv (by
        show [rCPR pb sb PC C mp i c src loc sx ln cp B1 L9 α 2999, rCPR pb sb PC C mp i c src loc sx ln cp B1 L9 α 3999, rCPR pb sb PC C mp i c src loc sx ln cp B1 L9 α 4999] = _
        rw [e0, e1, e2])
      clear e0 e1 e2 hM
      refine Calls.mono (importPow pb sb n cap PC C mp i c src loc _ _ _ hP hR hn hi hc hcm hm) ?_
      rintro e9 u1 ⟨b0, rfl, hQ⟩
      obtain ⟨α', hα'⟩ : ∃ α' : Rega.Atoms, α' = (fun j => if j = 4 then b0 else α j) := ⟨_, rfl⟩
      have f0 : rCPR pb sb PC C mp i c src loc sx ln cp B1 (Rega.ran L9 4) α' 2999 = row (pb) 207 PC := rfl
      have f1 : rCPR pb sb PC C mp i c src loc sx ln cp B1 (Rega.ran L9 4) α' 3999 = row (sb) 223 (bumped C i c) := by
        show rCPT3999 pb sb PC C mp i c src loc sx ln cp B1 (Rega.ran L9 4) α' = _
        unfold rCPT3999
        rw [if_pos (show Rega.ran L9 4 4 = true from rfl)]
      have f2 : rCPR pb sb PC C mp i c src loc sx ln cp B1 (Rega.ran L9 4) α' 4999 = (mp, .map #[⟨.string ⟨#[95, 95, 112, 111, 119]⟩, .agg #[.int .i32 0, .int .u32 src, .int .u32 (i : Int)], 0⟩] 1) := rfl
      have f3 : rCPR pb sb PC C mp i c src loc sx ln cp B1 (Rega.ran L9 4) α' 4 = row (α' 4) 214 #[.int .u32 src, .int .u32 (i : Int), .bool false, .bool false, .bool false] := rfl
      have hα : ∀ j, j % 1000 ≠ 4 → α' j = α j := fun j hj => by rw [hα']; simp only []; rw [if_neg (by omega)]
      have hb0 : α' 4 = b0 := by rw [hα']; rfl
      skip
      refine hK _ α' _ hα ?_ (step_call (rCP_st pb sb PC C mp i c src loc sx ln cp B1) hL hcl hα [2999, 3999, 4999] [2999, 3999, 4999, 4] (by decide) (by decide) (by decide) (M := _) ?_ hG hQ)
      · show _ = (.agg #[.iface 55 (.pointer (some ⟨α' 4, 0, none⟩)), .int .i32 loc] : Value)
        simp only [hb0]
      · show [rCPR pb sb PC C mp i c src loc sx ln cp B1 (Rega.ran L9 4) α' 2999, rCPR pb sb PC C mp i c src loc sx ln cp B1 (Rega.ran L9 4) α' 3999, rCPR pb sb PC C mp i c src loc sx ln cp B1 (Rega.ran L9 4) α' 4999, rCPR pb sb PC C mp i c src loc sx ln cp B1 (Rega.ran L9 4) α' 4] = _
        rw [f0, f1, f2, f3]
        simp only [hb0]
    · intro L9 α a9 u9 K9 hL hcl hA hG hS h0 hK
      replace hL : L9 5 = false := hL
      have q3 : a9.tmps[3]? = some (.slice (some ⟨sx, 0, none⟩) ln cp) := (h0 3 (by kernel_rfl)).trans rfl
      have s3 := Rega.eval_of q3
      go_simp
      exact hK _ α _ (fun _ _ => rfl) rfl (step_same (rCP_st pb sb PC C mp i c src loc sx ln cp B1) hL hcl rfl rfl hG)
    · intro L9 α a9 u9 K9 hL hcl hA hG hS h0 hK
      replace hL : L9 6 = false := hL
      have q13 : a9.tmps[13]? = some (.agg #[.iface 55 (.pointer (some ⟨α 4, 0, none⟩)), .int .i32 loc]) := hS 4 13 (by decide) rfl (by show 13 < 19; decide)
      have s13 := Rega.eval_of q13
      have q14 : a9.tmps[14]? = some (.slice (some ⟨sx, 0, none⟩) ln cp) := hS 5 14 (by decide) rfl (by show 14 < 19; decide)
      have s14 := Rega.eval_of q14
      go_simp
      exact hK _ α _ (fun _ _ => rfl) rfl (step_same (rCP_st pb sb PC C mp i c src loc sx ln cp B1) hL hcl rfl rfl hG)
    · intro L9 α a9 u9 K9 hL hcl hA hG hS h0 hK
      replace hL : L9 7 = false := hL
      have q15 : a9.tmps[15]? = some (.agg #[.iface 55 (.pointer (some ⟨α 4, 0, none⟩)), .int .i32 loc, .slice (some ⟨sx, 0, none⟩) ln cp, .int .i32 0, .int .u8 0, .int .u8 0, .bool false, .bool false]) := hS 6 15 (by decide) rfl (by show 15 < 19; decide)
      have s15 := Rega.eval_of q15
      go_simp
      exact hK _ (fun j => if j = 7 then u9.heap.size else α j) _ (fun j hj => if_neg (fun e => hj (by rw [e]))) rfl (step_alloc (rCP_st pb sb PC C mp i c src loc sx ln cp B1) hL hcl rfl rfl (by decide) _ rfl hG)
    · intro L9 α a9 u9 K9 hL hcl hA hG hS h0 hK
      replace hL : L9 8 = false := hL
      have q16 : a9.tmps[16]? = some (.pointer (some ⟨α 7, 0, none⟩)) := hS 7 16 (by decide) rfl (by show 16 < 19; decide)
      have s16 := Rega.eval_of q16
      go_simp
      exact hK _ α _ (fun _ _ => rfl) rfl (step_same (rCP_st pb sb PC C mp i c src loc sx ln cp B1) hL hcl rfl rfl hG)
    · intro L9 α a9 u9 K9 hL hcl hA hG hS h0 hK
      replace hL : L9 9 = false := hL
      have q9 : a9.tmps[9]? = some (.agg #[.int .i32 loc]) := hS 0 9 (by decide) rfl (by show 9 < 19; decide)
      have s9 := Rega.eval_of q9
      have q17 : a9.tmps[17]? = some (.iface 72 (.pointer (some ⟨α 7, 0, none⟩))) := hS 8 17 (by decide) rfl (by show 17 < 19; decide)
      have s17 := Rega.eval_of q17
      go_simp
      exact hK _ α _ (fun _ _ => rfl) rfl (step_same (rCP_st pb sb PC C mp i c src loc sx ln cp B1) hL hcl rfl rfl hG)
    · intro L9 α a9 u9 K9 hL hcl hA hG hS h0 hK
      replace hL : L9 10 = false := hL
      have q8 : a9.tmps[8]? = some (.pointer (some ⟨B1 + 1, 0, none⟩)) := (h0 8 (by kernel_rfl)).trans rfl
      have s8 := Rega.eval_of q8
      have q18 : a9.tmps[18]? = some (.agg #[.iface 72 (.pointer (some ⟨α 7, 0, none⟩)), .int .i32 loc]) := hS 9 18 (by decide) rfl (by show 18 < 19; decide)
      have s18 := Rega.eval_of q18
      have e0 : rCPR pb sb PC C mp i c src loc sx ln cp B1 L9 α 999 = row (B1 + 1) 34 #[.nilIface, .int .i32 0] := by
        show rCPT999 pb sb PC C mp i c src loc sx ln cp B1 L9 α = _
        unfold rCPT999
        rw [if_neg (by rw [hL]; decide)]
      have hr := hG.rowAt 999 (act_base 999 rfl) e0
      have c0 : u9.cell? ⟨B1 + 1, 0, none⟩ = some (.nilIface) := hr.cell rfl
      have y0 : u9.frozen? ⟨B1 + 1, 0, none⟩ = false := hr.free 0
      have c1 : u9.cell? ⟨B1 + 1, 1, none⟩ = some (.int .i32 0) := hr.cell rfl
      have y1 : u9.frozen? ⟨B1 + 1, 1, none⟩ = false := hr.free 1
      clear hr
      have E0 := Lib.hid e0
      clear e0
      go_simp
      have e1 : rCPR pb sb PC C mp i c src loc sx ln cp B1 (Rega.ran L9 10) α 999 = row (B1 + 1) 34 #[.iface 72 (.pointer (some ⟨α 7, 0, none⟩)), .int .i32 loc] := by
        show rCPT999 pb sb PC C mp i c src loc sx ln cp B1 (Rega.ran L9 10) α = _
        unfold rCPT999
        rw [if_pos (show Rega.ran L9 10 10 = true from rfl)]
      exact hK _ α _ (fun _ _ => rfl) rfl (step_sets (rCP_st pb sb PC C mp i c src loc sx ln cp B1) hL hcl rfl 999 rfl (act_base 999 rfl) E0.out 0 [.iface 72 (.pointer (some ⟨α 7, 0, none⟩)), .int .i32 loc] (e1.trans rfl) hG)
  · intro α u hG
    have e0 : rCPR pb sb PC C mp i c src loc sx ln cp B1 (fun k => decide (k < 11)) α 999 = row (B1 + 1) 34 #[.iface 72 (.pointer (some ⟨α 7, 0, none⟩)), .int .i32 loc] := by
      show rCPT999 pb sb PC C mp i c src loc sx ln cp B1 (fun k => decide (k < 11)) α = _
      unfold rCPT999
      rw [if_pos (by decide)]
    have e1 : rCPR pb sb PC C mp i c src loc sx ln cp B1 (fun k => decide (k < 11)) α 1999 = row (B1) 32 #[.int .i32 loc] := rfl
    have e2 : rCPR pb sb PC C mp i c src loc sx ln cp B1 (fun k => decide (k < 11)) α 2999 = row (pb) 207 PC := rfl
    have e3 : rCPR pb sb PC C mp i c src loc sx ln cp B1 (fun k => decide (k < 11)) α 3999 = row (sb) 223 (bumped C i c) := by
      show rCPT3999 pb sb PC C mp i c src loc sx ln cp B1 (fun k => decide (k < 11)) α = _
      unfold rCPT3999
      rw [if_pos (by decide)]
    have e4 : rCPR pb sb PC C mp i c src loc sx ln cp B1 (fun k => decide (k < 11)) α 4999 = (mp, .map #[⟨.string ⟨#[95, 95, 112, 111, 119]⟩, .agg #[.int .i32 0, .int .u32 src, .int .u32 (i : Int)], 0⟩] 1) := rfl
    have e5 : rCPR pb sb PC C mp i c src loc sx ln cp B1 (fun k => decide (k < 11)) α 4 = row (α 4) 214 #[.int .u32 src, .int .u32 (i : Int), .bool false, .bool false, .bool false] := rfl
    have e6 : rCPR pb sb PC C mp i c src loc sx ln cp B1 (fun k => decide (k < 11)) α 7 = row (α 7) 77 #[.iface 55 (.pointer (some ⟨α 4, 0, none⟩)), .int .i32 loc, .slice (some ⟨sx, 0, none⟩) ln cp, .int .i32 0, .int .u8 0, .int .u8 0, .bool false, .bool false] := rfl
    have hO : Own w0 u [row (B1 + 1) 34 #[.iface 72 (.pointer (some ⟨α 7, 0, none⟩)), .int .i32 loc], row (B1) 32 #[.int .i32 loc], row (pb) 207 PC, row (sb) 223 (bumped C i c), (mp, .map #[⟨.string ⟨#[95, 95, 112, 111, 119]⟩, .agg #[.int .i32 0, .int .u32 src, .int .u32 (i : Int)], 0⟩] 1), row (α 4) 214 #[.int .u32 src, .int .u32 (i : Int), .bool false, .bool false, .bool false], row (α 7) 77 #[.iface 55 (.pointer (some ⟨α 4, 0, none⟩)), .int .i32 loc, .slice (some ⟨sx, 0, none⟩) ln cp, .int .i32 0, .int .u8 0, .int .u8 0, .bool false, .bool false]] X := (hG.list [999, 1999, 2999, 3999, 4999, 4, 7] (by decide) (act_all (by decide))).conv (by
      show [rCPR pb sb PC C mp i c src loc sx ln cp B1 (fun k => decide (k < 11)) α 999, rCPR pb sb PC C mp i c src loc sx ln cp B1 (fun k => decide (k < 11)) α 1999, rCPR pb sb PC C mp i c src loc sx ln cp B1 (fun k => decide (k < 11)) α 2999, rCPR pb sb PC C mp i c src loc sx ln cp B1 (fun k => decide (k < 11)) α 3999, rCPR pb sb PC C mp i c src loc sx ln cp B1 (fun k => decide (k < 11)) α 4999, rCPR pb sb PC C mp i c src loc sx ln cp B1 (fun k => decide (k < 11)) α 4, rCPR pb sb PC C mp i c src loc sx ln cp B1 (fun k => decide (k < 11)) α 7] = _
      rw [e0, e1, e2, e3, e4, e5, e6])
    clear hG e0 e1 e2 e3 e4 e5 e6
    generalize hfr : Rega.frameAt _ _ _ _ _ = fr
    have hdf : fr = ⟨#[.pointer (some ⟨pb, 0, none⟩), .agg #[.int .i32 loc], .string ⟨#[95, 95, 112, 111, 119]⟩, .slice (some ⟨sx, 0, none⟩) ln cp, undef, .pointer (some ⟨B1, 0, none⟩), undef, undef, .pointer (some ⟨B1 + 1, 0, none⟩), .agg #[.int .i32 loc], .pointer (some ⟨pb, 0, none⟩), .agg #[.int .i32 loc], .string ⟨#[95, 95, 112, 111, 119]⟩, .agg #[.iface 55 (.pointer (some ⟨α 4, 0, none⟩)), .int .i32 loc], .slice (some ⟨sx, 0, none⟩) ln cp, .agg #[.iface 55 (.pointer (some ⟨α 4, 0, none⟩)), .int .i32 loc, .slice (some ⟨sx, 0, none⟩) ln cp, .int .i32 0, .int .u8 0, .int .u8 0, .bool false, .bool false], .pointer (some ⟨α 7, 0, none⟩), .iface 72 (.pointer (some ⟨α 7, 0, none⟩)), .agg #[.iface 72 (.pointer (some ⟨α 7, 0, none⟩)), .int .i32 loc]], []⟩ := by rw [← hfr]; kernel_rfl
    clear hfr
    subst hdf
    generalize α 4 = nd3 at hO ⊢
    generalize α 7 = nd4 at hO ⊢
    clear α
    have c9_0_0 : u.cell? ⟨B1 + 1, 0, none⟩ = some (.iface 72 (.pointer (some ⟨nd4, 0, none⟩))) := hO.cell 0 rfl 0 rfl
    have c9_0_1 : u.cell? ⟨B1 + 1, 1, none⟩ = some (.int .i32 loc) := hO.cell 0 rfl 1 rfl
    have lt9_0 : B1 + 1 < u.heap.size := hO.lt 0 rfl
    have y9_0 : ∀ o, u.frozen? ⟨B1 + 1, o, none⟩ = false := hO.free 0 rfl
    have c9_1_0 : u.cell? ⟨B1, 0, none⟩ = some (.int .i32 loc) := hO.cell 1 rfl 0 rfl
    have lt9_1 : B1 < u.heap.size := hO.lt 1 rfl
    have y9_1 : ∀ o, u.frozen? ⟨B1, o, none⟩ = false := hO.free 1 rfl
    have c9_5_0 : u.cell? ⟨nd3, 0, none⟩ = some (.int .u32 src) := hO.cell 5 rfl 0 rfl
    have c9_5_1 : u.cell? ⟨nd3, 1, none⟩ = some (.int .u32 (i : Int)) := hO.cell 5 rfl 1 rfl
    have c9_5_2 : u.cell? ⟨nd3, 2, none⟩ = some (.bool false) := hO.cell 5 rfl 2 rfl
    have c9_5_3 : u.cell? ⟨nd3, 3, none⟩ = some (.bool false) := hO.cell 5 rfl 3 rfl
    have c9_5_4 : u.cell? ⟨nd3, 4, none⟩ = some (.bool false) := hO.cell 5 rfl 4 rfl
    have lt9_5 : nd3 < u.heap.size := hO.lt 5 rfl
    have y9_5 : ∀ o, u.frozen? ⟨nd3, o, none⟩ = false := hO.free 5 rfl
    have c9_6_0 : u.cell? ⟨nd4, 0, none⟩ = some (.iface 55 (.pointer (some ⟨nd3, 0, none⟩))) := hO.cell 6 rfl 0 rfl
    have c9_6_1 : u.cell? ⟨nd4, 1, none⟩ = some (.int .i32 loc) := hO.cell 6 rfl 1 rfl
    have c9_6_2 : u.cell? ⟨nd4, 2, none⟩ = some (.slice (some ⟨sx, 0, none⟩) ln cp) := hO.cell 6 rfl 2 rfl
    have c9_6_3 : u.cell? ⟨nd4, 3, none⟩ = some (.int .i32 0) := hO.cell 6 rfl 3 rfl
    have c9_6_4 : u.cell? ⟨nd4, 4, none⟩ = some (.int .u8 0) := hO.cell 6 rfl 4 rfl
    have c9_6_5 : u.cell? ⟨nd4, 5, none⟩ = some (.int .u8 0) := hO.cell 6 rfl 5 rfl
    have c9_6_6 : u.cell? ⟨nd4, 6, none⟩ = some (.bool false) := hO.cell 6 rfl 6 rfl
    have c9_6_7 : u.cell? ⟨nd4, 7, none⟩ = some (.bool false) := hO.cell 6 rfl 7 rfl
    have lt9_6 : nd4 < u.heap.size := hO.lt 6 rfl
    have y9_6 : ∀ o, u.frozen? ⟨nd4, o, none⟩ = false := hO.free 6 rfl
    have HO := Lib.hid hO
    clear hO
    go_wp2_with fail
    have hO := HO.out
    clear HO c9_0_0 c9_0_1 lt9_0 y9_0 c9_1_0 lt9_1 y9_1 c9_5_0 c9_5_1 c9_5_2 c9_5_3 c9_5_4 lt9_5 y9_5 c9_6_0 c9_6_1 c9_6_2 c9_6_3 c9_6_4 c9_6_5 c9_6_6 c9_6_7 lt9_6 y9_6
    have z9_0_0 : u.cell? ⟨B1 + 1, 0, none⟩ = some (.iface 72 (.pointer (some ⟨nd4, 0, none⟩))) := hO.cell 0 rfl 0 rfl
    have z9_0_1 : u.cell? ⟨B1 + 1, 1, none⟩ = some (.int .i32 loc) := hO.cell 0 rfl 1 rfl
    refine bodyPost_ret (v := .agg #[.iface 72 (.pointer (some ⟨nd4, 0, none⟩)), .int .i32 loc]) ?_ rfl ⟨nd4, nd3, rfl, hO.sub [2, 3, 4, 5, 6] (by decide)⟩
    simp [results, Tryd.results47, go_sem, z9_0_0, z9_0_1]
end Go.Proofs.YtlgefnjkoklboaaDoor.Use
