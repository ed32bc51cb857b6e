/- Helpers that are imported already. No condition. -/
import Derived.Test.YtkhmjppfogppoaaDoorLive
namespace Go.Proofs.YtkhmjppfogppoaaDoor.Use
open Go.ChangeShapes Go.WideShapes Go.ChangeAt Go.RowKit Go.Sort Own
set_option linter.unusedVariables false
def impHPost (pb : Nat) (PC : Array Value) (sb c : Nat) (st : List Sy) (n mp : Nat) (es : Array MapEntry) (k : Nat) (loc : Int) (nm : ByteArray) (q : Nat) (il rs : Int) (i : Nat) (w0 : World) (X : Nat → Obj → Prop) (e : Ending) (w' : World) : Prop :=
  ∃ b : Nat, e = .returned (.agg #[.iface 209 (.pointer (some ⟨b, 0, none⟩)), .int .i32 loc]) ∧ Own w0 w' [row (pb) 193 PC, row (sb) 56 (full symZ (symL (bump st i)) c), (mp, .map es k), row (b) 211 #[.int .u32 rs, .int .u32 (i : Int), .bool false, .bool false, .bool false]] X
set_option maxRecDepth 100000 in
set_option maxHeartbeats 1000000 in
theorem impH (pb : Nat) (PC : Array Value) (sb c : Nat) (st : List Sy) (n mp : Nat) (es : Array MapEntry) (k : Nat) (loc : Int) (nm : ByteArray) (q : Nat) (il rs : Int) (i : Nat) (w0 w : World) (X : Nat → Obj → Prop) (hO : Own w0 w [row (pb) 193 PC, row (sb) 56 (full symZ (symL st) c), (mp, .map es k)] X) (hk350 : PC[350]? = some (.bool false)) (hk32 : PC[32]? = some (.bool false)) (hk105 : PC[105]? = some (.pointer none)) (hk117 : PC[117]? = some (.map (some mp))) (hk106 : PC[106]? = some (.slice (some ⟨sb, 0, none⟩) n (n + c))) (hn : st.length = n) (hnb : n ≤ 4000000) (hu : ∃ s, st[i]? = some s ∧ s.uc < 4294967295) (hyes : Instr.findNow .string (.string nm) es.toList 0 = some (some (q, .agg #[.int .i32 il, .int .u32 rs, .int .u32 (i : Int)]))) :
    Calls Tryd.prog 55 #[.pointer (some ⟨pb, 0, none⟩), .agg #[.int .i32 loc], .string nm] w (impHPost pb PC sb c st n mp es k loc nm q il rs i w0 X) := by
  go_enter Tryd.func55, Tryd.ntmps55
  have c9_0_32 : w.cell? ⟨pb, 32, none⟩ = some (.bool false) := hO.cell 0 rfl 32 (hk32)
  have c9_0_105 : w.cell? ⟨pb, 105, none⟩ = some (.pointer none) := hO.cell 0 rfl 105 (hk105)
  have c9_0_106 : w.cell? ⟨pb, 106, none⟩ = some (.slice (some ⟨sb, 0, none⟩) n (n + c)) := hO.cell 0 rfl 106 (hk106)
  have c9_0_117 : w.cell? ⟨pb, 117, none⟩ = some (.map (some mp)) := hO.cell 0 rfl 117 (hk117)
  have c9_0_350 : w.cell? ⟨pb, 350, none⟩ = some (.bool false) := hO.cell 0 rfl 350 (hk350)
  have lt9_0 : pb < w.heap.size := hO.lt 0 rfl
  have y9_0 : ∀ o, w.frozen? ⟨pb, o, none⟩ = false := hO.free 0 rfl
  have HO := Lib.hid hO
  clear hO
  go_wp2_with (at_lookup; refine wpList_lookup_yes rfl _ _ 150 true rfl 9 200 (by kernel_rfl) (by kernel_rfl) (((HO.out.mapAt 2 rfl).alloc _).alloc _) rfl _ rfl q (.agg #[.int .i32 il, .int .u32 rs, .int .u32 (i : Int)]) hyes ?_)
  have hO := HO.out
  clear HO c9_0_32 c9_0_105 c9_0_106 c9_0_117 c9_0_350 lt9_0 y9_0
  generalize hW : World.alloc _ _ = W2
  have hN : Own w0 W2 [row (w.heap.size + 1 + 1) 200 #[.int .i32 il, .int .u32 rs, .int .u32 (i : Int)], row (w.heap.size + 1) 35 #[.nilIface, .int .i32 0], row (w.heap.size) 31 #[.int .i32 loc], row (pb) 193 PC, row (sb) 56 (full symZ (symL st) c), (mp, .map es k)] X := by
    rw [← hW]
    exact (((hO).alloc' _ (w.heap.size) (by simp)).alloc' _ (w.heap.size + 1) (by simp)).alloc' _ (w.heap.size + 1 + 1) (by simp)
  clear hW hO
  generalize w.heap.size + 1 + 1 = B1_2 at hN ⊢
  generalize w.heap.size + 1 = B1_1 at hN ⊢
  generalize w.heap.size = B1 at hN ⊢
  have hO := hN
  clear hN
  have hL := hO.apart
  have hX := hO.apartX
  have HL := Lib.hid hL
  have HX := Lib.hid hX
  clear hL hX
  have hP9 := hO.pick [3, 4] (by decide)
  have T9 := useG pb PC sb c st n rs i _ _ _ hP9 hk350 hk32 hk105 hk106 hn hnb hu
  refine Calls.mono T9 ?_
  clear hP9 T9
  rintro e u3 ⟨rfl, hQ⟩
  have hN : Own w0 u3 [row (pb) 193 PC, row (sb) 56 (full symZ (symL (bump st i)) c), row (B1_2) 200 #[.int .i32 il, .int .u32 rs, .int .u32 (i : Int)], row (B1_1) 35 #[.nilIface, .int .i32 0], row (B1) 31 #[.int .i32 loc], (mp, .map es k)] X := hQ.back HL.out HX.out [0, 1, 2, 5] (by decide) (by decide)
  clear hQ HL HX hO
  have hO := hN
  clear hN
  have c9_0_32 : u3.cell? ⟨pb, 32, none⟩ = some (.bool false) := hO.cell 0 rfl 32 (hk32)
  have c9_0_105 : u3.cell? ⟨pb, 105, none⟩ = some (.pointer none) := hO.cell 0 rfl 105 (hk105)
  have c9_0_106 : u3.cell? ⟨pb, 106, none⟩ = some (.slice (some ⟨sb, 0, none⟩) n (n + c)) := hO.cell 0 rfl 106 (hk106)
  have c9_0_117 : u3.cell? ⟨pb, 117, none⟩ = some (.map (some mp)) := hO.cell 0 rfl 117 (hk117)
  have c9_0_350 : u3.cell? ⟨pb, 350, none⟩ = some (.bool false) := hO.cell 0 rfl 350 (hk350)
  have lt9_0 : pb < u3.heap.size := hO.lt 0 rfl
  have y9_0 : ∀ o, u3.frozen? ⟨pb, o, none⟩ = false := hO.free 0 rfl
  obtain ⟨c9_2_0, c9_2_1, c9_2_2, lt9_2, y9_2, -⟩ := hO.k3 2 rfl
  obtain ⟨c9_3_0, c9_3_1, lt9_3, y9_3, -⟩ := hO.k2 3 rfl
  obtain ⟨c9_4_0, lt9_4, y9_4, -⟩ := hO.k1 4 rfl
  have HO := Lib.hid hO
  clear hO
  go_wp2_with (at_lookup; refine wpList_lookup_yes rfl _ _ 150 true rfl 9 200 (by kernel_rfl) (by kernel_rfl) (((HO.out.mapAt 2 rfl).alloc _).alloc _) rfl _ rfl q (.agg #[.int .i32 il, .int .u32 rs, .int .u32 (i : Int)]) hyes ?_)
  have hO := HO.out
  clear HO c9_0_32 c9_0_105 c9_0_106 c9_0_117 c9_0_350 lt9_0 y9_0 c9_2_0 c9_2_1 c9_2_2 lt9_2 y9_2 c9_3_0 c9_3_1 lt9_3 y9_3 c9_4_0 lt9_4 y9_4
  generalize hW : World.alloc _ _ = W5
  have hN : Own w0 W5 [row (u3.heap.size) 211 #[.int .u32 rs, .int .u32 (i : Int), .bool false, .bool false, .bool false], row (pb) 193 PC, row (sb) 56 (full symZ (symL (bump st i)) c), row (B1_2) 200 #[.int .i32 il, .int .u32 rs, .int .u32 (i : Int)], row (B1_1) 35 #[.iface 209 (.pointer (some ⟨u3.heap.size, 0, none⟩)), .int .i32 loc], row (B1) 31 #[.int .i32 loc], (mp, .map es k)] X := by
    rw [← hW]
    exact (((hO).set 3 rfl 0 _).set 3 rfl 1 _).alloc' _ (u3.heap.size) (by simp)
  clear hW hO
  generalize u3.heap.size = B4 at hN ⊢
  have hO := hN
  clear hN
  have z9_4_0 : W5.cell? ⟨B1_1, 0, none⟩ = some (.iface 209 (.pointer (some ⟨B4, 0, none⟩))) := hO.cell 4 rfl 0 rfl
  have z9_4_1 : W5.cell? ⟨B1_1, 1, none⟩ = some (.int .i32 loc) := hO.cell 4 rfl 1 rfl
  refine bodyPost_ret (v := .agg #[.iface 209 (.pointer (some ⟨B4, 0, none⟩)), .int .i32 loc]) ?_ rfl ⟨B4, rfl, hO.sub [1, 2, 6, 0] (by decide)⟩
  simp [results, Tryd.results55, go_sem, z9_4_0, z9_4_1]
def rcallH1E (pb : Nat) (PC : Array Value) (sb : Nat) (c : Nat) (st : List Sy) (mp : Nat) (es : Array MapEntry) (k : Nat) (loc : Int) (nm : ByteArray) (rs : Int) (i : Nat) (sx : Nat) (ln : Nat) (cp : Nat) (B1_1 : Nat) (B1 : Nat) : Nat → Rega.Atoms → Value
  | 0, α => .agg #[.int .i32 loc]
  | 1, α => .pointer (some ⟨pb, 0, none⟩)
  | 2, α => .agg #[.int .i32 loc]
  | 3, α => .string nm
  | 4, α => .agg #[.iface 209 (.pointer (some ⟨α 4, 0, none⟩)), .int .i32 loc]
  | 5, α => .slice (some ⟨sx, 0, none⟩) ln cp
  | 6, α => .agg #[.iface 209 (.pointer (some ⟨α 4, 0, none⟩)), .int .i32 loc, .slice (some ⟨sx, 0, none⟩) ln cp, .int .i32 0, .int .u8 0, .int .u8 0, .bool false, .bool false]
  | 7, α => .pointer (some ⟨α 7, 0, none⟩)
  | 8, α => .iface 65 (.pointer (some ⟨α 7, 0, none⟩))
  | 9, α => .agg #[.iface 65 (.pointer (some ⟨α 7, 0, none⟩)), .int .i32 loc]
  | 10, α => undef
  | _, _ => undef
def rcallH1Anc : Nat → List Nat
  | 4 => [1, 2, 3]
  | 6 => [1, 2, 3, 4, 5]
  | 7 => [1, 2, 3, 4, 5, 6]
  | 8 => [1, 2, 3, 4, 5, 6, 7]
  | 9 => [0, 1, 2, 3, 4, 5, 6, 7, 8]
  | 10 => [0, 1, 2, 3, 4, 5, 6, 7, 8, 9]
  | _ => []
def rcallH1Trn : Nat → List Nat
  | 4 => [3999]
  | 10 => [999]
  | _ => []
def rcallH1Cnt : List (Nat × Nat) := [(4, 1), (7, 1)]
def rcallH1T999 (pb : Nat) (PC : Array Value) (sb : Nat) (c : Nat) (st : List Sy) (mp : Nat) (es : Array MapEntry) (k : Nat) (loc : Int) (nm : ByteArray) (rs : Int) (i : Nat) (sx : Nat) (ln : Nat) (cp : Nat) (B1_1 : Nat) (B1 : Nat) (L9 : Nat → Bool) (α : Rega.Atoms) : Rw := if L9 10 = true then row (B1_1) 35 #[.iface 65 (.pointer (some ⟨α 7, 0, none⟩)), .int .i32 loc] else row (B1_1) 35 #[.nilIface, .int .i32 0]
def rcallH1T3999 (pb : Nat) (PC : Array Value) (sb : Nat) (c : Nat) (st : List Sy) (mp : Nat) (es : Array MapEntry) (k : Nat) (loc : Int) (nm : ByteArray) (rs : Int) (i : Nat) (sx : Nat) (ln : Nat) (cp : Nat) (B1_1 : Nat) (B1 : Nat) (L9 : Nat → Bool) (α : Rega.Atoms) : Rw := if L9 4 = true then row (sb) 56 (full symZ (symL (bump st i)) c) else row (sb) 56 (full symZ (symL st) c)
def rcallH1R (pb : Nat) (PC : Array Value) (sb : Nat) (c : Nat) (st : List Sy) (mp : Nat) (es : Array MapEntry) (k : Nat) (loc : Int) (nm : ByteArray) (rs : Int) (i : Nat) (sx : Nat) (ln : Nat) (cp : Nat) (B1_1 : Nat) (B1 : Nat) (L9 : Nat → Bool) (α : Rega.Atoms) (ix9 : Nat) : Rw := if ix9 = 999 then rcallH1T999 pb PC sb c st mp es k loc nm rs i sx ln cp B1_1 B1 L9 α else if ix9 = 1999 then row (B1) 31 #[.int .i32 loc] else if ix9 = 2999 then row (pb) 193 PC else if ix9 = 3999 then rcallH1T3999 pb PC sb c st mp es k loc nm rs i sx ln cp B1_1 B1 L9 α else if ix9 = 4999 then (mp, .map es k) else if ix9 = 4 then row (α 4) 211 #[.int .u32 rs, .int .u32 (i : Int), .bool false, .bool false, .bool false] else if ix9 = 7 then row (α 7) 71 #[.iface 209 (.pointer (some ⟨α 4, 0, none⟩)), .int .i32 loc, .slice (some ⟨sx, 0, none⟩) ln cp, .int .i32 0, .int .u8 0, .int .u8 0, .bool false, .bool false] else (0, .map #[] 0)
theorem rcallH1_he (pb : Nat) (PC : Array Value) (sb : Nat) (c : Nat) (st : List Sy) (mp : Nat) (es : Array MapEntry) (k : Nat) (loc : Int) (nm : ByteArray) (rs : Int) (i : Nat) (sx : Nat) (ln : Nat) (cp : Nat) (B1_1 : Nat) (B1 : Nat) : ∀ kk α α', (∀ j, (j % 1000 = kk ∨ j % 1000 ∈ rcallH1Anc kk) → α j = α' j) → rcallH1E pb PC sb c st mp es k loc nm rs i sx ln cp B1_1 B1 kk α = rcallH1E pb PC sb c st mp es k loc nm rs i sx ln cp B1_1 B1 kk α' := by
  intro kk α α' h
  match kk with
  | 0 => rfl
  | 1 => rfl
  | 2 => rfl
  | 3 => rfl
  | 4 => simp only [rcallH1E, h 4 (Or.inl rfl)]
  | 5 => rfl
  | 6 => simp only [rcallH1E, h 4 (Or.inr (by decide))]
  | 7 => simp only [rcallH1E, h 7 (Or.inl rfl)]
  | 8 => simp only [rcallH1E, h 7 (Or.inr (by decide))]
  | 9 => simp only [rcallH1E, h 7 (Or.inr (by decide))]
  | 10 => rfl
  | n + 11 => rfl
theorem rcallH1_st (pb : Nat) (PC : Array Value) (sb : Nat) (c : Nat) (st : List Sy) (mp : Nat) (es : Array MapEntry) (k : Nat) (loc : Int) (nm : ByteArray) (rs : Int) (i : Nat) (sx : Nat) (ln : Nat) (cp : Nat) (B1_1 : Nat) (B1 : Nat) : Stable rcallH1Cnt 5 rcallH1Anc rcallH1Trn (rcallH1R pb PC sb c st mp es k loc nm rs i sx ln cp B1_1 B1) := by
  intro k9 L9 α α' ix9 hk hcl hα hact ht
  have hp := act_places hact
  replace hp : ix9 ∈ [999, 1999, 2999, 3999, 4999, 4, 7] := hp
  simp only [List.mem_cons, List.not_mem_nil, or_false] at hp
  rcases hp with rfl | rfl | rfl | rfl | rfl | rfl | rfl
  · show rcallH1T999 pb PC sb c st mp es k loc nm rs i sx ln cp B1_1 B1 (Rega.ran L9 k9) α' = rcallH1T999 pb PC sb c st mp es k loc nm rs i sx ln cp B1_1 B1 L9 α
    unfold rcallH1T999
    have n10 : 10 ≠ k9 := fun e => ht (by rw [← e]; decide)
    rw [ran_ne n10]
    by_cases e10 : L9 10 = true
    · first | rw [if_pos e10, if_pos e10] | rw [if_pos e10]
      try simp only [hα 7 (ne_ran hk (hcl 10 e10 7 (by decide)))]
    first | rw [if_neg e10, if_neg e10] | rw [if_neg e10]
  · rfl
  · rfl
  · show rcallH1T3999 pb PC sb c st mp es k loc nm rs i sx ln cp B1_1 B1 (Rega.ran L9 k9) α' = rcallH1T3999 pb PC sb c st mp es k loc nm rs i sx ln cp B1_1 B1 L9 α
    unfold rcallH1T3999
    have n4 : 4 ≠ k9 := fun e => ht (by rw [← e]; decide)
    rw [ran_ne n4]
  · rfl
  · have e0 : L9 4 = true := act_lt hact (by decide)
    show row (α' 4) 211 #[.int .u32 rs, .int .u32 (i : Int), .bool false, .bool false, .bool false] = row (α 4) 211 #[.int .u32 rs, .int .u32 (i : Int), .bool false, .bool false, .bool false]
    simp only [hα 4 (ne_ran hk e0)]
  · have e0 : L9 7 = true := act_lt hact (by decide)
    show row (α' 7) 71 #[.iface 209 (.pointer (some ⟨α' 4, 0, none⟩)), .int .i32 loc, .slice (some ⟨sx, 0, none⟩) ln cp, .int .i32 0, .int .u8 0, .int .u8 0, .bool false, .bool false] = row (α 7) 71 #[.iface 209 (.pointer (some ⟨α 4, 0, none⟩)), .int .i32 loc, .slice (some ⟨sx, 0, none⟩) ln cp, .int .i32 0, .int .u8 0, .int .u8 0, .bool false, .bool false]
    simp only [hα 4 (ne_ran hk (hcl 7 e0 4 (by decide))), hα 7 (ne_ran hk e0)]
def callHPost (pb : Nat) (PC : Array Value) (sb c : Nat) (st : List Sy) (n mp : Nat) (es : Array MapEntry) (k : Nat) (loc : Int) (nm : ByteArray) (q : Nat) (il rs : Int) (i sx ln cp : Nat) (w0 : World) (X : Nat → Obj → Prop) (e : Ending) (w' : World) : Prop :=
  ∃ ca : Nat, ∃ b : Nat, e = .returned (.agg #[.iface 65 (.pointer (some ⟨ca, 0, none⟩)), .int .i32 loc]) ∧ Own w0 w' [row (pb) 193 PC, row (sb) 56 (full symZ (symL (bump st i)) c), (mp, .map es k), row (b) 211 #[.int .u32 rs, .int .u32 (i : Int), .bool false, .bool false, .bool false], row (ca) 71 #[.iface 209 (.pointer (some ⟨b, 0, none⟩)), .int .i32 loc, .slice (some ⟨sx, 0, none⟩) ln cp, .int .i32 0, .int .u8 0, .int .u8 0, .bool false, .bool false]] X
set_option maxRecDepth 100000 in
set_option maxHeartbeats 1000000 in
theorem callH (pb : Nat) (PC : Array Value) (sb c : Nat) (st : List Sy) (n mp : Nat) (es : Array MapEntry) (k : Nat) (loc : Int) (nm : ByteArray) (q : Nat) (il rs : Int) (i sx ln cp : Nat) (w0 w : World) (X : Nat → Obj → Prop) (hO : Own w0 w [row (pb) 193 PC, row (sb) 56 (full symZ (symL st) c), (mp, .map es k)] X) (hk350 : PC[350]? = some (.bool false)) (hk32 : PC[32]? = some (.bool false)) (hk105 : PC[105]? = some (.pointer none)) (hk117 : PC[117]? = some (.map (some mp))) (hk106 : PC[106]? = some (.slice (some ⟨sb, 0, none⟩) n (n + c))) (hn : st.length = n) (hnb : n ≤ 4000000) (hu : ∃ s, st[i]? = some s ∧ s.uc < 4294967295) (hyes : Instr.findNow .string (.string nm) es.toList 0 = some (some (q, .agg #[.int .i32 il, .int .u32 rs, .int .u32 (i : Int)]))) :
    Calls Tryd.prog 50 #[.pointer (some ⟨pb, 0, none⟩), .agg #[.int .i32 loc], .string nm, .slice (some ⟨sx, 0, none⟩) ln cp] w (callHPost pb PC sb c st n mp es k loc nm q il rs i sx ln cp w0 X) := by
  go_enter Tryd.func50, Tryd.ntmps50
  have c9_0_32 : w.cell? ⟨pb, 32, none⟩ = some (.bool false) := hO.cell 0 rfl 32 (hk32)
  have c9_0_105 : w.cell? ⟨pb, 105, none⟩ = some (.pointer none) := hO.cell 0 rfl 105 (hk105)
  have c9_0_106 : w.cell? ⟨pb, 106, none⟩ = some (.slice (some ⟨sb, 0, none⟩) n (n + c)) := hO.cell 0 rfl 106 (hk106)
  have c9_0_117 : w.cell? ⟨pb, 117, none⟩ = some (.map (some mp)) := hO.cell 0 rfl 117 (hk117)
  have c9_0_350 : w.cell? ⟨pb, 350, none⟩ = some (.bool false) := hO.cell 0 rfl 350 (hk350)
  have lt9_0 : pb < w.heap.size := hO.lt 0 rfl
  have y9_0 : ∀ o, w.frozen? ⟨pb, o, none⟩ = false := hO.free 0 rfl
  have HO := Lib.hid hO
  clear hO
  go_wp2_with fail
  have hO := HO.out
  clear HO c9_0_32 c9_0_105 c9_0_106 c9_0_117 c9_0_350 lt9_0 y9_0
  generalize hW : World.alloc _ _ = W2
  have hN : Own w0 W2 [row (w.heap.size + 1) 35 #[.nilIface, .int .i32 0], row (w.heap.size) 31 #[.int .i32 loc], row (pb) 193 PC, row (sb) 56 (full symZ (symL st) c), (mp, .map es k)] X := by
    rw [← hW]
    exact ((hO).alloc' _ (w.heap.size) (by simp)).alloc' _ (w.heap.size + 1) (by simp)
  clear hW hO
  generalize w.heap.size + 1 = B1_1 at hN ⊢
  generalize w.heap.size = B1 at hN ⊢
  have hO := hN
  clear hN
  have st9 := rcallH1_st pb PC sb c st mp es k loc nm rs i sx ln cp B1_1 B1
  refine wp_region_own (e := rcallH1E pb PC sb c st mp es k loc nm rs i sx ln cp B1_1 B1) (anc := rcallH1Anc) (G := (fun L9 α u9 => OwnF w0 u9 (act rcallH1Cnt 5 L9) (rcallH1R pb PC sb c st mp es k loc nm rs i sx ln cp B1_1 B1 L9 α) X)) (by kernel_rfl) (by kernel_rfl) (by kernel_rfl) (by kernel_rfl) (rcallH1_he pb PC sb c st mp es k loc nm rs i sx ln cp B1_1 B1) ?_ (RunsAll.all ?_) ?_
  · have hp : ∀ i, act rcallH1Cnt 5 (fun _ => false) i → i ∈ [999, 1999, 2999, 3999, 4999] := by
      intro i hi
      have h9 : i % 1000 = 999 := by
        by_cases h : i % 1000 = 999
        · exact h
        · exact absurd (act_lt hi h) (by simp)
      unfold act at hi
      rw [if_pos h9] at hi
      simp only [List.mem_cons, List.not_mem_nil, or_false]
      omega
    refine hO.drew.family (fun i hi => ?_) (fun i j hi hj hij => ?_)
    · have := hp i hi
      simp only [List.mem_cons, List.not_mem_nil, or_false] at this
      rcases this with rfl | rfl | rfl | rfl | rfl <;> rfl
    · have h1 := hp i hi
      have h2 := hp j hj
      simp only [List.mem_cons, List.not_mem_nil, or_false] at h1 h2
      omega
  · refine ⟨?_, ?_, ?_, ?_, ?_, ?_, ?_, ?_, ?_, ?_, ?_, trivial⟩
    · intro L9 α a9 u9 K9 hL hcl hA hG hS h0 hK
      replace hL : L9 0 = false := hL
      have q5 : a9.tmps[5]? = some (.pointer (some ⟨B1, 0, none⟩)) := (h0 5 (by kernel_rfl)).trans rfl
      have s5 := Rega.eval_of q5
      have e0 : rcallH1R pb PC sb c st mp es k loc nm rs i sx ln cp B1_1 B1 L9 α 1999 = row (B1) 31 #[.int .i32 loc] := rfl
      have hr := hG.rowAt 1999 (act_base 1999 rfl) e0
      have c0 : u9.cell? ⟨B1, 0, none⟩ = some (.int .i32 loc) := hr.cell rfl
      clear hr e0
      go_simp
      exact hK _ α _ (fun _ _ => rfl) rfl (step_same (st9) hL hcl rfl rfl hG)
    · intro L9 α a9 u9 K9 hL hcl hA hG hS h0 hK
      replace hL : L9 1 = false := hL
      have q0 : a9.tmps[0]? = some (.pointer (some ⟨pb, 0, none⟩)) := (h0 0 (by kernel_rfl)).trans rfl
      have s0 := Rega.eval_of q0
      go_simp
      exact hK _ α _ (fun _ _ => rfl) rfl (step_same (st9) hL hcl rfl rfl hG)
    · intro L9 α a9 u9 K9 hL hcl hA hG hS h0 hK
      replace hL : L9 2 = false := hL
      have q5 : a9.tmps[5]? = some (.pointer (some ⟨B1, 0, none⟩)) := (h0 5 (by kernel_rfl)).trans rfl
      have s5 := Rega.eval_of q5
      have e0 : rcallH1R pb PC sb c st mp es k loc nm rs i sx ln cp B1_1 B1 L9 α 1999 = row (B1) 31 #[.int .i32 loc] := rfl
      have hr := hG.rowAt 1999 (act_base 1999 rfl) e0
      have c0 : u9.cell? ⟨B1, 0, none⟩ = some (.int .i32 loc) := hr.cell rfl
      clear hr e0
      go_simp
      exact hK _ α _ (fun _ _ => rfl) rfl (step_same (st9) hL hcl rfl rfl hG)
    · intro L9 α a9 u9 K9 hL hcl hA hG hS h0 hK
      replace hL : L9 3 = false := hL
      have q2 : a9.tmps[2]? = some (.string nm) := (h0 2 (by kernel_rfl)).trans rfl
      have s2 := Rega.eval_of q2
      go_simp
      exact hK _ α _ (fun _ _ => rfl) rfl (step_same (st9) hL hcl rfl rfl hG)
    · intro L9 α a9 u9 K9 hL hcl hA hG hS h0 hK
      replace hL : L9 4 = false := hL
      have q10 : a9.tmps[10]? = some (.pointer (some ⟨pb, 0, none⟩)) := hS 1 10 (by decide) rfl (by show 10 < 19; decide)
      have s10 := Rega.eval_of q10
      have q11 : a9.tmps[11]? = some (.agg #[.int .i32 loc]) := hS 2 11 (by decide) rfl (by show 11 < 19; decide)
      have s11 := Rega.eval_of q11
      have q12 : a9.tmps[12]? = some (.string nm) := hS 3 12 (by decide) rfl (by show 12 < 19; decide)
      have s12 := Rega.eval_of q12
      go_simp
      have e0 : rcallH1R pb PC sb c st mp es k loc nm rs i sx ln cp B1_1 B1 L9 α 2999 = row (pb) 193 PC := rfl
      have e1 : rcallH1R pb PC sb c st mp es k loc nm rs i sx ln cp B1_1 B1 L9 α 3999 = row (sb) 56 (full symZ (symL st) c) := by
        show rcallH1T3999 pb PC sb c st mp es k loc nm rs i sx ln cp B1_1 B1 L9 α = _
        unfold rcallH1T3999
        rw [if_neg (by rw [hL]; decide)]
      have e2 : rcallH1R pb PC sb c st mp es k loc nm rs i sx ln cp B1_1 B1 L9 α 4999 = (mp, .map es k) := rfl
      have hM : ∀ i, i ∈ [2999, 3999, 4999] → act rcallH1Cnt 5 L9 i := by
        intro i hi
        simp only [List.mem_cons, List.not_mem_nil, or_false] at hi
        rcases hi with rfl | rfl | rfl
        · exact act_base 2999 rfl
        · exact act_base 3999 rfl
        · exact act_base 4999 rfl
      have hP : Own w0 u9 [row (pb) 193 PC, row (sb) 56 (full symZ (symL st) c), (mp, .map es k)] _ := (hG.pick [2999, 3999, 4999] (by decide) hM).conv (by
        show [rcallH1R pb PC sb c st mp es k loc nm rs i sx ln cp B1_1 B1 L9 α 2999, rcallH1R pb PC sb c st mp es k loc nm rs i sx ln cp B1_1 B1 L9 α 3999, rcallH1R pb PC sb c st mp es k loc nm rs i sx ln cp B1_1 B1 L9 α 4999] = _
        rw [e0, e1, e2])
      clear e0 e1 e2 hM
      refine Calls.mono (impH pb PC sb c st n mp es k loc nm q il rs i _ _ _ hP hk350 hk32 hk105 hk117 hk106 hn hnb hu hyes) ?_
      rintro e9 u1 ⟨b0, rfl, hQ⟩
      obtain ⟨α', hα'⟩ : ∃ α' : Rega.Atoms, α' = (fun j => if j = 4 then b0 else α j) := ⟨_, rfl⟩
      have f0 : rcallH1R pb PC sb c st mp es k loc nm rs i sx ln cp B1_1 B1 (Rega.ran L9 4) α' 2999 = row (pb) 193 PC := rfl
      have f1 : rcallH1R pb PC sb c st mp es k loc nm rs i sx ln cp B1_1 B1 (Rega.ran L9 4) α' 3999 = row (sb) 56 (full symZ (symL (bump st i)) c) := by
        show rcallH1T3999 pb PC sb c st mp es k loc nm rs i sx ln cp B1_1 B1 (Rega.ran L9 4) α' = _
        unfold rcallH1T3999
        rw [if_pos (show Rega.ran L9 4 4 = true from rfl)]
      have f2 : rcallH1R pb PC sb c st mp es k loc nm rs i sx ln cp B1_1 B1 (Rega.ran L9 4) α' 4999 = (mp, .map es k) := rfl
      have f3 : rcallH1R pb PC sb c st mp es k loc nm rs i sx ln cp B1_1 B1 (Rega.ran L9 4) α' 4 = row (α' 4) 211 #[.int .u32 rs, .int .u32 (i : Int), .bool false, .bool false, .bool false] := rfl
      have hα : ∀ j, j % 1000 ≠ 4 → α' j = α j := fun j hj => by rw [hα']; simp only []; rw [if_neg (by omega)]
      have hb0 : α' 4 = b0 := by rw [hα']; rfl
      skip
      refine hK _ α' _ hα ?_ (step_call (st9) hL hcl hα [2999, 3999, 4999] [2999, 3999, 4999, 4] (by decide) (by decide) (by decide) (M := _) ?_ hG hQ)
      · show _ = (.agg #[.iface 209 (.pointer (some ⟨α' 4, 0, none⟩)), .int .i32 loc] : Value)
        simp only [hb0]
      · show [rcallH1R pb PC sb c st mp es k loc nm rs i sx ln cp B1_1 B1 (Rega.ran L9 4) α' 2999, rcallH1R pb PC sb c st mp es k loc nm rs i sx ln cp B1_1 B1 (Rega.ran L9 4) α' 3999, rcallH1R pb PC sb c st mp es k loc nm rs i sx ln cp B1_1 B1 (Rega.ran L9 4) α' 4999, rcallH1R pb PC sb c st mp es k loc nm rs i sx ln cp B1_1 B1 (Rega.ran L9 4) α' 4] = _
        rw [f0, f1, f2, f3]
        simp only [hb0]
    · intro L9 α a9 u9 K9 hL hcl hA hG hS h0 hK
      replace hL : L9 5 = false := hL
      have q3 : a9.tmps[3]? = some (.slice (some ⟨sx, 0, none⟩) ln cp) := (h0 3 (by kernel_rfl)).trans rfl
      have s3 := Rega.eval_of q3
      go_simp
      exact hK _ α _ (fun _ _ => rfl) rfl (step_same (st9) hL hcl rfl rfl hG)
    · intro L9 α a9 u9 K9 hL hcl hA hG hS h0 hK
      replace hL : L9 6 = false := hL
      have q13 : a9.tmps[13]? = some (.agg #[.iface 209 (.pointer (some ⟨α 4, 0, none⟩)), .int .i32 loc]) := hS 4 13 (by decide) rfl (by show 13 < 19; decide)
      have s13 := Rega.eval_of q13
      have q14 : a9.tmps[14]? = some (.slice (some ⟨sx, 0, none⟩) ln cp) := hS 5 14 (by decide) rfl (by show 14 < 19; decide)
      have s14 := Rega.eval_of q14
      go_simp
      exact hK _ α _ (fun _ _ => rfl) rfl (step_same (st9) hL hcl rfl rfl hG)
    · intro L9 α a9 u9 K9 hL hcl hA hG hS h0 hK
      replace hL : L9 7 = false := hL
      have q15 : a9.tmps[15]? = some (.agg #[.iface 209 (.pointer (some ⟨α 4, 0, none⟩)), .int .i32 loc, .slice (some ⟨sx, 0, none⟩) ln cp, .int .i32 0, .int .u8 0, .int .u8 0, .bool false, .bool false]) := hS 6 15 (by decide) rfl (by show 15 < 19; decide)
      have s15 := Rega.eval_of q15
      go_simp
      exact hK _ (fun j => if j = 7 then u9.heap.size else α j) _ (fun j hj => if_neg (fun e => hj (by rw [e]))) rfl (step_alloc (st9) hL hcl rfl rfl (by decide) _ rfl hG)
    · intro L9 α a9 u9 K9 hL hcl hA hG hS h0 hK
      replace hL : L9 8 = false := hL
      have q16 : a9.tmps[16]? = some (.pointer (some ⟨α 7, 0, none⟩)) := hS 7 16 (by decide) rfl (by show 16 < 19; decide)
      have s16 := Rega.eval_of q16
      go_simp
      exact hK _ α _ (fun _ _ => rfl) rfl (step_same (st9) hL hcl rfl rfl hG)
    · intro L9 α a9 u9 K9 hL hcl hA hG hS h0 hK
      replace hL : L9 9 = false := hL
      have q9 : a9.tmps[9]? = some (.agg #[.int .i32 loc]) := hS 0 9 (by decide) rfl (by show 9 < 19; decide)
      have s9 := Rega.eval_of q9
      have q17 : a9.tmps[17]? = some (.iface 65 (.pointer (some ⟨α 7, 0, none⟩))) := hS 8 17 (by decide) rfl (by show 17 < 19; decide)
      have s17 := Rega.eval_of q17
      go_simp
      exact hK _ α _ (fun _ _ => rfl) rfl (step_same (st9) hL hcl rfl rfl hG)
    · intro L9 α a9 u9 K9 hL hcl hA hG hS h0 hK
      replace hL : L9 10 = false := hL
      have q8 : a9.tmps[8]? = some (.pointer (some ⟨B1_1, 0, none⟩)) := (h0 8 (by kernel_rfl)).trans rfl
      have s8 := Rega.eval_of q8
      have q18 : a9.tmps[18]? = some (.agg #[.iface 65 (.pointer (some ⟨α 7, 0, none⟩)), .int .i32 loc]) := hS 9 18 (by decide) rfl (by show 18 < 19; decide)
      have s18 := Rega.eval_of q18
      have e0 : rcallH1R pb PC sb c st mp es k loc nm rs i sx ln cp B1_1 B1 L9 α 999 = row (B1_1) 35 #[.nilIface, .int .i32 0] := by
        show rcallH1T999 pb PC sb c st mp es k loc nm rs i sx ln cp B1_1 B1 L9 α = _
        unfold rcallH1T999
        rw [if_neg (by rw [hL]; decide)]
      have hr := hG.rowAt 999 (act_base 999 rfl) e0
      have c0 : u9.cell? ⟨B1_1, 0, none⟩ = some (.nilIface) := hr.cell rfl
      have y0 : u9.frozen? ⟨B1_1, 0, none⟩ = false := hr.free 0
      have c1 : u9.cell? ⟨B1_1, 1, none⟩ = some (.int .i32 0) := hr.cell rfl
      have y1 : u9.frozen? ⟨B1_1, 1, none⟩ = false := hr.free 1
      clear hr
      have E0 := Lib.hid e0
      clear e0
      go_simp
      have e1 : rcallH1R pb PC sb c st mp es k loc nm rs i sx ln cp B1_1 B1 (Rega.ran L9 10) α 999 = row (B1_1) 35 #[.iface 65 (.pointer (some ⟨α 7, 0, none⟩)), .int .i32 loc] := by
        show rcallH1T999 pb PC sb c st mp es k loc nm rs i sx ln cp B1_1 B1 (Rega.ran L9 10) α = _
        unfold rcallH1T999
        rw [if_pos (show Rega.ran L9 10 10 = true from rfl)]
      exact hK _ α _ (fun _ _ => rfl) rfl (step_sets (st9) hL hcl rfl 999 rfl (act_base 999 rfl) E0.out 0 [.iface 65 (.pointer (some ⟨α 7, 0, none⟩)), .int .i32 loc] (e1.trans rfl) hG)
  · clear st9
    intro α u hG
    have e0 : rcallH1R pb PC sb c st mp es k loc nm rs i sx ln cp B1_1 B1 (fun k => decide (k < 11)) α 999 = row (B1_1) 35 #[.iface 65 (.pointer (some ⟨α 7, 0, none⟩)), .int .i32 loc] := by
      show rcallH1T999 pb PC sb c st mp es k loc nm rs i sx ln cp B1_1 B1 (fun k => decide (k < 11)) α = _
      unfold rcallH1T999
      rw [if_pos (by decide)]
    have e1 : rcallH1R pb PC sb c st mp es k loc nm rs i sx ln cp B1_1 B1 (fun k => decide (k < 11)) α 1999 = row (B1) 31 #[.int .i32 loc] := rfl
    have e2 : rcallH1R pb PC sb c st mp es k loc nm rs i sx ln cp B1_1 B1 (fun k => decide (k < 11)) α 2999 = row (pb) 193 PC := rfl
    have e3 : rcallH1R pb PC sb c st mp es k loc nm rs i sx ln cp B1_1 B1 (fun k => decide (k < 11)) α 3999 = row (sb) 56 (full symZ (symL (bump st i)) c) := by
      show rcallH1T3999 pb PC sb c st mp es k loc nm rs i sx ln cp B1_1 B1 (fun k => decide (k < 11)) α = _
      unfold rcallH1T3999
      rw [if_pos (by decide)]
    have e4 : rcallH1R pb PC sb c st mp es k loc nm rs i sx ln cp B1_1 B1 (fun k => decide (k < 11)) α 4999 = (mp, .map es k) := rfl
    have e5 : rcallH1R pb PC sb c st mp es k loc nm rs i sx ln cp B1_1 B1 (fun k => decide (k < 11)) α 4 = row (α 4) 211 #[.int .u32 rs, .int .u32 (i : Int), .bool false, .bool false, .bool false] := rfl
    have e6 : rcallH1R pb PC sb c st mp es k loc nm rs i sx ln cp B1_1 B1 (fun k => decide (k < 11)) α 7 = row (α 7) 71 #[.iface 209 (.pointer (some ⟨α 4, 0, none⟩)), .int .i32 loc, .slice (some ⟨sx, 0, none⟩) ln cp, .int .i32 0, .int .u8 0, .int .u8 0, .bool false, .bool false] := rfl
    have hO : Own w0 u [row (B1_1) 35 #[.iface 65 (.pointer (some ⟨α 7, 0, none⟩)), .int .i32 loc], row (B1) 31 #[.int .i32 loc], row (pb) 193 PC, row (sb) 56 (full symZ (symL (bump st i)) c), (mp, .map es k), row (α 4) 211 #[.int .u32 rs, .int .u32 (i : Int), .bool false, .bool false, .bool false], row (α 7) 71 #[.iface 209 (.pointer (some ⟨α 4, 0, none⟩)), .int .i32 loc, .slice (some ⟨sx, 0, none⟩) ln cp, .int .i32 0, .int .u8 0, .int .u8 0, .bool false, .bool false]] X := (hG.list [999, 1999, 2999, 3999, 4999, 4, 7] (by decide) (act_all (by decide))).conv (by
      show [rcallH1R pb PC sb c st mp es k loc nm rs i sx ln cp B1_1 B1 (fun k => decide (k < 11)) α 999, rcallH1R pb PC sb c st mp es k loc nm rs i sx ln cp B1_1 B1 (fun k => decide (k < 11)) α 1999, rcallH1R pb PC sb c st mp es k loc nm rs i sx ln cp B1_1 B1 (fun k => decide (k < 11)) α 2999, rcallH1R pb PC sb c st mp es k loc nm rs i sx ln cp B1_1 B1 (fun k => decide (k < 11)) α 3999, rcallH1R pb PC sb c st mp es k loc nm rs i sx ln cp B1_1 B1 (fun k => decide (k < 11)) α 4999, rcallH1R pb PC sb c st mp es k loc nm rs i sx ln cp B1_1 B1 (fun k => decide (k < 11)) α 4, rcallH1R pb PC sb c st mp es k loc nm rs i sx ln cp B1_1 B1 (fun k => decide (k < 11)) α 7] = _
      rw [e0, e1, e2, e3, e4, e5, e6])
    clear hG e0 e1 e2 e3 e4 e5 e6
    generalize hfr : Rega.frameAt _ _ _ _ _ = fr
    have hdf : fr = ⟨#[.pointer (some ⟨pb, 0, none⟩), .agg #[.int .i32 loc], .string nm, .slice (some ⟨sx, 0, none⟩) ln cp, undef, .pointer (some ⟨B1, 0, none⟩), undef, undef, .pointer (some ⟨B1_1, 0, none⟩), .agg #[.int .i32 loc], .pointer (some ⟨pb, 0, none⟩), .agg #[.int .i32 loc], .string nm, .agg #[.iface 209 (.pointer (some ⟨α 4, 0, none⟩)), .int .i32 loc], .slice (some ⟨sx, 0, none⟩) ln cp, .agg #[.iface 209 (.pointer (some ⟨α 4, 0, none⟩)), .int .i32 loc, .slice (some ⟨sx, 0, none⟩) ln cp, .int .i32 0, .int .u8 0, .int .u8 0, .bool false, .bool false], .pointer (some ⟨α 7, 0, none⟩), .iface 65 (.pointer (some ⟨α 7, 0, none⟩)), .agg #[.iface 65 (.pointer (some ⟨α 7, 0, none⟩)), .int .i32 loc]], []⟩ := by rw [← hfr]; kernel_rfl
    clear hfr
    subst hdf
    generalize α 4 = nd3 at hO ⊢
    generalize α 7 = nd4 at hO ⊢
    clear α
    obtain ⟨c9_0_0, c9_0_1, lt9_0, y9_0, -⟩ := hO.k2 0 rfl
    obtain ⟨c9_1_0, lt9_1, y9_1, -⟩ := hO.k1 1 rfl
    have c9_2_32 : u.cell? ⟨pb, 32, none⟩ = some (.bool false) := hO.cell 2 rfl 32 (hk32)
    have c9_2_105 : u.cell? ⟨pb, 105, none⟩ = some (.pointer none) := hO.cell 2 rfl 105 (hk105)
    have c9_2_106 : u.cell? ⟨pb, 106, none⟩ = some (.slice (some ⟨sb, 0, none⟩) n (n + c)) := hO.cell 2 rfl 106 (hk106)
    have c9_2_117 : u.cell? ⟨pb, 117, none⟩ = some (.map (some mp)) := hO.cell 2 rfl 117 (hk117)
    have c9_2_350 : u.cell? ⟨pb, 350, none⟩ = some (.bool false) := hO.cell 2 rfl 350 (hk350)
    have lt9_2 : pb < u.heap.size := hO.lt 2 rfl
    have y9_2 : ∀ o, u.frozen? ⟨pb, o, none⟩ = false := hO.free 2 rfl
    obtain ⟨c9_5_0, c9_5_1, c9_5_2, c9_5_3, c9_5_4, lt9_5, y9_5, -⟩ := hO.k5 5 rfl
    obtain ⟨c9_6_0, c9_6_1, c9_6_2, c9_6_3, c9_6_4, c9_6_5, c9_6_6, c9_6_7, lt9_6, y9_6, -⟩ := hO.k8 6 rfl
    have HO := Lib.hid hO
    clear hO
    go_wp2_with fail
    have hO := HO.out
    clear HO c9_0_0 c9_0_1 lt9_0 y9_0 c9_1_0 lt9_1 y9_1 c9_2_32 c9_2_105 c9_2_106 c9_2_117 c9_2_350 lt9_2 y9_2 c9_5_0 c9_5_1 c9_5_2 c9_5_3 c9_5_4 lt9_5 y9_5 c9_6_0 c9_6_1 c9_6_2 c9_6_3 c9_6_4 c9_6_5 c9_6_6 c9_6_7 lt9_6 y9_6
    have z9_0_0 : u.cell? ⟨B1_1, 0, none⟩ = some (.iface 65 (.pointer (some ⟨nd4, 0, none⟩))) := hO.cell 0 rfl 0 rfl
    have z9_0_1 : u.cell? ⟨B1_1, 1, none⟩ = some (.int .i32 loc) := hO.cell 0 rfl 1 rfl
    refine bodyPost_ret (v := .agg #[.iface 65 (.pointer (some ⟨nd4, 0, none⟩)), .int .i32 loc]) ?_ rfl ⟨nd4, nd3, rfl, hO.sub [2, 3, 4, 5, 6] (by decide)⟩
    simp [results, Tryd.results50, go_sem, z9_0_0, z9_0_1]
end Go.Proofs.YtkhmjppfogppoaaDoor.Use
