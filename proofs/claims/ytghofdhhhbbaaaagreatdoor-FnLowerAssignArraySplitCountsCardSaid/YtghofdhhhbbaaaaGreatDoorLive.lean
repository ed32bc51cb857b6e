/- Uses, symbols made, imports and calls of runtime helpers in living code. No condition. -/
import Derived.Test.YtghofdhhhbbaaaaGreatDoorApp
import Derived.Test.YtghofdhhhbbaaaaGreatDoorOwnK
import Derived.Test.YtghofdhhhbbaaaaGreatDoorOwn
import Derived.Test.YtghofdhhhbbaaaaGreatDoorDeepCells
import Derived.Test.YtghofdhhhbbaaaaGreatDoorRows
import Derived.Test.YtghofdhhhbbaaaaGreatDoorUse
namespace Go.Proofs.YtghofdhhhbbaaaaGreatDoor.Use
open Go.ChangeShapes Go.WideShapes Go.ChangeAt Go.RowKit Go.Sort Own
set_option linter.unusedVariables false
structure Sy where
  nm : ByteArray
  l0 : Int
  l1 : Int
  uc : Nat
  fl : Int
  kd : Int
/-- A symbol of no special kind that links nowhere. -/
def sy (nm : ByteArray) (uc : Nat) : Sy := ⟨nm, 4294967295, 4294967295, uc, 0, 27⟩
def syk (nm : ByteArray) (kd : Int) : Sy := ⟨nm, 4294967295, 4294967295, 0, 0, kd⟩
def Sy.cells (s : Sy) : List Value := [.pointer none, .string s.nm, .int .u32 s.l0, .int .u32 s.l1, .int .u32 s.uc, .int .u32 0, .int .u32 0, .int .u16 s.fl, .int .u8 s.kd, .int .u8 0]
def symL (st : List Sy) : List Value := st.flatMap Sy.cells
def Sy.up (s : Sy) : Sy := ⟨s.nm, s.l0, s.l1, s.uc + 1, s.fl, s.kd⟩
def bump : List Sy → Nat → List Sy
  | [], _ => []
  | s :: l, 0 => s.up :: l
  | s :: l, i + 1 => s :: bump l i
theorem bump_length : ∀ (st : List Sy) (i : Nat), (bump st i).length = st.length
  | [], _ => rfl
  | _ :: _, 0 => rfl
  | _ :: l, i + 1 => congrArg (· + 1) (bump_length l i)
theorem symL_cons (s : Sy) (st : List Sy) : symL (s :: st) = s.cells ++ symL st := rfl
theorem symL_append (st st2 : List Sy) : symL (st ++ st2) = symL st ++ symL st2 := by simp [symL]
theorem symL_one (s : Sy) : symL [s] = s.cells := by simp [symL]
theorem symL_length : ∀ st : List Sy, (symL st).length = st.length * 10
  | [] => rfl
  | s :: l => by rw [symL_cons, List.length_append, symL_length l, List.length_cons]; show 10 + _ = _; omega
theorem symL_at : ∀ (st : List Sy) (i : Nat) (s : Sy) (o : Nat) (v : Value), st[i]? = some s → s.cells[o]? = some v → (symL st)[i * 10 + o]? = some v
  | [], _, _, _, _, h, _ => by simp at h
  | x :: l, 0, s, o, v, h, ho => by
    cases h
    have hl := (List.getElem?_eq_some_iff.1 ho).1
    rw [symL_cons, List.getElem?_append_left (by omega)]
    rw [show 0 * 10 + o = o by omega]
    exact ho
  | x :: l, i + 1, s, o, v, h, ho => by
    have hx : x.cells.length = 10 := rfl
    rw [symL_cons, List.getElem?_append_right (by rw [hx]; omega), hx, show (i + 1) * 10 + o - 10 = i * 10 + o by omega]
    exact symL_at l i s o v h ho
theorem symL_bump : ∀ (st : List Sy) (i : Nat) (s : Sy), st[i]? = some s → (symL st).set (i * 10 + 4) (.int .u32 ((s.uc + 1 : Nat) : Int)) = symL (bump st i)
  | [], _, _, h => by simp at h
  | x :: l, 0, s, h => by cases h; rfl
  | x :: l, i + 1, s, h => by
    have hx : x.cells.length = 10 := rfl
    rw [symL_cons, List.set_append_right _ _ (by rw [hx]; omega), hx, show (i + 1) * 10 + 4 - 10 = i * 10 + 4 by omega, symL_bump l i s h]
    rfl
def symZ : Array Value := #[.pointer none, .string ⟨#[]⟩, .int .u32 0, .int .u32 0, .int .u32 0, .int .u32 0, .int .u32 0, .int .u16 0, .int .u8 0, .int .u8 0]
def refZ : Array Value := #[.int .u32 0, .int .u32 0]
theorem infoSym : (Tryz.prog.info? 201).map (fun i => (i.zero, i.size, i.bytes)) = some (some (.agg symZ), 10, 48) := by kernel_rfl
theorem infoRef : (Tryz.prog.info? 58).map (fun i => (i.zero, i.size, i.bytes)) = some (some (.agg refZ), 2, 8) := by kernel_rfl
theorem kept_own {w0 w w' : World} {L : List Rw} {X : Nat → Obj → Prop} (h : Own w0 w L X) (i : Nat) {b : Nat} {o o' : Obj} (hi : L[i]? = some (b, o)) (hk : Base.KeptBut [b] w w') (hb : w'.heap[b]? = some o') : Own w0 w' (L.set i (b, o')) X :=
  h.turn i hi hk.size hk.os hk.tape hk.output hb (fun k hk1 hk2 => hk.block k hk2 (by simpa using hk1))

def useGPost (pb : Nat) (PC : Array Value) (sb c : Nat) (st : List Sy) (n : Nat) (rs : Int) (i : Nat) (w0 : World) (X : Nat → Obj → Prop) (e : Ending) (w' : World) : Prop :=
  e = .returned (.tuple #[]) ∧ Own w0 w' [row (pb) 182 PC, row (sb) 201 (full symZ (symL (bump st i)) c)] X
set_option maxRecDepth 100000 in
theorem useG (pb : Nat) (PC : Array Value) (sb c : Nat) (st : List Sy) (n : Nat) (rs : Int) (i : Nat) (w0 w : World) (X : Nat → Obj → Prop) (hO : Own w0 w [row (pb) 182 PC, row (sb) 201 (full symZ (symL st) c)] X) (hk350 : PC[350]? = some (.bool false)) (hk32 : PC[32]? = some (.bool false)) (hk105 : PC[105]? = some (.pointer none)) (hk106 : PC[106]? = some (.slice (some ⟨sb, 0, none⟩) n (n + c))) (hn : st.length = n) (hnb : n ≤ 4000000) (hu : ∃ s, st[i]? = some s ∧ s.uc < 4294967295) :
    Calls Tryz.prog 36 #[.pointer (some ⟨pb, 0, none⟩), .agg #[.int .u32 rs, .int .u32 (i : Int)]] w (useGPost pb PC sb c st n rs i w0 X) := by
  obtain ⟨y, hy, hyu⟩ := hu
  have hi : i < n := by rw [← hn]; exact (List.getElem?_eq_some_iff.1 hy).1
  refine Calls.mono (recordUsage pb sb n (n + c) i y.uc rs _ w ⟨hO.cell 0 rfl 350 hk350, hO.cell 0 rfl 105 hk105, hO.cell 0 rfl 32 hk32, hO.cell 0 rfl 106 hk106⟩ hi (by omega) (hO.ne 0 1 rfl rfl (by decide)) (hO.rowAt 1 rfl) (full_at (symL_at st i y 4 _ hy rfl)) hyu) ?_
  rintro e w' ⟨rfl, hk, hr⟩
  have hr2 := hr
  rw [full_set (symL_at st i y 4 _ hy rfl), symL_bump st i y hy] at hr2
  exact ⟨rfl, kept_own hO 1 rfl hk hr2⟩

def rNS1E (pb : Nat) (PC : Array Value) (sb : Nat) (c : Nat) (n : Nat) (src : Int) : Nat → Rega.Atoms → Value
  | 0, α => .pointer (some ⟨pb, 0, none⟩)
  | 1, α => .pointer (some ⟨pb, 0, none⟩)
  | 2, α => .pointer (some ⟨pb, 57, none⟩)
  | 3, α => .pointer (some ⟨pb, 66, none⟩)
  | 4, α => .int .u32 src
  | 5, α => .pointer (some ⟨pb, 0, none⟩)
  | 6, α => .pointer (some ⟨pb, 0, none⟩)
  | 7, α => .pointer (some ⟨pb, 106, none⟩)
  | 8, α => .slice (some ⟨sb, 0, none⟩) n (n + c)
  | 9, α => .int .i64 (n : Int)
  | 10, α => .int .u32 (n : Int)
  | 11, α => .agg #[.int .u32 src, .int .u32 (n : Int)]
  | 12, α => .pointer (some ⟨α 12, 0, none⟩)
  | 13, α => undef
  | _, _ => undef
def rNS1Anc : Nat → List Nat
  | 1 => [0]
  | 2 => [0, 1]
  | 3 => [0, 1, 2]
  | 4 => [0, 1, 2, 3]
  | 6 => [5]
  | 7 => [5, 6]
  | 8 => [5, 6, 7]
  | 9 => [5, 6, 7, 8]
  | 10 => [5, 6, 7, 8, 9]
  | 11 => [0, 1, 2, 3, 4, 5, 6, 7, 8, 9, 10]
  | 13 => [0, 1, 2, 3, 4, 5, 6, 7, 8, 9, 10, 11, 12]
  | _ => []
def rNS1Trn : Nat → List Nat
  | 13 => [12]
  | _ => []
def rNS1Cnt : List (Nat × Nat) := [(12, 1)]
def rNS1T12 (pb : Nat) (PC : Array Value) (sb : Nat) (c : Nat) (n : Nat) (src : Int) (L9 : Nat → Bool) (α : Rega.Atoms) : Rw := if L9 13 = true then row (α 12) 58 #[.int .u32 src, .int .u32 (n : Int)] else row (α 12) 58 #[.int .u32 0, .int .u32 0]
def rNS1R (pb : Nat) (PC : Array Value) (sb : Nat) (c : Nat) (n : Nat) (src : Int) (L9 : Nat → Bool) (α : Rega.Atoms) (ix9 : Nat) : Rw := if ix9 = 999 then row (pb) 182 PC else if ix9 = 12 then rNS1T12 pb PC sb c n src L9 α else (0, .map #[] 0)
theorem rNS1_he (pb : Nat) (PC : Array Value) (sb : Nat) (c : Nat) (n : Nat) (src : Int) : ∀ kk α α', (∀ j, (j % 1000 = kk ∨ j % 1000 ∈ rNS1Anc kk) → α j = α' j) → rNS1E pb PC sb c n src kk α = rNS1E pb PC sb c n src kk α' := by
  intro kk α α' h
  match kk with
  | 0 => rfl
  | 1 => rfl
  | 2 => rfl
  | 3 => rfl
  | 4 => rfl
  | 5 => rfl
  | 6 => rfl
  | 7 => rfl
  | 8 => rfl
  | 9 => rfl
  | 10 => rfl
  | 11 => rfl
  | 12 => simp only [rNS1E, h 12 (Or.inl rfl)]
  | 13 => rfl
  | n + 14 => rfl
theorem rNS1_st (pb : Nat) (PC : Array Value) (sb : Nat) (c : Nat) (n : Nat) (src : Int) : Stable rNS1Cnt 1 rNS1Anc rNS1Trn (rNS1R pb PC sb c n src) := by
  intro k9 L9 α α' ix9 hk hcl hα hact ht
  have hp := act_places hact
  replace hp : ix9 ∈ [999, 12] := hp
  simp only [List.mem_cons, List.not_mem_nil, or_false] at hp
  rcases hp with rfl | rfl
  · rfl
  · have e0 : L9 12 = true := act_lt hact (by decide)
    show rNS1T12 pb PC sb c n src (Rega.ran L9 k9) α' = rNS1T12 pb PC sb c n src L9 α
    unfold rNS1T12
    have n13 : 13 ≠ k9 := fun e => ht (by rw [← e]; decide)
    rw [ran_ne n13]
    by_cases e13 : L9 13 = true
    · first | rw [if_pos e13, if_pos e13] | rw [if_pos e13]
      try simp only [hα 12 (ne_ran hk (hcl 13 e13 12 (by decide)))]
    first | rw [if_neg e13, if_neg e13] | rw [if_neg e13]
    try simp only [hα 12 (ne_ran hk e0)]
def rNS2E (pb : Nat) (PC : Array Value) (sb : Nat) (c : Nat) (st : List Sy) (n : Nat) (kd : Int) (nm : ByteArray) : Nat → Rega.Atoms → Value
  | 0, α => .pointer (some ⟨pb, 0, none⟩)
  | 1, α => .pointer (some ⟨pb, 0, none⟩)
  | 2, α => .pointer (some ⟨pb, 0, none⟩)
  | 3, α => .pointer (some ⟨pb, 106, none⟩)
  | 4, α => .slice (some ⟨sb, 0, none⟩) n (n + c)
  | 5, α => .int .u8 kd
  | 6, α => .string nm
  | 7, α => .agg #[.int .u32 4294967295, .int .u32 4294967295]
  | 8, α => .agg #[.pointer none, .string nm, .int .u32 4294967295, .int .u32 4294967295, .int .u32 0, .int .u32 0, .int .u32 0, .int .u16 0, .int .u8 kd, .int .u8 0]
  | 9, α => .slice (some ⟨α 9, 0, none⟩) 1 1
  | 10, α => .slice (some ⟨α 10, 0, none⟩) (n + 1) (n + 1 + α 1010)
  | 11, α => .pointer (some ⟨pb, 0, none⟩)
  | 12, α => .pointer (some ⟨pb, 106, none⟩)
  | 13, α => undef
  | _, _ => undef
def rNS2Anc : Nat → List Nat
  | 2 => [1]
  | 3 => [1, 2]
  | 4 => [1, 2, 3]
  | 8 => [5, 6, 7]
  | 9 => [5, 6, 7, 8]
  | 10 => [1, 2, 3, 4, 5, 6, 7, 8, 9]
  | 11 => [0, 1, 2, 3, 4, 5, 6, 7, 8, 9, 10]
  | 12 => [0, 1, 2, 3, 4, 5, 6, 7, 8, 9, 10, 11]
  | 13 => [0, 1, 2, 3, 4, 5, 6, 7, 8, 9, 10, 11, 12]
  | _ => []
def rNS2Trn : Nat → List Nat
  | 10 => [1999]
  | 13 => [999]
  | _ => []
def rNS2Cnt : List (Nat × Nat) := [(9, 1)]
def rNS2T999 (pb : Nat) (PC : Array Value) (sb : Nat) (c : Nat) (st : List Sy) (n : Nat) (kd : Int) (nm : ByteArray) (L9 : Nat → Bool) (α : Rega.Atoms) : Rw := if L9 13 = true then row (pb) 182 (PC.setIfInBounds 106 (.slice (some ⟨α 10, 0, none⟩) (n + 1) (n + 1 + α 1010))) else row (pb) 182 PC
def rNS2T1999 (pb : Nat) (PC : Array Value) (sb : Nat) (c : Nat) (st : List Sy) (n : Nat) (kd : Int) (nm : ByteArray) (L9 : Nat → Bool) (α : Rega.Atoms) : Rw := if L9 10 = true then row (α 10) 201 (full symZ ((symL st) ++ [.pointer none, .string nm, .int .u32 4294967295, .int .u32 4294967295, .int .u32 0, .int .u32 0, .int .u32 0, .int .u16 0, .int .u8 kd, .int .u8 0]) (α 1010)) else row (sb) 201 (full symZ (symL st) c)
def rNS2R (pb : Nat) (PC : Array Value) (sb : Nat) (c : Nat) (st : List Sy) (n : Nat) (kd : Int) (nm : ByteArray) (L9 : Nat → Bool) (α : Rega.Atoms) (ix9 : Nat) : Rw := if ix9 = 999 then rNS2T999 pb PC sb c st n kd nm L9 α else if ix9 = 1999 then rNS2T1999 pb PC sb c st n kd nm L9 α else if ix9 = 9 then row (α 9) 201 #[.pointer none, .string nm, .int .u32 4294967295, .int .u32 4294967295, .int .u32 0, .int .u32 0, .int .u32 0, .int .u16 0, .int .u8 kd, .int .u8 0] else (0, .map #[] 0)
theorem rNS2_he (pb : Nat) (PC : Array Value) (sb : Nat) (c : Nat) (st : List Sy) (n : Nat) (kd : Int) (nm : ByteArray) : ∀ kk α α', (∀ j, (j % 1000 = kk ∨ j % 1000 ∈ rNS2Anc kk) → α j = α' j) → rNS2E pb PC sb c st n kd nm kk α = rNS2E pb PC sb c st n kd nm kk α' := by
  intro kk α α' h
  match kk with
  | 0 => rfl
  | 1 => rfl
  | 2 => rfl
  | 3 => rfl
  | 4 => rfl
  | 5 => rfl
  | 6 => rfl
  | 7 => rfl
  | 8 => rfl
  | 9 => simp only [rNS2E, h 9 (Or.inl rfl)]
  | 10 => simp only [rNS2E, h 10 (Or.inl rfl), h 1010 (Or.inl rfl)]
  | 11 => rfl
  | 12 => rfl
  | 13 => rfl
  | n + 14 => rfl
theorem rNS2_st (pb : Nat) (PC : Array Value) (sb : Nat) (c : Nat) (st : List Sy) (n : Nat) (kd : Int) (nm : ByteArray) : Stable rNS2Cnt 2 rNS2Anc rNS2Trn (rNS2R pb PC sb c st n kd nm) := by
  intro k9 L9 α α' ix9 hk hcl hα hact ht
  have hp := act_places hact
  replace hp : ix9 ∈ [999, 1999, 9] := hp
  simp only [List.mem_cons, List.not_mem_nil, or_false] at hp
  rcases hp with rfl | rfl | rfl
  · show rNS2T999 pb PC sb c st n kd nm (Rega.ran L9 k9) α' = rNS2T999 pb PC sb c st n kd nm L9 α
    unfold rNS2T999
    have n13 : 13 ≠ k9 := fun e => ht (by rw [← e]; decide)
    rw [ran_ne n13]
    by_cases e13 : L9 13 = true
    · first | rw [if_pos e13, if_pos e13] | rw [if_pos e13]
      try simp only [hα 10 (ne_ran hk (hcl 13 e13 10 (by decide))), hα 1010 (ne_ran hk (hcl 13 e13 10 (by decide)))]
    first | rw [if_neg e13, if_neg e13] | rw [if_neg e13]
  · show rNS2T1999 pb PC sb c st n kd nm (Rega.ran L9 k9) α' = rNS2T1999 pb PC sb c st n kd nm L9 α
    unfold rNS2T1999
    have n10 : 10 ≠ k9 := fun e => ht (by rw [← e]; decide)
    rw [ran_ne n10]
    by_cases e10 : L9 10 = true
    · first | rw [if_pos e10, if_pos e10] | rw [if_pos e10]
      try simp only [hα 10 (ne_ran hk e10), hα 1010 (ne_ran hk e10)]
    first | rw [if_neg e10, if_neg e10] | rw [if_neg e10]
  · have e0 : L9 9 = true := act_lt hact (by decide)
    show row (α' 9) 201 #[.pointer none, .string nm, .int .u32 4294967295, .int .u32 4294967295, .int .u32 0, .int .u32 0, .int .u32 0, .int .u16 0, .int .u8 kd, .int .u8 0] = row (α 9) 201 #[.pointer none, .string nm, .int .u32 4294967295, .int .u32 4294967295, .int .u32 0, .int .u32 0, .int .u32 0, .int .u16 0, .int .u8 kd, .int .u8 0]
    simp only [hα 9 (ne_ran hk e0)]
def newSymGPost (pb : Nat) (PC : Array Value) (sb c : Nat) (st : List Sy) (n : Nat) (src kd : Int) (nm : ByteArray) (w0 : World) (X : Nat → Obj → Prop) (e : Ending) (w' : World) : Prop :=
  ∃ sb2 : Nat, ∃ c2 : Nat, e = .returned (.agg #[.int .u32 src, .int .u32 (n : Int)]) ∧ Own w0 w' [row (pb) 182 (PC.setIfInBounds 106 (.slice (some ⟨sb2, 0, none⟩) (n + 1) (n + 1 + c2))), row (sb2) 201 (full symZ (symL (st ++ [syk nm kd])) c2)] X
set_option maxRecDepth 100000 in
set_option maxHeartbeats 1000000 in
theorem newSymG (pb : Nat) (PC : Array Value) (sb c : Nat) (st : List Sy) (n : Nat) (src kd : Int) (nm : ByteArray) (w0 w : World) (X : Nat → Obj → Prop) (hO : Own w0 w [row (pb) 182 PC, row (sb) 201 (full symZ (symL st) c)] X) (hk66 : PC[66]? = some (.int .u32 src)) (hk32 : PC[32]? = some (.bool false)) (hk106 : PC[106]? = some (.slice (some ⟨sb, 0, none⟩) n (n + c))) (hn : st.length = n) (hnb : n ≤ 2000000) (hg0 : w0.cell? ⟨0, 0, none⟩ = some (.int .u32 4294967295)) (hg1 : w0.cell? ⟨0, 1, none⟩ = some (.int .u32 4294967295)) :
    Calls Tryz.prog 55 #[.pointer (some ⟨pb, 0, none⟩), .int .u8 kd, .string nm] w (newSymGPost pb PC sb c st n src kd nm w0 X) := by
  go_enter Tryz.func55, Tryz.ntmps55
  have c9_0_32 : w.cell? ⟨pb, 32, none⟩ = some (.bool false) := hO.cell 0 rfl (32) (hk32)
  have c9_0_66 : w.cell? ⟨pb, 66, none⟩ = some (.int .u32 src) := hO.cell 0 rfl (66) (hk66)
  have c9_0_106 : w.cell? ⟨pb, 106, none⟩ = some (.slice (some ⟨sb, 0, none⟩) n (n + c)) := hO.cell 0 rfl (106) (hk106)
  have lt9_0 : pb < w.heap.size := hO.lt 0 rfl
  have y9_0 : ∀ o, w.frozen? ⟨pb, o, none⟩ = false := hO.free 0 rfl
  have HO := Lib.hid hO
  clear hO
  have hsl : (symL st).length = n * 10 := by rw [symL_length, hn]
  go_wp2_with (first | (with_reducible refine Own.stay (fn := Tryz.f55) ?_) | fail)
  try with_reducible refine Own.Stay.mk ?_
  have hO := HO.out
  clear HO c9_0_32 c9_0_66 c9_0_106 lt9_0 y9_0
  generalize hW : World.alloc _ _ = W2
  have hN : Own w0 W2 [row (w.heap.size) 58 #[.int .u32 0, .int .u32 0], row (pb) 182 PC, row (sb) 201 (full symZ (symL st) c)] X := by
    rw [← hW]
    exact (hO).alloc' _ (w.heap.size) (by simp)
  clear hW hO
  generalize w.heap.size = B1 at hN ⊢
  have hO := hN
  clear hN
  have hL := hO.apart
  have hX := hO.apartX
  have HL := Lib.hid hL
  have HX := Lib.hid hX
  clear hL hX
  have hP9 := hO.pick [1] (by decide)
  generalize hX9_3 : Own.Rest _ _ X = X9_3 at hP9
  replace hP9 : Own w0 W2 [row (pb) 182 PC] X9_3 := hP9
  clear hO
  have hO := hP9
  clear hP9
  have st9 := rNS1_st pb PC sb c n src
  let R9 := rNS1R pb PC sb c n src
  refine wp_region_own (e := rNS1E pb PC sb c n src) (anc := rNS1Anc) (G := (fun L9 α u9 => OwnF w0 u9 (act rNS1Cnt 1 L9) (rNS1R pb PC sb c n src L9 α) X9_3)) (by kernel_rfl) (by kernel_rfl) (by kernel_rfl) (by kernel_rfl) (rNS1_he pb PC sb c n src) ?_ (RunsAll.all ?_) ?_
  · have hp : ∀ i, act rNS1Cnt 1 (fun _ => false) i → i ∈ [999] := by
      intro i hi
      have h9 : i % 1000 = 999 := by
        by_cases h : i % 1000 = 999
        · exact h
        · exact absurd (act_lt hi h) (by simp)
      unfold act at hi
      rw [if_pos h9] at hi
      simp only [List.mem_cons, List.not_mem_nil, or_false]
      omega
    refine hO.drew.family (fun i hi => ?_) (fun i j hi hj hij => ?_)
    · have := hp i hi
      simp only [List.mem_cons, List.not_mem_nil, or_false] at this
      subst this
      rfl
    · have h1 := hp i hi
      have h2 := hp j hj
      simp only [List.mem_cons, List.not_mem_nil, or_false] at h1 h2
      omega
  · refine ⟨?_, ?_, ?_, ?_, ?_, ?_, ?_, ?_, ?_, ?_, ?_, ?_, ?_, ?_, trivial⟩
    · intro L9 α a9 u9 K9 hL hcl hA hG hS h0 h1 hK
      replace hL : L9 0 = false := hL
      have q0 : a9.tmps[0]? = some (.pointer (some ⟨pb, 0, none⟩)) := (h0 0 (by kernel_rfl)).trans rfl
      have s0 := Rega.eval_of q0
      go_simp
      exact hK _ α _ (fun _ _ => rfl) rfl (step_same (st9) hL hcl rfl rfl hG)
    · intro L9 α a9 u9 K9 hL hcl hA hG hS h0 h1 hK
      replace hL : L9 1 = false := hL
      have q8 : a9.tmps[8]? = some (.pointer (some ⟨pb, 0, none⟩)) := hS 0 8 (by decide) rfl (by show 8 < 50; decide)
      have s8 := Rega.eval_of q8
      go_simp
      exact hK _ α _ (fun _ _ => rfl) rfl (step_same (st9) hL hcl rfl rfl hG)
    · intro L9 α a9 u9 K9 hL hcl hA hG hS h0 h1 hK
      replace hL : L9 2 = false := hL
      have q9 : a9.tmps[9]? = some (.pointer (some ⟨pb, 0, none⟩)) := hS 1 9 (by decide) rfl (by show 9 < 50; decide)
      have s9 := Rega.eval_of q9
      go_simp
      exact hK _ α _ (fun _ _ => rfl) rfl (step_same (st9) hL hcl rfl rfl hG)
    · intro L9 α a9 u9 K9 hL hcl hA hG hS h0 h1 hK
      replace hL : L9 3 = false := hL
      have q10 : a9.tmps[10]? = some (.pointer (some ⟨pb, 57, none⟩)) := hS 2 10 (by decide) rfl (by show 10 < 50; decide)
      have s10 := Rega.eval_of q10
      go_simp
      exact hK _ α _ (fun _ _ => rfl) rfl (step_same (st9) hL hcl rfl rfl hG)
    · intro L9 α a9 u9 K9 hL hcl hA hG hS h0 h1 hK
      replace hL : L9 4 = false := hL
      have q11 : a9.tmps[11]? = some (.pointer (some ⟨pb, 66, none⟩)) := hS 3 11 (by decide) rfl (by show 11 < 50; decide)
      have s11 := Rega.eval_of q11
      have e0 : R9 L9 α 999 = row (pb) 182 PC := rfl
      have hr := hG.rowAt 999 (act_base 999 rfl) e0
      have c0 : u9.cell? ⟨pb, 66, none⟩ = some (.int .u32 src) := hr.cell (hk66)
      clear hr e0
      go_simp
      exact hK _ α _ (fun _ _ => rfl) rfl (step_same (st9) hL hcl rfl rfl hG)
    · intro L9 α a9 u9 K9 hL hcl hA hG hS h0 h1 hK
      replace hL : L9 5 = false := hL
      have q0 : a9.tmps[0]? = some (.pointer (some ⟨pb, 0, none⟩)) := (h0 0 (by kernel_rfl)).trans rfl
      have s0 := Rega.eval_of q0
      go_simp
      exact hK _ α _ (fun _ _ => rfl) rfl (step_same (st9) hL hcl rfl rfl hG)
    · intro L9 α a9 u9 K9 hL hcl hA hG hS h0 h1 hK
      replace hL : L9 6 = false := hL
      have q13 : a9.tmps[13]? = some (.pointer (some ⟨pb, 0, none⟩)) := hS 5 13 (by decide) rfl (by show 13 < 50; decide)
      have s13 := Rega.eval_of q13
      go_simp
      exact hK _ α _ (fun _ _ => rfl) rfl (step_same (st9) hL hcl rfl rfl hG)
    · intro L9 α a9 u9 K9 hL hcl hA hG hS h0 h1 hK
      replace hL : L9 7 = false := hL
      have q14 : a9.tmps[14]? = some (.pointer (some ⟨pb, 0, none⟩)) := hS 6 14 (by decide) rfl (by show 14 < 50; decide)
      have s14 := Rega.eval_of q14
      go_simp
      exact hK _ α _ (fun _ _ => rfl) rfl (step_same (st9) hL hcl rfl rfl hG)
    · intro L9 α a9 u9 K9 hL hcl hA hG hS h0 h1 hK
      replace hL : L9 8 = false := hL
      have q15 : a9.tmps[15]? = some (.pointer (some ⟨pb, 106, none⟩)) := hS 7 15 (by decide) rfl (by show 15 < 50; decide)
      have s15 := Rega.eval_of q15
      have e0 : R9 L9 α 999 = row (pb) 182 PC := rfl
      have hr := hG.rowAt 999 (act_base 999 rfl) e0
      have c0 : u9.cell? ⟨pb, 106, none⟩ = some (.slice (some ⟨sb, 0, none⟩) n (n + c)) := hr.cell (hk106)
      clear hr e0
      go_simp
      exact hK _ α _ (fun _ _ => rfl) rfl (step_same (st9) hL hcl rfl rfl hG)
    · intro L9 α a9 u9 K9 hL hcl hA hG hS h0 h1 hK
      replace hL : L9 9 = false := hL
      have q16 : a9.tmps[16]? = some (.slice (some ⟨sb, 0, none⟩) n (n + c)) := hS 8 16 (by decide) rfl (by show 16 < 50; decide)
      have s16 := Rega.eval_of q16
      go_simp
      exact hK _ α _ (fun _ _ => rfl) rfl (step_same (st9) hL hcl rfl rfl hG)
    · intro L9 α a9 u9 K9 hL hcl hA hG hS h0 h1 hK
      replace hL : L9 10 = false := hL
      have q17 : a9.tmps[17]? = some (.int .i64 (n : Int)) := hS 9 17 (by decide) rfl (by show 17 < 50; decide)
      have s17 := Rega.eval_of q17
      have hwr9 : IntKind.u32.wrap (n : Int) = (n : Int) := by rw [IntKind.wrap_u32]; omega
      go_simp
      exact hK _ α _ (fun _ _ => rfl) rfl (step_same (st9) hL hcl rfl rfl hG)
    · intro L9 α a9 u9 K9 hL hcl hA hG hS h0 h1 hK
      replace hL : L9 11 = false := hL
      have q12 : a9.tmps[12]? = some (.int .u32 src) := hS 4 12 (by decide) rfl (by show 12 < 50; decide)
      have s12 := Rega.eval_of q12
      have q18 : a9.tmps[18]? = some (.int .u32 (n : Int)) := hS 10 18 (by decide) rfl (by show 18 < 50; decide)
      have s18 := Rega.eval_of q18
      go_simp
      exact hK _ α _ (fun _ _ => rfl) rfl (step_same (st9) hL hcl rfl rfl hG)
    · intro L9 α a9 u9 K9 hL hcl hA hG hS h0 h1 hK
      replace hL : L9 12 = false := hL
      go_simp
      have e1 : R9 (Rega.ran L9 12) (fun j => if j = 12 then u9.heap.size else α j) 12 = row (u9.heap.size) 58 #[.int .u32 0, .int .u32 0] := by
        show rNS1T12 pb PC sb c n src (Rega.ran L9 12) (fun j => if j = 12 then u9.heap.size else α j) = _
        unfold rNS1T12
        exact ((if_neg (fun e => (fun e => by have := hcl 13 e 12 (by decide); rw [hL] at this; cases this) ((ran_ne (by decide)).symm.trans e))).trans rfl)
      exact hK _ (fun j => if j = 12 then u9.heap.size else α j) _ (fun j hj => if_neg (fun e => hj (by rw [e]))) rfl (step_alloc (st9) hL hcl rfl rfl (by decide) _ e1 hG)
    · intro L9 α a9 u9 K9 hL hcl hA hG hS h0 h1 hK
      replace hL : L9 13 = false := hL
      have q7 : a9.tmps[7]? = some (.pointer (some ⟨α 12, 0, none⟩)) := hS 12 7 (by decide) rfl (by show 7 < 50; decide)
      have s7 := Rega.eval_of q7
      have q19 : a9.tmps[19]? = some (.agg #[.int .u32 src, .int .u32 (n : Int)]) := hS 11 19 (by decide) rfl (by show 19 < 50; decide)
      have s19 := Rega.eval_of q19
      have e0 : R9 L9 α 12 = row (α 12) 58 #[.int .u32 0, .int .u32 0] := by
        show rNS1T12 pb PC sb c n src L9 α = _
        unfold rNS1T12
        rw [if_neg (by rw [hL]; decide)]
      have hr := hG.rowAt 12 (act_new 12 rfl (hA 12 (by decide))) e0
      have c0 : u9.cell? ⟨α 12, 0, none⟩ = some (.int .u32 0) := hr.cell rfl
      have y0 : u9.frozen? ⟨α 12, 0, none⟩ = false := hr.free (0)
      have c1 : u9.cell? ⟨α 12, 1, none⟩ = some (.int .u32 0) := hr.cell rfl
      have y1 : u9.frozen? ⟨α 12, 1, none⟩ = false := hr.free (1)
      clear hr
      have E0 := Lib.hid e0
      clear e0
      go_simp
      have e1 : R9 (Rega.ran L9 13) α 12 = row (α 12) 58 #[.int .u32 src, .int .u32 (n : Int)] := by
        show rNS1T12 pb PC sb c n src (Rega.ran L9 13) α = _
        unfold rNS1T12
        rw [if_pos (show Rega.ran L9 13 13 = true from rfl)]
      exact hK _ α _ (fun _ _ => rfl) rfl (step_sets (st9) hL hcl rfl 12 rfl (act_new 12 rfl (hA 12 (by decide))) E0.out (0) [.int .u32 src, .int .u32 (n : Int)] (e1.trans rfl) hG)
  clear st9
  intro α u hG
  have e0 : R9 (fun k => decide (k < 14)) α 999 = row (pb) 182 PC := rfl
  have e1 : R9 (fun k => decide (k < 14)) α 12 = row (α 12) 58 #[.int .u32 src, .int .u32 (n : Int)] := by
    show rNS1T12 pb PC sb c n src (fun k => decide (k < 14)) α = _
    unfold rNS1T12
    rw [if_pos (by decide)]
  have hO : Own w0 u [row (pb) 182 PC, row (α 12) 58 #[.int .u32 src, .int .u32 (n : Int)]] X9_3 := (hG.list [999, 12] (by decide) (act_all (by decide))).conv (by
    show [R9 (fun k => decide (k < 14)) α 999, R9 (fun k => decide (k < 14)) α 12] = _
    rw [e0, e1])
  clear hG e0 e1 R9
  generalize hfr : Rega.frameAt _ _ _ _ _ = fr
  have hdf : fr = ⟨#[.pointer (some ⟨pb, 0, none⟩), .int .u8 kd, .string nm, undef, undef, undef, .pointer (some ⟨B1, 0, none⟩), .pointer (some ⟨α 12, 0, none⟩), .pointer (some ⟨pb, 0, none⟩), .pointer (some ⟨pb, 0, none⟩), .pointer (some ⟨pb, 57, none⟩), .pointer (some ⟨pb, 66, none⟩), .int .u32 src, .pointer (some ⟨pb, 0, none⟩), .pointer (some ⟨pb, 0, none⟩), .pointer (some ⟨pb, 106, none⟩), .slice (some ⟨sb, 0, none⟩) n (n + c), .int .i64 (n : Int), .int .u32 (n : Int), .agg #[.int .u32 src, .int .u32 (n : Int)], undef, undef, undef, undef, undef, undef, undef, undef, undef, undef, undef, undef, undef, undef, undef, undef, undef, undef, undef, undef, undef, undef, undef, undef, undef, undef, undef, undef, undef, undef], []⟩ := by rw [← hfr]; kernel_rfl
  clear hfr
  subst hdf
  generalize α 12 = nd4 at hO ⊢
  clear α
  subst hX9_3
  have hN : Own w0 u [row (pb) 182 PC, row (nd4) 58 #[.int .u32 src, .int .u32 (n : Int)], row (B1) 58 #[.int .u32 0, .int .u32 0], row (sb) 201 (full symZ (symL st) c)] X := hO.back HL.out HX.out [0, 2] (by decide) (by decide)
  clear hO HL HX
  have hO := hN
  clear hN
  have c9_0_32 : u.cell? ⟨pb, 32, none⟩ = some (.bool false) := hO.cell 0 rfl (32) (hk32)
  have c9_0_66 : u.cell? ⟨pb, 66, none⟩ = some (.int .u32 src) := hO.cell 0 rfl (66) (hk66)
  have c9_0_106 : u.cell? ⟨pb, 106, none⟩ = some (.slice (some ⟨sb, 0, none⟩) n (n + c)) := hO.cell 0 rfl (106) (hk106)
  have lt9_0 : pb < u.heap.size := hO.lt 0 rfl
  have y9_0 : ∀ o, u.frozen? ⟨pb, o, none⟩ = false := hO.free 0 rfl
  obtain ⟨c9_1_0, c9_1_1, lt9_1, y9_1, -⟩ := hO.k2 1 rfl
  obtain ⟨c9_2_0, c9_2_1, lt9_2, y9_2, -⟩ := hO.k2 2 rfl
  have HO := Lib.hid hO
  clear hO
  go_wp2_with (first | (with_reducible refine Own.stay (fn := Tryz.f55) ?_) | fail)
  try with_reducible refine Own.Stay.mk ?_
  have hO := HO.out
  clear HO c9_0_32 c9_0_66 c9_0_106 lt9_0 y9_0 c9_1_0 c9_1_1 lt9_1 y9_1 c9_2_0 c9_2_1 lt9_2 y9_2
  have hL := hO.apart
  have hX := hO.apartX
  have HL := Lib.hid hL
  have HX := Lib.hid hX
  clear hL hX
  have hP9 := hO.pick [0, 3] (by decide)
  generalize hX9_5 : Own.Rest _ _ X = X9_5 at hP9
  replace hP9 : Own w0 u [row (pb) 182 PC, row (sb) 201 (full symZ (symL st) c)] X9_5 := hP9
  clear hO
  have hO := hP9
  clear hP9
  have st9 := rNS2_st pb PC sb c st n kd nm
  let R9 := rNS2R pb PC sb c st n kd nm
  refine wp_region_own (e := rNS2E pb PC sb c st n kd nm) (anc := rNS2Anc) (G := (fun L9 α u9 => OwnF w0 u9 (act rNS2Cnt 2 L9) (rNS2R pb PC sb c st n kd nm L9 α) X9_5)) (by kernel_rfl) (by kernel_rfl) (by kernel_rfl) (by kernel_rfl) (rNS2_he pb PC sb c st n kd nm) ?_ (RunsAll.all ?_) ?_
  · have hp : ∀ i, act rNS2Cnt 2 (fun _ => false) i → i ∈ [999, 1999] := by
      intro i hi
      have h9 : i % 1000 = 999 := by
        by_cases h : i % 1000 = 999
        · exact h
        · exact absurd (act_lt hi h) (by simp)
      unfold act at hi
      rw [if_pos h9] at hi
      simp only [List.mem_cons, List.not_mem_nil, or_false]
      omega
    refine hO.drew.family (fun i hi => ?_) (fun i j hi hj hij => ?_)
    · have := hp i hi
      simp only [List.mem_cons, List.not_mem_nil, or_false] at this
      rcases this with rfl | rfl <;> rfl
    · have h1 := hp i hi
      have h2 := hp j hj
      simp only [List.mem_cons, List.not_mem_nil, or_false] at h1 h2
      omega
  · refine ⟨?_, ?_, ?_, ?_, ?_, ?_, ?_, ?_, ?_, ?_, ?_, ?_, ?_, ?_, trivial⟩
    · intro L9 α a9 u9 K9 hL hcl hA hG hS h0 h1 hK
      replace hL : L9 0 = false := hL
      have q0 : a9.tmps[0]? = some (.pointer (some ⟨pb, 0, none⟩)) := (h0 0 (by kernel_rfl)).trans rfl
      have s0 := Rega.eval_of q0
      go_simp
      exact hK _ α _ (fun _ _ => rfl) rfl (step_same (st9) hL hcl rfl rfl hG)
    · intro L9 α a9 u9 K9 hL hcl hA hG hS h0 h1 hK
      replace hL : L9 1 = false := hL
      have q0 : a9.tmps[0]? = some (.pointer (some ⟨pb, 0, none⟩)) := (h0 0 (by kernel_rfl)).trans rfl
      have s0 := Rega.eval_of q0
      go_simp
      exact hK _ α _ (fun _ _ => rfl) rfl (step_same (st9) hL hcl rfl rfl hG)
    · intro L9 α a9 u9 K9 hL hcl hA hG hS h0 h1 hK
      replace hL : L9 2 = false := hL
      have q21 : a9.tmps[21]? = some (.pointer (some ⟨pb, 0, none⟩)) := hS 1 21 (by decide) rfl (by show 21 < 50; decide)
      have s21 := Rega.eval_of q21
      go_simp
      exact hK _ α _ (fun _ _ => rfl) rfl (step_same (st9) hL hcl rfl rfl hG)
    · intro L9 α a9 u9 K9 hL hcl hA hG hS h0 h1 hK
      replace hL : L9 3 = false := hL
      have q22 : a9.tmps[22]? = some (.pointer (some ⟨pb, 0, none⟩)) := hS 2 22 (by decide) rfl (by show 22 < 50; decide)
      have s22 := Rega.eval_of q22
      go_simp
      exact hK _ α _ (fun _ _ => rfl) rfl (step_same (st9) hL hcl rfl rfl hG)
    · intro L9 α a9 u9 K9 hL hcl hA hG hS h0 h1 hK
      replace hL : L9 4 = false := hL
      have q23 : a9.tmps[23]? = some (.pointer (some ⟨pb, 106, none⟩)) := hS 3 23 (by decide) rfl (by show 23 < 50; decide)
      have s23 := Rega.eval_of q23
      have e0 : R9 L9 α 999 = row (pb) 182 PC := by
        show rNS2T999 pb PC sb c st n kd nm L9 α = _
        unfold rNS2T999
        rw [if_neg (fun e => by have := hcl 13 e 4 (by decide); rw [hL] at this; cases this)]
      have hr := hG.rowAt 999 (act_base 999 rfl) e0
      have c0 : u9.cell? ⟨pb, 106, none⟩ = some (.slice (some ⟨sb, 0, none⟩) n (n + c)) := hr.cell (hk106)
      clear hr e0
      go_simp
      exact hK _ α _ (fun _ _ => rfl) rfl (step_same (st9) hL hcl rfl rfl hG)
    · intro L9 α a9 u9 K9 hL hcl hA hG hS h0 h1 hK
      replace hL : L9 5 = false := hL
      have q1 : a9.tmps[1]? = some (.int .u8 kd) := (h0 1 (by kernel_rfl)).trans rfl
      have s1 := Rega.eval_of q1
      go_simp
      exact hK _ α _ (fun _ _ => rfl) rfl (step_same (st9) hL hcl rfl rfl hG)
    · intro L9 α a9 u9 K9 hL hcl hA hG hS h0 h1 hK
      replace hL : L9 6 = false := hL
      have q2 : a9.tmps[2]? = some (.string nm) := (h0 2 (by kernel_rfl)).trans rfl
      have s2 := Rega.eval_of q2
      go_simp
      exact hK _ α _ (fun _ _ => rfl) rfl (step_same (st9) hL hcl rfl rfl hG)
    · intro L9 α a9 u9 K9 hL hcl hA hG hS h0 h1 hK
      replace hL : L9 7 = false := hL
      have c0 : u9.cell? ⟨0, 0, none⟩ = some (.int .u32 4294967295) := Base.cell_below hG.below (Base.block_of_cell hg0) hg0
      have c1 : u9.cell? ⟨0, 1, none⟩ = some (.int .u32 4294967295) := Base.cell_below hG.below (Base.block_of_cell hg1) hg1
      go_simp
      exact hK _ α _ (fun _ _ => rfl) rfl (step_same (st9) hL hcl rfl rfl hG)
    · intro L9 α a9 u9 K9 hL hcl hA hG hS h0 h1 hK
      replace hL : L9 8 = false := hL
      have q25 : a9.tmps[25]? = some (.int .u8 kd) := hS 5 25 (by decide) rfl (by show 25 < 50; decide)
      have s25 := Rega.eval_of q25
      have q26 : a9.tmps[26]? = some (.string nm) := hS 6 26 (by decide) rfl (by show 26 < 50; decide)
      have s26 := Rega.eval_of q26
      have q27 : a9.tmps[27]? = some (.agg #[.int .u32 4294967295, .int .u32 4294967295]) := hS 7 27 (by decide) rfl (by show 27 < 50; decide)
      have s27 := Rega.eval_of q27
      go_simp
      exact hK _ α _ (fun _ _ => rfl) rfl (step_same (st9) hL hcl rfl rfl hG)
    · intro L9 α a9 u9 K9 hL hcl hA hG hS h0 h1 hK
      replace hL : L9 9 = false := hL
      have q28 : a9.tmps[28]? = some (.agg #[.pointer none, .string nm, .int .u32 4294967295, .int .u32 4294967295, .int .u32 0, .int .u32 0, .int .u32 0, .int .u16 0, .int .u8 kd, .int .u8 0]) := hS 8 28 (by decide) rfl (by show 28 < 50; decide)
      have s28 := Rega.eval_of q28
      go_simp
      exact hK _ (fun j => if j = 9 then u9.heap.size else α j) _ (fun j hj => if_neg (fun e => hj (by rw [e]))) rfl (step_alloc (st9) hL hcl rfl rfl (by decide) _ rfl hG)
    · intro L9 α a9 u9 K9 hL hcl hA hG hS h0 h1 hK
      replace hL : L9 10 = false := hL
      have q24 : a9.tmps[24]? = some (.slice (some ⟨sb, 0, none⟩) n (n + c)) := hS 4 24 (by decide) rfl (by show 24 < 50; decide)
      have s24 := Rega.eval_of q24
      have q29 : a9.tmps[29]? = some (.slice (some ⟨α 9, 0, none⟩) 1 1) := hS 9 29 (by decide) rfl (by show 29 < 50; decide)
      have s29 := Rega.eval_of q29
      simp only [Region.wanted, if_true]
      have e0 : R9 L9 α 1999 = row (sb) 201 (full symZ (symL st) c) := by
        show rNS2T1999 pb PC sb c st n kd nm L9 α = _
        unfold rNS2T1999
        rw [if_neg (by rw [hL]; decide)]
      have e1 : R9 L9 α 9 = row (α 9) 201 #[.pointer none, .string nm, .int .u32 4294967295, .int .u32 4294967295, .int .u32 0, .int .u32 0, .int .u32 0, .int .u16 0, .int .u8 kd, .int .u8 0] := rfl
      have hM : ∀ i, i ∈ [1999, 9] → act rNS2Cnt 2 L9 i := by
        intro i hi
        simp only [List.mem_cons, List.not_mem_nil, or_false] at hi
        rcases hi with rfl | rfl
        · exact act_base 1999 rfl
        · exact act_new 9 rfl (hA 9 (by decide))
      have hP : Own w0 u9 [row (sb) 201 (full symZ (symL st) c), row (α 9) 201 #[.pointer none, .string nm, .int .u32 4294967295, .int .u32 4294967295, .int .u32 0, .int .u32 0, .int .u32 0, .int .u16 0, .int .u8 kd, .int .u8 0]] _ := (hG.pick [1999, 9] (by decide) hM).conv (by
        show [R9 L9 α 1999, R9 L9 α 9] = _
        rw [e0, e1])
      clear e0 e1 hM
      obtain ⟨i9, hi9, z1, z2, z3⟩ := info_parts infoSym
      refine wp_append_full (Operand.tmp 24) (Operand.tmp 29) 125 rfl 201 i9 (.agg symZ) 10 48 Tryz.underlying125 hi9 z1 z2 z3 rfl (by decide) hP s24 s29 (by first | rfl | assumption | (simp; done) | (simp; omega)) (by first | rfl | assumption | omega) rfl (oneAll rfl) (by first | decide | omega | (unfold maxLen; omega)) (by first | decide | omega | (unfold maxLen; omega)) ?_
      intro b0 b1 u1 hQ
      obtain ⟨α', hα'⟩ : ∃ α' : Rega.Atoms, α' = (fun j => if j = 10 then b0 else if j = 1010 then b1 else α j) := ⟨_, rfl⟩
      have f0 : R9 (Rega.ran L9 10) α' 1999 = row (α' 10) 201 (full symZ ((symL st) ++ [.pointer none, .string nm, .int .u32 4294967295, .int .u32 4294967295, .int .u32 0, .int .u32 0, .int .u32 0, .int .u16 0, .int .u8 kd, .int .u8 0]) (α' 1010)) := by
        show rNS2T1999 pb PC sb c st n kd nm (Rega.ran L9 10) α' = _
        unfold rNS2T1999
        rw [if_pos (show Rega.ran L9 10 10 = true from rfl)]
      have f1 : R9 (Rega.ran L9 10) α' 9 = row (α' 9) 201 #[.pointer none, .string nm, .int .u32 4294967295, .int .u32 4294967295, .int .u32 0, .int .u32 0, .int .u32 0, .int .u16 0, .int .u8 kd, .int .u8 0] := rfl
      have hα : ∀ j, j % 1000 ≠ 10 → α' j = α j := fun j hj => by rw [hα']; simp only []; rw [if_neg (by omega), if_neg (by omega)]
      have hb0 : α' 10 = b0 := by rw [hα']; rfl
      have hb1 : α' 1010 = b1 := by rw [hα']; rfl
      have ha9 : α' 9 = α 9 := hα 9 (by decide)
      refine hK _ α' _ hα ?_ (step_call (st9) hL hcl hα [1999, 9] [1999, 9] (by decide) (by decide) (by decide) (M := _) ?_ hG hQ)
      · show _ = (.slice (some ⟨α' 10, 0, none⟩) (n + 1) (n + 1 + α' 1010) : Value)
        simp only [hb0, hb1]
      · show [R9 (Rega.ran L9 10) α' 1999, R9 (Rega.ran L9 10) α' 9] = _
        rw [f0, f1]
        simp only [hb0, hb1, ha9]
        try rfl
    · intro L9 α a9 u9 K9 hL hcl hA hG hS h0 h1 hK
      replace hL : L9 11 = false := hL
      have q20 : a9.tmps[20]? = some (.pointer (some ⟨pb, 0, none⟩)) := hS 0 20 (by decide) rfl (by show 20 < 50; decide)
      have s20 := Rega.eval_of q20
      go_simp
      exact hK _ α _ (fun _ _ => rfl) rfl (step_same (st9) hL hcl rfl rfl hG)
    · intro L9 α a9 u9 K9 hL hcl hA hG hS h0 h1 hK
      replace hL : L9 12 = false := hL
      have q31 : a9.tmps[31]? = some (.pointer (some ⟨pb, 0, none⟩)) := hS 11 31 (by decide) rfl (by show 31 < 50; decide)
      have s31 := Rega.eval_of q31
      go_simp
      exact hK _ α _ (fun _ _ => rfl) rfl (step_same (st9) hL hcl rfl rfl hG)
    · intro L9 α a9 u9 K9 hL hcl hA hG hS h0 h1 hK
      replace hL : L9 13 = false := hL
      have q32 : a9.tmps[32]? = some (.pointer (some ⟨pb, 106, none⟩)) := hS 12 32 (by decide) rfl (by show 32 < 50; decide)
      have s32 := Rega.eval_of q32
      have q30 : a9.tmps[30]? = some (.slice (some ⟨α 10, 0, none⟩) (n + 1) (n + 1 + α 1010)) := hS 10 30 (by decide) rfl (by show 30 < 50; decide)
      have s30 := Rega.eval_of q30
      have e0 : R9 L9 α 999 = row (pb) 182 PC := by
        show rNS2T999 pb PC sb c st n kd nm L9 α = _
        unfold rNS2T999
        rw [if_neg (by rw [hL]; decide)]
      have hr := hG.rowAt 999 (act_base 999 rfl) e0
      have c0 : u9.cell? ⟨pb, 106, none⟩ = some (.slice (some ⟨sb, 0, none⟩) n (n + c)) := hr.cell (hk106)
      have y0 : u9.frozen? ⟨pb, 106, none⟩ = false := hr.free (106)
      clear hr
      have E0 := Lib.hid e0
      clear e0
      go_simp
      have e1 : R9 (Rega.ran L9 13) α 999 = row (pb) 182 (PC.setIfInBounds 106 (.slice (some ⟨α 10, 0, none⟩) (n + 1) (n + 1 + α 1010))) := by
        show rNS2T999 pb PC sb c st n kd nm (Rega.ran L9 13) α = _
        unfold rNS2T999
        rw [if_pos (show Rega.ran L9 13 13 = true from rfl)]
      exact hK _ α _ (fun _ _ => rfl) rfl (step_sets (st9) hL hcl rfl 999 rfl (act_base 999 rfl) E0.out (106) [.slice (some ⟨α 10, 0, none⟩) (n + 1) (n + 1 + α 1010)] (e1.trans rfl) hG)
  clear st9
  intro α u hG
  have e0 : R9 (fun k => decide (k < 14)) α 999 = row (pb) 182 (PC.setIfInBounds 106 (.slice (some ⟨α 10, 0, none⟩) (n + 1) (n + 1 + α 1010))) := by
    show rNS2T999 pb PC sb c st n kd nm (fun k => decide (k < 14)) α = _
    unfold rNS2T999
    rw [if_pos (by decide)]
  have e1 : R9 (fun k => decide (k < 14)) α 1999 = row (α 10) 201 (full symZ ((symL st) ++ [.pointer none, .string nm, .int .u32 4294967295, .int .u32 4294967295, .int .u32 0, .int .u32 0, .int .u32 0, .int .u16 0, .int .u8 kd, .int .u8 0]) (α 1010)) := by
    show rNS2T1999 pb PC sb c st n kd nm (fun k => decide (k < 14)) α = _
    unfold rNS2T1999
    rw [if_pos (by decide)]
  have e2 : R9 (fun k => decide (k < 14)) α 9 = row (α 9) 201 #[.pointer none, .string nm, .int .u32 4294967295, .int .u32 4294967295, .int .u32 0, .int .u32 0, .int .u32 0, .int .u16 0, .int .u8 kd, .int .u8 0] := rfl
  have hO : Own w0 u [row (pb) 182 (PC.setIfInBounds 106 (.slice (some ⟨α 10, 0, none⟩) (n + 1) (n + 1 + α 1010))), row (α 10) 201 (full symZ ((symL st) ++ [.pointer none, .string nm, .int .u32 4294967295, .int .u32 4294967295, .int .u32 0, .int .u32 0, .int .u32 0, .int .u16 0, .int .u8 kd, .int .u8 0]) (α 1010)), row (α 9) 201 #[.pointer none, .string nm, .int .u32 4294967295, .int .u32 4294967295, .int .u32 0, .int .u32 0, .int .u32 0, .int .u16 0, .int .u8 kd, .int .u8 0]] X9_5 := (hG.list [999, 1999, 9] (by decide) (act_all (by decide))).conv (by
    show [R9 (fun k => decide (k < 14)) α 999, R9 (fun k => decide (k < 14)) α 1999, R9 (fun k => decide (k < 14)) α 9] = _
    rw [e0, e1, e2])
  clear hG e0 e1 e2 R9
  generalize hfr : Rega.frameAt _ _ _ _ _ = fr
  have hdf : fr = ⟨#[.pointer (some ⟨pb, 0, none⟩), .int .u8 kd, .string nm, undef, undef, undef, .pointer (some ⟨B1, 0, none⟩), .pointer (some ⟨nd4, 0, none⟩), .pointer (some ⟨pb, 0, none⟩), .pointer (some ⟨pb, 0, none⟩), .pointer (some ⟨pb, 57, none⟩), .pointer (some ⟨pb, 66, none⟩), .int .u32 src, .pointer (some ⟨pb, 0, none⟩), .pointer (some ⟨pb, 0, none⟩), .pointer (some ⟨pb, 106, none⟩), .slice (some ⟨sb, 0, none⟩) n (n + c), .int .i64 (n : Int), .int .u32 (n : Int), .agg #[.int .u32 src, .int .u32 (n : Int)], .pointer (some ⟨pb, 0, none⟩), .pointer (some ⟨pb, 0, none⟩), .pointer (some ⟨pb, 0, none⟩), .pointer (some ⟨pb, 106, none⟩), .slice (some ⟨sb, 0, none⟩) n (n + c), .int .u8 kd, .string nm, .agg #[.int .u32 4294967295, .int .u32 4294967295], .agg #[.pointer none, .string nm, .int .u32 4294967295, .int .u32 4294967295, .int .u32 0, .int .u32 0, .int .u32 0, .int .u16 0, .int .u8 kd, .int .u8 0], .slice (some ⟨α 9, 0, none⟩) 1 1, .slice (some ⟨α 10, 0, none⟩) (n + 1) (n + 1 + α 1010), .pointer (some ⟨pb, 0, none⟩), .pointer (some ⟨pb, 106, none⟩), undef, undef, undef, undef, undef, undef, undef, undef, undef, undef, undef, undef, undef, undef, undef, undef, undef], []⟩ := by rw [← hfr]; kernel_rfl
  clear hfr
  subst hdf
  generalize α 9 = nd6 at hO ⊢
  generalize α 10 = nd7 at hO ⊢
  generalize α 1010 = nd8 at hO ⊢
  clear α
  subst hX9_5
  have hN : Own w0 u [row (pb) 182 (PC.setIfInBounds 106 (.slice (some ⟨nd7, 0, none⟩) (n + 1) (n + 1 + nd8))), row (nd7) 201 (full symZ ((symL st) ++ [.pointer none, .string nm, .int .u32 4294967295, .int .u32 4294967295, .int .u32 0, .int .u32 0, .int .u32 0, .int .u16 0, .int .u8 kd, .int .u8 0]) (nd8)), row (nd6) 201 #[.pointer none, .string nm, .int .u32 4294967295, .int .u32 4294967295, .int .u32 0, .int .u32 0, .int .u32 0, .int .u16 0, .int .u8 kd, .int .u8 0], row (nd4) 58 #[.int .u32 src, .int .u32 (n : Int)], row (B1) 58 #[.int .u32 0, .int .u32 0]] X := hO.back HL.out HX.out [1, 2] (by decide) (by decide)
  clear hO HL HX
  have hO := hN
  clear hN
  have c9_0_32 : u.cell? ⟨pb, 32, none⟩ = some (.bool false) := hO.cell 0 rfl (32) ((get_other hk32 (by omega) _))
  have c9_0_66 : u.cell? ⟨pb, 66, none⟩ = some (.int .u32 src) := hO.cell 0 rfl (66) ((get_other hk66 (by omega) _))
  have c9_0_106 : u.cell? ⟨pb, 106, none⟩ = some (.slice (some ⟨nd7, 0, none⟩) (n + 1) (n + 1 + nd8)) := hO.cell 0 rfl (106) ((get_set hk106 _))
  have lt9_0 : pb < u.heap.size := hO.lt 0 rfl
  have y9_0 : ∀ o, u.frozen? ⟨pb, o, none⟩ = false := hO.free 0 rfl
  obtain ⟨c9_2_0, c9_2_1, c9_2_2, c9_2_3, c9_2_4, c9_2_5, c9_2_6, c9_2_7, c9_2_8, c9_2_9, lt9_2, y9_2, -⟩ := hO.k10 2 rfl
  obtain ⟨c9_3_0, c9_3_1, lt9_3, y9_3, -⟩ := hO.k2 3 rfl
  obtain ⟨c9_4_0, c9_4_1, lt9_4, y9_4, -⟩ := hO.k2 4 rfl
  have HO := Lib.hid hO
  clear hO
  go_wp2_with (first | (with_reducible refine Own.stay (fn := Tryz.f55) ?_) | fail)
  try with_reducible refine Own.Stay.mk ?_
  have hO := HO.out
  clear HO c9_0_32 c9_0_66 c9_0_106 lt9_0 y9_0 c9_2_0 c9_2_1 c9_2_2 c9_2_3 c9_2_4 c9_2_5 c9_2_6 c9_2_7 c9_2_8 c9_2_9 lt9_2 y9_2 c9_3_0 c9_3_1 lt9_3 y9_3 c9_4_0 c9_4_1 lt9_4 y9_4
  generalize hW : World.setCell _ _ _ = W10
  have hN : Own w0 W10 [row (pb) 182 (PC.setIfInBounds 106 (.slice (some ⟨nd7, 0, none⟩) (n + 1) (n + 1 + nd8))), row (nd7) 201 (full symZ ((symL st) ++ [.pointer none, .string nm, .int .u32 4294967295, .int .u32 4294967295, .int .u32 0, .int .u32 0, .int .u32 0, .int .u16 0, .int .u8 kd, .int .u8 0]) (nd8)), row (nd6) 201 #[.pointer none, .string nm, .int .u32 4294967295, .int .u32 4294967295, .int .u32 0, .int .u32 0, .int .u32 0, .int .u16 0, .int .u8 kd, .int .u8 0], row (nd4) 58 #[.int .u32 src, .int .u32 (n : Int)], row (B1) 58 #[.int .u32 src, .int .u32 (n : Int)]] X := by
    rw [← hW]
    exact ((hO).set 4 rfl 0 _).set 4 rfl 1 _
  clear hW hO
  have hO := hN
  clear hN
  have hN : Own w0 W10 [row (pb) 182 (PC.setIfInBounds 106 (.slice (some ⟨nd7, 0, none⟩) (n + 1) (n + 1 + nd8))), row (nd7) 201 (full symZ (symL (st ++ [syk nm kd])) (nd8)), row (nd6) 201 #[.pointer none, .string nm, .int .u32 4294967295, .int .u32 4294967295, .int .u32 0, .int .u32 0, .int .u32 0, .int .u16 0, .int .u8 kd, .int .u8 0], row (nd4) 58 #[.int .u32 src, .int .u32 (n : Int)], row (B1) 58 #[.int .u32 src, .int .u32 (n : Int)]] X := hO.conv (by rw [symL_append]; rfl)
  clear hO
  have hO := hN
  clear hN
  have z9_4_0 : W10.cell? ⟨B1, 0, none⟩ = some (.int .u32 src) := hO.cell 4 rfl 0 rfl
  have z9_4_1 : W10.cell? ⟨B1, 1, none⟩ = some (.int .u32 (n : Int)) := hO.cell 4 rfl 1 rfl
  refine bodyPost_ret (v := .agg #[.int .u32 src, .int .u32 (n : Int)]) ?_ rfl ⟨nd7, nd8, rfl, hO.sub [0, 1] (by decide)⟩
  simp [results, Tryz.results55, go_sem, z9_4_0, z9_4_1]
def rIimpF02E (pb : Nat) (PC : Array Value) (n : Nat) (src : Int) (ms : Nat) (MC : Array Value) (loc : Int) (B1_2 : Nat) (nd4 : Nat) (nd5 : Nat) : Nat → Rega.Atoms → Value
  | 0, α => .pointer (some ⟨pb, 0, none⟩)
  | 1, α => .pointer (some ⟨pb, 0, none⟩)
  | 2, α => .pointer (some ⟨pb, 187, none⟩)
  | 3, α => .pointer (some ⟨ms, 0, none⟩)
  | 4, α => .pointer (some ⟨pb, 0, none⟩)
  | 5, α => .pointer (some ⟨pb, 0, none⟩)
  | 6, α => .pointer (some ⟨pb, 187, none⟩)
  | 7, α => .pointer (some ⟨ms, 0, none⟩)
  | 8, α => .pointer (some ⟨ms, 0, none⟩)
  | 9, α => .pointer (some ⟨ms, 5, none⟩)
  | 10, α => .slice none 0 0
  | 11, α => .pointer (some ⟨B1_2, 1, none⟩)
  | 12, α => .agg #[.int .u32 src, .int .u32 (n : Int)]
  | 13, α => .slice (some ⟨α 13, 0, none⟩) 1 1
  | 14, α => .slice (some ⟨α 14, 0, none⟩) 1 (1 + α 1014)
  | 15, α => .pointer (some ⟨ms, 0, none⟩)
  | 16, α => .pointer (some ⟨ms, 5, none⟩)
  | 17, α => undef
  | _, _ => undef
def rIimpF02Anc : Nat → List Nat
  | 1 => [0]
  | 2 => [0, 1]
  | 3 => [0, 1, 2]
  | 5 => [4]
  | 6 => [4, 5]
  | 7 => [4, 5, 6]
  | 8 => [4, 5, 6, 7]
  | 9 => [4, 5, 6, 7, 8]
  | 10 => [4, 5, 6, 7, 8, 9]
  | 12 => [11]
  | 13 => [11, 12]
  | 14 => [4, 5, 6, 7, 8, 9, 10, 11, 12, 13]
  | 15 => [0, 1, 2, 3, 4, 5, 6, 7, 8, 9, 10, 11, 12, 13, 14]
  | 16 => [0, 1, 2, 3, 4, 5, 6, 7, 8, 9, 10, 11, 12, 13, 14, 15]
  | 17 => [0, 1, 2, 3, 4, 5, 6, 7, 8, 9, 10, 11, 12, 13, 14, 15, 16]
  | _ => []
def rIimpF02Trn : Nat → List Nat
  | 17 => [2999]
  | _ => []
def rIimpF02Cnt : List (Nat × Nat) := [(13, 1), (14, 1)]
def rIimpF02T2999 (pb : Nat) (PC : Array Value) (n : Nat) (src : Int) (ms : Nat) (MC : Array Value) (loc : Int) (B1_2 : Nat) (nd4 : Nat) (nd5 : Nat) (L9 : Nat → Bool) (α : Rega.Atoms) : Rw := if L9 17 = true then row (ms) 194 (MC.setIfInBounds 5 (.slice (some ⟨α 14, 0, none⟩) 1 (1 + α 1014))) else row (ms) 194 MC
def rIimpF02R (pb : Nat) (PC : Array Value) (n : Nat) (src : Int) (ms : Nat) (MC : Array Value) (loc : Int) (B1_2 : Nat) (nd4 : Nat) (nd5 : Nat) (L9 : Nat → Bool) (α : Rega.Atoms) (ix9 : Nat) : Rw := if ix9 = 999 then row (pb) 182 (PC.setIfInBounds 106 (.slice (some ⟨nd4, 0, none⟩) (n + 1) (n + 1 + nd5))) else if ix9 = 1999 then row (B1_2) 191 #[.int .i32 loc, .int .u32 src, .int .u32 (n : Int)] else if ix9 = 2999 then rIimpF02T2999 pb PC n src ms MC loc B1_2 nd4 nd5 L9 α else if ix9 = 13 then row (α 13) 58 #[.int .u32 src, .int .u32 (n : Int)] else if ix9 = 14 then row (α 14) 58 (full refZ [.int .u32 src, .int .u32 (n : Int)] (α 1014)) else (0, .map #[] 0)
theorem rIimpF02_he (pb : Nat) (PC : Array Value) (n : Nat) (src : Int) (ms : Nat) (MC : Array Value) (loc : Int) (B1_2 : Nat) (nd4 : Nat) (nd5 : Nat) : ∀ kk α α', (∀ j, (j % 1000 = kk ∨ j % 1000 ∈ rIimpF02Anc kk) → α j = α' j) → rIimpF02E pb PC n src ms MC loc B1_2 nd4 nd5 kk α = rIimpF02E pb PC n src ms MC loc B1_2 nd4 nd5 kk α' := by
  intro kk α α' h
  match kk with
  | 0 => rfl
  | 1 => rfl
  | 2 => rfl
  | 3 => rfl
  | 4 => rfl
  | 5 => rfl
  | 6 => rfl
  | 7 => rfl
  | 8 => rfl
  | 9 => rfl
  | 10 => rfl
  | 11 => rfl
  | 12 => rfl
  | 13 => simp only [rIimpF02E, h 13 (Or.inl rfl)]
  | 14 => simp only [rIimpF02E, h 14 (Or.inl rfl), h 1014 (Or.inl rfl)]
  | 15 => rfl
  | 16 => rfl
  | 17 => rfl
  | n + 18 => rfl
theorem rIimpF02_st (pb : Nat) (PC : Array Value) (n : Nat) (src : Int) (ms : Nat) (MC : Array Value) (loc : Int) (B1_2 : Nat) (nd4 : Nat) (nd5 : Nat) : Stable rIimpF02Cnt 3 rIimpF02Anc rIimpF02Trn (rIimpF02R pb PC n src ms MC loc B1_2 nd4 nd5) := by
  intro k9 L9 α α' ix9 hk hcl hα hact ht
  have hp := act_places hact
  replace hp : ix9 ∈ [999, 1999, 2999, 13, 14] := hp
  simp only [List.mem_cons, List.not_mem_nil, or_false] at hp
  rcases hp with rfl | rfl | rfl | rfl | rfl
  · rfl
  · rfl
  · show rIimpF02T2999 pb PC n src ms MC loc B1_2 nd4 nd5 (Rega.ran L9 k9) α' = rIimpF02T2999 pb PC n src ms MC loc B1_2 nd4 nd5 L9 α
    unfold rIimpF02T2999
    have n17 : 17 ≠ k9 := fun e => ht (by rw [← e]; decide)
    rw [ran_ne n17]
    by_cases e17 : L9 17 = true
    · first | rw [if_pos e17, if_pos e17] | rw [if_pos e17]
      try simp only [hα 14 (ne_ran hk (hcl 17 e17 14 (by decide))), hα 1014 (ne_ran hk (hcl 17 e17 14 (by decide)))]
    first | rw [if_neg e17, if_neg e17] | rw [if_neg e17]
  · have e0 : L9 13 = true := act_lt hact (by decide)
    show row (α' 13) 58 #[.int .u32 src, .int .u32 (n : Int)] = row (α 13) 58 #[.int .u32 src, .int .u32 (n : Int)]
    simp only [hα 13 (ne_ran hk e0)]
  · have e0 : L9 14 = true := act_lt hact (by decide)
    show row (α' 14) 58 (full refZ [.int .u32 src, .int .u32 (n : Int)] (α' 1014)) = row (α 14) 58 (full refZ [.int .u32 src, .int .u32 (n : Int)] (α 1014))
    simp only [hα 14 (ne_ran hk e0), hα 1014 (ne_ran hk e0)]
def rIimpF03E (pb : Nat) (PC : Array Value) (n : Nat) (src : Int) (mp : Nat) (es : Array MapEntry) (k : Nat) (loc : Int) (nm : ByteArray) (B1_2 : Nat) (nd4 : Nat) (nd5 : Nat) : Nat → Rega.Atoms → Value
  | 0, α => .pointer (some ⟨pb, 0, none⟩)
  | 1, α => .pointer (some ⟨pb, 0, none⟩)
  | 2, α => .pointer (some ⟨pb, 117, none⟩)
  | 3, α => .map (some mp)
  | 4, α => .string nm
  | 5, α => .agg #[.int .i32 loc, .int .u32 src, .int .u32 (n : Int)]
  | 6, α => undef
  | _, _ => undef
def rIimpF03Anc : Nat → List Nat
  | 1 => [0]
  | 2 => [0, 1]
  | 3 => [0, 1, 2]
  | 6 => [0, 1, 2, 3, 4, 5]
  | _ => []
def rIimpF03Trn : Nat → List Nat
  | 6 => [2999]
  | _ => []
def rIimpF03Cnt : List (Nat × Nat) := []
def rIimpF03T2999 (pb : Nat) (PC : Array Value) (n : Nat) (src : Int) (mp : Nat) (es : Array MapEntry) (k : Nat) (loc : Int) (nm : ByteArray) (B1_2 : Nat) (nd4 : Nat) (nd5 : Nat) (L9 : Nat → Bool) (α : Rega.Atoms) : Rw := if L9 6 = true then ((mp, .map (es.push ⟨.string nm, .agg #[.int .i32 loc, .int .u32 src, .int .u32 (n : Int)], k⟩) (k + 1)) : Rw) else ((mp, .map es k) : Rw)
def rIimpF03R (pb : Nat) (PC : Array Value) (n : Nat) (src : Int) (mp : Nat) (es : Array MapEntry) (k : Nat) (loc : Int) (nm : ByteArray) (B1_2 : Nat) (nd4 : Nat) (nd5 : Nat) (L9 : Nat → Bool) (α : Rega.Atoms) (ix9 : Nat) : Rw := if ix9 = 999 then row (pb) 182 (PC.setIfInBounds 106 (.slice (some ⟨nd4, 0, none⟩) (n + 1) (n + 1 + nd5))) else if ix9 = 1999 then row (B1_2) 191 #[.int .i32 loc, .int .u32 src, .int .u32 (n : Int)] else if ix9 = 2999 then rIimpF03T2999 pb PC n src mp es k loc nm B1_2 nd4 nd5 L9 α else (0, .map #[] 0)
theorem rIimpF03_he (pb : Nat) (PC : Array Value) (n : Nat) (src : Int) (mp : Nat) (es : Array MapEntry) (k : Nat) (loc : Int) (nm : ByteArray) (B1_2 : Nat) (nd4 : Nat) (nd5 : Nat) : ∀ kk α α', (∀ j, (j % 1000 = kk ∨ j % 1000 ∈ rIimpF03Anc kk) → α j = α' j) → rIimpF03E pb PC n src mp es k loc nm B1_2 nd4 nd5 kk α = rIimpF03E pb PC n src mp es k loc nm B1_2 nd4 nd5 kk α' := by
  intro kk α α' h
  match kk with
  | 0 => rfl
  | 1 => rfl
  | 2 => rfl
  | 3 => rfl
  | 4 => rfl
  | 5 => rfl
  | 6 => rfl
  | n + 7 => rfl
theorem rIimpF03_st (pb : Nat) (PC : Array Value) (n : Nat) (src : Int) (mp : Nat) (es : Array MapEntry) (k : Nat) (loc : Int) (nm : ByteArray) (B1_2 : Nat) (nd4 : Nat) (nd5 : Nat) : Stable rIimpF03Cnt 3 rIimpF03Anc rIimpF03Trn (rIimpF03R pb PC n src mp es k loc nm B1_2 nd4 nd5) := by
  intro k9 L9 α α' ix9 hk hcl hα hact ht
  have hp := act_places hact
  replace hp : ix9 ∈ [999, 1999, 2999] := hp
  simp only [List.mem_cons, List.not_mem_nil, or_false] at hp
  rcases hp with rfl | rfl | rfl
  · rfl
  · rfl
  · show rIimpF03T2999 pb PC n src mp es k loc nm B1_2 nd4 nd5 (Rega.ran L9 k9) α' = rIimpF03T2999 pb PC n src mp es k loc nm B1_2 nd4 nd5 L9 α
    unfold rIimpF03T2999
    have n6 : 6 ≠ k9 := fun e => ht (by rw [← e]; decide)
    rw [ran_ne n6]
def impF0Post (pb : Nat) (PC : Array Value) (sb c : Nat) (st : List Sy) (n : Nat) (src : Int) (mp : Nat) (es : Array MapEntry) (k ms : Nat) (MC : Array Value) (loc : Int) (nm : ByteArray) (w0 : World) (X : Nat → Obj → Prop) (e : Ending) (w' : World) : Prop :=
  ∃ b : Nat, ∃ sb2 : Nat, ∃ c2 : Nat, ∃ gb2 : Nat, ∃ cg2 : Nat, e = .returned (.agg #[.iface 56 (.pointer (some ⟨b, 0, none⟩)), .int .i32 loc]) ∧ Own w0 w' [row (pb) 182 (PC.setIfInBounds 106 (.slice (some ⟨sb2, 0, none⟩) (n + 1) (n + 1 + c2))), row (sb2) 201 (full symZ (symL (bump (st ++ [syk nm 27]) n)) c2), ((mp, .map (es.push ⟨.string nm, .agg #[.int .i32 loc, .int .u32 src, .int .u32 (n : Int)], k⟩) (k + 1)) : Rw), row (ms) 194 (MC.setIfInBounds 5 (.slice (some ⟨gb2, 0, none⟩) 1 (1 + cg2))), row (gb2) 58 (full refZ ([.int .u32 src, .int .u32 (n : Int)]) cg2), row (b) 60 #[.int .u32 src, .int .u32 (n : Int), .bool false, .bool false, .bool false]] X
set_option maxRecDepth 100000 in
set_option maxHeartbeats 1000000 in
theorem impF0 (pb : Nat) (PC : Array Value) (sb c : Nat) (st : List Sy) (n : Nat) (src : Int) (mp : Nat) (es : Array MapEntry) (k ms : Nat) (MC : Array Value) (loc : Int) (nm : ByteArray) (w0 w : World) (X : Nat → Obj → Prop) (hO : Own w0 w [row (pb) 182 PC, row (sb) 201 (full symZ (symL st) c), ((mp, .map es k) : Rw), row (ms) 194 MC] X) (hk350 : PC[350]? = some (.bool false)) (hk32 : PC[32]? = some (.bool false)) (hk105 : PC[105]? = some (.pointer none)) (hk66 : PC[66]? = some (.int .u32 src)) (hk117 : PC[117]? = some (.map (some mp))) (hk187 : PC[187]? = some (.pointer (some ⟨ms, 0, none⟩))) (hk106 : PC[106]? = some (.slice (some ⟨sb, 0, none⟩) n (n + c))) (hn : st.length = n) (hnb : n ≤ 2000000) (hgen : MC[5]? = some (.slice none 0 0)) (hno : Instr.findNow .string (.string nm) es.toList 0 = some none) (hg0 : w0.cell? ⟨0, 0, none⟩ = some (.int .u32 4294967295)) (hg1 : w0.cell? ⟨0, 1, none⟩ = some (.int .u32 4294967295)) :
    Calls Tryz.prog 51 #[.pointer (some ⟨pb, 0, none⟩), .agg #[.int .i32 loc], .string nm] w (impF0Post pb PC sb c st n src mp es k ms MC loc nm w0 X) := by
  go_enter Tryz.func51, Tryz.ntmps51
  have c9_0_32 : w.cell? ⟨pb, 32, none⟩ = some (.bool false) := hO.cell 0 rfl (32) (hk32)
  have c9_0_66 : w.cell? ⟨pb, 66, none⟩ = some (.int .u32 src) := hO.cell 0 rfl (66) (hk66)
  have c9_0_105 : w.cell? ⟨pb, 105, none⟩ = some (.pointer none) := hO.cell 0 rfl (105) (hk105)
  have c9_0_106 : w.cell? ⟨pb, 106, none⟩ = some (.slice (some ⟨sb, 0, none⟩) n (n + c)) := hO.cell 0 rfl (106) (hk106)
  have c9_0_117 : w.cell? ⟨pb, 117, none⟩ = some (.map (some mp)) := hO.cell 0 rfl (117) (hk117)
  have c9_0_187 : w.cell? ⟨pb, 187, none⟩ = some (.pointer (some ⟨ms, 0, none⟩)) := hO.cell 0 rfl (187) (hk187)
  have c9_0_350 : w.cell? ⟨pb, 350, none⟩ = some (.bool false) := hO.cell 0 rfl (350) (hk350)
  have lt9_0 : pb < w.heap.size := hO.lt 0 rfl
  have y9_0 : ∀ o, w.frozen? ⟨pb, o, none⟩ = false := hO.free 0 rfl
  have c9_3_5 : w.cell? ⟨ms, 5, none⟩ = some (.slice none 0 0) := hO.cell 3 rfl (5) (hgen)
  have lt9_3 : ms < w.heap.size := hO.lt 3 rfl
  have y9_3 : ∀ o, w.frozen? ⟨ms, o, none⟩ = false := hO.free 3 rfl
  have HO := Lib.hid hO
  clear hO
  have hsl : (symL st).length = n * 10 := by rw [symL_length, hn]
  go_wp2_with (first | (with_reducible refine Own.stay (fn := Tryz.f51) ?_) | (at_lookup; refine wpList_lookup_no rfl _ _ 138 true rfl 9 191 (by kernel_rfl) (by kernel_rfl) (((HO.out.mapAt 2 rfl).alloc _).alloc _) rfl _ rfl (.agg #[.int .i32 0, .int .u32 0, .int .u32 0]) (Tryz.zeroValue191 _) hno ?_))
  try with_reducible refine Own.Stay.mk ?_
  have hO := HO.out
  clear HO c9_0_32 c9_0_66 c9_0_105 c9_0_106 c9_0_117 c9_0_187 c9_0_350 lt9_0 y9_0 c9_3_5 lt9_3 y9_3
  generalize hW : World.alloc _ _ = W2
  have hN : Own w0 W2 [row (w.heap.size + 1 + 1) 191 #[.int .i32 loc, .int .u32 0, .int .u32 0], row (w.heap.size + 1) 29 #[.nilIface, .int .i32 0], row (w.heap.size) 27 #[.int .i32 loc], row (pb) 182 PC, row (sb) 201 (full symZ (symL st) c), ((mp, .map es k) : Rw), row (ms) 194 MC] X := by
    rw [← hW]
    exact (((hO).alloc' _ (w.heap.size) (by simp)).alloc' _ (w.heap.size + 1) (by simp)).alloc' _ (w.heap.size + 1 + 1) (by simp)
  clear hW hO
  generalize w.heap.size + 1 + 1 = B1_2 at hN ⊢
  generalize w.heap.size + 1 = B1_1 at hN ⊢
  generalize w.heap.size = B1 at hN ⊢
  have hO := hN
  clear hN
  have hL := hO.apart
  have hX := hO.apartX
  have HL := Lib.hid hL
  have HX := Lib.hid hX
  clear hL hX
  have hP9 := hO.pick [3, 4] (by decide)
  have T9 := newSymG pb PC sb c st n src 27 nm _ _ _ hP9 hk66 hk32 hk106 hn hnb hg0 hg1
  refine Calls.mono T9 ?_
  clear hP9 T9
  rintro e u3 ⟨nd4, nd5, rfl, hQ⟩
  have hN : Own w0 u3 [row (pb) 182 (PC.setIfInBounds 106 (.slice (some ⟨nd4, 0, none⟩) (n + 1) (n + 1 + nd5))), row (nd4) 201 (full symZ (symL (st ++ [syk nm 27])) nd5), row (B1_2) 191 #[.int .i32 loc, .int .u32 0, .int .u32 0], row (B1_1) 29 #[.nilIface, .int .i32 0], row (B1) 27 #[.int .i32 loc], ((mp, .map es k) : Rw), row (ms) 194 MC] X := hQ.back HL.out HX.out [0, 1, 2, 5, 6] (by decide) (by decide)
  clear hQ HL HX hO
  have hO := hN
  clear hN
  obtain ⟨c9_2_0, c9_2_1, c9_2_2, lt9_2, y9_2, -⟩ := hO.k3 2 rfl
  obtain ⟨c9_3_0, c9_3_1, lt9_3, y9_3, -⟩ := hO.k2 3 rfl
  obtain ⟨c9_4_0, lt9_4, y9_4, -⟩ := hO.k1 4 rfl
  have HO := Lib.hid hO
  clear hO
  go_wp2_with (first | (with_reducible refine Own.stay (fn := Tryz.f51) ?_) | (at_lookup; refine wpList_lookup_no rfl _ _ 138 true rfl 9 191 (by kernel_rfl) (by kernel_rfl) (((HO.out.mapAt 2 rfl).alloc _).alloc _) rfl _ rfl (.agg #[.int .i32 0, .int .u32 0, .int .u32 0]) (Tryz.zeroValue191 _) hno ?_))
  try with_reducible refine Own.Stay.mk ?_
  have hO := HO.out
  clear HO c9_2_0 c9_2_1 c9_2_2 lt9_2 y9_2 c9_3_0 c9_3_1 lt9_3 y9_3 c9_4_0 lt9_4 y9_4
  generalize hW : World.setCell _ _ _ = W7
  have hN : Own w0 W7 [row (pb) 182 (PC.setIfInBounds 106 (.slice (some ⟨nd4, 0, none⟩) (n + 1) (n + 1 + nd5))), row (nd4) 201 (full symZ (symL (st ++ [syk nm 27])) nd5), row (B1_2) 191 #[.int .i32 loc, .int .u32 src, .int .u32 (n : Int)], row (B1_1) 29 #[.nilIface, .int .i32 0], row (B1) 27 #[.int .i32 loc], ((mp, .map es k) : Rw), row (ms) 194 MC] X := by
    rw [← hW]
    exact ((hO).set 2 rfl 1 _).set 2 rfl 2 _
  clear hW hO
  have hO := hN
  clear hN
  have hL := hO.apart
  have hX := hO.apartX
  have HL := Lib.hid hL
  have HX := Lib.hid hX
  clear hL hX
  have hP9 := hO.pick [0, 2, 6] (by decide)
  generalize hX9_8 : Own.Rest _ _ X = X9_8 at hP9
  replace hP9 : Own w0 W7 [row (pb) 182 (PC.setIfInBounds 106 (.slice (some ⟨nd4, 0, none⟩) (n + 1) (n + 1 + nd5))), row (B1_2) 191 #[.int .i32 loc, .int .u32 src, .int .u32 (n : Int)], row (ms) 194 MC] X9_8 := hP9
  clear hO
  have hO := hP9
  clear hP9
  have st9 := rIimpF02_st pb PC n src ms MC loc B1_2 nd4 nd5
  let R9 := rIimpF02R pb PC n src ms MC loc B1_2 nd4 nd5
  refine wp_region_own (e := rIimpF02E pb PC n src ms MC loc B1_2 nd4 nd5) (anc := rIimpF02Anc) (G := (fun L9 α u9 => OwnF w0 u9 (act rIimpF02Cnt 3 L9) (rIimpF02R pb PC n src ms MC loc B1_2 nd4 nd5 L9 α) X9_8)) (by kernel_rfl) (by kernel_rfl) (by kernel_rfl) (by kernel_rfl) (rIimpF02_he pb PC n src ms MC loc B1_2 nd4 nd5) ?_ (RunsAll.all ?_) ?_
  · have hp : ∀ i, act rIimpF02Cnt 3 (fun _ => false) i → i ∈ [999, 1999, 2999] := by
      intro i hi
      have h9 : i % 1000 = 999 := by
        by_cases h : i % 1000 = 999
        · exact h
        · exact absurd (act_lt hi h) (by simp)
      unfold act at hi
      rw [if_pos h9] at hi
      simp only [List.mem_cons, List.not_mem_nil, or_false]
      omega
    refine hO.drew.family (fun i hi => ?_) (fun i j hi hj hij => ?_)
    · have := hp i hi
      simp only [List.mem_cons, List.not_mem_nil, or_false] at this
      rcases this with rfl | rfl | rfl <;> rfl
    · have h1 := hp i hi
      have h2 := hp j hj
      simp only [List.mem_cons, List.not_mem_nil, or_false] at h1 h2
      omega
  · refine ⟨?_, ?_, ?_, ?_, ?_, ?_, ?_, ?_, ?_, ?_, ?_, ?_, ?_, ?_, ?_, ?_, ?_, ?_, trivial⟩
    · intro L9 α a9 u9 K9 hL hcl hA hG hS h0 h1 hK
      replace hL : L9 0 = false := hL
      have q0 : a9.tmps[0]? = some (.pointer (some ⟨pb, 0, none⟩)) := (h0 0 (by kernel_rfl)).trans rfl
      have s0 := Rega.eval_of q0
      go_simp
      exact hK _ α _ (fun _ _ => rfl) rfl (step_same (st9) hL hcl rfl rfl hG)
    · intro L9 α a9 u9 K9 hL hcl hA hG hS h0 h1 hK
      replace hL : L9 1 = false := hL
      have q26 : a9.tmps[26]? = some (.pointer (some ⟨pb, 0, none⟩)) := hS 0 26 (by decide) rfl (by show 26 < 60; decide)
      have s26 := Rega.eval_of q26
      go_simp
      exact hK _ α _ (fun _ _ => rfl) rfl (step_same (st9) hL hcl rfl rfl hG)
    · intro L9 α a9 u9 K9 hL hcl hA hG hS h0 h1 hK
      replace hL : L9 2 = false := hL
      have q27 : a9.tmps[27]? = some (.pointer (some ⟨pb, 0, none⟩)) := hS 1 27 (by decide) rfl (by show 27 < 60; decide)
      have s27 := Rega.eval_of q27
      go_simp
      exact hK _ α _ (fun _ _ => rfl) rfl (step_same (st9) hL hcl rfl rfl hG)
    · intro L9 α a9 u9 K9 hL hcl hA hG hS h0 h1 hK
      replace hL : L9 3 = false := hL
      have q28 : a9.tmps[28]? = some (.pointer (some ⟨pb, 187, none⟩)) := hS 2 28 (by decide) rfl (by show 28 < 60; decide)
      have s28 := Rega.eval_of q28
      have e0 : R9 L9 α 999 = row (pb) 182 (PC.setIfInBounds 106 (.slice (some ⟨nd4, 0, none⟩) (n + 1) (n + 1 + nd5))) := rfl
      have hr := hG.rowAt 999 (act_base 999 rfl) e0
      have c0 : u9.cell? ⟨pb, 187, none⟩ = some (.pointer (some ⟨ms, 0, none⟩)) := hr.cell ((get_other hk187 (by omega) _))
      clear hr e0
      go_simp
      exact hK _ α _ (fun _ _ => rfl) rfl (step_same (st9) hL hcl rfl rfl hG)
    · intro L9 α a9 u9 K9 hL hcl hA hG hS h0 h1 hK
      replace hL : L9 4 = false := hL
      have q0 : a9.tmps[0]? = some (.pointer (some ⟨pb, 0, none⟩)) := (h0 0 (by kernel_rfl)).trans rfl
      have s0 := Rega.eval_of q0
      go_simp
      exact hK _ α _ (fun _ _ => rfl) rfl (step_same (st9) hL hcl rfl rfl hG)
    · intro L9 α a9 u9 K9 hL hcl hA hG hS h0 h1 hK
      replace hL : L9 5 = false := hL
      have q30 : a9.tmps[30]? = some (.pointer (some ⟨pb, 0, none⟩)) := hS 4 30 (by decide) rfl (by show 30 < 60; decide)
      have s30 := Rega.eval_of q30
      go_simp
      exact hK _ α _ (fun _ _ => rfl) rfl (step_same (st9) hL hcl rfl rfl hG)
    · intro L9 α a9 u9 K9 hL hcl hA hG hS h0 h1 hK
      replace hL : L9 6 = false := hL
      have q31 : a9.tmps[31]? = some (.pointer (some ⟨pb, 0, none⟩)) := hS 5 31 (by decide) rfl (by show 31 < 60; decide)
      have s31 := Rega.eval_of q31
      go_simp
      exact hK _ α _ (fun _ _ => rfl) rfl (step_same (st9) hL hcl rfl rfl hG)
    · intro L9 α a9 u9 K9 hL hcl hA hG hS h0 h1 hK
      replace hL : L9 7 = false := hL
      have q32 : a9.tmps[32]? = some (.pointer (some ⟨pb, 187, none⟩)) := hS 6 32 (by decide) rfl (by show 32 < 60; decide)
      have s32 := Rega.eval_of q32
      have e0 : R9 L9 α 999 = row (pb) 182 (PC.setIfInBounds 106 (.slice (some ⟨nd4, 0, none⟩) (n + 1) (n + 1 + nd5))) := rfl
      have hr := hG.rowAt 999 (act_base 999 rfl) e0
      have c0 : u9.cell? ⟨pb, 187, none⟩ = some (.pointer (some ⟨ms, 0, none⟩)) := hr.cell ((get_other hk187 (by omega) _))
      clear hr e0
      go_simp
      exact hK _ α _ (fun _ _ => rfl) rfl (step_same (st9) hL hcl rfl rfl hG)
    · intro L9 α a9 u9 K9 hL hcl hA hG hS h0 h1 hK
      replace hL : L9 8 = false := hL
      have q33 : a9.tmps[33]? = some (.pointer (some ⟨ms, 0, none⟩)) := hS 7 33 (by decide) rfl (by show 33 < 60; decide)
      have s33 := Rega.eval_of q33
      go_simp
      exact hK _ α _ (fun _ _ => rfl) rfl (step_same (st9) hL hcl rfl rfl hG)
    · intro L9 α a9 u9 K9 hL hcl hA hG hS h0 h1 hK
      replace hL : L9 9 = false := hL
      have q34 : a9.tmps[34]? = some (.pointer (some ⟨ms, 0, none⟩)) := hS 8 34 (by decide) rfl (by show 34 < 60; decide)
      have s34 := Rega.eval_of q34
      go_simp
      exact hK _ α _ (fun _ _ => rfl) rfl (step_same (st9) hL hcl rfl rfl hG)
    · intro L9 α a9 u9 K9 hL hcl hA hG hS h0 h1 hK
      replace hL : L9 10 = false := hL
      have q35 : a9.tmps[35]? = some (.pointer (some ⟨ms, 5, none⟩)) := hS 9 35 (by decide) rfl (by show 35 < 60; decide)
      have s35 := Rega.eval_of q35
      have e0 : R9 L9 α 2999 = row (ms) 194 MC := by
        show rIimpF02T2999 pb PC n src ms MC loc B1_2 nd4 nd5 L9 α = _
        unfold rIimpF02T2999
        rw [if_neg (fun e => by have := hcl 17 e 10 (by decide); rw [hL] at this; cases this)]
      have hr := hG.rowAt 2999 (act_base 2999 rfl) e0
      have c0 : u9.cell? ⟨ms, 5, none⟩ = some (.slice none 0 0) := hr.cell (hgen)
      clear hr e0
      go_simp
      exact hK _ α _ (fun _ _ => rfl) rfl (step_same (st9) hL hcl rfl rfl hG)
    · intro L9 α a9 u9 K9 hL hcl hA hG hS h0 h1 hK
      replace hL : L9 11 = false := hL
      have q7 : a9.tmps[7]? = some (.pointer (some ⟨B1_2, 0, none⟩)) := (h0 7 (by kernel_rfl)).trans rfl
      have s7 := Rega.eval_of q7
      go_simp
      exact hK _ α _ (fun _ _ => rfl) rfl (step_same (st9) hL hcl rfl rfl hG)
    · intro L9 α a9 u9 K9 hL hcl hA hG hS h0 h1 hK
      replace hL : L9 12 = false := hL
      have q37 : a9.tmps[37]? = some (.pointer (some ⟨B1_2, 1, none⟩)) := hS 11 37 (by decide) rfl (by show 37 < 60; decide)
      have s37 := Rega.eval_of q37
      have e0 : R9 L9 α 1999 = row (B1_2) 191 #[.int .i32 loc, .int .u32 src, .int .u32 (n : Int)] := rfl
      have hr := hG.rowAt 1999 (act_base 1999 rfl) e0
      have c0 : u9.cell? ⟨B1_2, 1, none⟩ = some (.int .u32 src) := hr.cell rfl
      have c1 : u9.cell? ⟨B1_2, 2, none⟩ = some (.int .u32 (n : Int)) := hr.cell rfl
      clear hr e0
      go_simp
      exact hK _ α _ (fun _ _ => rfl) rfl (step_same (st9) hL hcl rfl rfl hG)
    · intro L9 α a9 u9 K9 hL hcl hA hG hS h0 h1 hK
      replace hL : L9 13 = false := hL
      have q38 : a9.tmps[38]? = some (.agg #[.int .u32 src, .int .u32 (n : Int)]) := hS 12 38 (by decide) rfl (by show 38 < 60; decide)
      have s38 := Rega.eval_of q38
      go_simp
      exact hK _ (fun j => if j = 13 then u9.heap.size else α j) _ (fun j hj => if_neg (fun e => hj (by rw [e]))) rfl (step_alloc (st9) hL hcl rfl rfl (by decide) _ rfl hG)
    · intro L9 α a9 u9 K9 hL hcl hA hG hS h0 h1 hK
      replace hL : L9 14 = false := hL
      have q36 : a9.tmps[36]? = some (.slice none 0 0) := hS 10 36 (by decide) rfl (by show 36 < 60; decide)
      have s36 := Rega.eval_of q36
      have q39 : a9.tmps[39]? = some (.slice (some ⟨α 13, 0, none⟩) 1 1) := hS 13 39 (by decide) rfl (by show 39 < 60; decide)
      have s39 := Rega.eval_of q39
      simp only [Region.wanted, if_true]
      have e0 : R9 L9 α 13 = row (α 13) 58 #[.int .u32 src, .int .u32 (n : Int)] := rfl
      have hM : ∀ i, i ∈ [13] → act rIimpF02Cnt 3 L9 i := by
        intro i hi
        simp only [List.mem_cons, List.not_mem_nil, or_false] at hi
        subst hi
        exact act_new 13 rfl (hA 13 (by decide))
      have hP : Own w0 u9 [row (α 13) 58 #[.int .u32 src, .int .u32 (n : Int)]] _ := (hG.pick [13] (by decide) hM).conv (by
        show [R9 L9 α 13] = _
        rw [e0])
      clear e0 hM
      obtain ⟨i9, hi9, z1, z2, z3⟩ := info_parts infoRef
      refine wp_append_full_nil (Operand.tmp 36) (Operand.tmp 39) 130 rfl 58 i9 (.agg refZ) 2 8 Tryz.underlying130 hi9 z1 z2 z3 hP s36 s39 rfl (by decide) (by first | decide | omega | (unfold maxLen; omega)) (by first | decide | omega | (unfold maxLen; omega)) ?_
      intro b0 b1 u1 hQ
      obtain ⟨α', hα'⟩ : ∃ α' : Rega.Atoms, α' = (fun j => if j = 14 then b0 else if j = 1014 then b1 else α j) := ⟨_, rfl⟩
      have f0 : R9 (Rega.ran L9 14) α' 14 = row (α' 14) 58 (full refZ [.int .u32 src, .int .u32 (n : Int)] (α' 1014)) := rfl
      have f1 : R9 (Rega.ran L9 14) α' 13 = row (α' 13) 58 #[.int .u32 src, .int .u32 (n : Int)] := rfl
      have hα : ∀ j, j % 1000 ≠ 14 → α' j = α j := fun j hj => by rw [hα']; simp only []; rw [if_neg (by omega), if_neg (by omega)]
      have hb0 : α' 14 = b0 := by rw [hα']; rfl
      have hb1 : α' 1014 = b1 := by rw [hα']; rfl
      have ha13 : α' 13 = α 13 := hα 13 (by decide)
      refine hK _ α' _ hα ?_ (step_call (st9) hL hcl hα [13] [14, 13] (by decide) (by decide) (by decide) (M := _) ?_ hG hQ)
      · show _ = (.slice (some ⟨α' 14, 0, none⟩) 1 (1 + α' 1014) : Value)
        simp only [hb0, hb1]
      · show [R9 (Rega.ran L9 14) α' 14, R9 (Rega.ran L9 14) α' 13] = _
        rw [f0, f1]
        simp only [hb0, hb1, ha13]
        try rfl
    · intro L9 α a9 u9 K9 hL hcl hA hG hS h0 h1 hK
      replace hL : L9 15 = false := hL
      have q29 : a9.tmps[29]? = some (.pointer (some ⟨ms, 0, none⟩)) := hS 3 29 (by decide) rfl (by show 29 < 60; decide)
      have s29 := Rega.eval_of q29
      go_simp
      exact hK _ α _ (fun _ _ => rfl) rfl (step_same (st9) hL hcl rfl rfl hG)
    · intro L9 α a9 u9 K9 hL hcl hA hG hS h0 h1 hK
      replace hL : L9 16 = false := hL
      have q41 : a9.tmps[41]? = some (.pointer (some ⟨ms, 0, none⟩)) := hS 15 41 (by decide) rfl (by show 41 < 60; decide)
      have s41 := Rega.eval_of q41
      go_simp
      exact hK _ α _ (fun _ _ => rfl) rfl (step_same (st9) hL hcl rfl rfl hG)
    · intro L9 α a9 u9 K9 hL hcl hA hG hS h0 h1 hK
      replace hL : L9 17 = false := hL
      have q42 : a9.tmps[42]? = some (.pointer (some ⟨ms, 5, none⟩)) := hS 16 42 (by decide) rfl (by show 42 < 60; decide)
      have s42 := Rega.eval_of q42
      have q40 : a9.tmps[40]? = some (.slice (some ⟨α 14, 0, none⟩) 1 (1 + α 1014)) := hS 14 40 (by decide) rfl (by show 40 < 60; decide)
      have s40 := Rega.eval_of q40
      have e0 : R9 L9 α 2999 = row (ms) 194 MC := by
        show rIimpF02T2999 pb PC n src ms MC loc B1_2 nd4 nd5 L9 α = _
        unfold rIimpF02T2999
        rw [if_neg (by rw [hL]; decide)]
      have hr := hG.rowAt 2999 (act_base 2999 rfl) e0
      have c0 : u9.cell? ⟨ms, 5, none⟩ = some (.slice none 0 0) := hr.cell (hgen)
      have y0 : u9.frozen? ⟨ms, 5, none⟩ = false := hr.free (5)
      clear hr
      have E0 := Lib.hid e0
      clear e0
      go_simp
      have e1 : R9 (Rega.ran L9 17) α 2999 = row (ms) 194 (MC.setIfInBounds 5 (.slice (some ⟨α 14, 0, none⟩) 1 (1 + α 1014))) := by
        show rIimpF02T2999 pb PC n src ms MC loc B1_2 nd4 nd5 (Rega.ran L9 17) α = _
        unfold rIimpF02T2999
        rw [if_pos (show Rega.ran L9 17 17 = true from rfl)]
      exact hK _ α _ (fun _ _ => rfl) rfl (step_sets (st9) hL hcl rfl 2999 rfl (act_base 2999 rfl) E0.out (5) [.slice (some ⟨α 14, 0, none⟩) 1 (1 + α 1014)] (e1.trans rfl) hG)
  clear st9
  intro α u hG
  have e0 : R9 (fun k => decide (k < 18)) α 999 = row (pb) 182 (PC.setIfInBounds 106 (.slice (some ⟨nd4, 0, none⟩) (n + 1) (n + 1 + nd5))) := rfl
  have e1 : R9 (fun k => decide (k < 18)) α 1999 = row (B1_2) 191 #[.int .i32 loc, .int .u32 src, .int .u32 (n : Int)] := rfl
  have e2 : R9 (fun k => decide (k < 18)) α 2999 = row (ms) 194 (MC.setIfInBounds 5 (.slice (some ⟨α 14, 0, none⟩) 1 (1 + α 1014))) := by
    show rIimpF02T2999 pb PC n src ms MC loc B1_2 nd4 nd5 (fun k => decide (k < 18)) α = _
    unfold rIimpF02T2999
    rw [if_pos (by decide)]
  have e3 : R9 (fun k => decide (k < 18)) α 13 = row (α 13) 58 #[.int .u32 src, .int .u32 (n : Int)] := rfl
  have e4 : R9 (fun k => decide (k < 18)) α 14 = row (α 14) 58 (full refZ [.int .u32 src, .int .u32 (n : Int)] (α 1014)) := rfl
  have hO : Own w0 u [row (pb) 182 (PC.setIfInBounds 106 (.slice (some ⟨nd4, 0, none⟩) (n + 1) (n + 1 + nd5))), row (B1_2) 191 #[.int .i32 loc, .int .u32 src, .int .u32 (n : Int)], row (ms) 194 (MC.setIfInBounds 5 (.slice (some ⟨α 14, 0, none⟩) 1 (1 + α 1014))), row (α 13) 58 #[.int .u32 src, .int .u32 (n : Int)], row (α 14) 58 (full refZ [.int .u32 src, .int .u32 (n : Int)] (α 1014))] X9_8 := (hG.list [999, 1999, 2999, 13, 14] (by decide) (act_all (by decide))).conv (by
    show [R9 (fun k => decide (k < 18)) α 999, R9 (fun k => decide (k < 18)) α 1999, R9 (fun k => decide (k < 18)) α 2999, R9 (fun k => decide (k < 18)) α 13, R9 (fun k => decide (k < 18)) α 14] = _
    rw [e0, e1, e2, e3, e4])
  clear hG e0 e1 e2 e3 e4 R9
  generalize hfr : Rega.frameAt _ _ _ _ _ = fr
  have hdf : fr = ⟨#[.pointer (some ⟨pb, 0, none⟩), .agg #[.int .i32 loc], .string nm, undef, .pointer (some ⟨B1, 0, none⟩), undef, .pointer (some ⟨B1_1, 0, none⟩), .pointer (some ⟨B1_2, 0, none⟩), .bool false, .tuple #[.agg #[.int .i32 0, .int .u32 0, .int .u32 0], .bool false], .pointer (some ⟨pb, 0, none⟩), .pointer (some ⟨pb, 0, none⟩), .pointer (some ⟨pb, 117, none⟩), .map (some mp), .string nm, .tuple #[.agg #[.int .i32 0, .int .u32 0, .int .u32 0], .bool false], .agg #[.int .i32 0, .int .u32 0, .int .u32 0], .bool false, .bool false, .bool true, .agg #[.int .i32 loc], .pointer (some ⟨B1_2, 0, none⟩), .pointer (some ⟨pb, 0, none⟩), .string nm, .agg #[.int .u32 src, .int .u32 (n : Int)], .pointer (some ⟨B1_2, 1, none⟩), .pointer (some ⟨pb, 0, none⟩), .pointer (some ⟨pb, 0, none⟩), .pointer (some ⟨pb, 187, none⟩), .pointer (some ⟨ms, 0, none⟩), .pointer (some ⟨pb, 0, none⟩), .pointer (some ⟨pb, 0, none⟩), .pointer (some ⟨pb, 187, none⟩), .pointer (some ⟨ms, 0, none⟩), .pointer (some ⟨ms, 0, none⟩), .pointer (some ⟨ms, 5, none⟩), .slice none 0 0, .pointer (some ⟨B1_2, 1, none⟩), .agg #[.int .u32 src, .int .u32 (n : Int)], .slice (some ⟨α 13, 0, none⟩) 1 1, .slice (some ⟨α 14, 0, none⟩) 1 (1 + α 1014), .pointer (some ⟨ms, 0, none⟩), .pointer (some ⟨ms, 5, none⟩), undef, undef, undef, undef, undef, undef, undef, undef, undef, undef, undef, undef, undef, undef, undef, undef, undef], []⟩ := by rw [← hfr]; kernel_rfl
  clear hfr
  subst hdf
  generalize α 13 = nd9 at hO ⊢
  generalize α 14 = nd10 at hO ⊢
  generalize α 1014 = nd11 at hO ⊢
  clear α
  subst hX9_8
  have hN : Own w0 u [row (pb) 182 (PC.setIfInBounds 106 (.slice (some ⟨nd4, 0, none⟩) (n + 1) (n + 1 + nd5))), row (B1_2) 191 #[.int .i32 loc, .int .u32 src, .int .u32 (n : Int)], row (ms) 194 (MC.setIfInBounds 5 (.slice (some ⟨nd10, 0, none⟩) 1 (1 + nd11))), row (nd9) 58 #[.int .u32 src, .int .u32 (n : Int)], row (nd10) 58 (full refZ [.int .u32 src, .int .u32 (n : Int)] (nd11)), row (nd4) 201 (full symZ (symL (st ++ [syk nm 27])) nd5), row (B1_1) 29 #[.nilIface, .int .i32 0], row (B1) 27 #[.int .i32 loc], ((mp, .map es k) : Rw)] X := hO.back HL.out HX.out [1, 3, 4, 5] (by decide) (by decide)
  clear hO HL HX
  have hO := hN
  clear hN
  obtain ⟨c9_1_0, c9_1_1, c9_1_2, lt9_1, y9_1, -⟩ := hO.k3 1 rfl
  obtain ⟨c9_3_0, c9_3_1, lt9_3, y9_3, -⟩ := hO.k2 3 rfl
  obtain ⟨c9_6_0, c9_6_1, lt9_6, y9_6, -⟩ := hO.k2 6 rfl
  obtain ⟨c9_7_0, lt9_7, y9_7, -⟩ := hO.k1 7 rfl
  have HO := Lib.hid hO
  clear hO
  go_wp2_with (first | (with_reducible refine Own.stay (fn := Tryz.f51) ?_) | (at_lookup; refine wpList_lookup_no rfl _ _ 138 true rfl 9 191 (by kernel_rfl) (by kernel_rfl) (((HO.out.mapAt 2 rfl).alloc _).alloc _) rfl _ rfl (.agg #[.int .i32 0, .int .u32 0, .int .u32 0]) (Tryz.zeroValue191 _) hno ?_))
  try with_reducible refine Own.Stay.mk ?_
  have hO := HO.out
  clear HO c9_1_0 c9_1_1 c9_1_2 lt9_1 y9_1 c9_3_0 c9_3_1 lt9_3 y9_3 c9_6_0 c9_6_1 lt9_6 y9_6 c9_7_0 lt9_7 y9_7
  have hL := hO.apart
  have hX := hO.apartX
  have HL := Lib.hid hL
  have HX := Lib.hid hX
  clear hL hX
  have hP9 := hO.pick [0, 1, 8] (by decide)
  generalize hX9_12 : Own.Rest _ _ X = X9_12 at hP9
  replace hP9 : Own w0 u [row (pb) 182 (PC.setIfInBounds 106 (.slice (some ⟨nd4, 0, none⟩) (n + 1) (n + 1 + nd5))), row (B1_2) 191 #[.int .i32 loc, .int .u32 src, .int .u32 (n : Int)], ((mp, .map es k) : Rw)] X9_12 := hP9
  clear hO
  have hO := hP9
  clear hP9
  have st9 := rIimpF03_st pb PC n src mp es k loc nm B1_2 nd4 nd5
  let R9 := rIimpF03R pb PC n src mp es k loc nm B1_2 nd4 nd5
  refine wp_region_own (e := rIimpF03E pb PC n src mp es k loc nm B1_2 nd4 nd5) (anc := rIimpF03Anc) (G := (fun L9 α u9 => OwnF w0 u9 (act rIimpF03Cnt 3 L9) (rIimpF03R pb PC n src mp es k loc nm B1_2 nd4 nd5 L9 α) X9_12)) (by kernel_rfl) (by kernel_rfl) (by kernel_rfl) (by kernel_rfl) (rIimpF03_he pb PC n src mp es k loc nm B1_2 nd4 nd5) ?_ (RunsAll.all ?_) ?_
  · have hp : ∀ i, act rIimpF03Cnt 3 (fun _ => false) i → i ∈ [999, 1999, 2999] := by
      intro i hi
      have h9 : i % 1000 = 999 := by
        by_cases h : i % 1000 = 999
        · exact h
        · exact absurd (act_lt hi h) (by simp)
      unfold act at hi
      rw [if_pos h9] at hi
      simp only [List.mem_cons, List.not_mem_nil, or_false]
      omega
    refine hO.drew.family (fun i hi => ?_) (fun i j hi hj hij => ?_)
    · have := hp i hi
      simp only [List.mem_cons, List.not_mem_nil, or_false] at this
      rcases this with rfl | rfl | rfl <;> rfl
    · have h1 := hp i hi
      have h2 := hp j hj
      simp only [List.mem_cons, List.not_mem_nil, or_false] at h1 h2
      omega
  · refine ⟨?_, ?_, ?_, ?_, ?_, ?_, ?_, trivial⟩
    · intro L9 α a9 u9 K9 hL hcl hA hG hS h0 h1 hK
      replace hL : L9 0 = false := hL
      have q0 : a9.tmps[0]? = some (.pointer (some ⟨pb, 0, none⟩)) := (h0 0 (by kernel_rfl)).trans rfl
      have s0 := Rega.eval_of q0
      go_simp
      exact hK _ α _ (fun _ _ => rfl) rfl (step_same (st9) hL hcl rfl rfl hG)
    · intro L9 α a9 u9 K9 hL hcl hA hG hS h0 h1 hK
      replace hL : L9 1 = false := hL
      have q43 : a9.tmps[43]? = some (.pointer (some ⟨pb, 0, none⟩)) := hS 0 43 (by decide) rfl (by show 43 < 60; decide)
      have s43 := Rega.eval_of q43
      go_simp
      exact hK _ α _ (fun _ _ => rfl) rfl (step_same (st9) hL hcl rfl rfl hG)
    · intro L9 α a9 u9 K9 hL hcl hA hG hS h0 h1 hK
      replace hL : L9 2 = false := hL
      have q44 : a9.tmps[44]? = some (.pointer (some ⟨pb, 0, none⟩)) := hS 1 44 (by decide) rfl (by show 44 < 60; decide)
      have s44 := Rega.eval_of q44
      go_simp
      exact hK _ α _ (fun _ _ => rfl) rfl (step_same (st9) hL hcl rfl rfl hG)
    · intro L9 α a9 u9 K9 hL hcl hA hG hS h0 h1 hK
      replace hL : L9 3 = false := hL
      have q45 : a9.tmps[45]? = some (.pointer (some ⟨pb, 117, none⟩)) := hS 2 45 (by decide) rfl (by show 45 < 60; decide)
      have s45 := Rega.eval_of q45
      have e0 : R9 L9 α 999 = row (pb) 182 (PC.setIfInBounds 106 (.slice (some ⟨nd4, 0, none⟩) (n + 1) (n + 1 + nd5))) := rfl
      have hr := hG.rowAt 999 (act_base 999 rfl) e0
      have c0 : u9.cell? ⟨pb, 117, none⟩ = some (.map (some mp)) := hr.cell ((get_other hk117 (by omega) _))
      clear hr e0
      go_simp
      exact hK _ α _ (fun _ _ => rfl) rfl (step_same (st9) hL hcl rfl rfl hG)
    · intro L9 α a9 u9 K9 hL hcl hA hG hS h0 h1 hK
      replace hL : L9 4 = false := hL
      have q2 : a9.tmps[2]? = some (.string nm) := (h0 2 (by kernel_rfl)).trans rfl
      have s2 := Rega.eval_of q2
      go_simp
      exact hK _ α _ (fun _ _ => rfl) rfl (step_same (st9) hL hcl rfl rfl hG)
    · intro L9 α a9 u9 K9 hL hcl hA hG hS h0 h1 hK
      replace hL : L9 5 = false := hL
      have q7 : a9.tmps[7]? = some (.pointer (some ⟨B1_2, 0, none⟩)) := (h0 7 (by kernel_rfl)).trans rfl
      have s7 := Rega.eval_of q7
      have e0 : R9 L9 α 1999 = row (B1_2) 191 #[.int .i32 loc, .int .u32 src, .int .u32 (n : Int)] := rfl
      have hr := hG.rowAt 1999 (act_base 1999 rfl) e0
      have c0 : u9.cell? ⟨B1_2, 0, none⟩ = some (.int .i32 loc) := hr.cell rfl
      have c1 : u9.cell? ⟨B1_2, 1, none⟩ = some (.int .u32 src) := hr.cell rfl
      have c2 : u9.cell? ⟨B1_2, 2, none⟩ = some (.int .u32 (n : Int)) := hr.cell rfl
      clear hr e0
      go_simp
      exact hK _ α _ (fun _ _ => rfl) rfl (step_same (st9) hL hcl rfl rfl hG)
    · intro L9 α a9 u9 K9 hL hcl hA hG hS h0 h1 hK
      replace hL : L9 6 = false := hL
      have q46 : a9.tmps[46]? = some (.map (some mp)) := hS 3 46 (by decide) rfl (by show 46 < 60; decide)
      have s46 := Rega.eval_of q46
      have q47 : a9.tmps[47]? = some (.string nm) := hS 4 47 (by decide) rfl (by show 47 < 60; decide)
      have s47 := Rega.eval_of q47
      have q48 : a9.tmps[48]? = some (.agg #[.int .i32 loc, .int .u32 src, .int .u32 (n : Int)]) := hS 5 48 (by decide) rfl (by show 48 < 60; decide)
      have s48 := Rega.eval_of q48
      have e0 : R9 L9 α 2999 = ((mp, .map es k) : Rw) := by
        show rIimpF03T2999 pb PC n src mp es k loc nm B1_2 nd4 nd5 L9 α = _
        unfold rIimpF03T2999
        rw [if_neg (by rw [hL]; decide)]
      have hm := hG.mapAt 2999 (act_base 2999 rfl) e0
      have hu9 := Base.run_update_new (P := Tryz.prog) u9 Tryz.underlying138 Tryz.underlying9 hm nm (.agg #[.int .i32 loc, .int .u32 src, .int .u32 (n : Int)]) (by first | assumption | kernel_rfl)
      have E0 := Lib.hid e0
      clear e0 hm
      go_simp
      have e1 : R9 (Rega.ran L9 6) α 2999 = ((mp, .map (es.push ⟨.string nm, .agg #[.int .i32 loc, .int .u32 src, .int .u32 (n : Int)], k⟩) (k + 1)) : Rw) := by
        show rIimpF03T2999 pb PC n src mp es k loc nm B1_2 nd4 nd5 (Rega.ran L9 6) α = _
        unfold rIimpF03T2999
        rw [if_pos (show Rega.ran L9 6 6 = true from rfl)]
      exact hK _ α _ (fun _ _ => rfl) rfl (step_setMap (st9) hL hcl rfl 2999 rfl (act_base 2999 rfl) E0.out (e1.trans rfl) hG)
  clear st9
  intro α u hG
  have e0 : R9 (fun k => decide (k < 7)) α 999 = row (pb) 182 (PC.setIfInBounds 106 (.slice (some ⟨nd4, 0, none⟩) (n + 1) (n + 1 + nd5))) := rfl
  have e1 : R9 (fun k => decide (k < 7)) α 1999 = row (B1_2) 191 #[.int .i32 loc, .int .u32 src, .int .u32 (n : Int)] := rfl
  have e2 : R9 (fun k => decide (k < 7)) α 2999 = ((mp, .map (es.push ⟨.string nm, .agg #[.int .i32 loc, .int .u32 src, .int .u32 (n : Int)], k⟩) (k + 1)) : Rw) := by
    show rIimpF03T2999 pb PC n src mp es k loc nm B1_2 nd4 nd5 (fun k => decide (k < 7)) α = _
    unfold rIimpF03T2999
    rw [if_pos (by decide)]
  have hO : Own w0 u [row (pb) 182 (PC.setIfInBounds 106 (.slice (some ⟨nd4, 0, none⟩) (n + 1) (n + 1 + nd5))), row (B1_2) 191 #[.int .i32 loc, .int .u32 src, .int .u32 (n : Int)], ((mp, .map (es.push ⟨.string nm, .agg #[.int .i32 loc, .int .u32 src, .int .u32 (n : Int)], k⟩) (k + 1)) : Rw)] X9_12 := (hG.list [999, 1999, 2999] (by decide) (act_all (by decide))).conv (by
    show [R9 (fun k => decide (k < 7)) α 999, R9 (fun k => decide (k < 7)) α 1999, R9 (fun k => decide (k < 7)) α 2999] = _
    rw [e0, e1, e2])
  clear hG e0 e1 e2 R9
  generalize hfr : Rega.frameAt _ _ _ _ _ = fr
  have hdf : fr = ⟨#[.pointer (some ⟨pb, 0, none⟩), .agg #[.int .i32 loc], .string nm, undef, .pointer (some ⟨B1, 0, none⟩), undef, .pointer (some ⟨B1_1, 0, none⟩), .pointer (some ⟨B1_2, 0, none⟩), .bool false, .tuple #[.agg #[.int .i32 0, .int .u32 0, .int .u32 0], .bool false], .pointer (some ⟨pb, 0, none⟩), .pointer (some ⟨pb, 0, none⟩), .pointer (some ⟨pb, 117, none⟩), .map (some mp), .string nm, .tuple #[.agg #[.int .i32 0, .int .u32 0, .int .u32 0], .bool false], .agg #[.int .i32 0, .int .u32 0, .int .u32 0], .bool false, .bool false, .bool true, .agg #[.int .i32 loc], .pointer (some ⟨B1_2, 0, none⟩), .pointer (some ⟨pb, 0, none⟩), .string nm, .agg #[.int .u32 src, .int .u32 (n : Int)], .pointer (some ⟨B1_2, 1, none⟩), .pointer (some ⟨pb, 0, none⟩), .pointer (some ⟨pb, 0, none⟩), .pointer (some ⟨pb, 187, none⟩), .pointer (some ⟨ms, 0, none⟩), .pointer (some ⟨pb, 0, none⟩), .pointer (some ⟨pb, 0, none⟩), .pointer (some ⟨pb, 187, none⟩), .pointer (some ⟨ms, 0, none⟩), .pointer (some ⟨ms, 0, none⟩), .pointer (some ⟨ms, 5, none⟩), .slice none 0 0, .pointer (some ⟨B1_2, 1, none⟩), .agg #[.int .u32 src, .int .u32 (n : Int)], .slice (some ⟨nd9, 0, none⟩) 1 1, .slice (some ⟨nd10, 0, none⟩) 1 (1 + nd11), .pointer (some ⟨ms, 0, none⟩), .pointer (some ⟨ms, 5, none⟩), .pointer (some ⟨pb, 0, none⟩), .pointer (some ⟨pb, 0, none⟩), .pointer (some ⟨pb, 117, none⟩), .map (some mp), .string nm, .agg #[.int .i32 loc, .int .u32 src, .int .u32 (n : Int)], undef, undef, undef, undef, undef, undef, undef, undef, undef, undef, undef], []⟩ := by rw [← hfr]; kernel_rfl
  clear hfr
  subst hdf
  clear α
  subst hX9_12
  have hN : Own w0 u [row (pb) 182 (PC.setIfInBounds 106 (.slice (some ⟨nd4, 0, none⟩) (n + 1) (n + 1 + nd5))), row (B1_2) 191 #[.int .i32 loc, .int .u32 src, .int .u32 (n : Int)], ((mp, .map (es.push ⟨.string nm, .agg #[.int .i32 loc, .int .u32 src, .int .u32 (n : Int)], k⟩) (k + 1)) : Rw), row (ms) 194 (MC.setIfInBounds 5 (.slice (some ⟨nd10, 0, none⟩) 1 (1 + nd11))), row (nd9) 58 #[.int .u32 src, .int .u32 (n : Int)], row (nd10) 58 (full refZ [.int .u32 src, .int .u32 (n : Int)] (nd11)), row (nd4) 201 (full symZ (symL (st ++ [syk nm 27])) nd5), row (B1_1) 29 #[.nilIface, .int .i32 0], row (B1) 27 #[.int .i32 loc]] X := hO.back HL.out HX.out [2, 3, 4, 5, 6, 7] (by decide) (by decide)
  clear hO HL HX
  have hO := hN
  clear hN
  obtain ⟨c9_1_0, c9_1_1, c9_1_2, lt9_1, y9_1, -⟩ := hO.k3 1 rfl
  obtain ⟨c9_4_0, c9_4_1, lt9_4, y9_4, -⟩ := hO.k2 4 rfl
  obtain ⟨c9_7_0, c9_7_1, lt9_7, y9_7, -⟩ := hO.k2 7 rfl
  obtain ⟨c9_8_0, lt9_8, y9_8, -⟩ := hO.k1 8 rfl
  have HO := Lib.hid hO
  clear hO
  go_wp2_with (first | (with_reducible refine Own.stay (fn := Tryz.f51) ?_) | (at_lookup; refine wpList_lookup_no rfl _ _ 138 true rfl 9 191 (by kernel_rfl) (by kernel_rfl) (((HO.out.mapAt 2 rfl).alloc _).alloc _) rfl _ rfl (.agg #[.int .i32 0, .int .u32 0, .int .u32 0]) (Tryz.zeroValue191 _) hno ?_))
  try with_reducible refine Own.Stay.mk ?_
  have hO := HO.out
  clear HO c9_1_0 c9_1_1 c9_1_2 lt9_1 y9_1 c9_4_0 c9_4_1 lt9_4 y9_4 c9_7_0 c9_7_1 lt9_7 y9_7 c9_8_0 lt9_8 y9_8
  have hL := hO.apart
  have hX := hO.apartX
  have HL := Lib.hid hL
  have HX := Lib.hid hX
  clear hL hX
  have hP9 := hO.pick [0, 6] (by decide)
  have h9_hn : (st ++ [syk nm 27]).length = (n + 1) := (by simp [hn])
  have h9_hnb : (n + 1) ≤ 4000000 := (by omega)
  have h9_hu : ∃ s, (st ++ [syk nm 27])[n]? = some s ∧ s.uc < 4294967295 := ⟨syk nm 27, by rw [List.getElem?_append_right (by omega), hn]; simp, (by show 0 < _; decide)⟩
  have T9 := useG pb (PC.setIfInBounds 106 (.slice (some ⟨nd4, 0, none⟩) (n + 1) ((n + 1) + nd5))) nd4 nd5 (st ++ [syk nm 27]) (n + 1) src n _ _ _ hP9 (get_other hk350 (by omega) _) (get_other hk32 (by omega) _) (get_other hk105 (by omega) _) (get_set hk106 _) h9_hn h9_hnb h9_hu
  refine Calls.mono T9 ?_
  clear hP9 T9 h9_hn h9_hnb h9_hu
  rintro e u13 ⟨rfl, hQ⟩
  have hN : Own w0 u13 [row (pb) 182 (PC.setIfInBounds 106 (.slice (some ⟨nd4, 0, none⟩) (n + 1) ((n + 1) + nd5))), row (nd4) 201 (full symZ (symL (bump (st ++ [syk nm 27]) n)) nd5), row (B1_2) 191 #[.int .i32 loc, .int .u32 src, .int .u32 (n : Int)], ((mp, .map (es.push ⟨.string nm, .agg #[.int .i32 loc, .int .u32 src, .int .u32 (n : Int)], k⟩) (k + 1)) : Rw), row (ms) 194 (MC.setIfInBounds 5 (.slice (some ⟨nd10, 0, none⟩) 1 (1 + nd11))), row (nd9) 58 #[.int .u32 src, .int .u32 (n : Int)], row (nd10) 58 (full refZ [.int .u32 src, .int .u32 (n : Int)] (nd11)), row (B1_1) 29 #[.nilIface, .int .i32 0], row (B1) 27 #[.int .i32 loc]] X := hQ.back HL.out HX.out [1, 2, 3, 4, 5, 7, 8] (by decide) (by decide)
  clear hQ HL HX hO
  have hO := hN
  clear hN
  obtain ⟨c9_2_0, c9_2_1, c9_2_2, lt9_2, y9_2, -⟩ := hO.k3 2 rfl
  obtain ⟨c9_5_0, c9_5_1, lt9_5, y9_5, -⟩ := hO.k2 5 rfl
  obtain ⟨c9_7_0, c9_7_1, lt9_7, y9_7, -⟩ := hO.k2 7 rfl
  obtain ⟨c9_8_0, lt9_8, y9_8, -⟩ := hO.k1 8 rfl
  have HO := Lib.hid hO
  clear hO
  go_wp2_with (first | (with_reducible refine Own.stay (fn := Tryz.f51) ?_) | (at_lookup; refine wpList_lookup_no rfl _ _ 138 true rfl 9 191 (by kernel_rfl) (by kernel_rfl) (((HO.out.mapAt 2 rfl).alloc _).alloc _) rfl _ rfl (.agg #[.int .i32 0, .int .u32 0, .int .u32 0]) (Tryz.zeroValue191 _) hno ?_))
  try with_reducible refine Own.Stay.mk ?_
  have hO := HO.out
  clear HO c9_2_0 c9_2_1 c9_2_2 lt9_2 y9_2 c9_5_0 c9_5_1 lt9_5 y9_5 c9_7_0 c9_7_1 lt9_7 y9_7 c9_8_0 lt9_8 y9_8
  generalize hW : World.alloc _ _ = W15
  have hN : Own w0 W15 [row (u13.heap.size) 60 #[.int .u32 src, .int .u32 (n : Int), .bool false, .bool false, .bool false], row (pb) 182 (PC.setIfInBounds 106 (.slice (some ⟨nd4, 0, none⟩) (n + 1) ((n + 1) + nd5))), row (nd4) 201 (full symZ (symL (bump (st ++ [syk nm 27]) n)) nd5), row (B1_2) 191 #[.int .i32 loc, .int .u32 src, .int .u32 (n : Int)], ((mp, .map (es.push ⟨.string nm, .agg #[.int .i32 loc, .int .u32 src, .int .u32 (n : Int)], k⟩) (k + 1)) : Rw), row (ms) 194 (MC.setIfInBounds 5 (.slice (some ⟨nd10, 0, none⟩) 1 (1 + nd11))), row (nd9) 58 #[.int .u32 src, .int .u32 (n : Int)], row (nd10) 58 (full refZ [.int .u32 src, .int .u32 (n : Int)] (nd11)), row (B1_1) 29 #[.iface 56 (.pointer (some ⟨u13.heap.size, 0, none⟩)), .int .i32 loc], row (B1) 27 #[.int .i32 loc]] X := by
    rw [← hW]
    exact (((hO).set 7 rfl 0 _).set 7 rfl 1 _).alloc' _ (u13.heap.size) (by simp)
  clear hW hO
  generalize u13.heap.size = B14 at hN ⊢
  have hO := hN
  clear hN
  have z9_8_0 : W15.cell? ⟨B1_1, 0, none⟩ = some (.iface 56 (.pointer (some ⟨B14, 0, none⟩))) := hO.cell 8 rfl 0 rfl
  have z9_8_1 : W15.cell? ⟨B1_1, 1, none⟩ = some (.int .i32 loc) := hO.cell 8 rfl 1 rfl
  refine bodyPost_ret (v := .agg #[.iface 56 (.pointer (some ⟨B14, 0, none⟩)), .int .i32 loc]) ?_ rfl ⟨B14, nd4, nd5, nd10, nd11, rfl, hO.sub [1, 2, 4, 5, 7, 0] (by decide)⟩
  simp [results, Tryz.results51, go_sem, z9_8_0, z9_8_1]
def rcallF01E (pb : Nat) (PC : Array Value) (sb : Nat) (c : Nat) (st : List Sy) (n : Nat) (src : Int) (mp : Nat) (es : Array MapEntry) (k : Nat) (ms : Nat) (MC : Array Value) (loc : Int) (nm : ByteArray) (sx : Nat) (ln : Nat) (cp : Nat) (B1_1 : Nat) (B1 : Nat) : Nat → Rega.Atoms → Value
  | 0, α => .agg #[.int .i32 loc]
  | 1, α => .pointer (some ⟨pb, 0, none⟩)
  | 2, α => .agg #[.int .i32 loc]
  | 3, α => .string nm
  | 4, α => .agg #[.iface 56 (.pointer (some ⟨α 4, 0, none⟩)), .int .i32 loc]
  | 5, α => .slice (some ⟨sx, 0, none⟩) ln cp
  | 6, α => .agg #[.iface 56 (.pointer (some ⟨α 4, 0, none⟩)), .int .i32 loc, .slice (some ⟨sx, 0, none⟩) ln cp, .int .i32 0, .int .u8 0, .int .u8 0, .bool false, .bool false]
  | 7, α => .pointer (some ⟨α 7, 0, none⟩)
  | 8, α => .iface 284 (.pointer (some ⟨α 7, 0, none⟩))
  | 9, α => .agg #[.iface 284 (.pointer (some ⟨α 7, 0, none⟩)), .int .i32 loc]
  | 10, α => undef
  | _, _ => undef
def rcallF01Anc : Nat → List Nat
  | 4 => [1, 2, 3]
  | 6 => [1, 2, 3, 4, 5]
  | 7 => [1, 2, 3, 4, 5, 6]
  | 8 => [1, 2, 3, 4, 5, 6, 7]
  | 9 => [0, 1, 2, 3, 4, 5, 6, 7, 8]
  | 10 => [0, 1, 2, 3, 4, 5, 6, 7, 8, 9]
  | _ => []
def rcallF01Trn : Nat → List Nat
  | 4 => [2999, 3999, 4999, 5999]
  | 10 => [999]
  | _ => []
def rcallF01Cnt : List (Nat × Nat) := [(4, 2), (7, 1)]
def rcallF01T999 (pb : Nat) (PC : Array Value) (sb : Nat) (c : Nat) (st : List Sy) (n : Nat) (src : Int) (mp : Nat) (es : Array MapEntry) (k : Nat) (ms : Nat) (MC : Array Value) (loc : Int) (nm : ByteArray) (sx : Nat) (ln : Nat) (cp : Nat) (B1_1 : Nat) (B1 : Nat) (L9 : Nat → Bool) (α : Rega.Atoms) : Rw := if L9 10 = true then row (B1_1) 29 #[.iface 284 (.pointer (some ⟨α 7, 0, none⟩)), .int .i32 loc] else row (B1_1) 29 #[.nilIface, .int .i32 0]
def rcallF01T2999 (pb : Nat) (PC : Array Value) (sb : Nat) (c : Nat) (st : List Sy) (n : Nat) (src : Int) (mp : Nat) (es : Array MapEntry) (k : Nat) (ms : Nat) (MC : Array Value) (loc : Int) (nm : ByteArray) (sx : Nat) (ln : Nat) (cp : Nat) (B1_1 : Nat) (B1 : Nat) (L9 : Nat → Bool) (α : Rega.Atoms) : Rw := if L9 4 = true then row (pb) 182 (PC.setIfInBounds 106 (.slice (some ⟨α 2004, 0, none⟩) (n + 1) (n + 1 + (α 3004)))) else row (pb) 182 PC
def rcallF01T3999 (pb : Nat) (PC : Array Value) (sb : Nat) (c : Nat) (st : List Sy) (n : Nat) (src : Int) (mp : Nat) (es : Array MapEntry) (k : Nat) (ms : Nat) (MC : Array Value) (loc : Int) (nm : ByteArray) (sx : Nat) (ln : Nat) (cp : Nat) (B1_1 : Nat) (B1 : Nat) (L9 : Nat → Bool) (α : Rega.Atoms) : Rw := if L9 4 = true then row (α 2004) 201 (full symZ (symL (bump (st ++ [syk nm 27]) n)) (α 3004)) else row (sb) 201 (full symZ (symL st) c)
def rcallF01T4999 (pb : Nat) (PC : Array Value) (sb : Nat) (c : Nat) (st : List Sy) (n : Nat) (src : Int) (mp : Nat) (es : Array MapEntry) (k : Nat) (ms : Nat) (MC : Array Value) (loc : Int) (nm : ByteArray) (sx : Nat) (ln : Nat) (cp : Nat) (B1_1 : Nat) (B1 : Nat) (L9 : Nat → Bool) (α : Rega.Atoms) : Rw := if L9 4 = true then ((mp, .map (es.push ⟨.string nm, .agg #[.int .i32 loc, .int .u32 src, .int .u32 (n : Int)], k⟩) (k + 1)) : Rw) else ((mp, .map es k) : Rw)
def rcallF01T5999 (pb : Nat) (PC : Array Value) (sb : Nat) (c : Nat) (st : List Sy) (n : Nat) (src : Int) (mp : Nat) (es : Array MapEntry) (k : Nat) (ms : Nat) (MC : Array Value) (loc : Int) (nm : ByteArray) (sx : Nat) (ln : Nat) (cp : Nat) (B1_1 : Nat) (B1 : Nat) (L9 : Nat → Bool) (α : Rega.Atoms) : Rw := if L9 4 = true then row (ms) 194 (MC.setIfInBounds 5 (.slice (some ⟨α 1004, 0, none⟩) 1 (1 + (α 4004)))) else row (ms) 194 MC
def rcallF01R (pb : Nat) (PC : Array Value) (sb : Nat) (c : Nat) (st : List Sy) (n : Nat) (src : Int) (mp : Nat) (es : Array MapEntry) (k : Nat) (ms : Nat) (MC : Array Value) (loc : Int) (nm : ByteArray) (sx : Nat) (ln : Nat) (cp : Nat) (B1_1 : Nat) (B1 : Nat) (L9 : Nat → Bool) (α : Rega.Atoms) (ix9 : Nat) : Rw := if ix9 = 999 then rcallF01T999 pb PC sb c st n src mp es k ms MC loc nm sx ln cp B1_1 B1 L9 α else if ix9 = 1999 then row (B1) 27 #[.int .i32 loc] else if ix9 = 2999 then rcallF01T2999 pb PC sb c st n src mp es k ms MC loc nm sx ln cp B1_1 B1 L9 α else if ix9 = 3999 then rcallF01T3999 pb PC sb c st n src mp es k ms MC loc nm sx ln cp B1_1 B1 L9 α else if ix9 = 4999 then rcallF01T4999 pb PC sb c st n src mp es k ms MC loc nm sx ln cp B1_1 B1 L9 α else if ix9 = 5999 then rcallF01T5999 pb PC sb c st n src mp es k ms MC loc nm sx ln cp B1_1 B1 L9 α else if ix9 = 4 then row (α 4) 60 #[.int .u32 src, .int .u32 (n : Int), .bool false, .bool false, .bool false] else if ix9 = 1004 then row (α 1004) 58 (full refZ ([.int .u32 src, .int .u32 (n : Int)]) (α 4004)) else if ix9 = 7 then row (α 7) 288 #[.iface 56 (.pointer (some ⟨α 4, 0, none⟩)), .int .i32 loc, .slice (some ⟨sx, 0, none⟩) ln cp, .int .i32 0, .int .u8 0, .int .u8 0, .bool false, .bool false] else (0, .map #[] 0)
theorem rcallF01_he (pb : Nat) (PC : Array Value) (sb : Nat) (c : Nat) (st : List Sy) (n : Nat) (src : Int) (mp : Nat) (es : Array MapEntry) (k : Nat) (ms : Nat) (MC : Array Value) (loc : Int) (nm : ByteArray) (sx : Nat) (ln : Nat) (cp : Nat) (B1_1 : Nat) (B1 : Nat) : ∀ kk α α', (∀ j, (j % 1000 = kk ∨ j % 1000 ∈ rcallF01Anc kk) → α j = α' j) → rcallF01E pb PC sb c st n src mp es k ms MC loc nm sx ln cp B1_1 B1 kk α = rcallF01E pb PC sb c st n src mp es k ms MC loc nm sx ln cp B1_1 B1 kk α' := by
  intro kk α α' h
  match kk with
  | 0 => rfl
  | 1 => rfl
  | 2 => rfl
  | 3 => rfl
  | 4 => simp only [rcallF01E, h 4 (Or.inl rfl)]
  | 5 => rfl
  | 6 => simp only [rcallF01E, h 4 (Or.inr (by decide))]
  | 7 => simp only [rcallF01E, h 7 (Or.inl rfl)]
  | 8 => simp only [rcallF01E, h 7 (Or.inr (by decide))]
  | 9 => simp only [rcallF01E, h 7 (Or.inr (by decide))]
  | 10 => rfl
  | n + 11 => rfl
theorem rcallF01_st (pb : Nat) (PC : Array Value) (sb : Nat) (c : Nat) (st : List Sy) (n : Nat) (src : Int) (mp : Nat) (es : Array MapEntry) (k : Nat) (ms : Nat) (MC : Array Value) (loc : Int) (nm : ByteArray) (sx : Nat) (ln : Nat) (cp : Nat) (B1_1 : Nat) (B1 : Nat) : Stable rcallF01Cnt 6 rcallF01Anc rcallF01Trn (rcallF01R pb PC sb c st n src mp es k ms MC loc nm sx ln cp B1_1 B1) := by
  intro k9 L9 α α' ix9 hk hcl hα hact ht
  have hp := act_places hact
  replace hp : ix9 ∈ [999, 1999, 2999, 3999, 4999, 5999, 4, 1004, 7] := hp
  simp only [List.mem_cons, List.not_mem_nil, or_false] at hp
  rcases hp with rfl | rfl | rfl | rfl | rfl | rfl | rfl | rfl | rfl
  · show rcallF01T999 pb PC sb c st n src mp es k ms MC loc nm sx ln cp B1_1 B1 (Rega.ran L9 k9) α' = rcallF01T999 pb PC sb c st n src mp es k ms MC loc nm sx ln cp B1_1 B1 L9 α
    unfold rcallF01T999
    have n10 : 10 ≠ k9 := fun e => ht (by rw [← e]; decide)
    rw [ran_ne n10]
    by_cases e10 : L9 10 = true
    · first | rw [if_pos e10, if_pos e10] | rw [if_pos e10]
      try simp only [hα 7 (ne_ran hk (hcl 10 e10 7 (by decide)))]
    first | rw [if_neg e10, if_neg e10] | rw [if_neg e10]
  · rfl
  · show rcallF01T2999 pb PC sb c st n src mp es k ms MC loc nm sx ln cp B1_1 B1 (Rega.ran L9 k9) α' = rcallF01T2999 pb PC sb c st n src mp es k ms MC loc nm sx ln cp B1_1 B1 L9 α
    unfold rcallF01T2999
    have n4 : 4 ≠ k9 := fun e => ht (by rw [← e]; decide)
    rw [ran_ne n4]
    by_cases e4 : L9 4 = true
    · first | rw [if_pos e4, if_pos e4] | rw [if_pos e4]
      try simp only [hα 2004 (ne_ran hk e4), hα 3004 (ne_ran hk e4)]
    first | rw [if_neg e4, if_neg e4] | rw [if_neg e4]
  · show rcallF01T3999 pb PC sb c st n src mp es k ms MC loc nm sx ln cp B1_1 B1 (Rega.ran L9 k9) α' = rcallF01T3999 pb PC sb c st n src mp es k ms MC loc nm sx ln cp B1_1 B1 L9 α
    unfold rcallF01T3999
    have n4 : 4 ≠ k9 := fun e => ht (by rw [← e]; decide)
    rw [ran_ne n4]
    by_cases e4 : L9 4 = true
    · first | rw [if_pos e4, if_pos e4] | rw [if_pos e4]
      try simp only [hα 2004 (ne_ran hk e4), hα 3004 (ne_ran hk e4)]
    first | rw [if_neg e4, if_neg e4] | rw [if_neg e4]
  · show rcallF01T4999 pb PC sb c st n src mp es k ms MC loc nm sx ln cp B1_1 B1 (Rega.ran L9 k9) α' = rcallF01T4999 pb PC sb c st n src mp es k ms MC loc nm sx ln cp B1_1 B1 L9 α
    unfold rcallF01T4999
    have n4 : 4 ≠ k9 := fun e => ht (by rw [← e]; decide)
    rw [ran_ne n4]
  · show rcallF01T5999 pb PC sb c st n src mp es k ms MC loc nm sx ln cp B1_1 B1 (Rega.ran L9 k9) α' = rcallF01T5999 pb PC sb c st n src mp es k ms MC loc nm sx ln cp B1_1 B1 L9 α
    unfold rcallF01T5999
    have n4 : 4 ≠ k9 := fun e => ht (by rw [← e]; decide)
    rw [ran_ne n4]
    by_cases e4 : L9 4 = true
    · first | rw [if_pos e4, if_pos e4] | rw [if_pos e4]
      try simp only [hα 1004 (ne_ran hk e4), hα 4004 (ne_ran hk e4)]
    first | rw [if_neg e4, if_neg e4] | rw [if_neg e4]
  · have e0 : L9 4 = true := act_lt hact (by decide)
    show row (α' 4) 60 #[.int .u32 src, .int .u32 (n : Int), .bool false, .bool false, .bool false] = row (α 4) 60 #[.int .u32 src, .int .u32 (n : Int), .bool false, .bool false, .bool false]
    simp only [hα 4 (ne_ran hk e0)]
  · have e0 : L9 4 = true := act_lt hact (by decide)
    show row (α' 1004) 58 (full refZ ([.int .u32 src, .int .u32 (n : Int)]) (α' 4004)) = row (α 1004) 58 (full refZ ([.int .u32 src, .int .u32 (n : Int)]) (α 4004))
    simp only [hα 1004 (ne_ran hk e0), hα 4004 (ne_ran hk e0)]
  · have e0 : L9 7 = true := act_lt hact (by decide)
    show row (α' 7) 288 #[.iface 56 (.pointer (some ⟨α' 4, 0, none⟩)), .int .i32 loc, .slice (some ⟨sx, 0, none⟩) ln cp, .int .i32 0, .int .u8 0, .int .u8 0, .bool false, .bool false] = row (α 7) 288 #[.iface 56 (.pointer (some ⟨α 4, 0, none⟩)), .int .i32 loc, .slice (some ⟨sx, 0, none⟩) ln cp, .int .i32 0, .int .u8 0, .int .u8 0, .bool false, .bool false]
    simp only [hα 4 (ne_ran hk (hcl 7 e0 4 (by decide))), hα 7 (ne_ran hk e0)]
def callF0Post (pb : Nat) (PC : Array Value) (sb c : Nat) (st : List Sy) (n : Nat) (src : Int) (mp : Nat) (es : Array MapEntry) (k ms : Nat) (MC : Array Value) (loc : Int) (nm : ByteArray) (sx ln cp : Nat) (w0 : World) (X : Nat → Obj → Prop) (e : Ending) (w' : World) : Prop :=
  ∃ ca : Nat, ∃ b : Nat, ∃ sb2 : Nat, ∃ c2 : Nat, ∃ gb2 : Nat, ∃ cg2 : Nat, e = .returned (.agg #[.iface 284 (.pointer (some ⟨ca, 0, none⟩)), .int .i32 loc]) ∧ Own w0 w' [row (pb) 182 (PC.setIfInBounds 106 (.slice (some ⟨sb2, 0, none⟩) (n + 1) (n + 1 + c2))), row (sb2) 201 (full symZ (symL (bump (st ++ [syk nm 27]) n)) c2), ((mp, .map (es.push ⟨.string nm, .agg #[.int .i32 loc, .int .u32 src, .int .u32 (n : Int)], k⟩) (k + 1)) : Rw), row (ms) 194 (MC.setIfInBounds 5 (.slice (some ⟨gb2, 0, none⟩) 1 (1 + cg2))), row (gb2) 58 (full refZ ([.int .u32 src, .int .u32 (n : Int)]) cg2), row (b) 60 #[.int .u32 src, .int .u32 (n : Int), .bool false, .bool false, .bool false], row (ca) 288 #[.iface 56 (.pointer (some ⟨b, 0, none⟩)), .int .i32 loc, .slice (some ⟨sx, 0, none⟩) ln cp, .int .i32 0, .int .u8 0, .int .u8 0, .bool false, .bool false]] X
set_option maxRecDepth 100000 in
set_option maxHeartbeats 1000000 in
theorem callF0 (pb : Nat) (PC : Array Value) (sb c : Nat) (st : List Sy) (n : Nat) (src : Int) (mp : Nat) (es : Array MapEntry) (k ms : Nat) (MC : Array Value) (loc : Int) (nm : ByteArray) (sx ln cp : Nat) (w0 w : World) (X : Nat → Obj → Prop) (hO : Own w0 w [row (pb) 182 PC, row (sb) 201 (full symZ (symL st) c), ((mp, .map es k) : Rw), row (ms) 194 MC] X) (hk350 : PC[350]? = some (.bool false)) (hk32 : PC[32]? = some (.bool false)) (hk105 : PC[105]? = some (.pointer none)) (hk66 : PC[66]? = some (.int .u32 src)) (hk117 : PC[117]? = some (.map (some mp))) (hk187 : PC[187]? = some (.pointer (some ⟨ms, 0, none⟩))) (hk106 : PC[106]? = some (.slice (some ⟨sb, 0, none⟩) n (n + c))) (hn : st.length = n) (hnb : n ≤ 2000000) (hgen : MC[5]? = some (.slice none 0 0)) (hno : Instr.findNow .string (.string nm) es.toList 0 = some none) (hg0 : w0.cell? ⟨0, 0, none⟩ = some (.int .u32 4294967295)) (hg1 : w0.cell? ⟨0, 1, none⟩ = some (.int .u32 4294967295)) :
    Calls Tryz.prog 37 #[.pointer (some ⟨pb, 0, none⟩), .agg #[.int .i32 loc], .string nm, .slice (some ⟨sx, 0, none⟩) ln cp] w (callF0Post pb PC sb c st n src mp es k ms MC loc nm sx ln cp w0 X) := by
  go_enter Tryz.func37, Tryz.ntmps37
  go_wp2_with (first | (with_reducible refine Own.stay (fn := Tryz.f37) ?_) | fail)
  try with_reducible refine Own.Stay.mk ?_
  generalize hW : World.alloc _ _ = W2
  have hN : Own w0 W2 [row (w.heap.size + 1) 29 #[.nilIface, .int .i32 0], row (w.heap.size) 27 #[.int .i32 loc], row (pb) 182 PC, row (sb) 201 (full symZ (symL st) c), ((mp, .map es k) : Rw), row (ms) 194 MC] X := by
    rw [← hW]
    exact ((hO).alloc' _ (w.heap.size) (by simp)).alloc' _ (w.heap.size + 1) (by simp)
  clear hW hO
  generalize w.heap.size + 1 = B1_1 at hN ⊢
  generalize w.heap.size = B1 at hN ⊢
  have hO := hN
  clear hN
  have st9 := rcallF01_st pb PC sb c st n src mp es k ms MC loc nm sx ln cp B1_1 B1
  let R9 := rcallF01R pb PC sb c st n src mp es k ms MC loc nm sx ln cp B1_1 B1
  refine wp_region_own (e := rcallF01E pb PC sb c st n src mp es k ms MC loc nm sx ln cp B1_1 B1) (anc := rcallF01Anc) (G := (fun L9 α u9 => OwnF w0 u9 (act rcallF01Cnt 6 L9) (rcallF01R pb PC sb c st n src mp es k ms MC loc nm sx ln cp B1_1 B1 L9 α) X)) (by kernel_rfl) (by kernel_rfl) (by kernel_rfl) (by kernel_rfl) (rcallF01_he pb PC sb c st n src mp es k ms MC loc nm sx ln cp B1_1 B1) ?_ (RunsAll.all ?_) ?_
  · have hp : ∀ i, act rcallF01Cnt 6 (fun _ => false) i → i ∈ [999, 1999, 2999, 3999, 4999, 5999] := by
      intro i hi
      have h9 : i % 1000 = 999 := by
        by_cases h : i % 1000 = 999
        · exact h
        · exact absurd (act_lt hi h) (by simp)
      unfold act at hi
      rw [if_pos h9] at hi
      simp only [List.mem_cons, List.not_mem_nil, or_false]
      omega
    refine hO.drew.family (fun i hi => ?_) (fun i j hi hj hij => ?_)
    · have := hp i hi
      simp only [List.mem_cons, List.not_mem_nil, or_false] at this
      rcases this with rfl | rfl | rfl | rfl | rfl | rfl <;> rfl
    · have h1 := hp i hi
      have h2 := hp j hj
      simp only [List.mem_cons, List.not_mem_nil, or_false] at h1 h2
      omega
  · refine ⟨?_, ?_, ?_, ?_, ?_, ?_, ?_, ?_, ?_, ?_, ?_, trivial⟩
    · intro L9 α a9 u9 K9 hL hcl hA hG hS h0 h1 hK
      replace hL : L9 0 = false := hL
      have q5 : a9.tmps[5]? = some (.pointer (some ⟨B1, 0, none⟩)) := (h0 5 (by kernel_rfl)).trans rfl
      have s5 := Rega.eval_of q5
      have e0 : R9 L9 α 1999 = row (B1) 27 #[.int .i32 loc] := rfl
      have hr := hG.rowAt 1999 (act_base 1999 rfl) e0
      have c0 : u9.cell? ⟨B1, 0, none⟩ = some (.int .i32 loc) := hr.cell rfl
      clear hr e0
      go_simp
      exact hK _ α _ (fun _ _ => rfl) rfl (step_same (st9) hL hcl rfl rfl hG)
    · intro L9 α a9 u9 K9 hL hcl hA hG hS h0 h1 hK
      replace hL : L9 1 = false := hL
      have q0 : a9.tmps[0]? = some (.pointer (some ⟨pb, 0, none⟩)) := (h0 0 (by kernel_rfl)).trans rfl
      have s0 := Rega.eval_of q0
      go_simp
      exact hK _ α _ (fun _ _ => rfl) rfl (step_same (st9) hL hcl rfl rfl hG)
    · intro L9 α a9 u9 K9 hL hcl hA hG hS h0 h1 hK
      replace hL : L9 2 = false := hL
      have q5 : a9.tmps[5]? = some (.pointer (some ⟨B1, 0, none⟩)) := (h0 5 (by kernel_rfl)).trans rfl
      have s5 := Rega.eval_of q5
      have e0 : R9 L9 α 1999 = row (B1) 27 #[.int .i32 loc] := rfl
      have hr := hG.rowAt 1999 (act_base 1999 rfl) e0
      have c0 : u9.cell? ⟨B1, 0, none⟩ = some (.int .i32 loc) := hr.cell rfl
      clear hr e0
      go_simp
      exact hK _ α _ (fun _ _ => rfl) rfl (step_same (st9) hL hcl rfl rfl hG)
    · intro L9 α a9 u9 K9 hL hcl hA hG hS h0 h1 hK
      replace hL : L9 3 = false := hL
      have q2 : a9.tmps[2]? = some (.string nm) := (h0 2 (by kernel_rfl)).trans rfl
      have s2 := Rega.eval_of q2
      go_simp
      exact hK _ α _ (fun _ _ => rfl) rfl (step_same (st9) hL hcl rfl rfl hG)
    · intro L9 α a9 u9 K9 hL hcl hA hG hS h0 h1 hK
      replace hL : L9 4 = false := hL
      have q10 : a9.tmps[10]? = some (.pointer (some ⟨pb, 0, none⟩)) := hS 1 10 (by decide) rfl (by show 10 < 19; decide)
      have s10 := Rega.eval_of q10
      have q11 : a9.tmps[11]? = some (.agg #[.int .i32 loc]) := hS 2 11 (by decide) rfl (by show 11 < 19; decide)
      have s11 := Rega.eval_of q11
      have q12 : a9.tmps[12]? = some (.string nm) := hS 3 12 (by decide) rfl (by show 12 < 19; decide)
      have s12 := Rega.eval_of q12
      go_simp
      have e0 : R9 L9 α 2999 = row (pb) 182 PC := by
        show rcallF01T2999 pb PC sb c st n src mp es k ms MC loc nm sx ln cp B1_1 B1 L9 α = _
        unfold rcallF01T2999
        rw [if_neg (by rw [hL]; decide)]
      have e1 : R9 L9 α 3999 = row (sb) 201 (full symZ (symL st) c) := by
        show rcallF01T3999 pb PC sb c st n src mp es k ms MC loc nm sx ln cp B1_1 B1 L9 α = _
        unfold rcallF01T3999
        rw [if_neg (by rw [hL]; decide)]
      have e2 : R9 L9 α 4999 = ((mp, .map es k) : Rw) := by
        show rcallF01T4999 pb PC sb c st n src mp es k ms MC loc nm sx ln cp B1_1 B1 L9 α = _
        unfold rcallF01T4999
        rw [if_neg (by rw [hL]; decide)]
      have e3 : R9 L9 α 5999 = row (ms) 194 MC := by
        show rcallF01T5999 pb PC sb c st n src mp es k ms MC loc nm sx ln cp B1_1 B1 L9 α = _
        unfold rcallF01T5999
        rw [if_neg (by rw [hL]; decide)]
      have hM : ∀ i, i ∈ [2999, 3999, 4999, 5999] → act rcallF01Cnt 6 L9 i := by
        intro i hi
        simp only [List.mem_cons, List.not_mem_nil, or_false] at hi
        rcases hi with rfl | rfl | rfl | rfl
        · exact act_base 2999 rfl
        · exact act_base 3999 rfl
        · exact act_base 4999 rfl
        · exact act_base 5999 rfl
      have hP : Own w0 u9 [row (pb) 182 PC, row (sb) 201 (full symZ (symL st) c), ((mp, .map es k) : Rw), row (ms) 194 MC] _ := (hG.pick [2999, 3999, 4999, 5999] (by decide) hM).conv (by
        show [R9 L9 α 2999, R9 L9 α 3999, R9 L9 α 4999, R9 L9 α 5999] = _
        rw [e0, e1, e2, e3])
      clear e0 e1 e2 e3 hM
      refine Calls.mono (impF0 pb PC sb c st n src mp es k ms MC loc nm _ _ _ hP hk350 hk32 hk105 hk66 hk117 hk187 hk106 hn hnb hgen hno hg0 hg1) ?_
      rintro e9 u1 ⟨b0, b2, b3, b1, b4, rfl, hQ⟩
      obtain ⟨α', hα'⟩ : ∃ α' : Rega.Atoms, α' = (fun j => if j = 4 then b0 else if j = 1004 then b1 else if j = 2004 then b2 else if j = 3004 then b3 else if j = 4004 then b4 else α j) := ⟨_, rfl⟩
      have f0 : R9 (Rega.ran L9 4) α' 2999 = row (pb) 182 (PC.setIfInBounds 106 (.slice (some ⟨α' 2004, 0, none⟩) (n + 1) (n + 1 + (α' 3004)))) := by
        show rcallF01T2999 pb PC sb c st n src mp es k ms MC loc nm sx ln cp B1_1 B1 (Rega.ran L9 4) α' = _
        unfold rcallF01T2999
        rw [if_pos (show Rega.ran L9 4 4 = true from rfl)]
      have f1 : R9 (Rega.ran L9 4) α' 3999 = row (α' 2004) 201 (full symZ (symL (bump (st ++ [syk nm 27]) n)) (α' 3004)) := by
        show rcallF01T3999 pb PC sb c st n src mp es k ms MC loc nm sx ln cp B1_1 B1 (Rega.ran L9 4) α' = _
        unfold rcallF01T3999
        rw [if_pos (show Rega.ran L9 4 4 = true from rfl)]
      have f2 : R9 (Rega.ran L9 4) α' 4999 = ((mp, .map (es.push ⟨.string nm, .agg #[.int .i32 loc, .int .u32 src, .int .u32 (n : Int)], k⟩) (k + 1)) : Rw) := by
        show rcallF01T4999 pb PC sb c st n src mp es k ms MC loc nm sx ln cp B1_1 B1 (Rega.ran L9 4) α' = _
        unfold rcallF01T4999
        rw [if_pos (show Rega.ran L9 4 4 = true from rfl)]
      have f3 : R9 (Rega.ran L9 4) α' 5999 = row (ms) 194 (MC.setIfInBounds 5 (.slice (some ⟨α' 1004, 0, none⟩) 1 (1 + (α' 4004)))) := by
        show rcallF01T5999 pb PC sb c st n src mp es k ms MC loc nm sx ln cp B1_1 B1 (Rega.ran L9 4) α' = _
        unfold rcallF01T5999
        rw [if_pos (show Rega.ran L9 4 4 = true from rfl)]
      have f4 : R9 (Rega.ran L9 4) α' 1004 = row (α' 1004) 58 (full refZ ([.int .u32 src, .int .u32 (n : Int)]) (α' 4004)) := rfl
      have f5 : R9 (Rega.ran L9 4) α' 4 = row (α' 4) 60 #[.int .u32 src, .int .u32 (n : Int), .bool false, .bool false, .bool false] := rfl
      have hα : ∀ j, j % 1000 ≠ 4 → α' j = α j := fun j hj => by rw [hα']; simp only []; rw [if_neg (by omega), if_neg (by omega), if_neg (by omega), if_neg (by omega), if_neg (by omega)]
      have hb0 : α' 4 = b0 := by rw [hα']; rfl
      have hb1 : α' 1004 = b1 := by rw [hα']; rfl
      have hb2 : α' 2004 = b2 := by rw [hα']; rfl
      have hb3 : α' 3004 = b3 := by rw [hα']; rfl
      have hb4 : α' 4004 = b4 := by rw [hα']; rfl
      skip
      refine hK _ α' _ hα ?_ (step_call (st9) hL hcl hα [2999, 3999, 4999, 5999] [2999, 3999, 4999, 5999, 1004, 4] (by decide) (by decide) (by decide) (M := _) ?_ hG hQ)
      · show _ = (.agg #[.iface 56 (.pointer (some ⟨α' 4, 0, none⟩)), .int .i32 loc] : Value)
        simp only [hb0]
      · show [R9 (Rega.ran L9 4) α' 2999, R9 (Rega.ran L9 4) α' 3999, R9 (Rega.ran L9 4) α' 4999, R9 (Rega.ran L9 4) α' 5999, R9 (Rega.ran L9 4) α' 1004, R9 (Rega.ran L9 4) α' 4] = _
        rw [f0, f1, f2, f3, f4, f5]
        simp only [hb0, hb1, hb2, hb3, hb4]
        try rfl
    · intro L9 α a9 u9 K9 hL hcl hA hG hS h0 h1 hK
      replace hL : L9 5 = false := hL
      have q3 : a9.tmps[3]? = some (.slice (some ⟨sx, 0, none⟩) ln cp) := (h0 3 (by kernel_rfl)).trans rfl
      have s3 := Rega.eval_of q3
      go_simp
      exact hK _ α _ (fun _ _ => rfl) rfl (step_same (st9) hL hcl rfl rfl hG)
    · intro L9 α a9 u9 K9 hL hcl hA hG hS h0 h1 hK
      replace hL : L9 6 = false := hL
      have q13 : a9.tmps[13]? = some (.agg #[.iface 56 (.pointer (some ⟨α 4, 0, none⟩)), .int .i32 loc]) := hS 4 13 (by decide) rfl (by show 13 < 19; decide)
      have s13 := Rega.eval_of q13
      have q14 : a9.tmps[14]? = some (.slice (some ⟨sx, 0, none⟩) ln cp) := hS 5 14 (by decide) rfl (by show 14 < 19; decide)
      have s14 := Rega.eval_of q14
      go_simp
      exact hK _ α _ (fun _ _ => rfl) rfl (step_same (st9) hL hcl rfl rfl hG)
    · intro L9 α a9 u9 K9 hL hcl hA hG hS h0 h1 hK
      replace hL : L9 7 = false := hL
      have q15 : a9.tmps[15]? = some (.agg #[.iface 56 (.pointer (some ⟨α 4, 0, none⟩)), .int .i32 loc, .slice (some ⟨sx, 0, none⟩) ln cp, .int .i32 0, .int .u8 0, .int .u8 0, .bool false, .bool false]) := hS 6 15 (by decide) rfl (by show 15 < 19; decide)
      have s15 := Rega.eval_of q15
      go_simp
      exact hK _ (fun j => if j = 7 then u9.heap.size else α j) _ (fun j hj => if_neg (fun e => hj (by rw [e]))) rfl (step_alloc (st9) hL hcl rfl rfl (by decide) _ rfl hG)
    · intro L9 α a9 u9 K9 hL hcl hA hG hS h0 h1 hK
      replace hL : L9 8 = false := hL
      have q16 : a9.tmps[16]? = some (.pointer (some ⟨α 7, 0, none⟩)) := hS 7 16 (by decide) rfl (by show 16 < 19; decide)
      have s16 := Rega.eval_of q16
      go_simp
      exact hK _ α _ (fun _ _ => rfl) rfl (step_same (st9) hL hcl rfl rfl hG)
    · intro L9 α a9 u9 K9 hL hcl hA hG hS h0 h1 hK
      replace hL : L9 9 = false := hL
      have q9 : a9.tmps[9]? = some (.agg #[.int .i32 loc]) := hS 0 9 (by decide) rfl (by show 9 < 19; decide)
      have s9 := Rega.eval_of q9
      have q17 : a9.tmps[17]? = some (.iface 284 (.pointer (some ⟨α 7, 0, none⟩))) := hS 8 17 (by decide) rfl (by show 17 < 19; decide)
      have s17 := Rega.eval_of q17
      go_simp
      exact hK _ α _ (fun _ _ => rfl) rfl (step_same (st9) hL hcl rfl rfl hG)
    · intro L9 α a9 u9 K9 hL hcl hA hG hS h0 h1 hK
      replace hL : L9 10 = false := hL
      have q8 : a9.tmps[8]? = some (.pointer (some ⟨B1_1, 0, none⟩)) := (h0 8 (by kernel_rfl)).trans rfl
      have s8 := Rega.eval_of q8
      have q18 : a9.tmps[18]? = some (.agg #[.iface 284 (.pointer (some ⟨α 7, 0, none⟩)), .int .i32 loc]) := hS 9 18 (by decide) rfl (by show 18 < 19; decide)
      have s18 := Rega.eval_of q18
      have e0 : R9 L9 α 999 = row (B1_1) 29 #[.nilIface, .int .i32 0] := by
        show rcallF01T999 pb PC sb c st n src mp es k ms MC loc nm sx ln cp B1_1 B1 L9 α = _
        unfold rcallF01T999
        rw [if_neg (by rw [hL]; decide)]
      have hr := hG.rowAt 999 (act_base 999 rfl) e0
      have c0 : u9.cell? ⟨B1_1, 0, none⟩ = some (.nilIface) := hr.cell rfl
      have y0 : u9.frozen? ⟨B1_1, 0, none⟩ = false := hr.free (0)
      have c1 : u9.cell? ⟨B1_1, 1, none⟩ = some (.int .i32 0) := hr.cell rfl
      have y1 : u9.frozen? ⟨B1_1, 1, none⟩ = false := hr.free (1)
      clear hr
      have E0 := Lib.hid e0
      clear e0
      go_simp
      have e1 : R9 (Rega.ran L9 10) α 999 = row (B1_1) 29 #[.iface 284 (.pointer (some ⟨α 7, 0, none⟩)), .int .i32 loc] := by
        show rcallF01T999 pb PC sb c st n src mp es k ms MC loc nm sx ln cp B1_1 B1 (Rega.ran L9 10) α = _
        unfold rcallF01T999
        rw [if_pos (show Rega.ran L9 10 10 = true from rfl)]
      exact hK _ α _ (fun _ _ => rfl) rfl (step_sets (st9) hL hcl rfl 999 rfl (act_base 999 rfl) E0.out (0) [.iface 284 (.pointer (some ⟨α 7, 0, none⟩)), .int .i32 loc] (e1.trans rfl) hG)
  clear st9
  intro α u hG
  have e0 : R9 (fun k => decide (k < 11)) α 999 = row (B1_1) 29 #[.iface 284 (.pointer (some ⟨α 7, 0, none⟩)), .int .i32 loc] := by
    show rcallF01T999 pb PC sb c st n src mp es k ms MC loc nm sx ln cp B1_1 B1 (fun k => decide (k < 11)) α = _
    unfold rcallF01T999
    rw [if_pos (by decide)]
  have e1 : R9 (fun k => decide (k < 11)) α 1999 = row (B1) 27 #[.int .i32 loc] := rfl
  have e2 : R9 (fun k => decide (k < 11)) α 2999 = row (pb) 182 (PC.setIfInBounds 106 (.slice (some ⟨α 2004, 0, none⟩) (n + 1) (n + 1 + (α 3004)))) := by
    show rcallF01T2999 pb PC sb c st n src mp es k ms MC loc nm sx ln cp B1_1 B1 (fun k => decide (k < 11)) α = _
    unfold rcallF01T2999
    rw [if_pos (by decide)]
  have e3 : R9 (fun k => decide (k < 11)) α 3999 = row (α 2004) 201 (full symZ (symL (bump (st ++ [syk nm 27]) n)) (α 3004)) := by
    show rcallF01T3999 pb PC sb c st n src mp es k ms MC loc nm sx ln cp B1_1 B1 (fun k => decide (k < 11)) α = _
    unfold rcallF01T3999
    rw [if_pos (by decide)]
  have e4 : R9 (fun k => decide (k < 11)) α 4999 = ((mp, .map (es.push ⟨.string nm, .agg #[.int .i32 loc, .int .u32 src, .int .u32 (n : Int)], k⟩) (k + 1)) : Rw) := by
    show rcallF01T4999 pb PC sb c st n src mp es k ms MC loc nm sx ln cp B1_1 B1 (fun k => decide (k < 11)) α = _
    unfold rcallF01T4999
    rw [if_pos (by decide)]
  have e5 : R9 (fun k => decide (k < 11)) α 5999 = row (ms) 194 (MC.setIfInBounds 5 (.slice (some ⟨α 1004, 0, none⟩) 1 (1 + (α 4004)))) := by
    show rcallF01T5999 pb PC sb c st n src mp es k ms MC loc nm sx ln cp B1_1 B1 (fun k => decide (k < 11)) α = _
    unfold rcallF01T5999
    rw [if_pos (by decide)]
  have e6 : R9 (fun k => decide (k < 11)) α 4 = row (α 4) 60 #[.int .u32 src, .int .u32 (n : Int), .bool false, .bool false, .bool false] := rfl
  have e7 : R9 (fun k => decide (k < 11)) α 1004 = row (α 1004) 58 (full refZ ([.int .u32 src, .int .u32 (n : Int)]) (α 4004)) := rfl
  have e8 : R9 (fun k => decide (k < 11)) α 7 = row (α 7) 288 #[.iface 56 (.pointer (some ⟨α 4, 0, none⟩)), .int .i32 loc, .slice (some ⟨sx, 0, none⟩) ln cp, .int .i32 0, .int .u8 0, .int .u8 0, .bool false, .bool false] := rfl
  have hO : Own w0 u [row (B1_1) 29 #[.iface 284 (.pointer (some ⟨α 7, 0, none⟩)), .int .i32 loc], row (B1) 27 #[.int .i32 loc], row (pb) 182 (PC.setIfInBounds 106 (.slice (some ⟨α 2004, 0, none⟩) (n + 1) (n + 1 + (α 3004)))), row (α 2004) 201 (full symZ (symL (bump (st ++ [syk nm 27]) n)) (α 3004)), ((mp, .map (es.push ⟨.string nm, .agg #[.int .i32 loc, .int .u32 src, .int .u32 (n : Int)], k⟩) (k + 1)) : Rw), row (ms) 194 (MC.setIfInBounds 5 (.slice (some ⟨α 1004, 0, none⟩) 1 (1 + (α 4004)))), row (α 4) 60 #[.int .u32 src, .int .u32 (n : Int), .bool false, .bool false, .bool false], row (α 1004) 58 (full refZ ([.int .u32 src, .int .u32 (n : Int)]) (α 4004)), row (α 7) 288 #[.iface 56 (.pointer (some ⟨α 4, 0, none⟩)), .int .i32 loc, .slice (some ⟨sx, 0, none⟩) ln cp, .int .i32 0, .int .u8 0, .int .u8 0, .bool false, .bool false]] X := (hG.list [999, 1999, 2999, 3999, 4999, 5999, 4, 1004, 7] (by decide) (act_all (by decide))).conv (by
    show [R9 (fun k => decide (k < 11)) α 999, R9 (fun k => decide (k < 11)) α 1999, R9 (fun k => decide (k < 11)) α 2999, R9 (fun k => decide (k < 11)) α 3999, R9 (fun k => decide (k < 11)) α 4999, R9 (fun k => decide (k < 11)) α 5999, R9 (fun k => decide (k < 11)) α 4, R9 (fun k => decide (k < 11)) α 1004, R9 (fun k => decide (k < 11)) α 7] = _
    rw [e0, e1, e2, e3, e4, e5, e6, e7, e8])
  clear hG e0 e1 e2 e3 e4 e5 e6 e7 e8 R9
  generalize hfr : Rega.frameAt _ _ _ _ _ = fr
  have hdf : fr = ⟨#[.pointer (some ⟨pb, 0, none⟩), .agg #[.int .i32 loc], .string nm, .slice (some ⟨sx, 0, none⟩) ln cp, undef, .pointer (some ⟨B1, 0, none⟩), undef, undef, .pointer (some ⟨B1_1, 0, none⟩), .agg #[.int .i32 loc], .pointer (some ⟨pb, 0, none⟩), .agg #[.int .i32 loc], .string nm, .agg #[.iface 56 (.pointer (some ⟨α 4, 0, none⟩)), .int .i32 loc], .slice (some ⟨sx, 0, none⟩) ln cp, .agg #[.iface 56 (.pointer (some ⟨α 4, 0, none⟩)), .int .i32 loc, .slice (some ⟨sx, 0, none⟩) ln cp, .int .i32 0, .int .u8 0, .int .u8 0, .bool false, .bool false], .pointer (some ⟨α 7, 0, none⟩), .iface 284 (.pointer (some ⟨α 7, 0, none⟩)), .agg #[.iface 284 (.pointer (some ⟨α 7, 0, none⟩)), .int .i32 loc]], []⟩ := by rw [← hfr]; kernel_rfl
  clear hfr
  subst hdf
  generalize α 4 = nd3 at hO ⊢
  generalize α 7 = nd4 at hO ⊢
  generalize α 1004 = nd5 at hO ⊢
  generalize α 2004 = nd6 at hO ⊢
  generalize α 3004 = nd7 at hO ⊢
  generalize α 4004 = nd8 at hO ⊢
  clear α
  have hN : Own w0 u [row (B1_1) 29 #[.iface 284 (.pointer (some ⟨nd4, 0, none⟩)), .int .i32 loc], row (B1) 27 #[.int .i32 loc], row (pb) 182 (PC.setIfInBounds 106 (.slice (some ⟨nd6, 0, none⟩) (n + 1) (n + 1 + (nd7)))), row (nd6) 201 (full symZ (symL (bump (st ++ [syk nm 27]) n)) (nd7)), ((mp, .map (es.push ⟨.string nm, .agg #[.int .i32 loc, .int .u32 src, .int .u32 (n : Int)], k⟩) (k + 1)) : Rw), row (ms) 194 (MC.setIfInBounds 5 (.slice (some ⟨nd5, 0, none⟩) 1 (1 + (nd8)))), row (nd3) 60 #[.int .u32 src, .int .u32 (n : Int), .bool false, .bool false, .bool false], row (nd5) 58 (full refZ [.int .u32 src, .int .u32 (n : Int)] (nd8)), row (nd4) 288 #[.iface 56 (.pointer (some ⟨nd3, 0, none⟩)), .int .i32 loc, .slice (some ⟨sx, 0, none⟩) ln cp, .int .i32 0, .int .u8 0, .int .u8 0, .bool false, .bool false]] X := hO
  clear hO
  have hO := hN
  clear hN
  obtain ⟨c9_0_0, c9_0_1, lt9_0, y9_0, -⟩ := hO.k2 0 rfl
  obtain ⟨c9_1_0, lt9_1, y9_1, -⟩ := hO.k1 1 rfl
  obtain ⟨c9_6_0, c9_6_1, c9_6_2, c9_6_3, c9_6_4, lt9_6, y9_6, -⟩ := hO.k5 6 rfl
  obtain ⟨c9_8_0, c9_8_1, c9_8_2, c9_8_3, c9_8_4, c9_8_5, c9_8_6, c9_8_7, lt9_8, y9_8, -⟩ := hO.k8 8 rfl
  have HO := Lib.hid hO
  clear hO
  go_wp2_with (first | (with_reducible refine Own.stay (fn := Tryz.f37) ?_) | fail)
  try with_reducible refine Own.Stay.mk ?_
  have hO := HO.out
  clear HO c9_0_0 c9_0_1 lt9_0 y9_0 c9_1_0 lt9_1 y9_1 c9_6_0 c9_6_1 c9_6_2 c9_6_3 c9_6_4 lt9_6 y9_6 c9_8_0 c9_8_1 c9_8_2 c9_8_3 c9_8_4 c9_8_5 c9_8_6 c9_8_7 lt9_8 y9_8
  have z9_0_0 : u.cell? ⟨B1_1, 0, none⟩ = some (.iface 284 (.pointer (some ⟨nd4, 0, none⟩))) := hO.cell 0 rfl 0 rfl
  have z9_0_1 : u.cell? ⟨B1_1, 1, none⟩ = some (.int .i32 loc) := hO.cell 0 rfl 1 rfl
  refine bodyPost_ret (v := .agg #[.iface 284 (.pointer (some ⟨nd4, 0, none⟩)), .int .i32 loc]) ?_ rfl ⟨nd4, nd3, nd6, nd7, nd5, nd8, rfl, hO.sub [2, 3, 4, 5, 7, 6, 8] (by decide)⟩
  simp [results, Tryz.results37, go_sem, z9_0_0, z9_0_1]
end Go.Proofs.YtghofdhhhbbaaaaGreatDoor.Use
