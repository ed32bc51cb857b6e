/- The law's class context, made. No condition. -/
import Derived.Test.YtaoflhnkhgclhaaDoorApp
import Derived.Test.YtaoflhnkhgclhaaDoorOwnK
import Derived.Test.YtaoflhnkhgclhaaDoorOwn
import Derived.Test.YtaoflhnkhgclhaaDoorDeepCells
import Derived.Test.YtaoflhnkhgclhaaDoorRows
import Derived.Test.YtaoflhnkhgclhaaDoorUse
import Derived.Test.YtaoflhnkhgclhaaDoorLive
namespace Go.Proofs.YtaoflhnkhgclhaaDoor.Use
open Go.ChangeShapes Go.WideShapes Go.ChangeAt Go.RowKit Go.Sort Own
set_option linter.unusedVariables false
def rN01E (pb : Nat) (PC : Array Value) (src : Int) (B1 : Nat) : Nat → Rega.Atoms → Value
  | 0, α => .pointer (some ⟨pb, 0, none⟩)
  | 1, α => .pointer (some ⟨pb, 0, none⟩)
  | 2, α => .pointer (some ⟨pb, 57, none⟩)
  | 3, α => .pointer (some ⟨pb, 66, none⟩)
  | 4, α => .int .u32 src
  | 5, α => .pointer (some ⟨pb, 0, none⟩)
  | 6, α => .pointer (some ⟨pb, 0, none⟩)
  | 7, α => .pointer (some ⟨pb, 106, none⟩)
  | 8, α => .slice none 0 0
  | 9, α => .int .i64 0
  | 10, α => .int .u32 0
  | 11, α => .agg #[.int .u32 src, .int .u32 0]
  | 12, α => .pointer (some ⟨α 12, 0, none⟩)
  | 13, α => undef
  | _, _ => undef
def rN01Anc : Nat → List Nat
  | 1 => [0]
  | 2 => [0, 1]
  | 3 => [0, 1, 2]
  | 4 => [0, 1, 2, 3]
  | 6 => [5]
  | 7 => [5, 6]
  | 8 => [5, 6, 7]
  | 9 => [5, 6, 7, 8]
  | 10 => [5, 6, 7, 8, 9]
  | 11 => [0, 1, 2, 3, 4, 5, 6, 7, 8, 9, 10]
  | 13 => [0, 1, 2, 3, 4, 5, 6, 7, 8, 9, 10, 11, 12]
  | _ => []
def rN01Trn : Nat → List Nat
  | 13 => [12]
  | _ => []
def rN01Cnt : List (Nat × Nat) := [(12, 1)]
def rN01T12 (pb : Nat) (PC : Array Value) (src : Int) (B1 : Nat) (L9 : Nat → Bool) (α : Rega.Atoms) : Rw := if L9 13 = true then row (α 12) 49 #[.int .u32 src, .int .u32 0] else row (α 12) 49 #[.int .u32 0, .int .u32 0]
def rN01R (pb : Nat) (PC : Array Value) (src : Int) (B1 : Nat) (L9 : Nat → Bool) (α : Rega.Atoms) (ix9 : Nat) : Rw := if ix9 = 999 then row (B1) 49 #[.int .u32 0, .int .u32 0] else if ix9 = 1999 then row (pb) 176 PC else if ix9 = 12 then rN01T12 pb PC src B1 L9 α else (0, .map #[] 0)
theorem rN01_he (pb : Nat) (PC : Array Value) (src : Int) (B1 : Nat) : ∀ kk α α', (∀ j, (j % 1000 = kk ∨ j % 1000 ∈ rN01Anc kk) → α j = α' j) → rN01E pb PC src B1 kk α = rN01E pb PC src B1 kk α' := by
  intro kk α α' h
  match kk with
  | 0 => rfl
  | 1 => rfl
  | 2 => rfl
  | 3 => rfl
  | 4 => rfl
  | 5 => rfl
  | 6 => rfl
  | 7 => rfl
  | 8 => rfl
  | 9 => rfl
  | 10 => rfl
  | 11 => rfl
  | 12 => simp only [rN01E, h 12 (Or.inl rfl)]
  | 13 => rfl
  | n + 14 => rfl
theorem rN01_st (pb : Nat) (PC : Array Value) (src : Int) (B1 : Nat) : Stable rN01Cnt 2 rN01Anc rN01Trn (rN01R pb PC src B1) := by
  intro k9 L9 α α' ix9 hk hcl hα hact ht
  have hp := act_places hact
  replace hp : ix9 ∈ [999, 1999, 12] := hp
  simp only [List.mem_cons, List.not_mem_nil, or_false] at hp
  rcases hp with rfl | rfl | rfl
  · rfl
  · rfl
  · have e0 : L9 12 = true := act_lt hact (by decide)
    show rN01T12 pb PC src B1 (Rega.ran L9 k9) α' = rN01T12 pb PC src B1 L9 α
    unfold rN01T12
    have n13 : 13 ≠ k9 := fun e => ht (by rw [← e]; decide)
    rw [ran_ne n13]
    by_cases e13 : L9 13 = true
    · first | rw [if_pos e13, if_pos e13] | rw [if_pos e13]
      try simp only [hα 12 (ne_ran hk (hcl 13 e13 12 (by decide)))]
    first | rw [if_neg e13, if_neg e13] | rw [if_neg e13]
    try simp only [hα 12 (ne_ran hk e0)]
def rN02E (pb : Nat) (PC : Array Value) (kd : Int) (nm : ByteArray) : Nat → Rega.Atoms → Value
  | 0, α => .pointer (some ⟨pb, 0, none⟩)
  | 1, α => .pointer (some ⟨pb, 0, none⟩)
  | 2, α => .pointer (some ⟨pb, 0, none⟩)
  | 3, α => .pointer (some ⟨pb, 106, none⟩)
  | 4, α => .slice none 0 0
  | 5, α => .int .u8 kd
  | 6, α => .string nm
  | 7, α => .agg #[.int .u32 4294967295, .int .u32 4294967295]
  | 8, α => .agg #[.pointer none, .string nm, .int .u32 4294967295, .int .u32 4294967295, .int .u32 0, .int .u32 0, .int .u32 0, .int .u16 0, .int .u8 kd, .int .u8 0]
  | 9, α => .slice (some ⟨α 9, 0, none⟩) 1 1
  | 10, α => .slice (some ⟨α 10, 0, none⟩) 1 (1 + α 1010)
  | 11, α => .pointer (some ⟨pb, 0, none⟩)
  | 12, α => .pointer (some ⟨pb, 106, none⟩)
  | 13, α => undef
  | _, _ => undef
def rN02Anc : Nat → List Nat
  | 2 => [1]
  | 3 => [1, 2]
  | 4 => [1, 2, 3]
  | 8 => [5, 6, 7]
  | 9 => [5, 6, 7, 8]
  | 10 => [1, 2, 3, 4, 5, 6, 7, 8, 9]
  | 11 => [0, 1, 2, 3, 4, 5, 6, 7, 8, 9, 10]
  | 12 => [0, 1, 2, 3, 4, 5, 6, 7, 8, 9, 10, 11]
  | 13 => [0, 1, 2, 3, 4, 5, 6, 7, 8, 9, 10, 11, 12]
  | _ => []
def rN02Trn : Nat → List Nat
  | 13 => [999]
  | _ => []
def rN02Cnt : List (Nat × Nat) := [(9, 1), (10, 1)]
def rN02T999 (pb : Nat) (PC : Array Value) (kd : Int) (nm : ByteArray) (L9 : Nat → Bool) (α : Rega.Atoms) : Rw := if L9 13 = true then row (pb) 176 (PC.setIfInBounds 106 (.slice (some ⟨α 10, 0, none⟩) 1 (1 + α 1010))) else row (pb) 176 PC
def rN02R (pb : Nat) (PC : Array Value) (kd : Int) (nm : ByteArray) (L9 : Nat → Bool) (α : Rega.Atoms) (ix9 : Nat) : Rw := if ix9 = 999 then rN02T999 pb PC kd nm L9 α else if ix9 = 9 then row (α 9) 199 #[.pointer none, .string nm, .int .u32 4294967295, .int .u32 4294967295, .int .u32 0, .int .u32 0, .int .u32 0, .int .u16 0, .int .u8 kd, .int .u8 0] else if ix9 = 10 then row (α 10) 199 (full symZ [.pointer none, .string nm, .int .u32 4294967295, .int .u32 4294967295, .int .u32 0, .int .u32 0, .int .u32 0, .int .u16 0, .int .u8 kd, .int .u8 0] (α 1010)) else (0, .map #[] 0)
theorem rN02_he (pb : Nat) (PC : Array Value) (kd : Int) (nm : ByteArray) : ∀ kk α α', (∀ j, (j % 1000 = kk ∨ j % 1000 ∈ rN02Anc kk) → α j = α' j) → rN02E pb PC kd nm kk α = rN02E pb PC kd nm kk α' := by
  intro kk α α' h
  match kk with
  | 0 => rfl
  | 1 => rfl
  | 2 => rfl
  | 3 => rfl
  | 4 => rfl
  | 5 => rfl
  | 6 => rfl
  | 7 => rfl
  | 8 => rfl
  | 9 => simp only [rN02E, h 9 (Or.inl rfl)]
  | 10 => simp only [rN02E, h 10 (Or.inl rfl), h 1010 (Or.inl rfl)]
  | 11 => rfl
  | 12 => rfl
  | 13 => rfl
  | n + 14 => rfl
theorem rN02_st (pb : Nat) (PC : Array Value) (kd : Int) (nm : ByteArray) : Stable rN02Cnt 1 rN02Anc rN02Trn (rN02R pb PC kd nm) := by
  intro k9 L9 α α' ix9 hk hcl hα hact ht
  have hp := act_places hact
  replace hp : ix9 ∈ [999, 9, 10] := hp
  simp only [List.mem_cons, List.not_mem_nil, or_false] at hp
  rcases hp with rfl | rfl | rfl
  · show rN02T999 pb PC kd nm (Rega.ran L9 k9) α' = rN02T999 pb PC kd nm L9 α
    unfold rN02T999
    have n13 : 13 ≠ k9 := fun e => ht (by rw [← e]; decide)
    rw [ran_ne n13]
    by_cases e13 : L9 13 = true
    · first | rw [if_pos e13, if_pos e13] | rw [if_pos e13]
      try simp only [hα 10 (ne_ran hk (hcl 13 e13 10 (by decide))), hα 1010 (ne_ran hk (hcl 13 e13 10 (by decide)))]
    first | rw [if_neg e13, if_neg e13] | rw [if_neg e13]
  · have e0 : L9 9 = true := act_lt hact (by decide)
    show row (α' 9) 199 #[.pointer none, .string nm, .int .u32 4294967295, .int .u32 4294967295, .int .u32 0, .int .u32 0, .int .u32 0, .int .u16 0, .int .u8 kd, .int .u8 0] = row (α 9) 199 #[.pointer none, .string nm, .int .u32 4294967295, .int .u32 4294967295, .int .u32 0, .int .u32 0, .int .u32 0, .int .u16 0, .int .u8 kd, .int .u8 0]
    simp only [hα 9 (ne_ran hk e0)]
  · have e0 : L9 10 = true := act_lt hact (by decide)
    show row (α' 10) 199 (full symZ [.pointer none, .string nm, .int .u32 4294967295, .int .u32 4294967295, .int .u32 0, .int .u32 0, .int .u32 0, .int .u16 0, .int .u8 kd, .int .u8 0] (α' 1010)) = row (α 10) 199 (full symZ [.pointer none, .string nm, .int .u32 4294967295, .int .u32 4294967295, .int .u32 0, .int .u32 0, .int .u32 0, .int .u16 0, .int .u8 kd, .int .u8 0] (α 1010))
    simp only [hα 10 (ne_ran hk e0), hα 1010 (ne_ran hk e0)]
def newSym0Post (pb : Nat) (PC : Array Value) (src kd : Int) (nm : ByteArray) (w0 : World) (X : Nat → Obj → Prop) (e : Ending) (w' : World) : Prop :=
  ∃ sb2 : Nat, ∃ c2 : Nat, e = .returned (.agg #[.int .u32 src, .int .u32 0]) ∧ Own w0 w' [row (pb) 176 (PC.setIfInBounds 106 (.slice (some ⟨sb2, 0, none⟩) 1 (1 + c2))), row (sb2) 199 (full symZ (symL ([syk nm kd])) c2)] X
set_option maxRecDepth 100000 in
set_option maxHeartbeats 1000000 in
theorem newSym0 (pb : Nat) (PC : Array Value) (src kd : Int) (nm : ByteArray) (w0 w : World) (X : Nat → Obj → Prop) (hO : Own w0 w [row (pb) 176 PC] X) (hk66 : PC[66]? = some (.int .u32 src)) (hk32 : PC[32]? = some (.bool false)) (hk106 : PC[106]? = some (.slice none 0 0)) (hg0 : w0.cell? ⟨0, 0, none⟩ = some (.int .u32 4294967295)) (hg1 : w0.cell? ⟨0, 1, none⟩ = some (.int .u32 4294967295)) :
    Calls Tryd.prog 17 #[.pointer (some ⟨pb, 0, none⟩), .int .u8 kd, .string nm] w (newSym0Post pb PC src kd nm w0 X) := by
  go_enter Tryd.func17, Tryd.ntmps17
  have c9_0_32 : w.cell? ⟨pb, 32, none⟩ = some (.bool false) := hO.cell 0 rfl (32) (hk32)
  have c9_0_66 : w.cell? ⟨pb, 66, none⟩ = some (.int .u32 src) := hO.cell 0 rfl (66) (hk66)
  have c9_0_106 : w.cell? ⟨pb, 106, none⟩ = some (.slice none 0 0) := hO.cell 0 rfl (106) (hk106)
  have lt9_0 : pb < w.heap.size := hO.lt 0 rfl
  have y9_0 : ∀ o, w.frozen? ⟨pb, o, none⟩ = false := hO.free 0 rfl
  have HO := Lib.hid hO
  clear hO
  go_wp2_with (first | (with_reducible refine Own.stay (fn := Tryd.f17) ?_) | fail)
  try with_reducible refine Own.Stay.mk ?_
  have hO := HO.out
  clear HO c9_0_32 c9_0_66 c9_0_106 lt9_0 y9_0
  generalize hW : World.alloc _ _ = W2
  have hN : Own w0 W2 [row (w.heap.size) 49 #[.int .u32 0, .int .u32 0], row (pb) 176 PC] X := by
    rw [← hW]
    exact (hO).alloc' _ (w.heap.size) (by simp)
  clear hW hO
  generalize w.heap.size = B1 at hN ⊢
  have hO := hN
  clear hN
  have st9 := rN01_st pb PC src B1
  refine wp_region_own (e := rN01E pb PC src B1) (anc := rN01Anc) (G := (fun L9 α u9 => OwnF w0 u9 (act rN01Cnt 2 L9) (rN01R pb PC src B1 L9 α) X)) (by kernel_rfl) (by kernel_rfl) (by kernel_rfl) (by kernel_rfl) (rN01_he pb PC src B1) ?_ (RunsAll.all ?_) ?_
  · have hp : ∀ i, act rN01Cnt 2 (fun _ => false) i → i ∈ [999, 1999] := by
      intro i hi
      have h9 : i % 1000 = 999 := by
        by_cases h : i % 1000 = 999
        · exact h
        · exact absurd (act_lt hi h) (by simp)
      unfold act at hi
      rw [if_pos h9] at hi
      simp only [List.mem_cons, List.not_mem_nil, or_false]
      omega
    refine hO.drew.family (fun i hi => ?_) (fun i j hi hj hij => ?_)
    · have := hp i hi
      simp only [List.mem_cons, List.not_mem_nil, or_false] at this
      rcases this with rfl | rfl <;> rfl
    · have h1 := hp i hi
      have h2 := hp j hj
      simp only [List.mem_cons, List.not_mem_nil, or_false] at h1 h2
      omega
  · refine ⟨?_, ?_, ?_, ?_, ?_, ?_, ?_, ?_, ?_, ?_, ?_, ?_, ?_, ?_, trivial⟩
    · intro L9 α a9 u9 K9 hL hcl hA hG hS h0 hK
      replace hL : L9 0 = false := hL
      have q0 : a9.tmps[0]? = some (.pointer (some ⟨pb, 0, none⟩)) := (h0 0 (by kernel_rfl)).trans rfl
      have s0 := Rega.eval_of q0
      go_simp
      exact hK _ α _ (fun _ _ => rfl) rfl (step_same (st9) hL hcl rfl rfl hG)
    · intro L9 α a9 u9 K9 hL hcl hA hG hS h0 hK
      replace hL : L9 1 = false := hL
      have q8 : a9.tmps[8]? = some (.pointer (some ⟨pb, 0, none⟩)) := hS 0 8 (by decide) rfl (by show 8 < 50; decide)
      have s8 := Rega.eval_of q8
      go_simp
      exact hK _ α _ (fun _ _ => rfl) rfl (step_same (st9) hL hcl rfl rfl hG)
    · intro L9 α a9 u9 K9 hL hcl hA hG hS h0 hK
      replace hL : L9 2 = false := hL
      have q9 : a9.tmps[9]? = some (.pointer (some ⟨pb, 0, none⟩)) := hS 1 9 (by decide) rfl (by show 9 < 50; decide)
      have s9 := Rega.eval_of q9
      go_simp
      exact hK _ α _ (fun _ _ => rfl) rfl (step_same (st9) hL hcl rfl rfl hG)
    · intro L9 α a9 u9 K9 hL hcl hA hG hS h0 hK
      replace hL : L9 3 = false := hL
      have q10 : a9.tmps[10]? = some (.pointer (some ⟨pb, 57, none⟩)) := hS 2 10 (by decide) rfl (by show 10 < 50; decide)
      have s10 := Rega.eval_of q10
      go_simp
      exact hK _ α _ (fun _ _ => rfl) rfl (step_same (st9) hL hcl rfl rfl hG)
    · intro L9 α a9 u9 K9 hL hcl hA hG hS h0 hK
      replace hL : L9 4 = false := hL
      have q11 : a9.tmps[11]? = some (.pointer (some ⟨pb, 66, none⟩)) := hS 3 11 (by decide) rfl (by show 11 < 50; decide)
      have s11 := Rega.eval_of q11
      have e0 : rN01R pb PC src B1 L9 α 1999 = row (pb) 176 PC := rfl
      have hr := hG.rowAt 1999 (act_base 1999 rfl) e0
      have c0 : u9.cell? ⟨pb, 66, none⟩ = some (.int .u32 src) := hr.cell (hk66)
      clear hr e0
      go_simp
      exact hK _ α _ (fun _ _ => rfl) rfl (step_same (st9) hL hcl rfl rfl hG)
    · intro L9 α a9 u9 K9 hL hcl hA hG hS h0 hK
      replace hL : L9 5 = false := hL
      have q0 : a9.tmps[0]? = some (.pointer (some ⟨pb, 0, none⟩)) := (h0 0 (by kernel_rfl)).trans rfl
      have s0 := Rega.eval_of q0
      go_simp
      exact hK _ α _ (fun _ _ => rfl) rfl (step_same (st9) hL hcl rfl rfl hG)
    · intro L9 α a9 u9 K9 hL hcl hA hG hS h0 hK
      replace hL : L9 6 = false := hL
      have q13 : a9.tmps[13]? = some (.pointer (some ⟨pb, 0, none⟩)) := hS 5 13 (by decide) rfl (by show 13 < 50; decide)
      have s13 := Rega.eval_of q13
      go_simp
      exact hK _ α _ (fun _ _ => rfl) rfl (step_same (st9) hL hcl rfl rfl hG)
    · intro L9 α a9 u9 K9 hL hcl hA hG hS h0 hK
      replace hL : L9 7 = false := hL
      have q14 : a9.tmps[14]? = some (.pointer (some ⟨pb, 0, none⟩)) := hS 6 14 (by decide) rfl (by show 14 < 50; decide)
      have s14 := Rega.eval_of q14
      go_simp
      exact hK _ α _ (fun _ _ => rfl) rfl (step_same (st9) hL hcl rfl rfl hG)
    · intro L9 α a9 u9 K9 hL hcl hA hG hS h0 hK
      replace hL : L9 8 = false := hL
      have q15 : a9.tmps[15]? = some (.pointer (some ⟨pb, 106, none⟩)) := hS 7 15 (by decide) rfl (by show 15 < 50; decide)
      have s15 := Rega.eval_of q15
      have e0 : rN01R pb PC src B1 L9 α 1999 = row (pb) 176 PC := rfl
      have hr := hG.rowAt 1999 (act_base 1999 rfl) e0
      have c0 : u9.cell? ⟨pb, 106, none⟩ = some (.slice none 0 0) := hr.cell (hk106)
      clear hr e0
      go_simp
      exact hK _ α _ (fun _ _ => rfl) rfl (step_same (st9) hL hcl rfl rfl hG)
    · intro L9 α a9 u9 K9 hL hcl hA hG hS h0 hK
      replace hL : L9 9 = false := hL
      have q16 : a9.tmps[16]? = some (.slice none 0 0) := hS 8 16 (by decide) rfl (by show 16 < 50; decide)
      have s16 := Rega.eval_of q16
      go_simp
      exact hK _ α _ (fun _ _ => rfl) rfl (step_same (st9) hL hcl rfl rfl hG)
    · intro L9 α a9 u9 K9 hL hcl hA hG hS h0 hK
      replace hL : L9 10 = false := hL
      have q17 : a9.tmps[17]? = some (.int .i64 0) := hS 9 17 (by decide) rfl (by show 17 < 50; decide)
      have s17 := Rega.eval_of q17
      go_simp
      exact hK _ α _ (fun _ _ => rfl) rfl (step_same (st9) hL hcl rfl rfl hG)
    · intro L9 α a9 u9 K9 hL hcl hA hG hS h0 hK
      replace hL : L9 11 = false := hL
      have q12 : a9.tmps[12]? = some (.int .u32 src) := hS 4 12 (by decide) rfl (by show 12 < 50; decide)
      have s12 := Rega.eval_of q12
      have q18 : a9.tmps[18]? = some (.int .u32 0) := hS 10 18 (by decide) rfl (by show 18 < 50; decide)
      have s18 := Rega.eval_of q18
      go_simp
      exact hK _ α _ (fun _ _ => rfl) rfl (step_same (st9) hL hcl rfl rfl hG)
    · intro L9 α a9 u9 K9 hL hcl hA hG hS h0 hK
      replace hL : L9 12 = false := hL
      go_simp
      have e1 : rN01R pb PC src B1 (Rega.ran L9 12) (fun j => if j = 12 then u9.heap.size else α j) 12 = row (u9.heap.size) 49 #[.int .u32 0, .int .u32 0] := by
        show rN01T12 pb PC src B1 (Rega.ran L9 12) (fun j => if j = 12 then u9.heap.size else α j) = _
        unfold rN01T12
        exact ((if_neg (fun e => (fun e => by have := hcl 13 e 12 (by decide); rw [hL] at this; cases this) ((ran_ne (by decide)).symm.trans e))).trans rfl)
      exact hK _ (fun j => if j = 12 then u9.heap.size else α j) _ (fun j hj => if_neg (fun e => hj (by rw [e]))) rfl (step_alloc (st9) hL hcl rfl rfl (by decide) _ e1 hG)
    · intro L9 α a9 u9 K9 hL hcl hA hG hS h0 hK
      replace hL : L9 13 = false := hL
      have q7 : a9.tmps[7]? = some (.pointer (some ⟨α 12, 0, none⟩)) := hS 12 7 (by decide) rfl (by show 7 < 50; decide)
      have s7 := Rega.eval_of q7
      have q19 : a9.tmps[19]? = some (.agg #[.int .u32 src, .int .u32 0]) := hS 11 19 (by decide) rfl (by show 19 < 50; decide)
      have s19 := Rega.eval_of q19
      have e0 : rN01R pb PC src B1 L9 α 12 = row (α 12) 49 #[.int .u32 0, .int .u32 0] := by
        show rN01T12 pb PC src B1 L9 α = _
        unfold rN01T12
        rw [if_neg (by rw [hL]; decide)]
      have hr := hG.rowAt 12 (act_new 12 rfl (hA 12 (by decide))) e0
      have c0 : u9.cell? ⟨α 12, 0, none⟩ = some (.int .u32 0) := hr.cell rfl
      have y0 : u9.frozen? ⟨α 12, 0, none⟩ = false := hr.free (0)
      have c1 : u9.cell? ⟨α 12, 1, none⟩ = some (.int .u32 0) := hr.cell rfl
      have y1 : u9.frozen? ⟨α 12, 1, none⟩ = false := hr.free (1)
      clear hr
      have E0 := Lib.hid e0
      clear e0
      go_simp
      have e1 : rN01R pb PC src B1 (Rega.ran L9 13) α 12 = row (α 12) 49 #[.int .u32 src, .int .u32 0] := by
        show rN01T12 pb PC src B1 (Rega.ran L9 13) α = _
        unfold rN01T12
        rw [if_pos (show Rega.ran L9 13 13 = true from rfl)]
      exact hK _ α _ (fun _ _ => rfl) rfl (step_sets (st9) hL hcl rfl 12 rfl (act_new 12 rfl (hA 12 (by decide))) E0.out (0) [.int .u32 src, .int .u32 0] (e1.trans rfl) hG)
  clear st9
  intro α u hG
  have e0 : rN01R pb PC src B1 (fun k => decide (k < 14)) α 999 = row (B1) 49 #[.int .u32 0, .int .u32 0] := rfl
  have e1 : rN01R pb PC src B1 (fun k => decide (k < 14)) α 1999 = row (pb) 176 PC := rfl
  have e2 : rN01R pb PC src B1 (fun k => decide (k < 14)) α 12 = row (α 12) 49 #[.int .u32 src, .int .u32 0] := by
    show rN01T12 pb PC src B1 (fun k => decide (k < 14)) α = _
    unfold rN01T12
    rw [if_pos (by decide)]
  have hO : Own w0 u [row (B1) 49 #[.int .u32 0, .int .u32 0], row (pb) 176 PC, row (α 12) 49 #[.int .u32 src, .int .u32 0]] X := (hG.list [999, 1999, 12] (by decide) (act_all (by decide))).conv (by
    show [rN01R pb PC src B1 (fun k => decide (k < 14)) α 999, rN01R pb PC src B1 (fun k => decide (k < 14)) α 1999, rN01R pb PC src B1 (fun k => decide (k < 14)) α 12] = _
    rw [e0, e1, e2])
  clear hG e0 e1 e2
  generalize hfr : Rega.frameAt _ _ _ _ _ = fr
  have hdf : fr = ⟨#[.pointer (some ⟨pb, 0, none⟩), .int .u8 kd, .string nm, undef, undef, undef, .pointer (some ⟨B1, 0, none⟩), .pointer (some ⟨α 12, 0, none⟩), .pointer (some ⟨pb, 0, none⟩), .pointer (some ⟨pb, 0, none⟩), .pointer (some ⟨pb, 57, none⟩), .pointer (some ⟨pb, 66, none⟩), .int .u32 src, .pointer (some ⟨pb, 0, none⟩), .pointer (some ⟨pb, 0, none⟩), .pointer (some ⟨pb, 106, none⟩), .slice none 0 0, .int .i64 0, .int .u32 0, .agg #[.int .u32 src, .int .u32 0], undef, undef, undef, undef, undef, undef, undef, undef, undef, undef, undef, undef, undef, undef, undef, undef, undef, undef, undef, undef, undef, undef, undef, undef, undef, undef, undef, undef, undef, undef], []⟩ := by rw [← hfr]; kernel_rfl
  clear hfr
  subst hdf
  generalize α 12 = nd3 at hO ⊢
  clear α
  obtain ⟨c9_0_0, c9_0_1, lt9_0, y9_0, -⟩ := hO.k2 0 rfl
  have c9_1_32 : u.cell? ⟨pb, 32, none⟩ = some (.bool false) := hO.cell 1 rfl (32) (hk32)
  have c9_1_66 : u.cell? ⟨pb, 66, none⟩ = some (.int .u32 src) := hO.cell 1 rfl (66) (hk66)
  have c9_1_106 : u.cell? ⟨pb, 106, none⟩ = some (.slice none 0 0) := hO.cell 1 rfl (106) (hk106)
  have lt9_1 : pb < u.heap.size := hO.lt 1 rfl
  have y9_1 : ∀ o, u.frozen? ⟨pb, o, none⟩ = false := hO.free 1 rfl
  obtain ⟨c9_2_0, c9_2_1, lt9_2, y9_2, -⟩ := hO.k2 2 rfl
  have HO := Lib.hid hO
  clear hO
  go_wp2_with (first | (with_reducible refine Own.stay (fn := Tryd.f17) ?_) | fail)
  try with_reducible refine Own.Stay.mk ?_
  have hO := HO.out
  clear HO c9_0_0 c9_0_1 lt9_0 y9_0 c9_1_32 c9_1_66 c9_1_106 lt9_1 y9_1 c9_2_0 c9_2_1 lt9_2 y9_2
  have hL := hO.apart
  have hX := hO.apartX
  have HL := Lib.hid hL
  have HX := Lib.hid hX
  clear hL hX
  have hP9 := hO.pick [1] (by decide)
  generalize hX9_4 : Own.Rest _ _ X = X9_4 at hP9
  replace hP9 : Own w0 u [row (pb) 176 PC] X9_4 := hP9
  clear hO
  have hO := hP9
  clear hP9
  have st9 := rN02_st pb PC kd nm
  refine wp_region_own (e := rN02E pb PC kd nm) (anc := rN02Anc) (G := (fun L9 α u9 => OwnF w0 u9 (act rN02Cnt 1 L9) (rN02R pb PC kd nm L9 α) X9_4)) (by kernel_rfl) (by kernel_rfl) (by kernel_rfl) (by kernel_rfl) (rN02_he pb PC kd nm) ?_ (RunsAll.all ?_) ?_
  · have hp : ∀ i, act rN02Cnt 1 (fun _ => false) i → i ∈ [999] := by
      intro i hi
      have h9 : i % 1000 = 999 := by
        by_cases h : i % 1000 = 999
        · exact h
        · exact absurd (act_lt hi h) (by simp)
      unfold act at hi
      rw [if_pos h9] at hi
      simp only [List.mem_cons, List.not_mem_nil, or_false]
      omega
    refine hO.drew.family (fun i hi => ?_) (fun i j hi hj hij => ?_)
    · have := hp i hi
      simp only [List.mem_cons, List.not_mem_nil, or_false] at this
      subst this
      rfl
    · have h1 := hp i hi
      have h2 := hp j hj
      simp only [List.mem_cons, List.not_mem_nil, or_false] at h1 h2
      omega
  · refine ⟨?_, ?_, ?_, ?_, ?_, ?_, ?_, ?_, ?_, ?_, ?_, ?_, ?_, ?_, trivial⟩
    · intro L9 α a9 u9 K9 hL hcl hA hG hS h0 hK
      replace hL : L9 0 = false := hL
      have q0 : a9.tmps[0]? = some (.pointer (some ⟨pb, 0, none⟩)) := (h0 0 (by kernel_rfl)).trans rfl
      have s0 := Rega.eval_of q0
      go_simp
      exact hK _ α _ (fun _ _ => rfl) rfl (step_same (st9) hL hcl rfl rfl hG)
    · intro L9 α a9 u9 K9 hL hcl hA hG hS h0 hK
      replace hL : L9 1 = false := hL
      have q0 : a9.tmps[0]? = some (.pointer (some ⟨pb, 0, none⟩)) := (h0 0 (by kernel_rfl)).trans rfl
      have s0 := Rega.eval_of q0
      go_simp
      exact hK _ α _ (fun _ _ => rfl) rfl (step_same (st9) hL hcl rfl rfl hG)
    · intro L9 α a9 u9 K9 hL hcl hA hG hS h0 hK
      replace hL : L9 2 = false := hL
      have q21 : a9.tmps[21]? = some (.pointer (some ⟨pb, 0, none⟩)) := hS 1 21 (by decide) rfl (by show 21 < 50; decide)
      have s21 := Rega.eval_of q21
      go_simp
      exact hK _ α _ (fun _ _ => rfl) rfl (step_same (st9) hL hcl rfl rfl hG)
    · intro L9 α a9 u9 K9 hL hcl hA hG hS h0 hK
      replace hL : L9 3 = false := hL
      have q22 : a9.tmps[22]? = some (.pointer (some ⟨pb, 0, none⟩)) := hS 2 22 (by decide) rfl (by show 22 < 50; decide)
      have s22 := Rega.eval_of q22
      go_simp
      exact hK _ α _ (fun _ _ => rfl) rfl (step_same (st9) hL hcl rfl rfl hG)
    · intro L9 α a9 u9 K9 hL hcl hA hG hS h0 hK
      replace hL : L9 4 = false := hL
      have q23 : a9.tmps[23]? = some (.pointer (some ⟨pb, 106, none⟩)) := hS 3 23 (by decide) rfl (by show 23 < 50; decide)
      have s23 := Rega.eval_of q23
      have e0 : rN02R pb PC kd nm L9 α 999 = row (pb) 176 PC := by
        show rN02T999 pb PC kd nm L9 α = _
        unfold rN02T999
        rw [if_neg (fun e => by have := hcl 13 e 4 (by decide); rw [hL] at this; cases this)]
      have hr := hG.rowAt 999 (act_base 999 rfl) e0
      have c0 : u9.cell? ⟨pb, 106, none⟩ = some (.slice none 0 0) := hr.cell (hk106)
      clear hr e0
      go_simp
      exact hK _ α _ (fun _ _ => rfl) rfl (step_same (st9) hL hcl rfl rfl hG)
    · intro L9 α a9 u9 K9 hL hcl hA hG hS h0 hK
      replace hL : L9 5 = false := hL
      have q1 : a9.tmps[1]? = some (.int .u8 kd) := (h0 1 (by kernel_rfl)).trans rfl
      have s1 := Rega.eval_of q1
      go_simp
      exact hK _ α _ (fun _ _ => rfl) rfl (step_same (st9) hL hcl rfl rfl hG)
    · intro L9 α a9 u9 K9 hL hcl hA hG hS h0 hK
      replace hL : L9 6 = false := hL
      have q2 : a9.tmps[2]? = some (.string nm) := (h0 2 (by kernel_rfl)).trans rfl
      have s2 := Rega.eval_of q2
      go_simp
      exact hK _ α _ (fun _ _ => rfl) rfl (step_same (st9) hL hcl rfl rfl hG)
    · intro L9 α a9 u9 K9 hL hcl hA hG hS h0 hK
      replace hL : L9 7 = false := hL
      have c0 : u9.cell? ⟨0, 0, none⟩ = some (.int .u32 4294967295) := Base.cell_below hG.below (Base.block_of_cell hg0) hg0
      have c1 : u9.cell? ⟨0, 1, none⟩ = some (.int .u32 4294967295) := Base.cell_below hG.below (Base.block_of_cell hg1) hg1
      go_simp
      exact hK _ α _ (fun _ _ => rfl) rfl (step_same (st9) hL hcl rfl rfl hG)
    · intro L9 α a9 u9 K9 hL hcl hA hG hS h0 hK
      replace hL : L9 8 = false := hL
      have q25 : a9.tmps[25]? = some (.int .u8 kd) := hS 5 25 (by decide) rfl (by show 25 < 50; decide)
      have s25 := Rega.eval_of q25
      have q26 : a9.tmps[26]? = some (.string nm) := hS 6 26 (by decide) rfl (by show 26 < 50; decide)
      have s26 := Rega.eval_of q26
      have q27 : a9.tmps[27]? = some (.agg #[.int .u32 4294967295, .int .u32 4294967295]) := hS 7 27 (by decide) rfl (by show 27 < 50; decide)
      have s27 := Rega.eval_of q27
      go_simp
      exact hK _ α _ (fun _ _ => rfl) rfl (step_same (st9) hL hcl rfl rfl hG)
    · intro L9 α a9 u9 K9 hL hcl hA hG hS h0 hK
      replace hL : L9 9 = false := hL
      have q28 : a9.tmps[28]? = some (.agg #[.pointer none, .string nm, .int .u32 4294967295, .int .u32 4294967295, .int .u32 0, .int .u32 0, .int .u32 0, .int .u16 0, .int .u8 kd, .int .u8 0]) := hS 8 28 (by decide) rfl (by show 28 < 50; decide)
      have s28 := Rega.eval_of q28
      go_simp
      exact hK _ (fun j => if j = 9 then u9.heap.size else α j) _ (fun j hj => if_neg (fun e => hj (by rw [e]))) rfl (step_alloc (st9) hL hcl rfl rfl (by decide) _ rfl hG)
    · intro L9 α a9 u9 K9 hL hcl hA hG hS h0 hK
      replace hL : L9 10 = false := hL
      have q24 : a9.tmps[24]? = some (.slice none 0 0) := hS 4 24 (by decide) rfl (by show 24 < 50; decide)
      have s24 := Rega.eval_of q24
      have q29 : a9.tmps[29]? = some (.slice (some ⟨α 9, 0, none⟩) 1 1) := hS 9 29 (by decide) rfl (by show 29 < 50; decide)
      have s29 := Rega.eval_of q29
      simp only [Region.wanted, if_true]
      have e0 : rN02R pb PC kd nm L9 α 9 = row (α 9) 199 #[.pointer none, .string nm, .int .u32 4294967295, .int .u32 4294967295, .int .u32 0, .int .u32 0, .int .u32 0, .int .u16 0, .int .u8 kd, .int .u8 0] := rfl
      have hM : ∀ i, i ∈ [9] → act rN02Cnt 1 L9 i := by
        intro i hi
        simp only [List.mem_cons, List.not_mem_nil, or_false] at hi
        subst hi
        exact act_new 9 rfl (hA 9 (by decide))
      have hP : Own w0 u9 [row (α 9) 199 #[.pointer none, .string nm, .int .u32 4294967295, .int .u32 4294967295, .int .u32 0, .int .u32 0, .int .u32 0, .int .u16 0, .int .u8 kd, .int .u8 0]] _ := (hG.pick [9] (by decide) hM).conv (by
        show [rN02R pb PC kd nm L9 α 9] = _
        rw [e0])
      clear e0 hM
      obtain ⟨i9, hi9, z1, z2, z3⟩ := info_parts infoSym
      refine wp_append_full_nil (Operand.tmp 24) (Operand.tmp 29) 119 rfl 199 i9 (.agg symZ) 10 48 Tryd.underlying119 hi9 z1 z2 z3 hP s24 s29 rfl (by decide) (by first | decide | omega | (unfold maxLen; omega)) (by first | decide | omega | (unfold maxLen; omega)) ?_
      intro b0 b1 u1 hQ
      obtain ⟨α', hα'⟩ : ∃ α' : Rega.Atoms, α' = (fun j => if j = 10 then b0 else if j = 1010 then b1 else α j) := ⟨_, rfl⟩
      have f0 : rN02R pb PC kd nm (Rega.ran L9 10) α' 10 = row (α' 10) 199 (full symZ [.pointer none, .string nm, .int .u32 4294967295, .int .u32 4294967295, .int .u32 0, .int .u32 0, .int .u32 0, .int .u16 0, .int .u8 kd, .int .u8 0] (α' 1010)) := rfl
      have f1 : rN02R pb PC kd nm (Rega.ran L9 10) α' 9 = row (α' 9) 199 #[.pointer none, .string nm, .int .u32 4294967295, .int .u32 4294967295, .int .u32 0, .int .u32 0, .int .u32 0, .int .u16 0, .int .u8 kd, .int .u8 0] := rfl
      have hα : ∀ j, j % 1000 ≠ 10 → α' j = α j := fun j hj => by rw [hα']; simp only []; rw [if_neg (by omega), if_neg (by omega)]
      have hb0 : α' 10 = b0 := by rw [hα']; rfl
      have hb1 : α' 1010 = b1 := by rw [hα']; rfl
      have ha9 : α' 9 = α 9 := hα 9 (by decide)
      refine hK _ α' _ hα ?_ (step_call (st9) hL hcl hα [9] [10, 9] (by decide) (by decide) (by decide) (M := _) ?_ hG hQ)
      · show _ = (.slice (some ⟨α' 10, 0, none⟩) 1 (1 + α' 1010) : Value)
        simp only [hb0, hb1]
      · show [rN02R pb PC kd nm (Rega.ran L9 10) α' 10, rN02R pb PC kd nm (Rega.ran L9 10) α' 9] = _
        rw [f0, f1]
        simp only [hb0, hb1, ha9]
        try rfl
    · intro L9 α a9 u9 K9 hL hcl hA hG hS h0 hK
      replace hL : L9 11 = false := hL
      have q20 : a9.tmps[20]? = some (.pointer (some ⟨pb, 0, none⟩)) := hS 0 20 (by decide) rfl (by show 20 < 50; decide)
      have s20 := Rega.eval_of q20
      go_simp
      exact hK _ α _ (fun _ _ => rfl) rfl (step_same (st9) hL hcl rfl rfl hG)
    · intro L9 α a9 u9 K9 hL hcl hA hG hS h0 hK
      replace hL : L9 12 = false := hL
      have q31 : a9.tmps[31]? = some (.pointer (some ⟨pb, 0, none⟩)) := hS 11 31 (by decide) rfl (by show 31 < 50; decide)
      have s31 := Rega.eval_of q31
      go_simp
      exact hK _ α _ (fun _ _ => rfl) rfl (step_same (st9) hL hcl rfl rfl hG)
    · intro L9 α a9 u9 K9 hL hcl hA hG hS h0 hK
      replace hL : L9 13 = false := hL
      have q32 : a9.tmps[32]? = some (.pointer (some ⟨pb, 106, none⟩)) := hS 12 32 (by decide) rfl (by show 32 < 50; decide)
      have s32 := Rega.eval_of q32
      have q30 : a9.tmps[30]? = some (.slice (some ⟨α 10, 0, none⟩) 1 (1 + α 1010)) := hS 10 30 (by decide) rfl (by show 30 < 50; decide)
      have s30 := Rega.eval_of q30
      have e0 : rN02R pb PC kd nm L9 α 999 = row (pb) 176 PC := by
        show rN02T999 pb PC kd nm L9 α = _
        unfold rN02T999
        rw [if_neg (by rw [hL]; decide)]
      have hr := hG.rowAt 999 (act_base 999 rfl) e0
      have c0 : u9.cell? ⟨pb, 106, none⟩ = some (.slice none 0 0) := hr.cell (hk106)
      have y0 : u9.frozen? ⟨pb, 106, none⟩ = false := hr.free (106)
      clear hr
      have E0 := Lib.hid e0
      clear e0
      go_simp
      have e1 : rN02R pb PC kd nm (Rega.ran L9 13) α 999 = row (pb) 176 (PC.setIfInBounds 106 (.slice (some ⟨α 10, 0, none⟩) 1 (1 + α 1010))) := by
        show rN02T999 pb PC kd nm (Rega.ran L9 13) α = _
        unfold rN02T999
        rw [if_pos (show Rega.ran L9 13 13 = true from rfl)]
      exact hK _ α _ (fun _ _ => rfl) rfl (step_sets (st9) hL hcl rfl 999 rfl (act_base 999 rfl) E0.out (106) [.slice (some ⟨α 10, 0, none⟩) 1 (1 + α 1010)] (e1.trans rfl) hG)
  clear st9
  intro α u hG
  have e0 : rN02R pb PC kd nm (fun k => decide (k < 14)) α 999 = row (pb) 176 (PC.setIfInBounds 106 (.slice (some ⟨α 10, 0, none⟩) 1 (1 + α 1010))) := by
    show rN02T999 pb PC kd nm (fun k => decide (k < 14)) α = _
    unfold rN02T999
    rw [if_pos (by decide)]
  have e1 : rN02R pb PC kd nm (fun k => decide (k < 14)) α 9 = row (α 9) 199 #[.pointer none, .string nm, .int .u32 4294967295, .int .u32 4294967295, .int .u32 0, .int .u32 0, .int .u32 0, .int .u16 0, .int .u8 kd, .int .u8 0] := rfl
  have e2 : rN02R pb PC kd nm (fun k => decide (k < 14)) α 10 = row (α 10) 199 (full symZ [.pointer none, .string nm, .int .u32 4294967295, .int .u32 4294967295, .int .u32 0, .int .u32 0, .int .u32 0, .int .u16 0, .int .u8 kd, .int .u8 0] (α 1010)) := rfl
  have hO : Own w0 u [row (pb) 176 (PC.setIfInBounds 106 (.slice (some ⟨α 10, 0, none⟩) 1 (1 + α 1010))), row (α 9) 199 #[.pointer none, .string nm, .int .u32 4294967295, .int .u32 4294967295, .int .u32 0, .int .u32 0, .int .u32 0, .int .u16 0, .int .u8 kd, .int .u8 0], row (α 10) 199 (full symZ [.pointer none, .string nm, .int .u32 4294967295, .int .u32 4294967295, .int .u32 0, .int .u32 0, .int .u32 0, .int .u16 0, .int .u8 kd, .int .u8 0] (α 1010))] X9_4 := (hG.list [999, 9, 10] (by decide) (act_all (by decide))).conv (by
    show [rN02R pb PC kd nm (fun k => decide (k < 14)) α 999, rN02R pb PC kd nm (fun k => decide (k < 14)) α 9, rN02R pb PC kd nm (fun k => decide (k < 14)) α 10] = _
    rw [e0, e1, e2])
  clear hG e0 e1 e2
  generalize hfr : Rega.frameAt _ _ _ _ _ = fr
  have hdf : fr = ⟨#[.pointer (some ⟨pb, 0, none⟩), .int .u8 kd, .string nm, undef, undef, undef, .pointer (some ⟨B1, 0, none⟩), .pointer (some ⟨nd3, 0, none⟩), .pointer (some ⟨pb, 0, none⟩), .pointer (some ⟨pb, 0, none⟩), .pointer (some ⟨pb, 57, none⟩), .pointer (some ⟨pb, 66, none⟩), .int .u32 src, .pointer (some ⟨pb, 0, none⟩), .pointer (some ⟨pb, 0, none⟩), .pointer (some ⟨pb, 106, none⟩), .slice none 0 0, .int .i64 0, .int .u32 0, .agg #[.int .u32 src, .int .u32 0], .pointer (some ⟨pb, 0, none⟩), .pointer (some ⟨pb, 0, none⟩), .pointer (some ⟨pb, 0, none⟩), .pointer (some ⟨pb, 106, none⟩), .slice none 0 0, .int .u8 kd, .string nm, .agg #[.int .u32 4294967295, .int .u32 4294967295], .agg #[.pointer none, .string nm, .int .u32 4294967295, .int .u32 4294967295, .int .u32 0, .int .u32 0, .int .u32 0, .int .u16 0, .int .u8 kd, .int .u8 0], .slice (some ⟨α 9, 0, none⟩) 1 1, .slice (some ⟨α 10, 0, none⟩) 1 (1 + α 1010), .pointer (some ⟨pb, 0, none⟩), .pointer (some ⟨pb, 106, none⟩), undef, undef, undef, undef, undef, undef, undef, undef, undef, undef, undef, undef, undef, undef, undef, undef, undef], []⟩ := by rw [← hfr]; kernel_rfl
  clear hfr
  subst hdf
  generalize α 9 = nd5 at hO ⊢
  generalize α 10 = nd6 at hO ⊢
  generalize α 1010 = nd7 at hO ⊢
  clear α
  subst hX9_4
  have hN : Own w0 u [row (pb) 176 (PC.setIfInBounds 106 (.slice (some ⟨nd6, 0, none⟩) 1 (1 + nd7))), row (nd5) 199 #[.pointer none, .string nm, .int .u32 4294967295, .int .u32 4294967295, .int .u32 0, .int .u32 0, .int .u32 0, .int .u16 0, .int .u8 kd, .int .u8 0], row (nd6) 199 (full symZ [.pointer none, .string nm, .int .u32 4294967295, .int .u32 4294967295, .int .u32 0, .int .u32 0, .int .u32 0, .int .u16 0, .int .u8 kd, .int .u8 0] (nd7)), row (B1) 49 #[.int .u32 0, .int .u32 0], row (nd3) 49 #[.int .u32 src, .int .u32 0]] X := hO.back HL.out HX.out [0, 2] (by decide) (by decide)
  clear hO HL HX
  have hO := hN
  clear hN
  have c9_0_32 : u.cell? ⟨pb, 32, none⟩ = some (.bool false) := hO.cell 0 rfl (32) ((get_other hk32 (by omega) _))
  have c9_0_66 : u.cell? ⟨pb, 66, none⟩ = some (.int .u32 src) := hO.cell 0 rfl (66) ((get_other hk66 (by omega) _))
  have c9_0_106 : u.cell? ⟨pb, 106, none⟩ = some (.slice (some ⟨nd6, 0, none⟩) 1 (1 + nd7)) := hO.cell 0 rfl (106) ((get_set hk106 _))
  have lt9_0 : pb < u.heap.size := hO.lt 0 rfl
  have y9_0 : ∀ o, u.frozen? ⟨pb, o, none⟩ = false := hO.free 0 rfl
  obtain ⟨c9_1_0, c9_1_1, c9_1_2, c9_1_3, c9_1_4, c9_1_5, c9_1_6, c9_1_7, c9_1_8, c9_1_9, lt9_1, y9_1, -⟩ := hO.k10 1 rfl
  have c9_2_0 : u.cell? ⟨nd6, 0, none⟩ = some (.pointer none) := hO.cell 2 rfl (0) ((full_at rfl))
  have c9_2_1 : u.cell? ⟨nd6, 1, none⟩ = some (.string nm) := hO.cell 2 rfl (1) ((full_at rfl))
  have c9_2_2 : u.cell? ⟨nd6, 2, none⟩ = some (.int .u32 4294967295) := hO.cell 2 rfl (2) ((full_at rfl))
  have c9_2_3 : u.cell? ⟨nd6, 3, none⟩ = some (.int .u32 4294967295) := hO.cell 2 rfl (3) ((full_at rfl))
  have c9_2_4 : u.cell? ⟨nd6, 4, none⟩ = some (.int .u32 0) := hO.cell 2 rfl (4) ((full_at rfl))
  have c9_2_5 : u.cell? ⟨nd6, 5, none⟩ = some (.int .u32 0) := hO.cell 2 rfl (5) ((full_at rfl))
  have c9_2_6 : u.cell? ⟨nd6, 6, none⟩ = some (.int .u32 0) := hO.cell 2 rfl (6) ((full_at rfl))
  have c9_2_7 : u.cell? ⟨nd6, 7, none⟩ = some (.int .u16 0) := hO.cell 2 rfl (7) ((full_at rfl))
  have c9_2_8 : u.cell? ⟨nd6, 8, none⟩ = some (.int .u8 kd) := hO.cell 2 rfl (8) ((full_at rfl))
  have c9_2_9 : u.cell? ⟨nd6, 9, none⟩ = some (.int .u8 0) := hO.cell 2 rfl (9) ((full_at rfl))
  have lt9_2 : nd6 < u.heap.size := hO.lt 2 rfl
  have y9_2 : ∀ o, u.frozen? ⟨nd6, o, none⟩ = false := hO.free 2 rfl
  obtain ⟨c9_3_0, c9_3_1, lt9_3, y9_3, -⟩ := hO.k2 3 rfl
  obtain ⟨c9_4_0, c9_4_1, lt9_4, y9_4, -⟩ := hO.k2 4 rfl
  have HO := Lib.hid hO
  clear hO
  go_wp2_with (first | (with_reducible refine Own.stay (fn := Tryd.f17) ?_) | fail)
  try with_reducible refine Own.Stay.mk ?_
  have hO := HO.out
  clear HO c9_0_32 c9_0_66 c9_0_106 lt9_0 y9_0 c9_1_0 c9_1_1 c9_1_2 c9_1_3 c9_1_4 c9_1_5 c9_1_6 c9_1_7 c9_1_8 c9_1_9 lt9_1 y9_1 c9_2_0 c9_2_1 c9_2_2 c9_2_3 c9_2_4 c9_2_5 c9_2_6 c9_2_7 c9_2_8 c9_2_9 lt9_2 y9_2 c9_3_0 c9_3_1 lt9_3 y9_3 c9_4_0 c9_4_1 lt9_4 y9_4
  generalize hW : World.setCell _ _ _ = W9
  have hN : Own w0 W9 [row (pb) 176 (PC.setIfInBounds 106 (.slice (some ⟨nd6, 0, none⟩) 1 (1 + nd7))), row (nd5) 199 #[.pointer none, .string nm, .int .u32 4294967295, .int .u32 4294967295, .int .u32 0, .int .u32 0, .int .u32 0, .int .u16 0, .int .u8 kd, .int .u8 0], row (nd6) 199 (full symZ [.pointer none, .string nm, .int .u32 4294967295, .int .u32 4294967295, .int .u32 0, .int .u32 0, .int .u32 0, .int .u16 0, .int .u8 kd, .int .u8 0] (nd7)), row (B1) 49 #[.int .u32 src, .int .u32 0], row (nd3) 49 #[.int .u32 src, .int .u32 0]] X := by
    rw [← hW]
    exact ((hO).set 3 rfl 0 _).set 3 rfl 1 _
  clear hW hO
  have hO := hN
  clear hN
  have hN : Own w0 W9 [row (pb) 176 (PC.setIfInBounds 106 (.slice (some ⟨nd6, 0, none⟩) 1 (1 + nd7))), row (nd5) 199 #[.pointer none, .string nm, .int .u32 4294967295, .int .u32 4294967295, .int .u32 0, .int .u32 0, .int .u32 0, .int .u16 0, .int .u8 kd, .int .u8 0], row (nd6) 199 (full symZ (symL [syk nm kd]) (nd7)), row (B1) 49 #[.int .u32 src, .int .u32 0], row (nd3) 49 #[.int .u32 src, .int .u32 0]] X := hO.conv (by rw [symL_one]; rfl)
  clear hO
  have hO := hN
  clear hN
  have z9_3_0 : W9.cell? ⟨B1, 0, none⟩ = some (.int .u32 src) := hO.cell 3 rfl 0 rfl
  have z9_3_1 : W9.cell? ⟨B1, 1, none⟩ = some (.int .u32 0) := hO.cell 3 rfl 1 rfl
  refine bodyPost_ret (v := .agg #[.int .u32 src, .int .u32 0]) ?_ rfl ⟨nd6, nd7, rfl, hO.sub [0, 2] (by decide)⟩
  simp [results, Tryd.results17, go_sem, z9_3_0, z9_3_1]
theorem builtCtx (nm : ByteArray) (kd : Int) (cb : Nat) : Base.builtOf Tryd.prog 191 [(0, .string nm), (1, .int .u8 kd), (2, .pointer (some ⟨cb, 0, none⟩)), (7, .agg #[.int .u32 4294967295, .int .u32 4294967295]), (19, .agg #[.int .u32 4294967295, .int .u32 4294967295]), (28, .agg #[.int .u32 4294967295, .int .u32 4294967295]), (29, .agg #[.int .u32 4294967295, .int .u32 4294967295])] = #[.string nm, .int .u8 kd, .pointer (some ⟨cb, 0, none⟩), .int .i32 0, .nilIface, .int .i32 0, .int .i32 0, .int .u32 0, .int .u32 0, .pointer none, .int .u32 4294967295, .int .u32 4294967295, .slice none 0 0, .slice none 0 0, .slice none 0 0, .slice none 0 0, .int .i64 0, .nilIface, .int .i32 0, .slice none 0 0, .slice none 0 0, .slice none 0 0, .slice none 0 0, .slice none 0 0, .int .u32 4294967295, .int .u32 4294967295, .nilIface, .int .i32 0, .map none, .bool false, .bool false, .slice none 0 0, .slice none 0 0, .slice none 0 0, .slice none 0 0, .int .u32 4294967295, .int .u32 4294967295, .int .u32 4294967295, .int .u32 4294967295, .nilFunc, .nilFunc, .bool false] := by kernel_rfl

def newCtxNPost (pb : Nat) (PC : Array Value) (kd : Int) (w0 : World) (X : Nat → Obj → Prop) (e : Ending) (w' : World) : Prop :=
  ∃ cx : Nat, ∃ cc : Nat, ∃ sb : Nat, ∃ c : Nat, ∃ nb : Nat, e = .returned (.pointer (some ⟨cx, 0, none⟩)) ∧ Own w0 w' [row (pb) 176 (PC.setIfInBounds 106 (.slice (some ⟨sb, 0, none⟩) 1 (1 + c))), row (sb) 199 (full symZ (symL ([sy ⟨#[67]⟩ 0])) c), row (cx) 191 #[.string ⟨#[67]⟩, .int .u8 kd, .pointer (some ⟨cc, 0, none⟩), .int .i32 0, .nilIface, .int .i32 0, .int .i32 0, .int .u32 0, .int .u32 0, .pointer none, .int .u32 4294967295, .int .u32 4294967295, .slice none 0 0, .slice none 0 0, .slice none 0 0, .slice none 0 0, .int .i64 0, .nilIface, .int .i32 0, .slice none 0 0, .slice none 0 0, .slice none 0 0, .slice none 0 0, .slice none 0 0, .int .u32 4294967295, .int .u32 4294967295, .nilIface, .int .i32 0, .map none, .bool false, .bool false, .slice none 0 0, .slice none 0 0, .slice none 0 0, .slice none 0 0, .int .u32 4294967295, .int .u32 4294967295, .int .u32 4294967295, .int .u32 4294967295, .nilFunc, .nilFunc, .bool false], row (cc) 182 #[.slice none 0 0, .pointer (some ⟨nb, 0, none⟩), .nilIface, .int .i32 0, .slice none 0 0, .int .i32 0, .int .i32 0, .int .i32 0, .int .i32 0, .bool false, .bool false], row (nb) 51 #[.int .i32 0, .int .u32 0, .int .u32 0]] X
set_option maxRecDepth 100000 in
set_option maxHeartbeats 1000000 in
theorem newCtxN (pb : Nat) (PC : Array Value) (kd : Int) (w0 w : World) (X : Nat → Obj → Prop) (hO : Own w0 w [row (pb) 176 PC] X) (hk66 : PC[66]? = some (.int .u32 0)) (hk32 : PC[32]? = some (.bool false)) (hk106 : PC[106]? = some (.slice none 0 0)) (hkw : IntKind.u8.wrap kd = kd) (hk3 : (kd == 3) = false) (hg0 : w0.cell? ⟨0, 0, none⟩ = some (.int .u32 4294967295)) (hg1 : w0.cell? ⟨0, 1, none⟩ = some (.int .u32 4294967295)) :
    Calls Tryd.prog 8 #[.pointer (some ⟨pb, 0, none⟩), .int .i64 kd, .string ⟨#[67]⟩, .string ⟨#[107, 101, 101, 112]⟩, .bool false] w (newCtxNPost pb PC kd w0 X) := by
  go_enter Tryd.func8, Tryd.ntmps8
  obtain ⟨ix9, hix9, hax9, hjx9⟩ := hO.ix
  have ix9_0 : ix9 pb = 0 := hjx9 0 _ _ rfl
  clear hjx9
  have c9_0_32 : w.cell? ⟨pb, 32, none⟩ = some (.bool false) := hO.cell 0 rfl (32) (hk32)
  have c9_0_66 : w.cell? ⟨pb, 66, none⟩ = some (.int .u32 0) := hO.cell 0 rfl (66) (hk66)
  have c9_0_106 : w.cell? ⟨pb, 106, none⟩ = some (.slice none 0 0) := hO.cell 0 rfl (106) (hk106)
  have lt9_0 : pb < w.heap.size := hO.lt 0 rfl
  have y9_0 : ∀ o, w.frozen? ⟨pb, o, none⟩ = false := hO.free 0 rfl
  have HO := Lib.hid hO
  clear hO
  have gw9_0_0 : w.cell? ⟨0, 0, none⟩ = some (.int .u32 4294967295) := Base.cell_below HO.out.below (Base.block_of_cell hg0) hg0
  have gw9_0_1 : w.cell? ⟨0, 1, none⟩ = some (.int .u32 4294967295) := Base.cell_below HO.out.below (Base.block_of_cell hg1) hg1
  have gl9_0 : 0 < w.heap.size := Base.block_of_cell gw9_0_0
  go_wp2_with (first | (with_reducible refine Own.stay (fn := Tryd.f8) ?_) | ((with_reducible refine Base.wpList_buildL 191 (l := [(0, .tmp 16), (1, .tmp 18), (2, .tmp 19), (7, .tmp 20), (19, .tmp 21), (28, .tmp 22), (29, .tmp 23)]) ?_ ?_); kernel_rfl; simp [Act.put, Act.eval, builtCtx]))
  try with_reducible refine Own.Stay.mk ?_
  have hO := HO.out
  clear HO hix9 hax9 ix9_0 ix9 gw9_0_0 gw9_0_1 gl9_0 c9_0_32 c9_0_66 c9_0_106 lt9_0 y9_0
  generalize hW : World.alloc _ _ = W2
  have hN : Own w0 W2 [row (w.heap.size + 1) 191 #[.string ⟨#[107, 101, 101, 112]⟩, .int .u8 kd, .pointer (some ⟨w.heap.size, 0, none⟩), .int .i32 0, .nilIface, .int .i32 0, .int .i32 0, .int .u32 0, .int .u32 0, .pointer none, .int .u32 4294967295, .int .u32 4294967295, .slice none 0 0, .slice none 0 0, .slice none 0 0, .slice none 0 0, .int .i64 0, .nilIface, .int .i32 0, .slice none 0 0, .slice none 0 0, .slice none 0 0, .slice none 0 0, .slice none 0 0, .int .u32 4294967295, .int .u32 4294967295, .nilIface, .int .i32 0, .map none, .bool false, .bool false, .slice none 0 0, .slice none 0 0, .slice none 0 0, .slice none 0 0, .int .u32 4294967295, .int .u32 4294967295, .int .u32 4294967295, .int .u32 4294967295, .nilFunc, .nilFunc, .bool false], row (w.heap.size) 182 #[.slice none 0 0, .pointer none, .nilIface, .int .i32 0, .slice none 0 0, .int .i32 0, .int .i32 0, .int .i32 0, .int .i32 0, .bool false, .bool false], row (pb) 176 PC] X := by
    rw [← hW]
    exact ((hO).alloc' _ (w.heap.size) (by simp)).alloc' _ (w.heap.size + 1) (by simp)
  clear hW hO
  generalize w.heap.size + 1 = B1_1 at hN ⊢
  generalize w.heap.size = B1 at hN ⊢
  have hO := hN
  clear hN
  have hL := hO.apart
  have hX := hO.apartX
  have HL := Lib.hid hL
  have HX := Lib.hid hX
  clear hL hX
  have hP9 := hO.pick [2] (by decide)
  have T9 := newSym0 pb PC 0 27 ⟨#[67]⟩ _ _ _ hP9 hk66 hk32 hk106 hg0 hg1
  refine Calls.mono T9 ?_
  clear hP9 T9
  rintro e u3 ⟨nd4, nd5, rfl, hQ⟩
  have hN : Own w0 u3 [row (pb) 176 (PC.setIfInBounds 106 (.slice (some ⟨nd4, 0, none⟩) 1 (1 + nd5))), row (nd4) 199 (full symZ (symL ([syk ⟨#[67]⟩ 27])) nd5), row (B1_1) 191 #[.string ⟨#[107, 101, 101, 112]⟩, .int .u8 kd, .pointer (some ⟨B1, 0, none⟩), .int .i32 0, .nilIface, .int .i32 0, .int .i32 0, .int .u32 0, .int .u32 0, .pointer none, .int .u32 4294967295, .int .u32 4294967295, .slice none 0 0, .slice none 0 0, .slice none 0 0, .slice none 0 0, .int .i64 0, .nilIface, .int .i32 0, .slice none 0 0, .slice none 0 0, .slice none 0 0, .slice none 0 0, .slice none 0 0, .int .u32 4294967295, .int .u32 4294967295, .nilIface, .int .i32 0, .map none, .bool false, .bool false, .slice none 0 0, .slice none 0 0, .slice none 0 0, .slice none 0 0, .int .u32 4294967295, .int .u32 4294967295, .int .u32 4294967295, .int .u32 4294967295, .nilFunc, .nilFunc, .bool false], row (B1) 182 #[.slice none 0 0, .pointer none, .nilIface, .int .i32 0, .slice none 0 0, .int .i32 0, .int .i32 0, .int .i32 0, .int .i32 0, .bool false, .bool false]] X := hQ.back HL.out HX.out [0, 1] (by decide) (by decide)
  clear hQ HL HX hO
  have hO := hN
  clear hN
  obtain ⟨ix9, hix9, hax9, hjx9⟩ := hO.ix
  have ix9_0 : ix9 pb = 0 := hjx9 0 _ _ rfl
  have ix9_1 : ix9 nd4 = 1 := hjx9 1 _ _ rfl
  have ix9_2 : ix9 B1_1 = 2 := hjx9 2 _ _ rfl
  have ix9_3 : ix9 B1 = 3 := hjx9 3 _ _ rfl
  clear hjx9
  have c9_0_32 : u3.cell? ⟨pb, 32, none⟩ = some (.bool false) := hO.cell 0 rfl (32) ((get_other hk32 (by omega) _))
  have c9_0_66 : u3.cell? ⟨pb, 66, none⟩ = some (.int .u32 0) := hO.cell 0 rfl (66) ((get_other hk66 (by omega) _))
  have c9_0_106 : u3.cell? ⟨pb, 106, none⟩ = some (.slice (some ⟨nd4, 0, none⟩) 1 (1 + nd5)) := hO.cell 0 rfl (106) ((get_set hk106 _))
  have lt9_0 : pb < u3.heap.size := hO.lt 0 rfl
  have y9_0 : ∀ o, u3.frozen? ⟨pb, o, none⟩ = false := hO.free 0 rfl
  have c9_2_0 : u3.cell? ⟨B1_1, 0, none⟩ = some (.string ⟨#[107, 101, 101, 112]⟩) := hO.cell 2 rfl (0) rfl
  have c9_2_6 : u3.cell? ⟨B1_1, 6, none⟩ = some (.int .i32 0) := hO.cell 2 rfl (6) rfl
  have c9_2_7 : u3.cell? ⟨B1_1, 7, none⟩ = some (.int .u32 0) := hO.cell 2 rfl (7) rfl
  have c9_2_8 : u3.cell? ⟨B1_1, 8, none⟩ = some (.int .u32 0) := hO.cell 2 rfl (8) rfl
  have lt9_2 : B1_1 < u3.heap.size := hO.lt 2 rfl
  have y9_2 : ∀ o, u3.frozen? ⟨B1_1, o, none⟩ = false := hO.free 2 rfl
  have c9_3_1 : u3.cell? ⟨B1, 1, none⟩ = some (.pointer none) := hO.cell 3 rfl (1) rfl
  have lt9_3 : B1 < u3.heap.size := hO.lt 3 rfl
  have y9_3 : ∀ o, u3.frozen? ⟨B1, o, none⟩ = false := hO.free 3 rfl
  have HO := Lib.hid hO
  clear hO
  have gw9_0_0 : u3.cell? ⟨0, 0, none⟩ = some (.int .u32 4294967295) := Base.cell_below HO.out.below (Base.block_of_cell hg0) hg0
  have gw9_0_1 : u3.cell? ⟨0, 1, none⟩ = some (.int .u32 4294967295) := Base.cell_below HO.out.below (Base.block_of_cell hg1) hg1
  have gl9_0 : 0 < u3.heap.size := Base.block_of_cell gw9_0_0
  go_wp2_with (first | (with_reducible refine Own.stay (fn := Tryd.f8) ?_) | ((with_reducible refine Base.wpList_buildL 191 (l := [(0, .tmp 16), (1, .tmp 18), (2, .tmp 19), (7, .tmp 20), (19, .tmp 21), (28, .tmp 22), (29, .tmp 23)]) ?_ ?_); kernel_rfl; simp [Act.put, Act.eval, builtCtx]))
  try with_reducible refine Own.Stay.mk ?_
  have hO := HO.out
  clear HO hix9 hax9 ix9_0 ix9_1 ix9_2 ix9_3 ix9 gw9_0_0 gw9_0_1 gl9_0 c9_0_32 c9_0_66 c9_0_106 lt9_0 y9_0 c9_2_0 c9_2_6 c9_2_7 c9_2_8 lt9_2 y9_2 c9_3_1 lt9_3 y9_3
  generalize hW : World.alloc _ _ = W7
  have hN : Own w0 W7 [row (u3.heap.size) 51 #[.int .i32 0, .int .u32 0, .int .u32 0], row (pb) 176 (PC.setIfInBounds 106 (.slice (some ⟨nd4, 0, none⟩) 1 (1 + nd5))), row (nd4) 199 (full symZ (symL ([syk ⟨#[67]⟩ 27])) nd5), row (B1_1) 191 #[.string ⟨#[67]⟩, .int .u8 kd, .pointer (some ⟨B1, 0, none⟩), .int .i32 0, .nilIface, .int .i32 0, .int .i32 0, .int .u32 0, .int .u32 0, .pointer none, .int .u32 4294967295, .int .u32 4294967295, .slice none 0 0, .slice none 0 0, .slice none 0 0, .slice none 0 0, .int .i64 0, .nilIface, .int .i32 0, .slice none 0 0, .slice none 0 0, .slice none 0 0, .slice none 0 0, .slice none 0 0, .int .u32 4294967295, .int .u32 4294967295, .nilIface, .int .i32 0, .map none, .bool false, .bool false, .slice none 0 0, .slice none 0 0, .slice none 0 0, .slice none 0 0, .int .u32 4294967295, .int .u32 4294967295, .int .u32 4294967295, .int .u32 4294967295, .nilFunc, .nilFunc, .bool false], row (B1) 182 #[.slice none 0 0, .pointer (some ⟨u3.heap.size, 0, none⟩), .nilIface, .int .i32 0, .slice none 0 0, .int .i32 0, .int .i32 0, .int .i32 0, .int .i32 0, .bool false, .bool false]] X := by
    rw [← hW]
    exact (((hO).set 3 rfl 1 _).set 2 rfl 0 _).alloc' _ (u3.heap.size) (by simp)
  clear hW hO
  generalize u3.heap.size = B6 at hN ⊢
  have hO := hN
  clear hN
  refine bodyPost_ret (v := .pointer (some ⟨B1_1, 0, none⟩)) ?_ rfl ⟨B1_1, B1, nd4, nd5, B6, rfl, hO.sub [1, 2, 3, 4, 0] (by decide)⟩
  simp [results, Tryd.results8, go_sem]
def newCtxN3Post (pb : Nat) (PC : Array Value) (w0 : World) (X : Nat → Obj → Prop) (e : Ending) (w' : World) : Prop :=
  ∃ cx : Nat, ∃ cc : Nat, ∃ sb : Nat, ∃ c : Nat, ∃ nb : Nat, ∃ sbx : Nat, ∃ cx2 : Nat, e = .returned (.pointer (some ⟨cx, 0, none⟩)) ∧ Own w0 w' [row (pb) 176 ((PC.setIfInBounds 106 (.slice (some ⟨sbx, 0, none⟩) 1 (1 + cx2))).setIfInBounds 106 (.slice (some ⟨sb, 0, none⟩) 2 (2 + c))), row (sb) 199 (full symZ (symL ([sy ⟨#[67]⟩ 0, sy ⟨#[100, 101, 102, 97, 117, 108, 116]⟩ 0])) c), row (cx) 191 #[.string ⟨#[67]⟩, .int .u8 3, .pointer (some ⟨cc, 0, none⟩), .int .i32 0, .nilIface, .int .i32 0, .int .i32 0, .int .u32 0, .int .u32 1, .pointer none, .int .u32 4294967295, .int .u32 4294967295, .slice none 0 0, .slice none 0 0, .slice none 0 0, .slice none 0 0, .int .i64 0, .nilIface, .int .i32 0, .slice none 0 0, .slice none 0 0, .slice none 0 0, .slice none 0 0, .slice none 0 0, .int .u32 4294967295, .int .u32 4294967295, .nilIface, .int .i32 0, .map none, .bool false, .bool false, .slice none 0 0, .slice none 0 0, .slice none 0 0, .slice none 0 0, .int .u32 4294967295, .int .u32 4294967295, .int .u32 4294967295, .int .u32 4294967295, .nilFunc, .nilFunc, .bool false], row (cc) 182 #[.slice none 0 0, .pointer (some ⟨nb, 0, none⟩), .nilIface, .int .i32 0, .slice none 0 0, .int .i32 0, .int .i32 0, .int .i32 0, .int .i32 0, .bool false, .bool false], row (nb) 51 #[.int .i32 0, .int .u32 0, .int .u32 0]] X
set_option maxRecDepth 100000 in
set_option maxHeartbeats 1000000 in
theorem newCtxN3 (pb : Nat) (PC : Array Value) (w0 w : World) (X : Nat → Obj → Prop) (hO : Own w0 w [row (pb) 176 PC] X) (hk66 : PC[66]? = some (.int .u32 0)) (hk32 : PC[32]? = some (.bool false)) (hk106 : PC[106]? = some (.slice none 0 0)) (hg0 : w0.cell? ⟨0, 0, none⟩ = some (.int .u32 4294967295)) (hg1 : w0.cell? ⟨0, 1, none⟩ = some (.int .u32 4294967295)) :
    Calls Tryd.prog 8 #[.pointer (some ⟨pb, 0, none⟩), .int .i64 3, .string ⟨#[67]⟩, .string ⟨#[107, 101, 101, 112]⟩, .bool false] w (newCtxN3Post pb PC w0 X) := by
  go_enter Tryd.func8, Tryd.ntmps8
  obtain ⟨ix9, hix9, hax9, hjx9⟩ := hO.ix
  have ix9_0 : ix9 pb = 0 := hjx9 0 _ _ rfl
  clear hjx9
  have c9_0_32 : w.cell? ⟨pb, 32, none⟩ = some (.bool false) := hO.cell 0 rfl (32) (hk32)
  have c9_0_66 : w.cell? ⟨pb, 66, none⟩ = some (.int .u32 0) := hO.cell 0 rfl (66) (hk66)
  have c9_0_106 : w.cell? ⟨pb, 106, none⟩ = some (.slice none 0 0) := hO.cell 0 rfl (106) (hk106)
  have lt9_0 : pb < w.heap.size := hO.lt 0 rfl
  have y9_0 : ∀ o, w.frozen? ⟨pb, o, none⟩ = false := hO.free 0 rfl
  have HO := Lib.hid hO
  clear hO
  have gw9_0_0 : w.cell? ⟨0, 0, none⟩ = some (.int .u32 4294967295) := Base.cell_below HO.out.below (Base.block_of_cell hg0) hg0
  have gw9_0_1 : w.cell? ⟨0, 1, none⟩ = some (.int .u32 4294967295) := Base.cell_below HO.out.below (Base.block_of_cell hg1) hg1
  have gl9_0 : 0 < w.heap.size := Base.block_of_cell gw9_0_0
  go_wp2_with (first | (with_reducible refine Own.stay (fn := Tryd.f8) ?_) | ((with_reducible refine Base.wpList_buildL 191 (l := [(0, .tmp 16), (1, .tmp 18), (2, .tmp 19), (7, .tmp 20), (19, .tmp 21), (28, .tmp 22), (29, .tmp 23)]) ?_ ?_); kernel_rfl; simp [Act.put, Act.eval, builtCtx]))
  try with_reducible refine Own.Stay.mk ?_
  have hO := HO.out
  clear HO hix9 hax9 ix9_0 ix9 gw9_0_0 gw9_0_1 gl9_0 c9_0_32 c9_0_66 c9_0_106 lt9_0 y9_0
  generalize hW : World.alloc _ _ = W2
  have hN : Own w0 W2 [row (w.heap.size + 1) 191 #[.string ⟨#[107, 101, 101, 112]⟩, .int .u8 3, .pointer (some ⟨w.heap.size, 0, none⟩), .int .i32 0, .nilIface, .int .i32 0, .int .i32 0, .int .u32 0, .int .u32 0, .pointer none, .int .u32 4294967295, .int .u32 4294967295, .slice none 0 0, .slice none 0 0, .slice none 0 0, .slice none 0 0, .int .i64 0, .nilIface, .int .i32 0, .slice none 0 0, .slice none 0 0, .slice none 0 0, .slice none 0 0, .slice none 0 0, .int .u32 4294967295, .int .u32 4294967295, .nilIface, .int .i32 0, .map none, .bool false, .bool false, .slice none 0 0, .slice none 0 0, .slice none 0 0, .slice none 0 0, .int .u32 4294967295, .int .u32 4294967295, .int .u32 4294967295, .int .u32 4294967295, .nilFunc, .nilFunc, .bool false], row (w.heap.size) 182 #[.slice none 0 0, .pointer none, .nilIface, .int .i32 0, .slice none 0 0, .int .i32 0, .int .i32 0, .int .i32 0, .int .i32 0, .bool false, .bool false], row (pb) 176 PC] X := by
    rw [← hW]
    exact ((hO).alloc' _ (w.heap.size) (by simp)).alloc' _ (w.heap.size + 1) (by simp)
  clear hW hO
  generalize w.heap.size + 1 = B1_1 at hN ⊢
  generalize w.heap.size = B1 at hN ⊢
  have hO := hN
  clear hN
  have hL := hO.apart
  have hX := hO.apartX
  have HL := Lib.hid hL
  have HX := Lib.hid hX
  clear hL hX
  have hP9 := hO.pick [2] (by decide)
  have T9 := newSym0 pb PC 0 27 ⟨#[67]⟩ _ _ _ hP9 hk66 hk32 hk106 hg0 hg1
  refine Calls.mono T9 ?_
  clear hP9 T9
  rintro e u3 ⟨nd4, nd5, rfl, hQ⟩
  have hN : Own w0 u3 [row (pb) 176 (PC.setIfInBounds 106 (.slice (some ⟨nd4, 0, none⟩) 1 (1 + nd5))), row (nd4) 199 (full symZ (symL ([syk ⟨#[67]⟩ 27])) nd5), row (B1_1) 191 #[.string ⟨#[107, 101, 101, 112]⟩, .int .u8 3, .pointer (some ⟨B1, 0, none⟩), .int .i32 0, .nilIface, .int .i32 0, .int .i32 0, .int .u32 0, .int .u32 0, .pointer none, .int .u32 4294967295, .int .u32 4294967295, .slice none 0 0, .slice none 0 0, .slice none 0 0, .slice none 0 0, .int .i64 0, .nilIface, .int .i32 0, .slice none 0 0, .slice none 0 0, .slice none 0 0, .slice none 0 0, .slice none 0 0, .int .u32 4294967295, .int .u32 4294967295, .nilIface, .int .i32 0, .map none, .bool false, .bool false, .slice none 0 0, .slice none 0 0, .slice none 0 0, .slice none 0 0, .int .u32 4294967295, .int .u32 4294967295, .int .u32 4294967295, .int .u32 4294967295, .nilFunc, .nilFunc, .bool false], row (B1) 182 #[.slice none 0 0, .pointer none, .nilIface, .int .i32 0, .slice none 0 0, .int .i32 0, .int .i32 0, .int .i32 0, .int .i32 0, .bool false, .bool false]] X := hQ.back HL.out HX.out [0, 1] (by decide) (by decide)
  clear hQ HL HX hO
  have hO := hN
  clear hN
  obtain ⟨ix9, hix9, hax9, hjx9⟩ := hO.ix
  have ix9_0 : ix9 pb = 0 := hjx9 0 _ _ rfl
  have ix9_1 : ix9 nd4 = 1 := hjx9 1 _ _ rfl
  have ix9_2 : ix9 B1_1 = 2 := hjx9 2 _ _ rfl
  have ix9_3 : ix9 B1 = 3 := hjx9 3 _ _ rfl
  clear hjx9
  have c9_0_32 : u3.cell? ⟨pb, 32, none⟩ = some (.bool false) := hO.cell 0 rfl (32) ((get_other hk32 (by omega) _))
  have c9_0_66 : u3.cell? ⟨pb, 66, none⟩ = some (.int .u32 0) := hO.cell 0 rfl (66) ((get_other hk66 (by omega) _))
  have c9_0_106 : u3.cell? ⟨pb, 106, none⟩ = some (.slice (some ⟨nd4, 0, none⟩) 1 (1 + nd5)) := hO.cell 0 rfl (106) ((get_set hk106 _))
  have lt9_0 : pb < u3.heap.size := hO.lt 0 rfl
  have y9_0 : ∀ o, u3.frozen? ⟨pb, o, none⟩ = false := hO.free 0 rfl
  have c9_2_0 : u3.cell? ⟨B1_1, 0, none⟩ = some (.string ⟨#[107, 101, 101, 112]⟩) := hO.cell 2 rfl (0) rfl
  have c9_2_6 : u3.cell? ⟨B1_1, 6, none⟩ = some (.int .i32 0) := hO.cell 2 rfl (6) rfl
  have c9_2_7 : u3.cell? ⟨B1_1, 7, none⟩ = some (.int .u32 0) := hO.cell 2 rfl (7) rfl
  have c9_2_8 : u3.cell? ⟨B1_1, 8, none⟩ = some (.int .u32 0) := hO.cell 2 rfl (8) rfl
  have lt9_2 : B1_1 < u3.heap.size := hO.lt 2 rfl
  have y9_2 : ∀ o, u3.frozen? ⟨B1_1, o, none⟩ = false := hO.free 2 rfl
  have c9_3_1 : u3.cell? ⟨B1, 1, none⟩ = some (.pointer none) := hO.cell 3 rfl (1) rfl
  have lt9_3 : B1 < u3.heap.size := hO.lt 3 rfl
  have y9_3 : ∀ o, u3.frozen? ⟨B1, o, none⟩ = false := hO.free 3 rfl
  have HO := Lib.hid hO
  clear hO
  have gw9_0_0 : u3.cell? ⟨0, 0, none⟩ = some (.int .u32 4294967295) := Base.cell_below HO.out.below (Base.block_of_cell hg0) hg0
  have gw9_0_1 : u3.cell? ⟨0, 1, none⟩ = some (.int .u32 4294967295) := Base.cell_below HO.out.below (Base.block_of_cell hg1) hg1
  have gl9_0 : 0 < u3.heap.size := Base.block_of_cell gw9_0_0
  go_wp2_with (first | (with_reducible refine Own.stay (fn := Tryd.f8) ?_) | ((with_reducible refine Base.wpList_buildL 191 (l := [(0, .tmp 16), (1, .tmp 18), (2, .tmp 19), (7, .tmp 20), (19, .tmp 21), (28, .tmp 22), (29, .tmp 23)]) ?_ ?_); kernel_rfl; simp [Act.put, Act.eval, builtCtx]))
  try with_reducible refine Own.Stay.mk ?_
  have hO := HO.out
  clear HO hix9 hax9 ix9_0 ix9_1 ix9_2 ix9_3 ix9 gw9_0_0 gw9_0_1 gl9_0 c9_0_32 c9_0_66 c9_0_106 lt9_0 y9_0 c9_2_0 c9_2_6 c9_2_7 c9_2_8 lt9_2 y9_2 c9_3_1 lt9_3 y9_3
  generalize hW : World.alloc _ _ = W7
  have hN : Own w0 W7 [row (u3.heap.size) 51 #[.int .i32 0, .int .u32 0, .int .u32 0], row (pb) 176 (PC.setIfInBounds 106 (.slice (some ⟨nd4, 0, none⟩) 1 (1 + nd5))), row (nd4) 199 (full symZ (symL ([syk ⟨#[67]⟩ 27])) nd5), row (B1_1) 191 #[.string ⟨#[67]⟩, .int .u8 3, .pointer (some ⟨B1, 0, none⟩), .int .i32 0, .nilIface, .int .i32 0, .int .i32 0, .int .u32 0, .int .u32 0, .pointer none, .int .u32 4294967295, .int .u32 4294967295, .slice none 0 0, .slice none 0 0, .slice none 0 0, .slice none 0 0, .int .i64 0, .nilIface, .int .i32 0, .slice none 0 0, .slice none 0 0, .slice none 0 0, .slice none 0 0, .slice none 0 0, .int .u32 4294967295, .int .u32 4294967295, .nilIface, .int .i32 0, .map none, .bool false, .bool false, .slice none 0 0, .slice none 0 0, .slice none 0 0, .slice none 0 0, .int .u32 4294967295, .int .u32 4294967295, .int .u32 4294967295, .int .u32 4294967295, .nilFunc, .nilFunc, .bool false], row (B1) 182 #[.slice none 0 0, .pointer (some ⟨u3.heap.size, 0, none⟩), .nilIface, .int .i32 0, .slice none 0 0, .int .i32 0, .int .i32 0, .int .i32 0, .int .i32 0, .bool false, .bool false]] X := by
    rw [← hW]
    exact (((hO).set 3 rfl 1 _).set 2 rfl 0 _).alloc' _ (u3.heap.size) (by simp)
  clear hW hO
  generalize u3.heap.size = B6 at hN ⊢
  have hO := hN
  clear hN
  have hL := hO.apart
  have hX := hO.apartX
  have HL := Lib.hid hL
  have HX := Lib.hid hX
  clear hL hX
  have hP9 := hO.pick [1, 2] (by decide)
  have h9_hn : ([syk ⟨#[67]⟩ 27]).length = 1 := rfl
  have h9_hnb : 1 ≤ 2000000 := (by decide)
  have T9 := newSymG pb (PC.setIfInBounds 106 (.slice (some ⟨nd4, 0, none⟩) 1 (1 + nd5))) nd4 nd5 ([syk ⟨#[67]⟩ 27]) 1 0 27 ⟨#[100, 101, 102, 97, 117, 108, 116]⟩ _ _ _ hP9 (get_other hk66 (by omega) _) (get_other hk32 (by omega) _) (get_set hk106 _) h9_hn h9_hnb hg0 hg1
  refine Calls.mono T9 ?_
  clear hP9 T9 h9_hn h9_hnb
  rintro e u8 ⟨nd9, nd10, rfl, hQ⟩
  have hN : Own w0 u8 [row (pb) 176 ((PC.setIfInBounds 106 (.slice (some ⟨nd4, 0, none⟩) 1 (1 + nd5))).setIfInBounds 106 (.slice (some ⟨nd9, 0, none⟩) (1 + 1) (1 + 1 + nd10))), row (nd9) 199 (full symZ (symL (([syk ⟨#[67]⟩ 27]) ++ [syk ⟨#[100, 101, 102, 97, 117, 108, 116]⟩ 27])) nd10), row (B6) 51 #[.int .i32 0, .int .u32 0, .int .u32 0], row (B1_1) 191 #[.string ⟨#[67]⟩, .int .u8 3, .pointer (some ⟨B1, 0, none⟩), .int .i32 0, .nilIface, .int .i32 0, .int .i32 0, .int .u32 0, .int .u32 0, .pointer none, .int .u32 4294967295, .int .u32 4294967295, .slice none 0 0, .slice none 0 0, .slice none 0 0, .slice none 0 0, .int .i64 0, .nilIface, .int .i32 0, .slice none 0 0, .slice none 0 0, .slice none 0 0, .slice none 0 0, .slice none 0 0, .int .u32 4294967295, .int .u32 4294967295, .nilIface, .int .i32 0, .map none, .bool false, .bool false, .slice none 0 0, .slice none 0 0, .slice none 0 0, .slice none 0 0, .int .u32 4294967295, .int .u32 4294967295, .int .u32 4294967295, .int .u32 4294967295, .nilFunc, .nilFunc, .bool false], row (B1) 182 #[.slice none 0 0, .pointer (some ⟨B6, 0, none⟩), .nilIface, .int .i32 0, .slice none 0 0, .int .i32 0, .int .i32 0, .int .i32 0, .int .i32 0, .bool false, .bool false]] X := hQ.back HL.out HX.out [0, 3, 4] (by decide) (by decide)
  clear hQ HL HX hO
  have hO := hN
  clear hN
  obtain ⟨ix9, hix9, hax9, hjx9⟩ := hO.ix
  have ix9_0 : ix9 pb = 0 := hjx9 0 _ _ rfl
  have ix9_1 : ix9 nd9 = 1 := hjx9 1 _ _ rfl
  have ix9_2 : ix9 B6 = 2 := hjx9 2 _ _ rfl
  have ix9_3 : ix9 B1_1 = 3 := hjx9 3 _ _ rfl
  have ix9_4 : ix9 B1 = 4 := hjx9 4 _ _ rfl
  clear hjx9
  have c9_0_32 : u8.cell? ⟨pb, 32, none⟩ = some (.bool false) := hO.cell 0 rfl (32) ((get_other (get_other hk32 (by omega) _) (by omega) _))
  have c9_0_66 : u8.cell? ⟨pb, 66, none⟩ = some (.int .u32 0) := hO.cell 0 rfl (66) ((get_other (get_other hk66 (by omega) _) (by omega) _))
  have c9_0_106 : u8.cell? ⟨pb, 106, none⟩ = some (.slice (some ⟨nd9, 0, none⟩) (1 + 1) (1 + 1 + nd10)) := hO.cell 0 rfl (106) ((get_set (get_set hk106 _) _))
  have lt9_0 : pb < u8.heap.size := hO.lt 0 rfl
  have y9_0 : ∀ o, u8.frozen? ⟨pb, o, none⟩ = false := hO.free 0 rfl
  obtain ⟨c9_2_0, c9_2_1, c9_2_2, lt9_2, y9_2, -⟩ := hO.k3 2 rfl
  have c9_3_0 : u8.cell? ⟨B1_1, 0, none⟩ = some (.string ⟨#[67]⟩) := hO.cell 3 rfl (0) rfl
  have c9_3_6 : u8.cell? ⟨B1_1, 6, none⟩ = some (.int .i32 0) := hO.cell 3 rfl (6) rfl
  have c9_3_7 : u8.cell? ⟨B1_1, 7, none⟩ = some (.int .u32 0) := hO.cell 3 rfl (7) rfl
  have c9_3_8 : u8.cell? ⟨B1_1, 8, none⟩ = some (.int .u32 0) := hO.cell 3 rfl (8) rfl
  have lt9_3 : B1_1 < u8.heap.size := hO.lt 3 rfl
  have y9_3 : ∀ o, u8.frozen? ⟨B1_1, o, none⟩ = false := hO.free 3 rfl
  have c9_4_1 : u8.cell? ⟨B1, 1, none⟩ = some (.pointer (some ⟨B6, 0, none⟩)) := hO.cell 4 rfl (1) rfl
  have lt9_4 : B1 < u8.heap.size := hO.lt 4 rfl
  have y9_4 : ∀ o, u8.frozen? ⟨B1, o, none⟩ = false := hO.free 4 rfl
  have HO := Lib.hid hO
  clear hO
  have gw9_0_0 : u8.cell? ⟨0, 0, none⟩ = some (.int .u32 4294967295) := Base.cell_below HO.out.below (Base.block_of_cell hg0) hg0
  have gw9_0_1 : u8.cell? ⟨0, 1, none⟩ = some (.int .u32 4294967295) := Base.cell_below HO.out.below (Base.block_of_cell hg1) hg1
  have gl9_0 : 0 < u8.heap.size := Base.block_of_cell gw9_0_0
  go_wp2_with (first | (with_reducible refine Own.stay (fn := Tryd.f8) ?_) | ((with_reducible refine Base.wpList_buildL 191 (l := [(0, .tmp 16), (1, .tmp 18), (2, .tmp 19), (7, .tmp 20), (19, .tmp 21), (28, .tmp 22), (29, .tmp 23)]) ?_ ?_); kernel_rfl; simp [Act.put, Act.eval, builtCtx]))
  try with_reducible refine Own.Stay.mk ?_
  have hO := HO.out
  clear HO hix9 hax9 ix9_0 ix9_1 ix9_2 ix9_3 ix9_4 ix9 gw9_0_0 gw9_0_1 gl9_0 c9_0_32 c9_0_66 c9_0_106 lt9_0 y9_0 c9_2_0 c9_2_1 c9_2_2 lt9_2 y9_2 c9_3_0 c9_3_6 c9_3_7 c9_3_8 lt9_3 y9_3 c9_4_1 lt9_4 y9_4
  generalize hW : World.setCell _ _ _ = W12
  have hN : Own w0 W12 [row (pb) 176 ((PC.setIfInBounds 106 (.slice (some ⟨nd4, 0, none⟩) 1 (1 + nd5))).setIfInBounds 106 (.slice (some ⟨nd9, 0, none⟩) (1 + 1) (1 + 1 + nd10))), row (nd9) 199 (full symZ (symL (([syk ⟨#[67]⟩ 27]) ++ [syk ⟨#[100, 101, 102, 97, 117, 108, 116]⟩ 27])) nd10), row (B6) 51 #[.int .i32 0, .int .u32 0, .int .u32 0], row (B1_1) 191 #[.string ⟨#[67]⟩, .int .u8 3, .pointer (some ⟨B1, 0, none⟩), .int .i32 0, .nilIface, .int .i32 0, .int .i32 0, .int .u32 0, .int .u32 1, .pointer none, .int .u32 4294967295, .int .u32 4294967295, .slice none 0 0, .slice none 0 0, .slice none 0 0, .slice none 0 0, .int .i64 0, .nilIface, .int .i32 0, .slice none 0 0, .slice none 0 0, .slice none 0 0, .slice none 0 0, .slice none 0 0, .int .u32 4294967295, .int .u32 4294967295, .nilIface, .int .i32 0, .map none, .bool false, .bool false, .slice none 0 0, .slice none 0 0, .slice none 0 0, .slice none 0 0, .int .u32 4294967295, .int .u32 4294967295, .int .u32 4294967295, .int .u32 4294967295, .nilFunc, .nilFunc, .bool false], row (B1) 182 #[.slice none 0 0, .pointer (some ⟨B6, 0, none⟩), .nilIface, .int .i32 0, .slice none 0 0, .int .i32 0, .int .i32 0, .int .i32 0, .int .i32 0, .bool false, .bool false]] X := by
    rw [← hW]
    exact (((hO).set 3 rfl 6 _).set 3 rfl 7 _).set 3 rfl 8 _
  clear hW hO
  have hO := hN
  clear hN
  refine bodyPost_ret (v := .pointer (some ⟨B1_1, 0, none⟩)) ?_ rfl ⟨B1_1, B1, nd9, nd10, B6, nd4, nd5, rfl, hO.sub [0, 1, 3, 4, 2] (by decide)⟩
  simp [results, Tryd.results8, go_sem]
def newCtxU3Post (pb : Nat) (PC : Array Value) (w0 : World) (X : Nat → Obj → Prop) (e : Ending) (w' : World) : Prop :=
  ∃ cx : Nat, ∃ cc : Nat, ∃ sb : Nat, ∃ c : Nat, e = .returned (.pointer (some ⟨cx, 0, none⟩)) ∧ Own w0 w' [row (pb) 176 (PC.setIfInBounds 106 (.slice (some ⟨sb, 0, none⟩) 1 (1 + c))), row (sb) 199 (full symZ (symL ([sy ⟨#[100, 101, 102, 97, 117, 108, 116]⟩ 0])) c), row (cx) 191 #[.string ⟨#[107, 101, 101, 112]⟩, .int .u8 3, .pointer (some ⟨cc, 0, none⟩), .int .i32 0, .nilIface, .int .i32 0, .int .i32 0, .int .u32 0, .int .u32 0, .pointer none, .int .u32 4294967295, .int .u32 4294967295, .slice none 0 0, .slice none 0 0, .slice none 0 0, .slice none 0 0, .int .i64 0, .nilIface, .int .i32 0, .slice none 0 0, .slice none 0 0, .slice none 0 0, .slice none 0 0, .slice none 0 0, .int .u32 4294967295, .int .u32 4294967295, .nilIface, .int .i32 0, .map none, .bool false, .bool false, .slice none 0 0, .slice none 0 0, .slice none 0 0, .slice none 0 0, .int .u32 4294967295, .int .u32 4294967295, .int .u32 4294967295, .int .u32 4294967295, .nilFunc, .nilFunc, .bool false], row (cc) 182 #[.slice none 0 0, .pointer none, .nilIface, .int .i32 0, .slice none 0 0, .int .i32 0, .int .i32 0, .int .i32 0, .int .i32 0, .bool false, .bool false]] X
set_option maxRecDepth 100000 in
set_option maxHeartbeats 1000000 in
theorem newCtxU3 (pb : Nat) (PC : Array Value) (w0 w : World) (X : Nat → Obj → Prop) (hO : Own w0 w [row (pb) 176 PC] X) (hk66 : PC[66]? = some (.int .u32 0)) (hk32 : PC[32]? = some (.bool false)) (hk106 : PC[106]? = some (.slice none 0 0)) (hg0 : w0.cell? ⟨0, 0, none⟩ = some (.int .u32 4294967295)) (hg1 : w0.cell? ⟨0, 1, none⟩ = some (.int .u32 4294967295)) :
    Calls Tryd.prog 8 #[.pointer (some ⟨pb, 0, none⟩), .int .i64 3, .string ⟨#[]⟩, .string ⟨#[107, 101, 101, 112]⟩, .bool false] w (newCtxU3Post pb PC w0 X) := by
  go_enter Tryd.func8, Tryd.ntmps8
  obtain ⟨ix9, hix9, hax9, hjx9⟩ := hO.ix
  have ix9_0 : ix9 pb = 0 := hjx9 0 _ _ rfl
  clear hjx9
  have c9_0_32 : w.cell? ⟨pb, 32, none⟩ = some (.bool false) := hO.cell 0 rfl (32) (hk32)
  have c9_0_66 : w.cell? ⟨pb, 66, none⟩ = some (.int .u32 0) := hO.cell 0 rfl (66) (hk66)
  have c9_0_106 : w.cell? ⟨pb, 106, none⟩ = some (.slice none 0 0) := hO.cell 0 rfl (106) (hk106)
  have lt9_0 : pb < w.heap.size := hO.lt 0 rfl
  have y9_0 : ∀ o, w.frozen? ⟨pb, o, none⟩ = false := hO.free 0 rfl
  have HO := Lib.hid hO
  clear hO
  have gw9_0_0 : w.cell? ⟨0, 0, none⟩ = some (.int .u32 4294967295) := Base.cell_below HO.out.below (Base.block_of_cell hg0) hg0
  have gw9_0_1 : w.cell? ⟨0, 1, none⟩ = some (.int .u32 4294967295) := Base.cell_below HO.out.below (Base.block_of_cell hg1) hg1
  have gl9_0 : 0 < w.heap.size := Base.block_of_cell gw9_0_0
  go_wp2_with (first | (with_reducible refine Own.stay (fn := Tryd.f8) ?_) | ((with_reducible refine Base.wpList_buildL 191 (l := [(0, .tmp 16), (1, .tmp 18), (2, .tmp 19), (7, .tmp 20), (19, .tmp 21), (28, .tmp 22), (29, .tmp 23)]) ?_ ?_); kernel_rfl; simp [Act.put, Act.eval, builtCtx]))
  try with_reducible refine Own.Stay.mk ?_
  have hO := HO.out
  clear HO hix9 hax9 ix9_0 ix9 gw9_0_0 gw9_0_1 gl9_0 c9_0_32 c9_0_66 c9_0_106 lt9_0 y9_0
  generalize hW : World.alloc _ _ = W2
  have hN : Own w0 W2 [row (w.heap.size + 1) 191 #[.string ⟨#[107, 101, 101, 112]⟩, .int .u8 3, .pointer (some ⟨w.heap.size, 0, none⟩), .int .i32 0, .nilIface, .int .i32 0, .int .i32 0, .int .u32 0, .int .u32 0, .pointer none, .int .u32 4294967295, .int .u32 4294967295, .slice none 0 0, .slice none 0 0, .slice none 0 0, .slice none 0 0, .int .i64 0, .nilIface, .int .i32 0, .slice none 0 0, .slice none 0 0, .slice none 0 0, .slice none 0 0, .slice none 0 0, .int .u32 4294967295, .int .u32 4294967295, .nilIface, .int .i32 0, .map none, .bool false, .bool false, .slice none 0 0, .slice none 0 0, .slice none 0 0, .slice none 0 0, .int .u32 4294967295, .int .u32 4294967295, .int .u32 4294967295, .int .u32 4294967295, .nilFunc, .nilFunc, .bool false], row (w.heap.size) 182 #[.slice none 0 0, .pointer none, .nilIface, .int .i32 0, .slice none 0 0, .int .i32 0, .int .i32 0, .int .i32 0, .int .i32 0, .bool false, .bool false], row (pb) 176 PC] X := by
    rw [← hW]
    exact ((hO).alloc' _ (w.heap.size) (by simp)).alloc' _ (w.heap.size + 1) (by simp)
  clear hW hO
  generalize w.heap.size + 1 = B1_1 at hN ⊢
  generalize w.heap.size = B1 at hN ⊢
  have hO := hN
  clear hN
  have hL := hO.apart
  have hX := hO.apartX
  have HL := Lib.hid hL
  have HX := Lib.hid hX
  clear hL hX
  have hP9 := hO.pick [2] (by decide)
  have T9 := newSym0 pb PC 0 27 ⟨#[100, 101, 102, 97, 117, 108, 116]⟩ _ _ _ hP9 hk66 hk32 hk106 hg0 hg1
  refine Calls.mono T9 ?_
  clear hP9 T9
  rintro e u3 ⟨nd4, nd5, rfl, hQ⟩
  have hN : Own w0 u3 [row (pb) 176 (PC.setIfInBounds 106 (.slice (some ⟨nd4, 0, none⟩) 1 (1 + nd5))), row (nd4) 199 (full symZ (symL ([syk ⟨#[100, 101, 102, 97, 117, 108, 116]⟩ 27])) nd5), row (B1_1) 191 #[.string ⟨#[107, 101, 101, 112]⟩, .int .u8 3, .pointer (some ⟨B1, 0, none⟩), .int .i32 0, .nilIface, .int .i32 0, .int .i32 0, .int .u32 0, .int .u32 0, .pointer none, .int .u32 4294967295, .int .u32 4294967295, .slice none 0 0, .slice none 0 0, .slice none 0 0, .slice none 0 0, .int .i64 0, .nilIface, .int .i32 0, .slice none 0 0, .slice none 0 0, .slice none 0 0, .slice none 0 0, .slice none 0 0, .int .u32 4294967295, .int .u32 4294967295, .nilIface, .int .i32 0, .map none, .bool false, .bool false, .slice none 0 0, .slice none 0 0, .slice none 0 0, .slice none 0 0, .int .u32 4294967295, .int .u32 4294967295, .int .u32 4294967295, .int .u32 4294967295, .nilFunc, .nilFunc, .bool false], row (B1) 182 #[.slice none 0 0, .pointer none, .nilIface, .int .i32 0, .slice none 0 0, .int .i32 0, .int .i32 0, .int .i32 0, .int .i32 0, .bool false, .bool false]] X := hQ.back HL.out HX.out [0, 1] (by decide) (by decide)
  clear hQ HL HX hO
  have hO := hN
  clear hN
  obtain ⟨ix9, hix9, hax9, hjx9⟩ := hO.ix
  have ix9_0 : ix9 pb = 0 := hjx9 0 _ _ rfl
  have ix9_1 : ix9 nd4 = 1 := hjx9 1 _ _ rfl
  have ix9_2 : ix9 B1_1 = 2 := hjx9 2 _ _ rfl
  have ix9_3 : ix9 B1 = 3 := hjx9 3 _ _ rfl
  clear hjx9
  have c9_0_32 : u3.cell? ⟨pb, 32, none⟩ = some (.bool false) := hO.cell 0 rfl (32) ((get_other hk32 (by omega) _))
  have c9_0_66 : u3.cell? ⟨pb, 66, none⟩ = some (.int .u32 0) := hO.cell 0 rfl (66) ((get_other hk66 (by omega) _))
  have c9_0_106 : u3.cell? ⟨pb, 106, none⟩ = some (.slice (some ⟨nd4, 0, none⟩) 1 (1 + nd5)) := hO.cell 0 rfl (106) ((get_set hk106 _))
  have lt9_0 : pb < u3.heap.size := hO.lt 0 rfl
  have y9_0 : ∀ o, u3.frozen? ⟨pb, o, none⟩ = false := hO.free 0 rfl
  have c9_2_0 : u3.cell? ⟨B1_1, 0, none⟩ = some (.string ⟨#[107, 101, 101, 112]⟩) := hO.cell 2 rfl (0) rfl
  have c9_2_6 : u3.cell? ⟨B1_1, 6, none⟩ = some (.int .i32 0) := hO.cell 2 rfl (6) rfl
  have c9_2_7 : u3.cell? ⟨B1_1, 7, none⟩ = some (.int .u32 0) := hO.cell 2 rfl (7) rfl
  have c9_2_8 : u3.cell? ⟨B1_1, 8, none⟩ = some (.int .u32 0) := hO.cell 2 rfl (8) rfl
  have lt9_2 : B1_1 < u3.heap.size := hO.lt 2 rfl
  have y9_2 : ∀ o, u3.frozen? ⟨B1_1, o, none⟩ = false := hO.free 2 rfl
  have c9_3_1 : u3.cell? ⟨B1, 1, none⟩ = some (.pointer none) := hO.cell 3 rfl (1) rfl
  have lt9_3 : B1 < u3.heap.size := hO.lt 3 rfl
  have y9_3 : ∀ o, u3.frozen? ⟨B1, o, none⟩ = false := hO.free 3 rfl
  have HO := Lib.hid hO
  clear hO
  have gw9_0_0 : u3.cell? ⟨0, 0, none⟩ = some (.int .u32 4294967295) := Base.cell_below HO.out.below (Base.block_of_cell hg0) hg0
  have gw9_0_1 : u3.cell? ⟨0, 1, none⟩ = some (.int .u32 4294967295) := Base.cell_below HO.out.below (Base.block_of_cell hg1) hg1
  have gl9_0 : 0 < u3.heap.size := Base.block_of_cell gw9_0_0
  go_wp2_with (first | (with_reducible refine Own.stay (fn := Tryd.f8) ?_) | ((with_reducible refine Base.wpList_buildL 191 (l := [(0, .tmp 16), (1, .tmp 18), (2, .tmp 19), (7, .tmp 20), (19, .tmp 21), (28, .tmp 22), (29, .tmp 23)]) ?_ ?_); kernel_rfl; simp [Act.put, Act.eval, builtCtx]))
  try with_reducible refine Own.Stay.mk ?_
  have hO := HO.out
  clear HO hix9 hax9 ix9_0 ix9_1 ix9_2 ix9_3 ix9 gw9_0_0 gw9_0_1 gl9_0 c9_0_32 c9_0_66 c9_0_106 lt9_0 y9_0 c9_2_0 c9_2_6 c9_2_7 c9_2_8 lt9_2 y9_2 c9_3_1 lt9_3 y9_3
  generalize hW : World.setCell _ _ _ = W7
  have hN : Own w0 W7 [row (pb) 176 (PC.setIfInBounds 106 (.slice (some ⟨nd4, 0, none⟩) 1 (1 + nd5))), row (nd4) 199 (full symZ (symL ([syk ⟨#[100, 101, 102, 97, 117, 108, 116]⟩ 27])) nd5), row (B1_1) 191 #[.string ⟨#[107, 101, 101, 112]⟩, .int .u8 3, .pointer (some ⟨B1, 0, none⟩), .int .i32 0, .nilIface, .int .i32 0, .int .i32 0, .int .u32 0, .int .u32 0, .pointer none, .int .u32 4294967295, .int .u32 4294967295, .slice none 0 0, .slice none 0 0, .slice none 0 0, .slice none 0 0, .int .i64 0, .nilIface, .int .i32 0, .slice none 0 0, .slice none 0 0, .slice none 0 0, .slice none 0 0, .slice none 0 0, .int .u32 4294967295, .int .u32 4294967295, .nilIface, .int .i32 0, .map none, .bool false, .bool false, .slice none 0 0, .slice none 0 0, .slice none 0 0, .slice none 0 0, .int .u32 4294967295, .int .u32 4294967295, .int .u32 4294967295, .int .u32 4294967295, .nilFunc, .nilFunc, .bool false], row (B1) 182 #[.slice none 0 0, .pointer none, .nilIface, .int .i32 0, .slice none 0 0, .int .i32 0, .int .i32 0, .int .i32 0, .int .i32 0, .bool false, .bool false]] X := by
    rw [← hW]
    exact (((hO).set 2 rfl 6 _).set 2 rfl 7 _).set 2 rfl 8 _
  clear hW hO
  have hO := hN
  clear hN
  refine bodyPost_ret (v := .pointer (some ⟨B1_1, 0, none⟩)) ?_ rfl ⟨B1_1, B1, nd4, nd5, rfl, hO.sub [0, 1, 2, 3] (by decide)⟩
  simp [results, Tryd.results8, go_sem]
end Go.Proofs.YtaoflhnkhgclhaaDoor.Use
