/- A string captured. No condition. -/
import Derived.Test.YtkhmjppfogppoaaGreatDoorLive
import Derived.Test.YtkhmjppfogppoaaGreatDoorApp
import Derived.Test.YtkhmjppfogppoaaGreatDoorOwnK
import Derived.Test.YtkhmjppfogppoaaGreatDoorOwn
import Derived.Test.YtkhmjppfogppoaaGreatDoorDeepCells
import Derived.Test.YtkhmjppfogppoaaGreatDoorRows
import Derived.Test.YtkhmjppfogppoaaGreatDoorUse
namespace Go.Proofs.YtkhmjppfogppoaaGreatDoor.Use
open Go.ChangeShapes Go.WideShapes Go.ChangeAt Go.RowKit Go.Sort Own
set_option linter.unusedVariables false
def capStrPost (pb eb : Nat) (loc l0 : Int) (w0 : World) (X : Nat → Obj → Prop) (e : Ending) (w' : World) : Prop :=
  ∃ bx1 : Nat, ∃ bx2 : Nat, ∃ bx3 : Nat, e = .returned (.tuple #[.func (Fn.func 61) #[] #[.pointer (some ⟨bx1, 0, none⟩), .pointer (some ⟨bx3, 0, none⟩)], .func (Fn.func 54) #[] #[.pointer (some ⟨bx2, 0, none⟩)]]) ∧ Own w0 w' [row (bx1) 30 #[.int .i32 loc], row (bx2) 32 #[.iface 195 (.pointer (some ⟨eb, 0, none⟩)), .int .i32 l0], row (bx3) 195 #[.pointer (some ⟨eb, 0, none⟩)]] X
set_option maxRecDepth 100000 in
set_option maxHeartbeats 1000000 in
theorem capStr (pb eb : Nat) (loc l0 : Int) (w0 w : World) (X : Nat → Obj → Prop) (hO : Own w0 w [] X)  :
    Calls Tryz.prog 46 #[.pointer (some ⟨pb, 0, none⟩), .agg #[.int .i32 loc], .int .i64 2, .agg #[.iface 195 (.pointer (some ⟨eb, 0, none⟩)), .int .i32 l0], .int .u8 0] w (capStrPost pb eb loc l0 w0 X) := by
  go_enter Tryz.func46, Tryz.ntmps46
  go_wp2_with (first | (with_reducible refine Own.stay (fn := Tryz.f46) ?_) | fail)
  try with_reducible refine Own.Stay.mk ?_
  generalize hW : World.alloc _ _ = W2
  have hN : Own w0 W2 [row (w.heap.size + 1 + 1 + 1) 195 #[.pointer (some ⟨eb, 0, none⟩)], row (w.heap.size + 1 + 1) 32 #[.iface 195 (.pointer (some ⟨eb, 0, none⟩)), .int .i32 l0], row (w.heap.size + 1) 30 #[.int .i32 loc], row (w.heap.size) 24 #[.pointer (some ⟨pb, 0, none⟩)]] X := by
    rw [← hW]
    exact ((((hO).alloc' _ (w.heap.size) (by simp)).alloc' _ (w.heap.size + 1) (by simp)).alloc' _ (w.heap.size + 1 + 1) (by simp)).alloc' _ (w.heap.size + 1 + 1 + 1) (by simp)
  clear hW hO
  generalize w.heap.size + 1 + 1 + 1 = B1_3 at hN ⊢
  generalize w.heap.size + 1 + 1 = B1_2 at hN ⊢
  generalize w.heap.size + 1 = B1_1 at hN ⊢
  generalize w.heap.size = B1 at hN ⊢
  have hO := hN
  clear hN
  refine bodyPost_ret (v := .tuple #[.func (Fn.func 61) #[] #[.pointer (some ⟨B1_1, 0, none⟩), .pointer (some ⟨B1_3, 0, none⟩)], .func (Fn.func 54) #[] #[.pointer (some ⟨B1_2, 0, none⟩)]]) ?_ rfl ⟨B1_1, B1_2, B1_3, rfl, hO.sub [2, 1, 0] (by decide)⟩
  simp [results, Tryz.results46, go_sem]
def rVF1E (eb : Nat) (ub : Nat) (ln : Nat) (cp : Nat) (loc : Int) (bx1 : Nat) (bx3 : Nat) (B1 : Nat) : Nat → Rega.Atoms → Value
  | 0, α => .agg #[.int .i32 loc]
  | 1, α => .pointer (some ⟨eb, 0, none⟩)
  | 2, α => .pointer (some ⟨eb, 0, none⟩)
  | 3, α => .pointer (some ⟨eb, 0, none⟩)
  | 4, α => .slice (some ⟨ub, 0, none⟩) ln cp
  | 5, α => .agg #[.slice (some ⟨ub, 0, none⟩) ln cp, .int .i32 0, .bool false, .bool false, .bool false]
  | 6, α => .pointer (some ⟨α 6, 0, none⟩)
  | 7, α => .iface 195 (.pointer (some ⟨α 6, 0, none⟩))
  | 8, α => .agg #[.iface 195 (.pointer (some ⟨α 6, 0, none⟩)), .int .i32 loc]
  | 9, α => undef
  | _, _ => undef
def rVF1Anc : Nat → List Nat
  | 2 => [1]
  | 3 => [1, 2]
  | 4 => [1, 2, 3]
  | 5 => [1, 2, 3, 4]
  | 6 => [1, 2, 3, 4, 5]
  | 7 => [1, 2, 3, 4, 5, 6]
  | 8 => [0, 1, 2, 3, 4, 5, 6, 7]
  | 9 => [0, 1, 2, 3, 4, 5, 6, 7, 8]
  | _ => []
def rVF1Trn : Nat → List Nat
  | 9 => [999]
  | _ => []
def rVF1Cnt : List (Nat × Nat) := [(6, 1)]
def rVF1T999 (eb : Nat) (ub : Nat) (ln : Nat) (cp : Nat) (loc : Int) (bx1 : Nat) (bx3 : Nat) (B1 : Nat) (L9 : Nat → Bool) (α : Rega.Atoms) : Rw := if L9 9 = true then row (B1) 32 #[.iface 195 (.pointer (some ⟨α 6, 0, none⟩)), .int .i32 loc] else row (B1) 32 #[.nilIface, .int .i32 0]
def rVF1R (eb : Nat) (ub : Nat) (ln : Nat) (cp : Nat) (loc : Int) (bx1 : Nat) (bx3 : Nat) (B1 : Nat) (L9 : Nat → Bool) (α : Rega.Atoms) (ix9 : Nat) : Rw := if ix9 = 999 then rVF1T999 eb ub ln cp loc bx1 bx3 B1 L9 α else if ix9 = 1999 then row (bx1) 30 #[.int .i32 loc] else if ix9 = 2999 then row (bx3) 195 #[.pointer (some ⟨eb, 0, none⟩)] else if ix9 = 3999 then row (eb) 197 #[.slice (some ⟨ub, 0, none⟩) ln cp, .int .i32 0, .bool false, .bool false, .bool false] else if ix9 = 6 then row (α 6) 197 #[.slice (some ⟨ub, 0, none⟩) ln cp, .int .i32 0, .bool false, .bool false, .bool false] else (0, .map #[] 0)
theorem rVF1_he (eb : Nat) (ub : Nat) (ln : Nat) (cp : Nat) (loc : Int) (bx1 : Nat) (bx3 : Nat) (B1 : Nat) : ∀ kk α α', (∀ j, (j % 1000 = kk ∨ j % 1000 ∈ rVF1Anc kk) → α j = α' j) → rVF1E eb ub ln cp loc bx1 bx3 B1 kk α = rVF1E eb ub ln cp loc bx1 bx3 B1 kk α' := by
  intro kk α α' h
  match kk with
  | 0 => rfl
  | 1 => rfl
  | 2 => rfl
  | 3 => rfl
  | 4 => rfl
  | 5 => rfl
  | 6 => simp only [rVF1E, h 6 (Or.inl rfl)]
  | 7 => simp only [rVF1E, h 6 (Or.inr (by decide))]
  | 8 => simp only [rVF1E, h 6 (Or.inr (by decide))]
  | 9 => rfl
  | n + 10 => rfl
theorem rVF1_st (eb : Nat) (ub : Nat) (ln : Nat) (cp : Nat) (loc : Int) (bx1 : Nat) (bx3 : Nat) (B1 : Nat) : Stable rVF1Cnt 4 rVF1Anc rVF1Trn (rVF1R eb ub ln cp loc bx1 bx3 B1) := by
  intro k9 L9 α α' ix9 hk hcl hα hact ht
  have hp := act_places hact
  replace hp : ix9 ∈ [999, 1999, 2999, 3999, 6] := hp
  simp only [List.mem_cons, List.not_mem_nil, or_false] at hp
  rcases hp with rfl | rfl | rfl | rfl | rfl
  · show rVF1T999 eb ub ln cp loc bx1 bx3 B1 (Rega.ran L9 k9) α' = rVF1T999 eb ub ln cp loc bx1 bx3 B1 L9 α
    unfold rVF1T999
    have n9 : 9 ≠ k9 := fun e => ht (by rw [← e]; decide)
    rw [ran_ne n9]
    by_cases e9 : L9 9 = true
    · first | rw [if_pos e9, if_pos e9] | rw [if_pos e9]
      try simp only [hα 6 (ne_ran hk (hcl 9 e9 6 (by decide)))]
    first | rw [if_neg e9, if_neg e9] | rw [if_neg e9]
  · rfl
  · rfl
  · rfl
  · have e0 : L9 6 = true := act_lt hact (by decide)
    show row (α' 6) 197 #[.slice (some ⟨ub, 0, none⟩) ln cp, .int .i32 0, .bool false, .bool false, .bool false] = row (α 6) 197 #[.slice (some ⟨ub, 0, none⟩) ln cp, .int .i32 0, .bool false, .bool false, .bool false]
    simp only [hα 6 (ne_ran hk e0)]
def capGetPost (eb ub ln cp : Nat) (loc : Int) (bx1 bx3 : Nat) (w0 : World) (X : Nat → Obj → Prop) (e : Ending) (w' : World) : Prop :=
  ∃ b9 : Nat, e = .returned (.agg #[.iface 195 (.pointer (some ⟨b9, 0, none⟩)), .int .i32 loc]) ∧ Own w0 w' [row (bx1) 30 #[.int .i32 loc], row (bx3) 195 #[.pointer (some ⟨eb, 0, none⟩)], row (eb) 197 #[.slice (some ⟨ub, 0, none⟩) ln cp, .int .i32 0, .bool false, .bool false, .bool false], row (b9) 197 #[.slice (some ⟨ub, 0, none⟩) ln cp, .int .i32 0, .bool false, .bool false, .bool false]] X
set_option maxRecDepth 100000 in
set_option maxHeartbeats 1000000 in
theorem capGet (eb ub ln cp : Nat) (loc : Int) (bx1 bx3 : Nat) (w0 w : World) (X : Nat → Obj → Prop) (hO : Own w0 w [row (bx1) 30 #[.int .i32 loc], row (bx3) 195 #[.pointer (some ⟨eb, 0, none⟩)], row (eb) 197 #[.slice (some ⟨ub, 0, none⟩) ln cp, .int .i32 0, .bool false, .bool false, .bool false]] X)  :
    Calls Tryz.prog 61 #[.pointer (some ⟨bx1, 0, none⟩), .pointer (some ⟨bx3, 0, none⟩)] w (capGetPost eb ub ln cp loc bx1 bx3 w0 X) := by
  go_enter Tryz.func61, Tryz.ntmps61
  obtain ⟨ix9, hix9, hax9, hjx9⟩ := hO.ix
  have ix9_0 : ix9 bx1 = 0 := hjx9 0 _ _ rfl
  have ix9_1 : ix9 bx3 = 1 := hjx9 1 _ _ rfl
  have ix9_2 : ix9 eb = 2 := hjx9 2 _ _ rfl
  clear hjx9
  obtain ⟨c9_0_0, lt9_0, y9_0, -⟩ := hO.k1 0 rfl
  obtain ⟨c9_1_0, lt9_1, y9_1, -⟩ := hO.k1 1 rfl
  obtain ⟨c9_2_0, c9_2_1, c9_2_2, c9_2_3, c9_2_4, lt9_2, y9_2, -⟩ := hO.k5 2 rfl
  have HO := Lib.hid hO
  clear hO
  go_wp2_with (first | (with_reducible refine Own.stay (fn := Tryz.f61) ?_) | fail)
  try with_reducible refine Own.Stay.mk ?_
  have hO := HO.out
  clear HO hix9 hax9 ix9_0 ix9_1 ix9_2 ix9 c9_0_0 lt9_0 y9_0 c9_1_0 lt9_1 y9_1 c9_2_0 c9_2_1 c9_2_2 c9_2_3 c9_2_4 lt9_2 y9_2
  generalize hW : World.alloc _ _ = W2
  have hN : Own w0 W2 [row (w.heap.size) 32 #[.nilIface, .int .i32 0], row (bx1) 30 #[.int .i32 loc], row (bx3) 195 #[.pointer (some ⟨eb, 0, none⟩)], row (eb) 197 #[.slice (some ⟨ub, 0, none⟩) ln cp, .int .i32 0, .bool false, .bool false, .bool false]] X := by
    rw [← hW]
    exact (hO).alloc' _ (w.heap.size) (by simp)
  clear hW hO
  generalize w.heap.size = B1 at hN ⊢
  have hO := hN
  clear hN
  have st9 := rVF1_st eb ub ln cp loc bx1 bx3 B1
  let R9 := rVF1R eb ub ln cp loc bx1 bx3 B1
  refine wp_region_own (e := rVF1E eb ub ln cp loc bx1 bx3 B1) (anc := rVF1Anc) (G := (fun L9 α u9 => OwnF w0 u9 (act rVF1Cnt 4 L9) (rVF1R eb ub ln cp loc bx1 bx3 B1 L9 α) X)) (by kernel_rfl) (by kernel_rfl) (by kernel_rfl) (by kernel_rfl) (rVF1_he eb ub ln cp loc bx1 bx3 B1) ?_ (RunsAll.all ?_) ?_
  · have hp : ∀ i, act rVF1Cnt 4 (fun _ => false) i → i ∈ [999, 1999, 2999, 3999] := by
      intro i hi
      have h9 : i % 1000 = 999 := by
        by_cases h : i % 1000 = 999
        · exact h
        · exact absurd (act_lt hi h) (by simp)
      unfold act at hi
      rw [if_pos h9] at hi
      simp only [List.mem_cons, List.not_mem_nil, or_false]
      omega
    refine hO.drew.family (fun i hi => ?_) (fun i j hi hj hij => ?_)
    · have := hp i hi
      simp only [List.mem_cons, List.not_mem_nil, or_false] at this
      rcases this with rfl | rfl | rfl | rfl <;> rfl
    · have h1 := hp i hi
      have h2 := hp j hj
      simp only [List.mem_cons, List.not_mem_nil, or_false] at h1 h2
      omega
  · refine ⟨?_, ?_, ?_, ?_, ?_, ?_, ?_, ?_, ?_, ?_, trivial⟩
    · intro L9 α a9 u9 K9 hL hcl hA hG hS h0 hK
      replace hL : L9 0 = false := hL
      have q0 : a9.tmps[0]? = some (.pointer (some ⟨bx1, 0, none⟩)) := (h0 0 (by kernel_rfl)).trans rfl
      have s0 := Rega.eval_of q0
      have e0 : R9 L9 α 1999 = row (bx1) 30 #[.int .i32 loc] := rfl
      have hr := hG.rowAt 1999 (act_base 1999 rfl) e0
      have c0 : u9.cell? ⟨bx1, 0, none⟩ = some (.int .i32 loc) := hr.cell rfl
      clear hr e0
      go_simp
      exact hK _ α _ (fun _ _ => rfl) rfl (step_same (st9) hL hcl rfl rfl hG)
    · intro L9 α a9 u9 K9 hL hcl hA hG hS h0 hK
      replace hL : L9 1 = false := hL
      have q1 : a9.tmps[1]? = some (.pointer (some ⟨bx3, 0, none⟩)) := (h0 1 (by kernel_rfl)).trans rfl
      have s1 := Rega.eval_of q1
      have e0 : R9 L9 α 2999 = row (bx3) 195 #[.pointer (some ⟨eb, 0, none⟩)] := rfl
      have hr := hG.rowAt 2999 (act_base 2999 rfl) e0
      have c0 : u9.cell? ⟨bx3, 0, none⟩ = some (.pointer (some ⟨eb, 0, none⟩)) := hr.cell rfl
      clear hr e0
      go_simp
      exact hK _ α _ (fun _ _ => rfl) rfl (step_same (st9) hL hcl rfl rfl hG)
    · intro L9 α a9 u9 K9 hL hcl hA hG hS h0 hK
      replace hL : L9 2 = false := hL
      have q4 : a9.tmps[4]? = some (.pointer (some ⟨eb, 0, none⟩)) := hS 1 4 (by decide) rfl (by show 4 < 12; decide)
      have s4 := Rega.eval_of q4
      go_simp
      exact hK _ α _ (fun _ _ => rfl) rfl (step_same (st9) hL hcl rfl rfl hG)
    · intro L9 α a9 u9 K9 hL hcl hA hG hS h0 hK
      replace hL : L9 3 = false := hL
      have q5 : a9.tmps[5]? = some (.pointer (some ⟨eb, 0, none⟩)) := hS 2 5 (by decide) rfl (by show 5 < 12; decide)
      have s5 := Rega.eval_of q5
      go_simp
      exact hK _ α _ (fun _ _ => rfl) rfl (step_same (st9) hL hcl rfl rfl hG)
    · intro L9 α a9 u9 K9 hL hcl hA hG hS h0 hK
      replace hL : L9 4 = false := hL
      have q6 : a9.tmps[6]? = some (.pointer (some ⟨eb, 0, none⟩)) := hS 3 6 (by decide) rfl (by show 6 < 12; decide)
      have s6 := Rega.eval_of q6
      have e0 : R9 L9 α 3999 = row (eb) 197 #[.slice (some ⟨ub, 0, none⟩) ln cp, .int .i32 0, .bool false, .bool false, .bool false] := rfl
      have hr := hG.rowAt 3999 (act_base 3999 rfl) e0
      have c0 : u9.cell? ⟨eb, 0, none⟩ = some (.slice (some ⟨ub, 0, none⟩) ln cp) := hr.cell rfl
      clear hr e0
      go_simp
      exact hK _ α _ (fun _ _ => rfl) rfl (step_same (st9) hL hcl rfl rfl hG)
    · intro L9 α a9 u9 K9 hL hcl hA hG hS h0 hK
      replace hL : L9 5 = false := hL
      have q7 : a9.tmps[7]? = some (.slice (some ⟨ub, 0, none⟩) ln cp) := hS 4 7 (by decide) rfl (by show 7 < 12; decide)
      have s7 := Rega.eval_of q7
      go_simp
      exact hK _ α _ (fun _ _ => rfl) rfl (step_same (st9) hL hcl rfl rfl hG)
    · intro L9 α a9 u9 K9 hL hcl hA hG hS h0 hK
      replace hL : L9 6 = false := hL
      have q8 : a9.tmps[8]? = some (.agg #[.slice (some ⟨ub, 0, none⟩) ln cp, .int .i32 0, .bool false, .bool false, .bool false]) := hS 5 8 (by decide) rfl (by show 8 < 12; decide)
      have s8 := Rega.eval_of q8
      go_simp
      exact hK _ (fun j => if j = 6 then u9.heap.size else α j) _ (fun j hj => if_neg (fun e => hj (by rw [e]))) rfl (step_alloc (st9) hL hcl rfl rfl (by decide) _ rfl hG)
    · intro L9 α a9 u9 K9 hL hcl hA hG hS h0 hK
      replace hL : L9 7 = false := hL
      have q9 : a9.tmps[9]? = some (.pointer (some ⟨α 6, 0, none⟩)) := hS 6 9 (by decide) rfl (by show 9 < 12; decide)
      have s9 := Rega.eval_of q9
      go_simp
      exact hK _ α _ (fun _ _ => rfl) rfl (step_same (st9) hL hcl rfl rfl hG)
    · intro L9 α a9 u9 K9 hL hcl hA hG hS h0 hK
      replace hL : L9 8 = false := hL
      have q3 : a9.tmps[3]? = some (.agg #[.int .i32 loc]) := hS 0 3 (by decide) rfl (by show 3 < 12; decide)
      have s3 := Rega.eval_of q3
      have q10 : a9.tmps[10]? = some (.iface 195 (.pointer (some ⟨α 6, 0, none⟩))) := hS 7 10 (by decide) rfl (by show 10 < 12; decide)
      have s10 := Rega.eval_of q10
      go_simp
      exact hK _ α _ (fun _ _ => rfl) rfl (step_same (st9) hL hcl rfl rfl hG)
    · intro L9 α a9 u9 K9 hL hcl hA hG hS h0 hK
      replace hL : L9 9 = false := hL
      have q2 : a9.tmps[2]? = some (.pointer (some ⟨B1, 0, none⟩)) := (h0 2 (by kernel_rfl)).trans rfl
      have s2 := Rega.eval_of q2
      have q11 : a9.tmps[11]? = some (.agg #[.iface 195 (.pointer (some ⟨α 6, 0, none⟩)), .int .i32 loc]) := hS 8 11 (by decide) rfl (by show 11 < 12; decide)
      have s11 := Rega.eval_of q11
      have e0 : R9 L9 α 999 = row (B1) 32 #[.nilIface, .int .i32 0] := by
        show rVF1T999 eb ub ln cp loc bx1 bx3 B1 L9 α = _
        unfold rVF1T999
        rw [if_neg (by rw [hL]; decide)]
      have hr := hG.rowAt 999 (act_base 999 rfl) e0
      have c0 : u9.cell? ⟨B1, 0, none⟩ = some (.nilIface) := hr.cell rfl
      have y0 : u9.frozen? ⟨B1, 0, none⟩ = false := hr.free 0
      have c1 : u9.cell? ⟨B1, 1, none⟩ = some (.int .i32 0) := hr.cell rfl
      have y1 : u9.frozen? ⟨B1, 1, none⟩ = false := hr.free 1
      clear hr
      have E0 := Lib.hid e0
      clear e0
      go_simp
      have e1 : R9 (Rega.ran L9 9) α 999 = row (B1) 32 #[.iface 195 (.pointer (some ⟨α 6, 0, none⟩)), .int .i32 loc] := by
        show rVF1T999 eb ub ln cp loc bx1 bx3 B1 (Rega.ran L9 9) α = _
        unfold rVF1T999
        rw [if_pos (show Rega.ran L9 9 9 = true from rfl)]
      exact hK _ α _ (fun _ _ => rfl) rfl (step_sets (st9) hL hcl rfl 999 rfl (act_base 999 rfl) E0.out 0 [.iface 195 (.pointer (some ⟨α 6, 0, none⟩)), .int .i32 loc] (e1.trans rfl) hG)
  clear st9
  intro α u hG
  have e0 : R9 (fun k => decide (k < 10)) α 999 = row (B1) 32 #[.iface 195 (.pointer (some ⟨α 6, 0, none⟩)), .int .i32 loc] := by
    show rVF1T999 eb ub ln cp loc bx1 bx3 B1 (fun k => decide (k < 10)) α = _
    unfold rVF1T999
    rw [if_pos (by decide)]
  have e1 : R9 (fun k => decide (k < 10)) α 1999 = row (bx1) 30 #[.int .i32 loc] := rfl
  have e2 : R9 (fun k => decide (k < 10)) α 2999 = row (bx3) 195 #[.pointer (some ⟨eb, 0, none⟩)] := rfl
  have e3 : R9 (fun k => decide (k < 10)) α 3999 = row (eb) 197 #[.slice (some ⟨ub, 0, none⟩) ln cp, .int .i32 0, .bool false, .bool false, .bool false] := rfl
  have e4 : R9 (fun k => decide (k < 10)) α 6 = row (α 6) 197 #[.slice (some ⟨ub, 0, none⟩) ln cp, .int .i32 0, .bool false, .bool false, .bool false] := rfl
  have hO : Own w0 u [row (B1) 32 #[.iface 195 (.pointer (some ⟨α 6, 0, none⟩)), .int .i32 loc], row (bx1) 30 #[.int .i32 loc], row (bx3) 195 #[.pointer (some ⟨eb, 0, none⟩)], row (eb) 197 #[.slice (some ⟨ub, 0, none⟩) ln cp, .int .i32 0, .bool false, .bool false, .bool false], row (α 6) 197 #[.slice (some ⟨ub, 0, none⟩) ln cp, .int .i32 0, .bool false, .bool false, .bool false]] X := (hG.list [999, 1999, 2999, 3999, 6] (by decide) (act_all (by decide))).conv (by
    show [R9 (fun k => decide (k < 10)) α 999, R9 (fun k => decide (k < 10)) α 1999, R9 (fun k => decide (k < 10)) α 2999, R9 (fun k => decide (k < 10)) α 3999, R9 (fun k => decide (k < 10)) α 6] = _
    rw [e0, e1, e2, e3, e4])
  clear hG e0 e1 e2 e3 e4 R9
  generalize hfr : Rega.frameAt _ _ _ _ _ = fr
  have hdf : fr = ⟨#[.pointer (some ⟨bx1, 0, none⟩), .pointer (some ⟨bx3, 0, none⟩), .pointer (some ⟨B1, 0, none⟩), .agg #[.int .i32 loc], .pointer (some ⟨eb, 0, none⟩), .pointer (some ⟨eb, 0, none⟩), .pointer (some ⟨eb, 0, none⟩), .slice (some ⟨ub, 0, none⟩) ln cp, .agg #[.slice (some ⟨ub, 0, none⟩) ln cp, .int .i32 0, .bool false, .bool false, .bool false], .pointer (some ⟨α 6, 0, none⟩), .iface 195 (.pointer (some ⟨α 6, 0, none⟩)), .agg #[.iface 195 (.pointer (some ⟨α 6, 0, none⟩)), .int .i32 loc]], []⟩ := by rw [← hfr]; kernel_rfl
  clear hfr
  subst hdf
  generalize α 6 = nd3 at hO ⊢
  clear α
  obtain ⟨ix9, hix9, hax9, hjx9⟩ := hO.ix
  have ix9_0 : ix9 B1 = 0 := hjx9 0 _ _ rfl
  have ix9_1 : ix9 bx1 = 1 := hjx9 1 _ _ rfl
  have ix9_2 : ix9 bx3 = 2 := hjx9 2 _ _ rfl
  have ix9_3 : ix9 eb = 3 := hjx9 3 _ _ rfl
  have ix9_4 : ix9 nd3 = 4 := hjx9 4 _ _ rfl
  clear hjx9
  obtain ⟨c9_0_0, c9_0_1, lt9_0, y9_0, -⟩ := hO.k2 0 rfl
  obtain ⟨c9_1_0, lt9_1, y9_1, -⟩ := hO.k1 1 rfl
  obtain ⟨c9_2_0, lt9_2, y9_2, -⟩ := hO.k1 2 rfl
  obtain ⟨c9_3_0, c9_3_1, c9_3_2, c9_3_3, c9_3_4, lt9_3, y9_3, pl9_3⟩ := hO.k5 3 rfl
  obtain ⟨c9_4_0, c9_4_1, c9_4_2, c9_4_3, c9_4_4, lt9_4, y9_4, pl9_4⟩ := hO.k5 4 rfl
  have HO := Lib.hid hO
  clear hO
  go_wp2_with (first | (with_reducible refine Own.stay (fn := Tryz.f61) ?_) | fail)
  try with_reducible refine Own.Stay.mk ?_
  have hO := HO.out
  clear HO hix9 hax9 ix9_0 ix9_1 ix9_2 ix9_3 ix9_4 ix9 c9_0_0 c9_0_1 lt9_0 y9_0 c9_1_0 lt9_1 y9_1 c9_2_0 lt9_2 y9_2 c9_3_0 c9_3_1 c9_3_2 c9_3_3 c9_3_4 lt9_3 y9_3 pl9_3 c9_4_0 c9_4_1 c9_4_2 c9_4_3 c9_4_4 lt9_4 y9_4 pl9_4
  have z9_0_0 : u.cell? ⟨B1, 0, none⟩ = some (.iface 195 (.pointer (some ⟨nd3, 0, none⟩))) := hO.cell 0 rfl 0 rfl
  have z9_0_1 : u.cell? ⟨B1, 1, none⟩ = some (.int .i32 loc) := hO.cell 0 rfl 1 rfl
  refine bodyPost_ret (v := .agg #[.iface 195 (.pointer (some ⟨nd3, 0, none⟩)), .int .i32 loc]) ?_ rfl ⟨nd3, rfl, hO.sub [1, 2, 3, 4] (by decide)⟩
  simp [results, Tryz.results61, go_sem, z9_0_0, z9_0_1]
def capWrapPost (T x : Nat) (l : Int) (bx2 : Nat) (w0 : World) (X : Nat → Obj → Prop) (e : Ending) (w' : World) : Prop :=
  e = .returned (.agg #[.iface T (.pointer (some ⟨x, 0, none⟩)), .int .i32 l]) ∧ Own w0 w' [] X
set_option maxRecDepth 100000 in
set_option maxHeartbeats 1000000 in
theorem capWrap (T x : Nat) (l : Int) (bx2 : Nat) (w0 w : World) (X : Nat → Obj → Prop) (hO : Own w0 w [] X)  :
    Calls Tryz.prog 54 #[.agg #[.iface T (.pointer (some ⟨x, 0, none⟩)), .int .i32 l], .pointer (some ⟨bx2, 0, none⟩)] w (capWrapPost T x l bx2 w0 X) := by
  go_enter Tryz.func54, Tryz.ntmps54
  go_wp2_with (first | (with_reducible refine Own.stay (fn := Tryz.f54) ?_) | fail)
  try with_reducible refine Own.Stay.mk ?_
  generalize hW : World.alloc _ _ = W2
  have hN : Own w0 W2 [row (w.heap.size + 1) 32 #[.iface T (.pointer (some ⟨x, 0, none⟩)), .int .i32 l], row (w.heap.size) 32 #[.iface T (.pointer (some ⟨x, 0, none⟩)), .int .i32 l]] X := by
    rw [← hW]
    exact ((hO).alloc' _ (w.heap.size) (by simp)).alloc' _ (w.heap.size + 1) (by simp)
  clear hW hO
  generalize w.heap.size + 1 = B1_1 at hN ⊢
  generalize w.heap.size = B1 at hN ⊢
  have hO := hN
  clear hN
  have z9_0_0 : W2.cell? ⟨B1_1, 0, none⟩ = some (.iface T (.pointer (some ⟨x, 0, none⟩))) := hO.cell 0 rfl 0 rfl
  have z9_0_1 : W2.cell? ⟨B1_1, 1, none⟩ = some (.int .i32 l) := hO.cell 0 rfl 1 rfl
  refine bodyPost_ret (v := .agg #[.iface T (.pointer (some ⟨x, 0, none⟩)), .int .i32 l]) ?_ rfl ⟨rfl, hO.sub [] (by decide)⟩
  simp [results, Tryz.results54, go_sem, z9_0_0, z9_0_1]
end Go.Proofs.YtkhmjppfogppoaaGreatDoor.Use
