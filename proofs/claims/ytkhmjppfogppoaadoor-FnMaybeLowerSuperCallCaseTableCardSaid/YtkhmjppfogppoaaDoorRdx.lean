/- Readers of row 44. No condition. -/
import Derived.Test.YtkhmjppfogppoaaDoorCall
import Derived.Test.YtkhmjppfogppoaaDoorKit2
import Derived.Test.YtkhmjppfogppoaaDoorKit
import Derived.Test.YtkhmjppfogppoaaDoorLoop
import Derived.Test.YtkhmjppfogppoaaDoorLive
import Derived.Test.YtkhmjppfogppoaaDoorApp
import Derived.Test.YtkhmjppfogppoaaDoorOwnK
import Derived.Test.YtkhmjppfogppoaaDoorOwn
import Derived.Test.YtkhmjppfogppoaaDoorDeepCells
import Derived.Test.YtkhmjppfogppoaaDoorRows
import Derived.Test.YtkhmjppfogppoaaDoorUse
namespace Go.Proofs.YtkhmjppfogppoaaDoor.Use
open Go.ChangeShapes Go.WideShapes Go.ChangeAt Go.RowKit Go.Sort Own
set_option linter.unusedVariables false
theorem _root_.Go.Proofs.YtkhmjppfogppoaaDoor.Own.Own.fcell {w0 w : World} {L : List Rw} {X : Nat → Obj → Prop} (h : Own w0 w L X) {b : Nat} {t : TypeId} {c : Array Value} (hX : X b (.cells c t (0, 0))) (j : Nat) {v : Value} (hv : c[j]? = some v) : w.cell? ⟨b, j, none⟩ = some v := Base.RowAt.cell (show Base.RowAt w b t c from (h.frame b _ hX).2.1) hv

def identOfXPost (ib : Nat) (l rs ri : Int) (w0 : World) (X : Nat → Obj → Prop) (e : Ending) (w' : World) : Prop :=
  e = .returned (.tuple #[.agg #[.int .u32 rs, .int .u32 ri], .bool true]) ∧ Own w0 w' [] X
set_option maxRecDepth 100000 in
set_option maxHeartbeats 1000000 in
theorem identOfX (ib : Nat) (l rs ri : Int) (w0 w : World) (X : Nat → Obj → Prop) (hO : Own w0 w [] X) (hx : X ib (.cells #[.int .u32 rs, .int .u32 ri, .bool false, .bool false, .bool false] 211 (0, 0))) :
    Calls Tryd.prog 26 #[.agg #[.iface 209 (.pointer (some ⟨ib, 0, none⟩)), .int .i32 l]] w (identOfXPost ib l rs ri w0 X) := by
  go_enter Tryd.func26, Tryd.ntmps26
  have fx0_0 : w.cell? ⟨ib, 0, none⟩ = some (.int .u32 rs) := hO.fcell hx 0 rfl
  have fx0_1 : w.cell? ⟨ib, 1, none⟩ = some (.int .u32 ri) := hO.fcell hx 1 rfl
  have fx0_2 : w.cell? ⟨ib, 2, none⟩ = some (.bool false) := hO.fcell hx 2 rfl
  have fx0_3 : w.cell? ⟨ib, 3, none⟩ = some (.bool false) := hO.fcell hx 3 rfl
  have fx0_4 : w.cell? ⟨ib, 4, none⟩ = some (.bool false) := hO.fcell hx 4 rfl
  go_wp2_with (first | (with_reducible refine Own.stay (fn := Tryd.f26) ?_) | fail)
  try with_reducible refine Own.Stay.mk ?_
  have HO := Lib.hid hO
  clear hO
  have hO := HO.out
  clear HO fx0_0 fx0_1 fx0_2 fx0_3 fx0_4
  generalize hW : World.alloc _ _ = W2
  have hN : Own w0 W2 [row (w.heap.size + 1) 25 #[.int .u32 rs, .int .u32 ri], row (w.heap.size) 35 #[.iface 209 (.pointer (some ⟨ib, 0, none⟩)), .int .i32 l]] X := by
    rw [← hW]
    exact ((hO).alloc' _ (w.heap.size) (by simp)).alloc' _ (w.heap.size + 1) (by simp)
  clear hW hO
  generalize w.heap.size + 1 = B1_1 at hN ⊢
  generalize w.heap.size = B1 at hN ⊢
  have hO := hN
  clear hN
  have z9_0_0 : W2.cell? ⟨B1_1, 0, none⟩ = some (.int .u32 rs) := hO.cell 0 rfl 0 rfl
  have z9_0_1 : W2.cell? ⟨B1_1, 1, none⟩ = some (.int .u32 ri) := hO.cell 0 rfl 1 rfl
  refine bodyPost_ret (v := .tuple #[.agg #[.int .u32 rs, .int .u32 ri], .bool true]) ?_ rfl ⟨rfl, hO.sub [] (by decide)⟩
  simp [results, Tryd.results26, go_sem, z9_0_0, z9_0_1]
noncomputable def rindexOf1E (tg : Nat) (tT : Nat) (tb : Nat) (l2 : Int) (kT : Nat) (kb : Nat) (l3 : Int) (l : Int) (B1_2 : Nat) (B1_1 : Nat) (B1 : Nat) : Nat → Rega.Atoms → Value
  | 0, α => .pointer (some ⟨tg, 0, none⟩)
  | 1, α => .pointer (some ⟨tg, 0, none⟩)
  | 2, α => .pointer (some ⟨tg, 0, none⟩)
  | 3, α => .agg #[.iface tT (.pointer (some ⟨tb, 0, none⟩)), .int .i32 l2]
  | 4, α => .pointer (some ⟨tg, 0, none⟩)
  | 5, α => .pointer (some ⟨tg, 0, none⟩)
  | 6, α => .pointer (some ⟨tg, 2, none⟩)
  | 7, α => .agg #[.iface kT (.pointer (some ⟨kb, 0, none⟩)), .int .i32 l3]
  | 8, α => undef
  | 9, α => undef
  | 10, α => .bool true
  | _, _ => undef
noncomputable def rindexOf1Anc : Nat → List Nat
  | 1 => [0]
  | 2 => [0, 1]
  | 3 => [0, 1, 2]
  | 5 => [4]
  | 6 => [4, 5]
  | 7 => [4, 5, 6]
  | 8 => [0, 1, 2, 3]
  | 9 => [0, 1, 2, 3, 4, 5, 6, 7, 8]
  | 10 => [0, 1, 2, 3, 4, 5, 6, 7, 8, 9]
  | _ => []
noncomputable def rindexOf1Trn : Nat → List Nat
  | 8 => [1999]
  | 9 => [999]
  | _ => []
noncomputable def rindexOf1Cnt : List (Nat × Nat) := []
noncomputable def rindexOf1T999 (tg : Nat) (tT : Nat) (tb : Nat) (l2 : Int) (kT : Nat) (kb : Nat) (l3 : Int) (l : Int) (B1_2 : Nat) (B1_1 : Nat) (B1 : Nat) (L9 : Nat → Bool) (α : Rega.Atoms) : Rw := if L9 9 = true then row (B1_2) 35 #[.iface kT (.pointer (some ⟨kb, 0, none⟩)), .int .i32 l3] else row (B1_2) 35 #[.nilIface, .int .i32 0]
noncomputable def rindexOf1T1999 (tg : Nat) (tT : Nat) (tb : Nat) (l2 : Int) (kT : Nat) (kb : Nat) (l3 : Int) (l : Int) (B1_2 : Nat) (B1_1 : Nat) (B1 : Nat) (L9 : Nat → Bool) (α : Rega.Atoms) : Rw := if L9 8 = true then row (B1_1) 35 #[.iface tT (.pointer (some ⟨tb, 0, none⟩)), .int .i32 l2] else row (B1_1) 35 #[.nilIface, .int .i32 0]
noncomputable def rindexOf1R (tg : Nat) (tT : Nat) (tb : Nat) (l2 : Int) (kT : Nat) (kb : Nat) (l3 : Int) (l : Int) (B1_2 : Nat) (B1_1 : Nat) (B1 : Nat) (L9 : Nat → Bool) (α : Rega.Atoms) (ix9 : Nat) : Rw := if ix9 = 999 then rindexOf1T999 tg tT tb l2 kT kb l3 l B1_2 B1_1 B1 L9 α else if ix9 = 1999 then rindexOf1T1999 tg tT tb l2 kT kb l3 l B1_2 B1_1 B1 L9 α else if ix9 = 2999 then row (B1) 35 #[.iface 231 (.pointer (some ⟨tg, 0, none⟩)), .int .i32 l] else if ix9 = 3999 then row (tg) 234 #[.iface tT (.pointer (some ⟨tb, 0, none⟩)), .int .i32 l2, .iface kT (.pointer (some ⟨kb, 0, none⟩)), .int .i32 l3, .int .i32 0, .int .u8 0, .bool false, .bool false, .bool false] else (0, .map #[] 0)
theorem rindexOf1_he (tg : Nat) (tT : Nat) (tb : Nat) (l2 : Int) (kT : Nat) (kb : Nat) (l3 : Int) (l : Int) (B1_2 : Nat) (B1_1 : Nat) (B1 : Nat) : ∀ kk α α', (∀ j, (j % 1000 = kk ∨ j % 1000 ∈ rindexOf1Anc kk) → α j = α' j) → rindexOf1E tg tT tb l2 kT kb l3 l B1_2 B1_1 B1 kk α = rindexOf1E tg tT tb l2 kT kb l3 l B1_2 B1_1 B1 kk α' := by
  intro kk α α' h
  match kk with
  | 0 => rfl
  | 1 => rfl
  | 2 => rfl
  | 3 => rfl
  | 4 => rfl
  | 5 => rfl
  | 6 => rfl
  | 7 => rfl
  | 8 => rfl
  | 9 => rfl
  | 10 => rfl
  | n + 11 => rfl
theorem rindexOf1_st (tg : Nat) (tT : Nat) (tb : Nat) (l2 : Int) (kT : Nat) (kb : Nat) (l3 : Int) (l : Int) (B1_2 : Nat) (B1_1 : Nat) (B1 : Nat) : Stable rindexOf1Cnt 4 rindexOf1Anc rindexOf1Trn (rindexOf1R tg tT tb l2 kT kb l3 l B1_2 B1_1 B1) := by
  intro k9 L9 α α' ix9 hk hcl hα hact ht
  have hp := act_places hact
  replace hp : ix9 ∈ [999, 1999, 2999, 3999] := hp
  simp only [List.mem_cons, List.not_mem_nil, or_false] at hp
  rcases hp with rfl | rfl | rfl | rfl
  · show rindexOf1T999 tg tT tb l2 kT kb l3 l B1_2 B1_1 B1 (Rega.ran L9 k9) α' = rindexOf1T999 tg tT tb l2 kT kb l3 l B1_2 B1_1 B1 L9 α
    unfold rindexOf1T999
    have n9 : 9 ≠ k9 := fun e => ht (by rw [← e]; decide)
    rw [ran_ne n9]
  · show rindexOf1T1999 tg tT tb l2 kT kb l3 l B1_2 B1_1 B1 (Rega.ran L9 k9) α' = rindexOf1T1999 tg tT tb l2 kT kb l3 l B1_2 B1_1 B1 L9 α
    unfold rindexOf1T1999
    have n8 : 8 ≠ k9 := fun e => ht (by rw [← e]; decide)
    rw [ran_ne n8]
  · rfl
  · rfl
def indexOfPost (tg tT tb : Nat) (l2 : Int) (kT kb : Nat) (l3 l : Int) (w0 : World) (X : Nat → Obj → Prop) (e : Ending) (w' : World) : Prop :=
  e = .returned (.tuple #[.agg #[.iface tT (.pointer (some ⟨tb, 0, none⟩)), .int .i32 l2], .agg #[.iface kT (.pointer (some ⟨kb, 0, none⟩)), .int .i32 l3], .bool true]) ∧ Own w0 w' [row (tg) 234 #[.iface tT (.pointer (some ⟨tb, 0, none⟩)), .int .i32 l2, .iface kT (.pointer (some ⟨kb, 0, none⟩)), .int .i32 l3, .int .i32 0, .int .u8 0, .bool false, .bool false, .bool false]] X
set_option maxRecDepth 100000 in
set_option maxHeartbeats 1000000 in
theorem indexOf (tg tT tb : Nat) (l2 : Int) (kT kb : Nat) (l3 l : Int) (w0 w : World) (X : Nat → Obj → Prop) (hO : Own w0 w [row (tg) 234 #[.iface tT (.pointer (some ⟨tb, 0, none⟩)), .int .i32 l2, .iface kT (.pointer (some ⟨kb, 0, none⟩)), .int .i32 l3, .int .i32 0, .int .u8 0, .bool false, .bool false, .bool false]] X)  :
    Calls Tryd.prog 34 #[.agg #[.iface 231 (.pointer (some ⟨tg, 0, none⟩)), .int .i32 l]] w (indexOfPost tg tT tb l2 kT kb l3 l w0 X) := by
  go_enter Tryd.func34, Tryd.ntmps34
  obtain ⟨c9_0_0, c9_0_1, c9_0_2, c9_0_3, c9_0_4, c9_0_5, c9_0_6, c9_0_7, c9_0_8, lt9_0, y9_0, -⟩ := hO.k9 0 rfl
  have HO := Lib.hid hO
  clear hO
  go_wp2_with (first | (with_reducible refine Own.stay (fn := Tryd.f34) ?_) | fail)
  try with_reducible refine Own.Stay.mk ?_
  have hO := HO.out
  clear HO c9_0_0 c9_0_1 c9_0_2 c9_0_3 c9_0_4 c9_0_5 c9_0_6 c9_0_7 c9_0_8 lt9_0 y9_0
  generalize hW : World.alloc _ _ = W2
  have hN : Own w0 W2 [row (w.heap.size + 1 + 1) 35 #[.nilIface, .int .i32 0], row (w.heap.size + 1) 35 #[.nilIface, .int .i32 0], row (w.heap.size) 35 #[.iface 231 (.pointer (some ⟨tg, 0, none⟩)), .int .i32 l], row (tg) 234 #[.iface tT (.pointer (some ⟨tb, 0, none⟩)), .int .i32 l2, .iface kT (.pointer (some ⟨kb, 0, none⟩)), .int .i32 l3, .int .i32 0, .int .u8 0, .bool false, .bool false, .bool false]] X := by
    rw [← hW]
    exact (((hO).alloc' _ (w.heap.size) (by simp)).alloc' _ (w.heap.size + 1) (by simp)).alloc' _ (w.heap.size + 1 + 1) (by simp)
  clear hW hO
  generalize w.heap.size + 1 + 1 = B1_2 at hN ⊢
  generalize w.heap.size + 1 = B1_1 at hN ⊢
  generalize w.heap.size = B1 at hN ⊢
  have hO := hN
  clear hN
  have st9 := rindexOf1_st tg tT tb l2 kT kb l3 l B1_2 B1_1 B1
  let R9 := rindexOf1R tg tT tb l2 kT kb l3 l B1_2 B1_1 B1
  refine wp_region_own (e := rindexOf1E tg tT tb l2 kT kb l3 l B1_2 B1_1 B1) (anc := rindexOf1Anc) (G := (fun L9 α u9 => OwnF w0 u9 (act rindexOf1Cnt 4 L9) (rindexOf1R tg tT tb l2 kT kb l3 l B1_2 B1_1 B1 L9 α) X)) (by kernel_rfl) (by kernel_rfl) (by kernel_rfl) (by kernel_rfl) (rindexOf1_he tg tT tb l2 kT kb l3 l B1_2 B1_1 B1) ?_ (RunsAll.all ?_) ?_
  · have hp : ∀ i, act rindexOf1Cnt 4 (fun _ => false) i → i ∈ [999, 1999, 2999, 3999] := by
      intro i hi
      have h9 : i % 1000 = 999 := by
        by_cases h : i % 1000 = 999
        · exact h
        · exact absurd (act_lt hi h) (by simp)
      unfold act at hi
      rw [if_pos h9] at hi
      simp only [List.mem_cons, List.not_mem_nil, or_false]
      omega
    refine hO.drew.family (fun i hi => ?_) (fun i j hi hj hij => ?_)
    · have := hp i hi
      simp only [List.mem_cons, List.not_mem_nil, or_false] at this
      rcases this with rfl | rfl | rfl | rfl <;> rfl
    · have h1 := hp i hi
      have h2 := hp j hj
      simp only [List.mem_cons, List.not_mem_nil, or_false] at h1 h2
      omega
  · refine ⟨?_, ?_, ?_, ?_, ?_, ?_, ?_, ?_, ?_, ?_, ?_, trivial⟩
    · intro L9 α a9 u9 K9 hL hcl hA hG hS h0 hK
      replace hL : L9 0 = false := hL
      have q5 : a9.tmps[5]? = some (.pointer (some ⟨tg, 0, none⟩)) := (h0 5 (by kernel_rfl)).trans rfl
      have s5 := Rega.eval_of q5
      go_simp
      exact hK _ α _ (fun _ _ => rfl) rfl (step_same (st9) hL hcl rfl rfl hG)
    · intro L9 α a9 u9 K9 hL hcl hA hG hS h0 hK
      replace hL : L9 1 = false := hL
      have q17 : a9.tmps[17]? = some (.pointer (some ⟨tg, 0, none⟩)) := hS 0 17 (by decide) rfl (by show 17 < 25; decide)
      have s17 := Rega.eval_of q17
      go_simp
      exact hK _ α _ (fun _ _ => rfl) rfl (step_same (st9) hL hcl rfl rfl hG)
    · intro L9 α a9 u9 K9 hL hcl hA hG hS h0 hK
      replace hL : L9 2 = false := hL
      have q18 : a9.tmps[18]? = some (.pointer (some ⟨tg, 0, none⟩)) := hS 1 18 (by decide) rfl (by show 18 < 25; decide)
      have s18 := Rega.eval_of q18
      go_simp
      exact hK _ α _ (fun _ _ => rfl) rfl (step_same (st9) hL hcl rfl rfl hG)
    · intro L9 α a9 u9 K9 hL hcl hA hG hS h0 hK
      replace hL : L9 3 = false := hL
      have q19 : a9.tmps[19]? = some (.pointer (some ⟨tg, 0, none⟩)) := hS 2 19 (by decide) rfl (by show 19 < 25; decide)
      have s19 := Rega.eval_of q19
      have e0 : R9 L9 α 3999 = row (tg) 234 #[.iface tT (.pointer (some ⟨tb, 0, none⟩)), .int .i32 l2, .iface kT (.pointer (some ⟨kb, 0, none⟩)), .int .i32 l3, .int .i32 0, .int .u8 0, .bool false, .bool false, .bool false] := rfl
      have hr := hG.rowAt 3999 (act_base 3999 rfl) e0
      have c0 : u9.cell? ⟨tg, 0, none⟩ = some (.iface tT (.pointer (some ⟨tb, 0, none⟩))) := hr.cell rfl
      have c1 : u9.cell? ⟨tg, 1, none⟩ = some (.int .i32 l2) := hr.cell rfl
      clear hr e0
      go_simp
      exact hK _ α _ (fun _ _ => rfl) rfl (step_same (st9) hL hcl rfl rfl hG)
    · intro L9 α a9 u9 K9 hL hcl hA hG hS h0 hK
      replace hL : L9 4 = false := hL
      have q5 : a9.tmps[5]? = some (.pointer (some ⟨tg, 0, none⟩)) := (h0 5 (by kernel_rfl)).trans rfl
      have s5 := Rega.eval_of q5
      go_simp
      exact hK _ α _ (fun _ _ => rfl) rfl (step_same (st9) hL hcl rfl rfl hG)
    · intro L9 α a9 u9 K9 hL hcl hA hG hS h0 hK
      replace hL : L9 5 = false := hL
      have q21 : a9.tmps[21]? = some (.pointer (some ⟨tg, 0, none⟩)) := hS 4 21 (by decide) rfl (by show 21 < 25; decide)
      have s21 := Rega.eval_of q21
      go_simp
      exact hK _ α _ (fun _ _ => rfl) rfl (step_same (st9) hL hcl rfl rfl hG)
    · intro L9 α a9 u9 K9 hL hcl hA hG hS h0 hK
      replace hL : L9 6 = false := hL
      have q22 : a9.tmps[22]? = some (.pointer (some ⟨tg, 0, none⟩)) := hS 5 22 (by decide) rfl (by show 22 < 25; decide)
      have s22 := Rega.eval_of q22
      go_simp
      exact hK _ α _ (fun _ _ => rfl) rfl (step_same (st9) hL hcl rfl rfl hG)
    · intro L9 α a9 u9 K9 hL hcl hA hG hS h0 hK
      replace hL : L9 7 = false := hL
      have q23 : a9.tmps[23]? = some (.pointer (some ⟨tg, 2, none⟩)) := hS 6 23 (by decide) rfl (by show 23 < 25; decide)
      have s23 := Rega.eval_of q23
      have e0 : R9 L9 α 3999 = row (tg) 234 #[.iface tT (.pointer (some ⟨tb, 0, none⟩)), .int .i32 l2, .iface kT (.pointer (some ⟨kb, 0, none⟩)), .int .i32 l3, .int .i32 0, .int .u8 0, .bool false, .bool false, .bool false] := rfl
      have hr := hG.rowAt 3999 (act_base 3999 rfl) e0
      have c0 : u9.cell? ⟨tg, 2, none⟩ = some (.iface kT (.pointer (some ⟨kb, 0, none⟩))) := hr.cell rfl
      have c1 : u9.cell? ⟨tg, 3, none⟩ = some (.int .i32 l3) := hr.cell rfl
      clear hr e0
      go_simp
      exact hK _ α _ (fun _ _ => rfl) rfl (step_same (st9) hL hcl rfl rfl hG)
    · intro L9 α a9 u9 K9 hL hcl hA hG hS h0 hK
      replace hL : L9 8 = false := hL
      have q2 : a9.tmps[2]? = some (.pointer (some ⟨B1_1, 0, none⟩)) := (h0 2 (by kernel_rfl)).trans rfl
      have s2 := Rega.eval_of q2
      have q20 : a9.tmps[20]? = some (.agg #[.iface tT (.pointer (some ⟨tb, 0, none⟩)), .int .i32 l2]) := hS 3 20 (by decide) rfl (by show 20 < 25; decide)
      have s20 := Rega.eval_of q20
      have e0 : R9 L9 α 1999 = row (B1_1) 35 #[.nilIface, .int .i32 0] := by
        show rindexOf1T1999 tg tT tb l2 kT kb l3 l B1_2 B1_1 B1 L9 α = _
        unfold rindexOf1T1999
        rw [if_neg (by rw [hL]; decide)]
      have hr := hG.rowAt 1999 (act_base 1999 rfl) e0
      have c0 : u9.cell? ⟨B1_1, 0, none⟩ = some (.nilIface) := hr.cell rfl
      have y0 : u9.frozen? ⟨B1_1, 0, none⟩ = false := hr.free (0)
      have c1 : u9.cell? ⟨B1_1, 1, none⟩ = some (.int .i32 0) := hr.cell rfl
      have y1 : u9.frozen? ⟨B1_1, 1, none⟩ = false := hr.free (1)
      clear hr
      have E0 := Lib.hid e0
      clear e0
      go_simp
      have e1 : R9 (Rega.ran L9 8) α 1999 = row (B1_1) 35 #[.iface tT (.pointer (some ⟨tb, 0, none⟩)), .int .i32 l2] := by
        show rindexOf1T1999 tg tT tb l2 kT kb l3 l B1_2 B1_1 B1 (Rega.ran L9 8) α = _
        unfold rindexOf1T1999
        rw [if_pos (show Rega.ran L9 8 8 = true from rfl)]
      exact hK _ α _ (fun _ _ => rfl) rfl (step_sets (st9) hL hcl rfl 1999 rfl (act_base 1999 rfl) E0.out (0) [.iface tT (.pointer (some ⟨tb, 0, none⟩)), .int .i32 l2] (e1.trans rfl) hG)
    · intro L9 α a9 u9 K9 hL hcl hA hG hS h0 hK
      replace hL : L9 9 = false := hL
      have q3 : a9.tmps[3]? = some (.pointer (some ⟨B1_2, 0, none⟩)) := (h0 3 (by kernel_rfl)).trans rfl
      have s3 := Rega.eval_of q3
      have q24 : a9.tmps[24]? = some (.agg #[.iface kT (.pointer (some ⟨kb, 0, none⟩)), .int .i32 l3]) := hS 7 24 (by decide) rfl (by show 24 < 25; decide)
      have s24 := Rega.eval_of q24
      have e0 : R9 L9 α 999 = row (B1_2) 35 #[.nilIface, .int .i32 0] := by
        show rindexOf1T999 tg tT tb l2 kT kb l3 l B1_2 B1_1 B1 L9 α = _
        unfold rindexOf1T999
        rw [if_neg (by rw [hL]; decide)]
      have hr := hG.rowAt 999 (act_base 999 rfl) e0
      have c0 : u9.cell? ⟨B1_2, 0, none⟩ = some (.nilIface) := hr.cell rfl
      have y0 : u9.frozen? ⟨B1_2, 0, none⟩ = false := hr.free (0)
      have c1 : u9.cell? ⟨B1_2, 1, none⟩ = some (.int .i32 0) := hr.cell rfl
      have y1 : u9.frozen? ⟨B1_2, 1, none⟩ = false := hr.free (1)
      clear hr
      have E0 := Lib.hid e0
      clear e0
      go_simp
      have e1 : R9 (Rega.ran L9 9) α 999 = row (B1_2) 35 #[.iface kT (.pointer (some ⟨kb, 0, none⟩)), .int .i32 l3] := by
        show rindexOf1T999 tg tT tb l2 kT kb l3 l B1_2 B1_1 B1 (Rega.ran L9 9) α = _
        unfold rindexOf1T999
        rw [if_pos (show Rega.ran L9 9 9 = true from rfl)]
      exact hK _ α _ (fun _ _ => rfl) rfl (step_sets (st9) hL hcl rfl 999 rfl (act_base 999 rfl) E0.out (0) [.iface kT (.pointer (some ⟨kb, 0, none⟩)), .int .i32 l3] (e1.trans rfl) hG)
    · intro L9 α a9 u9 K9 hL hcl hA hG hS h0 hK
      replace hL : L9 10 = false := hL
      go_simp
      exact hK _ α _ (fun _ _ => rfl) rfl (step_same (st9) hL hcl rfl rfl hG)
  clear st9
  intro α u hG
  have e0 : R9 (fun k => decide (k < 11)) α 999 = row (B1_2) 35 #[.iface kT (.pointer (some ⟨kb, 0, none⟩)), .int .i32 l3] := by
    show rindexOf1T999 tg tT tb l2 kT kb l3 l B1_2 B1_1 B1 (fun k => decide (k < 11)) α = _
    unfold rindexOf1T999
    rw [if_pos (by decide)]
  have e1 : R9 (fun k => decide (k < 11)) α 1999 = row (B1_1) 35 #[.iface tT (.pointer (some ⟨tb, 0, none⟩)), .int .i32 l2] := by
    show rindexOf1T1999 tg tT tb l2 kT kb l3 l B1_2 B1_1 B1 (fun k => decide (k < 11)) α = _
    unfold rindexOf1T1999
    rw [if_pos (by decide)]
  have e2 : R9 (fun k => decide (k < 11)) α 2999 = row (B1) 35 #[.iface 231 (.pointer (some ⟨tg, 0, none⟩)), .int .i32 l] := rfl
  have e3 : R9 (fun k => decide (k < 11)) α 3999 = row (tg) 234 #[.iface tT (.pointer (some ⟨tb, 0, none⟩)), .int .i32 l2, .iface kT (.pointer (some ⟨kb, 0, none⟩)), .int .i32 l3, .int .i32 0, .int .u8 0, .bool false, .bool false, .bool false] := rfl
  have hO : Own w0 u [row (B1_2) 35 #[.iface kT (.pointer (some ⟨kb, 0, none⟩)), .int .i32 l3], row (B1_1) 35 #[.iface tT (.pointer (some ⟨tb, 0, none⟩)), .int .i32 l2], row (B1) 35 #[.iface 231 (.pointer (some ⟨tg, 0, none⟩)), .int .i32 l], row (tg) 234 #[.iface tT (.pointer (some ⟨tb, 0, none⟩)), .int .i32 l2, .iface kT (.pointer (some ⟨kb, 0, none⟩)), .int .i32 l3, .int .i32 0, .int .u8 0, .bool false, .bool false, .bool false]] X := (hG.list [999, 1999, 2999, 3999] (by decide) (act_all (by decide))).conv (by
    show [R9 (fun k => decide (k < 11)) α 999, R9 (fun k => decide (k < 11)) α 1999, R9 (fun k => decide (k < 11)) α 2999, R9 (fun k => decide (k < 11)) α 3999] = _
    rw [e0, e1, e2, e3])
  clear hG e0 e1 e2 e3 R9
  generalize hfr : Rega.frameAt _ _ _ _ _ = fr
  have hdf : fr = ⟨#[.agg #[.iface 231 (.pointer (some ⟨tg, 0, none⟩)), .int .i32 l], .pointer (some ⟨B1, 0, none⟩), .pointer (some ⟨B1_1, 0, none⟩), .pointer (some ⟨B1_2, 0, none⟩), .bool true, .pointer (some ⟨tg, 0, none⟩), .bool true, .tuple #[.pointer (some ⟨tg, 0, none⟩), .bool true], .pointer (some ⟨B1, 0, none⟩), .iface 231 (.pointer (some ⟨tg, 0, none⟩)), .tuple #[.pointer (some ⟨tg, 0, none⟩), .bool true], .pointer (some ⟨tg, 0, none⟩), .bool true, .bool true, .bool false, undef, undef, .pointer (some ⟨tg, 0, none⟩), .pointer (some ⟨tg, 0, none⟩), .pointer (some ⟨tg, 0, none⟩), .agg #[.iface tT (.pointer (some ⟨tb, 0, none⟩)), .int .i32 l2], .pointer (some ⟨tg, 0, none⟩), .pointer (some ⟨tg, 0, none⟩), .pointer (some ⟨tg, 2, none⟩), .agg #[.iface kT (.pointer (some ⟨kb, 0, none⟩)), .int .i32 l3]], []⟩ := by rw [← hfr]; kernel_rfl
  clear hfr
  subst hdf
  clear α
  obtain ⟨c9_0_0, c9_0_1, lt9_0, y9_0, -⟩ := hO.k2 0 rfl
  obtain ⟨c9_1_0, c9_1_1, lt9_1, y9_1, -⟩ := hO.k2 1 rfl
  obtain ⟨c9_2_0, c9_2_1, lt9_2, y9_2, -⟩ := hO.k2 2 rfl
  obtain ⟨c9_3_0, c9_3_1, c9_3_2, c9_3_3, c9_3_4, c9_3_5, c9_3_6, c9_3_7, c9_3_8, lt9_3, y9_3, -⟩ := hO.k9 3 rfl
  have HO := Lib.hid hO
  clear hO
  go_wp2_with (first | (with_reducible refine Own.stay (fn := Tryd.f34) ?_) | fail)
  try with_reducible refine Own.Stay.mk ?_
  have hO := HO.out
  clear HO c9_0_0 c9_0_1 lt9_0 y9_0 c9_1_0 c9_1_1 lt9_1 y9_1 c9_2_0 c9_2_1 lt9_2 y9_2 c9_3_0 c9_3_1 c9_3_2 c9_3_3 c9_3_4 c9_3_5 c9_3_6 c9_3_7 c9_3_8 lt9_3 y9_3
  have z9_1_0 : u.cell? ⟨B1_1, 0, none⟩ = some (.iface tT (.pointer (some ⟨tb, 0, none⟩))) := hO.cell 1 rfl 0 rfl
  have z9_1_1 : u.cell? ⟨B1_1, 1, none⟩ = some (.int .i32 l2) := hO.cell 1 rfl 1 rfl
  have z9_0_0 : u.cell? ⟨B1_2, 0, none⟩ = some (.iface kT (.pointer (some ⟨kb, 0, none⟩))) := hO.cell 0 rfl 0 rfl
  have z9_0_1 : u.cell? ⟨B1_2, 1, none⟩ = some (.int .i32 l3) := hO.cell 0 rfl 1 rfl
  refine bodyPost_ret (v := .tuple #[.agg #[.iface tT (.pointer (some ⟨tb, 0, none⟩)), .int .i32 l2], .agg #[.iface kT (.pointer (some ⟨kb, 0, none⟩)), .int .i32 l3], .bool true]) ?_ rfl ⟨rfl, hO.sub [3] (by decide)⟩
  simp [results, Tryd.results34, go_sem, z9_1_0, z9_1_1, z9_0_0, z9_0_1]
def isSuperOPost (b : Nat) (l : Int) (w0 : World) (X : Nat → Obj → Prop) (e : Ending) (w' : World) : Prop :=
  e = .returned (.bool true) ∧ Own w0 w' [] X
set_option maxRecDepth 100000 in
set_option maxHeartbeats 1000000 in
theorem isSuperO (b : Nat) (l : Int) (w0 w : World) (X : Nat → Obj → Prop) (hO : Own w0 w [] X)  :
    Calls Tryd.prog 33 #[.agg #[.iface 229 (.pointer (some ⟨b, 0, none⟩)), .int .i32 l]] w (isSuperOPost b l w0 X) := by
  go_enter Tryd.func33, Tryd.ntmps33
  go_wp2_with (first | (with_reducible refine Own.stay (fn := Tryd.f33) ?_) | fail)
  try with_reducible refine Own.Stay.mk ?_
  generalize hW : World.alloc _ _ = W2
  have hN : Own w0 W2 [row (w.heap.size) 35 #[.iface 229 (.pointer (some ⟨b, 0, none⟩)), .int .i32 l]] X := by
    rw [← hW]
    exact (hO).alloc' _ (w.heap.size) (by simp)
  clear hW hO
  generalize w.heap.size = B1 at hN ⊢
  have hO := hN
  clear hN
  refine bodyPost_ret (v := .bool true) ?_ rfl ⟨rfl, hO.sub [] (by decide)⟩
  simp [results, Tryd.results33, go_sem]
theorem args_at0 {loc : Int} {blk : Nat → Nat} {n i : Nat} (h : i < n) : (args loc blk n)[i * 2]? = some (.iface 209 (.pointer (some ⟨(blk i), 0, none⟩))) := by
  have := tab_at (argL_len loc blk) h (o := 0) rfl
  rwa [Nat.add_zero] at this
theorem args_at1 {loc : Int} {blk : Nat → Nat} {n i : Nat} (h : i < n) : (args loc blk n)[i * 2 + 1]? = some (.int .i32 loc) := tab_at (argL_len loc blk) h (o := 1) rfl
theorem argsAtZ0 {loc : Int} {blk : Nat → Nat} {n i : Nat} (h : i < n) : (args loc blk n).toArray[(0 + i) * 2]? = some (.iface 209 (.pointer (some ⟨(blk i), 0, none⟩))) := by
  rw [Nat.zero_add, List.getElem?_toArray]
  exact args_at0 h
theorem argsAtZ1 {loc : Int} {blk : Nat → Nat} {n i : Nat} (h : i < n) : (args loc blk n).toArray[(0 + i) * 2 + 1]? = some (.int .i32 loc) := by
  rw [Nat.zero_add, List.getElem?_toArray]
  exact args_at1 h
theorem argsAt0 {loc : Int} {blk : Nat → Nat} {n i c : Nat} {u v : Value} (h : i < n) : (full exprZ ([u, v] ++ args loc blk n) c)[(1 + i) * 2]? = some (.iface 209 (.pointer (some ⟨(blk i), 0, none⟩))) := by
  refine full_at ?_
  rw [show (1 + i) * 2 = i * 2 + 2 by omega]
  exact args_at0 h
theorem argsAt1 {loc : Int} {blk : Nat → Nat} {n i c : Nat} {u v : Value} (h : i < n) : (full exprZ ([u, v] ++ args loc blk n) c)[(1 + i) * 2 + 1]? = some (.int .i32 loc) := by
  refine full_at ?_
  rw [show (1 + i) * 2 + 1 = (i * 2 + 1) + 2 by omega]
  exact args_at1 h

end Go.Proofs.YtkhmjppfogppoaaDoor.Use
