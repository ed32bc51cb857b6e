/- Shapes and nodes compared. No condition. -/
import Derived.Test.YtcbdjbjbikiaeaaDoorOwn
import Derived.Test.YtcbdjbjbikiaeaaDoorDeepCells
import Derived.Test.YtcbdjbjbikiaeaaDoorRows
import Derived.Test.YtcbdjbjbikiaeaaDoorDead
namespace Go.Proofs.YtcbdjbjbikiaeaaDoor.Use
open Go.ChangeShapes Go.WideShapes Go.ChangeAt Go.RowKit Go.Sort Own
set_option linter.unusedVariables false
def rSshapeI41E (a1 : Nat) (a2 : Nat) (l : Int) (rs : Int) (ri : Int) (B1_4 : Nat) (B1_3 : Nat) (B1_2 : Nat) (B1_1 : Nat) (B1 : Nat) : Nat → Rega.Atoms → Value
  | 0, α => .pointer (some ⟨a2, 0, none⟩)
  | 1, α => .bool true
  | 2, α => .bool true
  | 3, α => .pointer (some ⟨a1, 0, none⟩)
  | 4, α => .pointer (some ⟨a1, 0, none⟩)
  | 5, α => .pointer (some ⟨a1, 0, none⟩)
  | 6, α => .agg #[.int .u32 rs, .int .u32 ri]
  | 7, α => .pointer (some ⟨a2, 0, none⟩)
  | 8, α => .pointer (some ⟨a2, 0, none⟩)
  | 9, α => .pointer (some ⟨a2, 0, none⟩)
  | 10, α => .agg #[.int .u32 rs, .int .u32 ri]
  | 11, α => .bool true
  | 12, α => .bool true
  | 13, α => .bool true
  | _, _ => undef
def rSshapeI41Anc : Nat → List Nat
  | 1 => [0]
  | 2 => [0, 1]
  | 3 => [0, 1, 2]
  | 4 => [0, 1, 2, 3]
  | 5 => [0, 1, 2, 3, 4]
  | 6 => [0, 1, 2, 3, 4, 5]
  | 7 => [0, 1, 2]
  | 8 => [0, 1, 2, 7]
  | 9 => [0, 1, 2, 7, 8]
  | 10 => [0, 1, 2, 7, 8, 9]
  | 11 => [0, 1, 2, 3, 4, 5, 6, 7, 8, 9, 10]
  | 12 => [0, 1, 2, 3, 4, 5, 6, 7, 8, 9, 10, 11]
  | 13 => [0, 1, 2, 3, 4, 5, 6, 7, 8, 9, 10, 11, 12]
  | _ => []
def rSshapeI41Trn : Nat → List Nat
  | _ => []
def rSshapeI41Cnt : List (Nat × Nat) := []
def rSshapeI41R (a1 : Nat) (a2 : Nat) (l : Int) (rs : Int) (ri : Int) (B1_4 : Nat) (B1_3 : Nat) (B1_2 : Nat) (B1_1 : Nat) (B1 : Nat) (L9 : Nat → Bool) (α : Rega.Atoms) (ix9 : Nat) : Rw := if ix9 = 999 then row (B1_4) 30 #[.iface 220 (.pointer (some ⟨a2, 0, none⟩)), .int .i32 l] else if ix9 = 1999 then row (B1_3) 30 #[.iface 220 (.pointer (some ⟨a1, 0, none⟩)), .int .i32 l] else if ix9 = 2999 then row (B1_2) 30 #[.iface 220 (.pointer (some ⟨a1, 0, none⟩)), .int .i32 l] else if ix9 = 3999 then row (B1_1) 30 #[.iface 220 (.pointer (some ⟨a2, 0, none⟩)), .int .i32 l] else if ix9 = 4999 then row (B1) 30 #[.iface 220 (.pointer (some ⟨a1, 0, none⟩)), .int .i32 l] else if ix9 = 5999 then row (a1) 223 #[.int .u32 rs, .int .u32 ri, .bool false, .bool false, .bool false] else if ix9 = 6999 then row (a2) 223 #[.int .u32 rs, .int .u32 ri, .bool false, .bool false, .bool false] else (0, .map #[] 0)
theorem rSshapeI41_he (a1 : Nat) (a2 : Nat) (l : Int) (rs : Int) (ri : Int) (B1_4 : Nat) (B1_3 : Nat) (B1_2 : Nat) (B1_1 : Nat) (B1 : Nat) : ∀ kk α α', (∀ j, (j % 1000 = kk ∨ j % 1000 ∈ rSshapeI41Anc kk) → α j = α' j) → rSshapeI41E a1 a2 l rs ri B1_4 B1_3 B1_2 B1_1 B1 kk α = rSshapeI41E a1 a2 l rs ri B1_4 B1_3 B1_2 B1_1 B1 kk α' := by
  intro kk α α' h
  match kk with
  | 0 => rfl
  | 1 => rfl
  | 2 => rfl
  | 3 => rfl
  | 4 => rfl
  | 5 => rfl
  | 6 => rfl
  | 7 => rfl
  | 8 => rfl
  | 9 => rfl
  | 10 => rfl
  | 11 => rfl
  | 12 => rfl
  | 13 => rfl
  | n + 14 => rfl
theorem rSshapeI41_st (a1 : Nat) (a2 : Nat) (l : Int) (rs : Int) (ri : Int) (B1_4 : Nat) (B1_3 : Nat) (B1_2 : Nat) (B1_1 : Nat) (B1 : Nat) : Stable rSshapeI41Cnt 7 rSshapeI41Anc rSshapeI41Trn (rSshapeI41R a1 a2 l rs ri B1_4 B1_3 B1_2 B1_1 B1) := by
  intro k9 L9 α α' ix9 hk hcl hα hact ht
  have hp := act_places hact
  replace hp : ix9 ∈ [999, 1999, 2999, 3999, 4999, 5999, 6999] := hp
  simp only [List.mem_cons, List.not_mem_nil, or_false] at hp
  rcases hp with rfl | rfl | rfl | rfl | rfl | rfl | rfl
  · rfl
  · rfl
  · rfl
  · rfl
  · rfl
  · rfl
  · rfl
def shapeI4Post (a1 a2 : Nat) (l rs ri : Int) (w0 : World) (X : Nat → Obj → Prop) (e : Ending) (w' : World) : Prop :=
  e = .returned (.bool true) ∧ Own w0 w' [row (a1) 223 #[.int .u32 rs, .int .u32 ri, .bool false, .bool false, .bool false], row (a2) 223 #[.int .u32 rs, .int .u32 ri, .bool false, .bool false, .bool false]] X
set_option maxRecDepth 100000 in
set_option maxHeartbeats 1000000 in
theorem shapeI4 (a1 a2 : Nat) (l rs ri : Int) (w0 w : World) (X : Nat → Obj → Prop) (hO : Own w0 w [row (a1) 223 #[.int .u32 rs, .int .u32 ri, .bool false, .bool false, .bool false], row (a2) 223 #[.int .u32 rs, .int .u32 ri, .bool false, .bool false, .bool false]] X)  :
    Calls Tryd.prog 20 #[.agg #[.iface 220 (.pointer (some ⟨a1, 0, none⟩)), .int .i32 l], .agg #[.iface 220 (.pointer (some ⟨a2, 0, none⟩)), .int .i32 l], .int .i64 4] w (shapeI4Post a1 a2 l rs ri w0 X) := by
  go_enter Tryd.func20, Tryd.ntmps20
  have pl9_0 : Base.plainAt w (a1) = true := hO.plain 0 rfl
  have pl9_1 : Base.plainAt w (a2) = true := hO.plain 1 rfl
  have ne9_0_1 : ¬ a1 = a2 := hO.ne 0 1 rfl rfl (by decide)
  have ne9_1_0 : ¬ a2 = a1 := hO.ne 1 0 rfl rfl (by decide)
  have c9_0_0 : w.cell? ⟨a1, 0, none⟩ = some (.int .u32 rs) := hO.cell 0 rfl 0 rfl
  have c9_0_1 : w.cell? ⟨a1, 1, none⟩ = some (.int .u32 ri) := hO.cell 0 rfl 1 rfl
  have c9_0_2 : w.cell? ⟨a1, 2, none⟩ = some (.bool false) := hO.cell 0 rfl 2 rfl
  have c9_0_3 : w.cell? ⟨a1, 3, none⟩ = some (.bool false) := hO.cell 0 rfl 3 rfl
  have c9_0_4 : w.cell? ⟨a1, 4, none⟩ = some (.bool false) := hO.cell 0 rfl 4 rfl
  have lt9_0 : a1 < w.heap.size := hO.lt 0 rfl
  have y9_0 : ∀ o, w.frozen? ⟨a1, o, none⟩ = false := hO.free 0 rfl
  have c9_1_0 : w.cell? ⟨a2, 0, none⟩ = some (.int .u32 rs) := hO.cell 1 rfl 0 rfl
  have c9_1_1 : w.cell? ⟨a2, 1, none⟩ = some (.int .u32 ri) := hO.cell 1 rfl 1 rfl
  have c9_1_2 : w.cell? ⟨a2, 2, none⟩ = some (.bool false) := hO.cell 1 rfl 2 rfl
  have c9_1_3 : w.cell? ⟨a2, 3, none⟩ = some (.bool false) := hO.cell 1 rfl 3 rfl
  have c9_1_4 : w.cell? ⟨a2, 4, none⟩ = some (.bool false) := hO.cell 1 rfl 4 rfl
  have lt9_1 : a2 < w.heap.size := hO.lt 1 rfl
  have y9_1 : ∀ o, w.frozen? ⟨a2, o, none⟩ = false := hO.free 1 rfl
  have HO := Lib.hid hO
  clear hO
  go_wp2_with (first | (go_at_call 39; go_in) | (go_at_call 40; go_in) | (go_at_call 18; go_in) | (go_at_call 23; go_in) | (go_at_call 21; go_in) | (go_at_call 41; go_in) | (go_at_call 42; go_in) | (go_at_call 28; go_in) | (go_at_call 43; go_in))
  have hO := HO.out
  clear HO pl9_0 pl9_1 ne9_0_1 ne9_1_0 c9_0_0 c9_0_1 c9_0_2 c9_0_3 c9_0_4 lt9_0 y9_0 c9_1_0 c9_1_1 c9_1_2 c9_1_3 c9_1_4 lt9_1 y9_1
  generalize hW : World.alloc _ _ = W2
  have hN : Own w0 W2 [row (w.heap.size + 1 + 1 + 1 + 1) 30 #[.iface 220 (.pointer (some ⟨a2, 0, none⟩)), .int .i32 l], row (w.heap.size + 1 + 1 + 1) 30 #[.iface 220 (.pointer (some ⟨a1, 0, none⟩)), .int .i32 l], row (w.heap.size + 1 + 1) 30 #[.iface 220 (.pointer (some ⟨a1, 0, none⟩)), .int .i32 l], row (w.heap.size + 1) 30 #[.iface 220 (.pointer (some ⟨a2, 0, none⟩)), .int .i32 l], row (w.heap.size) 30 #[.iface 220 (.pointer (some ⟨a1, 0, none⟩)), .int .i32 l], row (a1) 223 #[.int .u32 rs, .int .u32 ri, .bool false, .bool false, .bool false], row (a2) 223 #[.int .u32 rs, .int .u32 ri, .bool false, .bool false, .bool false]] X := by
    rw [← hW]
    exact (((((hO).alloc' _ (w.heap.size) (by simp)).alloc' _ (w.heap.size + 1) (by simp)).alloc' _ (w.heap.size + 1 + 1) (by simp)).alloc' _ (w.heap.size + 1 + 1 + 1) (by simp)).alloc' _ (w.heap.size + 1 + 1 + 1 + 1) (by simp)
  clear hW hO
  generalize w.heap.size + 1 + 1 + 1 + 1 = B1_4 at hN ⊢
  generalize w.heap.size + 1 + 1 + 1 = B1_3 at hN ⊢
  generalize w.heap.size + 1 + 1 = B1_2 at hN ⊢
  generalize w.heap.size + 1 = B1_1 at hN ⊢
  generalize w.heap.size = B1 at hN ⊢
  have hO := hN
  clear hN
  refine wp_region_own (e := rSshapeI41E a1 a2 l rs ri B1_4 B1_3 B1_2 B1_1 B1) (anc := rSshapeI41Anc) (G := (fun L9 α u9 => OwnF w0 u9 (act rSshapeI41Cnt 7 L9) (rSshapeI41R a1 a2 l rs ri B1_4 B1_3 B1_2 B1_1 B1 L9 α) X)) (by kernel_rfl) (by kernel_rfl) (by kernel_rfl) (by kernel_rfl) (rSshapeI41_he a1 a2 l rs ri B1_4 B1_3 B1_2 B1_1 B1) ?_ (RunsAll.all ?_) ?_
  · have hp : ∀ i, act rSshapeI41Cnt 7 (fun _ => false) i → i ∈ [999, 1999, 2999, 3999, 4999, 5999, 6999] := by
      intro i hi
      have h9 : i % 1000 = 999 := by
        by_cases h : i % 1000 = 999
        · exact h
        · exact absurd (act_lt hi h) (by simp)
      unfold act at hi
      rw [if_pos h9] at hi
      simp only [List.mem_cons, List.not_mem_nil, or_false]
      omega
    refine hO.drew.family (fun i hi => ?_) (fun i j hi hj hij => ?_)
    · have := hp i hi
      simp only [List.mem_cons, List.not_mem_nil, or_false] at this
      rcases this with rfl | rfl | rfl | rfl | rfl | rfl | rfl <;> rfl
    · have h1 := hp i hi
      have h2 := hp j hj
      simp only [List.mem_cons, List.not_mem_nil, or_false] at h1 h2
      omega
  · refine ⟨?_, ?_, ?_, ?_, ?_, ?_, ?_, ?_, ?_, ?_, ?_, ?_, ?_, ?_, trivial⟩
    · intro L9 α a9 u9 K9 hL hcl hA hG hS h0 hK
      replace hL : L9 0 = false := hL
      have q8 : a9.tmps[8]? = some (.pointer (some ⟨a2, 0, none⟩)) := (h0 8 (by kernel_rfl)).trans rfl
      have s8 := Rega.eval_of q8
      go_simp
      exact hK _ α _ (fun _ _ => rfl) rfl (step_same (rSshapeI41_st a1 a2 l rs ri B1_4 B1_3 B1_2 B1_1 B1) hL hcl rfl rfl hG)
    · intro L9 α a9 u9 K9 hL hcl hA hG hS h0 hK
      replace hL : L9 1 = false := hL
      have q30 : a9.tmps[30]? = some (.pointer (some ⟨a2, 0, none⟩)) := hS 0 30 (by decide) rfl (by show 30 < 86; decide)
      have s30 := Rega.eval_of q30
      go_simp
      exact hK _ α _ (fun _ _ => rfl) rfl (step_same (rSshapeI41_st a1 a2 l rs ri B1_4 B1_3 B1_2 B1_1 B1) hL hcl rfl rfl hG)
    · intro L9 α a9 u9 K9 hL hcl hA hG hS h0 hK
      replace hL : L9 2 = false := hL
      have q31 : a9.tmps[31]? = some (.bool true) := hS 1 31 (by decide) rfl (by show 31 < 86; decide)
      have s31 := Rega.eval_of q31
      go_simp
      exact hK _ α _ (fun _ _ => rfl) rfl (step_same (rSshapeI41_st a1 a2 l rs ri B1_4 B1_3 B1_2 B1_1 B1) hL hcl rfl rfl hG)
    · intro L9 α a9 u9 K9 hL hcl hA hG hS h0 hK
      replace hL : L9 3 = false := hL
      have q7 : a9.tmps[7]? = some (.pointer (some ⟨a1, 0, none⟩)) := (h0 7 (by kernel_rfl)).trans rfl
      have s7 := Rega.eval_of q7
      have q32 : a9.tmps[32]? = some (.bool true) := hS 2 32 (by decide) rfl (by show 32 < 86; decide)
      have s32 := Rega.eval_of q32
      go_simp
      exact hK _ α _ (fun _ _ => rfl) rfl (step_same (rSshapeI41_st a1 a2 l rs ri B1_4 B1_3 B1_2 B1_1 B1) hL hcl rfl rfl hG)
    · intro L9 α a9 u9 K9 hL hcl hA hG hS h0 hK
      replace hL : L9 4 = false := hL
      have q33 : a9.tmps[33]? = some (.pointer (some ⟨a1, 0, none⟩)) := hS 3 33 (by decide) rfl (by show 33 < 86; decide)
      have s33 := Rega.eval_of q33
      have q32 : a9.tmps[32]? = some (.bool true) := hS 2 32 (by decide) rfl (by show 32 < 86; decide)
      have s32 := Rega.eval_of q32
      go_simp
      exact hK _ α _ (fun _ _ => rfl) rfl (step_same (rSshapeI41_st a1 a2 l rs ri B1_4 B1_3 B1_2 B1_1 B1) hL hcl rfl rfl hG)
    · intro L9 α a9 u9 K9 hL hcl hA hG hS h0 hK
      replace hL : L9 5 = false := hL
      have q34 : a9.tmps[34]? = some (.pointer (some ⟨a1, 0, none⟩)) := hS 4 34 (by decide) rfl (by show 34 < 86; decide)
      have s34 := Rega.eval_of q34
      have q32 : a9.tmps[32]? = some (.bool true) := hS 2 32 (by decide) rfl (by show 32 < 86; decide)
      have s32 := Rega.eval_of q32
      go_simp
      exact hK _ α _ (fun _ _ => rfl) rfl (step_same (rSshapeI41_st a1 a2 l rs ri B1_4 B1_3 B1_2 B1_1 B1) hL hcl rfl rfl hG)
    · intro L9 α a9 u9 K9 hL hcl hA hG hS h0 hK
      replace hL : L9 6 = false := hL
      have q35 : a9.tmps[35]? = some (.pointer (some ⟨a1, 0, none⟩)) := hS 5 35 (by decide) rfl (by show 35 < 86; decide)
      have s35 := Rega.eval_of q35
      have q32 : a9.tmps[32]? = some (.bool true) := hS 2 32 (by decide) rfl (by show 32 < 86; decide)
      have s32 := Rega.eval_of q32
      have e0 : rSshapeI41R a1 a2 l rs ri B1_4 B1_3 B1_2 B1_1 B1 L9 α 5999 = row (a1) 223 #[.int .u32 rs, .int .u32 ri, .bool false, .bool false, .bool false] := rfl
      have hr := hG.rowAt 5999 (act_base 5999 rfl) e0
      have c0 : u9.cell? ⟨a1, 0, none⟩ = some (.int .u32 rs) := hr.cell rfl
      have c1 : u9.cell? ⟨a1, 1, none⟩ = some (.int .u32 ri) := hr.cell rfl
      clear hr e0
      go_simp
      exact hK _ α _ (fun _ _ => rfl) rfl (step_same (rSshapeI41_st a1 a2 l rs ri B1_4 B1_3 B1_2 B1_1 B1) hL hcl rfl rfl hG)
    · intro L9 α a9 u9 K9 hL hcl hA hG hS h0 hK
      replace hL : L9 7 = false := hL
      have q8 : a9.tmps[8]? = some (.pointer (some ⟨a2, 0, none⟩)) := (h0 8 (by kernel_rfl)).trans rfl
      have s8 := Rega.eval_of q8
      have q32 : a9.tmps[32]? = some (.bool true) := hS 2 32 (by decide) rfl (by show 32 < 86; decide)
      have s32 := Rega.eval_of q32
      go_simp
      exact hK _ α _ (fun _ _ => rfl) rfl (step_same (rSshapeI41_st a1 a2 l rs ri B1_4 B1_3 B1_2 B1_1 B1) hL hcl rfl rfl hG)
    · intro L9 α a9 u9 K9 hL hcl hA hG hS h0 hK
      replace hL : L9 8 = false := hL
      have q37 : a9.tmps[37]? = some (.pointer (some ⟨a2, 0, none⟩)) := hS 7 37 (by decide) rfl (by show 37 < 86; decide)
      have s37 := Rega.eval_of q37
      have q32 : a9.tmps[32]? = some (.bool true) := hS 2 32 (by decide) rfl (by show 32 < 86; decide)
      have s32 := Rega.eval_of q32
      go_simp
      exact hK _ α _ (fun _ _ => rfl) rfl (step_same (rSshapeI41_st a1 a2 l rs ri B1_4 B1_3 B1_2 B1_1 B1) hL hcl rfl rfl hG)
    · intro L9 α a9 u9 K9 hL hcl hA hG hS h0 hK
      replace hL : L9 9 = false := hL
      have q38 : a9.tmps[38]? = some (.pointer (some ⟨a2, 0, none⟩)) := hS 8 38 (by decide) rfl (by show 38 < 86; decide)
      have s38 := Rega.eval_of q38
      have q32 : a9.tmps[32]? = some (.bool true) := hS 2 32 (by decide) rfl (by show 32 < 86; decide)
      have s32 := Rega.eval_of q32
      go_simp
      exact hK _ α _ (fun _ _ => rfl) rfl (step_same (rSshapeI41_st a1 a2 l rs ri B1_4 B1_3 B1_2 B1_1 B1) hL hcl rfl rfl hG)
    · intro L9 α a9 u9 K9 hL hcl hA hG hS h0 hK
      replace hL : L9 10 = false := hL
      have q39 : a9.tmps[39]? = some (.pointer (some ⟨a2, 0, none⟩)) := hS 9 39 (by decide) rfl (by show 39 < 86; decide)
      have s39 := Rega.eval_of q39
      have q32 : a9.tmps[32]? = some (.bool true) := hS 2 32 (by decide) rfl (by show 32 < 86; decide)
      have s32 := Rega.eval_of q32
      have e0 : rSshapeI41R a1 a2 l rs ri B1_4 B1_3 B1_2 B1_1 B1 L9 α 6999 = row (a2) 223 #[.int .u32 rs, .int .u32 ri, .bool false, .bool false, .bool false] := rfl
      have hr := hG.rowAt 6999 (act_base 6999 rfl) e0
      have c0 : u9.cell? ⟨a2, 0, none⟩ = some (.int .u32 rs) := hr.cell rfl
      have c1 : u9.cell? ⟨a2, 1, none⟩ = some (.int .u32 ri) := hr.cell rfl
      clear hr e0
      go_simp
      exact hK _ α _ (fun _ _ => rfl) rfl (step_same (rSshapeI41_st a1 a2 l rs ri B1_4 B1_3 B1_2 B1_1 B1) hL hcl rfl rfl hG)
    · intro L9 α a9 u9 K9 hL hcl hA hG hS h0 hK
      replace hL : L9 11 = false := hL
      have q36 : a9.tmps[36]? = some (.agg #[.int .u32 rs, .int .u32 ri]) := hS 6 36 (by decide) rfl (by show 36 < 86; decide)
      have s36 := Rega.eval_of q36
      have q40 : a9.tmps[40]? = some (.agg #[.int .u32 rs, .int .u32 ri]) := hS 10 40 (by decide) rfl (by show 40 < 86; decide)
      have s40 := Rega.eval_of q40
      have q32 : a9.tmps[32]? = some (.bool true) := hS 2 32 (by decide) rfl (by show 32 < 86; decide)
      have s32 := Rega.eval_of q32
      go_simp
      exact hK _ α _ (fun _ _ => rfl) rfl (step_same (rSshapeI41_st a1 a2 l rs ri B1_4 B1_3 B1_2 B1_1 B1) hL hcl rfl rfl hG)
    · intro L9 α a9 u9 K9 hL hcl hA hG hS h0 hK
      replace hL : L9 12 = false := hL
      have q32 : a9.tmps[32]? = some (.bool true) := hS 2 32 (by decide) rfl (by show 32 < 86; decide)
      have s32 := Rega.eval_of q32
      have q41 : a9.tmps[41]? = some (.bool true) := hS 11 41 (by decide) rfl (by show 41 < 86; decide)
      have s41 := Rega.eval_of q41
      go_simp
      exact hK _ α _ (fun _ _ => rfl) rfl (step_same (rSshapeI41_st a1 a2 l rs ri B1_4 B1_3 B1_2 B1_1 B1) hL hcl rfl rfl hG)
    · intro L9 α a9 u9 K9 hL hcl hA hG hS h0 hK
      replace hL : L9 13 = false := hL
      have q42 : a9.tmps[42]? = some (.bool true) := hS 12 42 (by decide) rfl (by show 42 < 86; decide)
      have s42 := Rega.eval_of q42
      go_simp
      exact hK _ α _ (fun _ _ => rfl) rfl (step_same (rSshapeI41_st a1 a2 l rs ri B1_4 B1_3 B1_2 B1_1 B1) hL hcl rfl rfl hG)
  · intro α u hG
    have e0 : rSshapeI41R a1 a2 l rs ri B1_4 B1_3 B1_2 B1_1 B1 (fun k => decide (k < 14)) α 999 = row (B1_4) 30 #[.iface 220 (.pointer (some ⟨a2, 0, none⟩)), .int .i32 l] := rfl
    have e1 : rSshapeI41R a1 a2 l rs ri B1_4 B1_3 B1_2 B1_1 B1 (fun k => decide (k < 14)) α 1999 = row (B1_3) 30 #[.iface 220 (.pointer (some ⟨a1, 0, none⟩)), .int .i32 l] := rfl
    have e2 : rSshapeI41R a1 a2 l rs ri B1_4 B1_3 B1_2 B1_1 B1 (fun k => decide (k < 14)) α 2999 = row (B1_2) 30 #[.iface 220 (.pointer (some ⟨a1, 0, none⟩)), .int .i32 l] := rfl
    have e3 : rSshapeI41R a1 a2 l rs ri B1_4 B1_3 B1_2 B1_1 B1 (fun k => decide (k < 14)) α 3999 = row (B1_1) 30 #[.iface 220 (.pointer (some ⟨a2, 0, none⟩)), .int .i32 l] := rfl
    have e4 : rSshapeI41R a1 a2 l rs ri B1_4 B1_3 B1_2 B1_1 B1 (fun k => decide (k < 14)) α 4999 = row (B1) 30 #[.iface 220 (.pointer (some ⟨a1, 0, none⟩)), .int .i32 l] := rfl
    have e5 : rSshapeI41R a1 a2 l rs ri B1_4 B1_3 B1_2 B1_1 B1 (fun k => decide (k < 14)) α 5999 = row (a1) 223 #[.int .u32 rs, .int .u32 ri, .bool false, .bool false, .bool false] := rfl
    have e6 : rSshapeI41R a1 a2 l rs ri B1_4 B1_3 B1_2 B1_1 B1 (fun k => decide (k < 14)) α 6999 = row (a2) 223 #[.int .u32 rs, .int .u32 ri, .bool false, .bool false, .bool false] := rfl
    have hO : Own w0 u [row (B1_4) 30 #[.iface 220 (.pointer (some ⟨a2, 0, none⟩)), .int .i32 l], row (B1_3) 30 #[.iface 220 (.pointer (some ⟨a1, 0, none⟩)), .int .i32 l], row (B1_2) 30 #[.iface 220 (.pointer (some ⟨a1, 0, none⟩)), .int .i32 l], row (B1_1) 30 #[.iface 220 (.pointer (some ⟨a2, 0, none⟩)), .int .i32 l], row (B1) 30 #[.iface 220 (.pointer (some ⟨a1, 0, none⟩)), .int .i32 l], row (a1) 223 #[.int .u32 rs, .int .u32 ri, .bool false, .bool false, .bool false], row (a2) 223 #[.int .u32 rs, .int .u32 ri, .bool false, .bool false, .bool false]] X := (hG.list [999, 1999, 2999, 3999, 4999, 5999, 6999] (by decide) (act_all (by decide))).conv (by
      show [rSshapeI41R a1 a2 l rs ri B1_4 B1_3 B1_2 B1_1 B1 (fun k => decide (k < 14)) α 999, rSshapeI41R a1 a2 l rs ri B1_4 B1_3 B1_2 B1_1 B1 (fun k => decide (k < 14)) α 1999, rSshapeI41R a1 a2 l rs ri B1_4 B1_3 B1_2 B1_1 B1 (fun k => decide (k < 14)) α 2999, rSshapeI41R a1 a2 l rs ri B1_4 B1_3 B1_2 B1_1 B1 (fun k => decide (k < 14)) α 3999, rSshapeI41R a1 a2 l rs ri B1_4 B1_3 B1_2 B1_1 B1 (fun k => decide (k < 14)) α 4999, rSshapeI41R a1 a2 l rs ri B1_4 B1_3 B1_2 B1_1 B1 (fun k => decide (k < 14)) α 5999, rSshapeI41R a1 a2 l rs ri B1_4 B1_3 B1_2 B1_1 B1 (fun k => decide (k < 14)) α 6999] = _
      rw [e0, e1, e2, e3, e4, e5, e6])
    clear hG e0 e1 e2 e3 e4 e5 e6
    generalize hfr : Rega.frameAt _ _ _ _ _ = fr
    have hdf : fr = ⟨#[.agg #[.iface 220 (.pointer (some ⟨a1, 0, none⟩)), .int .i32 l], .agg #[.iface 220 (.pointer (some ⟨a2, 0, none⟩)), .int .i32 l], .int .i64 4, .pointer (some ⟨B1, 0, none⟩), .pointer (some ⟨B1_1, 0, none⟩), undef, .bool true, .pointer (some ⟨a1, 0, none⟩), .pointer (some ⟨a2, 0, none⟩), undef, undef, .int .i64 4, .bool false, .pointer (some ⟨B1, 1, none⟩), .pointer (some ⟨B1, 1, none⟩), .int .i32 l, .pointer (some ⟨B1_1, 1, none⟩), .pointer (some ⟨B1_1, 1, none⟩), .int .i32 l, .bool false, .agg #[.iface 220 (.pointer (some ⟨a1, 0, none⟩)), .int .i32 l], .bool false, undef, undef, .agg #[.iface 220 (.pointer (some ⟨a1, 0, none⟩)), .int .i32 l], .pointer (some ⟨a1, 0, none⟩), .pointer (some ⟨a1, 0, none⟩), .bool true, .agg #[.iface 220 (.pointer (some ⟨a2, 0, none⟩)), .int .i32 l], .pointer (some ⟨a2, 0, none⟩), .pointer (some ⟨a2, 0, none⟩), .bool true, .bool true, .pointer (some ⟨a1, 0, none⟩), .pointer (some ⟨a1, 0, none⟩), .pointer (some ⟨a1, 0, none⟩), .agg #[.int .u32 rs, .int .u32 ri], .pointer (some ⟨a2, 0, none⟩), .pointer (some ⟨a2, 0, none⟩), .pointer (some ⟨a2, 0, none⟩), .agg #[.int .u32 rs, .int .u32 ri], .bool true, .bool true, undef, undef, undef, undef, undef, undef, undef, undef, undef, undef, undef, undef, undef, undef, undef, undef, undef, undef, undef, undef, undef, undef, undef, undef, undef, undef, undef, undef, undef, undef, undef, undef, undef, undef, undef, undef, undef, undef, undef, undef, undef, undef, undef], []⟩ := by rw [← hfr]; kernel_rfl
    clear hfr
    subst hdf
    clear α
    have pl9_0 : Base.plainAt u (B1_4) = true := hO.plain 0 rfl
    have pl9_1 : Base.plainAt u (B1_3) = true := hO.plain 1 rfl
    have pl9_2 : Base.plainAt u (B1_2) = true := hO.plain 2 rfl
    have pl9_3 : Base.plainAt u (B1_1) = true := hO.plain 3 rfl
    have pl9_4 : Base.plainAt u (B1) = true := hO.plain 4 rfl
    have pl9_5 : Base.plainAt u (a1) = true := hO.plain 5 rfl
    have pl9_6 : Base.plainAt u (a2) = true := hO.plain 6 rfl
    have ne9_0_1 : ¬ B1_4 = B1_3 := hO.ne 0 1 rfl rfl (by decide)
    have ne9_0_2 : ¬ B1_4 = B1_2 := hO.ne 0 2 rfl rfl (by decide)
    have ne9_0_3 : ¬ B1_4 = B1_1 := hO.ne 0 3 rfl rfl (by decide)
    have ne9_0_4 : ¬ B1_4 = B1 := hO.ne 0 4 rfl rfl (by decide)
    have ne9_1_0 : ¬ B1_3 = B1_4 := hO.ne 1 0 rfl rfl (by decide)
    have ne9_1_2 : ¬ B1_3 = B1_2 := hO.ne 1 2 rfl rfl (by decide)
    have ne9_1_3 : ¬ B1_3 = B1_1 := hO.ne 1 3 rfl rfl (by decide)
    have ne9_1_4 : ¬ B1_3 = B1 := hO.ne 1 4 rfl rfl (by decide)
    have ne9_2_0 : ¬ B1_2 = B1_4 := hO.ne 2 0 rfl rfl (by decide)
    have ne9_2_1 : ¬ B1_2 = B1_3 := hO.ne 2 1 rfl rfl (by decide)
    have ne9_2_3 : ¬ B1_2 = B1_1 := hO.ne 2 3 rfl rfl (by decide)
    have ne9_2_4 : ¬ B1_2 = B1 := hO.ne 2 4 rfl rfl (by decide)
    have ne9_3_0 : ¬ B1_1 = B1_4 := hO.ne 3 0 rfl rfl (by decide)
    have ne9_3_1 : ¬ B1_1 = B1_3 := hO.ne 3 1 rfl rfl (by decide)
    have ne9_3_2 : ¬ B1_1 = B1_2 := hO.ne 3 2 rfl rfl (by decide)
    have ne9_3_4 : ¬ B1_1 = B1 := hO.ne 3 4 rfl rfl (by decide)
    have ne9_4_0 : ¬ B1 = B1_4 := hO.ne 4 0 rfl rfl (by decide)
    have ne9_4_1 : ¬ B1 = B1_3 := hO.ne 4 1 rfl rfl (by decide)
    have ne9_4_2 : ¬ B1 = B1_2 := hO.ne 4 2 rfl rfl (by decide)
    have ne9_4_3 : ¬ B1 = B1_1 := hO.ne 4 3 rfl rfl (by decide)
    have ne9_5_6 : ¬ a1 = a2 := hO.ne 5 6 rfl rfl (by decide)
    have ne9_6_5 : ¬ a2 = a1 := hO.ne 6 5 rfl rfl (by decide)
    have c9_0_0 : u.cell? ⟨B1_4, 0, none⟩ = some (.iface 220 (.pointer (some ⟨a2, 0, none⟩))) := hO.cell 0 rfl 0 rfl
    have c9_0_1 : u.cell? ⟨B1_4, 1, none⟩ = some (.int .i32 l) := hO.cell 0 rfl 1 rfl
    have lt9_0 : B1_4 < u.heap.size := hO.lt 0 rfl
    have y9_0 : ∀ o, u.frozen? ⟨B1_4, o, none⟩ = false := hO.free 0 rfl
    have c9_1_0 : u.cell? ⟨B1_3, 0, none⟩ = some (.iface 220 (.pointer (some ⟨a1, 0, none⟩))) := hO.cell 1 rfl 0 rfl
    have c9_1_1 : u.cell? ⟨B1_3, 1, none⟩ = some (.int .i32 l) := hO.cell 1 rfl 1 rfl
    have lt9_1 : B1_3 < u.heap.size := hO.lt 1 rfl
    have y9_1 : ∀ o, u.frozen? ⟨B1_3, o, none⟩ = false := hO.free 1 rfl
    have c9_2_0 : u.cell? ⟨B1_2, 0, none⟩ = some (.iface 220 (.pointer (some ⟨a1, 0, none⟩))) := hO.cell 2 rfl 0 rfl
    have c9_2_1 : u.cell? ⟨B1_2, 1, none⟩ = some (.int .i32 l) := hO.cell 2 rfl 1 rfl
    have lt9_2 : B1_2 < u.heap.size := hO.lt 2 rfl
    have y9_2 : ∀ o, u.frozen? ⟨B1_2, o, none⟩ = false := hO.free 2 rfl
    have c9_3_0 : u.cell? ⟨B1_1, 0, none⟩ = some (.iface 220 (.pointer (some ⟨a2, 0, none⟩))) := hO.cell 3 rfl 0 rfl
    have c9_3_1 : u.cell? ⟨B1_1, 1, none⟩ = some (.int .i32 l) := hO.cell 3 rfl 1 rfl
    have lt9_3 : B1_1 < u.heap.size := hO.lt 3 rfl
    have y9_3 : ∀ o, u.frozen? ⟨B1_1, o, none⟩ = false := hO.free 3 rfl
    have c9_4_0 : u.cell? ⟨B1, 0, none⟩ = some (.iface 220 (.pointer (some ⟨a1, 0, none⟩))) := hO.cell 4 rfl 0 rfl
    have c9_4_1 : u.cell? ⟨B1, 1, none⟩ = some (.int .i32 l) := hO.cell 4 rfl 1 rfl
    have lt9_4 : B1 < u.heap.size := hO.lt 4 rfl
    have y9_4 : ∀ o, u.frozen? ⟨B1, o, none⟩ = false := hO.free 4 rfl
    have c9_5_0 : u.cell? ⟨a1, 0, none⟩ = some (.int .u32 rs) := hO.cell 5 rfl 0 rfl
    have c9_5_1 : u.cell? ⟨a1, 1, none⟩ = some (.int .u32 ri) := hO.cell 5 rfl 1 rfl
    have c9_5_2 : u.cell? ⟨a1, 2, none⟩ = some (.bool false) := hO.cell 5 rfl 2 rfl
    have c9_5_3 : u.cell? ⟨a1, 3, none⟩ = some (.bool false) := hO.cell 5 rfl 3 rfl
    have c9_5_4 : u.cell? ⟨a1, 4, none⟩ = some (.bool false) := hO.cell 5 rfl 4 rfl
    have lt9_5 : a1 < u.heap.size := hO.lt 5 rfl
    have y9_5 : ∀ o, u.frozen? ⟨a1, o, none⟩ = false := hO.free 5 rfl
    have c9_6_0 : u.cell? ⟨a2, 0, none⟩ = some (.int .u32 rs) := hO.cell 6 rfl 0 rfl
    have c9_6_1 : u.cell? ⟨a2, 1, none⟩ = some (.int .u32 ri) := hO.cell 6 rfl 1 rfl
    have c9_6_2 : u.cell? ⟨a2, 2, none⟩ = some (.bool false) := hO.cell 6 rfl 2 rfl
    have c9_6_3 : u.cell? ⟨a2, 3, none⟩ = some (.bool false) := hO.cell 6 rfl 3 rfl
    have c9_6_4 : u.cell? ⟨a2, 4, none⟩ = some (.bool false) := hO.cell 6 rfl 4 rfl
    have lt9_6 : a2 < u.heap.size := hO.lt 6 rfl
    have y9_6 : ∀ o, u.frozen? ⟨a2, o, none⟩ = false := hO.free 6 rfl
    have HO := Lib.hid hO
    clear hO
    go_wp2_with (first | (go_at_call 39; go_in) | (go_at_call 40; go_in) | (go_at_call 18; go_in) | (go_at_call 23; go_in) | (go_at_call 21; go_in) | (go_at_call 41; go_in) | (go_at_call 42; go_in) | (go_at_call 28; go_in) | (go_at_call 43; go_in))
    have hO := HO.out
    clear HO pl9_0 pl9_1 pl9_2 pl9_3 pl9_4 pl9_5 pl9_6 ne9_0_1 ne9_0_2 ne9_0_3 ne9_0_4 ne9_1_0 ne9_1_2 ne9_1_3 ne9_1_4 ne9_2_0 ne9_2_1 ne9_2_3 ne9_2_4 ne9_3_0 ne9_3_1 ne9_3_2 ne9_3_4 ne9_4_0 ne9_4_1 ne9_4_2 ne9_4_3 ne9_5_6 ne9_6_5 c9_0_0 c9_0_1 lt9_0 y9_0 c9_1_0 c9_1_1 lt9_1 y9_1 c9_2_0 c9_2_1 lt9_2 y9_2 c9_3_0 c9_3_1 lt9_3 y9_3 c9_4_0 c9_4_1 lt9_4 y9_4 c9_5_0 c9_5_1 c9_5_2 c9_5_3 c9_5_4 lt9_5 y9_5 c9_6_0 c9_6_1 c9_6_2 c9_6_3 c9_6_4 lt9_6 y9_6
    refine bodyPost_ret (v := .bool true) ?_ rfl ⟨rfl, hO.sub [5, 6] (by decide)⟩
    simp [results, Tryd.results20, go_sem]
def rSshapeI31E (a1 : Nat) (a2 : Nat) (l : Int) (rs : Int) (ri : Int) (B1_4 : Nat) (B1_3 : Nat) (B1_2 : Nat) (B1_1 : Nat) (B1 : Nat) : Nat → Rega.Atoms → Value
  | 0, α => .pointer (some ⟨a2, 0, none⟩)
  | 1, α => .bool true
  | 2, α => .bool true
  | 3, α => .pointer (some ⟨a1, 0, none⟩)
  | 4, α => .pointer (some ⟨a1, 0, none⟩)
  | 5, α => .pointer (some ⟨a1, 0, none⟩)
  | 6, α => .agg #[.int .u32 rs, .int .u32 ri]
  | 7, α => .pointer (some ⟨a2, 0, none⟩)
  | 8, α => .pointer (some ⟨a2, 0, none⟩)
  | 9, α => .pointer (some ⟨a2, 0, none⟩)
  | 10, α => .agg #[.int .u32 rs, .int .u32 ri]
  | 11, α => .bool true
  | 12, α => .bool true
  | 13, α => .bool true
  | _, _ => undef
def rSshapeI31Anc : Nat → List Nat
  | 1 => [0]
  | 2 => [0, 1]
  | 3 => [0, 1, 2]
  | 4 => [0, 1, 2, 3]
  | 5 => [0, 1, 2, 3, 4]
  | 6 => [0, 1, 2, 3, 4, 5]
  | 7 => [0, 1, 2]
  | 8 => [0, 1, 2, 7]
  | 9 => [0, 1, 2, 7, 8]
  | 10 => [0, 1, 2, 7, 8, 9]
  | 11 => [0, 1, 2, 3, 4, 5, 6, 7, 8, 9, 10]
  | 12 => [0, 1, 2, 3, 4, 5, 6, 7, 8, 9, 10, 11]
  | 13 => [0, 1, 2, 3, 4, 5, 6, 7, 8, 9, 10, 11, 12]
  | _ => []
def rSshapeI31Trn : Nat → List Nat
  | _ => []
def rSshapeI31Cnt : List (Nat × Nat) := []
def rSshapeI31R (a1 : Nat) (a2 : Nat) (l : Int) (rs : Int) (ri : Int) (B1_4 : Nat) (B1_3 : Nat) (B1_2 : Nat) (B1_1 : Nat) (B1 : Nat) (L9 : Nat → Bool) (α : Rega.Atoms) (ix9 : Nat) : Rw := if ix9 = 999 then row (B1_4) 30 #[.iface 220 (.pointer (some ⟨a2, 0, none⟩)), .int .i32 l] else if ix9 = 1999 then row (B1_3) 30 #[.iface 220 (.pointer (some ⟨a1, 0, none⟩)), .int .i32 l] else if ix9 = 2999 then row (B1_2) 30 #[.iface 220 (.pointer (some ⟨a1, 0, none⟩)), .int .i32 l] else if ix9 = 3999 then row (B1_1) 30 #[.iface 220 (.pointer (some ⟨a2, 0, none⟩)), .int .i32 l] else if ix9 = 4999 then row (B1) 30 #[.iface 220 (.pointer (some ⟨a1, 0, none⟩)), .int .i32 l] else if ix9 = 5999 then row (a1) 223 #[.int .u32 rs, .int .u32 ri, .bool false, .bool false, .bool false] else if ix9 = 6999 then row (a2) 223 #[.int .u32 rs, .int .u32 ri, .bool false, .bool false, .bool false] else (0, .map #[] 0)
theorem rSshapeI31_he (a1 : Nat) (a2 : Nat) (l : Int) (rs : Int) (ri : Int) (B1_4 : Nat) (B1_3 : Nat) (B1_2 : Nat) (B1_1 : Nat) (B1 : Nat) : ∀ kk α α', (∀ j, (j % 1000 = kk ∨ j % 1000 ∈ rSshapeI31Anc kk) → α j = α' j) → rSshapeI31E a1 a2 l rs ri B1_4 B1_3 B1_2 B1_1 B1 kk α = rSshapeI31E a1 a2 l rs ri B1_4 B1_3 B1_2 B1_1 B1 kk α' := by
  intro kk α α' h
  match kk with
  | 0 => rfl
  | 1 => rfl
  | 2 => rfl
  | 3 => rfl
  | 4 => rfl
  | 5 => rfl
  | 6 => rfl
  | 7 => rfl
  | 8 => rfl
  | 9 => rfl
  | 10 => rfl
  | 11 => rfl
  | 12 => rfl
  | 13 => rfl
  | n + 14 => rfl
theorem rSshapeI31_st (a1 : Nat) (a2 : Nat) (l : Int) (rs : Int) (ri : Int) (B1_4 : Nat) (B1_3 : Nat) (B1_2 : Nat) (B1_1 : Nat) (B1 : Nat) : Stable rSshapeI31Cnt 7 rSshapeI31Anc rSshapeI31Trn (rSshapeI31R a1 a2 l rs ri B1_4 B1_3 B1_2 B1_1 B1) := by
  intro k9 L9 α α' ix9 hk hcl hα hact ht
  have hp := act_places hact
  replace hp : ix9 ∈ [999, 1999, 2999, 3999, 4999, 5999, 6999] := hp
  simp only [List.mem_cons, List.not_mem_nil, or_false] at hp
  rcases hp with rfl | rfl | rfl | rfl | rfl | rfl | rfl
  · rfl
  · rfl
  · rfl
  · rfl
  · rfl
  · rfl
  · rfl
def shapeI3Post (a1 a2 : Nat) (l rs ri : Int) (w0 : World) (X : Nat → Obj → Prop) (e : Ending) (w' : World) : Prop :=
  e = .returned (.bool true) ∧ Own w0 w' [row (a1) 223 #[.int .u32 rs, .int .u32 ri, .bool false, .bool false, .bool false], row (a2) 223 #[.int .u32 rs, .int .u32 ri, .bool false, .bool false, .bool false]] X
set_option maxRecDepth 100000 in
set_option maxHeartbeats 1000000 in
theorem shapeI3 (a1 a2 : Nat) (l rs ri : Int) (w0 w : World) (X : Nat → Obj → Prop) (hO : Own w0 w [row (a1) 223 #[.int .u32 rs, .int .u32 ri, .bool false, .bool false, .bool false], row (a2) 223 #[.int .u32 rs, .int .u32 ri, .bool false, .bool false, .bool false]] X)  :
    Calls Tryd.prog 20 #[.agg #[.iface 220 (.pointer (some ⟨a1, 0, none⟩)), .int .i32 l], .agg #[.iface 220 (.pointer (some ⟨a2, 0, none⟩)), .int .i32 l], .int .i64 3] w (shapeI3Post a1 a2 l rs ri w0 X) := by
  go_enter Tryd.func20, Tryd.ntmps20
  have pl9_0 : Base.plainAt w (a1) = true := hO.plain 0 rfl
  have pl9_1 : Base.plainAt w (a2) = true := hO.plain 1 rfl
  have ne9_0_1 : ¬ a1 = a2 := hO.ne 0 1 rfl rfl (by decide)
  have ne9_1_0 : ¬ a2 = a1 := hO.ne 1 0 rfl rfl (by decide)
  have c9_0_0 : w.cell? ⟨a1, 0, none⟩ = some (.int .u32 rs) := hO.cell 0 rfl 0 rfl
  have c9_0_1 : w.cell? ⟨a1, 1, none⟩ = some (.int .u32 ri) := hO.cell 0 rfl 1 rfl
  have c9_0_2 : w.cell? ⟨a1, 2, none⟩ = some (.bool false) := hO.cell 0 rfl 2 rfl
  have c9_0_3 : w.cell? ⟨a1, 3, none⟩ = some (.bool false) := hO.cell 0 rfl 3 rfl
  have c9_0_4 : w.cell? ⟨a1, 4, none⟩ = some (.bool false) := hO.cell 0 rfl 4 rfl
  have lt9_0 : a1 < w.heap.size := hO.lt 0 rfl
  have y9_0 : ∀ o, w.frozen? ⟨a1, o, none⟩ = false := hO.free 0 rfl
  have c9_1_0 : w.cell? ⟨a2, 0, none⟩ = some (.int .u32 rs) := hO.cell 1 rfl 0 rfl
  have c9_1_1 : w.cell? ⟨a2, 1, none⟩ = some (.int .u32 ri) := hO.cell 1 rfl 1 rfl
  have c9_1_2 : w.cell? ⟨a2, 2, none⟩ = some (.bool false) := hO.cell 1 rfl 2 rfl
  have c9_1_3 : w.cell? ⟨a2, 3, none⟩ = some (.bool false) := hO.cell 1 rfl 3 rfl
  have c9_1_4 : w.cell? ⟨a2, 4, none⟩ = some (.bool false) := hO.cell 1 rfl 4 rfl
  have lt9_1 : a2 < w.heap.size := hO.lt 1 rfl
  have y9_1 : ∀ o, w.frozen? ⟨a2, o, none⟩ = false := hO.free 1 rfl
  have HO := Lib.hid hO
  clear hO
  go_wp2_with (first | (go_at_call 39; go_in) | (go_at_call 40; go_in) | (go_at_call 18; go_in) | (go_at_call 23; go_in) | (go_at_call 21; go_in) | (go_at_call 41; go_in) | (go_at_call 42; go_in) | (go_at_call 28; go_in) | (go_at_call 43; go_in))
  have hO := HO.out
  clear HO pl9_0 pl9_1 ne9_0_1 ne9_1_0 c9_0_0 c9_0_1 c9_0_2 c9_0_3 c9_0_4 lt9_0 y9_0 c9_1_0 c9_1_1 c9_1_2 c9_1_3 c9_1_4 lt9_1 y9_1
  generalize hW : World.alloc _ _ = W2
  have hN : Own w0 W2 [row (w.heap.size + 1 + 1 + 1 + 1) 30 #[.iface 220 (.pointer (some ⟨a2, 0, none⟩)), .int .i32 l], row (w.heap.size + 1 + 1 + 1) 30 #[.iface 220 (.pointer (some ⟨a1, 0, none⟩)), .int .i32 l], row (w.heap.size + 1 + 1) 30 #[.iface 220 (.pointer (some ⟨a1, 0, none⟩)), .int .i32 l], row (w.heap.size + 1) 30 #[.iface 220 (.pointer (some ⟨a2, 0, none⟩)), .int .i32 l], row (w.heap.size) 30 #[.iface 220 (.pointer (some ⟨a1, 0, none⟩)), .int .i32 l], row (a1) 223 #[.int .u32 rs, .int .u32 ri, .bool false, .bool false, .bool false], row (a2) 223 #[.int .u32 rs, .int .u32 ri, .bool false, .bool false, .bool false]] X := by
    rw [← hW]
    exact (((((hO).alloc' _ (w.heap.size) (by simp)).alloc' _ (w.heap.size + 1) (by simp)).alloc' _ (w.heap.size + 1 + 1) (by simp)).alloc' _ (w.heap.size + 1 + 1 + 1) (by simp)).alloc' _ (w.heap.size + 1 + 1 + 1 + 1) (by simp)
  clear hW hO
  generalize w.heap.size + 1 + 1 + 1 + 1 = B1_4 at hN ⊢
  generalize w.heap.size + 1 + 1 + 1 = B1_3 at hN ⊢
  generalize w.heap.size + 1 + 1 = B1_2 at hN ⊢
  generalize w.heap.size + 1 = B1_1 at hN ⊢
  generalize w.heap.size = B1 at hN ⊢
  have hO := hN
  clear hN
  refine wp_region_own (e := rSshapeI31E a1 a2 l rs ri B1_4 B1_3 B1_2 B1_1 B1) (anc := rSshapeI31Anc) (G := (fun L9 α u9 => OwnF w0 u9 (act rSshapeI31Cnt 7 L9) (rSshapeI31R a1 a2 l rs ri B1_4 B1_3 B1_2 B1_1 B1 L9 α) X)) (by kernel_rfl) (by kernel_rfl) (by kernel_rfl) (by kernel_rfl) (rSshapeI31_he a1 a2 l rs ri B1_4 B1_3 B1_2 B1_1 B1) ?_ (RunsAll.all ?_) ?_
  · have hp : ∀ i, act rSshapeI31Cnt 7 (fun _ => false) i → i ∈ [999, 1999, 2999, 3999, 4999, 5999, 6999] := by
      intro i hi
      have h9 : i % 1000 = 999 := by
        by_cases h : i % 1000 = 999
        · exact h
        · exact absurd (act_lt hi h) (by simp)
      unfold act at hi
      rw [if_pos h9] at hi
      simp only [List.mem_cons, List.not_mem_nil, or_false]
      omega
    refine hO.drew.family (fun i hi => ?_) (fun i j hi hj hij => ?_)
    · have := hp i hi
      simp only [List.mem_cons, List.not_mem_nil, or_false] at this
      rcases this with rfl | rfl | rfl | rfl | rfl | rfl | rfl <;> rfl
    · have h1 := hp i hi
      have h2 := hp j hj
      simp only [List.mem_cons, List.not_mem_nil, or_false] at h1 h2
      omega
  · refine ⟨?_, ?_, ?_, ?_, ?_, ?_, ?_, ?_, ?_, ?_, ?_, ?_, ?_, ?_, trivial⟩
    · intro L9 α a9 u9 K9 hL hcl hA hG hS h0 hK
      replace hL : L9 0 = false := hL
      have q8 : a9.tmps[8]? = some (.pointer (some ⟨a2, 0, none⟩)) := (h0 8 (by kernel_rfl)).trans rfl
      have s8 := Rega.eval_of q8
      go_simp
      exact hK _ α _ (fun _ _ => rfl) rfl (step_same (rSshapeI31_st a1 a2 l rs ri B1_4 B1_3 B1_2 B1_1 B1) hL hcl rfl rfl hG)
    · intro L9 α a9 u9 K9 hL hcl hA hG hS h0 hK
      replace hL : L9 1 = false := hL
      have q30 : a9.tmps[30]? = some (.pointer (some ⟨a2, 0, none⟩)) := hS 0 30 (by decide) rfl (by show 30 < 86; decide)
      have s30 := Rega.eval_of q30
      go_simp
      exact hK _ α _ (fun _ _ => rfl) rfl (step_same (rSshapeI31_st a1 a2 l rs ri B1_4 B1_3 B1_2 B1_1 B1) hL hcl rfl rfl hG)
    · intro L9 α a9 u9 K9 hL hcl hA hG hS h0 hK
      replace hL : L9 2 = false := hL
      have q31 : a9.tmps[31]? = some (.bool true) := hS 1 31 (by decide) rfl (by show 31 < 86; decide)
      have s31 := Rega.eval_of q31
      go_simp
      exact hK _ α _ (fun _ _ => rfl) rfl (step_same (rSshapeI31_st a1 a2 l rs ri B1_4 B1_3 B1_2 B1_1 B1) hL hcl rfl rfl hG)
    · intro L9 α a9 u9 K9 hL hcl hA hG hS h0 hK
      replace hL : L9 3 = false := hL
      have q7 : a9.tmps[7]? = some (.pointer (some ⟨a1, 0, none⟩)) := (h0 7 (by kernel_rfl)).trans rfl
      have s7 := Rega.eval_of q7
      have q32 : a9.tmps[32]? = some (.bool true) := hS 2 32 (by decide) rfl (by show 32 < 86; decide)
      have s32 := Rega.eval_of q32
      go_simp
      exact hK _ α _ (fun _ _ => rfl) rfl (step_same (rSshapeI31_st a1 a2 l rs ri B1_4 B1_3 B1_2 B1_1 B1) hL hcl rfl rfl hG)
    · intro L9 α a9 u9 K9 hL hcl hA hG hS h0 hK
      replace hL : L9 4 = false := hL
      have q33 : a9.tmps[33]? = some (.pointer (some ⟨a1, 0, none⟩)) := hS 3 33 (by decide) rfl (by show 33 < 86; decide)
      have s33 := Rega.eval_of q33
      have q32 : a9.tmps[32]? = some (.bool true) := hS 2 32 (by decide) rfl (by show 32 < 86; decide)
      have s32 := Rega.eval_of q32
      go_simp
      exact hK _ α _ (fun _ _ => rfl) rfl (step_same (rSshapeI31_st a1 a2 l rs ri B1_4 B1_3 B1_2 B1_1 B1) hL hcl rfl rfl hG)
    · intro L9 α a9 u9 K9 hL hcl hA hG hS h0 hK
      replace hL : L9 5 = false := hL
      have q34 : a9.tmps[34]? = some (.pointer (some ⟨a1, 0, none⟩)) := hS 4 34 (by decide) rfl (by show 34 < 86; decide)
      have s34 := Rega.eval_of q34
      have q32 : a9.tmps[32]? = some (.bool true) := hS 2 32 (by decide) rfl (by show 32 < 86; decide)
      have s32 := Rega.eval_of q32
      go_simp
      exact hK _ α _ (fun _ _ => rfl) rfl (step_same (rSshapeI31_st a1 a2 l rs ri B1_4 B1_3 B1_2 B1_1 B1) hL hcl rfl rfl hG)
    · intro L9 α a9 u9 K9 hL hcl hA hG hS h0 hK
      replace hL : L9 6 = false := hL
      have q35 : a9.tmps[35]? = some (.pointer (some ⟨a1, 0, none⟩)) := hS 5 35 (by decide) rfl (by show 35 < 86; decide)
      have s35 := Rega.eval_of q35
      have q32 : a9.tmps[32]? = some (.bool true) := hS 2 32 (by decide) rfl (by show 32 < 86; decide)
      have s32 := Rega.eval_of q32
      have e0 : rSshapeI31R a1 a2 l rs ri B1_4 B1_3 B1_2 B1_1 B1 L9 α 5999 = row (a1) 223 #[.int .u32 rs, .int .u32 ri, .bool false, .bool false, .bool false] := rfl
      have hr := hG.rowAt 5999 (act_base 5999 rfl) e0
      have c0 : u9.cell? ⟨a1, 0, none⟩ = some (.int .u32 rs) := hr.cell rfl
      have c1 : u9.cell? ⟨a1, 1, none⟩ = some (.int .u32 ri) := hr.cell rfl
      clear hr e0
      go_simp
      exact hK _ α _ (fun _ _ => rfl) rfl (step_same (rSshapeI31_st a1 a2 l rs ri B1_4 B1_3 B1_2 B1_1 B1) hL hcl rfl rfl hG)
    · intro L9 α a9 u9 K9 hL hcl hA hG hS h0 hK
      replace hL : L9 7 = false := hL
      have q8 : a9.tmps[8]? = some (.pointer (some ⟨a2, 0, none⟩)) := (h0 8 (by kernel_rfl)).trans rfl
      have s8 := Rega.eval_of q8
      have q32 : a9.tmps[32]? = some (.bool true) := hS 2 32 (by decide) rfl (by show 32 < 86; decide)
      have s32 := Rega.eval_of q32
      go_simp
      exact hK _ α _ (fun _ _ => rfl) rfl (step_same (rSshapeI31_st a1 a2 l rs ri B1_4 B1_3 B1_2 B1_1 B1) hL hcl rfl rfl hG)
    · intro L9 α a9 u9 K9 hL hcl hA hG hS h0 hK
      replace hL : L9 8 = false := hL
      have q37 : a9.tmps[37]? = some (.pointer (some ⟨a2, 0, none⟩)) := hS 7 37 (by decide) rfl (by show 37 < 86; decide)
      have s37 := Rega.eval_of q37
      have q32 : a9.tmps[32]? = some (.bool true) := hS 2 32 (by decide) rfl (by show 32 < 86; decide)
      have s32 := Rega.eval_of q32
      go_simp
      exact hK _ α _ (fun _ _ => rfl) rfl (step_same (rSshapeI31_st a1 a2 l rs ri B1_4 B1_3 B1_2 B1_1 B1) hL hcl rfl rfl hG)
    · intro L9 α a9 u9 K9 hL hcl hA hG hS h0 hK
      replace hL : L9 9 = false := hL
      have q38 : a9.tmps[38]? = some (.pointer (some ⟨a2, 0, none⟩)) := hS 8 38 (by decide) rfl (by show 38 < 86; decide)
      have s38 := Rega.eval_of q38
      have q32 : a9.tmps[32]? = some (.bool true) := hS 2 32 (by decide) rfl (by show 32 < 86; decide)
      have s32 := Rega.eval_of q32
      go_simp
      exact hK _ α _ (fun _ _ => rfl) rfl (step_same (rSshapeI31_st a1 a2 l rs ri B1_4 B1_3 B1_2 B1_1 B1) hL hcl rfl rfl hG)
    · intro L9 α a9 u9 K9 hL hcl hA hG hS h0 hK
      replace hL : L9 10 = false := hL
      have q39 : a9.tmps[39]? = some (.pointer (some ⟨a2, 0, none⟩)) := hS 9 39 (by decide) rfl (by show 39 < 86; decide)
      have s39 := Rega.eval_of q39
      have q32 : a9.tmps[32]? = some (.bool true) := hS 2 32 (by decide) rfl (by show 32 < 86; decide)
      have s32 := Rega.eval_of q32
      have e0 : rSshapeI31R a1 a2 l rs ri B1_4 B1_3 B1_2 B1_1 B1 L9 α 6999 = row (a2) 223 #[.int .u32 rs, .int .u32 ri, .bool false, .bool false, .bool false] := rfl
      have hr := hG.rowAt 6999 (act_base 6999 rfl) e0
      have c0 : u9.cell? ⟨a2, 0, none⟩ = some (.int .u32 rs) := hr.cell rfl
      have c1 : u9.cell? ⟨a2, 1, none⟩ = some (.int .u32 ri) := hr.cell rfl
      clear hr e0
      go_simp
      exact hK _ α _ (fun _ _ => rfl) rfl (step_same (rSshapeI31_st a1 a2 l rs ri B1_4 B1_3 B1_2 B1_1 B1) hL hcl rfl rfl hG)
    · intro L9 α a9 u9 K9 hL hcl hA hG hS h0 hK
      replace hL : L9 11 = false := hL
      have q36 : a9.tmps[36]? = some (.agg #[.int .u32 rs, .int .u32 ri]) := hS 6 36 (by decide) rfl (by show 36 < 86; decide)
      have s36 := Rega.eval_of q36
      have q40 : a9.tmps[40]? = some (.agg #[.int .u32 rs, .int .u32 ri]) := hS 10 40 (by decide) rfl (by show 40 < 86; decide)
      have s40 := Rega.eval_of q40
      have q32 : a9.tmps[32]? = some (.bool true) := hS 2 32 (by decide) rfl (by show 32 < 86; decide)
      have s32 := Rega.eval_of q32
      go_simp
      exact hK _ α _ (fun _ _ => rfl) rfl (step_same (rSshapeI31_st a1 a2 l rs ri B1_4 B1_3 B1_2 B1_1 B1) hL hcl rfl rfl hG)
    · intro L9 α a9 u9 K9 hL hcl hA hG hS h0 hK
      replace hL : L9 12 = false := hL
      have q32 : a9.tmps[32]? = some (.bool true) := hS 2 32 (by decide) rfl (by show 32 < 86; decide)
      have s32 := Rega.eval_of q32
      have q41 : a9.tmps[41]? = some (.bool true) := hS 11 41 (by decide) rfl (by show 41 < 86; decide)
      have s41 := Rega.eval_of q41
      go_simp
      exact hK _ α _ (fun _ _ => rfl) rfl (step_same (rSshapeI31_st a1 a2 l rs ri B1_4 B1_3 B1_2 B1_1 B1) hL hcl rfl rfl hG)
    · intro L9 α a9 u9 K9 hL hcl hA hG hS h0 hK
      replace hL : L9 13 = false := hL
      have q42 : a9.tmps[42]? = some (.bool true) := hS 12 42 (by decide) rfl (by show 42 < 86; decide)
      have s42 := Rega.eval_of q42
      go_simp
      exact hK _ α _ (fun _ _ => rfl) rfl (step_same (rSshapeI31_st a1 a2 l rs ri B1_4 B1_3 B1_2 B1_1 B1) hL hcl rfl rfl hG)
  · intro α u hG
    have e0 : rSshapeI31R a1 a2 l rs ri B1_4 B1_3 B1_2 B1_1 B1 (fun k => decide (k < 14)) α 999 = row (B1_4) 30 #[.iface 220 (.pointer (some ⟨a2, 0, none⟩)), .int .i32 l] := rfl
    have e1 : rSshapeI31R a1 a2 l rs ri B1_4 B1_3 B1_2 B1_1 B1 (fun k => decide (k < 14)) α 1999 = row (B1_3) 30 #[.iface 220 (.pointer (some ⟨a1, 0, none⟩)), .int .i32 l] := rfl
    have e2 : rSshapeI31R a1 a2 l rs ri B1_4 B1_3 B1_2 B1_1 B1 (fun k => decide (k < 14)) α 2999 = row (B1_2) 30 #[.iface 220 (.pointer (some ⟨a1, 0, none⟩)), .int .i32 l] := rfl
    have e3 : rSshapeI31R a1 a2 l rs ri B1_4 B1_3 B1_2 B1_1 B1 (fun k => decide (k < 14)) α 3999 = row (B1_1) 30 #[.iface 220 (.pointer (some ⟨a2, 0, none⟩)), .int .i32 l] := rfl
    have e4 : rSshapeI31R a1 a2 l rs ri B1_4 B1_3 B1_2 B1_1 B1 (fun k => decide (k < 14)) α 4999 = row (B1) 30 #[.iface 220 (.pointer (some ⟨a1, 0, none⟩)), .int .i32 l] := rfl
    have e5 : rSshapeI31R a1 a2 l rs ri B1_4 B1_3 B1_2 B1_1 B1 (fun k => decide (k < 14)) α 5999 = row (a1) 223 #[.int .u32 rs, .int .u32 ri, .bool false, .bool false, .bool false] := rfl
    have e6 : rSshapeI31R a1 a2 l rs ri B1_4 B1_3 B1_2 B1_1 B1 (fun k => decide (k < 14)) α 6999 = row (a2) 223 #[.int .u32 rs, .int .u32 ri, .bool false, .bool false, .bool false] := rfl
    have hO : Own w0 u [row (B1_4) 30 #[.iface 220 (.pointer (some ⟨a2, 0, none⟩)), .int .i32 l], row (B1_3) 30 #[.iface 220 (.pointer (some ⟨a1, 0, none⟩)), .int .i32 l], row (B1_2) 30 #[.iface 220 (.pointer (some ⟨a1, 0, none⟩)), .int .i32 l], row (B1_1) 30 #[.iface 220 (.pointer (some ⟨a2, 0, none⟩)), .int .i32 l], row (B1) 30 #[.iface 220 (.pointer (some ⟨a1, 0, none⟩)), .int .i32 l], row (a1) 223 #[.int .u32 rs, .int .u32 ri, .bool false, .bool false, .bool false], row (a2) 223 #[.int .u32 rs, .int .u32 ri, .bool false, .bool false, .bool false]] X := (hG.list [999, 1999, 2999, 3999, 4999, 5999, 6999] (by decide) (act_all (by decide))).conv (by
      show [rSshapeI31R a1 a2 l rs ri B1_4 B1_3 B1_2 B1_1 B1 (fun k => decide (k < 14)) α 999, rSshapeI31R a1 a2 l rs ri B1_4 B1_3 B1_2 B1_1 B1 (fun k => decide (k < 14)) α 1999, rSshapeI31R a1 a2 l rs ri B1_4 B1_3 B1_2 B1_1 B1 (fun k => decide (k < 14)) α 2999, rSshapeI31R a1 a2 l rs ri B1_4 B1_3 B1_2 B1_1 B1 (fun k => decide (k < 14)) α 3999, rSshapeI31R a1 a2 l rs ri B1_4 B1_3 B1_2 B1_1 B1 (fun k => decide (k < 14)) α 4999, rSshapeI31R a1 a2 l rs ri B1_4 B1_3 B1_2 B1_1 B1 (fun k => decide (k < 14)) α 5999, rSshapeI31R a1 a2 l rs ri B1_4 B1_3 B1_2 B1_1 B1 (fun k => decide (k < 14)) α 6999] = _
      rw [e0, e1, e2, e3, e4, e5, e6])
    clear hG e0 e1 e2 e3 e4 e5 e6
    generalize hfr : Rega.frameAt _ _ _ _ _ = fr
    have hdf : fr = ⟨#[.agg #[.iface 220 (.pointer (some ⟨a1, 0, none⟩)), .int .i32 l], .agg #[.iface 220 (.pointer (some ⟨a2, 0, none⟩)), .int .i32 l], .int .i64 3, .pointer (some ⟨B1, 0, none⟩), .pointer (some ⟨B1_1, 0, none⟩), undef, .bool true, .pointer (some ⟨a1, 0, none⟩), .pointer (some ⟨a2, 0, none⟩), undef, undef, .int .i64 3, .bool false, .pointer (some ⟨B1, 1, none⟩), .pointer (some ⟨B1, 1, none⟩), .int .i32 l, .pointer (some ⟨B1_1, 1, none⟩), .pointer (some ⟨B1_1, 1, none⟩), .int .i32 l, .bool false, .agg #[.iface 220 (.pointer (some ⟨a1, 0, none⟩)), .int .i32 l], .bool false, undef, undef, .agg #[.iface 220 (.pointer (some ⟨a1, 0, none⟩)), .int .i32 l], .pointer (some ⟨a1, 0, none⟩), .pointer (some ⟨a1, 0, none⟩), .bool true, .agg #[.iface 220 (.pointer (some ⟨a2, 0, none⟩)), .int .i32 l], .pointer (some ⟨a2, 0, none⟩), .pointer (some ⟨a2, 0, none⟩), .bool true, .bool true, .pointer (some ⟨a1, 0, none⟩), .pointer (some ⟨a1, 0, none⟩), .pointer (some ⟨a1, 0, none⟩), .agg #[.int .u32 rs, .int .u32 ri], .pointer (some ⟨a2, 0, none⟩), .pointer (some ⟨a2, 0, none⟩), .pointer (some ⟨a2, 0, none⟩), .agg #[.int .u32 rs, .int .u32 ri], .bool true, .bool true, undef, undef, undef, undef, undef, undef, undef, undef, undef, undef, undef, undef, undef, undef, undef, undef, undef, undef, undef, undef, undef, undef, undef, undef, undef, undef, undef, undef, undef, undef, undef, undef, undef, undef, undef, undef, undef, undef, undef, undef, undef, undef, undef], []⟩ := by rw [← hfr]; kernel_rfl
    clear hfr
    subst hdf
    clear α
    have pl9_0 : Base.plainAt u (B1_4) = true := hO.plain 0 rfl
    have pl9_1 : Base.plainAt u (B1_3) = true := hO.plain 1 rfl
    have pl9_2 : Base.plainAt u (B1_2) = true := hO.plain 2 rfl
    have pl9_3 : Base.plainAt u (B1_1) = true := hO.plain 3 rfl
    have pl9_4 : Base.plainAt u (B1) = true := hO.plain 4 rfl
    have pl9_5 : Base.plainAt u (a1) = true := hO.plain 5 rfl
    have pl9_6 : Base.plainAt u (a2) = true := hO.plain 6 rfl
    have ne9_0_1 : ¬ B1_4 = B1_3 := hO.ne 0 1 rfl rfl (by decide)
    have ne9_0_2 : ¬ B1_4 = B1_2 := hO.ne 0 2 rfl rfl (by decide)
    have ne9_0_3 : ¬ B1_4 = B1_1 := hO.ne 0 3 rfl rfl (by decide)
    have ne9_0_4 : ¬ B1_4 = B1 := hO.ne 0 4 rfl rfl (by decide)
    have ne9_1_0 : ¬ B1_3 = B1_4 := hO.ne 1 0 rfl rfl (by decide)
    have ne9_1_2 : ¬ B1_3 = B1_2 := hO.ne 1 2 rfl rfl (by decide)
    have ne9_1_3 : ¬ B1_3 = B1_1 := hO.ne 1 3 rfl rfl (by decide)
    have ne9_1_4 : ¬ B1_3 = B1 := hO.ne 1 4 rfl rfl (by decide)
    have ne9_2_0 : ¬ B1_2 = B1_4 := hO.ne 2 0 rfl rfl (by decide)
    have ne9_2_1 : ¬ B1_2 = B1_3 := hO.ne 2 1 rfl rfl (by decide)
    have ne9_2_3 : ¬ B1_2 = B1_1 := hO.ne 2 3 rfl rfl (by decide)
    have ne9_2_4 : ¬ B1_2 = B1 := hO.ne 2 4 rfl rfl (by decide)
    have ne9_3_0 : ¬ B1_1 = B1_4 := hO.ne 3 0 rfl rfl (by decide)
    have ne9_3_1 : ¬ B1_1 = B1_3 := hO.ne 3 1 rfl rfl (by decide)
    have ne9_3_2 : ¬ B1_1 = B1_2 := hO.ne 3 2 rfl rfl (by decide)
    have ne9_3_4 : ¬ B1_1 = B1 := hO.ne 3 4 rfl rfl (by decide)
    have ne9_4_0 : ¬ B1 = B1_4 := hO.ne 4 0 rfl rfl (by decide)
    have ne9_4_1 : ¬ B1 = B1_3 := hO.ne 4 1 rfl rfl (by decide)
    have ne9_4_2 : ¬ B1 = B1_2 := hO.ne 4 2 rfl rfl (by decide)
    have ne9_4_3 : ¬ B1 = B1_1 := hO.ne 4 3 rfl rfl (by decide)
    have ne9_5_6 : ¬ a1 = a2 := hO.ne 5 6 rfl rfl (by decide)
    have ne9_6_5 : ¬ a2 = a1 := hO.ne 6 5 rfl rfl (by decide)
    have c9_0_0 : u.cell? ⟨B1_4, 0, none⟩ = some (.iface 220 (.pointer (some ⟨a2, 0, none⟩))) := hO.cell 0 rfl 0 rfl
    have c9_0_1 : u.cell? ⟨B1_4, 1, none⟩ = some (.int .i32 l) := hO.cell 0 rfl 1 rfl
    have lt9_0 : B1_4 < u.heap.size := hO.lt 0 rfl
    have y9_0 : ∀ o, u.frozen? ⟨B1_4, o, none⟩ = false := hO.free 0 rfl
    have c9_1_0 : u.cell? ⟨B1_3, 0, none⟩ = some (.iface 220 (.pointer (some ⟨a1, 0, none⟩))) := hO.cell 1 rfl 0 rfl
    have c9_1_1 : u.cell? ⟨B1_3, 1, none⟩ = some (.int .i32 l) := hO.cell 1 rfl 1 rfl
    have lt9_1 : B1_3 < u.heap.size := hO.lt 1 rfl
    have y9_1 : ∀ o, u.frozen? ⟨B1_3, o, none⟩ = false := hO.free 1 rfl
    have c9_2_0 : u.cell? ⟨B1_2, 0, none⟩ = some (.iface 220 (.pointer (some ⟨a1, 0, none⟩))) := hO.cell 2 rfl 0 rfl
    have c9_2_1 : u.cell? ⟨B1_2, 1, none⟩ = some (.int .i32 l) := hO.cell 2 rfl 1 rfl
    have lt9_2 : B1_2 < u.heap.size := hO.lt 2 rfl
    have y9_2 : ∀ o, u.frozen? ⟨B1_2, o, none⟩ = false := hO.free 2 rfl
    have c9_3_0 : u.cell? ⟨B1_1, 0, none⟩ = some (.iface 220 (.pointer (some ⟨a2, 0, none⟩))) := hO.cell 3 rfl 0 rfl
    have c9_3_1 : u.cell? ⟨B1_1, 1, none⟩ = some (.int .i32 l) := hO.cell 3 rfl 1 rfl
    have lt9_3 : B1_1 < u.heap.size := hO.lt 3 rfl
    have y9_3 : ∀ o, u.frozen? ⟨B1_1, o, none⟩ = false := hO.free 3 rfl
    have c9_4_0 : u.cell? ⟨B1, 0, none⟩ = some (.iface 220 (.pointer (some ⟨a1, 0, none⟩))) := hO.cell 4 rfl 0 rfl
    have c9_4_1 : u.cell? ⟨B1, 1, none⟩ = some (.int .i32 l) := hO.cell 4 rfl 1 rfl
    have lt9_4 : B1 < u.heap.size := hO.lt 4 rfl
    have y9_4 : ∀ o, u.frozen? ⟨B1, o, none⟩ = false := hO.free 4 rfl
    have c9_5_0 : u.cell? ⟨a1, 0, none⟩ = some (.int .u32 rs) := hO.cell 5 rfl 0 rfl
    have c9_5_1 : u.cell? ⟨a1, 1, none⟩ = some (.int .u32 ri) := hO.cell 5 rfl 1 rfl
    have c9_5_2 : u.cell? ⟨a1, 2, none⟩ = some (.bool false) := hO.cell 5 rfl 2 rfl
    have c9_5_3 : u.cell? ⟨a1, 3, none⟩ = some (.bool false) := hO.cell 5 rfl 3 rfl
    have c9_5_4 : u.cell? ⟨a1, 4, none⟩ = some (.bool false) := hO.cell 5 rfl 4 rfl
    have lt9_5 : a1 < u.heap.size := hO.lt 5 rfl
    have y9_5 : ∀ o, u.frozen? ⟨a1, o, none⟩ = false := hO.free 5 rfl
    have c9_6_0 : u.cell? ⟨a2, 0, none⟩ = some (.int .u32 rs) := hO.cell 6 rfl 0 rfl
    have c9_6_1 : u.cell? ⟨a2, 1, none⟩ = some (.int .u32 ri) := hO.cell 6 rfl 1 rfl
    have c9_6_2 : u.cell? ⟨a2, 2, none⟩ = some (.bool false) := hO.cell 6 rfl 2 rfl
    have c9_6_3 : u.cell? ⟨a2, 3, none⟩ = some (.bool false) := hO.cell 6 rfl 3 rfl
    have c9_6_4 : u.cell? ⟨a2, 4, none⟩ = some (.bool false) := hO.cell 6 rfl 4 rfl
    have lt9_6 : a2 < u.heap.size := hO.lt 6 rfl
    have y9_6 : ∀ o, u.frozen? ⟨a2, o, none⟩ = false := hO.free 6 rfl
    have HO := Lib.hid hO
    clear hO
    go_wp2_with (first | (go_at_call 39; go_in) | (go_at_call 40; go_in) | (go_at_call 18; go_in) | (go_at_call 23; go_in) | (go_at_call 21; go_in) | (go_at_call 41; go_in) | (go_at_call 42; go_in) | (go_at_call 28; go_in) | (go_at_call 43; go_in))
    have hO := HO.out
    clear HO pl9_0 pl9_1 pl9_2 pl9_3 pl9_4 pl9_5 pl9_6 ne9_0_1 ne9_0_2 ne9_0_3 ne9_0_4 ne9_1_0 ne9_1_2 ne9_1_3 ne9_1_4 ne9_2_0 ne9_2_1 ne9_2_3 ne9_2_4 ne9_3_0 ne9_3_1 ne9_3_2 ne9_3_4 ne9_4_0 ne9_4_1 ne9_4_2 ne9_4_3 ne9_5_6 ne9_6_5 c9_0_0 c9_0_1 lt9_0 y9_0 c9_1_0 c9_1_1 lt9_1 y9_1 c9_2_0 c9_2_1 lt9_2 y9_2 c9_3_0 c9_3_1 lt9_3 y9_3 c9_4_0 c9_4_1 lt9_4 y9_4 c9_5_0 c9_5_1 c9_5_2 c9_5_3 c9_5_4 lt9_5 y9_5 c9_6_0 c9_6_1 c9_6_2 c9_6_3 c9_6_4 lt9_6 y9_6
    refine bodyPost_ret (v := .bool true) ?_ rfl ⟨rfl, hO.sub [5, 6] (by decide)⟩
    simp [results, Tryd.results20, go_sem]
def rSSD1E (a1 : Nat) (a2 : Nat) (l : Int) (rs : Int) (ri : Int) (dx : Nat) (dy : Nat) (pr : ByteArray) (B1_5 : Nat) (B1_4 : Nat) (B1_3 : Nat) (B1_2 : Nat) (B1_1 : Nat) (B1 : Nat) : Nat → Rega.Atoms → Value
  | 0, α => .pointer (some ⟨dy, 0, none⟩)
  | 1, α => .bool true
  | 2, α => .bool true
  | 3, α => .pointer (some ⟨dx, 0, none⟩)
  | 4, α => .pointer (some ⟨dx, 0, none⟩)
  | 5, α => .pointer (some ⟨dx, 2, none⟩)
  | 6, α => .string pr
  | 7, α => .pointer (some ⟨dy, 0, none⟩)
  | 8, α => .pointer (some ⟨dy, 0, none⟩)
  | 9, α => .pointer (some ⟨dy, 2, none⟩)
  | 10, α => .string pr
  | 11, α => .bool true
  | 12, α => .bool true
  | 13, α => .bool true
  | 14, α => .pointer (some ⟨dx, 0, none⟩)
  | 15, α => .pointer (some ⟨dx, 0, none⟩)
  | 16, α => .pointer (some ⟨dx, 3, none⟩)
  | 17, α => .agg #[.int .i32 l]
  | 18, α => .pointer (some ⟨dy, 0, none⟩)
  | 19, α => .pointer (some ⟨dy, 0, none⟩)
  | 20, α => .pointer (some ⟨dy, 3, none⟩)
  | 21, α => .agg #[.int .i32 l]
  | 22, α => .bool true
  | 23, α => .bool true
  | 24, α => .bool true
  | 25, α => .pointer (some ⟨dx, 0, none⟩)
  | 26, α => .pointer (some ⟨dx, 0, none⟩)
  | 27, α => .pointer (some ⟨dx, 0, none⟩)
  | 28, α => .agg #[.iface 220 (.pointer (some ⟨a1, 0, none⟩)), .int .i32 l]
  | 29, α => .pointer (some ⟨dy, 0, none⟩)
  | 30, α => .pointer (some ⟨dy, 0, none⟩)
  | 31, α => .pointer (some ⟨dy, 0, none⟩)
  | 32, α => .agg #[.iface 220 (.pointer (some ⟨a2, 0, none⟩)), .int .i32 l]
  | 33, α => .int .i64 4
  | 34, α => .int .i64 3
  | 35, α => .bool true
  | 36, α => .bool true
  | 37, α => .bool true
  | _, _ => undef
def rSSD1Anc : Nat → List Nat
  | 1 => [0]
  | 2 => [0, 1]
  | 3 => [0, 1, 2]
  | 4 => [0, 1, 2, 3]
  | 5 => [0, 1, 2, 3, 4]
  | 6 => [0, 1, 2, 3, 4, 5]
  | 7 => [0, 1, 2]
  | 8 => [0, 1, 2, 7]
  | 9 => [0, 1, 2, 7, 8]
  | 10 => [0, 1, 2, 7, 8, 9]
  | 11 => [0, 1, 2, 3, 4, 5, 6, 7, 8, 9, 10]
  | 12 => [0, 1, 2, 3, 4, 5, 6, 7, 8, 9, 10, 11]
  | 13 => [0, 1, 2, 3, 4, 5, 6, 7, 8, 9, 10, 11, 12]
  | 14 => [0, 1, 2, 3, 4, 5, 6, 7, 8, 9, 10, 11, 12, 13]
  | 15 => [0, 1, 2, 3, 4, 5, 6, 7, 8, 9, 10, 11, 12, 13, 14]
  | 16 => [0, 1, 2, 3, 4, 5, 6, 7, 8, 9, 10, 11, 12, 13, 14, 15]
  | 17 => [0, 1, 2, 3, 4, 5, 6, 7, 8, 9, 10, 11, 12, 13, 14, 15, 16]
  | 18 => [0, 1, 2, 3, 4, 5, 6, 7, 8, 9, 10, 11, 12, 13]
  | 19 => [0, 1, 2, 3, 4, 5, 6, 7, 8, 9, 10, 11, 12, 13, 18]
  | 20 => [0, 1, 2, 3, 4, 5, 6, 7, 8, 9, 10, 11, 12, 13, 18, 19]
  | 21 => [0, 1, 2, 3, 4, 5, 6, 7, 8, 9, 10, 11, 12, 13, 18, 19, 20]
  | 22 => [0, 1, 2, 3, 4, 5, 6, 7, 8, 9, 10, 11, 12, 13, 14, 15, 16, 17, 18, 19, 20, 21]
  | 23 => [0, 1, 2, 3, 4, 5, 6, 7, 8, 9, 10, 11, 12, 13, 14, 15, 16, 17, 18, 19, 20, 21, 22]
  | 24 => [0, 1, 2, 3, 4, 5, 6, 7, 8, 9, 10, 11, 12, 13, 14, 15, 16, 17, 18, 19, 20, 21, 22, 23]
  | 25 => [0, 1, 2, 3, 4, 5, 6, 7, 8, 9, 10, 11, 12, 13, 14, 15, 16, 17, 18, 19, 20, 21, 22, 23, 24]
  | 26 => [0, 1, 2, 3, 4, 5, 6, 7, 8, 9, 10, 11, 12, 13, 14, 15, 16, 17, 18, 19, 20, 21, 22, 23, 24, 25]
  | 27 => [0, 1, 2, 3, 4, 5, 6, 7, 8, 9, 10, 11, 12, 13, 14, 15, 16, 17, 18, 19, 20, 21, 22, 23, 24, 25, 26]
  | 28 => [0, 1, 2, 3, 4, 5, 6, 7, 8, 9, 10, 11, 12, 13, 14, 15, 16, 17, 18, 19, 20, 21, 22, 23, 24, 25, 26, 27]
  | 29 => [0, 1, 2, 3, 4, 5, 6, 7, 8, 9, 10, 11, 12, 13, 14, 15, 16, 17, 18, 19, 20, 21, 22, 23, 24]
  | 30 => [0, 1, 2, 3, 4, 5, 6, 7, 8, 9, 10, 11, 12, 13, 14, 15, 16, 17, 18, 19, 20, 21, 22, 23, 24, 29]
  | 31 => [0, 1, 2, 3, 4, 5, 6, 7, 8, 9, 10, 11, 12, 13, 14, 15, 16, 17, 18, 19, 20, 21, 22, 23, 24, 29, 30]
  | 32 => [0, 1, 2, 3, 4, 5, 6, 7, 8, 9, 10, 11, 12, 13, 14, 15, 16, 17, 18, 19, 20, 21, 22, 23, 24, 29, 30, 31]
  | 33 => [0, 1, 2, 3, 4, 5, 6, 7, 8, 9, 10, 11, 12, 13, 14, 15, 16, 17, 18, 19, 20, 21, 22, 23, 24]
  | 34 => [0, 1, 2, 3, 4, 5, 6, 7, 8, 9, 10, 11, 12, 13, 14, 15, 16, 17, 18, 19, 20, 21, 22, 23, 24, 33]
  | 35 => [0, 1, 2, 3, 4, 5, 6, 7, 8, 9, 10, 11, 12, 13, 14, 15, 16, 17, 18, 19, 20, 21, 22, 23, 24, 25, 26, 27, 28, 29, 30, 31, 32, 33, 34]
  | 36 => [0, 1, 2, 3, 4, 5, 6, 7, 8, 9, 10, 11, 12, 13, 14, 15, 16, 17, 18, 19, 20, 21, 22, 23, 24, 25, 26, 27, 28, 29, 30, 31, 32, 33, 34, 35]
  | 37 => [0, 1, 2, 3, 4, 5, 6, 7, 8, 9, 10, 11, 12, 13, 14, 15, 16, 17, 18, 19, 20, 21, 22, 23, 24, 25, 26, 27, 28, 29, 30, 31, 32, 33, 34, 35, 36]
  | _ => []
def rSSD1Trn : Nat → List Nat
  | _ => []
def rSSD1Cnt : List (Nat × Nat) := []
def rSSD1R (a1 : Nat) (a2 : Nat) (l : Int) (rs : Int) (ri : Int) (dx : Nat) (dy : Nat) (pr : ByteArray) (B1_5 : Nat) (B1_4 : Nat) (B1_3 : Nat) (B1_2 : Nat) (B1_1 : Nat) (B1 : Nat) (L9 : Nat → Bool) (α : Rega.Atoms) (ix9 : Nat) : Rw := if ix9 = 999 then row (B1_5) 30 #[.iface 40 (.pointer (some ⟨dy, 0, none⟩)), .int .i32 l] else if ix9 = 1999 then row (B1_4) 30 #[.iface 40 (.pointer (some ⟨dx, 0, none⟩)), .int .i32 l] else if ix9 = 2999 then row (B1_3) 30 #[.iface 40 (.pointer (some ⟨dx, 0, none⟩)), .int .i32 l] else if ix9 = 3999 then row (B1_2) 30 #[.iface 40 (.pointer (some ⟨dx, 0, none⟩)), .int .i32 l] else if ix9 = 4999 then row (B1_1) 30 #[.iface 40 (.pointer (some ⟨dy, 0, none⟩)), .int .i32 l] else if ix9 = 5999 then row (B1) 30 #[.iface 40 (.pointer (some ⟨dx, 0, none⟩)), .int .i32 l] else if ix9 = 6999 then row (dx) 44 #[.iface 220 (.pointer (some ⟨a1, 0, none⟩)), .int .i32 l, .string pr, .int .i32 l, .int .u8 0, .bool false, .bool false, .bool false] else if ix9 = 7999 then row (dy) 44 #[.iface 220 (.pointer (some ⟨a2, 0, none⟩)), .int .i32 l, .string pr, .int .i32 l, .int .u8 0, .bool false, .bool false, .bool false] else if ix9 = 8999 then row (a1) 223 #[.int .u32 rs, .int .u32 ri, .bool false, .bool false, .bool false] else if ix9 = 9999 then row (a2) 223 #[.int .u32 rs, .int .u32 ri, .bool false, .bool false, .bool false] else (0, .map #[] 0)
theorem rSSD1_he (a1 : Nat) (a2 : Nat) (l : Int) (rs : Int) (ri : Int) (dx : Nat) (dy : Nat) (pr : ByteArray) (B1_5 : Nat) (B1_4 : Nat) (B1_3 : Nat) (B1_2 : Nat) (B1_1 : Nat) (B1 : Nat) : ∀ kk α α', (∀ j, (j % 1000 = kk ∨ j % 1000 ∈ rSSD1Anc kk) → α j = α' j) → rSSD1E a1 a2 l rs ri dx dy pr B1_5 B1_4 B1_3 B1_2 B1_1 B1 kk α = rSSD1E a1 a2 l rs ri dx dy pr B1_5 B1_4 B1_3 B1_2 B1_1 B1 kk α' := by
  intro kk α α' h
  match kk with
  | 0 => rfl
  | 1 => rfl
  | 2 => rfl
  | 3 => rfl
  | 4 => rfl
  | 5 => rfl
  | 6 => rfl
  | 7 => rfl
  | 8 => rfl
  | 9 => rfl
  | 10 => rfl
  | 11 => rfl
  | 12 => rfl
  | 13 => rfl
  | 14 => rfl
  | 15 => rfl
  | 16 => rfl
  | 17 => rfl
  | 18 => rfl
  | 19 => rfl
  | 20 => rfl
  | 21 => rfl
  | 22 => rfl
  | 23 => rfl
  | 24 => rfl
  | 25 => rfl
  | 26 => rfl
  | 27 => rfl
  | 28 => rfl
  | 29 => rfl
  | 30 => rfl
  | 31 => rfl
  | 32 => rfl
  | 33 => rfl
  | 34 => rfl
  | 35 => rfl
  | 36 => rfl
  | 37 => rfl
  | n + 38 => rfl
theorem rSSD1_st (a1 : Nat) (a2 : Nat) (l : Int) (rs : Int) (ri : Int) (dx : Nat) (dy : Nat) (pr : ByteArray) (B1_5 : Nat) (B1_4 : Nat) (B1_3 : Nat) (B1_2 : Nat) (B1_1 : Nat) (B1 : Nat) : Stable rSSD1Cnt 10 rSSD1Anc rSSD1Trn (rSSD1R a1 a2 l rs ri dx dy pr B1_5 B1_4 B1_3 B1_2 B1_1 B1) := by
  intro k9 L9 α α' ix9 hk hcl hα hact ht
  have hp := act_places hact
  replace hp : ix9 ∈ [999, 1999, 2999, 3999, 4999, 5999, 6999, 7999, 8999, 9999] := hp
  simp only [List.mem_cons, List.not_mem_nil, or_false] at hp
  rcases hp with rfl | rfl | rfl | rfl | rfl | rfl | rfl | rfl | rfl | rfl
  · rfl
  · rfl
  · rfl
  · rfl
  · rfl
  · rfl
  · rfl
  · rfl
  · rfl
  · rfl
def shapeD4Post (a1 a2 : Nat) (l rs ri : Int) (dx dy : Nat) (pr : ByteArray) (w0 : World) (X : Nat → Obj → Prop) (e : Ending) (w' : World) : Prop :=
  e = .returned (.bool true) ∧ Own w0 w' [row (dx) 44 #[.iface 220 (.pointer (some ⟨a1, 0, none⟩)), .int .i32 l, .string pr, .int .i32 l, .int .u8 0, .bool false, .bool false, .bool false], row (dy) 44 #[.iface 220 (.pointer (some ⟨a2, 0, none⟩)), .int .i32 l, .string pr, .int .i32 l, .int .u8 0, .bool false, .bool false, .bool false], row (a1) 223 #[.int .u32 rs, .int .u32 ri, .bool false, .bool false, .bool false], row (a2) 223 #[.int .u32 rs, .int .u32 ri, .bool false, .bool false, .bool false]] X
set_option maxRecDepth 100000 in
set_option maxHeartbeats 1000000 in
theorem shapeD4 (a1 a2 : Nat) (l rs ri : Int) (dx dy : Nat) (pr : ByteArray) (w0 w : World) (X : Nat → Obj → Prop) (hO : Own w0 w [row (dx) 44 #[.iface 220 (.pointer (some ⟨a1, 0, none⟩)), .int .i32 l, .string pr, .int .i32 l, .int .u8 0, .bool false, .bool false, .bool false], row (dy) 44 #[.iface 220 (.pointer (some ⟨a2, 0, none⟩)), .int .i32 l, .string pr, .int .i32 l, .int .u8 0, .bool false, .bool false, .bool false], row (a1) 223 #[.int .u32 rs, .int .u32 ri, .bool false, .bool false, .bool false], row (a2) 223 #[.int .u32 rs, .int .u32 ri, .bool false, .bool false, .bool false]] X)  :
    Calls Tryd.prog 20 #[.agg #[.iface 40 (.pointer (some ⟨dx, 0, none⟩)), .int .i32 l], .agg #[.iface 40 (.pointer (some ⟨dy, 0, none⟩)), .int .i32 l], .int .i64 4] w (shapeD4Post a1 a2 l rs ri dx dy pr w0 X) := by
  go_enter Tryd.func20, Tryd.ntmps20
  have pl9_0 : Base.plainAt w (dx) = true := hO.plain 0 rfl
  have pl9_1 : Base.plainAt w (dy) = true := hO.plain 1 rfl
  have pl9_2 : Base.plainAt w (a1) = true := hO.plain 2 rfl
  have pl9_3 : Base.plainAt w (a2) = true := hO.plain 3 rfl
  have ne9_0_1 : ¬ dx = dy := hO.ne 0 1 rfl rfl (by decide)
  have ne9_1_0 : ¬ dy = dx := hO.ne 1 0 rfl rfl (by decide)
  have ne9_2_3 : ¬ a1 = a2 := hO.ne 2 3 rfl rfl (by decide)
  have ne9_3_2 : ¬ a2 = a1 := hO.ne 3 2 rfl rfl (by decide)
  have c9_0_0 : w.cell? ⟨dx, 0, none⟩ = some (.iface 220 (.pointer (some ⟨a1, 0, none⟩))) := hO.cell 0 rfl 0 rfl
  have c9_0_1 : w.cell? ⟨dx, 1, none⟩ = some (.int .i32 l) := hO.cell 0 rfl 1 rfl
  have c9_0_2 : w.cell? ⟨dx, 2, none⟩ = some (.string pr) := hO.cell 0 rfl 2 rfl
  have c9_0_3 : w.cell? ⟨dx, 3, none⟩ = some (.int .i32 l) := hO.cell 0 rfl 3 rfl
  have c9_0_4 : w.cell? ⟨dx, 4, none⟩ = some (.int .u8 0) := hO.cell 0 rfl 4 rfl
  have c9_0_5 : w.cell? ⟨dx, 5, none⟩ = some (.bool false) := hO.cell 0 rfl 5 rfl
  have c9_0_6 : w.cell? ⟨dx, 6, none⟩ = some (.bool false) := hO.cell 0 rfl 6 rfl
  have c9_0_7 : w.cell? ⟨dx, 7, none⟩ = some (.bool false) := hO.cell 0 rfl 7 rfl
  have lt9_0 : dx < w.heap.size := hO.lt 0 rfl
  have y9_0 : ∀ o, w.frozen? ⟨dx, o, none⟩ = false := hO.free 0 rfl
  have c9_1_0 : w.cell? ⟨dy, 0, none⟩ = some (.iface 220 (.pointer (some ⟨a2, 0, none⟩))) := hO.cell 1 rfl 0 rfl
  have c9_1_1 : w.cell? ⟨dy, 1, none⟩ = some (.int .i32 l) := hO.cell 1 rfl 1 rfl
  have c9_1_2 : w.cell? ⟨dy, 2, none⟩ = some (.string pr) := hO.cell 1 rfl 2 rfl
  have c9_1_3 : w.cell? ⟨dy, 3, none⟩ = some (.int .i32 l) := hO.cell 1 rfl 3 rfl
  have c9_1_4 : w.cell? ⟨dy, 4, none⟩ = some (.int .u8 0) := hO.cell 1 rfl 4 rfl
  have c9_1_5 : w.cell? ⟨dy, 5, none⟩ = some (.bool false) := hO.cell 1 rfl 5 rfl
  have c9_1_6 : w.cell? ⟨dy, 6, none⟩ = some (.bool false) := hO.cell 1 rfl 6 rfl
  have c9_1_7 : w.cell? ⟨dy, 7, none⟩ = some (.bool false) := hO.cell 1 rfl 7 rfl
  have lt9_1 : dy < w.heap.size := hO.lt 1 rfl
  have y9_1 : ∀ o, w.frozen? ⟨dy, o, none⟩ = false := hO.free 1 rfl
  have c9_2_0 : w.cell? ⟨a1, 0, none⟩ = some (.int .u32 rs) := hO.cell 2 rfl 0 rfl
  have c9_2_1 : w.cell? ⟨a1, 1, none⟩ = some (.int .u32 ri) := hO.cell 2 rfl 1 rfl
  have c9_2_2 : w.cell? ⟨a1, 2, none⟩ = some (.bool false) := hO.cell 2 rfl 2 rfl
  have c9_2_3 : w.cell? ⟨a1, 3, none⟩ = some (.bool false) := hO.cell 2 rfl 3 rfl
  have c9_2_4 : w.cell? ⟨a1, 4, none⟩ = some (.bool false) := hO.cell 2 rfl 4 rfl
  have lt9_2 : a1 < w.heap.size := hO.lt 2 rfl
  have y9_2 : ∀ o, w.frozen? ⟨a1, o, none⟩ = false := hO.free 2 rfl
  have c9_3_0 : w.cell? ⟨a2, 0, none⟩ = some (.int .u32 rs) := hO.cell 3 rfl 0 rfl
  have c9_3_1 : w.cell? ⟨a2, 1, none⟩ = some (.int .u32 ri) := hO.cell 3 rfl 1 rfl
  have c9_3_2 : w.cell? ⟨a2, 2, none⟩ = some (.bool false) := hO.cell 3 rfl 2 rfl
  have c9_3_3 : w.cell? ⟨a2, 3, none⟩ = some (.bool false) := hO.cell 3 rfl 3 rfl
  have c9_3_4 : w.cell? ⟨a2, 4, none⟩ = some (.bool false) := hO.cell 3 rfl 4 rfl
  have lt9_3 : a2 < w.heap.size := hO.lt 3 rfl
  have y9_3 : ∀ o, w.frozen? ⟨a2, o, none⟩ = false := hO.free 3 rfl
  have HO := Lib.hid hO
  clear hO
  go_wp2_with (first | (go_at_call 39; go_in) | (go_at_call 40; go_in) | (go_at_call 18; go_in) | (go_at_call 23; go_in) | (go_at_call 21; go_in) | (go_at_call 41; go_in) | (go_at_call 42; go_in) | (go_at_call 28; go_in) | (go_at_call 43; go_in))
  have hO := HO.out
  clear HO pl9_0 pl9_1 pl9_2 pl9_3 ne9_0_1 ne9_1_0 ne9_2_3 ne9_3_2 c9_0_0 c9_0_1 c9_0_2 c9_0_3 c9_0_4 c9_0_5 c9_0_6 c9_0_7 lt9_0 y9_0 c9_1_0 c9_1_1 c9_1_2 c9_1_3 c9_1_4 c9_1_5 c9_1_6 c9_1_7 lt9_1 y9_1 c9_2_0 c9_2_1 c9_2_2 c9_2_3 c9_2_4 lt9_2 y9_2 c9_3_0 c9_3_1 c9_3_2 c9_3_3 c9_3_4 lt9_3 y9_3
  generalize hW : World.alloc _ _ = W2
  have hN : Own w0 W2 [row (w.heap.size + 1 + 1 + 1 + 1 + 1) 30 #[.iface 40 (.pointer (some ⟨dy, 0, none⟩)), .int .i32 l], row (w.heap.size + 1 + 1 + 1 + 1) 30 #[.iface 40 (.pointer (some ⟨dx, 0, none⟩)), .int .i32 l], row (w.heap.size + 1 + 1 + 1) 30 #[.iface 40 (.pointer (some ⟨dx, 0, none⟩)), .int .i32 l], row (w.heap.size + 1 + 1) 30 #[.iface 40 (.pointer (some ⟨dx, 0, none⟩)), .int .i32 l], row (w.heap.size + 1) 30 #[.iface 40 (.pointer (some ⟨dy, 0, none⟩)), .int .i32 l], row (w.heap.size) 30 #[.iface 40 (.pointer (some ⟨dx, 0, none⟩)), .int .i32 l], row (dx) 44 #[.iface 220 (.pointer (some ⟨a1, 0, none⟩)), .int .i32 l, .string pr, .int .i32 l, .int .u8 0, .bool false, .bool false, .bool false], row (dy) 44 #[.iface 220 (.pointer (some ⟨a2, 0, none⟩)), .int .i32 l, .string pr, .int .i32 l, .int .u8 0, .bool false, .bool false, .bool false], row (a1) 223 #[.int .u32 rs, .int .u32 ri, .bool false, .bool false, .bool false], row (a2) 223 #[.int .u32 rs, .int .u32 ri, .bool false, .bool false, .bool false]] X := by
    rw [← hW]
    exact ((((((hO).alloc' _ (w.heap.size) (by simp)).alloc' _ (w.heap.size + 1) (by simp)).alloc' _ (w.heap.size + 1 + 1) (by simp)).alloc' _ (w.heap.size + 1 + 1 + 1) (by simp)).alloc' _ (w.heap.size + 1 + 1 + 1 + 1) (by simp)).alloc' _ (w.heap.size + 1 + 1 + 1 + 1 + 1) (by simp)
  clear hW hO
  generalize w.heap.size + 1 + 1 + 1 + 1 + 1 = B1_5 at hN ⊢
  generalize w.heap.size + 1 + 1 + 1 + 1 = B1_4 at hN ⊢
  generalize w.heap.size + 1 + 1 + 1 = B1_3 at hN ⊢
  generalize w.heap.size + 1 + 1 = B1_2 at hN ⊢
  generalize w.heap.size + 1 = B1_1 at hN ⊢
  generalize w.heap.size = B1 at hN ⊢
  have hO := hN
  clear hN
  refine wp_region_own (e := rSSD1E a1 a2 l rs ri dx dy pr B1_5 B1_4 B1_3 B1_2 B1_1 B1) (anc := rSSD1Anc) (G := (fun L9 α u9 => OwnF w0 u9 (act rSSD1Cnt 10 L9) (rSSD1R a1 a2 l rs ri dx dy pr B1_5 B1_4 B1_3 B1_2 B1_1 B1 L9 α) X)) (by kernel_rfl) (by kernel_rfl) (by kernel_rfl) (by kernel_rfl) (rSSD1_he a1 a2 l rs ri dx dy pr B1_5 B1_4 B1_3 B1_2 B1_1 B1) ?_ (RunsAll.all ?_) ?_
  · have hp : ∀ i, act rSSD1Cnt 10 (fun _ => false) i → i ∈ [999, 1999, 2999, 3999, 4999, 5999, 6999, 7999, 8999, 9999] := by
      intro i hi
      have h9 : i % 1000 = 999 := by
        by_cases h : i % 1000 = 999
        · exact h
        · exact absurd (act_lt hi h) (by simp)
      unfold act at hi
      rw [if_pos h9] at hi
      simp only [List.mem_cons, List.not_mem_nil, or_false]
      omega
    refine hO.drew.family (fun i hi => ?_) (fun i j hi hj hij => ?_)
    · have := hp i hi
      simp only [List.mem_cons, List.not_mem_nil, or_false] at this
      rcases this with rfl | rfl | rfl | rfl | rfl | rfl | rfl | rfl | rfl | rfl <;> rfl
    · have h1 := hp i hi
      have h2 := hp j hj
      simp only [List.mem_cons, List.not_mem_nil, or_false] at h1 h2
      omega
  · refine ⟨?_, ?_, ?_, ?_, ?_, ?_, ?_, ?_, ?_, ?_, ?_, ?_, ?_, ?_, ?_, ?_, ?_, ?_, ?_, ?_, ?_, ?_, ?_, ?_, ?_, ?_, ?_, ?_, ?_, ?_, ?_, ?_, ?_, ?_, ?_, ?_, ?_, ?_, trivial⟩
    · intro L9 α a9 u9 K9 hL hcl hA hG hS h0 hK
      replace hL : L9 0 = false := hL
      have q10 : a9.tmps[10]? = some (.pointer (some ⟨dy, 0, none⟩)) := (h0 10 (by kernel_rfl)).trans rfl
      have s10 := Rega.eval_of q10
      go_simp
      exact hK _ α _ (fun _ _ => rfl) rfl (step_same (rSSD1_st a1 a2 l rs ri dx dy pr B1_5 B1_4 B1_3 B1_2 B1_1 B1) hL hcl rfl rfl hG)
    · intro L9 α a9 u9 K9 hL hcl hA hG hS h0 hK
      replace hL : L9 1 = false := hL
      have q49 : a9.tmps[49]? = some (.pointer (some ⟨dy, 0, none⟩)) := hS 0 49 (by decide) rfl (by show 49 < 86; decide)
      have s49 := Rega.eval_of q49
      go_simp
      exact hK _ α _ (fun _ _ => rfl) rfl (step_same (rSSD1_st a1 a2 l rs ri dx dy pr B1_5 B1_4 B1_3 B1_2 B1_1 B1) hL hcl rfl rfl hG)
    · intro L9 α a9 u9 K9 hL hcl hA hG hS h0 hK
      replace hL : L9 2 = false := hL
      have q50 : a9.tmps[50]? = some (.bool true) := hS 1 50 (by decide) rfl (by show 50 < 86; decide)
      have s50 := Rega.eval_of q50
      go_simp
      exact hK _ α _ (fun _ _ => rfl) rfl (step_same (rSSD1_st a1 a2 l rs ri dx dy pr B1_5 B1_4 B1_3 B1_2 B1_1 B1) hL hcl rfl rfl hG)
    · intro L9 α a9 u9 K9 hL hcl hA hG hS h0 hK
      replace hL : L9 3 = false := hL
      have q9 : a9.tmps[9]? = some (.pointer (some ⟨dx, 0, none⟩)) := (h0 9 (by kernel_rfl)).trans rfl
      have s9 := Rega.eval_of q9
      have q51 : a9.tmps[51]? = some (.bool true) := hS 2 51 (by decide) rfl (by show 51 < 86; decide)
      have s51 := Rega.eval_of q51
      go_simp
      exact hK _ α _ (fun _ _ => rfl) rfl (step_same (rSSD1_st a1 a2 l rs ri dx dy pr B1_5 B1_4 B1_3 B1_2 B1_1 B1) hL hcl rfl rfl hG)
    · intro L9 α a9 u9 K9 hL hcl hA hG hS h0 hK
      replace hL : L9 4 = false := hL
      have q52 : a9.tmps[52]? = some (.pointer (some ⟨dx, 0, none⟩)) := hS 3 52 (by decide) rfl (by show 52 < 86; decide)
      have s52 := Rega.eval_of q52
      have q51 : a9.tmps[51]? = some (.bool true) := hS 2 51 (by decide) rfl (by show 51 < 86; decide)
      have s51 := Rega.eval_of q51
      go_simp
      exact hK _ α _ (fun _ _ => rfl) rfl (step_same (rSSD1_st a1 a2 l rs ri dx dy pr B1_5 B1_4 B1_3 B1_2 B1_1 B1) hL hcl rfl rfl hG)
    · intro L9 α a9 u9 K9 hL hcl hA hG hS h0 hK
      replace hL : L9 5 = false := hL
      have q53 : a9.tmps[53]? = some (.pointer (some ⟨dx, 0, none⟩)) := hS 4 53 (by decide) rfl (by show 53 < 86; decide)
      have s53 := Rega.eval_of q53
      have q51 : a9.tmps[51]? = some (.bool true) := hS 2 51 (by decide) rfl (by show 51 < 86; decide)
      have s51 := Rega.eval_of q51
      go_simp
      exact hK _ α _ (fun _ _ => rfl) rfl (step_same (rSSD1_st a1 a2 l rs ri dx dy pr B1_5 B1_4 B1_3 B1_2 B1_1 B1) hL hcl rfl rfl hG)
    · intro L9 α a9 u9 K9 hL hcl hA hG hS h0 hK
      replace hL : L9 6 = false := hL
      have q54 : a9.tmps[54]? = some (.pointer (some ⟨dx, 2, none⟩)) := hS 5 54 (by decide) rfl (by show 54 < 86; decide)
      have s54 := Rega.eval_of q54
      have q51 : a9.tmps[51]? = some (.bool true) := hS 2 51 (by decide) rfl (by show 51 < 86; decide)
      have s51 := Rega.eval_of q51
      have e0 : rSSD1R a1 a2 l rs ri dx dy pr B1_5 B1_4 B1_3 B1_2 B1_1 B1 L9 α 6999 = row (dx) 44 #[.iface 220 (.pointer (some ⟨a1, 0, none⟩)), .int .i32 l, .string pr, .int .i32 l, .int .u8 0, .bool false, .bool false, .bool false] := rfl
      have hr := hG.rowAt 6999 (act_base 6999 rfl) e0
      have c0 : u9.cell? ⟨dx, 2, none⟩ = some (.string pr) := hr.cell rfl
      clear hr e0
      go_simp
      exact hK _ α _ (fun _ _ => rfl) rfl (step_same (rSSD1_st a1 a2 l rs ri dx dy pr B1_5 B1_4 B1_3 B1_2 B1_1 B1) hL hcl rfl rfl hG)
    · intro L9 α a9 u9 K9 hL hcl hA hG hS h0 hK
      replace hL : L9 7 = false := hL
      have q10 : a9.tmps[10]? = some (.pointer (some ⟨dy, 0, none⟩)) := (h0 10 (by kernel_rfl)).trans rfl
      have s10 := Rega.eval_of q10
      have q51 : a9.tmps[51]? = some (.bool true) := hS 2 51 (by decide) rfl (by show 51 < 86; decide)
      have s51 := Rega.eval_of q51
      go_simp
      exact hK _ α _ (fun _ _ => rfl) rfl (step_same (rSSD1_st a1 a2 l rs ri dx dy pr B1_5 B1_4 B1_3 B1_2 B1_1 B1) hL hcl rfl rfl hG)
    · intro L9 α a9 u9 K9 hL hcl hA hG hS h0 hK
      replace hL : L9 8 = false := hL
      have q56 : a9.tmps[56]? = some (.pointer (some ⟨dy, 0, none⟩)) := hS 7 56 (by decide) rfl (by show 56 < 86; decide)
      have s56 := Rega.eval_of q56
      have q51 : a9.tmps[51]? = some (.bool true) := hS 2 51 (by decide) rfl (by show 51 < 86; decide)
      have s51 := Rega.eval_of q51
      go_simp
      exact hK _ α _ (fun _ _ => rfl) rfl (step_same (rSSD1_st a1 a2 l rs ri dx dy pr B1_5 B1_4 B1_3 B1_2 B1_1 B1) hL hcl rfl rfl hG)
    · intro L9 α a9 u9 K9 hL hcl hA hG hS h0 hK
      replace hL : L9 9 = false := hL
      have q57 : a9.tmps[57]? = some (.pointer (some ⟨dy, 0, none⟩)) := hS 8 57 (by decide) rfl (by show 57 < 86; decide)
      have s57 := Rega.eval_of q57
      have q51 : a9.tmps[51]? = some (.bool true) := hS 2 51 (by decide) rfl (by show 51 < 86; decide)
      have s51 := Rega.eval_of q51
      go_simp
      exact hK _ α _ (fun _ _ => rfl) rfl (step_same (rSSD1_st a1 a2 l rs ri dx dy pr B1_5 B1_4 B1_3 B1_2 B1_1 B1) hL hcl rfl rfl hG)
    · intro L9 α a9 u9 K9 hL hcl hA hG hS h0 hK
      replace hL : L9 10 = false := hL
      have q58 : a9.tmps[58]? = some (.pointer (some ⟨dy, 2, none⟩)) := hS 9 58 (by decide) rfl (by show 58 < 86; decide)
      have s58 := Rega.eval_of q58
      have q51 : a9.tmps[51]? = some (.bool true) := hS 2 51 (by decide) rfl (by show 51 < 86; decide)
      have s51 := Rega.eval_of q51
      have e0 : rSSD1R a1 a2 l rs ri dx dy pr B1_5 B1_4 B1_3 B1_2 B1_1 B1 L9 α 7999 = row (dy) 44 #[.iface 220 (.pointer (some ⟨a2, 0, none⟩)), .int .i32 l, .string pr, .int .i32 l, .int .u8 0, .bool false, .bool false, .bool false] := rfl
      have hr := hG.rowAt 7999 (act_base 7999 rfl) e0
      have c0 : u9.cell? ⟨dy, 2, none⟩ = some (.string pr) := hr.cell rfl
      clear hr e0
      go_simp
      exact hK _ α _ (fun _ _ => rfl) rfl (step_same (rSSD1_st a1 a2 l rs ri dx dy pr B1_5 B1_4 B1_3 B1_2 B1_1 B1) hL hcl rfl rfl hG)
    · intro L9 α a9 u9 K9 hL hcl hA hG hS h0 hK
      replace hL : L9 11 = false := hL
      have q55 : a9.tmps[55]? = some (.string pr) := hS 6 55 (by decide) rfl (by show 55 < 86; decide)
      have s55 := Rega.eval_of q55
      have q59 : a9.tmps[59]? = some (.string pr) := hS 10 59 (by decide) rfl (by show 59 < 86; decide)
      have s59 := Rega.eval_of q59
      have q51 : a9.tmps[51]? = some (.bool true) := hS 2 51 (by decide) rfl (by show 51 < 86; decide)
      have s51 := Rega.eval_of q51
      go_simp
      exact hK _ α _ (fun _ _ => rfl) rfl (step_same (rSSD1_st a1 a2 l rs ri dx dy pr B1_5 B1_4 B1_3 B1_2 B1_1 B1) hL hcl rfl rfl hG)
    · intro L9 α a9 u9 K9 hL hcl hA hG hS h0 hK
      replace hL : L9 12 = false := hL
      have q51 : a9.tmps[51]? = some (.bool true) := hS 2 51 (by decide) rfl (by show 51 < 86; decide)
      have s51 := Rega.eval_of q51
      have q60 : a9.tmps[60]? = some (.bool true) := hS 11 60 (by decide) rfl (by show 60 < 86; decide)
      have s60 := Rega.eval_of q60
      go_simp
      exact hK _ α _ (fun _ _ => rfl) rfl (step_same (rSSD1_st a1 a2 l rs ri dx dy pr B1_5 B1_4 B1_3 B1_2 B1_1 B1) hL hcl rfl rfl hG)
    · intro L9 α a9 u9 K9 hL hcl hA hG hS h0 hK
      replace hL : L9 13 = false := hL
      have q61 : a9.tmps[61]? = some (.bool true) := hS 12 61 (by decide) rfl (by show 61 < 86; decide)
      have s61 := Rega.eval_of q61
      go_simp
      exact hK _ α _ (fun _ _ => rfl) rfl (step_same (rSSD1_st a1 a2 l rs ri dx dy pr B1_5 B1_4 B1_3 B1_2 B1_1 B1) hL hcl rfl rfl hG)
    · intro L9 α a9 u9 K9 hL hcl hA hG hS h0 hK
      replace hL : L9 14 = false := hL
      have q9 : a9.tmps[9]? = some (.pointer (some ⟨dx, 0, none⟩)) := (h0 9 (by kernel_rfl)).trans rfl
      have s9 := Rega.eval_of q9
      have q62 : a9.tmps[62]? = some (.bool true) := hS 13 62 (by decide) rfl (by show 62 < 86; decide)
      have s62 := Rega.eval_of q62
      go_simp
      exact hK _ α _ (fun _ _ => rfl) rfl (step_same (rSSD1_st a1 a2 l rs ri dx dy pr B1_5 B1_4 B1_3 B1_2 B1_1 B1) hL hcl rfl rfl hG)
    · intro L9 α a9 u9 K9 hL hcl hA hG hS h0 hK
      replace hL : L9 15 = false := hL
      have q63 : a9.tmps[63]? = some (.pointer (some ⟨dx, 0, none⟩)) := hS 14 63 (by decide) rfl (by show 63 < 86; decide)
      have s63 := Rega.eval_of q63
      have q62 : a9.tmps[62]? = some (.bool true) := hS 13 62 (by decide) rfl (by show 62 < 86; decide)
      have s62 := Rega.eval_of q62
      go_simp
      exact hK _ α _ (fun _ _ => rfl) rfl (step_same (rSSD1_st a1 a2 l rs ri dx dy pr B1_5 B1_4 B1_3 B1_2 B1_1 B1) hL hcl rfl rfl hG)
    · intro L9 α a9 u9 K9 hL hcl hA hG hS h0 hK
      replace hL : L9 16 = false := hL
      have q64 : a9.tmps[64]? = some (.pointer (some ⟨dx, 0, none⟩)) := hS 15 64 (by decide) rfl (by show 64 < 86; decide)
      have s64 := Rega.eval_of q64
      have q62 : a9.tmps[62]? = some (.bool true) := hS 13 62 (by decide) rfl (by show 62 < 86; decide)
      have s62 := Rega.eval_of q62
      go_simp
      exact hK _ α _ (fun _ _ => rfl) rfl (step_same (rSSD1_st a1 a2 l rs ri dx dy pr B1_5 B1_4 B1_3 B1_2 B1_1 B1) hL hcl rfl rfl hG)
    · intro L9 α a9 u9 K9 hL hcl hA hG hS h0 hK
      replace hL : L9 17 = false := hL
      have q65 : a9.tmps[65]? = some (.pointer (some ⟨dx, 3, none⟩)) := hS 16 65 (by decide) rfl (by show 65 < 86; decide)
      have s65 := Rega.eval_of q65
      have q62 : a9.tmps[62]? = some (.bool true) := hS 13 62 (by decide) rfl (by show 62 < 86; decide)
      have s62 := Rega.eval_of q62
      have e0 : rSSD1R a1 a2 l rs ri dx dy pr B1_5 B1_4 B1_3 B1_2 B1_1 B1 L9 α 6999 = row (dx) 44 #[.iface 220 (.pointer (some ⟨a1, 0, none⟩)), .int .i32 l, .string pr, .int .i32 l, .int .u8 0, .bool false, .bool false, .bool false] := rfl
      have hr := hG.rowAt 6999 (act_base 6999 rfl) e0
      have c0 : u9.cell? ⟨dx, 3, none⟩ = some (.int .i32 l) := hr.cell rfl
      clear hr e0
      go_simp
      exact hK _ α _ (fun _ _ => rfl) rfl (step_same (rSSD1_st a1 a2 l rs ri dx dy pr B1_5 B1_4 B1_3 B1_2 B1_1 B1) hL hcl rfl rfl hG)
    · intro L9 α a9 u9 K9 hL hcl hA hG hS h0 hK
      replace hL : L9 18 = false := hL
      have q10 : a9.tmps[10]? = some (.pointer (some ⟨dy, 0, none⟩)) := (h0 10 (by kernel_rfl)).trans rfl
      have s10 := Rega.eval_of q10
      have q62 : a9.tmps[62]? = some (.bool true) := hS 13 62 (by decide) rfl (by show 62 < 86; decide)
      have s62 := Rega.eval_of q62
      go_simp
      exact hK _ α _ (fun _ _ => rfl) rfl (step_same (rSSD1_st a1 a2 l rs ri dx dy pr B1_5 B1_4 B1_3 B1_2 B1_1 B1) hL hcl rfl rfl hG)
    · intro L9 α a9 u9 K9 hL hcl hA hG hS h0 hK
      replace hL : L9 19 = false := hL
      have q67 : a9.tmps[67]? = some (.pointer (some ⟨dy, 0, none⟩)) := hS 18 67 (by decide) rfl (by show 67 < 86; decide)
      have s67 := Rega.eval_of q67
      have q62 : a9.tmps[62]? = some (.bool true) := hS 13 62 (by decide) rfl (by show 62 < 86; decide)
      have s62 := Rega.eval_of q62
      go_simp
      exact hK _ α _ (fun _ _ => rfl) rfl (step_same (rSSD1_st a1 a2 l rs ri dx dy pr B1_5 B1_4 B1_3 B1_2 B1_1 B1) hL hcl rfl rfl hG)
    · intro L9 α a9 u9 K9 hL hcl hA hG hS h0 hK
      replace hL : L9 20 = false := hL
      have q68 : a9.tmps[68]? = some (.pointer (some ⟨dy, 0, none⟩)) := hS 19 68 (by decide) rfl (by show 68 < 86; decide)
      have s68 := Rega.eval_of q68
      have q62 : a9.tmps[62]? = some (.bool true) := hS 13 62 (by decide) rfl (by show 62 < 86; decide)
      have s62 := Rega.eval_of q62
      go_simp
      exact hK _ α _ (fun _ _ => rfl) rfl (step_same (rSSD1_st a1 a2 l rs ri dx dy pr B1_5 B1_4 B1_3 B1_2 B1_1 B1) hL hcl rfl rfl hG)
    · intro L9 α a9 u9 K9 hL hcl hA hG hS h0 hK
      replace hL : L9 21 = false := hL
      have q69 : a9.tmps[69]? = some (.pointer (some ⟨dy, 3, none⟩)) := hS 20 69 (by decide) rfl (by show 69 < 86; decide)
      have s69 := Rega.eval_of q69
      have q62 : a9.tmps[62]? = some (.bool true) := hS 13 62 (by decide) rfl (by show 62 < 86; decide)
      have s62 := Rega.eval_of q62
      have e0 : rSSD1R a1 a2 l rs ri dx dy pr B1_5 B1_4 B1_3 B1_2 B1_1 B1 L9 α 7999 = row (dy) 44 #[.iface 220 (.pointer (some ⟨a2, 0, none⟩)), .int .i32 l, .string pr, .int .i32 l, .int .u8 0, .bool false, .bool false, .bool false] := rfl
      have hr := hG.rowAt 7999 (act_base 7999 rfl) e0
      have c0 : u9.cell? ⟨dy, 3, none⟩ = some (.int .i32 l) := hr.cell rfl
      clear hr e0
      go_simp
      exact hK _ α _ (fun _ _ => rfl) rfl (step_same (rSSD1_st a1 a2 l rs ri dx dy pr B1_5 B1_4 B1_3 B1_2 B1_1 B1) hL hcl rfl rfl hG)
    · intro L9 α a9 u9 K9 hL hcl hA hG hS h0 hK
      replace hL : L9 22 = false := hL
      have q66 : a9.tmps[66]? = some (.agg #[.int .i32 l]) := hS 17 66 (by decide) rfl (by show 66 < 86; decide)
      have s66 := Rega.eval_of q66
      have q70 : a9.tmps[70]? = some (.agg #[.int .i32 l]) := hS 21 70 (by decide) rfl (by show 70 < 86; decide)
      have s70 := Rega.eval_of q70
      have q62 : a9.tmps[62]? = some (.bool true) := hS 13 62 (by decide) rfl (by show 62 < 86; decide)
      have s62 := Rega.eval_of q62
      go_simp
      exact hK _ α _ (fun _ _ => rfl) rfl (step_same (rSSD1_st a1 a2 l rs ri dx dy pr B1_5 B1_4 B1_3 B1_2 B1_1 B1) hL hcl rfl rfl hG)
    · intro L9 α a9 u9 K9 hL hcl hA hG hS h0 hK
      replace hL : L9 23 = false := hL
      have q62 : a9.tmps[62]? = some (.bool true) := hS 13 62 (by decide) rfl (by show 62 < 86; decide)
      have s62 := Rega.eval_of q62
      have q71 : a9.tmps[71]? = some (.bool true) := hS 22 71 (by decide) rfl (by show 71 < 86; decide)
      have s71 := Rega.eval_of q71
      go_simp
      exact hK _ α _ (fun _ _ => rfl) rfl (step_same (rSSD1_st a1 a2 l rs ri dx dy pr B1_5 B1_4 B1_3 B1_2 B1_1 B1) hL hcl rfl rfl hG)
    · intro L9 α a9 u9 K9 hL hcl hA hG hS h0 hK
      replace hL : L9 24 = false := hL
      have q72 : a9.tmps[72]? = some (.bool true) := hS 23 72 (by decide) rfl (by show 72 < 86; decide)
      have s72 := Rega.eval_of q72
      go_simp
      exact hK _ α _ (fun _ _ => rfl) rfl (step_same (rSSD1_st a1 a2 l rs ri dx dy pr B1_5 B1_4 B1_3 B1_2 B1_1 B1) hL hcl rfl rfl hG)
    · intro L9 α a9 u9 K9 hL hcl hA hG hS h0 hK
      replace hL : L9 25 = false := hL
      have q9 : a9.tmps[9]? = some (.pointer (some ⟨dx, 0, none⟩)) := (h0 9 (by kernel_rfl)).trans rfl
      have s9 := Rega.eval_of q9
      have q73 : a9.tmps[73]? = some (.bool true) := hS 24 73 (by decide) rfl (by show 73 < 86; decide)
      have s73 := Rega.eval_of q73
      go_simp
      exact hK _ α _ (fun _ _ => rfl) rfl (step_same (rSSD1_st a1 a2 l rs ri dx dy pr B1_5 B1_4 B1_3 B1_2 B1_1 B1) hL hcl rfl rfl hG)
    · intro L9 α a9 u9 K9 hL hcl hA hG hS h0 hK
      replace hL : L9 26 = false := hL
      have q74 : a9.tmps[74]? = some (.pointer (some ⟨dx, 0, none⟩)) := hS 25 74 (by decide) rfl (by show 74 < 86; decide)
      have s74 := Rega.eval_of q74
      have q73 : a9.tmps[73]? = some (.bool true) := hS 24 73 (by decide) rfl (by show 73 < 86; decide)
      have s73 := Rega.eval_of q73
      go_simp
      exact hK _ α _ (fun _ _ => rfl) rfl (step_same (rSSD1_st a1 a2 l rs ri dx dy pr B1_5 B1_4 B1_3 B1_2 B1_1 B1) hL hcl rfl rfl hG)
    · intro L9 α a9 u9 K9 hL hcl hA hG hS h0 hK
      replace hL : L9 27 = false := hL
      have q75 : a9.tmps[75]? = some (.pointer (some ⟨dx, 0, none⟩)) := hS 26 75 (by decide) rfl (by show 75 < 86; decide)
      have s75 := Rega.eval_of q75
      have q73 : a9.tmps[73]? = some (.bool true) := hS 24 73 (by decide) rfl (by show 73 < 86; decide)
      have s73 := Rega.eval_of q73
      go_simp
      exact hK _ α _ (fun _ _ => rfl) rfl (step_same (rSSD1_st a1 a2 l rs ri dx dy pr B1_5 B1_4 B1_3 B1_2 B1_1 B1) hL hcl rfl rfl hG)
    · intro L9 α a9 u9 K9 hL hcl hA hG hS h0 hK
      replace hL : L9 28 = false := hL
      have q76 : a9.tmps[76]? = some (.pointer (some ⟨dx, 0, none⟩)) := hS 27 76 (by decide) rfl (by show 76 < 86; decide)
      have s76 := Rega.eval_of q76
      have q73 : a9.tmps[73]? = some (.bool true) := hS 24 73 (by decide) rfl (by show 73 < 86; decide)
      have s73 := Rega.eval_of q73
      have e0 : rSSD1R a1 a2 l rs ri dx dy pr B1_5 B1_4 B1_3 B1_2 B1_1 B1 L9 α 6999 = row (dx) 44 #[.iface 220 (.pointer (some ⟨a1, 0, none⟩)), .int .i32 l, .string pr, .int .i32 l, .int .u8 0, .bool false, .bool false, .bool false] := rfl
      have hr := hG.rowAt 6999 (act_base 6999 rfl) e0
      have c0 : u9.cell? ⟨dx, 0, none⟩ = some (.iface 220 (.pointer (some ⟨a1, 0, none⟩))) := hr.cell rfl
      have c1 : u9.cell? ⟨dx, 1, none⟩ = some (.int .i32 l) := hr.cell rfl
      clear hr e0
      go_simp
      exact hK _ α _ (fun _ _ => rfl) rfl (step_same (rSSD1_st a1 a2 l rs ri dx dy pr B1_5 B1_4 B1_3 B1_2 B1_1 B1) hL hcl rfl rfl hG)
    · intro L9 α a9 u9 K9 hL hcl hA hG hS h0 hK
      replace hL : L9 29 = false := hL
      have q10 : a9.tmps[10]? = some (.pointer (some ⟨dy, 0, none⟩)) := (h0 10 (by kernel_rfl)).trans rfl
      have s10 := Rega.eval_of q10
      have q73 : a9.tmps[73]? = some (.bool true) := hS 24 73 (by decide) rfl (by show 73 < 86; decide)
      have s73 := Rega.eval_of q73
      go_simp
      exact hK _ α _ (fun _ _ => rfl) rfl (step_same (rSSD1_st a1 a2 l rs ri dx dy pr B1_5 B1_4 B1_3 B1_2 B1_1 B1) hL hcl rfl rfl hG)
    · intro L9 α a9 u9 K9 hL hcl hA hG hS h0 hK
      replace hL : L9 30 = false := hL
      have q78 : a9.tmps[78]? = some (.pointer (some ⟨dy, 0, none⟩)) := hS 29 78 (by decide) rfl (by show 78 < 86; decide)
      have s78 := Rega.eval_of q78
      have q73 : a9.tmps[73]? = some (.bool true) := hS 24 73 (by decide) rfl (by show 73 < 86; decide)
      have s73 := Rega.eval_of q73
      go_simp
      exact hK _ α _ (fun _ _ => rfl) rfl (step_same (rSSD1_st a1 a2 l rs ri dx dy pr B1_5 B1_4 B1_3 B1_2 B1_1 B1) hL hcl rfl rfl hG)
    · intro L9 α a9 u9 K9 hL hcl hA hG hS h0 hK
      replace hL : L9 31 = false := hL
      have q79 : a9.tmps[79]? = some (.pointer (some ⟨dy, 0, none⟩)) := hS 30 79 (by decide) rfl (by show 79 < 86; decide)
      have s79 := Rega.eval_of q79
      have q73 : a9.tmps[73]? = some (.bool true) := hS 24 73 (by decide) rfl (by show 73 < 86; decide)
      have s73 := Rega.eval_of q73
      go_simp
      exact hK _ α _ (fun _ _ => rfl) rfl (step_same (rSSD1_st a1 a2 l rs ri dx dy pr B1_5 B1_4 B1_3 B1_2 B1_1 B1) hL hcl rfl rfl hG)
    · intro L9 α a9 u9 K9 hL hcl hA hG hS h0 hK
      replace hL : L9 32 = false := hL
      have q80 : a9.tmps[80]? = some (.pointer (some ⟨dy, 0, none⟩)) := hS 31 80 (by decide) rfl (by show 80 < 86; decide)
      have s80 := Rega.eval_of q80
      have q73 : a9.tmps[73]? = some (.bool true) := hS 24 73 (by decide) rfl (by show 73 < 86; decide)
      have s73 := Rega.eval_of q73
      have e0 : rSSD1R a1 a2 l rs ri dx dy pr B1_5 B1_4 B1_3 B1_2 B1_1 B1 L9 α 7999 = row (dy) 44 #[.iface 220 (.pointer (some ⟨a2, 0, none⟩)), .int .i32 l, .string pr, .int .i32 l, .int .u8 0, .bool false, .bool false, .bool false] := rfl
      have hr := hG.rowAt 7999 (act_base 7999 rfl) e0
      have c0 : u9.cell? ⟨dy, 0, none⟩ = some (.iface 220 (.pointer (some ⟨a2, 0, none⟩))) := hr.cell rfl
      have c1 : u9.cell? ⟨dy, 1, none⟩ = some (.int .i32 l) := hr.cell rfl
      clear hr e0
      go_simp
      exact hK _ α _ (fun _ _ => rfl) rfl (step_same (rSSD1_st a1 a2 l rs ri dx dy pr B1_5 B1_4 B1_3 B1_2 B1_1 B1) hL hcl rfl rfl hG)
    · intro L9 α a9 u9 K9 hL hcl hA hG hS h0 hK
      replace hL : L9 33 = false := hL
      have q2 : a9.tmps[2]? = some (.int .i64 4) := (h0 2 (by kernel_rfl)).trans rfl
      have s2 := Rega.eval_of q2
      have q73 : a9.tmps[73]? = some (.bool true) := hS 24 73 (by decide) rfl (by show 73 < 86; decide)
      have s73 := Rega.eval_of q73
      go_simp
      exact hK _ α _ (fun _ _ => rfl) rfl (step_same (rSSD1_st a1 a2 l rs ri dx dy pr B1_5 B1_4 B1_3 B1_2 B1_1 B1) hL hcl rfl rfl hG)
    · intro L9 α a9 u9 K9 hL hcl hA hG hS h0 hK
      replace hL : L9 34 = false := hL
      have q82 : a9.tmps[82]? = some (.int .i64 4) := hS 33 82 (by decide) rfl (by show 82 < 86; decide)
      have s82 := Rega.eval_of q82
      have q73 : a9.tmps[73]? = some (.bool true) := hS 24 73 (by decide) rfl (by show 73 < 86; decide)
      have s73 := Rega.eval_of q73
      go_simp
      exact hK _ α _ (fun _ _ => rfl) rfl (step_same (rSSD1_st a1 a2 l rs ri dx dy pr B1_5 B1_4 B1_3 B1_2 B1_1 B1) hL hcl rfl rfl hG)
    · intro L9 α a9 u9 K9 hL hcl hA hG hS h0 hK
      replace hL : L9 35 = false := hL
      have q77 : a9.tmps[77]? = some (.agg #[.iface 220 (.pointer (some ⟨a1, 0, none⟩)), .int .i32 l]) := hS 28 77 (by decide) rfl (by show 77 < 86; decide)
      have s77 := Rega.eval_of q77
      have q81 : a9.tmps[81]? = some (.agg #[.iface 220 (.pointer (some ⟨a2, 0, none⟩)), .int .i32 l]) := hS 32 81 (by decide) rfl (by show 81 < 86; decide)
      have s81 := Rega.eval_of q81
      have q83 : a9.tmps[83]? = some (.int .i64 3) := hS 34 83 (by decide) rfl (by show 83 < 86; decide)
      have s83 := Rega.eval_of q83
      have q73 : a9.tmps[73]? = some (.bool true) := hS 24 73 (by decide) rfl (by show 73 < 86; decide)
      have s73 := Rega.eval_of q73
      go_simp
      have e0 : rSSD1R a1 a2 l rs ri dx dy pr B1_5 B1_4 B1_3 B1_2 B1_1 B1 L9 α 8999 = row (a1) 223 #[.int .u32 rs, .int .u32 ri, .bool false, .bool false, .bool false] := rfl
      have e1 : rSSD1R a1 a2 l rs ri dx dy pr B1_5 B1_4 B1_3 B1_2 B1_1 B1 L9 α 9999 = row (a2) 223 #[.int .u32 rs, .int .u32 ri, .bool false, .bool false, .bool false] := rfl
      have hM : ∀ i, i ∈ [8999, 9999] → act rSSD1Cnt 10 L9 i := by
        intro i hi
        simp only [List.mem_cons, List.not_mem_nil, or_false] at hi
        rcases hi with rfl | rfl
        · exact act_base 8999 rfl
        · exact act_base 9999 rfl
      have hP : Own w0 u9 [row (a1) 223 #[.int .u32 rs, .int .u32 ri, .bool false, .bool false, .bool false], row (a2) 223 #[.int .u32 rs, .int .u32 ri, .bool false, .bool false, .bool false]] _ := (hG.pick [8999, 9999] (by decide) hM).conv (by
        show [rSSD1R a1 a2 l rs ri dx dy pr B1_5 B1_4 B1_3 B1_2 B1_1 B1 L9 α 8999, rSSD1R a1 a2 l rs ri dx dy pr B1_5 B1_4 B1_3 B1_2 B1_1 B1 L9 α 9999] = _
        rw [e0, e1])
      clear e0 e1 hM
      refine Calls.mono (shapeI3 a1 a2 l rs ri _ _ _ hP ) ?_
      rintro e9 u1 ⟨rfl, hQ⟩
      obtain ⟨α', hα'⟩ : ∃ α' : Rega.Atoms, α' = α := ⟨_, rfl⟩
      have f0 : rSSD1R a1 a2 l rs ri dx dy pr B1_5 B1_4 B1_3 B1_2 B1_1 B1 (Rega.ran L9 35) α' 8999 = row (a1) 223 #[.int .u32 rs, .int .u32 ri, .bool false, .bool false, .bool false] := rfl
      have f1 : rSSD1R a1 a2 l rs ri dx dy pr B1_5 B1_4 B1_3 B1_2 B1_1 B1 (Rega.ran L9 35) α' 9999 = row (a2) 223 #[.int .u32 rs, .int .u32 ri, .bool false, .bool false, .bool false] := rfl
      have hα : ∀ j, j % 1000 ≠ 35 → α' j = α j := fun j hj => by rw [hα']
      skip
      refine hK _ α' _ hα ?_ (step_call (rSSD1_st a1 a2 l rs ri dx dy pr B1_5 B1_4 B1_3 B1_2 B1_1 B1) hL hcl hα [8999, 9999] [8999, 9999] (by decide) (by decide) (by decide) (M := _) ?_ hG hQ)
      · rfl
      · show [rSSD1R a1 a2 l rs ri dx dy pr B1_5 B1_4 B1_3 B1_2 B1_1 B1 (Rega.ran L9 35) α' 8999, rSSD1R a1 a2 l rs ri dx dy pr B1_5 B1_4 B1_3 B1_2 B1_1 B1 (Rega.ran L9 35) α' 9999] = _
        rw [f0, f1]
    · intro L9 α a9 u9 K9 hL hcl hA hG hS h0 hK
      replace hL : L9 36 = false := hL
      have q73 : a9.tmps[73]? = some (.bool true) := hS 24 73 (by decide) rfl (by show 73 < 86; decide)
      have s73 := Rega.eval_of q73
      have q84 : a9.tmps[84]? = some (.bool true) := hS 35 84 (by decide) rfl (by show 84 < 86; decide)
      have s84 := Rega.eval_of q84
      go_simp
      exact hK _ α _ (fun _ _ => rfl) rfl (step_same (rSSD1_st a1 a2 l rs ri dx dy pr B1_5 B1_4 B1_3 B1_2 B1_1 B1) hL hcl rfl rfl hG)
    · intro L9 α a9 u9 K9 hL hcl hA hG hS h0 hK
      replace hL : L9 37 = false := hL
      have q85 : a9.tmps[85]? = some (.bool true) := hS 36 85 (by decide) rfl (by show 85 < 86; decide)
      have s85 := Rega.eval_of q85
      go_simp
      exact hK _ α _ (fun _ _ => rfl) rfl (step_same (rSSD1_st a1 a2 l rs ri dx dy pr B1_5 B1_4 B1_3 B1_2 B1_1 B1) hL hcl rfl rfl hG)
  · intro α u hG
    have e0 : rSSD1R a1 a2 l rs ri dx dy pr B1_5 B1_4 B1_3 B1_2 B1_1 B1 (fun k => decide (k < 38)) α 999 = row (B1_5) 30 #[.iface 40 (.pointer (some ⟨dy, 0, none⟩)), .int .i32 l] := rfl
    have e1 : rSSD1R a1 a2 l rs ri dx dy pr B1_5 B1_4 B1_3 B1_2 B1_1 B1 (fun k => decide (k < 38)) α 1999 = row (B1_4) 30 #[.iface 40 (.pointer (some ⟨dx, 0, none⟩)), .int .i32 l] := rfl
    have e2 : rSSD1R a1 a2 l rs ri dx dy pr B1_5 B1_4 B1_3 B1_2 B1_1 B1 (fun k => decide (k < 38)) α 2999 = row (B1_3) 30 #[.iface 40 (.pointer (some ⟨dx, 0, none⟩)), .int .i32 l] := rfl
    have e3 : rSSD1R a1 a2 l rs ri dx dy pr B1_5 B1_4 B1_3 B1_2 B1_1 B1 (fun k => decide (k < 38)) α 3999 = row (B1_2) 30 #[.iface 40 (.pointer (some ⟨dx, 0, none⟩)), .int .i32 l] := rfl
    have e4 : rSSD1R a1 a2 l rs ri dx dy pr B1_5 B1_4 B1_3 B1_2 B1_1 B1 (fun k => decide (k < 38)) α 4999 = row (B1_1) 30 #[.iface 40 (.pointer (some ⟨dy, 0, none⟩)), .int .i32 l] := rfl
    have e5 : rSSD1R a1 a2 l rs ri dx dy pr B1_5 B1_4 B1_3 B1_2 B1_1 B1 (fun k => decide (k < 38)) α 5999 = row (B1) 30 #[.iface 40 (.pointer (some ⟨dx, 0, none⟩)), .int .i32 l] := rfl
    have e6 : rSSD1R a1 a2 l rs ri dx dy pr B1_5 B1_4 B1_3 B1_2 B1_1 B1 (fun k => decide (k < 38)) α 6999 = row (dx) 44 #[.iface 220 (.pointer (some ⟨a1, 0, none⟩)), .int .i32 l, .string pr, .int .i32 l, .int .u8 0, .bool false, .bool false, .bool false] := rfl
    have e7 : rSSD1R a1 a2 l rs ri dx dy pr B1_5 B1_4 B1_3 B1_2 B1_1 B1 (fun k => decide (k < 38)) α 7999 = row (dy) 44 #[.iface 220 (.pointer (some ⟨a2, 0, none⟩)), .int .i32 l, .string pr, .int .i32 l, .int .u8 0, .bool false, .bool false, .bool false] := rfl
    have e8 : rSSD1R a1 a2 l rs ri dx dy pr B1_5 B1_4 B1_3 B1_2 B1_1 B1 (fun k => decide (k < 38)) α 8999 = row (a1) 223 #[.int .u32 rs, .int .u32 ri, .bool false, .bool false, .bool false] := rfl
    have e9 : rSSD1R a1 a2 l rs ri dx dy pr B1_5 B1_4 B1_3 B1_2 B1_1 B1 (fun k => decide (k < 38)) α 9999 = row (a2) 223 #[.int .u32 rs, .int .u32 ri, .bool false, .bool false, .bool false] := rfl
    have hO : Own w0 u [row (B1_5) 30 #[.iface 40 (.pointer (some ⟨dy, 0, none⟩)), .int .i32 l], row (B1_4) 30 #[.iface 40 (.pointer (some ⟨dx, 0, none⟩)), .int .i32 l], row (B1_3) 30 #[.iface 40 (.pointer (some ⟨dx, 0, none⟩)), .int .i32 l], row (B1_2) 30 #[.iface 40 (.pointer (some ⟨dx, 0, none⟩)), .int .i32 l], row (B1_1) 30 #[.iface 40 (.pointer (some ⟨dy, 0, none⟩)), .int .i32 l], row (B1) 30 #[.iface 40 (.pointer (some ⟨dx, 0, none⟩)), .int .i32 l], row (dx) 44 #[.iface 220 (.pointer (some ⟨a1, 0, none⟩)), .int .i32 l, .string pr, .int .i32 l, .int .u8 0, .bool false, .bool false, .bool false], row (dy) 44 #[.iface 220 (.pointer (some ⟨a2, 0, none⟩)), .int .i32 l, .string pr, .int .i32 l, .int .u8 0, .bool false, .bool false, .bool false], row (a1) 223 #[.int .u32 rs, .int .u32 ri, .bool false, .bool false, .bool false], row (a2) 223 #[.int .u32 rs, .int .u32 ri, .bool false, .bool false, .bool false]] X := (hG.list [999, 1999, 2999, 3999, 4999, 5999, 6999, 7999, 8999, 9999] (by decide) (act_all (by decide))).conv (by
      show [rSSD1R a1 a2 l rs ri dx dy pr B1_5 B1_4 B1_3 B1_2 B1_1 B1 (fun k => decide (k < 38)) α 999, rSSD1R a1 a2 l rs ri dx dy pr B1_5 B1_4 B1_3 B1_2 B1_1 B1 (fun k => decide (k < 38)) α 1999, rSSD1R a1 a2 l rs ri dx dy pr B1_5 B1_4 B1_3 B1_2 B1_1 B1 (fun k => decide (k < 38)) α 2999, rSSD1R a1 a2 l rs ri dx dy pr B1_5 B1_4 B1_3 B1_2 B1_1 B1 (fun k => decide (k < 38)) α 3999, rSSD1R a1 a2 l rs ri dx dy pr B1_5 B1_4 B1_3 B1_2 B1_1 B1 (fun k => decide (k < 38)) α 4999, rSSD1R a1 a2 l rs ri dx dy pr B1_5 B1_4 B1_3 B1_2 B1_1 B1 (fun k => decide (k < 38)) α 5999, rSSD1R a1 a2 l rs ri dx dy pr B1_5 B1_4 B1_3 B1_2 B1_1 B1 (fun k => decide (k < 38)) α 6999, rSSD1R a1 a2 l rs ri dx dy pr B1_5 B1_4 B1_3 B1_2 B1_1 B1 (fun k => decide (k < 38)) α 7999, rSSD1R a1 a2 l rs ri dx dy pr B1_5 B1_4 B1_3 B1_2 B1_1 B1 (fun k => decide (k < 38)) α 8999, rSSD1R a1 a2 l rs ri dx dy pr B1_5 B1_4 B1_3 B1_2 B1_1 B1 (fun k => decide (k < 38)) α 9999] = _
      rw [e0, e1, e2, e3, e4, e5, e6, e7, e8, e9])
    clear hG e0 e1 e2 e3 e4 e5 e6 e7 e8 e9
    generalize hfr : Rega.frameAt _ _ _ _ _ = fr
    have hdf : fr = ⟨#[.agg #[.iface 40 (.pointer (some ⟨dx, 0, none⟩)), .int .i32 l], .agg #[.iface 40 (.pointer (some ⟨dy, 0, none⟩)), .int .i32 l], .int .i64 4, .pointer (some ⟨B1, 0, none⟩), .pointer (some ⟨B1_1, 0, none⟩), undef, .bool true, .pointer none, undef, .pointer (some ⟨dx, 0, none⟩), .pointer (some ⟨dy, 0, none⟩), .int .i64 4, .bool false, .pointer (some ⟨B1, 1, none⟩), .pointer (some ⟨B1, 1, none⟩), .int .i32 l, .pointer (some ⟨B1_1, 1, none⟩), .pointer (some ⟨B1_1, 1, none⟩), .int .i32 l, .bool false, .agg #[.iface 40 (.pointer (some ⟨dx, 0, none⟩)), .int .i32 l], .bool false, undef, undef, .agg #[.iface 40 (.pointer (some ⟨dx, 0, none⟩)), .int .i32 l], .pointer none, .pointer none, .bool false, undef, undef, undef, undef, undef, undef, undef, undef, undef, undef, undef, undef, undef, undef, undef, .agg #[.iface 40 (.pointer (some ⟨dx, 0, none⟩)), .int .i32 l], .pointer (some ⟨dx, 0, none⟩), .pointer (some ⟨dx, 0, none⟩), .bool true, .agg #[.iface 40 (.pointer (some ⟨dy, 0, none⟩)), .int .i32 l], .pointer (some ⟨dy, 0, none⟩), .pointer (some ⟨dy, 0, none⟩), .bool true, .bool true, .pointer (some ⟨dx, 0, none⟩), .pointer (some ⟨dx, 0, none⟩), .pointer (some ⟨dx, 2, none⟩), .string pr, .pointer (some ⟨dy, 0, none⟩), .pointer (some ⟨dy, 0, none⟩), .pointer (some ⟨dy, 2, none⟩), .string pr, .bool true, .bool true, .bool true, .pointer (some ⟨dx, 0, none⟩), .pointer (some ⟨dx, 0, none⟩), .pointer (some ⟨dx, 3, none⟩), .agg #[.int .i32 l], .pointer (some ⟨dy, 0, none⟩), .pointer (some ⟨dy, 0, none⟩), .pointer (some ⟨dy, 3, none⟩), .agg #[.int .i32 l], .bool true, .bool true, .bool true, .pointer (some ⟨dx, 0, none⟩), .pointer (some ⟨dx, 0, none⟩), .pointer (some ⟨dx, 0, none⟩), .agg #[.iface 220 (.pointer (some ⟨a1, 0, none⟩)), .int .i32 l], .pointer (some ⟨dy, 0, none⟩), .pointer (some ⟨dy, 0, none⟩), .pointer (some ⟨dy, 0, none⟩), .agg #[.iface 220 (.pointer (some ⟨a2, 0, none⟩)), .int .i32 l], .int .i64 4, .int .i64 3, .bool true, .bool true], []⟩ := by rw [← hfr]; kernel_rfl
    clear hfr
    subst hdf
    clear α
    have pl9_0 : Base.plainAt u (B1_5) = true := hO.plain 0 rfl
    have pl9_1 : Base.plainAt u (B1_4) = true := hO.plain 1 rfl
    have pl9_2 : Base.plainAt u (B1_3) = true := hO.plain 2 rfl
    have pl9_3 : Base.plainAt u (B1_2) = true := hO.plain 3 rfl
    have pl9_4 : Base.plainAt u (B1_1) = true := hO.plain 4 rfl
    have pl9_5 : Base.plainAt u (B1) = true := hO.plain 5 rfl
    have pl9_6 : Base.plainAt u (dx) = true := hO.plain 6 rfl
    have pl9_7 : Base.plainAt u (dy) = true := hO.plain 7 rfl
    have pl9_8 : Base.plainAt u (a1) = true := hO.plain 8 rfl
    have pl9_9 : Base.plainAt u (a2) = true := hO.plain 9 rfl
    have ne9_0_1 : ¬ B1_5 = B1_4 := hO.ne 0 1 rfl rfl (by decide)
    have ne9_0_2 : ¬ B1_5 = B1_3 := hO.ne 0 2 rfl rfl (by decide)
    have ne9_0_3 : ¬ B1_5 = B1_2 := hO.ne 0 3 rfl rfl (by decide)
    have ne9_0_4 : ¬ B1_5 = B1_1 := hO.ne 0 4 rfl rfl (by decide)
    have ne9_0_5 : ¬ B1_5 = B1 := hO.ne 0 5 rfl rfl (by decide)
    have ne9_1_0 : ¬ B1_4 = B1_5 := hO.ne 1 0 rfl rfl (by decide)
    have ne9_1_2 : ¬ B1_4 = B1_3 := hO.ne 1 2 rfl rfl (by decide)
    have ne9_1_3 : ¬ B1_4 = B1_2 := hO.ne 1 3 rfl rfl (by decide)
    have ne9_1_4 : ¬ B1_4 = B1_1 := hO.ne 1 4 rfl rfl (by decide)
    have ne9_1_5 : ¬ B1_4 = B1 := hO.ne 1 5 rfl rfl (by decide)
    have ne9_2_0 : ¬ B1_3 = B1_5 := hO.ne 2 0 rfl rfl (by decide)
    have ne9_2_1 : ¬ B1_3 = B1_4 := hO.ne 2 1 rfl rfl (by decide)
    have ne9_2_3 : ¬ B1_3 = B1_2 := hO.ne 2 3 rfl rfl (by decide)
    have ne9_2_4 : ¬ B1_3 = B1_1 := hO.ne 2 4 rfl rfl (by decide)
    have ne9_2_5 : ¬ B1_3 = B1 := hO.ne 2 5 rfl rfl (by decide)
    have ne9_3_0 : ¬ B1_2 = B1_5 := hO.ne 3 0 rfl rfl (by decide)
    have ne9_3_1 : ¬ B1_2 = B1_4 := hO.ne 3 1 rfl rfl (by decide)
    have ne9_3_2 : ¬ B1_2 = B1_3 := hO.ne 3 2 rfl rfl (by decide)
    have ne9_3_4 : ¬ B1_2 = B1_1 := hO.ne 3 4 rfl rfl (by decide)
    have ne9_3_5 : ¬ B1_2 = B1 := hO.ne 3 5 rfl rfl (by decide)
    have ne9_4_0 : ¬ B1_1 = B1_5 := hO.ne 4 0 rfl rfl (by decide)
    have ne9_4_1 : ¬ B1_1 = B1_4 := hO.ne 4 1 rfl rfl (by decide)
    have ne9_4_2 : ¬ B1_1 = B1_3 := hO.ne 4 2 rfl rfl (by decide)
    have ne9_4_3 : ¬ B1_1 = B1_2 := hO.ne 4 3 rfl rfl (by decide)
    have ne9_4_5 : ¬ B1_1 = B1 := hO.ne 4 5 rfl rfl (by decide)
    have ne9_5_0 : ¬ B1 = B1_5 := hO.ne 5 0 rfl rfl (by decide)
    have ne9_5_1 : ¬ B1 = B1_4 := hO.ne 5 1 rfl rfl (by decide)
    have ne9_5_2 : ¬ B1 = B1_3 := hO.ne 5 2 rfl rfl (by decide)
    have ne9_5_3 : ¬ B1 = B1_2 := hO.ne 5 3 rfl rfl (by decide)
    have ne9_5_4 : ¬ B1 = B1_1 := hO.ne 5 4 rfl rfl (by decide)
    have ne9_6_7 : ¬ dx = dy := hO.ne 6 7 rfl rfl (by decide)
    have ne9_7_6 : ¬ dy = dx := hO.ne 7 6 rfl rfl (by decide)
    have ne9_8_9 : ¬ a1 = a2 := hO.ne 8 9 rfl rfl (by decide)
    have ne9_9_8 : ¬ a2 = a1 := hO.ne 9 8 rfl rfl (by decide)
    have c9_0_0 : u.cell? ⟨B1_5, 0, none⟩ = some (.iface 40 (.pointer (some ⟨dy, 0, none⟩))) := hO.cell 0 rfl 0 rfl
    have c9_0_1 : u.cell? ⟨B1_5, 1, none⟩ = some (.int .i32 l) := hO.cell 0 rfl 1 rfl
    have lt9_0 : B1_5 < u.heap.size := hO.lt 0 rfl
    have y9_0 : ∀ o, u.frozen? ⟨B1_5, o, none⟩ = false := hO.free 0 rfl
    have c9_1_0 : u.cell? ⟨B1_4, 0, none⟩ = some (.iface 40 (.pointer (some ⟨dx, 0, none⟩))) := hO.cell 1 rfl 0 rfl
    have c9_1_1 : u.cell? ⟨B1_4, 1, none⟩ = some (.int .i32 l) := hO.cell 1 rfl 1 rfl
    have lt9_1 : B1_4 < u.heap.size := hO.lt 1 rfl
    have y9_1 : ∀ o, u.frozen? ⟨B1_4, o, none⟩ = false := hO.free 1 rfl
    have c9_2_0 : u.cell? ⟨B1_3, 0, none⟩ = some (.iface 40 (.pointer (some ⟨dx, 0, none⟩))) := hO.cell 2 rfl 0 rfl
    have c9_2_1 : u.cell? ⟨B1_3, 1, none⟩ = some (.int .i32 l) := hO.cell 2 rfl 1 rfl
    have lt9_2 : B1_3 < u.heap.size := hO.lt 2 rfl
    have y9_2 : ∀ o, u.frozen? ⟨B1_3, o, none⟩ = false := hO.free 2 rfl
    have c9_3_0 : u.cell? ⟨B1_2, 0, none⟩ = some (.iface 40 (.pointer (some ⟨dx, 0, none⟩))) := hO.cell 3 rfl 0 rfl
    have c9_3_1 : u.cell? ⟨B1_2, 1, none⟩ = some (.int .i32 l) := hO.cell 3 rfl 1 rfl
    have lt9_3 : B1_2 < u.heap.size := hO.lt 3 rfl
    have y9_3 : ∀ o, u.frozen? ⟨B1_2, o, none⟩ = false := hO.free 3 rfl
    have c9_4_0 : u.cell? ⟨B1_1, 0, none⟩ = some (.iface 40 (.pointer (some ⟨dy, 0, none⟩))) := hO.cell 4 rfl 0 rfl
    have c9_4_1 : u.cell? ⟨B1_1, 1, none⟩ = some (.int .i32 l) := hO.cell 4 rfl 1 rfl
    have lt9_4 : B1_1 < u.heap.size := hO.lt 4 rfl
    have y9_4 : ∀ o, u.frozen? ⟨B1_1, o, none⟩ = false := hO.free 4 rfl
    have c9_5_0 : u.cell? ⟨B1, 0, none⟩ = some (.iface 40 (.pointer (some ⟨dx, 0, none⟩))) := hO.cell 5 rfl 0 rfl
    have c9_5_1 : u.cell? ⟨B1, 1, none⟩ = some (.int .i32 l) := hO.cell 5 rfl 1 rfl
    have lt9_5 : B1 < u.heap.size := hO.lt 5 rfl
    have y9_5 : ∀ o, u.frozen? ⟨B1, o, none⟩ = false := hO.free 5 rfl
    have c9_6_0 : u.cell? ⟨dx, 0, none⟩ = some (.iface 220 (.pointer (some ⟨a1, 0, none⟩))) := hO.cell 6 rfl 0 rfl
    have c9_6_1 : u.cell? ⟨dx, 1, none⟩ = some (.int .i32 l) := hO.cell 6 rfl 1 rfl
    have c9_6_2 : u.cell? ⟨dx, 2, none⟩ = some (.string pr) := hO.cell 6 rfl 2 rfl
    have c9_6_3 : u.cell? ⟨dx, 3, none⟩ = some (.int .i32 l) := hO.cell 6 rfl 3 rfl
    have c9_6_4 : u.cell? ⟨dx, 4, none⟩ = some (.int .u8 0) := hO.cell 6 rfl 4 rfl
    have c9_6_5 : u.cell? ⟨dx, 5, none⟩ = some (.bool false) := hO.cell 6 rfl 5 rfl
    have c9_6_6 : u.cell? ⟨dx, 6, none⟩ = some (.bool false) := hO.cell 6 rfl 6 rfl
    have c9_6_7 : u.cell? ⟨dx, 7, none⟩ = some (.bool false) := hO.cell 6 rfl 7 rfl
    have lt9_6 : dx < u.heap.size := hO.lt 6 rfl
    have y9_6 : ∀ o, u.frozen? ⟨dx, o, none⟩ = false := hO.free 6 rfl
    have c9_7_0 : u.cell? ⟨dy, 0, none⟩ = some (.iface 220 (.pointer (some ⟨a2, 0, none⟩))) := hO.cell 7 rfl 0 rfl
    have c9_7_1 : u.cell? ⟨dy, 1, none⟩ = some (.int .i32 l) := hO.cell 7 rfl 1 rfl
    have c9_7_2 : u.cell? ⟨dy, 2, none⟩ = some (.string pr) := hO.cell 7 rfl 2 rfl
    have c9_7_3 : u.cell? ⟨dy, 3, none⟩ = some (.int .i32 l) := hO.cell 7 rfl 3 rfl
    have c9_7_4 : u.cell? ⟨dy, 4, none⟩ = some (.int .u8 0) := hO.cell 7 rfl 4 rfl
    have c9_7_5 : u.cell? ⟨dy, 5, none⟩ = some (.bool false) := hO.cell 7 rfl 5 rfl
    have c9_7_6 : u.cell? ⟨dy, 6, none⟩ = some (.bool false) := hO.cell 7 rfl 6 rfl
    have c9_7_7 : u.cell? ⟨dy, 7, none⟩ = some (.bool false) := hO.cell 7 rfl 7 rfl
    have lt9_7 : dy < u.heap.size := hO.lt 7 rfl
    have y9_7 : ∀ o, u.frozen? ⟨dy, o, none⟩ = false := hO.free 7 rfl
    have c9_8_0 : u.cell? ⟨a1, 0, none⟩ = some (.int .u32 rs) := hO.cell 8 rfl 0 rfl
    have c9_8_1 : u.cell? ⟨a1, 1, none⟩ = some (.int .u32 ri) := hO.cell 8 rfl 1 rfl
    have c9_8_2 : u.cell? ⟨a1, 2, none⟩ = some (.bool false) := hO.cell 8 rfl 2 rfl
    have c9_8_3 : u.cell? ⟨a1, 3, none⟩ = some (.bool false) := hO.cell 8 rfl 3 rfl
    have c9_8_4 : u.cell? ⟨a1, 4, none⟩ = some (.bool false) := hO.cell 8 rfl 4 rfl
    have lt9_8 : a1 < u.heap.size := hO.lt 8 rfl
    have y9_8 : ∀ o, u.frozen? ⟨a1, o, none⟩ = false := hO.free 8 rfl
    have c9_9_0 : u.cell? ⟨a2, 0, none⟩ = some (.int .u32 rs) := hO.cell 9 rfl 0 rfl
    have c9_9_1 : u.cell? ⟨a2, 1, none⟩ = some (.int .u32 ri) := hO.cell 9 rfl 1 rfl
    have c9_9_2 : u.cell? ⟨a2, 2, none⟩ = some (.bool false) := hO.cell 9 rfl 2 rfl
    have c9_9_3 : u.cell? ⟨a2, 3, none⟩ = some (.bool false) := hO.cell 9 rfl 3 rfl
    have c9_9_4 : u.cell? ⟨a2, 4, none⟩ = some (.bool false) := hO.cell 9 rfl 4 rfl
    have lt9_9 : a2 < u.heap.size := hO.lt 9 rfl
    have y9_9 : ∀ o, u.frozen? ⟨a2, o, none⟩ = false := hO.free 9 rfl
    have HO := Lib.hid hO
    clear hO
    go_wp2_with (first | (go_at_call 39; go_in) | (go_at_call 40; go_in) | (go_at_call 18; go_in) | (go_at_call 23; go_in) | (go_at_call 21; go_in) | (go_at_call 41; go_in) | (go_at_call 42; go_in) | (go_at_call 28; go_in) | (go_at_call 43; go_in))
    have hO := HO.out
    clear HO pl9_0 pl9_1 pl9_2 pl9_3 pl9_4 pl9_5 pl9_6 pl9_7 pl9_8 pl9_9 ne9_0_1 ne9_0_2 ne9_0_3 ne9_0_4 ne9_0_5 ne9_1_0 ne9_1_2 ne9_1_3 ne9_1_4 ne9_1_5 ne9_2_0 ne9_2_1 ne9_2_3 ne9_2_4 ne9_2_5 ne9_3_0 ne9_3_1 ne9_3_2 ne9_3_4 ne9_3_5 ne9_4_0 ne9_4_1 ne9_4_2 ne9_4_3 ne9_4_5 ne9_5_0 ne9_5_1 ne9_5_2 ne9_5_3 ne9_5_4 ne9_6_7 ne9_7_6 ne9_8_9 ne9_9_8 c9_0_0 c9_0_1 lt9_0 y9_0 c9_1_0 c9_1_1 lt9_1 y9_1 c9_2_0 c9_2_1 lt9_2 y9_2 c9_3_0 c9_3_1 lt9_3 y9_3 c9_4_0 c9_4_1 lt9_4 y9_4 c9_5_0 c9_5_1 lt9_5 y9_5 c9_6_0 c9_6_1 c9_6_2 c9_6_3 c9_6_4 c9_6_5 c9_6_6 c9_6_7 lt9_6 y9_6 c9_7_0 c9_7_1 c9_7_2 c9_7_3 c9_7_4 c9_7_5 c9_7_6 c9_7_7 lt9_7 y9_7 c9_8_0 c9_8_1 c9_8_2 c9_8_3 c9_8_4 lt9_8 y9_8 c9_9_0 c9_9_1 c9_9_2 c9_9_3 c9_9_4 lt9_9 y9_9
    refine bodyPost_ret (v := .bool true) ?_ rfl ⟨rfl, hO.sub [6, 7, 8, 9] (by decide)⟩
    simp [results, Tryd.results20, go_sem]
def shapeT4Post (t1 t2 : Nat) (l : Int) (w0 : World) (X : Nat → Obj → Prop) (e : Ending) (w' : World) : Prop :=
  e = .returned (.bool true) ∧ Own w0 w' [] X
set_option maxRecDepth 100000 in
set_option maxHeartbeats 1000000 in
theorem shapeT4 (t1 t2 : Nat) (l : Int) (w0 w : World) (X : Nat → Obj → Prop) (hO : Own w0 w [] X)  :
    Calls Tryd.prog 20 #[.agg #[.iface 247 (.pointer (some ⟨t1, 0, none⟩)), .int .i32 l], .agg #[.iface 247 (.pointer (some ⟨t2, 0, none⟩)), .int .i32 l], .int .i64 4] w (shapeT4Post t1 t2 l w0 X) := by
  go_enter Tryd.func20, Tryd.ntmps20
  go_wp2_with (first | (go_at_call 39; go_in) | (go_at_call 40; go_in) | (go_at_call 18; go_in) | (go_at_call 23; go_in) | (go_at_call 21; go_in) | (go_at_call 41; go_in) | (go_at_call 42; go_in) | (go_at_call 28; go_in) | (go_at_call 43; go_in))
  generalize hW : World.alloc _ _ = W2
  have hN : Own w0 W2 [row (w.heap.size + 1 + 1 + 1) 30 #[.iface 247 (.pointer (some ⟨t2, 0, none⟩)), .int .i32 l], row (w.heap.size + 1 + 1) 30 #[.iface 247 (.pointer (some ⟨t1, 0, none⟩)), .int .i32 l], row (w.heap.size + 1) 30 #[.iface 247 (.pointer (some ⟨t2, 0, none⟩)), .int .i32 l], row (w.heap.size) 30 #[.iface 247 (.pointer (some ⟨t1, 0, none⟩)), .int .i32 l]] X := by
    rw [← hW]
    exact ((((hO).alloc' _ (w.heap.size) (by simp)).alloc' _ (w.heap.size + 1) (by simp)).alloc' _ (w.heap.size + 1 + 1) (by simp)).alloc' _ (w.heap.size + 1 + 1 + 1) (by simp)
  clear hW hO
  generalize w.heap.size + 1 + 1 + 1 = B1_3 at hN ⊢
  generalize w.heap.size + 1 + 1 = B1_2 at hN ⊢
  generalize w.heap.size + 1 = B1_1 at hN ⊢
  generalize w.heap.size = B1 at hN ⊢
  have hO := hN
  clear hN
  refine bodyPost_ret (v := .bool true) ?_ rfl ⟨rfl, hO.sub [] (by decide)⟩
  simp [results, Tryd.results20, go_sem]
def nodeIPost (a1 a2 : Nat) (l rs ri : Int) (w0 : World) (X : Nat → Obj → Prop) (e : Ending) (w' : World) : Prop :=
  e = .returned (.bool false) ∧ Own w0 w' [row (a1) 223 #[.int .u32 rs, .int .u32 ri, .bool false, .bool false, .bool false], row (a2) 223 #[.int .u32 rs, .int .u32 ri, .bool false, .bool false, .bool false]] X
set_option maxRecDepth 100000 in
set_option maxHeartbeats 1000000 in
theorem nodeI (a1 a2 : Nat) (l rs ri : Int) (w0 w : World) (X : Nat → Obj → Prop) (hO : Own w0 w [row (a1) 223 #[.int .u32 rs, .int .u32 ri, .bool false, .bool false, .bool false], row (a2) 223 #[.int .u32 rs, .int .u32 ri, .bool false, .bool false, .bool false]] X)  :
    Calls Tryd.prog 24 #[.agg #[.iface 220 (.pointer (some ⟨a1, 0, none⟩)), .int .i32 l], .agg #[.iface 220 (.pointer (some ⟨a2, 0, none⟩)), .int .i32 l]] w (nodeIPost a1 a2 l rs ri w0 X) := by
  go_enter Tryd.func24, Tryd.ntmps24
  have pl9_0 : Base.plainAt w (a1) = true := hO.plain 0 rfl
  have pl9_1 : Base.plainAt w (a2) = true := hO.plain 1 rfl
  have ne9_0_1 : ¬ a1 = a2 := hO.ne 0 1 rfl rfl (by decide)
  have ne9_1_0 : ¬ a2 = a1 := hO.ne 1 0 rfl rfl (by decide)
  have c9_0_0 : w.cell? ⟨a1, 0, none⟩ = some (.int .u32 rs) := hO.cell 0 rfl 0 rfl
  have c9_0_1 : w.cell? ⟨a1, 1, none⟩ = some (.int .u32 ri) := hO.cell 0 rfl 1 rfl
  have c9_0_2 : w.cell? ⟨a1, 2, none⟩ = some (.bool false) := hO.cell 0 rfl 2 rfl
  have c9_0_3 : w.cell? ⟨a1, 3, none⟩ = some (.bool false) := hO.cell 0 rfl 3 rfl
  have c9_0_4 : w.cell? ⟨a1, 4, none⟩ = some (.bool false) := hO.cell 0 rfl 4 rfl
  have lt9_0 : a1 < w.heap.size := hO.lt 0 rfl
  have y9_0 : ∀ o, w.frozen? ⟨a1, o, none⟩ = false := hO.free 0 rfl
  have c9_1_0 : w.cell? ⟨a2, 0, none⟩ = some (.int .u32 rs) := hO.cell 1 rfl 0 rfl
  have c9_1_1 : w.cell? ⟨a2, 1, none⟩ = some (.int .u32 ri) := hO.cell 1 rfl 1 rfl
  have c9_1_2 : w.cell? ⟨a2, 2, none⟩ = some (.bool false) := hO.cell 1 rfl 2 rfl
  have c9_1_3 : w.cell? ⟨a2, 3, none⟩ = some (.bool false) := hO.cell 1 rfl 3 rfl
  have c9_1_4 : w.cell? ⟨a2, 4, none⟩ = some (.bool false) := hO.cell 1 rfl 4 rfl
  have lt9_1 : a2 < w.heap.size := hO.lt 1 rfl
  have y9_1 : ∀ o, w.frozen? ⟨a2, o, none⟩ = false := hO.free 1 rfl
  have HO := Lib.hid hO
  clear hO
  go_wp2_with (first | (go_at_call 39; go_in) | (go_at_call 40; go_in) | (go_at_call 18; go_in) | (go_at_call 23; go_in) | (go_at_call 21; go_in) | (go_at_call 41; go_in) | (go_at_call 42; go_in) | (go_at_call 28; go_in) | (go_at_call 43; go_in))
  have hO := HO.out
  clear HO pl9_0 pl9_1 ne9_0_1 ne9_1_0 c9_0_0 c9_0_1 c9_0_2 c9_0_3 c9_0_4 lt9_0 y9_0 c9_1_0 c9_1_1 c9_1_2 c9_1_3 c9_1_4 lt9_1 y9_1
  generalize hW : World.alloc _ _ = W2
  have hN : Own w0 W2 [row (w.heap.size + 1 + 1 + 1 + 1) 30 #[.iface 220 (.pointer (some ⟨a2, 0, none⟩)), .int .i32 l], row (w.heap.size + 1 + 1 + 1) 30 #[.iface 220 (.pointer (some ⟨a1, 0, none⟩)), .int .i32 l], row (w.heap.size + 1 + 1) 30 #[.iface 220 (.pointer (some ⟨a1, 0, none⟩)), .int .i32 l], row (w.heap.size + 1) 30 #[.iface 220 (.pointer (some ⟨a2, 0, none⟩)), .int .i32 l], row (w.heap.size) 30 #[.iface 220 (.pointer (some ⟨a1, 0, none⟩)), .int .i32 l], row (a1) 223 #[.int .u32 rs, .int .u32 ri, .bool false, .bool false, .bool false], row (a2) 223 #[.int .u32 rs, .int .u32 ri, .bool false, .bool false, .bool false]] X := by
    rw [← hW]
    exact (((((hO).alloc' _ (w.heap.size) (by simp)).alloc' _ (w.heap.size + 1) (by simp)).alloc' _ (w.heap.size + 1 + 1) (by simp)).alloc' _ (w.heap.size + 1 + 1 + 1) (by simp)).alloc' _ (w.heap.size + 1 + 1 + 1 + 1) (by simp)
  clear hW hO
  generalize w.heap.size + 1 + 1 + 1 + 1 = B1_4 at hN ⊢
  generalize w.heap.size + 1 + 1 + 1 = B1_3 at hN ⊢
  generalize w.heap.size + 1 + 1 = B1_2 at hN ⊢
  generalize w.heap.size + 1 = B1_1 at hN ⊢
  generalize w.heap.size = B1 at hN ⊢
  have hO := hN
  clear hN
  refine bodyPost_ret (v := .bool false) ?_ rfl ⟨rfl, hO.sub [5, 6] (by decide)⟩
  simp [results, Tryd.results24, go_sem]
def nodeDPost (a1 a2 : Nat) (l rs ri : Int) (dx dy : Nat) (pr : ByteArray) (w0 : World) (X : Nat → Obj → Prop) (e : Ending) (w' : World) : Prop :=
  e = .returned (.bool false) ∧ Own w0 w' [row (dx) 44 #[.iface 220 (.pointer (some ⟨a1, 0, none⟩)), .int .i32 l, .string pr, .int .i32 l, .int .u8 0, .bool false, .bool false, .bool false], row (dy) 44 #[.iface 220 (.pointer (some ⟨a2, 0, none⟩)), .int .i32 l, .string pr, .int .i32 l, .int .u8 0, .bool false, .bool false, .bool false], row (a1) 223 #[.int .u32 rs, .int .u32 ri, .bool false, .bool false, .bool false], row (a2) 223 #[.int .u32 rs, .int .u32 ri, .bool false, .bool false, .bool false]] X
set_option maxRecDepth 100000 in
set_option maxHeartbeats 1000000 in
theorem nodeD (a1 a2 : Nat) (l rs ri : Int) (dx dy : Nat) (pr : ByteArray) (w0 w : World) (X : Nat → Obj → Prop) (hO : Own w0 w [row (dx) 44 #[.iface 220 (.pointer (some ⟨a1, 0, none⟩)), .int .i32 l, .string pr, .int .i32 l, .int .u8 0, .bool false, .bool false, .bool false], row (dy) 44 #[.iface 220 (.pointer (some ⟨a2, 0, none⟩)), .int .i32 l, .string pr, .int .i32 l, .int .u8 0, .bool false, .bool false, .bool false], row (a1) 223 #[.int .u32 rs, .int .u32 ri, .bool false, .bool false, .bool false], row (a2) 223 #[.int .u32 rs, .int .u32 ri, .bool false, .bool false, .bool false]] X)  :
    Calls Tryd.prog 24 #[.agg #[.iface 40 (.pointer (some ⟨dx, 0, none⟩)), .int .i32 l], .agg #[.iface 40 (.pointer (some ⟨dy, 0, none⟩)), .int .i32 l]] w (nodeDPost a1 a2 l rs ri dx dy pr w0 X) := by
  go_enter Tryd.func24, Tryd.ntmps24
  have pl9_0 : Base.plainAt w (dx) = true := hO.plain 0 rfl
  have pl9_1 : Base.plainAt w (dy) = true := hO.plain 1 rfl
  have pl9_2 : Base.plainAt w (a1) = true := hO.plain 2 rfl
  have pl9_3 : Base.plainAt w (a2) = true := hO.plain 3 rfl
  have ne9_0_1 : ¬ dx = dy := hO.ne 0 1 rfl rfl (by decide)
  have ne9_1_0 : ¬ dy = dx := hO.ne 1 0 rfl rfl (by decide)
  have ne9_2_3 : ¬ a1 = a2 := hO.ne 2 3 rfl rfl (by decide)
  have ne9_3_2 : ¬ a2 = a1 := hO.ne 3 2 rfl rfl (by decide)
  have c9_0_0 : w.cell? ⟨dx, 0, none⟩ = some (.iface 220 (.pointer (some ⟨a1, 0, none⟩))) := hO.cell 0 rfl 0 rfl
  have c9_0_1 : w.cell? ⟨dx, 1, none⟩ = some (.int .i32 l) := hO.cell 0 rfl 1 rfl
  have c9_0_2 : w.cell? ⟨dx, 2, none⟩ = some (.string pr) := hO.cell 0 rfl 2 rfl
  have c9_0_3 : w.cell? ⟨dx, 3, none⟩ = some (.int .i32 l) := hO.cell 0 rfl 3 rfl
  have c9_0_4 : w.cell? ⟨dx, 4, none⟩ = some (.int .u8 0) := hO.cell 0 rfl 4 rfl
  have c9_0_5 : w.cell? ⟨dx, 5, none⟩ = some (.bool false) := hO.cell 0 rfl 5 rfl
  have c9_0_6 : w.cell? ⟨dx, 6, none⟩ = some (.bool false) := hO.cell 0 rfl 6 rfl
  have c9_0_7 : w.cell? ⟨dx, 7, none⟩ = some (.bool false) := hO.cell 0 rfl 7 rfl
  have lt9_0 : dx < w.heap.size := hO.lt 0 rfl
  have y9_0 : ∀ o, w.frozen? ⟨dx, o, none⟩ = false := hO.free 0 rfl
  have c9_1_0 : w.cell? ⟨dy, 0, none⟩ = some (.iface 220 (.pointer (some ⟨a2, 0, none⟩))) := hO.cell 1 rfl 0 rfl
  have c9_1_1 : w.cell? ⟨dy, 1, none⟩ = some (.int .i32 l) := hO.cell 1 rfl 1 rfl
  have c9_1_2 : w.cell? ⟨dy, 2, none⟩ = some (.string pr) := hO.cell 1 rfl 2 rfl
  have c9_1_3 : w.cell? ⟨dy, 3, none⟩ = some (.int .i32 l) := hO.cell 1 rfl 3 rfl
  have c9_1_4 : w.cell? ⟨dy, 4, none⟩ = some (.int .u8 0) := hO.cell 1 rfl 4 rfl
  have c9_1_5 : w.cell? ⟨dy, 5, none⟩ = some (.bool false) := hO.cell 1 rfl 5 rfl
  have c9_1_6 : w.cell? ⟨dy, 6, none⟩ = some (.bool false) := hO.cell 1 rfl 6 rfl
  have c9_1_7 : w.cell? ⟨dy, 7, none⟩ = some (.bool false) := hO.cell 1 rfl 7 rfl
  have lt9_1 : dy < w.heap.size := hO.lt 1 rfl
  have y9_1 : ∀ o, w.frozen? ⟨dy, o, none⟩ = false := hO.free 1 rfl
  have c9_2_0 : w.cell? ⟨a1, 0, none⟩ = some (.int .u32 rs) := hO.cell 2 rfl 0 rfl
  have c9_2_1 : w.cell? ⟨a1, 1, none⟩ = some (.int .u32 ri) := hO.cell 2 rfl 1 rfl
  have c9_2_2 : w.cell? ⟨a1, 2, none⟩ = some (.bool false) := hO.cell 2 rfl 2 rfl
  have c9_2_3 : w.cell? ⟨a1, 3, none⟩ = some (.bool false) := hO.cell 2 rfl 3 rfl
  have c9_2_4 : w.cell? ⟨a1, 4, none⟩ = some (.bool false) := hO.cell 2 rfl 4 rfl
  have lt9_2 : a1 < w.heap.size := hO.lt 2 rfl
  have y9_2 : ∀ o, w.frozen? ⟨a1, o, none⟩ = false := hO.free 2 rfl
  have c9_3_0 : w.cell? ⟨a2, 0, none⟩ = some (.int .u32 rs) := hO.cell 3 rfl 0 rfl
  have c9_3_1 : w.cell? ⟨a2, 1, none⟩ = some (.int .u32 ri) := hO.cell 3 rfl 1 rfl
  have c9_3_2 : w.cell? ⟨a2, 2, none⟩ = some (.bool false) := hO.cell 3 rfl 2 rfl
  have c9_3_3 : w.cell? ⟨a2, 3, none⟩ = some (.bool false) := hO.cell 3 rfl 3 rfl
  have c9_3_4 : w.cell? ⟨a2, 4, none⟩ = some (.bool false) := hO.cell 3 rfl 4 rfl
  have lt9_3 : a2 < w.heap.size := hO.lt 3 rfl
  have y9_3 : ∀ o, w.frozen? ⟨a2, o, none⟩ = false := hO.free 3 rfl
  have HO := Lib.hid hO
  clear hO
  go_wp2_with (first | (go_at_call 39; go_in) | (go_at_call 40; go_in) | (go_at_call 18; go_in) | (go_at_call 23; go_in) | (go_at_call 21; go_in) | (go_at_call 41; go_in) | (go_at_call 42; go_in) | (go_at_call 28; go_in) | (go_at_call 43; go_in))
  have hO := HO.out
  clear HO pl9_0 pl9_1 pl9_2 pl9_3 ne9_0_1 ne9_1_0 ne9_2_3 ne9_3_2 c9_0_0 c9_0_1 c9_0_2 c9_0_3 c9_0_4 c9_0_5 c9_0_6 c9_0_7 lt9_0 y9_0 c9_1_0 c9_1_1 c9_1_2 c9_1_3 c9_1_4 c9_1_5 c9_1_6 c9_1_7 lt9_1 y9_1 c9_2_0 c9_2_1 c9_2_2 c9_2_3 c9_2_4 lt9_2 y9_2 c9_3_0 c9_3_1 c9_3_2 c9_3_3 c9_3_4 lt9_3 y9_3
  generalize hW : World.alloc _ _ = W2
  have hN : Own w0 W2 [row (w.heap.size + 1 + 1 + 1) 30 #[.iface 40 (.pointer (some ⟨dy, 0, none⟩)), .int .i32 l], row (w.heap.size + 1 + 1) 30 #[.iface 40 (.pointer (some ⟨dx, 0, none⟩)), .int .i32 l], row (w.heap.size + 1) 30 #[.iface 40 (.pointer (some ⟨dy, 0, none⟩)), .int .i32 l], row (w.heap.size) 30 #[.iface 40 (.pointer (some ⟨dx, 0, none⟩)), .int .i32 l], row (dx) 44 #[.iface 220 (.pointer (some ⟨a1, 0, none⟩)), .int .i32 l, .string pr, .int .i32 l, .int .u8 0, .bool false, .bool false, .bool false], row (dy) 44 #[.iface 220 (.pointer (some ⟨a2, 0, none⟩)), .int .i32 l, .string pr, .int .i32 l, .int .u8 0, .bool false, .bool false, .bool false], row (a1) 223 #[.int .u32 rs, .int .u32 ri, .bool false, .bool false, .bool false], row (a2) 223 #[.int .u32 rs, .int .u32 ri, .bool false, .bool false, .bool false]] X := by
    rw [← hW]
    exact ((((hO).alloc' _ (w.heap.size) (by simp)).alloc' _ (w.heap.size + 1) (by simp)).alloc' _ (w.heap.size + 1 + 1) (by simp)).alloc' _ (w.heap.size + 1 + 1 + 1) (by simp)
  clear hW hO
  generalize w.heap.size + 1 + 1 + 1 = B1_3 at hN ⊢
  generalize w.heap.size + 1 + 1 = B1_2 at hN ⊢
  generalize w.heap.size + 1 = B1_1 at hN ⊢
  generalize w.heap.size = B1 at hN ⊢
  have hO := hN
  clear hN
  refine bodyPost_ret (v := .bool false) ?_ rfl ⟨rfl, hO.sub [4, 5, 6, 7] (by decide)⟩
  simp [results, Tryd.results24, go_sem]
def asStrOPost (b : Nat) (l : Int) (w0 : World) (X : Nat → Obj → Prop) (e : Ending) (w' : World) : Prop :=
  e = .returned (.pointer (some ⟨b, 0, none⟩)) ∧ Own w0 w' [] X
set_option maxRecDepth 100000 in
set_option maxHeartbeats 1000000 in
theorem asStrO (b : Nat) (l : Int) (w0 w : World) (X : Nat → Obj → Prop) (hO : Own w0 w [] X)  :
    Calls Tryd.prog 21 #[.agg #[.iface 50 (.pointer (some ⟨b, 0, none⟩)), .int .i32 l]] w (asStrOPost b l w0 X) := by
  go_enter Tryd.func21, Tryd.ntmps21
  go_wp2_with fail
  generalize hW : World.alloc _ _ = W2
  have hN : Own w0 W2 [row (w.heap.size) 30 #[.iface 50 (.pointer (some ⟨b, 0, none⟩)), .int .i32 l]] X := by
    rw [← hW]
    exact (hO).alloc' _ (w.heap.size) (by simp)
  clear hW hO
  generalize w.heap.size = B1 at hN ⊢
  have hO := hN
  clear hN
  refine bodyPost_ret (v := .pointer (some ⟨b, 0, none⟩)) ?_ rfl ⟨rfl, hO.sub [] (by decide)⟩
  simp [results, Tryd.results21, go_sem]
end Go.Proofs.YtcbdjbjbikiaeaaDoor.Use
