/- The search at a leaf that is not found. No condition. -/
import Derived.Test.YtdbnnpoffpipjaaJn
import Derived.Test.YtdbnnpoffpipjaaTre
import Derived.Test.YtdbnnpoffpipjaaLoop
import Derived.Test.YtdbnnpoffpipjaaAppL
import Derived.Test.YtdbnnpoffpipjaaApp
import Derived.Test.YtdbnnpoffpipjaaOwnK
import Derived.Test.YtdbnnpoffpipjaaOwn
import Derived.Test.YtdbnnpoffpipjaaDeepCells
import Derived.Test.YtdbnnpoffpipjaaRows
namespace Go.Proofs.Ytdbnnpoffpipjaa.Use
open Go.ChangeShapes Go.WideShapes Go.ChangeAt Go.RowKit Go.Sort Own
set_option linter.unusedVariables false
def findN0Post (v : Value) (x src inn : Int) (w0 : World) (X : Nat → Obj → Prop) (e : Ending) (w' : World) : Prop :=
  e = .returned (.tuple #[.agg #[.nilIface, .int .i32 0], .agg #[.int .i32 0], .pointer none, .agg #[.nilIface, .int .i32 0]]) ∧ Own w0 w' [] X
set_option maxRecDepth 100000 in
set_option maxHeartbeats 1000000 in
theorem findN0 (v : Value) (x src inn : Int) (w0 w : World) (X : Nat → Obj → Prop) (hO : Own w0 w [] X)  :
    Calls Try.prog 17 #[.agg #[.iface 59 v, .int .i32 x], .agg #[.int .u32 src, .int .u32 inn]] w (findN0Post v x src inn w0 X) := by
  go_enter Try.func17, Try.ntmps17
  go_wp2_with (first | (with_reducible refine Own.stay (fn := Try.f17) ?_) | fail)
  try with_reducible refine Own.Stay.mk ?_
  generalize hW : World.alloc _ _ = W2
  have hN : Own w0 W2 [row (w.heap.size + 1 + 1 + 1 + 1) 35 #[.nilIface, .int .i32 0], row (w.heap.size + 1 + 1 + 1) 33 #[.int .i32 0], row (w.heap.size + 1 + 1) 35 #[.nilIface, .int .i32 0], row (w.heap.size + 1) 27 #[.int .u32 src, .int .u32 inn], row (w.heap.size) 35 #[.iface 59 v, .int .i32 x]] X := by
    rw [← hW]
    exact (((((hO).alloc' _ (w.heap.size) (by simp)).alloc' _ (w.heap.size + 1) (by simp)).alloc' _ (w.heap.size + 1 + 1) (by simp)).alloc' _ (w.heap.size + 1 + 1 + 1) (by simp)).alloc' _ (w.heap.size + 1 + 1 + 1 + 1) (by simp)
  clear hW hO
  generalize w.heap.size + 1 + 1 + 1 + 1 = B1_4 at hN ⊢
  generalize w.heap.size + 1 + 1 + 1 = B1_3 at hN ⊢
  generalize w.heap.size + 1 + 1 = B1_2 at hN ⊢
  generalize w.heap.size + 1 = B1_1 at hN ⊢
  generalize w.heap.size = B1 at hN ⊢
  have hO := hN
  clear hN
  have z9_2_0 : W2.cell? ⟨B1_2, 0, none⟩ = some (.nilIface) := hO.cell 2 rfl 0 rfl
  have z9_2_1 : W2.cell? ⟨B1_2, 1, none⟩ = some (.int .i32 0) := hO.cell 2 rfl 1 rfl
  have z9_1_0 : W2.cell? ⟨B1_3, 0, none⟩ = some (.int .i32 0) := hO.cell 1 rfl 0 rfl
  have z9_0_0 : W2.cell? ⟨B1_4, 0, none⟩ = some (.nilIface) := hO.cell 0 rfl 0 rfl
  have z9_0_1 : W2.cell? ⟨B1_4, 1, none⟩ = some (.int .i32 0) := hO.cell 0 rfl 1 rfl
  refine bodyPost_ret (v := .tuple #[.agg #[.nilIface, .int .i32 0], .agg #[.int .i32 0], .pointer none, .agg #[.nilIface, .int .i32 0]]) ?_ rfl ⟨rfl, hO.sub [] (by decide)⟩
  simp [results, Try.results17, go_sem, z9_2_0, z9_2_1, z9_1_0, z9_0_0, z9_0_1]
def rFN11E (cb : Nat) (ib : Nat) (x : Int) (src : Int) (inn : Int) (j : Int) (B1_4 : Nat) (B1_3 : Nat) (B1_2 : Nat) (B1_1 : Nat) (B1 : Nat) : Nat → Rega.Atoms → Value
  | 0, α => .bool true
  | 1, α => .bool true
  | 2, α => .pointer (some ⟨ib, 0, none⟩)
  | 3, α => .pointer (some ⟨ib, 0, none⟩)
  | 4, α => .pointer (some ⟨ib, 0, none⟩)
  | 5, α => .agg #[.int .u32 src, .int .u32 j]
  | 6, α => .agg #[.int .u32 src, .int .u32 inn]
  | 7, α => .bool false
  | 8, α => .bool false
  | _, _ => undef
def rFN11Anc : Nat → List Nat
  | 1 => [0]
  | 2 => [0, 1]
  | 3 => [0, 1, 2]
  | 4 => [0, 1, 2, 3]
  | 5 => [0, 1, 2, 3, 4]
  | 6 => [0, 1]
  | 7 => [0, 1, 2, 3, 4, 5, 6]
  | 8 => [0, 1, 2, 3, 4, 5, 6, 7]
  | _ => []
def rFN11Trn : Nat → List Nat
  | _ => []
def rFN11Cnt : List (Nat × Nat) := []
def rFN11R (cb : Nat) (ib : Nat) (x : Int) (src : Int) (inn : Int) (j : Int) (B1_4 : Nat) (B1_3 : Nat) (B1_2 : Nat) (B1_1 : Nat) (B1 : Nat) (L9 : Nat → Bool) (α : Rega.Atoms) (ix9 : Nat) : Rw := if ix9 = 999 then row (B1_4) 35 #[.nilIface, .int .i32 0] else if ix9 = 1999 then row (B1_3) 33 #[.int .i32 0] else if ix9 = 2999 then row (B1_2) 35 #[.nilIface, .int .i32 0] else if ix9 = 3999 then row (B1_1) 27 #[.int .u32 src, .int .u32 inn] else if ix9 = 4999 then row (B1) 35 #[.iface 36 (.pointer (some ⟨cb, 0, none⟩)), .int .i32 x] else (0, .map #[] 0)
theorem rFN11_he (cb : Nat) (ib : Nat) (x : Int) (src : Int) (inn : Int) (j : Int) (B1_4 : Nat) (B1_3 : Nat) (B1_2 : Nat) (B1_1 : Nat) (B1 : Nat) : ∀ kk α α', (∀ j, (j % 1000 = kk ∨ j % 1000 ∈ rFN11Anc kk) → α j = α' j) → rFN11E cb ib x src inn j B1_4 B1_3 B1_2 B1_1 B1 kk α = rFN11E cb ib x src inn j B1_4 B1_3 B1_2 B1_1 B1 kk α' := by
  intro kk α α' h
  match kk with
  | 0 => rfl
  | 1 => rfl
  | 2 => rfl
  | 3 => rfl
  | 4 => rfl
  | 5 => rfl
  | 6 => rfl
  | 7 => rfl
  | 8 => rfl
  | n + 9 => rfl
theorem rFN11_st (cb : Nat) (ib : Nat) (x : Int) (src : Int) (inn : Int) (j : Int) (B1_4 : Nat) (B1_3 : Nat) (B1_2 : Nat) (B1_1 : Nat) (B1 : Nat) : Stable rFN11Cnt 5 rFN11Anc rFN11Trn (rFN11R cb ib x src inn j B1_4 B1_3 B1_2 B1_1 B1) := by
  intro k9 L9 α α' ix9 hk hcl hα hact ht
  have hp := act_places hact
  replace hp : ix9 ∈ [999, 1999, 2999, 3999, 4999] := hp
  simp only [List.mem_cons, List.not_mem_nil, or_false] at hp
  rcases hp with rfl | rfl | rfl | rfl | rfl
  · rfl
  · rfl
  · rfl
  · rfl
  · rfl
def findN1Post (cb ib : Nat) (y x src inn j : Int) (w0 : World) (X : Nat → Obj → Prop) (e : Ending) (w' : World) : Prop :=
  e = .returned (.tuple #[.agg #[.nilIface, .int .i32 0], .agg #[.int .i32 0], .pointer none, .agg #[.nilIface, .int .i32 0]]) ∧ Own w0 w' [] X
set_option maxRecDepth 100000 in
set_option maxHeartbeats 1000000 in
theorem findN1 (cb ib : Nat) (y x src inn j : Int) (w0 w : World) (X : Nat → Obj → Prop) (hO : Own w0 w [] X) (hc : X cb (.cells (callC (.iface 56 (.pointer (some ⟨ib, 0, none⟩))) y) 46 (0, 0))) (hi : X ib (.cells (idC src j) 58 (0, 0))) (hne : ¬ j = inn) :
    Calls Try.prog 17 #[.agg #[.iface 36 (.pointer (some ⟨cb, 0, none⟩)), .int .i32 x], .agg #[.int .u32 src, .int .u32 inn]] w (findN1Post cb ib y x src inn j w0 X) := by
  go_enter Try.func17, Try.ntmps17
  have fx0_0 : w.cell? ⟨cb, 0, none⟩ = some (.iface 56 (.pointer (some ⟨ib, 0, none⟩))) := hO.fcell hc 0 rfl
  have fx0_1 : w.cell? ⟨cb, 1, none⟩ = some (.int .i32 y) := hO.fcell hc 1 rfl
  have fx0_2 : w.cell? ⟨cb, 2, none⟩ = some (.slice none 0 0) := hO.fcell hc 2 rfl
  have fx0_3 : w.cell? ⟨cb, 3, none⟩ = some (.int .i32 0) := hO.fcell hc 3 rfl
  have fx0_4 : w.cell? ⟨cb, 4, none⟩ = some (.int .u8 0) := hO.fcell hc 4 rfl
  have fx0_5 : w.cell? ⟨cb, 5, none⟩ = some (.int .u8 0) := hO.fcell hc 5 rfl
  have fx0_6 : w.cell? ⟨cb, 6, none⟩ = some (.bool false) := hO.fcell hc 6 rfl
  have fx0_7 : w.cell? ⟨cb, 7, none⟩ = some (.bool false) := hO.fcell hc 7 rfl
  have fx1_0 : w.cell? ⟨ib, 0, none⟩ = some (.int .u32 src) := hO.fcell hi 0 rfl
  have fx1_1 : w.cell? ⟨ib, 1, none⟩ = some (.int .u32 j) := hO.fcell hi 1 rfl
  have fx1_2 : w.cell? ⟨ib, 2, none⟩ = some (.bool false) := hO.fcell hi 2 rfl
  have fx1_3 : w.cell? ⟨ib, 3, none⟩ = some (.bool false) := hO.fcell hi 3 rfl
  have fx1_4 : w.cell? ⟨ib, 4, none⟩ = some (.bool false) := hO.fcell hi 4 rfl
  go_wp2_with (first | (with_reducible refine Own.stay (fn := Try.f17) ?_) | fail)
  try with_reducible refine Own.Stay.mk ?_
  have HO := Lib.hid hO
  clear hO
  have hO := HO.out
  clear HO fx0_0 fx0_1 fx0_2 fx0_3 fx0_4 fx0_5 fx0_6 fx0_7 fx1_0 fx1_1 fx1_2 fx1_3 fx1_4
  generalize hW : World.alloc _ _ = W2
  have hN : Own w0 W2 [row (w.heap.size + 1 + 1 + 1 + 1) 35 #[.nilIface, .int .i32 0], row (w.heap.size + 1 + 1 + 1) 33 #[.int .i32 0], row (w.heap.size + 1 + 1) 35 #[.nilIface, .int .i32 0], row (w.heap.size + 1) 27 #[.int .u32 src, .int .u32 inn], row (w.heap.size) 35 #[.iface 36 (.pointer (some ⟨cb, 0, none⟩)), .int .i32 x]] X := by
    rw [← hW]
    exact (((((hO).alloc' _ (w.heap.size) (by simp)).alloc' _ (w.heap.size + 1) (by simp)).alloc' _ (w.heap.size + 1 + 1) (by simp)).alloc' _ (w.heap.size + 1 + 1 + 1) (by simp)).alloc' _ (w.heap.size + 1 + 1 + 1 + 1) (by simp)
  clear hW hO
  generalize w.heap.size + 1 + 1 + 1 + 1 = B1_4 at hN ⊢
  generalize w.heap.size + 1 + 1 + 1 = B1_3 at hN ⊢
  generalize w.heap.size + 1 + 1 = B1_2 at hN ⊢
  generalize w.heap.size + 1 = B1_1 at hN ⊢
  generalize w.heap.size = B1 at hN ⊢
  have hO := hN
  clear hN
  have st9 := rFN11_st cb ib x src inn j B1_4 B1_3 B1_2 B1_1 B1
  let R9 := rFN11R cb ib x src inn j B1_4 B1_3 B1_2 B1_1 B1
  refine wp_region_own (e := rFN11E cb ib x src inn j B1_4 B1_3 B1_2 B1_1 B1) (anc := rFN11Anc) (G := (fun L9 α u9 => OwnF w0 u9 (act rFN11Cnt 5 L9) (rFN11R cb ib x src inn j B1_4 B1_3 B1_2 B1_1 B1 L9 α) X)) (by kernel_rfl) (by kernel_rfl) (by kernel_rfl) (by kernel_rfl) (rFN11_he cb ib x src inn j B1_4 B1_3 B1_2 B1_1 B1) ?_ (RunsAll.all ?_) ?_
  · have hp : ∀ i, act rFN11Cnt 5 (fun _ => false) i → i ∈ [999, 1999, 2999, 3999, 4999] := by
      intro i hi
      have h9 : i % 1000 = 999 := by
        by_cases h : i % 1000 = 999
        · exact h
        · exact absurd (act_lt hi h) (by simp)
      unfold act at hi
      rw [if_pos h9] at hi
      simp only [List.mem_cons, List.not_mem_nil, or_false]
      omega
    refine hO.drew.family (fun i hi => ?_) (fun i j hi hj hij => ?_)
    · have := hp i hi
      simp only [List.mem_cons, List.not_mem_nil, or_false] at this
      rcases this with rfl | rfl | rfl | rfl | rfl <;> rfl
    · have h1 := hp i hi
      have h2 := hp j hj
      simp only [List.mem_cons, List.not_mem_nil, or_false] at h1 h2
      omega
  · refine ⟨?_, ?_, ?_, ?_, ?_, ?_, ?_, ?_, ?_, trivial⟩
    · intro L9 α a9 u9 K9 hL hcl hA hG hS h0 hK
      replace hL : L9 0 = false := hL
      have q11 : a9.tmps[11]? = some (.bool true) := (h0 11 (by kernel_rfl)).trans rfl
      have s11 := Rega.eval_of q11
      go_simp
      exact hK _ α _ (fun _ _ => rfl) rfl (step_same (st9) hL hcl rfl rfl hG)
    · intro L9 α a9 u9 K9 hL hcl hA hG hS h0 hK
      replace hL : L9 1 = false := hL
      have q38 : a9.tmps[38]? = some (.bool true) := hS 0 38 (by decide) rfl (by show 38 < 120; decide)
      have s38 := Rega.eval_of q38
      go_simp
      exact hK _ α _ (fun _ _ => rfl) rfl (step_same (st9) hL hcl rfl rfl hG)
    · intro L9 α a9 u9 K9 hL hcl hA hG hS h0 hK
      replace hL : L9 2 = false := hL
      have q10 : a9.tmps[10]? = some (.pointer (some ⟨ib, 0, none⟩)) := (h0 10 (by kernel_rfl)).trans rfl
      have s10 := Rega.eval_of q10
      have q39 : a9.tmps[39]? = some (.bool true) := hS 1 39 (by decide) rfl (by show 39 < 120; decide)
      have s39 := Rega.eval_of q39
      go_simp
      exact hK _ α _ (fun _ _ => rfl) rfl (step_same (st9) hL hcl rfl rfl hG)
    · intro L9 α a9 u9 K9 hL hcl hA hG hS h0 hK
      replace hL : L9 3 = false := hL
      have q40 : a9.tmps[40]? = some (.pointer (some ⟨ib, 0, none⟩)) := hS 2 40 (by decide) rfl (by show 40 < 120; decide)
      have s40 := Rega.eval_of q40
      have q39 : a9.tmps[39]? = some (.bool true) := hS 1 39 (by decide) rfl (by show 39 < 120; decide)
      have s39 := Rega.eval_of q39
      go_simp
      exact hK _ α _ (fun _ _ => rfl) rfl (step_same (st9) hL hcl rfl rfl hG)
    · intro L9 α a9 u9 K9 hL hcl hA hG hS h0 hK
      replace hL : L9 4 = false := hL
      have q41 : a9.tmps[41]? = some (.pointer (some ⟨ib, 0, none⟩)) := hS 3 41 (by decide) rfl (by show 41 < 120; decide)
      have s41 := Rega.eval_of q41
      have q39 : a9.tmps[39]? = some (.bool true) := hS 1 39 (by decide) rfl (by show 39 < 120; decide)
      have s39 := Rega.eval_of q39
      go_simp
      exact hK _ α _ (fun _ _ => rfl) rfl (step_same (st9) hL hcl rfl rfl hG)
    · intro L9 α a9 u9 K9 hL hcl hA hG hS h0 hK
      replace hL : L9 5 = false := hL
      have q42 : a9.tmps[42]? = some (.pointer (some ⟨ib, 0, none⟩)) := hS 4 42 (by decide) rfl (by show 42 < 120; decide)
      have s42 := Rega.eval_of q42
      have q39 : a9.tmps[39]? = some (.bool true) := hS 1 39 (by decide) rfl (by show 39 < 120; decide)
      have s39 := Rega.eval_of q39
      have c0 : u9.cell? ⟨ib, 0, none⟩ = some (.int .u32 src) := Base.RowAt.cell (show Base.RowAt u9 ib 58 (idC src j) from (hG.frame _ _ hi).2.1) rfl
      have c1 : u9.cell? ⟨ib, 1, none⟩ = some (.int .u32 j) := Base.RowAt.cell (show Base.RowAt u9 ib 58 (idC src j) from (hG.frame _ _ hi).2.1) rfl
      go_simp
      exact hK _ α _ (fun _ _ => rfl) rfl (step_same (st9) hL hcl rfl rfl hG)
    · intro L9 α a9 u9 K9 hL hcl hA hG hS h0 hK
      replace hL : L9 6 = false := hL
      have q3 : a9.tmps[3]? = some (.pointer (some ⟨B1_1, 0, none⟩)) := (h0 3 (by kernel_rfl)).trans rfl
      have s3 := Rega.eval_of q3
      have q39 : a9.tmps[39]? = some (.bool true) := hS 1 39 (by decide) rfl (by show 39 < 120; decide)
      have s39 := Rega.eval_of q39
      have e0 : R9 L9 α 3999 = row (B1_1) 27 #[.int .u32 src, .int .u32 inn] := rfl
      have hr := hG.rowAt 3999 (act_base 3999 rfl) e0
      have c0 : u9.cell? ⟨B1_1, 0, none⟩ = some (.int .u32 src) := hr.cell rfl
      have c1 : u9.cell? ⟨B1_1, 1, none⟩ = some (.int .u32 inn) := hr.cell rfl
      clear hr e0
      go_simp
      exact hK _ α _ (fun _ _ => rfl) rfl (step_same (st9) hL hcl rfl rfl hG)
    · intro L9 α a9 u9 K9 hL hcl hA hG hS h0 hK
      replace hL : L9 7 = false := hL
      have q43 : a9.tmps[43]? = some (.agg #[.int .u32 src, .int .u32 j]) := hS 5 43 (by decide) rfl (by show 43 < 120; decide)
      have s43 := Rega.eval_of q43
      have q44 : a9.tmps[44]? = some (.agg #[.int .u32 src, .int .u32 inn]) := hS 6 44 (by decide) rfl (by show 44 < 120; decide)
      have s44 := Rega.eval_of q44
      have q39 : a9.tmps[39]? = some (.bool true) := hS 1 39 (by decide) rfl (by show 39 < 120; decide)
      have s39 := Rega.eval_of q39
      go_simp
      exact hK _ α _ (fun _ _ => rfl) rfl (step_same (st9) hL hcl rfl rfl hG)
    · intro L9 α a9 u9 K9 hL hcl hA hG hS h0 hK
      replace hL : L9 8 = false := hL
      have q39 : a9.tmps[39]? = some (.bool true) := hS 1 39 (by decide) rfl (by show 39 < 120; decide)
      have s39 := Rega.eval_of q39
      have q45 : a9.tmps[45]? = some (.bool false) := hS 7 45 (by decide) rfl (by show 45 < 120; decide)
      have s45 := Rega.eval_of q45
      go_simp
      exact hK _ α _ (fun _ _ => rfl) rfl (step_same (st9) hL hcl rfl rfl hG)
  clear st9
  intro α u hG
  have e0 : R9 (fun k => decide (k < 9)) α 999 = row (B1_4) 35 #[.nilIface, .int .i32 0] := rfl
  have e1 : R9 (fun k => decide (k < 9)) α 1999 = row (B1_3) 33 #[.int .i32 0] := rfl
  have e2 : R9 (fun k => decide (k < 9)) α 2999 = row (B1_2) 35 #[.nilIface, .int .i32 0] := rfl
  have e3 : R9 (fun k => decide (k < 9)) α 3999 = row (B1_1) 27 #[.int .u32 src, .int .u32 inn] := rfl
  have e4 : R9 (fun k => decide (k < 9)) α 4999 = row (B1) 35 #[.iface 36 (.pointer (some ⟨cb, 0, none⟩)), .int .i32 x] := rfl
  have hO : Own w0 u [row (B1_4) 35 #[.nilIface, .int .i32 0], row (B1_3) 33 #[.int .i32 0], row (B1_2) 35 #[.nilIface, .int .i32 0], row (B1_1) 27 #[.int .u32 src, .int .u32 inn], row (B1) 35 #[.iface 36 (.pointer (some ⟨cb, 0, none⟩)), .int .i32 x]] X := (hG.list [999, 1999, 2999, 3999, 4999] (by decide) (act_all (by decide))).conv (by
    show [R9 (fun k => decide (k < 9)) α 999, R9 (fun k => decide (k < 9)) α 1999, R9 (fun k => decide (k < 9)) α 2999, R9 (fun k => decide (k < 9)) α 3999, R9 (fun k => decide (k < 9)) α 4999] = _
    rw [e0, e1, e2, e3, e4])
  clear hG e0 e1 e2 e3 e4 R9
  generalize hfr : Rega.frameAt _ _ _ _ _ = fr
  have hdf : fr = ⟨#[.agg #[.iface 36 (.pointer (some ⟨cb, 0, none⟩)), .int .i32 x], .agg #[.int .u32 src, .int .u32 inn], .pointer (some ⟨B1, 0, none⟩), .pointer (some ⟨B1_1, 0, none⟩), .pointer (some ⟨B1_2, 0, none⟩), .pointer (some ⟨B1_3, 0, none⟩), .pointer none, .pointer (some ⟨B1_4, 0, none⟩), .pointer (some ⟨cb, 0, none⟩), .bool true, .pointer (some ⟨ib, 0, none⟩), .bool true, undef, undef, undef, undef, undef, undef, undef, undef, undef, undef, .tuple #[.pointer (some ⟨cb, 0, none⟩), .bool true], .pointer (some ⟨B1, 0, none⟩), .iface 36 (.pointer (some ⟨cb, 0, none⟩)), .tuple #[.pointer (some ⟨cb, 0, none⟩), .bool true], .pointer (some ⟨cb, 0, none⟩), .bool true, .bool true, .tuple #[.pointer (some ⟨ib, 0, none⟩), .bool true], .pointer (some ⟨cb, 0, none⟩), .pointer (some ⟨cb, 0, none⟩), .pointer (some ⟨cb, 0, none⟩), .pointer (some ⟨cb, 0, none⟩), .iface 56 (.pointer (some ⟨ib, 0, none⟩)), .tuple #[.pointer (some ⟨ib, 0, none⟩), .bool true], .pointer (some ⟨ib, 0, none⟩), .bool true, .bool true, .bool true, .pointer (some ⟨ib, 0, none⟩), .pointer (some ⟨ib, 0, none⟩), .pointer (some ⟨ib, 0, none⟩), .agg #[.int .u32 src, .int .u32 j], .agg #[.int .u32 src, .int .u32 inn], .bool false, .bool false, undef, undef, undef, undef, undef, undef, undef, undef, undef, undef, undef, undef, undef, undef, undef, undef, undef, undef, undef, undef, undef, undef, undef, undef, undef, undef, undef, undef, undef, undef, undef, undef, undef, undef, undef, undef, undef, undef, undef, undef, undef, undef, undef, undef, undef, undef, undef, undef, undef, undef, undef, undef, undef, undef, undef, undef, undef, undef, undef, undef, undef, undef, undef, undef, undef, undef, undef, undef, undef, undef, undef, undef, undef], []⟩ := by rw [← hfr]; kernel_rfl
  clear hfr
  subst hdf
  clear α
  obtain ⟨ix9, hix9, hax9, hjx9⟩ := hO.ix
  have ix9_0 : ix9 B1_4 = 0 := hjx9 0 _ _ rfl
  have ix9_1 : ix9 B1_3 = 1 := hjx9 1 _ _ rfl
  have ix9_2 : ix9 B1_2 = 2 := hjx9 2 _ _ rfl
  have ix9_3 : ix9 B1_1 = 3 := hjx9 3 _ _ rfl
  have ix9_4 : ix9 B1 = 4 := hjx9 4 _ _ rfl
  clear hjx9
  obtain ⟨c9_0_0, c9_0_1, lt9_0, y9_0, pl9_0⟩ := hO.k2 0 rfl
  obtain ⟨c9_1_0, lt9_1, y9_1, -⟩ := hO.k1 1 rfl
  obtain ⟨c9_2_0, c9_2_1, lt9_2, y9_2, pl9_2⟩ := hO.k2 2 rfl
  obtain ⟨c9_3_0, c9_3_1, lt9_3, y9_3, -⟩ := hO.k2 3 rfl
  obtain ⟨c9_4_0, c9_4_1, lt9_4, y9_4, pl9_4⟩ := hO.k2 4 rfl
  have HO := Lib.hid hO
  clear hO
  have fx0_0 : u.cell? ⟨cb, 0, none⟩ = some (.iface 56 (.pointer (some ⟨ib, 0, none⟩))) := HO.out.fcell hc 0 rfl
  have fx0_1 : u.cell? ⟨cb, 1, none⟩ = some (.int .i32 y) := HO.out.fcell hc 1 rfl
  have fx0_2 : u.cell? ⟨cb, 2, none⟩ = some (.slice none 0 0) := HO.out.fcell hc 2 rfl
  have fx0_3 : u.cell? ⟨cb, 3, none⟩ = some (.int .i32 0) := HO.out.fcell hc 3 rfl
  have fx0_4 : u.cell? ⟨cb, 4, none⟩ = some (.int .u8 0) := HO.out.fcell hc 4 rfl
  have fx0_5 : u.cell? ⟨cb, 5, none⟩ = some (.int .u8 0) := HO.out.fcell hc 5 rfl
  have fx0_6 : u.cell? ⟨cb, 6, none⟩ = some (.bool false) := HO.out.fcell hc 6 rfl
  have fx0_7 : u.cell? ⟨cb, 7, none⟩ = some (.bool false) := HO.out.fcell hc 7 rfl
  have fx1_0 : u.cell? ⟨ib, 0, none⟩ = some (.int .u32 src) := HO.out.fcell hi 0 rfl
  have fx1_1 : u.cell? ⟨ib, 1, none⟩ = some (.int .u32 j) := HO.out.fcell hi 1 rfl
  have fx1_2 : u.cell? ⟨ib, 2, none⟩ = some (.bool false) := HO.out.fcell hi 2 rfl
  have fx1_3 : u.cell? ⟨ib, 3, none⟩ = some (.bool false) := HO.out.fcell hi 3 rfl
  have fx1_4 : u.cell? ⟨ib, 4, none⟩ = some (.bool false) := HO.out.fcell hi 4 rfl
  go_wp2_with (first | (with_reducible refine Own.stay (fn := Try.f17) ?_) | fail)
  try with_reducible refine Own.Stay.mk ?_
  have hO := HO.out
  clear HO hix9 hax9 ix9_0 ix9_1 ix9_2 ix9_3 ix9_4 ix9 fx0_0 fx0_1 fx0_2 fx0_3 fx0_4 fx0_5 fx0_6 fx0_7 fx1_0 fx1_1 fx1_2 fx1_3 fx1_4 c9_0_0 c9_0_1 lt9_0 y9_0 pl9_0 c9_1_0 lt9_1 y9_1 c9_2_0 c9_2_1 lt9_2 y9_2 pl9_2 c9_3_0 c9_3_1 lt9_3 y9_3 c9_4_0 c9_4_1 lt9_4 y9_4 pl9_4
  generalize hW : World.setCell _ _ _ = W4
  have hN : Own w0 W4 [row (B1_4) 35 #[.nilIface, .int .i32 0], row (B1_3) 33 #[.int .i32 0], row (B1_2) 35 #[.nilIface, .int .i32 0], row (B1_1) 27 #[.int .u32 src, .int .u32 inn], row (B1) 35 #[.iface 36 (.pointer (some ⟨cb, 0, none⟩)), .int .i32 x]] X := by
    rw [← hW]
    exact (((((hO).set 2 rfl 0 _).set 2 rfl 1 _).set 1 rfl 0 _).set 0 rfl 0 _).set 0 rfl 1 _
  clear hW hO
  have hO := hN
  clear hN
  have z9_2_0 : W4.cell? ⟨B1_2, 0, none⟩ = some (.nilIface) := hO.cell 2 rfl 0 rfl
  have z9_2_1 : W4.cell? ⟨B1_2, 1, none⟩ = some (.int .i32 0) := hO.cell 2 rfl 1 rfl
  have z9_1_0 : W4.cell? ⟨B1_3, 0, none⟩ = some (.int .i32 0) := hO.cell 1 rfl 0 rfl
  have z9_0_0 : W4.cell? ⟨B1_4, 0, none⟩ = some (.nilIface) := hO.cell 0 rfl 0 rfl
  have z9_0_1 : W4.cell? ⟨B1_4, 1, none⟩ = some (.int .i32 0) := hO.cell 0 rfl 1 rfl
  refine bodyPost_ret (v := .tuple #[.agg #[.nilIface, .int .i32 0], .agg #[.int .i32 0], .pointer none, .agg #[.nilIface, .int .i32 0]]) ?_ rfl ⟨rfl, hO.sub [] (by decide)⟩
  simp [results, Try.results17, go_sem, z9_2_0, z9_2_1, z9_1_0, z9_0_0, z9_0_1]
end Go.Proofs.Ytdbnnpoffpipjaa.Use
