/- The search at a leaf that is found. No condition. -/
import Derived.Test.YtdbnnpoffpipjaaJn
import Derived.Test.YtdbnnpoffpipjaaTre
import Derived.Test.YtdbnnpoffpipjaaLoop
import Derived.Test.YtdbnnpoffpipjaaAppL
import Derived.Test.YtdbnnpoffpipjaaApp
import Derived.Test.YtdbnnpoffpipjaaOwnK
import Derived.Test.YtdbnnpoffpipjaaOwn
import Derived.Test.YtdbnnpoffpipjaaDeepCells
import Derived.Test.YtdbnnpoffpipjaaRows
namespace Go.Proofs.Ytdbnnpoffpipjaa.Use
open Go.ChangeShapes Go.WideShapes Go.ChangeAt Go.RowKit Go.Sort Own
set_option linter.unusedVariables false
def rFF11E (cb : Nat) (ib : Nat) (y : Int) (x : Int) (src : Int) (inn : Int) (B1_4 : Nat) (B1_3 : Nat) (B1_2 : Nat) (B1_1 : Nat) (B1 : Nat) : Nat → Rega.Atoms → Value
  | 0, α => .bool true
  | 1, α => .bool true
  | 2, α => .pointer (some ⟨ib, 0, none⟩)
  | 3, α => .pointer (some ⟨ib, 0, none⟩)
  | 4, α => .pointer (some ⟨ib, 0, none⟩)
  | 5, α => .agg #[.int .u32 src, .int .u32 inn]
  | 6, α => .agg #[.int .u32 src, .int .u32 inn]
  | 7, α => .bool true
  | 8, α => .bool true
  | _, _ => undef
def rFF11Anc : Nat → List Nat
  | 1 => [0]
  | 2 => [0, 1]
  | 3 => [0, 1, 2]
  | 4 => [0, 1, 2, 3]
  | 5 => [0, 1, 2, 3, 4]
  | 6 => [0, 1]
  | 7 => [0, 1, 2, 3, 4, 5, 6]
  | 8 => [0, 1, 2, 3, 4, 5, 6, 7]
  | _ => []
def rFF11Trn : Nat → List Nat
  | _ => []
def rFF11Cnt : List (Nat × Nat) := []
def rFF11R (cb : Nat) (ib : Nat) (y : Int) (x : Int) (src : Int) (inn : Int) (B1_4 : Nat) (B1_3 : Nat) (B1_2 : Nat) (B1_1 : Nat) (B1 : Nat) (L9 : Nat → Bool) (α : Rega.Atoms) (ix9 : Nat) : Rw := if ix9 = 999 then row (B1_4) 35 #[.nilIface, .int .i32 0] else if ix9 = 1999 then row (B1_3) 33 #[.int .i32 0] else if ix9 = 2999 then row (B1_2) 35 #[.nilIface, .int .i32 0] else if ix9 = 3999 then row (B1_1) 27 #[.int .u32 src, .int .u32 inn] else if ix9 = 4999 then row (B1) 35 #[.iface 36 (.pointer (some ⟨cb, 0, none⟩)), .int .i32 x] else if ix9 = 5999 then row (cb) 46 #[.iface 56 (.pointer (some ⟨ib, 0, none⟩)), .int .i32 y, .slice none 0 0, .int .i32 0, .int .u8 0, .int .u8 0, .bool false, .bool false] else (0, .map #[] 0)
theorem rFF11_he (cb : Nat) (ib : Nat) (y : Int) (x : Int) (src : Int) (inn : Int) (B1_4 : Nat) (B1_3 : Nat) (B1_2 : Nat) (B1_1 : Nat) (B1 : Nat) : ∀ kk α α', (∀ j, (j % 1000 = kk ∨ j % 1000 ∈ rFF11Anc kk) → α j = α' j) → rFF11E cb ib y x src inn B1_4 B1_3 B1_2 B1_1 B1 kk α = rFF11E cb ib y x src inn B1_4 B1_3 B1_2 B1_1 B1 kk α' := by
  intro kk α α' h
  match kk with
  | 0 => rfl
  | 1 => rfl
  | 2 => rfl
  | 3 => rfl
  | 4 => rfl
  | 5 => rfl
  | 6 => rfl
  | 7 => rfl
  | 8 => rfl
  | n + 9 => rfl
theorem rFF11_st (cb : Nat) (ib : Nat) (y : Int) (x : Int) (src : Int) (inn : Int) (B1_4 : Nat) (B1_3 : Nat) (B1_2 : Nat) (B1_1 : Nat) (B1 : Nat) : Stable rFF11Cnt 6 rFF11Anc rFF11Trn (rFF11R cb ib y x src inn B1_4 B1_3 B1_2 B1_1 B1) := by
  intro k9 L9 α α' ix9 hk hcl hα hact ht
  have hp := act_places hact
  replace hp : ix9 ∈ [999, 1999, 2999, 3999, 4999, 5999] := hp
  simp only [List.mem_cons, List.not_mem_nil, or_false] at hp
  rcases hp with rfl | rfl | rfl | rfl | rfl | rfl
  · rfl
  · rfl
  · rfl
  · rfl
  · rfl
  · rfl
def rFF12E (cb : Nat) (y : Int) (x : Int) (src : Int) (inn : Int) (B1_4 : Nat) (B1_3 : Nat) (B1_2 : Nat) (B1_1 : Nat) (B1 : Nat) (B3 : Nat) : Nat → Rega.Atoms → Value
  | 0, α => .agg #[.nilIface, .int .i32 0]
  | 1, α => .pointer (some ⟨B1, 1, none⟩)
  | 2, α => .agg #[.int .i32 x]
  | 3, α => .pointer (some ⟨cb, 0, none⟩)
  | 4, α => .agg #[.nilIface, .int .i32 0]
  | 5, α => undef
  | 6, α => undef
  | 7, α => .pointer (some ⟨cb, 0, none⟩)
  | 8, α => undef
  | _, _ => undef
def rFF12Anc : Nat → List Nat
  | 2 => [1]
  | 5 => [0]
  | 6 => [0, 1, 2, 5]
  | 7 => [0, 1, 2, 3, 5, 6]
  | 8 => [0, 1, 2, 3, 4, 5, 6, 7]
  | _ => []
def rFF12Trn : Nat → List Nat
  | 5 => [3999]
  | 6 => [2999]
  | 8 => [1999]
  | _ => []
def rFF12Cnt : List (Nat × Nat) := []
def rFF12T1999 (cb : Nat) (y : Int) (x : Int) (src : Int) (inn : Int) (B1_4 : Nat) (B1_3 : Nat) (B1_2 : Nat) (B1_1 : Nat) (B1 : Nat) (B3 : Nat) (L9 : Nat → Bool) (α : Rega.Atoms) : Rw := if L9 8 = true then row (B1_4) 35 #[.nilIface, .int .i32 0] else row (B1_4) 35 #[.nilIface, .int .i32 0]
def rFF12T2999 (cb : Nat) (y : Int) (x : Int) (src : Int) (inn : Int) (B1_4 : Nat) (B1_3 : Nat) (B1_2 : Nat) (B1_1 : Nat) (B1 : Nat) (B3 : Nat) (L9 : Nat → Bool) (α : Rega.Atoms) : Rw := if L9 6 = true then row (B1_3) 33 #[.int .i32 x] else row (B1_3) 33 #[.int .i32 0]
def rFF12T3999 (cb : Nat) (y : Int) (x : Int) (src : Int) (inn : Int) (B1_4 : Nat) (B1_3 : Nat) (B1_2 : Nat) (B1_1 : Nat) (B1 : Nat) (B3 : Nat) (L9 : Nat → Bool) (α : Rega.Atoms) : Rw := if L9 5 = true then row (B1_2) 35 #[.nilIface, .int .i32 0] else row (B1_2) 35 #[.nilIface, .int .i32 0]
def rFF12R (cb : Nat) (y : Int) (x : Int) (src : Int) (inn : Int) (B1_4 : Nat) (B1_3 : Nat) (B1_2 : Nat) (B1_1 : Nat) (B1 : Nat) (B3 : Nat) (L9 : Nat → Bool) (α : Rega.Atoms) (ix9 : Nat) : Rw := if ix9 = 999 then row (B3) 76 #[] else if ix9 = 1999 then rFF12T1999 cb y x src inn B1_4 B1_3 B1_2 B1_1 B1 B3 L9 α else if ix9 = 2999 then rFF12T2999 cb y x src inn B1_4 B1_3 B1_2 B1_1 B1 B3 L9 α else if ix9 = 3999 then rFF12T3999 cb y x src inn B1_4 B1_3 B1_2 B1_1 B1 B3 L9 α else if ix9 = 4999 then row (B1_1) 27 #[.int .u32 src, .int .u32 inn] else if ix9 = 5999 then row (B1) 35 #[.iface 36 (.pointer (some ⟨cb, 0, none⟩)), .int .i32 x] else if ix9 = 6999 then row (cb) 46 #[.iface 67 (.pointer (some ⟨B3, 0, none⟩)), .int .i32 y, .slice none 0 0, .int .i32 0, .int .u8 0, .int .u8 0, .bool false, .bool false] else (0, .map #[] 0)
theorem rFF12_he (cb : Nat) (y : Int) (x : Int) (src : Int) (inn : Int) (B1_4 : Nat) (B1_3 : Nat) (B1_2 : Nat) (B1_1 : Nat) (B1 : Nat) (B3 : Nat) : ∀ kk α α', (∀ j, (j % 1000 = kk ∨ j % 1000 ∈ rFF12Anc kk) → α j = α' j) → rFF12E cb y x src inn B1_4 B1_3 B1_2 B1_1 B1 B3 kk α = rFF12E cb y x src inn B1_4 B1_3 B1_2 B1_1 B1 B3 kk α' := by
  intro kk α α' h
  match kk with
  | 0 => rfl
  | 1 => rfl
  | 2 => rfl
  | 3 => rfl
  | 4 => rfl
  | 5 => rfl
  | 6 => rfl
  | 7 => rfl
  | 8 => rfl
  | n + 9 => rfl
theorem rFF12_st (cb : Nat) (y : Int) (x : Int) (src : Int) (inn : Int) (B1_4 : Nat) (B1_3 : Nat) (B1_2 : Nat) (B1_1 : Nat) (B1 : Nat) (B3 : Nat) : Stable rFF12Cnt 7 rFF12Anc rFF12Trn (rFF12R cb y x src inn B1_4 B1_3 B1_2 B1_1 B1 B3) := by
  intro k9 L9 α α' ix9 hk hcl hα hact ht
  have hp := act_places hact
  replace hp : ix9 ∈ [999, 1999, 2999, 3999, 4999, 5999, 6999] := hp
  simp only [List.mem_cons, List.not_mem_nil, or_false] at hp
  rcases hp with rfl | rfl | rfl | rfl | rfl | rfl | rfl
  · rfl
  · show rFF12T1999 cb y x src inn B1_4 B1_3 B1_2 B1_1 B1 B3 (Rega.ran L9 k9) α' = rFF12T1999 cb y x src inn B1_4 B1_3 B1_2 B1_1 B1 B3 L9 α
    unfold rFF12T1999
    have n8 : 8 ≠ k9 := fun e => ht (by rw [← e]; decide)
    rw [ran_ne n8]
  · show rFF12T2999 cb y x src inn B1_4 B1_3 B1_2 B1_1 B1 B3 (Rega.ran L9 k9) α' = rFF12T2999 cb y x src inn B1_4 B1_3 B1_2 B1_1 B1 B3 L9 α
    unfold rFF12T2999
    have n6 : 6 ≠ k9 := fun e => ht (by rw [← e]; decide)
    rw [ran_ne n6]
  · show rFF12T3999 cb y x src inn B1_4 B1_3 B1_2 B1_1 B1 B3 (Rega.ran L9 k9) α' = rFF12T3999 cb y x src inn B1_4 B1_3 B1_2 B1_1 B1 B3 L9 α
    unfold rFF12T3999
    have n5 : 5 ≠ k9 := fun e => ht (by rw [← e]; decide)
    rw [ran_ne n5]
  · rfl
  · rfl
  · rfl
def findF1Post (cb ib : Nat) (y x src inn : Int) (w0 : World) (X : Nat → Obj → Prop) (e : Ending) (w' : World) : Prop :=
  ∃ es : Nat, e = .returned (.tuple #[.agg #[.nilIface, .int .i32 0], .agg #[.int .i32 x], .pointer (some ⟨cb, 0, none⟩), .agg #[.nilIface, .int .i32 0]]) ∧ Own w0 w' [row (cb) 46 #[.iface 67 (.pointer (some ⟨es, 0, none⟩)), .int .i32 y, .slice none 0 0, .int .i32 0, .int .u8 0, .int .u8 0, .bool false, .bool false]] X
set_option maxRecDepth 100000 in
set_option maxHeartbeats 1000000 in
theorem findF1 (cb ib : Nat) (y x src inn : Int) (w0 w : World) (X : Nat → Obj → Prop) (hO : Own w0 w [row (cb) 46 #[.iface 56 (.pointer (some ⟨ib, 0, none⟩)), .int .i32 y, .slice none 0 0, .int .i32 0, .int .u8 0, .int .u8 0, .bool false, .bool false]] X) (hi : X ib (.cells (idC src inn) 58 (0, 0))) :
    Calls Try.prog 17 #[.agg #[.iface 36 (.pointer (some ⟨cb, 0, none⟩)), .int .i32 x], .agg #[.int .u32 src, .int .u32 inn]] w (findF1Post cb ib y x src inn w0 X) := by
  go_enter Try.func17, Try.ntmps17
  obtain ⟨c9_0_0, c9_0_1, c9_0_2, c9_0_3, c9_0_4, c9_0_5, c9_0_6, c9_0_7, lt9_0, y9_0, -⟩ := hO.k8 0 rfl
  have HO := Lib.hid hO
  clear hO
  have fx0_0 : w.cell? ⟨ib, 0, none⟩ = some (.int .u32 src) := HO.out.fcell hi 0 rfl
  have fx0_1 : w.cell? ⟨ib, 1, none⟩ = some (.int .u32 inn) := HO.out.fcell hi 1 rfl
  have fx0_2 : w.cell? ⟨ib, 2, none⟩ = some (.bool false) := HO.out.fcell hi 2 rfl
  have fx0_3 : w.cell? ⟨ib, 3, none⟩ = some (.bool false) := HO.out.fcell hi 3 rfl
  have fx0_4 : w.cell? ⟨ib, 4, none⟩ = some (.bool false) := HO.out.fcell hi 4 rfl
  go_wp2_with (first | (with_reducible refine Own.stay (fn := Try.f17) ?_) | fail)
  try with_reducible refine Own.Stay.mk ?_
  have hO := HO.out
  clear HO fx0_0 fx0_1 fx0_2 fx0_3 fx0_4 c9_0_0 c9_0_1 c9_0_2 c9_0_3 c9_0_4 c9_0_5 c9_0_6 c9_0_7 lt9_0 y9_0
  generalize hW : World.alloc _ _ = W2
  have hN : Own w0 W2 [row (w.heap.size + 1 + 1 + 1 + 1) 35 #[.nilIface, .int .i32 0], row (w.heap.size + 1 + 1 + 1) 33 #[.int .i32 0], row (w.heap.size + 1 + 1) 35 #[.nilIface, .int .i32 0], row (w.heap.size + 1) 27 #[.int .u32 src, .int .u32 inn], row (w.heap.size) 35 #[.iface 36 (.pointer (some ⟨cb, 0, none⟩)), .int .i32 x], row (cb) 46 #[.iface 56 (.pointer (some ⟨ib, 0, none⟩)), .int .i32 y, .slice none 0 0, .int .i32 0, .int .u8 0, .int .u8 0, .bool false, .bool false]] X := by
    rw [← hW]
    exact (((((hO).alloc' _ (w.heap.size) (by simp)).alloc' _ (w.heap.size + 1) (by simp)).alloc' _ (w.heap.size + 1 + 1) (by simp)).alloc' _ (w.heap.size + 1 + 1 + 1) (by simp)).alloc' _ (w.heap.size + 1 + 1 + 1 + 1) (by simp)
  clear hW hO
  generalize w.heap.size + 1 + 1 + 1 + 1 = B1_4 at hN ⊢
  generalize w.heap.size + 1 + 1 + 1 = B1_3 at hN ⊢
  generalize w.heap.size + 1 + 1 = B1_2 at hN ⊢
  generalize w.heap.size + 1 = B1_1 at hN ⊢
  generalize w.heap.size = B1 at hN ⊢
  have hO := hN
  clear hN
  have st9 := rFF11_st cb ib y x src inn B1_4 B1_3 B1_2 B1_1 B1
  let R9 := rFF11R cb ib y x src inn B1_4 B1_3 B1_2 B1_1 B1
  refine wp_region_own (e := rFF11E cb ib y x src inn B1_4 B1_3 B1_2 B1_1 B1) (anc := rFF11Anc) (G := (fun L9 α u9 => OwnF w0 u9 (act rFF11Cnt 6 L9) (rFF11R cb ib y x src inn B1_4 B1_3 B1_2 B1_1 B1 L9 α) X)) (by kernel_rfl) (by kernel_rfl) (by kernel_rfl) (by kernel_rfl) (rFF11_he cb ib y x src inn B1_4 B1_3 B1_2 B1_1 B1) ?_ (RunsAll.all ?_) ?_
  · have hp : ∀ i, act rFF11Cnt 6 (fun _ => false) i → i ∈ [999, 1999, 2999, 3999, 4999, 5999] := by
      intro i hi
      have h9 : i % 1000 = 999 := by
        by_cases h : i % 1000 = 999
        · exact h
        · exact absurd (act_lt hi h) (by simp)
      unfold act at hi
      rw [if_pos h9] at hi
      simp only [List.mem_cons, List.not_mem_nil, or_false]
      omega
    refine hO.drew.family (fun i hi => ?_) (fun i j hi hj hij => ?_)
    · have := hp i hi
      simp only [List.mem_cons, List.not_mem_nil, or_false] at this
      rcases this with rfl | rfl | rfl | rfl | rfl | rfl <;> rfl
    · have h1 := hp i hi
      have h2 := hp j hj
      simp only [List.mem_cons, List.not_mem_nil, or_false] at h1 h2
      omega
  · refine ⟨?_, ?_, ?_, ?_, ?_, ?_, ?_, ?_, ?_, trivial⟩
    · intro L9 α a9 u9 K9 hL hcl hA hG hS h0 hK
      replace hL : L9 0 = false := hL
      have q11 : a9.tmps[11]? = some (.bool true) := (h0 11 (by kernel_rfl)).trans rfl
      have s11 := Rega.eval_of q11
      go_simp
      exact hK _ α _ (fun _ _ => rfl) rfl (step_same (st9) hL hcl rfl rfl hG)
    · intro L9 α a9 u9 K9 hL hcl hA hG hS h0 hK
      replace hL : L9 1 = false := hL
      have q38 : a9.tmps[38]? = some (.bool true) := hS 0 38 (by decide) rfl (by show 38 < 120; decide)
      have s38 := Rega.eval_of q38
      go_simp
      exact hK _ α _ (fun _ _ => rfl) rfl (step_same (st9) hL hcl rfl rfl hG)
    · intro L9 α a9 u9 K9 hL hcl hA hG hS h0 hK
      replace hL : L9 2 = false := hL
      have q10 : a9.tmps[10]? = some (.pointer (some ⟨ib, 0, none⟩)) := (h0 10 (by kernel_rfl)).trans rfl
      have s10 := Rega.eval_of q10
      have q39 : a9.tmps[39]? = some (.bool true) := hS 1 39 (by decide) rfl (by show 39 < 120; decide)
      have s39 := Rega.eval_of q39
      go_simp
      exact hK _ α _ (fun _ _ => rfl) rfl (step_same (st9) hL hcl rfl rfl hG)
    · intro L9 α a9 u9 K9 hL hcl hA hG hS h0 hK
      replace hL : L9 3 = false := hL
      have q40 : a9.tmps[40]? = some (.pointer (some ⟨ib, 0, none⟩)) := hS 2 40 (by decide) rfl (by show 40 < 120; decide)
      have s40 := Rega.eval_of q40
      have q39 : a9.tmps[39]? = some (.bool true) := hS 1 39 (by decide) rfl (by show 39 < 120; decide)
      have s39 := Rega.eval_of q39
      go_simp
      exact hK _ α _ (fun _ _ => rfl) rfl (step_same (st9) hL hcl rfl rfl hG)
    · intro L9 α a9 u9 K9 hL hcl hA hG hS h0 hK
      replace hL : L9 4 = false := hL
      have q41 : a9.tmps[41]? = some (.pointer (some ⟨ib, 0, none⟩)) := hS 3 41 (by decide) rfl (by show 41 < 120; decide)
      have s41 := Rega.eval_of q41
      have q39 : a9.tmps[39]? = some (.bool true) := hS 1 39 (by decide) rfl (by show 39 < 120; decide)
      have s39 := Rega.eval_of q39
      go_simp
      exact hK _ α _ (fun _ _ => rfl) rfl (step_same (st9) hL hcl rfl rfl hG)
    · intro L9 α a9 u9 K9 hL hcl hA hG hS h0 hK
      replace hL : L9 5 = false := hL
      have q42 : a9.tmps[42]? = some (.pointer (some ⟨ib, 0, none⟩)) := hS 4 42 (by decide) rfl (by show 42 < 120; decide)
      have s42 := Rega.eval_of q42
      have q39 : a9.tmps[39]? = some (.bool true) := hS 1 39 (by decide) rfl (by show 39 < 120; decide)
      have s39 := Rega.eval_of q39
      have c0 : u9.cell? ⟨ib, 0, none⟩ = some (.int .u32 src) := Base.RowAt.cell (show Base.RowAt u9 ib 58 (idC src inn) from (hG.frame _ _ hi).2.1) rfl
      have c1 : u9.cell? ⟨ib, 1, none⟩ = some (.int .u32 inn) := Base.RowAt.cell (show Base.RowAt u9 ib 58 (idC src inn) from (hG.frame _ _ hi).2.1) rfl
      go_simp
      exact hK _ α _ (fun _ _ => rfl) rfl (step_same (st9) hL hcl rfl rfl hG)
    · intro L9 α a9 u9 K9 hL hcl hA hG hS h0 hK
      replace hL : L9 6 = false := hL
      have q3 : a9.tmps[3]? = some (.pointer (some ⟨B1_1, 0, none⟩)) := (h0 3 (by kernel_rfl)).trans rfl
      have s3 := Rega.eval_of q3
      have q39 : a9.tmps[39]? = some (.bool true) := hS 1 39 (by decide) rfl (by show 39 < 120; decide)
      have s39 := Rega.eval_of q39
      have e0 : R9 L9 α 3999 = row (B1_1) 27 #[.int .u32 src, .int .u32 inn] := rfl
      have hr := hG.rowAt 3999 (act_base 3999 rfl) e0
      have c0 : u9.cell? ⟨B1_1, 0, none⟩ = some (.int .u32 src) := hr.cell rfl
      have c1 : u9.cell? ⟨B1_1, 1, none⟩ = some (.int .u32 inn) := hr.cell rfl
      clear hr e0
      go_simp
      exact hK _ α _ (fun _ _ => rfl) rfl (step_same (st9) hL hcl rfl rfl hG)
    · intro L9 α a9 u9 K9 hL hcl hA hG hS h0 hK
      replace hL : L9 7 = false := hL
      have q43 : a9.tmps[43]? = some (.agg #[.int .u32 src, .int .u32 inn]) := hS 5 43 (by decide) rfl (by show 43 < 120; decide)
      have s43 := Rega.eval_of q43
      have q44 : a9.tmps[44]? = some (.agg #[.int .u32 src, .int .u32 inn]) := hS 6 44 (by decide) rfl (by show 44 < 120; decide)
      have s44 := Rega.eval_of q44
      have q39 : a9.tmps[39]? = some (.bool true) := hS 1 39 (by decide) rfl (by show 39 < 120; decide)
      have s39 := Rega.eval_of q39
      go_simp
      exact hK _ α _ (fun _ _ => rfl) rfl (step_same (st9) hL hcl rfl rfl hG)
    · intro L9 α a9 u9 K9 hL hcl hA hG hS h0 hK
      replace hL : L9 8 = false := hL
      have q39 : a9.tmps[39]? = some (.bool true) := hS 1 39 (by decide) rfl (by show 39 < 120; decide)
      have s39 := Rega.eval_of q39
      have q45 : a9.tmps[45]? = some (.bool true) := hS 7 45 (by decide) rfl (by show 45 < 120; decide)
      have s45 := Rega.eval_of q45
      go_simp
      exact hK _ α _ (fun _ _ => rfl) rfl (step_same (st9) hL hcl rfl rfl hG)
  clear st9
  intro α u hG
  have e0 : R9 (fun k => decide (k < 9)) α 999 = row (B1_4) 35 #[.nilIface, .int .i32 0] := rfl
  have e1 : R9 (fun k => decide (k < 9)) α 1999 = row (B1_3) 33 #[.int .i32 0] := rfl
  have e2 : R9 (fun k => decide (k < 9)) α 2999 = row (B1_2) 35 #[.nilIface, .int .i32 0] := rfl
  have e3 : R9 (fun k => decide (k < 9)) α 3999 = row (B1_1) 27 #[.int .u32 src, .int .u32 inn] := rfl
  have e4 : R9 (fun k => decide (k < 9)) α 4999 = row (B1) 35 #[.iface 36 (.pointer (some ⟨cb, 0, none⟩)), .int .i32 x] := rfl
  have e5 : R9 (fun k => decide (k < 9)) α 5999 = row (cb) 46 #[.iface 56 (.pointer (some ⟨ib, 0, none⟩)), .int .i32 y, .slice none 0 0, .int .i32 0, .int .u8 0, .int .u8 0, .bool false, .bool false] := rfl
  have hO : Own w0 u [row (B1_4) 35 #[.nilIface, .int .i32 0], row (B1_3) 33 #[.int .i32 0], row (B1_2) 35 #[.nilIface, .int .i32 0], row (B1_1) 27 #[.int .u32 src, .int .u32 inn], row (B1) 35 #[.iface 36 (.pointer (some ⟨cb, 0, none⟩)), .int .i32 x], row (cb) 46 #[.iface 56 (.pointer (some ⟨ib, 0, none⟩)), .int .i32 y, .slice none 0 0, .int .i32 0, .int .u8 0, .int .u8 0, .bool false, .bool false]] X := (hG.list [999, 1999, 2999, 3999, 4999, 5999] (by decide) (act_all (by decide))).conv (by
    show [R9 (fun k => decide (k < 9)) α 999, R9 (fun k => decide (k < 9)) α 1999, R9 (fun k => decide (k < 9)) α 2999, R9 (fun k => decide (k < 9)) α 3999, R9 (fun k => decide (k < 9)) α 4999, R9 (fun k => decide (k < 9)) α 5999] = _
    rw [e0, e1, e2, e3, e4, e5])
  clear hG e0 e1 e2 e3 e4 e5 R9
  generalize hfr : Rega.frameAt _ _ _ _ _ = fr
  have hdf : fr = ⟨#[.agg #[.iface 36 (.pointer (some ⟨cb, 0, none⟩)), .int .i32 x], .agg #[.int .u32 src, .int .u32 inn], .pointer (some ⟨B1, 0, none⟩), .pointer (some ⟨B1_1, 0, none⟩), .pointer (some ⟨B1_2, 0, none⟩), .pointer (some ⟨B1_3, 0, none⟩), .pointer none, .pointer (some ⟨B1_4, 0, none⟩), .pointer (some ⟨cb, 0, none⟩), .bool true, .pointer (some ⟨ib, 0, none⟩), .bool true, undef, undef, undef, undef, undef, undef, undef, undef, undef, undef, .tuple #[.pointer (some ⟨cb, 0, none⟩), .bool true], .pointer (some ⟨B1, 0, none⟩), .iface 36 (.pointer (some ⟨cb, 0, none⟩)), .tuple #[.pointer (some ⟨cb, 0, none⟩), .bool true], .pointer (some ⟨cb, 0, none⟩), .bool true, .bool true, .tuple #[.pointer (some ⟨ib, 0, none⟩), .bool true], .pointer (some ⟨cb, 0, none⟩), .pointer (some ⟨cb, 0, none⟩), .pointer (some ⟨cb, 0, none⟩), .pointer (some ⟨cb, 0, none⟩), .iface 56 (.pointer (some ⟨ib, 0, none⟩)), .tuple #[.pointer (some ⟨ib, 0, none⟩), .bool true], .pointer (some ⟨ib, 0, none⟩), .bool true, .bool true, .bool true, .pointer (some ⟨ib, 0, none⟩), .pointer (some ⟨ib, 0, none⟩), .pointer (some ⟨ib, 0, none⟩), .agg #[.int .u32 src, .int .u32 inn], .agg #[.int .u32 src, .int .u32 inn], .bool true, .bool true, undef, undef, undef, undef, undef, undef, undef, undef, undef, undef, undef, undef, undef, undef, undef, undef, undef, undef, undef, undef, undef, undef, undef, undef, undef, undef, undef, undef, undef, undef, undef, undef, undef, undef, undef, undef, undef, undef, undef, undef, undef, undef, undef, undef, undef, undef, undef, undef, undef, undef, undef, undef, undef, undef, undef, undef, undef, undef, undef, undef, undef, undef, undef, undef, undef, undef, undef, undef, undef, undef, undef, undef, undef], []⟩ := by rw [← hfr]; kernel_rfl
  clear hfr
  subst hdf
  clear α
  obtain ⟨c9_0_0, c9_0_1, lt9_0, y9_0, -⟩ := hO.k2 0 rfl
  obtain ⟨c9_1_0, lt9_1, y9_1, -⟩ := hO.k1 1 rfl
  obtain ⟨c9_2_0, c9_2_1, lt9_2, y9_2, -⟩ := hO.k2 2 rfl
  obtain ⟨c9_3_0, c9_3_1, lt9_3, y9_3, -⟩ := hO.k2 3 rfl
  obtain ⟨c9_4_0, c9_4_1, lt9_4, y9_4, -⟩ := hO.k2 4 rfl
  obtain ⟨c9_5_0, c9_5_1, c9_5_2, c9_5_3, c9_5_4, c9_5_5, c9_5_6, c9_5_7, lt9_5, y9_5, -⟩ := hO.k8 5 rfl
  have HO := Lib.hid hO
  clear hO
  have fx0_0 : u.cell? ⟨ib, 0, none⟩ = some (.int .u32 src) := HO.out.fcell hi 0 rfl
  have fx0_1 : u.cell? ⟨ib, 1, none⟩ = some (.int .u32 inn) := HO.out.fcell hi 1 rfl
  have fx0_2 : u.cell? ⟨ib, 2, none⟩ = some (.bool false) := HO.out.fcell hi 2 rfl
  have fx0_3 : u.cell? ⟨ib, 3, none⟩ = some (.bool false) := HO.out.fcell hi 3 rfl
  have fx0_4 : u.cell? ⟨ib, 4, none⟩ = some (.bool false) := HO.out.fcell hi 4 rfl
  go_wp2_with (first | (with_reducible refine Own.stay (fn := Try.f17) ?_) | fail)
  try with_reducible refine Own.Stay.mk ?_
  have hO := HO.out
  clear HO fx0_0 fx0_1 fx0_2 fx0_3 fx0_4 c9_0_0 c9_0_1 lt9_0 y9_0 c9_1_0 lt9_1 y9_1 c9_2_0 c9_2_1 lt9_2 y9_2 c9_3_0 c9_3_1 lt9_3 y9_3 c9_4_0 c9_4_1 lt9_4 y9_4 c9_5_0 c9_5_1 c9_5_2 c9_5_3 c9_5_4 c9_5_5 c9_5_6 c9_5_7 lt9_5 y9_5
  generalize hW : World.alloc _ _ = W4
  have hN : Own w0 W4 [row (u.heap.size) 76 #[], row (B1_4) 35 #[.nilIface, .int .i32 0], row (B1_3) 33 #[.int .i32 0], row (B1_2) 35 #[.nilIface, .int .i32 0], row (B1_1) 27 #[.int .u32 src, .int .u32 inn], row (B1) 35 #[.iface 36 (.pointer (some ⟨cb, 0, none⟩)), .int .i32 x], row (cb) 46 #[.iface 67 (.pointer (some ⟨u.heap.size, 0, none⟩)), .int .i32 y, .slice none 0 0, .int .i32 0, .int .u8 0, .int .u8 0, .bool false, .bool false]] X := by
    rw [← hW]
    exact ((hO).set 5 rfl 0 _).alloc' _ (u.heap.size) (by simp)
  clear hW hO
  generalize u.heap.size = B3 at hN ⊢
  have hO := hN
  clear hN
  have st9 := rFF12_st cb y x src inn B1_4 B1_3 B1_2 B1_1 B1 B3
  let R9 := rFF12R cb y x src inn B1_4 B1_3 B1_2 B1_1 B1 B3
  refine wp_region_own (e := rFF12E cb y x src inn B1_4 B1_3 B1_2 B1_1 B1 B3) (anc := rFF12Anc) (G := (fun L9 α u9 => OwnF w0 u9 (act rFF12Cnt 7 L9) (rFF12R cb y x src inn B1_4 B1_3 B1_2 B1_1 B1 B3 L9 α) X)) (by kernel_rfl) (by kernel_rfl) (by kernel_rfl) (by kernel_rfl) (rFF12_he cb y x src inn B1_4 B1_3 B1_2 B1_1 B1 B3) ?_ (RunsAll.all ?_) ?_
  · have hp : ∀ i, act rFF12Cnt 7 (fun _ => false) i → i ∈ [999, 1999, 2999, 3999, 4999, 5999, 6999] := by
      intro i hi
      have h9 : i % 1000 = 999 := by
        by_cases h : i % 1000 = 999
        · exact h
        · exact absurd (act_lt hi h) (by simp)
      unfold act at hi
      rw [if_pos h9] at hi
      simp only [List.mem_cons, List.not_mem_nil, or_false]
      omega
    refine hO.drew.family (fun i hi => ?_) (fun i j hi hj hij => ?_)
    · have := hp i hi
      simp only [List.mem_cons, List.not_mem_nil, or_false] at this
      rcases this with rfl | rfl | rfl | rfl | rfl | rfl | rfl <;> rfl
    · have h1 := hp i hi
      have h2 := hp j hj
      simp only [List.mem_cons, List.not_mem_nil, or_false] at h1 h2
      omega
  · refine ⟨?_, ?_, ?_, ?_, ?_, ?_, ?_, ?_, ?_, trivial⟩
    · intro L9 α a9 u9 K9 hL hcl hA hG hS h0 hK
      replace hL : L9 0 = false := hL
      go_simp
      exact hK _ α _ (fun _ _ => rfl) rfl (step_same (st9) hL hcl rfl rfl hG)
    · intro L9 α a9 u9 K9 hL hcl hA hG hS h0 hK
      replace hL : L9 1 = false := hL
      have q2 : a9.tmps[2]? = some (.pointer (some ⟨B1, 0, none⟩)) := (h0 2 (by kernel_rfl)).trans rfl
      have s2 := Rega.eval_of q2
      go_simp
      exact hK _ α _ (fun _ _ => rfl) rfl (step_same (st9) hL hcl rfl rfl hG)
    · intro L9 α a9 u9 K9 hL hcl hA hG hS h0 hK
      replace hL : L9 2 = false := hL
      have q55 : a9.tmps[55]? = some (.pointer (some ⟨B1, 1, none⟩)) := hS 1 55 (by decide) rfl (by show 55 < 120; decide)
      have s55 := Rega.eval_of q55
      have e0 : R9 L9 α 5999 = row (B1) 35 #[.iface 36 (.pointer (some ⟨cb, 0, none⟩)), .int .i32 x] := rfl
      have hr := hG.rowAt 5999 (act_base 5999 rfl) e0
      have c0 : u9.cell? ⟨B1, 1, none⟩ = some (.int .i32 x) := hr.cell rfl
      clear hr e0
      go_simp
      exact hK _ α _ (fun _ _ => rfl) rfl (step_same (st9) hL hcl rfl rfl hG)
    · intro L9 α a9 u9 K9 hL hcl hA hG hS h0 hK
      replace hL : L9 3 = false := hL
      have q8 : a9.tmps[8]? = some (.pointer (some ⟨cb, 0, none⟩)) := (h0 8 (by kernel_rfl)).trans rfl
      have s8 := Rega.eval_of q8
      go_simp
      exact hK _ α _ (fun _ _ => rfl) rfl (step_same (st9) hL hcl rfl rfl hG)
    · intro L9 α a9 u9 K9 hL hcl hA hG hS h0 hK
      replace hL : L9 4 = false := hL
      go_simp
      exact hK _ α _ (fun _ _ => rfl) rfl (step_same (st9) hL hcl rfl rfl hG)
    · intro L9 α a9 u9 K9 hL hcl hA hG hS h0 hK
      replace hL : L9 5 = false := hL
      have q4 : a9.tmps[4]? = some (.pointer (some ⟨B1_2, 0, none⟩)) := (h0 4 (by kernel_rfl)).trans rfl
      have s4 := Rega.eval_of q4
      have q54 : a9.tmps[54]? = some (.agg #[.nilIface, .int .i32 0]) := hS 0 54 (by decide) rfl (by show 54 < 120; decide)
      have s54 := Rega.eval_of q54
      have e0 : R9 L9 α 3999 = row (B1_2) 35 #[.nilIface, .int .i32 0] := by
        show rFF12T3999 cb y x src inn B1_4 B1_3 B1_2 B1_1 B1 B3 L9 α = _
        unfold rFF12T3999
        rw [if_neg (by rw [hL]; decide)]
      have hr := hG.rowAt 3999 (act_base 3999 rfl) e0
      have c0 : u9.cell? ⟨B1_2, 0, none⟩ = some (.nilIface) := hr.cell rfl
      have y0 : u9.frozen? ⟨B1_2, 0, none⟩ = false := hr.free (0)
      have c1 : u9.cell? ⟨B1_2, 1, none⟩ = some (.int .i32 0) := hr.cell rfl
      have y1 : u9.frozen? ⟨B1_2, 1, none⟩ = false := hr.free (1)
      clear hr
      have E0 := Lib.hid e0
      clear e0
      go_simp
      have e1 : R9 (Rega.ran L9 5) α 3999 = row (B1_2) 35 #[.nilIface, .int .i32 0] := by
        show rFF12T3999 cb y x src inn B1_4 B1_3 B1_2 B1_1 B1 B3 (Rega.ran L9 5) α = _
        unfold rFF12T3999
        rw [if_pos (show Rega.ran L9 5 5 = true from rfl)]
      exact hK _ α _ (fun _ _ => rfl) rfl (step_sets (st9) hL hcl rfl 3999 rfl (act_base 3999 rfl) E0.out (0) [.nilIface, .int .i32 0] (e1.trans rfl) hG)
    · intro L9 α a9 u9 K9 hL hcl hA hG hS h0 hK
      replace hL : L9 6 = false := hL
      have q5 : a9.tmps[5]? = some (.pointer (some ⟨B1_3, 0, none⟩)) := (h0 5 (by kernel_rfl)).trans rfl
      have s5 := Rega.eval_of q5
      have q56 : a9.tmps[56]? = some (.agg #[.int .i32 x]) := hS 2 56 (by decide) rfl (by show 56 < 120; decide)
      have s56 := Rega.eval_of q56
      have e0 : R9 L9 α 2999 = row (B1_3) 33 #[.int .i32 0] := by
        show rFF12T2999 cb y x src inn B1_4 B1_3 B1_2 B1_1 B1 B3 L9 α = _
        unfold rFF12T2999
        rw [if_neg (by rw [hL]; decide)]
      have hr := hG.rowAt 2999 (act_base 2999 rfl) e0
      have c0 : u9.cell? ⟨B1_3, 0, none⟩ = some (.int .i32 0) := hr.cell rfl
      have y0 : u9.frozen? ⟨B1_3, 0, none⟩ = false := hr.free (0)
      clear hr
      have E0 := Lib.hid e0
      clear e0
      go_simp
      have e1 : R9 (Rega.ran L9 6) α 2999 = row (B1_3) 33 #[.int .i32 x] := by
        show rFF12T2999 cb y x src inn B1_4 B1_3 B1_2 B1_1 B1 B3 (Rega.ran L9 6) α = _
        unfold rFF12T2999
        rw [if_pos (show Rega.ran L9 6 6 = true from rfl)]
      exact hK _ α _ (fun _ _ => rfl) rfl (step_sets (st9) hL hcl rfl 2999 rfl (act_base 2999 rfl) E0.out (0) [.int .i32 x] (e1.trans rfl) hG)
    · intro L9 α a9 u9 K9 hL hcl hA hG hS h0 hK
      replace hL : L9 7 = false := hL
      have q57 : a9.tmps[57]? = some (.pointer (some ⟨cb, 0, none⟩)) := hS 3 57 (by decide) rfl (by show 57 < 120; decide)
      have s57 := Rega.eval_of q57
      go_simp
      exact hK _ α _ (fun _ _ => rfl) rfl (step_same (st9) hL hcl rfl rfl hG)
    · intro L9 α a9 u9 K9 hL hcl hA hG hS h0 hK
      replace hL : L9 8 = false := hL
      have q7 : a9.tmps[7]? = some (.pointer (some ⟨B1_4, 0, none⟩)) := (h0 7 (by kernel_rfl)).trans rfl
      have s7 := Rega.eval_of q7
      have q58 : a9.tmps[58]? = some (.agg #[.nilIface, .int .i32 0]) := hS 4 58 (by decide) rfl (by show 58 < 120; decide)
      have s58 := Rega.eval_of q58
      have e0 : R9 L9 α 1999 = row (B1_4) 35 #[.nilIface, .int .i32 0] := by
        show rFF12T1999 cb y x src inn B1_4 B1_3 B1_2 B1_1 B1 B3 L9 α = _
        unfold rFF12T1999
        rw [if_neg (by rw [hL]; decide)]
      have hr := hG.rowAt 1999 (act_base 1999 rfl) e0
      have c0 : u9.cell? ⟨B1_4, 0, none⟩ = some (.nilIface) := hr.cell rfl
      have y0 : u9.frozen? ⟨B1_4, 0, none⟩ = false := hr.free (0)
      have c1 : u9.cell? ⟨B1_4, 1, none⟩ = some (.int .i32 0) := hr.cell rfl
      have y1 : u9.frozen? ⟨B1_4, 1, none⟩ = false := hr.free (1)
      clear hr
      have E0 := Lib.hid e0
      clear e0
      go_simp
      have e1 : R9 (Rega.ran L9 8) α 1999 = row (B1_4) 35 #[.nilIface, .int .i32 0] := by
        show rFF12T1999 cb y x src inn B1_4 B1_3 B1_2 B1_1 B1 B3 (Rega.ran L9 8) α = _
        unfold rFF12T1999
        rw [if_pos (show Rega.ran L9 8 8 = true from rfl)]
      exact hK _ α _ (fun _ _ => rfl) rfl (step_sets (st9) hL hcl rfl 1999 rfl (act_base 1999 rfl) E0.out (0) [.nilIface, .int .i32 0] (e1.trans rfl) hG)
  clear st9
  intro α u hG
  have e0 : R9 (fun k => decide (k < 9)) α 999 = row (B3) 76 #[] := rfl
  have e1 : R9 (fun k => decide (k < 9)) α 1999 = row (B1_4) 35 #[.nilIface, .int .i32 0] := by
    show rFF12T1999 cb y x src inn B1_4 B1_3 B1_2 B1_1 B1 B3 (fun k => decide (k < 9)) α = _
    unfold rFF12T1999
    rw [if_pos (by decide)]
  have e2 : R9 (fun k => decide (k < 9)) α 2999 = row (B1_3) 33 #[.int .i32 x] := by
    show rFF12T2999 cb y x src inn B1_4 B1_3 B1_2 B1_1 B1 B3 (fun k => decide (k < 9)) α = _
    unfold rFF12T2999
    rw [if_pos (by decide)]
  have e3 : R9 (fun k => decide (k < 9)) α 3999 = row (B1_2) 35 #[.nilIface, .int .i32 0] := by
    show rFF12T3999 cb y x src inn B1_4 B1_3 B1_2 B1_1 B1 B3 (fun k => decide (k < 9)) α = _
    unfold rFF12T3999
    rw [if_pos (by decide)]
  have e4 : R9 (fun k => decide (k < 9)) α 4999 = row (B1_1) 27 #[.int .u32 src, .int .u32 inn] := rfl
  have e5 : R9 (fun k => decide (k < 9)) α 5999 = row (B1) 35 #[.iface 36 (.pointer (some ⟨cb, 0, none⟩)), .int .i32 x] := rfl
  have e6 : R9 (fun k => decide (k < 9)) α 6999 = row (cb) 46 #[.iface 67 (.pointer (some ⟨B3, 0, none⟩)), .int .i32 y, .slice none 0 0, .int .i32 0, .int .u8 0, .int .u8 0, .bool false, .bool false] := rfl
  have hO : Own w0 u [row (B3) 76 #[], row (B1_4) 35 #[.nilIface, .int .i32 0], row (B1_3) 33 #[.int .i32 x], row (B1_2) 35 #[.nilIface, .int .i32 0], row (B1_1) 27 #[.int .u32 src, .int .u32 inn], row (B1) 35 #[.iface 36 (.pointer (some ⟨cb, 0, none⟩)), .int .i32 x], row (cb) 46 #[.iface 67 (.pointer (some ⟨B3, 0, none⟩)), .int .i32 y, .slice none 0 0, .int .i32 0, .int .u8 0, .int .u8 0, .bool false, .bool false]] X := (hG.list [999, 1999, 2999, 3999, 4999, 5999, 6999] (by decide) (act_all (by decide))).conv (by
    show [R9 (fun k => decide (k < 9)) α 999, R9 (fun k => decide (k < 9)) α 1999, R9 (fun k => decide (k < 9)) α 2999, R9 (fun k => decide (k < 9)) α 3999, R9 (fun k => decide (k < 9)) α 4999, R9 (fun k => decide (k < 9)) α 5999, R9 (fun k => decide (k < 9)) α 6999] = _
    rw [e0, e1, e2, e3, e4, e5, e6])
  clear hG e0 e1 e2 e3 e4 e5 e6 R9
  generalize hfr : Rega.frameAt _ _ _ _ _ = fr
  have hdf : fr = ⟨#[.agg #[.iface 36 (.pointer (some ⟨cb, 0, none⟩)), .int .i32 x], .agg #[.int .u32 src, .int .u32 inn], .pointer (some ⟨B1, 0, none⟩), .pointer (some ⟨B1_1, 0, none⟩), .pointer (some ⟨B1_2, 0, none⟩), .pointer (some ⟨B1_3, 0, none⟩), .pointer (some ⟨cb, 0, none⟩), .pointer (some ⟨B1_4, 0, none⟩), .pointer (some ⟨cb, 0, none⟩), .bool true, .pointer (some ⟨ib, 0, none⟩), .bool true, undef, undef, undef, undef, undef, undef, undef, undef, undef, undef, .tuple #[.pointer (some ⟨cb, 0, none⟩), .bool true], .pointer (some ⟨B1, 0, none⟩), .iface 36 (.pointer (some ⟨cb, 0, none⟩)), .tuple #[.pointer (some ⟨cb, 0, none⟩), .bool true], .pointer (some ⟨cb, 0, none⟩), .bool true, .bool true, .tuple #[.pointer (some ⟨ib, 0, none⟩), .bool true], .pointer (some ⟨cb, 0, none⟩), .pointer (some ⟨cb, 0, none⟩), .pointer (some ⟨cb, 0, none⟩), .pointer (some ⟨cb, 0, none⟩), .iface 56 (.pointer (some ⟨ib, 0, none⟩)), .tuple #[.pointer (some ⟨ib, 0, none⟩), .bool true], .pointer (some ⟨ib, 0, none⟩), .bool true, .bool true, .bool true, .pointer (some ⟨ib, 0, none⟩), .pointer (some ⟨ib, 0, none⟩), .pointer (some ⟨ib, 0, none⟩), .agg #[.int .u32 src, .int .u32 inn], .agg #[.int .u32 src, .int .u32 inn], .bool true, .bool true, .pointer (some ⟨cb, 0, none⟩), .agg #[], .pointer (some ⟨B3, 0, none⟩), .iface 67 (.pointer (some ⟨B3, 0, none⟩)), .pointer (some ⟨cb, 0, none⟩), .pointer (some ⟨cb, 0, none⟩), .pointer (some ⟨cb, 0, none⟩), .agg #[.nilIface, .int .i32 0], .pointer (some ⟨B1, 1, none⟩), .agg #[.int .i32 x], .pointer (some ⟨cb, 0, none⟩), .agg #[.nilIface, .int .i32 0], undef, undef, undef, undef, undef, undef, undef, undef, undef, undef, undef, undef, undef, undef, undef, undef, undef, undef, undef, undef, undef, undef, undef, undef, undef, undef, undef, undef, undef, undef, undef, undef, undef, undef, undef, undef, undef, undef, undef, undef, undef, undef, undef, undef, undef, undef, undef, undef, undef, undef, undef, undef, undef, undef, undef, undef, undef, undef, undef, undef, undef], []⟩ := by rw [← hfr]; kernel_rfl
  clear hfr
  subst hdf
  clear α
  obtain ⟨lt9_0, y9_0, -⟩ := hO.k0 0 rfl
  obtain ⟨c9_1_0, c9_1_1, lt9_1, y9_1, -⟩ := hO.k2 1 rfl
  obtain ⟨c9_2_0, lt9_2, y9_2, -⟩ := hO.k1 2 rfl
  obtain ⟨c9_3_0, c9_3_1, lt9_3, y9_3, -⟩ := hO.k2 3 rfl
  obtain ⟨c9_4_0, c9_4_1, lt9_4, y9_4, -⟩ := hO.k2 4 rfl
  obtain ⟨c9_5_0, c9_5_1, lt9_5, y9_5, -⟩ := hO.k2 5 rfl
  obtain ⟨c9_6_0, c9_6_1, c9_6_2, c9_6_3, c9_6_4, c9_6_5, c9_6_6, c9_6_7, lt9_6, y9_6, -⟩ := hO.k8 6 rfl
  have HO := Lib.hid hO
  clear hO
  have fx0_0 : u.cell? ⟨ib, 0, none⟩ = some (.int .u32 src) := HO.out.fcell hi 0 rfl
  have fx0_1 : u.cell? ⟨ib, 1, none⟩ = some (.int .u32 inn) := HO.out.fcell hi 1 rfl
  have fx0_2 : u.cell? ⟨ib, 2, none⟩ = some (.bool false) := HO.out.fcell hi 2 rfl
  have fx0_3 : u.cell? ⟨ib, 3, none⟩ = some (.bool false) := HO.out.fcell hi 3 rfl
  have fx0_4 : u.cell? ⟨ib, 4, none⟩ = some (.bool false) := HO.out.fcell hi 4 rfl
  go_wp2_with (first | (with_reducible refine Own.stay (fn := Try.f17) ?_) | fail)
  try with_reducible refine Own.Stay.mk ?_
  have hO := HO.out
  clear HO fx0_0 fx0_1 fx0_2 fx0_3 fx0_4 lt9_0 y9_0 c9_1_0 c9_1_1 lt9_1 y9_1 c9_2_0 lt9_2 y9_2 c9_3_0 c9_3_1 lt9_3 y9_3 c9_4_0 c9_4_1 lt9_4 y9_4 c9_5_0 c9_5_1 lt9_5 y9_5 c9_6_0 c9_6_1 c9_6_2 c9_6_3 c9_6_4 c9_6_5 c9_6_6 c9_6_7 lt9_6 y9_6
  have z9_3_0 : u.cell? ⟨B1_2, 0, none⟩ = some (.nilIface) := hO.cell 3 rfl 0 rfl
  have z9_3_1 : u.cell? ⟨B1_2, 1, none⟩ = some (.int .i32 0) := hO.cell 3 rfl 1 rfl
  have z9_2_0 : u.cell? ⟨B1_3, 0, none⟩ = some (.int .i32 x) := hO.cell 2 rfl 0 rfl
  have z9_1_0 : u.cell? ⟨B1_4, 0, none⟩ = some (.nilIface) := hO.cell 1 rfl 0 rfl
  have z9_1_1 : u.cell? ⟨B1_4, 1, none⟩ = some (.int .i32 0) := hO.cell 1 rfl 1 rfl
  refine bodyPost_ret (v := .tuple #[.agg #[.nilIface, .int .i32 0], .agg #[.int .i32 x], .pointer (some ⟨cb, 0, none⟩), .agg #[.nilIface, .int .i32 0]]) ?_ rfl ⟨B3, rfl, hO.sub [6] (by decide)⟩
  simp [results, Try.results17, go_sem, z9_3_0, z9_3_1, z9_2_0, z9_1_0, z9_1_1]
end Go.Proofs.Ytdbnnpoffpipjaa.Use
