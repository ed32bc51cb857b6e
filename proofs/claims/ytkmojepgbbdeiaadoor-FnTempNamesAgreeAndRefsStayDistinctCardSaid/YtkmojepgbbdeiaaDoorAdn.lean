/- zzB1AllDistinct at the names of one kind. No condition. -/
import Derived.Test.YtkmojepgbbdeiaaDoorInj
import Derived.Test.YtkmojepgbbdeiaaDoorLoop
import Derived.Test.YtkmojepgbbdeiaaDoorAppL
import Derived.Test.YtkmojepgbbdeiaaDoorApp
import Derived.Test.YtkmojepgbbdeiaaDoorOwnK
import Derived.Test.YtkmojepgbbdeiaaDoorOwn
import Derived.Test.YtkmojepgbbdeiaaDoorDeepCells
import Derived.Test.YtkmojepgbbdeiaaDoorRows
import Derived.Test.YtkmojepgbbdeiaaDoorLive
namespace Go.Proofs.YtkmojepgbbdeiaaDoor.Use
open Go.ChangeShapes Go.WideShapes Go.ChangeAt Go.RowKit Go.Sort Own
set_option linter.unusedVariables false
def strZ : Array Value := #[.string ⟨#[]⟩]
theorem infoStr : (Tryd.prog.info? 9).map (fun i => (i.zero, i.size, i.bytes)) = some (some (.string ⟨#[]⟩), 1, 16) := by kernel_rfl
/-- The first a names of a kind that began at s. -/
def tnm (s a : Nat) : List Value := tab (fun q => [.string (tn (s + q))]) a
theorem tn_neL {i j : Nat} (h : i ≠ j) : ((tn i).toList == (tn j).toList) = false := by
  rw [beq_eq_false_iff_ne, Lib.toList_data, Lib.toList_data]
  intro e
  exact h (tn_inj (by
    have e2 : (tn i).data = (tn j).data := Array.ext' e
    cases hx : tn i
    cases hy : tn j
    rw [hx, hy] at e2
    rw [ByteArray.mk.injEq]
    exact e2))
theorem tnm_length (s a : Nat) : (tnm s a).length = a := by
  have := tab_length (f := fun q => [Value.string (tn (s + q))]) (k := 1) (fun _ => rfl) a
  rw [Nat.mul_one] at this
  exact this
theorem tnm_succ (s a : Nat) : tnm s a ++ [.string (tn (s + a))] = tnm s (a + 1) := (tab_succ _ _).symm
theorem tnm_at (s a i : Nat) (h : i < a) : (tnm s a)[i]? = some (.string (tn (s + i))) := by
  have := tab_at (f := fun q => [Value.string (tn (s + q))]) (k := 1) (fun _ => rfl) (n := a) (i := i) (o := 0) (v := .string (tn (s + i))) h rfl
  rw [Nat.mul_one, Nat.add_zero] at this
  exact this

def rADE (tb : Nat) (s : Nat) (a : Nat) (ct : Nat) (i : Nat) (j : Nat) : Nat → Rega.Atoms → Value
  | 0, α => .slice (some ⟨tb, 0, none⟩) a (a + ct)
  | 1, α => .int .i64 (i : Int)
  | 2, α => .pointer (some ⟨tb, i, none⟩)
  | 3, α => .string (tn (s + i))
  | 4, α => .slice (some ⟨tb, 0, none⟩) a (a + ct)
  | 5, α => .int .i64 (j : Int)
  | 6, α => .pointer (some ⟨tb, j, none⟩)
  | 7, α => .string (tn (s + j))
  | 8, α => .bool false
  | _, _ => undef
def rADAnc : Nat → List Nat
  | 2 => [0, 1]
  | 3 => [0, 1, 2]
  | 6 => [4, 5]
  | 7 => [4, 5, 6]
  | 8 => [0, 1, 2, 3, 4, 5, 6, 7]
  | _ => []
def rADTrn : Nat → List Nat
  | _ => []
def rADCnt : List (Nat × Nat) := []
def rADR (tb : Nat) (s : Nat) (a : Nat) (ct : Nat) (i : Nat) (j : Nat) (L9 : Nat → Bool) (α : Rega.Atoms) (ix9 : Nat) : Rw := if ix9 = 999 then row (tb) 9 (full strZ (tnm s a) ct) else (0, .map #[] 0)
theorem rAD_he (tb : Nat) (s : Nat) (a : Nat) (ct : Nat) (i : Nat) (j : Nat) : ∀ kk α α', (∀ j, (j % 1000 = kk ∨ j % 1000 ∈ rADAnc kk) → α j = α' j) → rADE tb s a ct i j kk α = rADE tb s a ct i j kk α' := by
  intro kk α α' h
  match kk with
  | 0 => rfl
  | 1 => rfl
  | 2 => rfl
  | 3 => rfl
  | 4 => rfl
  | 5 => rfl
  | 6 => rfl
  | 7 => rfl
  | 8 => rfl
  | n + 9 => rfl
theorem rAD_st (tb : Nat) (s : Nat) (a : Nat) (ct : Nat) (i : Nat) (j : Nat) : Stable rADCnt 1 rADAnc rADTrn (rADR tb s a ct i j) := by
  intro k9 L9 α α' ix9 hk hcl hα hact ht
  have hp := act_places hact
  replace hp : ix9 ∈ [999] := hp
  simp only [List.mem_cons, List.not_mem_nil, or_false] at hp
  subst hp
  rfl
def allDistPost (tb s a ct : Nat) (w0 : World) (X : Nat → Obj → Prop) (e : Ending) (w' : World) : Prop :=
  e = .returned (.bool true) ∧ Own w0 w' [row (tb) 9 (full strZ (tnm s a) ct)] X
set_option maxRecDepth 100000 in
set_option maxHeartbeats 1000000 in
theorem allDist (tb s a ct : Nat) (w0 w : World) (X : Nat → Obj → Prop) (hO : Own w0 w [row (tb) 9 (full strZ (tnm s a) ct)] X) (ha5 : a ≤ 10000) :
    Calls Tryd.prog 20 #[.slice (some ⟨tb, 0, none⟩) a (a + ct)] w (allDistPost tb s a ct w0 X) := by
  go_enter Tryd.func20, Tryd.ntmps20
  have ha9 : (a : Int) ≤ 10000 := by omega
  go_wp2_with (first | (with_reducible refine Own.stay (fn := Tryd.f20) ?_) | fail)
  try with_reducible refine Own.Stay.mk ?_
  go_loopg [3] a (fun gf s3 wx => ∃ i : Nat, s3 = .int .i64 (i : Int) ∧ i + gf = a ∧ Own w0 wx [row (tb) 9 (full strZ (tnm s a) ct)] X)
  case atStart => exact ⟨0, rfl, by omega, hO⟩
  obtain ⟨i, rfl, hia, hO⟩ := hrel
  by_cases hlt : i < a
  · skip
    obtain ⟨gq, rfl⟩ : ∃ gq, gk = gq + 1 := ⟨gk - 1, by omega⟩
    have hlt9 : (i : Int) < (a : Int) := by omega
    have hi8 : (0 : Int) ≤ (i : Int) := by omega
    go_wp2_with (first | (with_reducible refine Own.stay (fn := Tryd.f20) ?_) | fail)
    try with_reducible refine Own.Stay.mk ?_
    go_loopg [4] (a - (i + 1)) (fun gf s4 wx => ∃ j : Nat, s4 = .int .i64 (j : Int) ∧ j + gf = a ∧ i < j ∧ Own w0 wx [row (tb) 9 (full strZ (tnm s a) ct)] X)
    case atStart => exact ⟨i + 1, by first | rfl | simp, by omega, by omega, hO⟩
    obtain ⟨j, rfl, hja, hij, hO⟩ := hrel
    by_cases hlt2 : j < a
    · skip
      obtain ⟨gr, rfl⟩ : ∃ gr, gk = gr + 1 := ⟨gk - 1, by omega⟩
      have hlt8 : (j : Int) < (a : Int) := by omega
      have hj8 : (0 : Int) ≤ (j : Int) := by omega
      have hne : ((tn (s + i)).toList == (tn (s + j)).toList) = false := tn_neL (by omega)
      go_wp2_with (first | (with_reducible refine Own.stay (fn := Tryd.f20) ?_) | fail)
      try with_reducible refine Own.Stay.mk ?_
      have st9 := rAD_st tb s a ct i j
      let R9 := rADR tb s a ct i j
      refine wp_region_own (e := rADE tb s a ct i j) (anc := rADAnc) (G := (fun L9 α u9 => OwnF w0 u9 (act rADCnt 1 L9) (rADR tb s a ct i j L9 α) X)) (by kernel_rfl) (by kernel_rfl) (by kernel_rfl) (by kernel_rfl) (rAD_he tb s a ct i j) ?_ (RunsAll.all ?_) ?_
      · have hp : ∀ i, act rADCnt 1 (fun _ => false) i → i ∈ [999] := by
          intro i hi
          have h9 : i % 1000 = 999 := by
            by_cases h : i % 1000 = 999
            · exact h
            · exact absurd (act_lt hi h) (by simp)
          unfold act at hi
          rw [if_pos h9] at hi
          simp only [List.mem_cons, List.not_mem_nil, or_false]
          omega
        refine hO.drew.family (fun i hi => ?_) (fun i j hi hj hij => ?_)
        · have := hp i hi
          simp only [List.mem_cons, List.not_mem_nil, or_false] at this
          subst this
          rfl
        · have h1 := hp i hi
          have h2 := hp j hj
          simp only [List.mem_cons, List.not_mem_nil, or_false] at h1 h2
          omega
      · refine ⟨?_, ?_, ?_, ?_, ?_, ?_, ?_, ?_, ?_, trivial⟩
        · intro L9 α a9 u9 K9 hL hcl hA hG hS h0 hK
          replace hL : L9 0 = false := hL
          have q0 : a9.tmps[0]? = some (.slice (some ⟨tb, 0, none⟩) a (a + ct)) := (h0 0 (by kernel_rfl)).trans rfl
          have s0 := Rega.eval_of q0
          go_simp
          exact hK _ α _ (fun _ _ => rfl) rfl (step_same (st9) hL hcl rfl rfl hG)
        · intro L9 α a9 u9 K9 hL hcl hA hG hS h0 hK
          replace hL : L9 1 = false := hL
          have q3 : a9.tmps[3]? = some (.int .i64 (i : Int)) := (h0 3 (by kernel_rfl)).trans rfl
          have s3 := Rega.eval_of q3
          go_simp
          exact hK _ α _ (fun _ _ => rfl) rfl (step_same (st9) hL hcl rfl rfl hG)
        · intro L9 α a9 u9 K9 hL hcl hA hG hS h0 hK
          replace hL : L9 2 = false := hL
          have q19 : a9.tmps[19]? = some (.slice (some ⟨tb, 0, none⟩) a (a + ct)) := hS 0 19 (by decide) rfl (by show 19 < 28; decide)
          have s19 := Rega.eval_of q19
          have q20 : a9.tmps[20]? = some (.int .i64 (i : Int)) := hS 1 20 (by decide) rfl (by show 20 < 28; decide)
          have s20 := Rega.eval_of q20
          go_simp
          exact hK _ α _ (fun _ _ => rfl) rfl (step_same (st9) hL hcl rfl rfl hG)
        · intro L9 α a9 u9 K9 hL hcl hA hG hS h0 hK
          replace hL : L9 3 = false := hL
          have q21 : a9.tmps[21]? = some (.pointer (some ⟨tb, i, none⟩)) := hS 2 21 (by decide) rfl (by show 21 < 28; decide)
          have s21 := Rega.eval_of q21
          have e0 : R9 L9 α 999 = row (tb) 9 (full strZ (tnm s a) ct) := rfl
          have hr := hG.rowAt 999 (act_base 999 rfl) e0
          have c0 : u9.cell? ⟨tb, i, none⟩ = some (.string (tn (s + i))) := hr.cell ((full_at (tnm_at s a i (by omega))))
          clear hr e0
          go_simp
          exact hK _ α _ (fun _ _ => rfl) rfl (step_same (st9) hL hcl rfl rfl hG)
        · intro L9 α a9 u9 K9 hL hcl hA hG hS h0 hK
          replace hL : L9 4 = false := hL
          have q0 : a9.tmps[0]? = some (.slice (some ⟨tb, 0, none⟩) a (a + ct)) := (h0 0 (by kernel_rfl)).trans rfl
          have s0 := Rega.eval_of q0
          go_simp
          exact hK _ α _ (fun _ _ => rfl) rfl (step_same (st9) hL hcl rfl rfl hG)
        · intro L9 α a9 u9 K9 hL hcl hA hG hS h0 hK
          replace hL : L9 5 = false := hL
          have q4 : a9.tmps[4]? = some (.int .i64 (j : Int)) := (h0 4 (by kernel_rfl)).trans rfl
          have s4 := Rega.eval_of q4
          go_simp
          exact hK _ α _ (fun _ _ => rfl) rfl (step_same (st9) hL hcl rfl rfl hG)
        · intro L9 α a9 u9 K9 hL hcl hA hG hS h0 hK
          replace hL : L9 6 = false := hL
          have q23 : a9.tmps[23]? = some (.slice (some ⟨tb, 0, none⟩) a (a + ct)) := hS 4 23 (by decide) rfl (by show 23 < 28; decide)
          have s23 := Rega.eval_of q23
          have q24 : a9.tmps[24]? = some (.int .i64 (j : Int)) := hS 5 24 (by decide) rfl (by show 24 < 28; decide)
          have s24 := Rega.eval_of q24
          go_simp
          exact hK _ α _ (fun _ _ => rfl) rfl (step_same (st9) hL hcl rfl rfl hG)
        · intro L9 α a9 u9 K9 hL hcl hA hG hS h0 hK
          replace hL : L9 7 = false := hL
          have q25 : a9.tmps[25]? = some (.pointer (some ⟨tb, j, none⟩)) := hS 6 25 (by decide) rfl (by show 25 < 28; decide)
          have s25 := Rega.eval_of q25
          have e0 : R9 L9 α 999 = row (tb) 9 (full strZ (tnm s a) ct) := rfl
          have hr := hG.rowAt 999 (act_base 999 rfl) e0
          have c0 : u9.cell? ⟨tb, j, none⟩ = some (.string (tn (s + j))) := hr.cell ((full_at (tnm_at s a j (by omega))))
          clear hr e0
          go_simp
          exact hK _ α _ (fun _ _ => rfl) rfl (step_same (st9) hL hcl rfl rfl hG)
        · intro L9 α a9 u9 K9 hL hcl hA hG hS h0 hK
          replace hL : L9 8 = false := hL
          have q22 : a9.tmps[22]? = some (.string (tn (s + i))) := hS 3 22 (by decide) rfl (by show 22 < 28; decide)
          have s22 := Rega.eval_of q22
          have q26 : a9.tmps[26]? = some (.string (tn (s + j))) := hS 7 26 (by decide) rfl (by show 26 < 28; decide)
          have s26 := Rega.eval_of q26
          go_simp
          exact hK _ α _ (fun _ _ => rfl) rfl (step_same (st9) hL hcl rfl rfl hG)
      clear st9
      intro α u hG
      have e0 : R9 (fun k => decide (k < 9)) α 999 = row (tb) 9 (full strZ (tnm s a) ct) := rfl
      have hO : Own w0 u [row (tb) 9 (full strZ (tnm s a) ct)] X := (hG.list [999] (by decide) (act_all (by decide))).conv (by
        show [R9 (fun k => decide (k < 9)) α 999] = _
        rw [e0])
      clear hG e0 R9
      generalize hfr : Rega.frameAt _ _ _ _ _ = fr
      have hdf : fr = ⟨#[.slice (some ⟨tb, 0, none⟩) a (a + ct), undef, u2, .int .i64 (i : Int), .int .i64 (j : Int), .int .i64 (i : Int), .slice (some ⟨tb, 0, none⟩) a (a + ct), .int .i64 (a : Int), .bool true, u9, u10, .int .i64 (i : Int), .int .i64 ((i : Int) + 1), .int .i64 (j : Int), .slice (some ⟨tb, 0, none⟩) a (a + ct), .int .i64 (a : Int), .bool true, u17, u18, .slice (some ⟨tb, 0, none⟩) a (a + ct), .int .i64 (i : Int), .pointer (some ⟨tb, i, none⟩), .string (tn (s + i)), .slice (some ⟨tb, 0, none⟩) a (a + ct), .int .i64 (j : Int), .pointer (some ⟨tb, j, none⟩), .string (tn (s + j)), .bool false], []⟩ := by rw [← hfr]; kernel_rfl
      clear hfr
      subst hdf
      clear α
      go_wp2_with (first | (with_reducible refine Own.stay (fn := Tryd.f20) ?_) | fail)
      try with_reducible refine Own.Stay.mk ?_
      go_roundg gr
      case measure => omega
      case rel => exact ⟨j + 1, by first | rfl | simp, by omega, by omega, hO⟩
    have hlt7 : ¬ (j : Int) < (a : Int) := by omega
    go_wp2_with (first | (with_reducible refine Own.stay (fn := Tryd.f20) ?_) | fail)
    try with_reducible refine Own.Stay.mk ?_
    go_roundg gq
    case measure => omega
    case rel => exact ⟨i + 1, by first | rfl | simp, by omega, hO⟩
  have hlt7 : ¬ (i : Int) < (a : Int) := by omega
  go_wp2_with (first | (with_reducible refine Own.stay (fn := Tryd.f20) ?_) | fail)
  try with_reducible refine Own.Stay.mk ?_
  refine bodyPost_ret (v := .bool true) ?_ rfl ⟨rfl, hO.sub [0] (by decide)⟩
  simp [results, Tryd.results20, go_sem]
end Go.Proofs.YtkmojepgbbdeiaaDoor.Use
