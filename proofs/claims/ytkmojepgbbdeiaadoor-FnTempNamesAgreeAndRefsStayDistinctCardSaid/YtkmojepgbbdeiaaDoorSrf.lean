/- Lists of refs compared; the two loops at nothing. No condition. -/
import Derived.Test.YtkmojepgbbdeiaaDoorLoop
import Derived.Test.YtkmojepgbbdeiaaDoorAppL
import Derived.Test.YtkmojepgbbdeiaaDoorApp
import Derived.Test.YtkmojepgbbdeiaaDoorOwnK
import Derived.Test.YtkmojepgbbdeiaaDoorOwn
import Derived.Test.YtkmojepgbbdeiaaDoorDeepCells
import Derived.Test.YtkmojepgbbdeiaaDoorRows
import Derived.Test.YtkmojepgbbdeiaaDoorLive
namespace Go.Proofs.YtkmojepgbbdeiaaDoor.Use
open Go.ChangeShapes Go.WideShapes Go.ChangeAt Go.RowKit Go.Sort Own
set_option linter.unusedVariables false
/-- The first m places of a list are refs. -/
def RefsAt (l : List Value) (m : Nat) : Prop := ∀ i, i < m → ∃ x y : Int, l[i * 2]? = some (.int .u32 x) ∧ l[i * 2 + 1]? = some (.int .u32 y)

def rSRE (ba : Nat) (bb : Nat) (ca : Nat) (cb : Nat) (m : Nat) (l : List Value) (i : Nat) (x : Int) (y : Int) : Nat → Rega.Atoms → Value
  | 0, α => .slice (some ⟨ba, 0, none⟩) m (m + ca)
  | 1, α => .int .i64 (i : Int)
  | 2, α => .pointer (some ⟨ba, i * 2, none⟩)
  | 3, α => .agg #[.int .u32 x, .int .u32 y]
  | 4, α => .slice (some ⟨bb, 0, none⟩) m (m + cb)
  | 5, α => .int .i64 (i : Int)
  | 6, α => .pointer (some ⟨bb, i * 2, none⟩)
  | 7, α => .agg #[.int .u32 x, .int .u32 y]
  | 8, α => .bool false
  | _, _ => undef
def rSRAnc : Nat → List Nat
  | 2 => [0, 1]
  | 3 => [0, 1, 2]
  | 6 => [4, 5]
  | 7 => [4, 5, 6]
  | 8 => [0, 1, 2, 3, 4, 5, 6, 7]
  | _ => []
def rSRTrn : Nat → List Nat
  | _ => []
def rSRCnt : List (Nat × Nat) := []
def rSRR (ba : Nat) (bb : Nat) (ca : Nat) (cb : Nat) (m : Nat) (l : List Value) (i : Nat) (x : Int) (y : Int) (L9 : Nat → Bool) (α : Rega.Atoms) (ix9 : Nat) : Rw := if ix9 = 999 then row (ba) 33 (full refZ l ca) else if ix9 = 1999 then row (bb) 33 (full refZ l cb) else (0, .map #[] 0)
theorem rSR_he (ba : Nat) (bb : Nat) (ca : Nat) (cb : Nat) (m : Nat) (l : List Value) (i : Nat) (x : Int) (y : Int) : ∀ kk α α', (∀ j, (j % 1000 = kk ∨ j % 1000 ∈ rSRAnc kk) → α j = α' j) → rSRE ba bb ca cb m l i x y kk α = rSRE ba bb ca cb m l i x y kk α' := by
  intro kk α α' h
  match kk with
  | 0 => rfl
  | 1 => rfl
  | 2 => rfl
  | 3 => rfl
  | 4 => rfl
  | 5 => rfl
  | 6 => rfl
  | 7 => rfl
  | 8 => rfl
  | n + 9 => rfl
theorem rSR_st (ba : Nat) (bb : Nat) (ca : Nat) (cb : Nat) (m : Nat) (l : List Value) (i : Nat) (x : Int) (y : Int) : Stable rSRCnt 2 rSRAnc rSRTrn (rSRR ba bb ca cb m l i x y) := by
  intro k9 L9 α α' ix9 hk hcl hα hact ht
  have hp := act_places hact
  replace hp : ix9 ∈ [999, 1999] := hp
  simp only [List.mem_cons, List.not_mem_nil, or_false] at hp
  rcases hp with rfl | rfl
  · rfl
  · rfl
def sameRefsPost (ba bb ca cb m : Nat) (l : List Value) (w0 : World) (X : Nat → Obj → Prop) (e : Ending) (w' : World) : Prop :=
  e = .returned (.bool true) ∧ Own w0 w' [row (ba) 33 (full refZ l ca), row (bb) 33 (full refZ l cb)] X
set_option maxRecDepth 100000 in
set_option maxHeartbeats 1000000 in
theorem sameRefs (ba bb ca cb m : Nat) (l : List Value) (w0 w : World) (X : Nat → Obj → Prop) (hO : Own w0 w [row (ba) 33 (full refZ l ca), row (bb) 33 (full refZ l cb)] X) (hm5 : m ≤ 10000) (hl : RefsAt l m) :
    Calls Tryd.prog 21 #[.slice (some ⟨ba, 0, none⟩) m (m + ca), .slice (some ⟨bb, 0, none⟩) m (m + cb)] w (sameRefsPost ba bb ca cb m l w0 X) := by
  go_enter Tryd.func21, Tryd.ntmps21
  have hm9 : (m : Int) ≤ 10000 := by omega
  go_wp2_with (first | (with_reducible refine Own.stay (fn := Tryd.f21) ?_) | fail)
  try with_reducible refine Own.Stay.mk ?_
  go_loopg [5] m (fun gf s5 wx => ∃ i : Nat, s5 = .int .i64 (i : Int) ∧ i + gf = m ∧ Own w0 wx [row (ba) 33 (full refZ l ca), row (bb) 33 (full refZ l cb)] X)
  case atStart => exact ⟨0, rfl, by omega, hO⟩
  obtain ⟨i, rfl, hia, hO⟩ := hrel
  by_cases hlt : i < m
  · skip
    obtain ⟨gq, rfl⟩ : ∃ gq, gk = gq + 1 := ⟨gk - 1, by omega⟩
    have hlt9 : (i : Int) < (m : Int) := by omega
    have hi8 : (0 : Int) ≤ (i : Int) := by omega
    obtain ⟨x, y, hx, hy⟩ := hl i hlt
    go_wp2_with (first | (with_reducible refine Own.stay (fn := Tryd.f21) ?_) | fail)
    try with_reducible refine Own.Stay.mk ?_
    have st9 := rSR_st ba bb ca cb m l i x y
    let R9 := rSRR ba bb ca cb m l i x y
    refine wp_region_own (e := rSRE ba bb ca cb m l i x y) (anc := rSRAnc) (G := (fun L9 α u9 => OwnF w0 u9 (act rSRCnt 2 L9) (rSRR ba bb ca cb m l i x y L9 α) X)) (by kernel_rfl) (by kernel_rfl) (by kernel_rfl) (by kernel_rfl) (rSR_he ba bb ca cb m l i x y) ?_ (RunsAll.all ?_) ?_
    · have hp : ∀ i, act rSRCnt 2 (fun _ => false) i → i ∈ [999, 1999] := by
        intro i hi
        have h9 : i % 1000 = 999 := by
          by_cases h : i % 1000 = 999
          · exact h
          · exact absurd (act_lt hi h) (by simp)
        unfold act at hi
        rw [if_pos h9] at hi
        simp only [List.mem_cons, List.not_mem_nil, or_false]
        omega
      refine hO.drew.family (fun i hi => ?_) (fun i j hi hj hij => ?_)
      · have := hp i hi
        simp only [List.mem_cons, List.not_mem_nil, or_false] at this
        rcases this with rfl | rfl <;> rfl
      · have h1 := hp i hi
        have h2 := hp j hj
        simp only [List.mem_cons, List.not_mem_nil, or_false] at h1 h2
        omega
    · refine ⟨?_, ?_, ?_, ?_, ?_, ?_, ?_, ?_, ?_, trivial⟩
      · intro L9 α a9 u9 K9 hL hcl hA hG hS h0 hK
        replace hL : L9 0 = false := hL
        have q0 : a9.tmps[0]? = some (.slice (some ⟨ba, 0, none⟩) m (m + ca)) := (h0 0 (by kernel_rfl)).trans rfl
        have s0 := Rega.eval_of q0
        go_simp
        exact hK _ α _ (fun _ _ => rfl) rfl (step_same (st9) hL hcl rfl rfl hG)
      · intro L9 α a9 u9 K9 hL hcl hA hG hS h0 hK
        replace hL : L9 1 = false := hL
        have q5 : a9.tmps[5]? = some (.int .i64 (i : Int)) := (h0 5 (by kernel_rfl)).trans rfl
        have s5 := Rega.eval_of q5
        go_simp
        exact hK _ α _ (fun _ _ => rfl) rfl (step_same (st9) hL hcl rfl rfl hG)
      · intro L9 α a9 u9 K9 hL hcl hA hG hS h0 hK
        replace hL : L9 2 = false := hL
        have q17 : a9.tmps[17]? = some (.slice (some ⟨ba, 0, none⟩) m (m + ca)) := hS 0 17 (by decide) rfl (by show 17 < 26; decide)
        have s17 := Rega.eval_of q17
        have q18 : a9.tmps[18]? = some (.int .i64 (i : Int)) := hS 1 18 (by decide) rfl (by show 18 < 26; decide)
        have s18 := Rega.eval_of q18
        go_simp
        exact hK _ α _ (fun _ _ => rfl) rfl (step_same (st9) hL hcl rfl rfl hG)
      · intro L9 α a9 u9 K9 hL hcl hA hG hS h0 hK
        replace hL : L9 3 = false := hL
        have q19 : a9.tmps[19]? = some (.pointer (some ⟨ba, i * 2, none⟩)) := hS 2 19 (by decide) rfl (by show 19 < 26; decide)
        have s19 := Rega.eval_of q19
        have e0 : R9 L9 α 999 = row (ba) 33 (full refZ l ca) := rfl
        have hr := hG.rowAt 999 (act_base 999 rfl) e0
        have c0 : u9.cell? ⟨ba, i * 2, none⟩ = some (.int .u32 x) := hr.cell ((full_at hx))
        have c1 : u9.cell? ⟨ba, i * 2 + 1, none⟩ = some (.int .u32 y) := hr.cell ((full_at hy))
        clear hr e0
        go_simp
        exact hK _ α _ (fun _ _ => rfl) rfl (step_same (st9) hL hcl rfl rfl hG)
      · intro L9 α a9 u9 K9 hL hcl hA hG hS h0 hK
        replace hL : L9 4 = false := hL
        have q1 : a9.tmps[1]? = some (.slice (some ⟨bb, 0, none⟩) m (m + cb)) := (h0 1 (by kernel_rfl)).trans rfl
        have s1 := Rega.eval_of q1
        go_simp
        exact hK _ α _ (fun _ _ => rfl) rfl (step_same (st9) hL hcl rfl rfl hG)
      · intro L9 α a9 u9 K9 hL hcl hA hG hS h0 hK
        replace hL : L9 5 = false := hL
        have q5 : a9.tmps[5]? = some (.int .i64 (i : Int)) := (h0 5 (by kernel_rfl)).trans rfl
        have s5 := Rega.eval_of q5
        go_simp
        exact hK _ α _ (fun _ _ => rfl) rfl (step_same (st9) hL hcl rfl rfl hG)
      · intro L9 α a9 u9 K9 hL hcl hA hG hS h0 hK
        replace hL : L9 6 = false := hL
        have q21 : a9.tmps[21]? = some (.slice (some ⟨bb, 0, none⟩) m (m + cb)) := hS 4 21 (by decide) rfl (by show 21 < 26; decide)
        have s21 := Rega.eval_of q21
        have q22 : a9.tmps[22]? = some (.int .i64 (i : Int)) := hS 5 22 (by decide) rfl (by show 22 < 26; decide)
        have s22 := Rega.eval_of q22
        go_simp
        exact hK _ α _ (fun _ _ => rfl) rfl (step_same (st9) hL hcl rfl rfl hG)
      · intro L9 α a9 u9 K9 hL hcl hA hG hS h0 hK
        replace hL : L9 7 = false := hL
        have q23 : a9.tmps[23]? = some (.pointer (some ⟨bb, i * 2, none⟩)) := hS 6 23 (by decide) rfl (by show 23 < 26; decide)
        have s23 := Rega.eval_of q23
        have e0 : R9 L9 α 1999 = row (bb) 33 (full refZ l cb) := rfl
        have hr := hG.rowAt 1999 (act_base 1999 rfl) e0
        have c0 : u9.cell? ⟨bb, i * 2, none⟩ = some (.int .u32 x) := hr.cell ((full_at hx))
        have c1 : u9.cell? ⟨bb, i * 2 + 1, none⟩ = some (.int .u32 y) := hr.cell ((full_at hy))
        clear hr e0
        go_simp
        exact hK _ α _ (fun _ _ => rfl) rfl (step_same (st9) hL hcl rfl rfl hG)
      · intro L9 α a9 u9 K9 hL hcl hA hG hS h0 hK
        replace hL : L9 8 = false := hL
        have q20 : a9.tmps[20]? = some (.agg #[.int .u32 x, .int .u32 y]) := hS 3 20 (by decide) rfl (by show 20 < 26; decide)
        have s20 := Rega.eval_of q20
        have q24 : a9.tmps[24]? = some (.agg #[.int .u32 x, .int .u32 y]) := hS 7 24 (by decide) rfl (by show 24 < 26; decide)
        have s24 := Rega.eval_of q24
        go_simp
        exact hK _ α _ (fun _ _ => rfl) rfl (step_same (st9) hL hcl rfl rfl hG)
    clear st9
    intro α u hG
    have e0 : R9 (fun k => decide (k < 9)) α 999 = row (ba) 33 (full refZ l ca) := rfl
    have e1 : R9 (fun k => decide (k < 9)) α 1999 = row (bb) 33 (full refZ l cb) := rfl
    have hO : Own w0 u [row (ba) 33 (full refZ l ca), row (bb) 33 (full refZ l cb)] X := (hG.list [999, 1999] (by decide) (act_all (by decide))).conv (by
      show [R9 (fun k => decide (k < 9)) α 999, R9 (fun k => decide (k < 9)) α 1999] = _
      rw [e0, e1])
    clear hG e0 e1 R9
    generalize hfr : Rega.frameAt _ _ _ _ _ = fr
    have hdf : fr = ⟨#[.slice (some ⟨ba, 0, none⟩) m (m + ca), .slice (some ⟨bb, 0, none⟩) m (m + cb), undef, undef, u4, .int .i64 (i : Int), .slice (some ⟨ba, 0, none⟩) m (m + ca), .int .i64 (m : Int), .slice (some ⟨bb, 0, none⟩) m (m + cb), .int .i64 (m : Int), .bool false, .int .i64 (i : Int), .slice (some ⟨ba, 0, none⟩) m (m + ca), .int .i64 (m : Int), .bool true, u15, u16, .slice (some ⟨ba, 0, none⟩) m (m + ca), .int .i64 (i : Int), .pointer (some ⟨ba, i * 2, none⟩), .agg #[.int .u32 x, .int .u32 y], .slice (some ⟨bb, 0, none⟩) m (m + cb), .int .i64 (i : Int), .pointer (some ⟨bb, i * 2, none⟩), .agg #[.int .u32 x, .int .u32 y], .bool false], []⟩ := by rw [← hfr]; kernel_rfl
    clear hfr
    subst hdf
    clear α
    go_wp2_with (first | (with_reducible refine Own.stay (fn := Tryd.f21) ?_) | fail)
    try with_reducible refine Own.Stay.mk ?_
    have hN : Own w0 u [row (ba) 33 (full refZ l ca), row (bb) 33 (full refZ l cb)] X := hO.sub [0, 1] (by decide)
    clear hO
    have hO := hN
    clear hN
    go_roundg gq
    case measure => omega
    case rel => exact ⟨i + 1, by first | rfl | simp, by omega, hO⟩
  have hlt7 : ¬ (i : Int) < (m : Int) := by omega
  go_wp2_with (first | (with_reducible refine Own.stay (fn := Tryd.f21) ?_) | fail)
  try with_reducible refine Own.Stay.mk ?_
  refine bodyPost_ret (v := .bool true) ?_ rfl ⟨rfl, hO.sub [0, 1] (by decide)⟩
  simp [results, Tryd.results21, go_sem]
def sameRefs0Post (xa xb : Option Addr) (ca cb : Nat) (w0 : World) (X : Nat → Obj → Prop) (e : Ending) (w' : World) : Prop :=
  e = .returned (.bool true) ∧ Own w0 w' [] X
set_option maxRecDepth 100000 in
set_option maxHeartbeats 1000000 in
theorem sameRefs0 (xa xb : Option Addr) (ca cb : Nat) (w0 w : World) (X : Nat → Obj → Prop) (hO : Own w0 w [] X)  :
    Calls Tryd.prog 21 #[.slice xa 0 ca, .slice xb 0 cb] w (sameRefs0Post xa xb ca cb w0 X) := by
  go_enter Tryd.func21, Tryd.ntmps21
  go_wp2_with (first | (with_reducible refine Own.stay (fn := Tryd.f21) ?_) | fail)
  try with_reducible refine Own.Stay.mk ?_
  go_loopg [5] 1 (fun gf s5 wx => s5 = .int .i64 0 ∧ Own w0 wx [] X)
  case atStart => exact ⟨rfl, hO⟩
  obtain ⟨rfl, hO⟩ := hrel
  go_wp2_with (first | (with_reducible refine Own.stay (fn := Tryd.f21) ?_) | fail)
  try with_reducible refine Own.Stay.mk ?_
  refine bodyPost_ret (v := .bool true) ?_ rfl ⟨rfl, hO.sub [] (by decide)⟩
  simp [results, Tryd.results21, go_sem]
def allDist0Post (xa : Option Addr) (ca : Nat) (w0 : World) (X : Nat → Obj → Prop) (e : Ending) (w' : World) : Prop :=
  e = .returned (.bool true) ∧ Own w0 w' [] X
set_option maxRecDepth 100000 in
set_option maxHeartbeats 1000000 in
theorem allDist0 (xa : Option Addr) (ca : Nat) (w0 w : World) (X : Nat → Obj → Prop) (hO : Own w0 w [] X)  :
    Calls Tryd.prog 20 #[.slice xa 0 ca] w (allDist0Post xa ca w0 X) := by
  go_enter Tryd.func20, Tryd.ntmps20
  go_wp2_with (first | (with_reducible refine Own.stay (fn := Tryd.f20) ?_) | fail)
  try with_reducible refine Own.Stay.mk ?_
  go_loopg [3] 1 (fun gf s3 wx => s3 = .int .i64 0 ∧ Own w0 wx [] X)
  case atStart => exact ⟨rfl, hO⟩
  obtain ⟨rfl, hO⟩ := hrel
  go_wp2_with (first | (with_reducible refine Own.stay (fn := Tryd.f20) ?_) | fail)
  try with_reducible refine Own.Stay.mk ?_
  refine bodyPost_ret (v := .bool true) ?_ rfl ⟨rfl, hO.sub [] (by decide)⟩
  simp [results, Tryd.results20, go_sem]
end Go.Proofs.YtkmojepgbbdeiaaDoor.Use
