/- The laws' own helpers: arguments, keys. No condition. -/
import Derived.Test.YtkhmjppfogppoaaDoorKit
import Derived.Test.YtkhmjppfogppoaaDoorLoop
import Derived.Test.YtkhmjppfogppoaaDoorLive
import Derived.Test.YtkhmjppfogppoaaDoorApp
import Derived.Test.YtkhmjppfogppoaaDoorOwnK
import Derived.Test.YtkhmjppfogppoaaDoorOwn
import Derived.Test.YtkhmjppfogppoaaDoorDeepCells
import Derived.Test.YtkhmjppfogppoaaDoorRows
import Derived.Test.YtkhmjppfogppoaaDoorUse
namespace Go.Proofs.YtkhmjppfogppoaaDoor.Use
open Go.ChangeShapes Go.WideShapes Go.ChangeAt Go.RowKit Go.Sort Own
set_option linter.unusedVariables false
def rdotOf1E (d1 : Nat) (tT : Nat) (tb : Nat) (l2 : Int) (nm : ByteArray) (l3 : Int) (l : Int) (B1_1 : Nat) (B1 : Nat) : Nat → Rega.Atoms → Value
  | 0, α => .pointer (some ⟨d1, 0, none⟩)
  | 1, α => .pointer (some ⟨d1, 0, none⟩)
  | 2, α => .pointer (some ⟨d1, 0, none⟩)
  | 3, α => .agg #[.iface tT (.pointer (some ⟨tb, 0, none⟩)), .int .i32 l2]
  | 4, α => .pointer (some ⟨d1, 0, none⟩)
  | 5, α => .pointer (some ⟨d1, 0, none⟩)
  | 6, α => .pointer (some ⟨d1, 2, none⟩)
  | 7, α => .string nm
  | 8, α => undef
  | 9, α => .string nm
  | 10, α => .bool true
  | _, _ => undef
def rdotOf1Anc : Nat → List Nat
  | 1 => [0]
  | 2 => [0, 1]
  | 3 => [0, 1, 2]
  | 5 => [4]
  | 6 => [4, 5]
  | 7 => [4, 5, 6]
  | 8 => [0, 1, 2, 3]
  | 9 => [0, 1, 2, 3, 4, 5, 6, 7, 8]
  | 10 => [0, 1, 2, 3, 4, 5, 6, 7, 8, 9]
  | _ => []
def rdotOf1Trn : Nat → List Nat
  | 8 => [999]
  | _ => []
def rdotOf1Cnt : List (Nat × Nat) := []
def rdotOf1T999 (d1 : Nat) (tT : Nat) (tb : Nat) (l2 : Int) (nm : ByteArray) (l3 : Int) (l : Int) (B1_1 : Nat) (B1 : Nat) (L9 : Nat → Bool) (α : Rega.Atoms) : Rw := if L9 8 = true then row (B1_1) 35 #[.iface tT (.pointer (some ⟨tb, 0, none⟩)), .int .i32 l2] else row (B1_1) 35 #[.nilIface, .int .i32 0]
def rdotOf1R (d1 : Nat) (tT : Nat) (tb : Nat) (l2 : Int) (nm : ByteArray) (l3 : Int) (l : Int) (B1_1 : Nat) (B1 : Nat) (L9 : Nat → Bool) (α : Rega.Atoms) (ix9 : Nat) : Rw := if ix9 = 999 then rdotOf1T999 d1 tT tb l2 nm l3 l B1_1 B1 L9 α else if ix9 = 1999 then row (B1) 35 #[.iface 225 (.pointer (some ⟨d1, 0, none⟩)), .int .i32 l] else if ix9 = 2999 then row (d1) 228 #[.iface tT (.pointer (some ⟨tb, 0, none⟩)), .int .i32 l2, .string nm, .int .i32 l3, .int .u8 0, .bool false, .bool false, .bool false] else (0, .map #[] 0)
theorem rdotOf1_he (d1 : Nat) (tT : Nat) (tb : Nat) (l2 : Int) (nm : ByteArray) (l3 : Int) (l : Int) (B1_1 : Nat) (B1 : Nat) : ∀ kk α α', (∀ j, (j % 1000 = kk ∨ j % 1000 ∈ rdotOf1Anc kk) → α j = α' j) → rdotOf1E d1 tT tb l2 nm l3 l B1_1 B1 kk α = rdotOf1E d1 tT tb l2 nm l3 l B1_1 B1 kk α' := by
  intro kk α α' h
  match kk with
  | 0 => rfl
  | 1 => rfl
  | 2 => rfl
  | 3 => rfl
  | 4 => rfl
  | 5 => rfl
  | 6 => rfl
  | 7 => rfl
  | 8 => rfl
  | 9 => rfl
  | 10 => rfl
  | n + 11 => rfl
theorem rdotOf1_st (d1 : Nat) (tT : Nat) (tb : Nat) (l2 : Int) (nm : ByteArray) (l3 : Int) (l : Int) (B1_1 : Nat) (B1 : Nat) : Stable rdotOf1Cnt 3 rdotOf1Anc rdotOf1Trn (rdotOf1R d1 tT tb l2 nm l3 l B1_1 B1) := by
  intro k9 L9 α α' ix9 hk hcl hα hact ht
  have hp := act_places hact
  replace hp : ix9 ∈ [999, 1999, 2999] := hp
  simp only [List.mem_cons, List.not_mem_nil, or_false] at hp
  rcases hp with rfl | rfl | rfl
  · show rdotOf1T999 d1 tT tb l2 nm l3 l B1_1 B1 (Rega.ran L9 k9) α' = rdotOf1T999 d1 tT tb l2 nm l3 l B1_1 B1 L9 α
    unfold rdotOf1T999
    have n8 : 8 ≠ k9 := fun e => ht (by rw [← e]; decide)
    rw [ran_ne n8]
  · rfl
  · rfl
def dotOfPost (d1 tT tb : Nat) (l2 : Int) (nm : ByteArray) (l3 l : Int) (w0 : World) (X : Nat → Obj → Prop) (e : Ending) (w' : World) : Prop :=
  e = .returned (.tuple #[.agg #[.iface tT (.pointer (some ⟨tb, 0, none⟩)), .int .i32 l2], .string nm, .bool true]) ∧ Own w0 w' [row (d1) 228 #[.iface tT (.pointer (some ⟨tb, 0, none⟩)), .int .i32 l2, .string nm, .int .i32 l3, .int .u8 0, .bool false, .bool false, .bool false]] X
set_option maxRecDepth 100000 in
set_option maxHeartbeats 1000000 in
theorem dotOf (d1 tT tb : Nat) (l2 : Int) (nm : ByteArray) (l3 l : Int) (w0 w : World) (X : Nat → Obj → Prop) (hO : Own w0 w [row (d1) 228 #[.iface tT (.pointer (some ⟨tb, 0, none⟩)), .int .i32 l2, .string nm, .int .i32 l3, .int .u8 0, .bool false, .bool false, .bool false]] X)  :
    Calls Tryd.prog 30 #[.agg #[.iface 225 (.pointer (some ⟨d1, 0, none⟩)), .int .i32 l]] w (dotOfPost d1 tT tb l2 nm l3 l w0 X) := by
  go_enter Tryd.func30, Tryd.ntmps30
  obtain ⟨c9_0_0, c9_0_1, c9_0_2, c9_0_3, c9_0_4, c9_0_5, c9_0_6, c9_0_7, lt9_0, y9_0, -⟩ := hO.k8 0 rfl
  have HO := Lib.hid hO
  clear hO
  go_wp2_with (first | (with_reducible refine Own.stay (fn := Tryd.f30) ?_) | fail)
  try with_reducible refine Own.Stay.mk ?_
  have hO := HO.out
  clear HO c9_0_0 c9_0_1 c9_0_2 c9_0_3 c9_0_4 c9_0_5 c9_0_6 c9_0_7 lt9_0 y9_0
  generalize hW : World.alloc _ _ = W2
  have hN : Own w0 W2 [row (w.heap.size + 1) 35 #[.nilIface, .int .i32 0], row (w.heap.size) 35 #[.iface 225 (.pointer (some ⟨d1, 0, none⟩)), .int .i32 l], row (d1) 228 #[.iface tT (.pointer (some ⟨tb, 0, none⟩)), .int .i32 l2, .string nm, .int .i32 l3, .int .u8 0, .bool false, .bool false, .bool false]] X := by
    rw [← hW]
    exact ((hO).alloc' _ (w.heap.size) (by simp)).alloc' _ (w.heap.size + 1) (by simp)
  clear hW hO
  generalize w.heap.size + 1 = B1_1 at hN ⊢
  generalize w.heap.size = B1 at hN ⊢
  have hO := hN
  clear hN
  have st9 := rdotOf1_st d1 tT tb l2 nm l3 l B1_1 B1
  refine wp_region_own (e := rdotOf1E d1 tT tb l2 nm l3 l B1_1 B1) (anc := rdotOf1Anc) (G := (fun L9 α u9 => OwnF w0 u9 (act rdotOf1Cnt 3 L9) (rdotOf1R d1 tT tb l2 nm l3 l B1_1 B1 L9 α) X)) (by kernel_rfl) (by kernel_rfl) (by kernel_rfl) (by kernel_rfl) (rdotOf1_he d1 tT tb l2 nm l3 l B1_1 B1) ?_ (RunsAll.all ?_) ?_
  · have hp : ∀ i, act rdotOf1Cnt 3 (fun _ => false) i → i ∈ [999, 1999, 2999] := by
      intro i hi
      have h9 : i % 1000 = 999 := by
        by_cases h : i % 1000 = 999
        · exact h
        · exact absurd (act_lt hi h) (by simp)
      unfold act at hi
      rw [if_pos h9] at hi
      simp only [List.mem_cons, List.not_mem_nil, or_false]
      omega
    refine hO.drew.family (fun i hi => ?_) (fun i j hi hj hij => ?_)
    · have := hp i hi
      simp only [List.mem_cons, List.not_mem_nil, or_false] at this
      rcases this with rfl | rfl | rfl <;> rfl
    · have h1 := hp i hi
      have h2 := hp j hj
      simp only [List.mem_cons, List.not_mem_nil, or_false] at h1 h2
      omega
  · refine ⟨?_, ?_, ?_, ?_, ?_, ?_, ?_, ?_, ?_, ?_, ?_, trivial⟩
    · intro L9 α a9 u9 K9 hL hcl hA hG hS h0 hK
      replace hL : L9 0 = false := hL
      have q5 : a9.tmps[5]? = some (.pointer (some ⟨d1, 0, none⟩)) := (h0 5 (by kernel_rfl)).trans rfl
      have s5 := Rega.eval_of q5
      go_simp
      exact hK _ α _ (fun _ _ => rfl) rfl (step_same (st9) hL hcl rfl rfl hG)
    · intro L9 α a9 u9 K9 hL hcl hA hG hS h0 hK
      replace hL : L9 1 = false := hL
      have q16 : a9.tmps[16]? = some (.pointer (some ⟨d1, 0, none⟩)) := hS 0 16 (by decide) rfl (by show 16 < 24; decide)
      have s16 := Rega.eval_of q16
      go_simp
      exact hK _ α _ (fun _ _ => rfl) rfl (step_same (st9) hL hcl rfl rfl hG)
    · intro L9 α a9 u9 K9 hL hcl hA hG hS h0 hK
      replace hL : L9 2 = false := hL
      have q17 : a9.tmps[17]? = some (.pointer (some ⟨d1, 0, none⟩)) := hS 1 17 (by decide) rfl (by show 17 < 24; decide)
      have s17 := Rega.eval_of q17
      go_simp
      exact hK _ α _ (fun _ _ => rfl) rfl (step_same (st9) hL hcl rfl rfl hG)
    · intro L9 α a9 u9 K9 hL hcl hA hG hS h0 hK
      replace hL : L9 3 = false := hL
      have q18 : a9.tmps[18]? = some (.pointer (some ⟨d1, 0, none⟩)) := hS 2 18 (by decide) rfl (by show 18 < 24; decide)
      have s18 := Rega.eval_of q18
      have e0 : rdotOf1R d1 tT tb l2 nm l3 l B1_1 B1 L9 α 2999 = row (d1) 228 #[.iface tT (.pointer (some ⟨tb, 0, none⟩)), .int .i32 l2, .string nm, .int .i32 l3, .int .u8 0, .bool false, .bool false, .bool false] := rfl
      have hr := hG.rowAt 2999 (act_base 2999 rfl) e0
      have c0 : u9.cell? ⟨d1, 0, none⟩ = some (.iface tT (.pointer (some ⟨tb, 0, none⟩))) := hr.cell rfl
      have c1 : u9.cell? ⟨d1, 1, none⟩ = some (.int .i32 l2) := hr.cell rfl
      clear hr e0
      go_simp
      exact hK _ α _ (fun _ _ => rfl) rfl (step_same (st9) hL hcl rfl rfl hG)
    · intro L9 α a9 u9 K9 hL hcl hA hG hS h0 hK
      replace hL : L9 4 = false := hL
      have q5 : a9.tmps[5]? = some (.pointer (some ⟨d1, 0, none⟩)) := (h0 5 (by kernel_rfl)).trans rfl
      have s5 := Rega.eval_of q5
      go_simp
      exact hK _ α _ (fun _ _ => rfl) rfl (step_same (st9) hL hcl rfl rfl hG)
    · intro L9 α a9 u9 K9 hL hcl hA hG hS h0 hK
      replace hL : L9 5 = false := hL
      have q20 : a9.tmps[20]? = some (.pointer (some ⟨d1, 0, none⟩)) := hS 4 20 (by decide) rfl (by show 20 < 24; decide)
      have s20 := Rega.eval_of q20
      go_simp
      exact hK _ α _ (fun _ _ => rfl) rfl (step_same (st9) hL hcl rfl rfl hG)
    · intro L9 α a9 u9 K9 hL hcl hA hG hS h0 hK
      replace hL : L9 6 = false := hL
      have q21 : a9.tmps[21]? = some (.pointer (some ⟨d1, 0, none⟩)) := hS 5 21 (by decide) rfl (by show 21 < 24; decide)
      have s21 := Rega.eval_of q21
      go_simp
      exact hK _ α _ (fun _ _ => rfl) rfl (step_same (st9) hL hcl rfl rfl hG)
    · intro L9 α a9 u9 K9 hL hcl hA hG hS h0 hK
      replace hL : L9 7 = false := hL
      have q22 : a9.tmps[22]? = some (.pointer (some ⟨d1, 2, none⟩)) := hS 6 22 (by decide) rfl (by show 22 < 24; decide)
      have s22 := Rega.eval_of q22
      have e0 : rdotOf1R d1 tT tb l2 nm l3 l B1_1 B1 L9 α 2999 = row (d1) 228 #[.iface tT (.pointer (some ⟨tb, 0, none⟩)), .int .i32 l2, .string nm, .int .i32 l3, .int .u8 0, .bool false, .bool false, .bool false] := rfl
      have hr := hG.rowAt 2999 (act_base 2999 rfl) e0
      have c0 : u9.cell? ⟨d1, 2, none⟩ = some (.string nm) := hr.cell rfl
      clear hr e0
      go_simp
      exact hK _ α _ (fun _ _ => rfl) rfl (step_same (st9) hL hcl rfl rfl hG)
    · intro L9 α a9 u9 K9 hL hcl hA hG hS h0 hK
      replace hL : L9 8 = false := hL
      have q2 : a9.tmps[2]? = some (.pointer (some ⟨B1_1, 0, none⟩)) := (h0 2 (by kernel_rfl)).trans rfl
      have s2 := Rega.eval_of q2
      have q19 : a9.tmps[19]? = some (.agg #[.iface tT (.pointer (some ⟨tb, 0, none⟩)), .int .i32 l2]) := hS 3 19 (by decide) rfl (by show 19 < 24; decide)
      have s19 := Rega.eval_of q19
      have e0 : rdotOf1R d1 tT tb l2 nm l3 l B1_1 B1 L9 α 999 = row (B1_1) 35 #[.nilIface, .int .i32 0] := by
        show rdotOf1T999 d1 tT tb l2 nm l3 l B1_1 B1 L9 α = _
        unfold rdotOf1T999
        rw [if_neg (by rw [hL]; decide)]
      have hr := hG.rowAt 999 (act_base 999 rfl) e0
      have c0 : u9.cell? ⟨B1_1, 0, none⟩ = some (.nilIface) := hr.cell rfl
      have y0 : u9.frozen? ⟨B1_1, 0, none⟩ = false := hr.free 0
      have c1 : u9.cell? ⟨B1_1, 1, none⟩ = some (.int .i32 0) := hr.cell rfl
      have y1 : u9.frozen? ⟨B1_1, 1, none⟩ = false := hr.free 1
      clear hr
      have E0 := Lib.hid e0
      clear e0
      go_simp
      have e1 : rdotOf1R d1 tT tb l2 nm l3 l B1_1 B1 (Rega.ran L9 8) α 999 = row (B1_1) 35 #[.iface tT (.pointer (some ⟨tb, 0, none⟩)), .int .i32 l2] := by
        show rdotOf1T999 d1 tT tb l2 nm l3 l B1_1 B1 (Rega.ran L9 8) α = _
        unfold rdotOf1T999
        rw [if_pos (show Rega.ran L9 8 8 = true from rfl)]
      exact hK _ α _ (fun _ _ => rfl) rfl (step_sets (st9) hL hcl rfl 999 rfl (act_base 999 rfl) E0.out 0 [.iface tT (.pointer (some ⟨tb, 0, none⟩)), .int .i32 l2] (e1.trans rfl) hG)
    · intro L9 α a9 u9 K9 hL hcl hA hG hS h0 hK
      replace hL : L9 9 = false := hL
      have q23 : a9.tmps[23]? = some (.string nm) := hS 7 23 (by decide) rfl (by show 23 < 24; decide)
      have s23 := Rega.eval_of q23
      go_simp
      exact hK _ α _ (fun _ _ => rfl) rfl (step_same (st9) hL hcl rfl rfl hG)
    · intro L9 α a9 u9 K9 hL hcl hA hG hS h0 hK
      replace hL : L9 10 = false := hL
      go_simp
      exact hK _ α _ (fun _ _ => rfl) rfl (step_same (st9) hL hcl rfl rfl hG)
  clear st9
  intro α u hG
  have e0 : rdotOf1R d1 tT tb l2 nm l3 l B1_1 B1 (fun k => decide (k < 11)) α 999 = row (B1_1) 35 #[.iface tT (.pointer (some ⟨tb, 0, none⟩)), .int .i32 l2] := by
    show rdotOf1T999 d1 tT tb l2 nm l3 l B1_1 B1 (fun k => decide (k < 11)) α = _
    unfold rdotOf1T999
    rw [if_pos (by decide)]
  have e1 : rdotOf1R d1 tT tb l2 nm l3 l B1_1 B1 (fun k => decide (k < 11)) α 1999 = row (B1) 35 #[.iface 225 (.pointer (some ⟨d1, 0, none⟩)), .int .i32 l] := rfl
  have e2 : rdotOf1R d1 tT tb l2 nm l3 l B1_1 B1 (fun k => decide (k < 11)) α 2999 = row (d1) 228 #[.iface tT (.pointer (some ⟨tb, 0, none⟩)), .int .i32 l2, .string nm, .int .i32 l3, .int .u8 0, .bool false, .bool false, .bool false] := rfl
  have hO : Own w0 u [row (B1_1) 35 #[.iface tT (.pointer (some ⟨tb, 0, none⟩)), .int .i32 l2], row (B1) 35 #[.iface 225 (.pointer (some ⟨d1, 0, none⟩)), .int .i32 l], row (d1) 228 #[.iface tT (.pointer (some ⟨tb, 0, none⟩)), .int .i32 l2, .string nm, .int .i32 l3, .int .u8 0, .bool false, .bool false, .bool false]] X := (hG.list [999, 1999, 2999] (by decide) (act_all (by decide))).conv (by
    show [rdotOf1R d1 tT tb l2 nm l3 l B1_1 B1 (fun k => decide (k < 11)) α 999, rdotOf1R d1 tT tb l2 nm l3 l B1_1 B1 (fun k => decide (k < 11)) α 1999, rdotOf1R d1 tT tb l2 nm l3 l B1_1 B1 (fun k => decide (k < 11)) α 2999] = _
    rw [e0, e1, e2])
  clear hG e0 e1 e2
  generalize hfr : Rega.frameAt _ _ _ _ _ = fr
  have hdf : fr = ⟨#[.agg #[.iface 225 (.pointer (some ⟨d1, 0, none⟩)), .int .i32 l], .pointer (some ⟨B1, 0, none⟩), .pointer (some ⟨B1_1, 0, none⟩), .string nm, .bool true, .pointer (some ⟨d1, 0, none⟩), .bool true, .tuple #[.pointer (some ⟨d1, 0, none⟩), .bool true], .pointer (some ⟨B1, 0, none⟩), .iface 225 (.pointer (some ⟨d1, 0, none⟩)), .tuple #[.pointer (some ⟨d1, 0, none⟩), .bool true], .pointer (some ⟨d1, 0, none⟩), .bool true, .bool true, .bool false, undef, .pointer (some ⟨d1, 0, none⟩), .pointer (some ⟨d1, 0, none⟩), .pointer (some ⟨d1, 0, none⟩), .agg #[.iface tT (.pointer (some ⟨tb, 0, none⟩)), .int .i32 l2], .pointer (some ⟨d1, 0, none⟩), .pointer (some ⟨d1, 0, none⟩), .pointer (some ⟨d1, 2, none⟩), .string nm], []⟩ := by rw [← hfr]; kernel_rfl
  clear hfr
  subst hdf
  clear α
  obtain ⟨c9_0_0, c9_0_1, lt9_0, y9_0, -⟩ := hO.k2 0 rfl
  obtain ⟨c9_1_0, c9_1_1, lt9_1, y9_1, -⟩ := hO.k2 1 rfl
  obtain ⟨c9_2_0, c9_2_1, c9_2_2, c9_2_3, c9_2_4, c9_2_5, c9_2_6, c9_2_7, lt9_2, y9_2, -⟩ := hO.k8 2 rfl
  have HO := Lib.hid hO
  clear hO
  go_wp2_with (first | (with_reducible refine Own.stay (fn := Tryd.f30) ?_) | fail)
  try with_reducible refine Own.Stay.mk ?_
  have hO := HO.out
  clear HO c9_0_0 c9_0_1 lt9_0 y9_0 c9_1_0 c9_1_1 lt9_1 y9_1 c9_2_0 c9_2_1 c9_2_2 c9_2_3 c9_2_4 c9_2_5 c9_2_6 c9_2_7 lt9_2 y9_2
  have z9_0_0 : u.cell? ⟨B1_1, 0, none⟩ = some (.iface tT (.pointer (some ⟨tb, 0, none⟩))) := hO.cell 0 rfl 0 rfl
  have z9_0_1 : u.cell? ⟨B1_1, 1, none⟩ = some (.int .i32 l2) := hO.cell 0 rfl 1 rfl
  refine bodyPost_ret (v := .tuple #[.agg #[.iface tT (.pointer (some ⟨tb, 0, none⟩)), .int .i32 l2], .string nm, .bool true]) ?_ rfl ⟨rfl, hO.sub [2] (by decide)⟩
  simp [results, Tryd.results30, go_sem, z9_0_0, z9_0_1]
def stringOfPost (eb ub ln cp : Nat) (l : Int) (w0 : World) (X : Nat → Obj → Prop) (e : Ending) (w' : World) : Prop :=
  e = .returned (.tuple #[.slice (some ⟨ub, 0, none⟩) ln cp, .bool true]) ∧ Own w0 w' [row (eb) 208 #[.slice (some ⟨ub, 0, none⟩) ln cp, .int .i32 0, .bool false, .bool false, .bool false]] X
set_option maxRecDepth 100000 in
set_option maxHeartbeats 1000000 in
theorem stringOf (eb ub ln cp : Nat) (l : Int) (w0 w : World) (X : Nat → Obj → Prop) (hO : Own w0 w [row (eb) 208 #[.slice (some ⟨ub, 0, none⟩) ln cp, .int .i32 0, .bool false, .bool false, .bool false]] X)  :
    Calls Tryd.prog 41 #[.agg #[.iface 206 (.pointer (some ⟨eb, 0, none⟩)), .int .i32 l]] w (stringOfPost eb ub ln cp l w0 X) := by
  go_enter Tryd.func41, Tryd.ntmps41
  obtain ⟨c9_0_0, c9_0_1, c9_0_2, c9_0_3, c9_0_4, lt9_0, y9_0, -⟩ := hO.k5 0 rfl
  have HO := Lib.hid hO
  clear hO
  go_wp2_with (first | (with_reducible refine Own.stay (fn := Tryd.f41) ?_) | fail)
  try with_reducible refine Own.Stay.mk ?_
  have hO := HO.out
  clear HO c9_0_0 c9_0_1 c9_0_2 c9_0_3 c9_0_4 lt9_0 y9_0
  generalize hW : World.alloc _ _ = W2
  have hN : Own w0 W2 [row (w.heap.size) 35 #[.iface 206 (.pointer (some ⟨eb, 0, none⟩)), .int .i32 l], row (eb) 208 #[.slice (some ⟨ub, 0, none⟩) ln cp, .int .i32 0, .bool false, .bool false, .bool false]] X := by
    rw [← hW]
    exact (hO).alloc' _ (w.heap.size) (by simp)
  clear hW hO
  generalize w.heap.size = B1 at hN ⊢
  have hO := hN
  clear hN
  refine bodyPost_ret (v := .tuple #[.slice (some ⟨ub, 0, none⟩) ln cp, .bool true]) ?_ rfl ⟨rfl, hO.sub [1] (by decide)⟩
  simp [results, Tryd.results41, go_sem]
def isThisOPost (b : Nat) (l : Int) (w0 : World) (X : Nat → Obj → Prop) (e : Ending) (w' : World) : Prop :=
  e = .returned (.bool true) ∧ Own w0 w' [] X
set_option maxRecDepth 100000 in
set_option maxHeartbeats 1000000 in
theorem isThisO (b : Nat) (l : Int) (w0 w : World) (X : Nat → Obj → Prop) (hO : Own w0 w [] X)  :
    Calls Tryd.prog 36 #[.agg #[.iface 237 (.pointer (some ⟨b, 0, none⟩)), .int .i32 l]] w (isThisOPost b l w0 X) := by
  go_enter Tryd.func36, Tryd.ntmps36
  go_wp2_with (first | (with_reducible refine Own.stay (fn := Tryd.f36) ?_) | fail)
  try with_reducible refine Own.Stay.mk ?_
  generalize hW : World.alloc _ _ = W2
  have hN : Own w0 W2 [row (w.heap.size) 35 #[.iface 237 (.pointer (some ⟨b, 0, none⟩)), .int .i32 l]] X := by
    rw [← hW]
    exact (hO).alloc' _ (w.heap.size) (by simp)
  clear hW hO
  generalize w.heap.size = B1 at hN ⊢
  have hO := hN
  clear hN
  refine bodyPost_ret (v := .bool true) ?_ rfl ⟨rfl, hO.sub [] (by decide)⟩
  simp [results, Tryd.results36, go_sem]
def helperCall3Post (ca b sx : Nat) (l l2 hs hi : Int) (w0 : World) (X : Nat → Obj → Prop) (e : Ending) (w' : World) : Prop :=
  e = .returned (.tuple #[.slice (some ⟨sx, 0, none⟩) 3 3, .bool true]) ∧ Own w0 w' [row (ca) 71 #[.iface 209 (.pointer (some ⟨b, 0, none⟩)), .int .i32 l2, .slice (some ⟨sx, 0, none⟩) 3 3, .int .i32 0, .int .u8 0, .int .u8 0, .bool false, .bool false], row (b) 211 #[.int .u32 hs, .int .u32 hi, .bool false, .bool false, .bool false]] X
set_option maxRecDepth 100000 in
set_option maxHeartbeats 1000000 in
theorem helperCall3 (ca b sx : Nat) (l l2 hs hi : Int) (w0 w : World) (X : Nat → Obj → Prop) (hO : Own w0 w [row (ca) 71 #[.iface 209 (.pointer (some ⟨b, 0, none⟩)), .int .i32 l2, .slice (some ⟨sx, 0, none⟩) 3 3, .int .i32 0, .int .u8 0, .int .u8 0, .bool false, .bool false], row (b) 211 #[.int .u32 hs, .int .u32 hi, .bool false, .bool false, .bool false]] X)  :
    Calls Tryd.prog 17 #[.agg #[.iface 65 (.pointer (some ⟨ca, 0, none⟩)), .int .i32 l], .agg #[.int .u32 hs, .int .u32 hi], .int .i64 3] w (helperCall3Post ca b sx l l2 hs hi w0 X) := by
  go_enter Tryd.func17, Tryd.ntmps17
  obtain ⟨ix9, hix9, hax9, hjx9⟩ := hO.ix
  have ix9_0 : ix9 ca = 0 := hjx9 0 _ _ rfl
  have ix9_1 : ix9 b = 1 := hjx9 1 _ _ rfl
  clear hjx9
  obtain ⟨c9_0_0, c9_0_1, c9_0_2, c9_0_3, c9_0_4, c9_0_5, c9_0_6, c9_0_7, lt9_0, y9_0, -⟩ := hO.k8 0 rfl
  obtain ⟨c9_1_0, c9_1_1, c9_1_2, c9_1_3, c9_1_4, lt9_1, y9_1, -⟩ := hO.k5 1 rfl
  have HO := Lib.hid hO
  clear hO
  go_wp2_with (first | (with_reducible refine Own.stay (fn := Tryd.f17) ?_) | fail)
  try with_reducible refine Own.Stay.mk ?_
  have hO := HO.out
  clear HO hix9 hax9 ix9_0 ix9_1 ix9 c9_0_0 c9_0_1 c9_0_2 c9_0_3 c9_0_4 c9_0_5 c9_0_6 c9_0_7 lt9_0 y9_0 c9_1_0 c9_1_1 c9_1_2 c9_1_3 c9_1_4 lt9_1 y9_1
  generalize hW : World.alloc _ _ = W2
  have hN : Own w0 W2 [row (w.heap.size + 1) 25 #[.int .u32 hs, .int .u32 hi], row (w.heap.size) 35 #[.iface 65 (.pointer (some ⟨ca, 0, none⟩)), .int .i32 l], row (ca) 71 #[.iface 209 (.pointer (some ⟨b, 0, none⟩)), .int .i32 l2, .slice (some ⟨sx, 0, none⟩) 3 3, .int .i32 0, .int .u8 0, .int .u8 0, .bool false, .bool false], row (b) 211 #[.int .u32 hs, .int .u32 hi, .bool false, .bool false, .bool false]] X := by
    rw [← hW]
    exact ((hO).alloc' _ (w.heap.size) (by simp)).alloc' _ (w.heap.size + 1) (by simp)
  clear hW hO
  generalize w.heap.size + 1 = B1_1 at hN ⊢
  generalize w.heap.size = B1 at hN ⊢
  have hO := hN
  clear hN
  have hL := hO.apart
  have hX := hO.apartX
  have HL := Lib.hid hL
  have HX := Lib.hid hX
  clear hL hX
  have hP9 := hO.pick [2] (by decide)
  have T9 := callOf ca 209 b l2 sx 3 3 l _ _ _ hP9 
  refine Calls.mono T9 ?_
  clear hP9 T9
  rintro e u3 ⟨rfl, hQ⟩
  have hN : Own w0 u3 [row (ca) 71 #[.iface 209 (.pointer (some ⟨b, 0, none⟩)), .int .i32 l2, .slice (some ⟨sx, 0, none⟩) 3 3, .int .i32 0, .int .u8 0, .int .u8 0, .bool false, .bool false], row (B1_1) 25 #[.int .u32 hs, .int .u32 hi], row (B1) 35 #[.iface 65 (.pointer (some ⟨ca, 0, none⟩)), .int .i32 l], row (b) 211 #[.int .u32 hs, .int .u32 hi, .bool false, .bool false, .bool false]] X := hQ.back HL.out HX.out [0, 1, 3] (by decide) (by decide)
  clear hQ HL HX hO
  have hO := hN
  clear hN
  obtain ⟨ix9, hix9, hax9, hjx9⟩ := hO.ix
  have ix9_0 : ix9 ca = 0 := hjx9 0 _ _ rfl
  have ix9_1 : ix9 B1_1 = 1 := hjx9 1 _ _ rfl
  have ix9_2 : ix9 B1 = 2 := hjx9 2 _ _ rfl
  have ix9_3 : ix9 b = 3 := hjx9 3 _ _ rfl
  clear hjx9
  obtain ⟨c9_0_0, c9_0_1, c9_0_2, c9_0_3, c9_0_4, c9_0_5, c9_0_6, c9_0_7, lt9_0, y9_0, -⟩ := hO.k8 0 rfl
  obtain ⟨c9_1_0, c9_1_1, lt9_1, y9_1, -⟩ := hO.k2 1 rfl
  obtain ⟨c9_2_0, c9_2_1, lt9_2, y9_2, -⟩ := hO.k2 2 rfl
  obtain ⟨c9_3_0, c9_3_1, c9_3_2, c9_3_3, c9_3_4, lt9_3, y9_3, -⟩ := hO.k5 3 rfl
  have HO := Lib.hid hO
  clear hO
  go_wp2_with (first | (with_reducible refine Own.stay (fn := Tryd.f17) ?_) | fail)
  try with_reducible refine Own.Stay.mk ?_
  have hO := HO.out
  clear HO hix9 hax9 ix9_0 ix9_1 ix9_2 ix9_3 ix9 c9_0_0 c9_0_1 c9_0_2 c9_0_3 c9_0_4 c9_0_5 c9_0_6 c9_0_7 lt9_0 y9_0 c9_1_0 c9_1_1 lt9_1 y9_1 c9_2_0 c9_2_1 lt9_2 y9_2 c9_3_0 c9_3_1 c9_3_2 c9_3_3 c9_3_4 lt9_3 y9_3
  generalize hW : World.alloc _ _ = W5
  have hN : Own w0 W5 [row (u3.heap.size) 35 #[.iface 209 (.pointer (some ⟨b, 0, none⟩)), .int .i32 l2], row (ca) 71 #[.iface 209 (.pointer (some ⟨b, 0, none⟩)), .int .i32 l2, .slice (some ⟨sx, 0, none⟩) 3 3, .int .i32 0, .int .u8 0, .int .u8 0, .bool false, .bool false], row (B1_1) 25 #[.int .u32 hs, .int .u32 hi], row (B1) 35 #[.iface 65 (.pointer (some ⟨ca, 0, none⟩)), .int .i32 l], row (b) 211 #[.int .u32 hs, .int .u32 hi, .bool false, .bool false, .bool false]] X := by
    rw [← hW]
    exact (hO).alloc' _ (u3.heap.size) (by simp)
  clear hW hO
  generalize u3.heap.size = B4 at hN ⊢
  have hO := hN
  clear hN
  have hL := hO.apart
  have hX := hO.apartX
  have HL := Lib.hid hL
  have HX := Lib.hid hX
  clear hL hX
  have hP9 := hO.pick [4] (by decide)
  have T9 := identOf b l2 hs hi _ _ _ hP9 
  refine Calls.mono T9 ?_
  clear hP9 T9
  rintro e u6 ⟨rfl, hQ⟩
  have hN : Own w0 u6 [row (b) 211 #[.int .u32 hs, .int .u32 hi, .bool false, .bool false, .bool false], row (B4) 35 #[.iface 209 (.pointer (some ⟨b, 0, none⟩)), .int .i32 l2], row (ca) 71 #[.iface 209 (.pointer (some ⟨b, 0, none⟩)), .int .i32 l2, .slice (some ⟨sx, 0, none⟩) 3 3, .int .i32 0, .int .u8 0, .int .u8 0, .bool false, .bool false], row (B1_1) 25 #[.int .u32 hs, .int .u32 hi], row (B1) 35 #[.iface 65 (.pointer (some ⟨ca, 0, none⟩)), .int .i32 l]] X := hQ.back HL.out HX.out [0, 1, 2, 3] (by decide) (by decide)
  clear hQ HL HX hO
  have hO := hN
  clear hN
  obtain ⟨ix9, hix9, hax9, hjx9⟩ := hO.ix
  have ix9_0 : ix9 b = 0 := hjx9 0 _ _ rfl
  have ix9_1 : ix9 B4 = 1 := hjx9 1 _ _ rfl
  have ix9_2 : ix9 ca = 2 := hjx9 2 _ _ rfl
  have ix9_3 : ix9 B1_1 = 3 := hjx9 3 _ _ rfl
  have ix9_4 : ix9 B1 = 4 := hjx9 4 _ _ rfl
  clear hjx9
  obtain ⟨c9_0_0, c9_0_1, c9_0_2, c9_0_3, c9_0_4, lt9_0, y9_0, -⟩ := hO.k5 0 rfl
  obtain ⟨c9_1_0, c9_1_1, lt9_1, y9_1, pl9_1⟩ := hO.k2 1 rfl
  obtain ⟨c9_2_0, c9_2_1, c9_2_2, c9_2_3, c9_2_4, c9_2_5, c9_2_6, c9_2_7, lt9_2, y9_2, -⟩ := hO.k8 2 rfl
  obtain ⟨c9_3_0, c9_3_1, lt9_3, y9_3, -⟩ := hO.k2 3 rfl
  obtain ⟨c9_4_0, c9_4_1, lt9_4, y9_4, pl9_4⟩ := hO.k2 4 rfl
  have HO := Lib.hid hO
  clear hO
  go_wp2_with (first | (with_reducible refine Own.stay (fn := Tryd.f17) ?_) | fail)
  try with_reducible refine Own.Stay.mk ?_
  have hO := HO.out
  clear HO hix9 hax9 ix9_0 ix9_1 ix9_2 ix9_3 ix9_4 ix9 c9_0_0 c9_0_1 c9_0_2 c9_0_3 c9_0_4 lt9_0 y9_0 c9_1_0 c9_1_1 lt9_1 y9_1 pl9_1 c9_2_0 c9_2_1 c9_2_2 c9_2_3 c9_2_4 c9_2_5 c9_2_6 c9_2_7 lt9_2 y9_2 c9_3_0 c9_3_1 lt9_3 y9_3 c9_4_0 c9_4_1 lt9_4 y9_4 pl9_4
  generalize hW : World.alloc _ _ = W8
  have hN : Own w0 W8 [row (u6.heap.size) 25 #[.int .u32 hs, .int .u32 hi], row (b) 211 #[.int .u32 hs, .int .u32 hi, .bool false, .bool false, .bool false], row (B4) 35 #[.iface 209 (.pointer (some ⟨b, 0, none⟩)), .int .i32 l2], row (ca) 71 #[.iface 209 (.pointer (some ⟨b, 0, none⟩)), .int .i32 l2, .slice (some ⟨sx, 0, none⟩) 3 3, .int .i32 0, .int .u8 0, .int .u8 0, .bool false, .bool false], row (B1_1) 25 #[.int .u32 hs, .int .u32 hi], row (B1) 35 #[.iface 65 (.pointer (some ⟨ca, 0, none⟩)), .int .i32 l]] X := by
    rw [← hW]
    exact (hO).alloc' _ (u6.heap.size) (by simp)
  clear hW hO
  generalize u6.heap.size = B7 at hN ⊢
  have hO := hN
  clear hN
  refine bodyPost_ret (v := .tuple #[.slice (some ⟨sx, 0, none⟩) 3 3, .bool true]) ?_ rfl ⟨rfl, hO.sub [3, 1] (by decide)⟩
  simp [results, Tryd.results17, go_sem]
def classArg0Post (i1 : Nat) (l : Int) (d1 : Nat) (l2 : Int) (w0 : World) (X : Nat → Obj → Prop) (e : Ending) (w' : World) : Prop :=
  e = .returned (.bool true) ∧ Own w0 w' [row (i1) 211 #[.int .u32 0, .int .u32 0, .bool false, .bool false, .bool false], row (d1) 228 #[.iface 209 (.pointer (some ⟨i1, 0, none⟩)), .int .i32 l2, .string ⟨#[112, 114, 111, 116, 111, 116, 121, 112, 101]⟩, .int .i32 l2, .int .u8 0, .bool false, .bool false, .bool false]] X
set_option maxRecDepth 100000 in
set_option maxHeartbeats 1000000 in
theorem classArg0 (i1 : Nat) (l : Int) (d1 : Nat) (l2 : Int) (w0 w : World) (X : Nat → Obj → Prop) (hO : Own w0 w [row (i1) 211 #[.int .u32 0, .int .u32 0, .bool false, .bool false, .bool false], row (d1) 228 #[.iface 209 (.pointer (some ⟨i1, 0, none⟩)), .int .i32 l2, .string ⟨#[112, 114, 111, 116, 111, 116, 121, 112, 101]⟩, .int .i32 l2, .int .u8 0, .bool false, .bool false, .bool false]] X)  :
    Calls Tryd.prog 23 #[.agg #[.iface 225 (.pointer (some ⟨d1, 0, none⟩)), .int .i32 l], .agg #[.int .u32 0, .int .u32 0], .bool false] w (classArg0Post i1 l d1 l2 w0 X) := by
  go_enter Tryd.func23, Tryd.ntmps23
  obtain ⟨ix9, hix9, hax9, hjx9⟩ := hO.ix
  have ix9_0 : ix9 i1 = 0 := hjx9 0 _ _ rfl
  have ix9_1 : ix9 d1 = 1 := hjx9 1 _ _ rfl
  clear hjx9
  obtain ⟨c9_0_0, c9_0_1, c9_0_2, c9_0_3, c9_0_4, lt9_0, y9_0, -⟩ := hO.k5 0 rfl
  obtain ⟨c9_1_0, c9_1_1, c9_1_2, c9_1_3, c9_1_4, c9_1_5, c9_1_6, c9_1_7, lt9_1, y9_1, -⟩ := hO.k8 1 rfl
  have HO := Lib.hid hO
  clear hO
  go_wp2_with (first | (with_reducible refine Own.stay (fn := Tryd.f23) ?_) | fail)
  try with_reducible refine Own.Stay.mk ?_
  have hO := HO.out
  clear HO hix9 hax9 ix9_0 ix9_1 ix9 c9_0_0 c9_0_1 c9_0_2 c9_0_3 c9_0_4 lt9_0 y9_0 c9_1_0 c9_1_1 c9_1_2 c9_1_3 c9_1_4 c9_1_5 c9_1_6 c9_1_7 lt9_1 y9_1
  generalize hW : World.alloc _ _ = W2
  have hN : Own w0 W2 [row (w.heap.size + 1) 25 #[.int .u32 0, .int .u32 0], row (w.heap.size) 35 #[.iface 225 (.pointer (some ⟨d1, 0, none⟩)), .int .i32 l], row (i1) 211 #[.int .u32 0, .int .u32 0, .bool false, .bool false, .bool false], row (d1) 228 #[.iface 209 (.pointer (some ⟨i1, 0, none⟩)), .int .i32 l2, .string ⟨#[112, 114, 111, 116, 111, 116, 121, 112, 101]⟩, .int .i32 l2, .int .u8 0, .bool false, .bool false, .bool false]] X := by
    rw [← hW]
    exact ((hO).alloc' _ (w.heap.size) (by simp)).alloc' _ (w.heap.size + 1) (by simp)
  clear hW hO
  generalize w.heap.size + 1 = B1_1 at hN ⊢
  generalize w.heap.size = B1 at hN ⊢
  have hO := hN
  clear hN
  have hL := hO.apart
  have hX := hO.apartX
  have HL := Lib.hid hL
  have HX := Lib.hid hX
  clear hL hX
  have hP9 := hO.pick [3] (by decide)
  have T9 := dotOf d1 209 i1 l2 ⟨#[112, 114, 111, 116, 111, 116, 121, 112, 101]⟩ l2 l _ _ _ hP9 
  refine Calls.mono T9 ?_
  clear hP9 T9
  rintro e u3 ⟨rfl, hQ⟩
  have hN : Own w0 u3 [row (d1) 228 #[.iface 209 (.pointer (some ⟨i1, 0, none⟩)), .int .i32 l2, .string ⟨#[112, 114, 111, 116, 111, 116, 121, 112, 101]⟩, .int .i32 l2, .int .u8 0, .bool false, .bool false, .bool false], row (B1_1) 25 #[.int .u32 0, .int .u32 0], row (B1) 35 #[.iface 225 (.pointer (some ⟨d1, 0, none⟩)), .int .i32 l], row (i1) 211 #[.int .u32 0, .int .u32 0, .bool false, .bool false, .bool false]] X := hQ.back HL.out HX.out [0, 1, 2] (by decide) (by decide)
  clear hQ HL HX hO
  have hO := hN
  clear hN
  obtain ⟨ix9, hix9, hax9, hjx9⟩ := hO.ix
  have ix9_0 : ix9 d1 = 0 := hjx9 0 _ _ rfl
  have ix9_1 : ix9 B1_1 = 1 := hjx9 1 _ _ rfl
  have ix9_2 : ix9 B1 = 2 := hjx9 2 _ _ rfl
  have ix9_3 : ix9 i1 = 3 := hjx9 3 _ _ rfl
  clear hjx9
  obtain ⟨c9_0_0, c9_0_1, c9_0_2, c9_0_3, c9_0_4, c9_0_5, c9_0_6, c9_0_7, lt9_0, y9_0, -⟩ := hO.k8 0 rfl
  obtain ⟨c9_1_0, c9_1_1, lt9_1, y9_1, -⟩ := hO.k2 1 rfl
  obtain ⟨c9_2_0, c9_2_1, lt9_2, y9_2, -⟩ := hO.k2 2 rfl
  obtain ⟨c9_3_0, c9_3_1, c9_3_2, c9_3_3, c9_3_4, lt9_3, y9_3, -⟩ := hO.k5 3 rfl
  have HO := Lib.hid hO
  clear hO
  go_wp2_with (first | (with_reducible refine Own.stay (fn := Tryd.f23) ?_) | fail)
  try with_reducible refine Own.Stay.mk ?_
  have hO := HO.out
  clear HO hix9 hax9 ix9_0 ix9_1 ix9_2 ix9_3 ix9 c9_0_0 c9_0_1 c9_0_2 c9_0_3 c9_0_4 c9_0_5 c9_0_6 c9_0_7 lt9_0 y9_0 c9_1_0 c9_1_1 lt9_1 y9_1 c9_2_0 c9_2_1 lt9_2 y9_2 c9_3_0 c9_3_1 c9_3_2 c9_3_3 c9_3_4 lt9_3 y9_3
  generalize hW : World.alloc _ _ = W5
  have hN : Own w0 W5 [row (u3.heap.size) 35 #[.iface 209 (.pointer (some ⟨i1, 0, none⟩)), .int .i32 l2], row (d1) 228 #[.iface 209 (.pointer (some ⟨i1, 0, none⟩)), .int .i32 l2, .string ⟨#[112, 114, 111, 116, 111, 116, 121, 112, 101]⟩, .int .i32 l2, .int .u8 0, .bool false, .bool false, .bool false], row (B1_1) 25 #[.int .u32 0, .int .u32 0], row (B1) 35 #[.iface 225 (.pointer (some ⟨d1, 0, none⟩)), .int .i32 l], row (i1) 211 #[.int .u32 0, .int .u32 0, .bool false, .bool false, .bool false]] X := by
    rw [← hW]
    exact (hO).alloc' _ (u3.heap.size) (by simp)
  clear hW hO
  generalize u3.heap.size = B4 at hN ⊢
  have hO := hN
  clear hN
  have hL := hO.apart
  have hX := hO.apartX
  have HL := Lib.hid hL
  have HX := Lib.hid hX
  clear hL hX
  have hP9 := hO.pick [4] (by decide)
  have T9 := identOf i1 l2 0 0 _ _ _ hP9 
  refine Calls.mono T9 ?_
  clear hP9 T9
  rintro e u6 ⟨rfl, hQ⟩
  have hN : Own w0 u6 [row (i1) 211 #[.int .u32 0, .int .u32 0, .bool false, .bool false, .bool false], row (B4) 35 #[.iface 209 (.pointer (some ⟨i1, 0, none⟩)), .int .i32 l2], row (d1) 228 #[.iface 209 (.pointer (some ⟨i1, 0, none⟩)), .int .i32 l2, .string ⟨#[112, 114, 111, 116, 111, 116, 121, 112, 101]⟩, .int .i32 l2, .int .u8 0, .bool false, .bool false, .bool false], row (B1_1) 25 #[.int .u32 0, .int .u32 0], row (B1) 35 #[.iface 225 (.pointer (some ⟨d1, 0, none⟩)), .int .i32 l]] X := hQ.back HL.out HX.out [0, 1, 2, 3] (by decide) (by decide)
  clear hQ HL HX hO
  have hO := hN
  clear hN
  obtain ⟨ix9, hix9, hax9, hjx9⟩ := hO.ix
  have ix9_0 : ix9 i1 = 0 := hjx9 0 _ _ rfl
  have ix9_1 : ix9 B4 = 1 := hjx9 1 _ _ rfl
  have ix9_2 : ix9 d1 = 2 := hjx9 2 _ _ rfl
  have ix9_3 : ix9 B1_1 = 3 := hjx9 3 _ _ rfl
  have ix9_4 : ix9 B1 = 4 := hjx9 4 _ _ rfl
  clear hjx9
  obtain ⟨c9_0_0, c9_0_1, c9_0_2, c9_0_3, c9_0_4, lt9_0, y9_0, -⟩ := hO.k5 0 rfl
  obtain ⟨c9_1_0, c9_1_1, lt9_1, y9_1, pl9_1⟩ := hO.k2 1 rfl
  obtain ⟨c9_2_0, c9_2_1, c9_2_2, c9_2_3, c9_2_4, c9_2_5, c9_2_6, c9_2_7, lt9_2, y9_2, -⟩ := hO.k8 2 rfl
  obtain ⟨c9_3_0, c9_3_1, lt9_3, y9_3, -⟩ := hO.k2 3 rfl
  obtain ⟨c9_4_0, c9_4_1, lt9_4, y9_4, pl9_4⟩ := hO.k2 4 rfl
  have HO := Lib.hid hO
  clear hO
  go_wp2_with (first | (with_reducible refine Own.stay (fn := Tryd.f23) ?_) | fail)
  try with_reducible refine Own.Stay.mk ?_
  have hO := HO.out
  clear HO hix9 hax9 ix9_0 ix9_1 ix9_2 ix9_3 ix9_4 ix9 c9_0_0 c9_0_1 c9_0_2 c9_0_3 c9_0_4 lt9_0 y9_0 c9_1_0 c9_1_1 lt9_1 y9_1 pl9_1 c9_2_0 c9_2_1 c9_2_2 c9_2_3 c9_2_4 c9_2_5 c9_2_6 c9_2_7 lt9_2 y9_2 c9_3_0 c9_3_1 lt9_3 y9_3 c9_4_0 c9_4_1 lt9_4 y9_4 pl9_4
  generalize hW : World.alloc _ _ = W8
  have hN : Own w0 W8 [row (u6.heap.size) 25 #[.int .u32 0, .int .u32 0], row (i1) 211 #[.int .u32 0, .int .u32 0, .bool false, .bool false, .bool false], row (B4) 35 #[.iface 209 (.pointer (some ⟨i1, 0, none⟩)), .int .i32 l2], row (d1) 228 #[.iface 209 (.pointer (some ⟨i1, 0, none⟩)), .int .i32 l2, .string ⟨#[112, 114, 111, 116, 111, 116, 121, 112, 101]⟩, .int .i32 l2, .int .u8 0, .bool false, .bool false, .bool false], row (B1_1) 25 #[.int .u32 0, .int .u32 0], row (B1) 35 #[.iface 225 (.pointer (some ⟨d1, 0, none⟩)), .int .i32 l]] X := by
    rw [← hW]
    exact (hO).alloc' _ (u6.heap.size) (by simp)
  clear hW hO
  generalize u6.heap.size = B7 at hN ⊢
  have hO := hN
  clear hN
  refine bodyPost_ret (v := .bool true) ?_ rfl ⟨rfl, hO.sub [1, 3] (by decide)⟩
  simp [results, Tryd.results23, go_sem]
def classArg1Post (i1 : Nat) (l : Int) (w0 : World) (X : Nat → Obj → Prop) (e : Ending) (w' : World) : Prop :=
  e = .returned (.bool true) ∧ Own w0 w' [row (i1) 211 #[.int .u32 0, .int .u32 0, .bool false, .bool false, .bool false]] X
set_option maxRecDepth 100000 in
set_option maxHeartbeats 1000000 in
theorem classArg1 (i1 : Nat) (l : Int) (w0 w : World) (X : Nat → Obj → Prop) (hO : Own w0 w [row (i1) 211 #[.int .u32 0, .int .u32 0, .bool false, .bool false, .bool false]] X)  :
    Calls Tryd.prog 23 #[.agg #[.iface 209 (.pointer (some ⟨i1, 0, none⟩)), .int .i32 l], .agg #[.int .u32 0, .int .u32 0], .bool true] w (classArg1Post i1 l w0 X) := by
  go_enter Tryd.func23, Tryd.ntmps23
  obtain ⟨ix9, hix9, hax9, hjx9⟩ := hO.ix
  have ix9_0 : ix9 i1 = 0 := hjx9 0 _ _ rfl
  clear hjx9
  obtain ⟨c9_0_0, c9_0_1, c9_0_2, c9_0_3, c9_0_4, lt9_0, y9_0, -⟩ := hO.k5 0 rfl
  have HO := Lib.hid hO
  clear hO
  go_wp2_with (first | (with_reducible refine Own.stay (fn := Tryd.f23) ?_) | fail)
  try with_reducible refine Own.Stay.mk ?_
  have hO := HO.out
  clear HO hix9 hax9 ix9_0 ix9 c9_0_0 c9_0_1 c9_0_2 c9_0_3 c9_0_4 lt9_0 y9_0
  generalize hW : World.alloc _ _ = W2
  have hN : Own w0 W2 [row (w.heap.size + 1) 25 #[.int .u32 0, .int .u32 0], row (w.heap.size) 35 #[.iface 209 (.pointer (some ⟨i1, 0, none⟩)), .int .i32 l], row (i1) 211 #[.int .u32 0, .int .u32 0, .bool false, .bool false, .bool false]] X := by
    rw [← hW]
    exact ((hO).alloc' _ (w.heap.size) (by simp)).alloc' _ (w.heap.size + 1) (by simp)
  clear hW hO
  generalize w.heap.size + 1 = B1_1 at hN ⊢
  generalize w.heap.size = B1 at hN ⊢
  have hO := hN
  clear hN
  have hL := hO.apart
  have hX := hO.apartX
  have HL := Lib.hid hL
  have HX := Lib.hid hX
  clear hL hX
  have hP9 := hO.pick [2] (by decide)
  have T9 := identOf i1 l 0 0 _ _ _ hP9 
  refine Calls.mono T9 ?_
  clear hP9 T9
  rintro e u3 ⟨rfl, hQ⟩
  have hN : Own w0 u3 [row (i1) 211 #[.int .u32 0, .int .u32 0, .bool false, .bool false, .bool false], row (B1_1) 25 #[.int .u32 0, .int .u32 0], row (B1) 35 #[.iface 209 (.pointer (some ⟨i1, 0, none⟩)), .int .i32 l]] X := hQ.back HL.out HX.out [0, 1] (by decide) (by decide)
  clear hQ HL HX hO
  have hO := hN
  clear hN
  obtain ⟨ix9, hix9, hax9, hjx9⟩ := hO.ix
  have ix9_0 : ix9 i1 = 0 := hjx9 0 _ _ rfl
  have ix9_1 : ix9 B1_1 = 1 := hjx9 1 _ _ rfl
  have ix9_2 : ix9 B1 = 2 := hjx9 2 _ _ rfl
  clear hjx9
  obtain ⟨c9_0_0, c9_0_1, c9_0_2, c9_0_3, c9_0_4, lt9_0, y9_0, -⟩ := hO.k5 0 rfl
  obtain ⟨c9_1_0, c9_1_1, lt9_1, y9_1, -⟩ := hO.k2 1 rfl
  obtain ⟨c9_2_0, c9_2_1, lt9_2, y9_2, -⟩ := hO.k2 2 rfl
  have HO := Lib.hid hO
  clear hO
  go_wp2_with (first | (with_reducible refine Own.stay (fn := Tryd.f23) ?_) | fail)
  try with_reducible refine Own.Stay.mk ?_
  have hO := HO.out
  clear HO hix9 hax9 ix9_0 ix9_1 ix9_2 ix9 c9_0_0 c9_0_1 c9_0_2 c9_0_3 c9_0_4 lt9_0 y9_0 c9_1_0 c9_1_1 lt9_1 y9_1 c9_2_0 c9_2_1 lt9_2 y9_2
  generalize hW : World.alloc _ _ = W5
  have hN : Own w0 W5 [row (u3.heap.size) 25 #[.int .u32 0, .int .u32 0], row (i1) 211 #[.int .u32 0, .int .u32 0, .bool false, .bool false, .bool false], row (B1_1) 25 #[.int .u32 0, .int .u32 0], row (B1) 35 #[.iface 209 (.pointer (some ⟨i1, 0, none⟩)), .int .i32 l]] X := by
    rw [← hW]
    exact (hO).alloc' _ (u3.heap.size) (by simp)
  clear hW hO
  generalize u3.heap.size = B4 at hN ⊢
  have hO := hN
  clear hN
  refine bodyPost_ret (v := .bool true) ?_ rfl ⟨rfl, hO.sub [1] (by decide)⟩
  simp [results, Tryd.results23, go_sem]
def thisArg0Post (i2 : Nat) (l : Int) (w0 : World) (X : Nat → Obj → Prop) (e : Ending) (w' : World) : Prop :=
  e = .returned (.bool true) ∧ Own w0 w' [] X
set_option maxRecDepth 100000 in
set_option maxHeartbeats 1000000 in
theorem thisArg0 (i2 : Nat) (l : Int) (w0 w : World) (X : Nat → Obj → Prop) (hO : Own w0 w [] X)  :
    Calls Tryd.prog 24 #[.agg #[.iface 237 (.pointer (some ⟨i2, 0, none⟩)), .int .i32 l], .agg #[.int .u32 0, .int .u32 0], .bool false] w (thisArg0Post i2 l w0 X) := by
  go_enter Tryd.func24, Tryd.ntmps24
  go_wp2_with (first | (with_reducible refine Own.stay (fn := Tryd.f24) ?_) | fail)
  try with_reducible refine Own.Stay.mk ?_
  generalize hW : World.alloc _ _ = W2
  have hN : Own w0 W2 [row (w.heap.size + 1) 25 #[.int .u32 0, .int .u32 0], row (w.heap.size) 35 #[.iface 237 (.pointer (some ⟨i2, 0, none⟩)), .int .i32 l]] X := by
    rw [← hW]
    exact ((hO).alloc' _ (w.heap.size) (by simp)).alloc' _ (w.heap.size + 1) (by simp)
  clear hW hO
  generalize w.heap.size + 1 = B1_1 at hN ⊢
  generalize w.heap.size = B1 at hN ⊢
  have hO := hN
  clear hN
  have hL := hO.apart
  have hX := hO.apartX
  have HL := Lib.hid hL
  have HX := Lib.hid hX
  clear hL hX
  have hP9 := hO.pick [] (by decide)
  have T9 := isThisO i2 l _ _ _ hP9 
  refine Calls.mono T9 ?_
  clear hP9 T9
  rintro e u3 ⟨rfl, hQ⟩
  have hN : Own w0 u3 [row (B1_1) 25 #[.int .u32 0, .int .u32 0], row (B1) 35 #[.iface 237 (.pointer (some ⟨i2, 0, none⟩)), .int .i32 l]] X := hQ.back HL.out HX.out [0, 1] (by decide) (by decide)
  clear hQ HL HX hO
  have hO := hN
  clear hN
  obtain ⟨ix9, hix9, hax9, hjx9⟩ := hO.ix
  have ix9_0 : ix9 B1_1 = 0 := hjx9 0 _ _ rfl
  have ix9_1 : ix9 B1 = 1 := hjx9 1 _ _ rfl
  clear hjx9
  obtain ⟨c9_0_0, c9_0_1, lt9_0, y9_0, -⟩ := hO.k2 0 rfl
  obtain ⟨c9_1_0, c9_1_1, lt9_1, y9_1, -⟩ := hO.k2 1 rfl
  have HO := Lib.hid hO
  clear hO
  go_wp2_with (first | (with_reducible refine Own.stay (fn := Tryd.f24) ?_) | fail)
  try with_reducible refine Own.Stay.mk ?_
  have hO := HO.out
  clear HO hix9 hax9 ix9_0 ix9_1 ix9 c9_0_0 c9_0_1 lt9_0 y9_0 c9_1_0 c9_1_1 lt9_1 y9_1
  refine bodyPost_ret (v := .bool true) ?_ rfl ⟨rfl, hO.sub [] (by decide)⟩
  simp [results, Tryd.results24, go_sem]
def thisArg1Post (i2 : Nat) (l : Int) (w0 : World) (X : Nat → Obj → Prop) (e : Ending) (w' : World) : Prop :=
  e = .returned (.bool true) ∧ Own w0 w' [row (i2) 211 #[.int .u32 0, .int .u32 0, .bool false, .bool false, .bool false]] X
set_option maxRecDepth 100000 in
set_option maxHeartbeats 1000000 in
theorem thisArg1 (i2 : Nat) (l : Int) (w0 w : World) (X : Nat → Obj → Prop) (hO : Own w0 w [row (i2) 211 #[.int .u32 0, .int .u32 0, .bool false, .bool false, .bool false]] X)  :
    Calls Tryd.prog 24 #[.agg #[.iface 209 (.pointer (some ⟨i2, 0, none⟩)), .int .i32 l], .agg #[.int .u32 0, .int .u32 0], .bool true] w (thisArg1Post i2 l w0 X) := by
  go_enter Tryd.func24, Tryd.ntmps24
  obtain ⟨ix9, hix9, hax9, hjx9⟩ := hO.ix
  have ix9_0 : ix9 i2 = 0 := hjx9 0 _ _ rfl
  clear hjx9
  obtain ⟨c9_0_0, c9_0_1, c9_0_2, c9_0_3, c9_0_4, lt9_0, y9_0, -⟩ := hO.k5 0 rfl
  have HO := Lib.hid hO
  clear hO
  go_wp2_with (first | (with_reducible refine Own.stay (fn := Tryd.f24) ?_) | fail)
  try with_reducible refine Own.Stay.mk ?_
  have hO := HO.out
  clear HO hix9 hax9 ix9_0 ix9 c9_0_0 c9_0_1 c9_0_2 c9_0_3 c9_0_4 lt9_0 y9_0
  generalize hW : World.alloc _ _ = W2
  have hN : Own w0 W2 [row (w.heap.size + 1) 25 #[.int .u32 0, .int .u32 0], row (w.heap.size) 35 #[.iface 209 (.pointer (some ⟨i2, 0, none⟩)), .int .i32 l], row (i2) 211 #[.int .u32 0, .int .u32 0, .bool false, .bool false, .bool false]] X := by
    rw [← hW]
    exact ((hO).alloc' _ (w.heap.size) (by simp)).alloc' _ (w.heap.size + 1) (by simp)
  clear hW hO
  generalize w.heap.size + 1 = B1_1 at hN ⊢
  generalize w.heap.size = B1 at hN ⊢
  have hO := hN
  clear hN
  have hL := hO.apart
  have hX := hO.apartX
  have HL := Lib.hid hL
  have HX := Lib.hid hX
  clear hL hX
  have hP9 := hO.pick [2] (by decide)
  have T9 := identOf i2 l 0 0 _ _ _ hP9 
  refine Calls.mono T9 ?_
  clear hP9 T9
  rintro e u3 ⟨rfl, hQ⟩
  have hN : Own w0 u3 [row (i2) 211 #[.int .u32 0, .int .u32 0, .bool false, .bool false, .bool false], row (B1_1) 25 #[.int .u32 0, .int .u32 0], row (B1) 35 #[.iface 209 (.pointer (some ⟨i2, 0, none⟩)), .int .i32 l]] X := hQ.back HL.out HX.out [0, 1] (by decide) (by decide)
  clear hQ HL HX hO
  have hO := hN
  clear hN
  obtain ⟨ix9, hix9, hax9, hjx9⟩ := hO.ix
  have ix9_0 : ix9 i2 = 0 := hjx9 0 _ _ rfl
  have ix9_1 : ix9 B1_1 = 1 := hjx9 1 _ _ rfl
  have ix9_2 : ix9 B1 = 2 := hjx9 2 _ _ rfl
  clear hjx9
  obtain ⟨c9_0_0, c9_0_1, c9_0_2, c9_0_3, c9_0_4, lt9_0, y9_0, -⟩ := hO.k5 0 rfl
  obtain ⟨c9_1_0, c9_1_1, lt9_1, y9_1, -⟩ := hO.k2 1 rfl
  obtain ⟨c9_2_0, c9_2_1, lt9_2, y9_2, -⟩ := hO.k2 2 rfl
  have HO := Lib.hid hO
  clear hO
  go_wp2_with (first | (with_reducible refine Own.stay (fn := Tryd.f24) ?_) | fail)
  try with_reducible refine Own.Stay.mk ?_
  have hO := HO.out
  clear HO hix9 hax9 ix9_0 ix9_1 ix9_2 ix9 c9_0_0 c9_0_1 c9_0_2 c9_0_3 c9_0_4 lt9_0 y9_0 c9_1_0 c9_1_1 lt9_1 y9_1 c9_2_0 c9_2_1 lt9_2 y9_2
  generalize hW : World.alloc _ _ = W5
  have hN : Own w0 W5 [row (u3.heap.size) 25 #[.int .u32 0, .int .u32 0], row (i2) 211 #[.int .u32 0, .int .u32 0, .bool false, .bool false, .bool false], row (B1_1) 25 #[.int .u32 0, .int .u32 0], row (B1) 35 #[.iface 209 (.pointer (some ⟨i2, 0, none⟩)), .int .i32 l]] X := by
    rw [← hW]
    exact (hO).alloc' _ (u3.heap.size) (by simp)
  clear hW hO
  generalize u3.heap.size = B4 at hN ⊢
  have hO := hN
  clear hN
  refine bodyPost_ret (v := .bool true) ?_ rfl ⟨rfl, hO.sub [1] (by decide)⟩
  simp [results, Tryd.results24, go_sem]
end Go.Proofs.YtkhmjppfogppoaaDoor.Use
