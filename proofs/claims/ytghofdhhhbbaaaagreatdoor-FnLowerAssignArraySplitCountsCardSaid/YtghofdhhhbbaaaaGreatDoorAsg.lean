/- The closure that chains assignments. No condition. -/
import Derived.Test.YtghofdhhhbbaaaaGreatDoorIts
import Derived.Test.YtghofdhhhbbaaaaGreatDoorIfm
import Derived.Test.YtghofdhhhbbaaaaGreatDoorSla
import Derived.Test.YtghofdhhhbbaaaaGreatDoorLoop
import Derived.Test.YtghofdhhhbbaaaaGreatDoorMini
import Derived.Test.YtghofdhhhbbaaaaGreatDoorAppL
import Derived.Test.YtghofdhhhbbaaaaGreatDoorApp
import Derived.Test.YtghofdhhhbbaaaaGreatDoorOwnK
import Derived.Test.YtghofdhhhbbaaaaGreatDoorOwn
import Derived.Test.YtghofdhhhbbaaaaGreatDoorDeepCells
import Derived.Test.YtghofdhhhbbaaaaGreatDoorRows
import Derived.Test.YtghofdhhhbbaaaaGreatDoorLive
namespace Go.Proofs.YtghofdhhhbbaaaaGreatDoor.Use
open Go.ChangeShapes Go.WideShapes Go.ChangeAt Go.RowKit Go.Sort Own
set_option linter.unusedVariables false
def asgNPost (tl vl : Nat) (wl : Int) (tr vr : Nat) (wr8 : Int) (w0 : World) (X : Nat → Obj → Prop) (e : Ending) (w' : World) : Prop :=
  ∃ xn : Nat, e = .returned (.agg #[.iface 241 (.pointer (some ⟨xn, 0, none⟩)), .int .i32 wl]) ∧ Own w0 w' [] X
set_option maxRecDepth 100000 in
set_option maxHeartbeats 1000000 in
theorem asgN (tl vl : Nat) (wl : Int) (tr vr : Nat) (wr8 : Int) (w0 w : World) (X : Nat → Obj → Prop) (hO : Own w0 w [] X)  :
    Calls Tryz.prog 27 #[.agg #[.iface tl (.pointer (some ⟨vl, 0, none⟩)), .int .i32 wl], .agg #[.iface tr (.pointer (some ⟨vr, 0, none⟩)), .int .i32 wr8]] w (asgNPost tl vl wl tr vr wr8 w0 X) := by
  go_enter Tryz.func27, Tryz.ntmps27
  go_wp2_with (first | (with_reducible refine Own.stay (fn := Tryz.f27) ?_) | fail)
  try with_reducible refine Own.Stay.mk ?_
  generalize hW : World.alloc _ _ = W2
  have hN : Own w0 W2 [row (w.heap.size + 1 + 1 + 1) 244 #[.iface tl (.pointer (some ⟨vl, 0, none⟩)), .int .i32 wl, .iface tr (.pointer (some ⟨vr, 0, none⟩)), .int .i32 wr8, .int .u8 37, .bool false], row (w.heap.size + 1 + 1) 29 #[.iface 241 (.pointer (some ⟨w.heap.size + 1 + 1 + 1, 0, none⟩)), .int .i32 wl], row (w.heap.size + 1) 29 #[.iface tr (.pointer (some ⟨vr, 0, none⟩)), .int .i32 wr8], row (w.heap.size) 29 #[.iface tl (.pointer (some ⟨vl, 0, none⟩)), .int .i32 wl]] X := by
    rw [← hW]
    exact ((((hO).alloc' _ (w.heap.size) (by simp)).alloc' _ (w.heap.size + 1) (by simp)).alloc' _ (w.heap.size + 1 + 1) (by simp)).alloc' _ (w.heap.size + 1 + 1 + 1) (by simp)
  clear hW hO
  generalize w.heap.size + 1 + 1 + 1 = B1_3 at hN ⊢
  generalize w.heap.size + 1 + 1 = B1_2 at hN ⊢
  generalize w.heap.size + 1 = B1_1 at hN ⊢
  generalize w.heap.size = B1 at hN ⊢
  have hO := hN
  clear hN
  have z9_1_0 : W2.cell? ⟨B1_2, 0, none⟩ = some (.iface 241 (.pointer (some ⟨B1_3, 0, none⟩))) := hO.cell 1 rfl 0 rfl
  have z9_1_1 : W2.cell? ⟨B1_2, 1, none⟩ = some (.int .i32 wl) := hO.cell 1 rfl 1 rfl
  refine bodyPost_ret (v := .agg #[.iface 241 (.pointer (some ⟨B1_3, 0, none⟩)), .int .i32 wl]) ?_ rfl ⟨B1_3, rfl, hO.sub [] (by decide)⟩
  simp [results, Tryz.results27, go_sem, z9_1_0, z9_1_1]
def jwc0Post (wa : Int) (tr vr : Nat) (wr8 : Int) (w0 : World) (X : Nat → Obj → Prop) (e : Ending) (w' : World) : Prop :=
  e = .returned (.agg #[.iface tr (.pointer (some ⟨vr, 0, none⟩)), .int .i32 wr8]) ∧ Own w0 w' [] X
set_option maxRecDepth 100000 in
set_option maxHeartbeats 1000000 in
theorem jwc0 (wa : Int) (tr vr : Nat) (wr8 : Int) (w0 w : World) (X : Nat → Obj → Prop) (hO : Own w0 w [] X)  :
    Calls Tryz.prog 26 #[.agg #[.nilIface, .int .i32 wa], .agg #[.iface tr (.pointer (some ⟨vr, 0, none⟩)), .int .i32 wr8]] w (jwc0Post wa tr vr wr8 w0 X) := by
  go_enter Tryz.func26, Tryz.ntmps26
  go_wp2_with (first | (with_reducible refine Own.stay (fn := Tryz.f26) ?_) | fail)
  try with_reducible refine Own.Stay.mk ?_
  generalize hW : World.alloc _ _ = W2
  have hN : Own w0 W2 [row (w.heap.size + 1 + 1) 29 #[.iface tr (.pointer (some ⟨vr, 0, none⟩)), .int .i32 wr8], row (w.heap.size + 1) 29 #[.iface tr (.pointer (some ⟨vr, 0, none⟩)), .int .i32 wr8], row (w.heap.size) 29 #[.nilIface, .int .i32 wa]] X := by
    rw [← hW]
    exact (((hO).alloc' _ (w.heap.size) (by simp)).alloc' _ (w.heap.size + 1) (by simp)).alloc' _ (w.heap.size + 1 + 1) (by simp)
  clear hW hO
  generalize w.heap.size + 1 + 1 = B1_2 at hN ⊢
  generalize w.heap.size + 1 = B1_1 at hN ⊢
  generalize w.heap.size = B1 at hN ⊢
  have hO := hN
  clear hN
  have z9_0_0 : W2.cell? ⟨B1_2, 0, none⟩ = some (.iface tr (.pointer (some ⟨vr, 0, none⟩))) := hO.cell 0 rfl 0 rfl
  have z9_0_1 : W2.cell? ⟨B1_2, 1, none⟩ = some (.int .i32 wr8) := hO.cell 0 rfl 1 rfl
  refine bodyPost_ret (v := .agg #[.iface tr (.pointer (some ⟨vr, 0, none⟩)), .int .i32 wr8]) ?_ rfl ⟨rfl, hO.sub [] (by decide)⟩
  simp [results, Tryz.results26, go_sem, z9_0_0, z9_0_1]
def jwc1Post (ta va : Nat) (wa : Int) (tr vr : Nat) (wr8 : Int) (w0 : World) (X : Nat → Obj → Prop) (e : Ending) (w' : World) : Prop :=
  ∃ xn : Nat, e = .returned (.agg #[.iface 241 (.pointer (some ⟨xn, 0, none⟩)), .int .i32 wa]) ∧ Own w0 w' [] X
set_option maxRecDepth 100000 in
set_option maxHeartbeats 1000000 in
theorem jwc1 (ta va : Nat) (wa : Int) (tr vr : Nat) (wr8 : Int) (w0 w : World) (X : Nat → Obj → Prop) (hO : Own w0 w [] X)  :
    Calls Tryz.prog 26 #[.agg #[.iface ta (.pointer (some ⟨va, 0, none⟩)), .int .i32 wa], .agg #[.iface tr (.pointer (some ⟨vr, 0, none⟩)), .int .i32 wr8]] w (jwc1Post ta va wa tr vr wr8 w0 X) := by
  go_enter Tryz.func26, Tryz.ntmps26
  go_wp2_with (first | (with_reducible refine Own.stay (fn := Tryz.f26) ?_) | fail)
  try with_reducible refine Own.Stay.mk ?_
  generalize hW : World.alloc _ _ = W2
  have hN : Own w0 W2 [row (w.heap.size + 1 + 1 + 1) 244 #[.iface ta (.pointer (some ⟨va, 0, none⟩)), .int .i32 wa, .iface tr (.pointer (some ⟨vr, 0, none⟩)), .int .i32 wr8, .int .u8 36, .bool false], row (w.heap.size + 1 + 1) 29 #[.iface 241 (.pointer (some ⟨w.heap.size + 1 + 1 + 1, 0, none⟩)), .int .i32 wa], row (w.heap.size + 1) 29 #[.iface tr (.pointer (some ⟨vr, 0, none⟩)), .int .i32 wr8], row (w.heap.size) 29 #[.iface ta (.pointer (some ⟨va, 0, none⟩)), .int .i32 wa]] X := by
    rw [← hW]
    exact ((((hO).alloc' _ (w.heap.size) (by simp)).alloc' _ (w.heap.size + 1) (by simp)).alloc' _ (w.heap.size + 1 + 1) (by simp)).alloc' _ (w.heap.size + 1 + 1 + 1) (by simp)
  clear hW hO
  generalize w.heap.size + 1 + 1 + 1 = B1_3 at hN ⊢
  generalize w.heap.size + 1 + 1 = B1_2 at hN ⊢
  generalize w.heap.size + 1 = B1_1 at hN ⊢
  generalize w.heap.size = B1 at hN ⊢
  have hO := hN
  clear hN
  have z9_1_0 : W2.cell? ⟨B1_2, 0, none⟩ = some (.iface 241 (.pointer (some ⟨B1_3, 0, none⟩))) := hO.cell 1 rfl 0 rfl
  have z9_1_1 : W2.cell? ⟨B1_2, 1, none⟩ = some (.int .i32 wa) := hO.cell 1 rfl 1 rfl
  refine bodyPost_ret (v := .agg #[.iface 241 (.pointer (some ⟨B1_3, 0, none⟩)), .int .i32 wa]) ?_ rfl ⟨B1_3, rfl, hO.sub [] (by decide)⟩
  simp [results, Tryz.results26, go_sem, z9_1_0, z9_1_1]
def rasg0a1E (eb : Nat) (wa : Int) (tl : Nat) (vl : Nat) (wl : Int) (tr : Nat) (vr : Nat) (wr8 : Int) (B1_1 : Nat) (B1 : Nat) : Nat → Rega.Atoms → Value
  | 0, α => .agg #[.nilIface, .int .i32 wa]
  | 1, α => .agg #[.iface tl (.pointer (some ⟨vl, 0, none⟩)), .int .i32 wl]
  | 2, α => .agg #[.iface tr (.pointer (some ⟨vr, 0, none⟩)), .int .i32 wr8]
  | 3, α => .agg #[.iface 241 (.pointer (some ⟨α 3, 0, none⟩)), .int .i32 wl]
  | 4, α => .agg #[.iface 241 (.pointer (some ⟨α 3, 0, none⟩)), .int .i32 wl]
  | 5, α => undef
  | _, _ => undef
def rasg0a1Anc : Nat → List Nat
  | 3 => [1, 2]
  | 4 => [0, 1, 2, 3]
  | 5 => [0, 1, 2, 3, 4]
  | _ => []
def rasg0a1Trn : Nat → List Nat
  | 5 => [2999]
  | _ => []
def rasg0a1Cnt : List (Nat × Nat) := []
def rasg0a1T2999 (eb : Nat) (wa : Int) (tl : Nat) (vl : Nat) (wl : Int) (tr : Nat) (vr : Nat) (wr8 : Int) (B1_1 : Nat) (B1 : Nat) (L9 : Nat → Bool) (α : Rega.Atoms) : Rw := if L9 5 = true then row (eb) 29 #[.iface 241 (.pointer (some ⟨α 3, 0, none⟩)), .int .i32 wl] else row (eb) 29 #[.nilIface, .int .i32 wa]
def rasg0a1R (eb : Nat) (wa : Int) (tl : Nat) (vl : Nat) (wl : Int) (tr : Nat) (vr : Nat) (wr8 : Int) (B1_1 : Nat) (B1 : Nat) (L9 : Nat → Bool) (α : Rega.Atoms) (ix9 : Nat) : Rw := if ix9 = 999 then row (B1_1) 29 #[.iface tr (.pointer (some ⟨vr, 0, none⟩)), .int .i32 wr8] else if ix9 = 1999 then row (B1) 29 #[.iface tl (.pointer (some ⟨vl, 0, none⟩)), .int .i32 wl] else if ix9 = 2999 then rasg0a1T2999 eb wa tl vl wl tr vr wr8 B1_1 B1 L9 α else (0, .map #[] 0)
theorem rasg0a1_he (eb : Nat) (wa : Int) (tl : Nat) (vl : Nat) (wl : Int) (tr : Nat) (vr : Nat) (wr8 : Int) (B1_1 : Nat) (B1 : Nat) : ∀ kk α α', (∀ j, (j % 1000 = kk ∨ j % 1000 ∈ rasg0a1Anc kk) → α j = α' j) → rasg0a1E eb wa tl vl wl tr vr wr8 B1_1 B1 kk α = rasg0a1E eb wa tl vl wl tr vr wr8 B1_1 B1 kk α' := by
  intro kk α α' h
  match kk with
  | 0 => rfl
  | 1 => rfl
  | 2 => rfl
  | 3 => simp only [rasg0a1E, h 3 (Or.inl rfl)]
  | 4 => simp only [rasg0a1E, h 3 (Or.inr (by decide))]
  | 5 => rfl
  | n + 6 => rfl
theorem rasg0a1_st (eb : Nat) (wa : Int) (tl : Nat) (vl : Nat) (wl : Int) (tr : Nat) (vr : Nat) (wr8 : Int) (B1_1 : Nat) (B1 : Nat) : Stable rasg0a1Cnt 3 rasg0a1Anc rasg0a1Trn (rasg0a1R eb wa tl vl wl tr vr wr8 B1_1 B1) := by
  intro k9 L9 α α' ix9 hk hcl hα hact ht
  have hp := act_places hact
  replace hp : ix9 ∈ [999, 1999, 2999] := hp
  simp only [List.mem_cons, List.not_mem_nil, or_false] at hp
  rcases hp with rfl | rfl | rfl
  · rfl
  · rfl
  · show rasg0a1T2999 eb wa tl vl wl tr vr wr8 B1_1 B1 (Rega.ran L9 k9) α' = rasg0a1T2999 eb wa tl vl wl tr vr wr8 B1_1 B1 L9 α
    unfold rasg0a1T2999
    have n5 : 5 ≠ k9 := fun e => ht (by rw [← e]; decide)
    rw [ran_ne n5]
    by_cases e5 : L9 5 = true
    · first | rw [if_pos e5, if_pos e5] | rw [if_pos e5]
      try simp only [hα 3 (ne_ran hk (hcl 5 e5 3 (by decide)))]
    first | rw [if_neg e5, if_neg e5] | rw [if_neg e5]
def asg0Post (eb : Nat) (wa : Int) (tl vl : Nat) (wl : Int) (tr vr : Nat) (wr8 : Int) (w0 : World) (X : Nat → Obj → Prop) (e : Ending) (w' : World) : Prop :=
  ∃ xn : Nat, e = .returned (.tuple #[]) ∧ Own w0 w' [row (eb) 29 #[.iface 241 (.pointer (some ⟨xn, 0, none⟩)), .int .i32 wl]] X
set_option maxRecDepth 100000 in
set_option maxHeartbeats 1000000 in
theorem asg0 (eb : Nat) (wa : Int) (tl vl : Nat) (wl : Int) (tr vr : Nat) (wr8 : Int) (w0 w : World) (X : Nat → Obj → Prop) (hO : Own w0 w [row (eb) 29 #[.nilIface, .int .i32 wa]] X)  :
    Calls Tryz.prog 25 #[.agg #[.iface tl (.pointer (some ⟨vl, 0, none⟩)), .int .i32 wl], .agg #[.iface tr (.pointer (some ⟨vr, 0, none⟩)), .int .i32 wr8], .pointer (some ⟨eb, 0, none⟩)] w (asg0Post eb wa tl vl wl tr vr wr8 w0 X) := by
  go_enter Tryz.func25, Tryz.ntmps25
  obtain ⟨c9_0_0, c9_0_1, lt9_0, y9_0, -⟩ := hO.k2 0 rfl
  have HO := Lib.hid hO
  clear hO
  go_wp2_with (first | (with_reducible refine Own.stay (fn := Tryz.f25) ?_) | fail)
  try with_reducible refine Own.Stay.mk ?_
  have hO := HO.out
  clear HO c9_0_0 c9_0_1 lt9_0 y9_0
  generalize hW : World.alloc _ _ = W2
  have hN : Own w0 W2 [row (w.heap.size + 1) 29 #[.iface tr (.pointer (some ⟨vr, 0, none⟩)), .int .i32 wr8], row (w.heap.size) 29 #[.iface tl (.pointer (some ⟨vl, 0, none⟩)), .int .i32 wl], row (eb) 29 #[.nilIface, .int .i32 wa]] X := by
    rw [← hW]
    exact ((hO).alloc' _ (w.heap.size) (by simp)).alloc' _ (w.heap.size + 1) (by simp)
  clear hW hO
  generalize w.heap.size + 1 = B1_1 at hN ⊢
  generalize w.heap.size = B1 at hN ⊢
  have hO := hN
  clear hN
  have st9 := rasg0a1_st eb wa tl vl wl tr vr wr8 B1_1 B1
  let R9 := rasg0a1R eb wa tl vl wl tr vr wr8 B1_1 B1
  refine wp_region_own (e := rasg0a1E eb wa tl vl wl tr vr wr8 B1_1 B1) (anc := rasg0a1Anc) (G := (fun L9 α u9 => OwnF w0 u9 (act rasg0a1Cnt 3 L9) (rasg0a1R eb wa tl vl wl tr vr wr8 B1_1 B1 L9 α) X)) (by kernel_rfl) (by kernel_rfl) (by kernel_rfl) (by kernel_rfl) (rasg0a1_he eb wa tl vl wl tr vr wr8 B1_1 B1) ?_ (RunsAll.all ?_) ?_
  · have hp : ∀ i, act rasg0a1Cnt 3 (fun _ => false) i → i ∈ [999, 1999, 2999] := by
      intro i hi
      have h9 : i % 1000 = 999 := by
        by_cases h : i % 1000 = 999
        · exact h
        · exact absurd (act_lt hi h) (by simp)
      unfold act at hi
      rw [if_pos h9] at hi
      simp only [List.mem_cons, List.not_mem_nil, or_false]
      omega
    refine hO.drew.family (fun i hi => ?_) (fun i j hi hj hij => ?_)
    · have := hp i hi
      simp only [List.mem_cons, List.not_mem_nil, or_false] at this
      rcases this with rfl | rfl | rfl <;> rfl
    · have h1 := hp i hi
      have h2 := hp j hj
      simp only [List.mem_cons, List.not_mem_nil, or_false] at h1 h2
      omega
  · refine ⟨?_, ?_, ?_, ?_, ?_, ?_, trivial⟩
    · intro L9 α a9 u9 K9 hL hcl hA hG hS h0 h1 hK
      replace hL : L9 0 = false := hL
      have q2 : a9.tmps[2]? = some (.pointer (some ⟨eb, 0, none⟩)) := (h0 2 (by kernel_rfl)).trans rfl
      have s2 := Rega.eval_of q2
      have e0 : R9 L9 α 2999 = row (eb) 29 #[.nilIface, .int .i32 wa] := by
        show rasg0a1T2999 eb wa tl vl wl tr vr wr8 B1_1 B1 L9 α = _
        unfold rasg0a1T2999
        rw [if_neg (fun e => by have := hcl 5 e 0 (by decide); rw [hL] at this; cases this)]
      have hr := hG.rowAt 2999 (act_base 2999 rfl) e0
      have c0 : u9.cell? ⟨eb, 0, none⟩ = some (.nilIface) := hr.cell rfl
      have c1 : u9.cell? ⟨eb, 1, none⟩ = some (.int .i32 wa) := hr.cell rfl
      clear hr e0
      go_simp
      exact hK _ α _ (fun _ _ => rfl) rfl (step_same (st9) hL hcl rfl rfl hG)
    · intro L9 α a9 u9 K9 hL hcl hA hG hS h0 h1 hK
      replace hL : L9 1 = false := hL
      have q3 : a9.tmps[3]? = some (.pointer (some ⟨B1, 0, none⟩)) := (h0 3 (by kernel_rfl)).trans rfl
      have s3 := Rega.eval_of q3
      have e0 : R9 L9 α 1999 = row (B1) 29 #[.iface tl (.pointer (some ⟨vl, 0, none⟩)), .int .i32 wl] := rfl
      have hr := hG.rowAt 1999 (act_base 1999 rfl) e0
      have c0 : u9.cell? ⟨B1, 0, none⟩ = some (.iface tl (.pointer (some ⟨vl, 0, none⟩))) := hr.cell rfl
      have c1 : u9.cell? ⟨B1, 1, none⟩ = some (.int .i32 wl) := hr.cell rfl
      clear hr e0
      go_simp
      exact hK _ α _ (fun _ _ => rfl) rfl (step_same (st9) hL hcl rfl rfl hG)
    · intro L9 α a9 u9 K9 hL hcl hA hG hS h0 h1 hK
      replace hL : L9 2 = false := hL
      have q4 : a9.tmps[4]? = some (.pointer (some ⟨B1_1, 0, none⟩)) := (h0 4 (by kernel_rfl)).trans rfl
      have s4 := Rega.eval_of q4
      have e0 : R9 L9 α 999 = row (B1_1) 29 #[.iface tr (.pointer (some ⟨vr, 0, none⟩)), .int .i32 wr8] := rfl
      have hr := hG.rowAt 999 (act_base 999 rfl) e0
      have c0 : u9.cell? ⟨B1_1, 0, none⟩ = some (.iface tr (.pointer (some ⟨vr, 0, none⟩))) := hr.cell rfl
      have c1 : u9.cell? ⟨B1_1, 1, none⟩ = some (.int .i32 wr8) := hr.cell rfl
      clear hr e0
      go_simp
      exact hK _ α _ (fun _ _ => rfl) rfl (step_same (st9) hL hcl rfl rfl hG)
    · intro L9 α a9 u9 K9 hL hcl hA hG hS h0 h1 hK
      replace hL : L9 3 = false := hL
      have q6 : a9.tmps[6]? = some (.agg #[.iface tl (.pointer (some ⟨vl, 0, none⟩)), .int .i32 wl]) := hS 1 6 (by decide) rfl (by show 6 < 10; decide)
      have s6 := Rega.eval_of q6
      have q7 : a9.tmps[7]? = some (.agg #[.iface tr (.pointer (some ⟨vr, 0, none⟩)), .int .i32 wr8]) := hS 2 7 (by decide) rfl (by show 7 < 10; decide)
      have s7 := Rega.eval_of q7
      go_simp
      have hM : ∀ i, i ∈ [] → act rasg0a1Cnt 3 L9 i := by intro i hi; simp at hi
      have hP : Own w0 u9 [] _ := hG.pick [] (by decide) (by simp)
      clear hM
      refine Calls.mono (asgN tl vl wl tr vr wr8 _ _ _ hP ) ?_
      rintro e9 u1 ⟨b0, rfl, hQ⟩
      obtain ⟨α', hα'⟩ : ∃ α' : Rega.Atoms, α' = (fun j => if j = 3 then b0 else α j) := ⟨_, rfl⟩
      have hα : ∀ j, j % 1000 ≠ 3 → α' j = α j := fun j hj => by rw [hα']; simp only []; rw [if_neg (by omega)]
      have hb0 : α' 3 = b0 := by rw [hα']; rfl
      skip
      refine hK _ α' _ hα ?_ (step_call (st9) hL hcl hα [] [] (by decide) (by decide) (by decide) (M := _) ?_ hG hQ)
      · show _ = (.agg #[.iface 241 (.pointer (some ⟨α' 3, 0, none⟩)), .int .i32 wl] : Value)
        simp only [hb0]
      · rfl
    · intro L9 α a9 u9 K9 hL hcl hA hG hS h0 h1 hK
      replace hL : L9 4 = false := hL
      have q5 : a9.tmps[5]? = some (.agg #[.nilIface, .int .i32 wa]) := hS 0 5 (by decide) rfl (by show 5 < 10; decide)
      have s5 := Rega.eval_of q5
      have q8 : a9.tmps[8]? = some (.agg #[.iface 241 (.pointer (some ⟨α 3, 0, none⟩)), .int .i32 wl]) := hS 3 8 (by decide) rfl (by show 8 < 10; decide)
      have s8 := Rega.eval_of q8
      go_simp
      have hM : ∀ i, i ∈ [] → act rasg0a1Cnt 3 L9 i := by intro i hi; simp at hi
      have hP : Own w0 u9 [] _ := hG.pick [] (by decide) (by simp)
      clear hM
      refine Calls.mono (jwc0 wa 241 (α 3) wl _ _ _ hP ) ?_
      rintro e9 u1 ⟨rfl, hQ⟩
      obtain ⟨α', hα'⟩ : ∃ α' : Rega.Atoms, α' = α := ⟨_, rfl⟩
      have hα : ∀ j, j % 1000 ≠ 4 → α' j = α j := fun j hj => by rw [hα']
      have ha3 : α' 3 = α 3 := hα 3 (by decide)
      skip
      refine hK _ α' _ hα ?_ (step_call (st9) hL hcl hα [] [] (by decide) (by decide) (by decide) (M := _) ?_ hG hQ)
      · show _ = (.agg #[.iface 241 (.pointer (some ⟨α' 3, 0, none⟩)), .int .i32 wl] : Value)
        simp only [ha3]
      · rfl
    · intro L9 α a9 u9 K9 hL hcl hA hG hS h0 h1 hK
      replace hL : L9 5 = false := hL
      have q2 : a9.tmps[2]? = some (.pointer (some ⟨eb, 0, none⟩)) := (h0 2 (by kernel_rfl)).trans rfl
      have s2 := Rega.eval_of q2
      have q9 : a9.tmps[9]? = some (.agg #[.iface 241 (.pointer (some ⟨α 3, 0, none⟩)), .int .i32 wl]) := hS 4 9 (by decide) rfl (by show 9 < 10; decide)
      have s9 := Rega.eval_of q9
      have e0 : R9 L9 α 2999 = row (eb) 29 #[.nilIface, .int .i32 wa] := by
        show rasg0a1T2999 eb wa tl vl wl tr vr wr8 B1_1 B1 L9 α = _
        unfold rasg0a1T2999
        rw [if_neg (by rw [hL]; decide)]
      have hr := hG.rowAt 2999 (act_base 2999 rfl) e0
      have c0 : u9.cell? ⟨eb, 0, none⟩ = some (.nilIface) := hr.cell rfl
      have y0 : u9.frozen? ⟨eb, 0, none⟩ = false := hr.free (0)
      have c1 : u9.cell? ⟨eb, 1, none⟩ = some (.int .i32 wa) := hr.cell rfl
      have y1 : u9.frozen? ⟨eb, 1, none⟩ = false := hr.free (1)
      clear hr
      have E0 := Lib.hid e0
      clear e0
      go_simp
      have e1 : R9 (Rega.ran L9 5) α 2999 = row (eb) 29 #[.iface 241 (.pointer (some ⟨α 3, 0, none⟩)), .int .i32 wl] := by
        show rasg0a1T2999 eb wa tl vl wl tr vr wr8 B1_1 B1 (Rega.ran L9 5) α = _
        unfold rasg0a1T2999
        rw [if_pos (show Rega.ran L9 5 5 = true from rfl)]
      exact hK _ α _ (fun _ _ => rfl) rfl (step_sets (st9) hL hcl rfl 2999 rfl (act_base 2999 rfl) E0.out (0) [.iface 241 (.pointer (some ⟨α 3, 0, none⟩)), .int .i32 wl] (e1.trans rfl) hG)
  clear st9
  intro α u hG
  have e0 : R9 (fun k => decide (k < 6)) α 999 = row (B1_1) 29 #[.iface tr (.pointer (some ⟨vr, 0, none⟩)), .int .i32 wr8] := rfl
  have e1 : R9 (fun k => decide (k < 6)) α 1999 = row (B1) 29 #[.iface tl (.pointer (some ⟨vl, 0, none⟩)), .int .i32 wl] := rfl
  have e2 : R9 (fun k => decide (k < 6)) α 2999 = row (eb) 29 #[.iface 241 (.pointer (some ⟨α 3, 0, none⟩)), .int .i32 wl] := by
    show rasg0a1T2999 eb wa tl vl wl tr vr wr8 B1_1 B1 (fun k => decide (k < 6)) α = _
    unfold rasg0a1T2999
    rw [if_pos (by decide)]
  have hO : Own w0 u [row (B1_1) 29 #[.iface tr (.pointer (some ⟨vr, 0, none⟩)), .int .i32 wr8], row (B1) 29 #[.iface tl (.pointer (some ⟨vl, 0, none⟩)), .int .i32 wl], row (eb) 29 #[.iface 241 (.pointer (some ⟨α 3, 0, none⟩)), .int .i32 wl]] X := (hG.list [999, 1999, 2999] (by decide) (act_all (by decide))).conv (by
    show [R9 (fun k => decide (k < 6)) α 999, R9 (fun k => decide (k < 6)) α 1999, R9 (fun k => decide (k < 6)) α 2999] = _
    rw [e0, e1, e2])
  clear hG e0 e1 e2 R9
  generalize hfr : Rega.frameAt _ _ _ _ _ = fr
  have hdf : fr = ⟨#[.agg #[.iface tl (.pointer (some ⟨vl, 0, none⟩)), .int .i32 wl], .agg #[.iface tr (.pointer (some ⟨vr, 0, none⟩)), .int .i32 wr8], .pointer (some ⟨eb, 0, none⟩), .pointer (some ⟨B1, 0, none⟩), .pointer (some ⟨B1_1, 0, none⟩), .agg #[.nilIface, .int .i32 wa], .agg #[.iface tl (.pointer (some ⟨vl, 0, none⟩)), .int .i32 wl], .agg #[.iface tr (.pointer (some ⟨vr, 0, none⟩)), .int .i32 wr8], .agg #[.iface 241 (.pointer (some ⟨α 3, 0, none⟩)), .int .i32 wl], .agg #[.iface 241 (.pointer (some ⟨α 3, 0, none⟩)), .int .i32 wl]], []⟩ := by rw [← hfr]; kernel_rfl
  clear hfr
  subst hdf
  generalize α 3 = nd3 at hO ⊢
  clear α
  obtain ⟨c9_0_0, c9_0_1, lt9_0, y9_0, -⟩ := hO.k2 0 rfl
  obtain ⟨c9_1_0, c9_1_1, lt9_1, y9_1, -⟩ := hO.k2 1 rfl
  obtain ⟨c9_2_0, c9_2_1, lt9_2, y9_2, -⟩ := hO.k2 2 rfl
  have HO := Lib.hid hO
  clear hO
  go_wp2_with (first | (with_reducible refine Own.stay (fn := Tryz.f25) ?_) | fail)
  try with_reducible refine Own.Stay.mk ?_
  have hO := HO.out
  clear HO c9_0_0 c9_0_1 lt9_0 y9_0 c9_1_0 c9_1_1 lt9_1 y9_1 c9_2_0 c9_2_1 lt9_2 y9_2
  refine bodyPost_ret (v := .tuple #[]) ?_ rfl ⟨nd3, rfl, hO.sub [2] (by decide)⟩
  simp [results, Tryz.results25, go_sem]
def rasg1a1E (eb : Nat) (va : Nat) (wa : Int) (tl : Nat) (vl : Nat) (wl : Int) (tr : Nat) (vr : Nat) (wr8 : Int) (B1_1 : Nat) (B1 : Nat) : Nat → Rega.Atoms → Value
  | 0, α => .agg #[.iface 241 (.pointer (some ⟨va, 0, none⟩)), .int .i32 wa]
  | 1, α => .agg #[.iface tl (.pointer (some ⟨vl, 0, none⟩)), .int .i32 wl]
  | 2, α => .agg #[.iface tr (.pointer (some ⟨vr, 0, none⟩)), .int .i32 wr8]
  | 3, α => .agg #[.iface 241 (.pointer (some ⟨α 3, 0, none⟩)), .int .i32 wl]
  | 4, α => .agg #[.iface 241 (.pointer (some ⟨α 4, 0, none⟩)), .int .i32 wa]
  | 5, α => undef
  | _, _ => undef
def rasg1a1Anc : Nat → List Nat
  | 3 => [1, 2]
  | 4 => [0, 1, 2, 3]
  | 5 => [0, 1, 2, 3, 4]
  | _ => []
def rasg1a1Trn : Nat → List Nat
  | 5 => [2999]
  | _ => []
def rasg1a1Cnt : List (Nat × Nat) := []
def rasg1a1T2999 (eb : Nat) (va : Nat) (wa : Int) (tl : Nat) (vl : Nat) (wl : Int) (tr : Nat) (vr : Nat) (wr8 : Int) (B1_1 : Nat) (B1 : Nat) (L9 : Nat → Bool) (α : Rega.Atoms) : Rw := if L9 5 = true then row (eb) 29 #[.iface 241 (.pointer (some ⟨α 4, 0, none⟩)), .int .i32 wa] else row (eb) 29 #[.iface 241 (.pointer (some ⟨va, 0, none⟩)), .int .i32 wa]
def rasg1a1R (eb : Nat) (va : Nat) (wa : Int) (tl : Nat) (vl : Nat) (wl : Int) (tr : Nat) (vr : Nat) (wr8 : Int) (B1_1 : Nat) (B1 : Nat) (L9 : Nat → Bool) (α : Rega.Atoms) (ix9 : Nat) : Rw := if ix9 = 999 then row (B1_1) 29 #[.iface tr (.pointer (some ⟨vr, 0, none⟩)), .int .i32 wr8] else if ix9 = 1999 then row (B1) 29 #[.iface tl (.pointer (some ⟨vl, 0, none⟩)), .int .i32 wl] else if ix9 = 2999 then rasg1a1T2999 eb va wa tl vl wl tr vr wr8 B1_1 B1 L9 α else (0, .map #[] 0)
theorem rasg1a1_he (eb : Nat) (va : Nat) (wa : Int) (tl : Nat) (vl : Nat) (wl : Int) (tr : Nat) (vr : Nat) (wr8 : Int) (B1_1 : Nat) (B1 : Nat) : ∀ kk α α', (∀ j, (j % 1000 = kk ∨ j % 1000 ∈ rasg1a1Anc kk) → α j = α' j) → rasg1a1E eb va wa tl vl wl tr vr wr8 B1_1 B1 kk α = rasg1a1E eb va wa tl vl wl tr vr wr8 B1_1 B1 kk α' := by
  intro kk α α' h
  match kk with
  | 0 => rfl
  | 1 => rfl
  | 2 => rfl
  | 3 => simp only [rasg1a1E, h 3 (Or.inl rfl)]
  | 4 => simp only [rasg1a1E, h 4 (Or.inl rfl)]
  | 5 => rfl
  | n + 6 => rfl
theorem rasg1a1_st (eb : Nat) (va : Nat) (wa : Int) (tl : Nat) (vl : Nat) (wl : Int) (tr : Nat) (vr : Nat) (wr8 : Int) (B1_1 : Nat) (B1 : Nat) : Stable rasg1a1Cnt 3 rasg1a1Anc rasg1a1Trn (rasg1a1R eb va wa tl vl wl tr vr wr8 B1_1 B1) := by
  intro k9 L9 α α' ix9 hk hcl hα hact ht
  have hp := act_places hact
  replace hp : ix9 ∈ [999, 1999, 2999] := hp
  simp only [List.mem_cons, List.not_mem_nil, or_false] at hp
  rcases hp with rfl | rfl | rfl
  · rfl
  · rfl
  · show rasg1a1T2999 eb va wa tl vl wl tr vr wr8 B1_1 B1 (Rega.ran L9 k9) α' = rasg1a1T2999 eb va wa tl vl wl tr vr wr8 B1_1 B1 L9 α
    unfold rasg1a1T2999
    have n5 : 5 ≠ k9 := fun e => ht (by rw [← e]; decide)
    rw [ran_ne n5]
    by_cases e5 : L9 5 = true
    · first | rw [if_pos e5, if_pos e5] | rw [if_pos e5]
      try simp only [hα 4 (ne_ran hk (hcl 5 e5 4 (by decide)))]
    first | rw [if_neg e5, if_neg e5] | rw [if_neg e5]
def asg1Post (eb va : Nat) (wa : Int) (tl vl : Nat) (wl : Int) (tr vr : Nat) (wr8 : Int) (w0 : World) (X : Nat → Obj → Prop) (e : Ending) (w' : World) : Prop :=
  ∃ xn : Nat, e = .returned (.tuple #[]) ∧ Own w0 w' [row (eb) 29 #[.iface 241 (.pointer (some ⟨xn, 0, none⟩)), .int .i32 wa]] X
set_option maxRecDepth 100000 in
set_option maxHeartbeats 1000000 in
theorem asg1 (eb va : Nat) (wa : Int) (tl vl : Nat) (wl : Int) (tr vr : Nat) (wr8 : Int) (w0 w : World) (X : Nat → Obj → Prop) (hO : Own w0 w [row (eb) 29 #[.iface 241 (.pointer (some ⟨va, 0, none⟩)), .int .i32 wa]] X)  :
    Calls Tryz.prog 25 #[.agg #[.iface tl (.pointer (some ⟨vl, 0, none⟩)), .int .i32 wl], .agg #[.iface tr (.pointer (some ⟨vr, 0, none⟩)), .int .i32 wr8], .pointer (some ⟨eb, 0, none⟩)] w (asg1Post eb va wa tl vl wl tr vr wr8 w0 X) := by
  go_enter Tryz.func25, Tryz.ntmps25
  obtain ⟨c9_0_0, c9_0_1, lt9_0, y9_0, -⟩ := hO.k2 0 rfl
  have HO := Lib.hid hO
  clear hO
  go_wp2_with (first | (with_reducible refine Own.stay (fn := Tryz.f25) ?_) | fail)
  try with_reducible refine Own.Stay.mk ?_
  have hO := HO.out
  clear HO c9_0_0 c9_0_1 lt9_0 y9_0
  generalize hW : World.alloc _ _ = W2
  have hN : Own w0 W2 [row (w.heap.size + 1) 29 #[.iface tr (.pointer (some ⟨vr, 0, none⟩)), .int .i32 wr8], row (w.heap.size) 29 #[.iface tl (.pointer (some ⟨vl, 0, none⟩)), .int .i32 wl], row (eb) 29 #[.iface 241 (.pointer (some ⟨va, 0, none⟩)), .int .i32 wa]] X := by
    rw [← hW]
    exact ((hO).alloc' _ (w.heap.size) (by simp)).alloc' _ (w.heap.size + 1) (by simp)
  clear hW hO
  generalize w.heap.size + 1 = B1_1 at hN ⊢
  generalize w.heap.size = B1 at hN ⊢
  have hO := hN
  clear hN
  have st9 := rasg1a1_st eb va wa tl vl wl tr vr wr8 B1_1 B1
  let R9 := rasg1a1R eb va wa tl vl wl tr vr wr8 B1_1 B1
  refine wp_region_own (e := rasg1a1E eb va wa tl vl wl tr vr wr8 B1_1 B1) (anc := rasg1a1Anc) (G := (fun L9 α u9 => OwnF w0 u9 (act rasg1a1Cnt 3 L9) (rasg1a1R eb va wa tl vl wl tr vr wr8 B1_1 B1 L9 α) X)) (by kernel_rfl) (by kernel_rfl) (by kernel_rfl) (by kernel_rfl) (rasg1a1_he eb va wa tl vl wl tr vr wr8 B1_1 B1) ?_ (RunsAll.all ?_) ?_
  · have hp : ∀ i, act rasg1a1Cnt 3 (fun _ => false) i → i ∈ [999, 1999, 2999] := by
      intro i hi
      have h9 : i % 1000 = 999 := by
        by_cases h : i % 1000 = 999
        · exact h
        · exact absurd (act_lt hi h) (by simp)
      unfold act at hi
      rw [if_pos h9] at hi
      simp only [List.mem_cons, List.not_mem_nil, or_false]
      omega
    refine hO.drew.family (fun i hi => ?_) (fun i j hi hj hij => ?_)
    · have := hp i hi
      simp only [List.mem_cons, List.not_mem_nil, or_false] at this
      rcases this with rfl | rfl | rfl <;> rfl
    · have h1 := hp i hi
      have h2 := hp j hj
      simp only [List.mem_cons, List.not_mem_nil, or_false] at h1 h2
      omega
  · refine ⟨?_, ?_, ?_, ?_, ?_, ?_, trivial⟩
    · intro L9 α a9 u9 K9 hL hcl hA hG hS h0 h1 hK
      replace hL : L9 0 = false := hL
      have q2 : a9.tmps[2]? = some (.pointer (some ⟨eb, 0, none⟩)) := (h0 2 (by kernel_rfl)).trans rfl
      have s2 := Rega.eval_of q2
      have e0 : R9 L9 α 2999 = row (eb) 29 #[.iface 241 (.pointer (some ⟨va, 0, none⟩)), .int .i32 wa] := by
        show rasg1a1T2999 eb va wa tl vl wl tr vr wr8 B1_1 B1 L9 α = _
        unfold rasg1a1T2999
        rw [if_neg (fun e => by have := hcl 5 e 0 (by decide); rw [hL] at this; cases this)]
      have hr := hG.rowAt 2999 (act_base 2999 rfl) e0
      have c0 : u9.cell? ⟨eb, 0, none⟩ = some (.iface 241 (.pointer (some ⟨va, 0, none⟩))) := hr.cell rfl
      have c1 : u9.cell? ⟨eb, 1, none⟩ = some (.int .i32 wa) := hr.cell rfl
      clear hr e0
      go_simp
      exact hK _ α _ (fun _ _ => rfl) rfl (step_same (st9) hL hcl rfl rfl hG)
    · intro L9 α a9 u9 K9 hL hcl hA hG hS h0 h1 hK
      replace hL : L9 1 = false := hL
      have q3 : a9.tmps[3]? = some (.pointer (some ⟨B1, 0, none⟩)) := (h0 3 (by kernel_rfl)).trans rfl
      have s3 := Rega.eval_of q3
      have e0 : R9 L9 α 1999 = row (B1) 29 #[.iface tl (.pointer (some ⟨vl, 0, none⟩)), .int .i32 wl] := rfl
      have hr := hG.rowAt 1999 (act_base 1999 rfl) e0
      have c0 : u9.cell? ⟨B1, 0, none⟩ = some (.iface tl (.pointer (some ⟨vl, 0, none⟩))) := hr.cell rfl
      have c1 : u9.cell? ⟨B1, 1, none⟩ = some (.int .i32 wl) := hr.cell rfl
      clear hr e0
      go_simp
      exact hK _ α _ (fun _ _ => rfl) rfl (step_same (st9) hL hcl rfl rfl hG)
    · intro L9 α a9 u9 K9 hL hcl hA hG hS h0 h1 hK
      replace hL : L9 2 = false := hL
      have q4 : a9.tmps[4]? = some (.pointer (some ⟨B1_1, 0, none⟩)) := (h0 4 (by kernel_rfl)).trans rfl
      have s4 := Rega.eval_of q4
      have e0 : R9 L9 α 999 = row (B1_1) 29 #[.iface tr (.pointer (some ⟨vr, 0, none⟩)), .int .i32 wr8] := rfl
      have hr := hG.rowAt 999 (act_base 999 rfl) e0
      have c0 : u9.cell? ⟨B1_1, 0, none⟩ = some (.iface tr (.pointer (some ⟨vr, 0, none⟩))) := hr.cell rfl
      have c1 : u9.cell? ⟨B1_1, 1, none⟩ = some (.int .i32 wr8) := hr.cell rfl
      clear hr e0
      go_simp
      exact hK _ α _ (fun _ _ => rfl) rfl (step_same (st9) hL hcl rfl rfl hG)
    · intro L9 α a9 u9 K9 hL hcl hA hG hS h0 h1 hK
      replace hL : L9 3 = false := hL
      have q6 : a9.tmps[6]? = some (.agg #[.iface tl (.pointer (some ⟨vl, 0, none⟩)), .int .i32 wl]) := hS 1 6 (by decide) rfl (by show 6 < 10; decide)
      have s6 := Rega.eval_of q6
      have q7 : a9.tmps[7]? = some (.agg #[.iface tr (.pointer (some ⟨vr, 0, none⟩)), .int .i32 wr8]) := hS 2 7 (by decide) rfl (by show 7 < 10; decide)
      have s7 := Rega.eval_of q7
      go_simp
      have hM : ∀ i, i ∈ [] → act rasg1a1Cnt 3 L9 i := by intro i hi; simp at hi
      have hP : Own w0 u9 [] _ := hG.pick [] (by decide) (by simp)
      clear hM
      refine Calls.mono (asgN tl vl wl tr vr wr8 _ _ _ hP ) ?_
      rintro e9 u1 ⟨b0, rfl, hQ⟩
      obtain ⟨α', hα'⟩ : ∃ α' : Rega.Atoms, α' = (fun j => if j = 3 then b0 else α j) := ⟨_, rfl⟩
      have hα : ∀ j, j % 1000 ≠ 3 → α' j = α j := fun j hj => by rw [hα']; simp only []; rw [if_neg (by omega)]
      have hb0 : α' 3 = b0 := by rw [hα']; rfl
      skip
      refine hK _ α' _ hα ?_ (step_call (st9) hL hcl hα [] [] (by decide) (by decide) (by decide) (M := _) ?_ hG hQ)
      · show _ = (.agg #[.iface 241 (.pointer (some ⟨α' 3, 0, none⟩)), .int .i32 wl] : Value)
        simp only [hb0]
      · rfl
    · intro L9 α a9 u9 K9 hL hcl hA hG hS h0 h1 hK
      replace hL : L9 4 = false := hL
      have q5 : a9.tmps[5]? = some (.agg #[.iface 241 (.pointer (some ⟨va, 0, none⟩)), .int .i32 wa]) := hS 0 5 (by decide) rfl (by show 5 < 10; decide)
      have s5 := Rega.eval_of q5
      have q8 : a9.tmps[8]? = some (.agg #[.iface 241 (.pointer (some ⟨α 3, 0, none⟩)), .int .i32 wl]) := hS 3 8 (by decide) rfl (by show 8 < 10; decide)
      have s8 := Rega.eval_of q8
      go_simp
      have hM : ∀ i, i ∈ [] → act rasg1a1Cnt 3 L9 i := by intro i hi; simp at hi
      have hP : Own w0 u9 [] _ := hG.pick [] (by decide) (by simp)
      clear hM
      refine Calls.mono (jwc1 241 va wa 241 (α 3) wl _ _ _ hP ) ?_
      rintro e9 u1 ⟨b0, rfl, hQ⟩
      obtain ⟨α', hα'⟩ : ∃ α' : Rega.Atoms, α' = (fun j => if j = 4 then b0 else α j) := ⟨_, rfl⟩
      have hα : ∀ j, j % 1000 ≠ 4 → α' j = α j := fun j hj => by rw [hα']; simp only []; rw [if_neg (by omega)]
      have hb0 : α' 4 = b0 := by rw [hα']; rfl
      skip
      refine hK _ α' _ hα ?_ (step_call (st9) hL hcl hα [] [] (by decide) (by decide) (by decide) (M := _) ?_ hG hQ)
      · show _ = (.agg #[.iface 241 (.pointer (some ⟨α' 4, 0, none⟩)), .int .i32 wa] : Value)
        simp only [hb0]
      · rfl
    · intro L9 α a9 u9 K9 hL hcl hA hG hS h0 h1 hK
      replace hL : L9 5 = false := hL
      have q2 : a9.tmps[2]? = some (.pointer (some ⟨eb, 0, none⟩)) := (h0 2 (by kernel_rfl)).trans rfl
      have s2 := Rega.eval_of q2
      have q9 : a9.tmps[9]? = some (.agg #[.iface 241 (.pointer (some ⟨α 4, 0, none⟩)), .int .i32 wa]) := hS 4 9 (by decide) rfl (by show 9 < 10; decide)
      have s9 := Rega.eval_of q9
      have e0 : R9 L9 α 2999 = row (eb) 29 #[.iface 241 (.pointer (some ⟨va, 0, none⟩)), .int .i32 wa] := by
        show rasg1a1T2999 eb va wa tl vl wl tr vr wr8 B1_1 B1 L9 α = _
        unfold rasg1a1T2999
        rw [if_neg (by rw [hL]; decide)]
      have hr := hG.rowAt 2999 (act_base 2999 rfl) e0
      have c0 : u9.cell? ⟨eb, 0, none⟩ = some (.iface 241 (.pointer (some ⟨va, 0, none⟩))) := hr.cell rfl
      have y0 : u9.frozen? ⟨eb, 0, none⟩ = false := hr.free (0)
      have c1 : u9.cell? ⟨eb, 1, none⟩ = some (.int .i32 wa) := hr.cell rfl
      have y1 : u9.frozen? ⟨eb, 1, none⟩ = false := hr.free (1)
      clear hr
      have E0 := Lib.hid e0
      clear e0
      go_simp
      have e1 : R9 (Rega.ran L9 5) α 2999 = row (eb) 29 #[.iface 241 (.pointer (some ⟨α 4, 0, none⟩)), .int .i32 wa] := by
        show rasg1a1T2999 eb va wa tl vl wl tr vr wr8 B1_1 B1 (Rega.ran L9 5) α = _
        unfold rasg1a1T2999
        rw [if_pos (show Rega.ran L9 5 5 = true from rfl)]
      exact hK _ α _ (fun _ _ => rfl) rfl (step_sets (st9) hL hcl rfl 2999 rfl (act_base 2999 rfl) E0.out (0) [.iface 241 (.pointer (some ⟨α 4, 0, none⟩)), .int .i32 wa] (e1.trans rfl) hG)
  clear st9
  intro α u hG
  have e0 : R9 (fun k => decide (k < 6)) α 999 = row (B1_1) 29 #[.iface tr (.pointer (some ⟨vr, 0, none⟩)), .int .i32 wr8] := rfl
  have e1 : R9 (fun k => decide (k < 6)) α 1999 = row (B1) 29 #[.iface tl (.pointer (some ⟨vl, 0, none⟩)), .int .i32 wl] := rfl
  have e2 : R9 (fun k => decide (k < 6)) α 2999 = row (eb) 29 #[.iface 241 (.pointer (some ⟨α 4, 0, none⟩)), .int .i32 wa] := by
    show rasg1a1T2999 eb va wa tl vl wl tr vr wr8 B1_1 B1 (fun k => decide (k < 6)) α = _
    unfold rasg1a1T2999
    rw [if_pos (by decide)]
  have hO : Own w0 u [row (B1_1) 29 #[.iface tr (.pointer (some ⟨vr, 0, none⟩)), .int .i32 wr8], row (B1) 29 #[.iface tl (.pointer (some ⟨vl, 0, none⟩)), .int .i32 wl], row (eb) 29 #[.iface 241 (.pointer (some ⟨α 4, 0, none⟩)), .int .i32 wa]] X := (hG.list [999, 1999, 2999] (by decide) (act_all (by decide))).conv (by
    show [R9 (fun k => decide (k < 6)) α 999, R9 (fun k => decide (k < 6)) α 1999, R9 (fun k => decide (k < 6)) α 2999] = _
    rw [e0, e1, e2])
  clear hG e0 e1 e2 R9
  generalize hfr : Rega.frameAt _ _ _ _ _ = fr
  have hdf : fr = ⟨#[.agg #[.iface tl (.pointer (some ⟨vl, 0, none⟩)), .int .i32 wl], .agg #[.iface tr (.pointer (some ⟨vr, 0, none⟩)), .int .i32 wr8], .pointer (some ⟨eb, 0, none⟩), .pointer (some ⟨B1, 0, none⟩), .pointer (some ⟨B1_1, 0, none⟩), .agg #[.iface 241 (.pointer (some ⟨va, 0, none⟩)), .int .i32 wa], .agg #[.iface tl (.pointer (some ⟨vl, 0, none⟩)), .int .i32 wl], .agg #[.iface tr (.pointer (some ⟨vr, 0, none⟩)), .int .i32 wr8], .agg #[.iface 241 (.pointer (some ⟨α 3, 0, none⟩)), .int .i32 wl], .agg #[.iface 241 (.pointer (some ⟨α 4, 0, none⟩)), .int .i32 wa]], []⟩ := by rw [← hfr]; kernel_rfl
  clear hfr
  subst hdf
  generalize α 3 = nd3 at hO ⊢
  generalize α 4 = nd4 at hO ⊢
  clear α
  obtain ⟨c9_0_0, c9_0_1, lt9_0, y9_0, -⟩ := hO.k2 0 rfl
  obtain ⟨c9_1_0, c9_1_1, lt9_1, y9_1, -⟩ := hO.k2 1 rfl
  obtain ⟨c9_2_0, c9_2_1, lt9_2, y9_2, -⟩ := hO.k2 2 rfl
  have HO := Lib.hid hO
  clear hO
  go_wp2_with (first | (with_reducible refine Own.stay (fn := Tryz.f25) ?_) | fail)
  try with_reducible refine Own.Stay.mk ?_
  have hO := HO.out
  clear HO c9_0_0 c9_0_1 lt9_0 y9_0 c9_1_0 c9_1_1 lt9_1 y9_1 c9_2_0 c9_2_1 lt9_2 y9_2
  refine bodyPost_ret (v := .tuple #[]) ?_ rfl ⟨nd4, rfl, hO.sub [2] (by decide)⟩
  simp [results, Tryz.results25, go_sem]
end Go.Proofs.YtghofdhhhbbaaaaGreatDoor.Use
