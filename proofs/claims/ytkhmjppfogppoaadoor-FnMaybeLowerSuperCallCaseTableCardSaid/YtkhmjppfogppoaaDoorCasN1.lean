/- The law on a super call, walked. No condition. -/
import Derived.Test.YtkhmjppfogppoaaDoorBax
import Derived.Test.YtkhmjppfogppoaaDoorAra
import Derived.Test.YtkhmjppfogppoaaDoorRdx
import Derived.Test.YtkhmjppfogppoaaDoorDoorX
import Derived.Test.YtkhmjppfogppoaaDoorNewL
import Derived.Test.YtkhmjppfogppoaaDoorWuU
import Derived.Test.YtkhmjppfogppoaaDoorUniG
import Derived.Test.YtkhmjppfogppoaaDoorKit2
import Derived.Test.YtkhmjppfogppoaaDoorKit
import Derived.Test.YtkhmjppfogppoaaDoorLoop
import Derived.Test.YtkhmjppfogppoaaDoorLive
import Derived.Test.YtkhmjppfogppoaaDoorApp
import Derived.Test.YtkhmjppfogppoaaDoorOwnK
import Derived.Test.YtkhmjppfogppoaaDoorOwn
import Derived.Test.YtkhmjppfogppoaaDoorDeepCells
import Derived.Test.YtkhmjppfogppoaaDoorRows
import Derived.Test.YtkhmjppfogppoaaDoorUse
namespace Go.Proofs.YtkhmjppfogppoaaDoor.Use
open Go.ChangeShapes Go.WideShapes Go.ChangeAt Go.RowKit Go.Sort Own
set_option linter.unusedVariables false
noncomputable def rlaw44n11E (s : Bool) (r : Bool) (im : Int) (B1_1 : Nat) (B1 : Nat) : Nat → Rega.Atoms → Value
  | 0, α => .slice (some ⟨α 0, 0, none⟩) 1 1
  | 1, α => .agg #[.int .u32 0, .int .u32 0]
  | 2, α => .bool s
  | 3, α => .bool r
  | 4, α => .bool false
  | 5, α => .pointer (some ⟨α 5, 0, none⟩)
  | 6, α => .pointer (some ⟨α 5, 0, none⟩)
  | _, _ => undef
noncomputable def rlaw44n11Anc : Nat → List Nat
  | 5 => [0, 1, 2, 3, 4]
  | 6 => [0, 1, 2, 3, 4, 5]
  | _ => []
noncomputable def rlaw44n11Trn : Nat → List Nat
  | _ => []
noncomputable def rlaw44n11Cnt : List (Nat × Nat) := [(0, 1), (5, 4)]
noncomputable def rlaw44n11R (s : Bool) (r : Bool) (im : Int) (B1_1 : Nat) (B1 : Nat) (L9 : Nat → Bool) (α : Rega.Atoms) (ix9 : Nat) : Rw := if ix9 = 999 then row (B1_1) 25 #[.int .u32 5, .int .u32 im] else if ix9 = 1999 then row (B1) 25 #[.int .u32 0, .int .u32 0] else if ix9 = 0 then row (α 0) 56 (full symZ (symL ([sy ⟨#[70, 111, 111]⟩ 0])) 0) else if ix9 = 5 then row (α 5) 193 (newSrslP r s false (α 0) (α 1005) (α 2005) (α 3005)) else if ix9 = 1005 then ((α 1005, .map #[] 0) : Rw) else if ix9 = 2005 then row (α 2005) 203 #[.pointer none, .pointer none, .slice none 0 0, .map none, .slice none 0 0, .slice none 0 0, .int .i32 0, .int .i32 0, .int .u32 0, .int .u32 0, .bool false, .bool false, .bool false, .bool false, .int .u8 0, .int .u8 6] else if ix9 = 3005 then row (α 3005) 25 #[.int .u32 0, .int .u32 0] else (0, .map #[] 0)
theorem rlaw44n11_he (s : Bool) (r : Bool) (im : Int) (B1_1 : Nat) (B1 : Nat) : ∀ kk α α', (∀ j, (j % 1000 = kk ∨ j % 1000 ∈ rlaw44n11Anc kk) → α j = α' j) → rlaw44n11E s r im B1_1 B1 kk α = rlaw44n11E s r im B1_1 B1 kk α' := by
  intro kk α α' h
  match kk with
  | 0 => simp only [rlaw44n11E, h 0 (Or.inl rfl)]
  | 1 => rfl
  | 2 => rfl
  | 3 => rfl
  | 4 => rfl
  | 5 => simp only [rlaw44n11E, h 5 (Or.inl rfl)]
  | 6 => simp only [rlaw44n11E, h 5 (Or.inr (by decide))]
  | n + 7 => rfl
theorem rlaw44n11_st (s : Bool) (r : Bool) (im : Int) (B1_1 : Nat) (B1 : Nat) : Stable rlaw44n11Cnt 2 rlaw44n11Anc rlaw44n11Trn (rlaw44n11R s r im B1_1 B1) := by
  intro k9 L9 α α' ix9 hk hcl hα hact ht
  have hp := act_places hact
  replace hp : ix9 ∈ [999, 1999, 0, 5, 1005, 2005, 3005] := hp
  simp only [List.mem_cons, List.not_mem_nil, or_false] at hp
  rcases hp with rfl | rfl | rfl | rfl | rfl | rfl | rfl
  · rfl
  · rfl
  · have e0 : L9 0 = true := act_lt hact (by decide)
    show row (α' 0) 56 (full symZ (symL ([sy ⟨#[70, 111, 111]⟩ 0])) 0) = row (α 0) 56 (full symZ (symL ([sy ⟨#[70, 111, 111]⟩ 0])) 0)
    simp only [hα 0 (ne_ran hk e0)]
  · have e0 : L9 5 = true := act_lt hact (by decide)
    show row (α' 5) 193 (newSrslP r s false (α' 0) (α' 1005) (α' 2005) (α' 3005)) = row (α 5) 193 (newSrslP r s false (α 0) (α 1005) (α 2005) (α 3005))
    simp only [hα 0 (ne_ran hk (hcl 5 e0 0 (by decide))), hα 5 (ne_ran hk e0), hα 1005 (ne_ran hk e0), hα 2005 (ne_ran hk e0), hα 3005 (ne_ran hk e0)]
  · have e0 : L9 5 = true := act_lt hact (by decide)
    show ((α' 1005, .map #[] 0) : Rw) = ((α 1005, .map #[] 0) : Rw)
    simp only [hα 1005 (ne_ran hk e0)]
  · have e0 : L9 5 = true := act_lt hact (by decide)
    show row (α' 2005) 203 #[.pointer none, .pointer none, .slice none 0 0, .map none, .slice none 0 0, .slice none 0 0, .int .i32 0, .int .i32 0, .int .u32 0, .int .u32 0, .bool false, .bool false, .bool false, .bool false, .int .u8 0, .int .u8 6] = row (α 2005) 203 #[.pointer none, .pointer none, .slice none 0 0, .map none, .slice none 0 0, .slice none 0 0, .int .i32 0, .int .i32 0, .int .u32 0, .int .u32 0, .bool false, .bool false, .bool false, .bool false, .int .u8 0, .int .u8 6]
    simp only [hα 2005 (ne_ran hk e0)]
  · have e0 : L9 5 = true := act_lt hact (by decide)
    show row (α' 3005) 25 #[.int .u32 0, .int .u32 0] = row (α 3005) 25 #[.int .u32 0, .int .u32 0]
    simp only [hα 3005 (ne_ran hk e0)]
def law44n1Post (kind : Int) (name : ByteArray) (n : Nat) (s r : Bool) (loc im : Int) (w0 : World) (X : Nat → Obj → Prop) (e : Ending) (w' : World) : Prop :=
  e = .returned (.bool true) ∧ Own w0 w' [] X
set_option maxRecDepth 100000 in
set_option maxHeartbeats 1000000 in
theorem law44n1 (kind : Int) (name : ByteArray) (n : Nat) (s r : Bool) (loc im : Int) (w0 w : World) (X : Nat → Obj → Prop) (hO : Own w0 w [] X) (hkd : kind.tmod 4 = 1) (hlen : name.size ≤ 65536) (hn : n ≤ 4096) (hg0 : w0.cell? ⟨0, 0, none⟩ = some (.int .u32 4294967295)) (hg1 : w0.cell? ⟨0, 1, none⟩ = some (.int .u32 4294967295)) :
    Calls Tryd.prog 7 #[.int .u8 kind, .string name, .int .i64 (n : Int), .bool false, .bool s, .bool r, .int .i32 loc, .int .u32 im] w (law44n1Post kind name n s r loc im w0 X) := by
  go_enter Tryd.func7, Tryd.ntmps7
  have hl9 : (name.size : Int) ≤ 65536 := by omega
  have hn9 : (n : Int) ≤ 4096 := by omega
  go_wp2_with (first | (with_reducible refine Own.stay (fn := Tryd.f7) ?_) | (first | (go_at_call 31; go_in)))
  try with_reducible refine Own.Stay.mk ?_
  generalize hW : World.alloc _ _ = W2
  have hN : Own w0 W2 [row (w.heap.size + 1) 25 #[.int .u32 5, .int .u32 im], row (w.heap.size) 25 #[.int .u32 0, .int .u32 0]] X := by
    rw [← hW]
    exact ((hO).alloc' _ (w.heap.size) (by simp)).alloc' _ (w.heap.size + 1) (by simp)
  clear hW hO
  generalize w.heap.size + 1 = B1_1 at hN ⊢
  generalize w.heap.size = B1 at hN ⊢
  have hO := hN
  clear hN
  have st9 := rlaw44n11_st s r im B1_1 B1
  let R9 := rlaw44n11R s r im B1_1 B1
  refine wp_region_own (e := rlaw44n11E s r im B1_1 B1) (anc := rlaw44n11Anc) (G := (fun L9 α u9 => OwnF w0 u9 (act rlaw44n11Cnt 2 L9) (rlaw44n11R s r im B1_1 B1 L9 α) X)) (by kernel_rfl) (by kernel_rfl) (by kernel_rfl) (by kernel_rfl) (rlaw44n11_he s r im B1_1 B1) ?_ (RunsAll.all ?_) ?_
  · have hp : ∀ i, act rlaw44n11Cnt 2 (fun _ => false) i → i ∈ [999, 1999] := by
      intro i hi
      have h9 : i % 1000 = 999 := by
        by_cases h : i % 1000 = 999
        · exact h
        · exact absurd (act_lt hi h) (by simp)
      unfold act at hi
      rw [if_pos h9] at hi
      simp only [List.mem_cons, List.not_mem_nil, or_false]
      omega
    refine hO.drew.family (fun i hi => ?_) (fun i j hi hj hij => ?_)
    · have := hp i hi
      simp only [List.mem_cons, List.not_mem_nil, or_false] at this
      rcases this with rfl | rfl <;> rfl
    · have h1 := hp i hi
      have h2 := hp j hj
      simp only [List.mem_cons, List.not_mem_nil, or_false] at h1 h2
      omega
  · refine ⟨?_, ?_, ?_, ?_, ?_, ?_, ?_, trivial⟩
    · intro L9 α a9 u9 K9 hL hcl hA hG hS h0 hK
      replace hL : L9 0 = false := hL
      go_simp
      have hM : ∀ i, i ∈ [] → act rlaw44n11Cnt 2 L9 i := by intro i hi; simp at hi
      have hP : Own w0 u9 [] _ := hG.pick [] (by decide) (by simp)
      clear hM
      refine Calls.mono (classSyms  _ _ _ hP hg0 hg1) ?_
      rintro e9 u1 ⟨b0, rfl, hQ⟩
      obtain ⟨α', hα'⟩ : ∃ α' : Rega.Atoms, α' = (fun j => if j = 0 then b0 else α j) := ⟨_, rfl⟩
      have f0 : R9 (Rega.ran L9 0) α' 0 = row (α' 0) 56 (full symZ (symL ([sy ⟨#[70, 111, 111]⟩ 0])) 0) := rfl
      have hα : ∀ j, j % 1000 ≠ 0 → α' j = α j := fun j hj => by rw [hα']; simp only []; rw [if_neg (by omega)]
      have hb0 : α' 0 = b0 := by rw [hα']; rfl
      skip
      refine hK _ α' _ hα ?_ (step_call (st9) hL hcl hα [] [0] (by decide) (by decide) (by decide) (M := _) ?_ hG hQ)
      · show _ = (.slice (some ⟨α' 0, 0, none⟩) 1 1 : Value)
        simp only [hb0]
      · show [R9 (Rega.ran L9 0) α' 0] = _
        rw [f0]
        simp only [hb0]
    · intro L9 α a9 u9 K9 hL hcl hA hG hS h0 hK
      replace hL : L9 1 = false := hL
      have q17 : a9.tmps[17]? = some (.pointer (some ⟨B1, 0, none⟩)) := (h0 17 (by kernel_rfl)).trans rfl
      have s17 := Rega.eval_of q17
      have e0 : R9 L9 α 1999 = row (B1) 25 #[.int .u32 0, .int .u32 0] := rfl
      have hr := hG.rowAt 1999 (act_base 1999 rfl) e0
      have c0 : u9.cell? ⟨B1, 0, none⟩ = some (.int .u32 0) := hr.cell rfl
      have c1 : u9.cell? ⟨B1, 1, none⟩ = some (.int .u32 0) := hr.cell rfl
      clear hr e0
      go_simp
      exact hK _ α _ (fun _ _ => rfl) rfl (step_same (st9) hL hcl rfl rfl hG)
    · intro L9 α a9 u9 K9 hL hcl hA hG hS h0 hK
      replace hL : L9 2 = false := hL
      have q4 : a9.tmps[4]? = some (.bool s) := (h0 4 (by kernel_rfl)).trans rfl
      have s4 := Rega.eval_of q4
      go_simp
      exact hK _ α _ (fun _ _ => rfl) rfl (step_same (st9) hL hcl rfl rfl hG)
    · intro L9 α a9 u9 K9 hL hcl hA hG hS h0 hK
      replace hL : L9 3 = false := hL
      have q5 : a9.tmps[5]? = some (.bool r) := (h0 5 (by kernel_rfl)).trans rfl
      have s5 := Rega.eval_of q5
      go_simp
      exact hK _ α _ (fun _ _ => rfl) rfl (step_same (st9) hL hcl rfl rfl hG)
    · intro L9 α a9 u9 K9 hL hcl hA hG hS h0 hK
      replace hL : L9 4 = false := hL
      have q3 : a9.tmps[3]? = some (.bool false) := (h0 3 (by kernel_rfl)).trans rfl
      have s3 := Rega.eval_of q3
      go_simp
      exact hK _ α _ (fun _ _ => rfl) rfl (step_same (st9) hL hcl rfl rfl hG)
    · intro L9 α a9 u9 K9 hL hcl hA hG hS h0 hK
      replace hL : L9 5 = false := hL
      have q69 : a9.tmps[69]? = some (.slice (some ⟨α 0, 0, none⟩) 1 1) := hS 0 69 (by decide) rfl (by show 69 < 342; decide)
      have s69 := Rega.eval_of q69
      have q70 : a9.tmps[70]? = some (.agg #[.int .u32 0, .int .u32 0]) := hS 1 70 (by decide) rfl (by show 70 < 342; decide)
      have s70 := Rega.eval_of q70
      have q71 : a9.tmps[71]? = some (.bool s) := hS 2 71 (by decide) rfl (by show 71 < 342; decide)
      have s71 := Rega.eval_of q71
      have q72 : a9.tmps[72]? = some (.bool r) := hS 3 72 (by decide) rfl (by show 72 < 342; decide)
      have s72 := Rega.eval_of q72
      have q73 : a9.tmps[73]? = some (.bool false) := hS 4 73 (by decide) rfl (by show 73 < 342; decide)
      have s73 := Rega.eval_of q73
      go_simp
      have hM : ∀ i, i ∈ [] → act rlaw44n11Cnt 2 L9 i := by intro i hi; simp at hi
      have hP : Own w0 u9 [] _ := hG.pick [] (by decide) (by simp)
      clear hM
      refine Calls.mono (newSrsl r s false (α 0) _ _ _ hP ) ?_
      rintro e9 u1 ⟨b0, b1, b2, b3, rfl, hQ⟩
      obtain ⟨α', hα'⟩ : ∃ α' : Rega.Atoms, α' = (fun j => if j = 5 then b0 else if j = 1005 then b1 else if j = 2005 then b2 else if j = 3005 then b3 else α j) := ⟨_, rfl⟩
      have f0 : R9 (Rega.ran L9 5) α' 5 = row (α' 5) 193 (newSrslP r s false (α' 0) (α' 1005) (α' 2005) (α' 3005)) := rfl
      have f1 : R9 (Rega.ran L9 5) α' 1005 = ((α' 1005, .map #[] 0) : Rw) := rfl
      have f2 : R9 (Rega.ran L9 5) α' 2005 = row (α' 2005) 203 #[.pointer none, .pointer none, .slice none 0 0, .map none, .slice none 0 0, .slice none 0 0, .int .i32 0, .int .i32 0, .int .u32 0, .int .u32 0, .bool false, .bool false, .bool false, .bool false, .int .u8 0, .int .u8 6] := rfl
      have f3 : R9 (Rega.ran L9 5) α' 3005 = row (α' 3005) 25 #[.int .u32 0, .int .u32 0] := rfl
      have hα : ∀ j, j % 1000 ≠ 5 → α' j = α j := fun j hj => by rw [hα']; simp only []; rw [if_neg (by omega), if_neg (by omega), if_neg (by omega), if_neg (by omega)]
      have hb0 : α' 5 = b0 := by rw [hα']; rfl
      have hb1 : α' 1005 = b1 := by rw [hα']; rfl
      have hb2 : α' 2005 = b2 := by rw [hα']; rfl
      have hb3 : α' 3005 = b3 := by rw [hα']; rfl
      have ha0 : α' 0 = α 0 := hα 0 (by decide)
      skip
      refine hK _ α' _ hα ?_ (step_call (st9) hL hcl hα [] [5, 1005, 2005, 3005] (by decide) (by decide) (by decide) (M := _) ?_ hG hQ)
      · show _ = (.pointer (some ⟨α' 5, 0, none⟩) : Value)
        simp only [hb0]
      · show [R9 (Rega.ran L9 5) α' 5, R9 (Rega.ran L9 5) α' 1005, R9 (Rega.ran L9 5) α' 2005, R9 (Rega.ran L9 5) α' 3005] = _
        rw [f0, f1, f2, f3]
        simp only [hb0, hb1, hb2, hb3, ha0]
    · intro L9 α a9 u9 K9 hL hcl hA hG hS h0 hK
      replace hL : L9 6 = false := hL
      have q74 : a9.tmps[74]? = some (.pointer (some ⟨α 5, 0, none⟩)) := hS 5 74 (by decide) rfl (by show 74 < 342; decide)
      have s74 := Rega.eval_of q74
      go_simp
      exact hK _ α _ (fun _ _ => rfl) rfl (step_same (st9) hL hcl rfl rfl hG)
  clear st9
  intro α u hG
  have e0 : R9 (fun k => decide (k < 7)) α 999 = row (B1_1) 25 #[.int .u32 5, .int .u32 im] := rfl
  have e1 : R9 (fun k => decide (k < 7)) α 1999 = row (B1) 25 #[.int .u32 0, .int .u32 0] := rfl
  have e2 : R9 (fun k => decide (k < 7)) α 0 = row (α 0) 56 (full symZ (symL ([sy ⟨#[70, 111, 111]⟩ 0])) 0) := rfl
  have e3 : R9 (fun k => decide (k < 7)) α 5 = row (α 5) 193 (newSrslP r s false (α 0) (α 1005) (α 2005) (α 3005)) := rfl
  have e4 : R9 (fun k => decide (k < 7)) α 1005 = ((α 1005, .map #[] 0) : Rw) := rfl
  have e5 : R9 (fun k => decide (k < 7)) α 2005 = row (α 2005) 203 #[.pointer none, .pointer none, .slice none 0 0, .map none, .slice none 0 0, .slice none 0 0, .int .i32 0, .int .i32 0, .int .u32 0, .int .u32 0, .bool false, .bool false, .bool false, .bool false, .int .u8 0, .int .u8 6] := rfl
  have e6 : R9 (fun k => decide (k < 7)) α 3005 = row (α 3005) 25 #[.int .u32 0, .int .u32 0] := rfl
  have hO : Own w0 u [row (B1_1) 25 #[.int .u32 5, .int .u32 im], row (B1) 25 #[.int .u32 0, .int .u32 0], row (α 0) 56 (full symZ (symL ([sy ⟨#[70, 111, 111]⟩ 0])) 0), row (α 5) 193 (newSrslP r s false (α 0) (α 1005) (α 2005) (α 3005)), ((α 1005, .map #[] 0) : Rw), row (α 2005) 203 #[.pointer none, .pointer none, .slice none 0 0, .map none, .slice none 0 0, .slice none 0 0, .int .i32 0, .int .i32 0, .int .u32 0, .int .u32 0, .bool false, .bool false, .bool false, .bool false, .int .u8 0, .int .u8 6], row (α 3005) 25 #[.int .u32 0, .int .u32 0]] X := (hG.list [999, 1999, 0, 5, 1005, 2005, 3005] (by decide) (act_all (by decide))).conv (by
    show [R9 (fun k => decide (k < 7)) α 999, R9 (fun k => decide (k < 7)) α 1999, R9 (fun k => decide (k < 7)) α 0, R9 (fun k => decide (k < 7)) α 5, R9 (fun k => decide (k < 7)) α 1005, R9 (fun k => decide (k < 7)) α 2005, R9 (fun k => decide (k < 7)) α 3005] = _
    rw [e0, e1, e2, e3, e4, e5, e6])
  clear hG e0 e1 e2 e3 e4 e5 e6 R9
  generalize hfr : Rega.frameAt _ _ _ _ _ = fr
  have hdf : fr = ⟨#[.int .u8 kind, .string name, .int .i64 (n : Int), .bool false, .bool s, .bool r, .int .i32 loc, .int .u32 im, undef, undef, undef, undef, undef, undef, undef, undef, .bool false, .pointer (some ⟨B1, 0, none⟩), .pointer (some ⟨B1_1, 0, none⟩), .pointer (some ⟨α 5, 0, none⟩), undef, undef, undef, undef, undef, undef, undef, undef, undef, undef, undef, undef, undef, undef, undef, undef, undef, undef, undef, undef, undef, undef, undef, undef, undef, undef, undef, .int .u8 kind, .string name, .int .i64 (n : Int), .bool false, .bool s, .bool r, .int .i32 loc, .int .u32 im, .bool true, .bool false, .string name, .int .i64 (name.size : Int), .bool (decide (65536 < (name.size : Int))), .int .i64 (n : Int), .bool (decide ((n : Int) < 0)), .bool (decide ((n : Int) < 0)), .int .i64 (n : Int), .bool (decide (4096 < (n : Int))), .bool (decide ((n : Int) < 0) || decide (4096 < (n : Int))), .agg #[.int .u32 0, .int .u32 0], .int .u32 im, .agg #[.int .u32 5, .int .u32 im], .slice (some ⟨α 0, 0, none⟩) 1 1, .agg #[.int .u32 0, .int .u32 0], .bool s, .bool r, .bool false, .pointer (some ⟨α 5, 0, none⟩), undef, undef, undef, undef, undef, undef, undef, undef, undef, undef, undef, undef, undef, undef, undef, undef, undef, undef, undef, undef, undef, undef, undef, undef, undef, undef, undef, undef, undef, undef, undef, undef, undef, undef, undef, undef, undef, undef, undef, undef, undef, undef, undef, undef, undef, undef, undef, undef, undef, undef, undef, undef, undef, undef, undef, undef, undef, undef, undef, undef, undef, undef, undef, undef, undef, undef, undef, undef, undef, undef, undef, undef, undef, undef, undef, undef, undef, undef, undef, undef, undef, undef, undef, undef, undef, undef, undef, undef, undef, undef, undef, undef, undef, undef, undef, undef, undef, undef, undef, undef, undef, undef, undef, undef, undef, undef, undef, undef, undef, undef, undef, undef, undef, undef, undef, undef, undef, undef, undef, undef, undef, undef, undef, undef, undef, undef, undef, undef, undef, undef, undef, undef, undef, undef, undef, undef, undef, undef, undef, undef, undef, undef, undef, undef, undef, undef, undef, undef, undef, undef, undef, undef, undef, undef, undef, undef, undef, undef, undef, undef, undef, undef, undef, undef, undef, undef, undef, undef, undef, undef, undef, undef, undef, undef, undef, undef, undef, undef, undef, undef, undef, undef, undef, undef, undef, undef, undef, undef, undef, undef, undef, undef, undef, undef, undef, undef, undef, undef, undef, undef, undef, undef, undef, undef, undef, undef, undef, undef, undef, undef, undef, undef, undef, undef, undef, undef, undef, undef, undef, undef, undef, undef, undef, undef, undef, undef, undef, undef, undef, undef, undef, undef, undef, undef, undef, undef, undef, undef, undef, undef, undef, undef, undef, undef, undef, undef, undef, undef, undef, undef, undef, undef, undef, undef, undef, undef, undef, undef, undef, undef, undef, undef, undef, undef, undef, undef, undef], []⟩ := by rw [← hfr]; kernel_rfl
  clear hfr
  subst hdf
  generalize α 0 = nd3 at hO ⊢
  generalize α 5 = nd4 at hO ⊢
  generalize α 1005 = nd5 at hO ⊢
  generalize α 2005 = nd6 at hO ⊢
  generalize α 3005 = nd7 at hO ⊢
  clear α
  obtain ⟨c9_0_0, c9_0_1, lt9_0, y9_0, -⟩ := hO.k2 0 rfl
  obtain ⟨c9_1_0, c9_1_1, lt9_1, y9_1, -⟩ := hO.k2 1 rfl
  obtain ⟨c9_6_0, c9_6_1, lt9_6, y9_6, -⟩ := hO.k2 6 rfl
  have HO := Lib.hid hO
  clear hO
  go_wp2_with (first | (with_reducible refine Own.stay (fn := Tryd.f7) ?_) | (first | (go_at_call 31; go_in)))
  try with_reducible refine Own.Stay.mk ?_
  have hO := HO.out
  clear HO c9_0_0 c9_0_1 lt9_0 y9_0 c9_1_0 c9_1_1 lt9_1 y9_1 c9_6_0 c9_6_1 lt9_6 y9_6
  have hL := hO.apart
  have hX := hO.apartX
  have HL := Lib.hid hL
  have HX := Lib.hid hX
  clear hL hX
  have hP9 := hO.pick [] (by decide)
  have T9 := buildCallX1 kind name n loc im _ _ _ hP9 hkd hn
  refine Calls.mono T9 ?_
  clear hP9 T9
  rintro e u8 ⟨nd9, nd10, nd11, nd12, nd13, nd14, rfl, hQ⟩
  have hN : Own w0 u8 [row (nd9) 71 #[.iface 231 (.pointer (some ⟨nd10, 0, none⟩)), .int .i32 loc, .slice (some ⟨nd12, 0, none⟩) n n, .int .i32 0, .int .u8 0, .int .u8 0, .bool false, .bool false], row (nd10) 234 #[.iface 229 (.pointer (some ⟨nd11, 0, none⟩)), .int .i32 loc, .iface 209 (.pointer (some ⟨nd13, 0, none⟩)), .int .i32 loc, .int .i32 0, .int .u8 0, .bool false, .bool false, .bool false], row (nd12) 35 ((args loc nd14 n).toArray), row (nd13) 211 #[.int .u32 5, .int .u32 im, .bool false, .bool false, .bool false], row (B1_1) 25 #[.int .u32 5, .int .u32 im], row (B1) 25 #[.int .u32 0, .int .u32 0], row (nd3) 56 (full symZ (symL ([sy ⟨#[70, 111, 111]⟩ 0])) 0), row (nd4) 193 (newSrslP r s false (nd3) (nd5) (nd6) (nd7)), ((nd5, .map #[] 0) : Rw), row (nd6) 203 #[.pointer none, .pointer none, .slice none 0 0, .map none, .slice none 0 0, .slice none 0 0, .int .i32 0, .int .i32 0, .int .u32 0, .int .u32 0, .bool false, .bool false, .bool false, .bool false, .int .u8 0, .int .u8 6], row (nd7) 25 #[.int .u32 0, .int .u32 0]] (argsX X nd14 n) := hQ.backAX HL.out HX.out (by
    intro r9 hr9
    simp only [List.mem_cons, List.not_mem_nil, or_false] at hr9
    rcases hr9 with rfl | rfl | rfl | rfl | rfl | rfl | rfl
    all_goals first | exact Or.inl ⟨_, _, rfl, by decide⟩ | exact Or.inr ⟨_, _, rfl⟩)
  clear hQ HL HX hO
  have hO := hN
  clear hN
  obtain ⟨c9_0_0, c9_0_1, c9_0_2, c9_0_3, c9_0_4, c9_0_5, c9_0_6, c9_0_7, lt9_0, y9_0, -⟩ := hO.k8 0 rfl
  obtain ⟨c9_1_0, c9_1_1, c9_1_2, c9_1_3, c9_1_4, c9_1_5, c9_1_6, c9_1_7, c9_1_8, lt9_1, y9_1, -⟩ := hO.k9 1 rfl
  obtain ⟨c9_3_0, c9_3_1, c9_3_2, c9_3_3, c9_3_4, lt9_3, y9_3, -⟩ := hO.k5 3 rfl
  obtain ⟨c9_4_0, c9_4_1, lt9_4, y9_4, -⟩ := hO.k2 4 rfl
  obtain ⟨c9_5_0, c9_5_1, lt9_5, y9_5, -⟩ := hO.k2 5 rfl
  obtain ⟨c9_10_0, c9_10_1, lt9_10, y9_10, -⟩ := hO.k2 10 rfl
  have HO := Lib.hid hO
  clear hO
  go_wp2_with (first | (with_reducible refine Own.stay (fn := Tryd.f7) ?_) | (first | (go_at_call 31; go_in)))
  try with_reducible refine Own.Stay.mk ?_
  have hO := HO.out
  clear HO c9_0_0 c9_0_1 c9_0_2 c9_0_3 c9_0_4 c9_0_5 c9_0_6 c9_0_7 lt9_0 y9_0 c9_1_0 c9_1_1 c9_1_2 c9_1_3 c9_1_4 c9_1_5 c9_1_6 c9_1_7 c9_1_8 lt9_1 y9_1 c9_3_0 c9_3_1 c9_3_2 c9_3_3 c9_3_4 lt9_3 y9_3 c9_4_0 c9_4_1 lt9_4 y9_4 c9_5_0 c9_5_1 lt9_5 y9_5 c9_10_0 c9_10_1 lt9_10 y9_10
  have hL := hO.apart
  have hX := hO.apartX
  have HL := Lib.hid hL
  have HX := Lib.hid hX
  clear hL hX
  have hP9 := hO.pick [7, 0, 1] (by decide)
  have T9 := dlowN1 nd4 (newSrslP r s false nd3 nd5 nd6 nd7) nd9 nd12 n n loc nd10 nd11 nd13 _ _ _ hP9 (newSrsl_338 r s false (nd3) (nd5) (nd6) (nd7))
  refine Calls.mono T9 ?_
  clear hP9 T9
  rintro e u15 ⟨rfl, hQ⟩
  have hN : Own w0 u15 [row (nd4) 193 (newSrslP r s false nd3 nd5 nd6 nd7), row (nd9) 71 #[.iface 231 (.pointer (some ⟨nd10, 0, none⟩)), .int .i32 loc, .slice (some ⟨nd12, 0, none⟩) n n, .int .i32 0, .int .u8 0, .int .u8 0, .bool false, .bool false], row (nd10) 234 #[.iface 229 (.pointer (some ⟨nd11, 0, none⟩)), .int .i32 loc, .iface 209 (.pointer (some ⟨nd13, 0, none⟩)), .int .i32 loc, .int .i32 0, .int .u8 0, .bool false, .bool false, .bool false], row (nd12) 35 ((args loc nd14 n).toArray), row (nd13) 211 #[.int .u32 5, .int .u32 im, .bool false, .bool false, .bool false], row (B1_1) 25 #[.int .u32 5, .int .u32 im], row (B1) 25 #[.int .u32 0, .int .u32 0], row (nd3) 56 (full symZ (symL ([sy ⟨#[70, 111, 111]⟩ 0])) 0), ((nd5, .map #[] 0) : Rw), row (nd6) 203 #[.pointer none, .pointer none, .slice none 0 0, .map none, .slice none 0 0, .slice none 0 0, .int .i32 0, .int .i32 0, .int .u32 0, .int .u32 0, .bool false, .bool false, .bool false, .bool false, .int .u8 0, .int .u8 6], row (nd7) 25 #[.int .u32 0, .int .u32 0]] (argsX X nd14 n) := hQ.back HL.out HX.out [2, 3, 4, 5, 6, 8, 9, 10] (by decide) (by decide)
  clear hQ HL HX hO
  have hO := hN
  clear hN
  obtain ⟨c9_1_0, c9_1_1, c9_1_2, c9_1_3, c9_1_4, c9_1_5, c9_1_6, c9_1_7, lt9_1, y9_1, -⟩ := hO.k8 1 rfl
  obtain ⟨c9_2_0, c9_2_1, c9_2_2, c9_2_3, c9_2_4, c9_2_5, c9_2_6, c9_2_7, c9_2_8, lt9_2, y9_2, -⟩ := hO.k9 2 rfl
  obtain ⟨c9_4_0, c9_4_1, c9_4_2, c9_4_3, c9_4_4, lt9_4, y9_4, -⟩ := hO.k5 4 rfl
  obtain ⟨c9_5_0, c9_5_1, lt9_5, y9_5, -⟩ := hO.k2 5 rfl
  obtain ⟨c9_6_0, c9_6_1, lt9_6, y9_6, -⟩ := hO.k2 6 rfl
  obtain ⟨c9_10_0, c9_10_1, lt9_10, y9_10, -⟩ := hO.k2 10 rfl
  have HO := Lib.hid hO
  clear hO
  go_wp2_with (first | (with_reducible refine Own.stay (fn := Tryd.f7) ?_) | (first | (go_at_call 31; go_in)))
  try with_reducible refine Own.Stay.mk ?_
  have hO := HO.out
  clear HO c9_1_0 c9_1_1 c9_1_2 c9_1_3 c9_1_4 c9_1_5 c9_1_6 c9_1_7 lt9_1 y9_1 c9_2_0 c9_2_1 c9_2_2 c9_2_3 c9_2_4 c9_2_5 c9_2_6 c9_2_7 c9_2_8 lt9_2 y9_2 c9_4_0 c9_4_1 c9_4_2 c9_4_3 c9_4_4 lt9_4 y9_4 c9_5_0 c9_5_1 lt9_5 y9_5 c9_6_0 c9_6_1 lt9_6 y9_6 c9_10_0 c9_10_1 lt9_10 y9_10
  have hL := hO.apart
  have hX := hO.apartX
  have HL := Lib.hid hL
  have HX := Lib.hid hX
  clear hL hX
  have hP9 := hO.pick [0] (by decide)
  have T9 := symsO nd4 (newSrslP r s false nd3 nd5 nd6 nd7) nd3 1 1 _ _ _ hP9 (newSrsl_106 r s false (nd3) (nd5) (nd6) (nd7))
  refine Calls.mono T9 ?_
  clear hP9 T9
  rintro e u16 ⟨rfl, hQ⟩
  have hN : Own w0 u16 [row (nd4) 193 (newSrslP r s false nd3 nd5 nd6 nd7), row (nd9) 71 #[.iface 231 (.pointer (some ⟨nd10, 0, none⟩)), .int .i32 loc, .slice (some ⟨nd12, 0, none⟩) n n, .int .i32 0, .int .u8 0, .int .u8 0, .bool false, .bool false], row (nd10) 234 #[.iface 229 (.pointer (some ⟨nd11, 0, none⟩)), .int .i32 loc, .iface 209 (.pointer (some ⟨nd13, 0, none⟩)), .int .i32 loc, .int .i32 0, .int .u8 0, .bool false, .bool false, .bool false], row (nd12) 35 ((args loc nd14 n).toArray), row (nd13) 211 #[.int .u32 5, .int .u32 im, .bool false, .bool false, .bool false], row (B1_1) 25 #[.int .u32 5, .int .u32 im], row (B1) 25 #[.int .u32 0, .int .u32 0], row (nd3) 56 (full symZ (symL ([sy ⟨#[70, 111, 111]⟩ 0])) 0), ((nd5, .map #[] 0) : Rw), row (nd6) 203 #[.pointer none, .pointer none, .slice none 0 0, .map none, .slice none 0 0, .slice none 0 0, .int .i32 0, .int .i32 0, .int .u32 0, .int .u32 0, .bool false, .bool false, .bool false, .bool false, .int .u8 0, .int .u8 6], row (nd7) 25 #[.int .u32 0, .int .u32 0]] (argsX X nd14 n) := hQ.back HL.out HX.out [1, 2, 3, 4, 5, 6, 7, 8, 9, 10] (by decide) (by decide)
  clear hQ HL HX hO
  have hO := hN
  clear hN
  obtain ⟨c9_1_0, c9_1_1, c9_1_2, c9_1_3, c9_1_4, c9_1_5, c9_1_6, c9_1_7, lt9_1, y9_1, -⟩ := hO.k8 1 rfl
  obtain ⟨c9_2_0, c9_2_1, c9_2_2, c9_2_3, c9_2_4, c9_2_5, c9_2_6, c9_2_7, c9_2_8, lt9_2, y9_2, -⟩ := hO.k9 2 rfl
  obtain ⟨c9_4_0, c9_4_1, c9_4_2, c9_4_3, c9_4_4, lt9_4, y9_4, -⟩ := hO.k5 4 rfl
  obtain ⟨c9_5_0, c9_5_1, lt9_5, y9_5, -⟩ := hO.k2 5 rfl
  obtain ⟨c9_6_0, c9_6_1, lt9_6, y9_6, -⟩ := hO.k2 6 rfl
  obtain ⟨c9_10_0, c9_10_1, lt9_10, y9_10, -⟩ := hO.k2 10 rfl
  have HO := Lib.hid hO
  clear hO
  go_wp2_with (first | (with_reducible refine Own.stay (fn := Tryd.f7) ?_) | (first | (go_at_call 31; go_in)))
  try with_reducible refine Own.Stay.mk ?_
  have hO := HO.out
  clear HO c9_1_0 c9_1_1 c9_1_2 c9_1_3 c9_1_4 c9_1_5 c9_1_6 c9_1_7 lt9_1 y9_1 c9_2_0 c9_2_1 c9_2_2 c9_2_3 c9_2_4 c9_2_5 c9_2_6 c9_2_7 c9_2_8 lt9_2 y9_2 c9_4_0 c9_4_1 c9_4_2 c9_4_3 c9_4_4 lt9_4 y9_4 c9_5_0 c9_5_1 lt9_5 y9_5 c9_6_0 c9_6_1 lt9_6 y9_6 c9_10_0 c9_10_1 lt9_10 y9_10
  have hL := hO.apart
  have hX := hO.apartX
  have HL := Lib.hid hL
  have HX := Lib.hid hX
  clear hL hX
  have hP9 := hO.pick [0, 8] (by decide)
  have h9_hsz : (#[] : Array MapEntry).size = 0 := rfl
  have T9 := impCnt nd4 (newSrslP r s false nd3 nd5 nd6 nd7) nd5 #[] 0 0 _ _ _ hP9 (newSrsl_117 r s false (nd3) (nd5) (nd6) (nd7)) h9_hsz
  refine Calls.mono T9 ?_
  clear hP9 T9 h9_hsz
  rintro e u17 ⟨rfl, hQ⟩
  have hN : Own w0 u17 [row (nd4) 193 (newSrslP r s false nd3 nd5 nd6 nd7), ((nd5, .map #[] 0) : Rw), row (nd9) 71 #[.iface 231 (.pointer (some ⟨nd10, 0, none⟩)), .int .i32 loc, .slice (some ⟨nd12, 0, none⟩) n n, .int .i32 0, .int .u8 0, .int .u8 0, .bool false, .bool false], row (nd10) 234 #[.iface 229 (.pointer (some ⟨nd11, 0, none⟩)), .int .i32 loc, .iface 209 (.pointer (some ⟨nd13, 0, none⟩)), .int .i32 loc, .int .i32 0, .int .u8 0, .bool false, .bool false, .bool false], row (nd12) 35 ((args loc nd14 n).toArray), row (nd13) 211 #[.int .u32 5, .int .u32 im, .bool false, .bool false, .bool false], row (B1_1) 25 #[.int .u32 5, .int .u32 im], row (B1) 25 #[.int .u32 0, .int .u32 0], row (nd3) 56 (full symZ (symL ([sy ⟨#[70, 111, 111]⟩ 0])) 0), row (nd6) 203 #[.pointer none, .pointer none, .slice none 0 0, .map none, .slice none 0 0, .slice none 0 0, .int .i32 0, .int .i32 0, .int .u32 0, .int .u32 0, .bool false, .bool false, .bool false, .bool false, .int .u8 0, .int .u8 6], row (nd7) 25 #[.int .u32 0, .int .u32 0]] (argsX X nd14 n) := hQ.back HL.out HX.out [1, 2, 3, 4, 5, 6, 7, 9, 10] (by decide) (by decide)
  clear hQ HL HX hO
  have hO := hN
  clear hN
  have hN : Own w0 u17 [((nd5, .map #[] 0) : Rw), row (nd9) 71 #[.iface 231 (.pointer (some ⟨nd10, 0, none⟩)), .int .i32 loc, .slice (some ⟨nd12, 0, none⟩) n n, .int .i32 0, .int .u8 0, .int .u8 0, .bool false, .bool false], row (nd10) 234 #[.iface 229 (.pointer (some ⟨nd11, 0, none⟩)), .int .i32 loc, .iface 209 (.pointer (some ⟨nd13, 0, none⟩)), .int .i32 loc, .int .i32 0, .int .u8 0, .bool false, .bool false, .bool false], row (nd12) 35 ((args loc nd14 n).toArray), row (nd13) 211 #[.int .u32 5, .int .u32 im, .bool false, .bool false, .bool false], row (B1_1) 25 #[.int .u32 5, .int .u32 im], row (B1) 25 #[.int .u32 0, .int .u32 0], row (nd3) 56 (full symZ (symL ([sy ⟨#[70, 111, 111]⟩ 0])) 0), row (nd6) 203 #[.pointer none, .pointer none, .slice none 0 0, .map none, .slice none 0 0, .slice none 0 0, .int .i32 0, .int .i32 0, .int .u32 0, .int .u32 0, .bool false, .bool false, .bool false, .bool false, .int .u8 0, .int .u8 6], row (nd7) 25 #[.int .u32 0, .int .u32 0]] (argsX X nd14 n) := hO.sub [1, 2, 3, 4, 5, 6, 7, 8, 9, 10] (by decide)
  clear hO
  have hO := hN
  clear hN
  obtain ⟨ix9, hix9, hax9, hjx9⟩ := hO.ix
  have ix9_0 : ix9 nd5 = 0 := hjx9 0 _ _ rfl
  have ix9_1 : ix9 nd9 = 1 := hjx9 1 _ _ rfl
  have ix9_2 : ix9 nd10 = 2 := hjx9 2 _ _ rfl
  have ix9_3 : ix9 nd12 = 3 := hjx9 3 _ _ rfl
  have ix9_4 : ix9 nd13 = 4 := hjx9 4 _ _ rfl
  have ix9_5 : ix9 B1_1 = 5 := hjx9 5 _ _ rfl
  have ix9_6 : ix9 B1 = 6 := hjx9 6 _ _ rfl
  have ix9_7 : ix9 nd3 = 7 := hjx9 7 _ _ rfl
  have ix9_8 : ix9 nd6 = 8 := hjx9 8 _ _ rfl
  have ix9_9 : ix9 nd7 = 9 := hjx9 9 _ _ rfl
  clear hjx9
  obtain ⟨c9_1_0, c9_1_1, c9_1_2, c9_1_3, c9_1_4, c9_1_5, c9_1_6, c9_1_7, lt9_1, y9_1, -⟩ := hO.k8 1 rfl
  obtain ⟨c9_2_0, c9_2_1, c9_2_2, c9_2_3, c9_2_4, c9_2_5, c9_2_6, c9_2_7, c9_2_8, lt9_2, y9_2, -⟩ := hO.k9 2 rfl
  obtain ⟨c9_4_0, c9_4_1, c9_4_2, c9_4_3, c9_4_4, lt9_4, y9_4, -⟩ := hO.k5 4 rfl
  obtain ⟨c9_5_0, c9_5_1, lt9_5, y9_5, pl9_5⟩ := hO.k2 5 rfl
  obtain ⟨c9_6_0, c9_6_1, lt9_6, y9_6, pl9_6⟩ := hO.k2 6 rfl
  have c9_7_1 : u17.cell? ⟨nd3, 1, none⟩ = some (.string ⟨#[70, 111, 111]⟩) := hO.cell 7 rfl (1) ((full_at rfl))
  have c9_7_4 : u17.cell? ⟨nd3, 4, none⟩ = some (.int .u32 0) := hO.cell 7 rfl (4) ((full_at rfl))
  have lt9_7 : nd3 < u17.heap.size := hO.lt 7 rfl
  have y9_7 : ∀ o, u17.frozen? ⟨nd3, o, none⟩ = false := hO.free 7 rfl
  obtain ⟨c9_9_0, c9_9_1, lt9_9, y9_9, pl9_9⟩ := hO.k2 9 rfl
  have HO := Lib.hid hO
  clear hO
  go_wp2_with (first | (with_reducible refine Own.stay (fn := Tryd.f7) ?_) | (first | (go_at_call 31; go_in)))
  try with_reducible refine Own.Stay.mk ?_
  have hO := HO.out
  clear HO hix9 hax9 ix9_0 ix9_1 ix9_2 ix9_3 ix9_4 ix9_5 ix9_6 ix9_7 ix9_8 ix9_9 ix9 c9_1_0 c9_1_1 c9_1_2 c9_1_3 c9_1_4 c9_1_5 c9_1_6 c9_1_7 lt9_1 y9_1 c9_2_0 c9_2_1 c9_2_2 c9_2_3 c9_2_4 c9_2_5 c9_2_6 c9_2_7 c9_2_8 lt9_2 y9_2 c9_4_0 c9_4_1 c9_4_2 c9_4_3 c9_4_4 lt9_4 y9_4 c9_5_0 c9_5_1 lt9_5 y9_5 pl9_5 c9_6_0 c9_6_1 lt9_6 y9_6 pl9_6 c9_7_1 c9_7_4 lt9_7 y9_7 c9_9_0 c9_9_1 lt9_9 y9_9 pl9_9
  have hL := hO.apart
  have hX := hO.apartX
  have HL := Lib.hid hL
  have HX := Lib.hid hX
  clear hL hX
  have hP9 := hO.pick [3] (by decide)
  have h9_hl : n = 0 + n := (Nat.zero_add _).symm
  have h9_hof : 0 ≤ 1 := (by decide)
  have h9_hC0 : ∀ i : Nat, i < n → ((args loc nd14 n).toArray)[(0 + i) * 2]? = some (.iface 209 (.pointer (some ⟨nd14 i, 0, none⟩))) := (fun i hi => argsAtZ0 hi)
  have h9_hC1 : ∀ i : Nat, i < n → ((args loc nd14 n).toArray)[(0 + i) * 2 + 1]? = some (.int .i32 loc) := (fun i hi => argsAtZ1 hi)
  have T9 := argsAre nd12 ((args loc nd14 n).toArray) loc nd14 0 n n n _ _ _ hP9 h9_hl hn h9_hof h9_hC0 h9_hC1 (fun i hi => Or.inl (Or.inr ⟨i, hi, rfl, rfl⟩))
  refine Calls.mono T9 ?_
  clear hP9 T9 h9_hl h9_hof h9_hC0 h9_hC1
  rintro e u18 ⟨rfl, hQ⟩
  have hN : Own w0 u18 [row (nd12) 35 ((args loc nd14 n).toArray), ((nd5, .map #[] 0) : Rw), row (nd9) 71 #[.iface 231 (.pointer (some ⟨nd10, 0, none⟩)), .int .i32 loc, .slice (some ⟨nd12, 0, none⟩) n n, .int .i32 0, .int .u8 0, .int .u8 0, .bool false, .bool false], row (nd10) 234 #[.iface 229 (.pointer (some ⟨nd11, 0, none⟩)), .int .i32 loc, .iface 209 (.pointer (some ⟨nd13, 0, none⟩)), .int .i32 loc, .int .i32 0, .int .u8 0, .bool false, .bool false, .bool false], row (nd13) 211 #[.int .u32 5, .int .u32 im, .bool false, .bool false, .bool false], row (B1_1) 25 #[.int .u32 5, .int .u32 im], row (B1) 25 #[.int .u32 0, .int .u32 0], row (nd3) 56 (full symZ (symL ([sy ⟨#[70, 111, 111]⟩ 0])) 0), row (nd6) 203 #[.pointer none, .pointer none, .slice none 0 0, .map none, .slice none 0 0, .slice none 0 0, .int .i32 0, .int .i32 0, .int .u32 0, .int .u32 0, .bool false, .bool false, .bool false, .bool false, .int .u8 0, .int .u8 6], row (nd7) 25 #[.int .u32 0, .int .u32 0]] (argsX X nd14 n) := hQ.back HL.out HX.out [0, 1, 2, 4, 5, 6, 7, 8, 9] (by decide) (by decide)
  clear hQ HL HX hO
  have hO := hN
  clear hN
  obtain ⟨c9_2_0, c9_2_1, c9_2_2, c9_2_3, c9_2_4, c9_2_5, c9_2_6, c9_2_7, lt9_2, y9_2, -⟩ := hO.k8 2 rfl
  obtain ⟨c9_3_0, c9_3_1, c9_3_2, c9_3_3, c9_3_4, c9_3_5, c9_3_6, c9_3_7, c9_3_8, lt9_3, y9_3, -⟩ := hO.k9 3 rfl
  obtain ⟨c9_4_0, c9_4_1, c9_4_2, c9_4_3, c9_4_4, lt9_4, y9_4, -⟩ := hO.k5 4 rfl
  obtain ⟨c9_5_0, c9_5_1, lt9_5, y9_5, -⟩ := hO.k2 5 rfl
  obtain ⟨c9_6_0, c9_6_1, lt9_6, y9_6, -⟩ := hO.k2 6 rfl
  obtain ⟨c9_9_0, c9_9_1, lt9_9, y9_9, -⟩ := hO.k2 9 rfl
  have HO := Lib.hid hO
  clear hO
  go_wp2_with (first | (with_reducible refine Own.stay (fn := Tryd.f7) ?_) | (first | (go_at_call 31; go_in)))
  try with_reducible refine Own.Stay.mk ?_
  have hO := HO.out
  clear HO c9_2_0 c9_2_1 c9_2_2 c9_2_3 c9_2_4 c9_2_5 c9_2_6 c9_2_7 lt9_2 y9_2 c9_3_0 c9_3_1 c9_3_2 c9_3_3 c9_3_4 c9_3_5 c9_3_6 c9_3_7 c9_3_8 lt9_3 y9_3 c9_4_0 c9_4_1 c9_4_2 c9_4_3 c9_4_4 lt9_4 y9_4 c9_5_0 c9_5_1 lt9_5 y9_5 c9_6_0 c9_6_1 lt9_6 y9_6 c9_9_0 c9_9_1 lt9_9 y9_9
  have hL := hO.apart
  have hX := hO.apartX
  have HL := Lib.hid hL
  have HX := Lib.hid hX
  clear hL hX
  have hP9 := hO.pick [3] (by decide)
  have T9 := indexOf nd10 229 nd11 loc 209 nd13 loc loc _ _ _ hP9 
  refine Calls.mono T9 ?_
  clear hP9 T9
  rintro e u19 ⟨rfl, hQ⟩
  have hN : Own w0 u19 [row (nd10) 234 #[.iface 229 (.pointer (some ⟨nd11, 0, none⟩)), .int .i32 loc, .iface 209 (.pointer (some ⟨nd13, 0, none⟩)), .int .i32 loc, .int .i32 0, .int .u8 0, .bool false, .bool false, .bool false], row (nd12) 35 ((args loc nd14 n).toArray), ((nd5, .map #[] 0) : Rw), row (nd9) 71 #[.iface 231 (.pointer (some ⟨nd10, 0, none⟩)), .int .i32 loc, .slice (some ⟨nd12, 0, none⟩) n n, .int .i32 0, .int .u8 0, .int .u8 0, .bool false, .bool false], row (nd13) 211 #[.int .u32 5, .int .u32 im, .bool false, .bool false, .bool false], row (B1_1) 25 #[.int .u32 5, .int .u32 im], row (B1) 25 #[.int .u32 0, .int .u32 0], row (nd3) 56 (full symZ (symL ([sy ⟨#[70, 111, 111]⟩ 0])) 0), row (nd6) 203 #[.pointer none, .pointer none, .slice none 0 0, .map none, .slice none 0 0, .slice none 0 0, .int .i32 0, .int .i32 0, .int .u32 0, .int .u32 0, .bool false, .bool false, .bool false, .bool false, .int .u8 0, .int .u8 6], row (nd7) 25 #[.int .u32 0, .int .u32 0]] (argsX X nd14 n) := hQ.back HL.out HX.out [0, 1, 2, 4, 5, 6, 7, 8, 9] (by decide) (by decide)
  clear hQ HL HX hO
  have hO := hN
  clear hN
  obtain ⟨c9_0_0, c9_0_1, c9_0_2, c9_0_3, c9_0_4, c9_0_5, c9_0_6, c9_0_7, c9_0_8, lt9_0, y9_0, -⟩ := hO.k9 0 rfl
  obtain ⟨c9_3_0, c9_3_1, c9_3_2, c9_3_3, c9_3_4, c9_3_5, c9_3_6, c9_3_7, lt9_3, y9_3, -⟩ := hO.k8 3 rfl
  obtain ⟨c9_4_0, c9_4_1, c9_4_2, c9_4_3, c9_4_4, lt9_4, y9_4, -⟩ := hO.k5 4 rfl
  obtain ⟨c9_5_0, c9_5_1, lt9_5, y9_5, -⟩ := hO.k2 5 rfl
  obtain ⟨c9_6_0, c9_6_1, lt9_6, y9_6, -⟩ := hO.k2 6 rfl
  obtain ⟨c9_9_0, c9_9_1, lt9_9, y9_9, -⟩ := hO.k2 9 rfl
  have HO := Lib.hid hO
  clear hO
  go_wp2_with (first | (with_reducible refine Own.stay (fn := Tryd.f7) ?_) | (first | (go_at_call 31; go_in)))
  try with_reducible refine Own.Stay.mk ?_
  have hO := HO.out
  clear HO c9_0_0 c9_0_1 c9_0_2 c9_0_3 c9_0_4 c9_0_5 c9_0_6 c9_0_7 c9_0_8 lt9_0 y9_0 c9_3_0 c9_3_1 c9_3_2 c9_3_3 c9_3_4 c9_3_5 c9_3_6 c9_3_7 lt9_3 y9_3 c9_4_0 c9_4_1 c9_4_2 c9_4_3 c9_4_4 lt9_4 y9_4 c9_5_0 c9_5_1 lt9_5 y9_5 c9_6_0 c9_6_1 lt9_6 y9_6 c9_9_0 c9_9_1 lt9_9 y9_9
  generalize hW : World.alloc _ _ = W21
  have hN : Own w0 W21 [row (u19.heap.size + 1) 35 #[.iface 209 (.pointer (some ⟨nd13, 0, none⟩)), .int .i32 loc], row (u19.heap.size) 35 #[.iface 229 (.pointer (some ⟨nd11, 0, none⟩)), .int .i32 loc], row (nd10) 234 #[.iface 229 (.pointer (some ⟨nd11, 0, none⟩)), .int .i32 loc, .iface 209 (.pointer (some ⟨nd13, 0, none⟩)), .int .i32 loc, .int .i32 0, .int .u8 0, .bool false, .bool false, .bool false], row (nd12) 35 ((args loc nd14 n).toArray), ((nd5, .map #[] 0) : Rw), row (nd9) 71 #[.iface 231 (.pointer (some ⟨nd10, 0, none⟩)), .int .i32 loc, .slice (some ⟨nd12, 0, none⟩) n n, .int .i32 0, .int .u8 0, .int .u8 0, .bool false, .bool false], row (nd13) 211 #[.int .u32 5, .int .u32 im, .bool false, .bool false, .bool false], row (B1_1) 25 #[.int .u32 5, .int .u32 im], row (B1) 25 #[.int .u32 0, .int .u32 0], row (nd3) 56 (full symZ (symL ([sy ⟨#[70, 111, 111]⟩ 0])) 0), row (nd6) 203 #[.pointer none, .pointer none, .slice none 0 0, .map none, .slice none 0 0, .slice none 0 0, .int .i32 0, .int .i32 0, .int .u32 0, .int .u32 0, .bool false, .bool false, .bool false, .bool false, .int .u8 0, .int .u8 6], row (nd7) 25 #[.int .u32 0, .int .u32 0]] (argsX X nd14 n) := by
    rw [← hW]
    exact ((hO).alloc' _ (u19.heap.size) (by simp)).alloc' _ (u19.heap.size + 1) (by simp)
  clear hW hO
  generalize u19.heap.size + 1 = B20_1 at hN ⊢
  generalize u19.heap.size = B20 at hN ⊢
  have hO := hN
  clear hN
  have hL := hO.apart
  have hX := hO.apartX
  have HL := Lib.hid hL
  have HX := Lib.hid hX
  clear hL hX
  have hP9 := hO.pick [6] (by decide)
  have T9 := identOf nd13 loc 5 im _ _ _ hP9 
  refine Calls.mono T9 ?_
  clear hP9 T9
  rintro e u22 ⟨rfl, hQ⟩
  have hN : Own w0 u22 [row (nd13) 211 #[.int .u32 5, .int .u32 im, .bool false, .bool false, .bool false], row (B20_1) 35 #[.iface 209 (.pointer (some ⟨nd13, 0, none⟩)), .int .i32 loc], row (B20) 35 #[.iface 229 (.pointer (some ⟨nd11, 0, none⟩)), .int .i32 loc], row (nd10) 234 #[.iface 229 (.pointer (some ⟨nd11, 0, none⟩)), .int .i32 loc, .iface 209 (.pointer (some ⟨nd13, 0, none⟩)), .int .i32 loc, .int .i32 0, .int .u8 0, .bool false, .bool false, .bool false], row (nd12) 35 ((args loc nd14 n).toArray), ((nd5, .map #[] 0) : Rw), row (nd9) 71 #[.iface 231 (.pointer (some ⟨nd10, 0, none⟩)), .int .i32 loc, .slice (some ⟨nd12, 0, none⟩) n n, .int .i32 0, .int .u8 0, .int .u8 0, .bool false, .bool false], row (B1_1) 25 #[.int .u32 5, .int .u32 im], row (B1) 25 #[.int .u32 0, .int .u32 0], row (nd3) 56 (full symZ (symL ([sy ⟨#[70, 111, 111]⟩ 0])) 0), row (nd6) 203 #[.pointer none, .pointer none, .slice none 0 0, .map none, .slice none 0 0, .slice none 0 0, .int .i32 0, .int .i32 0, .int .u32 0, .int .u32 0, .bool false, .bool false, .bool false, .bool false, .int .u8 0, .int .u8 6], row (nd7) 25 #[.int .u32 0, .int .u32 0]] (argsX X nd14 n) := hQ.back HL.out HX.out [0, 1, 2, 3, 4, 5, 7, 8, 9, 10, 11] (by decide) (by decide)
  clear hQ HL HX hO
  have hO := hN
  clear hN
  obtain ⟨c9_0_0, c9_0_1, c9_0_2, c9_0_3, c9_0_4, lt9_0, y9_0, -⟩ := hO.k5 0 rfl
  obtain ⟨c9_1_0, c9_1_1, lt9_1, y9_1, -⟩ := hO.k2 1 rfl
  obtain ⟨c9_2_0, c9_2_1, lt9_2, y9_2, -⟩ := hO.k2 2 rfl
  obtain ⟨c9_3_0, c9_3_1, c9_3_2, c9_3_3, c9_3_4, c9_3_5, c9_3_6, c9_3_7, c9_3_8, lt9_3, y9_3, -⟩ := hO.k9 3 rfl
  obtain ⟨c9_6_0, c9_6_1, c9_6_2, c9_6_3, c9_6_4, c9_6_5, c9_6_6, c9_6_7, lt9_6, y9_6, -⟩ := hO.k8 6 rfl
  obtain ⟨c9_7_0, c9_7_1, lt9_7, y9_7, -⟩ := hO.k2 7 rfl
  obtain ⟨c9_8_0, c9_8_1, lt9_8, y9_8, -⟩ := hO.k2 8 rfl
  obtain ⟨c9_11_0, c9_11_1, lt9_11, y9_11, -⟩ := hO.k2 11 rfl
  have HO := Lib.hid hO
  clear hO
  go_wp2_with (first | (with_reducible refine Own.stay (fn := Tryd.f7) ?_) | (first | (go_at_call 31; go_in)))
  try with_reducible refine Own.Stay.mk ?_
  have hO := HO.out
  clear HO c9_0_0 c9_0_1 c9_0_2 c9_0_3 c9_0_4 lt9_0 y9_0 c9_1_0 c9_1_1 lt9_1 y9_1 c9_2_0 c9_2_1 lt9_2 y9_2 c9_3_0 c9_3_1 c9_3_2 c9_3_3 c9_3_4 c9_3_5 c9_3_6 c9_3_7 c9_3_8 lt9_3 y9_3 c9_6_0 c9_6_1 c9_6_2 c9_6_3 c9_6_4 c9_6_5 c9_6_6 c9_6_7 lt9_6 y9_6 c9_7_0 c9_7_1 lt9_7 y9_7 c9_8_0 c9_8_1 lt9_8 y9_8 c9_11_0 c9_11_1 lt9_11 y9_11
  generalize hW : World.alloc _ _ = W24
  have hN : Own w0 W24 [row (u22.heap.size) 25 #[.int .u32 5, .int .u32 im], row (nd13) 211 #[.int .u32 5, .int .u32 im, .bool false, .bool false, .bool false], row (B20_1) 35 #[.iface 209 (.pointer (some ⟨nd13, 0, none⟩)), .int .i32 loc], row (B20) 35 #[.iface 229 (.pointer (some ⟨nd11, 0, none⟩)), .int .i32 loc], row (nd10) 234 #[.iface 229 (.pointer (some ⟨nd11, 0, none⟩)), .int .i32 loc, .iface 209 (.pointer (some ⟨nd13, 0, none⟩)), .int .i32 loc, .int .i32 0, .int .u8 0, .bool false, .bool false, .bool false], row (nd12) 35 ((args loc nd14 n).toArray), ((nd5, .map #[] 0) : Rw), row (nd9) 71 #[.iface 231 (.pointer (some ⟨nd10, 0, none⟩)), .int .i32 loc, .slice (some ⟨nd12, 0, none⟩) n n, .int .i32 0, .int .u8 0, .int .u8 0, .bool false, .bool false], row (B1_1) 25 #[.int .u32 5, .int .u32 im], row (B1) 25 #[.int .u32 0, .int .u32 0], row (nd3) 56 (full symZ (symL ([sy ⟨#[70, 111, 111]⟩ 0])) 0), row (nd6) 203 #[.pointer none, .pointer none, .slice none 0 0, .map none, .slice none 0 0, .slice none 0 0, .int .i32 0, .int .i32 0, .int .u32 0, .int .u32 0, .bool false, .bool false, .bool false, .bool false, .int .u8 0, .int .u8 6], row (nd7) 25 #[.int .u32 0, .int .u32 0]] (argsX X nd14 n) := by
    rw [← hW]
    exact (hO).alloc' _ (u22.heap.size) (by simp)
  clear hW hO
  generalize u22.heap.size = B23 at hN ⊢
  have hO := hN
  clear hN
  have hL := hO.apart
  have hX := hO.apartX
  have HL := Lib.hid hL
  have HX := Lib.hid hX
  clear hL hX
  have hP9 := hO.pick [] (by decide)
  have T9 := isSuperO nd11 loc _ _ _ hP9 
  refine Calls.mono T9 ?_
  clear hP9 T9
  rintro e u25 ⟨rfl, hQ⟩
  have hN : Own w0 u25 [row (B23) 25 #[.int .u32 5, .int .u32 im], row (nd13) 211 #[.int .u32 5, .int .u32 im, .bool false, .bool false, .bool false], row (B20_1) 35 #[.iface 209 (.pointer (some ⟨nd13, 0, none⟩)), .int .i32 loc], row (B20) 35 #[.iface 229 (.pointer (some ⟨nd11, 0, none⟩)), .int .i32 loc], row (nd10) 234 #[.iface 229 (.pointer (some ⟨nd11, 0, none⟩)), .int .i32 loc, .iface 209 (.pointer (some ⟨nd13, 0, none⟩)), .int .i32 loc, .int .i32 0, .int .u8 0, .bool false, .bool false, .bool false], row (nd12) 35 ((args loc nd14 n).toArray), ((nd5, .map #[] 0) : Rw), row (nd9) 71 #[.iface 231 (.pointer (some ⟨nd10, 0, none⟩)), .int .i32 loc, .slice (some ⟨nd12, 0, none⟩) n n, .int .i32 0, .int .u8 0, .int .u8 0, .bool false, .bool false], row (B1_1) 25 #[.int .u32 5, .int .u32 im], row (B1) 25 #[.int .u32 0, .int .u32 0], row (nd3) 56 (full symZ (symL ([sy ⟨#[70, 111, 111]⟩ 0])) 0), row (nd6) 203 #[.pointer none, .pointer none, .slice none 0 0, .map none, .slice none 0 0, .slice none 0 0, .int .i32 0, .int .i32 0, .int .u32 0, .int .u32 0, .bool false, .bool false, .bool false, .bool false, .int .u8 0, .int .u8 6], row (nd7) 25 #[.int .u32 0, .int .u32 0]] (argsX X nd14 n) := hQ.back HL.out HX.out [0, 1, 2, 3, 4, 5, 6, 7, 8, 9, 10, 11, 12] (by decide) (by decide)
  clear hQ HL HX hO
  have hO := hN
  clear hN
  obtain ⟨c9_0_0, c9_0_1, lt9_0, y9_0, -⟩ := hO.k2 0 rfl
  obtain ⟨c9_1_0, c9_1_1, c9_1_2, c9_1_3, c9_1_4, lt9_1, y9_1, -⟩ := hO.k5 1 rfl
  obtain ⟨c9_2_0, c9_2_1, lt9_2, y9_2, -⟩ := hO.k2 2 rfl
  obtain ⟨c9_3_0, c9_3_1, lt9_3, y9_3, -⟩ := hO.k2 3 rfl
  obtain ⟨c9_4_0, c9_4_1, c9_4_2, c9_4_3, c9_4_4, c9_4_5, c9_4_6, c9_4_7, c9_4_8, lt9_4, y9_4, -⟩ := hO.k9 4 rfl
  obtain ⟨c9_7_0, c9_7_1, c9_7_2, c9_7_3, c9_7_4, c9_7_5, c9_7_6, c9_7_7, lt9_7, y9_7, -⟩ := hO.k8 7 rfl
  obtain ⟨c9_8_0, c9_8_1, lt9_8, y9_8, -⟩ := hO.k2 8 rfl
  obtain ⟨c9_9_0, c9_9_1, lt9_9, y9_9, -⟩ := hO.k2 9 rfl
  obtain ⟨c9_12_0, c9_12_1, lt9_12, y9_12, -⟩ := hO.k2 12 rfl
  have HO := Lib.hid hO
  clear hO
  go_wp2_with (first | (with_reducible refine Own.stay (fn := Tryd.f7) ?_) | (first | (go_at_call 31; go_in)))
  try with_reducible refine Own.Stay.mk ?_
  have hO := HO.out
  clear HO c9_0_0 c9_0_1 lt9_0 y9_0 c9_1_0 c9_1_1 c9_1_2 c9_1_3 c9_1_4 lt9_1 y9_1 c9_2_0 c9_2_1 lt9_2 y9_2 c9_3_0 c9_3_1 lt9_3 y9_3 c9_4_0 c9_4_1 c9_4_2 c9_4_3 c9_4_4 c9_4_5 c9_4_6 c9_4_7 c9_4_8 lt9_4 y9_4 c9_7_0 c9_7_1 c9_7_2 c9_7_3 c9_7_4 c9_7_5 c9_7_6 c9_7_7 lt9_7 y9_7 c9_8_0 c9_8_1 lt9_8 y9_8 c9_9_0 c9_9_1 lt9_9 y9_9 c9_12_0 c9_12_1 lt9_12 y9_12
  refine bodyPost_ret (v := .bool true) ?_ rfl ⟨rfl, (hO.sub [] (by decide)).weaken (fun _ _ => Or.inl)⟩
  simp [results, Tryd.results7, go_sem]
end Go.Proofs.YtkhmjppfogppoaaDoor.Use
