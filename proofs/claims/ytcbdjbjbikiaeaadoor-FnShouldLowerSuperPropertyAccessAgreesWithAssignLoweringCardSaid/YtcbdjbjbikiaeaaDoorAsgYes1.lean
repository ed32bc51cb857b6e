/- An assignment's target that is lowered. No condition. -/
import Derived.Test.YtcbdjbjbikiaeaaDoorOwnK
import Derived.Test.YtcbdjbjbikiaeaaDoorOwn
import Derived.Test.YtcbdjbjbikiaeaaDoorDeepCells
import Derived.Test.YtcbdjbjbikiaeaaDoorRows
import Derived.Test.YtcbdjbjbikiaeaaDoorDead
import Derived.Test.YtcbdjbjbikiaeaaDoorNew
import Derived.Test.YtcbdjbjbikiaeaaDoorNewL
import Derived.Test.YtcbdjbjbikiaeaaDoorStr
import Derived.Test.YtcbdjbjbikiaeaaDoorStrX
import Derived.Test.YtcbdjbjbikiaeaaDoorSuperWrap0
import Derived.Test.YtcbdjbjbikiaeaaDoorSuperWrap1
namespace Go.Proofs.YtcbdjbjbikiaeaaDoor.Use
open Go.ChangeShapes Go.WideShapes Go.ChangeAt Go.RowKit Go.Sort Own
set_option linter.unusedVariables false
def rasgDyri1E (d : Nat) (loc : Int) (kx : Nat) (nm : ByteArray) : Nat → Rega.Atoms → Value
  | 0, α => .pointer (some ⟨d, 0, none⟩)
  | 1, α => .pointer (some ⟨d, 0, none⟩)
  | 2, α => .pointer (some ⟨d, 3, none⟩)
  | 3, α => .agg #[.int .i32 loc]
  | 4, α => .pointer (some ⟨d, 0, none⟩)
  | 5, α => .pointer (some ⟨d, 0, none⟩)
  | 6, α => .pointer (some ⟨d, 2, none⟩)
  | 7, α => .string nm
  | 8, α => .slice (some ⟨α 8, 0, none⟩) (α 1008) (α 2008)
  | 9, α => .agg #[.slice (some ⟨α 8, 0, none⟩) (α 1008) (α 2008), .int .i32 0, .bool false, .bool false, .bool false]
  | 10, α => .pointer (some ⟨α 10, 0, none⟩)
  | 11, α => .iface 50 (.pointer (some ⟨α 10, 0, none⟩))
  | 12, α => .agg #[.iface 50 (.pointer (some ⟨α 10, 0, none⟩)), .int .i32 loc]
  | 13, α => .pointer (some ⟨α 13, 0, none⟩)
  | 14, α => undef
  | _, _ => undef
def rasgDyri1Anc : Nat → List Nat
  | 1 => [0]
  | 2 => [0, 1]
  | 3 => [0, 1, 2]
  | 5 => [4]
  | 6 => [4, 5]
  | 7 => [4, 5, 6]
  | 8 => [4, 5, 6, 7]
  | 9 => [4, 5, 6, 7, 8]
  | 10 => [4, 5, 6, 7, 8, 9]
  | 11 => [4, 5, 6, 7, 8, 9, 10]
  | 12 => [0, 1, 2, 3, 4, 5, 6, 7, 8, 9, 10, 11]
  | 14 => [0, 1, 2, 3, 4, 5, 6, 7, 8, 9, 10, 11, 12, 13]
  | _ => []
def rasgDyri1Trn : Nat → List Nat
  | 14 => [13]
  | _ => []
def rasgDyri1Cnt : List (Nat × Nat) := [(10, 1), (13, 1)]
def rasgDyri1T13 (d : Nat) (loc : Int) (kx : Nat) (nm : ByteArray) (L9 : Nat → Bool) (α : Rega.Atoms) : Rw := if L9 14 = true then row (α 13) 30 #[.iface 50 (.pointer (some ⟨α 10, 0, none⟩)), .int .i32 loc] else row (α 13) 30 #[.nilIface, .int .i32 0]
def rasgDyri1R (d : Nat) (loc : Int) (kx : Nat) (nm : ByteArray) (L9 : Nat → Bool) (α : Rega.Atoms) (ix9 : Nat) : Rw := if ix9 = 999 then row (d) 44 #[.iface 244 (.pointer (some ⟨kx, 0, none⟩)), .int .i32 loc, .string nm, .int .i32 loc, .int .u8 0, .bool false, .bool false, .bool false] else if ix9 = 10 then row (α 10) 214 #[.slice (some ⟨α 8, 0, none⟩) (α 1008) (α 2008), .int .i32 0, .bool false, .bool false, .bool false] else if ix9 = 13 then rasgDyri1T13 d loc kx nm L9 α else (0, .map #[] 0)
theorem rasgDyri1_he (d : Nat) (loc : Int) (kx : Nat) (nm : ByteArray) : ∀ kk α α', (∀ j, (j % 1000 = kk ∨ j % 1000 ∈ rasgDyri1Anc kk) → α j = α' j) → rasgDyri1E d loc kx nm kk α = rasgDyri1E d loc kx nm kk α' := by
  intro kk α α' h
  match kk with
  | 0 => rfl
  | 1 => rfl
  | 2 => rfl
  | 3 => rfl
  | 4 => rfl
  | 5 => rfl
  | 6 => rfl
  | 7 => rfl
  | 8 => simp only [rasgDyri1E, h 8 (Or.inl rfl), h 1008 (Or.inl rfl), h 2008 (Or.inl rfl)]
  | 9 => simp only [rasgDyri1E, h 8 (Or.inr (by decide)), h 1008 (Or.inr (by decide)), h 2008 (Or.inr (by decide))]
  | 10 => simp only [rasgDyri1E, h 10 (Or.inl rfl)]
  | 11 => simp only [rasgDyri1E, h 10 (Or.inr (by decide))]
  | 12 => simp only [rasgDyri1E, h 10 (Or.inr (by decide))]
  | 13 => simp only [rasgDyri1E, h 13 (Or.inl rfl)]
  | 14 => rfl
  | n + 15 => rfl
theorem rasgDyri1_st (d : Nat) (loc : Int) (kx : Nat) (nm : ByteArray) : Stable rasgDyri1Cnt 1 rasgDyri1Anc rasgDyri1Trn (rasgDyri1R d loc kx nm) := by
  intro k9 L9 α α' ix9 hk hcl hα hact ht
  have hp := act_places hact
  replace hp : ix9 ∈ [999, 10, 13] := hp
  simp only [List.mem_cons, List.not_mem_nil, or_false] at hp
  rcases hp with rfl | rfl | rfl
  · rfl
  · have e0 : L9 10 = true := act_lt hact (by decide)
    show row (α' 10) 214 #[.slice (some ⟨α' 8, 0, none⟩) (α' 1008) (α' 2008), .int .i32 0, .bool false, .bool false, .bool false] = row (α 10) 214 #[.slice (some ⟨α 8, 0, none⟩) (α 1008) (α 2008), .int .i32 0, .bool false, .bool false, .bool false]
    simp only [hα 8 (ne_ran hk (hcl 10 e0 8 (by decide))), hα 10 (ne_ran hk e0), hα 1008 (ne_ran hk (hcl 10 e0 8 (by decide))), hα 2008 (ne_ran hk (hcl 10 e0 8 (by decide)))]
  · have e0 : L9 13 = true := act_lt hact (by decide)
    show rasgDyri1T13 d loc kx nm (Rega.ran L9 k9) α' = rasgDyri1T13 d loc kx nm L9 α
    unfold rasgDyri1T13
    have n14 : 14 ≠ k9 := fun e => ht (by rw [← e]; decide)
    rw [ran_ne n14]
    by_cases e14 : L9 14 = true
    · first | rw [if_pos e14, if_pos e14] | rw [if_pos e14]
      try simp only [hα 10 (ne_ran hk (hcl 14 e14 10 (by decide))), hα 13 (ne_ran hk (hcl 14 e14 13 (by decide)))]
    first | rw [if_neg e14, if_neg e14] | rw [if_neg e14]
    try simp only [hα 13 (ne_ran hk e0)]
def asgDyriPost (pb : Nat) (PC : Array Value) (mp cr d : Nat) (loc : Int) (kx : Nat) (nm : ByteArray) (w0 : World) (X : Nat → Obj → Prop) (e : Ending) (w' : World) : Prop :=
  ∃ dd : Nat, e = .returned (.tuple #[.agg #[.iface 40 (.pointer (some ⟨dd, 0, none⟩)), .int .i32 loc], .bool true]) ∧ Own w0 w' [row (pb) 206 PC, (mp, .map map3 3), row (cr) 68 #[.int .u32 0, .int .u32 1]] X
set_option maxRecDepth 100000 in
set_option maxHeartbeats 1000000 in
theorem asgDyri (pb : Nat) (PC : Array Value) (mp cr d : Nat) (loc : Int) (kx : Nat) (nm : ByteArray) (w0 w : World) (X : Nat → Obj → Prop) (hO : Own w0 w [row (pb) 206 PC, (mp, .map map3 3), row (cr) 68 #[.int .u32 0, .int .u32 1], row (d) 44 #[.iface 244 (.pointer (some ⟨kx, 0, none⟩)), .int .i32 loc, .string nm, .int .i32 loc, .int .u8 0, .bool false, .bool false, .bool false]] X) (hD : Dead PC mp cr true false) (hl : PC[338]? = some (.bool true)) (hlen : nm.size ≤ 1048576) :
    Calls Tryd.prog 35 #[.pointer (some ⟨pb, 0, none⟩), .agg #[.iface 40 (.pointer (some ⟨d, 0, none⟩)), .int .i32 loc]] w (asgDyriPost pb PC mp cr d loc kx nm w0 X) := by
  go_enter Tryd.func35, Tryd.ntmps35
  have c9_0_32 : w.cell? ⟨pb, 32, none⟩ = some (.bool false) := hO.cell 0 rfl 32 (hD.ts)
  have c9_0_95 : w.cell? ⟨pb, 95, none⟩ = some (.bool true) := hO.cell 0 rfl 95 (hD.rep)
  have c9_0_96 : w.cell? ⟨pb, 96, none⟩ = some (.bool false) := hO.cell 0 rfl 96 (hD.stat)
  have c9_0_97 : w.cell? ⟨pb, 97, none⟩ = some (.pointer (some ⟨cr, 0, none⟩)) := hO.cell 0 rfl 97 (hD.cls)
  have c9_0_117 : w.cell? ⟨pb, 117, none⟩ = some (.map (some mp)) := hO.cell 0 rfl 117 (hD.imp)
  have c9_0_338 : w.cell? ⟨pb, 338, none⟩ = some (.bool true) := hO.cell 0 rfl 338 (hl)
  have c9_0_350 : w.cell? ⟨pb, 350, none⟩ = some (.bool true) := hO.cell 0 rfl 350 (hD.dead)
  have lt9_0 : pb < w.heap.size := hO.lt 0 rfl
  have y9_0 : ∀ o, w.frozen? ⟨pb, o, none⟩ = false := hO.free 0 rfl
  obtain ⟨c9_2_0, c9_2_1, lt9_2, y9_2, -⟩ := hO.k2 2 rfl
  obtain ⟨c9_3_0, c9_3_1, c9_3_2, c9_3_3, c9_3_4, c9_3_5, c9_3_6, c9_3_7, lt9_3, y9_3, -⟩ := hO.k8 3 rfl
  have HO := Lib.hid hO
  clear hO
  go_wp2_with (first | (go_at_call 34; go_in) | (go_at_call 30; go_in) | (go_at_call 31; go_in) | (go_at_call 32; go_in) | (go_at_call 12; go_in) | (go_at_call 10; go_in) | (go_at_call 9; go_in) | (go_at_call 7; go_in))
  have hO := HO.out
  clear HO c9_0_32 c9_0_95 c9_0_96 c9_0_97 c9_0_117 c9_0_338 c9_0_350 lt9_0 y9_0 c9_2_0 c9_2_1 lt9_2 y9_2 c9_3_0 c9_3_1 c9_3_2 c9_3_3 c9_3_4 c9_3_5 c9_3_6 c9_3_7 lt9_3 y9_3
  generalize hW : World.alloc _ _ = W2
  have hN : Own w0 W2 [row (w.heap.size + 1 + 1) 30 #[.iface 244 (.pointer (some ⟨kx, 0, none⟩)), .int .i32 loc], row (w.heap.size + 1) 30 #[.nilIface, .int .i32 0], row (w.heap.size) 30 #[.iface 40 (.pointer (some ⟨d, 0, none⟩)), .int .i32 loc], row (pb) 206 PC, (mp, .map map3 3), row (cr) 68 #[.int .u32 0, .int .u32 1], row (d) 44 #[.iface 244 (.pointer (some ⟨kx, 0, none⟩)), .int .i32 loc, .string nm, .int .i32 loc, .int .u8 0, .bool false, .bool false, .bool false]] X := by
    rw [← hW]
    exact (((hO).alloc' _ (w.heap.size) (by simp)).alloc' _ (w.heap.size + 1) (by simp)).alloc' _ (w.heap.size + 1 + 1) (by simp)
  clear hW hO
  generalize w.heap.size + 1 + 1 = B1_2 at hN ⊢
  generalize w.heap.size + 1 = B1_1 at hN ⊢
  generalize w.heap.size = B1 at hN ⊢
  have hO := hN
  clear hN
  have hL := hO.apart
  have hX := hO.apartX
  have HL := Lib.hid hL
  have HX := Lib.hid hX
  clear hL hX
  have hP9 := hO.pick [6] (by decide)
  generalize hX9_3 : Own.Rest _ _ X = X9_3 at hP9
  replace hP9 : Own w0 W2 [row (d) 44 #[.iface 244 (.pointer (some ⟨kx, 0, none⟩)), .int .i32 loc, .string nm, .int .i32 loc, .int .u8 0, .bool false, .bool false, .bool false]] X9_3 := hP9
  clear hO
  have hO := hP9
  clear hP9
  have st9 := rasgDyri1_st d loc kx nm
  refine wp_region_own (e := rasgDyri1E d loc kx nm) (anc := rasgDyri1Anc) (G := (fun L9 α u9 => OwnF w0 u9 (act rasgDyri1Cnt 1 L9) (rasgDyri1R d loc kx nm L9 α) X9_3)) (by kernel_rfl) (by kernel_rfl) (by kernel_rfl) (by kernel_rfl) (rasgDyri1_he d loc kx nm) ?_ (RunsAll.all ?_) ?_
  · have hp : ∀ i, act rasgDyri1Cnt 1 (fun _ => false) i → i ∈ [999] := by
      intro i hi
      have h9 : i % 1000 = 999 := by
        by_cases h : i % 1000 = 999
        · exact h
        · exact absurd (act_lt hi h) (by simp)
      unfold act at hi
      rw [if_pos h9] at hi
      simp only [List.mem_cons, List.not_mem_nil, or_false]
      omega
    refine hO.drew.family (fun i hi => ?_) (fun i j hi hj hij => ?_)
    · have := hp i hi
      simp only [List.mem_cons, List.not_mem_nil, or_false] at this
      subst this
      rfl
    · have h1 := hp i hi
      have h2 := hp j hj
      simp only [List.mem_cons, List.not_mem_nil, or_false] at h1 h2
      omega
  · refine ⟨?_, ?_, ?_, ?_, ?_, ?_, ?_, ?_, ?_, ?_, ?_, ?_, ?_, ?_, ?_, trivial⟩
    · intro L9 α a9 u9 K9 hL hcl hA hG hS h0 hK
      replace hL : L9 0 = false := hL
      have q10 : a9.tmps[10]? = some (.pointer (some ⟨d, 0, none⟩)) := (h0 10 (by kernel_rfl)).trans rfl
      have s10 := Rega.eval_of q10
      go_simp
      exact hK _ α _ (fun _ _ => rfl) rfl (step_same (st9) hL hcl rfl rfl hG)
    · intro L9 α a9 u9 K9 hL hcl hA hG hS h0 hK
      replace hL : L9 1 = false := hL
      have q55 : a9.tmps[55]? = some (.pointer (some ⟨d, 0, none⟩)) := hS 0 55 (by decide) rfl (by show 55 < 250; decide)
      have s55 := Rega.eval_of q55
      go_simp
      exact hK _ α _ (fun _ _ => rfl) rfl (step_same (st9) hL hcl rfl rfl hG)
    · intro L9 α a9 u9 K9 hL hcl hA hG hS h0 hK
      replace hL : L9 2 = false := hL
      have q56 : a9.tmps[56]? = some (.pointer (some ⟨d, 0, none⟩)) := hS 1 56 (by decide) rfl (by show 56 < 250; decide)
      have s56 := Rega.eval_of q56
      go_simp
      exact hK _ α _ (fun _ _ => rfl) rfl (step_same (st9) hL hcl rfl rfl hG)
    · intro L9 α a9 u9 K9 hL hcl hA hG hS h0 hK
      replace hL : L9 3 = false := hL
      have q57 : a9.tmps[57]? = some (.pointer (some ⟨d, 3, none⟩)) := hS 2 57 (by decide) rfl (by show 57 < 250; decide)
      have s57 := Rega.eval_of q57
      have e0 : rasgDyri1R d loc kx nm L9 α 999 = row (d) 44 #[.iface 244 (.pointer (some ⟨kx, 0, none⟩)), .int .i32 loc, .string nm, .int .i32 loc, .int .u8 0, .bool false, .bool false, .bool false] := rfl
      have hr := hG.rowAt 999 (act_base 999 rfl) e0
      have c0 : u9.cell? ⟨d, 3, none⟩ = some (.int .i32 loc) := hr.cell rfl
      clear hr e0
      go_simp
      exact hK _ α _ (fun _ _ => rfl) rfl (step_same (st9) hL hcl rfl rfl hG)
    · intro L9 α a9 u9 K9 hL hcl hA hG hS h0 hK
      replace hL : L9 4 = false := hL
      have q10 : a9.tmps[10]? = some (.pointer (some ⟨d, 0, none⟩)) := (h0 10 (by kernel_rfl)).trans rfl
      have s10 := Rega.eval_of q10
      go_simp
      exact hK _ α _ (fun _ _ => rfl) rfl (step_same (st9) hL hcl rfl rfl hG)
    · intro L9 α a9 u9 K9 hL hcl hA hG hS h0 hK
      replace hL : L9 5 = false := hL
      have q59 : a9.tmps[59]? = some (.pointer (some ⟨d, 0, none⟩)) := hS 4 59 (by decide) rfl (by show 59 < 250; decide)
      have s59 := Rega.eval_of q59
      go_simp
      exact hK _ α _ (fun _ _ => rfl) rfl (step_same (st9) hL hcl rfl rfl hG)
    · intro L9 α a9 u9 K9 hL hcl hA hG hS h0 hK
      replace hL : L9 6 = false := hL
      have q60 : a9.tmps[60]? = some (.pointer (some ⟨d, 0, none⟩)) := hS 5 60 (by decide) rfl (by show 60 < 250; decide)
      have s60 := Rega.eval_of q60
      go_simp
      exact hK _ α _ (fun _ _ => rfl) rfl (step_same (st9) hL hcl rfl rfl hG)
    · intro L9 α a9 u9 K9 hL hcl hA hG hS h0 hK
      replace hL : L9 7 = false := hL
      have q61 : a9.tmps[61]? = some (.pointer (some ⟨d, 2, none⟩)) := hS 6 61 (by decide) rfl (by show 61 < 250; decide)
      have s61 := Rega.eval_of q61
      have e0 : rasgDyri1R d loc kx nm L9 α 999 = row (d) 44 #[.iface 244 (.pointer (some ⟨kx, 0, none⟩)), .int .i32 loc, .string nm, .int .i32 loc, .int .u8 0, .bool false, .bool false, .bool false] := rfl
      have hr := hG.rowAt 999 (act_base 999 rfl) e0
      have c0 : u9.cell? ⟨d, 2, none⟩ = some (.string nm) := hr.cell rfl
      clear hr e0
      go_simp
      exact hK _ α _ (fun _ _ => rfl) rfl (step_same (st9) hL hcl rfl rfl hG)
    · intro L9 α a9 u9 K9 hL hcl hA hG hS h0 hK
      replace hL : L9 8 = false := hL
      have q62 : a9.tmps[62]? = some (.string nm) := hS 7 62 (by decide) rfl (by show 62 < 250; decide)
      have s62 := Rega.eval_of q62
      go_simp
      have hM : ∀ i, i ∈ [] → act rasgDyri1Cnt 1 L9 i := by intro i hi; simp at hi
      have hP : Own w0 u9 [] _ := hG.pick [] (by decide) (by simp)
      clear hM
      refine Calls.mono (toU16 nm _ _ _ hP hlen) ?_
      rintro e9 u1 ⟨b0, b1, b2, rfl, hQ⟩
      obtain ⟨α', hα'⟩ : ∃ α' : Rega.Atoms, α' = (fun j => if j = 8 then b0 else if j = 1008 then b1 else if j = 2008 then b2 else α j) := ⟨_, rfl⟩
      have hα : ∀ j, j % 1000 ≠ 8 → α' j = α j := fun j hj => by rw [hα']; simp only []; rw [if_neg (by omega), if_neg (by omega), if_neg (by omega)]
      have hb0 : α' 8 = b0 := by rw [hα']; rfl
      have hb1 : α' 1008 = b1 := by rw [hα']; rfl
      have hb2 : α' 2008 = b2 := by rw [hα']; rfl
      skip
      refine hK _ α' _ hα ?_ (step_call (st9) hL hcl hα [] [] (by decide) (by decide) (by decide) (M := _) ?_ hG hQ)
      · show _ = (.slice (some ⟨α' 8, 0, none⟩) (α' 1008) (α' 2008) : Value)
        simp only [hb0, hb1, hb2]
      · show [] = _
        rw []
    · intro L9 α a9 u9 K9 hL hcl hA hG hS h0 hK
      replace hL : L9 9 = false := hL
      have q63 : a9.tmps[63]? = some (.slice (some ⟨α 8, 0, none⟩) (α 1008) (α 2008)) := hS 8 63 (by decide) rfl (by show 63 < 250; decide)
      have s63 := Rega.eval_of q63
      go_simp
      exact hK _ α _ (fun _ _ => rfl) rfl (step_same (st9) hL hcl rfl rfl hG)
    · intro L9 α a9 u9 K9 hL hcl hA hG hS h0 hK
      replace hL : L9 10 = false := hL
      have q64 : a9.tmps[64]? = some (.agg #[.slice (some ⟨α 8, 0, none⟩) (α 1008) (α 2008), .int .i32 0, .bool false, .bool false, .bool false]) := hS 9 64 (by decide) rfl (by show 64 < 250; decide)
      have s64 := Rega.eval_of q64
      go_simp
      exact hK _ (fun j => if j = 10 then u9.heap.size else α j) _ (fun j hj => if_neg (fun e => hj (by rw [e]))) rfl (step_alloc (st9) hL hcl rfl rfl (by decide) _ rfl hG)
    · intro L9 α a9 u9 K9 hL hcl hA hG hS h0 hK
      replace hL : L9 11 = false := hL
      have q65 : a9.tmps[65]? = some (.pointer (some ⟨α 10, 0, none⟩)) := hS 10 65 (by decide) rfl (by show 65 < 250; decide)
      have s65 := Rega.eval_of q65
      go_simp
      exact hK _ α _ (fun _ _ => rfl) rfl (step_same (st9) hL hcl rfl rfl hG)
    · intro L9 α a9 u9 K9 hL hcl hA hG hS h0 hK
      replace hL : L9 12 = false := hL
      have q58 : a9.tmps[58]? = some (.agg #[.int .i32 loc]) := hS 3 58 (by decide) rfl (by show 58 < 250; decide)
      have s58 := Rega.eval_of q58
      have q66 : a9.tmps[66]? = some (.iface 50 (.pointer (some ⟨α 10, 0, none⟩))) := hS 11 66 (by decide) rfl (by show 66 < 250; decide)
      have s66 := Rega.eval_of q66
      go_simp
      exact hK _ α _ (fun _ _ => rfl) rfl (step_same (st9) hL hcl rfl rfl hG)
    · intro L9 α a9 u9 K9 hL hcl hA hG hS h0 hK
      replace hL : L9 13 = false := hL
      go_simp
      have e1 : rasgDyri1R d loc kx nm (Rega.ran L9 13) (fun j => if j = 13 then u9.heap.size else α j) 13 = row (u9.heap.size) 30 #[.nilIface, .int .i32 0] := by
        show rasgDyri1T13 d loc kx nm (Rega.ran L9 13) (fun j => if j = 13 then u9.heap.size else α j) = _
        unfold rasgDyri1T13
        exact ((if_neg (fun e => (fun e => by have := hcl 14 e 13 (by decide); rw [hL] at this; cases this) ((ran_ne (by decide)).symm.trans e))).trans rfl)
      exact hK _ (fun j => if j = 13 then u9.heap.size else α j) _ (fun j hj => if_neg (fun e => hj (by rw [e]))) rfl (step_alloc (st9) hL hcl rfl rfl (by decide) _ e1 hG)
    · intro L9 α a9 u9 K9 hL hcl hA hG hS h0 hK
      replace hL : L9 14 = false := hL
      have q11 : a9.tmps[11]? = some (.pointer (some ⟨α 13, 0, none⟩)) := hS 13 11 (by decide) rfl (by show 11 < 250; decide)
      have s11 := Rega.eval_of q11
      have q67 : a9.tmps[67]? = some (.agg #[.iface 50 (.pointer (some ⟨α 10, 0, none⟩)), .int .i32 loc]) := hS 12 67 (by decide) rfl (by show 67 < 250; decide)
      have s67 := Rega.eval_of q67
      have e0 : rasgDyri1R d loc kx nm L9 α 13 = row (α 13) 30 #[.nilIface, .int .i32 0] := by
        show rasgDyri1T13 d loc kx nm L9 α = _
        unfold rasgDyri1T13
        rw [if_neg (by rw [hL]; decide)]
      have hr := hG.rowAt 13 (act_new 13 rfl (hA 13 (by decide))) e0
      have c0 : u9.cell? ⟨α 13, 0, none⟩ = some (.nilIface) := hr.cell rfl
      have y0 : u9.frozen? ⟨α 13, 0, none⟩ = false := hr.free 0
      have c1 : u9.cell? ⟨α 13, 1, none⟩ = some (.int .i32 0) := hr.cell rfl
      have y1 : u9.frozen? ⟨α 13, 1, none⟩ = false := hr.free 1
      clear hr
      have E0 := Lib.hid e0
      clear e0
      go_simp
      have e1 : rasgDyri1R d loc kx nm (Rega.ran L9 14) α 13 = row (α 13) 30 #[.iface 50 (.pointer (some ⟨α 10, 0, none⟩)), .int .i32 loc] := by
        show rasgDyri1T13 d loc kx nm (Rega.ran L9 14) α = _
        unfold rasgDyri1T13
        rw [if_pos (show Rega.ran L9 14 14 = true from rfl)]
      exact hK _ α _ (fun _ _ => rfl) rfl (step_sets (st9) hL hcl rfl 13 rfl (act_new 13 rfl (hA 13 (by decide))) E0.out 0 [.iface 50 (.pointer (some ⟨α 10, 0, none⟩)), .int .i32 loc] (e1.trans rfl) hG)
  · clear st9
    intro α u hG
    have e0 : rasgDyri1R d loc kx nm (fun k => decide (k < 15)) α 999 = row (d) 44 #[.iface 244 (.pointer (some ⟨kx, 0, none⟩)), .int .i32 loc, .string nm, .int .i32 loc, .int .u8 0, .bool false, .bool false, .bool false] := rfl
    have e1 : rasgDyri1R d loc kx nm (fun k => decide (k < 15)) α 10 = row (α 10) 214 #[.slice (some ⟨α 8, 0, none⟩) (α 1008) (α 2008), .int .i32 0, .bool false, .bool false, .bool false] := rfl
    have e2 : rasgDyri1R d loc kx nm (fun k => decide (k < 15)) α 13 = row (α 13) 30 #[.iface 50 (.pointer (some ⟨α 10, 0, none⟩)), .int .i32 loc] := by
      show rasgDyri1T13 d loc kx nm (fun k => decide (k < 15)) α = _
      unfold rasgDyri1T13
      rw [if_pos (by decide)]
    have hO : Own w0 u [row (d) 44 #[.iface 244 (.pointer (some ⟨kx, 0, none⟩)), .int .i32 loc, .string nm, .int .i32 loc, .int .u8 0, .bool false, .bool false, .bool false], row (α 10) 214 #[.slice (some ⟨α 8, 0, none⟩) (α 1008) (α 2008), .int .i32 0, .bool false, .bool false, .bool false], row (α 13) 30 #[.iface 50 (.pointer (some ⟨α 10, 0, none⟩)), .int .i32 loc]] X9_3 := (hG.list [999, 10, 13] (by decide) (act_all (by decide))).conv (by
      show [rasgDyri1R d loc kx nm (fun k => decide (k < 15)) α 999, rasgDyri1R d loc kx nm (fun k => decide (k < 15)) α 10, rasgDyri1R d loc kx nm (fun k => decide (k < 15)) α 13] = _
      rw [e0, e1, e2])
    clear hG e0 e1 e2
    generalize hfr : Rega.frameAt _ _ _ _ _ = fr
    have hdf : fr = ⟨#[.pointer (some ⟨pb, 0, none⟩), .agg #[.iface 40 (.pointer (some ⟨d, 0, none⟩)), .int .i32 loc], undef, .pointer (some ⟨B1, 0, none⟩), .pointer (some ⟨B1_1, 0, none⟩), .bool false, .bool false, undef, undef, undef, .pointer (some ⟨d, 0, none⟩), .pointer (some ⟨α 13, 0, none⟩), undef, undef, undef, undef, undef, undef, undef, undef, undef, undef, undef, undef, undef, undef, undef, .pointer (some ⟨B1, 0, none⟩), .iface 40 (.pointer (some ⟨d, 0, none⟩)), .tuple #[.pointer none, .bool false], .bool false, .pointer none, undef, undef, undef, undef, undef, undef, undef, undef, undef, undef, undef, undef, undef, undef, .tuple #[.pointer (some ⟨d, 0, none⟩), .bool true], .bool true, .pointer (some ⟨d, 0, none⟩), .pointer (some ⟨pb, 0, none⟩), .pointer (some ⟨d, 0, none⟩), .pointer (some ⟨d, 0, none⟩), .pointer (some ⟨d, 0, none⟩), .agg #[.iface 244 (.pointer (some ⟨kx, 0, none⟩)), .int .i32 loc], .bool true, .pointer (some ⟨d, 0, none⟩), .pointer (some ⟨d, 0, none⟩), .pointer (some ⟨d, 3, none⟩), .agg #[.int .i32 loc], .pointer (some ⟨d, 0, none⟩), .pointer (some ⟨d, 0, none⟩), .pointer (some ⟨d, 2, none⟩), .string nm, .slice (some ⟨α 8, 0, none⟩) (α 1008) (α 2008), .agg #[.slice (some ⟨α 8, 0, none⟩) (α 1008) (α 2008), .int .i32 0, .bool false, .bool false, .bool false], .pointer (some ⟨α 10, 0, none⟩), .iface 50 (.pointer (some ⟨α 10, 0, none⟩)), .agg #[.iface 50 (.pointer (some ⟨α 10, 0, none⟩)), .int .i32 loc], undef, undef, undef, undef, undef, undef, undef, undef, undef, undef, undef, undef, undef, undef, undef, undef, undef, undef, undef, undef, undef, undef, undef, undef, undef, undef, undef, undef, undef, undef, undef, undef, undef, undef, undef, undef, undef, undef, undef, undef, undef, undef, undef, undef, undef, undef, undef, undef, undef, undef, undef, undef, undef, undef, undef, undef, undef, undef, undef, undef, undef, undef, undef, undef, undef, undef, undef, undef, undef, undef, undef, undef, undef, undef, undef, undef, undef, undef, undef, undef, undef, undef, undef, undef, undef, undef, undef, undef, undef, undef, undef, undef, undef, undef, undef, undef, undef, undef, undef, undef, undef, undef, undef, undef, undef, undef, undef, undef, undef, undef, undef, undef, undef, undef, undef, undef, undef, undef, undef, undef, undef, undef, undef, undef, undef, undef, undef, undef, undef, undef, undef, undef, undef, undef, undef, undef, undef, undef, undef, undef, undef, undef, undef, undef, undef, undef, undef, undef, undef, undef, undef, undef, undef, undef, undef, undef, undef, undef, undef, undef, undef, undef, undef, undef, undef, undef, undef, undef, undef, undef, undef, undef, undef, undef, undef, undef, undef, undef, undef, undef, undef, undef], []⟩ := by rw [← hfr]; kernel_rfl
    clear hfr
    subst hdf
    generalize α 8 = nd4 at hO ⊢
    generalize α 10 = nd5 at hO ⊢
    generalize α 13 = nd6 at hO ⊢
    generalize α 1008 = nd7 at hO ⊢
    generalize α 2008 = nd8 at hO ⊢
    clear α
    subst hX9_3
    have hN : Own w0 u [row (d) 44 #[.iface 244 (.pointer (some ⟨kx, 0, none⟩)), .int .i32 loc, .string nm, .int .i32 loc, .int .u8 0, .bool false, .bool false, .bool false], row (nd5) 214 #[.slice (some ⟨nd4, 0, none⟩) (nd7) (nd8), .int .i32 0, .bool false, .bool false, .bool false], row (nd6) 30 #[.iface 50 (.pointer (some ⟨nd5, 0, none⟩)), .int .i32 loc], row (B1_2) 30 #[.iface 244 (.pointer (some ⟨kx, 0, none⟩)), .int .i32 loc], row (B1_1) 30 #[.nilIface, .int .i32 0], row (B1) 30 #[.iface 40 (.pointer (some ⟨d, 0, none⟩)), .int .i32 loc], row (pb) 206 PC, (mp, .map map3 3), row (cr) 68 #[.int .u32 0, .int .u32 1]] X := hO.back HL.out HX.out [0, 1, 2, 3, 4, 5] (by decide) (by decide)
    clear hO HL HX
    have hO := hN
    clear hN
    have ne9_2_3 : ¬ nd6 = B1_2 := hO.ne 2 3 rfl rfl (by decide)
    have ne9_2_4 : ¬ nd6 = B1_1 := hO.ne 2 4 rfl rfl (by decide)
    have ne9_2_5 : ¬ nd6 = B1 := hO.ne 2 5 rfl rfl (by decide)
    have ne9_3_2 : ¬ B1_2 = nd6 := hO.ne 3 2 rfl rfl (by decide)
    have ne9_3_4 : ¬ B1_2 = B1_1 := hO.ne 3 4 rfl rfl (by decide)
    have ne9_3_5 : ¬ B1_2 = B1 := hO.ne 3 5 rfl rfl (by decide)
    have ne9_4_2 : ¬ B1_1 = nd6 := hO.ne 4 2 rfl rfl (by decide)
    have ne9_4_3 : ¬ B1_1 = B1_2 := hO.ne 4 3 rfl rfl (by decide)
    have ne9_4_5 : ¬ B1_1 = B1 := hO.ne 4 5 rfl rfl (by decide)
    have ne9_5_2 : ¬ B1 = nd6 := hO.ne 5 2 rfl rfl (by decide)
    have ne9_5_3 : ¬ B1 = B1_2 := hO.ne 5 3 rfl rfl (by decide)
    have ne9_5_4 : ¬ B1 = B1_1 := hO.ne 5 4 rfl rfl (by decide)
    obtain ⟨c9_0_0, c9_0_1, c9_0_2, c9_0_3, c9_0_4, c9_0_5, c9_0_6, c9_0_7, lt9_0, y9_0, -⟩ := hO.k8 0 rfl
    obtain ⟨c9_1_0, c9_1_1, c9_1_2, c9_1_3, c9_1_4, lt9_1, y9_1, -⟩ := hO.k5 1 rfl
    obtain ⟨c9_2_0, c9_2_1, lt9_2, y9_2, pl9_2⟩ := hO.k2 2 rfl
    obtain ⟨c9_3_0, c9_3_1, lt9_3, y9_3, pl9_3⟩ := hO.k2 3 rfl
    obtain ⟨c9_4_0, c9_4_1, lt9_4, y9_4, pl9_4⟩ := hO.k2 4 rfl
    obtain ⟨c9_5_0, c9_5_1, lt9_5, y9_5, pl9_5⟩ := hO.k2 5 rfl
    have c9_6_32 : u.cell? ⟨pb, 32, none⟩ = some (.bool false) := hO.cell 6 rfl 32 (hD.ts)
    have c9_6_95 : u.cell? ⟨pb, 95, none⟩ = some (.bool true) := hO.cell 6 rfl 95 (hD.rep)
    have c9_6_96 : u.cell? ⟨pb, 96, none⟩ = some (.bool false) := hO.cell 6 rfl 96 (hD.stat)
    have c9_6_97 : u.cell? ⟨pb, 97, none⟩ = some (.pointer (some ⟨cr, 0, none⟩)) := hO.cell 6 rfl 97 (hD.cls)
    have c9_6_117 : u.cell? ⟨pb, 117, none⟩ = some (.map (some mp)) := hO.cell 6 rfl 117 (hD.imp)
    have c9_6_338 : u.cell? ⟨pb, 338, none⟩ = some (.bool true) := hO.cell 6 rfl 338 (hl)
    have c9_6_350 : u.cell? ⟨pb, 350, none⟩ = some (.bool true) := hO.cell 6 rfl 350 (hD.dead)
    have lt9_6 : pb < u.heap.size := hO.lt 6 rfl
    have y9_6 : ∀ o, u.frozen? ⟨pb, o, none⟩ = false := hO.free 6 rfl
    obtain ⟨c9_8_0, c9_8_1, lt9_8, y9_8, -⟩ := hO.k2 8 rfl
    have HO := Lib.hid hO
    clear hO
    go_wp2_with (first | (go_at_call 34; go_in) | (go_at_call 30; go_in) | (go_at_call 31; go_in) | (go_at_call 32; go_in) | (go_at_call 12; go_in) | (go_at_call 10; go_in) | (go_at_call 9; go_in) | (go_at_call 7; go_in))
    have hO := HO.out
    clear HO ne9_2_3 ne9_2_4 ne9_2_5 ne9_3_2 ne9_3_4 ne9_3_5 ne9_4_2 ne9_4_3 ne9_4_5 ne9_5_2 ne9_5_3 ne9_5_4 c9_0_0 c9_0_1 c9_0_2 c9_0_3 c9_0_4 c9_0_5 c9_0_6 c9_0_7 lt9_0 y9_0 c9_1_0 c9_1_1 c9_1_2 c9_1_3 c9_1_4 lt9_1 y9_1 c9_2_0 c9_2_1 lt9_2 y9_2 pl9_2 c9_3_0 c9_3_1 lt9_3 y9_3 pl9_3 c9_4_0 c9_4_1 lt9_4 y9_4 pl9_4 c9_5_0 c9_5_1 lt9_5 y9_5 pl9_5 c9_6_32 c9_6_95 c9_6_96 c9_6_97 c9_6_117 c9_6_338 c9_6_350 lt9_6 y9_6 c9_8_0 c9_8_1 lt9_8 y9_8
    have hL := hO.apart
    have hX := hO.apartX
    have HL := Lib.hid hL
    have HX := Lib.hid hX
    clear hL hX
    have hP9 := hO.pick [6, 7, 8] (by decide)
    have T9 := supWrapri pb PC mp cr loc 50 nd5 loc _ _ _ hP9 hD
    refine Calls.mono T9 ?_
    clear hP9 T9
    rintro e u9 ⟨nd10, nd11, nd12, nd13, nd14, nd15, nd16, rfl, hQ⟩
    have hN : Own w0 u9 [row (pb) 206 PC, (mp, .map map3 3), row (cr) 68 #[.int .u32 0, .int .u32 1], row (nd11) 223 #[.int .u32 0, .int .u32 2, .bool false, .bool false, .bool false], row (nd10) 56 #[.iface 220 (.pointer (some ⟨nd11, 0, none⟩)), .int .i32 loc, .slice (some ⟨nd12, 0, none⟩) 3 3, .int .i32 0, .int .u8 0, .int .u8 0, .bool false, .bool false], row (nd12) 30 #[.iface 40 (.pointer (some ⟨nd15, 0, none⟩)), .int .i32 loc, .iface 220 (.pointer (some ⟨nd14, 0, none⟩)), .int .i32 loc, .iface 50 (.pointer (some ⟨nd5, 0, none⟩)), .int .i32 loc], row (nd13) 223 #[.int .u32 0, .int .u32 1, .bool false, .bool false, .bool false], row (nd14) 223 #[.int .u32 0, .int .u32 1, .bool false, .bool false, .bool false], row (nd15) 44 #[.iface 220 (.pointer (some ⟨nd13, 0, none⟩)), .int .i32 loc, .string ⟨#[112, 114, 111, 116, 111, 116, 121, 112, 101]⟩, .int .i32 loc, .int .u8 0, .bool false, .bool false, .bool false], row (nd16) 44 #[.iface 52 (.pointer (some ⟨nd10, 0, none⟩)), .int .i32 loc, .string ⟨#[95]⟩, .int .i32 loc, .int .u8 0, .bool false, .bool false, .bool false], row (d) 44 #[.iface 244 (.pointer (some ⟨kx, 0, none⟩)), .int .i32 loc, .string nm, .int .i32 loc, .int .u8 0, .bool false, .bool false, .bool false], row (nd5) 214 #[.slice (some ⟨nd4, 0, none⟩) (nd7) (nd8), .int .i32 0, .bool false, .bool false, .bool false], row (nd6) 30 #[.iface 50 (.pointer (some ⟨nd5, 0, none⟩)), .int .i32 loc], row (B1_2) 30 #[.iface 244 (.pointer (some ⟨kx, 0, none⟩)), .int .i32 loc], row (B1_1) 30 #[.nilIface, .int .i32 0], row (B1) 30 #[.iface 40 (.pointer (some ⟨d, 0, none⟩)), .int .i32 loc]] X := hQ.back HL.out HX.out [0, 1, 2, 3, 4, 5] (by decide) (by decide)
    clear hQ HL HX hO
    have hO := hN
    clear hN
    have ne9_3_6 : ¬ nd11 = nd13 := hO.ne 3 6 rfl rfl (by decide)
    have ne9_3_7 : ¬ nd11 = nd14 := hO.ne 3 7 rfl rfl (by decide)
    have ne9_5_12 : ¬ nd12 = nd6 := hO.ne 5 12 rfl rfl (by decide)
    have ne9_5_13 : ¬ nd12 = B1_2 := hO.ne 5 13 rfl rfl (by decide)
    have ne9_5_14 : ¬ nd12 = B1_1 := hO.ne 5 14 rfl rfl (by decide)
    have ne9_5_15 : ¬ nd12 = B1 := hO.ne 5 15 rfl rfl (by decide)
    have ne9_6_3 : ¬ nd13 = nd11 := hO.ne 6 3 rfl rfl (by decide)
    have ne9_6_7 : ¬ nd13 = nd14 := hO.ne 6 7 rfl rfl (by decide)
    have ne9_7_3 : ¬ nd14 = nd11 := hO.ne 7 3 rfl rfl (by decide)
    have ne9_7_6 : ¬ nd14 = nd13 := hO.ne 7 6 rfl rfl (by decide)
    have ne9_8_9 : ¬ nd15 = nd16 := hO.ne 8 9 rfl rfl (by decide)
    have ne9_8_10 : ¬ nd15 = d := hO.ne 8 10 rfl rfl (by decide)
    have ne9_9_8 : ¬ nd16 = nd15 := hO.ne 9 8 rfl rfl (by decide)
    have ne9_9_10 : ¬ nd16 = d := hO.ne 9 10 rfl rfl (by decide)
    have ne9_10_8 : ¬ d = nd15 := hO.ne 10 8 rfl rfl (by decide)
    have ne9_10_9 : ¬ d = nd16 := hO.ne 10 9 rfl rfl (by decide)
    have ne9_12_5 : ¬ nd6 = nd12 := hO.ne 12 5 rfl rfl (by decide)
    have ne9_12_13 : ¬ nd6 = B1_2 := hO.ne 12 13 rfl rfl (by decide)
    have ne9_12_14 : ¬ nd6 = B1_1 := hO.ne 12 14 rfl rfl (by decide)
    have ne9_12_15 : ¬ nd6 = B1 := hO.ne 12 15 rfl rfl (by decide)
    have ne9_13_5 : ¬ B1_2 = nd12 := hO.ne 13 5 rfl rfl (by decide)
    have ne9_13_12 : ¬ B1_2 = nd6 := hO.ne 13 12 rfl rfl (by decide)
    have ne9_13_14 : ¬ B1_2 = B1_1 := hO.ne 13 14 rfl rfl (by decide)
    have ne9_13_15 : ¬ B1_2 = B1 := hO.ne 13 15 rfl rfl (by decide)
    have ne9_14_5 : ¬ B1_1 = nd12 := hO.ne 14 5 rfl rfl (by decide)
    have ne9_14_12 : ¬ B1_1 = nd6 := hO.ne 14 12 rfl rfl (by decide)
    have ne9_14_13 : ¬ B1_1 = B1_2 := hO.ne 14 13 rfl rfl (by decide)
    have ne9_14_15 : ¬ B1_1 = B1 := hO.ne 14 15 rfl rfl (by decide)
    have ne9_15_5 : ¬ B1 = nd12 := hO.ne 15 5 rfl rfl (by decide)
    have ne9_15_12 : ¬ B1 = nd6 := hO.ne 15 12 rfl rfl (by decide)
    have ne9_15_13 : ¬ B1 = B1_2 := hO.ne 15 13 rfl rfl (by decide)
    have ne9_15_14 : ¬ B1 = B1_1 := hO.ne 15 14 rfl rfl (by decide)
    have c9_0_32 : u9.cell? ⟨pb, 32, none⟩ = some (.bool false) := hO.cell 0 rfl 32 (hD.ts)
    have c9_0_95 : u9.cell? ⟨pb, 95, none⟩ = some (.bool true) := hO.cell 0 rfl 95 (hD.rep)
    have c9_0_96 : u9.cell? ⟨pb, 96, none⟩ = some (.bool false) := hO.cell 0 rfl 96 (hD.stat)
    have c9_0_97 : u9.cell? ⟨pb, 97, none⟩ = some (.pointer (some ⟨cr, 0, none⟩)) := hO.cell 0 rfl 97 (hD.cls)
    have c9_0_117 : u9.cell? ⟨pb, 117, none⟩ = some (.map (some mp)) := hO.cell 0 rfl 117 (hD.imp)
    have c9_0_338 : u9.cell? ⟨pb, 338, none⟩ = some (.bool true) := hO.cell 0 rfl 338 (hl)
    have c9_0_350 : u9.cell? ⟨pb, 350, none⟩ = some (.bool true) := hO.cell 0 rfl 350 (hD.dead)
    have lt9_0 : pb < u9.heap.size := hO.lt 0 rfl
    have y9_0 : ∀ o, u9.frozen? ⟨pb, o, none⟩ = false := hO.free 0 rfl
    obtain ⟨c9_2_0, c9_2_1, lt9_2, y9_2, -⟩ := hO.k2 2 rfl
    obtain ⟨c9_3_0, c9_3_1, c9_3_2, c9_3_3, c9_3_4, lt9_3, y9_3, pl9_3⟩ := hO.k5 3 rfl
    obtain ⟨c9_4_0, c9_4_1, c9_4_2, c9_4_3, c9_4_4, c9_4_5, c9_4_6, c9_4_7, lt9_4, y9_4, -⟩ := hO.k8 4 rfl
    obtain ⟨c9_5_0, c9_5_1, c9_5_2, c9_5_3, c9_5_4, c9_5_5, lt9_5, y9_5, pl9_5⟩ := hO.k6 5 rfl
    obtain ⟨c9_6_0, c9_6_1, c9_6_2, c9_6_3, c9_6_4, lt9_6, y9_6, pl9_6⟩ := hO.k5 6 rfl
    obtain ⟨c9_7_0, c9_7_1, c9_7_2, c9_7_3, c9_7_4, lt9_7, y9_7, pl9_7⟩ := hO.k5 7 rfl
    obtain ⟨c9_8_0, c9_8_1, c9_8_2, c9_8_3, c9_8_4, c9_8_5, c9_8_6, c9_8_7, lt9_8, y9_8, pl9_8⟩ := hO.k8 8 rfl
    obtain ⟨c9_9_0, c9_9_1, c9_9_2, c9_9_3, c9_9_4, c9_9_5, c9_9_6, c9_9_7, lt9_9, y9_9, pl9_9⟩ := hO.k8 9 rfl
    obtain ⟨c9_10_0, c9_10_1, c9_10_2, c9_10_3, c9_10_4, c9_10_5, c9_10_6, c9_10_7, lt9_10, y9_10, pl9_10⟩ := hO.k8 10 rfl
    obtain ⟨c9_11_0, c9_11_1, c9_11_2, c9_11_3, c9_11_4, lt9_11, y9_11, -⟩ := hO.k5 11 rfl
    obtain ⟨c9_12_0, c9_12_1, lt9_12, y9_12, pl9_12⟩ := hO.k2 12 rfl
    obtain ⟨c9_13_0, c9_13_1, lt9_13, y9_13, pl9_13⟩ := hO.k2 13 rfl
    obtain ⟨c9_14_0, c9_14_1, lt9_14, y9_14, pl9_14⟩ := hO.k2 14 rfl
    obtain ⟨c9_15_0, c9_15_1, lt9_15, y9_15, pl9_15⟩ := hO.k2 15 rfl
    have HO := Lib.hid hO
    clear hO
    go_wp2_with (first | (go_at_call 34; go_in) | (go_at_call 30; go_in) | (go_at_call 31; go_in) | (go_at_call 32; go_in) | (go_at_call 12; go_in) | (go_at_call 10; go_in) | (go_at_call 9; go_in) | (go_at_call 7; go_in))
    have hO := HO.out
    clear HO ne9_3_6 ne9_3_7 ne9_5_12 ne9_5_13 ne9_5_14 ne9_5_15 ne9_6_3 ne9_6_7 ne9_7_3 ne9_7_6 ne9_8_9 ne9_8_10 ne9_9_8 ne9_9_10 ne9_10_8 ne9_10_9 ne9_12_5 ne9_12_13 ne9_12_14 ne9_12_15 ne9_13_5 ne9_13_12 ne9_13_14 ne9_13_15 ne9_14_5 ne9_14_12 ne9_14_13 ne9_14_15 ne9_15_5 ne9_15_12 ne9_15_13 ne9_15_14 c9_0_32 c9_0_95 c9_0_96 c9_0_97 c9_0_117 c9_0_338 c9_0_350 lt9_0 y9_0 c9_2_0 c9_2_1 lt9_2 y9_2 c9_3_0 c9_3_1 c9_3_2 c9_3_3 c9_3_4 lt9_3 y9_3 pl9_3 c9_4_0 c9_4_1 c9_4_2 c9_4_3 c9_4_4 c9_4_5 c9_4_6 c9_4_7 lt9_4 y9_4 c9_5_0 c9_5_1 c9_5_2 c9_5_3 c9_5_4 c9_5_5 lt9_5 y9_5 pl9_5 c9_6_0 c9_6_1 c9_6_2 c9_6_3 c9_6_4 lt9_6 y9_6 pl9_6 c9_7_0 c9_7_1 c9_7_2 c9_7_3 c9_7_4 lt9_7 y9_7 pl9_7 c9_8_0 c9_8_1 c9_8_2 c9_8_3 c9_8_4 c9_8_5 c9_8_6 c9_8_7 lt9_8 y9_8 pl9_8 c9_9_0 c9_9_1 c9_9_2 c9_9_3 c9_9_4 c9_9_5 c9_9_6 c9_9_7 lt9_9 y9_9 pl9_9 c9_10_0 c9_10_1 c9_10_2 c9_10_3 c9_10_4 c9_10_5 c9_10_6 c9_10_7 lt9_10 y9_10 pl9_10 c9_11_0 c9_11_1 c9_11_2 c9_11_3 c9_11_4 lt9_11 y9_11 c9_12_0 c9_12_1 lt9_12 y9_12 pl9_12 c9_13_0 c9_13_1 lt9_13 y9_13 pl9_13 c9_14_0 c9_14_1 lt9_14 y9_14 pl9_14 c9_15_0 c9_15_1 lt9_15 y9_15 pl9_15
    generalize hW : World.setCell _ _ _ = W18
    have hN : Own w0 W18 [row (pb) 206 PC, (mp, .map map3 3), row (cr) 68 #[.int .u32 0, .int .u32 1], row (nd11) 223 #[.int .u32 0, .int .u32 2, .bool false, .bool false, .bool false], row (nd10) 56 #[.iface 220 (.pointer (some ⟨nd11, 0, none⟩)), .int .i32 loc, .slice (some ⟨nd12, 0, none⟩) 3 3, .int .i32 0, .int .u8 0, .int .u8 0, .bool false, .bool false], row (nd12) 30 #[.iface 40 (.pointer (some ⟨nd15, 0, none⟩)), .int .i32 loc, .iface 220 (.pointer (some ⟨nd14, 0, none⟩)), .int .i32 loc, .iface 50 (.pointer (some ⟨nd5, 0, none⟩)), .int .i32 loc], row (nd13) 223 #[.int .u32 0, .int .u32 1, .bool false, .bool false, .bool false], row (nd14) 223 #[.int .u32 0, .int .u32 1, .bool false, .bool false, .bool false], row (nd15) 44 #[.iface 220 (.pointer (some ⟨nd13, 0, none⟩)), .int .i32 loc, .string ⟨#[112, 114, 111, 116, 111, 116, 121, 112, 101]⟩, .int .i32 loc, .int .u8 0, .bool false, .bool false, .bool false], row (nd16) 44 #[.iface 52 (.pointer (some ⟨nd10, 0, none⟩)), .int .i32 loc, .string ⟨#[95]⟩, .int .i32 loc, .int .u8 0, .bool false, .bool false, .bool false], row (d) 44 #[.iface 244 (.pointer (some ⟨kx, 0, none⟩)), .int .i32 loc, .string nm, .int .i32 loc, .int .u8 0, .bool false, .bool false, .bool false], row (nd5) 214 #[.slice (some ⟨nd4, 0, none⟩) (nd7) (nd8), .int .i32 0, .bool false, .bool false, .bool false], row (nd6) 30 #[.iface 50 (.pointer (some ⟨nd5, 0, none⟩)), .int .i32 loc], row (B1_2) 30 #[.iface 244 (.pointer (some ⟨kx, 0, none⟩)), .int .i32 loc], row (B1_1) 30 #[.iface 40 (.pointer (some ⟨nd16, 0, none⟩)), .int .i32 loc], row (B1) 30 #[.iface 40 (.pointer (some ⟨nd16, 0, none⟩)), .int .i32 loc]] X := by
      rw [← hW]
      exact ((((hO).set 15 rfl 0 _).set 15 rfl 1 _).set 14 rfl 0 _).set 14 rfl 1 _
    clear hW hO
    have hO := hN
    clear hN
    have z9_14_0 : W18.cell? ⟨B1_1, 0, none⟩ = some (.iface 40 (.pointer (some ⟨nd16, 0, none⟩))) := hO.cell 14 rfl 0 rfl
    have z9_14_1 : W18.cell? ⟨B1_1, 1, none⟩ = some (.int .i32 loc) := hO.cell 14 rfl 1 rfl
    refine bodyPost_ret (v := .tuple #[.agg #[.iface 40 (.pointer (some ⟨nd16, 0, none⟩)), .int .i32 loc], .bool true]) ?_ rfl ⟨nd16, rfl, hO.sub [0, 1, 2] (by decide)⟩
    simp [results, Tryd.results35, go_sem, z9_14_0, z9_14_1]
def rasgXyri1E (pb : Nat) (PC : Array Value) (mp : Nat) (cr : Nat) (d : Nat) (loc : Int) (kx : Nat) (gx : Nat) (B1 : Nat) : Nat → Rega.Atoms → Value
  | 0, α => .pointer (some ⟨pb, 0, none⟩)
  | 1, α => .pointer (some ⟨B1, 1, none⟩)
  | 2, α => .agg #[.int .i32 loc]
  | 3, α => .pointer (some ⟨d, 0, none⟩)
  | 4, α => .pointer (some ⟨d, 0, none⟩)
  | 5, α => .pointer (some ⟨d, 2, none⟩)
  | 6, α => .agg #[.iface 50 (.pointer (some ⟨gx, 0, none⟩)), .int .i32 loc]
  | 7, α => .agg #[.iface 40 (.pointer (some ⟨α 6007, 0, none⟩)), .int .i32 loc]
  | 8, α => undef
  | _, _ => undef
def rasgXyri1Anc : Nat → List Nat
  | 2 => [1]
  | 4 => [3]
  | 5 => [3, 4]
  | 6 => [3, 4, 5]
  | 7 => [0, 1, 2, 3, 4, 5, 6]
  | 8 => [0, 1, 2, 3, 4, 5, 6, 7]
  | _ => []
def rasgXyri1Trn : Nat → List Nat
  | 8 => [999]
  | _ => []
def rasgXyri1Cnt : List (Nat × Nat) := [(7, 7)]
def rasgXyri1T999 (pb : Nat) (PC : Array Value) (mp : Nat) (cr : Nat) (d : Nat) (loc : Int) (kx : Nat) (gx : Nat) (B1 : Nat) (L9 : Nat → Bool) (α : Rega.Atoms) : Rw := if L9 8 = true then row (B1) 30 #[.iface 40 (.pointer (some ⟨α 6007, 0, none⟩)), .int .i32 loc] else row (B1) 30 #[.iface 209 (.pointer (some ⟨d, 0, none⟩)), .int .i32 loc]
def rasgXyri1R (pb : Nat) (PC : Array Value) (mp : Nat) (cr : Nat) (d : Nat) (loc : Int) (kx : Nat) (gx : Nat) (B1 : Nat) (L9 : Nat → Bool) (α : Rega.Atoms) (ix9 : Nat) : Rw := if ix9 = 999 then rasgXyri1T999 pb PC mp cr d loc kx gx B1 L9 α else if ix9 = 1999 then row (pb) 206 PC else if ix9 = 2999 then (mp, .map map3 3) else if ix9 = 3999 then row (cr) 68 #[.int .u32 0, .int .u32 1] else if ix9 = 4999 then row (d) 211 #[.iface 244 (.pointer (some ⟨kx, 0, none⟩)), .int .i32 loc, .iface 50 (.pointer (some ⟨gx, 0, none⟩)), .int .i32 loc, .int .i32 0, .int .u8 0, .bool false, .bool false, .bool false] else if ix9 = 7 then row (α 7) 56 #[.iface 220 (.pointer (some ⟨α 1007, 0, none⟩)), .int .i32 loc, .slice (some ⟨α 2007, 0, none⟩) 3 3, .int .i32 0, .int .u8 0, .int .u8 0, .bool false, .bool false] else if ix9 = 1007 then row (α 1007) 223 #[.int .u32 0, .int .u32 2, .bool false, .bool false, .bool false] else if ix9 = 2007 then row (α 2007) 30 #[.iface 40 (.pointer (some ⟨α 5007, 0, none⟩)), .int .i32 loc, .iface 220 (.pointer (some ⟨α 4007, 0, none⟩)), .int .i32 loc, .iface 50 (.pointer (some ⟨gx, 0, none⟩)), .int .i32 loc] else if ix9 = 3007 then row (α 3007) 223 #[.int .u32 0, .int .u32 1, .bool false, .bool false, .bool false] else if ix9 = 4007 then row (α 4007) 223 #[.int .u32 0, .int .u32 1, .bool false, .bool false, .bool false] else if ix9 = 5007 then row (α 5007) 44 #[.iface 220 (.pointer (some ⟨α 3007, 0, none⟩)), .int .i32 loc, .string ⟨#[112, 114, 111, 116, 111, 116, 121, 112, 101]⟩, .int .i32 loc, .int .u8 0, .bool false, .bool false, .bool false] else if ix9 = 6007 then row (α 6007) 44 #[.iface 52 (.pointer (some ⟨α 7, 0, none⟩)), .int .i32 loc, .string ⟨#[95]⟩, .int .i32 loc, .int .u8 0, .bool false, .bool false, .bool false] else (0, .map #[] 0)
theorem rasgXyri1_he (pb : Nat) (PC : Array Value) (mp : Nat) (cr : Nat) (d : Nat) (loc : Int) (kx : Nat) (gx : Nat) (B1 : Nat) : ∀ kk α α', (∀ j, (j % 1000 = kk ∨ j % 1000 ∈ rasgXyri1Anc kk) → α j = α' j) → rasgXyri1E pb PC mp cr d loc kx gx B1 kk α = rasgXyri1E pb PC mp cr d loc kx gx B1 kk α' := by
  intro kk α α' h
  match kk with
  | 0 => rfl
  | 1 => rfl
  | 2 => rfl
  | 3 => rfl
  | 4 => rfl
  | 5 => rfl
  | 6 => rfl
  | 7 => simp only [rasgXyri1E, h 6007 (Or.inl rfl)]
  | 8 => rfl
  | n + 9 => rfl
theorem rasgXyri1_st (pb : Nat) (PC : Array Value) (mp : Nat) (cr : Nat) (d : Nat) (loc : Int) (kx : Nat) (gx : Nat) (B1 : Nat) : Stable rasgXyri1Cnt 5 rasgXyri1Anc rasgXyri1Trn (rasgXyri1R pb PC mp cr d loc kx gx B1) := by
  intro k9 L9 α α' ix9 hk hcl hα hact ht
  have hp := act_places hact
  replace hp : ix9 ∈ [999, 1999, 2999, 3999, 4999, 7, 1007, 2007, 3007, 4007, 5007, 6007] := hp
  simp only [List.mem_cons, List.not_mem_nil, or_false] at hp
  rcases hp with rfl | rfl | rfl | rfl | rfl | rfl | rfl | rfl | rfl | rfl | rfl | rfl
  · show rasgXyri1T999 pb PC mp cr d loc kx gx B1 (Rega.ran L9 k9) α' = rasgXyri1T999 pb PC mp cr d loc kx gx B1 L9 α
    unfold rasgXyri1T999
    have n8 : 8 ≠ k9 := fun e => ht (by rw [← e]; decide)
    rw [ran_ne n8]
    by_cases e8 : L9 8 = true
    · first | rw [if_pos e8, if_pos e8] | rw [if_pos e8]
      try simp only [hα 6007 (ne_ran hk (hcl 8 e8 7 (by decide)))]
    first | rw [if_neg e8, if_neg e8] | rw [if_neg e8]
  · rfl
  · rfl
  · rfl
  · rfl
  · have e0 : L9 7 = true := act_lt hact (by decide)
    show row (α' 7) 56 #[.iface 220 (.pointer (some ⟨α' 1007, 0, none⟩)), .int .i32 loc, .slice (some ⟨α' 2007, 0, none⟩) 3 3, .int .i32 0, .int .u8 0, .int .u8 0, .bool false, .bool false] = row (α 7) 56 #[.iface 220 (.pointer (some ⟨α 1007, 0, none⟩)), .int .i32 loc, .slice (some ⟨α 2007, 0, none⟩) 3 3, .int .i32 0, .int .u8 0, .int .u8 0, .bool false, .bool false]
    simp only [hα 7 (ne_ran hk e0), hα 1007 (ne_ran hk e0), hα 2007 (ne_ran hk e0)]
  · have e0 : L9 7 = true := act_lt hact (by decide)
    show row (α' 1007) 223 #[.int .u32 0, .int .u32 2, .bool false, .bool false, .bool false] = row (α 1007) 223 #[.int .u32 0, .int .u32 2, .bool false, .bool false, .bool false]
    simp only [hα 1007 (ne_ran hk e0)]
  · have e0 : L9 7 = true := act_lt hact (by decide)
    show row (α' 2007) 30 #[.iface 40 (.pointer (some ⟨α' 5007, 0, none⟩)), .int .i32 loc, .iface 220 (.pointer (some ⟨α' 4007, 0, none⟩)), .int .i32 loc, .iface 50 (.pointer (some ⟨gx, 0, none⟩)), .int .i32 loc] = row (α 2007) 30 #[.iface 40 (.pointer (some ⟨α 5007, 0, none⟩)), .int .i32 loc, .iface 220 (.pointer (some ⟨α 4007, 0, none⟩)), .int .i32 loc, .iface 50 (.pointer (some ⟨gx, 0, none⟩)), .int .i32 loc]
    simp only [hα 2007 (ne_ran hk e0), hα 4007 (ne_ran hk e0), hα 5007 (ne_ran hk e0)]
  · have e0 : L9 7 = true := act_lt hact (by decide)
    show row (α' 3007) 223 #[.int .u32 0, .int .u32 1, .bool false, .bool false, .bool false] = row (α 3007) 223 #[.int .u32 0, .int .u32 1, .bool false, .bool false, .bool false]
    simp only [hα 3007 (ne_ran hk e0)]
  · have e0 : L9 7 = true := act_lt hact (by decide)
    show row (α' 4007) 223 #[.int .u32 0, .int .u32 1, .bool false, .bool false, .bool false] = row (α 4007) 223 #[.int .u32 0, .int .u32 1, .bool false, .bool false, .bool false]
    simp only [hα 4007 (ne_ran hk e0)]
  · have e0 : L9 7 = true := act_lt hact (by decide)
    show row (α' 5007) 44 #[.iface 220 (.pointer (some ⟨α' 3007, 0, none⟩)), .int .i32 loc, .string ⟨#[112, 114, 111, 116, 111, 116, 121, 112, 101]⟩, .int .i32 loc, .int .u8 0, .bool false, .bool false, .bool false] = row (α 5007) 44 #[.iface 220 (.pointer (some ⟨α 3007, 0, none⟩)), .int .i32 loc, .string ⟨#[112, 114, 111, 116, 111, 116, 121, 112, 101]⟩, .int .i32 loc, .int .u8 0, .bool false, .bool false, .bool false]
    simp only [hα 3007 (ne_ran hk e0), hα 5007 (ne_ran hk e0)]
  · have e0 : L9 7 = true := act_lt hact (by decide)
    show row (α' 6007) 44 #[.iface 52 (.pointer (some ⟨α' 7, 0, none⟩)), .int .i32 loc, .string ⟨#[95]⟩, .int .i32 loc, .int .u8 0, .bool false, .bool false, .bool false] = row (α 6007) 44 #[.iface 52 (.pointer (some ⟨α 7, 0, none⟩)), .int .i32 loc, .string ⟨#[95]⟩, .int .i32 loc, .int .u8 0, .bool false, .bool false, .bool false]
    simp only [hα 7 (ne_ran hk e0), hα 6007 (ne_ran hk e0)]
def asgXyriPost (pb : Nat) (PC : Array Value) (mp cr d : Nat) (loc : Int) (kx gx : Nat) (w0 : World) (X : Nat → Obj → Prop) (e : Ending) (w' : World) : Prop :=
  ∃ dd : Nat, e = .returned (.tuple #[.agg #[.iface 40 (.pointer (some ⟨dd, 0, none⟩)), .int .i32 loc], .bool true]) ∧ Own w0 w' [row (pb) 206 PC, (mp, .map map3 3), row (cr) 68 #[.int .u32 0, .int .u32 1]] X
set_option maxRecDepth 100000 in
set_option maxHeartbeats 1000000 in
theorem asgXyri (pb : Nat) (PC : Array Value) (mp cr d : Nat) (loc : Int) (kx gx : Nat) (w0 w : World) (X : Nat → Obj → Prop) (hO : Own w0 w [row (pb) 206 PC, (mp, .map map3 3), row (cr) 68 #[.int .u32 0, .int .u32 1], row (d) 211 #[.iface 244 (.pointer (some ⟨kx, 0, none⟩)), .int .i32 loc, .iface 50 (.pointer (some ⟨gx, 0, none⟩)), .int .i32 loc, .int .i32 0, .int .u8 0, .bool false, .bool false, .bool false]] X) (hD : Dead PC mp cr true false) (hl : PC[338]? = some (.bool true)) :
    Calls Tryd.prog 35 #[.pointer (some ⟨pb, 0, none⟩), .agg #[.iface 209 (.pointer (some ⟨d, 0, none⟩)), .int .i32 loc]] w (asgXyriPost pb PC mp cr d loc kx gx w0 X) := by
  go_enter Tryd.func35, Tryd.ntmps35
  have c9_0_32 : w.cell? ⟨pb, 32, none⟩ = some (.bool false) := hO.cell 0 rfl 32 (hD.ts)
  have c9_0_95 : w.cell? ⟨pb, 95, none⟩ = some (.bool true) := hO.cell 0 rfl 95 (hD.rep)
  have c9_0_96 : w.cell? ⟨pb, 96, none⟩ = some (.bool false) := hO.cell 0 rfl 96 (hD.stat)
  have c9_0_97 : w.cell? ⟨pb, 97, none⟩ = some (.pointer (some ⟨cr, 0, none⟩)) := hO.cell 0 rfl 97 (hD.cls)
  have c9_0_117 : w.cell? ⟨pb, 117, none⟩ = some (.map (some mp)) := hO.cell 0 rfl 117 (hD.imp)
  have c9_0_338 : w.cell? ⟨pb, 338, none⟩ = some (.bool true) := hO.cell 0 rfl 338 (hl)
  have c9_0_350 : w.cell? ⟨pb, 350, none⟩ = some (.bool true) := hO.cell 0 rfl 350 (hD.dead)
  have lt9_0 : pb < w.heap.size := hO.lt 0 rfl
  have y9_0 : ∀ o, w.frozen? ⟨pb, o, none⟩ = false := hO.free 0 rfl
  obtain ⟨c9_2_0, c9_2_1, lt9_2, y9_2, -⟩ := hO.k2 2 rfl
  obtain ⟨c9_3_0, c9_3_1, c9_3_2, c9_3_3, c9_3_4, c9_3_5, c9_3_6, c9_3_7, c9_3_8, lt9_3, y9_3, -⟩ := hO.k9 3 rfl
  have HO := Lib.hid hO
  clear hO
  go_wp2_with (first | (go_at_call 34; go_in) | (go_at_call 30; go_in) | (go_at_call 31; go_in) | (go_at_call 32; go_in) | (go_at_call 12; go_in) | (go_at_call 10; go_in) | (go_at_call 9; go_in) | (go_at_call 7; go_in))
  have hO := HO.out
  clear HO c9_0_32 c9_0_95 c9_0_96 c9_0_97 c9_0_117 c9_0_338 c9_0_350 lt9_0 y9_0 c9_2_0 c9_2_1 lt9_2 y9_2 c9_3_0 c9_3_1 c9_3_2 c9_3_3 c9_3_4 c9_3_5 c9_3_6 c9_3_7 c9_3_8 lt9_3 y9_3
  generalize hW : World.alloc _ _ = W2
  have hN : Own w0 W2 [row (w.heap.size + 1 + 1) 30 #[.iface 244 (.pointer (some ⟨kx, 0, none⟩)), .int .i32 loc], row (w.heap.size + 1) 30 #[.nilIface, .int .i32 0], row (w.heap.size) 30 #[.iface 209 (.pointer (some ⟨d, 0, none⟩)), .int .i32 loc], row (pb) 206 PC, (mp, .map map3 3), row (cr) 68 #[.int .u32 0, .int .u32 1], row (d) 211 #[.iface 244 (.pointer (some ⟨kx, 0, none⟩)), .int .i32 loc, .iface 50 (.pointer (some ⟨gx, 0, none⟩)), .int .i32 loc, .int .i32 0, .int .u8 0, .bool false, .bool false, .bool false]] X := by
    rw [← hW]
    exact (((hO).alloc' _ (w.heap.size) (by simp)).alloc' _ (w.heap.size + 1) (by simp)).alloc' _ (w.heap.size + 1 + 1) (by simp)
  clear hW hO
  generalize w.heap.size + 1 + 1 = B1_2 at hN ⊢
  generalize w.heap.size + 1 = B1_1 at hN ⊢
  generalize w.heap.size = B1 at hN ⊢
  have hO := hN
  clear hN
  have hL := hO.apart
  have hX := hO.apartX
  have HL := Lib.hid hL
  have HX := Lib.hid hX
  clear hL hX
  have hP9 := hO.pick [2, 3, 4, 5, 6] (by decide)
  generalize hX9_3 : Own.Rest _ _ X = X9_3 at hP9
  replace hP9 : Own w0 W2 [row (B1) 30 #[.iface 209 (.pointer (some ⟨d, 0, none⟩)), .int .i32 loc], row (pb) 206 PC, (mp, .map map3 3), row (cr) 68 #[.int .u32 0, .int .u32 1], row (d) 211 #[.iface 244 (.pointer (some ⟨kx, 0, none⟩)), .int .i32 loc, .iface 50 (.pointer (some ⟨gx, 0, none⟩)), .int .i32 loc, .int .i32 0, .int .u8 0, .bool false, .bool false, .bool false]] X9_3 := hP9
  clear hO
  have hO := hP9
  clear hP9
  have st9 := rasgXyri1_st pb PC mp cr d loc kx gx B1
  refine wp_region_own (e := rasgXyri1E pb PC mp cr d loc kx gx B1) (anc := rasgXyri1Anc) (G := (fun L9 α u9 => OwnF w0 u9 (act rasgXyri1Cnt 5 L9) (rasgXyri1R pb PC mp cr d loc kx gx B1 L9 α) X9_3)) (by kernel_rfl) (by kernel_rfl) (by kernel_rfl) (by kernel_rfl) (rasgXyri1_he pb PC mp cr d loc kx gx B1) ?_ (RunsAll.all ?_) ?_
  · have hp : ∀ i, act rasgXyri1Cnt 5 (fun _ => false) i → i ∈ [999, 1999, 2999, 3999, 4999] := by
      intro i hi
      have h9 : i % 1000 = 999 := by
        by_cases h : i % 1000 = 999
        · exact h
        · exact absurd (act_lt hi h) (by simp)
      unfold act at hi
      rw [if_pos h9] at hi
      simp only [List.mem_cons, List.not_mem_nil, or_false]
      omega
    refine hO.drew.family (fun i hi => ?_) (fun i j hi hj hij => ?_)
    · have := hp i hi
      simp only [List.mem_cons, List.not_mem_nil, or_false] at this
      rcases this with rfl | rfl | rfl | rfl | rfl <;> rfl
    · have h1 := hp i hi
      have h2 := hp j hj
      simp only [List.mem_cons, List.not_mem_nil, or_false] at h1 h2
      omega
  · refine ⟨?_, ?_, ?_, ?_, ?_, ?_, ?_, ?_, ?_, trivial⟩
    · intro L9 α a9 u9 K9 hL hcl hA hG hS h0 hK
      replace hL : L9 0 = false := hL
      have q0 : a9.tmps[0]? = some (.pointer (some ⟨pb, 0, none⟩)) := (h0 0 (by kernel_rfl)).trans rfl
      have s0 := Rega.eval_of q0
      go_simp
      exact hK _ α _ (fun _ _ => rfl) rfl (step_same (st9) hL hcl rfl rfl hG)
    · intro L9 α a9 u9 K9 hL hcl hA hG hS h0 hK
      replace hL : L9 1 = false := hL
      have q3 : a9.tmps[3]? = some (.pointer (some ⟨B1, 0, none⟩)) := (h0 3 (by kernel_rfl)).trans rfl
      have s3 := Rega.eval_of q3
      go_simp
      exact hK _ α _ (fun _ _ => rfl) rfl (step_same (st9) hL hcl rfl rfl hG)
    · intro L9 α a9 u9 K9 hL hcl hA hG hS h0 hK
      replace hL : L9 2 = false := hL
      have q83 : a9.tmps[83]? = some (.pointer (some ⟨B1, 1, none⟩)) := hS 1 83 (by decide) rfl (by show 83 < 250; decide)
      have s83 := Rega.eval_of q83
      have e0 : rasgXyri1R pb PC mp cr d loc kx gx B1 L9 α 999 = row (B1) 30 #[.iface 209 (.pointer (some ⟨d, 0, none⟩)), .int .i32 loc] := by
        show rasgXyri1T999 pb PC mp cr d loc kx gx B1 L9 α = _
        unfold rasgXyri1T999
        rw [if_neg (fun e => by have := hcl 8 e 2 (by decide); rw [hL] at this; cases this)]
      have hr := hG.rowAt 999 (act_base 999 rfl) e0
      have c0 : u9.cell? ⟨B1, 1, none⟩ = some (.int .i32 loc) := hr.cell rfl
      clear hr e0
      go_simp
      exact hK _ α _ (fun _ _ => rfl) rfl (step_same (st9) hL hcl rfl rfl hG)
    · intro L9 α a9 u9 K9 hL hcl hA hG hS h0 hK
      replace hL : L9 3 = false := hL
      have q12 : a9.tmps[12]? = some (.pointer (some ⟨d, 0, none⟩)) := (h0 12 (by kernel_rfl)).trans rfl
      have s12 := Rega.eval_of q12
      go_simp
      exact hK _ α _ (fun _ _ => rfl) rfl (step_same (st9) hL hcl rfl rfl hG)
    · intro L9 α a9 u9 K9 hL hcl hA hG hS h0 hK
      replace hL : L9 4 = false := hL
      have q85 : a9.tmps[85]? = some (.pointer (some ⟨d, 0, none⟩)) := hS 3 85 (by decide) rfl (by show 85 < 250; decide)
      have s85 := Rega.eval_of q85
      go_simp
      exact hK _ α _ (fun _ _ => rfl) rfl (step_same (st9) hL hcl rfl rfl hG)
    · intro L9 α a9 u9 K9 hL hcl hA hG hS h0 hK
      replace hL : L9 5 = false := hL
      have q86 : a9.tmps[86]? = some (.pointer (some ⟨d, 0, none⟩)) := hS 4 86 (by decide) rfl (by show 86 < 250; decide)
      have s86 := Rega.eval_of q86
      go_simp
      exact hK _ α _ (fun _ _ => rfl) rfl (step_same (st9) hL hcl rfl rfl hG)
    · intro L9 α a9 u9 K9 hL hcl hA hG hS h0 hK
      replace hL : L9 6 = false := hL
      have q87 : a9.tmps[87]? = some (.pointer (some ⟨d, 2, none⟩)) := hS 5 87 (by decide) rfl (by show 87 < 250; decide)
      have s87 := Rega.eval_of q87
      have e0 : rasgXyri1R pb PC mp cr d loc kx gx B1 L9 α 4999 = row (d) 211 #[.iface 244 (.pointer (some ⟨kx, 0, none⟩)), .int .i32 loc, .iface 50 (.pointer (some ⟨gx, 0, none⟩)), .int .i32 loc, .int .i32 0, .int .u8 0, .bool false, .bool false, .bool false] := rfl
      have hr := hG.rowAt 4999 (act_base 4999 rfl) e0
      have c0 : u9.cell? ⟨d, 2, none⟩ = some (.iface 50 (.pointer (some ⟨gx, 0, none⟩))) := hr.cell rfl
      have c1 : u9.cell? ⟨d, 3, none⟩ = some (.int .i32 loc) := hr.cell rfl
      clear hr e0
      go_simp
      exact hK _ α _ (fun _ _ => rfl) rfl (step_same (st9) hL hcl rfl rfl hG)
    · intro L9 α a9 u9 K9 hL hcl hA hG hS h0 hK
      replace hL : L9 7 = false := hL
      have q82 : a9.tmps[82]? = some (.pointer (some ⟨pb, 0, none⟩)) := hS 0 82 (by decide) rfl (by show 82 < 250; decide)
      have s82 := Rega.eval_of q82
      have q84 : a9.tmps[84]? = some (.agg #[.int .i32 loc]) := hS 2 84 (by decide) rfl (by show 84 < 250; decide)
      have s84 := Rega.eval_of q84
      have q88 : a9.tmps[88]? = some (.agg #[.iface 50 (.pointer (some ⟨gx, 0, none⟩)), .int .i32 loc]) := hS 6 88 (by decide) rfl (by show 88 < 250; decide)
      have s88 := Rega.eval_of q88
      go_simp
      have e0 : rasgXyri1R pb PC mp cr d loc kx gx B1 L9 α 1999 = row (pb) 206 PC := rfl
      have e1 : rasgXyri1R pb PC mp cr d loc kx gx B1 L9 α 2999 = (mp, .map map3 3) := rfl
      have e2 : rasgXyri1R pb PC mp cr d loc kx gx B1 L9 α 3999 = row (cr) 68 #[.int .u32 0, .int .u32 1] := rfl
      have hM : ∀ i, i ∈ [1999, 2999, 3999] → act rasgXyri1Cnt 5 L9 i := by
        intro i hi
        simp only [List.mem_cons, List.not_mem_nil, or_false] at hi
        rcases hi with rfl | rfl | rfl
        · exact act_base 1999 rfl
        · exact act_base 2999 rfl
        · exact act_base 3999 rfl
      have hP : Own w0 u9 [row (pb) 206 PC, (mp, .map map3 3), row (cr) 68 #[.int .u32 0, .int .u32 1]] _ := (hG.pick [1999, 2999, 3999] (by decide) hM).conv (by
        show [rasgXyri1R pb PC mp cr d loc kx gx B1 L9 α 1999, rasgXyri1R pb PC mp cr d loc kx gx B1 L9 α 2999, rasgXyri1R pb PC mp cr d loc kx gx B1 L9 α 3999] = _
        rw [e0, e1, e2])
      clear e0 e1 e2 hM
      refine Calls.mono (supWrapri pb PC mp cr loc 50 gx loc _ _ _ hP hD) ?_
      rintro e9 u1 ⟨b0, b1, b2, b3, b4, b5, b6, rfl, hQ⟩
      obtain ⟨α', hα'⟩ : ∃ α' : Rega.Atoms, α' = (fun j => if j = 7 then b0 else if j = 1007 then b1 else if j = 2007 then b2 else if j = 3007 then b3 else if j = 4007 then b4 else if j = 5007 then b5 else if j = 6007 then b6 else α j) := ⟨_, rfl⟩
      have f0 : rasgXyri1R pb PC mp cr d loc kx gx B1 (Rega.ran L9 7) α' 1999 = row (pb) 206 PC := rfl
      have f1 : rasgXyri1R pb PC mp cr d loc kx gx B1 (Rega.ran L9 7) α' 2999 = (mp, .map map3 3) := rfl
      have f2 : rasgXyri1R pb PC mp cr d loc kx gx B1 (Rega.ran L9 7) α' 3999 = row (cr) 68 #[.int .u32 0, .int .u32 1] := rfl
      have f3 : rasgXyri1R pb PC mp cr d loc kx gx B1 (Rega.ran L9 7) α' 1007 = row (α' 1007) 223 #[.int .u32 0, .int .u32 2, .bool false, .bool false, .bool false] := rfl
      have f4 : rasgXyri1R pb PC mp cr d loc kx gx B1 (Rega.ran L9 7) α' 7 = row (α' 7) 56 #[.iface 220 (.pointer (some ⟨α' 1007, 0, none⟩)), .int .i32 loc, .slice (some ⟨α' 2007, 0, none⟩) 3 3, .int .i32 0, .int .u8 0, .int .u8 0, .bool false, .bool false] := rfl
      have f5 : rasgXyri1R pb PC mp cr d loc kx gx B1 (Rega.ran L9 7) α' 2007 = row (α' 2007) 30 #[.iface 40 (.pointer (some ⟨α' 5007, 0, none⟩)), .int .i32 loc, .iface 220 (.pointer (some ⟨α' 4007, 0, none⟩)), .int .i32 loc, .iface 50 (.pointer (some ⟨gx, 0, none⟩)), .int .i32 loc] := rfl
      have f6 : rasgXyri1R pb PC mp cr d loc kx gx B1 (Rega.ran L9 7) α' 3007 = row (α' 3007) 223 #[.int .u32 0, .int .u32 1, .bool false, .bool false, .bool false] := rfl
      have f7 : rasgXyri1R pb PC mp cr d loc kx gx B1 (Rega.ran L9 7) α' 4007 = row (α' 4007) 223 #[.int .u32 0, .int .u32 1, .bool false, .bool false, .bool false] := rfl
      have f8 : rasgXyri1R pb PC mp cr d loc kx gx B1 (Rega.ran L9 7) α' 5007 = row (α' 5007) 44 #[.iface 220 (.pointer (some ⟨α' 3007, 0, none⟩)), .int .i32 loc, .string ⟨#[112, 114, 111, 116, 111, 116, 121, 112, 101]⟩, .int .i32 loc, .int .u8 0, .bool false, .bool false, .bool false] := rfl
      have f9 : rasgXyri1R pb PC mp cr d loc kx gx B1 (Rega.ran L9 7) α' 6007 = row (α' 6007) 44 #[.iface 52 (.pointer (some ⟨α' 7, 0, none⟩)), .int .i32 loc, .string ⟨#[95]⟩, .int .i32 loc, .int .u8 0, .bool false, .bool false, .bool false] := rfl
      have hα : ∀ j, j % 1000 ≠ 7 → α' j = α j := fun j hj => by rw [hα']; simp only []; rw [if_neg (by omega), if_neg (by omega), if_neg (by omega), if_neg (by omega), if_neg (by omega), if_neg (by omega), if_neg (by omega)]
      have hb0 : α' 7 = b0 := by rw [hα']; rfl
      have hb1 : α' 1007 = b1 := by rw [hα']; rfl
      have hb2 : α' 2007 = b2 := by rw [hα']; rfl
      have hb3 : α' 3007 = b3 := by rw [hα']; rfl
      have hb4 : α' 4007 = b4 := by rw [hα']; rfl
      have hb5 : α' 5007 = b5 := by rw [hα']; rfl
      have hb6 : α' 6007 = b6 := by rw [hα']; rfl
      skip
      refine hK _ α' _ hα ?_ (step_call (st9) hL hcl hα [1999, 2999, 3999] [1999, 2999, 3999, 1007, 7, 2007, 3007, 4007, 5007, 6007] (by decide) (by decide) (by decide) (M := _) ?_ hG hQ)
      · show _ = (.agg #[.iface 40 (.pointer (some ⟨α' 6007, 0, none⟩)), .int .i32 loc] : Value)
        simp only [hb6]
      · show [rasgXyri1R pb PC mp cr d loc kx gx B1 (Rega.ran L9 7) α' 1999, rasgXyri1R pb PC mp cr d loc kx gx B1 (Rega.ran L9 7) α' 2999, rasgXyri1R pb PC mp cr d loc kx gx B1 (Rega.ran L9 7) α' 3999, rasgXyri1R pb PC mp cr d loc kx gx B1 (Rega.ran L9 7) α' 1007, rasgXyri1R pb PC mp cr d loc kx gx B1 (Rega.ran L9 7) α' 7, rasgXyri1R pb PC mp cr d loc kx gx B1 (Rega.ran L9 7) α' 2007, rasgXyri1R pb PC mp cr d loc kx gx B1 (Rega.ran L9 7) α' 3007, rasgXyri1R pb PC mp cr d loc kx gx B1 (Rega.ran L9 7) α' 4007, rasgXyri1R pb PC mp cr d loc kx gx B1 (Rega.ran L9 7) α' 5007, rasgXyri1R pb PC mp cr d loc kx gx B1 (Rega.ran L9 7) α' 6007] = _
        rw [f0, f1, f2, f3, f4, f5, f6, f7, f8, f9]
        simp only [hb0, hb1, hb2, hb3, hb4, hb5, hb6]
    · intro L9 α a9 u9 K9 hL hcl hA hG hS h0 hK
      replace hL : L9 8 = false := hL
      have q3 : a9.tmps[3]? = some (.pointer (some ⟨B1, 0, none⟩)) := (h0 3 (by kernel_rfl)).trans rfl
      have s3 := Rega.eval_of q3
      have q89 : a9.tmps[89]? = some (.agg #[.iface 40 (.pointer (some ⟨α 6007, 0, none⟩)), .int .i32 loc]) := hS 7 89 (by decide) rfl (by show 89 < 250; decide)
      have s89 := Rega.eval_of q89
      have e0 : rasgXyri1R pb PC mp cr d loc kx gx B1 L9 α 999 = row (B1) 30 #[.iface 209 (.pointer (some ⟨d, 0, none⟩)), .int .i32 loc] := by
        show rasgXyri1T999 pb PC mp cr d loc kx gx B1 L9 α = _
        unfold rasgXyri1T999
        rw [if_neg (by rw [hL]; decide)]
      have hr := hG.rowAt 999 (act_base 999 rfl) e0
      have c0 : u9.cell? ⟨B1, 0, none⟩ = some (.iface 209 (.pointer (some ⟨d, 0, none⟩))) := hr.cell rfl
      have y0 : u9.frozen? ⟨B1, 0, none⟩ = false := hr.free 0
      have c1 : u9.cell? ⟨B1, 1, none⟩ = some (.int .i32 loc) := hr.cell rfl
      have y1 : u9.frozen? ⟨B1, 1, none⟩ = false := hr.free 1
      clear hr
      have E0 := Lib.hid e0
      clear e0
      go_simp
      have e1 : rasgXyri1R pb PC mp cr d loc kx gx B1 (Rega.ran L9 8) α 999 = row (B1) 30 #[.iface 40 (.pointer (some ⟨α 6007, 0, none⟩)), .int .i32 loc] := by
        show rasgXyri1T999 pb PC mp cr d loc kx gx B1 (Rega.ran L9 8) α = _
        unfold rasgXyri1T999
        rw [if_pos (show Rega.ran L9 8 8 = true from rfl)]
      exact hK _ α _ (fun _ _ => rfl) rfl (step_sets (st9) hL hcl rfl 999 rfl (act_base 999 rfl) E0.out 0 [.iface 40 (.pointer (some ⟨α 6007, 0, none⟩)), .int .i32 loc] (e1.trans rfl) hG)
  · clear st9
    intro α u hG
    have e0 : rasgXyri1R pb PC mp cr d loc kx gx B1 (fun k => decide (k < 9)) α 999 = row (B1) 30 #[.iface 40 (.pointer (some ⟨α 6007, 0, none⟩)), .int .i32 loc] := by
      show rasgXyri1T999 pb PC mp cr d loc kx gx B1 (fun k => decide (k < 9)) α = _
      unfold rasgXyri1T999
      rw [if_pos (by decide)]
    have e1 : rasgXyri1R pb PC mp cr d loc kx gx B1 (fun k => decide (k < 9)) α 1999 = row (pb) 206 PC := rfl
    have e2 : rasgXyri1R pb PC mp cr d loc kx gx B1 (fun k => decide (k < 9)) α 2999 = (mp, .map map3 3) := rfl
    have e3 : rasgXyri1R pb PC mp cr d loc kx gx B1 (fun k => decide (k < 9)) α 3999 = row (cr) 68 #[.int .u32 0, .int .u32 1] := rfl
    have e4 : rasgXyri1R pb PC mp cr d loc kx gx B1 (fun k => decide (k < 9)) α 4999 = row (d) 211 #[.iface 244 (.pointer (some ⟨kx, 0, none⟩)), .int .i32 loc, .iface 50 (.pointer (some ⟨gx, 0, none⟩)), .int .i32 loc, .int .i32 0, .int .u8 0, .bool false, .bool false, .bool false] := rfl
    have e5 : rasgXyri1R pb PC mp cr d loc kx gx B1 (fun k => decide (k < 9)) α 7 = row (α 7) 56 #[.iface 220 (.pointer (some ⟨α 1007, 0, none⟩)), .int .i32 loc, .slice (some ⟨α 2007, 0, none⟩) 3 3, .int .i32 0, .int .u8 0, .int .u8 0, .bool false, .bool false] := rfl
    have e6 : rasgXyri1R pb PC mp cr d loc kx gx B1 (fun k => decide (k < 9)) α 1007 = row (α 1007) 223 #[.int .u32 0, .int .u32 2, .bool false, .bool false, .bool false] := rfl
    have e7 : rasgXyri1R pb PC mp cr d loc kx gx B1 (fun k => decide (k < 9)) α 2007 = row (α 2007) 30 #[.iface 40 (.pointer (some ⟨α 5007, 0, none⟩)), .int .i32 loc, .iface 220 (.pointer (some ⟨α 4007, 0, none⟩)), .int .i32 loc, .iface 50 (.pointer (some ⟨gx, 0, none⟩)), .int .i32 loc] := rfl
    have e8 : rasgXyri1R pb PC mp cr d loc kx gx B1 (fun k => decide (k < 9)) α 3007 = row (α 3007) 223 #[.int .u32 0, .int .u32 1, .bool false, .bool false, .bool false] := rfl
    have e9 : rasgXyri1R pb PC mp cr d loc kx gx B1 (fun k => decide (k < 9)) α 4007 = row (α 4007) 223 #[.int .u32 0, .int .u32 1, .bool false, .bool false, .bool false] := rfl
    have e10 : rasgXyri1R pb PC mp cr d loc kx gx B1 (fun k => decide (k < 9)) α 5007 = row (α 5007) 44 #[.iface 220 (.pointer (some ⟨α 3007, 0, none⟩)), .int .i32 loc, .string ⟨#[112, 114, 111, 116, 111, 116, 121, 112, 101]⟩, .int .i32 loc, .int .u8 0, .bool false, .bool false, .bool false] := rfl
    have e11 : rasgXyri1R pb PC mp cr d loc kx gx B1 (fun k => decide (k < 9)) α 6007 = row (α 6007) 44 #[.iface 52 (.pointer (some ⟨α 7, 0, none⟩)), .int .i32 loc, .string ⟨#[95]⟩, .int .i32 loc, .int .u8 0, .bool false, .bool false, .bool false] := rfl
    have hO : Own w0 u [row (B1) 30 #[.iface 40 (.pointer (some ⟨α 6007, 0, none⟩)), .int .i32 loc], row (pb) 206 PC, (mp, .map map3 3), row (cr) 68 #[.int .u32 0, .int .u32 1], row (d) 211 #[.iface 244 (.pointer (some ⟨kx, 0, none⟩)), .int .i32 loc, .iface 50 (.pointer (some ⟨gx, 0, none⟩)), .int .i32 loc, .int .i32 0, .int .u8 0, .bool false, .bool false, .bool false], row (α 7) 56 #[.iface 220 (.pointer (some ⟨α 1007, 0, none⟩)), .int .i32 loc, .slice (some ⟨α 2007, 0, none⟩) 3 3, .int .i32 0, .int .u8 0, .int .u8 0, .bool false, .bool false], row (α 1007) 223 #[.int .u32 0, .int .u32 2, .bool false, .bool false, .bool false], row (α 2007) 30 #[.iface 40 (.pointer (some ⟨α 5007, 0, none⟩)), .int .i32 loc, .iface 220 (.pointer (some ⟨α 4007, 0, none⟩)), .int .i32 loc, .iface 50 (.pointer (some ⟨gx, 0, none⟩)), .int .i32 loc], row (α 3007) 223 #[.int .u32 0, .int .u32 1, .bool false, .bool false, .bool false], row (α 4007) 223 #[.int .u32 0, .int .u32 1, .bool false, .bool false, .bool false], row (α 5007) 44 #[.iface 220 (.pointer (some ⟨α 3007, 0, none⟩)), .int .i32 loc, .string ⟨#[112, 114, 111, 116, 111, 116, 121, 112, 101]⟩, .int .i32 loc, .int .u8 0, .bool false, .bool false, .bool false], row (α 6007) 44 #[.iface 52 (.pointer (some ⟨α 7, 0, none⟩)), .int .i32 loc, .string ⟨#[95]⟩, .int .i32 loc, .int .u8 0, .bool false, .bool false, .bool false]] X9_3 := (hG.list [999, 1999, 2999, 3999, 4999, 7, 1007, 2007, 3007, 4007, 5007, 6007] (by decide) (act_all (by decide))).conv (by
      show [rasgXyri1R pb PC mp cr d loc kx gx B1 (fun k => decide (k < 9)) α 999, rasgXyri1R pb PC mp cr d loc kx gx B1 (fun k => decide (k < 9)) α 1999, rasgXyri1R pb PC mp cr d loc kx gx B1 (fun k => decide (k < 9)) α 2999, rasgXyri1R pb PC mp cr d loc kx gx B1 (fun k => decide (k < 9)) α 3999, rasgXyri1R pb PC mp cr d loc kx gx B1 (fun k => decide (k < 9)) α 4999, rasgXyri1R pb PC mp cr d loc kx gx B1 (fun k => decide (k < 9)) α 7, rasgXyri1R pb PC mp cr d loc kx gx B1 (fun k => decide (k < 9)) α 1007, rasgXyri1R pb PC mp cr d loc kx gx B1 (fun k => decide (k < 9)) α 2007, rasgXyri1R pb PC mp cr d loc kx gx B1 (fun k => decide (k < 9)) α 3007, rasgXyri1R pb PC mp cr d loc kx gx B1 (fun k => decide (k < 9)) α 4007, rasgXyri1R pb PC mp cr d loc kx gx B1 (fun k => decide (k < 9)) α 5007, rasgXyri1R pb PC mp cr d loc kx gx B1 (fun k => decide (k < 9)) α 6007] = _
      rw [e0, e1, e2, e3, e4, e5, e6, e7, e8, e9, e10, e11])
    clear hG e0 e1 e2 e3 e4 e5 e6 e7 e8 e9 e10 e11
    generalize hfr : Rega.frameAt _ _ _ _ _ = fr
    have hdf : fr = ⟨#[.pointer (some ⟨pb, 0, none⟩), .agg #[.iface 209 (.pointer (some ⟨d, 0, none⟩)), .int .i32 loc], undef, .pointer (some ⟨B1, 0, none⟩), .pointer (some ⟨B1_1, 0, none⟩), .bool false, .bool false, undef, undef, undef, undef, undef, .pointer (some ⟨d, 0, none⟩), undef, undef, undef, undef, undef, undef, undef, undef, undef, undef, undef, undef, undef, undef, .pointer (some ⟨B1, 0, none⟩), .iface 209 (.pointer (some ⟨d, 0, none⟩)), .tuple #[.pointer none, .bool false], .bool false, .pointer none, undef, undef, undef, undef, undef, undef, undef, undef, undef, undef, undef, undef, undef, undef, .tuple #[.pointer none, .bool false], .bool false, .pointer none, undef, undef, undef, undef, undef, undef, undef, undef, undef, undef, undef, undef, undef, undef, undef, undef, undef, undef, undef, undef, undef, undef, undef, undef, .tuple #[.pointer (some ⟨d, 0, none⟩), .bool true], .bool true, .pointer (some ⟨d, 0, none⟩), .pointer (some ⟨pb, 0, none⟩), .pointer (some ⟨d, 0, none⟩), .pointer (some ⟨d, 0, none⟩), .pointer (some ⟨d, 0, none⟩), .agg #[.iface 244 (.pointer (some ⟨kx, 0, none⟩)), .int .i32 loc], .bool true, .pointer (some ⟨pb, 0, none⟩), .pointer (some ⟨B1, 1, none⟩), .agg #[.int .i32 loc], .pointer (some ⟨d, 0, none⟩), .pointer (some ⟨d, 0, none⟩), .pointer (some ⟨d, 2, none⟩), .agg #[.iface 50 (.pointer (some ⟨gx, 0, none⟩)), .int .i32 loc], .agg #[.iface 40 (.pointer (some ⟨α 6007, 0, none⟩)), .int .i32 loc], undef, undef, undef, undef, undef, undef, undef, undef, undef, undef, undef, undef, undef, undef, undef, undef, undef, undef, undef, undef, undef, undef, undef, undef, undef, undef, undef, undef, undef, undef, undef, undef, undef, undef, undef, undef, undef, undef, undef, undef, undef, undef, undef, undef, undef, undef, undef, undef, undef, undef, undef, undef, undef, undef, undef, undef, undef, undef, undef, undef, undef, undef, undef, undef, undef, undef, undef, undef, undef, undef, undef, undef, undef, undef, undef, undef, undef, undef, undef, undef, undef, undef, undef, undef, undef, undef, undef, undef, undef, undef, undef, undef, undef, undef, undef, undef, undef, undef, undef, undef, undef, undef, undef, undef, undef, undef, undef, undef, undef, undef, undef, undef, undef, undef, undef, undef, undef, undef, undef, undef, undef, undef, undef, undef, undef, undef, undef, undef, undef, undef, undef, undef, undef, undef, undef, undef, undef, undef, undef, undef, undef, undef, undef, undef, undef, undef, undef, undef, undef, undef, undef, undef, undef, undef, undef, undef, undef, undef, undef, undef], []⟩ := by rw [← hfr]; kernel_rfl
    clear hfr
    subst hdf
    generalize α 7 = nd4 at hO ⊢
    generalize α 1007 = nd5 at hO ⊢
    generalize α 2007 = nd6 at hO ⊢
    generalize α 3007 = nd7 at hO ⊢
    generalize α 4007 = nd8 at hO ⊢
    generalize α 5007 = nd9 at hO ⊢
    generalize α 6007 = nd10 at hO ⊢
    clear α
    subst hX9_3
    have hN : Own w0 u [row (B1) 30 #[.iface 40 (.pointer (some ⟨nd10, 0, none⟩)), .int .i32 loc], row (pb) 206 PC, (mp, .map map3 3), row (cr) 68 #[.int .u32 0, .int .u32 1], row (d) 211 #[.iface 244 (.pointer (some ⟨kx, 0, none⟩)), .int .i32 loc, .iface 50 (.pointer (some ⟨gx, 0, none⟩)), .int .i32 loc, .int .i32 0, .int .u8 0, .bool false, .bool false, .bool false], row (nd4) 56 #[.iface 220 (.pointer (some ⟨nd5, 0, none⟩)), .int .i32 loc, .slice (some ⟨nd6, 0, none⟩) 3 3, .int .i32 0, .int .u8 0, .int .u8 0, .bool false, .bool false], row (nd5) 223 #[.int .u32 0, .int .u32 2, .bool false, .bool false, .bool false], row (nd6) 30 #[.iface 40 (.pointer (some ⟨nd9, 0, none⟩)), .int .i32 loc, .iface 220 (.pointer (some ⟨nd8, 0, none⟩)), .int .i32 loc, .iface 50 (.pointer (some ⟨gx, 0, none⟩)), .int .i32 loc], row (nd7) 223 #[.int .u32 0, .int .u32 1, .bool false, .bool false, .bool false], row (nd8) 223 #[.int .u32 0, .int .u32 1, .bool false, .bool false, .bool false], row (nd9) 44 #[.iface 220 (.pointer (some ⟨nd7, 0, none⟩)), .int .i32 loc, .string ⟨#[112, 114, 111, 116, 111, 116, 121, 112, 101]⟩, .int .i32 loc, .int .u8 0, .bool false, .bool false, .bool false], row (nd10) 44 #[.iface 52 (.pointer (some ⟨nd4, 0, none⟩)), .int .i32 loc, .string ⟨#[95]⟩, .int .i32 loc, .int .u8 0, .bool false, .bool false, .bool false], row (B1_2) 30 #[.iface 244 (.pointer (some ⟨kx, 0, none⟩)), .int .i32 loc], row (B1_1) 30 #[.nilIface, .int .i32 0]] X := hO.back HL.out HX.out [0, 1] (by decide) (by decide)
    clear hO HL HX
    have hO := hN
    clear hN
    have ne9_0_7 : ¬ B1 = nd6 := hO.ne 0 7 rfl rfl (by decide)
    have ne9_0_12 : ¬ B1 = B1_2 := hO.ne 0 12 rfl rfl (by decide)
    have ne9_0_13 : ¬ B1 = B1_1 := hO.ne 0 13 rfl rfl (by decide)
    have ne9_6_8 : ¬ nd5 = nd7 := hO.ne 6 8 rfl rfl (by decide)
    have ne9_6_9 : ¬ nd5 = nd8 := hO.ne 6 9 rfl rfl (by decide)
    have ne9_7_0 : ¬ nd6 = B1 := hO.ne 7 0 rfl rfl (by decide)
    have ne9_7_12 : ¬ nd6 = B1_2 := hO.ne 7 12 rfl rfl (by decide)
    have ne9_7_13 : ¬ nd6 = B1_1 := hO.ne 7 13 rfl rfl (by decide)
    have ne9_8_6 : ¬ nd7 = nd5 := hO.ne 8 6 rfl rfl (by decide)
    have ne9_8_9 : ¬ nd7 = nd8 := hO.ne 8 9 rfl rfl (by decide)
    have ne9_9_6 : ¬ nd8 = nd5 := hO.ne 9 6 rfl rfl (by decide)
    have ne9_9_8 : ¬ nd8 = nd7 := hO.ne 9 8 rfl rfl (by decide)
    have ne9_10_11 : ¬ nd9 = nd10 := hO.ne 10 11 rfl rfl (by decide)
    have ne9_11_10 : ¬ nd10 = nd9 := hO.ne 11 10 rfl rfl (by decide)
    have ne9_12_0 : ¬ B1_2 = B1 := hO.ne 12 0 rfl rfl (by decide)
    have ne9_12_7 : ¬ B1_2 = nd6 := hO.ne 12 7 rfl rfl (by decide)
    have ne9_12_13 : ¬ B1_2 = B1_1 := hO.ne 12 13 rfl rfl (by decide)
    have ne9_13_0 : ¬ B1_1 = B1 := hO.ne 13 0 rfl rfl (by decide)
    have ne9_13_7 : ¬ B1_1 = nd6 := hO.ne 13 7 rfl rfl (by decide)
    have ne9_13_12 : ¬ B1_1 = B1_2 := hO.ne 13 12 rfl rfl (by decide)
    obtain ⟨c9_0_0, c9_0_1, lt9_0, y9_0, pl9_0⟩ := hO.k2 0 rfl
    have c9_1_32 : u.cell? ⟨pb, 32, none⟩ = some (.bool false) := hO.cell 1 rfl 32 (hD.ts)
    have c9_1_95 : u.cell? ⟨pb, 95, none⟩ = some (.bool true) := hO.cell 1 rfl 95 (hD.rep)
    have c9_1_96 : u.cell? ⟨pb, 96, none⟩ = some (.bool false) := hO.cell 1 rfl 96 (hD.stat)
    have c9_1_97 : u.cell? ⟨pb, 97, none⟩ = some (.pointer (some ⟨cr, 0, none⟩)) := hO.cell 1 rfl 97 (hD.cls)
    have c9_1_117 : u.cell? ⟨pb, 117, none⟩ = some (.map (some mp)) := hO.cell 1 rfl 117 (hD.imp)
    have c9_1_338 : u.cell? ⟨pb, 338, none⟩ = some (.bool true) := hO.cell 1 rfl 338 (hl)
    have c9_1_350 : u.cell? ⟨pb, 350, none⟩ = some (.bool true) := hO.cell 1 rfl 350 (hD.dead)
    have lt9_1 : pb < u.heap.size := hO.lt 1 rfl
    have y9_1 : ∀ o, u.frozen? ⟨pb, o, none⟩ = false := hO.free 1 rfl
    obtain ⟨c9_3_0, c9_3_1, lt9_3, y9_3, -⟩ := hO.k2 3 rfl
    obtain ⟨c9_4_0, c9_4_1, c9_4_2, c9_4_3, c9_4_4, c9_4_5, c9_4_6, c9_4_7, c9_4_8, lt9_4, y9_4, -⟩ := hO.k9 4 rfl
    obtain ⟨c9_5_0, c9_5_1, c9_5_2, c9_5_3, c9_5_4, c9_5_5, c9_5_6, c9_5_7, lt9_5, y9_5, -⟩ := hO.k8 5 rfl
    obtain ⟨c9_6_0, c9_6_1, c9_6_2, c9_6_3, c9_6_4, lt9_6, y9_6, pl9_6⟩ := hO.k5 6 rfl
    obtain ⟨c9_7_0, c9_7_1, c9_7_2, c9_7_3, c9_7_4, c9_7_5, lt9_7, y9_7, pl9_7⟩ := hO.k6 7 rfl
    obtain ⟨c9_8_0, c9_8_1, c9_8_2, c9_8_3, c9_8_4, lt9_8, y9_8, pl9_8⟩ := hO.k5 8 rfl
    obtain ⟨c9_9_0, c9_9_1, c9_9_2, c9_9_3, c9_9_4, lt9_9, y9_9, pl9_9⟩ := hO.k5 9 rfl
    obtain ⟨c9_10_0, c9_10_1, c9_10_2, c9_10_3, c9_10_4, c9_10_5, c9_10_6, c9_10_7, lt9_10, y9_10, pl9_10⟩ := hO.k8 10 rfl
    obtain ⟨c9_11_0, c9_11_1, c9_11_2, c9_11_3, c9_11_4, c9_11_5, c9_11_6, c9_11_7, lt9_11, y9_11, pl9_11⟩ := hO.k8 11 rfl
    obtain ⟨c9_12_0, c9_12_1, lt9_12, y9_12, pl9_12⟩ := hO.k2 12 rfl
    obtain ⟨c9_13_0, c9_13_1, lt9_13, y9_13, pl9_13⟩ := hO.k2 13 rfl
    have HO := Lib.hid hO
    clear hO
    go_wp2_with (first | (go_at_call 34; go_in) | (go_at_call 30; go_in) | (go_at_call 31; go_in) | (go_at_call 32; go_in) | (go_at_call 12; go_in) | (go_at_call 10; go_in) | (go_at_call 9; go_in) | (go_at_call 7; go_in))
    have hO := HO.out
    clear HO ne9_0_7 ne9_0_12 ne9_0_13 ne9_6_8 ne9_6_9 ne9_7_0 ne9_7_12 ne9_7_13 ne9_8_6 ne9_8_9 ne9_9_6 ne9_9_8 ne9_10_11 ne9_11_10 ne9_12_0 ne9_12_7 ne9_12_13 ne9_13_0 ne9_13_7 ne9_13_12 c9_0_0 c9_0_1 lt9_0 y9_0 pl9_0 c9_1_32 c9_1_95 c9_1_96 c9_1_97 c9_1_117 c9_1_338 c9_1_350 lt9_1 y9_1 c9_3_0 c9_3_1 lt9_3 y9_3 c9_4_0 c9_4_1 c9_4_2 c9_4_3 c9_4_4 c9_4_5 c9_4_6 c9_4_7 c9_4_8 lt9_4 y9_4 c9_5_0 c9_5_1 c9_5_2 c9_5_3 c9_5_4 c9_5_5 c9_5_6 c9_5_7 lt9_5 y9_5 c9_6_0 c9_6_1 c9_6_2 c9_6_3 c9_6_4 lt9_6 y9_6 pl9_6 c9_7_0 c9_7_1 c9_7_2 c9_7_3 c9_7_4 c9_7_5 lt9_7 y9_7 pl9_7 c9_8_0 c9_8_1 c9_8_2 c9_8_3 c9_8_4 lt9_8 y9_8 pl9_8 c9_9_0 c9_9_1 c9_9_2 c9_9_3 c9_9_4 lt9_9 y9_9 pl9_9 c9_10_0 c9_10_1 c9_10_2 c9_10_3 c9_10_4 c9_10_5 c9_10_6 c9_10_7 lt9_10 y9_10 pl9_10 c9_11_0 c9_11_1 c9_11_2 c9_11_3 c9_11_4 c9_11_5 c9_11_6 c9_11_7 lt9_11 y9_11 pl9_11 c9_12_0 c9_12_1 lt9_12 y9_12 pl9_12 c9_13_0 c9_13_1 lt9_13 y9_13 pl9_13
    generalize hW : World.setCell _ _ _ = W12
    have hN : Own w0 W12 [row (B1) 30 #[.iface 40 (.pointer (some ⟨nd10, 0, none⟩)), .int .i32 loc], row (pb) 206 PC, (mp, .map map3 3), row (cr) 68 #[.int .u32 0, .int .u32 1], row (d) 211 #[.iface 244 (.pointer (some ⟨kx, 0, none⟩)), .int .i32 loc, .iface 50 (.pointer (some ⟨gx, 0, none⟩)), .int .i32 loc, .int .i32 0, .int .u8 0, .bool false, .bool false, .bool false], row (nd4) 56 #[.iface 220 (.pointer (some ⟨nd5, 0, none⟩)), .int .i32 loc, .slice (some ⟨nd6, 0, none⟩) 3 3, .int .i32 0, .int .u8 0, .int .u8 0, .bool false, .bool false], row (nd5) 223 #[.int .u32 0, .int .u32 2, .bool false, .bool false, .bool false], row (nd6) 30 #[.iface 40 (.pointer (some ⟨nd9, 0, none⟩)), .int .i32 loc, .iface 220 (.pointer (some ⟨nd8, 0, none⟩)), .int .i32 loc, .iface 50 (.pointer (some ⟨gx, 0, none⟩)), .int .i32 loc], row (nd7) 223 #[.int .u32 0, .int .u32 1, .bool false, .bool false, .bool false], row (nd8) 223 #[.int .u32 0, .int .u32 1, .bool false, .bool false, .bool false], row (nd9) 44 #[.iface 220 (.pointer (some ⟨nd7, 0, none⟩)), .int .i32 loc, .string ⟨#[112, 114, 111, 116, 111, 116, 121, 112, 101]⟩, .int .i32 loc, .int .u8 0, .bool false, .bool false, .bool false], row (nd10) 44 #[.iface 52 (.pointer (some ⟨nd4, 0, none⟩)), .int .i32 loc, .string ⟨#[95]⟩, .int .i32 loc, .int .u8 0, .bool false, .bool false, .bool false], row (B1_2) 30 #[.iface 244 (.pointer (some ⟨kx, 0, none⟩)), .int .i32 loc], row (B1_1) 30 #[.iface 40 (.pointer (some ⟨nd10, 0, none⟩)), .int .i32 loc]] X := by
      rw [← hW]
      exact ((hO).set 13 rfl 0 _).set 13 rfl 1 _
    clear hW hO
    have hO := hN
    clear hN
    have z9_13_0 : W12.cell? ⟨B1_1, 0, none⟩ = some (.iface 40 (.pointer (some ⟨nd10, 0, none⟩))) := hO.cell 13 rfl 0 rfl
    have z9_13_1 : W12.cell? ⟨B1_1, 1, none⟩ = some (.int .i32 loc) := hO.cell 13 rfl 1 rfl
    refine bodyPost_ret (v := .tuple #[.agg #[.iface 40 (.pointer (some ⟨nd10, 0, none⟩)), .int .i32 loc], .bool true]) ?_ rfl ⟨nd10, rfl, hO.sub [1, 2, 3] (by decide)⟩
    simp [results, Tryd.results35, go_sem, z9_13_0, z9_13_1]
def rasgDyrs1E (d : Nat) (loc : Int) (kx : Nat) (nm : ByteArray) : Nat → Rega.Atoms → Value
  | 0, α => .pointer (some ⟨d, 0, none⟩)
  | 1, α => .pointer (some ⟨d, 0, none⟩)
  | 2, α => .pointer (some ⟨d, 3, none⟩)
  | 3, α => .agg #[.int .i32 loc]
  | 4, α => .pointer (some ⟨d, 0, none⟩)
  | 5, α => .pointer (some ⟨d, 0, none⟩)
  | 6, α => .pointer (some ⟨d, 2, none⟩)
  | 7, α => .string nm
  | 8, α => .slice (some ⟨α 8, 0, none⟩) (α 1008) (α 2008)
  | 9, α => .agg #[.slice (some ⟨α 8, 0, none⟩) (α 1008) (α 2008), .int .i32 0, .bool false, .bool false, .bool false]
  | 10, α => .pointer (some ⟨α 10, 0, none⟩)
  | 11, α => .iface 50 (.pointer (some ⟨α 10, 0, none⟩))
  | 12, α => .agg #[.iface 50 (.pointer (some ⟨α 10, 0, none⟩)), .int .i32 loc]
  | 13, α => .pointer (some ⟨α 13, 0, none⟩)
  | 14, α => undef
  | _, _ => undef
def rasgDyrs1Anc : Nat → List Nat
  | 1 => [0]
  | 2 => [0, 1]
  | 3 => [0, 1, 2]
  | 5 => [4]
  | 6 => [4, 5]
  | 7 => [4, 5, 6]
  | 8 => [4, 5, 6, 7]
  | 9 => [4, 5, 6, 7, 8]
  | 10 => [4, 5, 6, 7, 8, 9]
  | 11 => [4, 5, 6, 7, 8, 9, 10]
  | 12 => [0, 1, 2, 3, 4, 5, 6, 7, 8, 9, 10, 11]
  | 14 => [0, 1, 2, 3, 4, 5, 6, 7, 8, 9, 10, 11, 12, 13]
  | _ => []
def rasgDyrs1Trn : Nat → List Nat
  | 14 => [13]
  | _ => []
def rasgDyrs1Cnt : List (Nat × Nat) := [(10, 1), (13, 1)]
def rasgDyrs1T13 (d : Nat) (loc : Int) (kx : Nat) (nm : ByteArray) (L9 : Nat → Bool) (α : Rega.Atoms) : Rw := if L9 14 = true then row (α 13) 30 #[.iface 50 (.pointer (some ⟨α 10, 0, none⟩)), .int .i32 loc] else row (α 13) 30 #[.nilIface, .int .i32 0]
def rasgDyrs1R (d : Nat) (loc : Int) (kx : Nat) (nm : ByteArray) (L9 : Nat → Bool) (α : Rega.Atoms) (ix9 : Nat) : Rw := if ix9 = 999 then row (d) 44 #[.iface 244 (.pointer (some ⟨kx, 0, none⟩)), .int .i32 loc, .string nm, .int .i32 loc, .int .u8 0, .bool false, .bool false, .bool false] else if ix9 = 10 then row (α 10) 214 #[.slice (some ⟨α 8, 0, none⟩) (α 1008) (α 2008), .int .i32 0, .bool false, .bool false, .bool false] else if ix9 = 13 then rasgDyrs1T13 d loc kx nm L9 α else (0, .map #[] 0)
theorem rasgDyrs1_he (d : Nat) (loc : Int) (kx : Nat) (nm : ByteArray) : ∀ kk α α', (∀ j, (j % 1000 = kk ∨ j % 1000 ∈ rasgDyrs1Anc kk) → α j = α' j) → rasgDyrs1E d loc kx nm kk α = rasgDyrs1E d loc kx nm kk α' := by
  intro kk α α' h
  match kk with
  | 0 => rfl
  | 1 => rfl
  | 2 => rfl
  | 3 => rfl
  | 4 => rfl
  | 5 => rfl
  | 6 => rfl
  | 7 => rfl
  | 8 => simp only [rasgDyrs1E, h 8 (Or.inl rfl), h 1008 (Or.inl rfl), h 2008 (Or.inl rfl)]
  | 9 => simp only [rasgDyrs1E, h 8 (Or.inr (by decide)), h 1008 (Or.inr (by decide)), h 2008 (Or.inr (by decide))]
  | 10 => simp only [rasgDyrs1E, h 10 (Or.inl rfl)]
  | 11 => simp only [rasgDyrs1E, h 10 (Or.inr (by decide))]
  | 12 => simp only [rasgDyrs1E, h 10 (Or.inr (by decide))]
  | 13 => simp only [rasgDyrs1E, h 13 (Or.inl rfl)]
  | 14 => rfl
  | n + 15 => rfl
theorem rasgDyrs1_st (d : Nat) (loc : Int) (kx : Nat) (nm : ByteArray) : Stable rasgDyrs1Cnt 1 rasgDyrs1Anc rasgDyrs1Trn (rasgDyrs1R d loc kx nm) := by
  intro k9 L9 α α' ix9 hk hcl hα hact ht
  have hp := act_places hact
  replace hp : ix9 ∈ [999, 10, 13] := hp
  simp only [List.mem_cons, List.not_mem_nil, or_false] at hp
  rcases hp with rfl | rfl | rfl
  · rfl
  · have e0 : L9 10 = true := act_lt hact (by decide)
    show row (α' 10) 214 #[.slice (some ⟨α' 8, 0, none⟩) (α' 1008) (α' 2008), .int .i32 0, .bool false, .bool false, .bool false] = row (α 10) 214 #[.slice (some ⟨α 8, 0, none⟩) (α 1008) (α 2008), .int .i32 0, .bool false, .bool false, .bool false]
    simp only [hα 8 (ne_ran hk (hcl 10 e0 8 (by decide))), hα 10 (ne_ran hk e0), hα 1008 (ne_ran hk (hcl 10 e0 8 (by decide))), hα 2008 (ne_ran hk (hcl 10 e0 8 (by decide)))]
  · have e0 : L9 13 = true := act_lt hact (by decide)
    show rasgDyrs1T13 d loc kx nm (Rega.ran L9 k9) α' = rasgDyrs1T13 d loc kx nm L9 α
    unfold rasgDyrs1T13
    have n14 : 14 ≠ k9 := fun e => ht (by rw [← e]; decide)
    rw [ran_ne n14]
    by_cases e14 : L9 14 = true
    · first | rw [if_pos e14, if_pos e14] | rw [if_pos e14]
      try simp only [hα 10 (ne_ran hk (hcl 14 e14 10 (by decide))), hα 13 (ne_ran hk (hcl 14 e14 13 (by decide)))]
    first | rw [if_neg e14, if_neg e14] | rw [if_neg e14]
    try simp only [hα 13 (ne_ran hk e0)]
def asgDyrsPost (pb : Nat) (PC : Array Value) (mp cr d : Nat) (loc : Int) (kx : Nat) (nm : ByteArray) (w0 : World) (X : Nat → Obj → Prop) (e : Ending) (w' : World) : Prop :=
  ∃ dd : Nat, e = .returned (.tuple #[.agg #[.iface 40 (.pointer (some ⟨dd, 0, none⟩)), .int .i32 loc], .bool true]) ∧ Own w0 w' [row (pb) 206 PC, (mp, .map map3 3), row (cr) 68 #[.int .u32 0, .int .u32 1]] X
set_option maxRecDepth 100000 in
set_option maxHeartbeats 1000000 in
theorem asgDyrs (pb : Nat) (PC : Array Value) (mp cr d : Nat) (loc : Int) (kx : Nat) (nm : ByteArray) (w0 w : World) (X : Nat → Obj → Prop) (hO : Own w0 w [row (pb) 206 PC, (mp, .map map3 3), row (cr) 68 #[.int .u32 0, .int .u32 1], row (d) 44 #[.iface 244 (.pointer (some ⟨kx, 0, none⟩)), .int .i32 loc, .string nm, .int .i32 loc, .int .u8 0, .bool false, .bool false, .bool false]] X) (hD : Dead PC mp cr true true) (hl : PC[338]? = some (.bool true)) (hlen : nm.size ≤ 1048576) :
    Calls Tryd.prog 35 #[.pointer (some ⟨pb, 0, none⟩), .agg #[.iface 40 (.pointer (some ⟨d, 0, none⟩)), .int .i32 loc]] w (asgDyrsPost pb PC mp cr d loc kx nm w0 X) := by
  go_enter Tryd.func35, Tryd.ntmps35
  have c9_0_32 : w.cell? ⟨pb, 32, none⟩ = some (.bool false) := hO.cell 0 rfl 32 (hD.ts)
  have c9_0_95 : w.cell? ⟨pb, 95, none⟩ = some (.bool true) := hO.cell 0 rfl 95 (hD.rep)
  have c9_0_96 : w.cell? ⟨pb, 96, none⟩ = some (.bool true) := hO.cell 0 rfl 96 (hD.stat)
  have c9_0_97 : w.cell? ⟨pb, 97, none⟩ = some (.pointer (some ⟨cr, 0, none⟩)) := hO.cell 0 rfl 97 (hD.cls)
  have c9_0_117 : w.cell? ⟨pb, 117, none⟩ = some (.map (some mp)) := hO.cell 0 rfl 117 (hD.imp)
  have c9_0_338 : w.cell? ⟨pb, 338, none⟩ = some (.bool true) := hO.cell 0 rfl 338 (hl)
  have c9_0_350 : w.cell? ⟨pb, 350, none⟩ = some (.bool true) := hO.cell 0 rfl 350 (hD.dead)
  have lt9_0 : pb < w.heap.size := hO.lt 0 rfl
  have y9_0 : ∀ o, w.frozen? ⟨pb, o, none⟩ = false := hO.free 0 rfl
  obtain ⟨c9_2_0, c9_2_1, lt9_2, y9_2, -⟩ := hO.k2 2 rfl
  obtain ⟨c9_3_0, c9_3_1, c9_3_2, c9_3_3, c9_3_4, c9_3_5, c9_3_6, c9_3_7, lt9_3, y9_3, -⟩ := hO.k8 3 rfl
  have HO := Lib.hid hO
  clear hO
  go_wp2_with (first | (go_at_call 34; go_in) | (go_at_call 30; go_in) | (go_at_call 31; go_in) | (go_at_call 32; go_in) | (go_at_call 12; go_in) | (go_at_call 10; go_in) | (go_at_call 9; go_in) | (go_at_call 7; go_in))
  have hO := HO.out
  clear HO c9_0_32 c9_0_95 c9_0_96 c9_0_97 c9_0_117 c9_0_338 c9_0_350 lt9_0 y9_0 c9_2_0 c9_2_1 lt9_2 y9_2 c9_3_0 c9_3_1 c9_3_2 c9_3_3 c9_3_4 c9_3_5 c9_3_6 c9_3_7 lt9_3 y9_3
  generalize hW : World.alloc _ _ = W2
  have hN : Own w0 W2 [row (w.heap.size + 1 + 1) 30 #[.iface 244 (.pointer (some ⟨kx, 0, none⟩)), .int .i32 loc], row (w.heap.size + 1) 30 #[.nilIface, .int .i32 0], row (w.heap.size) 30 #[.iface 40 (.pointer (some ⟨d, 0, none⟩)), .int .i32 loc], row (pb) 206 PC, (mp, .map map3 3), row (cr) 68 #[.int .u32 0, .int .u32 1], row (d) 44 #[.iface 244 (.pointer (some ⟨kx, 0, none⟩)), .int .i32 loc, .string nm, .int .i32 loc, .int .u8 0, .bool false, .bool false, .bool false]] X := by
    rw [← hW]
    exact (((hO).alloc' _ (w.heap.size) (by simp)).alloc' _ (w.heap.size + 1) (by simp)).alloc' _ (w.heap.size + 1 + 1) (by simp)
  clear hW hO
  generalize w.heap.size + 1 + 1 = B1_2 at hN ⊢
  generalize w.heap.size + 1 = B1_1 at hN ⊢
  generalize w.heap.size = B1 at hN ⊢
  have hO := hN
  clear hN
  have hL := hO.apart
  have hX := hO.apartX
  have HL := Lib.hid hL
  have HX := Lib.hid hX
  clear hL hX
  have hP9 := hO.pick [6] (by decide)
  generalize hX9_3 : Own.Rest _ _ X = X9_3 at hP9
  replace hP9 : Own w0 W2 [row (d) 44 #[.iface 244 (.pointer (some ⟨kx, 0, none⟩)), .int .i32 loc, .string nm, .int .i32 loc, .int .u8 0, .bool false, .bool false, .bool false]] X9_3 := hP9
  clear hO
  have hO := hP9
  clear hP9
  have st9 := rasgDyrs1_st d loc kx nm
  refine wp_region_own (e := rasgDyrs1E d loc kx nm) (anc := rasgDyrs1Anc) (G := (fun L9 α u9 => OwnF w0 u9 (act rasgDyrs1Cnt 1 L9) (rasgDyrs1R d loc kx nm L9 α) X9_3)) (by kernel_rfl) (by kernel_rfl) (by kernel_rfl) (by kernel_rfl) (rasgDyrs1_he d loc kx nm) ?_ (RunsAll.all ?_) ?_
  · have hp : ∀ i, act rasgDyrs1Cnt 1 (fun _ => false) i → i ∈ [999] := by
      intro i hi
      have h9 : i % 1000 = 999 := by
        by_cases h : i % 1000 = 999
        · exact h
        · exact absurd (act_lt hi h) (by simp)
      unfold act at hi
      rw [if_pos h9] at hi
      simp only [List.mem_cons, List.not_mem_nil, or_false]
      omega
    refine hO.drew.family (fun i hi => ?_) (fun i j hi hj hij => ?_)
    · have := hp i hi
      simp only [List.mem_cons, List.not_mem_nil, or_false] at this
      subst this
      rfl
    · have h1 := hp i hi
      have h2 := hp j hj
      simp only [List.mem_cons, List.not_mem_nil, or_false] at h1 h2
      omega
  · refine ⟨?_, ?_, ?_, ?_, ?_, ?_, ?_, ?_, ?_, ?_, ?_, ?_, ?_, ?_, ?_, trivial⟩
    · intro L9 α a9 u9 K9 hL hcl hA hG hS h0 hK
      replace hL : L9 0 = false := hL
      have q10 : a9.tmps[10]? = some (.pointer (some ⟨d, 0, none⟩)) := (h0 10 (by kernel_rfl)).trans rfl
      have s10 := Rega.eval_of q10
      go_simp
      exact hK _ α _ (fun _ _ => rfl) rfl (step_same (st9) hL hcl rfl rfl hG)
    · intro L9 α a9 u9 K9 hL hcl hA hG hS h0 hK
      replace hL : L9 1 = false := hL
      have q55 : a9.tmps[55]? = some (.pointer (some ⟨d, 0, none⟩)) := hS 0 55 (by decide) rfl (by show 55 < 250; decide)
      have s55 := Rega.eval_of q55
      go_simp
      exact hK _ α _ (fun _ _ => rfl) rfl (step_same (st9) hL hcl rfl rfl hG)
    · intro L9 α a9 u9 K9 hL hcl hA hG hS h0 hK
      replace hL : L9 2 = false := hL
      have q56 : a9.tmps[56]? = some (.pointer (some ⟨d, 0, none⟩)) := hS 1 56 (by decide) rfl (by show 56 < 250; decide)
      have s56 := Rega.eval_of q56
      go_simp
      exact hK _ α _ (fun _ _ => rfl) rfl (step_same (st9) hL hcl rfl rfl hG)
    · intro L9 α a9 u9 K9 hL hcl hA hG hS h0 hK
      replace hL : L9 3 = false := hL
      have q57 : a9.tmps[57]? = some (.pointer (some ⟨d, 3, none⟩)) := hS 2 57 (by decide) rfl (by show 57 < 250; decide)
      have s57 := Rega.eval_of q57
      have e0 : rasgDyrs1R d loc kx nm L9 α 999 = row (d) 44 #[.iface 244 (.pointer (some ⟨kx, 0, none⟩)), .int .i32 loc, .string nm, .int .i32 loc, .int .u8 0, .bool false, .bool false, .bool false] := rfl
      have hr := hG.rowAt 999 (act_base 999 rfl) e0
      have c0 : u9.cell? ⟨d, 3, none⟩ = some (.int .i32 loc) := hr.cell rfl
      clear hr e0
      go_simp
      exact hK _ α _ (fun _ _ => rfl) rfl (step_same (st9) hL hcl rfl rfl hG)
    · intro L9 α a9 u9 K9 hL hcl hA hG hS h0 hK
      replace hL : L9 4 = false := hL
      have q10 : a9.tmps[10]? = some (.pointer (some ⟨d, 0, none⟩)) := (h0 10 (by kernel_rfl)).trans rfl
      have s10 := Rega.eval_of q10
      go_simp
      exact hK _ α _ (fun _ _ => rfl) rfl (step_same (st9) hL hcl rfl rfl hG)
    · intro L9 α a9 u9 K9 hL hcl hA hG hS h0 hK
      replace hL : L9 5 = false := hL
      have q59 : a9.tmps[59]? = some (.pointer (some ⟨d, 0, none⟩)) := hS 4 59 (by decide) rfl (by show 59 < 250; decide)
      have s59 := Rega.eval_of q59
      go_simp
      exact hK _ α _ (fun _ _ => rfl) rfl (step_same (st9) hL hcl rfl rfl hG)
    · intro L9 α a9 u9 K9 hL hcl hA hG hS h0 hK
      replace hL : L9 6 = false := hL
      have q60 : a9.tmps[60]? = some (.pointer (some ⟨d, 0, none⟩)) := hS 5 60 (by decide) rfl (by show 60 < 250; decide)
      have s60 := Rega.eval_of q60
      go_simp
      exact hK _ α _ (fun _ _ => rfl) rfl (step_same (st9) hL hcl rfl rfl hG)
    · intro L9 α a9 u9 K9 hL hcl hA hG hS h0 hK
      replace hL : L9 7 = false := hL
      have q61 : a9.tmps[61]? = some (.pointer (some ⟨d, 2, none⟩)) := hS 6 61 (by decide) rfl (by show 61 < 250; decide)
      have s61 := Rega.eval_of q61
      have e0 : rasgDyrs1R d loc kx nm L9 α 999 = row (d) 44 #[.iface 244 (.pointer (some ⟨kx, 0, none⟩)), .int .i32 loc, .string nm, .int .i32 loc, .int .u8 0, .bool false, .bool false, .bool false] := rfl
      have hr := hG.rowAt 999 (act_base 999 rfl) e0
      have c0 : u9.cell? ⟨d, 2, none⟩ = some (.string nm) := hr.cell rfl
      clear hr e0
      go_simp
      exact hK _ α _ (fun _ _ => rfl) rfl (step_same (st9) hL hcl rfl rfl hG)
    · intro L9 α a9 u9 K9 hL hcl hA hG hS h0 hK
      replace hL : L9 8 = false := hL
      have q62 : a9.tmps[62]? = some (.string nm) := hS 7 62 (by decide) rfl (by show 62 < 250; decide)
      have s62 := Rega.eval_of q62
      go_simp
      have hM : ∀ i, i ∈ [] → act rasgDyrs1Cnt 1 L9 i := by intro i hi; simp at hi
      have hP : Own w0 u9 [] _ := hG.pick [] (by decide) (by simp)
      clear hM
      refine Calls.mono (toU16 nm _ _ _ hP hlen) ?_
      rintro e9 u1 ⟨b0, b1, b2, rfl, hQ⟩
      obtain ⟨α', hα'⟩ : ∃ α' : Rega.Atoms, α' = (fun j => if j = 8 then b0 else if j = 1008 then b1 else if j = 2008 then b2 else α j) := ⟨_, rfl⟩
      have hα : ∀ j, j % 1000 ≠ 8 → α' j = α j := fun j hj => by rw [hα']; simp only []; rw [if_neg (by omega), if_neg (by omega), if_neg (by omega)]
      have hb0 : α' 8 = b0 := by rw [hα']; rfl
      have hb1 : α' 1008 = b1 := by rw [hα']; rfl
      have hb2 : α' 2008 = b2 := by rw [hα']; rfl
      skip
      refine hK _ α' _ hα ?_ (step_call (st9) hL hcl hα [] [] (by decide) (by decide) (by decide) (M := _) ?_ hG hQ)
      · show _ = (.slice (some ⟨α' 8, 0, none⟩) (α' 1008) (α' 2008) : Value)
        simp only [hb0, hb1, hb2]
      · show [] = _
        rw []
    · intro L9 α a9 u9 K9 hL hcl hA hG hS h0 hK
      replace hL : L9 9 = false := hL
      have q63 : a9.tmps[63]? = some (.slice (some ⟨α 8, 0, none⟩) (α 1008) (α 2008)) := hS 8 63 (by decide) rfl (by show 63 < 250; decide)
      have s63 := Rega.eval_of q63
      go_simp
      exact hK _ α _ (fun _ _ => rfl) rfl (step_same (st9) hL hcl rfl rfl hG)
    · intro L9 α a9 u9 K9 hL hcl hA hG hS h0 hK
      replace hL : L9 10 = false := hL
      have q64 : a9.tmps[64]? = some (.agg #[.slice (some ⟨α 8, 0, none⟩) (α 1008) (α 2008), .int .i32 0, .bool false, .bool false, .bool false]) := hS 9 64 (by decide) rfl (by show 64 < 250; decide)
      have s64 := Rega.eval_of q64
      go_simp
      exact hK _ (fun j => if j = 10 then u9.heap.size else α j) _ (fun j hj => if_neg (fun e => hj (by rw [e]))) rfl (step_alloc (st9) hL hcl rfl rfl (by decide) _ rfl hG)
    · intro L9 α a9 u9 K9 hL hcl hA hG hS h0 hK
      replace hL : L9 11 = false := hL
      have q65 : a9.tmps[65]? = some (.pointer (some ⟨α 10, 0, none⟩)) := hS 10 65 (by decide) rfl (by show 65 < 250; decide)
      have s65 := Rega.eval_of q65
      go_simp
      exact hK _ α _ (fun _ _ => rfl) rfl (step_same (st9) hL hcl rfl rfl hG)
    · intro L9 α a9 u9 K9 hL hcl hA hG hS h0 hK
      replace hL : L9 12 = false := hL
      have q58 : a9.tmps[58]? = some (.agg #[.int .i32 loc]) := hS 3 58 (by decide) rfl (by show 58 < 250; decide)
      have s58 := Rega.eval_of q58
      have q66 : a9.tmps[66]? = some (.iface 50 (.pointer (some ⟨α 10, 0, none⟩))) := hS 11 66 (by decide) rfl (by show 66 < 250; decide)
      have s66 := Rega.eval_of q66
      go_simp
      exact hK _ α _ (fun _ _ => rfl) rfl (step_same (st9) hL hcl rfl rfl hG)
    · intro L9 α a9 u9 K9 hL hcl hA hG hS h0 hK
      replace hL : L9 13 = false := hL
      go_simp
      have e1 : rasgDyrs1R d loc kx nm (Rega.ran L9 13) (fun j => if j = 13 then u9.heap.size else α j) 13 = row (u9.heap.size) 30 #[.nilIface, .int .i32 0] := by
        show rasgDyrs1T13 d loc kx nm (Rega.ran L9 13) (fun j => if j = 13 then u9.heap.size else α j) = _
        unfold rasgDyrs1T13
        exact ((if_neg (fun e => (fun e => by have := hcl 14 e 13 (by decide); rw [hL] at this; cases this) ((ran_ne (by decide)).symm.trans e))).trans rfl)
      exact hK _ (fun j => if j = 13 then u9.heap.size else α j) _ (fun j hj => if_neg (fun e => hj (by rw [e]))) rfl (step_alloc (st9) hL hcl rfl rfl (by decide) _ e1 hG)
    · intro L9 α a9 u9 K9 hL hcl hA hG hS h0 hK
      replace hL : L9 14 = false := hL
      have q11 : a9.tmps[11]? = some (.pointer (some ⟨α 13, 0, none⟩)) := hS 13 11 (by decide) rfl (by show 11 < 250; decide)
      have s11 := Rega.eval_of q11
      have q67 : a9.tmps[67]? = some (.agg #[.iface 50 (.pointer (some ⟨α 10, 0, none⟩)), .int .i32 loc]) := hS 12 67 (by decide) rfl (by show 67 < 250; decide)
      have s67 := Rega.eval_of q67
      have e0 : rasgDyrs1R d loc kx nm L9 α 13 = row (α 13) 30 #[.nilIface, .int .i32 0] := by
        show rasgDyrs1T13 d loc kx nm L9 α = _
        unfold rasgDyrs1T13
        rw [if_neg (by rw [hL]; decide)]
      have hr := hG.rowAt 13 (act_new 13 rfl (hA 13 (by decide))) e0
      have c0 : u9.cell? ⟨α 13, 0, none⟩ = some (.nilIface) := hr.cell rfl
      have y0 : u9.frozen? ⟨α 13, 0, none⟩ = false := hr.free 0
      have c1 : u9.cell? ⟨α 13, 1, none⟩ = some (.int .i32 0) := hr.cell rfl
      have y1 : u9.frozen? ⟨α 13, 1, none⟩ = false := hr.free 1
      clear hr
      have E0 := Lib.hid e0
      clear e0
      go_simp
      have e1 : rasgDyrs1R d loc kx nm (Rega.ran L9 14) α 13 = row (α 13) 30 #[.iface 50 (.pointer (some ⟨α 10, 0, none⟩)), .int .i32 loc] := by
        show rasgDyrs1T13 d loc kx nm (Rega.ran L9 14) α = _
        unfold rasgDyrs1T13
        rw [if_pos (show Rega.ran L9 14 14 = true from rfl)]
      exact hK _ α _ (fun _ _ => rfl) rfl (step_sets (st9) hL hcl rfl 13 rfl (act_new 13 rfl (hA 13 (by decide))) E0.out 0 [.iface 50 (.pointer (some ⟨α 10, 0, none⟩)), .int .i32 loc] (e1.trans rfl) hG)
  · clear st9
    intro α u hG
    have e0 : rasgDyrs1R d loc kx nm (fun k => decide (k < 15)) α 999 = row (d) 44 #[.iface 244 (.pointer (some ⟨kx, 0, none⟩)), .int .i32 loc, .string nm, .int .i32 loc, .int .u8 0, .bool false, .bool false, .bool false] := rfl
    have e1 : rasgDyrs1R d loc kx nm (fun k => decide (k < 15)) α 10 = row (α 10) 214 #[.slice (some ⟨α 8, 0, none⟩) (α 1008) (α 2008), .int .i32 0, .bool false, .bool false, .bool false] := rfl
    have e2 : rasgDyrs1R d loc kx nm (fun k => decide (k < 15)) α 13 = row (α 13) 30 #[.iface 50 (.pointer (some ⟨α 10, 0, none⟩)), .int .i32 loc] := by
      show rasgDyrs1T13 d loc kx nm (fun k => decide (k < 15)) α = _
      unfold rasgDyrs1T13
      rw [if_pos (by decide)]
    have hO : Own w0 u [row (d) 44 #[.iface 244 (.pointer (some ⟨kx, 0, none⟩)), .int .i32 loc, .string nm, .int .i32 loc, .int .u8 0, .bool false, .bool false, .bool false], row (α 10) 214 #[.slice (some ⟨α 8, 0, none⟩) (α 1008) (α 2008), .int .i32 0, .bool false, .bool false, .bool false], row (α 13) 30 #[.iface 50 (.pointer (some ⟨α 10, 0, none⟩)), .int .i32 loc]] X9_3 := (hG.list [999, 10, 13] (by decide) (act_all (by decide))).conv (by
      show [rasgDyrs1R d loc kx nm (fun k => decide (k < 15)) α 999, rasgDyrs1R d loc kx nm (fun k => decide (k < 15)) α 10, rasgDyrs1R d loc kx nm (fun k => decide (k < 15)) α 13] = _
      rw [e0, e1, e2])
    clear hG e0 e1 e2
    generalize hfr : Rega.frameAt _ _ _ _ _ = fr
    have hdf : fr = ⟨#[.pointer (some ⟨pb, 0, none⟩), .agg #[.iface 40 (.pointer (some ⟨d, 0, none⟩)), .int .i32 loc], undef, .pointer (some ⟨B1, 0, none⟩), .pointer (some ⟨B1_1, 0, none⟩), .bool false, .bool false, undef, undef, undef, .pointer (some ⟨d, 0, none⟩), .pointer (some ⟨α 13, 0, none⟩), undef, undef, undef, undef, undef, undef, undef, undef, undef, undef, undef, undef, undef, undef, undef, .pointer (some ⟨B1, 0, none⟩), .iface 40 (.pointer (some ⟨d, 0, none⟩)), .tuple #[.pointer none, .bool false], .bool false, .pointer none, undef, undef, undef, undef, undef, undef, undef, undef, undef, undef, undef, undef, undef, undef, .tuple #[.pointer (some ⟨d, 0, none⟩), .bool true], .bool true, .pointer (some ⟨d, 0, none⟩), .pointer (some ⟨pb, 0, none⟩), .pointer (some ⟨d, 0, none⟩), .pointer (some ⟨d, 0, none⟩), .pointer (some ⟨d, 0, none⟩), .agg #[.iface 244 (.pointer (some ⟨kx, 0, none⟩)), .int .i32 loc], .bool true, .pointer (some ⟨d, 0, none⟩), .pointer (some ⟨d, 0, none⟩), .pointer (some ⟨d, 3, none⟩), .agg #[.int .i32 loc], .pointer (some ⟨d, 0, none⟩), .pointer (some ⟨d, 0, none⟩), .pointer (some ⟨d, 2, none⟩), .string nm, .slice (some ⟨α 8, 0, none⟩) (α 1008) (α 2008), .agg #[.slice (some ⟨α 8, 0, none⟩) (α 1008) (α 2008), .int .i32 0, .bool false, .bool false, .bool false], .pointer (some ⟨α 10, 0, none⟩), .iface 50 (.pointer (some ⟨α 10, 0, none⟩)), .agg #[.iface 50 (.pointer (some ⟨α 10, 0, none⟩)), .int .i32 loc], undef, undef, undef, undef, undef, undef, undef, undef, undef, undef, undef, undef, undef, undef, undef, undef, undef, undef, undef, undef, undef, undef, undef, undef, undef, undef, undef, undef, undef, undef, undef, undef, undef, undef, undef, undef, undef, undef, undef, undef, undef, undef, undef, undef, undef, undef, undef, undef, undef, undef, undef, undef, undef, undef, undef, undef, undef, undef, undef, undef, undef, undef, undef, undef, undef, undef, undef, undef, undef, undef, undef, undef, undef, undef, undef, undef, undef, undef, undef, undef, undef, undef, undef, undef, undef, undef, undef, undef, undef, undef, undef, undef, undef, undef, undef, undef, undef, undef, undef, undef, undef, undef, undef, undef, undef, undef, undef, undef, undef, undef, undef, undef, undef, undef, undef, undef, undef, undef, undef, undef, undef, undef, undef, undef, undef, undef, undef, undef, undef, undef, undef, undef, undef, undef, undef, undef, undef, undef, undef, undef, undef, undef, undef, undef, undef, undef, undef, undef, undef, undef, undef, undef, undef, undef, undef, undef, undef, undef, undef, undef, undef, undef, undef, undef, undef, undef, undef, undef, undef, undef, undef, undef, undef, undef, undef, undef, undef, undef, undef, undef, undef, undef], []⟩ := by rw [← hfr]; kernel_rfl
    clear hfr
    subst hdf
    generalize α 8 = nd4 at hO ⊢
    generalize α 10 = nd5 at hO ⊢
    generalize α 13 = nd6 at hO ⊢
    generalize α 1008 = nd7 at hO ⊢
    generalize α 2008 = nd8 at hO ⊢
    clear α
    subst hX9_3
    have hN : Own w0 u [row (d) 44 #[.iface 244 (.pointer (some ⟨kx, 0, none⟩)), .int .i32 loc, .string nm, .int .i32 loc, .int .u8 0, .bool false, .bool false, .bool false], row (nd5) 214 #[.slice (some ⟨nd4, 0, none⟩) (nd7) (nd8), .int .i32 0, .bool false, .bool false, .bool false], row (nd6) 30 #[.iface 50 (.pointer (some ⟨nd5, 0, none⟩)), .int .i32 loc], row (B1_2) 30 #[.iface 244 (.pointer (some ⟨kx, 0, none⟩)), .int .i32 loc], row (B1_1) 30 #[.nilIface, .int .i32 0], row (B1) 30 #[.iface 40 (.pointer (some ⟨d, 0, none⟩)), .int .i32 loc], row (pb) 206 PC, (mp, .map map3 3), row (cr) 68 #[.int .u32 0, .int .u32 1]] X := hO.back HL.out HX.out [0, 1, 2, 3, 4, 5] (by decide) (by decide)
    clear hO HL HX
    have hO := hN
    clear hN
    have ne9_2_3 : ¬ nd6 = B1_2 := hO.ne 2 3 rfl rfl (by decide)
    have ne9_2_4 : ¬ nd6 = B1_1 := hO.ne 2 4 rfl rfl (by decide)
    have ne9_2_5 : ¬ nd6 = B1 := hO.ne 2 5 rfl rfl (by decide)
    have ne9_3_2 : ¬ B1_2 = nd6 := hO.ne 3 2 rfl rfl (by decide)
    have ne9_3_4 : ¬ B1_2 = B1_1 := hO.ne 3 4 rfl rfl (by decide)
    have ne9_3_5 : ¬ B1_2 = B1 := hO.ne 3 5 rfl rfl (by decide)
    have ne9_4_2 : ¬ B1_1 = nd6 := hO.ne 4 2 rfl rfl (by decide)
    have ne9_4_3 : ¬ B1_1 = B1_2 := hO.ne 4 3 rfl rfl (by decide)
    have ne9_4_5 : ¬ B1_1 = B1 := hO.ne 4 5 rfl rfl (by decide)
    have ne9_5_2 : ¬ B1 = nd6 := hO.ne 5 2 rfl rfl (by decide)
    have ne9_5_3 : ¬ B1 = B1_2 := hO.ne 5 3 rfl rfl (by decide)
    have ne9_5_4 : ¬ B1 = B1_1 := hO.ne 5 4 rfl rfl (by decide)
    obtain ⟨c9_0_0, c9_0_1, c9_0_2, c9_0_3, c9_0_4, c9_0_5, c9_0_6, c9_0_7, lt9_0, y9_0, -⟩ := hO.k8 0 rfl
    obtain ⟨c9_1_0, c9_1_1, c9_1_2, c9_1_3, c9_1_4, lt9_1, y9_1, -⟩ := hO.k5 1 rfl
    obtain ⟨c9_2_0, c9_2_1, lt9_2, y9_2, pl9_2⟩ := hO.k2 2 rfl
    obtain ⟨c9_3_0, c9_3_1, lt9_3, y9_3, pl9_3⟩ := hO.k2 3 rfl
    obtain ⟨c9_4_0, c9_4_1, lt9_4, y9_4, pl9_4⟩ := hO.k2 4 rfl
    obtain ⟨c9_5_0, c9_5_1, lt9_5, y9_5, pl9_5⟩ := hO.k2 5 rfl
    have c9_6_32 : u.cell? ⟨pb, 32, none⟩ = some (.bool false) := hO.cell 6 rfl 32 (hD.ts)
    have c9_6_95 : u.cell? ⟨pb, 95, none⟩ = some (.bool true) := hO.cell 6 rfl 95 (hD.rep)
    have c9_6_96 : u.cell? ⟨pb, 96, none⟩ = some (.bool true) := hO.cell 6 rfl 96 (hD.stat)
    have c9_6_97 : u.cell? ⟨pb, 97, none⟩ = some (.pointer (some ⟨cr, 0, none⟩)) := hO.cell 6 rfl 97 (hD.cls)
    have c9_6_117 : u.cell? ⟨pb, 117, none⟩ = some (.map (some mp)) := hO.cell 6 rfl 117 (hD.imp)
    have c9_6_338 : u.cell? ⟨pb, 338, none⟩ = some (.bool true) := hO.cell 6 rfl 338 (hl)
    have c9_6_350 : u.cell? ⟨pb, 350, none⟩ = some (.bool true) := hO.cell 6 rfl 350 (hD.dead)
    have lt9_6 : pb < u.heap.size := hO.lt 6 rfl
    have y9_6 : ∀ o, u.frozen? ⟨pb, o, none⟩ = false := hO.free 6 rfl
    obtain ⟨c9_8_0, c9_8_1, lt9_8, y9_8, -⟩ := hO.k2 8 rfl
    have HO := Lib.hid hO
    clear hO
    go_wp2_with (first | (go_at_call 34; go_in) | (go_at_call 30; go_in) | (go_at_call 31; go_in) | (go_at_call 32; go_in) | (go_at_call 12; go_in) | (go_at_call 10; go_in) | (go_at_call 9; go_in) | (go_at_call 7; go_in))
    have hO := HO.out
    clear HO ne9_2_3 ne9_2_4 ne9_2_5 ne9_3_2 ne9_3_4 ne9_3_5 ne9_4_2 ne9_4_3 ne9_4_5 ne9_5_2 ne9_5_3 ne9_5_4 c9_0_0 c9_0_1 c9_0_2 c9_0_3 c9_0_4 c9_0_5 c9_0_6 c9_0_7 lt9_0 y9_0 c9_1_0 c9_1_1 c9_1_2 c9_1_3 c9_1_4 lt9_1 y9_1 c9_2_0 c9_2_1 lt9_2 y9_2 pl9_2 c9_3_0 c9_3_1 lt9_3 y9_3 pl9_3 c9_4_0 c9_4_1 lt9_4 y9_4 pl9_4 c9_5_0 c9_5_1 lt9_5 y9_5 pl9_5 c9_6_32 c9_6_95 c9_6_96 c9_6_97 c9_6_117 c9_6_338 c9_6_350 lt9_6 y9_6 c9_8_0 c9_8_1 lt9_8 y9_8
    have hL := hO.apart
    have hX := hO.apartX
    have HL := Lib.hid hL
    have HX := Lib.hid hX
    clear hL hX
    have hP9 := hO.pick [6, 7, 8] (by decide)
    have T9 := supWraprs pb PC mp cr loc 50 nd5 loc _ _ _ hP9 hD
    refine Calls.mono T9 ?_
    clear hP9 T9
    rintro e u9 ⟨nd10, nd11, nd12, nd13, nd14, nd15, rfl, hQ⟩
    have hN : Own w0 u9 [row (pb) 206 PC, (mp, .map map3 3), row (cr) 68 #[.int .u32 0, .int .u32 1], row (nd11) 223 #[.int .u32 0, .int .u32 2, .bool false, .bool false, .bool false], row (nd10) 56 #[.iface 220 (.pointer (some ⟨nd11, 0, none⟩)), .int .i32 loc, .slice (some ⟨nd12, 0, none⟩) 3 3, .int .i32 0, .int .u8 0, .int .u8 0, .bool false, .bool false], row (nd12) 30 #[.iface 220 (.pointer (some ⟨nd13, 0, none⟩)), .int .i32 loc, .iface 220 (.pointer (some ⟨nd14, 0, none⟩)), .int .i32 loc, .iface 50 (.pointer (some ⟨nd5, 0, none⟩)), .int .i32 loc], row (nd13) 223 #[.int .u32 0, .int .u32 1, .bool false, .bool false, .bool false], row (nd14) 223 #[.int .u32 0, .int .u32 1, .bool false, .bool false, .bool false], row (nd15) 44 #[.iface 52 (.pointer (some ⟨nd10, 0, none⟩)), .int .i32 loc, .string ⟨#[95]⟩, .int .i32 loc, .int .u8 0, .bool false, .bool false, .bool false], row (d) 44 #[.iface 244 (.pointer (some ⟨kx, 0, none⟩)), .int .i32 loc, .string nm, .int .i32 loc, .int .u8 0, .bool false, .bool false, .bool false], row (nd5) 214 #[.slice (some ⟨nd4, 0, none⟩) (nd7) (nd8), .int .i32 0, .bool false, .bool false, .bool false], row (nd6) 30 #[.iface 50 (.pointer (some ⟨nd5, 0, none⟩)), .int .i32 loc], row (B1_2) 30 #[.iface 244 (.pointer (some ⟨kx, 0, none⟩)), .int .i32 loc], row (B1_1) 30 #[.nilIface, .int .i32 0], row (B1) 30 #[.iface 40 (.pointer (some ⟨d, 0, none⟩)), .int .i32 loc]] X := hQ.back HL.out HX.out [0, 1, 2, 3, 4, 5] (by decide) (by decide)
    clear hQ HL HX hO
    have hO := hN
    clear hN
    have ne9_3_6 : ¬ nd11 = nd13 := hO.ne 3 6 rfl rfl (by decide)
    have ne9_3_7 : ¬ nd11 = nd14 := hO.ne 3 7 rfl rfl (by decide)
    have ne9_5_11 : ¬ nd12 = nd6 := hO.ne 5 11 rfl rfl (by decide)
    have ne9_5_12 : ¬ nd12 = B1_2 := hO.ne 5 12 rfl rfl (by decide)
    have ne9_5_13 : ¬ nd12 = B1_1 := hO.ne 5 13 rfl rfl (by decide)
    have ne9_5_14 : ¬ nd12 = B1 := hO.ne 5 14 rfl rfl (by decide)
    have ne9_6_3 : ¬ nd13 = nd11 := hO.ne 6 3 rfl rfl (by decide)
    have ne9_6_7 : ¬ nd13 = nd14 := hO.ne 6 7 rfl rfl (by decide)
    have ne9_7_3 : ¬ nd14 = nd11 := hO.ne 7 3 rfl rfl (by decide)
    have ne9_7_6 : ¬ nd14 = nd13 := hO.ne 7 6 rfl rfl (by decide)
    have ne9_8_9 : ¬ nd15 = d := hO.ne 8 9 rfl rfl (by decide)
    have ne9_9_8 : ¬ d = nd15 := hO.ne 9 8 rfl rfl (by decide)
    have ne9_11_5 : ¬ nd6 = nd12 := hO.ne 11 5 rfl rfl (by decide)
    have ne9_11_12 : ¬ nd6 = B1_2 := hO.ne 11 12 rfl rfl (by decide)
    have ne9_11_13 : ¬ nd6 = B1_1 := hO.ne 11 13 rfl rfl (by decide)
    have ne9_11_14 : ¬ nd6 = B1 := hO.ne 11 14 rfl rfl (by decide)
    have ne9_12_5 : ¬ B1_2 = nd12 := hO.ne 12 5 rfl rfl (by decide)
    have ne9_12_11 : ¬ B1_2 = nd6 := hO.ne 12 11 rfl rfl (by decide)
    have ne9_12_13 : ¬ B1_2 = B1_1 := hO.ne 12 13 rfl rfl (by decide)
    have ne9_12_14 : ¬ B1_2 = B1 := hO.ne 12 14 rfl rfl (by decide)
    have ne9_13_5 : ¬ B1_1 = nd12 := hO.ne 13 5 rfl rfl (by decide)
    have ne9_13_11 : ¬ B1_1 = nd6 := hO.ne 13 11 rfl rfl (by decide)
    have ne9_13_12 : ¬ B1_1 = B1_2 := hO.ne 13 12 rfl rfl (by decide)
    have ne9_13_14 : ¬ B1_1 = B1 := hO.ne 13 14 rfl rfl (by decide)
    have ne9_14_5 : ¬ B1 = nd12 := hO.ne 14 5 rfl rfl (by decide)
    have ne9_14_11 : ¬ B1 = nd6 := hO.ne 14 11 rfl rfl (by decide)
    have ne9_14_12 : ¬ B1 = B1_2 := hO.ne 14 12 rfl rfl (by decide)
    have ne9_14_13 : ¬ B1 = B1_1 := hO.ne 14 13 rfl rfl (by decide)
    have c9_0_32 : u9.cell? ⟨pb, 32, none⟩ = some (.bool false) := hO.cell 0 rfl 32 (hD.ts)
    have c9_0_95 : u9.cell? ⟨pb, 95, none⟩ = some (.bool true) := hO.cell 0 rfl 95 (hD.rep)
    have c9_0_96 : u9.cell? ⟨pb, 96, none⟩ = some (.bool true) := hO.cell 0 rfl 96 (hD.stat)
    have c9_0_97 : u9.cell? ⟨pb, 97, none⟩ = some (.pointer (some ⟨cr, 0, none⟩)) := hO.cell 0 rfl 97 (hD.cls)
    have c9_0_117 : u9.cell? ⟨pb, 117, none⟩ = some (.map (some mp)) := hO.cell 0 rfl 117 (hD.imp)
    have c9_0_338 : u9.cell? ⟨pb, 338, none⟩ = some (.bool true) := hO.cell 0 rfl 338 (hl)
    have c9_0_350 : u9.cell? ⟨pb, 350, none⟩ = some (.bool true) := hO.cell 0 rfl 350 (hD.dead)
    have lt9_0 : pb < u9.heap.size := hO.lt 0 rfl
    have y9_0 : ∀ o, u9.frozen? ⟨pb, o, none⟩ = false := hO.free 0 rfl
    obtain ⟨c9_2_0, c9_2_1, lt9_2, y9_2, -⟩ := hO.k2 2 rfl
    obtain ⟨c9_3_0, c9_3_1, c9_3_2, c9_3_3, c9_3_4, lt9_3, y9_3, pl9_3⟩ := hO.k5 3 rfl
    obtain ⟨c9_4_0, c9_4_1, c9_4_2, c9_4_3, c9_4_4, c9_4_5, c9_4_6, c9_4_7, lt9_4, y9_4, -⟩ := hO.k8 4 rfl
    obtain ⟨c9_5_0, c9_5_1, c9_5_2, c9_5_3, c9_5_4, c9_5_5, lt9_5, y9_5, pl9_5⟩ := hO.k6 5 rfl
    obtain ⟨c9_6_0, c9_6_1, c9_6_2, c9_6_3, c9_6_4, lt9_6, y9_6, pl9_6⟩ := hO.k5 6 rfl
    obtain ⟨c9_7_0, c9_7_1, c9_7_2, c9_7_3, c9_7_4, lt9_7, y9_7, pl9_7⟩ := hO.k5 7 rfl
    obtain ⟨c9_8_0, c9_8_1, c9_8_2, c9_8_3, c9_8_4, c9_8_5, c9_8_6, c9_8_7, lt9_8, y9_8, pl9_8⟩ := hO.k8 8 rfl
    obtain ⟨c9_9_0, c9_9_1, c9_9_2, c9_9_3, c9_9_4, c9_9_5, c9_9_6, c9_9_7, lt9_9, y9_9, pl9_9⟩ := hO.k8 9 rfl
    obtain ⟨c9_10_0, c9_10_1, c9_10_2, c9_10_3, c9_10_4, lt9_10, y9_10, -⟩ := hO.k5 10 rfl
    obtain ⟨c9_11_0, c9_11_1, lt9_11, y9_11, pl9_11⟩ := hO.k2 11 rfl
    obtain ⟨c9_12_0, c9_12_1, lt9_12, y9_12, pl9_12⟩ := hO.k2 12 rfl
    obtain ⟨c9_13_0, c9_13_1, lt9_13, y9_13, pl9_13⟩ := hO.k2 13 rfl
    obtain ⟨c9_14_0, c9_14_1, lt9_14, y9_14, pl9_14⟩ := hO.k2 14 rfl
    have HO := Lib.hid hO
    clear hO
    go_wp2_with (first | (go_at_call 34; go_in) | (go_at_call 30; go_in) | (go_at_call 31; go_in) | (go_at_call 32; go_in) | (go_at_call 12; go_in) | (go_at_call 10; go_in) | (go_at_call 9; go_in) | (go_at_call 7; go_in))
    have hO := HO.out
    clear HO ne9_3_6 ne9_3_7 ne9_5_11 ne9_5_12 ne9_5_13 ne9_5_14 ne9_6_3 ne9_6_7 ne9_7_3 ne9_7_6 ne9_8_9 ne9_9_8 ne9_11_5 ne9_11_12 ne9_11_13 ne9_11_14 ne9_12_5 ne9_12_11 ne9_12_13 ne9_12_14 ne9_13_5 ne9_13_11 ne9_13_12 ne9_13_14 ne9_14_5 ne9_14_11 ne9_14_12 ne9_14_13 c9_0_32 c9_0_95 c9_0_96 c9_0_97 c9_0_117 c9_0_338 c9_0_350 lt9_0 y9_0 c9_2_0 c9_2_1 lt9_2 y9_2 c9_3_0 c9_3_1 c9_3_2 c9_3_3 c9_3_4 lt9_3 y9_3 pl9_3 c9_4_0 c9_4_1 c9_4_2 c9_4_3 c9_4_4 c9_4_5 c9_4_6 c9_4_7 lt9_4 y9_4 c9_5_0 c9_5_1 c9_5_2 c9_5_3 c9_5_4 c9_5_5 lt9_5 y9_5 pl9_5 c9_6_0 c9_6_1 c9_6_2 c9_6_3 c9_6_4 lt9_6 y9_6 pl9_6 c9_7_0 c9_7_1 c9_7_2 c9_7_3 c9_7_4 lt9_7 y9_7 pl9_7 c9_8_0 c9_8_1 c9_8_2 c9_8_3 c9_8_4 c9_8_5 c9_8_6 c9_8_7 lt9_8 y9_8 pl9_8 c9_9_0 c9_9_1 c9_9_2 c9_9_3 c9_9_4 c9_9_5 c9_9_6 c9_9_7 lt9_9 y9_9 pl9_9 c9_10_0 c9_10_1 c9_10_2 c9_10_3 c9_10_4 lt9_10 y9_10 c9_11_0 c9_11_1 lt9_11 y9_11 pl9_11 c9_12_0 c9_12_1 lt9_12 y9_12 pl9_12 c9_13_0 c9_13_1 lt9_13 y9_13 pl9_13 c9_14_0 c9_14_1 lt9_14 y9_14 pl9_14
    generalize hW : World.setCell _ _ _ = W17
    have hN : Own w0 W17 [row (pb) 206 PC, (mp, .map map3 3), row (cr) 68 #[.int .u32 0, .int .u32 1], row (nd11) 223 #[.int .u32 0, .int .u32 2, .bool false, .bool false, .bool false], row (nd10) 56 #[.iface 220 (.pointer (some ⟨nd11, 0, none⟩)), .int .i32 loc, .slice (some ⟨nd12, 0, none⟩) 3 3, .int .i32 0, .int .u8 0, .int .u8 0, .bool false, .bool false], row (nd12) 30 #[.iface 220 (.pointer (some ⟨nd13, 0, none⟩)), .int .i32 loc, .iface 220 (.pointer (some ⟨nd14, 0, none⟩)), .int .i32 loc, .iface 50 (.pointer (some ⟨nd5, 0, none⟩)), .int .i32 loc], row (nd13) 223 #[.int .u32 0, .int .u32 1, .bool false, .bool false, .bool false], row (nd14) 223 #[.int .u32 0, .int .u32 1, .bool false, .bool false, .bool false], row (nd15) 44 #[.iface 52 (.pointer (some ⟨nd10, 0, none⟩)), .int .i32 loc, .string ⟨#[95]⟩, .int .i32 loc, .int .u8 0, .bool false, .bool false, .bool false], row (d) 44 #[.iface 244 (.pointer (some ⟨kx, 0, none⟩)), .int .i32 loc, .string nm, .int .i32 loc, .int .u8 0, .bool false, .bool false, .bool false], row (nd5) 214 #[.slice (some ⟨nd4, 0, none⟩) (nd7) (nd8), .int .i32 0, .bool false, .bool false, .bool false], row (nd6) 30 #[.iface 50 (.pointer (some ⟨nd5, 0, none⟩)), .int .i32 loc], row (B1_2) 30 #[.iface 244 (.pointer (some ⟨kx, 0, none⟩)), .int .i32 loc], row (B1_1) 30 #[.iface 40 (.pointer (some ⟨nd15, 0, none⟩)), .int .i32 loc], row (B1) 30 #[.iface 40 (.pointer (some ⟨nd15, 0, none⟩)), .int .i32 loc]] X := by
      rw [← hW]
      exact ((((hO).set 14 rfl 0 _).set 14 rfl 1 _).set 13 rfl 0 _).set 13 rfl 1 _
    clear hW hO
    have hO := hN
    clear hN
    have z9_13_0 : W17.cell? ⟨B1_1, 0, none⟩ = some (.iface 40 (.pointer (some ⟨nd15, 0, none⟩))) := hO.cell 13 rfl 0 rfl
    have z9_13_1 : W17.cell? ⟨B1_1, 1, none⟩ = some (.int .i32 loc) := hO.cell 13 rfl 1 rfl
    refine bodyPost_ret (v := .tuple #[.agg #[.iface 40 (.pointer (some ⟨nd15, 0, none⟩)), .int .i32 loc], .bool true]) ?_ rfl ⟨nd15, rfl, hO.sub [0, 1, 2] (by decide)⟩
    simp [results, Tryd.results35, go_sem, z9_13_0, z9_13_1]
def rasgXyrs1E (pb : Nat) (PC : Array Value) (mp : Nat) (cr : Nat) (d : Nat) (loc : Int) (kx : Nat) (gx : Nat) (B1 : Nat) : Nat → Rega.Atoms → Value
  | 0, α => .pointer (some ⟨pb, 0, none⟩)
  | 1, α => .pointer (some ⟨B1, 1, none⟩)
  | 2, α => .agg #[.int .i32 loc]
  | 3, α => .pointer (some ⟨d, 0, none⟩)
  | 4, α => .pointer (some ⟨d, 0, none⟩)
  | 5, α => .pointer (some ⟨d, 2, none⟩)
  | 6, α => .agg #[.iface 50 (.pointer (some ⟨gx, 0, none⟩)), .int .i32 loc]
  | 7, α => .agg #[.iface 40 (.pointer (some ⟨α 5007, 0, none⟩)), .int .i32 loc]
  | 8, α => undef
  | _, _ => undef
def rasgXyrs1Anc : Nat → List Nat
  | 2 => [1]
  | 4 => [3]
  | 5 => [3, 4]
  | 6 => [3, 4, 5]
  | 7 => [0, 1, 2, 3, 4, 5, 6]
  | 8 => [0, 1, 2, 3, 4, 5, 6, 7]
  | _ => []
def rasgXyrs1Trn : Nat → List Nat
  | 8 => [999]
  | _ => []
def rasgXyrs1Cnt : List (Nat × Nat) := [(7, 6)]
def rasgXyrs1T999 (pb : Nat) (PC : Array Value) (mp : Nat) (cr : Nat) (d : Nat) (loc : Int) (kx : Nat) (gx : Nat) (B1 : Nat) (L9 : Nat → Bool) (α : Rega.Atoms) : Rw := if L9 8 = true then row (B1) 30 #[.iface 40 (.pointer (some ⟨α 5007, 0, none⟩)), .int .i32 loc] else row (B1) 30 #[.iface 209 (.pointer (some ⟨d, 0, none⟩)), .int .i32 loc]
def rasgXyrs1R (pb : Nat) (PC : Array Value) (mp : Nat) (cr : Nat) (d : Nat) (loc : Int) (kx : Nat) (gx : Nat) (B1 : Nat) (L9 : Nat → Bool) (α : Rega.Atoms) (ix9 : Nat) : Rw := if ix9 = 999 then rasgXyrs1T999 pb PC mp cr d loc kx gx B1 L9 α else if ix9 = 1999 then row (pb) 206 PC else if ix9 = 2999 then (mp, .map map3 3) else if ix9 = 3999 then row (cr) 68 #[.int .u32 0, .int .u32 1] else if ix9 = 4999 then row (d) 211 #[.iface 244 (.pointer (some ⟨kx, 0, none⟩)), .int .i32 loc, .iface 50 (.pointer (some ⟨gx, 0, none⟩)), .int .i32 loc, .int .i32 0, .int .u8 0, .bool false, .bool false, .bool false] else if ix9 = 7 then row (α 7) 56 #[.iface 220 (.pointer (some ⟨α 1007, 0, none⟩)), .int .i32 loc, .slice (some ⟨α 2007, 0, none⟩) 3 3, .int .i32 0, .int .u8 0, .int .u8 0, .bool false, .bool false] else if ix9 = 1007 then row (α 1007) 223 #[.int .u32 0, .int .u32 2, .bool false, .bool false, .bool false] else if ix9 = 2007 then row (α 2007) 30 #[.iface 220 (.pointer (some ⟨α 3007, 0, none⟩)), .int .i32 loc, .iface 220 (.pointer (some ⟨α 4007, 0, none⟩)), .int .i32 loc, .iface 50 (.pointer (some ⟨gx, 0, none⟩)), .int .i32 loc] else if ix9 = 3007 then row (α 3007) 223 #[.int .u32 0, .int .u32 1, .bool false, .bool false, .bool false] else if ix9 = 4007 then row (α 4007) 223 #[.int .u32 0, .int .u32 1, .bool false, .bool false, .bool false] else if ix9 = 5007 then row (α 5007) 44 #[.iface 52 (.pointer (some ⟨α 7, 0, none⟩)), .int .i32 loc, .string ⟨#[95]⟩, .int .i32 loc, .int .u8 0, .bool false, .bool false, .bool false] else (0, .map #[] 0)
theorem rasgXyrs1_he (pb : Nat) (PC : Array Value) (mp : Nat) (cr : Nat) (d : Nat) (loc : Int) (kx : Nat) (gx : Nat) (B1 : Nat) : ∀ kk α α', (∀ j, (j % 1000 = kk ∨ j % 1000 ∈ rasgXyrs1Anc kk) → α j = α' j) → rasgXyrs1E pb PC mp cr d loc kx gx B1 kk α = rasgXyrs1E pb PC mp cr d loc kx gx B1 kk α' := by
  intro kk α α' h
  match kk with
  | 0 => rfl
  | 1 => rfl
  | 2 => rfl
  | 3 => rfl
  | 4 => rfl
  | 5 => rfl
  | 6 => rfl
  | 7 => simp only [rasgXyrs1E, h 5007 (Or.inl rfl)]
  | 8 => rfl
  | n + 9 => rfl
theorem rasgXyrs1_st (pb : Nat) (PC : Array Value) (mp : Nat) (cr : Nat) (d : Nat) (loc : Int) (kx : Nat) (gx : Nat) (B1 : Nat) : Stable rasgXyrs1Cnt 5 rasgXyrs1Anc rasgXyrs1Trn (rasgXyrs1R pb PC mp cr d loc kx gx B1) := by
  intro k9 L9 α α' ix9 hk hcl hα hact ht
  have hp := act_places hact
  replace hp : ix9 ∈ [999, 1999, 2999, 3999, 4999, 7, 1007, 2007, 3007, 4007, 5007] := hp
  simp only [List.mem_cons, List.not_mem_nil, or_false] at hp
  rcases hp with rfl | rfl | rfl | rfl | rfl | rfl | rfl | rfl | rfl | rfl | rfl
  · show rasgXyrs1T999 pb PC mp cr d loc kx gx B1 (Rega.ran L9 k9) α' = rasgXyrs1T999 pb PC mp cr d loc kx gx B1 L9 α
    unfold rasgXyrs1T999
    have n8 : 8 ≠ k9 := fun e => ht (by rw [← e]; decide)
    rw [ran_ne n8]
    by_cases e8 : L9 8 = true
    · first | rw [if_pos e8, if_pos e8] | rw [if_pos e8]
      try simp only [hα 5007 (ne_ran hk (hcl 8 e8 7 (by decide)))]
    first | rw [if_neg e8, if_neg e8] | rw [if_neg e8]
  · rfl
  · rfl
  · rfl
  · rfl
  · have e0 : L9 7 = true := act_lt hact (by decide)
    show row (α' 7) 56 #[.iface 220 (.pointer (some ⟨α' 1007, 0, none⟩)), .int .i32 loc, .slice (some ⟨α' 2007, 0, none⟩) 3 3, .int .i32 0, .int .u8 0, .int .u8 0, .bool false, .bool false] = row (α 7) 56 #[.iface 220 (.pointer (some ⟨α 1007, 0, none⟩)), .int .i32 loc, .slice (some ⟨α 2007, 0, none⟩) 3 3, .int .i32 0, .int .u8 0, .int .u8 0, .bool false, .bool false]
    simp only [hα 7 (ne_ran hk e0), hα 1007 (ne_ran hk e0), hα 2007 (ne_ran hk e0)]
  · have e0 : L9 7 = true := act_lt hact (by decide)
    show row (α' 1007) 223 #[.int .u32 0, .int .u32 2, .bool false, .bool false, .bool false] = row (α 1007) 223 #[.int .u32 0, .int .u32 2, .bool false, .bool false, .bool false]
    simp only [hα 1007 (ne_ran hk e0)]
  · have e0 : L9 7 = true := act_lt hact (by decide)
    show row (α' 2007) 30 #[.iface 220 (.pointer (some ⟨α' 3007, 0, none⟩)), .int .i32 loc, .iface 220 (.pointer (some ⟨α' 4007, 0, none⟩)), .int .i32 loc, .iface 50 (.pointer (some ⟨gx, 0, none⟩)), .int .i32 loc] = row (α 2007) 30 #[.iface 220 (.pointer (some ⟨α 3007, 0, none⟩)), .int .i32 loc, .iface 220 (.pointer (some ⟨α 4007, 0, none⟩)), .int .i32 loc, .iface 50 (.pointer (some ⟨gx, 0, none⟩)), .int .i32 loc]
    simp only [hα 2007 (ne_ran hk e0), hα 3007 (ne_ran hk e0), hα 4007 (ne_ran hk e0)]
  · have e0 : L9 7 = true := act_lt hact (by decide)
    show row (α' 3007) 223 #[.int .u32 0, .int .u32 1, .bool false, .bool false, .bool false] = row (α 3007) 223 #[.int .u32 0, .int .u32 1, .bool false, .bool false, .bool false]
    simp only [hα 3007 (ne_ran hk e0)]
  · have e0 : L9 7 = true := act_lt hact (by decide)
    show row (α' 4007) 223 #[.int .u32 0, .int .u32 1, .bool false, .bool false, .bool false] = row (α 4007) 223 #[.int .u32 0, .int .u32 1, .bool false, .bool false, .bool false]
    simp only [hα 4007 (ne_ran hk e0)]
  · have e0 : L9 7 = true := act_lt hact (by decide)
    show row (α' 5007) 44 #[.iface 52 (.pointer (some ⟨α' 7, 0, none⟩)), .int .i32 loc, .string ⟨#[95]⟩, .int .i32 loc, .int .u8 0, .bool false, .bool false, .bool false] = row (α 5007) 44 #[.iface 52 (.pointer (some ⟨α 7, 0, none⟩)), .int .i32 loc, .string ⟨#[95]⟩, .int .i32 loc, .int .u8 0, .bool false, .bool false, .bool false]
    simp only [hα 7 (ne_ran hk e0), hα 5007 (ne_ran hk e0)]
def asgXyrsPost (pb : Nat) (PC : Array Value) (mp cr d : Nat) (loc : Int) (kx gx : Nat) (w0 : World) (X : Nat → Obj → Prop) (e : Ending) (w' : World) : Prop :=
  ∃ dd : Nat, e = .returned (.tuple #[.agg #[.iface 40 (.pointer (some ⟨dd, 0, none⟩)), .int .i32 loc], .bool true]) ∧ Own w0 w' [row (pb) 206 PC, (mp, .map map3 3), row (cr) 68 #[.int .u32 0, .int .u32 1]] X
set_option maxRecDepth 100000 in
set_option maxHeartbeats 1000000 in
theorem asgXyrs (pb : Nat) (PC : Array Value) (mp cr d : Nat) (loc : Int) (kx gx : Nat) (w0 w : World) (X : Nat → Obj → Prop) (hO : Own w0 w [row (pb) 206 PC, (mp, .map map3 3), row (cr) 68 #[.int .u32 0, .int .u32 1], row (d) 211 #[.iface 244 (.pointer (some ⟨kx, 0, none⟩)), .int .i32 loc, .iface 50 (.pointer (some ⟨gx, 0, none⟩)), .int .i32 loc, .int .i32 0, .int .u8 0, .bool false, .bool false, .bool false]] X) (hD : Dead PC mp cr true true) (hl : PC[338]? = some (.bool true)) :
    Calls Tryd.prog 35 #[.pointer (some ⟨pb, 0, none⟩), .agg #[.iface 209 (.pointer (some ⟨d, 0, none⟩)), .int .i32 loc]] w (asgXyrsPost pb PC mp cr d loc kx gx w0 X) := by
  go_enter Tryd.func35, Tryd.ntmps35
  have c9_0_32 : w.cell? ⟨pb, 32, none⟩ = some (.bool false) := hO.cell 0 rfl 32 (hD.ts)
  have c9_0_95 : w.cell? ⟨pb, 95, none⟩ = some (.bool true) := hO.cell 0 rfl 95 (hD.rep)
  have c9_0_96 : w.cell? ⟨pb, 96, none⟩ = some (.bool true) := hO.cell 0 rfl 96 (hD.stat)
  have c9_0_97 : w.cell? ⟨pb, 97, none⟩ = some (.pointer (some ⟨cr, 0, none⟩)) := hO.cell 0 rfl 97 (hD.cls)
  have c9_0_117 : w.cell? ⟨pb, 117, none⟩ = some (.map (some mp)) := hO.cell 0 rfl 117 (hD.imp)
  have c9_0_338 : w.cell? ⟨pb, 338, none⟩ = some (.bool true) := hO.cell 0 rfl 338 (hl)
  have c9_0_350 : w.cell? ⟨pb, 350, none⟩ = some (.bool true) := hO.cell 0 rfl 350 (hD.dead)
  have lt9_0 : pb < w.heap.size := hO.lt 0 rfl
  have y9_0 : ∀ o, w.frozen? ⟨pb, o, none⟩ = false := hO.free 0 rfl
  obtain ⟨c9_2_0, c9_2_1, lt9_2, y9_2, -⟩ := hO.k2 2 rfl
  obtain ⟨c9_3_0, c9_3_1, c9_3_2, c9_3_3, c9_3_4, c9_3_5, c9_3_6, c9_3_7, c9_3_8, lt9_3, y9_3, -⟩ := hO.k9 3 rfl
  have HO := Lib.hid hO
  clear hO
  go_wp2_with (first | (go_at_call 34; go_in) | (go_at_call 30; go_in) | (go_at_call 31; go_in) | (go_at_call 32; go_in) | (go_at_call 12; go_in) | (go_at_call 10; go_in) | (go_at_call 9; go_in) | (go_at_call 7; go_in))
  have hO := HO.out
  clear HO c9_0_32 c9_0_95 c9_0_96 c9_0_97 c9_0_117 c9_0_338 c9_0_350 lt9_0 y9_0 c9_2_0 c9_2_1 lt9_2 y9_2 c9_3_0 c9_3_1 c9_3_2 c9_3_3 c9_3_4 c9_3_5 c9_3_6 c9_3_7 c9_3_8 lt9_3 y9_3
  generalize hW : World.alloc _ _ = W2
  have hN : Own w0 W2 [row (w.heap.size + 1 + 1) 30 #[.iface 244 (.pointer (some ⟨kx, 0, none⟩)), .int .i32 loc], row (w.heap.size + 1) 30 #[.nilIface, .int .i32 0], row (w.heap.size) 30 #[.iface 209 (.pointer (some ⟨d, 0, none⟩)), .int .i32 loc], row (pb) 206 PC, (mp, .map map3 3), row (cr) 68 #[.int .u32 0, .int .u32 1], row (d) 211 #[.iface 244 (.pointer (some ⟨kx, 0, none⟩)), .int .i32 loc, .iface 50 (.pointer (some ⟨gx, 0, none⟩)), .int .i32 loc, .int .i32 0, .int .u8 0, .bool false, .bool false, .bool false]] X := by
    rw [← hW]
    exact (((hO).alloc' _ (w.heap.size) (by simp)).alloc' _ (w.heap.size + 1) (by simp)).alloc' _ (w.heap.size + 1 + 1) (by simp)
  clear hW hO
  generalize w.heap.size + 1 + 1 = B1_2 at hN ⊢
  generalize w.heap.size + 1 = B1_1 at hN ⊢
  generalize w.heap.size = B1 at hN ⊢
  have hO := hN
  clear hN
  have hL := hO.apart
  have hX := hO.apartX
  have HL := Lib.hid hL
  have HX := Lib.hid hX
  clear hL hX
  have hP9 := hO.pick [2, 3, 4, 5, 6] (by decide)
  generalize hX9_3 : Own.Rest _ _ X = X9_3 at hP9
  replace hP9 : Own w0 W2 [row (B1) 30 #[.iface 209 (.pointer (some ⟨d, 0, none⟩)), .int .i32 loc], row (pb) 206 PC, (mp, .map map3 3), row (cr) 68 #[.int .u32 0, .int .u32 1], row (d) 211 #[.iface 244 (.pointer (some ⟨kx, 0, none⟩)), .int .i32 loc, .iface 50 (.pointer (some ⟨gx, 0, none⟩)), .int .i32 loc, .int .i32 0, .int .u8 0, .bool false, .bool false, .bool false]] X9_3 := hP9
  clear hO
  have hO := hP9
  clear hP9
  have st9 := rasgXyrs1_st pb PC mp cr d loc kx gx B1
  refine wp_region_own (e := rasgXyrs1E pb PC mp cr d loc kx gx B1) (anc := rasgXyrs1Anc) (G := (fun L9 α u9 => OwnF w0 u9 (act rasgXyrs1Cnt 5 L9) (rasgXyrs1R pb PC mp cr d loc kx gx B1 L9 α) X9_3)) (by kernel_rfl) (by kernel_rfl) (by kernel_rfl) (by kernel_rfl) (rasgXyrs1_he pb PC mp cr d loc kx gx B1) ?_ (RunsAll.all ?_) ?_
  · have hp : ∀ i, act rasgXyrs1Cnt 5 (fun _ => false) i → i ∈ [999, 1999, 2999, 3999, 4999] := by
      intro i hi
      have h9 : i % 1000 = 999 := by
        by_cases h : i % 1000 = 999
        · exact h
        · exact absurd (act_lt hi h) (by simp)
      unfold act at hi
      rw [if_pos h9] at hi
      simp only [List.mem_cons, List.not_mem_nil, or_false]
      omega
    refine hO.drew.family (fun i hi => ?_) (fun i j hi hj hij => ?_)
    · have := hp i hi
      simp only [List.mem_cons, List.not_mem_nil, or_false] at this
      rcases this with rfl | rfl | rfl | rfl | rfl <;> rfl
    · have h1 := hp i hi
      have h2 := hp j hj
      simp only [List.mem_cons, List.not_mem_nil, or_false] at h1 h2
      omega
  · refine ⟨?_, ?_, ?_, ?_, ?_, ?_, ?_, ?_, ?_, trivial⟩
    · intro L9 α a9 u9 K9 hL hcl hA hG hS h0 hK
      replace hL : L9 0 = false := hL
      have q0 : a9.tmps[0]? = some (.pointer (some ⟨pb, 0, none⟩)) := (h0 0 (by kernel_rfl)).trans rfl
      have s0 := Rega.eval_of q0
      go_simp
      exact hK _ α _ (fun _ _ => rfl) rfl (step_same (st9) hL hcl rfl rfl hG)
    · intro L9 α a9 u9 K9 hL hcl hA hG hS h0 hK
      replace hL : L9 1 = false := hL
      have q3 : a9.tmps[3]? = some (.pointer (some ⟨B1, 0, none⟩)) := (h0 3 (by kernel_rfl)).trans rfl
      have s3 := Rega.eval_of q3
      go_simp
      exact hK _ α _ (fun _ _ => rfl) rfl (step_same (st9) hL hcl rfl rfl hG)
    · intro L9 α a9 u9 K9 hL hcl hA hG hS h0 hK
      replace hL : L9 2 = false := hL
      have q83 : a9.tmps[83]? = some (.pointer (some ⟨B1, 1, none⟩)) := hS 1 83 (by decide) rfl (by show 83 < 250; decide)
      have s83 := Rega.eval_of q83
      have e0 : rasgXyrs1R pb PC mp cr d loc kx gx B1 L9 α 999 = row (B1) 30 #[.iface 209 (.pointer (some ⟨d, 0, none⟩)), .int .i32 loc] := by
        show rasgXyrs1T999 pb PC mp cr d loc kx gx B1 L9 α = _
        unfold rasgXyrs1T999
        rw [if_neg (fun e => by have := hcl 8 e 2 (by decide); rw [hL] at this; cases this)]
      have hr := hG.rowAt 999 (act_base 999 rfl) e0
      have c0 : u9.cell? ⟨B1, 1, none⟩ = some (.int .i32 loc) := hr.cell rfl
      clear hr e0
      go_simp
      exact hK _ α _ (fun _ _ => rfl) rfl (step_same (st9) hL hcl rfl rfl hG)
    · intro L9 α a9 u9 K9 hL hcl hA hG hS h0 hK
      replace hL : L9 3 = false := hL
      have q12 : a9.tmps[12]? = some (.pointer (some ⟨d, 0, none⟩)) := (h0 12 (by kernel_rfl)).trans rfl
      have s12 := Rega.eval_of q12
      go_simp
      exact hK _ α _ (fun _ _ => rfl) rfl (step_same (st9) hL hcl rfl rfl hG)
    · intro L9 α a9 u9 K9 hL hcl hA hG hS h0 hK
      replace hL : L9 4 = false := hL
      have q85 : a9.tmps[85]? = some (.pointer (some ⟨d, 0, none⟩)) := hS 3 85 (by decide) rfl (by show 85 < 250; decide)
      have s85 := Rega.eval_of q85
      go_simp
      exact hK _ α _ (fun _ _ => rfl) rfl (step_same (st9) hL hcl rfl rfl hG)
    · intro L9 α a9 u9 K9 hL hcl hA hG hS h0 hK
      replace hL : L9 5 = false := hL
      have q86 : a9.tmps[86]? = some (.pointer (some ⟨d, 0, none⟩)) := hS 4 86 (by decide) rfl (by show 86 < 250; decide)
      have s86 := Rega.eval_of q86
      go_simp
      exact hK _ α _ (fun _ _ => rfl) rfl (step_same (st9) hL hcl rfl rfl hG)
    · intro L9 α a9 u9 K9 hL hcl hA hG hS h0 hK
      replace hL : L9 6 = false := hL
      have q87 : a9.tmps[87]? = some (.pointer (some ⟨d, 2, none⟩)) := hS 5 87 (by decide) rfl (by show 87 < 250; decide)
      have s87 := Rega.eval_of q87
      have e0 : rasgXyrs1R pb PC mp cr d loc kx gx B1 L9 α 4999 = row (d) 211 #[.iface 244 (.pointer (some ⟨kx, 0, none⟩)), .int .i32 loc, .iface 50 (.pointer (some ⟨gx, 0, none⟩)), .int .i32 loc, .int .i32 0, .int .u8 0, .bool false, .bool false, .bool false] := rfl
      have hr := hG.rowAt 4999 (act_base 4999 rfl) e0
      have c0 : u9.cell? ⟨d, 2, none⟩ = some (.iface 50 (.pointer (some ⟨gx, 0, none⟩))) := hr.cell rfl
      have c1 : u9.cell? ⟨d, 3, none⟩ = some (.int .i32 loc) := hr.cell rfl
      clear hr e0
      go_simp
      exact hK _ α _ (fun _ _ => rfl) rfl (step_same (st9) hL hcl rfl rfl hG)
    · intro L9 α a9 u9 K9 hL hcl hA hG hS h0 hK
      replace hL : L9 7 = false := hL
      have q82 : a9.tmps[82]? = some (.pointer (some ⟨pb, 0, none⟩)) := hS 0 82 (by decide) rfl (by show 82 < 250; decide)
      have s82 := Rega.eval_of q82
      have q84 : a9.tmps[84]? = some (.agg #[.int .i32 loc]) := hS 2 84 (by decide) rfl (by show 84 < 250; decide)
      have s84 := Rega.eval_of q84
      have q88 : a9.tmps[88]? = some (.agg #[.iface 50 (.pointer (some ⟨gx, 0, none⟩)), .int .i32 loc]) := hS 6 88 (by decide) rfl (by show 88 < 250; decide)
      have s88 := Rega.eval_of q88
      go_simp
      have e0 : rasgXyrs1R pb PC mp cr d loc kx gx B1 L9 α 1999 = row (pb) 206 PC := rfl
      have e1 : rasgXyrs1R pb PC mp cr d loc kx gx B1 L9 α 2999 = (mp, .map map3 3) := rfl
      have e2 : rasgXyrs1R pb PC mp cr d loc kx gx B1 L9 α 3999 = row (cr) 68 #[.int .u32 0, .int .u32 1] := rfl
      have hM : ∀ i, i ∈ [1999, 2999, 3999] → act rasgXyrs1Cnt 5 L9 i := by
        intro i hi
        simp only [List.mem_cons, List.not_mem_nil, or_false] at hi
        rcases hi with rfl | rfl | rfl
        · exact act_base 1999 rfl
        · exact act_base 2999 rfl
        · exact act_base 3999 rfl
      have hP : Own w0 u9 [row (pb) 206 PC, (mp, .map map3 3), row (cr) 68 #[.int .u32 0, .int .u32 1]] _ := (hG.pick [1999, 2999, 3999] (by decide) hM).conv (by
        show [rasgXyrs1R pb PC mp cr d loc kx gx B1 L9 α 1999, rasgXyrs1R pb PC mp cr d loc kx gx B1 L9 α 2999, rasgXyrs1R pb PC mp cr d loc kx gx B1 L9 α 3999] = _
        rw [e0, e1, e2])
      clear e0 e1 e2 hM
      refine Calls.mono (supWraprs pb PC mp cr loc 50 gx loc _ _ _ hP hD) ?_
      rintro e9 u1 ⟨b0, b1, b2, b3, b4, b5, rfl, hQ⟩
      obtain ⟨α', hα'⟩ : ∃ α' : Rega.Atoms, α' = (fun j => if j = 7 then b0 else if j = 1007 then b1 else if j = 2007 then b2 else if j = 3007 then b3 else if j = 4007 then b4 else if j = 5007 then b5 else α j) := ⟨_, rfl⟩
      have f0 : rasgXyrs1R pb PC mp cr d loc kx gx B1 (Rega.ran L9 7) α' 1999 = row (pb) 206 PC := rfl
      have f1 : rasgXyrs1R pb PC mp cr d loc kx gx B1 (Rega.ran L9 7) α' 2999 = (mp, .map map3 3) := rfl
      have f2 : rasgXyrs1R pb PC mp cr d loc kx gx B1 (Rega.ran L9 7) α' 3999 = row (cr) 68 #[.int .u32 0, .int .u32 1] := rfl
      have f3 : rasgXyrs1R pb PC mp cr d loc kx gx B1 (Rega.ran L9 7) α' 1007 = row (α' 1007) 223 #[.int .u32 0, .int .u32 2, .bool false, .bool false, .bool false] := rfl
      have f4 : rasgXyrs1R pb PC mp cr d loc kx gx B1 (Rega.ran L9 7) α' 7 = row (α' 7) 56 #[.iface 220 (.pointer (some ⟨α' 1007, 0, none⟩)), .int .i32 loc, .slice (some ⟨α' 2007, 0, none⟩) 3 3, .int .i32 0, .int .u8 0, .int .u8 0, .bool false, .bool false] := rfl
      have f5 : rasgXyrs1R pb PC mp cr d loc kx gx B1 (Rega.ran L9 7) α' 2007 = row (α' 2007) 30 #[.iface 220 (.pointer (some ⟨α' 3007, 0, none⟩)), .int .i32 loc, .iface 220 (.pointer (some ⟨α' 4007, 0, none⟩)), .int .i32 loc, .iface 50 (.pointer (some ⟨gx, 0, none⟩)), .int .i32 loc] := rfl
      have f6 : rasgXyrs1R pb PC mp cr d loc kx gx B1 (Rega.ran L9 7) α' 3007 = row (α' 3007) 223 #[.int .u32 0, .int .u32 1, .bool false, .bool false, .bool false] := rfl
      have f7 : rasgXyrs1R pb PC mp cr d loc kx gx B1 (Rega.ran L9 7) α' 4007 = row (α' 4007) 223 #[.int .u32 0, .int .u32 1, .bool false, .bool false, .bool false] := rfl
      have f8 : rasgXyrs1R pb PC mp cr d loc kx gx B1 (Rega.ran L9 7) α' 5007 = row (α' 5007) 44 #[.iface 52 (.pointer (some ⟨α' 7, 0, none⟩)), .int .i32 loc, .string ⟨#[95]⟩, .int .i32 loc, .int .u8 0, .bool false, .bool false, .bool false] := rfl
      have hα : ∀ j, j % 1000 ≠ 7 → α' j = α j := fun j hj => by rw [hα']; simp only []; rw [if_neg (by omega), if_neg (by omega), if_neg (by omega), if_neg (by omega), if_neg (by omega), if_neg (by omega)]
      have hb0 : α' 7 = b0 := by rw [hα']; rfl
      have hb1 : α' 1007 = b1 := by rw [hα']; rfl
      have hb2 : α' 2007 = b2 := by rw [hα']; rfl
      have hb3 : α' 3007 = b3 := by rw [hα']; rfl
      have hb4 : α' 4007 = b4 := by rw [hα']; rfl
      have hb5 : α' 5007 = b5 := by rw [hα']; rfl
      skip
      refine hK _ α' _ hα ?_ (step_call (st9) hL hcl hα [1999, 2999, 3999] [1999, 2999, 3999, 1007, 7, 2007, 3007, 4007, 5007] (by decide) (by decide) (by decide) (M := _) ?_ hG hQ)
      · show _ = (.agg #[.iface 40 (.pointer (some ⟨α' 5007, 0, none⟩)), .int .i32 loc] : Value)
        simp only [hb5]
      · show [rasgXyrs1R pb PC mp cr d loc kx gx B1 (Rega.ran L9 7) α' 1999, rasgXyrs1R pb PC mp cr d loc kx gx B1 (Rega.ran L9 7) α' 2999, rasgXyrs1R pb PC mp cr d loc kx gx B1 (Rega.ran L9 7) α' 3999, rasgXyrs1R pb PC mp cr d loc kx gx B1 (Rega.ran L9 7) α' 1007, rasgXyrs1R pb PC mp cr d loc kx gx B1 (Rega.ran L9 7) α' 7, rasgXyrs1R pb PC mp cr d loc kx gx B1 (Rega.ran L9 7) α' 2007, rasgXyrs1R pb PC mp cr d loc kx gx B1 (Rega.ran L9 7) α' 3007, rasgXyrs1R pb PC mp cr d loc kx gx B1 (Rega.ran L9 7) α' 4007, rasgXyrs1R pb PC mp cr d loc kx gx B1 (Rega.ran L9 7) α' 5007] = _
        rw [f0, f1, f2, f3, f4, f5, f6, f7, f8]
        simp only [hb0, hb1, hb2, hb3, hb4, hb5]
    · intro L9 α a9 u9 K9 hL hcl hA hG hS h0 hK
      replace hL : L9 8 = false := hL
      have q3 : a9.tmps[3]? = some (.pointer (some ⟨B1, 0, none⟩)) := (h0 3 (by kernel_rfl)).trans rfl
      have s3 := Rega.eval_of q3
      have q89 : a9.tmps[89]? = some (.agg #[.iface 40 (.pointer (some ⟨α 5007, 0, none⟩)), .int .i32 loc]) := hS 7 89 (by decide) rfl (by show 89 < 250; decide)
      have s89 := Rega.eval_of q89
      have e0 : rasgXyrs1R pb PC mp cr d loc kx gx B1 L9 α 999 = row (B1) 30 #[.iface 209 (.pointer (some ⟨d, 0, none⟩)), .int .i32 loc] := by
        show rasgXyrs1T999 pb PC mp cr d loc kx gx B1 L9 α = _
        unfold rasgXyrs1T999
        rw [if_neg (by rw [hL]; decide)]
      have hr := hG.rowAt 999 (act_base 999 rfl) e0
      have c0 : u9.cell? ⟨B1, 0, none⟩ = some (.iface 209 (.pointer (some ⟨d, 0, none⟩))) := hr.cell rfl
      have y0 : u9.frozen? ⟨B1, 0, none⟩ = false := hr.free 0
      have c1 : u9.cell? ⟨B1, 1, none⟩ = some (.int .i32 loc) := hr.cell rfl
      have y1 : u9.frozen? ⟨B1, 1, none⟩ = false := hr.free 1
      clear hr
      have E0 := Lib.hid e0
      clear e0
      go_simp
      have e1 : rasgXyrs1R pb PC mp cr d loc kx gx B1 (Rega.ran L9 8) α 999 = row (B1) 30 #[.iface 40 (.pointer (some ⟨α 5007, 0, none⟩)), .int .i32 loc] := by
        show rasgXyrs1T999 pb PC mp cr d loc kx gx B1 (Rega.ran L9 8) α = _
        unfold rasgXyrs1T999
        rw [if_pos (show Rega.ran L9 8 8 = true from rfl)]
      exact hK _ α _ (fun _ _ => rfl) rfl (step_sets (st9) hL hcl rfl 999 rfl (act_base 999 rfl) E0.out 0 [.iface 40 (.pointer (some ⟨α 5007, 0, none⟩)), .int .i32 loc] (e1.trans rfl) hG)
  · clear st9
    intro α u hG
    have e0 : rasgXyrs1R pb PC mp cr d loc kx gx B1 (fun k => decide (k < 9)) α 999 = row (B1) 30 #[.iface 40 (.pointer (some ⟨α 5007, 0, none⟩)), .int .i32 loc] := by
      show rasgXyrs1T999 pb PC mp cr d loc kx gx B1 (fun k => decide (k < 9)) α = _
      unfold rasgXyrs1T999
      rw [if_pos (by decide)]
    have e1 : rasgXyrs1R pb PC mp cr d loc kx gx B1 (fun k => decide (k < 9)) α 1999 = row (pb) 206 PC := rfl
    have e2 : rasgXyrs1R pb PC mp cr d loc kx gx B1 (fun k => decide (k < 9)) α 2999 = (mp, .map map3 3) := rfl
    have e3 : rasgXyrs1R pb PC mp cr d loc kx gx B1 (fun k => decide (k < 9)) α 3999 = row (cr) 68 #[.int .u32 0, .int .u32 1] := rfl
    have e4 : rasgXyrs1R pb PC mp cr d loc kx gx B1 (fun k => decide (k < 9)) α 4999 = row (d) 211 #[.iface 244 (.pointer (some ⟨kx, 0, none⟩)), .int .i32 loc, .iface 50 (.pointer (some ⟨gx, 0, none⟩)), .int .i32 loc, .int .i32 0, .int .u8 0, .bool false, .bool false, .bool false] := rfl
    have e5 : rasgXyrs1R pb PC mp cr d loc kx gx B1 (fun k => decide (k < 9)) α 7 = row (α 7) 56 #[.iface 220 (.pointer (some ⟨α 1007, 0, none⟩)), .int .i32 loc, .slice (some ⟨α 2007, 0, none⟩) 3 3, .int .i32 0, .int .u8 0, .int .u8 0, .bool false, .bool false] := rfl
    have e6 : rasgXyrs1R pb PC mp cr d loc kx gx B1 (fun k => decide (k < 9)) α 1007 = row (α 1007) 223 #[.int .u32 0, .int .u32 2, .bool false, .bool false, .bool false] := rfl
    have e7 : rasgXyrs1R pb PC mp cr d loc kx gx B1 (fun k => decide (k < 9)) α 2007 = row (α 2007) 30 #[.iface 220 (.pointer (some ⟨α 3007, 0, none⟩)), .int .i32 loc, .iface 220 (.pointer (some ⟨α 4007, 0, none⟩)), .int .i32 loc, .iface 50 (.pointer (some ⟨gx, 0, none⟩)), .int .i32 loc] := rfl
    have e8 : rasgXyrs1R pb PC mp cr d loc kx gx B1 (fun k => decide (k < 9)) α 3007 = row (α 3007) 223 #[.int .u32 0, .int .u32 1, .bool false, .bool false, .bool false] := rfl
    have e9 : rasgXyrs1R pb PC mp cr d loc kx gx B1 (fun k => decide (k < 9)) α 4007 = row (α 4007) 223 #[.int .u32 0, .int .u32 1, .bool false, .bool false, .bool false] := rfl
    have e10 : rasgXyrs1R pb PC mp cr d loc kx gx B1 (fun k => decide (k < 9)) α 5007 = row (α 5007) 44 #[.iface 52 (.pointer (some ⟨α 7, 0, none⟩)), .int .i32 loc, .string ⟨#[95]⟩, .int .i32 loc, .int .u8 0, .bool false, .bool false, .bool false] := rfl
    have hO : Own w0 u [row (B1) 30 #[.iface 40 (.pointer (some ⟨α 5007, 0, none⟩)), .int .i32 loc], row (pb) 206 PC, (mp, .map map3 3), row (cr) 68 #[.int .u32 0, .int .u32 1], row (d) 211 #[.iface 244 (.pointer (some ⟨kx, 0, none⟩)), .int .i32 loc, .iface 50 (.pointer (some ⟨gx, 0, none⟩)), .int .i32 loc, .int .i32 0, .int .u8 0, .bool false, .bool false, .bool false], row (α 7) 56 #[.iface 220 (.pointer (some ⟨α 1007, 0, none⟩)), .int .i32 loc, .slice (some ⟨α 2007, 0, none⟩) 3 3, .int .i32 0, .int .u8 0, .int .u8 0, .bool false, .bool false], row (α 1007) 223 #[.int .u32 0, .int .u32 2, .bool false, .bool false, .bool false], row (α 2007) 30 #[.iface 220 (.pointer (some ⟨α 3007, 0, none⟩)), .int .i32 loc, .iface 220 (.pointer (some ⟨α 4007, 0, none⟩)), .int .i32 loc, .iface 50 (.pointer (some ⟨gx, 0, none⟩)), .int .i32 loc], row (α 3007) 223 #[.int .u32 0, .int .u32 1, .bool false, .bool false, .bool false], row (α 4007) 223 #[.int .u32 0, .int .u32 1, .bool false, .bool false, .bool false], row (α 5007) 44 #[.iface 52 (.pointer (some ⟨α 7, 0, none⟩)), .int .i32 loc, .string ⟨#[95]⟩, .int .i32 loc, .int .u8 0, .bool false, .bool false, .bool false]] X9_3 := (hG.list [999, 1999, 2999, 3999, 4999, 7, 1007, 2007, 3007, 4007, 5007] (by decide) (act_all (by decide))).conv (by
      show [rasgXyrs1R pb PC mp cr d loc kx gx B1 (fun k => decide (k < 9)) α 999, rasgXyrs1R pb PC mp cr d loc kx gx B1 (fun k => decide (k < 9)) α 1999, rasgXyrs1R pb PC mp cr d loc kx gx B1 (fun k => decide (k < 9)) α 2999, rasgXyrs1R pb PC mp cr d loc kx gx B1 (fun k => decide (k < 9)) α 3999, rasgXyrs1R pb PC mp cr d loc kx gx B1 (fun k => decide (k < 9)) α 4999, rasgXyrs1R pb PC mp cr d loc kx gx B1 (fun k => decide (k < 9)) α 7, rasgXyrs1R pb PC mp cr d loc kx gx B1 (fun k => decide (k < 9)) α 1007, rasgXyrs1R pb PC mp cr d loc kx gx B1 (fun k => decide (k < 9)) α 2007, rasgXyrs1R pb PC mp cr d loc kx gx B1 (fun k => decide (k < 9)) α 3007, rasgXyrs1R pb PC mp cr d loc kx gx B1 (fun k => decide (k < 9)) α 4007, rasgXyrs1R pb PC mp cr d loc kx gx B1 (fun k => decide (k < 9)) α 5007] = _
      rw [e0, e1, e2, e3, e4, e5, e6, e7, e8, e9, e10])
    clear hG e0 e1 e2 e3 e4 e5 e6 e7 e8 e9 e10
    generalize hfr : Rega.frameAt _ _ _ _ _ = fr
    have hdf : fr = ⟨#[.pointer (some ⟨pb, 0, none⟩), .agg #[.iface 209 (.pointer (some ⟨d, 0, none⟩)), .int .i32 loc], undef, .pointer (some ⟨B1, 0, none⟩), .pointer (some ⟨B1_1, 0, none⟩), .bool false, .bool false, undef, undef, undef, undef, undef, .pointer (some ⟨d, 0, none⟩), undef, undef, undef, undef, undef, undef, undef, undef, undef, undef, undef, undef, undef, undef, .pointer (some ⟨B1, 0, none⟩), .iface 209 (.pointer (some ⟨d, 0, none⟩)), .tuple #[.pointer none, .bool false], .bool false, .pointer none, undef, undef, undef, undef, undef, undef, undef, undef, undef, undef, undef, undef, undef, undef, .tuple #[.pointer none, .bool false], .bool false, .pointer none, undef, undef, undef, undef, undef, undef, undef, undef, undef, undef, undef, undef, undef, undef, undef, undef, undef, undef, undef, undef, undef, undef, undef, undef, .tuple #[.pointer (some ⟨d, 0, none⟩), .bool true], .bool true, .pointer (some ⟨d, 0, none⟩), .pointer (some ⟨pb, 0, none⟩), .pointer (some ⟨d, 0, none⟩), .pointer (some ⟨d, 0, none⟩), .pointer (some ⟨d, 0, none⟩), .agg #[.iface 244 (.pointer (some ⟨kx, 0, none⟩)), .int .i32 loc], .bool true, .pointer (some ⟨pb, 0, none⟩), .pointer (some ⟨B1, 1, none⟩), .agg #[.int .i32 loc], .pointer (some ⟨d, 0, none⟩), .pointer (some ⟨d, 0, none⟩), .pointer (some ⟨d, 2, none⟩), .agg #[.iface 50 (.pointer (some ⟨gx, 0, none⟩)), .int .i32 loc], .agg #[.iface 40 (.pointer (some ⟨α 5007, 0, none⟩)), .int .i32 loc], undef, undef, undef, undef, undef, undef, undef, undef, undef, undef, undef, undef, undef, undef, undef, undef, undef, undef, undef, undef, undef, undef, undef, undef, undef, undef, undef, undef, undef, undef, undef, undef, undef, undef, undef, undef, undef, undef, undef, undef, undef, undef, undef, undef, undef, undef, undef, undef, undef, undef, undef, undef, undef, undef, undef, undef, undef, undef, undef, undef, undef, undef, undef, undef, undef, undef, undef, undef, undef, undef, undef, undef, undef, undef, undef, undef, undef, undef, undef, undef, undef, undef, undef, undef, undef, undef, undef, undef, undef, undef, undef, undef, undef, undef, undef, undef, undef, undef, undef, undef, undef, undef, undef, undef, undef, undef, undef, undef, undef, undef, undef, undef, undef, undef, undef, undef, undef, undef, undef, undef, undef, undef, undef, undef, undef, undef, undef, undef, undef, undef, undef, undef, undef, undef, undef, undef, undef, undef, undef, undef, undef, undef, undef, undef, undef, undef, undef, undef, undef, undef, undef, undef, undef, undef, undef, undef, undef, undef, undef, undef], []⟩ := by rw [← hfr]; kernel_rfl
    clear hfr
    subst hdf
    generalize α 7 = nd4 at hO ⊢
    generalize α 1007 = nd5 at hO ⊢
    generalize α 2007 = nd6 at hO ⊢
    generalize α 3007 = nd7 at hO ⊢
    generalize α 4007 = nd8 at hO ⊢
    generalize α 5007 = nd9 at hO ⊢
    clear α
    subst hX9_3
    have hN : Own w0 u [row (B1) 30 #[.iface 40 (.pointer (some ⟨nd9, 0, none⟩)), .int .i32 loc], row (pb) 206 PC, (mp, .map map3 3), row (cr) 68 #[.int .u32 0, .int .u32 1], row (d) 211 #[.iface 244 (.pointer (some ⟨kx, 0, none⟩)), .int .i32 loc, .iface 50 (.pointer (some ⟨gx, 0, none⟩)), .int .i32 loc, .int .i32 0, .int .u8 0, .bool false, .bool false, .bool false], row (nd4) 56 #[.iface 220 (.pointer (some ⟨nd5, 0, none⟩)), .int .i32 loc, .slice (some ⟨nd6, 0, none⟩) 3 3, .int .i32 0, .int .u8 0, .int .u8 0, .bool false, .bool false], row (nd5) 223 #[.int .u32 0, .int .u32 2, .bool false, .bool false, .bool false], row (nd6) 30 #[.iface 220 (.pointer (some ⟨nd7, 0, none⟩)), .int .i32 loc, .iface 220 (.pointer (some ⟨nd8, 0, none⟩)), .int .i32 loc, .iface 50 (.pointer (some ⟨gx, 0, none⟩)), .int .i32 loc], row (nd7) 223 #[.int .u32 0, .int .u32 1, .bool false, .bool false, .bool false], row (nd8) 223 #[.int .u32 0, .int .u32 1, .bool false, .bool false, .bool false], row (nd9) 44 #[.iface 52 (.pointer (some ⟨nd4, 0, none⟩)), .int .i32 loc, .string ⟨#[95]⟩, .int .i32 loc, .int .u8 0, .bool false, .bool false, .bool false], row (B1_2) 30 #[.iface 244 (.pointer (some ⟨kx, 0, none⟩)), .int .i32 loc], row (B1_1) 30 #[.nilIface, .int .i32 0]] X := hO.back HL.out HX.out [0, 1] (by decide) (by decide)
    clear hO HL HX
    have hO := hN
    clear hN
    have ne9_0_7 : ¬ B1 = nd6 := hO.ne 0 7 rfl rfl (by decide)
    have ne9_0_11 : ¬ B1 = B1_2 := hO.ne 0 11 rfl rfl (by decide)
    have ne9_0_12 : ¬ B1 = B1_1 := hO.ne 0 12 rfl rfl (by decide)
    have ne9_6_8 : ¬ nd5 = nd7 := hO.ne 6 8 rfl rfl (by decide)
    have ne9_6_9 : ¬ nd5 = nd8 := hO.ne 6 9 rfl rfl (by decide)
    have ne9_7_0 : ¬ nd6 = B1 := hO.ne 7 0 rfl rfl (by decide)
    have ne9_7_11 : ¬ nd6 = B1_2 := hO.ne 7 11 rfl rfl (by decide)
    have ne9_7_12 : ¬ nd6 = B1_1 := hO.ne 7 12 rfl rfl (by decide)
    have ne9_8_6 : ¬ nd7 = nd5 := hO.ne 8 6 rfl rfl (by decide)
    have ne9_8_9 : ¬ nd7 = nd8 := hO.ne 8 9 rfl rfl (by decide)
    have ne9_9_6 : ¬ nd8 = nd5 := hO.ne 9 6 rfl rfl (by decide)
    have ne9_9_8 : ¬ nd8 = nd7 := hO.ne 9 8 rfl rfl (by decide)
    have ne9_11_0 : ¬ B1_2 = B1 := hO.ne 11 0 rfl rfl (by decide)
    have ne9_11_7 : ¬ B1_2 = nd6 := hO.ne 11 7 rfl rfl (by decide)
    have ne9_11_12 : ¬ B1_2 = B1_1 := hO.ne 11 12 rfl rfl (by decide)
    have ne9_12_0 : ¬ B1_1 = B1 := hO.ne 12 0 rfl rfl (by decide)
    have ne9_12_7 : ¬ B1_1 = nd6 := hO.ne 12 7 rfl rfl (by decide)
    have ne9_12_11 : ¬ B1_1 = B1_2 := hO.ne 12 11 rfl rfl (by decide)
    obtain ⟨c9_0_0, c9_0_1, lt9_0, y9_0, pl9_0⟩ := hO.k2 0 rfl
    have c9_1_32 : u.cell? ⟨pb, 32, none⟩ = some (.bool false) := hO.cell 1 rfl 32 (hD.ts)
    have c9_1_95 : u.cell? ⟨pb, 95, none⟩ = some (.bool true) := hO.cell 1 rfl 95 (hD.rep)
    have c9_1_96 : u.cell? ⟨pb, 96, none⟩ = some (.bool true) := hO.cell 1 rfl 96 (hD.stat)
    have c9_1_97 : u.cell? ⟨pb, 97, none⟩ = some (.pointer (some ⟨cr, 0, none⟩)) := hO.cell 1 rfl 97 (hD.cls)
    have c9_1_117 : u.cell? ⟨pb, 117, none⟩ = some (.map (some mp)) := hO.cell 1 rfl 117 (hD.imp)
    have c9_1_338 : u.cell? ⟨pb, 338, none⟩ = some (.bool true) := hO.cell 1 rfl 338 (hl)
    have c9_1_350 : u.cell? ⟨pb, 350, none⟩ = some (.bool true) := hO.cell 1 rfl 350 (hD.dead)
    have lt9_1 : pb < u.heap.size := hO.lt 1 rfl
    have y9_1 : ∀ o, u.frozen? ⟨pb, o, none⟩ = false := hO.free 1 rfl
    obtain ⟨c9_3_0, c9_3_1, lt9_3, y9_3, -⟩ := hO.k2 3 rfl
    obtain ⟨c9_4_0, c9_4_1, c9_4_2, c9_4_3, c9_4_4, c9_4_5, c9_4_6, c9_4_7, c9_4_8, lt9_4, y9_4, -⟩ := hO.k9 4 rfl
    obtain ⟨c9_5_0, c9_5_1, c9_5_2, c9_5_3, c9_5_4, c9_5_5, c9_5_6, c9_5_7, lt9_5, y9_5, -⟩ := hO.k8 5 rfl
    obtain ⟨c9_6_0, c9_6_1, c9_6_2, c9_6_3, c9_6_4, lt9_6, y9_6, pl9_6⟩ := hO.k5 6 rfl
    obtain ⟨c9_7_0, c9_7_1, c9_7_2, c9_7_3, c9_7_4, c9_7_5, lt9_7, y9_7, pl9_7⟩ := hO.k6 7 rfl
    obtain ⟨c9_8_0, c9_8_1, c9_8_2, c9_8_3, c9_8_4, lt9_8, y9_8, pl9_8⟩ := hO.k5 8 rfl
    obtain ⟨c9_9_0, c9_9_1, c9_9_2, c9_9_3, c9_9_4, lt9_9, y9_9, pl9_9⟩ := hO.k5 9 rfl
    obtain ⟨c9_10_0, c9_10_1, c9_10_2, c9_10_3, c9_10_4, c9_10_5, c9_10_6, c9_10_7, lt9_10, y9_10, -⟩ := hO.k8 10 rfl
    obtain ⟨c9_11_0, c9_11_1, lt9_11, y9_11, pl9_11⟩ := hO.k2 11 rfl
    obtain ⟨c9_12_0, c9_12_1, lt9_12, y9_12, pl9_12⟩ := hO.k2 12 rfl
    have HO := Lib.hid hO
    clear hO
    go_wp2_with (first | (go_at_call 34; go_in) | (go_at_call 30; go_in) | (go_at_call 31; go_in) | (go_at_call 32; go_in) | (go_at_call 12; go_in) | (go_at_call 10; go_in) | (go_at_call 9; go_in) | (go_at_call 7; go_in))
    have hO := HO.out
    clear HO ne9_0_7 ne9_0_11 ne9_0_12 ne9_6_8 ne9_6_9 ne9_7_0 ne9_7_11 ne9_7_12 ne9_8_6 ne9_8_9 ne9_9_6 ne9_9_8 ne9_11_0 ne9_11_7 ne9_11_12 ne9_12_0 ne9_12_7 ne9_12_11 c9_0_0 c9_0_1 lt9_0 y9_0 pl9_0 c9_1_32 c9_1_95 c9_1_96 c9_1_97 c9_1_117 c9_1_338 c9_1_350 lt9_1 y9_1 c9_3_0 c9_3_1 lt9_3 y9_3 c9_4_0 c9_4_1 c9_4_2 c9_4_3 c9_4_4 c9_4_5 c9_4_6 c9_4_7 c9_4_8 lt9_4 y9_4 c9_5_0 c9_5_1 c9_5_2 c9_5_3 c9_5_4 c9_5_5 c9_5_6 c9_5_7 lt9_5 y9_5 c9_6_0 c9_6_1 c9_6_2 c9_6_3 c9_6_4 lt9_6 y9_6 pl9_6 c9_7_0 c9_7_1 c9_7_2 c9_7_3 c9_7_4 c9_7_5 lt9_7 y9_7 pl9_7 c9_8_0 c9_8_1 c9_8_2 c9_8_3 c9_8_4 lt9_8 y9_8 pl9_8 c9_9_0 c9_9_1 c9_9_2 c9_9_3 c9_9_4 lt9_9 y9_9 pl9_9 c9_10_0 c9_10_1 c9_10_2 c9_10_3 c9_10_4 c9_10_5 c9_10_6 c9_10_7 lt9_10 y9_10 c9_11_0 c9_11_1 lt9_11 y9_11 pl9_11 c9_12_0 c9_12_1 lt9_12 y9_12 pl9_12
    generalize hW : World.setCell _ _ _ = W11
    have hN : Own w0 W11 [row (B1) 30 #[.iface 40 (.pointer (some ⟨nd9, 0, none⟩)), .int .i32 loc], row (pb) 206 PC, (mp, .map map3 3), row (cr) 68 #[.int .u32 0, .int .u32 1], row (d) 211 #[.iface 244 (.pointer (some ⟨kx, 0, none⟩)), .int .i32 loc, .iface 50 (.pointer (some ⟨gx, 0, none⟩)), .int .i32 loc, .int .i32 0, .int .u8 0, .bool false, .bool false, .bool false], row (nd4) 56 #[.iface 220 (.pointer (some ⟨nd5, 0, none⟩)), .int .i32 loc, .slice (some ⟨nd6, 0, none⟩) 3 3, .int .i32 0, .int .u8 0, .int .u8 0, .bool false, .bool false], row (nd5) 223 #[.int .u32 0, .int .u32 2, .bool false, .bool false, .bool false], row (nd6) 30 #[.iface 220 (.pointer (some ⟨nd7, 0, none⟩)), .int .i32 loc, .iface 220 (.pointer (some ⟨nd8, 0, none⟩)), .int .i32 loc, .iface 50 (.pointer (some ⟨gx, 0, none⟩)), .int .i32 loc], row (nd7) 223 #[.int .u32 0, .int .u32 1, .bool false, .bool false, .bool false], row (nd8) 223 #[.int .u32 0, .int .u32 1, .bool false, .bool false, .bool false], row (nd9) 44 #[.iface 52 (.pointer (some ⟨nd4, 0, none⟩)), .int .i32 loc, .string ⟨#[95]⟩, .int .i32 loc, .int .u8 0, .bool false, .bool false, .bool false], row (B1_2) 30 #[.iface 244 (.pointer (some ⟨kx, 0, none⟩)), .int .i32 loc], row (B1_1) 30 #[.iface 40 (.pointer (some ⟨nd9, 0, none⟩)), .int .i32 loc]] X := by
      rw [← hW]
      exact ((hO).set 12 rfl 0 _).set 12 rfl 1 _
    clear hW hO
    have hO := hN
    clear hN
    have z9_12_0 : W11.cell? ⟨B1_1, 0, none⟩ = some (.iface 40 (.pointer (some ⟨nd9, 0, none⟩))) := hO.cell 12 rfl 0 rfl
    have z9_12_1 : W11.cell? ⟨B1_1, 1, none⟩ = some (.int .i32 loc) := hO.cell 12 rfl 1 rfl
    refine bodyPost_ret (v := .tuple #[.agg #[.iface 40 (.pointer (some ⟨nd9, 0, none⟩)), .int .i32 loc], .bool true]) ?_ rfl ⟨nd9, rfl, hO.sub [1, 2, 3] (by decide)⟩
    simp [results, Tryd.results35, go_sem, z9_12_0, z9_12_1]
end Go.Proofs.YtcbdjbjbikiaeaaDoor.Use
